import JvmDerived
import JvmDerived.Pilot.@@N@@Statement
import JvmDerived.Pilot.@@N@@Code
set_option linter.unusedVariables false
set_option linter.unusedSimpArgs false
namespace Jvm.Pilot.@@N@@
open Jvm Jvm.ClassFile Sem Op Lib Jvm.Free Jvm.Stand Jvm.LawKit Jvm.RoadKit Bundle Jvm.Pilot.@@N@@.Jvm.D
/-! own layer: a run that ends well, said backwards -/
section OwnGo
variable {p : Program} {l : Launch} {e : Env} {R : Room} {s : State} {m : MethodId} {args : Array Value} {below : List Frame} {meth : Method} {c : Code} {T T' : State} {locs : List Loc} {cells slots : Nat} {Z : State} {a0 : Array Value} {h : Heap} {Q : Option Value → Heap → List Loc → Prop} {C S maxL0 : Nat} {g g' : JFrame}
def Go (p : Program) (e : Env) (below : List Frame) (s : State) (Q : Option Value → Heap → List Loc → Prop) (C S : Nat) (T : State) (g : JFrame) : Prop :=
  ∃ s₂ o, Steps p.tables e below (T.setTop g) s₂ ∧ s₂.status = .running ∧ Ended s₂ below o ∧ ∃ v L, o = .returned v ∧ Q v s₂.heap L ∧ FrameEnd s o s₂ L C S
def Ct (p : Program) (s : State) (m : MethodId) (meth : Method) (c : Code) (Z : State) (own nm : String) (bytes : ByteArray) (maxL : Nat) (ret : Option FieldType) : Prop :=
  p.tables.exec = Jvm.exec ∧ Z.Warmed39 s.vm ∧ s.vm.findClass own = some m.cls ∧ c.code = bytes ∧ c.maxLocals = maxL ∧ meth.sig.returnType = ret ∧ meth.locks = false ∧ meth.name = nm
theorem go_st (k : ∀ t, Steps p.tables e below (T'.setTop g') t → Steps p.tables e below (T.setTop g) t) (q : Go p e below s Q C S T' g') : Go p e below s Q C S T g := by
  obtain ⟨s2, o, q1, q2⟩ := q
  exact ⟨s2, o, k _ q1, q2⟩
theorem castGo (q : g = g') (k : Go p e below s Q C S T g') : Go p e below s Q C S T g := by rw [q]; exact k
theorem go_tr (k : Steps p.tables e below (T.setTop g) (T'.setTop g')) (q : Go p e below s Q C S T' g') : Go p e below s Q C S T g := by
  obtain ⟨s2, o, q1, q2⟩ := q
  exact ⟨s2, o, k.trans q1, q2⟩
theorem go_end (X : Stand p l e R s m args below meth c T locs cells slots) (hlk : meth.locks = false) {v : Option Value} (hv : meth.sig.returnType = none → v = none)
    (hr : ∀ fs, (∀ (f : JFrame) (acts : List Action), f.method = m → f.locked = none → f.entered = [] → (doReturn e (T.setTop f) acts v).1 = T.setFrames fs) → Steps p.tables e below (T.setTop g) (T.setFrames fs))
    (hC : cells ≤ C) (hS : slots ≤ S) (hQ : Q v T.heap locs) : Go p e below s Q C S T g := by
  obtain ⟨fs, h1, hrun, hended, hW, hsame⟩ := X.leave (v := v) hv hlk
  exact ⟨_, _, hr fs h1, hrun, hended, _, _, rfl, hQ, ⟨_, rfl⟩, hW, hsame.mono hC hS⟩
theorem go_retI (X : Stand p l e R s m args below meth c T locs cells slots) (hx : p.tables.exec = Jvm.exec) (hlk : meth.locks = false) (hret : meth.sig.returnType = some .int) {pc : Nat} {Ls : Array Slot} {z : Int32} {rest : List Value} (hd : decode c.code pc = .ok (.ireturn, 1))
    (hC : cells ≤ C) (hS : slots ≤ S) (hQ : Q (some (.int z)) T.heap locs) : Go p e below s Q C S T (mkF m pc Ls (.int z :: rest)) :=
  go_end X hlk (fun h => by rw [hret] at h; cases h) (fun fs h1 => retOut X hx hret rfl (Or.inl ⟨rfl, Or.inl rfl, _, rfl⟩) hd h1) hC hS hQ
theorem go_retL (X : Stand p l e R s m args below meth c T locs cells slots) (hx : p.tables.exec = Jvm.exec) (hlk : meth.locks = false) (hret : meth.sig.returnType = some .long) {pc : Nat} {Ls : Array Slot} {z : Int64} {rest : List Value} (hd : decode c.code pc = .ok (.lreturn, 1))
    (hC : cells ≤ C) (hS : slots ≤ S) (hQ : Q (some (.long z)) T.heap locs) : Go p e below s Q C S T (mkF m pc Ls (.long z :: rest)) :=
  go_end X hlk (fun h => by rw [hret] at h; cases h) (fun fs h1 => retOut X hx hret rfl (Or.inr (Or.inl ⟨rfl, rfl, _, rfl⟩)) hd h1) hC hS hQ
theorem go_retD (X : Stand p l e R s m args below meth c T locs cells slots) (hx : p.tables.exec = Jvm.exec) (hlk : meth.locks = false) (hret : meth.sig.returnType = some .double) {pc : Nat} {Ls : Array Slot} {z : UInt64} {rest : List Value} (hd : decode c.code pc = .ok (.dreturn, 1))
    (hC : cells ≤ C) (hS : slots ≤ S) (hQ : Q (some (.double z)) T.heap locs) : Go p e below s Q C S T (mkF m pc Ls (.double z :: rest)) :=
  go_end X hlk (fun h => by rw [hret] at h; cases h) (fun fs h1 => retOut X hx hret rfl (Or.inr (Or.inr (Or.inl ⟨rfl, rfl, _, rfl⟩))) hd h1) hC hS hQ
theorem go_retA (X : Stand p l e R s m args below meth c T locs cells slots) (hx : p.tables.exec = Jvm.exec) (hlk : meth.locks = false) {t : FieldType} (hret : meth.sig.returnType = some t) (ht : t.isReference = true) {w : Value} (hw : w.isRef = true) {pc : Nat} {Ls : Array Slot} {rest : List Value} (hd : decode c.code pc = .ok (.areturn, 1))
    (hC : cells ≤ C) (hS : slots ≤ S) (hQ : Q (some w) T.heap locs) : Go p e below s Q C S T (mkF m pc Ls (w :: rest)) :=
  go_end X hlk (fun h => by rw [hret] at h; cases h) (fun fs h1 => retOut X hx hret (by cases t <;> simp_all [FieldType.isReference, narrow] <;> cases w <;> simp_all [Value.isRef, narrow]) (Or.inr (Or.inr (Or.inr (Or.inr ⟨rfl, ht, hw⟩)))) hd h1) hC hS hQ
theorem go_retB (X : Stand p l e R s m args below meth c T locs cells slots) (hx : p.tables.exec = Jvm.exec) (hlk : meth.locks = false) (hret : meth.sig.returnType = some .boolean) {pc : Nat} {Ls : Array Slot} {z w : Int32} {rest : List Value} (hd : decode c.code pc = .ok (.ireturn, 1)) (hw : z &&& 1 = w)
    (hC : cells ≤ C) (hS : slots ≤ S) (hQ : Q (some (.int w)) T.heap locs) : Go p e below s Q C S T (mkF m pc Ls (.int z :: rest)) := by
  subst hw
  exact go_end X hlk (fun h => by rw [hret] at h; cases h) (fun fs h1 => retN X hx (t := .boolean) hret (by simp) hd h1) hC hS hQ
theorem go_ret0 (X : Stand p l e R s m args below meth c T locs cells slots) (hx : p.tables.exec = Jvm.exec) (hlk : meth.locks = false) (hret : meth.sig.returnType = none) {pc : Nat} {Ls : Array Slot} (hd : decode c.code pc = .ok (.return_, 1))
    (hC : cells ≤ C) (hS : slots ≤ S) (hQ : Q none T.heap locs) : Go p e below s Q C S T (mkF m pc Ls []) :=
  go_end X hlk (fun _ => rfl) (fun fs h1 => X.returnOut hx hret hd h1) hC hS hQ
def Met (l : Launch) (y : MethodName) (bytes : ByteArray) (maxL : Nat) (ret : Option FieldType) (ws : List Cond) (rm : Room) (Z : State) (as' : Array Value) (h0 : Heap) (Q : Option Value → Heap → List Loc → Prop) (C S : Nat) : Prop :=
  MetFree l y (head1 (Jvm.Cond.code y bytes maxL ret :: ws) rm) (fun a U => a = as' ∧ Z.Warmed39 U.vm ∧ U.heap = h0) (fun _ _ _ _ _ => True) (fun _ U o U' => ∃ v L, o = .returned v ∧ Q v U'.heap L ∧ FrameEnd U o U' L C S)
def QV (w : Option Value) (h0 : Heap) (n0 : Nat) (v : Option Value) (h : Heap) (L : List Loc) : Prop := v = w ∧ Fr n0 L ∧ h = h0
def QF (w : Option Value) (n0 : Nat) (v : Option Value) (h : Heap) (L : List Loc) : Prop := v = w ∧ Fr n0 L
theorem own_body {y : MethodName} {bytes : ByteArray} {maxL : Nat} {ret : Option FieldType} {rm : Room} {as' : Array Value} {h0 : Heap} {ws : List Cond} (hn : plainFor y = true) {C S : Nat}
    (H : ∀ p e s m below meth c s₁, Ct p s m meth c Z y.cls y.name bytes maxL ret → Stand p l e rm s m as' below meth c s₁ [] 0 0 → s₁.heap = h0 → Go p e below s Q C S s₁ (entryFrame m as' maxL)) :
    Met l y bytes maxL ret ws rm Z as' h0 Q C S := by
  refine MetFree.of_bodySF hn hisR ?_
  intro p e s m args below meth c s₁ Bd hml0 hP hK
  obtain ⟨rfl, hZ, hh⟩ := hP
  have hown : s.vm.findClass y.cls = some m.cls := findClass_of_methodNamed Bd.named
  have hnm := (name_of_methodNamed Bd.named Bd.method).1
  have X0 : Stand p l e rm s m args below meth c s₁ [] 0 0 := Stand.of_body Bd
  have e0 : s₁.heap = h0 := by rw [← hh, Bd.state]; rfl
  exact H p e s m below meth c s₁ ⟨Bd.exec, hZ, hown, Bd.bytes, hml0, Bd.returns, Bd.notSynchronized, hnm⟩ X0 e0
theorem go_callS (X : Stand p l e R s m args below meth c T locs cells slots) (hx : p.tables.exec = Jvm.exec) (hZ : Z.Warmed39 s.vm) (hml : c.maxLocals = maxL0) {own : String} {index : Nat} {y : MethodName} {bytes : ByteArray} {maxL : Nat} {ret : Option FieldType} (hown : s.vm.findClass own = some m.cls)
    (w1 : (Cond.methodLink own index y).before a0 Z = true) (w2 : (Cond.static y).before a0 Z = true) (w3 : (Cond.initialized y.cls).before a0 Z = true) (w4 : (Cond.code y bytes maxL ret).before a0 Z = true) (eT : T.heap = h) {argsL rest : List Value} {rm : Room} {Q' : Option Value → Heap → List Loc → Prop} {W : Nat}
    (hM : Met l y bytes maxL ret [] rm Z argsL.toArray h Q' rm.cells rm.slots)
    (hd : decode c.code g.pc = .ok (.invokestatic index, 3)) (hs : g.stack = argsL.reverse ++ rest) (hg : g.method = m) (hsz : g.locals.size = maxL0) (hlen : ∀ sig, parseMethodDescriptor y.desc = some sig → argsL.length = sig.parameters.length) (hW : 2 * g.monitorRoom + (rest.map fun v => v.category).sum ≤ W)
    (hy : y.cls ≠ "java/lang/invoke/MethodHandle" ∧ y.cls ≠ "java/lang/invoke/VarHandle") (hf : rm.frames + 1 ≤ R.frames) (hl : W + (maxL + 11) + rm.locals ≤ R.locals) (hc : cells + rm.cells ≤ R.cells) (hsl : slots + rm.slots ≤ R.slots)
    (k : ∀ T' v L, Stand p l e R s m args below meth c T' (locs ++ L) (cells + rm.cells) (slots + rm.slots) → Q' v T'.heap L → Go p e below s Q C S T' { g with pc := g.pc + 3, stack := v.toList ++ rest }) : Go p e below s Q C S T g := by
  obtain ⟨v, _, ⟨T1, L1, k1, n1⟩, -, X1, ⟨Lc, hQ, l1, y1, z1⟩, st⟩ := Jvm.LawKit.callS X hx (y := y) hown (mvT hZ w1) (mvT hZ w2) (mvT hZ w3) (mvT hZ w4) hy (backOf (W := W) hM hZ w4 w3 hf hl) (g := g) hg (hsz.trans hml.symm) (argsL := argsL) (rest := rest) hlen hs hW hd (fun _ _ => ⟨rfl, eT, hc, hsl⟩)
  dsimp only [Pt.U, Pt.locs, Pt.cells, Pt.slots] at X1 l1 y1 z1 st hQ
  subst l1 y1 z1
  exact go_st st (k _ _ _ X1 hQ)
theorem go_callV (X : Stand p l e R s m args below meth c T locs cells slots) (hx : p.tables.exec = Jvm.exec) (hZ : Z.Warmed39 s.vm) (hml : c.maxLocals = maxL0) {own K : String} {index : Nat} {y z : MethodName} {bytes : ByteArray} {maxL : Nat} {ret : Option FieldType} (hown : s.vm.findClass own = some m.cls)
    (w1 : (Cond.methodLink own index y).before a0 Z = true) (w2 : (Cond.declares y).before a0 Z = true) (w2' : NotFace s y) (w3 : (Cond.selects K y z).before a0 Z = true) (w3' : (Cond.instanceMethod z).before a0 Z = true) (w4 : (Cond.code z bytes maxL ret).before a0 Z = true) (w5 : (Cond.initialized z.cls).before a0 Z = true) (eT : T.heap = h) {a : Addr} (E : Exa Z h a K) {argsL rest : List Value} {rm : Room} {Q' : Option Value → Heap → List Loc → Prop} {W : Nat}
    (hM : Met l z bytes maxL ret [] rm Z (.ref a :: argsL).toArray h Q' rm.cells rm.slots)
    (hd : decode c.code g.pc = .ok (.invokevirtual index, 3)) (hs : g.stack = argsL.reverse ++ .ref a :: rest) (hg : g.method = m) (hsz : g.locals.size = maxL0) (hlen : ∀ sig, parseMethodDescriptor y.desc = some sig → argsL.length = sig.parameters.length) (hW : 2 * g.monitorRoom + (rest.map fun v => v.category).sum ≤ W)
    (hy : y.cls ≠ "java/lang/invoke/MethodHandle" ∧ y.cls ≠ "java/lang/invoke/VarHandle") (hf : rm.frames + 1 ≤ R.frames) (hl : W + (maxL + 11) + rm.locals ≤ R.locals) (hc : cells + rm.cells ≤ R.cells) (hsl : slots + rm.slots ≤ R.slots)
    (k : ∀ T' v L, Stand p l e R s m args below meth c T' (locs ++ L) (cells + rm.cells) (slots + rm.slots) → Q' v T'.heap L → Go p e below s Q C S T' { g with pc := g.pc + 3, stack := v.toList ++ rest }) : Go p e below s Q C S T g := by
  obtain ⟨cB, kB, q1, q2, q3⟩ := isOf hZ eT E
  obtain ⟨v, _, ⟨T1, L1, k1, n1⟩, -, X1, ⟨Lc, hQ, l1, y1, z1⟩, st⟩ := X.virtualBack hx (y := y) (z := z) hown (mvT hZ w1) (mvT hZ w2) w2' (mvT hZ w3) (mvT hZ w3') hy (backOf (W := W) hM hZ w4 w5 hf hl) q1 q3 (g := g) hg (hsz.trans hml.symm) (Steps.refl _) (argsL := argsL) (rest := rest) hlen hs hW hd (fun _ _ => ⟨rfl, eT, hc, hsl⟩)
  dsimp only [Pt.U, Pt.locs, Pt.cells, Pt.slots] at X1 l1 y1 z1 st hQ
  subst l1 y1 z1
  exact go_tr st (k _ _ _ X1 hQ)
theorem go_callU (X : Stand p l e R s m args below meth c T locs cells slots) (hx : p.tables.exec = Jvm.exec) (hZ : Z.Warmed39 s.vm) (hml : c.maxLocals = maxL0) {own K owner : String} {index : Nat} {y z : MethodName} {bytes : ByteArray} {maxL : Nat} {ret : Option FieldType} (hown : s.vm.findClass own = some m.cls)
    (w1 : (Cond.methodLink own index y).before a0 Z = true) (w2 : (Cond.sameMethod y.cls owner y.name y.desc).before a0 Z = true) (w2' : (Cond.declares ⟨owner, y.name, y.desc⟩).before a0 Z = true) (ho : owner ≠ "java/lang/invoke/MethodHandle" ∧ owner ≠ "java/lang/invoke/VarHandle") (w3 : (Cond.selects K y z).before a0 Z = true) (w3' : (Cond.instanceMethod z).before a0 Z = true) (w4 : (Cond.code z bytes maxL ret).before a0 Z = true) (w5 : (Cond.initialized z.cls).before a0 Z = true) (eT : T.heap = h) {a : Addr} (E : Exa Z h a K) {argsL rest : List Value} {rm : Room} {Q' : Option Value → Heap → List Loc → Prop} {W : Nat}
    (hM : Met l z bytes maxL ret [] rm Z (.ref a :: argsL).toArray h Q' rm.cells rm.slots)
    (hd : decode c.code g.pc = .ok (.invokevirtual index, 3)) (hs : g.stack = argsL.reverse ++ .ref a :: rest) (hg : g.method = m) (hsz : g.locals.size = maxL0) (hlen : ∀ sig, parseMethodDescriptor y.desc = some sig → argsL.length = sig.parameters.length) (hW : 2 * g.monitorRoom + (rest.map fun v => v.category).sum ≤ W)
    (hf : rm.frames + 1 ≤ R.frames) (hl : W + (maxL + 11) + rm.locals ≤ R.locals) (hc : cells + rm.cells ≤ R.cells) (hsl : slots + rm.slots ≤ R.slots)
    (k : ∀ T' v L, Stand p l e R s m args below meth c T' (locs ++ L) (cells + rm.cells) (slots + rm.slots) → Q' v T'.heap L → Go p e below s Q C S T' { g with pc := g.pc + 3, stack := v.toList ++ rest }) : Go p e below s Q C S T g := by
  obtain ⟨cB, kB, q1, q2, q3⟩ := isOf hZ eT E
  obtain ⟨v, _, ⟨T1, L1, k1, n1⟩, -, X1, ⟨Lc, hQ, l1, y1, z1⟩, st⟩ := X.virtualBackUp hx (x := y) (y := z) hown (mvT hZ w1) (mvT hZ w2) (mvT hZ w2') ho (mvT hZ w3) (mvT hZ w3') (backOf (W := W) hM hZ w4 w5 hf hl) q1 q3 (g := g) hg (hsz.trans hml.symm) (Steps.refl _) (argsL := argsL) (rest := rest) hlen hs hW hd (fun _ _ => ⟨rfl, eT, hc, hsl⟩)
  dsimp only [Pt.U, Pt.locs, Pt.cells, Pt.slots] at X1 l1 y1 z1 st hQ
  subst l1 y1 z1
  exact go_tr st (k _ _ _ X1 hQ)
theorem go_callI (X : Stand p l e R s m args below meth c T locs cells slots) (hx : p.tables.exec = Jvm.exec) (hZ : Z.Warmed39 s.vm) (hml : c.maxLocals = maxL0) {own : String} {index : Nat} {y : MethodName} {bytes : ByteArray} {maxL : Nat} (hown : s.vm.findClass own = some m.cls) (hy1 : y.name = "<init>")
    (w1 : (Cond.methodLink own index y).before a0 Z = true) (w2 : (Cond.instanceMethod y).before a0 Z = true) (w4 : (Cond.code y bytes maxL none).before a0 Z = true) (w5 : (Cond.initialized y.cls).before a0 Z = true) (eT : T.heap = h) {a : Addr} {argsL rest : List Value} {rm : Room} {Q' : Option Value → Heap → List Loc → Prop} {W : Nat}
    (hM : Met l y bytes maxL none [] rm Z (.ref a :: argsL).toArray h Q' rm.cells rm.slots)
    (hd : decode c.code g.pc = .ok (.invokespecial index, 3)) (hs : g.stack = argsL.reverse ++ .ref a :: rest) (hg : g.method = m) (hsz : g.locals.size = maxL0) (hlen : ∀ sig, parseMethodDescriptor y.desc = some sig → argsL.length = sig.parameters.length) (hW : 2 * g.monitorRoom + (rest.map fun v => v.category).sum ≤ W)
    (hy : y.cls ≠ "java/lang/invoke/MethodHandle" ∧ y.cls ≠ "java/lang/invoke/VarHandle") (hf : rm.frames + 1 ≤ R.frames) (hl : W + (maxL + 11) + rm.locals ≤ R.locals) (hc : cells + rm.cells ≤ R.cells) (hsl : slots + rm.slots ≤ R.slots)
    (k : ∀ T' v L, Stand p l e R s m args below meth c T' (locs ++ L) (cells + rm.cells) (slots + rm.slots) → Q' v T'.heap L → Go p e below s Q C S T' { g with pc := g.pc + 3, stack := v.toList ++ rest }) : Go p e below s Q C S T g := by
  obtain ⟨v, _, ⟨T1, L1, k1, n1⟩, -, X1, ⟨Lc, hQ, l1, y1, z1⟩, st⟩ := X.specialBack hx (y := y) hy1 hown (mvT hZ w1) (mvT hZ w2) (mvT hZ w4) hy (backOf (W := W) hM hZ w4 w5 hf hl) (g := g) hg (hsz.trans hml.symm) (Steps.refl _) (a := a) (argsL := argsL) (rest := rest) hlen hs hW hd (fun _ _ => ⟨rfl, eT, hc, hsl⟩)
  dsimp only [Pt.U, Pt.locs, Pt.cells, Pt.slots] at X1 l1 y1 z1 st hQ
  subst l1 y1 z1
  exact go_tr st (k _ _ _ X1 hQ)
theorem go_getF (X : Stand p l e R s m args below meth c T locs cells slots) (hx : p.tables.exec = Jvm.exec) (hZ : Z.Warmed39 s.vm) {own R0 O n d host : String} {index : Nat} (hown : s.vm.findClass own = some m.cls) (w : (Cond.fieldLink own index R0 n d).before a0 Z = true ∨ (Cond.fieldLinkNest own index R0 n d host).before a0 Z = true) (via : Via Z R0 O n d)
    (eT : T.heap = h) {a : Addr} {v : Value} (F : Fld Z h a O n d v) {rest : List Value} (hd : decode c.code g.pc = .ok (.getfield index, 3)) (hg : g.method = m) (hs : g.stack = .ref a :: rest)
    (k : ∀ T', Stand p l e R s m args below meth c T' locs cells slots → T'.heap = h → Go p e below s Q C S T' { g with pc := g.pc + 3, stack := v :: rest }) : Go p e below s Q C S T g := by
  obtain ⟨T1, X1, e1, st⟩ := getF X hx hZ hown w via eT F hg hs hd
  exact go_st st (k _ X1 e1)
theorem go_getS (X : Stand p l e R s m args below meth c T locs cells slots) (hx : p.tables.exec = Jvm.exec) (hZ : Z.Warmed39 s.vm) {own R0 O n d host : String} {index : Nat} (hown : s.vm.findClass own = some m.cls) (w : (Cond.fieldLink own index R0 n d).before a0 Z = true ∨ (Cond.fieldLinkNest own index R0 n d host).before a0 Z = true) (via : Via Z R0 O n d)
    (eT : T.heap = h) {v : Value} (F : Sta Z h O n d v) (hd : decode c.code g.pc = .ok (.getstatic index, 3)) (hg : g.method = m)
    (k : ∀ T', Stand p l e R s m args below meth c T' locs cells slots → T'.heap = h → Go p e below s Q C S T' { g with pc := g.pc + 3, stack := v :: g.stack }) : Go p e below s Q C S T g := by
  obtain ⟨T1, X1, e1, st⟩ := getS2 X hx hZ hown w via eT F hg hd
  exact go_st st (k _ X1 e1)
theorem go_putF (X : Stand p l e R s m args below meth c T locs cells slots) (hx : p.tables.exec = Jvm.exec) (hZ : Z.Warmed39 s.vm) {own R0 O n d host K : String} {index kk : Nat} {ty : FieldType} (hown : s.vm.findClass own = some m.cls) (w : (Cond.fieldLink own index R0 n d).before a0 Z = true ∨ (Cond.fieldLinkNest own index R0 n d host).before a0 Z = true) (via : Via Z R0 O n d)
    (eT : T.heap = h) {a : Addr} {v old : Value} (F : Fld Z h a O n d old) (E : Exa Z h a K) (L : (Cond.lays K O n d).before a0 Z = true ∨ ((Cond.laysFinal K O n d).before a0 Z = true ∧ own = O ∧ meth.name = "<init>")) (wi : (Cond.instantiable K kk).before a0 Z = true)
    (hty : parseFieldDescriptor d = some ty) (hn : narrow ty v = v) (hf : fits ty v = true) {rest : List Value} (hd : decode c.code g.pc = .ok (.putfield index, 3)) (hg : g.method = m) (hs : g.stack = v :: .ref a :: rest)
    (k : ∀ T' h', Stand p l e R s m args below meth c T' (locs ++ [⟨a, Jvm.RoadKit.slotOf Z O n d⟩]) cells slots → T'.heap = h' → Wr h h' a (Jvm.RoadKit.slotOf Z O n d) v → Go p e below s Q C S T' { g with pc := g.pc + 3, stack := rest }) : Go p e below s Q C S T g := by
  obtain ⟨T1, h1, X1, e1, W1, st⟩ := putF X hx hZ hown w via eT F E L wi hty hn hf hg hs hd
  exact go_st st (k _ _ X1 e1 W1)
theorem go_newO (X : Stand p l e R s m args below meth c T locs cells slots) (hx : p.tables.exec = Jvm.exec) (hZ : Z.Warmed39 s.vm) {own K : String} {index n : Nat} (hown : s.vm.findClass own = some m.cls) (w : (Cond.classLink own index K).before a0 Z = true) (wi : (Cond.instantiable K n).before a0 Z = true) (wz : (Cond.initialized K).before a0 Z = true) (eT : T.heap = h)
    (hd : decode c.code g.pc = .ok (.new index, 3)) (hg : g.method = m) (hc : cells + 1 ≤ R.cells) (hl : slots + n ≤ R.slots)
    (k : ∀ T' h' a, a = h.size → Stand p l e R s m args below meth c T' locs (cells + 1) (slots + n) → T'.heap = h' → Ext h h' → Exa Z h' a K → (∀ {O nm d : String} {ty : FieldType}, Laid Z a0 K O nm d → parseFieldDescriptor d = some ty → Fld Z h' a O nm d (defaultValue ty)) → Go p e below s Q C S T' { g with pc := g.pc + 3, stack := .ref a :: g.stack }) : Go p e below s Q C S T g := by
  obtain ⟨T1, h1, X1, e1, E1, A1, D1, -, st⟩ := newO X hx hZ hown w wi wz eT hg hd hc hl
  exact go_st st (k _ _ _ rfl X1 e1 E1 A1 D1)
theorem go_initO (X : Stand p l e R s m args below meth c T locs cells slots) (hx : p.tables.exec = Jvm.exec) (hZ : Z.Warmed39 s.vm) (hml : c.maxLocals = maxL0) {own : String} {idx : Nat} (hown : s.vm.findClass own = some m.cls) (w1 : (Cond.methodLink own idx Lib.objectInit).before a0 Z = true) (w2 : (Cond.instanceMethod Lib.objectInit).before a0 Z = true)
    (w3 : (Cond.code Lib.objectInit ⟨#[0xb1]⟩ 1 none).before a0 Z = true) (eT : T.heap = h) {a : Addr} {rest : List Value} (hd : decode c.code g.pc = .ok (.invokespecial idx, 3)) (hg : g.method = m) (hsz : g.locals.size = maxL0) (hs : g.stack = .ref a :: rest)
    (hf : 1 ≤ R.frames) {W : Nat} (hW : 2 * g.monitorRoom + (rest.map fun v => v.category).sum ≤ W) (hl : W + 12 ≤ R.locals)
    (k : ∀ T', Stand p l e R s m args below meth c T' locs cells slots → T'.heap = h → Go p e below s Q C S T' { g with pc := g.pc + 3, stack := rest }) : Go p e below s Q C S T g := by
  obtain ⟨T1, X1, e1, st⟩ := initO X hx hZ hown w1 w2 w3 eT hg (hsz.trans hml.symm) hs hd hf hW hl
  exact go_st st (k _ X1 e1)
theorem own_lrem {tb : Tables} [Ours tb] {target : State} (hh : At T m c below) (hx : tb.exec = Jvm.exec) (hg : g.method = m) {x y : Int64} {rest : List Value} (hd : decode c.code g.pc = .ok (.lrem, 1)) (hs : g.stack = .long y :: .long x :: rest) (hy : y ≠ 0)
    (hr : Steps tb e below (T.setTop { g with pc := g.pc + 1, stack := .long (x % y) :: rest }) target) : Steps tb e below (T.setTop g) target :=
  XT.lrem hh hx hg hd hs hy (by rw [lrem_mod]; exact hr)
/-! arrays, their places by a function -/
def GA (Z : State) (h : Heap) (a : Addr) (ty : FieldType) (n : Nat) (f : Nat → Value) : Prop := ∃ cl : Cell, Arr Z h a cl ty ∧ cl.slots.size = n ∧ n < 2 ^ 31 ∧ ∀ i, i < n → cl.slots[i]? = some (f i)
theorem GA.lt {a : Addr} {ty : FieldType} {n : Nat} {f : Nat → Value} (A : GA Z h a ty n f) : a < h.size := by
  obtain ⟨cl, A1, -⟩ := A
  exact A1.lt
theorem GA.ext {a : Addr} {ty : FieldType} {n : Nat} {f : Nat → Value} {h' : Heap} (A : GA Z h a ty n f) (E : Ext h h') : GA Z h' a ty n f := by
  obtain ⟨cl, A1, r⟩ := A
  exact ⟨cl, A1.ext E, r⟩
theorem GA.other {a b : Addr} {ty : FieldType} {n sl : Nat} {v : Value} {f : Nat → Value} {h' : Heap} (A : GA Z h b ty n f) (W : Wr h h' a sl v) (q : b ≠ a) : GA Z h' b ty n f := by
  obtain ⟨cl, A1, r⟩ := A
  exact ⟨cl, A1.other W q, r⟩
theorem GA.keep {a : Addr} {ty : FieldType} {n : Nat} {f : Nat → Value} {h' : Heap} {ws : List Addr} (A : GA Z h a ty n f) (K : Keep h h' ws) (q : a ∉ ws) : GA Z h' a ty n f := by
  obtain ⟨cl, A1, r⟩ := A
  exact ⟨cl, ⟨K.2.1 _ _ A1.1 q, A1.2⟩, r⟩
theorem GA.congr {a : Addr} {ty : FieldType} {n : Nat} {f f' : Nat → Value} (A : GA Z h a ty n f) (q : ∀ i, i < n → f i = f' i) : GA Z h a ty n f' := by
  obtain ⟨cl, A1, A2, A3, A4⟩ := A
  exact ⟨cl, A1, A2, A3, fun i hi => (A4 i hi).trans (by rw [q i hi])⟩
theorem GA.set {a : Addr} {ty : FieldType} {n j : Nat} {v : Value} {f : Nat → Value} {h' : Heap} (A : GA Z h a ty n f) (W : Wr h h' a j v) : GA Z h' a ty n (fun i => if i = j then v else f i) := by
  obtain ⟨cl, A1, A2, A3, A4⟩ := A
  obtain ⟨c2, w1, w2, w3, w4⟩ := W
  obtain rfl : cl = c2 := Option.some.inj (A1.1.symm.trans w1)
  refine ⟨cl.setSlot j v, A1.same ⟨cl, w1, w2, w3, w4⟩, (sz_set cl j v).trans A2, A3, fun i hi => ?_⟩
  show (cl.slots.setIfInBounds j v)[i]? = _
  rw [Array.getElem?_setIfInBounds]
  by_cases q : i = j
  · subst q
    rw [if_pos rfl, if_pos w3]
    simp only [if_true]
  · rw [if_neg (fun h => q h.symm)]
    simp only [if_neg q]
    exact A4 i hi
theorem GA.len {a : Addr} {ty : FieldType} {n : Nat} {f : Nat → Value} (A : GA Z h a ty n f) : n < 2 ^ 31 := by
  obtain ⟨cl, -, -, A3, -⟩ := A
  exact A3
def OC (Z : State) (h : Heap) (a : Addr) (ty : FieldType) (K : String) : Prop := ∃ cl : Cell, Arr Z h a cl ty ∧ Ovr Z cl.cls K
theorem OC.ext {a : Addr} {ty : FieldType} {K : String} {h' : Heap} (A : OC Z h a ty K) (E : Ext h h') : OC Z h' a ty K := by
  obtain ⟨cl, A1, A2⟩ := A
  exact ⟨cl, A1.ext E, A2⟩
theorem OC.wr {a b : Addr} {ty : FieldType} {K : String} {sl : Nat} {v : Value} {h' : Heap} (A : OC Z h b ty K) (W : Wr h h' a sl v) : OC Z h' b ty K := by
  obtain ⟨cl, A1, A2⟩ := A
  by_cases q : b = a
  · subst q
    exact ⟨_, A1.same W, A2⟩
  · exact ⟨cl, A1.other W q, A2⟩
theorem OC.keep {b : Addr} {ty : FieldType} {K : String} {h' : Heap} {ws : List Addr} (A : OC Z h b ty K) (Kp : Keep h h' ws) : OC Z h' b ty K := by
  obtain ⟨cl, ⟨A1, A3, A4⟩, A2⟩ := A
  obtain ⟨c', q1, q2, q3, q4⟩ := Kp.2.2 _ _ A1
  refine ⟨c', ⟨q1, ?_, by rw [q3]; exact A4⟩, by rw [q2]; exact A2⟩
  unfold State.isArrayOf at A3 ⊢
  rw [q2, q3]
  exact A3
theorem OC.sto {a y : Addr} {ty : FieldType} {K : String} (A : OC Z h a ty K) (I : Ins Z h y K true) : Sto Z h a (.ref y) := by
  obtain ⟨cl, A1, A2⟩ := A
  exact Sto.of A1 A2 I
theorem own_in {j : Int32} {n : Nat} (q : 0 ≤ j.toInt ∧ j.toInt < n) : ¬ (j < 0 ∨ n ≤ j.toNatClampNeg) := by
  have h1 : (j.toNatClampNeg : Int) = j.toInt := by have := q.1; simp only [Int32.toNatClampNeg]; omega
  rw [Int32.lt_iff_toInt_lt]
  have : (0 : Int32).toInt = 0 := rfl
  omega
theorem go_alen (X : Stand p l e R s m args below meth c T locs cells slots) (hx : p.tables.exec = Jvm.exec) (hZ : Z.Warmed39 s.vm) (eT : T.heap = h) {a : Addr} {ty : FieldType} {n : Nat} {f : Nat → Value} (A : GA Z h a ty n f) {rest : List Value}
    (hd : decode c.code g.pc = .ok (.arraylength, 1)) (hg : g.method = m) (hs : g.stack = .ref a :: rest) (w : Int32) (hw : Nat.toInt32 n = w) (k : Go p e below s Q C S T { g with pc := g.pc + 1, stack := .int w :: rest }) : Go p e below s Q C S T g := by
  obtain ⟨cl, A1, rfl, -, -⟩ := A
  subst hw
  exact go_st (fun t => X.arraylength hx (by rw [eT]; exact A1.1) (State.isArrayOf_alike hZ.alike A1.2.1) hg hs hd t) k
theorem go_iald (X : Stand p l e R s m args below meth c T locs cells slots) (hx : p.tables.exec = Jvm.exec) (hZ : Z.Warmed39 s.vm) (eT : T.heap = h) {a : Addr} {n : Nat} {f : Nat → Value} (A : GA Z h a .int n f) {j : Int32} {rest : List Value}
    (hd : decode c.code g.pc = .ok (.iaload, 1)) (hg : g.method = m) (hs : g.stack = .int j :: .ref a :: rest) (q : 0 ≤ j.toInt ∧ j.toInt < n) (w : Value) (hw : f j.toNatClampNeg = w) (k : Go p e below s Q C S T { g with pc := g.pc + 1, stack := w :: rest }) : Go p e below s Q C S T g := by
  obtain ⟨cl, A1, rfl, -, A4⟩ := A
  have q2 := own_in q
  refine go_st (fun t => X.iaload hx (j := j) (v := w) (by rw [eT]; exact A1.1) (State.isArrayOf_alike hZ.alike A1.2.1) A1.2.2 q2 ?_ hg hs hd t) k
  rw [A4 _ (by omega), hw]
theorem go_lald (X : Stand p l e R s m args below meth c T locs cells slots) (hx : p.tables.exec = Jvm.exec) (hZ : Z.Warmed39 s.vm) (eT : T.heap = h) {a : Addr} {n : Nat} {f : Nat → Value} (A : GA Z h a .long n f) {j : Int32} {rest : List Value}
    (hd : decode c.code g.pc = .ok (.laload, 1)) (hg : g.method = m) (hs : g.stack = .int j :: .ref a :: rest) (q : 0 ≤ j.toInt ∧ j.toInt < n) (w : Value) (hw : f j.toNatClampNeg = w) (k : Go p e below s Q C S T { g with pc := g.pc + 1, stack := w :: rest }) : Go p e below s Q C S T g := by
  obtain ⟨cl, A1, rfl, -, A4⟩ := A
  have q2 := own_in q
  refine go_st (fun t => X.laload hx (j := j) (v := w) (by rw [eT]; exact A1.1) (State.isArrayOf_alike hZ.alike A1.2.1) A1.2.2 q2 ?_ hg hs hd t) k
  rw [A4 _ (by omega), hw]
theorem go_bald (X : Stand p l e R s m args below meth c T locs cells slots) (hx : p.tables.exec = Jvm.exec) (hZ : Z.Warmed39 s.vm) (eT : T.heap = h) {a : Addr} {n : Nat} {f : Nat → Value} (A : GA Z h a .byte n f) {j : Int32} {rest : List Value}
    (hd : decode c.code g.pc = .ok (.baload, 1)) (hg : g.method = m) (hs : g.stack = .int j :: .ref a :: rest) (q : 0 ≤ j.toInt ∧ j.toInt < n) (w : Value) (hw : f j.toNatClampNeg = w) (k : Go p e below s Q C S T { g with pc := g.pc + 1, stack := w :: rest }) : Go p e below s Q C S T g := by
  obtain ⟨cl, A1, rfl, -, A4⟩ := A
  have q2 := own_in q
  refine go_st (fun t => X.baloadBytes hx (j := j) (v := w) (by rw [eT]; exact A1.1) (State.isArrayOf_alike hZ.alike A1.2.1) A1.2.2 q2 ?_ hg hs hd t) k
  rw [A4 _ (by omega), hw]
theorem go_cald (X : Stand p l e R s m args below meth c T locs cells slots) (hx : p.tables.exec = Jvm.exec) (hZ : Z.Warmed39 s.vm) (eT : T.heap = h) {a : Addr} {n : Nat} {f : Nat → Value} (A : GA Z h a .char n f) {j : Int32} {rest : List Value}
    (hd : decode c.code g.pc = .ok (.caload, 1)) (hg : g.method = m) (hs : g.stack = .int j :: .ref a :: rest) (q : 0 ≤ j.toInt ∧ j.toInt < n) (w : Value) (hw : f j.toNatClampNeg = w) (k : Go p e below s Q C S T { g with pc := g.pc + 1, stack := w :: rest }) : Go p e below s Q C S T g := by
  obtain ⟨cl, A1, rfl, -, A4⟩ := A
  have q2 := own_in q
  refine go_st (fun t => X.caload hx (j := j) (v := w) (by rw [eT]; exact A1.1) (State.isArrayOf_alike hZ.alike A1.2.1) A1.2.2 q2 ?_ hg hs hd t) k
  rw [A4 _ (by omega), hw]
theorem go_aald (X : Stand p l e R s m args below meth c T locs cells slots) (hx : p.tables.exec = Jvm.exec) (hZ : Z.Warmed39 s.vm) (eT : T.heap = h) {a : Addr} {ty : FieldType} {n : Nat} {f : Nat → Value} (A : GA Z h a ty n f) (hty : ty.isReference = true) {j : Int32} {rest : List Value}
    (hd : decode c.code g.pc = .ok (.aaload, 1)) (hg : g.method = m) (hs : g.stack = .int j :: .ref a :: rest) (q : 0 ≤ j.toInt ∧ j.toInt < n) (w : Value) (hw : f j.toNatClampNeg = w) (k : Go p e below s Q C S T { g with pc := g.pc + 1, stack := w :: rest }) : Go p e below s Q C S T g := by
  obtain ⟨cl, A1, rfl, -, A4⟩ := A
  have q2 := own_in q
  refine go_st (fun t => X.aaload hx (j := j) (v := w) (by rw [eT]; exact A1.1) (State.isArrayOf_alike hZ.alike A1.2.1) hty A1.2.2 q2 ?_ hg hs hd t) k
  rw [A4 _ (by omega), hw]
theorem go_iast (X : Stand p l e R s m args below meth c T locs cells slots) (hx : p.tables.exec = Jvm.exec) (hZ : Z.Warmed39 s.vm) (eT : T.heap = h) {a : Addr} {n : Nat} {f : Nat → Value} (A : GA Z h a .int n f) {j x : Int32} {rest : List Value}
    (hd : decode c.code g.pc = .ok (.iastore, 1)) (hg : g.method = m) (hs : g.stack = .int x :: .int j :: .ref a :: rest) (q : 0 ≤ j.toInt ∧ j.toInt < n)
    (k : ∀ T' h', Stand p l e R s m args below meth c T' (locs ++ [⟨a, j.toNatClampNeg⟩]) cells slots → T'.heap = h' → Wr h h' a j.toNatClampNeg (.int x) → GA Z h' a .int n (fun i => if i = j.toNatClampNeg then .int x else f i) → Go p e below s Q C S T' { g with pc := g.pc + 1, stack := rest }) : Go p e below s Q C S T g := by
  have A' := A
  obtain ⟨cl, A1, rfl, -, A4⟩ := A
  obtain ⟨T1, h1, X1, e1, W1, st⟩ := stI X hx hZ eT A1 (own_in q) hg hs hd
  exact go_st st (k _ _ X1 e1 W1 (A'.set W1))
theorem go_last (X : Stand p l e R s m args below meth c T locs cells slots) (hx : p.tables.exec = Jvm.exec) (hZ : Z.Warmed39 s.vm) (eT : T.heap = h) {a : Addr} {n : Nat} {f : Nat → Value} (A : GA Z h a .long n f) {j : Int32} {x : Int64} {rest : List Value}
    (hd : decode c.code g.pc = .ok (.lastore, 1)) (hg : g.method = m) (hs : g.stack = .long x :: .int j :: .ref a :: rest) (q : 0 ≤ j.toInt ∧ j.toInt < n)
    (k : ∀ T' h', Stand p l e R s m args below meth c T' (locs ++ [⟨a, j.toNatClampNeg⟩]) cells slots → T'.heap = h' → Wr h h' a j.toNatClampNeg (.long x) → GA Z h' a .long n (fun i => if i = j.toNatClampNeg then .long x else f i) → Go p e below s Q C S T' { g with pc := g.pc + 1, stack := rest }) : Go p e below s Q C S T g := by
  have A' := A
  obtain ⟨cl, A1, rfl, -, A4⟩ := A
  obtain ⟨T1, h1, X1, e1, W1, st⟩ := stJ X hx hZ eT A1 (own_in q) hg hs hd
  exact go_st st (k _ _ X1 e1 W1 (A'.set W1))
theorem go_bast (X : Stand p l e R s m args below meth c T locs cells slots) (hx : p.tables.exec = Jvm.exec) (hZ : Z.Warmed39 s.vm) (eT : T.heap = h) {a : Addr} {n : Nat} {f : Nat → Value} (A : GA Z h a .byte n f) {j x : Int32} {rest : List Value}
    (hd : decode c.code g.pc = .ok (.bastore, 1)) (hg : g.method = m) (hs : g.stack = .int x :: .int j :: .ref a :: rest) (q : 0 ≤ j.toInt ∧ j.toInt < n)
    (k : ∀ T' h', Stand p l e R s m args below meth c T' (locs ++ [⟨a, j.toNatClampNeg⟩]) cells slots → T'.heap = h' → Wr h h' a j.toNatClampNeg (.int x.toInt8.toInt32) → GA Z h' a .byte n (fun i => if i = j.toNatClampNeg then .int x.toInt8.toInt32 else f i) → Go p e below s Q C S T' { g with pc := g.pc + 1, stack := rest }) : Go p e below s Q C S T g := by
  have A' := A
  obtain ⟨cl, A1, rfl, -, A4⟩ := A
  obtain ⟨T1, h1, X1, e1, W1, st⟩ := stB X hx hZ eT A1 (own_in q) hg hs hd
  exact go_st st (k _ _ X1 e1 W1 (A'.set W1))
theorem go_cast (X : Stand p l e R s m args below meth c T locs cells slots) (hx : p.tables.exec = Jvm.exec) (hZ : Z.Warmed39 s.vm) (eT : T.heap = h) {a : Addr} {n : Nat} {f : Nat → Value} (A : GA Z h a .char n f) {j x : Int32} {rest : List Value}
    (hd : decode c.code g.pc = .ok (.castore, 1)) (hg : g.method = m) (hs : g.stack = .int x :: .int j :: .ref a :: rest) (q : 0 ≤ j.toInt ∧ j.toInt < n)
    (k : ∀ T' h', Stand p l e R s m args below meth c T' (locs ++ [⟨a, j.toNatClampNeg⟩]) cells slots → T'.heap = h' → Wr h h' a j.toNatClampNeg (.int (nar .char x)) → GA Z h' a .char n (fun i => if i = j.toNatClampNeg then .int (nar .char x) else f i) → Go p e below s Q C S T' { g with pc := g.pc + 1, stack := rest }) : Go p e below s Q C S T g := by
  have A' := A
  obtain ⟨cl, A1, rfl, -, A4⟩ := A
  obtain ⟨T1, h1, X1, e1, W1, st⟩ := stC X hx hZ eT A1 (own_in q) hg hs hd
  exact go_st st (k _ _ X1 e1 W1 (A'.set W1))
theorem go_aast (X : Stand p l e R s m args below meth c T locs cells slots) (hx : p.tables.exec = Jvm.exec) (hZ : Z.Warmed39 s.vm) (eT : T.heap = h) {a : Addr} {ty : FieldType} {n : Nat} {f : Nat → Value} (A : GA Z h a ty n f) (hty : ty.isReference = true) {j : Int32} {v : Value} (F : Sto Z h a v) {rest : List Value}
    (hd : decode c.code g.pc = .ok (.aastore, 1)) (hg : g.method = m) (hs : g.stack = v :: .int j :: .ref a :: rest) (q : 0 ≤ j.toInt ∧ j.toInt < n)
    (k : ∀ T' h', Stand p l e R s m args below meth c T' (locs ++ [⟨a, j.toNatClampNeg⟩]) cells slots → T'.heap = h' → Wr h h' a j.toNatClampNeg v → GA Z h' a ty n (fun i => if i = j.toNatClampNeg then v else f i) → Go p e below s Q C S T' { g with pc := g.pc + 1, stack := rest }) : Go p e below s Q C S T g := by
  have A' := A
  obtain ⟨cl, A1, rfl, -, A4⟩ := A
  obtain ⟨T1, h1, X1, e1, W1, st⟩ := stR X hx hZ eT A1 (own_in q) hty F hg hs hd
  exact go_st st (k _ _ X1 e1 W1 (A'.set W1))
theorem own_clamp {n : Int32} {N : Nat} (q : n.toInt = N) : n.toNatClampNeg = N := by simp only [Int32.toNatClampNeg]; omega
theorem own_nneg {n : Int32} {N : Nat} (q : n.toInt = N) : ¬ n < 0 := by
  rw [Int32.lt_iff_toInt_lt]
  have : (0 : Int32).toInt = 0 := rfl
  omega
theorem go_newP (X : Stand p l e R s m args below meth c T locs cells slots) (hx : p.tables.exec = Jvm.exec) (hZ : Z.Warmed39 s.vm) {aty : ArrayType} (w : (Cond.arrayClass (newarray.typeOf aty)).before a0 Z = true) (eT : T.heap = h) {n : Int32} {rest : List Value} (hd : decode c.code g.pc = .ok (.newarray aty, 2)) (hg : g.method = m) (hs : g.stack = .int n :: rest)
    (N : Nat) (hn : n.toInt = N) (cap : Nat) (hcap : N ≤ cap) (hb : cap * 8 ≤ 536870912) (hc : cells + 1 ≤ R.cells) (hl : slots + cap ≤ R.slots)
    (k : ∀ T' h' a, a = h.size → Stand p l e R s m args below meth c T' locs (cells + 1) (slots + cap) → T'.heap = h' → Ext h h' → GA Z h' a (newarray.typeOf aty) N (fun _ => defaultValue (newarray.typeOf aty)) → Go p e below s Q C S T' { g with pc := g.pc + 2, stack := .ref a :: rest }) : Go p e below s Q C S T g := by
  have hN := own_clamp hn
  have hn0 := own_nneg hn
  obtain ⟨T1, h1, cA, X1, e1, E1, A1, st⟩ := newP X hx hZ w eT hg hd hs hn0 (cap := cap) (by omega) hb hc hl
  refine go_st st (k _ _ _ rfl X1 e1 E1 ⟨_, A1, (sz_new _ _ _).trans hN, ?_, fun i hi => ?_⟩)
  · have := (rng32 n).2
    omega
  · show (Array.replicate n.toNatClampNeg (defaultValue _))[i]? = _
    rw [hN, Array.getElem?_replicate, if_pos hi]
theorem go_newR (X : Stand p l e R s m args below meth c T locs cells slots) (hx : p.tables.exec = Jvm.exec) (hZ : Z.Warmed39 s.vm) {own K : String} {index : Nat} (hown : s.vm.findClass own = some m.cls) (w1 : (Cond.classLink own index K).before a0 Z = true) (w2 : (Cond.arrayOver (.object K)).before a0 Z = true) (eT : T.heap = h) {n : Int32} {rest : List Value} (hd : decode c.code g.pc = .ok (.anewarray index, 3)) (hg : g.method = m) (hs : g.stack = .int n :: rest)
    (N : Nat) (hn : n.toInt = N) (cap : Nat) (hcap : N ≤ cap) (hb : cap * 8 ≤ 536870912) (hc : cells + 1 ≤ R.cells) (hl : slots + cap ≤ R.slots)
    (k : ∀ T' h' a, a = h.size → Stand p l e R s m args below meth c T' locs (cells + 1) (slots + cap) → T'.heap = h' → Ext h h' → GA Z h' a (.object K) N (fun _ => .null) → OC Z h' a (.object K) K → Go p e below s Q C S T' { g with pc := g.pc + 3, stack := .ref a :: rest }) : Go p e below s Q C S T g := by
  have hN := own_clamp hn
  have hn0 := own_nneg hn
  obtain ⟨T1, h1, cA, X1, e1, E1, A1, O1, st⟩ := newR X hx hZ hown w1 w2 eT hg hd hs hn0 (cap := cap) (by omega) hb hc hl
  refine go_st st (k _ _ _ rfl X1 e1 E1 ⟨_, A1, (sz_new _ _ _).trans hN, ?_, fun i hi => ?_⟩ ⟨_, A1, O1⟩)
  · have := (rng32 n).2
    omega
  · show (Array.replicate n.toNatClampNeg (defaultValue _))[i]? = _
    rw [hN, Array.getElem?_replicate, if_pos hi]
    rfl
end OwnGo
section OwnMore
variable {p : Program} {l : Launch} {e : Env} {R : Room} {s : State} {m : MethodId} {args : Array Value} {below : List Frame} {meth : Method} {c : Code} {T T' : State} {locs : List Loc} {cells slots : Nat} {Z : State} {a0 : Array Value} {h : Heap} {Q : Option Value → Heap → List Loc → Prop} {C S maxL0 : Nat} {g g' : JFrame}
theorem go_zald (X : Stand p l e R s m args below meth c T locs cells slots) (hx : p.tables.exec = Jvm.exec) (hZ : Z.Warmed39 s.vm) (eT : T.heap = h) {a : Addr} {n : Nat} {f : Nat → Value} (A : GA Z h a .boolean n f) {j : Int32} {rest : List Value}
    (hd : decode c.code g.pc = .ok (.baload, 1)) (hg : g.method = m) (hs : g.stack = .int j :: .ref a :: rest) (q : 0 ≤ j.toInt ∧ j.toInt < n) (w : Value) (hw : f j.toNatClampNeg = w) (k : Go p e below s Q C S T { g with pc := g.pc + 1, stack := w :: rest }) : Go p e below s Q C S T g := by
  obtain ⟨cl, A1, rfl, -, A4⟩ := A
  have q2 := own_in q
  refine go_st (fun t => X.baloadBooleans hx (j := j) (v := w) (by rw [eT]; exact A1.1) (State.isArrayOf_alike hZ.alike A1.2.1) A1.2.2 q2 ?_ hg hs hd t) k
  rw [A4 _ (by omega), hw]
theorem go_zast (X : Stand p l e R s m args below meth c T locs cells slots) (hx : p.tables.exec = Jvm.exec) (hZ : Z.Warmed39 s.vm) (eT : T.heap = h) {a : Addr} {n : Nat} {f : Nat → Value} (A : GA Z h a .boolean n f) {j x : Int32} {rest : List Value}
    (hd : decode c.code g.pc = .ok (.bastore, 1)) (hg : g.method = m) (hs : g.stack = .int x :: .int j :: .ref a :: rest) (q : 0 ≤ j.toInt ∧ j.toInt < n)
    (k : ∀ T' h', Stand p l e R s m args below meth c T' (locs ++ [⟨a, j.toNatClampNeg⟩]) cells slots → T'.heap = h' → Wr h h' a j.toNatClampNeg (.int (x &&& 1)) → GA Z h' a .boolean n (fun i => if i = j.toNatClampNeg then .int (x &&& 1) else f i) → Go p e below s Q C S T' { g with pc := g.pc + 1, stack := rest }) : Go p e below s Q C S T g := by
  have A' := A
  obtain ⟨cl, A1, rfl, -, A4⟩ := A
  obtain ⟨T1, h1, X1, e1, W1, st⟩ := stZ X hx hZ eT A1 (own_in q) hg hs hd
  exact go_st st (k _ _ X1 e1 W1 (A'.set W1))
theorem own_arv {a : Addr} {ty : FieldType} {N : Nat} {f : Nat → Value} {dv : Value} (A : GA Z h a ty N f) (fa : ∀ i, i < N → fits ty (f i) = true) {z : Int32} (hz : z.toInt = N) : ∃ k, Arv Z h a k ty z ((List.range N).map f) dv := by
  obtain ⟨cl, A1, A2, A3, A4⟩ := A
  have hz2 := own_clamp hz
  refine ⟨cl.cls, cl, A1, rfl, by rw [A2, hz2], own_nneg hz, fun i hi => ?_, fun i hi => ?_⟩
  · rw [A2] at hi
    rw [A4 i hi, List.getD_eq_getElem?_getD, List.getElem?_map, List.getElem?_range hi]
    rfl
  · rw [A2] at hi
    rw [List.getD_eq_getElem?_getD, List.getElem?_map, List.getElem?_range hi]
    exact fa i hi
theorem own_ga {a : Addr} {k : ClassId} {ty : FieldType} {N : Nat} {f : Nat → Value} {dv : Value} {z : Int32} (hz : z.toInt = N) {vs : List Value} (F : Arv Z h a k ty z vs dv) (hv : ∀ i, i < N → vs.getD i dv = f i) : GA Z h a ty N f := by
  obtain ⟨cl, A1, -, A2, A3, A4, -⟩ := F
  have hz2 := own_clamp hz
  have := (rng32 z).2
  exact ⟨cl, A1, by rw [A2, hz2], by omega, fun i hi => by rw [A4 i (by rw [A2, hz2]; exact hi), hv i hi]⟩
theorem go_acpy (X : Stand p l e R s m args below meth c T locs cells slots) (hx : p.tables.exec = Jvm.exec) (hZ : Z.Warmed39 s.vm) (hml : c.maxLocals = maxL0) {own : String} {index : Nat} (hown : s.vm.findClass own = some m.cls)
    (w1 : (Cond.methodLink own index Jvm.Stand.acN).before a0 Z = true) (w2 : (Cond.native Jvm.Stand.acN).before a0 Z = true) (w3 : (Cond.static Jvm.Stand.acN).before a0 Z = true) (w4 : (Cond.initialized "java/lang/System").before a0 Z = true) (eT : T.heap = h)
    {a b : Addr} {ty : FieldType} (hty : refKind ty = false) {N : Nat} {f f' : Nat → Value} (A : GA Z h a ty N f) (B : GA Z h b ty N f') (fa : ∀ i, i < N → fits ty (f i) = true) (fb : ∀ i, i < N → fits ty (f' i) = true) {nn : Int32} (hnn : nn.toInt = N) {n0 : Nat} (N0 : Fr n0 locs) (ge : n0 ≤ b) {rest : List Value}
    (hd : decode c.code g.pc = .ok (.invokestatic index, 3)) (hg : g.method = m) (hsz : g.locals.size = maxL0) (hs : g.stack = .int nn :: .int 0 :: .ref b :: .int 0 :: .ref a :: rest)
    (hf : 1 ≤ R.frames) {W : Nat} (hW : 2 * g.monitorRoom + (rest.map fun v => v.category).sum ≤ W) (hlo : W + (nativeFrameWords "java/lang/System" "arraycopy" 5 + 11) ≤ R.locals)
    (k : ∀ T' h' L, Stand p l e R s m args below meth c T' L cells slots → T'.heap = h' → Fr n0 L → Keep h h' [b] → GA Z h' b ty N f → Go p e below s Q C S T' { g with pc := g.pc + 3, stack := rest }) : Go p e below s Q C S T g := by
  obtain ⟨k1, A1⟩ := own_arv (dv := .null) A fa hnn
  obtain ⟨k2, B1⟩ := own_arv (dv := .null) B fb hnn
  have hz2 := own_clamp hnn
  have h0 : (0 : Int32).toNatClampNeg = 0 := rfl
  obtain ⟨T1, h1, L1, X1, e1, N1, K1, G1, st⟩ := cpA X hx hZ hown w1 w2 w3 w4 eT A1 B1 (us := (List.range N).map f) (Or.inl ⟨rfl, hty⟩) (sp := 0) (dp := 0) (nn := nn) (by decide) (by decide) (own_nneg hnn) (by rw [h0, hz2]; omega) (by rw [h0, hz2]; omega)
    (by
      rw [h0, hz2]
      apply List.map_congr_left
      intro i hi
      have hi' := List.mem_range.mp hi
      rw [Nat.zero_add, List.getD_eq_getElem?_getD, List.getElem?_map, List.getElem?_range hi']
      rfl) (by rw [h0, hz2]; simp) N0 ge hg (hsz.trans hml.symm) hs hd hf hW hlo
  refine go_st st (k _ _ _ X1 e1 N1 K1 (own_ga hnn G1 fun i hi => ?_))
  rw [h0, hz2, List.take_zero, List.nil_append, Nat.zero_add, List.drop_eq_nil_of_le (by simp), List.append_nil, List.getD_eq_getElem?_getD, List.getElem?_map, List.getElem?_range hi]
  rfl
theorem go_grid (X : Stand p l e R s m args below meth c T locs cells slots) (hx : p.tables.exec = Jvm.exec) (hZ : Z.Warmed39 s.vm) {own : String} {index : Nat} (hown : s.vm.findClass own = some m.cls) (w1 : (Cond.classLink own index "[[B").before a0 Z = true) (w2 : (Cond.arrayOver (.array .byte)).before a0 Z = true) (w3 : (Cond.arrayClass .byte).before a0 Z = true) (eT : T.heap = h)
    {n kk : Int32} {rest : List Value} (hd : decode c.code g.pc = .ok (.multianewarray index 2, 4)) (hg : g.method = m) (hs : g.stack = .int kk :: .int n :: rest) (N M : Nat) (hn : n.toInt = N) (hk : kk.toInt = M) (hN : N ≤ 1000) (hM : M ≤ 1000) (cc cs : Nat) (hcc : 1 + N ≤ cc) (hcs : N + N * M ≤ cs) (hc : cells + cc ≤ R.cells) (hl : slots + cs ≤ R.slots)
    (k : ∀ T' h' a (rows : Nat → Addr), a = h.size → (∀ i, rows i = h.size + 1 + i) → Stand p l e R s m args below meth c T' locs (cells + cc) (slots + cs) → T'.heap = h' → Ext h h' → GA Z h' a (.array .byte) N (fun i => .ref (rows i)) → (∀ i, i < N → GA Z h' (rows i) .byte M (fun _ => .int 0)) → Go p e below s Q C S T' { g with pc := g.pc + 4, stack := .ref a :: rest }) : Go p e below s Q C S T g := by
  have hN2 := own_clamp hn
  have hM2 := own_clamp hk
  obtain ⟨T1, h1, cA, comp, X1, e1, E1, V1, -, -, I1, st⟩ := gridM X hx hZ (ty := .byte) hown (C := "[B") (ad := "[[B") (by decide) (by decide) w1 w2 w3 eT hg hd hs (own_nneg hn) (own_nneg hk) (xs := (List.range N).map fun j => h.size + 1 + j) hN2 rfl (cap := M) (by omega) (by omega) (by omega) (by decide) (by decide) (by omega) (by omega)
  refine go_st st (k _ _ _ (fun i => h.size + 1 + i) rfl (fun _ => rfl) (X1.mono (by omega) (by omega)) e1 E1 (own_ga hn V1 fun i hi => ?_) fun i hi => ?_)
  · rw [List.getD_eq_getElem?_getD, List.getElem?_map, List.getElem?_map, List.getElem?_range hi]
    rfl
  · have q := (I1 i (h.size + 1 + i) (by rw [List.getElem?_map, List.getElem?_range hi]; rfl)).1
    have := (rng32 kk).2
    refine ⟨_, q, (sz_new _ _ _).trans hM2, by omega, fun j hj => ?_⟩
    show (Array.replicate kk.toNatClampNeg (defaultValue _))[j]? = _
    rw [hM2, Array.getElem?_replicate, if_pos hj]
    rfl
end OwnMore

section OwnPriv
variable {p : Program} {l : Launch} {e : Env} {R : Room} {s : State} {m : MethodId} {args : Array Value} {below : List Frame} {meth : Method} {c : Code} {T T' : State} {locs : List Loc} {cells slots : Nat} {Z : State} {a0 : Array Value} {h : Heap} {Q : Option Value → Heap → List Loc → Prop} {C S maxL0 : Nat} {g g' : JFrame}
theorem go_callP (X : Stand p l e R s m args below meth c T locs cells slots) (hx : p.tables.exec = Jvm.exec) (hZ : Z.Warmed39 s.vm) (hml : c.maxLocals = maxL0) {own K : String} {index nk : Nat} {y : MethodName} {bytes : ByteArray} {maxL : Nat} {ret : Option FieldType} (hown : s.vm.findClass own = some m.cls)
    (w1 : (Cond.methodLink own index y).before a0 Z = true) (w2 : (Cond.privateMethod y).before a0 Z = true) (w3 : (Cond.instantiable y.cls nk).before a0 Z = true) (w3' : (Cond.instanceMethod y).before a0 Z = true) (w4 : (Cond.code y bytes maxL ret).before a0 Z = true) (w5 : (Cond.initialized y.cls).before a0 Z = true) (eT : T.heap = h) {a : Addr} (E : Exa Z h a K) {argsL rest : List Value} {rm : Room} {Q' : Option Value → Heap → List Loc → Prop} {W : Nat}
    (hM : Met l y bytes maxL ret [] rm Z (.ref a :: argsL).toArray h Q' rm.cells rm.slots)
    (hd : decode c.code g.pc = .ok (.invokevirtual index, 3)) (hs : g.stack = argsL.reverse ++ .ref a :: rest) (hg : g.method = m) (hsz : g.locals.size = maxL0) (hlen : ∀ sig, parseMethodDescriptor y.desc = some sig → argsL.length = sig.parameters.length) (hW : 2 * g.monitorRoom + (rest.map fun v => v.category).sum ≤ W)
    (hy : y.cls ≠ "java/lang/invoke/MethodHandle" ∧ y.cls ≠ "java/lang/invoke/VarHandle") (hf : rm.frames + 1 ≤ R.frames) (hl : W + (maxL + 11) + rm.locals ≤ R.locals) (hc : cells + rm.cells ≤ R.cells) (hsl : slots + rm.slots ≤ R.slots)
    (k : ∀ T' v L, Stand p l e R s m args below meth c T' (locs ++ L) (cells + rm.cells) (slots + rm.slots) → Q' v T'.heap L → Go p e below s Q C S T' { g with pc := g.pc + 3, stack := v.toList ++ rest }) : Go p e below s Q C S T g := by
  obtain ⟨cB, kB, q1, q2, cell, q3, q4, q5⟩ := isOf hZ eT E
  have w3s := mvT (args := args) hZ w3
  obtain ⟨ck, kk, i1, i2, i3, i4, -⟩ := Cond.instantiable_spec w3s
  have hp := Cond.privateMethod_at (mvT (args := args) hZ w2)
  have hsel := selects_self_of_private (args := args) i1 i2 (by cases hq : kk.isInterface <;> simp_all) hp (mvT hZ w3') hy
  obtain ⟨v, _, ⟨T1, L1, k1, n1⟩, -, X1, ⟨Lc, hQ, l1, y1, z1⟩, st⟩ := X.privateBack hx (y := y) hown (mvT hZ w1) (mvT hZ w3') hsel hp (mvT hZ w4) hy (backOf (W := W) hM hZ w4 w5 hf hl) (g := g) hg (hsz.trans hml.symm) (Steps.refl _) q3 (fun qq hqq => by rw [hqq] at q5; exact Bool.noConfusion (show true = false from q5)) (argsL := argsL) (rest := rest) hlen hs hW hd (fun _ _ => ⟨rfl, eT, hc, hsl⟩)
  dsimp only [Pt.U, Pt.locs, Pt.cells, Pt.slots] at X1 l1 y1 z1 st hQ
  subst l1 y1 z1
  exact go_tr st (k _ _ _ X1 hQ)
end OwnPriv
section OwnZero
variable {p : Program} {l : Launch} {e : Env} {R : Room} {s : State} {m : MethodId} {args : Array Value} {below : List Frame} {meth : Method} {c : Code} {T T' : State} {locs : List Loc} {cells slots : Nat} {Z : State} {a0 : Array Value} {h : Heap} {Q : Option Value → Heap → List Loc → Prop} {C S maxL0 : Nat} {g g' : JFrame}
theorem go_acp0 (X : Stand p l e R s m args below meth c T locs cells slots) (hx : p.tables.exec = Jvm.exec) (hZ : Z.Warmed39 s.vm) (hml : c.maxLocals = maxL0) {own : String} {index : Nat} (hown : s.vm.findClass own = some m.cls)
    (w1 : (Cond.methodLink own index Jvm.Stand.acN).before a0 Z = true) (w2 : (Cond.native Jvm.Stand.acN).before a0 Z = true) (w3 : (Cond.static Jvm.Stand.acN).before a0 Z = true) (w4 : (Cond.initialized "java/lang/System").before a0 Z = true) (eT : T.heap = h)
    {a b : Addr} {ty : FieldType} (hty : refKind ty = false) {M N : Nat} {f f' : Nat → Value} (A : GA Z h a ty M f) (B : GA Z h b ty N f') (fa : ∀ i, i < M → fits ty (f i) = true) (fb : ∀ i, i < N → fits ty (f' i) = true) {zm zn : Int32} (hm : zm.toInt = M) (hn : zn.toInt = N) {n0 : Nat} (N0 : Fr n0 locs) (ge : n0 ≤ b) {rest : List Value}
    (hd : decode c.code g.pc = .ok (.invokestatic index, 3)) (hg : g.method = m) (hsz : g.locals.size = maxL0) (hs : g.stack = .int 0 :: .int 0 :: .ref b :: .int 0 :: .ref a :: rest)
    (hf : 1 ≤ R.frames) {W : Nat} (hW : 2 * g.monitorRoom + (rest.map fun v => v.category).sum ≤ W) (hlo : W + (nativeFrameWords "java/lang/System" "arraycopy" 5 + 11) ≤ R.locals)
    (k : ∀ T' h' L, Stand p l e R s m args below meth c T' L cells slots → T'.heap = h' → Fr n0 L → Keep h h' [b] → GA Z h' b ty N f' → Go p e below s Q C S T' { g with pc := g.pc + 3, stack := rest }) : Go p e below s Q C S T g := by
  obtain ⟨k1, A1⟩ := own_arv (dv := .null) A fa hm
  obtain ⟨k2, B1⟩ := own_arv (dv := .null) B fb hn
  have h0 : (0 : Int32).toNatClampNeg = 0 := rfl
  obtain ⟨T1, h1, L1, X1, e1, N1, K1, G1, st⟩ := cpA X hx hZ hown w1 w2 w3 w4 eT A1 B1 (us := []) (Or.inl ⟨rfl, hty⟩) (sp := 0) (dp := 0) (nn := 0) (by decide) (by decide) (by decide) (by rw [h0]; omega) (by rw [h0]; omega)
    (by rw [h0]; rfl) (by rw [h0]; simp) N0 ge hg (hsz.trans hml.symm) hs hd hf hW hlo
  refine go_st st (k _ _ _ X1 e1 N1 K1 (own_ga hn G1 fun i hi => ?_))
  rw [h0, List.take_zero, List.nil_append, List.nil_append, Nat.zero_add, List.drop_zero, List.getD_eq_getElem?_getD, List.getElem?_map, List.getElem?_range hi]
  rfl
theorem own_ga0 {s : State} {args : Array Value} {t : Term} {a : Addr} {ty : FieldType} {f : Nat → Value} (ev : t.eval args s none [] s = some (.ref a)) (hx : (Cond.arrayOf t ty).value args s none s [] = some true) (hl : (Cond.eq (.length t) (.int 0)).value args s none s [] = some true) : GA s s.heap a ty 0 f := by
  obtain ⟨cl, A⟩ := Arr.start ev hx
  obtain ⟨u, v, h1, h2, h3, h4⟩ := cmp_v (Or.inl hl)
  have hat := IntBox.arrayAt_of A.1 A.2.1 A.2.2
  by_cases hs : cl.slots.size < 2 ^ 31
  · have h5 := len_f ev hat hs
    have h6 := gotT (Cond.eq_ints h5 (Term.int_eval 0)) hl
    have h7 := congrArg Int32.toInt h6
    rw [len_toInt hs] at h7
    have e0 : (0 : Int32).toInt = 0 := rfl
    exact ⟨cl, A, by omega, by omega, fun i hi => absurd hi (Nat.not_lt_zero _)⟩
  · simp [Term.eval, ev, hat, hs] at h1
end OwnZero

section OwnN
variable {p : Program} {l : Launch} {e : Env} {R : Room} {s : State} {m : MethodId} {args : Array Value} {below : List Frame} {meth : Method} {c : Code} {T T' : State} {locs : List Loc} {cells slots : Nat} {Z : State} {a0 : Array Value} {h : Heap} {Q : Option Value → Heap → List Loc → Prop} {C S maxL0 : Nat} {g g' : JFrame}
theorem go_retN (X : Stand p l e R s m args below meth c T locs cells slots) (hx : p.tables.exec = Jvm.exec) (hlk : meth.locks = false) {t : FieldType} (hret : meth.sig.returnType = some t) (ht : t = .boolean ∨ t = .byte ∨ t = .char ∨ t = .short) {pc : Nat} {Ls : Array Slot} {z w : Int32} {rest : List Value} (hd : decode c.code pc = .ok (.ireturn, 1)) (hw : nar t z = w)
    (hC : cells ≤ C) (hS : slots ≤ S) (hQ : Q (some (.int w)) T.heap locs) : Go p e below s Q C S T (mkF m pc Ls (.int z :: rest)) := by
  subst hw
  exact go_end X hlk (fun h => by rw [hret] at h; cases h) (fun fs h1 => retN X hx (t := t) hret ht hd h1) hC hS hQ
end OwnN

section OwnW1
variable {p : Program} {l : Launch} {e : Env} {R : Room} {s : State} {m : MethodId} {args : Array Value} {below : List Frame} {meth : Method} {c : Code} {T T' : State} {locs : List Loc} {cells slots : Nat} {Z : State} {a0 : Array Value} {h : Heap} {Q : Option Value → Heap → List Loc → Prop} {C S maxL0 : Nat} {g g' : JFrame}
def GoW (p : Program) (e : Env) (below : List Frame) (s : State) (Q : Option Value → Heap → List Loc → Prop) (C S : Nat) (T : State) (g : JFrame) : Prop :=
  ∃ s₂ o, Steps p.tables e below (T.setTop g) s₂ ∧ s₂.status = .running ∧ Ended s₂ below o ∧ ∃ v L, o = .returned v ∧ Q v s₂.heap L ∧ ReturnedEndW s o s₂ L C S
theorem gw_st (k : ∀ t, Steps p.tables e below (T'.setTop g') t → Steps p.tables e below (T.setTop g) t) (q : GoW p e below s Q C S T' g') : GoW p e below s Q C S T g := by
  obtain ⟨s2, o, q1, q2⟩ := q
  exact ⟨s2, o, k _ q1, q2⟩
theorem castGoW (q : g = g') (k : GoW p e below s Q C S T g') : GoW p e below s Q C S T g := by rw [q]; exact k
theorem gw_tr (k : Steps p.tables e below (T.setTop g) (T'.setTop g')) (q : GoW p e below s Q C S T' g') : GoW p e below s Q C S T g := by
  obtain ⟨s2, o, q1, q2⟩ := q
  exact ⟨s2, o, k.trans q1, q2⟩
theorem gw_end (X : Stand p l e R s m args below meth c T locs cells slots) (hlk : meth.locks = false) {v : Option Value} (hv : meth.sig.returnType = none → v = none)
    (hr : ∀ fs, (∀ (f : JFrame) (acts : List Action), f.method = m → f.locked = none → f.entered = [] → (doReturn e (T.setTop f) acts v).1 = T.setFrames fs) → Steps p.tables e below (T.setTop g) (T.setFrames fs))
    (hC : cells ≤ C) (hS : slots ≤ S) (hQ : Q v T.heap locs) : GoW p e below s Q C S T g := by
  obtain ⟨fs, h1, hrun, hended, hW, hsame⟩ := X.leave (v := v) hv hlk
  exact ⟨_, _, hr fs h1, hrun, hended, _, _, rfl, hQ, ReturnedEndW.of_narrow ⟨_, rfl⟩ hW (hsame.mono hC hS)⟩
theorem gw_retI (X : Stand p l e R s m args below meth c T locs cells slots) (hx : p.tables.exec = Jvm.exec) (hlk : meth.locks = false) (hret : meth.sig.returnType = some .int) {pc : Nat} {Ls : Array Slot} {z : Int32} {rest : List Value} (hd : decode c.code pc = .ok (.ireturn, 1))
    (hC : cells ≤ C) (hS : slots ≤ S) (hQ : Q (some (.int z)) T.heap locs) : GoW p e below s Q C S T (mkF m pc Ls (.int z :: rest)) :=
  gw_end X hlk (fun h => by rw [hret] at h; cases h) (fun fs h1 => retOut X hx hret rfl (Or.inl ⟨rfl, Or.inl rfl, _, rfl⟩) hd h1) hC hS hQ
theorem gw_retL (X : Stand p l e R s m args below meth c T locs cells slots) (hx : p.tables.exec = Jvm.exec) (hlk : meth.locks = false) (hret : meth.sig.returnType = some .long) {pc : Nat} {Ls : Array Slot} {z : Int64} {rest : List Value} (hd : decode c.code pc = .ok (.lreturn, 1))
    (hC : cells ≤ C) (hS : slots ≤ S) (hQ : Q (some (.long z)) T.heap locs) : GoW p e below s Q C S T (mkF m pc Ls (.long z :: rest)) :=
  gw_end X hlk (fun h => by rw [hret] at h; cases h) (fun fs h1 => retOut X hx hret rfl (Or.inr (Or.inl ⟨rfl, rfl, _, rfl⟩)) hd h1) hC hS hQ
theorem gw_retD (X : Stand p l e R s m args below meth c T locs cells slots) (hx : p.tables.exec = Jvm.exec) (hlk : meth.locks = false) (hret : meth.sig.returnType = some .double) {pc : Nat} {Ls : Array Slot} {z : UInt64} {rest : List Value} (hd : decode c.code pc = .ok (.dreturn, 1))
    (hC : cells ≤ C) (hS : slots ≤ S) (hQ : Q (some (.double z)) T.heap locs) : GoW p e below s Q C S T (mkF m pc Ls (.double z :: rest)) :=
  gw_end X hlk (fun h => by rw [hret] at h; cases h) (fun fs h1 => retOut X hx hret rfl (Or.inr (Or.inr (Or.inl ⟨rfl, rfl, _, rfl⟩))) hd h1) hC hS hQ
theorem gw_retA (X : Stand p l e R s m args below meth c T locs cells slots) (hx : p.tables.exec = Jvm.exec) (hlk : meth.locks = false) {t : FieldType} (hret : meth.sig.returnType = some t) (ht : t.isReference = true) {w : Value} (hw : w.isRef = true) {pc : Nat} {Ls : Array Slot} {rest : List Value} (hd : decode c.code pc = .ok (.areturn, 1))
    (hC : cells ≤ C) (hS : slots ≤ S) (hQ : Q (some w) T.heap locs) : GoW p e below s Q C S T (mkF m pc Ls (w :: rest)) :=
  gw_end X hlk (fun h => by rw [hret] at h; cases h) (fun fs h1 => retOut X hx hret (by cases t <;> simp_all [FieldType.isReference, narrow] <;> cases w <;> simp_all [Value.isRef, narrow]) (Or.inr (Or.inr (Or.inr (Or.inr ⟨rfl, ht, hw⟩)))) hd h1) hC hS hQ
theorem gw_retB (X : Stand p l e R s m args below meth c T locs cells slots) (hx : p.tables.exec = Jvm.exec) (hlk : meth.locks = false) (hret : meth.sig.returnType = some .boolean) {pc : Nat} {Ls : Array Slot} {z w : Int32} {rest : List Value} (hd : decode c.code pc = .ok (.ireturn, 1)) (hw : z &&& 1 = w)
    (hC : cells ≤ C) (hS : slots ≤ S) (hQ : Q (some (.int w)) T.heap locs) : GoW p e below s Q C S T (mkF m pc Ls (.int z :: rest)) := by
  subst hw
  exact gw_end X hlk (fun h => by rw [hret] at h; cases h) (fun fs h1 => retN X hx (t := .boolean) hret (by simp) hd h1) hC hS hQ
theorem gw_ret0 (X : Stand p l e R s m args below meth c T locs cells slots) (hx : p.tables.exec = Jvm.exec) (hlk : meth.locks = false) (hret : meth.sig.returnType = none) {pc : Nat} {Ls : Array Slot} (hd : decode c.code pc = .ok (.return_, 1))
    (hC : cells ≤ C) (hS : slots ≤ S) (hQ : Q none T.heap locs) : GoW p e below s Q C S T (mkF m pc Ls []) :=
  gw_end X hlk (fun _ => rfl) (fun fs h1 => X.returnOut hx hret hd h1) hC hS hQ
theorem gw_callS (X : Stand p l e R s m args below meth c T locs cells slots) (hx : p.tables.exec = Jvm.exec) (hZ : Z.Warmed39 s.vm) (hml : c.maxLocals = maxL0) {own : String} {index : Nat} {y : MethodName} {bytes : ByteArray} {maxL : Nat} {ret : Option FieldType} (hown : s.vm.findClass own = some m.cls)
    (w1 : (Cond.methodLink own index y).before a0 Z = true) (w2 : (Cond.static y).before a0 Z = true) (w3 : (Cond.initialized y.cls).before a0 Z = true) (w4 : (Cond.code y bytes maxL ret).before a0 Z = true) (eT : T.heap = h) {argsL rest : List Value} {rm : Room} {Q' : Option Value → Heap → List Loc → Prop} {W : Nat}
    (hM : Met l y bytes maxL ret [] rm Z argsL.toArray h Q' rm.cells rm.slots)
    (hd : decode c.code g.pc = .ok (.invokestatic index, 3)) (hs : g.stack = argsL.reverse ++ rest) (hg : g.method = m) (hsz : g.locals.size = maxL0) (hlen : ∀ sig, parseMethodDescriptor y.desc = some sig → argsL.length = sig.parameters.length) (hW : 2 * g.monitorRoom + (rest.map fun v => v.category).sum ≤ W)
    (hy : y.cls ≠ "java/lang/invoke/MethodHandle" ∧ y.cls ≠ "java/lang/invoke/VarHandle") (hf : rm.frames + 1 ≤ R.frames) (hl : W + (maxL + 11) + rm.locals ≤ R.locals) (hc : cells + rm.cells ≤ R.cells) (hsl : slots + rm.slots ≤ R.slots)
    (k : ∀ T' v L, Stand p l e R s m args below meth c T' (locs ++ L) (cells + rm.cells) (slots + rm.slots) → Q' v T'.heap L → GoW p e below s Q C S T' { g with pc := g.pc + 3, stack := v.toList ++ rest }) : GoW p e below s Q C S T g := by
  obtain ⟨v, _, ⟨T1, L1, k1, n1⟩, -, X1, ⟨Lc, hQ, l1, y1, z1⟩, st⟩ := Jvm.LawKit.callS X hx (y := y) hown (mvT hZ w1) (mvT hZ w2) (mvT hZ w3) (mvT hZ w4) hy (backOf (W := W) hM hZ w4 w3 hf hl) (g := g) hg (hsz.trans hml.symm) (argsL := argsL) (rest := rest) hlen hs hW hd (fun _ _ => ⟨rfl, eT, hc, hsl⟩)
  dsimp only [Pt.U, Pt.locs, Pt.cells, Pt.slots] at X1 l1 y1 z1 st hQ
  subst l1 y1 z1
  exact gw_st st (k _ _ _ X1 hQ)
theorem gw_callV (X : Stand p l e R s m args below meth c T locs cells slots) (hx : p.tables.exec = Jvm.exec) (hZ : Z.Warmed39 s.vm) (hml : c.maxLocals = maxL0) {own K : String} {index : Nat} {y z : MethodName} {bytes : ByteArray} {maxL : Nat} {ret : Option FieldType} (hown : s.vm.findClass own = some m.cls)
    (w1 : (Cond.methodLink own index y).before a0 Z = true) (w2 : (Cond.declares y).before a0 Z = true) (w2' : NotFace s y) (w3 : (Cond.selects K y z).before a0 Z = true) (w3' : (Cond.instanceMethod z).before a0 Z = true) (w4 : (Cond.code z bytes maxL ret).before a0 Z = true) (w5 : (Cond.initialized z.cls).before a0 Z = true) (eT : T.heap = h) {a : Addr} (E : Exa Z h a K) {argsL rest : List Value} {rm : Room} {Q' : Option Value → Heap → List Loc → Prop} {W : Nat}
    (hM : Met l z bytes maxL ret [] rm Z (.ref a :: argsL).toArray h Q' rm.cells rm.slots)
    (hd : decode c.code g.pc = .ok (.invokevirtual index, 3)) (hs : g.stack = argsL.reverse ++ .ref a :: rest) (hg : g.method = m) (hsz : g.locals.size = maxL0) (hlen : ∀ sig, parseMethodDescriptor y.desc = some sig → argsL.length = sig.parameters.length) (hW : 2 * g.monitorRoom + (rest.map fun v => v.category).sum ≤ W)
    (hy : y.cls ≠ "java/lang/invoke/MethodHandle" ∧ y.cls ≠ "java/lang/invoke/VarHandle") (hf : rm.frames + 1 ≤ R.frames) (hl : W + (maxL + 11) + rm.locals ≤ R.locals) (hc : cells + rm.cells ≤ R.cells) (hsl : slots + rm.slots ≤ R.slots)
    (k : ∀ T' v L, Stand p l e R s m args below meth c T' (locs ++ L) (cells + rm.cells) (slots + rm.slots) → Q' v T'.heap L → GoW p e below s Q C S T' { g with pc := g.pc + 3, stack := v.toList ++ rest }) : GoW p e below s Q C S T g := by
  obtain ⟨cB, kB, q1, q2, q3⟩ := isOf hZ eT E
  obtain ⟨v, _, ⟨T1, L1, k1, n1⟩, -, X1, ⟨Lc, hQ, l1, y1, z1⟩, st⟩ := X.virtualBack hx (y := y) (z := z) hown (mvT hZ w1) (mvT hZ w2) w2' (mvT hZ w3) (mvT hZ w3') hy (backOf (W := W) hM hZ w4 w5 hf hl) q1 q3 (g := g) hg (hsz.trans hml.symm) (Steps.refl _) (argsL := argsL) (rest := rest) hlen hs hW hd (fun _ _ => ⟨rfl, eT, hc, hsl⟩)
  dsimp only [Pt.U, Pt.locs, Pt.cells, Pt.slots] at X1 l1 y1 z1 st hQ
  subst l1 y1 z1
  exact gw_tr st (k _ _ _ X1 hQ)
theorem gw_callU (X : Stand p l e R s m args below meth c T locs cells slots) (hx : p.tables.exec = Jvm.exec) (hZ : Z.Warmed39 s.vm) (hml : c.maxLocals = maxL0) {own K owner : String} {index : Nat} {y z : MethodName} {bytes : ByteArray} {maxL : Nat} {ret : Option FieldType} (hown : s.vm.findClass own = some m.cls)
    (w1 : (Cond.methodLink own index y).before a0 Z = true) (w2 : (Cond.sameMethod y.cls owner y.name y.desc).before a0 Z = true) (w2' : (Cond.declares ⟨owner, y.name, y.desc⟩).before a0 Z = true) (ho : owner ≠ "java/lang/invoke/MethodHandle" ∧ owner ≠ "java/lang/invoke/VarHandle") (w3 : (Cond.selects K y z).before a0 Z = true) (w3' : (Cond.instanceMethod z).before a0 Z = true) (w4 : (Cond.code z bytes maxL ret).before a0 Z = true) (w5 : (Cond.initialized z.cls).before a0 Z = true) (eT : T.heap = h) {a : Addr} (E : Exa Z h a K) {argsL rest : List Value} {rm : Room} {Q' : Option Value → Heap → List Loc → Prop} {W : Nat}
    (hM : Met l z bytes maxL ret [] rm Z (.ref a :: argsL).toArray h Q' rm.cells rm.slots)
    (hd : decode c.code g.pc = .ok (.invokevirtual index, 3)) (hs : g.stack = argsL.reverse ++ .ref a :: rest) (hg : g.method = m) (hsz : g.locals.size = maxL0) (hlen : ∀ sig, parseMethodDescriptor y.desc = some sig → argsL.length = sig.parameters.length) (hW : 2 * g.monitorRoom + (rest.map fun v => v.category).sum ≤ W)
    (hf : rm.frames + 1 ≤ R.frames) (hl : W + (maxL + 11) + rm.locals ≤ R.locals) (hc : cells + rm.cells ≤ R.cells) (hsl : slots + rm.slots ≤ R.slots)
    (k : ∀ T' v L, Stand p l e R s m args below meth c T' (locs ++ L) (cells + rm.cells) (slots + rm.slots) → Q' v T'.heap L → GoW p e below s Q C S T' { g with pc := g.pc + 3, stack := v.toList ++ rest }) : GoW p e below s Q C S T g := by
  obtain ⟨cB, kB, q1, q2, q3⟩ := isOf hZ eT E
  obtain ⟨v, _, ⟨T1, L1, k1, n1⟩, -, X1, ⟨Lc, hQ, l1, y1, z1⟩, st⟩ := X.virtualBackUp hx (x := y) (y := z) hown (mvT hZ w1) (mvT hZ w2) (mvT hZ w2') ho (mvT hZ w3) (mvT hZ w3') (backOf (W := W) hM hZ w4 w5 hf hl) q1 q3 (g := g) hg (hsz.trans hml.symm) (Steps.refl _) (argsL := argsL) (rest := rest) hlen hs hW hd (fun _ _ => ⟨rfl, eT, hc, hsl⟩)
  dsimp only [Pt.U, Pt.locs, Pt.cells, Pt.slots] at X1 l1 y1 z1 st hQ
  subst l1 y1 z1
  exact gw_tr st (k _ _ _ X1 hQ)
theorem gw_callI (X : Stand p l e R s m args below meth c T locs cells slots) (hx : p.tables.exec = Jvm.exec) (hZ : Z.Warmed39 s.vm) (hml : c.maxLocals = maxL0) {own : String} {index : Nat} {y : MethodName} {bytes : ByteArray} {maxL : Nat} (hown : s.vm.findClass own = some m.cls) (hy1 : y.name = "<init>")
    (w1 : (Cond.methodLink own index y).before a0 Z = true) (w2 : (Cond.instanceMethod y).before a0 Z = true) (w4 : (Cond.code y bytes maxL none).before a0 Z = true) (w5 : (Cond.initialized y.cls).before a0 Z = true) (eT : T.heap = h) {a : Addr} {argsL rest : List Value} {rm : Room} {Q' : Option Value → Heap → List Loc → Prop} {W : Nat}
    (hM : Met l y bytes maxL none [] rm Z (.ref a :: argsL).toArray h Q' rm.cells rm.slots)
    (hd : decode c.code g.pc = .ok (.invokespecial index, 3)) (hs : g.stack = argsL.reverse ++ .ref a :: rest) (hg : g.method = m) (hsz : g.locals.size = maxL0) (hlen : ∀ sig, parseMethodDescriptor y.desc = some sig → argsL.length = sig.parameters.length) (hW : 2 * g.monitorRoom + (rest.map fun v => v.category).sum ≤ W)
    (hy : y.cls ≠ "java/lang/invoke/MethodHandle" ∧ y.cls ≠ "java/lang/invoke/VarHandle") (hf : rm.frames + 1 ≤ R.frames) (hl : W + (maxL + 11) + rm.locals ≤ R.locals) (hc : cells + rm.cells ≤ R.cells) (hsl : slots + rm.slots ≤ R.slots)
    (k : ∀ T' v L, Stand p l e R s m args below meth c T' (locs ++ L) (cells + rm.cells) (slots + rm.slots) → Q' v T'.heap L → GoW p e below s Q C S T' { g with pc := g.pc + 3, stack := v.toList ++ rest }) : GoW p e below s Q C S T g := by
  obtain ⟨v, _, ⟨T1, L1, k1, n1⟩, -, X1, ⟨Lc, hQ, l1, y1, z1⟩, st⟩ := X.specialBack hx (y := y) hy1 hown (mvT hZ w1) (mvT hZ w2) (mvT hZ w4) hy (backOf (W := W) hM hZ w4 w5 hf hl) (g := g) hg (hsz.trans hml.symm) (Steps.refl _) (a := a) (argsL := argsL) (rest := rest) hlen hs hW hd (fun _ _ => ⟨rfl, eT, hc, hsl⟩)
  dsimp only [Pt.U, Pt.locs, Pt.cells, Pt.slots] at X1 l1 y1 z1 st hQ
  subst l1 y1 z1
  exact gw_tr st (k _ _ _ X1 hQ)
theorem gw_getF (X : Stand p l e R s m args below meth c T locs cells slots) (hx : p.tables.exec = Jvm.exec) (hZ : Z.Warmed39 s.vm) {own R0 O n d host : String} {index : Nat} (hown : s.vm.findClass own = some m.cls) (w : (Cond.fieldLink own index R0 n d).before a0 Z = true ∨ (Cond.fieldLinkNest own index R0 n d host).before a0 Z = true) (via : Via Z R0 O n d)
    (eT : T.heap = h) {a : Addr} {v : Value} (F : Fld Z h a O n d v) {rest : List Value} (hd : decode c.code g.pc = .ok (.getfield index, 3)) (hg : g.method = m) (hs : g.stack = .ref a :: rest)
    (k : ∀ T', Stand p l e R s m args below meth c T' locs cells slots → T'.heap = h → GoW p e below s Q C S T' { g with pc := g.pc + 3, stack := v :: rest }) : GoW p e below s Q C S T g := by
  obtain ⟨T1, X1, e1, st⟩ := getF X hx hZ hown w via eT F hg hs hd
  exact gw_st st (k _ X1 e1)
theorem gw_getS (X : Stand p l e R s m args below meth c T locs cells slots) (hx : p.tables.exec = Jvm.exec) (hZ : Z.Warmed39 s.vm) {own R0 O n d host : String} {index : Nat} (hown : s.vm.findClass own = some m.cls) (w : (Cond.fieldLink own index R0 n d).before a0 Z = true ∨ (Cond.fieldLinkNest own index R0 n d host).before a0 Z = true) (via : Via Z R0 O n d)
    (eT : T.heap = h) {v : Value} (F : Sta Z h O n d v) (hd : decode c.code g.pc = .ok (.getstatic index, 3)) (hg : g.method = m)
    (k : ∀ T', Stand p l e R s m args below meth c T' locs cells slots → T'.heap = h → GoW p e below s Q C S T' { g with pc := g.pc + 3, stack := v :: g.stack }) : GoW p e below s Q C S T g := by
  obtain ⟨T1, X1, e1, st⟩ := getS2 X hx hZ hown w via eT F hg hd
  exact gw_st st (k _ X1 e1)
theorem gw_putF (X : Stand p l e R s m args below meth c T locs cells slots) (hx : p.tables.exec = Jvm.exec) (hZ : Z.Warmed39 s.vm) {own R0 O n d host K : String} {index kk : Nat} {ty : FieldType} (hown : s.vm.findClass own = some m.cls) (w : (Cond.fieldLink own index R0 n d).before a0 Z = true ∨ (Cond.fieldLinkNest own index R0 n d host).before a0 Z = true) (via : Via Z R0 O n d)
    (eT : T.heap = h) {a : Addr} {v old : Value} (F : Fld Z h a O n d old) (E : Exa Z h a K) (L : (Cond.lays K O n d).before a0 Z = true ∨ ((Cond.laysFinal K O n d).before a0 Z = true ∧ own = O ∧ meth.name = "<init>")) (wi : (Cond.instantiable K kk).before a0 Z = true)
    (hty : parseFieldDescriptor d = some ty) (hn : narrow ty v = v) (hf : fits ty v = true) {rest : List Value} (hd : decode c.code g.pc = .ok (.putfield index, 3)) (hg : g.method = m) (hs : g.stack = v :: .ref a :: rest)
    (k : ∀ T' h', Stand p l e R s m args below meth c T' (locs ++ [⟨a, Jvm.RoadKit.slotOf Z O n d⟩]) cells slots → T'.heap = h' → Wr h h' a (Jvm.RoadKit.slotOf Z O n d) v → GoW p e below s Q C S T' { g with pc := g.pc + 3, stack := rest }) : GoW p e below s Q C S T g := by
  obtain ⟨T1, h1, X1, e1, W1, st⟩ := putF X hx hZ hown w via eT F E L wi hty hn hf hg hs hd
  exact gw_st st (k _ _ X1 e1 W1)
theorem gw_newO (X : Stand p l e R s m args below meth c T locs cells slots) (hx : p.tables.exec = Jvm.exec) (hZ : Z.Warmed39 s.vm) {own K : String} {index n : Nat} (hown : s.vm.findClass own = some m.cls) (w : (Cond.classLink own index K).before a0 Z = true) (wi : (Cond.instantiable K n).before a0 Z = true) (wz : (Cond.initialized K).before a0 Z = true) (eT : T.heap = h)
    (hd : decode c.code g.pc = .ok (.new index, 3)) (hg : g.method = m) (hc : cells + 1 ≤ R.cells) (hl : slots + n ≤ R.slots)
    (k : ∀ T' h' a, a = h.size → Stand p l e R s m args below meth c T' locs (cells + 1) (slots + n) → T'.heap = h' → Ext h h' → Exa Z h' a K → (∀ {O nm d : String} {ty : FieldType}, Laid Z a0 K O nm d → parseFieldDescriptor d = some ty → Fld Z h' a O nm d (defaultValue ty)) → GoW p e below s Q C S T' { g with pc := g.pc + 3, stack := .ref a :: g.stack }) : GoW p e below s Q C S T g := by
  obtain ⟨T1, h1, X1, e1, E1, A1, D1, -, st⟩ := newO X hx hZ hown w wi wz eT hg hd hc hl
  exact gw_st st (k _ _ _ rfl X1 e1 E1 A1 D1)
theorem gw_initO (X : Stand p l e R s m args below meth c T locs cells slots) (hx : p.tables.exec = Jvm.exec) (hZ : Z.Warmed39 s.vm) (hml : c.maxLocals = maxL0) {own : String} {idx : Nat} (hown : s.vm.findClass own = some m.cls) (w1 : (Cond.methodLink own idx Lib.objectInit).before a0 Z = true) (w2 : (Cond.instanceMethod Lib.objectInit).before a0 Z = true)
    (w3 : (Cond.code Lib.objectInit ⟨#[0xb1]⟩ 1 none).before a0 Z = true) (eT : T.heap = h) {a : Addr} {rest : List Value} (hd : decode c.code g.pc = .ok (.invokespecial idx, 3)) (hg : g.method = m) (hsz : g.locals.size = maxL0) (hs : g.stack = .ref a :: rest)
    (hf : 1 ≤ R.frames) {W : Nat} (hW : 2 * g.monitorRoom + (rest.map fun v => v.category).sum ≤ W) (hl : W + 12 ≤ R.locals)
    (k : ∀ T', Stand p l e R s m args below meth c T' locs cells slots → T'.heap = h → GoW p e below s Q C S T' { g with pc := g.pc + 3, stack := rest }) : GoW p e below s Q C S T g := by
  obtain ⟨T1, X1, e1, st⟩ := initO X hx hZ hown w1 w2 w3 eT hg (hsz.trans hml.symm) hs hd hf hW hl
  exact gw_st st (k _ X1 e1)
theorem gw_alen (X : Stand p l e R s m args below meth c T locs cells slots) (hx : p.tables.exec = Jvm.exec) (hZ : Z.Warmed39 s.vm) (eT : T.heap = h) {a : Addr} {ty : FieldType} {n : Nat} {f : Nat → Value} (A : GA Z h a ty n f) {rest : List Value}
    (hd : decode c.code g.pc = .ok (.arraylength, 1)) (hg : g.method = m) (hs : g.stack = .ref a :: rest) (w : Int32) (hw : Nat.toInt32 n = w) (k : GoW p e below s Q C S T { g with pc := g.pc + 1, stack := .int w :: rest }) : GoW p e below s Q C S T g := by
  obtain ⟨cl, A1, rfl, -, -⟩ := A
  subst hw
  exact gw_st (fun t => X.arraylength hx (by rw [eT]; exact A1.1) (State.isArrayOf_alike hZ.alike A1.2.1) hg hs hd t) k
theorem gw_iald (X : Stand p l e R s m args below meth c T locs cells slots) (hx : p.tables.exec = Jvm.exec) (hZ : Z.Warmed39 s.vm) (eT : T.heap = h) {a : Addr} {n : Nat} {f : Nat → Value} (A : GA Z h a .int n f) {j : Int32} {rest : List Value}
    (hd : decode c.code g.pc = .ok (.iaload, 1)) (hg : g.method = m) (hs : g.stack = .int j :: .ref a :: rest) (q : 0 ≤ j.toInt ∧ j.toInt < n) (w : Value) (hw : f j.toNatClampNeg = w) (k : GoW p e below s Q C S T { g with pc := g.pc + 1, stack := w :: rest }) : GoW p e below s Q C S T g := by
  obtain ⟨cl, A1, rfl, -, A4⟩ := A
  have q2 := own_in q
  refine gw_st (fun t => X.iaload hx (j := j) (v := w) (by rw [eT]; exact A1.1) (State.isArrayOf_alike hZ.alike A1.2.1) A1.2.2 q2 ?_ hg hs hd t) k
  rw [A4 _ (by omega), hw]
theorem gw_lald (X : Stand p l e R s m args below meth c T locs cells slots) (hx : p.tables.exec = Jvm.exec) (hZ : Z.Warmed39 s.vm) (eT : T.heap = h) {a : Addr} {n : Nat} {f : Nat → Value} (A : GA Z h a .long n f) {j : Int32} {rest : List Value}
    (hd : decode c.code g.pc = .ok (.laload, 1)) (hg : g.method = m) (hs : g.stack = .int j :: .ref a :: rest) (q : 0 ≤ j.toInt ∧ j.toInt < n) (w : Value) (hw : f j.toNatClampNeg = w) (k : GoW p e below s Q C S T { g with pc := g.pc + 1, stack := w :: rest }) : GoW p e below s Q C S T g := by
  obtain ⟨cl, A1, rfl, -, A4⟩ := A
  have q2 := own_in q
  refine gw_st (fun t => X.laload hx (j := j) (v := w) (by rw [eT]; exact A1.1) (State.isArrayOf_alike hZ.alike A1.2.1) A1.2.2 q2 ?_ hg hs hd t) k
  rw [A4 _ (by omega), hw]
theorem gw_bald (X : Stand p l e R s m args below meth c T locs cells slots) (hx : p.tables.exec = Jvm.exec) (hZ : Z.Warmed39 s.vm) (eT : T.heap = h) {a : Addr} {n : Nat} {f : Nat → Value} (A : GA Z h a .byte n f) {j : Int32} {rest : List Value}
    (hd : decode c.code g.pc = .ok (.baload, 1)) (hg : g.method = m) (hs : g.stack = .int j :: .ref a :: rest) (q : 0 ≤ j.toInt ∧ j.toInt < n) (w : Value) (hw : f j.toNatClampNeg = w) (k : GoW p e below s Q C S T { g with pc := g.pc + 1, stack := w :: rest }) : GoW p e below s Q C S T g := by
  obtain ⟨cl, A1, rfl, -, A4⟩ := A
  have q2 := own_in q
  refine gw_st (fun t => X.baloadBytes hx (j := j) (v := w) (by rw [eT]; exact A1.1) (State.isArrayOf_alike hZ.alike A1.2.1) A1.2.2 q2 ?_ hg hs hd t) k
  rw [A4 _ (by omega), hw]
theorem gw_cald (X : Stand p l e R s m args below meth c T locs cells slots) (hx : p.tables.exec = Jvm.exec) (hZ : Z.Warmed39 s.vm) (eT : T.heap = h) {a : Addr} {n : Nat} {f : Nat → Value} (A : GA Z h a .char n f) {j : Int32} {rest : List Value}
    (hd : decode c.code g.pc = .ok (.caload, 1)) (hg : g.method = m) (hs : g.stack = .int j :: .ref a :: rest) (q : 0 ≤ j.toInt ∧ j.toInt < n) (w : Value) (hw : f j.toNatClampNeg = w) (k : GoW p e below s Q C S T { g with pc := g.pc + 1, stack := w :: rest }) : GoW p e below s Q C S T g := by
  obtain ⟨cl, A1, rfl, -, A4⟩ := A
  have q2 := own_in q
  refine gw_st (fun t => X.caload hx (j := j) (v := w) (by rw [eT]; exact A1.1) (State.isArrayOf_alike hZ.alike A1.2.1) A1.2.2 q2 ?_ hg hs hd t) k
  rw [A4 _ (by omega), hw]
theorem gw_aald (X : Stand p l e R s m args below meth c T locs cells slots) (hx : p.tables.exec = Jvm.exec) (hZ : Z.Warmed39 s.vm) (eT : T.heap = h) {a : Addr} {ty : FieldType} {n : Nat} {f : Nat → Value} (A : GA Z h a ty n f) (hty : ty.isReference = true) {j : Int32} {rest : List Value}
    (hd : decode c.code g.pc = .ok (.aaload, 1)) (hg : g.method = m) (hs : g.stack = .int j :: .ref a :: rest) (q : 0 ≤ j.toInt ∧ j.toInt < n) (w : Value) (hw : f j.toNatClampNeg = w) (k : GoW p e below s Q C S T { g with pc := g.pc + 1, stack := w :: rest }) : GoW p e below s Q C S T g := by
  obtain ⟨cl, A1, rfl, -, A4⟩ := A
  have q2 := own_in q
  refine gw_st (fun t => X.aaload hx (j := j) (v := w) (by rw [eT]; exact A1.1) (State.isArrayOf_alike hZ.alike A1.2.1) hty A1.2.2 q2 ?_ hg hs hd t) k
  rw [A4 _ (by omega), hw]
theorem gw_iast (X : Stand p l e R s m args below meth c T locs cells slots) (hx : p.tables.exec = Jvm.exec) (hZ : Z.Warmed39 s.vm) (eT : T.heap = h) {a : Addr} {n : Nat} {f : Nat → Value} (A : GA Z h a .int n f) {j x : Int32} {rest : List Value}
    (hd : decode c.code g.pc = .ok (.iastore, 1)) (hg : g.method = m) (hs : g.stack = .int x :: .int j :: .ref a :: rest) (q : 0 ≤ j.toInt ∧ j.toInt < n)
    (k : ∀ T' h', Stand p l e R s m args below meth c T' (locs ++ [⟨a, j.toNatClampNeg⟩]) cells slots → T'.heap = h' → Wr h h' a j.toNatClampNeg (.int x) → GA Z h' a .int n (fun i => if i = j.toNatClampNeg then .int x else f i) → GoW p e below s Q C S T' { g with pc := g.pc + 1, stack := rest }) : GoW p e below s Q C S T g := by
  have A' := A
  obtain ⟨cl, A1, rfl, -, A4⟩ := A
  obtain ⟨T1, h1, X1, e1, W1, st⟩ := stI X hx hZ eT A1 (own_in q) hg hs hd
  exact gw_st st (k _ _ X1 e1 W1 (A'.set W1))
theorem gw_last (X : Stand p l e R s m args below meth c T locs cells slots) (hx : p.tables.exec = Jvm.exec) (hZ : Z.Warmed39 s.vm) (eT : T.heap = h) {a : Addr} {n : Nat} {f : Nat → Value} (A : GA Z h a .long n f) {j : Int32} {x : Int64} {rest : List Value}
    (hd : decode c.code g.pc = .ok (.lastore, 1)) (hg : g.method = m) (hs : g.stack = .long x :: .int j :: .ref a :: rest) (q : 0 ≤ j.toInt ∧ j.toInt < n)
    (k : ∀ T' h', Stand p l e R s m args below meth c T' (locs ++ [⟨a, j.toNatClampNeg⟩]) cells slots → T'.heap = h' → Wr h h' a j.toNatClampNeg (.long x) → GA Z h' a .long n (fun i => if i = j.toNatClampNeg then .long x else f i) → GoW p e below s Q C S T' { g with pc := g.pc + 1, stack := rest }) : GoW p e below s Q C S T g := by
  have A' := A
  obtain ⟨cl, A1, rfl, -, A4⟩ := A
  obtain ⟨T1, h1, X1, e1, W1, st⟩ := stJ X hx hZ eT A1 (own_in q) hg hs hd
  exact gw_st st (k _ _ X1 e1 W1 (A'.set W1))
theorem gw_bast (X : Stand p l e R s m args below meth c T locs cells slots) (hx : p.tables.exec = Jvm.exec) (hZ : Z.Warmed39 s.vm) (eT : T.heap = h) {a : Addr} {n : Nat} {f : Nat → Value} (A : GA Z h a .byte n f) {j x : Int32} {rest : List Value}
    (hd : decode c.code g.pc = .ok (.bastore, 1)) (hg : g.method = m) (hs : g.stack = .int x :: .int j :: .ref a :: rest) (q : 0 ≤ j.toInt ∧ j.toInt < n)
    (k : ∀ T' h', Stand p l e R s m args below meth c T' (locs ++ [⟨a, j.toNatClampNeg⟩]) cells slots → T'.heap = h' → Wr h h' a j.toNatClampNeg (.int x.toInt8.toInt32) → GA Z h' a .byte n (fun i => if i = j.toNatClampNeg then .int x.toInt8.toInt32 else f i) → GoW p e below s Q C S T' { g with pc := g.pc + 1, stack := rest }) : GoW p e below s Q C S T g := by
  have A' := A
  obtain ⟨cl, A1, rfl, -, A4⟩ := A
  obtain ⟨T1, h1, X1, e1, W1, st⟩ := stB X hx hZ eT A1 (own_in q) hg hs hd
  exact gw_st st (k _ _ X1 e1 W1 (A'.set W1))
theorem gw_cast (X : Stand p l e R s m args below meth c T locs cells slots) (hx : p.tables.exec = Jvm.exec) (hZ : Z.Warmed39 s.vm) (eT : T.heap = h) {a : Addr} {n : Nat} {f : Nat → Value} (A : GA Z h a .char n f) {j x : Int32} {rest : List Value}
    (hd : decode c.code g.pc = .ok (.castore, 1)) (hg : g.method = m) (hs : g.stack = .int x :: .int j :: .ref a :: rest) (q : 0 ≤ j.toInt ∧ j.toInt < n)
    (k : ∀ T' h', Stand p l e R s m args below meth c T' (locs ++ [⟨a, j.toNatClampNeg⟩]) cells slots → T'.heap = h' → Wr h h' a j.toNatClampNeg (.int (nar .char x)) → GA Z h' a .char n (fun i => if i = j.toNatClampNeg then .int (nar .char x) else f i) → GoW p e below s Q C S T' { g with pc := g.pc + 1, stack := rest }) : GoW p e below s Q C S T g := by
  have A' := A
  obtain ⟨cl, A1, rfl, -, A4⟩ := A
  obtain ⟨T1, h1, X1, e1, W1, st⟩ := stC X hx hZ eT A1 (own_in q) hg hs hd
  exact gw_st st (k _ _ X1 e1 W1 (A'.set W1))
theorem gw_aast (X : Stand p l e R s m args below meth c T locs cells slots) (hx : p.tables.exec = Jvm.exec) (hZ : Z.Warmed39 s.vm) (eT : T.heap = h) {a : Addr} {ty : FieldType} {n : Nat} {f : Nat → Value} (A : GA Z h a ty n f) (hty : ty.isReference = true) {j : Int32} {v : Value} (F : Sto Z h a v) {rest : List Value}
    (hd : decode c.code g.pc = .ok (.aastore, 1)) (hg : g.method = m) (hs : g.stack = v :: .int j :: .ref a :: rest) (q : 0 ≤ j.toInt ∧ j.toInt < n)
    (k : ∀ T' h', Stand p l e R s m args below meth c T' (locs ++ [⟨a, j.toNatClampNeg⟩]) cells slots → T'.heap = h' → Wr h h' a j.toNatClampNeg v → GA Z h' a ty n (fun i => if i = j.toNatClampNeg then v else f i) → GoW p e below s Q C S T' { g with pc := g.pc + 1, stack := rest }) : GoW p e below s Q C S T g := by
  have A' := A
  obtain ⟨cl, A1, rfl, -, A4⟩ := A
  obtain ⟨T1, h1, X1, e1, W1, st⟩ := stR X hx hZ eT A1 (own_in q) hty F hg hs hd
  exact gw_st st (k _ _ X1 e1 W1 (A'.set W1))
theorem gw_newP (X : Stand p l e R s m args below meth c T locs cells slots) (hx : p.tables.exec = Jvm.exec) (hZ : Z.Warmed39 s.vm) {aty : ArrayType} (w : (Cond.arrayClass (newarray.typeOf aty)).before a0 Z = true) (eT : T.heap = h) {n : Int32} {rest : List Value} (hd : decode c.code g.pc = .ok (.newarray aty, 2)) (hg : g.method = m) (hs : g.stack = .int n :: rest)
    (N : Nat) (hn : n.toInt = N) (cap : Nat) (hcap : N ≤ cap) (hb : cap * 8 ≤ 536870912) (hc : cells + 1 ≤ R.cells) (hl : slots + cap ≤ R.slots)
    (k : ∀ T' h' a, a = h.size → Stand p l e R s m args below meth c T' locs (cells + 1) (slots + cap) → T'.heap = h' → Ext h h' → GA Z h' a (newarray.typeOf aty) N (fun _ => defaultValue (newarray.typeOf aty)) → GoW p e below s Q C S T' { g with pc := g.pc + 2, stack := .ref a :: rest }) : GoW p e below s Q C S T g := by
  have hN := own_clamp hn
  have hn0 := own_nneg hn
  obtain ⟨T1, h1, cA, X1, e1, E1, A1, st⟩ := newP X hx hZ w eT hg hd hs hn0 (cap := cap) (by omega) hb hc hl
  refine gw_st st (k _ _ _ rfl X1 e1 E1 ⟨_, A1, (sz_new _ _ _).trans hN, ?_, fun i hi => ?_⟩)
  · have := (rng32 n).2
    omega
  · show (Array.replicate n.toNatClampNeg (defaultValue _))[i]? = _
    rw [hN, Array.getElem?_replicate, if_pos hi]
theorem gw_newR (X : Stand p l e R s m args below meth c T locs cells slots) (hx : p.tables.exec = Jvm.exec) (hZ : Z.Warmed39 s.vm) {own K : String} {index : Nat} (hown : s.vm.findClass own = some m.cls) (w1 : (Cond.classLink own index K).before a0 Z = true) (w2 : (Cond.arrayOver (.object K)).before a0 Z = true) (eT : T.heap = h) {n : Int32} {rest : List Value} (hd : decode c.code g.pc = .ok (.anewarray index, 3)) (hg : g.method = m) (hs : g.stack = .int n :: rest)
    (N : Nat) (hn : n.toInt = N) (cap : Nat) (hcap : N ≤ cap) (hb : cap * 8 ≤ 536870912) (hc : cells + 1 ≤ R.cells) (hl : slots + cap ≤ R.slots)
    (k : ∀ T' h' a, a = h.size → Stand p l e R s m args below meth c T' locs (cells + 1) (slots + cap) → T'.heap = h' → Ext h h' → GA Z h' a (.object K) N (fun _ => .null) → OC Z h' a (.object K) K → GoW p e below s Q C S T' { g with pc := g.pc + 3, stack := .ref a :: rest }) : GoW p e below s Q C S T g := by
  have hN := own_clamp hn
  have hn0 := own_nneg hn
  obtain ⟨T1, h1, cA, X1, e1, E1, A1, O1, st⟩ := newR X hx hZ hown w1 w2 eT hg hd hs hn0 (cap := cap) (by omega) hb hc hl
  refine gw_st st (k _ _ _ rfl X1 e1 E1 ⟨_, A1, (sz_new _ _ _).trans hN, ?_, fun i hi => ?_⟩ ⟨_, A1, O1⟩)
  · have := (rng32 n).2
    omega
  · show (Array.replicate n.toNatClampNeg (defaultValue _))[i]? = _
    rw [hN, Array.getElem?_replicate, if_pos hi]
    rfl
theorem gw_retN (X : Stand p l e R s m args below meth c T locs cells slots) (hx : p.tables.exec = Jvm.exec) (hlk : meth.locks = false) {t : FieldType} (hret : meth.sig.returnType = some t) (ht : t = .boolean ∨ t = .byte ∨ t = .char ∨ t = .short) {pc : Nat} {Ls : Array Slot} {z w : Int32} {rest : List Value} (hd : decode c.code pc = .ok (.ireturn, 1)) (hw : nar t z = w)
    (hC : cells ≤ C) (hS : slots ≤ S) (hQ : Q (some (.int w)) T.heap locs) : GoW p e below s Q C S T (mkF m pc Ls (.int z :: rest)) := by
  subst hw
  exact gw_end X hlk (fun h => by rw [hret] at h; cases h) (fun fs h1 => retN X hx (t := t) hret ht hd h1) hC hS hQ
end OwnW1
section OwnW2
variable {p : Program} {l : Launch} {e : Env} {R : Room} {s : State} {m : MethodId} {args : Array Value} {below : List Frame} {meth : Method} {c : Code} {T T' : State} {locs : List Loc} {cells slots : Nat} {Z : State} {a0 : Array Value} {h : Heap} {Q : Option Value → Heap → List Loc → Prop} {C S maxL0 : Nat} {g g' : JFrame} {EL : List (String × Nat)}
theorem gw_of (q : Go p e below s Q C S T g) : GoW p e below s Q C S T g := by
  obtain ⟨s2, o, q1, q2, q3, v, L, rfl, q5, hr, hW, hs⟩ := q
  exact ⟨s2, _, q1, q2, q3, v, L, rfl, q5, ReturnedEndW.of_narrow ⟨_, rfl⟩ hW hs⟩
theorem gw_rebase {vm1 : Vm} {n : Nat} (hS : s.Since vm1 n) (hn : n ≤ T.heap.size) (q : GoW p e below (s.setVm vm1) Q C S T g) : GoW p e below s Q C S T g := by
  obtain ⟨s2, o, q1, q2, q3, v, L, rfl, q5, hr, hW, hB, hs⟩ := q
  have hle : T.heap.size ≤ s2.heap.size := q1.heap_le
  obtain ⟨h1, h2⟩ := hS.trans (n₂ := s2.heap.size) ⟨hW, hB⟩ (Nat.le_trans hn hle)
  exact ⟨s2, _, q1, q2, q3, v, L, rfl, q5, ⟨_, rfl⟩, h1, h2, hs.setVm s.vm⟩
def MetW (l : Launch) (y : MethodName) (bytes : ByteArray) (maxL : Nat) (ret : Option FieldType) (ws : List Cond) (rm : Room) (Z : State) (EL : List (String × Nat)) (sa : Addr) (as' : Array Value) (h0 : Heap) (Q : Option Value → Heap → List Loc → Prop) (C S : Nat) : Prop :=
  MetFree l y (head1 (Jvm.Cond.code y bytes maxL ret :: ws) rm) (fun a U => a = as' ∧ Z.Warmed39 U.vm ∧ U.heap = h0 ∧ CHv Z EL U.vm h0 ∧ Safe Z EL U.vm h0 sa) (fun _ _ _ _ _ => True) (fun _ U o U' => ∃ v L, o = .returned v ∧ Q v U'.heap L ∧ ReturnedEndW U o U' L C S)
theorem own_bodyW {y : MethodName} {bytes : ByteArray} {maxL : Nat} {ret : Option FieldType} {rm : Room} {as' : Array Value} {h0 : Heap} {ws : List Cond} {sa : Addr} (hn : plainFor y = true) {C S : Nat}
    (H : ∀ p e s m below meth c s₁, Ct p s m meth c Z y.cls y.name bytes maxL ret → Stand p l e rm s m as' below meth c s₁ [] 0 0 → s₁.heap = h0 → CHv Z EL s.vm h0 → Safe Z EL s.vm h0 sa → GoW p e below s Q C S s₁ (entryFrame m as' maxL)) :
    MetW l y bytes maxL ret ws rm Z EL sa as' h0 Q C S := by
  refine MetFree.of_bodySF hn hisR ?_
  intro p e s m args below meth c s₁ Bd hml0 hP hK
  obtain ⟨rfl, hZ, hh, hC, hSa⟩ := hP
  have hown : s.vm.findClass y.cls = some m.cls := findClass_of_methodNamed Bd.named
  have hnm := (name_of_methodNamed Bd.named Bd.method).1
  have X0 : Stand p l e rm s m args below meth c s₁ [] 0 0 := Stand.of_body Bd
  have e0 : s₁.heap = h0 := by rw [← hh, Bd.state]; rfl
  exact H p e s m below meth c s₁ ⟨Bd.exec, hZ, hown, Bd.bytes, hml0, Bd.returns, Bd.notSynchronized, hnm⟩ X0 e0 hC hSa
theorem own_backW {y : MethodName} {bytes : ByteArray} {maxL : Nat} {ret : Option FieldType} {rm : Room} {len W : Nat} {as' : Array Value} {sa : Addr} (hM : MetW l y bytes maxL ret [] rm Z EL sa as' h Q rm.cells rm.slots)
    (hZ : Z.Warmed39 s.vm) (wc : (Cond.code y bytes maxL ret).before a0 Z = true) (wz : (Cond.initialized y.cls).before a0 Z = true) (hf : rm.frames + 1 ≤ R.frames) (hl : W + (maxL + 11) + rm.locals ≤ R.locals) (hEL : EW Z a0 EL) (H : CHv Z EL s.vm h) (hsa : sa < h.size) (Sa : Safe Z EL s.vm h sa) :
    BackS l R p e below s args y len W (fun A a => a = as' ∧ A.U.heap = h ∧ A.cells + rm.cells ≤ R.cells ∧ A.slots + rm.slots ≤ R.slots)
      (fun A _ v B => ∃ L, Q v B.U.heap L ∧ B.locs = A.locs ++ L ∧ B.cells = A.cells + rm.cells ∧ B.slots = A.slots + rm.slots) := by
  refine BackS.of_freeW (bytes := bytes) (maxL := maxL) (ret := ret) (E := fun _ _ o t L k n => k = rm.cells ∧ n = rm.slots ∧ ∃ v, o = .returned v ∧ Q v t.heap L) hM hf hl ?_ ?_ (fun _ _ _ _ _ _ _ _ _ => trivial) (fun _ _ _ _ ⟨v, L, h1, h2, h3⟩ => ⟨L, _, _, h3, rfl, rfl, v, h1, h2⟩) ?_
  · intro m meth c A a Y hp
    have hU : Z.Warmed39 A.U.vm := wtrans hZ Y.warmed
    refine ⟨?_, mv hU wc, mv hU wz, hp.2.2.1, hp.2.2.2⟩
    show (Cond.and _ .tt).before a A.U = true
    rw [Cond.before_and, mv hU wc]
    rfl
  · intro m meth c A a g mk Y hp
    have Y' : Stand p l e R (s.setVm s.vm) m args below meth c A.U A.locs A.cells A.slots := Y
    have hr := CHv.at (s := s) (vm0 := s.vm) Y' hZ hEL H
    exact ⟨hp.1, wtrans hZ Y.warmed, hp.2.1, hr.1, hr.safe hsa Sa⟩
  · intro m meth c A a g mk v t L k n Y hp _ _ q
    obtain ⟨e1, e2, v', e3, e4⟩ := q
    cases e3
    subst e1 e2
    exact ⟨L, e4, rfl, rfl, rfl⟩
theorem gw_callIW (X : Stand p l e R s m args below meth c T locs cells slots) (hx : p.tables.exec = Jvm.exec) (hZ : Z.Warmed39 s.vm) (hml : c.maxLocals = maxL0) {own : String} {index : Nat} {y : MethodName} {bytes : ByteArray} {maxL : Nat} (hown : s.vm.findClass own = some m.cls) (hy1 : y.name = "<init>")
    (w1 : (Cond.methodLink own index y).before a0 Z = true) (w2 : (Cond.instanceMethod y).before a0 Z = true) (w4 : (Cond.code y bytes maxL none).before a0 Z = true) (w5 : (Cond.initialized y.cls).before a0 Z = true) (eT : T.heap = h) (hEL : EW Z a0 EL) (H : CHv Z EL s.vm h) {a : Addr} (hsa : a < h.size) (Sa : Safe Z EL s.vm h a) {argsL rest : List Value} {rm : Room} {Q' : Option Value → Heap → List Loc → Prop} {W : Nat}
    (hM : MetW l y bytes maxL none [] rm Z EL a (.ref a :: argsL).toArray h Q' rm.cells rm.slots)
    (hd : decode c.code g.pc = .ok (.invokespecial index, 3)) (hs : g.stack = argsL.reverse ++ .ref a :: rest) (hg : g.method = m) (hsz : g.locals.size = maxL0) (hlen : ∀ sig, parseMethodDescriptor y.desc = some sig → argsL.length = sig.parameters.length) (hW : 2 * g.monitorRoom + (rest.map fun v => v.category).sum ≤ W)
    (hy : y.cls ≠ "java/lang/invoke/MethodHandle" ∧ y.cls ≠ "java/lang/invoke/VarHandle") (hf : rm.frames + 1 ≤ R.frames) (hl : W + (maxL + 11) + rm.locals ≤ R.locals) (hc : cells + rm.cells ≤ R.cells) (hsl : slots + rm.slots ≤ R.slots)
    (k : ∀ s' T' v L, Z.Warmed39 s'.vm → s'.vm.findClass own = some m.cls → Stand p l e R s' m args below meth c T' (locs ++ L) (cells + rm.cells) (slots + rm.slots) → Q' v T'.heap L → GoW p e below s' Q C S T' { g with pc := g.pc + 3, stack := v.toList ++ rest }) : GoW p e below s Q C S T g := by
  obtain ⟨v, _, ⟨T1, L1, k1, n1⟩, -, X1, hS, hgr, ⟨Lc, hQ, l1, y1, z1⟩, st⟩ := X.specialBackS hx (y := y) hy1 hown (mvT hZ w1) (mvT hZ w2) (mvT hZ w4) hy (own_backW (W := W) hM hZ w4 w5 hf hl hEL H hsa Sa) (g := g) hg (hsz.trans hml.symm) (Steps.refl _) (a := a) (argsL := argsL) (rest := rest) hlen hs hW hd (fun _ _ => ⟨rfl, eT, hc, hsl⟩)
  dsimp only [Pt.U, Pt.locs, Pt.cells, Pt.slots] at X1 hS hgr l1 y1 z1 st hQ
  subst l1 y1 z1
  exact gw_tr st (gw_rebase hS (Nat.le_refl _) (k (s.setVm T1.vm) T1 v Lc (State.Warmed39.trans hZ hS.1) ((hS.1.alike.findClass _ _).trans hown) X1 hQ))
theorem gw_ldcE (X : Stand p l e R s m args below meth c T locs cells slots) (hx : p.tables.exec = Jvm.exec) (hZ : Z.Warmed39 s.vm) {own : String} {index : Nat} (hown : s.vm.findClass own = some m.cls) (w : (Cond.stringLink own index "").before a0 Z = true) (wS : ∀ a ∈ Bundle.stringAtoms, a.before a0 Z = true)
    (eT : T.heap = h) (hEL : EW Z a0 EL) (hmem : (own, index) ∈ EL) (H : CHv Z EL s.vm h) (hd : decode c.code g.pc = .ok (.ldc index, 2)) (hg : g.method = m) (hc : cells + 2 ≤ R.cells) (hl : slots + 4 ≤ R.slots)
    (k : ∀ s' T' h' a b, Z.Warmed39 s'.vm → s'.vm.findClass own = some m.cls → Stand p l e R s' m args below meth c T' locs (cells + 2) (slots + 4) → T'.heap = h' → Ext h h' → Exa Z h' a "java/lang/String" → Fld Z h' a "java/lang/String" "coder" "B" (.int 0) → Fld Z h' a "java/lang/String" "value" "[B" (.ref b) → GA Z h' b .byte 0 (fun _ => .null) → Lit s' own index a → (∀ x, x < h.size → Safe Z EL s.vm h x → x ≠ a ∧ x ≠ b) → GoW p e below s' Q C S T' { g with pc := g.pc + 2, stack := .ref a :: g.stack }) : GoW p e below s Q C S T g := by
  have X0 : Stand p l e R (s.setVm s.vm) m args below meth c T locs cells slots := X
  obtain ⟨a, T', h', k1, b, kk, X1, e1, E1, hS, hk1, hW, hf, A1, A2, A3, A4, la, lb, hC, hL, hsafe, st⟩ := ldcCH (s := s) (vm0 := s.vm) X0 hx hZ hown w wS eT (k0 := 0) ((State.WarmedH.refl s).since 0) (Nat.zero_le _) hEL hmem H (vs := []) (z := 0) ⟨by simp, rfl⟩ (by decide) rfl hg hd (n := 0) (by decide) (by decide) hc hl
  obtain ⟨cl, B1, -, B3, -⟩ := A4
  exact gw_st st (gw_rebase hS (by rw [e1]; exact hk1) (k (s.setVm T'.vm) T' h' a b hW hf X1 e1 E1 A1 A2 A3 ⟨cl, B1, B3.trans rfl, by decide, fun i hi => absurd hi (Nat.not_lt_zero _)⟩ hL (fun x hx hs => hsafe x (hC.safe hx hs))))
theorem gw_ldcA (X : Stand p l e R s m args below meth c T locs cells slots) (hx : p.tables.exec = Jvm.exec) (hZ : Z.Warmed39 s.vm) {own text : String} {index : Nat} (hown : s.vm.findClass own = some m.cls) (w : (Cond.stringLink own index text).before a0 Z = true) {a : Addr} (L : Lit s own index a)
    (hd : decode c.code g.pc = .ok (.ldc index, 2)) (hg : g.method = m) (k : GoW p e below s Q C S T { g with pc := g.pc + 2, stack := .ref a :: g.stack }) : GoW p e below s Q C S T g := by
  have X0 : Stand p l e R (s.setVm s.vm) m args below meth c T locs cells slots := X
  have L0 : Lit (s.setVm s.vm) own index a := L
  exact gw_st (ldcAgain (s := s) (vm0 := s.vm) X0 hx hZ hown w L0 hg hd) k
theorem own_exaga {x b : Addr} {K : String} {n : Nat} {ty : FieldType} {f : Nat → Value} (E : Exa Z h x K) (A : GA Z h b ty 0 f) (w : (Cond.instantiable K n).before a0 Z = true) : x ≠ b := by
  obtain ⟨k, B⟩ := own_arv (dv := .null) A (fun i hi => absurd hi (Nat.not_lt_zero _)) (z := 0) rfl
  exact Exa.neArv E B w
theorem own_safeA {x : Addr} {ty : FieldType} {n : Nat} {f : Nat → Value} {vm : Vm} (hZ : Z.Warmed39 vm) (A : GA Z h x ty n f) (ht : ty ≠ .byte) : Safe Z EL vm h x := by
  obtain ⟨cl, A1, -⟩ := A
  exact Safe.arr hZ.alike A1 ht
end OwnW2

def own_c3 (x y z : Int32) : Nat → Int32
  | 0 => x
  | 1 => y
  | 2 => z
  | _ => 0
def own_by (x : Int32) : Int32 := x.toInt8.toInt32
def Lat (x : Int32) : Prop := ∃ k : Nat, k < 256 ∧ x = Int32.ofNat k
theorem own_lat (x : Int32) : Lat (x &&& (255 : Int32)) := by
  have h := c_mask x 255 8 (by decide) (by decide)
  refine ⟨(x &&& (255 : Int32)).toInt.toNat, by omega, ?_⟩
  apply Int32.toInt_inj.mp
  rw [Int32.toInt_ofNat_of_lt (by omega)]
  omega
theorem own_i2cT : ∀ k : Nat, k < 256 → (Int32.ofNat k).toUInt32.toUInt16.toUInt32.toInt32 = Int32.ofNat k := by decide +kernel
theorem own_by2T : ∀ k : Nat, k < 256 → ((Int32.ofNat k).toInt8.toInt32).toInt8.toInt32 = (Int32.ofNat k).toInt8.toInt32 := by decide +kernel
theorem own_chrT : ∀ k : Nat, k < 256 → (((Int32.ofNat k).toInt8.toInt32) &&& (255 : Int32)).toUInt32.toUInt16.toUInt32.toInt32.toUInt32.toUInt16.toUInt32.toInt32 = Int32.ofNat k := by decide +kernel
theorem own_leT : ∀ k : Nat, k < 256 → ¬ ((255 : Int32) < Int32.ofNat k) := by decide +kernel
theorem own_i2c (x : Int32) : (x &&& (255 : Int32)).toUInt32.toUInt16.toUInt32.toInt32 = x &&& (255 : Int32) := by
  obtain ⟨k, h1, h2⟩ := own_lat x
  rw [h2]
  exact own_i2cT k h1
theorem own_nc {x : Int32} (h : Lat x) : nar .char x = x := by
  obtain ⟨k, h1, rfl⟩ := h
  exact own_i2cT k h1
theorem own_by2 {x : Int32} (h : Lat x) : (x.toInt8.toInt32).toInt8.toInt32 = own_by x := by
  obtain ⟨k, h1, rfl⟩ := h
  exact own_by2T k h1
theorem own_chr {x : Int32} (h : Lat x) : nar .char ((own_by x &&& (255 : Int32)).toUInt32.toUInt16.toUInt32.toInt32) = x := by
  obtain ⟨k, h1, rfl⟩ := h
  exact own_chrT k h1
theorem own_le255 {x : Int32} (h : Lat x) : ¬ ((255 : Int32) < x) := by
  obtain ⟨k, h1, rfl⟩ := h
  exact own_leT k h1
theorem own_z3 (i : Nat) : Value.int 0 = Value.int (own_c3 0 0 0 i) := by
  match i with
  | 0 => rfl
  | 1 => rfl
  | 2 => rfl
  | n + 3 => rfl
theorem own_c30 (w x y z : Int32) (i : Nat) : own_c3 w y z i = if i = 0 then w else own_c3 x y z i := by
  match i with
  | 0 => rfl
  | 1 => rfl
  | 2 => rfl
  | n + 3 => rfl
theorem own_c31 (w x y z : Int32) (i : Nat) : own_c3 x w z i = if i = 1 then w else own_c3 x y z i := by
  match i with
  | 0 => rfl
  | 1 => rfl
  | 2 => rfl
  | n + 3 => rfl
theorem own_c32 (w x y z : Int32) (i : Nat) : own_c3 x y w i = if i = 2 then w else own_c3 x y z i := by
  match i with
  | 0 => rfl
  | 1 => rfl
  | 2 => rfl
  | n + 3 => rfl
theorem own_stc {Z : State} {h : Heap} {a : Addr} {ty : FieldType} {n q : Nat} {x x' j : Int32} {f f' : Nat → Int32} (hx : x = x') (hj : j.toNatClampNeg = q) (hf : ∀ i, f' i = if i = q then x' else f i) (G : GA Z h a ty n (fun i => if i = j.toNatClampNeg then .int x else (fun i => .int (f i)) i)) : GA Z h a ty n (fun i => .int (f' i)) := by
  subst hx hj
  refine G.congr fun i _ => ?_
  rw [hf]
  dsimp only
  split <;> rfl
theorem own_mem : ("java/lang/String", 7) ∈ consts_1 := by simp [consts_1]
theorem own_EL (Z : State) (a0 : Array Value) (hw : ∀ d ∈ tables_1, d.before a0 Z = true) : EW Z a0 consts_1 :=
  EW.cons (hw _ (List.mem_of_getElem? (i := 18) rfl)) (by simp) EW.nil
theorem own_wS (Z : State) (a0 : Array Value) (hw : ∀ d ∈ tables_1, d.before a0 Z = true) : ∀ a ∈ Bundle.stringAtoms, a.before a0 Z = true := by
  intro d hd
  simp only [Bundle.stringAtoms, List.mem_cons, List.not_mem_nil, or_false] at hd
  rcases hd with rfl | rfl | rfl | rfl | rfl | rfl | rfl
  · exact (hw _ (List.mem_of_getElem? (i := 7) rfl))
  · exact (hw _ (List.mem_of_getElem? (i := 6) rfl))
  · exact (hw _ (List.mem_of_getElem? (i := 19) rfl))
  · exact (hw _ (List.mem_of_getElem? (i := 20) rfl))
  · exact (hw _ (List.mem_of_getElem? (i := 21) rfl))
  · exact (hw _ (List.mem_of_getElem? (i := 22) rfl))
  · exact (hw _ (List.mem_of_getElem? (i := 23) rfl))

theorem d10_0 : decode jdk_52_method_21_code 0 = .ok (.iconst 0, 1) := by decide +kernel
theorem d10_1 : decode jdk_52_method_21_code 1 = .ok (.istore 5, 2) := by decide +kernel
theorem d10_3 : decode jdk_52_method_21_code 3 = .ok (.iload 5, 2) := by decide +kernel
theorem d10_5 : decode jdk_52_method_21_code 5 = .ok (.iload 4, 2) := by decide +kernel
theorem d10_7 : decode jdk_52_method_21_code 7 = .ok (.if_icmp .ge 37, 3) := by decide +kernel
theorem d10_10 : decode jdk_52_method_21_code 10 = .ok (.aload_n 0, 1) := by decide +kernel
theorem d10_11 : decode jdk_52_method_21_code 11 = .ok (.iload_n 1, 1) := by decide +kernel
theorem d10_12 : decode jdk_52_method_21_code 12 = .ok (.caload, 1) := by decide +kernel
theorem d10_13 : decode jdk_52_method_21_code 13 = .ok (.istore 6, 2) := by decide +kernel
theorem d10_15 : decode jdk_52_method_21_code 15 = .ok (.iload 6, 2) := by decide +kernel
theorem d10_17 : decode jdk_52_method_21_code 17 = .ok (.sipush 255, 3) := by decide +kernel
theorem d10_20 : decode jdk_52_method_21_code 20 = .ok (.if_icmp .le 6, 3) := by decide +kernel
theorem d10_23 : decode jdk_52_method_21_code 23 = .ok (.iload 5, 2) := by decide +kernel
theorem d10_25 : decode jdk_52_method_21_code 25 = .ok (.ireturn, 1) := by decide +kernel
theorem d10_26 : decode jdk_52_method_21_code 26 = .ok (.aload_n 2, 1) := by decide +kernel
theorem d10_27 : decode jdk_52_method_21_code 27 = .ok (.iload_n 3, 1) := by decide +kernel
theorem d10_28 : decode jdk_52_method_21_code 28 = .ok (.iload 6, 2) := by decide +kernel
theorem d10_30 : decode jdk_52_method_21_code 30 = .ok (.i2b, 1) := by decide +kernel
theorem d10_31 : decode jdk_52_method_21_code 31 = .ok (.bastore, 1) := by decide +kernel
theorem d10_32 : decode jdk_52_method_21_code 32 = .ok (.iinc 1 1, 3) := by decide +kernel
theorem d10_35 : decode jdk_52_method_21_code 35 = .ok (.iinc 3 1, 3) := by decide +kernel
theorem d10_38 : decode jdk_52_method_21_code 38 = .ok (.iinc 5 1, 3) := by decide +kernel
theorem d10_41 : decode jdk_52_method_21_code 41 = .ok (.goto (-38), 3) := by decide +kernel
theorem d10_44 : decode jdk_52_method_21_code 44 = .ok (.iload 4, 2) := by decide +kernel
theorem d10_46 : decode jdk_52_method_21_code 46 = .ok (.ireturn, 1) := by decide +kernel
theorem pn0 : plainFor (⟨"java/lang/StringUTF16", "compress", "([CI[BII)I"⟩ : MethodName) = true := by first | (refine plainFor_of_name ?_; simp [plainName, overriddenIn]; done) | (refine plainFor_of_name ?_; decide +kernel) | decide +kernel
def Q_cpi1 (Z : State) (a : Addr) (b : Addr) (va : Int32) (h0 : Heap) (n0 : Nat) (v : Option Value) (h : Heap) (L : List Loc) : Prop := v = some (.int (1 : Int32)) ∧ Fr n0 L ∧ Keep h0 h [b] ∧ GA Z h b .byte 1 (fun i => .int (own_c3 (own_by va) (0 : Int32) (0 : Int32) i))
theorem ef_cpi1 (m : MethodId) (a : Addr) (b : Addr) (va : Int32) : entryFrame m #[(.ref a), (.int (0 : Int32)), (.ref b), (.int (0 : Int32)), (.int (1 : Int32))] 7 = mkF m 0 #[.val (.ref a), .val (.int (0 : Int32)), .val (.ref b), .val (.int (0 : Int32)), .val (.int (1 : Int32)), .unset, .unset] [] := by first | (simp [entryFrame, mkF, argsToLocals, Value.category]; done) | rfl
abbrev rm_cpi1 : Room := ({ frames := 0, cells := 0, slots := 0, locals := 0 } : Room)
set_option maxRecDepth 65536 in
set_option maxHeartbeats 4000000 in
theorem met_cpi1 (l : Launch) (Z : State) (a0 : Array Value) (hw : ∀ d ∈ tables_1, d.before a0 Z = true) (a : Addr) (b : Addr) (va : Int32) (h0 : Heap) (n0 : Nat) (Z0 : n0 ≤ h0.size) (P0 : GA Z h0 a .char 1 (fun i => .int (own_c3 va (0 : Int32) (0 : Int32) i))) (P1 : GA Z h0 b .byte 1 (fun i => .int (own_c3 (0 : Int32) (0 : Int32) (0 : Int32) i))) (P2 : n0 ≤ b) (P3 : a ≠ b) (P4 : Lat va) :
    Met l (⟨"java/lang/StringUTF16", "compress", "([CI[BII)I"⟩ : MethodName) jdk_52_method_21_code 7 (some FieldType.int) [] rm_cpi1 Z #[(.ref a), (.int (0 : Int32)), (.ref b), (.int (0 : Int32)), (.int (1 : Int32))] h0 (Q_cpi1 Z a b va h0 n0) rm_cpi1.cells rm_cpi1.slots := by
  refine own_body pn0 ?_
  intro p e s m below meth c s₁ ct X0 e0
  have ct0 := ct
  obtain ⟨hx, hZ, hown, hby, hml, hret, hlk, hnm⟩ := ct
  have lt_a : a < h0.size := P0.lt
  have lt_b : b < h0.size := P1.lt
  have N0 := Fr.nil n0
  refine castGo (ef_cpi1 m a b va) ?_
  show Go p e below s _ _ _ s₁ (mkF m 0 #[.val (.ref a), .val (.int (0 : Int32)), .val (.ref b), .val (.int (0 : Int32)), .val (.int (1 : Int32)), .unset, .unset] [])
  refine go_st (fun _ kq => XT.iconstV X0.here hx rfl (0 : Int32) (hb hby d10_0) (by decide) kq) ?_
  show Go p e below s _ _ _ s₁ (mkF m 1 #[.val (.ref a), .val (.int (0 : Int32)), .val (.ref b), .val (.int (0 : Int32)), .val (.int (1 : Int32)), .unset, .unset] [(.int (0 : Int32))])
  refine go_st (fun _ kq => XS.istore X0.here hx rfl (hb hby d10_1) rfl (l' := #[.val (.ref a), .val (.int (0 : Int32)), .val (.ref b), .val (.int (0 : Int32)), .val (.int (1 : Int32)), .val (.int (0 : Int32)), .unset]) rfl kq) ?_
  show Go p e below s _ _ _ s₁ (mkF m 3 #[.val (.ref a), .val (.int (0 : Int32)), .val (.ref b), .val (.int (0 : Int32)), .val (.int (1 : Int32)), .val (.int (0 : Int32)), .unset] [])
  refine go_st (fun _ kq => XS.iload X0.here hx rfl (hb hby d10_3) rfl kq) ?_
  show Go p e below s _ _ _ s₁ (mkF m 5 #[.val (.ref a), .val (.int (0 : Int32)), .val (.ref b), .val (.int (0 : Int32)), .val (.int (1 : Int32)), .val (.int (0 : Int32)), .unset] [(.int (0 : Int32))])
  refine go_st (fun _ kq => XS.iload X0.here hx rfl (hb hby d10_5) rfl kq) ?_
  show Go p e below s _ _ _ s₁ (mkF m 7 #[.val (.ref a), .val (.int (0 : Int32)), .val (.ref b), .val (.int (0 : Int32)), .val (.int (1 : Int32)), .val (.int (0 : Int32)), .unset] [(.int (1 : Int32)), (.int (0 : Int32))])
  refine go_st (fun _ kq => XS.icmpNo X0.here hx rfl (hb hby d10_7) rfl (XT.ii_ge_f (by decide)) kq) ?_
  show Go p e below s _ _ _ s₁ (mkF m 10 #[.val (.ref a), .val (.int (0 : Int32)), .val (.ref b), .val (.int (0 : Int32)), .val (.int (1 : Int32)), .val (.int (0 : Int32)), .unset] [])
  refine go_st (fun _ kq => XS.aloadN X0.here hx rfl (hb hby d10_10) rfl rfl kq) ?_
  show Go p e below s _ _ _ s₁ (mkF m 11 #[.val (.ref a), .val (.int (0 : Int32)), .val (.ref b), .val (.int (0 : Int32)), .val (.int (1 : Int32)), .val (.int (0 : Int32)), .unset] [(.ref a)])
  refine go_st (fun _ kq => XS.iloadN X0.here hx rfl (hb hby d10_11) rfl kq) ?_
  show Go p e below s _ _ _ s₁ (mkF m 12 #[.val (.ref a), .val (.int (0 : Int32)), .val (.ref b), .val (.int (0 : Int32)), .val (.int (1 : Int32)), .val (.int (0 : Int32)), .unset] [(.int (0 : Int32)), (.ref a)])
  refine go_cald X0 hx hZ e0 P0 (hb hby d10_12) rfl rfl (by decide) (.int va) rfl ?_
  show Go p e below s _ _ _ s₁ (mkF m 13 #[.val (.ref a), .val (.int (0 : Int32)), .val (.ref b), .val (.int (0 : Int32)), .val (.int (1 : Int32)), .val (.int (0 : Int32)), .unset] [(.int va)])
  refine go_st (fun _ kq => XS.istore X0.here hx rfl (hb hby d10_13) rfl (l' := #[.val (.ref a), .val (.int (0 : Int32)), .val (.ref b), .val (.int (0 : Int32)), .val (.int (1 : Int32)), .val (.int (0 : Int32)), .val (.int va)]) rfl kq) ?_
  show Go p e below s _ _ _ s₁ (mkF m 15 #[.val (.ref a), .val (.int (0 : Int32)), .val (.ref b), .val (.int (0 : Int32)), .val (.int (1 : Int32)), .val (.int (0 : Int32)), .val (.int va)] [])
  refine go_st (fun _ kq => XS.iload X0.here hx rfl (hb hby d10_15) rfl kq) ?_
  show Go p e below s _ _ _ s₁ (mkF m 17 #[.val (.ref a), .val (.int (0 : Int32)), .val (.ref b), .val (.int (0 : Int32)), .val (.int (1 : Int32)), .val (.int (0 : Int32)), .val (.int va)] [(.int va)])
  refine go_st (fun _ kq => XT.sipushV X0.here hx rfl (255 : Int32) (hb hby d10_17) (by decide) kq) ?_
  show Go p e below s _ _ _ s₁ (mkF m 20 #[.val (.ref a), .val (.int (0 : Int32)), .val (.ref b), .val (.int (0 : Int32)), .val (.int (1 : Int32)), .val (.int (0 : Int32)), .val (.int va)] [(.int (255 : Int32)), (.int va)])
  have hb1 : ¬ ((255 : Int32) < va) := by exact own_le255 P4
  refine go_st (fun _ kq => XS.icmpYes X0.here hx rfl (pc0 := 20) (pc' := 26) rfl (hb hby d10_20) rfl (XT.ii_le_t hb1) (by decide) (by decide) kq) ?_
  show Go p e below s _ _ _ s₁ (mkF m 26 #[.val (.ref a), .val (.int (0 : Int32)), .val (.ref b), .val (.int (0 : Int32)), .val (.int (1 : Int32)), .val (.int (0 : Int32)), .val (.int va)] [])
  refine go_st (fun _ kq => XS.aloadN X0.here hx rfl (hb hby d10_26) rfl rfl kq) ?_
  show Go p e below s _ _ _ s₁ (mkF m 27 #[.val (.ref a), .val (.int (0 : Int32)), .val (.ref b), .val (.int (0 : Int32)), .val (.int (1 : Int32)), .val (.int (0 : Int32)), .val (.int va)] [(.ref b)])
  refine go_st (fun _ kq => XS.iloadN X0.here hx rfl (hb hby d10_27) rfl kq) ?_
  show Go p e below s _ _ _ s₁ (mkF m 28 #[.val (.ref a), .val (.int (0 : Int32)), .val (.ref b), .val (.int (0 : Int32)), .val (.int (1 : Int32)), .val (.int (0 : Int32)), .val (.int va)] [(.int (0 : Int32)), (.ref b)])
  refine go_st (fun _ kq => XS.iload X0.here hx rfl (hb hby d10_28) rfl kq) ?_
  show Go p e below s _ _ _ s₁ (mkF m 30 #[.val (.ref a), .val (.int (0 : Int32)), .val (.ref b), .val (.int (0 : Int32)), .val (.int (1 : Int32)), .val (.int (0 : Int32)), .val (.int va)] [(.int va), (.int (0 : Int32)), (.ref b)])
  refine go_st (fun _ kq => XT.i2b X0.here hx rfl (hb hby d10_30) rfl kq) ?_
  show Go p e below s _ _ _ s₁ (mkF m 31 #[.val (.ref a), .val (.int (0 : Int32)), .val (.ref b), .val (.int (0 : Int32)), .val (.int (1 : Int32)), .val (.int (0 : Int32)), .val (.int va)] [(.int va.toInt8.toInt32), (.int (0 : Int32)), (.ref b)])
  refine go_bast X0 hx hZ e0 P1 (hb hby d10_31) rfl rfl (by decide) ?_
  intro T2 h2 X2 e2 W2 G2
  have N2 := Fr.snoc X2 N0 P2
  have A2 : GA Z h2 b .byte 1 (fun i => .int (own_c3 (own_by va) (0 : Int32) (0 : Int32) i)) := (own_stc (own_by2 P4) (by decide) (own_c30 (own_by va) (0 : Int32) (0 : Int32) (0 : Int32)) G2)
  show Go p e below s _ _ _ T2 (mkF m 32 #[.val (.ref a), .val (.int (0 : Int32)), .val (.ref b), .val (.int (0 : Int32)), .val (.int (1 : Int32)), .val (.int (0 : Int32)), .val (.int va)] [])
  refine go_st (fun _ kq => XT.iincV X2.here hx rfl (1 : Int32) (hb hby d10_32) (by decide) rfl (l' := #[.val (.ref a), .val (.int (1 : Int32)), .val (.ref b), .val (.int (0 : Int32)), .val (.int (1 : Int32)), .val (.int (0 : Int32)), .val (.int va)]) rfl kq) ?_
  show Go p e below s _ _ _ T2 (mkF m 35 #[.val (.ref a), .val (.int (1 : Int32)), .val (.ref b), .val (.int (0 : Int32)), .val (.int (1 : Int32)), .val (.int (0 : Int32)), .val (.int va)] [])
  refine go_st (fun _ kq => XT.iincV X2.here hx rfl (1 : Int32) (hb hby d10_35) (by decide) rfl (l' := #[.val (.ref a), .val (.int (1 : Int32)), .val (.ref b), .val (.int (1 : Int32)), .val (.int (1 : Int32)), .val (.int (0 : Int32)), .val (.int va)]) rfl kq) ?_
  show Go p e below s _ _ _ T2 (mkF m 38 #[.val (.ref a), .val (.int (1 : Int32)), .val (.ref b), .val (.int (1 : Int32)), .val (.int (1 : Int32)), .val (.int (0 : Int32)), .val (.int va)] [])
  refine go_st (fun _ kq => XT.iincV X2.here hx rfl (1 : Int32) (hb hby d10_38) (by decide) rfl (l' := #[.val (.ref a), .val (.int (1 : Int32)), .val (.ref b), .val (.int (1 : Int32)), .val (.int (1 : Int32)), .val (.int (1 : Int32)), .val (.int va)]) rfl kq) ?_
  show Go p e below s _ _ _ T2 (mkF m 41 #[.val (.ref a), .val (.int (1 : Int32)), .val (.ref b), .val (.int (1 : Int32)), .val (.int (1 : Int32)), .val (.int (1 : Int32)), .val (.int va)] [])
  refine go_st (fun _ kq => XS.goto X2.here hx rfl (pc0 := 41) (pc' := 3) rfl (hb hby d10_41) (by decide) (by decide) kq) ?_
  show Go p e below s _ _ _ T2 (mkF m 3 #[.val (.ref a), .val (.int (1 : Int32)), .val (.ref b), .val (.int (1 : Int32)), .val (.int (1 : Int32)), .val (.int (1 : Int32)), .val (.int va)] [])
  refine go_st (fun _ kq => XS.iload X2.here hx rfl (hb hby d10_3) rfl kq) ?_
  show Go p e below s _ _ _ T2 (mkF m 5 #[.val (.ref a), .val (.int (1 : Int32)), .val (.ref b), .val (.int (1 : Int32)), .val (.int (1 : Int32)), .val (.int (1 : Int32)), .val (.int va)] [(.int (1 : Int32))])
  refine go_st (fun _ kq => XS.iload X2.here hx rfl (hb hby d10_5) rfl kq) ?_
  show Go p e below s _ _ _ T2 (mkF m 7 #[.val (.ref a), .val (.int (1 : Int32)), .val (.ref b), .val (.int (1 : Int32)), .val (.int (1 : Int32)), .val (.int (1 : Int32)), .val (.int va)] [(.int (1 : Int32)), (.int (1 : Int32))])
  refine go_st (fun _ kq => XS.icmpYes X2.here hx rfl (pc0 := 7) (pc' := 44) rfl (hb hby d10_7) rfl (XT.ii_ge_t (by decide)) (by decide) (by decide) kq) ?_
  show Go p e below s _ _ _ T2 (mkF m 44 #[.val (.ref a), .val (.int (1 : Int32)), .val (.ref b), .val (.int (1 : Int32)), .val (.int (1 : Int32)), .val (.int (1 : Int32)), .val (.int va)] [])
  refine go_st (fun _ kq => XS.iload X2.here hx rfl (hb hby d10_44) rfl kq) ?_
  show Go p e below s _ _ _ T2 (mkF m 46 #[.val (.ref a), .val (.int (1 : Int32)), .val (.ref b), .val (.int (1 : Int32)), .val (.int (1 : Int32)), .val (.int (1 : Int32)), .val (.int va)] [(.int (1 : Int32))])
  exact go_retI X2 hx hlk hret (hb hby d10_46) (by decide) (by decide) (by rw [e2]; exact ⟨rfl, N2, (Keep.wr (Keep.refl h0 [b]) W2 (Or.inl (by simp))), A2⟩)
theorem d9_0 : decode jdk_52_method_16_code 0 = .ok (.iload_n 2, 1) := by decide +kernel
theorem d9_1 : decode jdk_52_method_16_code 1 = .ok (.newarray .byte, 2) := by decide +kernel
theorem d9_3 : decode jdk_52_method_16_code 3 = .ok (.astore_n 3, 1) := by decide +kernel
theorem d9_4 : decode jdk_52_method_16_code 4 = .ok (.aload_n 0, 1) := by decide +kernel
theorem d9_5 : decode jdk_52_method_16_code 5 = .ok (.iload_n 1, 1) := by decide +kernel
theorem d9_6 : decode jdk_52_method_16_code 6 = .ok (.aload_n 3, 1) := by decide +kernel
theorem d9_7 : decode jdk_52_method_16_code 7 = .ok (.iconst 0, 1) := by decide +kernel
theorem d9_8 : decode jdk_52_method_16_code 8 = .ok (.iload_n 2, 1) := by decide +kernel
theorem d9_9 : decode jdk_52_method_16_code 9 = .ok (.invokestatic 115, 3) := by decide +kernel
theorem d9_12 : decode jdk_52_method_16_code 12 = .ok (.istore 4, 2) := by decide +kernel
theorem d9_14 : decode jdk_52_method_16_code 14 = .ok (.iload 4, 2) := by decide +kernel
theorem d9_16 : decode jdk_52_method_16_code 16 = .ok (.iload_n 2, 1) := by decide +kernel
theorem d9_17 : decode jdk_52_method_16_code 17 = .ok (.if_icmp .eq 40, 3) := by decide +kernel
theorem d9_20 : decode jdk_52_method_16_code 20 = .ok (.aload_n 0, 1) := by decide +kernel
theorem d9_21 : decode jdk_52_method_16_code 21 = .ok (.iload_n 1, 1) := by decide +kernel
theorem d9_22 : decode jdk_52_method_16_code 22 = .ok (.iload_n 2, 1) := by decide +kernel
theorem d9_23 : decode jdk_52_method_16_code 23 = .ok (.invokestatic 119, 3) := by decide +kernel
theorem d9_26 : decode jdk_52_method_16_code 26 = .ok (.astore 5, 2) := by decide +kernel
theorem d9_28 : decode jdk_52_method_16_code 28 = .ok (.aload 5, 2) := by decide +kernel
theorem d9_30 : decode jdk_52_method_16_code 30 = .ok (.iload 4, 2) := by decide +kernel
theorem d9_32 : decode jdk_52_method_16_code 32 = .ok (.invokestatic 71, 3) := by decide +kernel
theorem d9_35 : decode jdk_52_method_16_code 35 = .ok (.sipush 255, 3) := by decide +kernel
theorem d9_38 : decode jdk_52_method_16_code 38 = .ok (.if_icmp .gt 16, 3) := by decide +kernel
theorem d9_41 : decode jdk_52_method_16_code 41 = .ok (.aload 5, 2) := by decide +kernel
theorem d9_43 : decode jdk_52_method_16_code 43 = .ok (.iconst 0, 1) := by decide +kernel
theorem d9_44 : decode jdk_52_method_16_code 44 = .ok (.aload_n 3, 1) := by decide +kernel
theorem d9_45 : decode jdk_52_method_16_code 45 = .ok (.iconst 0, 1) := by decide +kernel
theorem d9_46 : decode jdk_52_method_16_code 46 = .ok (.iload_n 2, 1) := by decide +kernel
theorem d9_47 : decode jdk_52_method_16_code 47 = .ok (.invokestatic 123, 3) := by decide +kernel
theorem d9_50 : decode jdk_52_method_16_code 50 = .ok (.iload_n 2, 1) := by decide +kernel
theorem d9_51 : decode jdk_52_method_16_code 51 = .ok (.if_icmp .eq 6, 3) := by decide +kernel
theorem d9_54 : decode jdk_52_method_16_code 54 = .ok (.aload 5, 2) := by decide +kernel
theorem d9_56 : decode jdk_52_method_16_code 56 = .ok (.areturn, 1) := by decide +kernel
theorem d9_57 : decode jdk_52_method_16_code 57 = .ok (.aload_n 3, 1) := by decide +kernel
theorem d9_58 : decode jdk_52_method_16_code 58 = .ok (.areturn, 1) := by decide +kernel
theorem pn1 : plainFor (⟨"java/lang/StringUTF16", "compress", "([CII)[B"⟩ : MethodName) = true := by first | (refine plainFor_of_name ?_; simp [plainName, overriddenIn]; done) | (refine plainFor_of_name ?_; decide +kernel) | decide +kernel
def Q_cp1 (Z : State) (a : Addr) (va : Int32) (h0 : Heap) (n0 : Nat) (v : Option Value) (h : Heap) (L : List Loc) : Prop := ∃ r : Addr, v = some (.ref r) ∧ Fr n0 L ∧ Keep h0 h [] ∧ h0.size ≤ r ∧ GA Z h r .byte 1 (fun i => .int (own_c3 (own_by va) (0 : Int32) (0 : Int32) i))
theorem pd0 : parseMethodDescriptor "([CI[BII)I" = some ⟨[(.array .char), .int, (.array .byte), .int, .int], (some .int)⟩ := by decide +kernel
theorem ef_cp1 (m : MethodId) (a : Addr) (va : Int32) : entryFrame m #[(.ref a), (.int (0 : Int32)), (.int (1 : Int32))] 6 = mkF m 0 #[.val (.ref a), .val (.int (0 : Int32)), .val (.int (1 : Int32)), .unset, .unset, .unset] [] := by first | (simp [entryFrame, mkF, argsToLocals, Value.category]; done) | rfl
abbrev rm_cp1 : Room := ({ frames := 1, cells := 1, slots := 1, locals := 18 } : Room)
set_option maxRecDepth 65536 in
set_option maxHeartbeats 4000000 in
theorem met_cp1 (l : Launch) (Z : State) (a0 : Array Value) (hw : ∀ d ∈ tables_1, d.before a0 Z = true) (a : Addr) (va : Int32) (h0 : Heap) (n0 : Nat) (Z0 : n0 ≤ h0.size) (P0 : GA Z h0 a .char 1 (fun i => .int (own_c3 va (0 : Int32) (0 : Int32) i))) (P1 : Lat va) :
    Met l (⟨"java/lang/StringUTF16", "compress", "([CII)[B"⟩ : MethodName) jdk_52_method_16_code 6 (some (FieldType.array FieldType.byte)) [] rm_cp1 Z #[(.ref a), (.int (0 : Int32)), (.int (1 : Int32))] h0 (Q_cp1 Z a va h0 n0) rm_cp1.cells rm_cp1.slots := by
  refine own_body pn1 ?_
  intro p e s m below meth c s₁ ct X0 e0
  have ct0 := ct
  obtain ⟨hx, hZ, hown, hby, hml, hret, hlk, hnm⟩ := ct
  have lt_a : a < h0.size := P0.lt
  have N0 := Fr.nil n0
  refine castGo (ef_cp1 m a va) ?_
  show Go p e below s _ _ _ s₁ (mkF m 0 #[.val (.ref a), .val (.int (0 : Int32)), .val (.int (1 : Int32)), .unset, .unset, .unset] [])
  refine go_st (fun _ kq => XS.iloadN X0.here hx rfl (hb hby d9_0) rfl kq) ?_
  show Go p e below s _ _ _ s₁ (mkF m 1 #[.val (.ref a), .val (.int (0 : Int32)), .val (.int (1 : Int32)), .unset, .unset, .unset] [(.int (1 : Int32))])
  refine go_newP X0 hx hZ (hw _ (List.mem_of_getElem? (i := 19) rfl)) e0 (hb hby d9_1) rfl rfl 1 (by decide) 1 (Nat.le_refl _) (by decide) (by decide) (by decide) ?_
  intro T3 h3 a3 g3 X3 e3 E3 G3
  have ne4 : a ≠ a3 := fun q => Nat.lt_irrefl _ (Nat.lt_of_lt_of_le lt_a (Nat.le_of_eq (g3.symm.trans q.symm)))
  have nw_a3 : n0 ≤ a3 := Nat.le_trans Z0 (Nat.le_of_eq g3.symm)
  have lt_a3 : a3 < h3.size := G3.lt
  have A3 : GA Z h3 a3 .byte 1 (fun i => .int (own_c3 (0 : Int32) (0 : Int32) (0 : Int32) i)) := (GA.congr G3 (fun i _ => own_z3 i))
  show Go p e below s _ _ _ T3 (mkF m 3 #[.val (.ref a), .val (.int (0 : Int32)), .val (.int (1 : Int32)), .unset, .unset, .unset] [(.ref a3)])
  refine go_st (fun _ kq => XS.astoreN X3.here hx rfl (hb hby d9_3) rfl rfl (l' := #[.val (.ref a), .val (.int (0 : Int32)), .val (.int (1 : Int32)), .val (.ref a3), .unset, .unset]) rfl kq) ?_
  show Go p e below s _ _ _ T3 (mkF m 4 #[.val (.ref a), .val (.int (0 : Int32)), .val (.int (1 : Int32)), .val (.ref a3), .unset, .unset] [])
  refine go_st (fun _ kq => XS.aloadN X3.here hx rfl (hb hby d9_4) rfl rfl kq) ?_
  show Go p e below s _ _ _ T3 (mkF m 5 #[.val (.ref a), .val (.int (0 : Int32)), .val (.int (1 : Int32)), .val (.ref a3), .unset, .unset] [(.ref a)])
  refine go_st (fun _ kq => XS.iloadN X3.here hx rfl (hb hby d9_5) rfl kq) ?_
  show Go p e below s _ _ _ T3 (mkF m 6 #[.val (.ref a), .val (.int (0 : Int32)), .val (.int (1 : Int32)), .val (.ref a3), .unset, .unset] [(.int (0 : Int32)), (.ref a)])
  refine go_st (fun _ kq => XS.aloadN X3.here hx rfl (hb hby d9_6) rfl rfl kq) ?_
  show Go p e below s _ _ _ T3 (mkF m 7 #[.val (.ref a), .val (.int (0 : Int32)), .val (.int (1 : Int32)), .val (.ref a3), .unset, .unset] [(.ref a3), (.int (0 : Int32)), (.ref a)])
  refine go_st (fun _ kq => XT.iconstV X3.here hx rfl (0 : Int32) (hb hby d9_7) (by decide) kq) ?_
  show Go p e below s _ _ _ T3 (mkF m 8 #[.val (.ref a), .val (.int (0 : Int32)), .val (.int (1 : Int32)), .val (.ref a3), .unset, .unset] [(.int (0 : Int32)), (.ref a3), (.int (0 : Int32)), (.ref a)])
  refine go_st (fun _ kq => XS.iloadN X3.here hx rfl (hb hby d9_8) rfl kq) ?_
  show Go p e below s _ _ _ T3 (mkF m 9 #[.val (.ref a), .val (.int (0 : Int32)), .val (.int (1 : Int32)), .val (.ref a3), .unset, .unset] [(.int (1 : Int32)), (.int (0 : Int32)), (.ref a3), (.int (0 : Int32)), (.ref a)])
  have c6 := P0.ext E3
  have z7 : n0 ≤ h3.size := Nat.le_trans Z0 E3.1
  refine go_callS X3 hx hZ hml hown (hw _ (List.mem_of_getElem? (i := 59) rfl)) (hw _ (List.mem_of_getElem? (i := 60) rfl)) (hw _ (List.mem_of_getElem? (i := 57) rfl)) (hw _ (List.mem_of_getElem? (i := 61) rfl)) e3 (argsL := [(.ref a), (.int (0 : Int32)), (.ref a3), (.int (0 : Int32)), (.int (1 : Int32))]) (rest := []) (W := 0) (met_cpi1 l Z a0 hw a a3 va h3 n0 z7 c6 A3 nw_a3 ne4 P1) (hb hby d9_9) rfl rfl rfl (lenOf pd0 rfl) (by show 2 * 0 + _ ≤ _; exact Nat.le_of_eq rfl) (by decide) (by decide) (by decide) (by decide) (by decide) ?_
  intro T5 v5 L5 X5 q5
  obtain ⟨rfl, M5, K5, f5_0⟩ := q5
  have N5 := Fr.app N0 M5
  show Go p e below s _ _ _ T5 (mkF m 12 #[.val (.ref a), .val (.int (0 : Int32)), .val (.int (1 : Int32)), .val (.ref a3), .unset, .unset] [(.int (1 : Int32))])
  refine go_st (fun _ kq => XS.istore X5.here hx rfl (hb hby d9_12) rfl (l' := #[.val (.ref a), .val (.int (0 : Int32)), .val (.int (1 : Int32)), .val (.ref a3), .val (.int (1 : Int32)), .unset]) rfl kq) ?_
  show Go p e below s _ _ _ T5 (mkF m 14 #[.val (.ref a), .val (.int (0 : Int32)), .val (.int (1 : Int32)), .val (.ref a3), .val (.int (1 : Int32)), .unset] [])
  refine go_st (fun _ kq => XS.iload X5.here hx rfl (hb hby d9_14) rfl kq) ?_
  show Go p e below s _ _ _ T5 (mkF m 16 #[.val (.ref a), .val (.int (0 : Int32)), .val (.int (1 : Int32)), .val (.ref a3), .val (.int (1 : Int32)), .unset] [(.int (1 : Int32))])
  refine go_st (fun _ kq => XS.iloadN X5.here hx rfl (hb hby d9_16) rfl kq) ?_
  show Go p e below s _ _ _ T5 (mkF m 17 #[.val (.ref a), .val (.int (0 : Int32)), .val (.int (1 : Int32)), .val (.ref a3), .val (.int (1 : Int32)), .unset] [(.int (1 : Int32)), (.int (1 : Int32))])
  refine go_st (fun _ kq => XS.icmpYes X5.here hx rfl (pc0 := 17) (pc' := 57) rfl (hb hby d9_17) rfl (XT.ii_eq_t (by decide)) (by decide) (by decide) kq) ?_
  show Go p e below s _ _ _ T5 (mkF m 57 #[.val (.ref a), .val (.int (0 : Int32)), .val (.int (1 : Int32)), .val (.ref a3), .val (.int (1 : Int32)), .unset] [])
  refine go_st (fun _ kq => XS.aloadN X5.here hx rfl (hb hby d9_57) rfl rfl kq) ?_
  show Go p e below s _ _ _ T5 (mkF m 58 #[.val (.ref a), .val (.int (0 : Int32)), .val (.int (1 : Int32)), .val (.ref a3), .val (.int (1 : Int32)), .unset] [(.ref a3)])
  exact go_retA X5 hx hlk hret rfl rfl (hb hby d9_58) (by decide) (by decide) ⟨a3, rfl, N5, (Keep.trans (Keep.ext (Keep.refl h0 []) E3) K5 (allS (Or.inr (Nat.le_trans (Nat.le_refl _) (Nat.le_of_eq g3.symm))) all0)), (Nat.le_trans (Nat.le_refl _) (Nat.le_of_eq g3.symm)), f5_0⟩
theorem d11_0 : decode jdk_52_method_15_code 0 = .ok (.iload_n 1, 1) := by decide +kernel
theorem d11_1 : decode jdk_52_method_15_code 1 = .ok (.aload_n 0, 1) := by decide +kernel
theorem d11_2 : decode jdk_52_method_15_code 2 = .ok (.arraylength, 1) := by decide +kernel
theorem d11_3 : decode jdk_52_method_15_code 3 = .ok (.isub, 1) := by decide +kernel
theorem d11_4 : decode jdk_52_method_15_code 4 = .ok (.bipush 31, 2) := by decide +kernel
theorem d11_6 : decode jdk_52_method_15_code 6 = .ok (.iushr, 1) := by decide +kernel
theorem d11_7 : decode jdk_52_method_15_code 7 = .ok (.i2b, 1) := by decide +kernel
theorem d11_8 : decode jdk_52_method_15_code 8 = .ok (.ireturn, 1) := by decide +kernel
theorem pn2 : plainFor (⟨"java/lang/StringUTF16", "coderFromArrayLen", "([BI)B"⟩ : MethodName) = true := by first | (refine plainFor_of_name ?_; simp [plainName, overriddenIn]; done) | (refine plainFor_of_name ?_; decide +kernel) | decide +kernel
def fCfl1  : Int32 := (0 : Int32)
theorem ef_cfl1 (m : MethodId) (b : Addr) (fq : Nat → Value) : entryFrame m #[(.ref b), (.int (1 : Int32))] 2 = mkF m 0 #[.val (.ref b), .val (.int (1 : Int32))] [] := by first | (simp [entryFrame, mkF, argsToLocals, Value.category]; done) | rfl
abbrev rm_cfl1 : Room := ({ frames := 0, cells := 0, slots := 0, locals := 0 } : Room)
set_option maxRecDepth 65536 in
set_option maxHeartbeats 4000000 in
theorem met_cfl1 (l : Launch) (Z : State) (a0 : Array Value) (hw : ∀ d ∈ tables_1, d.before a0 Z = true) (b : Addr) (fq : Nat → Value) (h0 : Heap) (n0 : Nat) (Z0 : n0 ≤ h0.size) (P0 : GA Z h0 b .byte 1 fq) :
    Met l (⟨"java/lang/StringUTF16", "coderFromArrayLen", "([BI)B"⟩ : MethodName) jdk_52_method_15_code 2 (some FieldType.byte) [] rm_cfl1 Z #[(.ref b), (.int (1 : Int32))] h0 (QV (some (.int (fCfl1 ))) h0 n0) 0 0 := by
  refine own_body pn2 ?_
  intro p e s m below meth c s₁ ct X0 e0
  have ct0 := ct
  obtain ⟨hx, hZ, hown, hby, hml, hret, hlk, hnm⟩ := ct
  have N0 := Fr.nil n0
  refine castGo (ef_cfl1 m b fq) ?_
  unfold fCfl1
  show Go p e below s _ _ _ s₁ (mkF m 0 #[.val (.ref b), .val (.int (1 : Int32))] [])
  refine go_st (fun _ kq => XS.iloadN X0.here hx rfl (hb hby d11_0) rfl kq) ?_
  show Go p e below s _ _ _ s₁ (mkF m 1 #[.val (.ref b), .val (.int (1 : Int32))] [(.int (1 : Int32))])
  refine go_st (fun _ kq => XS.aloadN X0.here hx rfl (hb hby d11_1) rfl rfl kq) ?_
  show Go p e below s _ _ _ s₁ (mkF m 2 #[.val (.ref b), .val (.int (1 : Int32))] [(.ref b), (.int (1 : Int32))])
  refine go_alen X0 hx hZ e0 P0 (hb hby d11_2) rfl rfl (1 : Int32) (by decide) ?_
  show Go p e below s _ _ _ s₁ (mkF m 3 #[.val (.ref b), .val (.int (1 : Int32))] [(.int (1 : Int32)), (.int (1 : Int32))])
  refine go_st (fun _ kq => XS.isub X0.here hx rfl (hb hby d11_3) rfl kq) ?_
  rw [show ((1 : Int32) - (1 : Int32)) = (0 : Int32) from by decide +kernel]
  show Go p e below s _ _ _ s₁ (mkF m 4 #[.val (.ref b), .val (.int (1 : Int32))] [(.int (0 : Int32))])
  refine go_st (fun _ kq => XT.bipushV X0.here hx rfl (31 : Int32) (hb hby d11_4) (by decide) kq) ?_
  show Go p e below s _ _ _ s₁ (mkF m 6 #[.val (.ref b), .val (.int (1 : Int32))] [(.int (31 : Int32)), (.int (0 : Int32))])
  refine go_st (fun _ kq => XT.iushr X0.here hx rfl (hb hby d11_6) rfl kq) ?_
  rw [show (XT.ushr (0 : Int32) (31 : Int32)) = (0 : Int32) from by decide +kernel]
  show Go p e below s _ _ _ s₁ (mkF m 7 #[.val (.ref b), .val (.int (1 : Int32))] [(.int (0 : Int32))])
  refine go_st (fun _ kq => XT.i2b X0.here hx rfl (hb hby d11_7) rfl kq) ?_
  rw [show (0 : Int32).toInt8.toInt32 = (0 : Int32) from by decide +kernel]
  show Go p e below s _ _ _ s₁ (mkF m 8 #[.val (.ref b), .val (.int (1 : Int32))] [(.int (0 : Int32))])
  exact go_retN (t := .byte) (w := (0 : Int32)) X0 hx hlk hret (by simp) (hb hby d11_8) (by decide +kernel) (by decide) (by decide) ⟨rfl, N0, e0⟩
def Q_cpi2 (Z : State) (a : Addr) (b : Addr) (va : Int32) (vb : Int32) (h0 : Heap) (n0 : Nat) (v : Option Value) (h : Heap) (L : List Loc) : Prop := v = some (.int (2 : Int32)) ∧ Fr n0 L ∧ Keep h0 h [b] ∧ GA Z h b .byte 2 (fun i => .int (own_c3 (own_by va) (own_by vb) (0 : Int32) i))
theorem ef_cpi2 (m : MethodId) (a : Addr) (b : Addr) (va : Int32) (vb : Int32) : entryFrame m #[(.ref a), (.int (0 : Int32)), (.ref b), (.int (0 : Int32)), (.int (2 : Int32))] 7 = mkF m 0 #[.val (.ref a), .val (.int (0 : Int32)), .val (.ref b), .val (.int (0 : Int32)), .val (.int (2 : Int32)), .unset, .unset] [] := by first | (simp [entryFrame, mkF, argsToLocals, Value.category]; done) | rfl
abbrev rm_cpi2 : Room := ({ frames := 0, cells := 0, slots := 0, locals := 0 } : Room)
set_option maxRecDepth 65536 in
set_option maxHeartbeats 4000000 in
theorem met_cpi2 (l : Launch) (Z : State) (a0 : Array Value) (hw : ∀ d ∈ tables_1, d.before a0 Z = true) (a : Addr) (b : Addr) (va : Int32) (vb : Int32) (h0 : Heap) (n0 : Nat) (Z0 : n0 ≤ h0.size) (P0 : GA Z h0 a .char 2 (fun i => .int (own_c3 va vb (0 : Int32) i))) (P1 : GA Z h0 b .byte 2 (fun i => .int (own_c3 (0 : Int32) (0 : Int32) (0 : Int32) i))) (P2 : n0 ≤ b) (P3 : a ≠ b) (P4 : Lat va) (P5 : Lat vb) :
    Met l (⟨"java/lang/StringUTF16", "compress", "([CI[BII)I"⟩ : MethodName) jdk_52_method_21_code 7 (some FieldType.int) [] rm_cpi2 Z #[(.ref a), (.int (0 : Int32)), (.ref b), (.int (0 : Int32)), (.int (2 : Int32))] h0 (Q_cpi2 Z a b va vb h0 n0) rm_cpi2.cells rm_cpi2.slots := by
  refine own_body pn0 ?_
  intro p e s m below meth c s₁ ct X0 e0
  have ct0 := ct
  obtain ⟨hx, hZ, hown, hby, hml, hret, hlk, hnm⟩ := ct
  have lt_a : a < h0.size := P0.lt
  have lt_b : b < h0.size := P1.lt
  have N0 := Fr.nil n0
  refine castGo (ef_cpi2 m a b va vb) ?_
  show Go p e below s _ _ _ s₁ (mkF m 0 #[.val (.ref a), .val (.int (0 : Int32)), .val (.ref b), .val (.int (0 : Int32)), .val (.int (2 : Int32)), .unset, .unset] [])
  refine go_st (fun _ kq => XT.iconstV X0.here hx rfl (0 : Int32) (hb hby d10_0) (by decide) kq) ?_
  show Go p e below s _ _ _ s₁ (mkF m 1 #[.val (.ref a), .val (.int (0 : Int32)), .val (.ref b), .val (.int (0 : Int32)), .val (.int (2 : Int32)), .unset, .unset] [(.int (0 : Int32))])
  refine go_st (fun _ kq => XS.istore X0.here hx rfl (hb hby d10_1) rfl (l' := #[.val (.ref a), .val (.int (0 : Int32)), .val (.ref b), .val (.int (0 : Int32)), .val (.int (2 : Int32)), .val (.int (0 : Int32)), .unset]) rfl kq) ?_
  show Go p e below s _ _ _ s₁ (mkF m 3 #[.val (.ref a), .val (.int (0 : Int32)), .val (.ref b), .val (.int (0 : Int32)), .val (.int (2 : Int32)), .val (.int (0 : Int32)), .unset] [])
  refine go_st (fun _ kq => XS.iload X0.here hx rfl (hb hby d10_3) rfl kq) ?_
  show Go p e below s _ _ _ s₁ (mkF m 5 #[.val (.ref a), .val (.int (0 : Int32)), .val (.ref b), .val (.int (0 : Int32)), .val (.int (2 : Int32)), .val (.int (0 : Int32)), .unset] [(.int (0 : Int32))])
  refine go_st (fun _ kq => XS.iload X0.here hx rfl (hb hby d10_5) rfl kq) ?_
  show Go p e below s _ _ _ s₁ (mkF m 7 #[.val (.ref a), .val (.int (0 : Int32)), .val (.ref b), .val (.int (0 : Int32)), .val (.int (2 : Int32)), .val (.int (0 : Int32)), .unset] [(.int (2 : Int32)), (.int (0 : Int32))])
  refine go_st (fun _ kq => XS.icmpNo X0.here hx rfl (hb hby d10_7) rfl (XT.ii_ge_f (by decide)) kq) ?_
  show Go p e below s _ _ _ s₁ (mkF m 10 #[.val (.ref a), .val (.int (0 : Int32)), .val (.ref b), .val (.int (0 : Int32)), .val (.int (2 : Int32)), .val (.int (0 : Int32)), .unset] [])
  refine go_st (fun _ kq => XS.aloadN X0.here hx rfl (hb hby d10_10) rfl rfl kq) ?_
  show Go p e below s _ _ _ s₁ (mkF m 11 #[.val (.ref a), .val (.int (0 : Int32)), .val (.ref b), .val (.int (0 : Int32)), .val (.int (2 : Int32)), .val (.int (0 : Int32)), .unset] [(.ref a)])
  refine go_st (fun _ kq => XS.iloadN X0.here hx rfl (hb hby d10_11) rfl kq) ?_
  show Go p e below s _ _ _ s₁ (mkF m 12 #[.val (.ref a), .val (.int (0 : Int32)), .val (.ref b), .val (.int (0 : Int32)), .val (.int (2 : Int32)), .val (.int (0 : Int32)), .unset] [(.int (0 : Int32)), (.ref a)])
  refine go_cald X0 hx hZ e0 P0 (hb hby d10_12) rfl rfl (by decide) (.int va) rfl ?_
  show Go p e below s _ _ _ s₁ (mkF m 13 #[.val (.ref a), .val (.int (0 : Int32)), .val (.ref b), .val (.int (0 : Int32)), .val (.int (2 : Int32)), .val (.int (0 : Int32)), .unset] [(.int va)])
  refine go_st (fun _ kq => XS.istore X0.here hx rfl (hb hby d10_13) rfl (l' := #[.val (.ref a), .val (.int (0 : Int32)), .val (.ref b), .val (.int (0 : Int32)), .val (.int (2 : Int32)), .val (.int (0 : Int32)), .val (.int va)]) rfl kq) ?_
  show Go p e below s _ _ _ s₁ (mkF m 15 #[.val (.ref a), .val (.int (0 : Int32)), .val (.ref b), .val (.int (0 : Int32)), .val (.int (2 : Int32)), .val (.int (0 : Int32)), .val (.int va)] [])
  refine go_st (fun _ kq => XS.iload X0.here hx rfl (hb hby d10_15) rfl kq) ?_
  show Go p e below s _ _ _ s₁ (mkF m 17 #[.val (.ref a), .val (.int (0 : Int32)), .val (.ref b), .val (.int (0 : Int32)), .val (.int (2 : Int32)), .val (.int (0 : Int32)), .val (.int va)] [(.int va)])
  refine go_st (fun _ kq => XT.sipushV X0.here hx rfl (255 : Int32) (hb hby d10_17) (by decide) kq) ?_
  show Go p e below s _ _ _ s₁ (mkF m 20 #[.val (.ref a), .val (.int (0 : Int32)), .val (.ref b), .val (.int (0 : Int32)), .val (.int (2 : Int32)), .val (.int (0 : Int32)), .val (.int va)] [(.int (255 : Int32)), (.int va)])
  have hb8 : ¬ ((255 : Int32) < va) := by exact own_le255 P4
  refine go_st (fun _ kq => XS.icmpYes X0.here hx rfl (pc0 := 20) (pc' := 26) rfl (hb hby d10_20) rfl (XT.ii_le_t hb8) (by decide) (by decide) kq) ?_
  show Go p e below s _ _ _ s₁ (mkF m 26 #[.val (.ref a), .val (.int (0 : Int32)), .val (.ref b), .val (.int (0 : Int32)), .val (.int (2 : Int32)), .val (.int (0 : Int32)), .val (.int va)] [])
  refine go_st (fun _ kq => XS.aloadN X0.here hx rfl (hb hby d10_26) rfl rfl kq) ?_
  show Go p e below s _ _ _ s₁ (mkF m 27 #[.val (.ref a), .val (.int (0 : Int32)), .val (.ref b), .val (.int (0 : Int32)), .val (.int (2 : Int32)), .val (.int (0 : Int32)), .val (.int va)] [(.ref b)])
  refine go_st (fun _ kq => XS.iloadN X0.here hx rfl (hb hby d10_27) rfl kq) ?_
  show Go p e below s _ _ _ s₁ (mkF m 28 #[.val (.ref a), .val (.int (0 : Int32)), .val (.ref b), .val (.int (0 : Int32)), .val (.int (2 : Int32)), .val (.int (0 : Int32)), .val (.int va)] [(.int (0 : Int32)), (.ref b)])
  refine go_st (fun _ kq => XS.iload X0.here hx rfl (hb hby d10_28) rfl kq) ?_
  show Go p e below s _ _ _ s₁ (mkF m 30 #[.val (.ref a), .val (.int (0 : Int32)), .val (.ref b), .val (.int (0 : Int32)), .val (.int (2 : Int32)), .val (.int (0 : Int32)), .val (.int va)] [(.int va), (.int (0 : Int32)), (.ref b)])
  refine go_st (fun _ kq => XT.i2b X0.here hx rfl (hb hby d10_30) rfl kq) ?_
  show Go p e below s _ _ _ s₁ (mkF m 31 #[.val (.ref a), .val (.int (0 : Int32)), .val (.ref b), .val (.int (0 : Int32)), .val (.int (2 : Int32)), .val (.int (0 : Int32)), .val (.int va)] [(.int va.toInt8.toInt32), (.int (0 : Int32)), (.ref b)])
  refine go_bast X0 hx hZ e0 P1 (hb hby d10_31) rfl rfl (by decide) ?_
  intro T9 h9 X9 e9 W9 G9
  have N9 := Fr.snoc X9 N0 P2
  have A9 : GA Z h9 b .byte 2 (fun i => .int (own_c3 (own_by va) (0 : Int32) (0 : Int32) i)) := (own_stc (own_by2 P4) (by decide) (own_c30 (own_by va) (0 : Int32) (0 : Int32) (0 : Int32)) G9)
  show Go p e below s _ _ _ T9 (mkF m 32 #[.val (.ref a), .val (.int (0 : Int32)), .val (.ref b), .val (.int (0 : Int32)), .val (.int (2 : Int32)), .val (.int (0 : Int32)), .val (.int va)] [])
  refine go_st (fun _ kq => XT.iincV X9.here hx rfl (1 : Int32) (hb hby d10_32) (by decide) rfl (l' := #[.val (.ref a), .val (.int (1 : Int32)), .val (.ref b), .val (.int (0 : Int32)), .val (.int (2 : Int32)), .val (.int (0 : Int32)), .val (.int va)]) rfl kq) ?_
  show Go p e below s _ _ _ T9 (mkF m 35 #[.val (.ref a), .val (.int (1 : Int32)), .val (.ref b), .val (.int (0 : Int32)), .val (.int (2 : Int32)), .val (.int (0 : Int32)), .val (.int va)] [])
  refine go_st (fun _ kq => XT.iincV X9.here hx rfl (1 : Int32) (hb hby d10_35) (by decide) rfl (l' := #[.val (.ref a), .val (.int (1 : Int32)), .val (.ref b), .val (.int (1 : Int32)), .val (.int (2 : Int32)), .val (.int (0 : Int32)), .val (.int va)]) rfl kq) ?_
  show Go p e below s _ _ _ T9 (mkF m 38 #[.val (.ref a), .val (.int (1 : Int32)), .val (.ref b), .val (.int (1 : Int32)), .val (.int (2 : Int32)), .val (.int (0 : Int32)), .val (.int va)] [])
  refine go_st (fun _ kq => XT.iincV X9.here hx rfl (1 : Int32) (hb hby d10_38) (by decide) rfl (l' := #[.val (.ref a), .val (.int (1 : Int32)), .val (.ref b), .val (.int (1 : Int32)), .val (.int (2 : Int32)), .val (.int (1 : Int32)), .val (.int va)]) rfl kq) ?_
  show Go p e below s _ _ _ T9 (mkF m 41 #[.val (.ref a), .val (.int (1 : Int32)), .val (.ref b), .val (.int (1 : Int32)), .val (.int (2 : Int32)), .val (.int (1 : Int32)), .val (.int va)] [])
  refine go_st (fun _ kq => XS.goto X9.here hx rfl (pc0 := 41) (pc' := 3) rfl (hb hby d10_41) (by decide) (by decide) kq) ?_
  show Go p e below s _ _ _ T9 (mkF m 3 #[.val (.ref a), .val (.int (1 : Int32)), .val (.ref b), .val (.int (1 : Int32)), .val (.int (2 : Int32)), .val (.int (1 : Int32)), .val (.int va)] [])
  refine go_st (fun _ kq => XS.iload X9.here hx rfl (hb hby d10_3) rfl kq) ?_
  show Go p e below s _ _ _ T9 (mkF m 5 #[.val (.ref a), .val (.int (1 : Int32)), .val (.ref b), .val (.int (1 : Int32)), .val (.int (2 : Int32)), .val (.int (1 : Int32)), .val (.int va)] [(.int (1 : Int32))])
  refine go_st (fun _ kq => XS.iload X9.here hx rfl (hb hby d10_5) rfl kq) ?_
  show Go p e below s _ _ _ T9 (mkF m 7 #[.val (.ref a), .val (.int (1 : Int32)), .val (.ref b), .val (.int (1 : Int32)), .val (.int (2 : Int32)), .val (.int (1 : Int32)), .val (.int va)] [(.int (2 : Int32)), (.int (1 : Int32))])
  refine go_st (fun _ kq => XS.icmpNo X9.here hx rfl (hb hby d10_7) rfl (XT.ii_ge_f (by decide)) kq) ?_
  show Go p e below s _ _ _ T9 (mkF m 10 #[.val (.ref a), .val (.int (1 : Int32)), .val (.ref b), .val (.int (1 : Int32)), .val (.int (2 : Int32)), .val (.int (1 : Int32)), .val (.int va)] [])
  refine go_st (fun _ kq => XS.aloadN X9.here hx rfl (hb hby d10_10) rfl rfl kq) ?_
  show Go p e below s _ _ _ T9 (mkF m 11 #[.val (.ref a), .val (.int (1 : Int32)), .val (.ref b), .val (.int (1 : Int32)), .val (.int (2 : Int32)), .val (.int (1 : Int32)), .val (.int va)] [(.ref a)])
  refine go_st (fun _ kq => XS.iloadN X9.here hx rfl (hb hby d10_11) rfl kq) ?_
  show Go p e below s _ _ _ T9 (mkF m 12 #[.val (.ref a), .val (.int (1 : Int32)), .val (.ref b), .val (.int (1 : Int32)), .val (.int (2 : Int32)), .val (.int (1 : Int32)), .val (.int va)] [(.int (1 : Int32)), (.ref a)])
  have c10 := P0.other W9 P3
  refine go_cald X9 hx hZ e9 c10 (hb hby d10_12) rfl rfl (by decide) (.int vb) rfl ?_
  show Go p e below s _ _ _ T9 (mkF m 13 #[.val (.ref a), .val (.int (1 : Int32)), .val (.ref b), .val (.int (1 : Int32)), .val (.int (2 : Int32)), .val (.int (1 : Int32)), .val (.int va)] [(.int vb)])
  refine go_st (fun _ kq => XS.istore X9.here hx rfl (hb hby d10_13) rfl (l' := #[.val (.ref a), .val (.int (1 : Int32)), .val (.ref b), .val (.int (1 : Int32)), .val (.int (2 : Int32)), .val (.int (1 : Int32)), .val (.int vb)]) rfl kq) ?_
  show Go p e below s _ _ _ T9 (mkF m 15 #[.val (.ref a), .val (.int (1 : Int32)), .val (.ref b), .val (.int (1 : Int32)), .val (.int (2 : Int32)), .val (.int (1 : Int32)), .val (.int vb)] [])
  refine go_st (fun _ kq => XS.iload X9.here hx rfl (hb hby d10_15) rfl kq) ?_
  show Go p e below s _ _ _ T9 (mkF m 17 #[.val (.ref a), .val (.int (1 : Int32)), .val (.ref b), .val (.int (1 : Int32)), .val (.int (2 : Int32)), .val (.int (1 : Int32)), .val (.int vb)] [(.int vb)])
  refine go_st (fun _ kq => XT.sipushV X9.here hx rfl (255 : Int32) (hb hby d10_17) (by decide) kq) ?_
  show Go p e below s _ _ _ T9 (mkF m 20 #[.val (.ref a), .val (.int (1 : Int32)), .val (.ref b), .val (.int (1 : Int32)), .val (.int (2 : Int32)), .val (.int (1 : Int32)), .val (.int vb)] [(.int (255 : Int32)), (.int vb)])
  have hb11 : ¬ ((255 : Int32) < vb) := by exact own_le255 P5
  refine go_st (fun _ kq => XS.icmpYes X9.here hx rfl (pc0 := 20) (pc' := 26) rfl (hb hby d10_20) rfl (XT.ii_le_t hb11) (by decide) (by decide) kq) ?_
  show Go p e below s _ _ _ T9 (mkF m 26 #[.val (.ref a), .val (.int (1 : Int32)), .val (.ref b), .val (.int (1 : Int32)), .val (.int (2 : Int32)), .val (.int (1 : Int32)), .val (.int vb)] [])
  refine go_st (fun _ kq => XS.aloadN X9.here hx rfl (hb hby d10_26) rfl rfl kq) ?_
  show Go p e below s _ _ _ T9 (mkF m 27 #[.val (.ref a), .val (.int (1 : Int32)), .val (.ref b), .val (.int (1 : Int32)), .val (.int (2 : Int32)), .val (.int (1 : Int32)), .val (.int vb)] [(.ref b)])
  refine go_st (fun _ kq => XS.iloadN X9.here hx rfl (hb hby d10_27) rfl kq) ?_
  show Go p e below s _ _ _ T9 (mkF m 28 #[.val (.ref a), .val (.int (1 : Int32)), .val (.ref b), .val (.int (1 : Int32)), .val (.int (2 : Int32)), .val (.int (1 : Int32)), .val (.int vb)] [(.int (1 : Int32)), (.ref b)])
  refine go_st (fun _ kq => XS.iload X9.here hx rfl (hb hby d10_28) rfl kq) ?_
  show Go p e below s _ _ _ T9 (mkF m 30 #[.val (.ref a), .val (.int (1 : Int32)), .val (.ref b), .val (.int (1 : Int32)), .val (.int (2 : Int32)), .val (.int (1 : Int32)), .val (.int vb)] [(.int vb), (.int (1 : Int32)), (.ref b)])
  refine go_st (fun _ kq => XT.i2b X9.here hx rfl (hb hby d10_30) rfl kq) ?_
  show Go p e below s _ _ _ T9 (mkF m 31 #[.val (.ref a), .val (.int (1 : Int32)), .val (.ref b), .val (.int (1 : Int32)), .val (.int (2 : Int32)), .val (.int (1 : Int32)), .val (.int vb)] [(.int vb.toInt8.toInt32), (.int (1 : Int32)), (.ref b)])
  refine go_bast X9 hx hZ e9 A9 (hb hby d10_31) rfl rfl (by decide) ?_
  intro T12 h12 X12 e12 W12 G12
  have N12 := Fr.snoc X12 N9 P2
  have A12 : GA Z h12 b .byte 2 (fun i => .int (own_c3 (own_by va) (own_by vb) (0 : Int32) i)) := (own_stc (own_by2 P5) (by decide) (own_c31 (own_by vb) (own_by va) (0 : Int32) (0 : Int32)) G12)
  show Go p e below s _ _ _ T12 (mkF m 32 #[.val (.ref a), .val (.int (1 : Int32)), .val (.ref b), .val (.int (1 : Int32)), .val (.int (2 : Int32)), .val (.int (1 : Int32)), .val (.int vb)] [])
  refine go_st (fun _ kq => XT.iincV X12.here hx rfl (1 : Int32) (hb hby d10_32) (by decide) rfl (l' := #[.val (.ref a), .val (.int (2 : Int32)), .val (.ref b), .val (.int (1 : Int32)), .val (.int (2 : Int32)), .val (.int (1 : Int32)), .val (.int vb)]) rfl kq) ?_
  show Go p e below s _ _ _ T12 (mkF m 35 #[.val (.ref a), .val (.int (2 : Int32)), .val (.ref b), .val (.int (1 : Int32)), .val (.int (2 : Int32)), .val (.int (1 : Int32)), .val (.int vb)] [])
  refine go_st (fun _ kq => XT.iincV X12.here hx rfl (1 : Int32) (hb hby d10_35) (by decide) rfl (l' := #[.val (.ref a), .val (.int (2 : Int32)), .val (.ref b), .val (.int (2 : Int32)), .val (.int (2 : Int32)), .val (.int (1 : Int32)), .val (.int vb)]) rfl kq) ?_
  show Go p e below s _ _ _ T12 (mkF m 38 #[.val (.ref a), .val (.int (2 : Int32)), .val (.ref b), .val (.int (2 : Int32)), .val (.int (2 : Int32)), .val (.int (1 : Int32)), .val (.int vb)] [])
  refine go_st (fun _ kq => XT.iincV X12.here hx rfl (1 : Int32) (hb hby d10_38) (by decide) rfl (l' := #[.val (.ref a), .val (.int (2 : Int32)), .val (.ref b), .val (.int (2 : Int32)), .val (.int (2 : Int32)), .val (.int (2 : Int32)), .val (.int vb)]) rfl kq) ?_
  show Go p e below s _ _ _ T12 (mkF m 41 #[.val (.ref a), .val (.int (2 : Int32)), .val (.ref b), .val (.int (2 : Int32)), .val (.int (2 : Int32)), .val (.int (2 : Int32)), .val (.int vb)] [])
  refine go_st (fun _ kq => XS.goto X12.here hx rfl (pc0 := 41) (pc' := 3) rfl (hb hby d10_41) (by decide) (by decide) kq) ?_
  show Go p e below s _ _ _ T12 (mkF m 3 #[.val (.ref a), .val (.int (2 : Int32)), .val (.ref b), .val (.int (2 : Int32)), .val (.int (2 : Int32)), .val (.int (2 : Int32)), .val (.int vb)] [])
  refine go_st (fun _ kq => XS.iload X12.here hx rfl (hb hby d10_3) rfl kq) ?_
  show Go p e below s _ _ _ T12 (mkF m 5 #[.val (.ref a), .val (.int (2 : Int32)), .val (.ref b), .val (.int (2 : Int32)), .val (.int (2 : Int32)), .val (.int (2 : Int32)), .val (.int vb)] [(.int (2 : Int32))])
  refine go_st (fun _ kq => XS.iload X12.here hx rfl (hb hby d10_5) rfl kq) ?_
  show Go p e below s _ _ _ T12 (mkF m 7 #[.val (.ref a), .val (.int (2 : Int32)), .val (.ref b), .val (.int (2 : Int32)), .val (.int (2 : Int32)), .val (.int (2 : Int32)), .val (.int vb)] [(.int (2 : Int32)), (.int (2 : Int32))])
  refine go_st (fun _ kq => XS.icmpYes X12.here hx rfl (pc0 := 7) (pc' := 44) rfl (hb hby d10_7) rfl (XT.ii_ge_t (by decide)) (by decide) (by decide) kq) ?_
  show Go p e below s _ _ _ T12 (mkF m 44 #[.val (.ref a), .val (.int (2 : Int32)), .val (.ref b), .val (.int (2 : Int32)), .val (.int (2 : Int32)), .val (.int (2 : Int32)), .val (.int vb)] [])
  refine go_st (fun _ kq => XS.iload X12.here hx rfl (hb hby d10_44) rfl kq) ?_
  show Go p e below s _ _ _ T12 (mkF m 46 #[.val (.ref a), .val (.int (2 : Int32)), .val (.ref b), .val (.int (2 : Int32)), .val (.int (2 : Int32)), .val (.int (2 : Int32)), .val (.int vb)] [(.int (2 : Int32))])
  exact go_retI X12 hx hlk hret (hb hby d10_46) (by decide) (by decide) (by rw [e12]; exact ⟨rfl, N12, (Keep.wr (Keep.wr (Keep.refl h0 [b]) W9 (Or.inl (by simp))) W12 (Or.inl (by simp))), A12⟩)
def Q_cp2 (Z : State) (a : Addr) (va : Int32) (vb : Int32) (h0 : Heap) (n0 : Nat) (v : Option Value) (h : Heap) (L : List Loc) : Prop := ∃ r : Addr, v = some (.ref r) ∧ Fr n0 L ∧ Keep h0 h [] ∧ h0.size ≤ r ∧ GA Z h r .byte 2 (fun i => .int (own_c3 (own_by va) (own_by vb) (0 : Int32) i))
theorem ef_cp2 (m : MethodId) (a : Addr) (va : Int32) (vb : Int32) : entryFrame m #[(.ref a), (.int (0 : Int32)), (.int (2 : Int32))] 6 = mkF m 0 #[.val (.ref a), .val (.int (0 : Int32)), .val (.int (2 : Int32)), .unset, .unset, .unset] [] := by first | (simp [entryFrame, mkF, argsToLocals, Value.category]; done) | rfl
abbrev rm_cp2 : Room := ({ frames := 1, cells := 1, slots := 2, locals := 18 } : Room)
set_option maxRecDepth 65536 in
set_option maxHeartbeats 4000000 in
theorem met_cp2 (l : Launch) (Z : State) (a0 : Array Value) (hw : ∀ d ∈ tables_1, d.before a0 Z = true) (a : Addr) (va : Int32) (vb : Int32) (h0 : Heap) (n0 : Nat) (Z0 : n0 ≤ h0.size) (P0 : GA Z h0 a .char 2 (fun i => .int (own_c3 va vb (0 : Int32) i))) (P1 : Lat va) (P2 : Lat vb) :
    Met l (⟨"java/lang/StringUTF16", "compress", "([CII)[B"⟩ : MethodName) jdk_52_method_16_code 6 (some (FieldType.array FieldType.byte)) [] rm_cp2 Z #[(.ref a), (.int (0 : Int32)), (.int (2 : Int32))] h0 (Q_cp2 Z a va vb h0 n0) rm_cp2.cells rm_cp2.slots := by
  refine own_body pn1 ?_
  intro p e s m below meth c s₁ ct X0 e0
  have ct0 := ct
  obtain ⟨hx, hZ, hown, hby, hml, hret, hlk, hnm⟩ := ct
  have lt_a : a < h0.size := P0.lt
  have N0 := Fr.nil n0
  refine castGo (ef_cp2 m a va vb) ?_
  show Go p e below s _ _ _ s₁ (mkF m 0 #[.val (.ref a), .val (.int (0 : Int32)), .val (.int (2 : Int32)), .unset, .unset, .unset] [])
  refine go_st (fun _ kq => XS.iloadN X0.here hx rfl (hb hby d9_0) rfl kq) ?_
  show Go p e below s _ _ _ s₁ (mkF m 1 #[.val (.ref a), .val (.int (0 : Int32)), .val (.int (2 : Int32)), .unset, .unset, .unset] [(.int (2 : Int32))])
  refine go_newP X0 hx hZ (hw _ (List.mem_of_getElem? (i := 19) rfl)) e0 (hb hby d9_1) rfl rfl 2 (by decide) 2 (Nat.le_refl _) (by decide) (by decide) (by decide) ?_
  intro T13 h13 a13 g13 X13 e13 E13 G13
  have ne14 : a ≠ a13 := fun q => Nat.lt_irrefl _ (Nat.lt_of_lt_of_le lt_a (Nat.le_of_eq (g13.symm.trans q.symm)))
  have nw_a13 : n0 ≤ a13 := Nat.le_trans Z0 (Nat.le_of_eq g13.symm)
  have lt_a13 : a13 < h13.size := G13.lt
  have A13 : GA Z h13 a13 .byte 2 (fun i => .int (own_c3 (0 : Int32) (0 : Int32) (0 : Int32) i)) := (GA.congr G13 (fun i _ => own_z3 i))
  show Go p e below s _ _ _ T13 (mkF m 3 #[.val (.ref a), .val (.int (0 : Int32)), .val (.int (2 : Int32)), .unset, .unset, .unset] [(.ref a13)])
  refine go_st (fun _ kq => XS.astoreN X13.here hx rfl (hb hby d9_3) rfl rfl (l' := #[.val (.ref a), .val (.int (0 : Int32)), .val (.int (2 : Int32)), .val (.ref a13), .unset, .unset]) rfl kq) ?_
  show Go p e below s _ _ _ T13 (mkF m 4 #[.val (.ref a), .val (.int (0 : Int32)), .val (.int (2 : Int32)), .val (.ref a13), .unset, .unset] [])
  refine go_st (fun _ kq => XS.aloadN X13.here hx rfl (hb hby d9_4) rfl rfl kq) ?_
  show Go p e below s _ _ _ T13 (mkF m 5 #[.val (.ref a), .val (.int (0 : Int32)), .val (.int (2 : Int32)), .val (.ref a13), .unset, .unset] [(.ref a)])
  refine go_st (fun _ kq => XS.iloadN X13.here hx rfl (hb hby d9_5) rfl kq) ?_
  show Go p e below s _ _ _ T13 (mkF m 6 #[.val (.ref a), .val (.int (0 : Int32)), .val (.int (2 : Int32)), .val (.ref a13), .unset, .unset] [(.int (0 : Int32)), (.ref a)])
  refine go_st (fun _ kq => XS.aloadN X13.here hx rfl (hb hby d9_6) rfl rfl kq) ?_
  show Go p e below s _ _ _ T13 (mkF m 7 #[.val (.ref a), .val (.int (0 : Int32)), .val (.int (2 : Int32)), .val (.ref a13), .unset, .unset] [(.ref a13), (.int (0 : Int32)), (.ref a)])
  refine go_st (fun _ kq => XT.iconstV X13.here hx rfl (0 : Int32) (hb hby d9_7) (by decide) kq) ?_
  show Go p e below s _ _ _ T13 (mkF m 8 #[.val (.ref a), .val (.int (0 : Int32)), .val (.int (2 : Int32)), .val (.ref a13), .unset, .unset] [(.int (0 : Int32)), (.ref a13), (.int (0 : Int32)), (.ref a)])
  refine go_st (fun _ kq => XS.iloadN X13.here hx rfl (hb hby d9_8) rfl kq) ?_
  show Go p e below s _ _ _ T13 (mkF m 9 #[.val (.ref a), .val (.int (0 : Int32)), .val (.int (2 : Int32)), .val (.ref a13), .unset, .unset] [(.int (2 : Int32)), (.int (0 : Int32)), (.ref a13), (.int (0 : Int32)), (.ref a)])
  have c16 := P0.ext E13
  have z17 : n0 ≤ h13.size := Nat.le_trans Z0 E13.1
  refine go_callS X13 hx hZ hml hown (hw _ (List.mem_of_getElem? (i := 59) rfl)) (hw _ (List.mem_of_getElem? (i := 60) rfl)) (hw _ (List.mem_of_getElem? (i := 57) rfl)) (hw _ (List.mem_of_getElem? (i := 61) rfl)) e13 (argsL := [(.ref a), (.int (0 : Int32)), (.ref a13), (.int (0 : Int32)), (.int (2 : Int32))]) (rest := []) (W := 0) (met_cpi2 l Z a0 hw a a13 va vb h13 n0 z17 c16 A13 nw_a13 ne14 P1 P2) (hb hby d9_9) rfl rfl rfl (lenOf pd0 rfl) (by show 2 * 0 + _ ≤ _; exact Nat.le_of_eq rfl) (by decide) (by decide) (by decide) (by decide) (by decide) ?_
  intro T15 v15 L15 X15 q15
  obtain ⟨rfl, M15, K15, f15_0⟩ := q15
  have N15 := Fr.app N0 M15
  show Go p e below s _ _ _ T15 (mkF m 12 #[.val (.ref a), .val (.int (0 : Int32)), .val (.int (2 : Int32)), .val (.ref a13), .unset, .unset] [(.int (2 : Int32))])
  refine go_st (fun _ kq => XS.istore X15.here hx rfl (hb hby d9_12) rfl (l' := #[.val (.ref a), .val (.int (0 : Int32)), .val (.int (2 : Int32)), .val (.ref a13), .val (.int (2 : Int32)), .unset]) rfl kq) ?_
  show Go p e below s _ _ _ T15 (mkF m 14 #[.val (.ref a), .val (.int (0 : Int32)), .val (.int (2 : Int32)), .val (.ref a13), .val (.int (2 : Int32)), .unset] [])
  refine go_st (fun _ kq => XS.iload X15.here hx rfl (hb hby d9_14) rfl kq) ?_
  show Go p e below s _ _ _ T15 (mkF m 16 #[.val (.ref a), .val (.int (0 : Int32)), .val (.int (2 : Int32)), .val (.ref a13), .val (.int (2 : Int32)), .unset] [(.int (2 : Int32))])
  refine go_st (fun _ kq => XS.iloadN X15.here hx rfl (hb hby d9_16) rfl kq) ?_
  show Go p e below s _ _ _ T15 (mkF m 17 #[.val (.ref a), .val (.int (0 : Int32)), .val (.int (2 : Int32)), .val (.ref a13), .val (.int (2 : Int32)), .unset] [(.int (2 : Int32)), (.int (2 : Int32))])
  refine go_st (fun _ kq => XS.icmpYes X15.here hx rfl (pc0 := 17) (pc' := 57) rfl (hb hby d9_17) rfl (XT.ii_eq_t (by decide)) (by decide) (by decide) kq) ?_
  show Go p e below s _ _ _ T15 (mkF m 57 #[.val (.ref a), .val (.int (0 : Int32)), .val (.int (2 : Int32)), .val (.ref a13), .val (.int (2 : Int32)), .unset] [])
  refine go_st (fun _ kq => XS.aloadN X15.here hx rfl (hb hby d9_57) rfl rfl kq) ?_
  show Go p e below s _ _ _ T15 (mkF m 58 #[.val (.ref a), .val (.int (0 : Int32)), .val (.int (2 : Int32)), .val (.ref a13), .val (.int (2 : Int32)), .unset] [(.ref a13)])
  exact go_retA X15 hx hlk hret rfl rfl (hb hby d9_58) (by decide) (by decide) ⟨a13, rfl, N15, (Keep.trans (Keep.ext (Keep.refl h0 []) E13) K15 (allS (Or.inr (Nat.le_trans (Nat.le_refl _) (Nat.le_of_eq g13.symm))) all0)), (Nat.le_trans (Nat.le_refl _) (Nat.le_of_eq g13.symm)), f15_0⟩
def fCfl2  : Int32 := (0 : Int32)
theorem ef_cfl2 (m : MethodId) (b : Addr) (fq : Nat → Value) : entryFrame m #[(.ref b), (.int (2 : Int32))] 2 = mkF m 0 #[.val (.ref b), .val (.int (2 : Int32))] [] := by first | (simp [entryFrame, mkF, argsToLocals, Value.category]; done) | rfl
abbrev rm_cfl2 : Room := ({ frames := 0, cells := 0, slots := 0, locals := 0 } : Room)
set_option maxRecDepth 65536 in
set_option maxHeartbeats 4000000 in
theorem met_cfl2 (l : Launch) (Z : State) (a0 : Array Value) (hw : ∀ d ∈ tables_1, d.before a0 Z = true) (b : Addr) (fq : Nat → Value) (h0 : Heap) (n0 : Nat) (Z0 : n0 ≤ h0.size) (P0 : GA Z h0 b .byte 2 fq) :
    Met l (⟨"java/lang/StringUTF16", "coderFromArrayLen", "([BI)B"⟩ : MethodName) jdk_52_method_15_code 2 (some FieldType.byte) [] rm_cfl2 Z #[(.ref b), (.int (2 : Int32))] h0 (QV (some (.int (fCfl2 ))) h0 n0) 0 0 := by
  refine own_body pn2 ?_
  intro p e s m below meth c s₁ ct X0 e0
  have ct0 := ct
  obtain ⟨hx, hZ, hown, hby, hml, hret, hlk, hnm⟩ := ct
  have N0 := Fr.nil n0
  refine castGo (ef_cfl2 m b fq) ?_
  unfold fCfl2
  show Go p e below s _ _ _ s₁ (mkF m 0 #[.val (.ref b), .val (.int (2 : Int32))] [])
  refine go_st (fun _ kq => XS.iloadN X0.here hx rfl (hb hby d11_0) rfl kq) ?_
  show Go p e below s _ _ _ s₁ (mkF m 1 #[.val (.ref b), .val (.int (2 : Int32))] [(.int (2 : Int32))])
  refine go_st (fun _ kq => XS.aloadN X0.here hx rfl (hb hby d11_1) rfl rfl kq) ?_
  show Go p e below s _ _ _ s₁ (mkF m 2 #[.val (.ref b), .val (.int (2 : Int32))] [(.ref b), (.int (2 : Int32))])
  refine go_alen X0 hx hZ e0 P0 (hb hby d11_2) rfl rfl (2 : Int32) (by decide) ?_
  show Go p e below s _ _ _ s₁ (mkF m 3 #[.val (.ref b), .val (.int (2 : Int32))] [(.int (2 : Int32)), (.int (2 : Int32))])
  refine go_st (fun _ kq => XS.isub X0.here hx rfl (hb hby d11_3) rfl kq) ?_
  rw [show ((2 : Int32) - (2 : Int32)) = (0 : Int32) from by decide +kernel]
  show Go p e below s _ _ _ s₁ (mkF m 4 #[.val (.ref b), .val (.int (2 : Int32))] [(.int (0 : Int32))])
  refine go_st (fun _ kq => XT.bipushV X0.here hx rfl (31 : Int32) (hb hby d11_4) (by decide) kq) ?_
  show Go p e below s _ _ _ s₁ (mkF m 6 #[.val (.ref b), .val (.int (2 : Int32))] [(.int (31 : Int32)), (.int (0 : Int32))])
  refine go_st (fun _ kq => XT.iushr X0.here hx rfl (hb hby d11_6) rfl kq) ?_
  rw [show (XT.ushr (0 : Int32) (31 : Int32)) = (0 : Int32) from by decide +kernel]
  show Go p e below s _ _ _ s₁ (mkF m 7 #[.val (.ref b), .val (.int (2 : Int32))] [(.int (0 : Int32))])
  refine go_st (fun _ kq => XT.i2b X0.here hx rfl (hb hby d11_7) rfl kq) ?_
  rw [show (0 : Int32).toInt8.toInt32 = (0 : Int32) from by decide +kernel]
  show Go p e below s _ _ _ s₁ (mkF m 8 #[.val (.ref b), .val (.int (2 : Int32))] [(.int (0 : Int32))])
  exact go_retN (t := .byte) (w := (0 : Int32)) X0 hx hlk hret (by simp) (hb hby d11_8) (by decide +kernel) (by decide) (by decide) ⟨rfl, N0, e0⟩
def Q_cpi3 (Z : State) (a : Addr) (b : Addr) (va : Int32) (vb : Int32) (vc : Int32) (h0 : Heap) (n0 : Nat) (v : Option Value) (h : Heap) (L : List Loc) : Prop := v = some (.int (3 : Int32)) ∧ Fr n0 L ∧ Keep h0 h [b] ∧ GA Z h b .byte 3 (fun i => .int (own_c3 (own_by va) (own_by vb) (own_by vc) i))
theorem ef_cpi3 (m : MethodId) (a : Addr) (b : Addr) (va : Int32) (vb : Int32) (vc : Int32) : entryFrame m #[(.ref a), (.int (0 : Int32)), (.ref b), (.int (0 : Int32)), (.int (3 : Int32))] 7 = mkF m 0 #[.val (.ref a), .val (.int (0 : Int32)), .val (.ref b), .val (.int (0 : Int32)), .val (.int (3 : Int32)), .unset, .unset] [] := by first | (simp [entryFrame, mkF, argsToLocals, Value.category]; done) | rfl
abbrev rm_cpi3 : Room := ({ frames := 0, cells := 0, slots := 0, locals := 0 } : Room)
set_option maxRecDepth 65536 in
set_option maxHeartbeats 4000000 in
theorem met_cpi3 (l : Launch) (Z : State) (a0 : Array Value) (hw : ∀ d ∈ tables_1, d.before a0 Z = true) (a : Addr) (b : Addr) (va : Int32) (vb : Int32) (vc : Int32) (h0 : Heap) (n0 : Nat) (Z0 : n0 ≤ h0.size) (P0 : GA Z h0 a .char 3 (fun i => .int (own_c3 va vb vc i))) (P1 : GA Z h0 b .byte 3 (fun i => .int (own_c3 (0 : Int32) (0 : Int32) (0 : Int32) i))) (P2 : n0 ≤ b) (P3 : a ≠ b) (P4 : Lat va) (P5 : Lat vb) (P6 : Lat vc) :
    Met l (⟨"java/lang/StringUTF16", "compress", "([CI[BII)I"⟩ : MethodName) jdk_52_method_21_code 7 (some FieldType.int) [] rm_cpi3 Z #[(.ref a), (.int (0 : Int32)), (.ref b), (.int (0 : Int32)), (.int (3 : Int32))] h0 (Q_cpi3 Z a b va vb vc h0 n0) rm_cpi3.cells rm_cpi3.slots := by
  refine own_body pn0 ?_
  intro p e s m below meth c s₁ ct X0 e0
  have ct0 := ct
  obtain ⟨hx, hZ, hown, hby, hml, hret, hlk, hnm⟩ := ct
  have lt_a : a < h0.size := P0.lt
  have lt_b : b < h0.size := P1.lt
  have N0 := Fr.nil n0
  refine castGo (ef_cpi3 m a b va vb vc) ?_
  show Go p e below s _ _ _ s₁ (mkF m 0 #[.val (.ref a), .val (.int (0 : Int32)), .val (.ref b), .val (.int (0 : Int32)), .val (.int (3 : Int32)), .unset, .unset] [])
  refine go_st (fun _ kq => XT.iconstV X0.here hx rfl (0 : Int32) (hb hby d10_0) (by decide) kq) ?_
  show Go p e below s _ _ _ s₁ (mkF m 1 #[.val (.ref a), .val (.int (0 : Int32)), .val (.ref b), .val (.int (0 : Int32)), .val (.int (3 : Int32)), .unset, .unset] [(.int (0 : Int32))])
  refine go_st (fun _ kq => XS.istore X0.here hx rfl (hb hby d10_1) rfl (l' := #[.val (.ref a), .val (.int (0 : Int32)), .val (.ref b), .val (.int (0 : Int32)), .val (.int (3 : Int32)), .val (.int (0 : Int32)), .unset]) rfl kq) ?_
  show Go p e below s _ _ _ s₁ (mkF m 3 #[.val (.ref a), .val (.int (0 : Int32)), .val (.ref b), .val (.int (0 : Int32)), .val (.int (3 : Int32)), .val (.int (0 : Int32)), .unset] [])
  refine go_st (fun _ kq => XS.iload X0.here hx rfl (hb hby d10_3) rfl kq) ?_
  show Go p e below s _ _ _ s₁ (mkF m 5 #[.val (.ref a), .val (.int (0 : Int32)), .val (.ref b), .val (.int (0 : Int32)), .val (.int (3 : Int32)), .val (.int (0 : Int32)), .unset] [(.int (0 : Int32))])
  refine go_st (fun _ kq => XS.iload X0.here hx rfl (hb hby d10_5) rfl kq) ?_
  show Go p e below s _ _ _ s₁ (mkF m 7 #[.val (.ref a), .val (.int (0 : Int32)), .val (.ref b), .val (.int (0 : Int32)), .val (.int (3 : Int32)), .val (.int (0 : Int32)), .unset] [(.int (3 : Int32)), (.int (0 : Int32))])
  refine go_st (fun _ kq => XS.icmpNo X0.here hx rfl (hb hby d10_7) rfl (XT.ii_ge_f (by decide)) kq) ?_
  show Go p e below s _ _ _ s₁ (mkF m 10 #[.val (.ref a), .val (.int (0 : Int32)), .val (.ref b), .val (.int (0 : Int32)), .val (.int (3 : Int32)), .val (.int (0 : Int32)), .unset] [])
  refine go_st (fun _ kq => XS.aloadN X0.here hx rfl (hb hby d10_10) rfl rfl kq) ?_
  show Go p e below s _ _ _ s₁ (mkF m 11 #[.val (.ref a), .val (.int (0 : Int32)), .val (.ref b), .val (.int (0 : Int32)), .val (.int (3 : Int32)), .val (.int (0 : Int32)), .unset] [(.ref a)])
  refine go_st (fun _ kq => XS.iloadN X0.here hx rfl (hb hby d10_11) rfl kq) ?_
  show Go p e below s _ _ _ s₁ (mkF m 12 #[.val (.ref a), .val (.int (0 : Int32)), .val (.ref b), .val (.int (0 : Int32)), .val (.int (3 : Int32)), .val (.int (0 : Int32)), .unset] [(.int (0 : Int32)), (.ref a)])
  refine go_cald X0 hx hZ e0 P0 (hb hby d10_12) rfl rfl (by decide) (.int va) rfl ?_
  show Go p e below s _ _ _ s₁ (mkF m 13 #[.val (.ref a), .val (.int (0 : Int32)), .val (.ref b), .val (.int (0 : Int32)), .val (.int (3 : Int32)), .val (.int (0 : Int32)), .unset] [(.int va)])
  refine go_st (fun _ kq => XS.istore X0.here hx rfl (hb hby d10_13) rfl (l' := #[.val (.ref a), .val (.int (0 : Int32)), .val (.ref b), .val (.int (0 : Int32)), .val (.int (3 : Int32)), .val (.int (0 : Int32)), .val (.int va)]) rfl kq) ?_
  show Go p e below s _ _ _ s₁ (mkF m 15 #[.val (.ref a), .val (.int (0 : Int32)), .val (.ref b), .val (.int (0 : Int32)), .val (.int (3 : Int32)), .val (.int (0 : Int32)), .val (.int va)] [])
  refine go_st (fun _ kq => XS.iload X0.here hx rfl (hb hby d10_15) rfl kq) ?_
  show Go p e below s _ _ _ s₁ (mkF m 17 #[.val (.ref a), .val (.int (0 : Int32)), .val (.ref b), .val (.int (0 : Int32)), .val (.int (3 : Int32)), .val (.int (0 : Int32)), .val (.int va)] [(.int va)])
  refine go_st (fun _ kq => XT.sipushV X0.here hx rfl (255 : Int32) (hb hby d10_17) (by decide) kq) ?_
  show Go p e below s _ _ _ s₁ (mkF m 20 #[.val (.ref a), .val (.int (0 : Int32)), .val (.ref b), .val (.int (0 : Int32)), .val (.int (3 : Int32)), .val (.int (0 : Int32)), .val (.int va)] [(.int (255 : Int32)), (.int va)])
  have hb18 : ¬ ((255 : Int32) < va) := by exact own_le255 P4
  refine go_st (fun _ kq => XS.icmpYes X0.here hx rfl (pc0 := 20) (pc' := 26) rfl (hb hby d10_20) rfl (XT.ii_le_t hb18) (by decide) (by decide) kq) ?_
  show Go p e below s _ _ _ s₁ (mkF m 26 #[.val (.ref a), .val (.int (0 : Int32)), .val (.ref b), .val (.int (0 : Int32)), .val (.int (3 : Int32)), .val (.int (0 : Int32)), .val (.int va)] [])
  refine go_st (fun _ kq => XS.aloadN X0.here hx rfl (hb hby d10_26) rfl rfl kq) ?_
  show Go p e below s _ _ _ s₁ (mkF m 27 #[.val (.ref a), .val (.int (0 : Int32)), .val (.ref b), .val (.int (0 : Int32)), .val (.int (3 : Int32)), .val (.int (0 : Int32)), .val (.int va)] [(.ref b)])
  refine go_st (fun _ kq => XS.iloadN X0.here hx rfl (hb hby d10_27) rfl kq) ?_
  show Go p e below s _ _ _ s₁ (mkF m 28 #[.val (.ref a), .val (.int (0 : Int32)), .val (.ref b), .val (.int (0 : Int32)), .val (.int (3 : Int32)), .val (.int (0 : Int32)), .val (.int va)] [(.int (0 : Int32)), (.ref b)])
  refine go_st (fun _ kq => XS.iload X0.here hx rfl (hb hby d10_28) rfl kq) ?_
  show Go p e below s _ _ _ s₁ (mkF m 30 #[.val (.ref a), .val (.int (0 : Int32)), .val (.ref b), .val (.int (0 : Int32)), .val (.int (3 : Int32)), .val (.int (0 : Int32)), .val (.int va)] [(.int va), (.int (0 : Int32)), (.ref b)])
  refine go_st (fun _ kq => XT.i2b X0.here hx rfl (hb hby d10_30) rfl kq) ?_
  show Go p e below s _ _ _ s₁ (mkF m 31 #[.val (.ref a), .val (.int (0 : Int32)), .val (.ref b), .val (.int (0 : Int32)), .val (.int (3 : Int32)), .val (.int (0 : Int32)), .val (.int va)] [(.int va.toInt8.toInt32), (.int (0 : Int32)), (.ref b)])
  refine go_bast X0 hx hZ e0 P1 (hb hby d10_31) rfl rfl (by decide) ?_
  intro T19 h19 X19 e19 W19 G19
  have N19 := Fr.snoc X19 N0 P2
  have A19 : GA Z h19 b .byte 3 (fun i => .int (own_c3 (own_by va) (0 : Int32) (0 : Int32) i)) := (own_stc (own_by2 P4) (by decide) (own_c30 (own_by va) (0 : Int32) (0 : Int32) (0 : Int32)) G19)
  show Go p e below s _ _ _ T19 (mkF m 32 #[.val (.ref a), .val (.int (0 : Int32)), .val (.ref b), .val (.int (0 : Int32)), .val (.int (3 : Int32)), .val (.int (0 : Int32)), .val (.int va)] [])
  refine go_st (fun _ kq => XT.iincV X19.here hx rfl (1 : Int32) (hb hby d10_32) (by decide) rfl (l' := #[.val (.ref a), .val (.int (1 : Int32)), .val (.ref b), .val (.int (0 : Int32)), .val (.int (3 : Int32)), .val (.int (0 : Int32)), .val (.int va)]) rfl kq) ?_
  show Go p e below s _ _ _ T19 (mkF m 35 #[.val (.ref a), .val (.int (1 : Int32)), .val (.ref b), .val (.int (0 : Int32)), .val (.int (3 : Int32)), .val (.int (0 : Int32)), .val (.int va)] [])
  refine go_st (fun _ kq => XT.iincV X19.here hx rfl (1 : Int32) (hb hby d10_35) (by decide) rfl (l' := #[.val (.ref a), .val (.int (1 : Int32)), .val (.ref b), .val (.int (1 : Int32)), .val (.int (3 : Int32)), .val (.int (0 : Int32)), .val (.int va)]) rfl kq) ?_
  show Go p e below s _ _ _ T19 (mkF m 38 #[.val (.ref a), .val (.int (1 : Int32)), .val (.ref b), .val (.int (1 : Int32)), .val (.int (3 : Int32)), .val (.int (0 : Int32)), .val (.int va)] [])
  refine go_st (fun _ kq => XT.iincV X19.here hx rfl (1 : Int32) (hb hby d10_38) (by decide) rfl (l' := #[.val (.ref a), .val (.int (1 : Int32)), .val (.ref b), .val (.int (1 : Int32)), .val (.int (3 : Int32)), .val (.int (1 : Int32)), .val (.int va)]) rfl kq) ?_
  show Go p e below s _ _ _ T19 (mkF m 41 #[.val (.ref a), .val (.int (1 : Int32)), .val (.ref b), .val (.int (1 : Int32)), .val (.int (3 : Int32)), .val (.int (1 : Int32)), .val (.int va)] [])
  refine go_st (fun _ kq => XS.goto X19.here hx rfl (pc0 := 41) (pc' := 3) rfl (hb hby d10_41) (by decide) (by decide) kq) ?_
  show Go p e below s _ _ _ T19 (mkF m 3 #[.val (.ref a), .val (.int (1 : Int32)), .val (.ref b), .val (.int (1 : Int32)), .val (.int (3 : Int32)), .val (.int (1 : Int32)), .val (.int va)] [])
  refine go_st (fun _ kq => XS.iload X19.here hx rfl (hb hby d10_3) rfl kq) ?_
  show Go p e below s _ _ _ T19 (mkF m 5 #[.val (.ref a), .val (.int (1 : Int32)), .val (.ref b), .val (.int (1 : Int32)), .val (.int (3 : Int32)), .val (.int (1 : Int32)), .val (.int va)] [(.int (1 : Int32))])
  refine go_st (fun _ kq => XS.iload X19.here hx rfl (hb hby d10_5) rfl kq) ?_
  show Go p e below s _ _ _ T19 (mkF m 7 #[.val (.ref a), .val (.int (1 : Int32)), .val (.ref b), .val (.int (1 : Int32)), .val (.int (3 : Int32)), .val (.int (1 : Int32)), .val (.int va)] [(.int (3 : Int32)), (.int (1 : Int32))])
  refine go_st (fun _ kq => XS.icmpNo X19.here hx rfl (hb hby d10_7) rfl (XT.ii_ge_f (by decide)) kq) ?_
  show Go p e below s _ _ _ T19 (mkF m 10 #[.val (.ref a), .val (.int (1 : Int32)), .val (.ref b), .val (.int (1 : Int32)), .val (.int (3 : Int32)), .val (.int (1 : Int32)), .val (.int va)] [])
  refine go_st (fun _ kq => XS.aloadN X19.here hx rfl (hb hby d10_10) rfl rfl kq) ?_
  show Go p e below s _ _ _ T19 (mkF m 11 #[.val (.ref a), .val (.int (1 : Int32)), .val (.ref b), .val (.int (1 : Int32)), .val (.int (3 : Int32)), .val (.int (1 : Int32)), .val (.int va)] [(.ref a)])
  refine go_st (fun _ kq => XS.iloadN X19.here hx rfl (hb hby d10_11) rfl kq) ?_
  show Go p e below s _ _ _ T19 (mkF m 12 #[.val (.ref a), .val (.int (1 : Int32)), .val (.ref b), .val (.int (1 : Int32)), .val (.int (3 : Int32)), .val (.int (1 : Int32)), .val (.int va)] [(.int (1 : Int32)), (.ref a)])
  have c20 := P0.other W19 P3
  refine go_cald X19 hx hZ e19 c20 (hb hby d10_12) rfl rfl (by decide) (.int vb) rfl ?_
  show Go p e below s _ _ _ T19 (mkF m 13 #[.val (.ref a), .val (.int (1 : Int32)), .val (.ref b), .val (.int (1 : Int32)), .val (.int (3 : Int32)), .val (.int (1 : Int32)), .val (.int va)] [(.int vb)])
  refine go_st (fun _ kq => XS.istore X19.here hx rfl (hb hby d10_13) rfl (l' := #[.val (.ref a), .val (.int (1 : Int32)), .val (.ref b), .val (.int (1 : Int32)), .val (.int (3 : Int32)), .val (.int (1 : Int32)), .val (.int vb)]) rfl kq) ?_
  show Go p e below s _ _ _ T19 (mkF m 15 #[.val (.ref a), .val (.int (1 : Int32)), .val (.ref b), .val (.int (1 : Int32)), .val (.int (3 : Int32)), .val (.int (1 : Int32)), .val (.int vb)] [])
  refine go_st (fun _ kq => XS.iload X19.here hx rfl (hb hby d10_15) rfl kq) ?_
  show Go p e below s _ _ _ T19 (mkF m 17 #[.val (.ref a), .val (.int (1 : Int32)), .val (.ref b), .val (.int (1 : Int32)), .val (.int (3 : Int32)), .val (.int (1 : Int32)), .val (.int vb)] [(.int vb)])
  refine go_st (fun _ kq => XT.sipushV X19.here hx rfl (255 : Int32) (hb hby d10_17) (by decide) kq) ?_
  show Go p e below s _ _ _ T19 (mkF m 20 #[.val (.ref a), .val (.int (1 : Int32)), .val (.ref b), .val (.int (1 : Int32)), .val (.int (3 : Int32)), .val (.int (1 : Int32)), .val (.int vb)] [(.int (255 : Int32)), (.int vb)])
  have hb21 : ¬ ((255 : Int32) < vb) := by exact own_le255 P5
  refine go_st (fun _ kq => XS.icmpYes X19.here hx rfl (pc0 := 20) (pc' := 26) rfl (hb hby d10_20) rfl (XT.ii_le_t hb21) (by decide) (by decide) kq) ?_
  show Go p e below s _ _ _ T19 (mkF m 26 #[.val (.ref a), .val (.int (1 : Int32)), .val (.ref b), .val (.int (1 : Int32)), .val (.int (3 : Int32)), .val (.int (1 : Int32)), .val (.int vb)] [])
  refine go_st (fun _ kq => XS.aloadN X19.here hx rfl (hb hby d10_26) rfl rfl kq) ?_
  show Go p e below s _ _ _ T19 (mkF m 27 #[.val (.ref a), .val (.int (1 : Int32)), .val (.ref b), .val (.int (1 : Int32)), .val (.int (3 : Int32)), .val (.int (1 : Int32)), .val (.int vb)] [(.ref b)])
  refine go_st (fun _ kq => XS.iloadN X19.here hx rfl (hb hby d10_27) rfl kq) ?_
  show Go p e below s _ _ _ T19 (mkF m 28 #[.val (.ref a), .val (.int (1 : Int32)), .val (.ref b), .val (.int (1 : Int32)), .val (.int (3 : Int32)), .val (.int (1 : Int32)), .val (.int vb)] [(.int (1 : Int32)), (.ref b)])
  refine go_st (fun _ kq => XS.iload X19.here hx rfl (hb hby d10_28) rfl kq) ?_
  show Go p e below s _ _ _ T19 (mkF m 30 #[.val (.ref a), .val (.int (1 : Int32)), .val (.ref b), .val (.int (1 : Int32)), .val (.int (3 : Int32)), .val (.int (1 : Int32)), .val (.int vb)] [(.int vb), (.int (1 : Int32)), (.ref b)])
  refine go_st (fun _ kq => XT.i2b X19.here hx rfl (hb hby d10_30) rfl kq) ?_
  show Go p e below s _ _ _ T19 (mkF m 31 #[.val (.ref a), .val (.int (1 : Int32)), .val (.ref b), .val (.int (1 : Int32)), .val (.int (3 : Int32)), .val (.int (1 : Int32)), .val (.int vb)] [(.int vb.toInt8.toInt32), (.int (1 : Int32)), (.ref b)])
  refine go_bast X19 hx hZ e19 A19 (hb hby d10_31) rfl rfl (by decide) ?_
  intro T22 h22 X22 e22 W22 G22
  have N22 := Fr.snoc X22 N19 P2
  have A22 : GA Z h22 b .byte 3 (fun i => .int (own_c3 (own_by va) (own_by vb) (0 : Int32) i)) := (own_stc (own_by2 P5) (by decide) (own_c31 (own_by vb) (own_by va) (0 : Int32) (0 : Int32)) G22)
  show Go p e below s _ _ _ T22 (mkF m 32 #[.val (.ref a), .val (.int (1 : Int32)), .val (.ref b), .val (.int (1 : Int32)), .val (.int (3 : Int32)), .val (.int (1 : Int32)), .val (.int vb)] [])
  refine go_st (fun _ kq => XT.iincV X22.here hx rfl (1 : Int32) (hb hby d10_32) (by decide) rfl (l' := #[.val (.ref a), .val (.int (2 : Int32)), .val (.ref b), .val (.int (1 : Int32)), .val (.int (3 : Int32)), .val (.int (1 : Int32)), .val (.int vb)]) rfl kq) ?_
  show Go p e below s _ _ _ T22 (mkF m 35 #[.val (.ref a), .val (.int (2 : Int32)), .val (.ref b), .val (.int (1 : Int32)), .val (.int (3 : Int32)), .val (.int (1 : Int32)), .val (.int vb)] [])
  refine go_st (fun _ kq => XT.iincV X22.here hx rfl (1 : Int32) (hb hby d10_35) (by decide) rfl (l' := #[.val (.ref a), .val (.int (2 : Int32)), .val (.ref b), .val (.int (2 : Int32)), .val (.int (3 : Int32)), .val (.int (1 : Int32)), .val (.int vb)]) rfl kq) ?_
  show Go p e below s _ _ _ T22 (mkF m 38 #[.val (.ref a), .val (.int (2 : Int32)), .val (.ref b), .val (.int (2 : Int32)), .val (.int (3 : Int32)), .val (.int (1 : Int32)), .val (.int vb)] [])
  refine go_st (fun _ kq => XT.iincV X22.here hx rfl (1 : Int32) (hb hby d10_38) (by decide) rfl (l' := #[.val (.ref a), .val (.int (2 : Int32)), .val (.ref b), .val (.int (2 : Int32)), .val (.int (3 : Int32)), .val (.int (2 : Int32)), .val (.int vb)]) rfl kq) ?_
  show Go p e below s _ _ _ T22 (mkF m 41 #[.val (.ref a), .val (.int (2 : Int32)), .val (.ref b), .val (.int (2 : Int32)), .val (.int (3 : Int32)), .val (.int (2 : Int32)), .val (.int vb)] [])
  refine go_st (fun _ kq => XS.goto X22.here hx rfl (pc0 := 41) (pc' := 3) rfl (hb hby d10_41) (by decide) (by decide) kq) ?_
  show Go p e below s _ _ _ T22 (mkF m 3 #[.val (.ref a), .val (.int (2 : Int32)), .val (.ref b), .val (.int (2 : Int32)), .val (.int (3 : Int32)), .val (.int (2 : Int32)), .val (.int vb)] [])
  refine go_st (fun _ kq => XS.iload X22.here hx rfl (hb hby d10_3) rfl kq) ?_
  show Go p e below s _ _ _ T22 (mkF m 5 #[.val (.ref a), .val (.int (2 : Int32)), .val (.ref b), .val (.int (2 : Int32)), .val (.int (3 : Int32)), .val (.int (2 : Int32)), .val (.int vb)] [(.int (2 : Int32))])
  refine go_st (fun _ kq => XS.iload X22.here hx rfl (hb hby d10_5) rfl kq) ?_
  show Go p e below s _ _ _ T22 (mkF m 7 #[.val (.ref a), .val (.int (2 : Int32)), .val (.ref b), .val (.int (2 : Int32)), .val (.int (3 : Int32)), .val (.int (2 : Int32)), .val (.int vb)] [(.int (3 : Int32)), (.int (2 : Int32))])
  refine go_st (fun _ kq => XS.icmpNo X22.here hx rfl (hb hby d10_7) rfl (XT.ii_ge_f (by decide)) kq) ?_
  show Go p e below s _ _ _ T22 (mkF m 10 #[.val (.ref a), .val (.int (2 : Int32)), .val (.ref b), .val (.int (2 : Int32)), .val (.int (3 : Int32)), .val (.int (2 : Int32)), .val (.int vb)] [])
  refine go_st (fun _ kq => XS.aloadN X22.here hx rfl (hb hby d10_10) rfl rfl kq) ?_
  show Go p e below s _ _ _ T22 (mkF m 11 #[.val (.ref a), .val (.int (2 : Int32)), .val (.ref b), .val (.int (2 : Int32)), .val (.int (3 : Int32)), .val (.int (2 : Int32)), .val (.int vb)] [(.ref a)])
  refine go_st (fun _ kq => XS.iloadN X22.here hx rfl (hb hby d10_11) rfl kq) ?_
  show Go p e below s _ _ _ T22 (mkF m 12 #[.val (.ref a), .val (.int (2 : Int32)), .val (.ref b), .val (.int (2 : Int32)), .val (.int (3 : Int32)), .val (.int (2 : Int32)), .val (.int vb)] [(.int (2 : Int32)), (.ref a)])
  have c23 := c20.other W22 P3
  refine go_cald X22 hx hZ e22 c23 (hb hby d10_12) rfl rfl (by decide) (.int vc) rfl ?_
  show Go p e below s _ _ _ T22 (mkF m 13 #[.val (.ref a), .val (.int (2 : Int32)), .val (.ref b), .val (.int (2 : Int32)), .val (.int (3 : Int32)), .val (.int (2 : Int32)), .val (.int vb)] [(.int vc)])
  refine go_st (fun _ kq => XS.istore X22.here hx rfl (hb hby d10_13) rfl (l' := #[.val (.ref a), .val (.int (2 : Int32)), .val (.ref b), .val (.int (2 : Int32)), .val (.int (3 : Int32)), .val (.int (2 : Int32)), .val (.int vc)]) rfl kq) ?_
  show Go p e below s _ _ _ T22 (mkF m 15 #[.val (.ref a), .val (.int (2 : Int32)), .val (.ref b), .val (.int (2 : Int32)), .val (.int (3 : Int32)), .val (.int (2 : Int32)), .val (.int vc)] [])
  refine go_st (fun _ kq => XS.iload X22.here hx rfl (hb hby d10_15) rfl kq) ?_
  show Go p e below s _ _ _ T22 (mkF m 17 #[.val (.ref a), .val (.int (2 : Int32)), .val (.ref b), .val (.int (2 : Int32)), .val (.int (3 : Int32)), .val (.int (2 : Int32)), .val (.int vc)] [(.int vc)])
  refine go_st (fun _ kq => XT.sipushV X22.here hx rfl (255 : Int32) (hb hby d10_17) (by decide) kq) ?_
  show Go p e below s _ _ _ T22 (mkF m 20 #[.val (.ref a), .val (.int (2 : Int32)), .val (.ref b), .val (.int (2 : Int32)), .val (.int (3 : Int32)), .val (.int (2 : Int32)), .val (.int vc)] [(.int (255 : Int32)), (.int vc)])
  have hb24 : ¬ ((255 : Int32) < vc) := by exact own_le255 P6
  refine go_st (fun _ kq => XS.icmpYes X22.here hx rfl (pc0 := 20) (pc' := 26) rfl (hb hby d10_20) rfl (XT.ii_le_t hb24) (by decide) (by decide) kq) ?_
  show Go p e below s _ _ _ T22 (mkF m 26 #[.val (.ref a), .val (.int (2 : Int32)), .val (.ref b), .val (.int (2 : Int32)), .val (.int (3 : Int32)), .val (.int (2 : Int32)), .val (.int vc)] [])
  refine go_st (fun _ kq => XS.aloadN X22.here hx rfl (hb hby d10_26) rfl rfl kq) ?_
  show Go p e below s _ _ _ T22 (mkF m 27 #[.val (.ref a), .val (.int (2 : Int32)), .val (.ref b), .val (.int (2 : Int32)), .val (.int (3 : Int32)), .val (.int (2 : Int32)), .val (.int vc)] [(.ref b)])
  refine go_st (fun _ kq => XS.iloadN X22.here hx rfl (hb hby d10_27) rfl kq) ?_
  show Go p e below s _ _ _ T22 (mkF m 28 #[.val (.ref a), .val (.int (2 : Int32)), .val (.ref b), .val (.int (2 : Int32)), .val (.int (3 : Int32)), .val (.int (2 : Int32)), .val (.int vc)] [(.int (2 : Int32)), (.ref b)])
  refine go_st (fun _ kq => XS.iload X22.here hx rfl (hb hby d10_28) rfl kq) ?_
  show Go p e below s _ _ _ T22 (mkF m 30 #[.val (.ref a), .val (.int (2 : Int32)), .val (.ref b), .val (.int (2 : Int32)), .val (.int (3 : Int32)), .val (.int (2 : Int32)), .val (.int vc)] [(.int vc), (.int (2 : Int32)), (.ref b)])
  refine go_st (fun _ kq => XT.i2b X22.here hx rfl (hb hby d10_30) rfl kq) ?_
  show Go p e below s _ _ _ T22 (mkF m 31 #[.val (.ref a), .val (.int (2 : Int32)), .val (.ref b), .val (.int (2 : Int32)), .val (.int (3 : Int32)), .val (.int (2 : Int32)), .val (.int vc)] [(.int vc.toInt8.toInt32), (.int (2 : Int32)), (.ref b)])
  refine go_bast X22 hx hZ e22 A22 (hb hby d10_31) rfl rfl (by decide) ?_
  intro T25 h25 X25 e25 W25 G25
  have N25 := Fr.snoc X25 N22 P2
  have A25 : GA Z h25 b .byte 3 (fun i => .int (own_c3 (own_by va) (own_by vb) (own_by vc) i)) := (own_stc (own_by2 P6) (by decide) (own_c32 (own_by vc) (own_by va) (own_by vb) (0 : Int32)) G25)
  show Go p e below s _ _ _ T25 (mkF m 32 #[.val (.ref a), .val (.int (2 : Int32)), .val (.ref b), .val (.int (2 : Int32)), .val (.int (3 : Int32)), .val (.int (2 : Int32)), .val (.int vc)] [])
  refine go_st (fun _ kq => XT.iincV X25.here hx rfl (1 : Int32) (hb hby d10_32) (by decide) rfl (l' := #[.val (.ref a), .val (.int (3 : Int32)), .val (.ref b), .val (.int (2 : Int32)), .val (.int (3 : Int32)), .val (.int (2 : Int32)), .val (.int vc)]) rfl kq) ?_
  show Go p e below s _ _ _ T25 (mkF m 35 #[.val (.ref a), .val (.int (3 : Int32)), .val (.ref b), .val (.int (2 : Int32)), .val (.int (3 : Int32)), .val (.int (2 : Int32)), .val (.int vc)] [])
  refine go_st (fun _ kq => XT.iincV X25.here hx rfl (1 : Int32) (hb hby d10_35) (by decide) rfl (l' := #[.val (.ref a), .val (.int (3 : Int32)), .val (.ref b), .val (.int (3 : Int32)), .val (.int (3 : Int32)), .val (.int (2 : Int32)), .val (.int vc)]) rfl kq) ?_
  show Go p e below s _ _ _ T25 (mkF m 38 #[.val (.ref a), .val (.int (3 : Int32)), .val (.ref b), .val (.int (3 : Int32)), .val (.int (3 : Int32)), .val (.int (2 : Int32)), .val (.int vc)] [])
  refine go_st (fun _ kq => XT.iincV X25.here hx rfl (1 : Int32) (hb hby d10_38) (by decide) rfl (l' := #[.val (.ref a), .val (.int (3 : Int32)), .val (.ref b), .val (.int (3 : Int32)), .val (.int (3 : Int32)), .val (.int (3 : Int32)), .val (.int vc)]) rfl kq) ?_
  show Go p e below s _ _ _ T25 (mkF m 41 #[.val (.ref a), .val (.int (3 : Int32)), .val (.ref b), .val (.int (3 : Int32)), .val (.int (3 : Int32)), .val (.int (3 : Int32)), .val (.int vc)] [])
  refine go_st (fun _ kq => XS.goto X25.here hx rfl (pc0 := 41) (pc' := 3) rfl (hb hby d10_41) (by decide) (by decide) kq) ?_
  show Go p e below s _ _ _ T25 (mkF m 3 #[.val (.ref a), .val (.int (3 : Int32)), .val (.ref b), .val (.int (3 : Int32)), .val (.int (3 : Int32)), .val (.int (3 : Int32)), .val (.int vc)] [])
  refine go_st (fun _ kq => XS.iload X25.here hx rfl (hb hby d10_3) rfl kq) ?_
  show Go p e below s _ _ _ T25 (mkF m 5 #[.val (.ref a), .val (.int (3 : Int32)), .val (.ref b), .val (.int (3 : Int32)), .val (.int (3 : Int32)), .val (.int (3 : Int32)), .val (.int vc)] [(.int (3 : Int32))])
  refine go_st (fun _ kq => XS.iload X25.here hx rfl (hb hby d10_5) rfl kq) ?_
  show Go p e below s _ _ _ T25 (mkF m 7 #[.val (.ref a), .val (.int (3 : Int32)), .val (.ref b), .val (.int (3 : Int32)), .val (.int (3 : Int32)), .val (.int (3 : Int32)), .val (.int vc)] [(.int (3 : Int32)), (.int (3 : Int32))])
  refine go_st (fun _ kq => XS.icmpYes X25.here hx rfl (pc0 := 7) (pc' := 44) rfl (hb hby d10_7) rfl (XT.ii_ge_t (by decide)) (by decide) (by decide) kq) ?_
  show Go p e below s _ _ _ T25 (mkF m 44 #[.val (.ref a), .val (.int (3 : Int32)), .val (.ref b), .val (.int (3 : Int32)), .val (.int (3 : Int32)), .val (.int (3 : Int32)), .val (.int vc)] [])
  refine go_st (fun _ kq => XS.iload X25.here hx rfl (hb hby d10_44) rfl kq) ?_
  show Go p e below s _ _ _ T25 (mkF m 46 #[.val (.ref a), .val (.int (3 : Int32)), .val (.ref b), .val (.int (3 : Int32)), .val (.int (3 : Int32)), .val (.int (3 : Int32)), .val (.int vc)] [(.int (3 : Int32))])
  exact go_retI X25 hx hlk hret (hb hby d10_46) (by decide) (by decide) (by rw [e25]; exact ⟨rfl, N25, (Keep.wr (Keep.wr (Keep.wr (Keep.refl h0 [b]) W19 (Or.inl (by simp))) W22 (Or.inl (by simp))) W25 (Or.inl (by simp))), A25⟩)
def Q_cp3 (Z : State) (a : Addr) (va : Int32) (vb : Int32) (vc : Int32) (h0 : Heap) (n0 : Nat) (v : Option Value) (h : Heap) (L : List Loc) : Prop := ∃ r : Addr, v = some (.ref r) ∧ Fr n0 L ∧ Keep h0 h [] ∧ h0.size ≤ r ∧ GA Z h r .byte 3 (fun i => .int (own_c3 (own_by va) (own_by vb) (own_by vc) i))
theorem ef_cp3 (m : MethodId) (a : Addr) (va : Int32) (vb : Int32) (vc : Int32) : entryFrame m #[(.ref a), (.int (0 : Int32)), (.int (3 : Int32))] 6 = mkF m 0 #[.val (.ref a), .val (.int (0 : Int32)), .val (.int (3 : Int32)), .unset, .unset, .unset] [] := by first | (simp [entryFrame, mkF, argsToLocals, Value.category]; done) | rfl
abbrev rm_cp3 : Room := ({ frames := 1, cells := 1, slots := 3, locals := 18 } : Room)
set_option maxRecDepth 65536 in
set_option maxHeartbeats 4000000 in
theorem met_cp3 (l : Launch) (Z : State) (a0 : Array Value) (hw : ∀ d ∈ tables_1, d.before a0 Z = true) (a : Addr) (va : Int32) (vb : Int32) (vc : Int32) (h0 : Heap) (n0 : Nat) (Z0 : n0 ≤ h0.size) (P0 : GA Z h0 a .char 3 (fun i => .int (own_c3 va vb vc i))) (P1 : Lat va) (P2 : Lat vb) (P3 : Lat vc) :
    Met l (⟨"java/lang/StringUTF16", "compress", "([CII)[B"⟩ : MethodName) jdk_52_method_16_code 6 (some (FieldType.array FieldType.byte)) [] rm_cp3 Z #[(.ref a), (.int (0 : Int32)), (.int (3 : Int32))] h0 (Q_cp3 Z a va vb vc h0 n0) rm_cp3.cells rm_cp3.slots := by
  refine own_body pn1 ?_
  intro p e s m below meth c s₁ ct X0 e0
  have ct0 := ct
  obtain ⟨hx, hZ, hown, hby, hml, hret, hlk, hnm⟩ := ct
  have lt_a : a < h0.size := P0.lt
  have N0 := Fr.nil n0
  refine castGo (ef_cp3 m a va vb vc) ?_
  show Go p e below s _ _ _ s₁ (mkF m 0 #[.val (.ref a), .val (.int (0 : Int32)), .val (.int (3 : Int32)), .unset, .unset, .unset] [])
  refine go_st (fun _ kq => XS.iloadN X0.here hx rfl (hb hby d9_0) rfl kq) ?_
  show Go p e below s _ _ _ s₁ (mkF m 1 #[.val (.ref a), .val (.int (0 : Int32)), .val (.int (3 : Int32)), .unset, .unset, .unset] [(.int (3 : Int32))])
  refine go_newP X0 hx hZ (hw _ (List.mem_of_getElem? (i := 19) rfl)) e0 (hb hby d9_1) rfl rfl 3 (by decide) 3 (Nat.le_refl _) (by decide) (by decide) (by decide) ?_
  intro T26 h26 a26 g26 X26 e26 E26 G26
  have ne27 : a ≠ a26 := fun q => Nat.lt_irrefl _ (Nat.lt_of_lt_of_le lt_a (Nat.le_of_eq (g26.symm.trans q.symm)))
  have nw_a26 : n0 ≤ a26 := Nat.le_trans Z0 (Nat.le_of_eq g26.symm)
  have lt_a26 : a26 < h26.size := G26.lt
  have A26 : GA Z h26 a26 .byte 3 (fun i => .int (own_c3 (0 : Int32) (0 : Int32) (0 : Int32) i)) := (GA.congr G26 (fun i _ => own_z3 i))
  show Go p e below s _ _ _ T26 (mkF m 3 #[.val (.ref a), .val (.int (0 : Int32)), .val (.int (3 : Int32)), .unset, .unset, .unset] [(.ref a26)])
  refine go_st (fun _ kq => XS.astoreN X26.here hx rfl (hb hby d9_3) rfl rfl (l' := #[.val (.ref a), .val (.int (0 : Int32)), .val (.int (3 : Int32)), .val (.ref a26), .unset, .unset]) rfl kq) ?_
  show Go p e below s _ _ _ T26 (mkF m 4 #[.val (.ref a), .val (.int (0 : Int32)), .val (.int (3 : Int32)), .val (.ref a26), .unset, .unset] [])
  refine go_st (fun _ kq => XS.aloadN X26.here hx rfl (hb hby d9_4) rfl rfl kq) ?_
  show Go p e below s _ _ _ T26 (mkF m 5 #[.val (.ref a), .val (.int (0 : Int32)), .val (.int (3 : Int32)), .val (.ref a26), .unset, .unset] [(.ref a)])
  refine go_st (fun _ kq => XS.iloadN X26.here hx rfl (hb hby d9_5) rfl kq) ?_
  show Go p e below s _ _ _ T26 (mkF m 6 #[.val (.ref a), .val (.int (0 : Int32)), .val (.int (3 : Int32)), .val (.ref a26), .unset, .unset] [(.int (0 : Int32)), (.ref a)])
  refine go_st (fun _ kq => XS.aloadN X26.here hx rfl (hb hby d9_6) rfl rfl kq) ?_
  show Go p e below s _ _ _ T26 (mkF m 7 #[.val (.ref a), .val (.int (0 : Int32)), .val (.int (3 : Int32)), .val (.ref a26), .unset, .unset] [(.ref a26), (.int (0 : Int32)), (.ref a)])
  refine go_st (fun _ kq => XT.iconstV X26.here hx rfl (0 : Int32) (hb hby d9_7) (by decide) kq) ?_
  show Go p e below s _ _ _ T26 (mkF m 8 #[.val (.ref a), .val (.int (0 : Int32)), .val (.int (3 : Int32)), .val (.ref a26), .unset, .unset] [(.int (0 : Int32)), (.ref a26), (.int (0 : Int32)), (.ref a)])
  refine go_st (fun _ kq => XS.iloadN X26.here hx rfl (hb hby d9_8) rfl kq) ?_
  show Go p e below s _ _ _ T26 (mkF m 9 #[.val (.ref a), .val (.int (0 : Int32)), .val (.int (3 : Int32)), .val (.ref a26), .unset, .unset] [(.int (3 : Int32)), (.int (0 : Int32)), (.ref a26), (.int (0 : Int32)), (.ref a)])
  have c29 := P0.ext E26
  have z30 : n0 ≤ h26.size := Nat.le_trans Z0 E26.1
  refine go_callS X26 hx hZ hml hown (hw _ (List.mem_of_getElem? (i := 59) rfl)) (hw _ (List.mem_of_getElem? (i := 60) rfl)) (hw _ (List.mem_of_getElem? (i := 57) rfl)) (hw _ (List.mem_of_getElem? (i := 61) rfl)) e26 (argsL := [(.ref a), (.int (0 : Int32)), (.ref a26), (.int (0 : Int32)), (.int (3 : Int32))]) (rest := []) (W := 0) (met_cpi3 l Z a0 hw a a26 va vb vc h26 n0 z30 c29 A26 nw_a26 ne27 P1 P2 P3) (hb hby d9_9) rfl rfl rfl (lenOf pd0 rfl) (by show 2 * 0 + _ ≤ _; exact Nat.le_of_eq rfl) (by decide) (by decide) (by decide) (by decide) (by decide) ?_
  intro T28 v28 L28 X28 q28
  obtain ⟨rfl, M28, K28, f28_0⟩ := q28
  have N28 := Fr.app N0 M28
  show Go p e below s _ _ _ T28 (mkF m 12 #[.val (.ref a), .val (.int (0 : Int32)), .val (.int (3 : Int32)), .val (.ref a26), .unset, .unset] [(.int (3 : Int32))])
  refine go_st (fun _ kq => XS.istore X28.here hx rfl (hb hby d9_12) rfl (l' := #[.val (.ref a), .val (.int (0 : Int32)), .val (.int (3 : Int32)), .val (.ref a26), .val (.int (3 : Int32)), .unset]) rfl kq) ?_
  show Go p e below s _ _ _ T28 (mkF m 14 #[.val (.ref a), .val (.int (0 : Int32)), .val (.int (3 : Int32)), .val (.ref a26), .val (.int (3 : Int32)), .unset] [])
  refine go_st (fun _ kq => XS.iload X28.here hx rfl (hb hby d9_14) rfl kq) ?_
  show Go p e below s _ _ _ T28 (mkF m 16 #[.val (.ref a), .val (.int (0 : Int32)), .val (.int (3 : Int32)), .val (.ref a26), .val (.int (3 : Int32)), .unset] [(.int (3 : Int32))])
  refine go_st (fun _ kq => XS.iloadN X28.here hx rfl (hb hby d9_16) rfl kq) ?_
  show Go p e below s _ _ _ T28 (mkF m 17 #[.val (.ref a), .val (.int (0 : Int32)), .val (.int (3 : Int32)), .val (.ref a26), .val (.int (3 : Int32)), .unset] [(.int (3 : Int32)), (.int (3 : Int32))])
  refine go_st (fun _ kq => XS.icmpYes X28.here hx rfl (pc0 := 17) (pc' := 57) rfl (hb hby d9_17) rfl (XT.ii_eq_t (by decide)) (by decide) (by decide) kq) ?_
  show Go p e below s _ _ _ T28 (mkF m 57 #[.val (.ref a), .val (.int (0 : Int32)), .val (.int (3 : Int32)), .val (.ref a26), .val (.int (3 : Int32)), .unset] [])
  refine go_st (fun _ kq => XS.aloadN X28.here hx rfl (hb hby d9_57) rfl rfl kq) ?_
  show Go p e below s _ _ _ T28 (mkF m 58 #[.val (.ref a), .val (.int (0 : Int32)), .val (.int (3 : Int32)), .val (.ref a26), .val (.int (3 : Int32)), .unset] [(.ref a26)])
  exact go_retA X28 hx hlk hret rfl rfl (hb hby d9_58) (by decide) (by decide) ⟨a26, rfl, N28, (Keep.trans (Keep.ext (Keep.refl h0 []) E26) K28 (allS (Or.inr (Nat.le_trans (Nat.le_refl _) (Nat.le_of_eq g26.symm))) all0)), (Nat.le_trans (Nat.le_refl _) (Nat.le_of_eq g26.symm)), f28_0⟩
def fCfl3  : Int32 := (0 : Int32)
theorem ef_cfl3 (m : MethodId) (b : Addr) (fq : Nat → Value) : entryFrame m #[(.ref b), (.int (3 : Int32))] 2 = mkF m 0 #[.val (.ref b), .val (.int (3 : Int32))] [] := by first | (simp [entryFrame, mkF, argsToLocals, Value.category]; done) | rfl
abbrev rm_cfl3 : Room := ({ frames := 0, cells := 0, slots := 0, locals := 0 } : Room)
set_option maxRecDepth 65536 in
set_option maxHeartbeats 4000000 in
theorem met_cfl3 (l : Launch) (Z : State) (a0 : Array Value) (hw : ∀ d ∈ tables_1, d.before a0 Z = true) (b : Addr) (fq : Nat → Value) (h0 : Heap) (n0 : Nat) (Z0 : n0 ≤ h0.size) (P0 : GA Z h0 b .byte 3 fq) :
    Met l (⟨"java/lang/StringUTF16", "coderFromArrayLen", "([BI)B"⟩ : MethodName) jdk_52_method_15_code 2 (some FieldType.byte) [] rm_cfl3 Z #[(.ref b), (.int (3 : Int32))] h0 (QV (some (.int (fCfl3 ))) h0 n0) 0 0 := by
  refine own_body pn2 ?_
  intro p e s m below meth c s₁ ct X0 e0
  have ct0 := ct
  obtain ⟨hx, hZ, hown, hby, hml, hret, hlk, hnm⟩ := ct
  have N0 := Fr.nil n0
  refine castGo (ef_cfl3 m b fq) ?_
  unfold fCfl3
  show Go p e below s _ _ _ s₁ (mkF m 0 #[.val (.ref b), .val (.int (3 : Int32))] [])
  refine go_st (fun _ kq => XS.iloadN X0.here hx rfl (hb hby d11_0) rfl kq) ?_
  show Go p e below s _ _ _ s₁ (mkF m 1 #[.val (.ref b), .val (.int (3 : Int32))] [(.int (3 : Int32))])
  refine go_st (fun _ kq => XS.aloadN X0.here hx rfl (hb hby d11_1) rfl rfl kq) ?_
  show Go p e below s _ _ _ s₁ (mkF m 2 #[.val (.ref b), .val (.int (3 : Int32))] [(.ref b), (.int (3 : Int32))])
  refine go_alen X0 hx hZ e0 P0 (hb hby d11_2) rfl rfl (3 : Int32) (by decide) ?_
  show Go p e below s _ _ _ s₁ (mkF m 3 #[.val (.ref b), .val (.int (3 : Int32))] [(.int (3 : Int32)), (.int (3 : Int32))])
  refine go_st (fun _ kq => XS.isub X0.here hx rfl (hb hby d11_3) rfl kq) ?_
  rw [show ((3 : Int32) - (3 : Int32)) = (0 : Int32) from by decide +kernel]
  show Go p e below s _ _ _ s₁ (mkF m 4 #[.val (.ref b), .val (.int (3 : Int32))] [(.int (0 : Int32))])
  refine go_st (fun _ kq => XT.bipushV X0.here hx rfl (31 : Int32) (hb hby d11_4) (by decide) kq) ?_
  show Go p e below s _ _ _ s₁ (mkF m 6 #[.val (.ref b), .val (.int (3 : Int32))] [(.int (31 : Int32)), (.int (0 : Int32))])
  refine go_st (fun _ kq => XT.iushr X0.here hx rfl (hb hby d11_6) rfl kq) ?_
  rw [show (XT.ushr (0 : Int32) (31 : Int32)) = (0 : Int32) from by decide +kernel]
  show Go p e below s _ _ _ s₁ (mkF m 7 #[.val (.ref b), .val (.int (3 : Int32))] [(.int (0 : Int32))])
  refine go_st (fun _ kq => XT.i2b X0.here hx rfl (hb hby d11_7) rfl kq) ?_
  rw [show (0 : Int32).toInt8.toInt32 = (0 : Int32) from by decide +kernel]
  show Go p e below s _ _ _ s₁ (mkF m 8 #[.val (.ref b), .val (.int (3 : Int32))] [(.int (0 : Int32))])
  exact go_retN (t := .byte) (w := (0 : Int32)) X0 hx hlk hret (by simp) (hb hby d11_8) (by decide +kernel) (by decide) (by decide) ⟨rfl, N0, e0⟩
theorem d2_0 : decode jdk_42_method_149_code 0 = .ok (.aload_n 0, 1) := by decide +kernel
theorem d2_1 : decode jdk_42_method_149_code 1 = .ok (.invokespecial 1, 3) := by decide +kernel
theorem d2_4 : decode jdk_42_method_149_code 4 = .ok (.iload_n 3, 1) := by decide +kernel
theorem d2_5 : decode jdk_42_method_149_code 5 = .ok (.ifCond .ne 22, 3) := by decide +kernel
theorem d2_8 : decode jdk_42_method_149_code 8 = .ok (.aload_n 0, 1) := by decide +kernel
theorem d2_9 : decode jdk_42_method_149_code 9 = .ok (.ldc 7, 2) := by decide +kernel
theorem d2_11 : decode jdk_42_method_149_code 11 = .ok (.getfield 9, 3) := by decide +kernel
theorem d2_14 : decode jdk_42_method_149_code 14 = .ok (.putfield 9, 3) := by decide +kernel
theorem d2_17 : decode jdk_42_method_149_code 17 = .ok (.aload_n 0, 1) := by decide +kernel
theorem d2_18 : decode jdk_42_method_149_code 18 = .ok (.ldc 7, 2) := by decide +kernel
theorem d2_20 : decode jdk_42_method_149_code 20 = .ok (.getfield 15, 3) := by decide +kernel
theorem d2_23 : decode jdk_42_method_149_code 23 = .ok (.putfield 15, 3) := by decide +kernel
theorem d2_26 : decode jdk_42_method_149_code 26 = .ok (.return_, 1) := by decide +kernel
theorem d2_27 : decode jdk_42_method_149_code 27 = .ok (.getstatic 38, 3) := by decide +kernel
theorem d2_30 : decode jdk_42_method_149_code 30 = .ok (.ifCond .eq 28, 3) := by decide +kernel
theorem d2_33 : decode jdk_42_method_149_code 33 = .ok (.aload_n 1, 1) := by decide +kernel
theorem d2_34 : decode jdk_42_method_149_code 34 = .ok (.iload_n 2, 1) := by decide +kernel
theorem d2_35 : decode jdk_42_method_149_code 35 = .ok (.iload_n 3, 1) := by decide +kernel
theorem d2_36 : decode jdk_42_method_149_code 36 = .ok (.invokestatic 177, 3) := by decide +kernel
theorem d2_39 : decode jdk_42_method_149_code 39 = .ok (.astore 5, 2) := by decide +kernel
theorem d2_41 : decode jdk_42_method_149_code 41 = .ok (.aload_n 0, 1) := by decide +kernel
theorem d2_42 : decode jdk_42_method_149_code 42 = .ok (.aload 5, 2) := by decide +kernel
theorem d2_44 : decode jdk_42_method_149_code 44 = .ok (.iload_n 3, 1) := by decide +kernel
theorem d2_45 : decode jdk_42_method_149_code 45 = .ok (.invokestatic 47, 3) := by decide +kernel
theorem d2_48 : decode jdk_42_method_149_code 48 = .ok (.putfield 15, 3) := by decide +kernel
theorem d2_51 : decode jdk_42_method_149_code 51 = .ok (.aload_n 0, 1) := by decide +kernel
theorem d2_52 : decode jdk_42_method_149_code 52 = .ok (.aload 5, 2) := by decide +kernel
theorem d2_54 : decode jdk_42_method_149_code 54 = .ok (.putfield 9, 3) := by decide +kernel
theorem d2_57 : decode jdk_42_method_149_code 57 = .ok (.return_, 1) := by decide +kernel
theorem d2_58 : decode jdk_42_method_149_code 58 = .ok (.aload_n 0, 1) := by decide +kernel
theorem d2_59 : decode jdk_42_method_149_code 59 = .ok (.iconst 1, 1) := by decide +kernel
theorem d2_60 : decode jdk_42_method_149_code 60 = .ok (.putfield 15, 3) := by decide +kernel
theorem d2_63 : decode jdk_42_method_149_code 63 = .ok (.aload_n 0, 1) := by decide +kernel
theorem d2_64 : decode jdk_42_method_149_code 64 = .ok (.aload_n 1, 1) := by decide +kernel
theorem d2_65 : decode jdk_42_method_149_code 65 = .ok (.iload_n 2, 1) := by decide +kernel
theorem d2_66 : decode jdk_42_method_149_code 66 = .ok (.iload_n 3, 1) := by decide +kernel
theorem d2_67 : decode jdk_42_method_149_code 67 = .ok (.invokestatic 180, 3) := by decide +kernel
theorem d2_70 : decode jdk_42_method_149_code 70 = .ok (.putfield 9, 3) := by decide +kernel
theorem d2_73 : decode jdk_42_method_149_code 73 = .ok (.return_, 1) := by decide +kernel
theorem pn3 : plainFor (⟨"java/lang/String", "<init>", "([CIILjava/lang/Void;)V"⟩ : MethodName) = true := by first | (refine plainFor_of_name ?_; simp [plainName, overriddenIn]; done) | (refine plainFor_of_name ?_; decide +kernel) | decide +kernel
def Q_si0 (Z : State) (a : Addr) (b : Addr) (h0 : Heap) (n0 : Nat) (v : Option Value) (h : Heap) (L : List Loc) : Prop := ∃ r : Addr, v = none ∧ Fr n0 L ∧ Keep h0 h [a] ∧ Exa Z h a "java/lang/String" ∧ Fld Z h a "java/lang/String" "value" "[B" (.ref r) ∧ Fld Z h a "java/lang/String" "coder" "B" (.int (0 : Int32)) ∧ GA Z h r .byte 0 (fun _ => .null)
theorem ef_si0 (m : MethodId) (a : Addr) (b : Addr) : entryFrame m #[(.ref a), (.ref b), (.int (0 : Int32)), (.int (0 : Int32)), .null] 6 = mkF m 0 #[.val (.ref a), .val (.ref b), .val (.int (0 : Int32)), .val (.int (0 : Int32)), .val .null, .unset] [] := by first | (simp [entryFrame, mkF, argsToLocals, Value.category]; done) | rfl
abbrev rm_si0 : Room := ({ frames := 1, cells := 2, slots := 4, locals := 12 } : Room)
set_option maxRecDepth 65536 in
set_option maxHeartbeats 4000000 in
theorem met_si0 (l : Launch) (Z : State) (a0 : Array Value) (hw : ∀ d ∈ tables_1, d.before a0 Z = true) (a : Addr) (b : Addr) (h0 : Heap) (n0 : Nat) (Z0 : n0 ≤ h0.size) (P0 : Exa Z h0 a "java/lang/String") (P1 : Fld Z h0 a "java/lang/String" "value" "[B" .null) (P2 : Fld Z h0 a "java/lang/String" "coder" "B" (.int (0 : Int32))) (P3 : n0 ≤ a) :
    MetW l (⟨"java/lang/String", "<init>", "([CIILjava/lang/Void;)V"⟩ : MethodName) jdk_42_method_149_code 6 none [] rm_si0 Z consts_1 a #[(.ref a), (.ref b), (.int (0 : Int32)), (.int (0 : Int32)), .null] h0 (Q_si0 Z a b h0 n0) rm_si0.cells rm_si0.slots := by
  refine own_bodyW pn3 ?_
  intro p e s m below meth c s₁ ct X0 e0 hC0 hSa0
  have ct0 := ct
  obtain ⟨hx, hZ, hown, hby, hml, hret, hlk, hnm⟩ := ct
  have lt_a : a < h0.size := P0.lt
  have N0 := Fr.nil n0
  refine castGoW (ef_si0 m a b) ?_
  show GoW p e below s _ _ _ s₁ (mkF m 0 #[.val (.ref a), .val (.ref b), .val (.int (0 : Int32)), .val (.int (0 : Int32)), .val .null, .unset] [])
  refine gw_st (fun _ kq => XS.aloadN X0.here hx rfl (hb hby d2_0) rfl rfl kq) ?_
  show GoW p e below s _ _ _ s₁ (mkF m 1 #[.val (.ref a), .val (.ref b), .val (.int (0 : Int32)), .val (.int (0 : Int32)), .val .null, .unset] [(.ref a)])
  refine gw_initO X0 hx hZ hml hown (hw _ (List.mem_of_getElem? (i := 15) rfl)) (hw _ (List.mem_of_getElem? (i := 16) rfl)) (hw _ (List.mem_of_getElem? (i := 17) rfl)) e0 (hb hby d2_1) rfl rfl rfl (by decide) (W := 0) (by show 2 * 0 + _ ≤ _; exact Nat.le_of_eq rfl) (by decide) ?_
  intro T31 X31 e31
  show GoW p e below s _ _ _ T31 (mkF m 4 #[.val (.ref a), .val (.ref b), .val (.int (0 : Int32)), .val (.int (0 : Int32)), .val .null, .unset] [])
  refine gw_st (fun _ kq => XS.iloadN X31.here hx rfl (hb hby d2_4) rfl kq) ?_
  show GoW p e below s _ _ _ T31 (mkF m 5 #[.val (.ref a), .val (.ref b), .val (.int (0 : Int32)), .val (.int (0 : Int32)), .val .null, .unset] [(.int (0 : Int32))])
  refine gw_st (fun _ kq => XS.ifNo X31.here hx rfl (hb hby d2_5) rfl (XT.i0_ne_f (by decide)) kq) ?_
  show GoW p e below s _ _ _ T31 (mkF m 8 #[.val (.ref a), .val (.ref b), .val (.int (0 : Int32)), .val (.int (0 : Int32)), .val .null, .unset] [])
  refine gw_st (fun _ kq => XS.aloadN X31.here hx rfl (hb hby d2_8) rfl rfl kq) ?_
  show GoW p e below s _ _ _ T31 (mkF m 9 #[.val (.ref a), .val (.ref b), .val (.int (0 : Int32)), .val (.int (0 : Int32)), .val .null, .unset] [(.ref a)])
  refine gw_ldcE X31 hx hZ hown (hw _ (List.mem_of_getElem? (i := 18) rfl)) (own_wS Z a0 hw) e31 (own_EL Z a0 hw) own_mem hC0 (hb hby d2_9) rfl (by decide) (by decide) ?_
  intro s T32 h32 a32 b32 hZ hown X32 e32 E32 A32 C32 V32 G32 L32 SF32
  have ne32_a := SF32 a lt_a hSa0
  show GoW p e below s _ _ _ T32 (mkF m 11 #[.val (.ref a), .val (.ref b), .val (.int (0 : Int32)), .val (.int (0 : Int32)), .val .null, .unset] [(.ref a32), (.ref a)])
  refine gw_getF X32 hx hZ hown (host := "") (Or.inl (hw _ (List.mem_of_getElem? (i := 24) rfl))) Via.refl e32 V32 (hb hby d2_11) rfl rfl ?_
  intro T33 X33 e33
  show GoW p e below s _ _ _ T33 (mkF m 14 #[.val (.ref a), .val (.ref b), .val (.int (0 : Int32)), .val (.int (0 : Int32)), .val .null, .unset] [(.ref b32), (.ref a)])
  have c34 := Fld.ext E32 P1
  have c35 := Exa.ext E32 P0
  refine gw_putF X33 hx hZ hown (host := "") (Or.inl (hw _ (List.mem_of_getElem? (i := 24) rfl))) Via.refl e33 c34 c35 (Or.inr ⟨(hw _ (List.mem_of_getElem? (i := 20) rfl)), rfl, hnm⟩) (hw _ (List.mem_of_getElem? (i := 6) rfl)) (ty := (.array .byte)) (by decide) rfl rfl (hb hby d2_14) rfl rfl ?_
  intro T36 h36 X36 e36 W36
  have N36 := Fr.snoc X36 N0 P3
  have F36 : Fld Z h36 a "java/lang/String" "value" "[B" (.ref b32) := Fld.same W36 c34
  show GoW p e below s _ _ _ T36 (mkF m 17 #[.val (.ref a), .val (.ref b), .val (.int (0 : Int32)), .val (.int (0 : Int32)), .val .null, .unset] [])
  refine gw_st (fun _ kq => XS.aloadN X36.here hx rfl (hb hby d2_17) rfl rfl kq) ?_
  show GoW p e below s _ _ _ T36 (mkF m 18 #[.val (.ref a), .val (.ref b), .val (.int (0 : Int32)), .val (.int (0 : Int32)), .val .null, .unset] [(.ref a)])
  refine gw_ldcA X36 hx hZ hown (hw _ (List.mem_of_getElem? (i := 18) rfl)) L32 (hb hby d2_18) rfl ?_
  show GoW p e below s _ _ _ T36 (mkF m 20 #[.val (.ref a), .val (.ref b), .val (.int (0 : Int32)), .val (.int (0 : Int32)), .val .null, .unset] [(.ref a32), (.ref a)])
  have c37 := Fld.other W36 C32 (Or.inl (Ne.symm ne32_a.1))
  refine gw_getF X36 hx hZ hown (host := "") (Or.inl (hw _ (List.mem_of_getElem? (i := 25) rfl))) Via.refl e36 c37 (hb hby d2_20) rfl rfl ?_
  intro T38 X38 e38
  show GoW p e below s _ _ _ T38 (mkF m 23 #[.val (.ref a), .val (.ref b), .val (.int (0 : Int32)), .val (.int (0 : Int32)), .val .null, .unset] [(.int (0 : Int32)), (.ref a)])
  have c39 := Fld.ext E32 P2
  have c40 := Fld.other W36 c39 (Or.inr (slot_ne (a0 := a0) (t := .byte) (t' := (.array .byte)) (Or.inr (hw _ (List.mem_of_getElem? (i := 21) rfl))) (Or.inr (hw _ (List.mem_of_getElem? (i := 20) rfl))) (by decide) (by decide) (by decide)))
  have c41 := Exa.wr W36 c35
  refine gw_putF X38 hx hZ hown (host := "") (Or.inl (hw _ (List.mem_of_getElem? (i := 25) rfl))) Via.refl e38 c40 c41 (Or.inr ⟨(hw _ (List.mem_of_getElem? (i := 21) rfl)), rfl, hnm⟩) (hw _ (List.mem_of_getElem? (i := 6) rfl)) (ty := .byte) (by decide) (by decide +kernel) (by decide +kernel) (hb hby d2_23) rfl rfl ?_
  intro T42 h42 X42 e42 W42
  have N42 := Fr.snoc X42 N36 P3
  have F42 : Fld Z h42 a "java/lang/String" "coder" "B" (.int (0 : Int32)) := Fld.same W42 c40
  show GoW p e below s _ _ _ T42 (mkF m 26 #[.val (.ref a), .val (.ref b), .val (.int (0 : Int32)), .val (.int (0 : Int32)), .val .null, .unset] [])
  have c43 := Exa.wr W42 c41
  have c44 := Fld.other W42 F36 (Or.inr (slot_ne (a0 := a0) (t := (.array .byte)) (t' := .byte) (Or.inr (hw _ (List.mem_of_getElem? (i := 20) rfl))) (Or.inr (hw _ (List.mem_of_getElem? (i := 21) rfl))) (by decide) (by decide) (by decide)))
  have c45 := G32.other W36 (Ne.symm ne32_a.2)
  have c46 := c45.other W42 (Ne.symm ne32_a.2)
  exact gw_ret0 X42 hx hlk hret (hb hby d2_26) (by decide) (by decide) (by rw [e42]; exact ⟨b32, rfl, N42, (Keep.wr (Keep.wr (Keep.ext (Keep.refl h0 [a]) E32) W36 (Or.inl (by simp))) W42 (Or.inl (by simp))), c43, c44, F42, c46⟩)
theorem d1_0 : decode jdk_42_method_3_code 0 = .ok (.aload_n 0, 1) := by decide +kernel
theorem d1_1 : decode jdk_42_method_3_code 1 = .ok (.aload_n 1, 1) := by decide +kernel
theorem d1_2 : decode jdk_42_method_3_code 2 = .ok (.iconst 0, 1) := by decide +kernel
theorem d1_3 : decode jdk_42_method_3_code 3 = .ok (.aload_n 1, 1) := by decide +kernel
theorem d1_4 : decode jdk_42_method_3_code 4 = .ok (.arraylength, 1) := by decide +kernel
theorem d1_5 : decode jdk_42_method_3_code 5 = .ok (.aconst_null, 1) := by decide +kernel
theorem d1_6 : decode jdk_42_method_3_code 6 = .ok (.invokespecial 27, 3) := by decide +kernel
theorem d1_9 : decode jdk_42_method_3_code 9 = .ok (.return_, 1) := by decide +kernel
theorem pn4 : plainFor (⟨"java/lang/String", "<init>", "([C)V"⟩ : MethodName) = true := by first | (refine plainFor_of_name ?_; simp [plainName, overriddenIn]; done) | (refine plainFor_of_name ?_; decide +kernel) | decide +kernel
def Q_s0 (Z : State) (a : Addr) (b : Addr) (fq : Nat → Value) (h0 : Heap) (n0 : Nat) (v : Option Value) (h : Heap) (L : List Loc) : Prop := ∃ r : Addr, v = none ∧ Fr n0 L ∧ Keep h0 h [a] ∧ Exa Z h a "java/lang/String" ∧ Fld Z h a "java/lang/String" "value" "[B" (.ref r) ∧ Fld Z h a "java/lang/String" "coder" "B" (.int (0 : Int32)) ∧ GA Z h r .byte 0 (fun _ => .null)
theorem pd1 : parseMethodDescriptor "([CIILjava/lang/Void;)V" = some ⟨[(.array .char), .int, .int, (.object "java/lang/Void")], none⟩ := by decide +kernel
theorem ef_s0 (m : MethodId) (a : Addr) (b : Addr) (fq : Nat → Value) : entryFrame m #[(.ref a), (.ref b)] 2 = mkF m 0 #[.val (.ref a), .val (.ref b)] [] := by first | (simp [entryFrame, mkF, argsToLocals, Value.category]; done) | rfl
abbrev rm_s0 : Room := ({ frames := 2, cells := 2, slots := 4, locals := 29 } : Room)
set_option maxRecDepth 65536 in
set_option maxHeartbeats 4000000 in
theorem met_s0 (l : Launch) (Z : State) (a0 : Array Value) (hw : ∀ d ∈ tables_1, d.before a0 Z = true) (a : Addr) (b : Addr) (fq : Nat → Value) (h0 : Heap) (n0 : Nat) (Z0 : n0 ≤ h0.size) (P0 : Exa Z h0 a "java/lang/String") (P1 : Fld Z h0 a "java/lang/String" "value" "[B" .null) (P2 : Fld Z h0 a "java/lang/String" "coder" "B" (.int (0 : Int32))) (P3 : n0 ≤ a) (P4 : GA Z h0 b .char 0 fq) :
    MetW l (⟨"java/lang/String", "<init>", "([C)V"⟩ : MethodName) jdk_42_method_3_code 2 none [] rm_s0 Z consts_1 a #[(.ref a), (.ref b)] h0 (Q_s0 Z a b fq h0 n0) rm_s0.cells rm_s0.slots := by
  refine own_bodyW pn4 ?_
  intro p e s m below meth c s₁ ct X0 e0 hC0 hSa0
  have ct0 := ct
  obtain ⟨hx, hZ, hown, hby, hml, hret, hlk, hnm⟩ := ct
  have lt_a : a < h0.size := P0.lt
  have lt_b : b < h0.size := P4.lt
  have N0 := Fr.nil n0
  refine castGoW (ef_s0 m a b fq) ?_
  show GoW p e below s _ _ _ s₁ (mkF m 0 #[.val (.ref a), .val (.ref b)] [])
  refine gw_st (fun _ kq => XS.aloadN X0.here hx rfl (hb hby d1_0) rfl rfl kq) ?_
  show GoW p e below s _ _ _ s₁ (mkF m 1 #[.val (.ref a), .val (.ref b)] [(.ref a)])
  refine gw_st (fun _ kq => XS.aloadN X0.here hx rfl (hb hby d1_1) rfl rfl kq) ?_
  show GoW p e below s _ _ _ s₁ (mkF m 2 #[.val (.ref a), .val (.ref b)] [(.ref b), (.ref a)])
  refine gw_st (fun _ kq => XT.iconstV X0.here hx rfl (0 : Int32) (hb hby d1_2) (by decide) kq) ?_
  show GoW p e below s _ _ _ s₁ (mkF m 3 #[.val (.ref a), .val (.ref b)] [(.int (0 : Int32)), (.ref b), (.ref a)])
  refine gw_st (fun _ kq => XS.aloadN X0.here hx rfl (hb hby d1_3) rfl rfl kq) ?_
  show GoW p e below s _ _ _ s₁ (mkF m 4 #[.val (.ref a), .val (.ref b)] [(.ref b), (.int (0 : Int32)), (.ref b), (.ref a)])
  refine gw_alen X0 hx hZ e0 P4 (hb hby d1_4) rfl rfl (0 : Int32) (by decide) ?_
  show GoW p e below s _ _ _ s₁ (mkF m 5 #[.val (.ref a), .val (.ref b)] [(.int (0 : Int32)), (.int (0 : Int32)), (.ref b), (.ref a)])
  refine gw_st (fun _ kq => XS.aconstNull X0.here hx rfl (hb hby d1_5) kq) ?_
  show GoW p e below s _ _ _ s₁ (mkF m 6 #[.val (.ref a), .val (.ref b)] [.null, (.int (0 : Int32)), (.int (0 : Int32)), (.ref b), (.ref a)])
  refine gw_callIW X0 hx hZ hml hown rfl (hw _ (List.mem_of_getElem? (i := 11) rfl)) (hw _ (List.mem_of_getElem? (i := 12) rfl)) (hw _ (List.mem_of_getElem? (i := 14) rfl)) (hw _ (List.mem_of_getElem? (i := 7) rfl)) e0 (own_EL Z a0 hw) hC0 lt_a hSa0 (argsL := [(.ref b), (.int (0 : Int32)), (.int (0 : Int32)), .null]) (rest := []) (W := 0) (met_si0 l Z a0 hw a b h0 n0 Z0 P0 P1 P2 P3) (hb hby d1_6) rfl rfl rfl (lenOf pd1 rfl) (by show 2 * 0 + _ ≤ _; exact Nat.le_of_eq rfl) (by decide) (by decide) (by decide) (by decide) (by decide) ?_
  intro s T47 v47 L47 hZ hown X47 q47
  obtain ⟨r_47, rfl, M47, K47, f47_0, f47_1, f47_2, f47_3⟩ := q47
  have N47 := Fr.app N0 M47
  show GoW p e below s _ _ _ T47 (mkF m 9 #[.val (.ref a), .val (.ref b)] [])
  exact gw_ret0 X47 hx hlk hret (hb hby d1_9) (by decide) (by decide) ⟨r_47, rfl, N47, (Keep.trans (Keep.refl h0 [a]) K47 (allS (Or.inl (by simp)) all0)), f47_0, f47_1, f47_2, f47_3⟩
def Q_si1 (Z : State) (a : Addr) (b : Addr) (va : Int32) (zc : Int32) (h0 : Heap) (n0 : Nat) (v : Option Value) (h : Heap) (L : List Loc) : Prop := ∃ r : Addr, v = none ∧ Fr n0 L ∧ Keep h0 h [a] ∧ h0.size ≤ r ∧ Exa Z h a "java/lang/String" ∧ Fld Z h a "java/lang/String" "value" "[B" (.ref r) ∧ Fld Z h a "java/lang/String" "coder" "B" (.int (0 : Int32)) ∧ GA Z h r .byte 1 (fun i => .int (own_c3 (own_by va) (0 : Int32) (0 : Int32) i))
theorem pd2 : parseMethodDescriptor "([CII)[B" = some ⟨[(.array .char), .int, .int], (some (.array .byte))⟩ := by decide +kernel
theorem pd3 : parseMethodDescriptor "([BI)B" = some ⟨[(.array .byte), .int], (some .byte)⟩ := by decide +kernel
theorem ef_si1 (m : MethodId) (a : Addr) (b : Addr) (va : Int32) (zc : Int32) : entryFrame m #[(.ref a), (.ref b), (.int (0 : Int32)), (.int (1 : Int32)), .null] 6 = mkF m 0 #[.val (.ref a), .val (.ref b), .val (.int (0 : Int32)), .val (.int (1 : Int32)), .val .null, .unset] [] := by first | (simp [entryFrame, mkF, argsToLocals, Value.category]; done) | rfl
abbrev rm_si1 : Room := ({ frames := 2, cells := 1, slots := 1, locals := 35 } : Room)
set_option maxRecDepth 65536 in
set_option maxHeartbeats 4000000 in
theorem met_si1 (l : Launch) (Z : State) (a0 : Array Value) (hw : ∀ d ∈ tables_1, d.before a0 Z = true) (a : Addr) (b : Addr) (va : Int32) (zc : Int32) (h0 : Heap) (n0 : Nat) (Z0 : n0 ≤ h0.size) (P0 : Exa Z h0 a "java/lang/String") (P1 : Fld Z h0 a "java/lang/String" "value" "[B" .null) (P2 : Fld Z h0 a "java/lang/String" "coder" "B" (.int (0 : Int32))) (P3 : n0 ≤ a) (P4 : GA Z h0 b .char 1 (fun i => .int (own_c3 va (0 : Int32) (0 : Int32) i))) (P5 : a ≠ b) (P6 : Lat va) (P7 : Old Z n0 h0) (P8 : Sta Z Z.heap "java/lang/String" "COMPACT_STRINGS" "Z" (.int zc)) (P9 : ¬ (zc = (0 : Int32))) :
    Met l (⟨"java/lang/String", "<init>", "([CIILjava/lang/Void;)V"⟩ : MethodName) jdk_42_method_149_code 6 none [] rm_si1 Z #[(.ref a), (.ref b), (.int (0 : Int32)), (.int (1 : Int32)), .null] h0 (Q_si1 Z a b va zc h0 n0) rm_si1.cells rm_si1.slots := by
  refine own_body pn3 ?_
  intro p e s m below meth c s₁ ct X0 e0
  have ct0 := ct
  obtain ⟨hx, hZ, hown, hby, hml, hret, hlk, hnm⟩ := ct
  have lt_a : a < h0.size := P0.lt
  have lt_b : b < h0.size := P4.lt
  have N0 := Fr.nil n0
  refine castGo (ef_si1 m a b va zc) ?_
  show Go p e below s _ _ _ s₁ (mkF m 0 #[.val (.ref a), .val (.ref b), .val (.int (0 : Int32)), .val (.int (1 : Int32)), .val .null, .unset] [])
  refine go_st (fun _ kq => XS.aloadN X0.here hx rfl (hb hby d2_0) rfl rfl kq) ?_
  show Go p e below s _ _ _ s₁ (mkF m 1 #[.val (.ref a), .val (.ref b), .val (.int (0 : Int32)), .val (.int (1 : Int32)), .val .null, .unset] [(.ref a)])
  refine go_initO X0 hx hZ hml hown (hw _ (List.mem_of_getElem? (i := 15) rfl)) (hw _ (List.mem_of_getElem? (i := 16) rfl)) (hw _ (List.mem_of_getElem? (i := 17) rfl)) e0 (hb hby d2_1) rfl rfl rfl (by decide) (W := 0) (by show 2 * 0 + _ ≤ _; exact Nat.le_of_eq rfl) (by decide) ?_
  intro T48 X48 e48
  show Go p e below s _ _ _ T48 (mkF m 4 #[.val (.ref a), .val (.ref b), .val (.int (0 : Int32)), .val (.int (1 : Int32)), .val .null, .unset] [])
  refine go_st (fun _ kq => XS.iloadN X48.here hx rfl (hb hby d2_4) rfl kq) ?_
  show Go p e below s _ _ _ T48 (mkF m 5 #[.val (.ref a), .val (.ref b), .val (.int (0 : Int32)), .val (.int (1 : Int32)), .val .null, .unset] [(.int (1 : Int32))])
  refine go_st (fun _ kq => XS.ifYes X48.here hx rfl (pc0 := 5) (pc' := 27) rfl (hb hby d2_5) rfl (XT.i0_ne_t (by decide)) (by decide) (by decide) kq) ?_
  show Go p e below s _ _ _ T48 (mkF m 27 #[.val (.ref a), .val (.ref b), .val (.int (0 : Int32)), .val (.int (1 : Int32)), .val .null, .unset] [])
  refine go_getS X48 hx hZ hown (host := "") (Or.inl (hw _ (List.mem_of_getElem? (i := 49) rfl))) Via.refl e48 (Sta.ext P7.2 P8) (hb hby d2_27) rfl ?_
  intro T49 X49 e49
  show Go p e below s _ _ _ T49 (mkF m 30 #[.val (.ref a), .val (.ref b), .val (.int (0 : Int32)), .val (.int (1 : Int32)), .val .null, .unset] [(.int zc)])
  refine go_st (fun _ kq => XS.ifNo X49.here hx rfl (hb hby d2_30) rfl (XT.i0_eq_f P9) kq) ?_
  show Go p e below s _ _ _ T49 (mkF m 33 #[.val (.ref a), .val (.ref b), .val (.int (0 : Int32)), .val (.int (1 : Int32)), .val .null, .unset] [])
  refine go_st (fun _ kq => XS.aloadN X49.here hx rfl (hb hby d2_33) rfl rfl kq) ?_
  show Go p e below s _ _ _ T49 (mkF m 34 #[.val (.ref a), .val (.ref b), .val (.int (0 : Int32)), .val (.int (1 : Int32)), .val .null, .unset] [(.ref b)])
  refine go_st (fun _ kq => XS.iloadN X49.here hx rfl (hb hby d2_34) rfl kq) ?_
  show Go p e below s _ _ _ T49 (mkF m 35 #[.val (.ref a), .val (.ref b), .val (.int (0 : Int32)), .val (.int (1 : Int32)), .val .null, .unset] [(.int (0 : Int32)), (.ref b)])
  refine go_st (fun _ kq => XS.iloadN X49.here hx rfl (hb hby d2_35) rfl kq) ?_
  show Go p e below s _ _ _ T49 (mkF m 36 #[.val (.ref a), .val (.ref b), .val (.int (0 : Int32)), .val (.int (1 : Int32)), .val .null, .unset] [(.int (1 : Int32)), (.int (0 : Int32)), (.ref b)])
  refine go_callS X49 hx hZ hml hown (hw _ (List.mem_of_getElem? (i := 55) rfl)) (hw _ (List.mem_of_getElem? (i := 56) rfl)) (hw _ (List.mem_of_getElem? (i := 57) rfl)) (hw _ (List.mem_of_getElem? (i := 58) rfl)) e49 (argsL := [(.ref b), (.int (0 : Int32)), (.int (1 : Int32))]) (rest := []) (W := 0) (met_cp1 l Z a0 hw b va h0 n0 Z0 P4 P6) (hb hby d2_36) rfl rfl rfl (lenOf pd2 rfl) (by show 2 * 0 + _ ≤ _; exact Nat.le_of_eq rfl) (by decide) (by decide) (by decide) (by decide) (by decide) ?_
  intro T50 v50 L50 X50 q50
  obtain ⟨r_50, rfl, M50, K50, fz50_r, f50_0⟩ := q50
  have N50 := Fr.app N0 M50
  have ne51 : a ≠ r_50 := Nat.ne_of_lt (Nat.lt_of_lt_of_le lt_a fz50_r)
  have ne52 : b ≠ r_50 := Nat.ne_of_lt (Nat.lt_of_lt_of_le lt_b fz50_r)
  have nw_r_50 : n0 ≤ r_50 := Nat.le_trans Z0 fz50_r
  have lt_r_50 : r_50 < T50.heap.size := f50_0.lt
  show Go p e below s _ _ _ T50 (mkF m 39 #[.val (.ref a), .val (.ref b), .val (.int (0 : Int32)), .val (.int (1 : Int32)), .val .null, .unset] [(.ref r_50)])
  refine go_st (fun _ kq => XS.astore X50.here hx rfl (hb hby d2_39) rfl rfl (l' := #[.val (.ref a), .val (.ref b), .val (.int (0 : Int32)), .val (.int (1 : Int32)), .val .null, .val (.ref r_50)]) rfl kq) ?_
  show Go p e below s _ _ _ T50 (mkF m 41 #[.val (.ref a), .val (.ref b), .val (.int (0 : Int32)), .val (.int (1 : Int32)), .val .null, .val (.ref r_50)] [])
  refine go_st (fun _ kq => XS.aloadN X50.here hx rfl (hb hby d2_41) rfl rfl kq) ?_
  show Go p e below s _ _ _ T50 (mkF m 42 #[.val (.ref a), .val (.ref b), .val (.int (0 : Int32)), .val (.int (1 : Int32)), .val .null, .val (.ref r_50)] [(.ref a)])
  refine go_st (fun _ kq => XS.aload X50.here hx rfl (hb hby d2_42) rfl rfl kq) ?_
  show Go p e below s _ _ _ T50 (mkF m 44 #[.val (.ref a), .val (.ref b), .val (.int (0 : Int32)), .val (.int (1 : Int32)), .val .null, .val (.ref r_50)] [(.ref r_50), (.ref a)])
  refine go_st (fun _ kq => XS.iloadN X50.here hx rfl (hb hby d2_44) rfl kq) ?_
  show Go p e below s _ _ _ T50 (mkF m 45 #[.val (.ref a), .val (.ref b), .val (.int (0 : Int32)), .val (.int (1 : Int32)), .val .null, .val (.ref r_50)] [(.int (1 : Int32)), (.ref r_50), (.ref a)])
  have z54 : n0 ≤ T50.heap.size := Nat.le_trans Z0 K50.1
  refine go_callS X50 hx hZ hml hown (hw _ (List.mem_of_getElem? (i := 62) rfl)) (hw _ (List.mem_of_getElem? (i := 63) rfl)) (hw _ (List.mem_of_getElem? (i := 57) rfl)) (hw _ (List.mem_of_getElem? (i := 64) rfl)) rfl (argsL := [(.ref r_50), (.int (1 : Int32))]) (rest := [(.ref a)]) (W := 1) (met_cfl1 l Z a0 hw r_50 (fun i => .int (own_c3 (own_by va) (0 : Int32) (0 : Int32) i)) T50.heap n0 z54 f50_0) (hb hby d2_45) rfl rfl rfl (lenOf pd3 rfl) (by show 2 * 0 + _ ≤ _; exact Nat.le_of_eq rfl) (by decide) (by decide) (by decide) (by decide) (by decide) ?_
  intro T53 v53 L53 X53 q53
  obtain ⟨rfl, M53, e53⟩ := q53
  have N53 := Fr.app N50 M53
  show Go p e below s _ _ _ T53 (mkF m 48 #[.val (.ref a), .val (.ref b), .val (.int (0 : Int32)), .val (.int (1 : Int32)), .val .null, .val (.ref r_50)] [(.int (0 : Int32)), (.ref a)])
  have c55 := Fld.keep P2 K50 nin0
  have c56 := Exa.keep P0 K50
  refine go_putF X53 hx hZ hown (host := "") (Or.inl (hw _ (List.mem_of_getElem? (i := 25) rfl))) Via.refl e53 c55 c56 (Or.inr ⟨(hw _ (List.mem_of_getElem? (i := 21) rfl)), rfl, hnm⟩) (hw _ (List.mem_of_getElem? (i := 6) rfl)) (ty := .byte) (by decide) (by decide +kernel) (by decide +kernel) (hb hby d2_48) rfl rfl ?_
  intro T57 h57 X57 e57 W57
  have N57 := Fr.snoc X57 N53 P3
  have F57 : Fld Z h57 a "java/lang/String" "coder" "B" (.int (0 : Int32)) := Fld.same W57 c55
  show Go p e below s _ _ _ T57 (mkF m 51 #[.val (.ref a), .val (.ref b), .val (.int (0 : Int32)), .val (.int (1 : Int32)), .val .null, .val (.ref r_50)] [])
  refine go_st (fun _ kq => XS.aloadN X57.here hx rfl (hb hby d2_51) rfl rfl kq) ?_
  show Go p e below s _ _ _ T57 (mkF m 52 #[.val (.ref a), .val (.ref b), .val (.int (0 : Int32)), .val (.int (1 : Int32)), .val .null, .val (.ref r_50)] [(.ref a)])
  refine go_st (fun _ kq => XS.aload X57.here hx rfl (hb hby d2_52) rfl rfl kq) ?_
  show Go p e below s _ _ _ T57 (mkF m 54 #[.val (.ref a), .val (.ref b), .val (.int (0 : Int32)), .val (.int (1 : Int32)), .val .null, .val (.ref r_50)] [(.ref r_50), (.ref a)])
  have c58 := Fld.keep P1 K50 nin0
  have c59 := Fld.other W57 c58 (Or.inr (slot_ne (a0 := a0) (t := (.array .byte)) (t' := .byte) (Or.inr (hw _ (List.mem_of_getElem? (i := 20) rfl))) (Or.inr (hw _ (List.mem_of_getElem? (i := 21) rfl))) (by decide) (by decide) (by decide)))
  have c60 := Exa.wr W57 c56
  refine go_putF X57 hx hZ hown (host := "") (Or.inl (hw _ (List.mem_of_getElem? (i := 24) rfl))) Via.refl e57 c59 c60 (Or.inr ⟨(hw _ (List.mem_of_getElem? (i := 20) rfl)), rfl, hnm⟩) (hw _ (List.mem_of_getElem? (i := 6) rfl)) (ty := (.array .byte)) (by decide) rfl rfl (hb hby d2_54) rfl rfl ?_
  intro T61 h61 X61 e61 W61
  have N61 := Fr.snoc X61 N57 P3
  have F61 : Fld Z h61 a "java/lang/String" "value" "[B" (.ref r_50) := Fld.same W61 c59
  show Go p e below s _ _ _ T61 (mkF m 57 #[.val (.ref a), .val (.ref b), .val (.int (0 : Int32)), .val (.int (1 : Int32)), .val .null, .val (.ref r_50)] [])
  have c62 := Exa.wr W61 c60
  have c63 := Fld.other W61 F57 (Or.inr (slot_ne (a0 := a0) (t := .byte) (t' := (.array .byte)) (Or.inr (hw _ (List.mem_of_getElem? (i := 21) rfl))) (Or.inr (hw _ (List.mem_of_getElem? (i := 20) rfl))) (by decide) (by decide) (by decide)))
  have c64 := f50_0.other W57 (Ne.symm ne51)
  have c65 := c64.other W61 (Ne.symm ne51)
  exact go_ret0 X61 hx hlk hret (hb hby d2_57) (by decide) (by decide) (by rw [e61]; exact ⟨r_50, rfl, N61, (Keep.wr (Keep.wr (Keep.trans (Keep.refl h0 [a]) K50 all0) W57 (Or.inl (by simp))) W61 (Or.inl (by simp))), (Nat.le_trans (Nat.le_refl _) fz50_r), c62, F61, c63, c65⟩)
def Q_s1 (Z : State) (a : Addr) (b : Addr) (va : Int32) (zc : Int32) (h0 : Heap) (n0 : Nat) (v : Option Value) (h : Heap) (L : List Loc) : Prop := ∃ r : Addr, v = none ∧ Fr n0 L ∧ Keep h0 h [a] ∧ h0.size ≤ r ∧ Exa Z h a "java/lang/String" ∧ Fld Z h a "java/lang/String" "value" "[B" (.ref r) ∧ Fld Z h a "java/lang/String" "coder" "B" (.int (0 : Int32)) ∧ GA Z h r .byte 1 (fun i => .int (own_c3 (own_by va) (0 : Int32) (0 : Int32) i))
theorem ef_s1 (m : MethodId) (a : Addr) (b : Addr) (va : Int32) (zc : Int32) : entryFrame m #[(.ref a), (.ref b)] 2 = mkF m 0 #[.val (.ref a), .val (.ref b)] [] := by first | (simp [entryFrame, mkF, argsToLocals, Value.category]; done) | rfl
abbrev rm_s1 : Room := ({ frames := 3, cells := 1, slots := 1, locals := 52 } : Room)
set_option maxRecDepth 65536 in
set_option maxHeartbeats 4000000 in
theorem met_s1 (l : Launch) (Z : State) (a0 : Array Value) (hw : ∀ d ∈ tables_1, d.before a0 Z = true) (a : Addr) (b : Addr) (va : Int32) (zc : Int32) (h0 : Heap) (n0 : Nat) (Z0 : n0 ≤ h0.size) (P0 : Exa Z h0 a "java/lang/String") (P1 : Fld Z h0 a "java/lang/String" "value" "[B" .null) (P2 : Fld Z h0 a "java/lang/String" "coder" "B" (.int (0 : Int32))) (P3 : n0 ≤ a) (P4 : GA Z h0 b .char 1 (fun i => .int (own_c3 va (0 : Int32) (0 : Int32) i))) (P5 : a ≠ b) (P6 : Lat va) (P7 : Old Z n0 h0) (P8 : Sta Z Z.heap "java/lang/String" "COMPACT_STRINGS" "Z" (.int zc)) (P9 : ¬ (zc = (0 : Int32))) :
    Met l (⟨"java/lang/String", "<init>", "([C)V"⟩ : MethodName) jdk_42_method_3_code 2 none [] rm_s1 Z #[(.ref a), (.ref b)] h0 (Q_s1 Z a b va zc h0 n0) rm_s1.cells rm_s1.slots := by
  refine own_body pn4 ?_
  intro p e s m below meth c s₁ ct X0 e0
  have ct0 := ct
  obtain ⟨hx, hZ, hown, hby, hml, hret, hlk, hnm⟩ := ct
  have lt_a : a < h0.size := P0.lt
  have lt_b : b < h0.size := P4.lt
  have N0 := Fr.nil n0
  refine castGo (ef_s1 m a b va zc) ?_
  show Go p e below s _ _ _ s₁ (mkF m 0 #[.val (.ref a), .val (.ref b)] [])
  refine go_st (fun _ kq => XS.aloadN X0.here hx rfl (hb hby d1_0) rfl rfl kq) ?_
  show Go p e below s _ _ _ s₁ (mkF m 1 #[.val (.ref a), .val (.ref b)] [(.ref a)])
  refine go_st (fun _ kq => XS.aloadN X0.here hx rfl (hb hby d1_1) rfl rfl kq) ?_
  show Go p e below s _ _ _ s₁ (mkF m 2 #[.val (.ref a), .val (.ref b)] [(.ref b), (.ref a)])
  refine go_st (fun _ kq => XT.iconstV X0.here hx rfl (0 : Int32) (hb hby d1_2) (by decide) kq) ?_
  show Go p e below s _ _ _ s₁ (mkF m 3 #[.val (.ref a), .val (.ref b)] [(.int (0 : Int32)), (.ref b), (.ref a)])
  refine go_st (fun _ kq => XS.aloadN X0.here hx rfl (hb hby d1_3) rfl rfl kq) ?_
  show Go p e below s _ _ _ s₁ (mkF m 4 #[.val (.ref a), .val (.ref b)] [(.ref b), (.int (0 : Int32)), (.ref b), (.ref a)])
  refine go_alen X0 hx hZ e0 P4 (hb hby d1_4) rfl rfl (1 : Int32) (by decide) ?_
  show Go p e below s _ _ _ s₁ (mkF m 5 #[.val (.ref a), .val (.ref b)] [(.int (1 : Int32)), (.int (0 : Int32)), (.ref b), (.ref a)])
  refine go_st (fun _ kq => XS.aconstNull X0.here hx rfl (hb hby d1_5) kq) ?_
  show Go p e below s _ _ _ s₁ (mkF m 6 #[.val (.ref a), .val (.ref b)] [.null, (.int (1 : Int32)), (.int (0 : Int32)), (.ref b), (.ref a)])
  refine go_callI X0 hx hZ hml hown rfl (hw _ (List.mem_of_getElem? (i := 11) rfl)) (hw _ (List.mem_of_getElem? (i := 12) rfl)) (hw _ (List.mem_of_getElem? (i := 14) rfl)) (hw _ (List.mem_of_getElem? (i := 7) rfl)) e0 (argsL := [(.ref b), (.int (0 : Int32)), (.int (1 : Int32)), .null]) (rest := []) (W := 0) (met_si1 l Z a0 hw a b va zc h0 n0 Z0 P0 P1 P2 P3 P4 P5 P6 P7 P8 P9) (hb hby d1_6) rfl rfl rfl (lenOf pd1 rfl) (by show 2 * 0 + _ ≤ _; exact Nat.le_of_eq rfl) (by decide) (by decide) (by decide) (by decide) (by decide) ?_
  intro T66 v66 L66 X66 q66
  obtain ⟨r_66, rfl, M66, K66, fz66_r, f66_0, f66_1, f66_2, f66_3⟩ := q66
  have N66 := Fr.app N0 M66
  have ne67 : a ≠ r_66 := Nat.ne_of_lt (Nat.lt_of_lt_of_le lt_a fz66_r)
  have ne68 : b ≠ r_66 := Nat.ne_of_lt (Nat.lt_of_lt_of_le lt_b fz66_r)
  have nw_r_66 : n0 ≤ r_66 := Nat.le_trans Z0 fz66_r
  have lt_r_66 : r_66 < T66.heap.size := f66_3.lt
  show Go p e below s _ _ _ T66 (mkF m 9 #[.val (.ref a), .val (.ref b)] [])
  exact go_ret0 X66 hx hlk hret (hb hby d1_9) (by decide) (by decide) ⟨r_66, rfl, N66, (Keep.trans (Keep.refl h0 [a]) K66 (allS (Or.inl (by simp)) all0)), (Nat.le_trans (Nat.le_refl _) fz66_r), f66_0, f66_1, f66_2, f66_3⟩
def Q_si2 (Z : State) (a : Addr) (b : Addr) (va : Int32) (vb : Int32) (zc : Int32) (h0 : Heap) (n0 : Nat) (v : Option Value) (h : Heap) (L : List Loc) : Prop := ∃ r : Addr, v = none ∧ Fr n0 L ∧ Keep h0 h [a] ∧ h0.size ≤ r ∧ Exa Z h a "java/lang/String" ∧ Fld Z h a "java/lang/String" "value" "[B" (.ref r) ∧ Fld Z h a "java/lang/String" "coder" "B" (.int (0 : Int32)) ∧ GA Z h r .byte 2 (fun i => .int (own_c3 (own_by va) (own_by vb) (0 : Int32) i))
theorem ef_si2 (m : MethodId) (a : Addr) (b : Addr) (va : Int32) (vb : Int32) (zc : Int32) : entryFrame m #[(.ref a), (.ref b), (.int (0 : Int32)), (.int (2 : Int32)), .null] 6 = mkF m 0 #[.val (.ref a), .val (.ref b), .val (.int (0 : Int32)), .val (.int (2 : Int32)), .val .null, .unset] [] := by first | (simp [entryFrame, mkF, argsToLocals, Value.category]; done) | rfl
abbrev rm_si2 : Room := ({ frames := 2, cells := 1, slots := 2, locals := 35 } : Room)
set_option maxRecDepth 65536 in
set_option maxHeartbeats 4000000 in
theorem met_si2 (l : Launch) (Z : State) (a0 : Array Value) (hw : ∀ d ∈ tables_1, d.before a0 Z = true) (a : Addr) (b : Addr) (va : Int32) (vb : Int32) (zc : Int32) (h0 : Heap) (n0 : Nat) (Z0 : n0 ≤ h0.size) (P0 : Exa Z h0 a "java/lang/String") (P1 : Fld Z h0 a "java/lang/String" "value" "[B" .null) (P2 : Fld Z h0 a "java/lang/String" "coder" "B" (.int (0 : Int32))) (P3 : n0 ≤ a) (P4 : GA Z h0 b .char 2 (fun i => .int (own_c3 va vb (0 : Int32) i))) (P5 : a ≠ b) (P6 : Lat va) (P7 : Lat vb) (P8 : Old Z n0 h0) (P9 : Sta Z Z.heap "java/lang/String" "COMPACT_STRINGS" "Z" (.int zc)) (P10 : ¬ (zc = (0 : Int32))) :
    Met l (⟨"java/lang/String", "<init>", "([CIILjava/lang/Void;)V"⟩ : MethodName) jdk_42_method_149_code 6 none [] rm_si2 Z #[(.ref a), (.ref b), (.int (0 : Int32)), (.int (2 : Int32)), .null] h0 (Q_si2 Z a b va vb zc h0 n0) rm_si2.cells rm_si2.slots := by
  refine own_body pn3 ?_
  intro p e s m below meth c s₁ ct X0 e0
  have ct0 := ct
  obtain ⟨hx, hZ, hown, hby, hml, hret, hlk, hnm⟩ := ct
  have lt_a : a < h0.size := P0.lt
  have lt_b : b < h0.size := P4.lt
  have N0 := Fr.nil n0
  refine castGo (ef_si2 m a b va vb zc) ?_
  show Go p e below s _ _ _ s₁ (mkF m 0 #[.val (.ref a), .val (.ref b), .val (.int (0 : Int32)), .val (.int (2 : Int32)), .val .null, .unset] [])
  refine go_st (fun _ kq => XS.aloadN X0.here hx rfl (hb hby d2_0) rfl rfl kq) ?_
  show Go p e below s _ _ _ s₁ (mkF m 1 #[.val (.ref a), .val (.ref b), .val (.int (0 : Int32)), .val (.int (2 : Int32)), .val .null, .unset] [(.ref a)])
  refine go_initO X0 hx hZ hml hown (hw _ (List.mem_of_getElem? (i := 15) rfl)) (hw _ (List.mem_of_getElem? (i := 16) rfl)) (hw _ (List.mem_of_getElem? (i := 17) rfl)) e0 (hb hby d2_1) rfl rfl rfl (by decide) (W := 0) (by show 2 * 0 + _ ≤ _; exact Nat.le_of_eq rfl) (by decide) ?_
  intro T69 X69 e69
  show Go p e below s _ _ _ T69 (mkF m 4 #[.val (.ref a), .val (.ref b), .val (.int (0 : Int32)), .val (.int (2 : Int32)), .val .null, .unset] [])
  refine go_st (fun _ kq => XS.iloadN X69.here hx rfl (hb hby d2_4) rfl kq) ?_
  show Go p e below s _ _ _ T69 (mkF m 5 #[.val (.ref a), .val (.ref b), .val (.int (0 : Int32)), .val (.int (2 : Int32)), .val .null, .unset] [(.int (2 : Int32))])
  refine go_st (fun _ kq => XS.ifYes X69.here hx rfl (pc0 := 5) (pc' := 27) rfl (hb hby d2_5) rfl (XT.i0_ne_t (by decide)) (by decide) (by decide) kq) ?_
  show Go p e below s _ _ _ T69 (mkF m 27 #[.val (.ref a), .val (.ref b), .val (.int (0 : Int32)), .val (.int (2 : Int32)), .val .null, .unset] [])
  refine go_getS X69 hx hZ hown (host := "") (Or.inl (hw _ (List.mem_of_getElem? (i := 49) rfl))) Via.refl e69 (Sta.ext P8.2 P9) (hb hby d2_27) rfl ?_
  intro T70 X70 e70
  show Go p e below s _ _ _ T70 (mkF m 30 #[.val (.ref a), .val (.ref b), .val (.int (0 : Int32)), .val (.int (2 : Int32)), .val .null, .unset] [(.int zc)])
  refine go_st (fun _ kq => XS.ifNo X70.here hx rfl (hb hby d2_30) rfl (XT.i0_eq_f P10) kq) ?_
  show Go p e below s _ _ _ T70 (mkF m 33 #[.val (.ref a), .val (.ref b), .val (.int (0 : Int32)), .val (.int (2 : Int32)), .val .null, .unset] [])
  refine go_st (fun _ kq => XS.aloadN X70.here hx rfl (hb hby d2_33) rfl rfl kq) ?_
  show Go p e below s _ _ _ T70 (mkF m 34 #[.val (.ref a), .val (.ref b), .val (.int (0 : Int32)), .val (.int (2 : Int32)), .val .null, .unset] [(.ref b)])
  refine go_st (fun _ kq => XS.iloadN X70.here hx rfl (hb hby d2_34) rfl kq) ?_
  show Go p e below s _ _ _ T70 (mkF m 35 #[.val (.ref a), .val (.ref b), .val (.int (0 : Int32)), .val (.int (2 : Int32)), .val .null, .unset] [(.int (0 : Int32)), (.ref b)])
  refine go_st (fun _ kq => XS.iloadN X70.here hx rfl (hb hby d2_35) rfl kq) ?_
  show Go p e below s _ _ _ T70 (mkF m 36 #[.val (.ref a), .val (.ref b), .val (.int (0 : Int32)), .val (.int (2 : Int32)), .val .null, .unset] [(.int (2 : Int32)), (.int (0 : Int32)), (.ref b)])
  refine go_callS X70 hx hZ hml hown (hw _ (List.mem_of_getElem? (i := 55) rfl)) (hw _ (List.mem_of_getElem? (i := 56) rfl)) (hw _ (List.mem_of_getElem? (i := 57) rfl)) (hw _ (List.mem_of_getElem? (i := 58) rfl)) e70 (argsL := [(.ref b), (.int (0 : Int32)), (.int (2 : Int32))]) (rest := []) (W := 0) (met_cp2 l Z a0 hw b va vb h0 n0 Z0 P4 P6 P7) (hb hby d2_36) rfl rfl rfl (lenOf pd2 rfl) (by show 2 * 0 + _ ≤ _; exact Nat.le_of_eq rfl) (by decide) (by decide) (by decide) (by decide) (by decide) ?_
  intro T71 v71 L71 X71 q71
  obtain ⟨r_71, rfl, M71, K71, fz71_r, f71_0⟩ := q71
  have N71 := Fr.app N0 M71
  have ne72 : a ≠ r_71 := Nat.ne_of_lt (Nat.lt_of_lt_of_le lt_a fz71_r)
  have ne73 : b ≠ r_71 := Nat.ne_of_lt (Nat.lt_of_lt_of_le lt_b fz71_r)
  have nw_r_71 : n0 ≤ r_71 := Nat.le_trans Z0 fz71_r
  have lt_r_71 : r_71 < T71.heap.size := f71_0.lt
  show Go p e below s _ _ _ T71 (mkF m 39 #[.val (.ref a), .val (.ref b), .val (.int (0 : Int32)), .val (.int (2 : Int32)), .val .null, .unset] [(.ref r_71)])
  refine go_st (fun _ kq => XS.astore X71.here hx rfl (hb hby d2_39) rfl rfl (l' := #[.val (.ref a), .val (.ref b), .val (.int (0 : Int32)), .val (.int (2 : Int32)), .val .null, .val (.ref r_71)]) rfl kq) ?_
  show Go p e below s _ _ _ T71 (mkF m 41 #[.val (.ref a), .val (.ref b), .val (.int (0 : Int32)), .val (.int (2 : Int32)), .val .null, .val (.ref r_71)] [])
  refine go_st (fun _ kq => XS.aloadN X71.here hx rfl (hb hby d2_41) rfl rfl kq) ?_
  show Go p e below s _ _ _ T71 (mkF m 42 #[.val (.ref a), .val (.ref b), .val (.int (0 : Int32)), .val (.int (2 : Int32)), .val .null, .val (.ref r_71)] [(.ref a)])
  refine go_st (fun _ kq => XS.aload X71.here hx rfl (hb hby d2_42) rfl rfl kq) ?_
  show Go p e below s _ _ _ T71 (mkF m 44 #[.val (.ref a), .val (.ref b), .val (.int (0 : Int32)), .val (.int (2 : Int32)), .val .null, .val (.ref r_71)] [(.ref r_71), (.ref a)])
  refine go_st (fun _ kq => XS.iloadN X71.here hx rfl (hb hby d2_44) rfl kq) ?_
  show Go p e below s _ _ _ T71 (mkF m 45 #[.val (.ref a), .val (.ref b), .val (.int (0 : Int32)), .val (.int (2 : Int32)), .val .null, .val (.ref r_71)] [(.int (2 : Int32)), (.ref r_71), (.ref a)])
  have z75 : n0 ≤ T71.heap.size := Nat.le_trans Z0 K71.1
  refine go_callS X71 hx hZ hml hown (hw _ (List.mem_of_getElem? (i := 62) rfl)) (hw _ (List.mem_of_getElem? (i := 63) rfl)) (hw _ (List.mem_of_getElem? (i := 57) rfl)) (hw _ (List.mem_of_getElem? (i := 64) rfl)) rfl (argsL := [(.ref r_71), (.int (2 : Int32))]) (rest := [(.ref a)]) (W := 1) (met_cfl2 l Z a0 hw r_71 (fun i => .int (own_c3 (own_by va) (own_by vb) (0 : Int32) i)) T71.heap n0 z75 f71_0) (hb hby d2_45) rfl rfl rfl (lenOf pd3 rfl) (by show 2 * 0 + _ ≤ _; exact Nat.le_of_eq rfl) (by decide) (by decide) (by decide) (by decide) (by decide) ?_
  intro T74 v74 L74 X74 q74
  obtain ⟨rfl, M74, e74⟩ := q74
  have N74 := Fr.app N71 M74
  show Go p e below s _ _ _ T74 (mkF m 48 #[.val (.ref a), .val (.ref b), .val (.int (0 : Int32)), .val (.int (2 : Int32)), .val .null, .val (.ref r_71)] [(.int (0 : Int32)), (.ref a)])
  have c76 := Fld.keep P2 K71 nin0
  have c77 := Exa.keep P0 K71
  refine go_putF X74 hx hZ hown (host := "") (Or.inl (hw _ (List.mem_of_getElem? (i := 25) rfl))) Via.refl e74 c76 c77 (Or.inr ⟨(hw _ (List.mem_of_getElem? (i := 21) rfl)), rfl, hnm⟩) (hw _ (List.mem_of_getElem? (i := 6) rfl)) (ty := .byte) (by decide) (by decide +kernel) (by decide +kernel) (hb hby d2_48) rfl rfl ?_
  intro T78 h78 X78 e78 W78
  have N78 := Fr.snoc X78 N74 P3
  have F78 : Fld Z h78 a "java/lang/String" "coder" "B" (.int (0 : Int32)) := Fld.same W78 c76
  show Go p e below s _ _ _ T78 (mkF m 51 #[.val (.ref a), .val (.ref b), .val (.int (0 : Int32)), .val (.int (2 : Int32)), .val .null, .val (.ref r_71)] [])
  refine go_st (fun _ kq => XS.aloadN X78.here hx rfl (hb hby d2_51) rfl rfl kq) ?_
  show Go p e below s _ _ _ T78 (mkF m 52 #[.val (.ref a), .val (.ref b), .val (.int (0 : Int32)), .val (.int (2 : Int32)), .val .null, .val (.ref r_71)] [(.ref a)])
  refine go_st (fun _ kq => XS.aload X78.here hx rfl (hb hby d2_52) rfl rfl kq) ?_
  show Go p e below s _ _ _ T78 (mkF m 54 #[.val (.ref a), .val (.ref b), .val (.int (0 : Int32)), .val (.int (2 : Int32)), .val .null, .val (.ref r_71)] [(.ref r_71), (.ref a)])
  have c79 := Fld.keep P1 K71 nin0
  have c80 := Fld.other W78 c79 (Or.inr (slot_ne (a0 := a0) (t := (.array .byte)) (t' := .byte) (Or.inr (hw _ (List.mem_of_getElem? (i := 20) rfl))) (Or.inr (hw _ (List.mem_of_getElem? (i := 21) rfl))) (by decide) (by decide) (by decide)))
  have c81 := Exa.wr W78 c77
  refine go_putF X78 hx hZ hown (host := "") (Or.inl (hw _ (List.mem_of_getElem? (i := 24) rfl))) Via.refl e78 c80 c81 (Or.inr ⟨(hw _ (List.mem_of_getElem? (i := 20) rfl)), rfl, hnm⟩) (hw _ (List.mem_of_getElem? (i := 6) rfl)) (ty := (.array .byte)) (by decide) rfl rfl (hb hby d2_54) rfl rfl ?_
  intro T82 h82 X82 e82 W82
  have N82 := Fr.snoc X82 N78 P3
  have F82 : Fld Z h82 a "java/lang/String" "value" "[B" (.ref r_71) := Fld.same W82 c80
  show Go p e below s _ _ _ T82 (mkF m 57 #[.val (.ref a), .val (.ref b), .val (.int (0 : Int32)), .val (.int (2 : Int32)), .val .null, .val (.ref r_71)] [])
  have c83 := Exa.wr W82 c81
  have c84 := Fld.other W82 F78 (Or.inr (slot_ne (a0 := a0) (t := .byte) (t' := (.array .byte)) (Or.inr (hw _ (List.mem_of_getElem? (i := 21) rfl))) (Or.inr (hw _ (List.mem_of_getElem? (i := 20) rfl))) (by decide) (by decide) (by decide)))
  have c85 := f71_0.other W78 (Ne.symm ne72)
  have c86 := c85.other W82 (Ne.symm ne72)
  exact go_ret0 X82 hx hlk hret (hb hby d2_57) (by decide) (by decide) (by rw [e82]; exact ⟨r_71, rfl, N82, (Keep.wr (Keep.wr (Keep.trans (Keep.refl h0 [a]) K71 all0) W78 (Or.inl (by simp))) W82 (Or.inl (by simp))), (Nat.le_trans (Nat.le_refl _) fz71_r), c83, F82, c84, c86⟩)
def Q_s2 (Z : State) (a : Addr) (b : Addr) (va : Int32) (vb : Int32) (zc : Int32) (h0 : Heap) (n0 : Nat) (v : Option Value) (h : Heap) (L : List Loc) : Prop := ∃ r : Addr, v = none ∧ Fr n0 L ∧ Keep h0 h [a] ∧ h0.size ≤ r ∧ Exa Z h a "java/lang/String" ∧ Fld Z h a "java/lang/String" "value" "[B" (.ref r) ∧ Fld Z h a "java/lang/String" "coder" "B" (.int (0 : Int32)) ∧ GA Z h r .byte 2 (fun i => .int (own_c3 (own_by va) (own_by vb) (0 : Int32) i))
theorem ef_s2 (m : MethodId) (a : Addr) (b : Addr) (va : Int32) (vb : Int32) (zc : Int32) : entryFrame m #[(.ref a), (.ref b)] 2 = mkF m 0 #[.val (.ref a), .val (.ref b)] [] := by first | (simp [entryFrame, mkF, argsToLocals, Value.category]; done) | rfl
abbrev rm_s2 : Room := ({ frames := 3, cells := 1, slots := 2, locals := 52 } : Room)
set_option maxRecDepth 65536 in
set_option maxHeartbeats 4000000 in
theorem met_s2 (l : Launch) (Z : State) (a0 : Array Value) (hw : ∀ d ∈ tables_1, d.before a0 Z = true) (a : Addr) (b : Addr) (va : Int32) (vb : Int32) (zc : Int32) (h0 : Heap) (n0 : Nat) (Z0 : n0 ≤ h0.size) (P0 : Exa Z h0 a "java/lang/String") (P1 : Fld Z h0 a "java/lang/String" "value" "[B" .null) (P2 : Fld Z h0 a "java/lang/String" "coder" "B" (.int (0 : Int32))) (P3 : n0 ≤ a) (P4 : GA Z h0 b .char 2 (fun i => .int (own_c3 va vb (0 : Int32) i))) (P5 : a ≠ b) (P6 : Lat va) (P7 : Lat vb) (P8 : Old Z n0 h0) (P9 : Sta Z Z.heap "java/lang/String" "COMPACT_STRINGS" "Z" (.int zc)) (P10 : ¬ (zc = (0 : Int32))) :
    Met l (⟨"java/lang/String", "<init>", "([C)V"⟩ : MethodName) jdk_42_method_3_code 2 none [] rm_s2 Z #[(.ref a), (.ref b)] h0 (Q_s2 Z a b va vb zc h0 n0) rm_s2.cells rm_s2.slots := by
  refine own_body pn4 ?_
  intro p e s m below meth c s₁ ct X0 e0
  have ct0 := ct
  obtain ⟨hx, hZ, hown, hby, hml, hret, hlk, hnm⟩ := ct
  have lt_a : a < h0.size := P0.lt
  have lt_b : b < h0.size := P4.lt
  have N0 := Fr.nil n0
  refine castGo (ef_s2 m a b va vb zc) ?_
  show Go p e below s _ _ _ s₁ (mkF m 0 #[.val (.ref a), .val (.ref b)] [])
  refine go_st (fun _ kq => XS.aloadN X0.here hx rfl (hb hby d1_0) rfl rfl kq) ?_
  show Go p e below s _ _ _ s₁ (mkF m 1 #[.val (.ref a), .val (.ref b)] [(.ref a)])
  refine go_st (fun _ kq => XS.aloadN X0.here hx rfl (hb hby d1_1) rfl rfl kq) ?_
  show Go p e below s _ _ _ s₁ (mkF m 2 #[.val (.ref a), .val (.ref b)] [(.ref b), (.ref a)])
  refine go_st (fun _ kq => XT.iconstV X0.here hx rfl (0 : Int32) (hb hby d1_2) (by decide) kq) ?_
  show Go p e below s _ _ _ s₁ (mkF m 3 #[.val (.ref a), .val (.ref b)] [(.int (0 : Int32)), (.ref b), (.ref a)])
  refine go_st (fun _ kq => XS.aloadN X0.here hx rfl (hb hby d1_3) rfl rfl kq) ?_
  show Go p e below s _ _ _ s₁ (mkF m 4 #[.val (.ref a), .val (.ref b)] [(.ref b), (.int (0 : Int32)), (.ref b), (.ref a)])
  refine go_alen X0 hx hZ e0 P4 (hb hby d1_4) rfl rfl (2 : Int32) (by decide) ?_
  show Go p e below s _ _ _ s₁ (mkF m 5 #[.val (.ref a), .val (.ref b)] [(.int (2 : Int32)), (.int (0 : Int32)), (.ref b), (.ref a)])
  refine go_st (fun _ kq => XS.aconstNull X0.here hx rfl (hb hby d1_5) kq) ?_
  show Go p e below s _ _ _ s₁ (mkF m 6 #[.val (.ref a), .val (.ref b)] [.null, (.int (2 : Int32)), (.int (0 : Int32)), (.ref b), (.ref a)])
  refine go_callI X0 hx hZ hml hown rfl (hw _ (List.mem_of_getElem? (i := 11) rfl)) (hw _ (List.mem_of_getElem? (i := 12) rfl)) (hw _ (List.mem_of_getElem? (i := 14) rfl)) (hw _ (List.mem_of_getElem? (i := 7) rfl)) e0 (argsL := [(.ref b), (.int (0 : Int32)), (.int (2 : Int32)), .null]) (rest := []) (W := 0) (met_si2 l Z a0 hw a b va vb zc h0 n0 Z0 P0 P1 P2 P3 P4 P5 P6 P7 P8 P9 P10) (hb hby d1_6) rfl rfl rfl (lenOf pd1 rfl) (by show 2 * 0 + _ ≤ _; exact Nat.le_of_eq rfl) (by decide) (by decide) (by decide) (by decide) (by decide) ?_
  intro T87 v87 L87 X87 q87
  obtain ⟨r_87, rfl, M87, K87, fz87_r, f87_0, f87_1, f87_2, f87_3⟩ := q87
  have N87 := Fr.app N0 M87
  have ne88 : a ≠ r_87 := Nat.ne_of_lt (Nat.lt_of_lt_of_le lt_a fz87_r)
  have ne89 : b ≠ r_87 := Nat.ne_of_lt (Nat.lt_of_lt_of_le lt_b fz87_r)
  have nw_r_87 : n0 ≤ r_87 := Nat.le_trans Z0 fz87_r
  have lt_r_87 : r_87 < T87.heap.size := f87_3.lt
  show Go p e below s _ _ _ T87 (mkF m 9 #[.val (.ref a), .val (.ref b)] [])
  exact go_ret0 X87 hx hlk hret (hb hby d1_9) (by decide) (by decide) ⟨r_87, rfl, N87, (Keep.trans (Keep.refl h0 [a]) K87 (allS (Or.inl (by simp)) all0)), (Nat.le_trans (Nat.le_refl _) fz87_r), f87_0, f87_1, f87_2, f87_3⟩
def Q_si3 (Z : State) (a : Addr) (b : Addr) (va : Int32) (vb : Int32) (vc : Int32) (zc : Int32) (h0 : Heap) (n0 : Nat) (v : Option Value) (h : Heap) (L : List Loc) : Prop := ∃ r : Addr, v = none ∧ Fr n0 L ∧ Keep h0 h [a] ∧ h0.size ≤ r ∧ Exa Z h a "java/lang/String" ∧ Fld Z h a "java/lang/String" "value" "[B" (.ref r) ∧ Fld Z h a "java/lang/String" "coder" "B" (.int (0 : Int32)) ∧ GA Z h r .byte 3 (fun i => .int (own_c3 (own_by va) (own_by vb) (own_by vc) i))
theorem ef_si3 (m : MethodId) (a : Addr) (b : Addr) (va : Int32) (vb : Int32) (vc : Int32) (zc : Int32) : entryFrame m #[(.ref a), (.ref b), (.int (0 : Int32)), (.int (3 : Int32)), .null] 6 = mkF m 0 #[.val (.ref a), .val (.ref b), .val (.int (0 : Int32)), .val (.int (3 : Int32)), .val .null, .unset] [] := by first | (simp [entryFrame, mkF, argsToLocals, Value.category]; done) | rfl
abbrev rm_si3 : Room := ({ frames := 2, cells := 1, slots := 3, locals := 35 } : Room)
set_option maxRecDepth 65536 in
set_option maxHeartbeats 4000000 in
theorem met_si3 (l : Launch) (Z : State) (a0 : Array Value) (hw : ∀ d ∈ tables_1, d.before a0 Z = true) (a : Addr) (b : Addr) (va : Int32) (vb : Int32) (vc : Int32) (zc : Int32) (h0 : Heap) (n0 : Nat) (Z0 : n0 ≤ h0.size) (P0 : Exa Z h0 a "java/lang/String") (P1 : Fld Z h0 a "java/lang/String" "value" "[B" .null) (P2 : Fld Z h0 a "java/lang/String" "coder" "B" (.int (0 : Int32))) (P3 : n0 ≤ a) (P4 : GA Z h0 b .char 3 (fun i => .int (own_c3 va vb vc i))) (P5 : a ≠ b) (P6 : Lat va) (P7 : Lat vb) (P8 : Lat vc) (P9 : Old Z n0 h0) (P10 : Sta Z Z.heap "java/lang/String" "COMPACT_STRINGS" "Z" (.int zc)) (P11 : ¬ (zc = (0 : Int32))) :
    Met l (⟨"java/lang/String", "<init>", "([CIILjava/lang/Void;)V"⟩ : MethodName) jdk_42_method_149_code 6 none [] rm_si3 Z #[(.ref a), (.ref b), (.int (0 : Int32)), (.int (3 : Int32)), .null] h0 (Q_si3 Z a b va vb vc zc h0 n0) rm_si3.cells rm_si3.slots := by
  refine own_body pn3 ?_
  intro p e s m below meth c s₁ ct X0 e0
  have ct0 := ct
  obtain ⟨hx, hZ, hown, hby, hml, hret, hlk, hnm⟩ := ct
  have lt_a : a < h0.size := P0.lt
  have lt_b : b < h0.size := P4.lt
  have N0 := Fr.nil n0
  refine castGo (ef_si3 m a b va vb vc zc) ?_
  show Go p e below s _ _ _ s₁ (mkF m 0 #[.val (.ref a), .val (.ref b), .val (.int (0 : Int32)), .val (.int (3 : Int32)), .val .null, .unset] [])
  refine go_st (fun _ kq => XS.aloadN X0.here hx rfl (hb hby d2_0) rfl rfl kq) ?_
  show Go p e below s _ _ _ s₁ (mkF m 1 #[.val (.ref a), .val (.ref b), .val (.int (0 : Int32)), .val (.int (3 : Int32)), .val .null, .unset] [(.ref a)])
  refine go_initO X0 hx hZ hml hown (hw _ (List.mem_of_getElem? (i := 15) rfl)) (hw _ (List.mem_of_getElem? (i := 16) rfl)) (hw _ (List.mem_of_getElem? (i := 17) rfl)) e0 (hb hby d2_1) rfl rfl rfl (by decide) (W := 0) (by show 2 * 0 + _ ≤ _; exact Nat.le_of_eq rfl) (by decide) ?_
  intro T90 X90 e90
  show Go p e below s _ _ _ T90 (mkF m 4 #[.val (.ref a), .val (.ref b), .val (.int (0 : Int32)), .val (.int (3 : Int32)), .val .null, .unset] [])
  refine go_st (fun _ kq => XS.iloadN X90.here hx rfl (hb hby d2_4) rfl kq) ?_
  show Go p e below s _ _ _ T90 (mkF m 5 #[.val (.ref a), .val (.ref b), .val (.int (0 : Int32)), .val (.int (3 : Int32)), .val .null, .unset] [(.int (3 : Int32))])
  refine go_st (fun _ kq => XS.ifYes X90.here hx rfl (pc0 := 5) (pc' := 27) rfl (hb hby d2_5) rfl (XT.i0_ne_t (by decide)) (by decide) (by decide) kq) ?_
  show Go p e below s _ _ _ T90 (mkF m 27 #[.val (.ref a), .val (.ref b), .val (.int (0 : Int32)), .val (.int (3 : Int32)), .val .null, .unset] [])
  refine go_getS X90 hx hZ hown (host := "") (Or.inl (hw _ (List.mem_of_getElem? (i := 49) rfl))) Via.refl e90 (Sta.ext P9.2 P10) (hb hby d2_27) rfl ?_
  intro T91 X91 e91
  show Go p e below s _ _ _ T91 (mkF m 30 #[.val (.ref a), .val (.ref b), .val (.int (0 : Int32)), .val (.int (3 : Int32)), .val .null, .unset] [(.int zc)])
  refine go_st (fun _ kq => XS.ifNo X91.here hx rfl (hb hby d2_30) rfl (XT.i0_eq_f P11) kq) ?_
  show Go p e below s _ _ _ T91 (mkF m 33 #[.val (.ref a), .val (.ref b), .val (.int (0 : Int32)), .val (.int (3 : Int32)), .val .null, .unset] [])
  refine go_st (fun _ kq => XS.aloadN X91.here hx rfl (hb hby d2_33) rfl rfl kq) ?_
  show Go p e below s _ _ _ T91 (mkF m 34 #[.val (.ref a), .val (.ref b), .val (.int (0 : Int32)), .val (.int (3 : Int32)), .val .null, .unset] [(.ref b)])
  refine go_st (fun _ kq => XS.iloadN X91.here hx rfl (hb hby d2_34) rfl kq) ?_
  show Go p e below s _ _ _ T91 (mkF m 35 #[.val (.ref a), .val (.ref b), .val (.int (0 : Int32)), .val (.int (3 : Int32)), .val .null, .unset] [(.int (0 : Int32)), (.ref b)])
  refine go_st (fun _ kq => XS.iloadN X91.here hx rfl (hb hby d2_35) rfl kq) ?_
  show Go p e below s _ _ _ T91 (mkF m 36 #[.val (.ref a), .val (.ref b), .val (.int (0 : Int32)), .val (.int (3 : Int32)), .val .null, .unset] [(.int (3 : Int32)), (.int (0 : Int32)), (.ref b)])
  refine go_callS X91 hx hZ hml hown (hw _ (List.mem_of_getElem? (i := 55) rfl)) (hw _ (List.mem_of_getElem? (i := 56) rfl)) (hw _ (List.mem_of_getElem? (i := 57) rfl)) (hw _ (List.mem_of_getElem? (i := 58) rfl)) e91 (argsL := [(.ref b), (.int (0 : Int32)), (.int (3 : Int32))]) (rest := []) (W := 0) (met_cp3 l Z a0 hw b va vb vc h0 n0 Z0 P4 P6 P7 P8) (hb hby d2_36) rfl rfl rfl (lenOf pd2 rfl) (by show 2 * 0 + _ ≤ _; exact Nat.le_of_eq rfl) (by decide) (by decide) (by decide) (by decide) (by decide) ?_
  intro T92 v92 L92 X92 q92
  obtain ⟨r_92, rfl, M92, K92, fz92_r, f92_0⟩ := q92
  have N92 := Fr.app N0 M92
  have ne93 : a ≠ r_92 := Nat.ne_of_lt (Nat.lt_of_lt_of_le lt_a fz92_r)
  have ne94 : b ≠ r_92 := Nat.ne_of_lt (Nat.lt_of_lt_of_le lt_b fz92_r)
  have nw_r_92 : n0 ≤ r_92 := Nat.le_trans Z0 fz92_r
  have lt_r_92 : r_92 < T92.heap.size := f92_0.lt
  show Go p e below s _ _ _ T92 (mkF m 39 #[.val (.ref a), .val (.ref b), .val (.int (0 : Int32)), .val (.int (3 : Int32)), .val .null, .unset] [(.ref r_92)])
  refine go_st (fun _ kq => XS.astore X92.here hx rfl (hb hby d2_39) rfl rfl (l' := #[.val (.ref a), .val (.ref b), .val (.int (0 : Int32)), .val (.int (3 : Int32)), .val .null, .val (.ref r_92)]) rfl kq) ?_
  show Go p e below s _ _ _ T92 (mkF m 41 #[.val (.ref a), .val (.ref b), .val (.int (0 : Int32)), .val (.int (3 : Int32)), .val .null, .val (.ref r_92)] [])
  refine go_st (fun _ kq => XS.aloadN X92.here hx rfl (hb hby d2_41) rfl rfl kq) ?_
  show Go p e below s _ _ _ T92 (mkF m 42 #[.val (.ref a), .val (.ref b), .val (.int (0 : Int32)), .val (.int (3 : Int32)), .val .null, .val (.ref r_92)] [(.ref a)])
  refine go_st (fun _ kq => XS.aload X92.here hx rfl (hb hby d2_42) rfl rfl kq) ?_
  show Go p e below s _ _ _ T92 (mkF m 44 #[.val (.ref a), .val (.ref b), .val (.int (0 : Int32)), .val (.int (3 : Int32)), .val .null, .val (.ref r_92)] [(.ref r_92), (.ref a)])
  refine go_st (fun _ kq => XS.iloadN X92.here hx rfl (hb hby d2_44) rfl kq) ?_
  show Go p e below s _ _ _ T92 (mkF m 45 #[.val (.ref a), .val (.ref b), .val (.int (0 : Int32)), .val (.int (3 : Int32)), .val .null, .val (.ref r_92)] [(.int (3 : Int32)), (.ref r_92), (.ref a)])
  have z96 : n0 ≤ T92.heap.size := Nat.le_trans Z0 K92.1
  refine go_callS X92 hx hZ hml hown (hw _ (List.mem_of_getElem? (i := 62) rfl)) (hw _ (List.mem_of_getElem? (i := 63) rfl)) (hw _ (List.mem_of_getElem? (i := 57) rfl)) (hw _ (List.mem_of_getElem? (i := 64) rfl)) rfl (argsL := [(.ref r_92), (.int (3 : Int32))]) (rest := [(.ref a)]) (W := 1) (met_cfl3 l Z a0 hw r_92 (fun i => .int (own_c3 (own_by va) (own_by vb) (own_by vc) i)) T92.heap n0 z96 f92_0) (hb hby d2_45) rfl rfl rfl (lenOf pd3 rfl) (by show 2 * 0 + _ ≤ _; exact Nat.le_of_eq rfl) (by decide) (by decide) (by decide) (by decide) (by decide) ?_
  intro T95 v95 L95 X95 q95
  obtain ⟨rfl, M95, e95⟩ := q95
  have N95 := Fr.app N92 M95
  show Go p e below s _ _ _ T95 (mkF m 48 #[.val (.ref a), .val (.ref b), .val (.int (0 : Int32)), .val (.int (3 : Int32)), .val .null, .val (.ref r_92)] [(.int (0 : Int32)), (.ref a)])
  have c97 := Fld.keep P2 K92 nin0
  have c98 := Exa.keep P0 K92
  refine go_putF X95 hx hZ hown (host := "") (Or.inl (hw _ (List.mem_of_getElem? (i := 25) rfl))) Via.refl e95 c97 c98 (Or.inr ⟨(hw _ (List.mem_of_getElem? (i := 21) rfl)), rfl, hnm⟩) (hw _ (List.mem_of_getElem? (i := 6) rfl)) (ty := .byte) (by decide) (by decide +kernel) (by decide +kernel) (hb hby d2_48) rfl rfl ?_
  intro T99 h99 X99 e99 W99
  have N99 := Fr.snoc X99 N95 P3
  have F99 : Fld Z h99 a "java/lang/String" "coder" "B" (.int (0 : Int32)) := Fld.same W99 c97
  show Go p e below s _ _ _ T99 (mkF m 51 #[.val (.ref a), .val (.ref b), .val (.int (0 : Int32)), .val (.int (3 : Int32)), .val .null, .val (.ref r_92)] [])
  refine go_st (fun _ kq => XS.aloadN X99.here hx rfl (hb hby d2_51) rfl rfl kq) ?_
  show Go p e below s _ _ _ T99 (mkF m 52 #[.val (.ref a), .val (.ref b), .val (.int (0 : Int32)), .val (.int (3 : Int32)), .val .null, .val (.ref r_92)] [(.ref a)])
  refine go_st (fun _ kq => XS.aload X99.here hx rfl (hb hby d2_52) rfl rfl kq) ?_
  show Go p e below s _ _ _ T99 (mkF m 54 #[.val (.ref a), .val (.ref b), .val (.int (0 : Int32)), .val (.int (3 : Int32)), .val .null, .val (.ref r_92)] [(.ref r_92), (.ref a)])
  have c100 := Fld.keep P1 K92 nin0
  have c101 := Fld.other W99 c100 (Or.inr (slot_ne (a0 := a0) (t := (.array .byte)) (t' := .byte) (Or.inr (hw _ (List.mem_of_getElem? (i := 20) rfl))) (Or.inr (hw _ (List.mem_of_getElem? (i := 21) rfl))) (by decide) (by decide) (by decide)))
  have c102 := Exa.wr W99 c98
  refine go_putF X99 hx hZ hown (host := "") (Or.inl (hw _ (List.mem_of_getElem? (i := 24) rfl))) Via.refl e99 c101 c102 (Or.inr ⟨(hw _ (List.mem_of_getElem? (i := 20) rfl)), rfl, hnm⟩) (hw _ (List.mem_of_getElem? (i := 6) rfl)) (ty := (.array .byte)) (by decide) rfl rfl (hb hby d2_54) rfl rfl ?_
  intro T103 h103 X103 e103 W103
  have N103 := Fr.snoc X103 N99 P3
  have F103 : Fld Z h103 a "java/lang/String" "value" "[B" (.ref r_92) := Fld.same W103 c101
  show Go p e below s _ _ _ T103 (mkF m 57 #[.val (.ref a), .val (.ref b), .val (.int (0 : Int32)), .val (.int (3 : Int32)), .val .null, .val (.ref r_92)] [])
  have c104 := Exa.wr W103 c102
  have c105 := Fld.other W103 F99 (Or.inr (slot_ne (a0 := a0) (t := .byte) (t' := (.array .byte)) (Or.inr (hw _ (List.mem_of_getElem? (i := 21) rfl))) (Or.inr (hw _ (List.mem_of_getElem? (i := 20) rfl))) (by decide) (by decide) (by decide)))
  have c106 := f92_0.other W99 (Ne.symm ne93)
  have c107 := c106.other W103 (Ne.symm ne93)
  exact go_ret0 X103 hx hlk hret (hb hby d2_57) (by decide) (by decide) (by rw [e103]; exact ⟨r_92, rfl, N103, (Keep.wr (Keep.wr (Keep.trans (Keep.refl h0 [a]) K92 all0) W99 (Or.inl (by simp))) W103 (Or.inl (by simp))), (Nat.le_trans (Nat.le_refl _) fz92_r), c104, F103, c105, c107⟩)
def Q_s3 (Z : State) (a : Addr) (b : Addr) (va : Int32) (vb : Int32) (vc : Int32) (zc : Int32) (h0 : Heap) (n0 : Nat) (v : Option Value) (h : Heap) (L : List Loc) : Prop := ∃ r : Addr, v = none ∧ Fr n0 L ∧ Keep h0 h [a] ∧ h0.size ≤ r ∧ Exa Z h a "java/lang/String" ∧ Fld Z h a "java/lang/String" "value" "[B" (.ref r) ∧ Fld Z h a "java/lang/String" "coder" "B" (.int (0 : Int32)) ∧ GA Z h r .byte 3 (fun i => .int (own_c3 (own_by va) (own_by vb) (own_by vc) i))
theorem ef_s3 (m : MethodId) (a : Addr) (b : Addr) (va : Int32) (vb : Int32) (vc : Int32) (zc : Int32) : entryFrame m #[(.ref a), (.ref b)] 2 = mkF m 0 #[.val (.ref a), .val (.ref b)] [] := by first | (simp [entryFrame, mkF, argsToLocals, Value.category]; done) | rfl
abbrev rm_s3 : Room := ({ frames := 3, cells := 1, slots := 3, locals := 52 } : Room)
set_option maxRecDepth 65536 in
set_option maxHeartbeats 4000000 in
theorem met_s3 (l : Launch) (Z : State) (a0 : Array Value) (hw : ∀ d ∈ tables_1, d.before a0 Z = true) (a : Addr) (b : Addr) (va : Int32) (vb : Int32) (vc : Int32) (zc : Int32) (h0 : Heap) (n0 : Nat) (Z0 : n0 ≤ h0.size) (P0 : Exa Z h0 a "java/lang/String") (P1 : Fld Z h0 a "java/lang/String" "value" "[B" .null) (P2 : Fld Z h0 a "java/lang/String" "coder" "B" (.int (0 : Int32))) (P3 : n0 ≤ a) (P4 : GA Z h0 b .char 3 (fun i => .int (own_c3 va vb vc i))) (P5 : a ≠ b) (P6 : Lat va) (P7 : Lat vb) (P8 : Lat vc) (P9 : Old Z n0 h0) (P10 : Sta Z Z.heap "java/lang/String" "COMPACT_STRINGS" "Z" (.int zc)) (P11 : ¬ (zc = (0 : Int32))) :
    Met l (⟨"java/lang/String", "<init>", "([C)V"⟩ : MethodName) jdk_42_method_3_code 2 none [] rm_s3 Z #[(.ref a), (.ref b)] h0 (Q_s3 Z a b va vb vc zc h0 n0) rm_s3.cells rm_s3.slots := by
  refine own_body pn4 ?_
  intro p e s m below meth c s₁ ct X0 e0
  have ct0 := ct
  obtain ⟨hx, hZ, hown, hby, hml, hret, hlk, hnm⟩ := ct
  have lt_a : a < h0.size := P0.lt
  have lt_b : b < h0.size := P4.lt
  have N0 := Fr.nil n0
  refine castGo (ef_s3 m a b va vb vc zc) ?_
  show Go p e below s _ _ _ s₁ (mkF m 0 #[.val (.ref a), .val (.ref b)] [])
  refine go_st (fun _ kq => XS.aloadN X0.here hx rfl (hb hby d1_0) rfl rfl kq) ?_
  show Go p e below s _ _ _ s₁ (mkF m 1 #[.val (.ref a), .val (.ref b)] [(.ref a)])
  refine go_st (fun _ kq => XS.aloadN X0.here hx rfl (hb hby d1_1) rfl rfl kq) ?_
  show Go p e below s _ _ _ s₁ (mkF m 2 #[.val (.ref a), .val (.ref b)] [(.ref b), (.ref a)])
  refine go_st (fun _ kq => XT.iconstV X0.here hx rfl (0 : Int32) (hb hby d1_2) (by decide) kq) ?_
  show Go p e below s _ _ _ s₁ (mkF m 3 #[.val (.ref a), .val (.ref b)] [(.int (0 : Int32)), (.ref b), (.ref a)])
  refine go_st (fun _ kq => XS.aloadN X0.here hx rfl (hb hby d1_3) rfl rfl kq) ?_
  show Go p e below s _ _ _ s₁ (mkF m 4 #[.val (.ref a), .val (.ref b)] [(.ref b), (.int (0 : Int32)), (.ref b), (.ref a)])
  refine go_alen X0 hx hZ e0 P4 (hb hby d1_4) rfl rfl (3 : Int32) (by decide) ?_
  show Go p e below s _ _ _ s₁ (mkF m 5 #[.val (.ref a), .val (.ref b)] [(.int (3 : Int32)), (.int (0 : Int32)), (.ref b), (.ref a)])
  refine go_st (fun _ kq => XS.aconstNull X0.here hx rfl (hb hby d1_5) kq) ?_
  show Go p e below s _ _ _ s₁ (mkF m 6 #[.val (.ref a), .val (.ref b)] [.null, (.int (3 : Int32)), (.int (0 : Int32)), (.ref b), (.ref a)])
  refine go_callI X0 hx hZ hml hown rfl (hw _ (List.mem_of_getElem? (i := 11) rfl)) (hw _ (List.mem_of_getElem? (i := 12) rfl)) (hw _ (List.mem_of_getElem? (i := 14) rfl)) (hw _ (List.mem_of_getElem? (i := 7) rfl)) e0 (argsL := [(.ref b), (.int (0 : Int32)), (.int (3 : Int32)), .null]) (rest := []) (W := 0) (met_si3 l Z a0 hw a b va vb vc zc h0 n0 Z0 P0 P1 P2 P3 P4 P5 P6 P7 P8 P9 P10 P11) (hb hby d1_6) rfl rfl rfl (lenOf pd1 rfl) (by show 2 * 0 + _ ≤ _; exact Nat.le_of_eq rfl) (by decide) (by decide) (by decide) (by decide) (by decide) ?_
  intro T108 v108 L108 X108 q108
  obtain ⟨r_108, rfl, M108, K108, fz108_r, f108_0, f108_1, f108_2, f108_3⟩ := q108
  have N108 := Fr.app N0 M108
  have ne109 : a ≠ r_108 := Nat.ne_of_lt (Nat.lt_of_lt_of_le lt_a fz108_r)
  have ne110 : b ≠ r_108 := Nat.ne_of_lt (Nat.lt_of_lt_of_le lt_b fz108_r)
  have nw_r_108 : n0 ≤ r_108 := Nat.le_trans Z0 fz108_r
  have lt_r_108 : r_108 < T108.heap.size := f108_3.lt
  show Go p e below s _ _ _ T108 (mkF m 9 #[.val (.ref a), .val (.ref b)] [])
  exact go_ret0 X108 hx hlk hret (hb hby d1_9) (by decide) (by decide) ⟨r_108, rfl, N108, (Keep.trans (Keep.refl h0 [a]) K108 (allS (Or.inl (by simp)) all0)), (Nat.le_trans (Nat.le_refl _) fz108_r), f108_0, f108_1, f108_2, f108_3⟩
theorem d7_0 : decode jdk_42_method_152_code 0 = .ok (.getstatic 38, 3) := by decide +kernel
theorem d7_3 : decode jdk_42_method_152_code 3 = .ok (.ifCond .eq 10, 3) := by decide +kernel
theorem d7_6 : decode jdk_42_method_152_code 6 = .ok (.aload_n 0, 1) := by decide +kernel
theorem d7_7 : decode jdk_42_method_152_code 7 = .ok (.getfield 15, 3) := by decide +kernel
theorem d7_10 : decode jdk_42_method_152_code 10 = .ok (.goto 4, 3) := by decide +kernel
theorem d7_13 : decode jdk_42_method_152_code 13 = .ok (.iconst 1, 1) := by decide +kernel
theorem d7_14 : decode jdk_42_method_152_code 14 = .ok (.ireturn, 1) := by decide +kernel
theorem pn5 : plainFor (⟨"java/lang/String", "coder", "()B"⟩ : MethodName) = true := by first | (refine plainFor_of_name ?_; simp [plainName, overriddenIn]; done) | (refine plainFor_of_name ?_; decide +kernel) | decide +kernel
def fCoder  : Int32 := (0 : Int32)
theorem ef_7 (m : MethodId) (a : Addr) (zc : Int32) : entryFrame m #[(.ref a)] 1 = mkF m 0 #[.val (.ref a)] [] := by first | (simp [entryFrame, mkF, argsToLocals, Value.category]; done) | rfl
abbrev rm_7 : Room := ({ frames := 0, cells := 0, slots := 0, locals := 0 } : Room)
set_option maxRecDepth 65536 in
set_option maxHeartbeats 4000000 in
theorem met_7 (l : Launch) (Z : State) (a0 : Array Value) (hw : ∀ d ∈ tables_1, d.before a0 Z = true) (a : Addr) (zc : Int32) (h0 : Heap) (n0 : Nat) (Z0 : n0 ≤ h0.size) (P0 : Fld Z h0 a "java/lang/String" "coder" "B" (.int (0 : Int32))) (P1 : Old Z n0 h0) (P2 : Sta Z Z.heap "java/lang/String" "COMPACT_STRINGS" "Z" (.int zc)) (P3 : ¬ (zc = (0 : Int32))) :
    Met l (⟨"java/lang/String", "coder", "()B"⟩ : MethodName) jdk_42_method_152_code 1 (some FieldType.byte) [] rm_7 Z #[(.ref a)] h0 (QV (some (.int (fCoder ))) h0 n0) 0 0 := by
  refine own_body pn5 ?_
  intro p e s m below meth c s₁ ct X0 e0
  have ct0 := ct
  obtain ⟨hx, hZ, hown, hby, hml, hret, hlk, hnm⟩ := ct
  have N0 := Fr.nil n0
  refine castGo (ef_7 m a zc) ?_
  unfold fCoder
  show Go p e below s _ _ _ s₁ (mkF m 0 #[.val (.ref a)] [])
  refine go_getS X0 hx hZ hown (host := "") (Or.inl (hw _ (List.mem_of_getElem? (i := 49) rfl))) Via.refl e0 (Sta.ext P1.2 P2) (hb hby d7_0) rfl ?_
  intro T111 X111 e111
  show Go p e below s _ _ _ T111 (mkF m 3 #[.val (.ref a)] [(.int zc)])
  refine go_st (fun _ kq => XS.ifNo X111.here hx rfl (hb hby d7_3) rfl (XT.i0_eq_f P3) kq) ?_
  show Go p e below s _ _ _ T111 (mkF m 6 #[.val (.ref a)] [])
  refine go_st (fun _ kq => XS.aloadN X111.here hx rfl (hb hby d7_6) rfl rfl kq) ?_
  show Go p e below s _ _ _ T111 (mkF m 7 #[.val (.ref a)] [(.ref a)])
  refine go_getF X111 hx hZ hown (host := "") (Or.inl (hw _ (List.mem_of_getElem? (i := 25) rfl))) Via.refl e111 P0 (hb hby d7_7) rfl rfl ?_
  intro T112 X112 e112
  show Go p e below s _ _ _ T112 (mkF m 10 #[.val (.ref a)] [(.int (0 : Int32))])
  refine go_st (fun _ kq => XS.goto X112.here hx rfl (pc0 := 10) (pc' := 14) rfl (hb hby d7_10) (by decide) (by decide) kq) ?_
  show Go p e below s _ _ _ T112 (mkF m 14 #[.val (.ref a)] [(.int (0 : Int32))])
  exact go_retN (t := .byte) (w := (0 : Int32)) X112 hx hlk hret (by simp) (hb hby d7_14) (by decide +kernel) (by decide) (by decide) ⟨rfl, N0, e112⟩
theorem d6_0 : decode jdk_42_method_54_code 0 = .ok (.aload_n 0, 1) := by decide +kernel
theorem d6_1 : decode jdk_42_method_54_code 1 = .ok (.getfield 9, 3) := by decide +kernel
theorem d6_4 : decode jdk_42_method_54_code 4 = .ok (.arraylength, 1) := by decide +kernel
theorem d6_5 : decode jdk_42_method_54_code 5 = .ok (.aload_n 0, 1) := by decide +kernel
theorem d6_6 : decode jdk_42_method_54_code 6 = .ok (.invokevirtual 335, 3) := by decide +kernel
theorem d6_9 : decode jdk_42_method_54_code 9 = .ok (.ishr, 1) := by decide +kernel
theorem d6_10 : decode jdk_42_method_54_code 10 = .ok (.ireturn, 1) := by decide +kernel
theorem pn6 : plainFor (⟨"java/lang/String", "length", "()I"⟩ : MethodName) = true := by first | (refine plainFor_of_name ?_; simp [plainName, overriddenIn]; done) | (refine plainFor_of_name ?_; decide +kernel) | decide +kernel
theorem pd4 : parseMethodDescriptor "()B" = some ⟨[], (some .byte)⟩ := by decide +kernel
def fLen0  : Int32 := (0 : Int32)
theorem ef_len0 (m : MethodId) (a : Addr) (b : Addr) (fq : Nat → Value) (zc : Int32) : entryFrame m #[(.ref a)] 1 = mkF m 0 #[.val (.ref a)] [] := by first | (simp [entryFrame, mkF, argsToLocals, Value.category]; done) | rfl
abbrev rm_len0 : Room := ({ frames := 1, cells := 0, slots := 0, locals := 13 } : Room)
set_option maxRecDepth 65536 in
set_option maxHeartbeats 4000000 in
theorem met_len0 (l : Launch) (Z : State) (a0 : Array Value) (hw : ∀ d ∈ tables_1, d.before a0 Z = true) (a : Addr) (b : Addr) (fq : Nat → Value) (zc : Int32) (h0 : Heap) (n0 : Nat) (Z0 : n0 ≤ h0.size) (P0 : Exa Z h0 a "java/lang/String") (P1 : Fld Z h0 a "java/lang/String" "value" "[B" (.ref b)) (P2 : Fld Z h0 a "java/lang/String" "coder" "B" (.int (0 : Int32))) (P3 : GA Z h0 b .byte 0 fq) (P4 : Old Z n0 h0) (P5 : Sta Z Z.heap "java/lang/String" "COMPACT_STRINGS" "Z" (.int zc)) (P6 : ¬ (zc = (0 : Int32))) :
    Met l (⟨"java/lang/String", "length", "()I"⟩ : MethodName) jdk_42_method_54_code 1 (some FieldType.int) [] rm_len0 Z #[(.ref a)] h0 (QV (some (.int (fLen0 ))) h0 n0) 0 0 := by
  refine own_body pn6 ?_
  intro p e s m below meth c s₁ ct X0 e0
  have ct0 := ct
  obtain ⟨hx, hZ, hown, hby, hml, hret, hlk, hnm⟩ := ct
  have N0 := Fr.nil n0
  refine castGo (ef_len0 m a b fq zc) ?_
  unfold fLen0
  show Go p e below s _ _ _ s₁ (mkF m 0 #[.val (.ref a)] [])
  refine go_st (fun _ kq => XS.aloadN X0.here hx rfl (hb hby d6_0) rfl rfl kq) ?_
  show Go p e below s _ _ _ s₁ (mkF m 1 #[.val (.ref a)] [(.ref a)])
  refine go_getF X0 hx hZ hown (host := "") (Or.inl (hw _ (List.mem_of_getElem? (i := 24) rfl))) Via.refl e0 P1 (hb hby d6_1) rfl rfl ?_
  intro T113 X113 e113
  show Go p e below s _ _ _ T113 (mkF m 4 #[.val (.ref a)] [(.ref b)])
  refine go_alen X113 hx hZ e113 P3 (hb hby d6_4) rfl rfl (0 : Int32) (by decide) ?_
  show Go p e below s _ _ _ T113 (mkF m 5 #[.val (.ref a)] [(.int (0 : Int32))])
  refine go_st (fun _ kq => XS.aloadN X113.here hx rfl (hb hby d6_5) rfl rfl kq) ?_
  show Go p e below s _ _ _ T113 (mkF m 6 #[.val (.ref a)] [(.ref a), (.int (0 : Int32))])
  refine go_callV X113 hx hZ hml hown (hw _ (List.mem_of_getElem? (i := 44) rfl)) (hw _ (List.mem_of_getElem? (i := 45) rfl)) (notFace_of_selects (args := #[]) (mvT hZ (hw _ (List.mem_of_getElem? (i := 47) rfl)))) (hw _ (List.mem_of_getElem? (i := 47) rfl)) (hw _ (List.mem_of_getElem? (i := 46) rfl)) (hw _ (List.mem_of_getElem? (i := 48) rfl)) (hw _ (List.mem_of_getElem? (i := 7) rfl)) e113 P0 (argsL := []) (rest := [(.int (0 : Int32))]) (W := 1) (met_7 l Z a0 hw a zc h0 n0 Z0 P2 P4 P5 P6) (hb hby d6_6) rfl rfl rfl (lenOf pd4 rfl) (by show 2 * 0 + _ ≤ _; exact Nat.le_of_eq rfl) (by decide) (by decide) (by decide) (by decide) (by decide) ?_
  intro T114 v114 L114 X114 q114
  obtain ⟨rfl, M114, e114⟩ := q114
  have N114 := Fr.app N0 M114
  show Go p e below s _ _ _ T114 (mkF m 9 #[.val (.ref a)] [(.int (0 : Int32)), (.int (0 : Int32))])
  refine go_st (fun _ kq => XT.ishr X114.here hx rfl (hb hby d6_9) rfl kq) ?_
  rw [show ((0 : Int32) >>> ((0 : Int32) &&& 31)) = (0 : Int32) from by decide +kernel]
  show Go p e below s _ _ _ T114 (mkF m 10 #[.val (.ref a)] [(.int (0 : Int32))])
  exact go_retI X114 hx hlk hret (hb hby d6_10) (by decide) (by decide) ⟨rfl, N114, e114⟩
def fLen1  : Int32 := (1 : Int32)
theorem ef_len1 (m : MethodId) (a : Addr) (b : Addr) (fq : Nat → Value) (zc : Int32) : entryFrame m #[(.ref a)] 1 = mkF m 0 #[.val (.ref a)] [] := by first | (simp [entryFrame, mkF, argsToLocals, Value.category]; done) | rfl
abbrev rm_len1 : Room := ({ frames := 1, cells := 0, slots := 0, locals := 13 } : Room)
set_option maxRecDepth 65536 in
set_option maxHeartbeats 4000000 in
theorem met_len1 (l : Launch) (Z : State) (a0 : Array Value) (hw : ∀ d ∈ tables_1, d.before a0 Z = true) (a : Addr) (b : Addr) (fq : Nat → Value) (zc : Int32) (h0 : Heap) (n0 : Nat) (Z0 : n0 ≤ h0.size) (P0 : Exa Z h0 a "java/lang/String") (P1 : Fld Z h0 a "java/lang/String" "value" "[B" (.ref b)) (P2 : Fld Z h0 a "java/lang/String" "coder" "B" (.int (0 : Int32))) (P3 : GA Z h0 b .byte 1 fq) (P4 : Old Z n0 h0) (P5 : Sta Z Z.heap "java/lang/String" "COMPACT_STRINGS" "Z" (.int zc)) (P6 : ¬ (zc = (0 : Int32))) :
    Met l (⟨"java/lang/String", "length", "()I"⟩ : MethodName) jdk_42_method_54_code 1 (some FieldType.int) [] rm_len1 Z #[(.ref a)] h0 (QV (some (.int (fLen1 ))) h0 n0) 0 0 := by
  refine own_body pn6 ?_
  intro p e s m below meth c s₁ ct X0 e0
  have ct0 := ct
  obtain ⟨hx, hZ, hown, hby, hml, hret, hlk, hnm⟩ := ct
  have N0 := Fr.nil n0
  refine castGo (ef_len1 m a b fq zc) ?_
  unfold fLen1
  show Go p e below s _ _ _ s₁ (mkF m 0 #[.val (.ref a)] [])
  refine go_st (fun _ kq => XS.aloadN X0.here hx rfl (hb hby d6_0) rfl rfl kq) ?_
  show Go p e below s _ _ _ s₁ (mkF m 1 #[.val (.ref a)] [(.ref a)])
  refine go_getF X0 hx hZ hown (host := "") (Or.inl (hw _ (List.mem_of_getElem? (i := 24) rfl))) Via.refl e0 P1 (hb hby d6_1) rfl rfl ?_
  intro T115 X115 e115
  show Go p e below s _ _ _ T115 (mkF m 4 #[.val (.ref a)] [(.ref b)])
  refine go_alen X115 hx hZ e115 P3 (hb hby d6_4) rfl rfl (1 : Int32) (by decide) ?_
  show Go p e below s _ _ _ T115 (mkF m 5 #[.val (.ref a)] [(.int (1 : Int32))])
  refine go_st (fun _ kq => XS.aloadN X115.here hx rfl (hb hby d6_5) rfl rfl kq) ?_
  show Go p e below s _ _ _ T115 (mkF m 6 #[.val (.ref a)] [(.ref a), (.int (1 : Int32))])
  refine go_callV X115 hx hZ hml hown (hw _ (List.mem_of_getElem? (i := 44) rfl)) (hw _ (List.mem_of_getElem? (i := 45) rfl)) (notFace_of_selects (args := #[]) (mvT hZ (hw _ (List.mem_of_getElem? (i := 47) rfl)))) (hw _ (List.mem_of_getElem? (i := 47) rfl)) (hw _ (List.mem_of_getElem? (i := 46) rfl)) (hw _ (List.mem_of_getElem? (i := 48) rfl)) (hw _ (List.mem_of_getElem? (i := 7) rfl)) e115 P0 (argsL := []) (rest := [(.int (1 : Int32))]) (W := 1) (met_7 l Z a0 hw a zc h0 n0 Z0 P2 P4 P5 P6) (hb hby d6_6) rfl rfl rfl (lenOf pd4 rfl) (by show 2 * 0 + _ ≤ _; exact Nat.le_of_eq rfl) (by decide) (by decide) (by decide) (by decide) (by decide) ?_
  intro T116 v116 L116 X116 q116
  obtain ⟨rfl, M116, e116⟩ := q116
  have N116 := Fr.app N0 M116
  show Go p e below s _ _ _ T116 (mkF m 9 #[.val (.ref a)] [(.int (0 : Int32)), (.int (1 : Int32))])
  refine go_st (fun _ kq => XT.ishr X116.here hx rfl (hb hby d6_9) rfl kq) ?_
  rw [show ((1 : Int32) >>> ((0 : Int32) &&& 31)) = (1 : Int32) from by decide +kernel]
  show Go p e below s _ _ _ T116 (mkF m 10 #[.val (.ref a)] [(.int (1 : Int32))])
  exact go_retI X116 hx hlk hret (hb hby d6_10) (by decide) (by decide) ⟨rfl, N116, e116⟩
def fLen2  : Int32 := (2 : Int32)
theorem ef_len2 (m : MethodId) (a : Addr) (b : Addr) (fq : Nat → Value) (zc : Int32) : entryFrame m #[(.ref a)] 1 = mkF m 0 #[.val (.ref a)] [] := by first | (simp [entryFrame, mkF, argsToLocals, Value.category]; done) | rfl
abbrev rm_len2 : Room := ({ frames := 1, cells := 0, slots := 0, locals := 13 } : Room)
set_option maxRecDepth 65536 in
set_option maxHeartbeats 4000000 in
theorem met_len2 (l : Launch) (Z : State) (a0 : Array Value) (hw : ∀ d ∈ tables_1, d.before a0 Z = true) (a : Addr) (b : Addr) (fq : Nat → Value) (zc : Int32) (h0 : Heap) (n0 : Nat) (Z0 : n0 ≤ h0.size) (P0 : Exa Z h0 a "java/lang/String") (P1 : Fld Z h0 a "java/lang/String" "value" "[B" (.ref b)) (P2 : Fld Z h0 a "java/lang/String" "coder" "B" (.int (0 : Int32))) (P3 : GA Z h0 b .byte 2 fq) (P4 : Old Z n0 h0) (P5 : Sta Z Z.heap "java/lang/String" "COMPACT_STRINGS" "Z" (.int zc)) (P6 : ¬ (zc = (0 : Int32))) :
    Met l (⟨"java/lang/String", "length", "()I"⟩ : MethodName) jdk_42_method_54_code 1 (some FieldType.int) [] rm_len2 Z #[(.ref a)] h0 (QV (some (.int (fLen2 ))) h0 n0) 0 0 := by
  refine own_body pn6 ?_
  intro p e s m below meth c s₁ ct X0 e0
  have ct0 := ct
  obtain ⟨hx, hZ, hown, hby, hml, hret, hlk, hnm⟩ := ct
  have N0 := Fr.nil n0
  refine castGo (ef_len2 m a b fq zc) ?_
  unfold fLen2
  show Go p e below s _ _ _ s₁ (mkF m 0 #[.val (.ref a)] [])
  refine go_st (fun _ kq => XS.aloadN X0.here hx rfl (hb hby d6_0) rfl rfl kq) ?_
  show Go p e below s _ _ _ s₁ (mkF m 1 #[.val (.ref a)] [(.ref a)])
  refine go_getF X0 hx hZ hown (host := "") (Or.inl (hw _ (List.mem_of_getElem? (i := 24) rfl))) Via.refl e0 P1 (hb hby d6_1) rfl rfl ?_
  intro T117 X117 e117
  show Go p e below s _ _ _ T117 (mkF m 4 #[.val (.ref a)] [(.ref b)])
  refine go_alen X117 hx hZ e117 P3 (hb hby d6_4) rfl rfl (2 : Int32) (by decide) ?_
  show Go p e below s _ _ _ T117 (mkF m 5 #[.val (.ref a)] [(.int (2 : Int32))])
  refine go_st (fun _ kq => XS.aloadN X117.here hx rfl (hb hby d6_5) rfl rfl kq) ?_
  show Go p e below s _ _ _ T117 (mkF m 6 #[.val (.ref a)] [(.ref a), (.int (2 : Int32))])
  refine go_callV X117 hx hZ hml hown (hw _ (List.mem_of_getElem? (i := 44) rfl)) (hw _ (List.mem_of_getElem? (i := 45) rfl)) (notFace_of_selects (args := #[]) (mvT hZ (hw _ (List.mem_of_getElem? (i := 47) rfl)))) (hw _ (List.mem_of_getElem? (i := 47) rfl)) (hw _ (List.mem_of_getElem? (i := 46) rfl)) (hw _ (List.mem_of_getElem? (i := 48) rfl)) (hw _ (List.mem_of_getElem? (i := 7) rfl)) e117 P0 (argsL := []) (rest := [(.int (2 : Int32))]) (W := 1) (met_7 l Z a0 hw a zc h0 n0 Z0 P2 P4 P5 P6) (hb hby d6_6) rfl rfl rfl (lenOf pd4 rfl) (by show 2 * 0 + _ ≤ _; exact Nat.le_of_eq rfl) (by decide) (by decide) (by decide) (by decide) (by decide) ?_
  intro T118 v118 L118 X118 q118
  obtain ⟨rfl, M118, e118⟩ := q118
  have N118 := Fr.app N0 M118
  show Go p e below s _ _ _ T118 (mkF m 9 #[.val (.ref a)] [(.int (0 : Int32)), (.int (2 : Int32))])
  refine go_st (fun _ kq => XT.ishr X118.here hx rfl (hb hby d6_9) rfl kq) ?_
  rw [show ((2 : Int32) >>> ((0 : Int32) &&& 31)) = (2 : Int32) from by decide +kernel]
  show Go p e below s _ _ _ T118 (mkF m 10 #[.val (.ref a)] [(.int (2 : Int32))])
  exact go_retI X118 hx hlk hret (hb hby d6_10) (by decide) (by decide) ⟨rfl, N118, e118⟩
def fLen3  : Int32 := (3 : Int32)
theorem ef_len3 (m : MethodId) (a : Addr) (b : Addr) (fq : Nat → Value) (zc : Int32) : entryFrame m #[(.ref a)] 1 = mkF m 0 #[.val (.ref a)] [] := by first | (simp [entryFrame, mkF, argsToLocals, Value.category]; done) | rfl
abbrev rm_len3 : Room := ({ frames := 1, cells := 0, slots := 0, locals := 13 } : Room)
set_option maxRecDepth 65536 in
set_option maxHeartbeats 4000000 in
theorem met_len3 (l : Launch) (Z : State) (a0 : Array Value) (hw : ∀ d ∈ tables_1, d.before a0 Z = true) (a : Addr) (b : Addr) (fq : Nat → Value) (zc : Int32) (h0 : Heap) (n0 : Nat) (Z0 : n0 ≤ h0.size) (P0 : Exa Z h0 a "java/lang/String") (P1 : Fld Z h0 a "java/lang/String" "value" "[B" (.ref b)) (P2 : Fld Z h0 a "java/lang/String" "coder" "B" (.int (0 : Int32))) (P3 : GA Z h0 b .byte 3 fq) (P4 : Old Z n0 h0) (P5 : Sta Z Z.heap "java/lang/String" "COMPACT_STRINGS" "Z" (.int zc)) (P6 : ¬ (zc = (0 : Int32))) :
    Met l (⟨"java/lang/String", "length", "()I"⟩ : MethodName) jdk_42_method_54_code 1 (some FieldType.int) [] rm_len3 Z #[(.ref a)] h0 (QV (some (.int (fLen3 ))) h0 n0) 0 0 := by
  refine own_body pn6 ?_
  intro p e s m below meth c s₁ ct X0 e0
  have ct0 := ct
  obtain ⟨hx, hZ, hown, hby, hml, hret, hlk, hnm⟩ := ct
  have N0 := Fr.nil n0
  refine castGo (ef_len3 m a b fq zc) ?_
  unfold fLen3
  show Go p e below s _ _ _ s₁ (mkF m 0 #[.val (.ref a)] [])
  refine go_st (fun _ kq => XS.aloadN X0.here hx rfl (hb hby d6_0) rfl rfl kq) ?_
  show Go p e below s _ _ _ s₁ (mkF m 1 #[.val (.ref a)] [(.ref a)])
  refine go_getF X0 hx hZ hown (host := "") (Or.inl (hw _ (List.mem_of_getElem? (i := 24) rfl))) Via.refl e0 P1 (hb hby d6_1) rfl rfl ?_
  intro T119 X119 e119
  show Go p e below s _ _ _ T119 (mkF m 4 #[.val (.ref a)] [(.ref b)])
  refine go_alen X119 hx hZ e119 P3 (hb hby d6_4) rfl rfl (3 : Int32) (by decide) ?_
  show Go p e below s _ _ _ T119 (mkF m 5 #[.val (.ref a)] [(.int (3 : Int32))])
  refine go_st (fun _ kq => XS.aloadN X119.here hx rfl (hb hby d6_5) rfl rfl kq) ?_
  show Go p e below s _ _ _ T119 (mkF m 6 #[.val (.ref a)] [(.ref a), (.int (3 : Int32))])
  refine go_callV X119 hx hZ hml hown (hw _ (List.mem_of_getElem? (i := 44) rfl)) (hw _ (List.mem_of_getElem? (i := 45) rfl)) (notFace_of_selects (args := #[]) (mvT hZ (hw _ (List.mem_of_getElem? (i := 47) rfl)))) (hw _ (List.mem_of_getElem? (i := 47) rfl)) (hw _ (List.mem_of_getElem? (i := 46) rfl)) (hw _ (List.mem_of_getElem? (i := 48) rfl)) (hw _ (List.mem_of_getElem? (i := 7) rfl)) e119 P0 (argsL := []) (rest := [(.int (3 : Int32))]) (W := 1) (met_7 l Z a0 hw a zc h0 n0 Z0 P2 P4 P5 P6) (hb hby d6_6) rfl rfl rfl (lenOf pd4 rfl) (by show 2 * 0 + _ ≤ _; exact Nat.le_of_eq rfl) (by decide) (by decide) (by decide) (by decide) (by decide) ?_
  intro T120 v120 L120 X120 q120
  obtain ⟨rfl, M120, e120⟩ := q120
  have N120 := Fr.app N0 M120
  show Go p e below s _ _ _ T120 (mkF m 9 #[.val (.ref a)] [(.int (0 : Int32)), (.int (3 : Int32))])
  refine go_st (fun _ kq => XT.ishr X120.here hx rfl (hb hby d6_9) rfl kq) ?_
  rw [show ((3 : Int32) >>> ((0 : Int32) &&& 31)) = (3 : Int32) from by decide +kernel]
  show Go p e below s _ _ _ T120 (mkF m 10 #[.val (.ref a)] [(.int (3 : Int32))])
  exact go_retI X120 hx hlk hret (hb hby d6_10) (by decide) (by decide) ⟨rfl, N120, e120⟩
theorem d4_0 : decode prog_21_method_1_code 0 = .ok (.aload_n 0, 1) := by decide +kernel
theorem d4_1 : decode prog_21_method_1_code 1 = .ok (.invokespecial 1, 3) := by decide +kernel
theorem d4_4 : decode prog_21_method_1_code 4 = .ok (.aload_n 0, 1) := by decide +kernel
theorem d4_5 : decode prog_21_method_1_code 5 = .ok (.aload_n 1, 1) := by decide +kernel
theorem d4_6 : decode prog_21_method_1_code 6 = .ok (.putfield 7, 3) := by decide +kernel
theorem d4_9 : decode prog_21_method_1_code 9 = .ok (.return_, 1) := by decide +kernel
theorem pn7 : plainFor (⟨"com/example/wirecall/wirecall/TextCursor", "<init>", "(Ljava/lang/String;)V"⟩ : MethodName) = true := by first | (refine plainFor_of_name ?_; simp [plainName, overriddenIn]; done) | (refine plainFor_of_name ?_; decide +kernel) | decide +kernel
def Q_tci (Z : State) (a : Addr) (t : Addr) (h0 : Heap) (n0 : Nat) (v : Option Value) (h : Heap) (L : List Loc) : Prop := v = none ∧ Fr n0 L ∧ Keep h0 h [a] ∧ Fld Z h a "com/example/wirecall/wirecall/TextCursor" "text" "Ljava/lang/String;" (.ref t) ∧ Fld Z h a "com/example/wirecall/wirecall/TextCursor" "pos" "I" (.int (0 : Int32))
theorem ef_tci (m : MethodId) (a : Addr) (t : Addr) : entryFrame m #[(.ref a), (.ref t)] 2 = mkF m 0 #[.val (.ref a), .val (.ref t)] [] := by first | (simp [entryFrame, mkF, argsToLocals, Value.category]; done) | rfl
abbrev rm_tci : Room := ({ frames := 1, cells := 0, slots := 0, locals := 12 } : Room)
set_option maxRecDepth 65536 in
set_option maxHeartbeats 4000000 in
theorem met_tci (l : Launch) (Z : State) (a0 : Array Value) (hw : ∀ d ∈ tables_1, d.before a0 Z = true) (a : Addr) (t : Addr) (h0 : Heap) (n0 : Nat) (Z0 : n0 ≤ h0.size) (P0 : Exa Z h0 a "com/example/wirecall/wirecall/TextCursor") (P1 : Fld Z h0 a "com/example/wirecall/wirecall/TextCursor" "text" "Ljava/lang/String;" .null) (P2 : Fld Z h0 a "com/example/wirecall/wirecall/TextCursor" "pos" "I" (.int (0 : Int32))) (P3 : n0 ≤ a) :
    Met l (⟨"com/example/wirecall/wirecall/TextCursor", "<init>", "(Ljava/lang/String;)V"⟩ : MethodName) prog_21_method_1_code 2 none [] rm_tci Z #[(.ref a), (.ref t)] h0 (Q_tci Z a t h0 n0) rm_tci.cells rm_tci.slots := by
  refine own_body pn7 ?_
  intro p e s m below meth c s₁ ct X0 e0
  have ct0 := ct
  obtain ⟨hx, hZ, hown, hby, hml, hret, hlk, hnm⟩ := ct
  have lt_a : a < h0.size := P0.lt
  have N0 := Fr.nil n0
  refine castGo (ef_tci m a t) ?_
  show Go p e below s _ _ _ s₁ (mkF m 0 #[.val (.ref a), .val (.ref t)] [])
  refine go_st (fun _ kq => XS.aloadN X0.here hx rfl (hb hby d4_0) rfl rfl kq) ?_
  show Go p e below s _ _ _ s₁ (mkF m 1 #[.val (.ref a), .val (.ref t)] [(.ref a)])
  refine go_initO X0 hx hZ hml hown (hw _ (List.mem_of_getElem? (i := 29) rfl)) (hw _ (List.mem_of_getElem? (i := 16) rfl)) (hw _ (List.mem_of_getElem? (i := 17) rfl)) e0 (hb hby d4_1) rfl rfl rfl (by decide) (W := 0) (by show 2 * 0 + _ ≤ _; exact Nat.le_of_eq rfl) (by decide) ?_
  intro T121 X121 e121
  show Go p e below s _ _ _ T121 (mkF m 4 #[.val (.ref a), .val (.ref t)] [])
  refine go_st (fun _ kq => XS.aloadN X121.here hx rfl (hb hby d4_4) rfl rfl kq) ?_
  show Go p e below s _ _ _ T121 (mkF m 5 #[.val (.ref a), .val (.ref t)] [(.ref a)])
  refine go_st (fun _ kq => XS.aloadN X121.here hx rfl (hb hby d4_5) rfl rfl kq) ?_
  show Go p e below s _ _ _ T121 (mkF m 6 #[.val (.ref a), .val (.ref t)] [(.ref t), (.ref a)])
  refine go_putF X121 hx hZ hown (host := "") (Or.inl (hw _ (List.mem_of_getElem? (i := 30) rfl))) Via.refl e121 P1 P0 (Or.inr ⟨(hw _ (List.mem_of_getElem? (i := 31) rfl)), rfl, hnm⟩) (hw _ (List.mem_of_getElem? (i := 3) rfl)) (ty := (.object "java/lang/String")) (by decide) rfl rfl (hb hby d4_6) rfl rfl ?_
  intro T122 h122 X122 e122 W122
  have N122 := Fr.snoc X122 N0 P3
  have F122 : Fld Z h122 a "com/example/wirecall/wirecall/TextCursor" "text" "Ljava/lang/String;" (.ref t) := Fld.same W122 P1
  show Go p e below s _ _ _ T122 (mkF m 9 #[.val (.ref a), .val (.ref t)] [])
  have c123 := Fld.other W122 P2 (Or.inr (slot_ne (a0 := a0) (t := .int) (t' := (.object "java/lang/String")) (Or.inl (hw _ (List.mem_of_getElem? (i := 38) rfl))) (Or.inr (hw _ (List.mem_of_getElem? (i := 31) rfl))) (by decide) (by decide) (by decide)))
  exact go_ret0 X122 hx hlk hret (hb hby d4_9) (by decide) (by decide) (by rw [e122]; exact ⟨rfl, N122, (Keep.wr (Keep.refl h0 [a]) W122 (Or.inl (by simp))), F122, c123⟩)
theorem d8_0 : decode prog_21_method_2_code 0 = .ok (.aload_n 0, 1) := by decide +kernel
theorem d8_1 : decode prog_21_method_2_code 1 = .ok (.getfield 13, 3) := by decide +kernel
theorem d8_4 : decode prog_21_method_2_code 4 = .ok (.ireturn, 1) := by decide +kernel
theorem pn8 : plainFor (⟨"com/example/wirecall/wirecall/TextCursor", "offset", "()I"⟩ : MethodName) = true := by first | (refine plainFor_of_name ?_; simp [plainName, overriddenIn]; done) | (refine plainFor_of_name ?_; decide +kernel) | decide +kernel
def fOff (q : Int32) : Int32 := q
theorem ef_8 (m : MethodId) (a : Addr) (q : Int32) : entryFrame m #[(.ref a)] 1 = mkF m 0 #[.val (.ref a)] [] := by first | (simp [entryFrame, mkF, argsToLocals, Value.category]; done) | rfl
abbrev rm_8 : Room := ({ frames := 0, cells := 0, slots := 0, locals := 0 } : Room)
set_option maxRecDepth 65536 in
set_option maxHeartbeats 4000000 in
theorem met_8 (l : Launch) (Z : State) (a0 : Array Value) (hw : ∀ d ∈ tables_1, d.before a0 Z = true) (a : Addr) (q : Int32) (h0 : Heap) (n0 : Nat) (Z0 : n0 ≤ h0.size) (P0 : Fld Z h0 a "com/example/wirecall/wirecall/TextCursor" "pos" "I" (.int q)) :
    Met l (⟨"com/example/wirecall/wirecall/TextCursor", "offset", "()I"⟩ : MethodName) prog_21_method_2_code 1 (some FieldType.int) [] rm_8 Z #[(.ref a)] h0 (QV (some (.int (fOff q))) h0 n0) 0 0 := by
  refine own_body pn8 ?_
  intro p e s m below meth c s₁ ct X0 e0
  have ct0 := ct
  obtain ⟨hx, hZ, hown, hby, hml, hret, hlk, hnm⟩ := ct
  have N0 := Fr.nil n0
  refine castGo (ef_8 m a q) ?_
  unfold fOff
  show Go p e below s _ _ _ s₁ (mkF m 0 #[.val (.ref a)] [])
  refine go_st (fun _ kq => XS.aloadN X0.here hx rfl (hb hby d8_0) rfl rfl kq) ?_
  show Go p e below s _ _ _ s₁ (mkF m 1 #[.val (.ref a)] [(.ref a)])
  refine go_getF X0 hx hZ hown (host := "") (Or.inl (hw _ (List.mem_of_getElem? (i := 37) rfl))) Via.refl e0 P0 (hb hby d8_1) rfl rfl ?_
  intro T124 X124 e124
  show Go p e below s _ _ _ T124 (mkF m 4 #[.val (.ref a)] [(.int q)])
  exact go_retI X124 hx hlk hret (hb hby d8_4) (by decide) (by decide) ⟨rfl, N0, e124⟩
theorem d12_0 : decode prog_21_method_6_code 0 = .ok (.aload_n 0, 1) := by decide +kernel
theorem d12_1 : decode prog_21_method_6_code 1 = .ok (.dup, 1) := by decide +kernel
theorem d12_2 : decode prog_21_method_6_code 2 = .ok (.getfield 13, 3) := by decide +kernel
theorem d12_5 : decode prog_21_method_6_code 5 = .ok (.iconst 1, 1) := by decide +kernel
theorem d12_6 : decode prog_21_method_6_code 6 = .ok (.iadd, 1) := by decide +kernel
theorem d12_7 : decode prog_21_method_6_code 7 = .ok (.putfield 13, 3) := by decide +kernel
theorem d12_10 : decode prog_21_method_6_code 10 = .ok (.return_, 1) := by decide +kernel
theorem pn9 : plainFor (⟨"com/example/wirecall/wirecall/TextCursor", "skip", "()V"⟩ : MethodName) = true := by first | (refine plainFor_of_name ?_; simp [plainName, overriddenIn]; done) | (refine plainFor_of_name ?_; decide +kernel) | decide +kernel
def Q_sk0 (Z : State) (a : Addr) (t : Addr) (h0 : Heap) (n0 : Nat) (v : Option Value) (h : Heap) (L : List Loc) : Prop := v = none ∧ Fr n0 L ∧ Keep h0 h [a] ∧ Fld Z h a "com/example/wirecall/wirecall/TextCursor" "text" "Ljava/lang/String;" (.ref t) ∧ Fld Z h a "com/example/wirecall/wirecall/TextCursor" "pos" "I" (.int (1 : Int32))
theorem ef_sk0 (m : MethodId) (a : Addr) (t : Addr) : entryFrame m #[(.ref a)] 1 = mkF m 0 #[.val (.ref a)] [] := by first | (simp [entryFrame, mkF, argsToLocals, Value.category]; done) | rfl
abbrev rm_sk0 : Room := ({ frames := 0, cells := 0, slots := 0, locals := 0 } : Room)
set_option maxRecDepth 65536 in
set_option maxHeartbeats 4000000 in
theorem met_sk0 (l : Launch) (Z : State) (a0 : Array Value) (hw : ∀ d ∈ tables_1, d.before a0 Z = true) (a : Addr) (t : Addr) (h0 : Heap) (n0 : Nat) (Z0 : n0 ≤ h0.size) (P0 : Exa Z h0 a "com/example/wirecall/wirecall/TextCursor") (P1 : Fld Z h0 a "com/example/wirecall/wirecall/TextCursor" "text" "Ljava/lang/String;" (.ref t)) (P2 : Fld Z h0 a "com/example/wirecall/wirecall/TextCursor" "pos" "I" (.int (0 : Int32))) (P3 : n0 ≤ a) :
    Met l (⟨"com/example/wirecall/wirecall/TextCursor", "skip", "()V"⟩ : MethodName) prog_21_method_6_code 1 none [] rm_sk0 Z #[(.ref a)] h0 (Q_sk0 Z a t h0 n0) rm_sk0.cells rm_sk0.slots := by
  refine own_body pn9 ?_
  intro p e s m below meth c s₁ ct X0 e0
  have ct0 := ct
  obtain ⟨hx, hZ, hown, hby, hml, hret, hlk, hnm⟩ := ct
  have lt_a : a < h0.size := P0.lt
  have N0 := Fr.nil n0
  refine castGo (ef_sk0 m a t) ?_
  show Go p e below s _ _ _ s₁ (mkF m 0 #[.val (.ref a)] [])
  refine go_st (fun _ kq => XS.aloadN X0.here hx rfl (hb hby d12_0) rfl rfl kq) ?_
  show Go p e below s _ _ _ s₁ (mkF m 1 #[.val (.ref a)] [(.ref a)])
  refine go_st (fun _ kq => XS.dup X0.here hx rfl (hb hby d12_1) rfl rfl kq) ?_
  show Go p e below s _ _ _ s₁ (mkF m 2 #[.val (.ref a)] [(.ref a), (.ref a)])
  refine go_getF X0 hx hZ hown (host := "") (Or.inl (hw _ (List.mem_of_getElem? (i := 37) rfl))) Via.refl e0 P2 (hb hby d12_2) rfl rfl ?_
  intro T125 X125 e125
  show Go p e below s _ _ _ T125 (mkF m 5 #[.val (.ref a)] [(.int (0 : Int32)), (.ref a)])
  refine go_st (fun _ kq => XT.iconstV X125.here hx rfl (1 : Int32) (hb hby d12_5) (by decide) kq) ?_
  show Go p e below s _ _ _ T125 (mkF m 6 #[.val (.ref a)] [(.int (1 : Int32)), (.int (0 : Int32)), (.ref a)])
  refine go_st (fun _ kq => XS.iadd X125.here hx rfl (hb hby d12_6) rfl kq) ?_
  rw [show ((0 : Int32) + (1 : Int32)) = (1 : Int32) from by decide +kernel]
  show Go p e below s _ _ _ T125 (mkF m 7 #[.val (.ref a)] [(.int (1 : Int32)), (.ref a)])
  refine go_putF X125 hx hZ hown (host := "") (Or.inl (hw _ (List.mem_of_getElem? (i := 37) rfl))) Via.refl e125 P2 P0 (Or.inl (hw _ (List.mem_of_getElem? (i := 38) rfl))) (hw _ (List.mem_of_getElem? (i := 3) rfl)) (ty := .int) (by decide) rfl rfl (hb hby d12_7) rfl rfl ?_
  intro T126 h126 X126 e126 W126
  have N126 := Fr.snoc X126 N0 P3
  have F126 : Fld Z h126 a "com/example/wirecall/wirecall/TextCursor" "pos" "I" (.int (1 : Int32)) := Fld.same W126 P2
  show Go p e below s _ _ _ T126 (mkF m 10 #[.val (.ref a)] [])
  have c127 := Fld.other W126 P1 (Or.inr (slot_ne (a0 := a0) (t := (.object "java/lang/String")) (t' := .int) (Or.inr (hw _ (List.mem_of_getElem? (i := 31) rfl))) (Or.inl (hw _ (List.mem_of_getElem? (i := 38) rfl))) (by decide) (by decide) (by decide)))
  exact go_ret0 X126 hx hlk hret (hb hby d12_10) (by decide) (by decide) (by rw [e126]; exact ⟨rfl, N126, (Keep.wr (Keep.refl h0 [a]) W126 (Or.inl (by simp))), c127, F126⟩)
def Q_sk1 (Z : State) (a : Addr) (t : Addr) (h0 : Heap) (n0 : Nat) (v : Option Value) (h : Heap) (L : List Loc) : Prop := v = none ∧ Fr n0 L ∧ Keep h0 h [a] ∧ Fld Z h a "com/example/wirecall/wirecall/TextCursor" "text" "Ljava/lang/String;" (.ref t) ∧ Fld Z h a "com/example/wirecall/wirecall/TextCursor" "pos" "I" (.int (2 : Int32))
theorem ef_sk1 (m : MethodId) (a : Addr) (t : Addr) : entryFrame m #[(.ref a)] 1 = mkF m 0 #[.val (.ref a)] [] := by first | (simp [entryFrame, mkF, argsToLocals, Value.category]; done) | rfl
abbrev rm_sk1 : Room := ({ frames := 0, cells := 0, slots := 0, locals := 0 } : Room)
set_option maxRecDepth 65536 in
set_option maxHeartbeats 4000000 in
theorem met_sk1 (l : Launch) (Z : State) (a0 : Array Value) (hw : ∀ d ∈ tables_1, d.before a0 Z = true) (a : Addr) (t : Addr) (h0 : Heap) (n0 : Nat) (Z0 : n0 ≤ h0.size) (P0 : Exa Z h0 a "com/example/wirecall/wirecall/TextCursor") (P1 : Fld Z h0 a "com/example/wirecall/wirecall/TextCursor" "text" "Ljava/lang/String;" (.ref t)) (P2 : Fld Z h0 a "com/example/wirecall/wirecall/TextCursor" "pos" "I" (.int (1 : Int32))) (P3 : n0 ≤ a) :
    Met l (⟨"com/example/wirecall/wirecall/TextCursor", "skip", "()V"⟩ : MethodName) prog_21_method_6_code 1 none [] rm_sk1 Z #[(.ref a)] h0 (Q_sk1 Z a t h0 n0) rm_sk1.cells rm_sk1.slots := by
  refine own_body pn9 ?_
  intro p e s m below meth c s₁ ct X0 e0
  have ct0 := ct
  obtain ⟨hx, hZ, hown, hby, hml, hret, hlk, hnm⟩ := ct
  have lt_a : a < h0.size := P0.lt
  have N0 := Fr.nil n0
  refine castGo (ef_sk1 m a t) ?_
  show Go p e below s _ _ _ s₁ (mkF m 0 #[.val (.ref a)] [])
  refine go_st (fun _ kq => XS.aloadN X0.here hx rfl (hb hby d12_0) rfl rfl kq) ?_
  show Go p e below s _ _ _ s₁ (mkF m 1 #[.val (.ref a)] [(.ref a)])
  refine go_st (fun _ kq => XS.dup X0.here hx rfl (hb hby d12_1) rfl rfl kq) ?_
  show Go p e below s _ _ _ s₁ (mkF m 2 #[.val (.ref a)] [(.ref a), (.ref a)])
  refine go_getF X0 hx hZ hown (host := "") (Or.inl (hw _ (List.mem_of_getElem? (i := 37) rfl))) Via.refl e0 P2 (hb hby d12_2) rfl rfl ?_
  intro T128 X128 e128
  show Go p e below s _ _ _ T128 (mkF m 5 #[.val (.ref a)] [(.int (1 : Int32)), (.ref a)])
  refine go_st (fun _ kq => XT.iconstV X128.here hx rfl (1 : Int32) (hb hby d12_5) (by decide) kq) ?_
  show Go p e below s _ _ _ T128 (mkF m 6 #[.val (.ref a)] [(.int (1 : Int32)), (.int (1 : Int32)), (.ref a)])
  refine go_st (fun _ kq => XS.iadd X128.here hx rfl (hb hby d12_6) rfl kq) ?_
  rw [show ((1 : Int32) + (1 : Int32)) = (2 : Int32) from by decide +kernel]
  show Go p e below s _ _ _ T128 (mkF m 7 #[.val (.ref a)] [(.int (2 : Int32)), (.ref a)])
  refine go_putF X128 hx hZ hown (host := "") (Or.inl (hw _ (List.mem_of_getElem? (i := 37) rfl))) Via.refl e128 P2 P0 (Or.inl (hw _ (List.mem_of_getElem? (i := 38) rfl))) (hw _ (List.mem_of_getElem? (i := 3) rfl)) (ty := .int) (by decide) rfl rfl (hb hby d12_7) rfl rfl ?_
  intro T129 h129 X129 e129 W129
  have N129 := Fr.snoc X129 N0 P3
  have F129 : Fld Z h129 a "com/example/wirecall/wirecall/TextCursor" "pos" "I" (.int (2 : Int32)) := Fld.same W129 P2
  show Go p e below s _ _ _ T129 (mkF m 10 #[.val (.ref a)] [])
  have c130 := Fld.other W129 P1 (Or.inr (slot_ne (a0 := a0) (t := (.object "java/lang/String")) (t' := .int) (Or.inr (hw _ (List.mem_of_getElem? (i := 31) rfl))) (Or.inl (hw _ (List.mem_of_getElem? (i := 38) rfl))) (by decide) (by decide) (by decide)))
  exact go_ret0 X129 hx hlk hret (hb hby d12_10) (by decide) (by decide) (by rw [e129]; exact ⟨rfl, N129, (Keep.wr (Keep.refl h0 [a]) W129 (Or.inl (by simp))), c130, F129⟩)
def Q_sk2 (Z : State) (a : Addr) (t : Addr) (h0 : Heap) (n0 : Nat) (v : Option Value) (h : Heap) (L : List Loc) : Prop := v = none ∧ Fr n0 L ∧ Keep h0 h [a] ∧ Fld Z h a "com/example/wirecall/wirecall/TextCursor" "text" "Ljava/lang/String;" (.ref t) ∧ Fld Z h a "com/example/wirecall/wirecall/TextCursor" "pos" "I" (.int (3 : Int32))
theorem ef_sk2 (m : MethodId) (a : Addr) (t : Addr) : entryFrame m #[(.ref a)] 1 = mkF m 0 #[.val (.ref a)] [] := by first | (simp [entryFrame, mkF, argsToLocals, Value.category]; done) | rfl
abbrev rm_sk2 : Room := ({ frames := 0, cells := 0, slots := 0, locals := 0 } : Room)
set_option maxRecDepth 65536 in
set_option maxHeartbeats 4000000 in
theorem met_sk2 (l : Launch) (Z : State) (a0 : Array Value) (hw : ∀ d ∈ tables_1, d.before a0 Z = true) (a : Addr) (t : Addr) (h0 : Heap) (n0 : Nat) (Z0 : n0 ≤ h0.size) (P0 : Exa Z h0 a "com/example/wirecall/wirecall/TextCursor") (P1 : Fld Z h0 a "com/example/wirecall/wirecall/TextCursor" "text" "Ljava/lang/String;" (.ref t)) (P2 : Fld Z h0 a "com/example/wirecall/wirecall/TextCursor" "pos" "I" (.int (2 : Int32))) (P3 : n0 ≤ a) :
    Met l (⟨"com/example/wirecall/wirecall/TextCursor", "skip", "()V"⟩ : MethodName) prog_21_method_6_code 1 none [] rm_sk2 Z #[(.ref a)] h0 (Q_sk2 Z a t h0 n0) rm_sk2.cells rm_sk2.slots := by
  refine own_body pn9 ?_
  intro p e s m below meth c s₁ ct X0 e0
  have ct0 := ct
  obtain ⟨hx, hZ, hown, hby, hml, hret, hlk, hnm⟩ := ct
  have lt_a : a < h0.size := P0.lt
  have N0 := Fr.nil n0
  refine castGo (ef_sk2 m a t) ?_
  show Go p e below s _ _ _ s₁ (mkF m 0 #[.val (.ref a)] [])
  refine go_st (fun _ kq => XS.aloadN X0.here hx rfl (hb hby d12_0) rfl rfl kq) ?_
  show Go p e below s _ _ _ s₁ (mkF m 1 #[.val (.ref a)] [(.ref a)])
  refine go_st (fun _ kq => XS.dup X0.here hx rfl (hb hby d12_1) rfl rfl kq) ?_
  show Go p e below s _ _ _ s₁ (mkF m 2 #[.val (.ref a)] [(.ref a), (.ref a)])
  refine go_getF X0 hx hZ hown (host := "") (Or.inl (hw _ (List.mem_of_getElem? (i := 37) rfl))) Via.refl e0 P2 (hb hby d12_2) rfl rfl ?_
  intro T131 X131 e131
  show Go p e below s _ _ _ T131 (mkF m 5 #[.val (.ref a)] [(.int (2 : Int32)), (.ref a)])
  refine go_st (fun _ kq => XT.iconstV X131.here hx rfl (1 : Int32) (hb hby d12_5) (by decide) kq) ?_
  show Go p e below s _ _ _ T131 (mkF m 6 #[.val (.ref a)] [(.int (1 : Int32)), (.int (2 : Int32)), (.ref a)])
  refine go_st (fun _ kq => XS.iadd X131.here hx rfl (hb hby d12_6) rfl kq) ?_
  rw [show ((2 : Int32) + (1 : Int32)) = (3 : Int32) from by decide +kernel]
  show Go p e below s _ _ _ T131 (mkF m 7 #[.val (.ref a)] [(.int (3 : Int32)), (.ref a)])
  refine go_putF X131 hx hZ hown (host := "") (Or.inl (hw _ (List.mem_of_getElem? (i := 37) rfl))) Via.refl e131 P2 P0 (Or.inl (hw _ (List.mem_of_getElem? (i := 38) rfl))) (hw _ (List.mem_of_getElem? (i := 3) rfl)) (ty := .int) (by decide) rfl rfl (hb hby d12_7) rfl rfl ?_
  intro T132 h132 X132 e132 W132
  have N132 := Fr.snoc X132 N0 P3
  have F132 : Fld Z h132 a "com/example/wirecall/wirecall/TextCursor" "pos" "I" (.int (3 : Int32)) := Fld.same W132 P2
  show Go p e below s _ _ _ T132 (mkF m 10 #[.val (.ref a)] [])
  have c133 := Fld.other W132 P1 (Or.inr (slot_ne (a0 := a0) (t := (.object "java/lang/String")) (t' := .int) (Or.inr (hw _ (List.mem_of_getElem? (i := 31) rfl))) (Or.inl (hw _ (List.mem_of_getElem? (i := 38) rfl))) (by decide) (by decide) (by decide)))
  exact go_ret0 X132 hx hlk hret (hb hby d12_10) (by decide) (by decide) (by rw [e132]; exact ⟨rfl, N132, (Keep.wr (Keep.refl h0 [a]) W132 (Or.inl (by simp))), c133, F132⟩)
theorem d5_0 : decode prog_21_method_3_code 0 = .ok (.aload_n 0, 1) := by decide +kernel
theorem d5_1 : decode prog_21_method_3_code 1 = .ok (.getfield 13, 3) := by decide +kernel
theorem d5_4 : decode prog_21_method_3_code 4 = .ok (.aload_n 0, 1) := by decide +kernel
theorem d5_5 : decode prog_21_method_3_code 5 = .ok (.getfield 7, 3) := by decide +kernel
theorem d5_8 : decode prog_21_method_3_code 8 = .ok (.invokevirtual 17, 3) := by decide +kernel
theorem d5_11 : decode prog_21_method_3_code 11 = .ok (.if_icmp .ne 7, 3) := by decide +kernel
theorem d5_14 : decode prog_21_method_3_code 14 = .ok (.iconst 1, 1) := by decide +kernel
theorem d5_15 : decode prog_21_method_3_code 15 = .ok (.goto 4, 3) := by decide +kernel
theorem d5_18 : decode prog_21_method_3_code 18 = .ok (.iconst 0, 1) := by decide +kernel
theorem d5_19 : decode prog_21_method_3_code 19 = .ok (.ireturn, 1) := by decide +kernel
theorem pn10 : plainFor (⟨"com/example/wirecall/wirecall/TextCursor", "atEnd", "()Z"⟩ : MethodName) = true := by first | (refine plainFor_of_name ?_; simp [plainName, overriddenIn]; done) | (refine plainFor_of_name ?_; decide +kernel) | decide +kernel
theorem pd5 : parseMethodDescriptor "()I" = some ⟨[], (some .int)⟩ := by decide +kernel
def fEnd00  : Int32 := (1 : Int32)
theorem ef_end00 (m : MethodId) (a : Addr) (t : Addr) (b : Addr) (fq : Nat → Value) (zc : Int32) : entryFrame m #[(.ref a)] 1 = mkF m 0 #[.val (.ref a)] [] := by first | (simp [entryFrame, mkF, argsToLocals, Value.category]; done) | rfl
abbrev rm_end00 : Room := ({ frames := 2, cells := 0, slots := 0, locals := 26 } : Room)
set_option maxRecDepth 65536 in
set_option maxHeartbeats 4000000 in
theorem met_end00 (l : Launch) (Z : State) (a0 : Array Value) (hw : ∀ d ∈ tables_1, d.before a0 Z = true) (a : Addr) (t : Addr) (b : Addr) (fq : Nat → Value) (zc : Int32) (h0 : Heap) (n0 : Nat) (Z0 : n0 ≤ h0.size) (P0 : Fld Z h0 a "com/example/wirecall/wirecall/TextCursor" "pos" "I" (.int (0 : Int32))) (P1 : Fld Z h0 a "com/example/wirecall/wirecall/TextCursor" "text" "Ljava/lang/String;" (.ref t)) (P2 : Exa Z h0 t "java/lang/String") (P3 : Fld Z h0 t "java/lang/String" "value" "[B" (.ref b)) (P4 : Fld Z h0 t "java/lang/String" "coder" "B" (.int (0 : Int32))) (P5 : GA Z h0 b .byte 0 fq) (P6 : Old Z n0 h0) (P7 : Sta Z Z.heap "java/lang/String" "COMPACT_STRINGS" "Z" (.int zc)) (P8 : ¬ (zc = (0 : Int32))) :
    Met l (⟨"com/example/wirecall/wirecall/TextCursor", "atEnd", "()Z"⟩ : MethodName) prog_21_method_3_code 1 (some FieldType.boolean) [] rm_end00 Z #[(.ref a)] h0 (QV (some (.int (fEnd00 ))) h0 n0) 0 0 := by
  refine own_body pn10 ?_
  intro p e s m below meth c s₁ ct X0 e0
  have ct0 := ct
  obtain ⟨hx, hZ, hown, hby, hml, hret, hlk, hnm⟩ := ct
  have N0 := Fr.nil n0
  refine castGo (ef_end00 m a t b fq zc) ?_
  unfold fEnd00
  show Go p e below s _ _ _ s₁ (mkF m 0 #[.val (.ref a)] [])
  refine go_st (fun _ kq => XS.aloadN X0.here hx rfl (hb hby d5_0) rfl rfl kq) ?_
  show Go p e below s _ _ _ s₁ (mkF m 1 #[.val (.ref a)] [(.ref a)])
  refine go_getF X0 hx hZ hown (host := "") (Or.inl (hw _ (List.mem_of_getElem? (i := 37) rfl))) Via.refl e0 P0 (hb hby d5_1) rfl rfl ?_
  intro T134 X134 e134
  show Go p e below s _ _ _ T134 (mkF m 4 #[.val (.ref a)] [(.int (0 : Int32))])
  refine go_st (fun _ kq => XS.aloadN X134.here hx rfl (hb hby d5_4) rfl rfl kq) ?_
  show Go p e below s _ _ _ T134 (mkF m 5 #[.val (.ref a)] [(.ref a), (.int (0 : Int32))])
  refine go_getF X134 hx hZ hown (host := "") (Or.inl (hw _ (List.mem_of_getElem? (i := 30) rfl))) Via.refl e134 P1 (hb hby d5_5) rfl rfl ?_
  intro T135 X135 e135
  show Go p e below s _ _ _ T135 (mkF m 8 #[.val (.ref a)] [(.ref t), (.int (0 : Int32))])
  refine go_callV X135 hx hZ hml hown (hw _ (List.mem_of_getElem? (i := 39) rfl)) (hw _ (List.mem_of_getElem? (i := 40) rfl)) (notFace_of_selects (args := #[]) (mvT hZ (hw _ (List.mem_of_getElem? (i := 42) rfl)))) (hw _ (List.mem_of_getElem? (i := 42) rfl)) (hw _ (List.mem_of_getElem? (i := 41) rfl)) (hw _ (List.mem_of_getElem? (i := 43) rfl)) (hw _ (List.mem_of_getElem? (i := 7) rfl)) e135 P2 (argsL := []) (rest := [(.int (0 : Int32))]) (W := 1) (met_len0 l Z a0 hw t b fq zc h0 n0 Z0 P2 P3 P4 P5 P6 P7 P8) (hb hby d5_8) rfl rfl rfl (lenOf pd5 rfl) (by show 2 * 0 + _ ≤ _; exact Nat.le_of_eq rfl) (by decide) (by decide) (by decide) (by decide) (by decide) ?_
  intro T136 v136 L136 X136 q136
  obtain ⟨rfl, M136, e136⟩ := q136
  have N136 := Fr.app N0 M136
  show Go p e below s _ _ _ T136 (mkF m 11 #[.val (.ref a)] [(.int (0 : Int32)), (.int (0 : Int32))])
  refine go_st (fun _ kq => XS.icmpNo X136.here hx rfl (hb hby d5_11) rfl (XT.ii_ne_f (by decide)) kq) ?_
  show Go p e below s _ _ _ T136 (mkF m 14 #[.val (.ref a)] [])
  refine go_st (fun _ kq => XT.iconstV X136.here hx rfl (1 : Int32) (hb hby d5_14) (by decide) kq) ?_
  show Go p e below s _ _ _ T136 (mkF m 15 #[.val (.ref a)] [(.int (1 : Int32))])
  refine go_st (fun _ kq => XS.goto X136.here hx rfl (pc0 := 15) (pc' := 19) rfl (hb hby d5_15) (by decide) (by decide) kq) ?_
  show Go p e below s _ _ _ T136 (mkF m 19 #[.val (.ref a)] [(.int (1 : Int32))])
  exact go_retB (w := (1 : Int32)) X136 hx hlk hret (hb hby d5_19) (by decide) (by decide) (by decide) ⟨rfl, N136, e136⟩
def fEnd10  : Int32 := (0 : Int32)
theorem ef_end10 (m : MethodId) (a : Addr) (t : Addr) (b : Addr) (fq : Nat → Value) (zc : Int32) : entryFrame m #[(.ref a)] 1 = mkF m 0 #[.val (.ref a)] [] := by first | (simp [entryFrame, mkF, argsToLocals, Value.category]; done) | rfl
abbrev rm_end10 : Room := ({ frames := 2, cells := 0, slots := 0, locals := 26 } : Room)
set_option maxRecDepth 65536 in
set_option maxHeartbeats 4000000 in
theorem met_end10 (l : Launch) (Z : State) (a0 : Array Value) (hw : ∀ d ∈ tables_1, d.before a0 Z = true) (a : Addr) (t : Addr) (b : Addr) (fq : Nat → Value) (zc : Int32) (h0 : Heap) (n0 : Nat) (Z0 : n0 ≤ h0.size) (P0 : Fld Z h0 a "com/example/wirecall/wirecall/TextCursor" "pos" "I" (.int (0 : Int32))) (P1 : Fld Z h0 a "com/example/wirecall/wirecall/TextCursor" "text" "Ljava/lang/String;" (.ref t)) (P2 : Exa Z h0 t "java/lang/String") (P3 : Fld Z h0 t "java/lang/String" "value" "[B" (.ref b)) (P4 : Fld Z h0 t "java/lang/String" "coder" "B" (.int (0 : Int32))) (P5 : GA Z h0 b .byte 1 fq) (P6 : Old Z n0 h0) (P7 : Sta Z Z.heap "java/lang/String" "COMPACT_STRINGS" "Z" (.int zc)) (P8 : ¬ (zc = (0 : Int32))) :
    Met l (⟨"com/example/wirecall/wirecall/TextCursor", "atEnd", "()Z"⟩ : MethodName) prog_21_method_3_code 1 (some FieldType.boolean) [] rm_end10 Z #[(.ref a)] h0 (QV (some (.int (fEnd10 ))) h0 n0) 0 0 := by
  refine own_body pn10 ?_
  intro p e s m below meth c s₁ ct X0 e0
  have ct0 := ct
  obtain ⟨hx, hZ, hown, hby, hml, hret, hlk, hnm⟩ := ct
  have N0 := Fr.nil n0
  refine castGo (ef_end10 m a t b fq zc) ?_
  unfold fEnd10
  show Go p e below s _ _ _ s₁ (mkF m 0 #[.val (.ref a)] [])
  refine go_st (fun _ kq => XS.aloadN X0.here hx rfl (hb hby d5_0) rfl rfl kq) ?_
  show Go p e below s _ _ _ s₁ (mkF m 1 #[.val (.ref a)] [(.ref a)])
  refine go_getF X0 hx hZ hown (host := "") (Or.inl (hw _ (List.mem_of_getElem? (i := 37) rfl))) Via.refl e0 P0 (hb hby d5_1) rfl rfl ?_
  intro T137 X137 e137
  show Go p e below s _ _ _ T137 (mkF m 4 #[.val (.ref a)] [(.int (0 : Int32))])
  refine go_st (fun _ kq => XS.aloadN X137.here hx rfl (hb hby d5_4) rfl rfl kq) ?_
  show Go p e below s _ _ _ T137 (mkF m 5 #[.val (.ref a)] [(.ref a), (.int (0 : Int32))])
  refine go_getF X137 hx hZ hown (host := "") (Or.inl (hw _ (List.mem_of_getElem? (i := 30) rfl))) Via.refl e137 P1 (hb hby d5_5) rfl rfl ?_
  intro T138 X138 e138
  show Go p e below s _ _ _ T138 (mkF m 8 #[.val (.ref a)] [(.ref t), (.int (0 : Int32))])
  refine go_callV X138 hx hZ hml hown (hw _ (List.mem_of_getElem? (i := 39) rfl)) (hw _ (List.mem_of_getElem? (i := 40) rfl)) (notFace_of_selects (args := #[]) (mvT hZ (hw _ (List.mem_of_getElem? (i := 42) rfl)))) (hw _ (List.mem_of_getElem? (i := 42) rfl)) (hw _ (List.mem_of_getElem? (i := 41) rfl)) (hw _ (List.mem_of_getElem? (i := 43) rfl)) (hw _ (List.mem_of_getElem? (i := 7) rfl)) e138 P2 (argsL := []) (rest := [(.int (0 : Int32))]) (W := 1) (met_len1 l Z a0 hw t b fq zc h0 n0 Z0 P2 P3 P4 P5 P6 P7 P8) (hb hby d5_8) rfl rfl rfl (lenOf pd5 rfl) (by show 2 * 0 + _ ≤ _; exact Nat.le_of_eq rfl) (by decide) (by decide) (by decide) (by decide) (by decide) ?_
  intro T139 v139 L139 X139 q139
  obtain ⟨rfl, M139, e139⟩ := q139
  have N139 := Fr.app N0 M139
  show Go p e below s _ _ _ T139 (mkF m 11 #[.val (.ref a)] [(.int (1 : Int32)), (.int (0 : Int32))])
  refine go_st (fun _ kq => XS.icmpYes X139.here hx rfl (pc0 := 11) (pc' := 18) rfl (hb hby d5_11) rfl (XT.ii_ne_t (by decide)) (by decide) (by decide) kq) ?_
  show Go p e below s _ _ _ T139 (mkF m 18 #[.val (.ref a)] [])
  refine go_st (fun _ kq => XT.iconstV X139.here hx rfl (0 : Int32) (hb hby d5_18) (by decide) kq) ?_
  show Go p e below s _ _ _ T139 (mkF m 19 #[.val (.ref a)] [(.int (0 : Int32))])
  exact go_retB (w := (0 : Int32)) X139 hx hlk hret (hb hby d5_19) (by decide) (by decide) (by decide) ⟨rfl, N139, e139⟩
def fEnd11  : Int32 := (1 : Int32)
theorem ef_end11 (m : MethodId) (a : Addr) (t : Addr) (b : Addr) (fq : Nat → Value) (zc : Int32) : entryFrame m #[(.ref a)] 1 = mkF m 0 #[.val (.ref a)] [] := by first | (simp [entryFrame, mkF, argsToLocals, Value.category]; done) | rfl
abbrev rm_end11 : Room := ({ frames := 2, cells := 0, slots := 0, locals := 26 } : Room)
set_option maxRecDepth 65536 in
set_option maxHeartbeats 4000000 in
theorem met_end11 (l : Launch) (Z : State) (a0 : Array Value) (hw : ∀ d ∈ tables_1, d.before a0 Z = true) (a : Addr) (t : Addr) (b : Addr) (fq : Nat → Value) (zc : Int32) (h0 : Heap) (n0 : Nat) (Z0 : n0 ≤ h0.size) (P0 : Fld Z h0 a "com/example/wirecall/wirecall/TextCursor" "pos" "I" (.int (1 : Int32))) (P1 : Fld Z h0 a "com/example/wirecall/wirecall/TextCursor" "text" "Ljava/lang/String;" (.ref t)) (P2 : Exa Z h0 t "java/lang/String") (P3 : Fld Z h0 t "java/lang/String" "value" "[B" (.ref b)) (P4 : Fld Z h0 t "java/lang/String" "coder" "B" (.int (0 : Int32))) (P5 : GA Z h0 b .byte 1 fq) (P6 : Old Z n0 h0) (P7 : Sta Z Z.heap "java/lang/String" "COMPACT_STRINGS" "Z" (.int zc)) (P8 : ¬ (zc = (0 : Int32))) :
    Met l (⟨"com/example/wirecall/wirecall/TextCursor", "atEnd", "()Z"⟩ : MethodName) prog_21_method_3_code 1 (some FieldType.boolean) [] rm_end11 Z #[(.ref a)] h0 (QV (some (.int (fEnd11 ))) h0 n0) 0 0 := by
  refine own_body pn10 ?_
  intro p e s m below meth c s₁ ct X0 e0
  have ct0 := ct
  obtain ⟨hx, hZ, hown, hby, hml, hret, hlk, hnm⟩ := ct
  have N0 := Fr.nil n0
  refine castGo (ef_end11 m a t b fq zc) ?_
  unfold fEnd11
  show Go p e below s _ _ _ s₁ (mkF m 0 #[.val (.ref a)] [])
  refine go_st (fun _ kq => XS.aloadN X0.here hx rfl (hb hby d5_0) rfl rfl kq) ?_
  show Go p e below s _ _ _ s₁ (mkF m 1 #[.val (.ref a)] [(.ref a)])
  refine go_getF X0 hx hZ hown (host := "") (Or.inl (hw _ (List.mem_of_getElem? (i := 37) rfl))) Via.refl e0 P0 (hb hby d5_1) rfl rfl ?_
  intro T140 X140 e140
  show Go p e below s _ _ _ T140 (mkF m 4 #[.val (.ref a)] [(.int (1 : Int32))])
  refine go_st (fun _ kq => XS.aloadN X140.here hx rfl (hb hby d5_4) rfl rfl kq) ?_
  show Go p e below s _ _ _ T140 (mkF m 5 #[.val (.ref a)] [(.ref a), (.int (1 : Int32))])
  refine go_getF X140 hx hZ hown (host := "") (Or.inl (hw _ (List.mem_of_getElem? (i := 30) rfl))) Via.refl e140 P1 (hb hby d5_5) rfl rfl ?_
  intro T141 X141 e141
  show Go p e below s _ _ _ T141 (mkF m 8 #[.val (.ref a)] [(.ref t), (.int (1 : Int32))])
  refine go_callV X141 hx hZ hml hown (hw _ (List.mem_of_getElem? (i := 39) rfl)) (hw _ (List.mem_of_getElem? (i := 40) rfl)) (notFace_of_selects (args := #[]) (mvT hZ (hw _ (List.mem_of_getElem? (i := 42) rfl)))) (hw _ (List.mem_of_getElem? (i := 42) rfl)) (hw _ (List.mem_of_getElem? (i := 41) rfl)) (hw _ (List.mem_of_getElem? (i := 43) rfl)) (hw _ (List.mem_of_getElem? (i := 7) rfl)) e141 P2 (argsL := []) (rest := [(.int (1 : Int32))]) (W := 1) (met_len1 l Z a0 hw t b fq zc h0 n0 Z0 P2 P3 P4 P5 P6 P7 P8) (hb hby d5_8) rfl rfl rfl (lenOf pd5 rfl) (by show 2 * 0 + _ ≤ _; exact Nat.le_of_eq rfl) (by decide) (by decide) (by decide) (by decide) (by decide) ?_
  intro T142 v142 L142 X142 q142
  obtain ⟨rfl, M142, e142⟩ := q142
  have N142 := Fr.app N0 M142
  show Go p e below s _ _ _ T142 (mkF m 11 #[.val (.ref a)] [(.int (1 : Int32)), (.int (1 : Int32))])
  refine go_st (fun _ kq => XS.icmpNo X142.here hx rfl (hb hby d5_11) rfl (XT.ii_ne_f (by decide)) kq) ?_
  show Go p e below s _ _ _ T142 (mkF m 14 #[.val (.ref a)] [])
  refine go_st (fun _ kq => XT.iconstV X142.here hx rfl (1 : Int32) (hb hby d5_14) (by decide) kq) ?_
  show Go p e below s _ _ _ T142 (mkF m 15 #[.val (.ref a)] [(.int (1 : Int32))])
  refine go_st (fun _ kq => XS.goto X142.here hx rfl (pc0 := 15) (pc' := 19) rfl (hb hby d5_15) (by decide) (by decide) kq) ?_
  show Go p e below s _ _ _ T142 (mkF m 19 #[.val (.ref a)] [(.int (1 : Int32))])
  exact go_retB (w := (1 : Int32)) X142 hx hlk hret (hb hby d5_19) (by decide) (by decide) (by decide) ⟨rfl, N142, e142⟩
def fEnd20  : Int32 := (0 : Int32)
theorem ef_end20 (m : MethodId) (a : Addr) (t : Addr) (b : Addr) (fq : Nat → Value) (zc : Int32) : entryFrame m #[(.ref a)] 1 = mkF m 0 #[.val (.ref a)] [] := by first | (simp [entryFrame, mkF, argsToLocals, Value.category]; done) | rfl
abbrev rm_end20 : Room := ({ frames := 2, cells := 0, slots := 0, locals := 26 } : Room)
set_option maxRecDepth 65536 in
set_option maxHeartbeats 4000000 in
theorem met_end20 (l : Launch) (Z : State) (a0 : Array Value) (hw : ∀ d ∈ tables_1, d.before a0 Z = true) (a : Addr) (t : Addr) (b : Addr) (fq : Nat → Value) (zc : Int32) (h0 : Heap) (n0 : Nat) (Z0 : n0 ≤ h0.size) (P0 : Fld Z h0 a "com/example/wirecall/wirecall/TextCursor" "pos" "I" (.int (0 : Int32))) (P1 : Fld Z h0 a "com/example/wirecall/wirecall/TextCursor" "text" "Ljava/lang/String;" (.ref t)) (P2 : Exa Z h0 t "java/lang/String") (P3 : Fld Z h0 t "java/lang/String" "value" "[B" (.ref b)) (P4 : Fld Z h0 t "java/lang/String" "coder" "B" (.int (0 : Int32))) (P5 : GA Z h0 b .byte 2 fq) (P6 : Old Z n0 h0) (P7 : Sta Z Z.heap "java/lang/String" "COMPACT_STRINGS" "Z" (.int zc)) (P8 : ¬ (zc = (0 : Int32))) :
    Met l (⟨"com/example/wirecall/wirecall/TextCursor", "atEnd", "()Z"⟩ : MethodName) prog_21_method_3_code 1 (some FieldType.boolean) [] rm_end20 Z #[(.ref a)] h0 (QV (some (.int (fEnd20 ))) h0 n0) 0 0 := by
  refine own_body pn10 ?_
  intro p e s m below meth c s₁ ct X0 e0
  have ct0 := ct
  obtain ⟨hx, hZ, hown, hby, hml, hret, hlk, hnm⟩ := ct
  have N0 := Fr.nil n0
  refine castGo (ef_end20 m a t b fq zc) ?_
  unfold fEnd20
  show Go p e below s _ _ _ s₁ (mkF m 0 #[.val (.ref a)] [])
  refine go_st (fun _ kq => XS.aloadN X0.here hx rfl (hb hby d5_0) rfl rfl kq) ?_
  show Go p e below s _ _ _ s₁ (mkF m 1 #[.val (.ref a)] [(.ref a)])
  refine go_getF X0 hx hZ hown (host := "") (Or.inl (hw _ (List.mem_of_getElem? (i := 37) rfl))) Via.refl e0 P0 (hb hby d5_1) rfl rfl ?_
  intro T143 X143 e143
  show Go p e below s _ _ _ T143 (mkF m 4 #[.val (.ref a)] [(.int (0 : Int32))])
  refine go_st (fun _ kq => XS.aloadN X143.here hx rfl (hb hby d5_4) rfl rfl kq) ?_
  show Go p e below s _ _ _ T143 (mkF m 5 #[.val (.ref a)] [(.ref a), (.int (0 : Int32))])
  refine go_getF X143 hx hZ hown (host := "") (Or.inl (hw _ (List.mem_of_getElem? (i := 30) rfl))) Via.refl e143 P1 (hb hby d5_5) rfl rfl ?_
  intro T144 X144 e144
  show Go p e below s _ _ _ T144 (mkF m 8 #[.val (.ref a)] [(.ref t), (.int (0 : Int32))])
  refine go_callV X144 hx hZ hml hown (hw _ (List.mem_of_getElem? (i := 39) rfl)) (hw _ (List.mem_of_getElem? (i := 40) rfl)) (notFace_of_selects (args := #[]) (mvT hZ (hw _ (List.mem_of_getElem? (i := 42) rfl)))) (hw _ (List.mem_of_getElem? (i := 42) rfl)) (hw _ (List.mem_of_getElem? (i := 41) rfl)) (hw _ (List.mem_of_getElem? (i := 43) rfl)) (hw _ (List.mem_of_getElem? (i := 7) rfl)) e144 P2 (argsL := []) (rest := [(.int (0 : Int32))]) (W := 1) (met_len2 l Z a0 hw t b fq zc h0 n0 Z0 P2 P3 P4 P5 P6 P7 P8) (hb hby d5_8) rfl rfl rfl (lenOf pd5 rfl) (by show 2 * 0 + _ ≤ _; exact Nat.le_of_eq rfl) (by decide) (by decide) (by decide) (by decide) (by decide) ?_
  intro T145 v145 L145 X145 q145
  obtain ⟨rfl, M145, e145⟩ := q145
  have N145 := Fr.app N0 M145
  show Go p e below s _ _ _ T145 (mkF m 11 #[.val (.ref a)] [(.int (2 : Int32)), (.int (0 : Int32))])
  refine go_st (fun _ kq => XS.icmpYes X145.here hx rfl (pc0 := 11) (pc' := 18) rfl (hb hby d5_11) rfl (XT.ii_ne_t (by decide)) (by decide) (by decide) kq) ?_
  show Go p e below s _ _ _ T145 (mkF m 18 #[.val (.ref a)] [])
  refine go_st (fun _ kq => XT.iconstV X145.here hx rfl (0 : Int32) (hb hby d5_18) (by decide) kq) ?_
  show Go p e below s _ _ _ T145 (mkF m 19 #[.val (.ref a)] [(.int (0 : Int32))])
  exact go_retB (w := (0 : Int32)) X145 hx hlk hret (hb hby d5_19) (by decide) (by decide) (by decide) ⟨rfl, N145, e145⟩
def fEnd21  : Int32 := (0 : Int32)
theorem ef_end21 (m : MethodId) (a : Addr) (t : Addr) (b : Addr) (fq : Nat → Value) (zc : Int32) : entryFrame m #[(.ref a)] 1 = mkF m 0 #[.val (.ref a)] [] := by first | (simp [entryFrame, mkF, argsToLocals, Value.category]; done) | rfl
abbrev rm_end21 : Room := ({ frames := 2, cells := 0, slots := 0, locals := 26 } : Room)
set_option maxRecDepth 65536 in
set_option maxHeartbeats 4000000 in
theorem met_end21 (l : Launch) (Z : State) (a0 : Array Value) (hw : ∀ d ∈ tables_1, d.before a0 Z = true) (a : Addr) (t : Addr) (b : Addr) (fq : Nat → Value) (zc : Int32) (h0 : Heap) (n0 : Nat) (Z0 : n0 ≤ h0.size) (P0 : Fld Z h0 a "com/example/wirecall/wirecall/TextCursor" "pos" "I" (.int (1 : Int32))) (P1 : Fld Z h0 a "com/example/wirecall/wirecall/TextCursor" "text" "Ljava/lang/String;" (.ref t)) (P2 : Exa Z h0 t "java/lang/String") (P3 : Fld Z h0 t "java/lang/String" "value" "[B" (.ref b)) (P4 : Fld Z h0 t "java/lang/String" "coder" "B" (.int (0 : Int32))) (P5 : GA Z h0 b .byte 2 fq) (P6 : Old Z n0 h0) (P7 : Sta Z Z.heap "java/lang/String" "COMPACT_STRINGS" "Z" (.int zc)) (P8 : ¬ (zc = (0 : Int32))) :
    Met l (⟨"com/example/wirecall/wirecall/TextCursor", "atEnd", "()Z"⟩ : MethodName) prog_21_method_3_code 1 (some FieldType.boolean) [] rm_end21 Z #[(.ref a)] h0 (QV (some (.int (fEnd21 ))) h0 n0) 0 0 := by
  refine own_body pn10 ?_
  intro p e s m below meth c s₁ ct X0 e0
  have ct0 := ct
  obtain ⟨hx, hZ, hown, hby, hml, hret, hlk, hnm⟩ := ct
  have N0 := Fr.nil n0
  refine castGo (ef_end21 m a t b fq zc) ?_
  unfold fEnd21
  show Go p e below s _ _ _ s₁ (mkF m 0 #[.val (.ref a)] [])
  refine go_st (fun _ kq => XS.aloadN X0.here hx rfl (hb hby d5_0) rfl rfl kq) ?_
  show Go p e below s _ _ _ s₁ (mkF m 1 #[.val (.ref a)] [(.ref a)])
  refine go_getF X0 hx hZ hown (host := "") (Or.inl (hw _ (List.mem_of_getElem? (i := 37) rfl))) Via.refl e0 P0 (hb hby d5_1) rfl rfl ?_
  intro T146 X146 e146
  show Go p e below s _ _ _ T146 (mkF m 4 #[.val (.ref a)] [(.int (1 : Int32))])
  refine go_st (fun _ kq => XS.aloadN X146.here hx rfl (hb hby d5_4) rfl rfl kq) ?_
  show Go p e below s _ _ _ T146 (mkF m 5 #[.val (.ref a)] [(.ref a), (.int (1 : Int32))])
  refine go_getF X146 hx hZ hown (host := "") (Or.inl (hw _ (List.mem_of_getElem? (i := 30) rfl))) Via.refl e146 P1 (hb hby d5_5) rfl rfl ?_
  intro T147 X147 e147
  show Go p e below s _ _ _ T147 (mkF m 8 #[.val (.ref a)] [(.ref t), (.int (1 : Int32))])
  refine go_callV X147 hx hZ hml hown (hw _ (List.mem_of_getElem? (i := 39) rfl)) (hw _ (List.mem_of_getElem? (i := 40) rfl)) (notFace_of_selects (args := #[]) (mvT hZ (hw _ (List.mem_of_getElem? (i := 42) rfl)))) (hw _ (List.mem_of_getElem? (i := 42) rfl)) (hw _ (List.mem_of_getElem? (i := 41) rfl)) (hw _ (List.mem_of_getElem? (i := 43) rfl)) (hw _ (List.mem_of_getElem? (i := 7) rfl)) e147 P2 (argsL := []) (rest := [(.int (1 : Int32))]) (W := 1) (met_len2 l Z a0 hw t b fq zc h0 n0 Z0 P2 P3 P4 P5 P6 P7 P8) (hb hby d5_8) rfl rfl rfl (lenOf pd5 rfl) (by show 2 * 0 + _ ≤ _; exact Nat.le_of_eq rfl) (by decide) (by decide) (by decide) (by decide) (by decide) ?_
  intro T148 v148 L148 X148 q148
  obtain ⟨rfl, M148, e148⟩ := q148
  have N148 := Fr.app N0 M148
  show Go p e below s _ _ _ T148 (mkF m 11 #[.val (.ref a)] [(.int (2 : Int32)), (.int (1 : Int32))])
  refine go_st (fun _ kq => XS.icmpYes X148.here hx rfl (pc0 := 11) (pc' := 18) rfl (hb hby d5_11) rfl (XT.ii_ne_t (by decide)) (by decide) (by decide) kq) ?_
  show Go p e below s _ _ _ T148 (mkF m 18 #[.val (.ref a)] [])
  refine go_st (fun _ kq => XT.iconstV X148.here hx rfl (0 : Int32) (hb hby d5_18) (by decide) kq) ?_
  show Go p e below s _ _ _ T148 (mkF m 19 #[.val (.ref a)] [(.int (0 : Int32))])
  exact go_retB (w := (0 : Int32)) X148 hx hlk hret (hb hby d5_19) (by decide) (by decide) (by decide) ⟨rfl, N148, e148⟩
def fEnd22  : Int32 := (1 : Int32)
theorem ef_end22 (m : MethodId) (a : Addr) (t : Addr) (b : Addr) (fq : Nat → Value) (zc : Int32) : entryFrame m #[(.ref a)] 1 = mkF m 0 #[.val (.ref a)] [] := by first | (simp [entryFrame, mkF, argsToLocals, Value.category]; done) | rfl
abbrev rm_end22 : Room := ({ frames := 2, cells := 0, slots := 0, locals := 26 } : Room)
set_option maxRecDepth 65536 in
set_option maxHeartbeats 4000000 in
theorem met_end22 (l : Launch) (Z : State) (a0 : Array Value) (hw : ∀ d ∈ tables_1, d.before a0 Z = true) (a : Addr) (t : Addr) (b : Addr) (fq : Nat → Value) (zc : Int32) (h0 : Heap) (n0 : Nat) (Z0 : n0 ≤ h0.size) (P0 : Fld Z h0 a "com/example/wirecall/wirecall/TextCursor" "pos" "I" (.int (2 : Int32))) (P1 : Fld Z h0 a "com/example/wirecall/wirecall/TextCursor" "text" "Ljava/lang/String;" (.ref t)) (P2 : Exa Z h0 t "java/lang/String") (P3 : Fld Z h0 t "java/lang/String" "value" "[B" (.ref b)) (P4 : Fld Z h0 t "java/lang/String" "coder" "B" (.int (0 : Int32))) (P5 : GA Z h0 b .byte 2 fq) (P6 : Old Z n0 h0) (P7 : Sta Z Z.heap "java/lang/String" "COMPACT_STRINGS" "Z" (.int zc)) (P8 : ¬ (zc = (0 : Int32))) :
    Met l (⟨"com/example/wirecall/wirecall/TextCursor", "atEnd", "()Z"⟩ : MethodName) prog_21_method_3_code 1 (some FieldType.boolean) [] rm_end22 Z #[(.ref a)] h0 (QV (some (.int (fEnd22 ))) h0 n0) 0 0 := by
  refine own_body pn10 ?_
  intro p e s m below meth c s₁ ct X0 e0
  have ct0 := ct
  obtain ⟨hx, hZ, hown, hby, hml, hret, hlk, hnm⟩ := ct
  have N0 := Fr.nil n0
  refine castGo (ef_end22 m a t b fq zc) ?_
  unfold fEnd22
  show Go p e below s _ _ _ s₁ (mkF m 0 #[.val (.ref a)] [])
  refine go_st (fun _ kq => XS.aloadN X0.here hx rfl (hb hby d5_0) rfl rfl kq) ?_
  show Go p e below s _ _ _ s₁ (mkF m 1 #[.val (.ref a)] [(.ref a)])
  refine go_getF X0 hx hZ hown (host := "") (Or.inl (hw _ (List.mem_of_getElem? (i := 37) rfl))) Via.refl e0 P0 (hb hby d5_1) rfl rfl ?_
  intro T149 X149 e149
  show Go p e below s _ _ _ T149 (mkF m 4 #[.val (.ref a)] [(.int (2 : Int32))])
  refine go_st (fun _ kq => XS.aloadN X149.here hx rfl (hb hby d5_4) rfl rfl kq) ?_
  show Go p e below s _ _ _ T149 (mkF m 5 #[.val (.ref a)] [(.ref a), (.int (2 : Int32))])
  refine go_getF X149 hx hZ hown (host := "") (Or.inl (hw _ (List.mem_of_getElem? (i := 30) rfl))) Via.refl e149 P1 (hb hby d5_5) rfl rfl ?_
  intro T150 X150 e150
  show Go p e below s _ _ _ T150 (mkF m 8 #[.val (.ref a)] [(.ref t), (.int (2 : Int32))])
  refine go_callV X150 hx hZ hml hown (hw _ (List.mem_of_getElem? (i := 39) rfl)) (hw _ (List.mem_of_getElem? (i := 40) rfl)) (notFace_of_selects (args := #[]) (mvT hZ (hw _ (List.mem_of_getElem? (i := 42) rfl)))) (hw _ (List.mem_of_getElem? (i := 42) rfl)) (hw _ (List.mem_of_getElem? (i := 41) rfl)) (hw _ (List.mem_of_getElem? (i := 43) rfl)) (hw _ (List.mem_of_getElem? (i := 7) rfl)) e150 P2 (argsL := []) (rest := [(.int (2 : Int32))]) (W := 1) (met_len2 l Z a0 hw t b fq zc h0 n0 Z0 P2 P3 P4 P5 P6 P7 P8) (hb hby d5_8) rfl rfl rfl (lenOf pd5 rfl) (by show 2 * 0 + _ ≤ _; exact Nat.le_of_eq rfl) (by decide) (by decide) (by decide) (by decide) (by decide) ?_
  intro T151 v151 L151 X151 q151
  obtain ⟨rfl, M151, e151⟩ := q151
  have N151 := Fr.app N0 M151
  show Go p e below s _ _ _ T151 (mkF m 11 #[.val (.ref a)] [(.int (2 : Int32)), (.int (2 : Int32))])
  refine go_st (fun _ kq => XS.icmpNo X151.here hx rfl (hb hby d5_11) rfl (XT.ii_ne_f (by decide)) kq) ?_
  show Go p e below s _ _ _ T151 (mkF m 14 #[.val (.ref a)] [])
  refine go_st (fun _ kq => XT.iconstV X151.here hx rfl (1 : Int32) (hb hby d5_14) (by decide) kq) ?_
  show Go p e below s _ _ _ T151 (mkF m 15 #[.val (.ref a)] [(.int (1 : Int32))])
  refine go_st (fun _ kq => XS.goto X151.here hx rfl (pc0 := 15) (pc' := 19) rfl (hb hby d5_15) (by decide) (by decide) kq) ?_
  show Go p e below s _ _ _ T151 (mkF m 19 #[.val (.ref a)] [(.int (1 : Int32))])
  exact go_retB (w := (1 : Int32)) X151 hx hlk hret (hb hby d5_19) (by decide) (by decide) (by decide) ⟨rfl, N151, e151⟩
def fEnd30  : Int32 := (0 : Int32)
theorem ef_end30 (m : MethodId) (a : Addr) (t : Addr) (b : Addr) (fq : Nat → Value) (zc : Int32) : entryFrame m #[(.ref a)] 1 = mkF m 0 #[.val (.ref a)] [] := by first | (simp [entryFrame, mkF, argsToLocals, Value.category]; done) | rfl
abbrev rm_end30 : Room := ({ frames := 2, cells := 0, slots := 0, locals := 26 } : Room)
set_option maxRecDepth 65536 in
set_option maxHeartbeats 4000000 in
theorem met_end30 (l : Launch) (Z : State) (a0 : Array Value) (hw : ∀ d ∈ tables_1, d.before a0 Z = true) (a : Addr) (t : Addr) (b : Addr) (fq : Nat → Value) (zc : Int32) (h0 : Heap) (n0 : Nat) (Z0 : n0 ≤ h0.size) (P0 : Fld Z h0 a "com/example/wirecall/wirecall/TextCursor" "pos" "I" (.int (0 : Int32))) (P1 : Fld Z h0 a "com/example/wirecall/wirecall/TextCursor" "text" "Ljava/lang/String;" (.ref t)) (P2 : Exa Z h0 t "java/lang/String") (P3 : Fld Z h0 t "java/lang/String" "value" "[B" (.ref b)) (P4 : Fld Z h0 t "java/lang/String" "coder" "B" (.int (0 : Int32))) (P5 : GA Z h0 b .byte 3 fq) (P6 : Old Z n0 h0) (P7 : Sta Z Z.heap "java/lang/String" "COMPACT_STRINGS" "Z" (.int zc)) (P8 : ¬ (zc = (0 : Int32))) :
    Met l (⟨"com/example/wirecall/wirecall/TextCursor", "atEnd", "()Z"⟩ : MethodName) prog_21_method_3_code 1 (some FieldType.boolean) [] rm_end30 Z #[(.ref a)] h0 (QV (some (.int (fEnd30 ))) h0 n0) 0 0 := by
  refine own_body pn10 ?_
  intro p e s m below meth c s₁ ct X0 e0
  have ct0 := ct
  obtain ⟨hx, hZ, hown, hby, hml, hret, hlk, hnm⟩ := ct
  have N0 := Fr.nil n0
  refine castGo (ef_end30 m a t b fq zc) ?_
  unfold fEnd30
  show Go p e below s _ _ _ s₁ (mkF m 0 #[.val (.ref a)] [])
  refine go_st (fun _ kq => XS.aloadN X0.here hx rfl (hb hby d5_0) rfl rfl kq) ?_
  show Go p e below s _ _ _ s₁ (mkF m 1 #[.val (.ref a)] [(.ref a)])
  refine go_getF X0 hx hZ hown (host := "") (Or.inl (hw _ (List.mem_of_getElem? (i := 37) rfl))) Via.refl e0 P0 (hb hby d5_1) rfl rfl ?_
  intro T152 X152 e152
  show Go p e below s _ _ _ T152 (mkF m 4 #[.val (.ref a)] [(.int (0 : Int32))])
  refine go_st (fun _ kq => XS.aloadN X152.here hx rfl (hb hby d5_4) rfl rfl kq) ?_
  show Go p e below s _ _ _ T152 (mkF m 5 #[.val (.ref a)] [(.ref a), (.int (0 : Int32))])
  refine go_getF X152 hx hZ hown (host := "") (Or.inl (hw _ (List.mem_of_getElem? (i := 30) rfl))) Via.refl e152 P1 (hb hby d5_5) rfl rfl ?_
  intro T153 X153 e153
  show Go p e below s _ _ _ T153 (mkF m 8 #[.val (.ref a)] [(.ref t), (.int (0 : Int32))])
  refine go_callV X153 hx hZ hml hown (hw _ (List.mem_of_getElem? (i := 39) rfl)) (hw _ (List.mem_of_getElem? (i := 40) rfl)) (notFace_of_selects (args := #[]) (mvT hZ (hw _ (List.mem_of_getElem? (i := 42) rfl)))) (hw _ (List.mem_of_getElem? (i := 42) rfl)) (hw _ (List.mem_of_getElem? (i := 41) rfl)) (hw _ (List.mem_of_getElem? (i := 43) rfl)) (hw _ (List.mem_of_getElem? (i := 7) rfl)) e153 P2 (argsL := []) (rest := [(.int (0 : Int32))]) (W := 1) (met_len3 l Z a0 hw t b fq zc h0 n0 Z0 P2 P3 P4 P5 P6 P7 P8) (hb hby d5_8) rfl rfl rfl (lenOf pd5 rfl) (by show 2 * 0 + _ ≤ _; exact Nat.le_of_eq rfl) (by decide) (by decide) (by decide) (by decide) (by decide) ?_
  intro T154 v154 L154 X154 q154
  obtain ⟨rfl, M154, e154⟩ := q154
  have N154 := Fr.app N0 M154
  show Go p e below s _ _ _ T154 (mkF m 11 #[.val (.ref a)] [(.int (3 : Int32)), (.int (0 : Int32))])
  refine go_st (fun _ kq => XS.icmpYes X154.here hx rfl (pc0 := 11) (pc' := 18) rfl (hb hby d5_11) rfl (XT.ii_ne_t (by decide)) (by decide) (by decide) kq) ?_
  show Go p e below s _ _ _ T154 (mkF m 18 #[.val (.ref a)] [])
  refine go_st (fun _ kq => XT.iconstV X154.here hx rfl (0 : Int32) (hb hby d5_18) (by decide) kq) ?_
  show Go p e below s _ _ _ T154 (mkF m 19 #[.val (.ref a)] [(.int (0 : Int32))])
  exact go_retB (w := (0 : Int32)) X154 hx hlk hret (hb hby d5_19) (by decide) (by decide) (by decide) ⟨rfl, N154, e154⟩
def fEnd31  : Int32 := (0 : Int32)
theorem ef_end31 (m : MethodId) (a : Addr) (t : Addr) (b : Addr) (fq : Nat → Value) (zc : Int32) : entryFrame m #[(.ref a)] 1 = mkF m 0 #[.val (.ref a)] [] := by first | (simp [entryFrame, mkF, argsToLocals, Value.category]; done) | rfl
abbrev rm_end31 : Room := ({ frames := 2, cells := 0, slots := 0, locals := 26 } : Room)
set_option maxRecDepth 65536 in
set_option maxHeartbeats 4000000 in
theorem met_end31 (l : Launch) (Z : State) (a0 : Array Value) (hw : ∀ d ∈ tables_1, d.before a0 Z = true) (a : Addr) (t : Addr) (b : Addr) (fq : Nat → Value) (zc : Int32) (h0 : Heap) (n0 : Nat) (Z0 : n0 ≤ h0.size) (P0 : Fld Z h0 a "com/example/wirecall/wirecall/TextCursor" "pos" "I" (.int (1 : Int32))) (P1 : Fld Z h0 a "com/example/wirecall/wirecall/TextCursor" "text" "Ljava/lang/String;" (.ref t)) (P2 : Exa Z h0 t "java/lang/String") (P3 : Fld Z h0 t "java/lang/String" "value" "[B" (.ref b)) (P4 : Fld Z h0 t "java/lang/String" "coder" "B" (.int (0 : Int32))) (P5 : GA Z h0 b .byte 3 fq) (P6 : Old Z n0 h0) (P7 : Sta Z Z.heap "java/lang/String" "COMPACT_STRINGS" "Z" (.int zc)) (P8 : ¬ (zc = (0 : Int32))) :
    Met l (⟨"com/example/wirecall/wirecall/TextCursor", "atEnd", "()Z"⟩ : MethodName) prog_21_method_3_code 1 (some FieldType.boolean) [] rm_end31 Z #[(.ref a)] h0 (QV (some (.int (fEnd31 ))) h0 n0) 0 0 := by
  refine own_body pn10 ?_
  intro p e s m below meth c s₁ ct X0 e0
  have ct0 := ct
  obtain ⟨hx, hZ, hown, hby, hml, hret, hlk, hnm⟩ := ct
  have N0 := Fr.nil n0
  refine castGo (ef_end31 m a t b fq zc) ?_
  unfold fEnd31
  show Go p e below s _ _ _ s₁ (mkF m 0 #[.val (.ref a)] [])
  refine go_st (fun _ kq => XS.aloadN X0.here hx rfl (hb hby d5_0) rfl rfl kq) ?_
  show Go p e below s _ _ _ s₁ (mkF m 1 #[.val (.ref a)] [(.ref a)])
  refine go_getF X0 hx hZ hown (host := "") (Or.inl (hw _ (List.mem_of_getElem? (i := 37) rfl))) Via.refl e0 P0 (hb hby d5_1) rfl rfl ?_
  intro T155 X155 e155
  show Go p e below s _ _ _ T155 (mkF m 4 #[.val (.ref a)] [(.int (1 : Int32))])
  refine go_st (fun _ kq => XS.aloadN X155.here hx rfl (hb hby d5_4) rfl rfl kq) ?_
  show Go p e below s _ _ _ T155 (mkF m 5 #[.val (.ref a)] [(.ref a), (.int (1 : Int32))])
  refine go_getF X155 hx hZ hown (host := "") (Or.inl (hw _ (List.mem_of_getElem? (i := 30) rfl))) Via.refl e155 P1 (hb hby d5_5) rfl rfl ?_
  intro T156 X156 e156
  show Go p e below s _ _ _ T156 (mkF m 8 #[.val (.ref a)] [(.ref t), (.int (1 : Int32))])
  refine go_callV X156 hx hZ hml hown (hw _ (List.mem_of_getElem? (i := 39) rfl)) (hw _ (List.mem_of_getElem? (i := 40) rfl)) (notFace_of_selects (args := #[]) (mvT hZ (hw _ (List.mem_of_getElem? (i := 42) rfl)))) (hw _ (List.mem_of_getElem? (i := 42) rfl)) (hw _ (List.mem_of_getElem? (i := 41) rfl)) (hw _ (List.mem_of_getElem? (i := 43) rfl)) (hw _ (List.mem_of_getElem? (i := 7) rfl)) e156 P2 (argsL := []) (rest := [(.int (1 : Int32))]) (W := 1) (met_len3 l Z a0 hw t b fq zc h0 n0 Z0 P2 P3 P4 P5 P6 P7 P8) (hb hby d5_8) rfl rfl rfl (lenOf pd5 rfl) (by show 2 * 0 + _ ≤ _; exact Nat.le_of_eq rfl) (by decide) (by decide) (by decide) (by decide) (by decide) ?_
  intro T157 v157 L157 X157 q157
  obtain ⟨rfl, M157, e157⟩ := q157
  have N157 := Fr.app N0 M157
  show Go p e below s _ _ _ T157 (mkF m 11 #[.val (.ref a)] [(.int (3 : Int32)), (.int (1 : Int32))])
  refine go_st (fun _ kq => XS.icmpYes X157.here hx rfl (pc0 := 11) (pc' := 18) rfl (hb hby d5_11) rfl (XT.ii_ne_t (by decide)) (by decide) (by decide) kq) ?_
  show Go p e below s _ _ _ T157 (mkF m 18 #[.val (.ref a)] [])
  refine go_st (fun _ kq => XT.iconstV X157.here hx rfl (0 : Int32) (hb hby d5_18) (by decide) kq) ?_
  show Go p e below s _ _ _ T157 (mkF m 19 #[.val (.ref a)] [(.int (0 : Int32))])
  exact go_retB (w := (0 : Int32)) X157 hx hlk hret (hb hby d5_19) (by decide) (by decide) (by decide) ⟨rfl, N157, e157⟩
def fEnd32  : Int32 := (0 : Int32)
theorem ef_end32 (m : MethodId) (a : Addr) (t : Addr) (b : Addr) (fq : Nat → Value) (zc : Int32) : entryFrame m #[(.ref a)] 1 = mkF m 0 #[.val (.ref a)] [] := by first | (simp [entryFrame, mkF, argsToLocals, Value.category]; done) | rfl
abbrev rm_end32 : Room := ({ frames := 2, cells := 0, slots := 0, locals := 26 } : Room)
set_option maxRecDepth 65536 in
set_option maxHeartbeats 4000000 in
theorem met_end32 (l : Launch) (Z : State) (a0 : Array Value) (hw : ∀ d ∈ tables_1, d.before a0 Z = true) (a : Addr) (t : Addr) (b : Addr) (fq : Nat → Value) (zc : Int32) (h0 : Heap) (n0 : Nat) (Z0 : n0 ≤ h0.size) (P0 : Fld Z h0 a "com/example/wirecall/wirecall/TextCursor" "pos" "I" (.int (2 : Int32))) (P1 : Fld Z h0 a "com/example/wirecall/wirecall/TextCursor" "text" "Ljava/lang/String;" (.ref t)) (P2 : Exa Z h0 t "java/lang/String") (P3 : Fld Z h0 t "java/lang/String" "value" "[B" (.ref b)) (P4 : Fld Z h0 t "java/lang/String" "coder" "B" (.int (0 : Int32))) (P5 : GA Z h0 b .byte 3 fq) (P6 : Old Z n0 h0) (P7 : Sta Z Z.heap "java/lang/String" "COMPACT_STRINGS" "Z" (.int zc)) (P8 : ¬ (zc = (0 : Int32))) :
    Met l (⟨"com/example/wirecall/wirecall/TextCursor", "atEnd", "()Z"⟩ : MethodName) prog_21_method_3_code 1 (some FieldType.boolean) [] rm_end32 Z #[(.ref a)] h0 (QV (some (.int (fEnd32 ))) h0 n0) 0 0 := by
  refine own_body pn10 ?_
  intro p e s m below meth c s₁ ct X0 e0
  have ct0 := ct
  obtain ⟨hx, hZ, hown, hby, hml, hret, hlk, hnm⟩ := ct
  have N0 := Fr.nil n0
  refine castGo (ef_end32 m a t b fq zc) ?_
  unfold fEnd32
  show Go p e below s _ _ _ s₁ (mkF m 0 #[.val (.ref a)] [])
  refine go_st (fun _ kq => XS.aloadN X0.here hx rfl (hb hby d5_0) rfl rfl kq) ?_
  show Go p e below s _ _ _ s₁ (mkF m 1 #[.val (.ref a)] [(.ref a)])
  refine go_getF X0 hx hZ hown (host := "") (Or.inl (hw _ (List.mem_of_getElem? (i := 37) rfl))) Via.refl e0 P0 (hb hby d5_1) rfl rfl ?_
  intro T158 X158 e158
  show Go p e below s _ _ _ T158 (mkF m 4 #[.val (.ref a)] [(.int (2 : Int32))])
  refine go_st (fun _ kq => XS.aloadN X158.here hx rfl (hb hby d5_4) rfl rfl kq) ?_
  show Go p e below s _ _ _ T158 (mkF m 5 #[.val (.ref a)] [(.ref a), (.int (2 : Int32))])
  refine go_getF X158 hx hZ hown (host := "") (Or.inl (hw _ (List.mem_of_getElem? (i := 30) rfl))) Via.refl e158 P1 (hb hby d5_5) rfl rfl ?_
  intro T159 X159 e159
  show Go p e below s _ _ _ T159 (mkF m 8 #[.val (.ref a)] [(.ref t), (.int (2 : Int32))])
  refine go_callV X159 hx hZ hml hown (hw _ (List.mem_of_getElem? (i := 39) rfl)) (hw _ (List.mem_of_getElem? (i := 40) rfl)) (notFace_of_selects (args := #[]) (mvT hZ (hw _ (List.mem_of_getElem? (i := 42) rfl)))) (hw _ (List.mem_of_getElem? (i := 42) rfl)) (hw _ (List.mem_of_getElem? (i := 41) rfl)) (hw _ (List.mem_of_getElem? (i := 43) rfl)) (hw _ (List.mem_of_getElem? (i := 7) rfl)) e159 P2 (argsL := []) (rest := [(.int (2 : Int32))]) (W := 1) (met_len3 l Z a0 hw t b fq zc h0 n0 Z0 P2 P3 P4 P5 P6 P7 P8) (hb hby d5_8) rfl rfl rfl (lenOf pd5 rfl) (by show 2 * 0 + _ ≤ _; exact Nat.le_of_eq rfl) (by decide) (by decide) (by decide) (by decide) (by decide) ?_
  intro T160 v160 L160 X160 q160
  obtain ⟨rfl, M160, e160⟩ := q160
  have N160 := Fr.app N0 M160
  show Go p e below s _ _ _ T160 (mkF m 11 #[.val (.ref a)] [(.int (3 : Int32)), (.int (2 : Int32))])
  refine go_st (fun _ kq => XS.icmpYes X160.here hx rfl (pc0 := 11) (pc' := 18) rfl (hb hby d5_11) rfl (XT.ii_ne_t (by decide)) (by decide) (by decide) kq) ?_
  show Go p e below s _ _ _ T160 (mkF m 18 #[.val (.ref a)] [])
  refine go_st (fun _ kq => XT.iconstV X160.here hx rfl (0 : Int32) (hb hby d5_18) (by decide) kq) ?_
  show Go p e below s _ _ _ T160 (mkF m 19 #[.val (.ref a)] [(.int (0 : Int32))])
  exact go_retB (w := (0 : Int32)) X160 hx hlk hret (hb hby d5_19) (by decide) (by decide) (by decide) ⟨rfl, N160, e160⟩
def fEnd33  : Int32 := (1 : Int32)
theorem ef_end33 (m : MethodId) (a : Addr) (t : Addr) (b : Addr) (fq : Nat → Value) (zc : Int32) : entryFrame m #[(.ref a)] 1 = mkF m 0 #[.val (.ref a)] [] := by first | (simp [entryFrame, mkF, argsToLocals, Value.category]; done) | rfl
abbrev rm_end33 : Room := ({ frames := 2, cells := 0, slots := 0, locals := 26 } : Room)
set_option maxRecDepth 65536 in
set_option maxHeartbeats 4000000 in
theorem met_end33 (l : Launch) (Z : State) (a0 : Array Value) (hw : ∀ d ∈ tables_1, d.before a0 Z = true) (a : Addr) (t : Addr) (b : Addr) (fq : Nat → Value) (zc : Int32) (h0 : Heap) (n0 : Nat) (Z0 : n0 ≤ h0.size) (P0 : Fld Z h0 a "com/example/wirecall/wirecall/TextCursor" "pos" "I" (.int (3 : Int32))) (P1 : Fld Z h0 a "com/example/wirecall/wirecall/TextCursor" "text" "Ljava/lang/String;" (.ref t)) (P2 : Exa Z h0 t "java/lang/String") (P3 : Fld Z h0 t "java/lang/String" "value" "[B" (.ref b)) (P4 : Fld Z h0 t "java/lang/String" "coder" "B" (.int (0 : Int32))) (P5 : GA Z h0 b .byte 3 fq) (P6 : Old Z n0 h0) (P7 : Sta Z Z.heap "java/lang/String" "COMPACT_STRINGS" "Z" (.int zc)) (P8 : ¬ (zc = (0 : Int32))) :
    Met l (⟨"com/example/wirecall/wirecall/TextCursor", "atEnd", "()Z"⟩ : MethodName) prog_21_method_3_code 1 (some FieldType.boolean) [] rm_end33 Z #[(.ref a)] h0 (QV (some (.int (fEnd33 ))) h0 n0) 0 0 := by
  refine own_body pn10 ?_
  intro p e s m below meth c s₁ ct X0 e0
  have ct0 := ct
  obtain ⟨hx, hZ, hown, hby, hml, hret, hlk, hnm⟩ := ct
  have N0 := Fr.nil n0
  refine castGo (ef_end33 m a t b fq zc) ?_
  unfold fEnd33
  show Go p e below s _ _ _ s₁ (mkF m 0 #[.val (.ref a)] [])
  refine go_st (fun _ kq => XS.aloadN X0.here hx rfl (hb hby d5_0) rfl rfl kq) ?_
  show Go p e below s _ _ _ s₁ (mkF m 1 #[.val (.ref a)] [(.ref a)])
  refine go_getF X0 hx hZ hown (host := "") (Or.inl (hw _ (List.mem_of_getElem? (i := 37) rfl))) Via.refl e0 P0 (hb hby d5_1) rfl rfl ?_
  intro T161 X161 e161
  show Go p e below s _ _ _ T161 (mkF m 4 #[.val (.ref a)] [(.int (3 : Int32))])
  refine go_st (fun _ kq => XS.aloadN X161.here hx rfl (hb hby d5_4) rfl rfl kq) ?_
  show Go p e below s _ _ _ T161 (mkF m 5 #[.val (.ref a)] [(.ref a), (.int (3 : Int32))])
  refine go_getF X161 hx hZ hown (host := "") (Or.inl (hw _ (List.mem_of_getElem? (i := 30) rfl))) Via.refl e161 P1 (hb hby d5_5) rfl rfl ?_
  intro T162 X162 e162
  show Go p e below s _ _ _ T162 (mkF m 8 #[.val (.ref a)] [(.ref t), (.int (3 : Int32))])
  refine go_callV X162 hx hZ hml hown (hw _ (List.mem_of_getElem? (i := 39) rfl)) (hw _ (List.mem_of_getElem? (i := 40) rfl)) (notFace_of_selects (args := #[]) (mvT hZ (hw _ (List.mem_of_getElem? (i := 42) rfl)))) (hw _ (List.mem_of_getElem? (i := 42) rfl)) (hw _ (List.mem_of_getElem? (i := 41) rfl)) (hw _ (List.mem_of_getElem? (i := 43) rfl)) (hw _ (List.mem_of_getElem? (i := 7) rfl)) e162 P2 (argsL := []) (rest := [(.int (3 : Int32))]) (W := 1) (met_len3 l Z a0 hw t b fq zc h0 n0 Z0 P2 P3 P4 P5 P6 P7 P8) (hb hby d5_8) rfl rfl rfl (lenOf pd5 rfl) (by show 2 * 0 + _ ≤ _; exact Nat.le_of_eq rfl) (by decide) (by decide) (by decide) (by decide) (by decide) ?_
  intro T163 v163 L163 X163 q163
  obtain ⟨rfl, M163, e163⟩ := q163
  have N163 := Fr.app N0 M163
  show Go p e below s _ _ _ T163 (mkF m 11 #[.val (.ref a)] [(.int (3 : Int32)), (.int (3 : Int32))])
  refine go_st (fun _ kq => XS.icmpNo X163.here hx rfl (hb hby d5_11) rfl (XT.ii_ne_f (by decide)) kq) ?_
  show Go p e below s _ _ _ T163 (mkF m 14 #[.val (.ref a)] [])
  refine go_st (fun _ kq => XT.iconstV X163.here hx rfl (1 : Int32) (hb hby d5_14) (by decide) kq) ?_
  show Go p e below s _ _ _ T163 (mkF m 15 #[.val (.ref a)] [(.int (1 : Int32))])
  refine go_st (fun _ kq => XS.goto X163.here hx rfl (pc0 := 15) (pc' := 19) rfl (hb hby d5_15) (by decide) (by decide) kq) ?_
  show Go p e below s _ _ _ T163 (mkF m 19 #[.val (.ref a)] [(.int (1 : Int32))])
  exact go_retB (w := (1 : Int32)) X163 hx hlk hret (hb hby d5_19) (by decide) (by decide) (by decide) ⟨rfl, N163, e163⟩
theorem own_dn (x : Int32) (h0 : ¬ ((x &&& (3 : Int32)) = (0 : Int32))) (h1 : ¬ ((x &&& (3 : Int32)) = (1 : Int32))) (h2 : ¬ ((x &&& (3 : Int32)) = (2 : Int32))) (h3 : ¬ ((x &&& (3 : Int32)) = (3 : Int32))) : False := by
  have h := c_mask x 3 2 (by decide) (by decide)
  have k0 : ¬ ((x &&& (3 : Int32)).toInt = 0) := fun q => h0 (Int32.toInt_inj.mp q)
  have k1 : ¬ ((x &&& (3 : Int32)).toInt = 1) := fun q => h1 (Int32.toInt_inj.mp q)
  have k2 : ¬ ((x &&& (3 : Int32)).toInt = 2) := fun q => h2 (Int32.toInt_inj.mp q)
  have k3 : ¬ ((x &&& (3 : Int32)).toInt = 3) := fun q => h3 (Int32.toInt_inj.mp q)
  omega
theorem own_dk1 (x : Int32) (h0 : ¬ (((x &&& (2147483647 : Int32)) % (1 : Int32)) = (0 : Int32))) : False := by
  have h := c_mask x 2147483647 31 (by decide) (by decide)
  have hm : ((x &&& (2147483647 : Int32)) % (1 : Int32)).toInt = (x &&& (2147483647 : Int32)).toInt.tmod (1 : Int32).toInt := Int32.toInt_mod ..
  have e9 : (1 : Int32).toInt = 1 := rfl
  rw [e9, Int.tmod_eq_emod_of_nonneg (by omega)] at hm
  have k0 : ¬ (((x &&& (2147483647 : Int32)) % (1 : Int32)).toInt = 0) := fun q => h0 (Int32.toInt_inj.mp q)
  omega
theorem own_dk2 (x : Int32) (h0 : ¬ (((x &&& (2147483647 : Int32)) % (2 : Int32)) = (0 : Int32))) (h1 : ¬ (((x &&& (2147483647 : Int32)) % (2 : Int32)) = (1 : Int32))) : False := by
  have h := c_mask x 2147483647 31 (by decide) (by decide)
  have hm : ((x &&& (2147483647 : Int32)) % (2 : Int32)).toInt = (x &&& (2147483647 : Int32)).toInt.tmod (2 : Int32).toInt := Int32.toInt_mod ..
  have e9 : (2 : Int32).toInt = 2 := rfl
  rw [e9, Int.tmod_eq_emod_of_nonneg (by omega)] at hm
  have k0 : ¬ (((x &&& (2147483647 : Int32)) % (2 : Int32)).toInt = 0) := fun q => h0 (Int32.toInt_inj.mp q)
  have k1 : ¬ (((x &&& (2147483647 : Int32)) % (2 : Int32)).toInt = 1) := fun q => h1 (Int32.toInt_inj.mp q)
  omega
theorem own_dk3 (x : Int32) (h0 : ¬ (((x &&& (2147483647 : Int32)) % (3 : Int32)) = (0 : Int32))) (h1 : ¬ (((x &&& (2147483647 : Int32)) % (3 : Int32)) = (1 : Int32))) (h2 : ¬ (((x &&& (2147483647 : Int32)) % (3 : Int32)) = (2 : Int32))) : False := by
  have h := c_mask x 2147483647 31 (by decide) (by decide)
  have hm : ((x &&& (2147483647 : Int32)) % (3 : Int32)).toInt = (x &&& (2147483647 : Int32)).toInt.tmod (3 : Int32).toInt := Int32.toInt_mod ..
  have e9 : (3 : Int32).toInt = 3 := rfl
  rw [e9, Int.tmod_eq_emod_of_nonneg (by omega)] at hm
  have k0 : ¬ (((x &&& (2147483647 : Int32)) % (3 : Int32)).toInt = 0) := fun q => h0 (Int32.toInt_inj.mp q)
  have k1 : ¬ (((x &&& (2147483647 : Int32)) % (3 : Int32)).toInt = 1) := fun q => h1 (Int32.toInt_inj.mp q)
  have k2 : ¬ (((x &&& (2147483647 : Int32)) % (3 : Int32)).toInt = 2) := fun q => h2 (Int32.toInt_inj.mp q)
  omega
theorem own_dk4 (x : Int32) (h0 : ¬ (((x &&& (2147483647 : Int32)) % (4 : Int32)) = (0 : Int32))) (h1 : ¬ (((x &&& (2147483647 : Int32)) % (4 : Int32)) = (1 : Int32))) (h2 : ¬ (((x &&& (2147483647 : Int32)) % (4 : Int32)) = (2 : Int32))) (h3 : ¬ (((x &&& (2147483647 : Int32)) % (4 : Int32)) = (3 : Int32))) : False := by
  have h := c_mask x 2147483647 31 (by decide) (by decide)
  have hm : ((x &&& (2147483647 : Int32)) % (4 : Int32)).toInt = (x &&& (2147483647 : Int32)).toInt.tmod (4 : Int32).toInt := Int32.toInt_mod ..
  have e9 : (4 : Int32).toInt = 4 := rfl
  rw [e9, Int.tmod_eq_emod_of_nonneg (by omega)] at hm
  have k0 : ¬ (((x &&& (2147483647 : Int32)) % (4 : Int32)).toInt = 0) := fun q => h0 (Int32.toInt_inj.mp q)
  have k1 : ¬ (((x &&& (2147483647 : Int32)) % (4 : Int32)).toInt = 1) := fun q => h1 (Int32.toInt_inj.mp q)
  have k2 : ¬ (((x &&& (2147483647 : Int32)) % (4 : Int32)).toInt = 2) := fun q => h2 (Int32.toInt_inj.mp q)
  have k3 : ¬ (((x &&& (2147483647 : Int32)) % (4 : Int32)).toInt = 3) := fun q => h3 (Int32.toInt_inj.mp q)
  omega
theorem pn11 : plainFor x = true := by first | (refine plainFor_of_name ?_; simp [plainName, overriddenIn]; done) | (refine plainFor_of_name ?_; decide +kernel) | decide +kernel
theorem pd6 : parseMethodDescriptor "([C)V" = some ⟨[(.array .char)], none⟩ := by decide +kernel
theorem pd7 : parseMethodDescriptor "(Ljava/lang/String;)V" = some ⟨[(.object "java/lang/String")], none⟩ := by decide +kernel
theorem pd8 : parseMethodDescriptor "()Z" = some ⟨[], (some .boolean)⟩ := by decide +kernel
theorem pd9 : parseMethodDescriptor "()V" = some ⟨[], none⟩ := by decide +kernel
theorem ef_law (m : MethodId) (x0 : Int32) (x1 : Int32) (x2 : Int32) (x3 : Int32) (x4 : Int32) : entryFrame m #[(.int x0), (.int x1), (.int x2), (.int x3), (.int x4)] maxLocals = mkF m 0 #[.val (.int x0), .val (.int x1), .val (.int x2), .val (.int x3), .val (.int x4), .unset, .unset, .unset, .unset, .unset, .unset, .unset, .unset, .unset, .unset] [] := by first | (simp [entryFrame, mkF, argsToLocals, Value.category, maxLocals]; done) | rfl
set_option maxRecDepth 65536 in
set_option maxHeartbeats 4000000 in
theorem met_law (l : Launch) (Z : State) (a0 : Array Value) (hw : ∀ d ∈ tables_1, d.before a0 Z = true) (x0 : Int32) (x1 : Int32) (x2 : Int32) (x3 : Int32) (x4 : Int32) (h0 : Heap) (n0 : Nat) (Z0 : n0 ≤ h0.size) (zc : Int32) (O0 : Old Z n0 h0) (S0 : Sta Z Z.heap "java/lang/String" "COMPACT_STRINGS" "Z" (.int zc)) (zn : ¬ (zc = (0 : Int32))) :
    MetW l x code maxLocals ret tables_1 room_1 Z consts_1 h0.size #[(.int x0), (.int x1), (.int x2), (.int x3), (.int x4)] h0 (QF (some (.int (1 : Int32))) n0) 24 1152 := by
  refine own_bodyW pn11 ?_
  intro p e s m below meth c s₁ ct X0 e0 hC0 hSa0
  have ct0 := ct
  obtain ⟨hx, hZ, hown, hby, hml, hret, hlk, hnm⟩ := ct
  have N0 := Fr.nil n0
  refine castGoW (ef_law m x0 x1 x2 x3 x4) ?_
  show GoW p e below s _ _ _ s₁ (mkF m 0 #[.val (.int x0), .val (.int x1), .val (.int x2), .val (.int x3), .val (.int x4), .unset, .unset, .unset, .unset, .unset, .unset, .unset, .unset, .unset, .unset] [])
  refine gw_st (fun _ kq => XS.iloadN X0.here hx rfl (hb hby at_0) rfl kq) ?_
  show GoW p e below s _ _ _ s₁ (mkF m 1 #[.val (.int x0), .val (.int x1), .val (.int x2), .val (.int x3), .val (.int x4), .unset, .unset, .unset, .unset, .unset, .unset, .unset, .unset, .unset, .unset] [(.int x0)])
  refine gw_st (fun _ kq => XT.iconstV X0.here hx rfl (3 : Int32) (hb hby at_1) (by decide) kq) ?_
  show GoW p e below s _ _ _ s₁ (mkF m 2 #[.val (.int x0), .val (.int x1), .val (.int x2), .val (.int x3), .val (.int x4), .unset, .unset, .unset, .unset, .unset, .unset, .unset, .unset, .unset, .unset] [(.int (3 : Int32)), (.int x0)])
  refine gw_st (fun _ kq => XS.iand X0.here hx rfl (hb hby at_2) rfl kq) ?_
  show GoW p e below s _ _ _ s₁ (mkF m 3 #[.val (.int x0), .val (.int x1), .val (.int x2), .val (.int x3), .val (.int x4), .unset, .unset, .unset, .unset, .unset, .unset, .unset, .unset, .unset, .unset] [(.int (x0 &&& (3 : Int32)))])
  refine gw_st (fun _ kq => XS.istore X0.here hx rfl (hb hby at_3) rfl (l' := #[.val (.int x0), .val (.int x1), .val (.int x2), .val (.int x3), .val (.int x4), .val (.int (x0 &&& (3 : Int32))), .unset, .unset, .unset, .unset, .unset, .unset, .unset, .unset, .unset]) rfl kq) ?_
  show GoW p e below s _ _ _ s₁ (mkF m 5 #[.val (.int x0), .val (.int x1), .val (.int x2), .val (.int x3), .val (.int x4), .val (.int (x0 &&& (3 : Int32))), .unset, .unset, .unset, .unset, .unset, .unset, .unset, .unset, .unset] [])
  by_cases hk164 : (x0 &&& (3 : Int32)) = (0 : Int32)
  · rw [hk164]
    show GoW p e below s _ _ _ s₁ (mkF m 5 #[.val (.int x0), .val (.int x1), .val (.int x2), .val (.int x3), .val (.int x4), .val (.int (0 : Int32)), .unset, .unset, .unset, .unset, .unset, .unset, .unset, .unset, .unset] [])
    refine gw_st (fun _ kq => XS.iloadN X0.here hx rfl (hb hby at_5) rfl kq) ?_
    show GoW p e below s _ _ _ s₁ (mkF m 6 #[.val (.int x0), .val (.int x1), .val (.int x2), .val (.int x3), .val (.int x4), .val (.int (0 : Int32)), .unset, .unset, .unset, .unset, .unset, .unset, .unset, .unset, .unset] [(.int x1)])
    refine gw_st (fun _ kq => Jvm.Stand.ldcI X0 hx hown (mvT hZ (hw _ (List.mem_of_getElem? (i := 0) rfl))) rfl (hb hby at_6) kq) ?_
    show GoW p e below s _ _ _ s₁ (mkF m 8 #[.val (.int x0), .val (.int x1), .val (.int x2), .val (.int x3), .val (.int x4), .val (.int (0 : Int32)), .unset, .unset, .unset, .unset, .unset, .unset, .unset, .unset, .unset] [(.int (2147483647 : Int32)), (.int x1)])
    refine gw_st (fun _ kq => XS.iand X0.here hx rfl (hb hby at_8) rfl kq) ?_
    show GoW p e below s _ _ _ s₁ (mkF m 9 #[.val (.int x0), .val (.int x1), .val (.int x2), .val (.int x3), .val (.int x4), .val (.int (0 : Int32)), .unset, .unset, .unset, .unset, .unset, .unset, .unset, .unset, .unset] [(.int (x1 &&& (2147483647 : Int32)))])
    refine gw_st (fun _ kq => XS.iload X0.here hx rfl (hb hby at_9) rfl kq) ?_
    show GoW p e below s _ _ _ s₁ (mkF m 11 #[.val (.int x0), .val (.int x1), .val (.int x2), .val (.int x3), .val (.int x4), .val (.int (0 : Int32)), .unset, .unset, .unset, .unset, .unset, .unset, .unset, .unset, .unset] [(.int (0 : Int32)), (.int (x1 &&& (2147483647 : Int32)))])
    refine gw_st (fun _ kq => XT.iconstV X0.here hx rfl (1 : Int32) (hb hby at_11) (by decide) kq) ?_
    show GoW p e below s _ _ _ s₁ (mkF m 12 #[.val (.int x0), .val (.int x1), .val (.int x2), .val (.int x3), .val (.int x4), .val (.int (0 : Int32)), .unset, .unset, .unset, .unset, .unset, .unset, .unset, .unset, .unset] [(.int (1 : Int32)), (.int (0 : Int32)), (.int (x1 &&& (2147483647 : Int32)))])
    refine gw_st (fun _ kq => XS.iadd X0.here hx rfl (hb hby at_12) rfl kq) ?_
    rw [show ((0 : Int32) + (1 : Int32)) = (1 : Int32) from by decide +kernel]
    show GoW p e below s _ _ _ s₁ (mkF m 13 #[.val (.int x0), .val (.int x1), .val (.int x2), .val (.int x3), .val (.int x4), .val (.int (0 : Int32)), .unset, .unset, .unset, .unset, .unset, .unset, .unset, .unset, .unset] [(.int (1 : Int32)), (.int (x1 &&& (2147483647 : Int32)))])
    refine gw_st (fun _ kq => iremM X0 hx rfl (hb hby at_13) rfl (by decide) kq) ?_
    show GoW p e below s _ _ _ s₁ (mkF m 14 #[.val (.int x0), .val (.int x1), .val (.int x2), .val (.int x3), .val (.int x4), .val (.int (0 : Int32)), .unset, .unset, .unset, .unset, .unset, .unset, .unset, .unset, .unset] [(.int ((x1 &&& (2147483647 : Int32)) % (1 : Int32)))])
    refine gw_st (fun _ kq => XS.istore X0.here hx rfl (hb hby at_14) rfl (l' := #[.val (.int x0), .val (.int x1), .val (.int x2), .val (.int x3), .val (.int x4), .val (.int (0 : Int32)), .val (.int ((x1 &&& (2147483647 : Int32)) % (1 : Int32))), .unset, .unset, .unset, .unset, .unset, .unset, .unset, .unset]) rfl kq) ?_
    show GoW p e below s _ _ _ s₁ (mkF m 16 #[.val (.int x0), .val (.int x1), .val (.int x2), .val (.int x3), .val (.int x4), .val (.int (0 : Int32)), .val (.int ((x1 &&& (2147483647 : Int32)) % (1 : Int32))), .unset, .unset, .unset, .unset, .unset, .unset, .unset, .unset] [])
    by_cases hk165 : ((x1 &&& (2147483647 : Int32)) % (1 : Int32)) = (0 : Int32)
    · rw [hk165]
      show GoW p e below s _ _ _ s₁ (mkF m 16 #[.val (.int x0), .val (.int x1), .val (.int x2), .val (.int x3), .val (.int x4), .val (.int (0 : Int32)), .val (.int (0 : Int32)), .unset, .unset, .unset, .unset, .unset, .unset, .unset, .unset] [])
      refine gw_st (fun _ kq => XS.iloadN X0.here hx rfl (hb hby at_16) rfl kq) ?_
      show GoW p e below s _ _ _ s₁ (mkF m 17 #[.val (.int x0), .val (.int x1), .val (.int x2), .val (.int x3), .val (.int x4), .val (.int (0 : Int32)), .val (.int (0 : Int32)), .unset, .unset, .unset, .unset, .unset, .unset, .unset, .unset] [(.int x2)])
      refine gw_st (fun _ kq => XT.sipushV X0.here hx rfl (255 : Int32) (hb hby at_17) (by decide) kq) ?_
      show GoW p e below s _ _ _ s₁ (mkF m 20 #[.val (.int x0), .val (.int x1), .val (.int x2), .val (.int x3), .val (.int x4), .val (.int (0 : Int32)), .val (.int (0 : Int32)), .unset, .unset, .unset, .unset, .unset, .unset, .unset, .unset] [(.int (255 : Int32)), (.int x2)])
      refine gw_st (fun _ kq => XS.iand X0.here hx rfl (hb hby at_20) rfl kq) ?_
      show GoW p e below s _ _ _ s₁ (mkF m 21 #[.val (.int x0), .val (.int x1), .val (.int x2), .val (.int x3), .val (.int x4), .val (.int (0 : Int32)), .val (.int (0 : Int32)), .unset, .unset, .unset, .unset, .unset, .unset, .unset, .unset] [(.int (x2 &&& (255 : Int32)))])
      refine gw_st (fun _ kq => XT.i2c X0.here hx rfl (hb hby at_21) rfl kq) ?_
      rw [own_i2c]
      show GoW p e below s _ _ _ s₁ (mkF m 22 #[.val (.int x0), .val (.int x1), .val (.int x2), .val (.int x3), .val (.int x4), .val (.int (0 : Int32)), .val (.int (0 : Int32)), .unset, .unset, .unset, .unset, .unset, .unset, .unset, .unset] [(.int (x2 &&& (255 : Int32)))])
      refine gw_st (fun _ kq => XS.istore X0.here hx rfl (hb hby at_22) rfl (l' := #[.val (.int x0), .val (.int x1), .val (.int x2), .val (.int x3), .val (.int x4), .val (.int (0 : Int32)), .val (.int (0 : Int32)), .val (.int (x2 &&& (255 : Int32))), .unset, .unset, .unset, .unset, .unset, .unset, .unset]) rfl kq) ?_
      show GoW p e below s _ _ _ s₁ (mkF m 24 #[.val (.int x0), .val (.int x1), .val (.int x2), .val (.int x3), .val (.int x4), .val (.int (0 : Int32)), .val (.int (0 : Int32)), .val (.int (x2 &&& (255 : Int32))), .unset, .unset, .unset, .unset, .unset, .unset, .unset] [])
      refine gw_st (fun _ kq => XS.iloadN X0.here hx rfl (hb hby at_24) rfl kq) ?_
      show GoW p e below s _ _ _ s₁ (mkF m 25 #[.val (.int x0), .val (.int x1), .val (.int x2), .val (.int x3), .val (.int x4), .val (.int (0 : Int32)), .val (.int (0 : Int32)), .val (.int (x2 &&& (255 : Int32))), .unset, .unset, .unset, .unset, .unset, .unset, .unset] [(.int x3)])
      refine gw_st (fun _ kq => XT.sipushV X0.here hx rfl (255 : Int32) (hb hby at_25) (by decide) kq) ?_
      show GoW p e below s _ _ _ s₁ (mkF m 28 #[.val (.int x0), .val (.int x1), .val (.int x2), .val (.int x3), .val (.int x4), .val (.int (0 : Int32)), .val (.int (0 : Int32)), .val (.int (x2 &&& (255 : Int32))), .unset, .unset, .unset, .unset, .unset, .unset, .unset] [(.int (255 : Int32)), (.int x3)])
      refine gw_st (fun _ kq => XS.iand X0.here hx rfl (hb hby at_28) rfl kq) ?_
      show GoW p e below s _ _ _ s₁ (mkF m 29 #[.val (.int x0), .val (.int x1), .val (.int x2), .val (.int x3), .val (.int x4), .val (.int (0 : Int32)), .val (.int (0 : Int32)), .val (.int (x2 &&& (255 : Int32))), .unset, .unset, .unset, .unset, .unset, .unset, .unset] [(.int (x3 &&& (255 : Int32)))])
      refine gw_st (fun _ kq => XT.i2c X0.here hx rfl (hb hby at_29) rfl kq) ?_
      rw [own_i2c]
      show GoW p e below s _ _ _ s₁ (mkF m 30 #[.val (.int x0), .val (.int x1), .val (.int x2), .val (.int x3), .val (.int x4), .val (.int (0 : Int32)), .val (.int (0 : Int32)), .val (.int (x2 &&& (255 : Int32))), .unset, .unset, .unset, .unset, .unset, .unset, .unset] [(.int (x3 &&& (255 : Int32)))])
      refine gw_st (fun _ kq => XS.istore X0.here hx rfl (hb hby at_30) rfl (l' := #[.val (.int x0), .val (.int x1), .val (.int x2), .val (.int x3), .val (.int x4), .val (.int (0 : Int32)), .val (.int (0 : Int32)), .val (.int (x2 &&& (255 : Int32))), .val (.int (x3 &&& (255 : Int32))), .unset, .unset, .unset, .unset, .unset, .unset]) rfl kq) ?_
      show GoW p e below s _ _ _ s₁ (mkF m 32 #[.val (.int x0), .val (.int x1), .val (.int x2), .val (.int x3), .val (.int x4), .val (.int (0 : Int32)), .val (.int (0 : Int32)), .val (.int (x2 &&& (255 : Int32))), .val (.int (x3 &&& (255 : Int32))), .unset, .unset, .unset, .unset, .unset, .unset] [])
      refine gw_st (fun _ kq => XS.iload X0.here hx rfl (hb hby at_32) rfl kq) ?_
      show GoW p e below s _ _ _ s₁ (mkF m 34 #[.val (.int x0), .val (.int x1), .val (.int x2), .val (.int x3), .val (.int x4), .val (.int (0 : Int32)), .val (.int (0 : Int32)), .val (.int (x2 &&& (255 : Int32))), .val (.int (x3 &&& (255 : Int32))), .unset, .unset, .unset, .unset, .unset, .unset] [(.int x4)])
      refine gw_st (fun _ kq => XT.sipushV X0.here hx rfl (255 : Int32) (hb hby at_34) (by decide) kq) ?_
      show GoW p e below s _ _ _ s₁ (mkF m 37 #[.val (.int x0), .val (.int x1), .val (.int x2), .val (.int x3), .val (.int x4), .val (.int (0 : Int32)), .val (.int (0 : Int32)), .val (.int (x2 &&& (255 : Int32))), .val (.int (x3 &&& (255 : Int32))), .unset, .unset, .unset, .unset, .unset, .unset] [(.int (255 : Int32)), (.int x4)])
      refine gw_st (fun _ kq => XS.iand X0.here hx rfl (hb hby at_37) rfl kq) ?_
      show GoW p e below s _ _ _ s₁ (mkF m 38 #[.val (.int x0), .val (.int x1), .val (.int x2), .val (.int x3), .val (.int x4), .val (.int (0 : Int32)), .val (.int (0 : Int32)), .val (.int (x2 &&& (255 : Int32))), .val (.int (x3 &&& (255 : Int32))), .unset, .unset, .unset, .unset, .unset, .unset] [(.int (x4 &&& (255 : Int32)))])
      refine gw_st (fun _ kq => XT.i2c X0.here hx rfl (hb hby at_38) rfl kq) ?_
      rw [own_i2c]
      show GoW p e below s _ _ _ s₁ (mkF m 39 #[.val (.int x0), .val (.int x1), .val (.int x2), .val (.int x3), .val (.int x4), .val (.int (0 : Int32)), .val (.int (0 : Int32)), .val (.int (x2 &&& (255 : Int32))), .val (.int (x3 &&& (255 : Int32))), .unset, .unset, .unset, .unset, .unset, .unset] [(.int (x4 &&& (255 : Int32)))])
      refine gw_st (fun _ kq => XS.istore X0.here hx rfl (hb hby at_39) rfl (l' := #[.val (.int x0), .val (.int x1), .val (.int x2), .val (.int x3), .val (.int x4), .val (.int (0 : Int32)), .val (.int (0 : Int32)), .val (.int (x2 &&& (255 : Int32))), .val (.int (x3 &&& (255 : Int32))), .val (.int (x4 &&& (255 : Int32))), .unset, .unset, .unset, .unset, .unset]) rfl kq) ?_
      show GoW p e below s _ _ _ s₁ (mkF m 41 #[.val (.int x0), .val (.int x1), .val (.int x2), .val (.int x3), .val (.int x4), .val (.int (0 : Int32)), .val (.int (0 : Int32)), .val (.int (x2 &&& (255 : Int32))), .val (.int (x3 &&& (255 : Int32))), .val (.int (x4 &&& (255 : Int32))), .unset, .unset, .unset, .unset, .unset] [])
      refine gw_st (fun _ kq => XS.iload X0.here hx rfl (hb hby at_41) rfl kq) ?_
      show GoW p e below s _ _ _ s₁ (mkF m 43 #[.val (.int x0), .val (.int x1), .val (.int x2), .val (.int x3), .val (.int x4), .val (.int (0 : Int32)), .val (.int (0 : Int32)), .val (.int (x2 &&& (255 : Int32))), .val (.int (x3 &&& (255 : Int32))), .val (.int (x4 &&& (255 : Int32))), .unset, .unset, .unset, .unset, .unset] [(.int (0 : Int32))])
      refine gw_st (fun _ kq => XS.ifNo X0.here hx rfl (hb hby at_43) rfl (XT.i0_ne_f (by decide)) kq) ?_
      show GoW p e below s _ _ _ s₁ (mkF m 46 #[.val (.int x0), .val (.int x1), .val (.int x2), .val (.int x3), .val (.int x4), .val (.int (0 : Int32)), .val (.int (0 : Int32)), .val (.int (x2 &&& (255 : Int32))), .val (.int (x3 &&& (255 : Int32))), .val (.int (x4 &&& (255 : Int32))), .unset, .unset, .unset, .unset, .unset] [])
      refine gw_st (fun _ kq => XT.iconstV X0.here hx rfl (0 : Int32) (hb hby at_46) (by decide) kq) ?_
      show GoW p e below s _ _ _ s₁ (mkF m 47 #[.val (.int x0), .val (.int x1), .val (.int x2), .val (.int x3), .val (.int x4), .val (.int (0 : Int32)), .val (.int (0 : Int32)), .val (.int (x2 &&& (255 : Int32))), .val (.int (x3 &&& (255 : Int32))), .val (.int (x4 &&& (255 : Int32))), .unset, .unset, .unset, .unset, .unset] [(.int (0 : Int32))])
      refine gw_newP X0 hx hZ (hw _ (List.mem_of_getElem? (i := 1) rfl)) e0 (hb hby at_47) rfl rfl 0 (by decide) 0 (Nat.le_refl _) (by decide) (by decide) (by decide) ?_
      intro T166 h166 a166 g166 X166 e166 E166 G166
      have nw_a166 : n0 ≤ a166 := Nat.le_trans Z0 (Nat.le_of_eq g166.symm)
      have sf167_a166 := Safe.ext E166 hC0 (Safe.new (Nat.le_of_eq g166.symm))
      have ch167 := CHv.ext E166 hC0
      have lt_a166 : a166 < h166.size := G166.lt
      have A166 : GA Z h166 a166 .char 0 (fun i => .int (own_c3 (0 : Int32) (0 : Int32) (0 : Int32) i)) := (GA.congr G166 (fun i _ => own_z3 i))
      show GoW p e below s _ _ _ T166 (mkF m 49 #[.val (.int x0), .val (.int x1), .val (.int x2), .val (.int x3), .val (.int x4), .val (.int (0 : Int32)), .val (.int (0 : Int32)), .val (.int (x2 &&& (255 : Int32))), .val (.int (x3 &&& (255 : Int32))), .val (.int (x4 &&& (255 : Int32))), .unset, .unset, .unset, .unset, .unset] [(.ref a166)])
      refine gw_st (fun _ kq => XS.astore X166.here hx rfl (hb hby at_49) rfl rfl (l' := #[.val (.int x0), .val (.int x1), .val (.int x2), .val (.int x3), .val (.int x4), .val (.int (0 : Int32)), .val (.int (0 : Int32)), .val (.int (x2 &&& (255 : Int32))), .val (.int (x3 &&& (255 : Int32))), .val (.int (x4 &&& (255 : Int32))), .val (.ref a166), .unset, .unset, .unset, .unset]) rfl kq) ?_
      show GoW p e below s _ _ _ T166 (mkF m 51 #[.val (.int x0), .val (.int x1), .val (.int x2), .val (.int x3), .val (.int x4), .val (.int (0 : Int32)), .val (.int (0 : Int32)), .val (.int (x2 &&& (255 : Int32))), .val (.int (x3 &&& (255 : Int32))), .val (.int (x4 &&& (255 : Int32))), .val (.ref a166), .unset, .unset, .unset, .unset] [])
      refine gw_st (fun _ kq => XS.goto X166.here hx rfl (pc0 := 51) (pc' := 117) rfl (hb hby at_51) (by decide) (by decide) kq) ?_
      show GoW p e below s _ _ _ T166 (mkF m 117 #[.val (.int x0), .val (.int x1), .val (.int x2), .val (.int x3), .val (.int x4), .val (.int (0 : Int32)), .val (.int (0 : Int32)), .val (.int (x2 &&& (255 : Int32))), .val (.int (x3 &&& (255 : Int32))), .val (.int (x4 &&& (255 : Int32))), .val (.ref a166), .unset, .unset, .unset, .unset] [])
      refine gw_newO X166 hx hZ hown (hw _ (List.mem_of_getElem? (i := 2) rfl)) (hw _ (List.mem_of_getElem? (i := 3) rfl)) (hw _ (List.mem_of_getElem? (i := 4) rfl)) e166 (hb hby at_117) rfl (by decide) (by decide) ?_
      intro T168 h168 a168 g168 X168 e168 E168 A168 D168
      have y169 : h0.size ≤ h166.size := Nat.le_trans (Nat.le_refl _) E166.1
      have ne170 : a166 ≠ a168 := fun q => Nat.lt_irrefl _ (Nat.lt_of_lt_of_le lt_a166 (Nat.le_of_eq (g168.symm.trans q.symm)))
      have z171 : n0 ≤ h166.size := Nat.le_trans Z0 E166.1
      have nw_a168 : n0 ≤ a168 := Nat.le_trans z171 (Nat.le_of_eq g168.symm)
      have sf172_a166 := Safe.ext E168 ch167 sf167_a166
      have sf172_a168 := Safe.ext E168 ch167 (Safe.new (Nat.le_of_eq g168.symm))
      have ch172 := CHv.ext E168 ch167
      have lt_a168 : a168 < h168.size := A168.lt
      have F173 : Fld Z h168 a168 "com/example/wirecall/wirecall/TextCursor" "text" "Ljava/lang/String;" .null := D168 (Or.inr (hw _ (List.mem_of_getElem? (i := 31) rfl))) (ty := (.object "java/lang/String")) (by decide)
      have F174 : Fld Z h168 a168 "com/example/wirecall/wirecall/TextCursor" "pos" "I" (.int (0 : Int32)) := D168 (Or.inl (hw _ (List.mem_of_getElem? (i := 38) rfl))) (ty := .int) (by decide)
      show GoW p e below s _ _ _ T168 (mkF m 120 #[.val (.int x0), .val (.int x1), .val (.int x2), .val (.int x3), .val (.int x4), .val (.int (0 : Int32)), .val (.int (0 : Int32)), .val (.int (x2 &&& (255 : Int32))), .val (.int (x3 &&& (255 : Int32))), .val (.int (x4 &&& (255 : Int32))), .val (.ref a166), .unset, .unset, .unset, .unset] [(.ref a168)])
      refine gw_st (fun _ kq => XS.dup X168.here hx rfl (hb hby at_120) rfl rfl kq) ?_
      show GoW p e below s _ _ _ T168 (mkF m 121 #[.val (.int x0), .val (.int x1), .val (.int x2), .val (.int x3), .val (.int x4), .val (.int (0 : Int32)), .val (.int (0 : Int32)), .val (.int (x2 &&& (255 : Int32))), .val (.int (x3 &&& (255 : Int32))), .val (.int (x4 &&& (255 : Int32))), .val (.ref a166), .unset, .unset, .unset, .unset] [(.ref a168), (.ref a168)])
      refine gw_newO X168 hx hZ hown (hw _ (List.mem_of_getElem? (i := 5) rfl)) (hw _ (List.mem_of_getElem? (i := 6) rfl)) (hw _ (List.mem_of_getElem? (i := 7) rfl)) e168 (hb hby at_121) rfl (by decide) (by decide) ?_
      intro T175 h175 a175 g175 X175 e175 E175 A175 D175
      have y176 : h0.size ≤ h168.size := Nat.le_trans y169 E168.1
      have c177 : a166 < h168.size := Nat.lt_of_lt_of_le lt_a166 E168.1
      have ne178 : a166 ≠ a175 := fun q => Nat.lt_irrefl _ (Nat.lt_of_lt_of_le c177 (Nat.le_of_eq (g175.symm.trans q.symm)))
      have ne179 : a168 ≠ a175 := fun q => Nat.lt_irrefl _ (Nat.lt_of_lt_of_le lt_a168 (Nat.le_of_eq (g175.symm.trans q.symm)))
      have z180 : n0 ≤ h168.size := Nat.le_trans z171 E168.1
      have nw_a175 : n0 ≤ a175 := Nat.le_trans z180 (Nat.le_of_eq g175.symm)
      have sf181_a166 := Safe.ext E175 ch172 sf172_a166
      have sf181_a168 := Safe.ext E175 ch172 sf172_a168
      have sf181_a175 := Safe.ext E175 ch172 (Safe.new (Nat.le_of_eq g175.symm))
      have ch181 := CHv.ext E175 ch172
      have lt_a175 : a175 < h175.size := A175.lt
      have F182 : Fld Z h175 a175 "java/lang/String" "value" "[B" .null := D175 (Or.inr (hw _ (List.mem_of_getElem? (i := 20) rfl))) (ty := (.array .byte)) (by decide)
      have F183 : Fld Z h175 a175 "java/lang/String" "coder" "B" (.int (0 : Int32)) := D175 (Or.inr (hw _ (List.mem_of_getElem? (i := 21) rfl))) (ty := .byte) (by decide)
      show GoW p e below s _ _ _ T175 (mkF m 124 #[.val (.int x0), .val (.int x1), .val (.int x2), .val (.int x3), .val (.int x4), .val (.int (0 : Int32)), .val (.int (0 : Int32)), .val (.int (x2 &&& (255 : Int32))), .val (.int (x3 &&& (255 : Int32))), .val (.int (x4 &&& (255 : Int32))), .val (.ref a166), .unset, .unset, .unset, .unset] [(.ref a175), (.ref a168), (.ref a168)])
      refine gw_st (fun _ kq => XS.dup X175.here hx rfl (hb hby at_124) rfl rfl kq) ?_
      show GoW p e below s _ _ _ T175 (mkF m 125 #[.val (.int x0), .val (.int x1), .val (.int x2), .val (.int x3), .val (.int x4), .val (.int (0 : Int32)), .val (.int (0 : Int32)), .val (.int (x2 &&& (255 : Int32))), .val (.int (x3 &&& (255 : Int32))), .val (.int (x4 &&& (255 : Int32))), .val (.ref a166), .unset, .unset, .unset, .unset] [(.ref a175), (.ref a175), (.ref a168), (.ref a168)])
      refine gw_st (fun _ kq => XS.aload X175.here hx rfl (hb hby at_125) rfl rfl kq) ?_
      show GoW p e below s _ _ _ T175 (mkF m 127 #[.val (.int x0), .val (.int x1), .val (.int x2), .val (.int x3), .val (.int x4), .val (.int (0 : Int32)), .val (.int (0 : Int32)), .val (.int (x2 &&& (255 : Int32))), .val (.int (x3 &&& (255 : Int32))), .val (.int (x4 &&& (255 : Int32))), .val (.ref a166), .unset, .unset, .unset, .unset] [(.ref a166), (.ref a175), (.ref a175), (.ref a168), (.ref a168)])
      have c185 := A166.ext E168
      have c186 := c185.ext E175
      have z187 : n0 ≤ h175.size := Nat.le_trans z180 E175.1
      refine gw_callIW X175 hx hZ hml hown rfl (hw _ (List.mem_of_getElem? (i := 8) rfl)) (hw _ (List.mem_of_getElem? (i := 9) rfl)) (hw _ (List.mem_of_getElem? (i := 10) rfl)) (hw _ (List.mem_of_getElem? (i := 7) rfl)) e175 (own_EL Z a0 hw) ch181 lt_a175 sf181_a175 (argsL := [(.ref a166)]) (rest := [(.ref a175), (.ref a168), (.ref a168)]) (W := 3) (met_s0 l Z a0 hw a175 a166 (fun i => .int (own_c3 (0 : Int32) (0 : Int32) (0 : Int32) i)) h175 n0 z187 A175 F182 F183 nw_a175 c186) (hb hby at_127) rfl rfl rfl (lenOf pd6 rfl) (by show 2 * 0 + _ ≤ _; exact Nat.le_of_eq rfl) (by decide) (by decide) (by decide) (by decide) (by decide) ?_
      intro s T184 v184 L184 hZ hown X184 q184
      obtain ⟨r_184, rfl, M184, K184, f184_0, f184_1, f184_2, f184_3⟩ := q184
      have N184 := Fr.app N0 M184
      have c189 := Exa.ext E175 A168
      have c190 := Exa.keep c189 K184
      have nx188 := own_exaga c190 f184_3 (hw _ (List.mem_of_getElem? (i := 3) rfl))
      have nx191 := own_exaga f184_0 f184_3 (hw _ (List.mem_of_getElem? (i := 6) rfl))
      show GoW p e below s _ _ _ T184 (mkF m 130 #[.val (.int x0), .val (.int x1), .val (.int x2), .val (.int x3), .val (.int x4), .val (.int (0 : Int32)), .val (.int (0 : Int32)), .val (.int (x2 &&& (255 : Int32))), .val (.int (x3 &&& (255 : Int32))), .val (.int (x4 &&& (255 : Int32))), .val (.ref a166), .unset, .unset, .unset, .unset] [(.ref a175), (.ref a168), (.ref a168)])
      have c193 := Fld.ext E175 F173
      have c194 := Fld.keep c193 K184 (ninS ne179 nin0)
      have c195 := Fld.ext E175 F174
      have c196 := Fld.keep c195 K184 (ninS ne179 nin0)
      have z197 : n0 ≤ T184.heap.size := Nat.le_trans z187 K184.1
      refine gw_callI X184 hx hZ hml hown rfl (hw _ (List.mem_of_getElem? (i := 26) rfl)) (hw _ (List.mem_of_getElem? (i := 27) rfl)) (hw _ (List.mem_of_getElem? (i := 28) rfl)) (hw _ (List.mem_of_getElem? (i := 4) rfl)) rfl (argsL := [(.ref a175)]) (rest := [(.ref a168)]) (W := 1) (met_tci l Z a0 hw a168 a175 T184.heap n0 z197 c190 c194 c196 nw_a168) (hb hby at_130) rfl rfl rfl (lenOf pd7 rfl) (by show 2 * 0 + _ ≤ _; exact Nat.le_of_eq rfl) (by decide) (by decide) (by decide) (by decide) (by decide) ?_
      intro T192 v192 L192 X192 q192
      obtain ⟨rfl, M192, K192, f192_0, f192_1⟩ := q192
      have N192 := Fr.app N184 M192
      show GoW p e below s _ _ _ T192 (mkF m 133 #[.val (.int x0), .val (.int x1), .val (.int x2), .val (.int x3), .val (.int x4), .val (.int (0 : Int32)), .val (.int (0 : Int32)), .val (.int (x2 &&& (255 : Int32))), .val (.int (x3 &&& (255 : Int32))), .val (.int (x4 &&& (255 : Int32))), .val (.ref a166), .unset, .unset, .unset, .unset] [(.ref a168)])
      refine gw_st (fun _ kq => XS.astore X192.here hx rfl (hb hby at_133) rfl rfl (l' := #[.val (.int x0), .val (.int x1), .val (.int x2), .val (.int x3), .val (.int x4), .val (.int (0 : Int32)), .val (.int (0 : Int32)), .val (.int (x2 &&& (255 : Int32))), .val (.int (x3 &&& (255 : Int32))), .val (.int (x4 &&& (255 : Int32))), .val (.ref a166), .val (.ref a168), .unset, .unset, .unset]) rfl kq) ?_
      show GoW p e below s _ _ _ T192 (mkF m 135 #[.val (.int x0), .val (.int x1), .val (.int x2), .val (.int x3), .val (.int x4), .val (.int (0 : Int32)), .val (.int (0 : Int32)), .val (.int (x2 &&& (255 : Int32))), .val (.int (x3 &&& (255 : Int32))), .val (.int (x4 &&& (255 : Int32))), .val (.ref a166), .val (.ref a168), .unset, .unset, .unset] [])
      refine gw_st (fun _ kq => XS.aload X192.here hx rfl (hb hby at_135) rfl rfl kq) ?_
      show GoW p e below s _ _ _ T192 (mkF m 137 #[.val (.int x0), .val (.int x1), .val (.int x2), .val (.int x3), .val (.int x4), .val (.int (0 : Int32)), .val (.int (0 : Int32)), .val (.int (x2 &&& (255 : Int32))), .val (.int (x3 &&& (255 : Int32))), .val (.int (x4 &&& (255 : Int32))), .val (.ref a166), .val (.ref a168), .unset, .unset, .unset] [(.ref a168)])
      have c199 := Exa.keep f184_0 K192
      have c200 := Fld.keep f184_1 K192 (ninS (Ne.symm ne179) nin0)
      have c201 := Fld.keep f184_2 K192 (ninS (Ne.symm ne179) nin0)
      have c202 := GA.keep f184_3 K192 (ninS (Ne.symm nx188) nin0)
      have c203 := Old.ext O0 E166
      have c204 := Old.ext c203 E168
      have c205 := Old.ext c204 E175
      have c206 := Old.keep c205 K184 (allS nw_a175 all0)
      have c207 := Old.keep c206 K192 (allS nw_a168 all0)
      have z208 : n0 ≤ T192.heap.size := Nat.le_trans z197 K192.1
      have c209 := Exa.keep c190 K192
      refine gw_callV X192 hx hZ hml hown (hw _ (List.mem_of_getElem? (i := 32) rfl)) (hw _ (List.mem_of_getElem? (i := 33) rfl)) (notFace_of_selects (args := #[]) (mvT hZ (hw _ (List.mem_of_getElem? (i := 35) rfl)))) (hw _ (List.mem_of_getElem? (i := 35) rfl)) (hw _ (List.mem_of_getElem? (i := 34) rfl)) (hw _ (List.mem_of_getElem? (i := 36) rfl)) (hw _ (List.mem_of_getElem? (i := 4) rfl)) rfl c209 (argsL := []) (rest := []) (W := 0) (met_end00 l Z a0 hw a168 a175 r_184 (fun _ => .null) zc T192.heap n0 z208 f192_1 f192_0 c199 c200 c201 c202 c207 S0 zn) (hb hby at_137) rfl rfl rfl (lenOf pd8 rfl) (by show 2 * 0 + _ ≤ _; exact Nat.le_of_eq rfl) (by decide) (by decide) (by decide) (by decide) (by decide) ?_
      intro T198 v198 L198 X198 q198
      obtain ⟨rfl, M198, e198⟩ := q198
      have N198 := Fr.app N192 M198
      show GoW p e below s _ _ _ T198 (mkF m 140 #[.val (.int x0), .val (.int x1), .val (.int x2), .val (.int x3), .val (.int x4), .val (.int (0 : Int32)), .val (.int (0 : Int32)), .val (.int (x2 &&& (255 : Int32))), .val (.int (x3 &&& (255 : Int32))), .val (.int (x4 &&& (255 : Int32))), .val (.ref a166), .val (.ref a168), .unset, .unset, .unset] [(.int (1 : Int32))])
      refine gw_st (fun _ kq => XS.iload X198.here hx rfl (hb hby at_140) rfl kq) ?_
      show GoW p e below s _ _ _ T198 (mkF m 142 #[.val (.int x0), .val (.int x1), .val (.int x2), .val (.int x3), .val (.int x4), .val (.int (0 : Int32)), .val (.int (0 : Int32)), .val (.int (x2 &&& (255 : Int32))), .val (.int (x3 &&& (255 : Int32))), .val (.int (x4 &&& (255 : Int32))), .val (.ref a166), .val (.ref a168), .unset, .unset, .unset] [(.int (0 : Int32)), (.int (1 : Int32))])
      refine gw_st (fun _ kq => XS.ifNo X198.here hx rfl (hb hby at_142) rfl (XT.i0_ne_f (by decide)) kq) ?_
      show GoW p e below s _ _ _ T198 (mkF m 145 #[.val (.int x0), .val (.int x1), .val (.int x2), .val (.int x3), .val (.int x4), .val (.int (0 : Int32)), .val (.int (0 : Int32)), .val (.int (x2 &&& (255 : Int32))), .val (.int (x3 &&& (255 : Int32))), .val (.int (x4 &&& (255 : Int32))), .val (.ref a166), .val (.ref a168), .unset, .unset, .unset] [(.int (1 : Int32))])
      refine gw_st (fun _ kq => XT.iconstV X198.here hx rfl (1 : Int32) (hb hby at_145) (by decide) kq) ?_
      show GoW p e below s _ _ _ T198 (mkF m 146 #[.val (.int x0), .val (.int x1), .val (.int x2), .val (.int x3), .val (.int x4), .val (.int (0 : Int32)), .val (.int (0 : Int32)), .val (.int (x2 &&& (255 : Int32))), .val (.int (x3 &&& (255 : Int32))), .val (.int (x4 &&& (255 : Int32))), .val (.ref a166), .val (.ref a168), .unset, .unset, .unset] [(.int (1 : Int32)), (.int (1 : Int32))])
      refine gw_st (fun _ kq => XS.goto X198.here hx rfl (pc0 := 146) (pc' := 150) rfl (hb hby at_146) (by decide) (by decide) kq) ?_
      show GoW p e below s _ _ _ T198 (mkF m 150 #[.val (.int x0), .val (.int x1), .val (.int x2), .val (.int x3), .val (.int x4), .val (.int (0 : Int32)), .val (.int (0 : Int32)), .val (.int (x2 &&& (255 : Int32))), .val (.int (x3 &&& (255 : Int32))), .val (.int (x4 &&& (255 : Int32))), .val (.ref a166), .val (.ref a168), .unset, .unset, .unset] [(.int (1 : Int32)), (.int (1 : Int32))])
      refine gw_st (fun _ kq => XS.icmpNo X198.here hx rfl (hb hby at_150) rfl (XT.ii_ne_f (by decide)) kq) ?_
      show GoW p e below s _ _ _ T198 (mkF m 153 #[.val (.int x0), .val (.int x1), .val (.int x2), .val (.int x3), .val (.int x4), .val (.int (0 : Int32)), .val (.int (0 : Int32)), .val (.int (x2 &&& (255 : Int32))), .val (.int (x3 &&& (255 : Int32))), .val (.int (x4 &&& (255 : Int32))), .val (.ref a166), .val (.ref a168), .unset, .unset, .unset] [])
      refine gw_st (fun _ kq => XT.iconstV X198.here hx rfl (1 : Int32) (hb hby at_153) (by decide) kq) ?_
      show GoW p e below s _ _ _ T198 (mkF m 154 #[.val (.int x0), .val (.int x1), .val (.int x2), .val (.int x3), .val (.int x4), .val (.int (0 : Int32)), .val (.int (0 : Int32)), .val (.int (x2 &&& (255 : Int32))), .val (.int (x3 &&& (255 : Int32))), .val (.int (x4 &&& (255 : Int32))), .val (.ref a166), .val (.ref a168), .unset, .unset, .unset] [(.int (1 : Int32))])
      refine gw_st (fun _ kq => XS.goto X198.here hx rfl (pc0 := 154) (pc' := 158) rfl (hb hby at_154) (by decide) (by decide) kq) ?_
      show GoW p e below s _ _ _ T198 (mkF m 158 #[.val (.int x0), .val (.int x1), .val (.int x2), .val (.int x3), .val (.int x4), .val (.int (0 : Int32)), .val (.int (0 : Int32)), .val (.int (x2 &&& (255 : Int32))), .val (.int (x3 &&& (255 : Int32))), .val (.int (x4 &&& (255 : Int32))), .val (.ref a166), .val (.ref a168), .unset, .unset, .unset] [(.int (1 : Int32))])
      refine gw_st (fun _ kq => XS.istore X198.here hx rfl (hb hby at_158) rfl (l' := #[.val (.int x0), .val (.int x1), .val (.int x2), .val (.int x3), .val (.int x4), .val (.int (0 : Int32)), .val (.int (0 : Int32)), .val (.int (x2 &&& (255 : Int32))), .val (.int (x3 &&& (255 : Int32))), .val (.int (x4 &&& (255 : Int32))), .val (.ref a166), .val (.ref a168), .val (.int (1 : Int32)), .unset, .unset]) rfl kq) ?_
      show GoW p e below s _ _ _ T198 (mkF m 160 #[.val (.int x0), .val (.int x1), .val (.int x2), .val (.int x3), .val (.int x4), .val (.int (0 : Int32)), .val (.int (0 : Int32)), .val (.int (x2 &&& (255 : Int32))), .val (.int (x3 &&& (255 : Int32))), .val (.int (x4 &&& (255 : Int32))), .val (.ref a166), .val (.ref a168), .val (.int (1 : Int32)), .unset, .unset] [])
      refine gw_st (fun _ kq => XS.iload X198.here hx rfl (hb hby at_160) rfl kq) ?_
      show GoW p e below s _ _ _ T198 (mkF m 162 #[.val (.int x0), .val (.int x1), .val (.int x2), .val (.int x3), .val (.int x4), .val (.int (0 : Int32)), .val (.int (0 : Int32)), .val (.int (x2 &&& (255 : Int32))), .val (.int (x3 &&& (255 : Int32))), .val (.int (x4 &&& (255 : Int32))), .val (.ref a166), .val (.ref a168), .val (.int (1 : Int32)), .unset, .unset] [(.int (0 : Int32))])
      refine gw_st (fun _ kq => XT.iconstV X198.here hx rfl (1 : Int32) (hb hby at_162) (by decide) kq) ?_
      show GoW p e below s _ _ _ T198 (mkF m 163 #[.val (.int x0), .val (.int x1), .val (.int x2), .val (.int x3), .val (.int x4), .val (.int (0 : Int32)), .val (.int (0 : Int32)), .val (.int (x2 &&& (255 : Int32))), .val (.int (x3 &&& (255 : Int32))), .val (.int (x4 &&& (255 : Int32))), .val (.ref a166), .val (.ref a168), .val (.int (1 : Int32)), .unset, .unset] [(.int (1 : Int32)), (.int (0 : Int32))])
      refine gw_st (fun _ kq => XS.icmpYes X198.here hx rfl (pc0 := 163) (pc' := 171) rfl (hb hby at_163) rfl (XT.ii_lt_t (by decide)) (by decide) (by decide) kq) ?_
      show GoW p e below s _ _ _ T198 (mkF m 171 #[.val (.int x0), .val (.int x1), .val (.int x2), .val (.int x3), .val (.int x4), .val (.int (0 : Int32)), .val (.int (0 : Int32)), .val (.int (x2 &&& (255 : Int32))), .val (.int (x3 &&& (255 : Int32))), .val (.int (x4 &&& (255 : Int32))), .val (.ref a166), .val (.ref a168), .val (.int (1 : Int32)), .unset, .unset] [])
      refine gw_st (fun _ kq => XS.iload X198.here hx rfl (hb hby at_171) rfl kq) ?_
      show GoW p e below s _ _ _ T198 (mkF m 173 #[.val (.int x0), .val (.int x1), .val (.int x2), .val (.int x3), .val (.int x4), .val (.int (0 : Int32)), .val (.int (0 : Int32)), .val (.int (x2 &&& (255 : Int32))), .val (.int (x3 &&& (255 : Int32))), .val (.int (x4 &&& (255 : Int32))), .val (.ref a166), .val (.ref a168), .val (.int (1 : Int32)), .unset, .unset] [(.int (0 : Int32))])
      refine gw_st (fun _ kq => XT.iconstV X198.here hx rfl (2 : Int32) (hb hby at_173) (by decide) kq) ?_
      show GoW p e below s _ _ _ T198 (mkF m 174 #[.val (.int x0), .val (.int x1), .val (.int x2), .val (.int x3), .val (.int x4), .val (.int (0 : Int32)), .val (.int (0 : Int32)), .val (.int (x2 &&& (255 : Int32))), .val (.int (x3 &&& (255 : Int32))), .val (.int (x4 &&& (255 : Int32))), .val (.ref a166), .val (.ref a168), .val (.int (1 : Int32)), .unset, .unset] [(.int (2 : Int32)), (.int (0 : Int32))])
      refine gw_st (fun _ kq => XS.icmpYes X198.here hx rfl (pc0 := 174) (pc' := 182) rfl (hb hby at_174) rfl (XT.ii_lt_t (by decide)) (by decide) (by decide) kq) ?_
      show GoW p e below s _ _ _ T198 (mkF m 182 #[.val (.int x0), .val (.int x1), .val (.int x2), .val (.int x3), .val (.int x4), .val (.int (0 : Int32)), .val (.int (0 : Int32)), .val (.int (x2 &&& (255 : Int32))), .val (.int (x3 &&& (255 : Int32))), .val (.int (x4 &&& (255 : Int32))), .val (.ref a166), .val (.ref a168), .val (.int (1 : Int32)), .unset, .unset] [])
      refine gw_st (fun _ kq => XS.iload X198.here hx rfl (hb hby at_182) rfl kq) ?_
      show GoW p e below s _ _ _ T198 (mkF m 184 #[.val (.int x0), .val (.int x1), .val (.int x2), .val (.int x3), .val (.int x4), .val (.int (0 : Int32)), .val (.int (0 : Int32)), .val (.int (x2 &&& (255 : Int32))), .val (.int (x3 &&& (255 : Int32))), .val (.int (x4 &&& (255 : Int32))), .val (.ref a166), .val (.ref a168), .val (.int (1 : Int32)), .unset, .unset] [(.int (0 : Int32))])
      refine gw_st (fun _ kq => XT.iconstV X198.here hx rfl (3 : Int32) (hb hby at_184) (by decide) kq) ?_
      show GoW p e below s _ _ _ T198 (mkF m 185 #[.val (.int x0), .val (.int x1), .val (.int x2), .val (.int x3), .val (.int x4), .val (.int (0 : Int32)), .val (.int (0 : Int32)), .val (.int (x2 &&& (255 : Int32))), .val (.int (x3 &&& (255 : Int32))), .val (.int (x4 &&& (255 : Int32))), .val (.ref a166), .val (.ref a168), .val (.int (1 : Int32)), .unset, .unset] [(.int (3 : Int32)), (.int (0 : Int32))])
      refine gw_st (fun _ kq => XS.icmpYes X198.here hx rfl (pc0 := 185) (pc' := 193) rfl (hb hby at_185) rfl (XT.ii_lt_t (by decide)) (by decide) (by decide) kq) ?_
      show GoW p e below s _ _ _ T198 (mkF m 193 #[.val (.int x0), .val (.int x1), .val (.int x2), .val (.int x3), .val (.int x4), .val (.int (0 : Int32)), .val (.int (0 : Int32)), .val (.int (x2 &&& (255 : Int32))), .val (.int (x3 &&& (255 : Int32))), .val (.int (x4 &&& (255 : Int32))), .val (.ref a166), .val (.ref a168), .val (.int (1 : Int32)), .unset, .unset] [])
      refine gw_st (fun _ kq => XS.aload X198.here hx rfl (hb hby at_193) rfl rfl kq) ?_
      show GoW p e below s _ _ _ T198 (mkF m 195 #[.val (.int x0), .val (.int x1), .val (.int x2), .val (.int x3), .val (.int x4), .val (.int (0 : Int32)), .val (.int (0 : Int32)), .val (.int (x2 &&& (255 : Int32))), .val (.int (x3 &&& (255 : Int32))), .val (.int (x4 &&& (255 : Int32))), .val (.ref a166), .val (.ref a168), .val (.int (1 : Int32)), .unset, .unset] [(.ref a168)])
      refine gw_callV X198 hx hZ hml hown (hw _ (List.mem_of_getElem? (i := 32) rfl)) (hw _ (List.mem_of_getElem? (i := 33) rfl)) (notFace_of_selects (args := #[]) (mvT hZ (hw _ (List.mem_of_getElem? (i := 35) rfl)))) (hw _ (List.mem_of_getElem? (i := 35) rfl)) (hw _ (List.mem_of_getElem? (i := 34) rfl)) (hw _ (List.mem_of_getElem? (i := 36) rfl)) (hw _ (List.mem_of_getElem? (i := 4) rfl)) e198 c209 (argsL := []) (rest := []) (W := 0) (met_end00 l Z a0 hw a168 a175 r_184 (fun _ => .null) zc T192.heap n0 z208 f192_1 f192_0 c199 c200 c201 c202 c207 S0 zn) (hb hby at_195) rfl rfl rfl (lenOf pd8 rfl) (by show 2 * 0 + _ ≤ _; exact Nat.le_of_eq rfl) (by decide) (by decide) (by decide) (by decide) (by decide) ?_
      intro T210 v210 L210 X210 q210
      obtain ⟨rfl, M210, e210⟩ := q210
      have N210 := Fr.app N198 M210
      show GoW p e below s _ _ _ T210 (mkF m 198 #[.val (.int x0), .val (.int x1), .val (.int x2), .val (.int x3), .val (.int x4), .val (.int (0 : Int32)), .val (.int (0 : Int32)), .val (.int (x2 &&& (255 : Int32))), .val (.int (x3 &&& (255 : Int32))), .val (.int (x4 &&& (255 : Int32))), .val (.ref a166), .val (.ref a168), .val (.int (1 : Int32)), .unset, .unset] [(.int (1 : Int32))])
      refine gw_st (fun _ kq => XS.iload X210.here hx rfl (hb hby at_198) rfl kq) ?_
      show GoW p e below s _ _ _ T210 (mkF m 200 #[.val (.int x0), .val (.int x1), .val (.int x2), .val (.int x3), .val (.int x4), .val (.int (0 : Int32)), .val (.int (0 : Int32)), .val (.int (x2 &&& (255 : Int32))), .val (.int (x3 &&& (255 : Int32))), .val (.int (x4 &&& (255 : Int32))), .val (.ref a166), .val (.ref a168), .val (.int (1 : Int32)), .unset, .unset] [(.int (0 : Int32)), (.int (1 : Int32))])
      refine gw_st (fun _ kq => XS.iload X210.here hx rfl (hb hby at_200) rfl kq) ?_
      show GoW p e below s _ _ _ T210 (mkF m 202 #[.val (.int x0), .val (.int x1), .val (.int x2), .val (.int x3), .val (.int x4), .val (.int (0 : Int32)), .val (.int (0 : Int32)), .val (.int (x2 &&& (255 : Int32))), .val (.int (x3 &&& (255 : Int32))), .val (.int (x4 &&& (255 : Int32))), .val (.ref a166), .val (.ref a168), .val (.int (1 : Int32)), .unset, .unset] [(.int (0 : Int32)), (.int (0 : Int32)), (.int (1 : Int32))])
      refine gw_st (fun _ kq => XS.icmpNo X210.here hx rfl (hb hby at_202) rfl (XT.ii_ne_f (by decide)) kq) ?_
      show GoW p e below s _ _ _ T210 (mkF m 205 #[.val (.int x0), .val (.int x1), .val (.int x2), .val (.int x3), .val (.int x4), .val (.int (0 : Int32)), .val (.int (0 : Int32)), .val (.int (x2 &&& (255 : Int32))), .val (.int (x3 &&& (255 : Int32))), .val (.int (x4 &&& (255 : Int32))), .val (.ref a166), .val (.ref a168), .val (.int (1 : Int32)), .unset, .unset] [(.int (1 : Int32))])
      refine gw_st (fun _ kq => XT.iconstV X210.here hx rfl (1 : Int32) (hb hby at_205) (by decide) kq) ?_
      show GoW p e below s _ _ _ T210 (mkF m 206 #[.val (.int x0), .val (.int x1), .val (.int x2), .val (.int x3), .val (.int x4), .val (.int (0 : Int32)), .val (.int (0 : Int32)), .val (.int (x2 &&& (255 : Int32))), .val (.int (x3 &&& (255 : Int32))), .val (.int (x4 &&& (255 : Int32))), .val (.ref a166), .val (.ref a168), .val (.int (1 : Int32)), .unset, .unset] [(.int (1 : Int32)), (.int (1 : Int32))])
      refine gw_st (fun _ kq => XS.goto X210.here hx rfl (pc0 := 206) (pc' := 210) rfl (hb hby at_206) (by decide) (by decide) kq) ?_
      show GoW p e below s _ _ _ T210 (mkF m 210 #[.val (.int x0), .val (.int x1), .val (.int x2), .val (.int x3), .val (.int x4), .val (.int (0 : Int32)), .val (.int (0 : Int32)), .val (.int (x2 &&& (255 : Int32))), .val (.int (x3 &&& (255 : Int32))), .val (.int (x4 &&& (255 : Int32))), .val (.ref a166), .val (.ref a168), .val (.int (1 : Int32)), .unset, .unset] [(.int (1 : Int32)), (.int (1 : Int32))])
      refine gw_st (fun _ kq => XS.icmpNo X210.here hx rfl (hb hby at_210) rfl (XT.ii_ne_f (by decide)) kq) ?_
      show GoW p e below s _ _ _ T210 (mkF m 213 #[.val (.int x0), .val (.int x1), .val (.int x2), .val (.int x3), .val (.int x4), .val (.int (0 : Int32)), .val (.int (0 : Int32)), .val (.int (x2 &&& (255 : Int32))), .val (.int (x3 &&& (255 : Int32))), .val (.int (x4 &&& (255 : Int32))), .val (.ref a166), .val (.ref a168), .val (.int (1 : Int32)), .unset, .unset] [])
      refine gw_st (fun _ kq => XT.iconstV X210.here hx rfl (1 : Int32) (hb hby at_213) (by decide) kq) ?_
      show GoW p e below s _ _ _ T210 (mkF m 214 #[.val (.int x0), .val (.int x1), .val (.int x2), .val (.int x3), .val (.int x4), .val (.int (0 : Int32)), .val (.int (0 : Int32)), .val (.int (x2 &&& (255 : Int32))), .val (.int (x3 &&& (255 : Int32))), .val (.int (x4 &&& (255 : Int32))), .val (.ref a166), .val (.ref a168), .val (.int (1 : Int32)), .unset, .unset] [(.int (1 : Int32))])
      refine gw_st (fun _ kq => XS.goto X210.here hx rfl (pc0 := 214) (pc' := 218) rfl (hb hby at_214) (by decide) (by decide) kq) ?_
      show GoW p e below s _ _ _ T210 (mkF m 218 #[.val (.int x0), .val (.int x1), .val (.int x2), .val (.int x3), .val (.int x4), .val (.int (0 : Int32)), .val (.int (0 : Int32)), .val (.int (x2 &&& (255 : Int32))), .val (.int (x3 &&& (255 : Int32))), .val (.int (x4 &&& (255 : Int32))), .val (.ref a166), .val (.ref a168), .val (.int (1 : Int32)), .unset, .unset] [(.int (1 : Int32))])
      refine gw_st (fun _ kq => XS.istore X210.here hx rfl (hb hby at_218) rfl (l' := #[.val (.int x0), .val (.int x1), .val (.int x2), .val (.int x3), .val (.int x4), .val (.int (0 : Int32)), .val (.int (0 : Int32)), .val (.int (x2 &&& (255 : Int32))), .val (.int (x3 &&& (255 : Int32))), .val (.int (x4 &&& (255 : Int32))), .val (.ref a166), .val (.ref a168), .val (.int (1 : Int32)), .val (.int (1 : Int32)), .unset]) rfl kq) ?_
      show GoW p e below s _ _ _ T210 (mkF m 220 #[.val (.int x0), .val (.int x1), .val (.int x2), .val (.int x3), .val (.int x4), .val (.int (0 : Int32)), .val (.int (0 : Int32)), .val (.int (x2 &&& (255 : Int32))), .val (.int (x3 &&& (255 : Int32))), .val (.int (x4 &&& (255 : Int32))), .val (.ref a166), .val (.ref a168), .val (.int (1 : Int32)), .val (.int (1 : Int32)), .unset] [])
      refine gw_st (fun _ kq => XS.aload X210.here hx rfl (hb hby at_220) rfl rfl kq) ?_
      show GoW p e below s _ _ _ T210 (mkF m 222 #[.val (.int x0), .val (.int x1), .val (.int x2), .val (.int x3), .val (.int x4), .val (.int (0 : Int32)), .val (.int (0 : Int32)), .val (.int (x2 &&& (255 : Int32))), .val (.int (x3 &&& (255 : Int32))), .val (.int (x4 &&& (255 : Int32))), .val (.ref a166), .val (.ref a168), .val (.int (1 : Int32)), .val (.int (1 : Int32)), .unset] [(.ref a168)])
      refine gw_callV X210 hx hZ hml hown (hw _ (List.mem_of_getElem? (i := 50) rfl)) (hw _ (List.mem_of_getElem? (i := 51) rfl)) (notFace_of_selects (args := #[]) (mvT hZ (hw _ (List.mem_of_getElem? (i := 53) rfl)))) (hw _ (List.mem_of_getElem? (i := 53) rfl)) (hw _ (List.mem_of_getElem? (i := 52) rfl)) (hw _ (List.mem_of_getElem? (i := 54) rfl)) (hw _ (List.mem_of_getElem? (i := 4) rfl)) e210 c209 (argsL := []) (rest := []) (W := 0) (met_8 l Z a0 hw a168 (0 : Int32) T192.heap n0 z208 f192_1) (hb hby at_222) rfl rfl rfl (lenOf pd5 rfl) (by show 2 * 0 + _ ≤ _; exact Nat.le_of_eq rfl) (by decide) (by decide) (by decide) (by decide) (by decide) ?_
      intro T211 v211 L211 X211 q211
      obtain ⟨rfl, M211, e211⟩ := q211
      have N211 := Fr.app N210 M211
      show GoW p e below s _ _ _ T211 (mkF m 225 #[.val (.int x0), .val (.int x1), .val (.int x2), .val (.int x3), .val (.int x4), .val (.int (0 : Int32)), .val (.int (0 : Int32)), .val (.int (x2 &&& (255 : Int32))), .val (.int (x3 &&& (255 : Int32))), .val (.int (x4 &&& (255 : Int32))), .val (.ref a166), .val (.ref a168), .val (.int (1 : Int32)), .val (.int (1 : Int32)), .unset] [(.int (0 : Int32))])
      refine gw_st (fun _ kq => XS.iload X211.here hx rfl (hb hby at_225) rfl kq) ?_
      show GoW p e below s _ _ _ T211 (mkF m 227 #[.val (.int x0), .val (.int x1), .val (.int x2), .val (.int x3), .val (.int x4), .val (.int (0 : Int32)), .val (.int (0 : Int32)), .val (.int (x2 &&& (255 : Int32))), .val (.int (x3 &&& (255 : Int32))), .val (.int (x4 &&& (255 : Int32))), .val (.ref a166), .val (.ref a168), .val (.int (1 : Int32)), .val (.int (1 : Int32)), .unset] [(.int (0 : Int32)), (.int (0 : Int32))])
      refine gw_st (fun _ kq => XS.icmpNo X211.here hx rfl (hb hby at_227) rfl (XT.ii_ne_f (by decide)) kq) ?_
      show GoW p e below s _ _ _ T211 (mkF m 230 #[.val (.int x0), .val (.int x1), .val (.int x2), .val (.int x3), .val (.int x4), .val (.int (0 : Int32)), .val (.int (0 : Int32)), .val (.int (x2 &&& (255 : Int32))), .val (.int (x3 &&& (255 : Int32))), .val (.int (x4 &&& (255 : Int32))), .val (.ref a166), .val (.ref a168), .val (.int (1 : Int32)), .val (.int (1 : Int32)), .unset] [])
      refine gw_st (fun _ kq => XT.iconstV X211.here hx rfl (1 : Int32) (hb hby at_230) (by decide) kq) ?_
      show GoW p e below s _ _ _ T211 (mkF m 231 #[.val (.int x0), .val (.int x1), .val (.int x2), .val (.int x3), .val (.int x4), .val (.int (0 : Int32)), .val (.int (0 : Int32)), .val (.int (x2 &&& (255 : Int32))), .val (.int (x3 &&& (255 : Int32))), .val (.int (x4 &&& (255 : Int32))), .val (.ref a166), .val (.ref a168), .val (.int (1 : Int32)), .val (.int (1 : Int32)), .unset] [(.int (1 : Int32))])
      refine gw_st (fun _ kq => XS.goto X211.here hx rfl (pc0 := 231) (pc' := 235) rfl (hb hby at_231) (by decide) (by decide) kq) ?_
      show GoW p e below s _ _ _ T211 (mkF m 235 #[.val (.int x0), .val (.int x1), .val (.int x2), .val (.int x3), .val (.int x4), .val (.int (0 : Int32)), .val (.int (0 : Int32)), .val (.int (x2 &&& (255 : Int32))), .val (.int (x3 &&& (255 : Int32))), .val (.int (x4 &&& (255 : Int32))), .val (.ref a166), .val (.ref a168), .val (.int (1 : Int32)), .val (.int (1 : Int32)), .unset] [(.int (1 : Int32))])
      refine gw_st (fun _ kq => XS.istore X211.here hx rfl (hb hby at_235) rfl (l' := #[.val (.int x0), .val (.int x1), .val (.int x2), .val (.int x3), .val (.int x4), .val (.int (0 : Int32)), .val (.int (0 : Int32)), .val (.int (x2 &&& (255 : Int32))), .val (.int (x3 &&& (255 : Int32))), .val (.int (x4 &&& (255 : Int32))), .val (.ref a166), .val (.ref a168), .val (.int (1 : Int32)), .val (.int (1 : Int32)), .val (.int (1 : Int32))]) rfl kq) ?_
      show GoW p e below s _ _ _ T211 (mkF m 237 #[.val (.int x0), .val (.int x1), .val (.int x2), .val (.int x3), .val (.int x4), .val (.int (0 : Int32)), .val (.int (0 : Int32)), .val (.int (x2 &&& (255 : Int32))), .val (.int (x3 &&& (255 : Int32))), .val (.int (x4 &&& (255 : Int32))), .val (.ref a166), .val (.ref a168), .val (.int (1 : Int32)), .val (.int (1 : Int32)), .val (.int (1 : Int32))] [])
      refine gw_st (fun _ kq => XS.iload X211.here hx rfl (hb hby at_237) rfl kq) ?_
      show GoW p e below s _ _ _ T211 (mkF m 239 #[.val (.int x0), .val (.int x1), .val (.int x2), .val (.int x3), .val (.int x4), .val (.int (0 : Int32)), .val (.int (0 : Int32)), .val (.int (x2 &&& (255 : Int32))), .val (.int (x3 &&& (255 : Int32))), .val (.int (x4 &&& (255 : Int32))), .val (.ref a166), .val (.ref a168), .val (.int (1 : Int32)), .val (.int (1 : Int32)), .val (.int (1 : Int32))] [(.int (1 : Int32))])
      refine gw_st (fun _ kq => XS.ifNo X211.here hx rfl (hb hby at_239) rfl (XT.i0_eq_f (by decide)) kq) ?_
      show GoW p e below s _ _ _ T211 (mkF m 242 #[.val (.int x0), .val (.int x1), .val (.int x2), .val (.int x3), .val (.int x4), .val (.int (0 : Int32)), .val (.int (0 : Int32)), .val (.int (x2 &&& (255 : Int32))), .val (.int (x3 &&& (255 : Int32))), .val (.int (x4 &&& (255 : Int32))), .val (.ref a166), .val (.ref a168), .val (.int (1 : Int32)), .val (.int (1 : Int32)), .val (.int (1 : Int32))] [])
      refine gw_st (fun _ kq => XS.iload X211.here hx rfl (hb hby at_242) rfl kq) ?_
      show GoW p e below s _ _ _ T211 (mkF m 244 #[.val (.int x0), .val (.int x1), .val (.int x2), .val (.int x3), .val (.int x4), .val (.int (0 : Int32)), .val (.int (0 : Int32)), .val (.int (x2 &&& (255 : Int32))), .val (.int (x3 &&& (255 : Int32))), .val (.int (x4 &&& (255 : Int32))), .val (.ref a166), .val (.ref a168), .val (.int (1 : Int32)), .val (.int (1 : Int32)), .val (.int (1 : Int32))] [(.int (1 : Int32))])
      refine gw_st (fun _ kq => XS.ifNo X211.here hx rfl (hb hby at_244) rfl (XT.i0_eq_f (by decide)) kq) ?_
      show GoW p e below s _ _ _ T211 (mkF m 247 #[.val (.int x0), .val (.int x1), .val (.int x2), .val (.int x3), .val (.int x4), .val (.int (0 : Int32)), .val (.int (0 : Int32)), .val (.int (x2 &&& (255 : Int32))), .val (.int (x3 &&& (255 : Int32))), .val (.int (x4 &&& (255 : Int32))), .val (.ref a166), .val (.ref a168), .val (.int (1 : Int32)), .val (.int (1 : Int32)), .val (.int (1 : Int32))] [])
      refine gw_st (fun _ kq => XS.iload X211.here hx rfl (hb hby at_247) rfl kq) ?_
      show GoW p e below s _ _ _ T211 (mkF m 249 #[.val (.int x0), .val (.int x1), .val (.int x2), .val (.int x3), .val (.int x4), .val (.int (0 : Int32)), .val (.int (0 : Int32)), .val (.int (x2 &&& (255 : Int32))), .val (.int (x3 &&& (255 : Int32))), .val (.int (x4 &&& (255 : Int32))), .val (.ref a166), .val (.ref a168), .val (.int (1 : Int32)), .val (.int (1 : Int32)), .val (.int (1 : Int32))] [(.int (1 : Int32))])
      refine gw_st (fun _ kq => XS.ifNo X211.here hx rfl (hb hby at_249) rfl (XT.i0_eq_f (by decide)) kq) ?_
      show GoW p e below s _ _ _ T211 (mkF m 252 #[.val (.int x0), .val (.int x1), .val (.int x2), .val (.int x3), .val (.int x4), .val (.int (0 : Int32)), .val (.int (0 : Int32)), .val (.int (x2 &&& (255 : Int32))), .val (.int (x3 &&& (255 : Int32))), .val (.int (x4 &&& (255 : Int32))), .val (.ref a166), .val (.ref a168), .val (.int (1 : Int32)), .val (.int (1 : Int32)), .val (.int (1 : Int32))] [])
      refine gw_st (fun _ kq => XT.iconstV X211.here hx rfl (1 : Int32) (hb hby at_252) (by decide) kq) ?_
      show GoW p e below s _ _ _ T211 (mkF m 253 #[.val (.int x0), .val (.int x1), .val (.int x2), .val (.int x3), .val (.int x4), .val (.int (0 : Int32)), .val (.int (0 : Int32)), .val (.int (x2 &&& (255 : Int32))), .val (.int (x3 &&& (255 : Int32))), .val (.int (x4 &&& (255 : Int32))), .val (.ref a166), .val (.ref a168), .val (.int (1 : Int32)), .val (.int (1 : Int32)), .val (.int (1 : Int32))] [(.int (1 : Int32))])
      refine gw_st (fun _ kq => XS.goto X211.here hx rfl (pc0 := 253) (pc' := 257) rfl (hb hby at_253) (by decide) (by decide) kq) ?_
      show GoW p e below s _ _ _ T211 (mkF m 257 #[.val (.int x0), .val (.int x1), .val (.int x2), .val (.int x3), .val (.int x4), .val (.int (0 : Int32)), .val (.int (0 : Int32)), .val (.int (x2 &&& (255 : Int32))), .val (.int (x3 &&& (255 : Int32))), .val (.int (x4 &&& (255 : Int32))), .val (.ref a166), .val (.ref a168), .val (.int (1 : Int32)), .val (.int (1 : Int32)), .val (.int (1 : Int32))] [(.int (1 : Int32))])
      exact gw_retB (w := (1 : Int32)) X211 hx hlk hret (hb hby at_257) (by decide) (by decide) (by decide) ⟨rfl, N211⟩
    · exact (own_dk1 _ hk165).elim
  · by_cases hk212 : (x0 &&& (3 : Int32)) = (1 : Int32)
    · rw [hk212]
      show GoW p e below s _ _ _ s₁ (mkF m 5 #[.val (.int x0), .val (.int x1), .val (.int x2), .val (.int x3), .val (.int x4), .val (.int (1 : Int32)), .unset, .unset, .unset, .unset, .unset, .unset, .unset, .unset, .unset] [])
      refine gw_st (fun _ kq => XS.iloadN X0.here hx rfl (hb hby at_5) rfl kq) ?_
      show GoW p e below s _ _ _ s₁ (mkF m 6 #[.val (.int x0), .val (.int x1), .val (.int x2), .val (.int x3), .val (.int x4), .val (.int (1 : Int32)), .unset, .unset, .unset, .unset, .unset, .unset, .unset, .unset, .unset] [(.int x1)])
      refine gw_st (fun _ kq => Jvm.Stand.ldcI X0 hx hown (mvT hZ (hw _ (List.mem_of_getElem? (i := 0) rfl))) rfl (hb hby at_6) kq) ?_
      show GoW p e below s _ _ _ s₁ (mkF m 8 #[.val (.int x0), .val (.int x1), .val (.int x2), .val (.int x3), .val (.int x4), .val (.int (1 : Int32)), .unset, .unset, .unset, .unset, .unset, .unset, .unset, .unset, .unset] [(.int (2147483647 : Int32)), (.int x1)])
      refine gw_st (fun _ kq => XS.iand X0.here hx rfl (hb hby at_8) rfl kq) ?_
      show GoW p e below s _ _ _ s₁ (mkF m 9 #[.val (.int x0), .val (.int x1), .val (.int x2), .val (.int x3), .val (.int x4), .val (.int (1 : Int32)), .unset, .unset, .unset, .unset, .unset, .unset, .unset, .unset, .unset] [(.int (x1 &&& (2147483647 : Int32)))])
      refine gw_st (fun _ kq => XS.iload X0.here hx rfl (hb hby at_9) rfl kq) ?_
      show GoW p e below s _ _ _ s₁ (mkF m 11 #[.val (.int x0), .val (.int x1), .val (.int x2), .val (.int x3), .val (.int x4), .val (.int (1 : Int32)), .unset, .unset, .unset, .unset, .unset, .unset, .unset, .unset, .unset] [(.int (1 : Int32)), (.int (x1 &&& (2147483647 : Int32)))])
      refine gw_st (fun _ kq => XT.iconstV X0.here hx rfl (1 : Int32) (hb hby at_11) (by decide) kq) ?_
      show GoW p e below s _ _ _ s₁ (mkF m 12 #[.val (.int x0), .val (.int x1), .val (.int x2), .val (.int x3), .val (.int x4), .val (.int (1 : Int32)), .unset, .unset, .unset, .unset, .unset, .unset, .unset, .unset, .unset] [(.int (1 : Int32)), (.int (1 : Int32)), (.int (x1 &&& (2147483647 : Int32)))])
      refine gw_st (fun _ kq => XS.iadd X0.here hx rfl (hb hby at_12) rfl kq) ?_
      rw [show ((1 : Int32) + (1 : Int32)) = (2 : Int32) from by decide +kernel]
      show GoW p e below s _ _ _ s₁ (mkF m 13 #[.val (.int x0), .val (.int x1), .val (.int x2), .val (.int x3), .val (.int x4), .val (.int (1 : Int32)), .unset, .unset, .unset, .unset, .unset, .unset, .unset, .unset, .unset] [(.int (2 : Int32)), (.int (x1 &&& (2147483647 : Int32)))])
      refine gw_st (fun _ kq => iremM X0 hx rfl (hb hby at_13) rfl (by decide) kq) ?_
      show GoW p e below s _ _ _ s₁ (mkF m 14 #[.val (.int x0), .val (.int x1), .val (.int x2), .val (.int x3), .val (.int x4), .val (.int (1 : Int32)), .unset, .unset, .unset, .unset, .unset, .unset, .unset, .unset, .unset] [(.int ((x1 &&& (2147483647 : Int32)) % (2 : Int32)))])
      refine gw_st (fun _ kq => XS.istore X0.here hx rfl (hb hby at_14) rfl (l' := #[.val (.int x0), .val (.int x1), .val (.int x2), .val (.int x3), .val (.int x4), .val (.int (1 : Int32)), .val (.int ((x1 &&& (2147483647 : Int32)) % (2 : Int32))), .unset, .unset, .unset, .unset, .unset, .unset, .unset, .unset]) rfl kq) ?_
      show GoW p e below s _ _ _ s₁ (mkF m 16 #[.val (.int x0), .val (.int x1), .val (.int x2), .val (.int x3), .val (.int x4), .val (.int (1 : Int32)), .val (.int ((x1 &&& (2147483647 : Int32)) % (2 : Int32))), .unset, .unset, .unset, .unset, .unset, .unset, .unset, .unset] [])
      by_cases hk213 : ((x1 &&& (2147483647 : Int32)) % (2 : Int32)) = (0 : Int32)
      · rw [hk213]
        show GoW p e below s _ _ _ s₁ (mkF m 16 #[.val (.int x0), .val (.int x1), .val (.int x2), .val (.int x3), .val (.int x4), .val (.int (1 : Int32)), .val (.int (0 : Int32)), .unset, .unset, .unset, .unset, .unset, .unset, .unset, .unset] [])
        refine gw_st (fun _ kq => XS.iloadN X0.here hx rfl (hb hby at_16) rfl kq) ?_
        show GoW p e below s _ _ _ s₁ (mkF m 17 #[.val (.int x0), .val (.int x1), .val (.int x2), .val (.int x3), .val (.int x4), .val (.int (1 : Int32)), .val (.int (0 : Int32)), .unset, .unset, .unset, .unset, .unset, .unset, .unset, .unset] [(.int x2)])
        refine gw_st (fun _ kq => XT.sipushV X0.here hx rfl (255 : Int32) (hb hby at_17) (by decide) kq) ?_
        show GoW p e below s _ _ _ s₁ (mkF m 20 #[.val (.int x0), .val (.int x1), .val (.int x2), .val (.int x3), .val (.int x4), .val (.int (1 : Int32)), .val (.int (0 : Int32)), .unset, .unset, .unset, .unset, .unset, .unset, .unset, .unset] [(.int (255 : Int32)), (.int x2)])
        refine gw_st (fun _ kq => XS.iand X0.here hx rfl (hb hby at_20) rfl kq) ?_
        show GoW p e below s _ _ _ s₁ (mkF m 21 #[.val (.int x0), .val (.int x1), .val (.int x2), .val (.int x3), .val (.int x4), .val (.int (1 : Int32)), .val (.int (0 : Int32)), .unset, .unset, .unset, .unset, .unset, .unset, .unset, .unset] [(.int (x2 &&& (255 : Int32)))])
        refine gw_st (fun _ kq => XT.i2c X0.here hx rfl (hb hby at_21) rfl kq) ?_
        rw [own_i2c]
        show GoW p e below s _ _ _ s₁ (mkF m 22 #[.val (.int x0), .val (.int x1), .val (.int x2), .val (.int x3), .val (.int x4), .val (.int (1 : Int32)), .val (.int (0 : Int32)), .unset, .unset, .unset, .unset, .unset, .unset, .unset, .unset] [(.int (x2 &&& (255 : Int32)))])
        refine gw_st (fun _ kq => XS.istore X0.here hx rfl (hb hby at_22) rfl (l' := #[.val (.int x0), .val (.int x1), .val (.int x2), .val (.int x3), .val (.int x4), .val (.int (1 : Int32)), .val (.int (0 : Int32)), .val (.int (x2 &&& (255 : Int32))), .unset, .unset, .unset, .unset, .unset, .unset, .unset]) rfl kq) ?_
        show GoW p e below s _ _ _ s₁ (mkF m 24 #[.val (.int x0), .val (.int x1), .val (.int x2), .val (.int x3), .val (.int x4), .val (.int (1 : Int32)), .val (.int (0 : Int32)), .val (.int (x2 &&& (255 : Int32))), .unset, .unset, .unset, .unset, .unset, .unset, .unset] [])
        refine gw_st (fun _ kq => XS.iloadN X0.here hx rfl (hb hby at_24) rfl kq) ?_
        show GoW p e below s _ _ _ s₁ (mkF m 25 #[.val (.int x0), .val (.int x1), .val (.int x2), .val (.int x3), .val (.int x4), .val (.int (1 : Int32)), .val (.int (0 : Int32)), .val (.int (x2 &&& (255 : Int32))), .unset, .unset, .unset, .unset, .unset, .unset, .unset] [(.int x3)])
        refine gw_st (fun _ kq => XT.sipushV X0.here hx rfl (255 : Int32) (hb hby at_25) (by decide) kq) ?_
        show GoW p e below s _ _ _ s₁ (mkF m 28 #[.val (.int x0), .val (.int x1), .val (.int x2), .val (.int x3), .val (.int x4), .val (.int (1 : Int32)), .val (.int (0 : Int32)), .val (.int (x2 &&& (255 : Int32))), .unset, .unset, .unset, .unset, .unset, .unset, .unset] [(.int (255 : Int32)), (.int x3)])
        refine gw_st (fun _ kq => XS.iand X0.here hx rfl (hb hby at_28) rfl kq) ?_
        show GoW p e below s _ _ _ s₁ (mkF m 29 #[.val (.int x0), .val (.int x1), .val (.int x2), .val (.int x3), .val (.int x4), .val (.int (1 : Int32)), .val (.int (0 : Int32)), .val (.int (x2 &&& (255 : Int32))), .unset, .unset, .unset, .unset, .unset, .unset, .unset] [(.int (x3 &&& (255 : Int32)))])
        refine gw_st (fun _ kq => XT.i2c X0.here hx rfl (hb hby at_29) rfl kq) ?_
        rw [own_i2c]
        show GoW p e below s _ _ _ s₁ (mkF m 30 #[.val (.int x0), .val (.int x1), .val (.int x2), .val (.int x3), .val (.int x4), .val (.int (1 : Int32)), .val (.int (0 : Int32)), .val (.int (x2 &&& (255 : Int32))), .unset, .unset, .unset, .unset, .unset, .unset, .unset] [(.int (x3 &&& (255 : Int32)))])
        refine gw_st (fun _ kq => XS.istore X0.here hx rfl (hb hby at_30) rfl (l' := #[.val (.int x0), .val (.int x1), .val (.int x2), .val (.int x3), .val (.int x4), .val (.int (1 : Int32)), .val (.int (0 : Int32)), .val (.int (x2 &&& (255 : Int32))), .val (.int (x3 &&& (255 : Int32))), .unset, .unset, .unset, .unset, .unset, .unset]) rfl kq) ?_
        show GoW p e below s _ _ _ s₁ (mkF m 32 #[.val (.int x0), .val (.int x1), .val (.int x2), .val (.int x3), .val (.int x4), .val (.int (1 : Int32)), .val (.int (0 : Int32)), .val (.int (x2 &&& (255 : Int32))), .val (.int (x3 &&& (255 : Int32))), .unset, .unset, .unset, .unset, .unset, .unset] [])
        refine gw_st (fun _ kq => XS.iload X0.here hx rfl (hb hby at_32) rfl kq) ?_
        show GoW p e below s _ _ _ s₁ (mkF m 34 #[.val (.int x0), .val (.int x1), .val (.int x2), .val (.int x3), .val (.int x4), .val (.int (1 : Int32)), .val (.int (0 : Int32)), .val (.int (x2 &&& (255 : Int32))), .val (.int (x3 &&& (255 : Int32))), .unset, .unset, .unset, .unset, .unset, .unset] [(.int x4)])
        refine gw_st (fun _ kq => XT.sipushV X0.here hx rfl (255 : Int32) (hb hby at_34) (by decide) kq) ?_
        show GoW p e below s _ _ _ s₁ (mkF m 37 #[.val (.int x0), .val (.int x1), .val (.int x2), .val (.int x3), .val (.int x4), .val (.int (1 : Int32)), .val (.int (0 : Int32)), .val (.int (x2 &&& (255 : Int32))), .val (.int (x3 &&& (255 : Int32))), .unset, .unset, .unset, .unset, .unset, .unset] [(.int (255 : Int32)), (.int x4)])
        refine gw_st (fun _ kq => XS.iand X0.here hx rfl (hb hby at_37) rfl kq) ?_
        show GoW p e below s _ _ _ s₁ (mkF m 38 #[.val (.int x0), .val (.int x1), .val (.int x2), .val (.int x3), .val (.int x4), .val (.int (1 : Int32)), .val (.int (0 : Int32)), .val (.int (x2 &&& (255 : Int32))), .val (.int (x3 &&& (255 : Int32))), .unset, .unset, .unset, .unset, .unset, .unset] [(.int (x4 &&& (255 : Int32)))])
        refine gw_st (fun _ kq => XT.i2c X0.here hx rfl (hb hby at_38) rfl kq) ?_
        rw [own_i2c]
        show GoW p e below s _ _ _ s₁ (mkF m 39 #[.val (.int x0), .val (.int x1), .val (.int x2), .val (.int x3), .val (.int x4), .val (.int (1 : Int32)), .val (.int (0 : Int32)), .val (.int (x2 &&& (255 : Int32))), .val (.int (x3 &&& (255 : Int32))), .unset, .unset, .unset, .unset, .unset, .unset] [(.int (x4 &&& (255 : Int32)))])
        refine gw_st (fun _ kq => XS.istore X0.here hx rfl (hb hby at_39) rfl (l' := #[.val (.int x0), .val (.int x1), .val (.int x2), .val (.int x3), .val (.int x4), .val (.int (1 : Int32)), .val (.int (0 : Int32)), .val (.int (x2 &&& (255 : Int32))), .val (.int (x3 &&& (255 : Int32))), .val (.int (x4 &&& (255 : Int32))), .unset, .unset, .unset, .unset, .unset]) rfl kq) ?_
        show GoW p e below s _ _ _ s₁ (mkF m 41 #[.val (.int x0), .val (.int x1), .val (.int x2), .val (.int x3), .val (.int x4), .val (.int (1 : Int32)), .val (.int (0 : Int32)), .val (.int (x2 &&& (255 : Int32))), .val (.int (x3 &&& (255 : Int32))), .val (.int (x4 &&& (255 : Int32))), .unset, .unset, .unset, .unset, .unset] [])
        refine gw_st (fun _ kq => XS.iload X0.here hx rfl (hb hby at_41) rfl kq) ?_
        show GoW p e below s _ _ _ s₁ (mkF m 43 #[.val (.int x0), .val (.int x1), .val (.int x2), .val (.int x3), .val (.int x4), .val (.int (1 : Int32)), .val (.int (0 : Int32)), .val (.int (x2 &&& (255 : Int32))), .val (.int (x3 &&& (255 : Int32))), .val (.int (x4 &&& (255 : Int32))), .unset, .unset, .unset, .unset, .unset] [(.int (1 : Int32))])
        refine gw_st (fun _ kq => XS.ifYes X0.here hx rfl (pc0 := 43) (pc' := 54) rfl (hb hby at_43) rfl (XT.i0_ne_t (by decide)) (by decide) (by decide) kq) ?_
        show GoW p e below s _ _ _ s₁ (mkF m 54 #[.val (.int x0), .val (.int x1), .val (.int x2), .val (.int x3), .val (.int x4), .val (.int (1 : Int32)), .val (.int (0 : Int32)), .val (.int (x2 &&& (255 : Int32))), .val (.int (x3 &&& (255 : Int32))), .val (.int (x4 &&& (255 : Int32))), .unset, .unset, .unset, .unset, .unset] [])
        refine gw_st (fun _ kq => XS.iload X0.here hx rfl (hb hby at_54) rfl kq) ?_
        show GoW p e below s _ _ _ s₁ (mkF m 56 #[.val (.int x0), .val (.int x1), .val (.int x2), .val (.int x3), .val (.int x4), .val (.int (1 : Int32)), .val (.int (0 : Int32)), .val (.int (x2 &&& (255 : Int32))), .val (.int (x3 &&& (255 : Int32))), .val (.int (x4 &&& (255 : Int32))), .unset, .unset, .unset, .unset, .unset] [(.int (1 : Int32))])
        refine gw_st (fun _ kq => XT.iconstV X0.here hx rfl (1 : Int32) (hb hby at_56) (by decide) kq) ?_
        show GoW p e below s _ _ _ s₁ (mkF m 57 #[.val (.int x0), .val (.int x1), .val (.int x2), .val (.int x3), .val (.int x4), .val (.int (1 : Int32)), .val (.int (0 : Int32)), .val (.int (x2 &&& (255 : Int32))), .val (.int (x3 &&& (255 : Int32))), .val (.int (x4 &&& (255 : Int32))), .unset, .unset, .unset, .unset, .unset] [(.int (1 : Int32)), (.int (1 : Int32))])
        refine gw_st (fun _ kq => XS.icmpNo X0.here hx rfl (hb hby at_57) rfl (XT.ii_ne_f (by decide)) kq) ?_
        show GoW p e below s _ _ _ s₁ (mkF m 60 #[.val (.int x0), .val (.int x1), .val (.int x2), .val (.int x3), .val (.int x4), .val (.int (1 : Int32)), .val (.int (0 : Int32)), .val (.int (x2 &&& (255 : Int32))), .val (.int (x3 &&& (255 : Int32))), .val (.int (x4 &&& (255 : Int32))), .unset, .unset, .unset, .unset, .unset] [])
        refine gw_st (fun _ kq => XT.iconstV X0.here hx rfl (1 : Int32) (hb hby at_60) (by decide) kq) ?_
        show GoW p e below s _ _ _ s₁ (mkF m 61 #[.val (.int x0), .val (.int x1), .val (.int x2), .val (.int x3), .val (.int x4), .val (.int (1 : Int32)), .val (.int (0 : Int32)), .val (.int (x2 &&& (255 : Int32))), .val (.int (x3 &&& (255 : Int32))), .val (.int (x4 &&& (255 : Int32))), .unset, .unset, .unset, .unset, .unset] [(.int (1 : Int32))])
        refine gw_newP X0 hx hZ (hw _ (List.mem_of_getElem? (i := 1) rfl)) e0 (hb hby at_61) rfl rfl 1 (by decide) 1 (Nat.le_refl _) (by decide) (by decide) (by decide) ?_
        intro T214 h214 a214 g214 X214 e214 E214 G214
        have nw_a214 : n0 ≤ a214 := Nat.le_trans Z0 (Nat.le_of_eq g214.symm)
        have lt_a214 : a214 < h214.size := G214.lt
        have A214 : GA Z h214 a214 .char 1 (fun i => .int (own_c3 (0 : Int32) (0 : Int32) (0 : Int32) i)) := (GA.congr G214 (fun i _ => own_z3 i))
        show GoW p e below s _ _ _ T214 (mkF m 63 #[.val (.int x0), .val (.int x1), .val (.int x2), .val (.int x3), .val (.int x4), .val (.int (1 : Int32)), .val (.int (0 : Int32)), .val (.int (x2 &&& (255 : Int32))), .val (.int (x3 &&& (255 : Int32))), .val (.int (x4 &&& (255 : Int32))), .unset, .unset, .unset, .unset, .unset] [(.ref a214)])
        refine gw_st (fun _ kq => XS.dup X214.here hx rfl (hb hby at_63) rfl rfl kq) ?_
        show GoW p e below s _ _ _ T214 (mkF m 64 #[.val (.int x0), .val (.int x1), .val (.int x2), .val (.int x3), .val (.int x4), .val (.int (1 : Int32)), .val (.int (0 : Int32)), .val (.int (x2 &&& (255 : Int32))), .val (.int (x3 &&& (255 : Int32))), .val (.int (x4 &&& (255 : Int32))), .unset, .unset, .unset, .unset, .unset] [(.ref a214), (.ref a214)])
        refine gw_st (fun _ kq => XT.iconstV X214.here hx rfl (0 : Int32) (hb hby at_64) (by decide) kq) ?_
        show GoW p e below s _ _ _ T214 (mkF m 65 #[.val (.int x0), .val (.int x1), .val (.int x2), .val (.int x3), .val (.int x4), .val (.int (1 : Int32)), .val (.int (0 : Int32)), .val (.int (x2 &&& (255 : Int32))), .val (.int (x3 &&& (255 : Int32))), .val (.int (x4 &&& (255 : Int32))), .unset, .unset, .unset, .unset, .unset] [(.int (0 : Int32)), (.ref a214), (.ref a214)])
        refine gw_st (fun _ kq => XS.iload X214.here hx rfl (hb hby at_65) rfl kq) ?_
        show GoW p e below s _ _ _ T214 (mkF m 67 #[.val (.int x0), .val (.int x1), .val (.int x2), .val (.int x3), .val (.int x4), .val (.int (1 : Int32)), .val (.int (0 : Int32)), .val (.int (x2 &&& (255 : Int32))), .val (.int (x3 &&& (255 : Int32))), .val (.int (x4 &&& (255 : Int32))), .unset, .unset, .unset, .unset, .unset] [(.int (x2 &&& (255 : Int32))), (.int (0 : Int32)), (.ref a214), (.ref a214)])
        refine gw_cast X214 hx hZ e214 A214 (hb hby at_67) rfl rfl (by decide) ?_
        intro T215 h215 X215 e215 W215 G215
        have N215 := Fr.snoc X215 N0 nw_a214
        have A215 : GA Z h215 a214 .char 1 (fun i => .int (own_c3 (x2 &&& (255 : Int32)) (0 : Int32) (0 : Int32) i)) := (own_stc (own_nc (own_lat _)) (by decide) (own_c30 (x2 &&& (255 : Int32)) (0 : Int32) (0 : Int32) (0 : Int32)) G215)
        show GoW p e below s _ _ _ T215 (mkF m 68 #[.val (.int x0), .val (.int x1), .val (.int x2), .val (.int x3), .val (.int x4), .val (.int (1 : Int32)), .val (.int (0 : Int32)), .val (.int (x2 &&& (255 : Int32))), .val (.int (x3 &&& (255 : Int32))), .val (.int (x4 &&& (255 : Int32))), .unset, .unset, .unset, .unset, .unset] [(.ref a214)])
        refine gw_st (fun _ kq => XS.astore X215.here hx rfl (hb hby at_68) rfl rfl (l' := #[.val (.int x0), .val (.int x1), .val (.int x2), .val (.int x3), .val (.int x4), .val (.int (1 : Int32)), .val (.int (0 : Int32)), .val (.int (x2 &&& (255 : Int32))), .val (.int (x3 &&& (255 : Int32))), .val (.int (x4 &&& (255 : Int32))), .val (.ref a214), .unset, .unset, .unset, .unset]) rfl kq) ?_
        show GoW p e below s _ _ _ T215 (mkF m 70 #[.val (.int x0), .val (.int x1), .val (.int x2), .val (.int x3), .val (.int x4), .val (.int (1 : Int32)), .val (.int (0 : Int32)), .val (.int (x2 &&& (255 : Int32))), .val (.int (x3 &&& (255 : Int32))), .val (.int (x4 &&& (255 : Int32))), .val (.ref a214), .unset, .unset, .unset, .unset] [])
        refine gw_st (fun _ kq => XS.goto X215.here hx rfl (pc0 := 70) (pc' := 117) rfl (hb hby at_70) (by decide) (by decide) kq) ?_
        show GoW p e below s _ _ _ T215 (mkF m 117 #[.val (.int x0), .val (.int x1), .val (.int x2), .val (.int x3), .val (.int x4), .val (.int (1 : Int32)), .val (.int (0 : Int32)), .val (.int (x2 &&& (255 : Int32))), .val (.int (x3 &&& (255 : Int32))), .val (.int (x4 &&& (255 : Int32))), .val (.ref a214), .unset, .unset, .unset, .unset] [])
        refine gw_newO X215 hx hZ hown (hw _ (List.mem_of_getElem? (i := 2) rfl)) (hw _ (List.mem_of_getElem? (i := 3) rfl)) (hw _ (List.mem_of_getElem? (i := 4) rfl)) e215 (hb hby at_117) rfl (by decide) (by decide) ?_
        intro T216 h216 a216 g216 X216 e216 E216 A216 D216
        have y217 : h0.size ≤ h214.size := Nat.le_trans (Nat.le_refl _) E214.1
        have y218 : h0.size ≤ h215.size := (Wr.size W215).symm ▸ y217
        have c219 : a214 < h215.size := (Wr.size W215).symm ▸ lt_a214
        have ne220 : a214 ≠ a216 := fun q => Nat.lt_irrefl _ (Nat.lt_of_lt_of_le c219 (Nat.le_of_eq (g216.symm.trans q.symm)))
        have z221 : n0 ≤ h214.size := Nat.le_trans Z0 E214.1
        have z222 : n0 ≤ h215.size := (Wr.size W215).symm ▸ z221
        have nw_a216 : n0 ≤ a216 := Nat.le_trans z222 (Nat.le_of_eq g216.symm)
        have lt_a216 : a216 < h216.size := A216.lt
        have F223 : Fld Z h216 a216 "com/example/wirecall/wirecall/TextCursor" "text" "Ljava/lang/String;" .null := D216 (Or.inr (hw _ (List.mem_of_getElem? (i := 31) rfl))) (ty := (.object "java/lang/String")) (by decide)
        have F224 : Fld Z h216 a216 "com/example/wirecall/wirecall/TextCursor" "pos" "I" (.int (0 : Int32)) := D216 (Or.inl (hw _ (List.mem_of_getElem? (i := 38) rfl))) (ty := .int) (by decide)
        show GoW p e below s _ _ _ T216 (mkF m 120 #[.val (.int x0), .val (.int x1), .val (.int x2), .val (.int x3), .val (.int x4), .val (.int (1 : Int32)), .val (.int (0 : Int32)), .val (.int (x2 &&& (255 : Int32))), .val (.int (x3 &&& (255 : Int32))), .val (.int (x4 &&& (255 : Int32))), .val (.ref a214), .unset, .unset, .unset, .unset] [(.ref a216)])
        refine gw_st (fun _ kq => XS.dup X216.here hx rfl (hb hby at_120) rfl rfl kq) ?_
        show GoW p e below s _ _ _ T216 (mkF m 121 #[.val (.int x0), .val (.int x1), .val (.int x2), .val (.int x3), .val (.int x4), .val (.int (1 : Int32)), .val (.int (0 : Int32)), .val (.int (x2 &&& (255 : Int32))), .val (.int (x3 &&& (255 : Int32))), .val (.int (x4 &&& (255 : Int32))), .val (.ref a214), .unset, .unset, .unset, .unset] [(.ref a216), (.ref a216)])
        refine gw_newO X216 hx hZ hown (hw _ (List.mem_of_getElem? (i := 5) rfl)) (hw _ (List.mem_of_getElem? (i := 6) rfl)) (hw _ (List.mem_of_getElem? (i := 7) rfl)) e216 (hb hby at_121) rfl (by decide) (by decide) ?_
        intro T225 h225 a225 g225 X225 e225 E225 A225 D225
        have y226 : h0.size ≤ h216.size := Nat.le_trans y218 E216.1
        have c227 : a214 < h216.size := Nat.lt_of_lt_of_le c219 E216.1
        have ne228 : a214 ≠ a225 := fun q => Nat.lt_irrefl _ (Nat.lt_of_lt_of_le c227 (Nat.le_of_eq (g225.symm.trans q.symm)))
        have ne229 : a216 ≠ a225 := fun q => Nat.lt_irrefl _ (Nat.lt_of_lt_of_le lt_a216 (Nat.le_of_eq (g225.symm.trans q.symm)))
        have z230 : n0 ≤ h216.size := Nat.le_trans z222 E216.1
        have nw_a225 : n0 ≤ a225 := Nat.le_trans z230 (Nat.le_of_eq g225.symm)
        have lt_a225 : a225 < h225.size := A225.lt
        have F231 : Fld Z h225 a225 "java/lang/String" "value" "[B" .null := D225 (Or.inr (hw _ (List.mem_of_getElem? (i := 20) rfl))) (ty := (.array .byte)) (by decide)
        have F232 : Fld Z h225 a225 "java/lang/String" "coder" "B" (.int (0 : Int32)) := D225 (Or.inr (hw _ (List.mem_of_getElem? (i := 21) rfl))) (ty := .byte) (by decide)
        show GoW p e below s _ _ _ T225 (mkF m 124 #[.val (.int x0), .val (.int x1), .val (.int x2), .val (.int x3), .val (.int x4), .val (.int (1 : Int32)), .val (.int (0 : Int32)), .val (.int (x2 &&& (255 : Int32))), .val (.int (x3 &&& (255 : Int32))), .val (.int (x4 &&& (255 : Int32))), .val (.ref a214), .unset, .unset, .unset, .unset] [(.ref a225), (.ref a216), (.ref a216)])
        refine gw_st (fun _ kq => XS.dup X225.here hx rfl (hb hby at_124) rfl rfl kq) ?_
        show GoW p e below s _ _ _ T225 (mkF m 125 #[.val (.int x0), .val (.int x1), .val (.int x2), .val (.int x3), .val (.int x4), .val (.int (1 : Int32)), .val (.int (0 : Int32)), .val (.int (x2 &&& (255 : Int32))), .val (.int (x3 &&& (255 : Int32))), .val (.int (x4 &&& (255 : Int32))), .val (.ref a214), .unset, .unset, .unset, .unset] [(.ref a225), (.ref a225), (.ref a216), (.ref a216)])
        refine gw_st (fun _ kq => XS.aload X225.here hx rfl (hb hby at_125) rfl rfl kq) ?_
        show GoW p e below s _ _ _ T225 (mkF m 127 #[.val (.int x0), .val (.int x1), .val (.int x2), .val (.int x3), .val (.int x4), .val (.int (1 : Int32)), .val (.int (0 : Int32)), .val (.int (x2 &&& (255 : Int32))), .val (.int (x3 &&& (255 : Int32))), .val (.int (x4 &&& (255 : Int32))), .val (.ref a214), .unset, .unset, .unset, .unset] [(.ref a214), (.ref a225), (.ref a225), (.ref a216), (.ref a216)])
        have c234 := A215.ext E216
        have c235 := c234.ext E225
        have c236 := Old.ext O0 E214
        have c237 := Old.wr c236 W215 nw_a214
        have c238 := Old.ext c237 E216
        have c239 := Old.ext c238 E225
        have z240 : n0 ≤ h225.size := Nat.le_trans z230 E225.1
        refine gw_callI X225 hx hZ hml hown rfl (hw _ (List.mem_of_getElem? (i := 8) rfl)) (hw _ (List.mem_of_getElem? (i := 9) rfl)) (hw _ (List.mem_of_getElem? (i := 10) rfl)) (hw _ (List.mem_of_getElem? (i := 7) rfl)) e225 (argsL := [(.ref a214)]) (rest := [(.ref a225), (.ref a216), (.ref a216)]) (W := 3) (met_s1 l Z a0 hw a225 a214 (x2 &&& (255 : Int32)) zc h225 n0 z240 A225 F231 F232 nw_a225 c235 (Ne.symm ne228) (own_lat _) c239 S0 zn) (hb hby at_127) rfl rfl rfl (lenOf pd6 rfl) (by show 2 * 0 + _ ≤ _; exact Nat.le_of_eq rfl) (by decide) (by decide) (by decide) (by decide) (by decide) ?_
        intro T233 v233 L233 X233 q233
        obtain ⟨r_233, rfl, M233, K233, fz233_r, f233_0, f233_1, f233_2, f233_3⟩ := q233
        have N233 := Fr.app N215 M233
        have c241 : a214 < h225.size := Nat.lt_of_lt_of_le c227 E225.1
        have ne242 : a214 ≠ r_233 := Nat.ne_of_lt (Nat.lt_of_lt_of_le c241 fz233_r)
        have c243 : a216 < h225.size := Nat.lt_of_lt_of_le lt_a216 E225.1
        have ne244 : a216 ≠ r_233 := Nat.ne_of_lt (Nat.lt_of_lt_of_le c243 fz233_r)
        have ne245 : a225 ≠ r_233 := Nat.ne_of_lt (Nat.lt_of_lt_of_le lt_a225 fz233_r)
        have nw_r_233 : n0 ≤ r_233 := Nat.le_trans z240 fz233_r
        have y246 : h0.size ≤ h225.size := Nat.le_trans y226 E225.1
        have lt_r_233 : r_233 < T233.heap.size := f233_3.lt
        show GoW p e below s _ _ _ T233 (mkF m 130 #[.val (.int x0), .val (.int x1), .val (.int x2), .val (.int x3), .val (.int x4), .val (.int (1 : Int32)), .val (.int (0 : Int32)), .val (.int (x2 &&& (255 : Int32))), .val (.int (x3 &&& (255 : Int32))), .val (.int (x4 &&& (255 : Int32))), .val (.ref a214), .unset, .unset, .unset, .unset] [(.ref a225), (.ref a216), (.ref a216)])
        have c248 := Exa.ext E225 A216
        have c249 := Exa.keep c248 K233
        have c250 := Fld.ext E225 F223
        have c251 := Fld.keep c250 K233 (ninS ne229 nin0)
        have c252 := Fld.ext E225 F224
        have c253 := Fld.keep c252 K233 (ninS ne229 nin0)
        have z254 : n0 ≤ T233.heap.size := Nat.le_trans z240 K233.1
        refine gw_callI X233 hx hZ hml hown rfl (hw _ (List.mem_of_getElem? (i := 26) rfl)) (hw _ (List.mem_of_getElem? (i := 27) rfl)) (hw _ (List.mem_of_getElem? (i := 28) rfl)) (hw _ (List.mem_of_getElem? (i := 4) rfl)) rfl (argsL := [(.ref a225)]) (rest := [(.ref a216)]) (W := 1) (met_tci l Z a0 hw a216 a225 T233.heap n0 z254 c249 c251 c253 nw_a216) (hb hby at_130) rfl rfl rfl (lenOf pd7 rfl) (by show 2 * 0 + _ ≤ _; exact Nat.le_of_eq rfl) (by decide) (by decide) (by decide) (by decide) (by decide) ?_
        intro T247 v247 L247 X247 q247
        obtain ⟨rfl, M247, K247, f247_0, f247_1⟩ := q247
        have N247 := Fr.app N233 M247
        show GoW p e below s _ _ _ T247 (mkF m 133 #[.val (.int x0), .val (.int x1), .val (.int x2), .val (.int x3), .val (.int x4), .val (.int (1 : Int32)), .val (.int (0 : Int32)), .val (.int (x2 &&& (255 : Int32))), .val (.int (x3 &&& (255 : Int32))), .val (.int (x4 &&& (255 : Int32))), .val (.ref a214), .unset, .unset, .unset, .unset] [(.ref a216)])
        refine gw_st (fun _ kq => XS.astore X247.here hx rfl (hb hby at_133) rfl rfl (l' := #[.val (.int x0), .val (.int x1), .val (.int x2), .val (.int x3), .val (.int x4), .val (.int (1 : Int32)), .val (.int (0 : Int32)), .val (.int (x2 &&& (255 : Int32))), .val (.int (x3 &&& (255 : Int32))), .val (.int (x4 &&& (255 : Int32))), .val (.ref a214), .val (.ref a216), .unset, .unset, .unset]) rfl kq) ?_
        show GoW p e below s _ _ _ T247 (mkF m 135 #[.val (.int x0), .val (.int x1), .val (.int x2), .val (.int x3), .val (.int x4), .val (.int (1 : Int32)), .val (.int (0 : Int32)), .val (.int (x2 &&& (255 : Int32))), .val (.int (x3 &&& (255 : Int32))), .val (.int (x4 &&& (255 : Int32))), .val (.ref a214), .val (.ref a216), .unset, .unset, .unset] [])
        refine gw_st (fun _ kq => XS.aload X247.here hx rfl (hb hby at_135) rfl rfl kq) ?_
        show GoW p e below s _ _ _ T247 (mkF m 137 #[.val (.int x0), .val (.int x1), .val (.int x2), .val (.int x3), .val (.int x4), .val (.int (1 : Int32)), .val (.int (0 : Int32)), .val (.int (x2 &&& (255 : Int32))), .val (.int (x3 &&& (255 : Int32))), .val (.int (x4 &&& (255 : Int32))), .val (.ref a214), .val (.ref a216), .unset, .unset, .unset] [(.ref a216)])
        have c256 := Exa.keep f233_0 K247
        have c257 := Fld.keep f233_1 K247 (ninS (Ne.symm ne229) nin0)
        have c258 := Fld.keep f233_2 K247 (ninS (Ne.symm ne229) nin0)
        have c259 := GA.keep f233_3 K247 (ninS (Ne.symm ne244) nin0)
        have c260 := Old.keep c239 K233 (allS nw_a225 all0)
        have c261 := Old.keep c260 K247 (allS nw_a216 all0)
        have z262 : n0 ≤ T247.heap.size := Nat.le_trans z254 K247.1
        have c263 := Exa.keep c249 K247
        refine gw_callV X247 hx hZ hml hown (hw _ (List.mem_of_getElem? (i := 32) rfl)) (hw _ (List.mem_of_getElem? (i := 33) rfl)) (notFace_of_selects (args := #[]) (mvT hZ (hw _ (List.mem_of_getElem? (i := 35) rfl)))) (hw _ (List.mem_of_getElem? (i := 35) rfl)) (hw _ (List.mem_of_getElem? (i := 34) rfl)) (hw _ (List.mem_of_getElem? (i := 36) rfl)) (hw _ (List.mem_of_getElem? (i := 4) rfl)) rfl c263 (argsL := []) (rest := []) (W := 0) (met_end10 l Z a0 hw a216 a225 r_233 (fun i => .int (own_c3 (own_by (x2 &&& (255 : Int32))) (0 : Int32) (0 : Int32) i)) zc T247.heap n0 z262 f247_1 f247_0 c256 c257 c258 c259 c261 S0 zn) (hb hby at_137) rfl rfl rfl (lenOf pd8 rfl) (by show 2 * 0 + _ ≤ _; exact Nat.le_of_eq rfl) (by decide) (by decide) (by decide) (by decide) (by decide) ?_
        intro T255 v255 L255 X255 q255
        obtain ⟨rfl, M255, e255⟩ := q255
        have N255 := Fr.app N247 M255
        show GoW p e below s _ _ _ T255 (mkF m 140 #[.val (.int x0), .val (.int x1), .val (.int x2), .val (.int x3), .val (.int x4), .val (.int (1 : Int32)), .val (.int (0 : Int32)), .val (.int (x2 &&& (255 : Int32))), .val (.int (x3 &&& (255 : Int32))), .val (.int (x4 &&& (255 : Int32))), .val (.ref a214), .val (.ref a216), .unset, .unset, .unset] [(.int (0 : Int32))])
        refine gw_st (fun _ kq => XS.iload X255.here hx rfl (hb hby at_140) rfl kq) ?_
        show GoW p e below s _ _ _ T255 (mkF m 142 #[.val (.int x0), .val (.int x1), .val (.int x2), .val (.int x3), .val (.int x4), .val (.int (1 : Int32)), .val (.int (0 : Int32)), .val (.int (x2 &&& (255 : Int32))), .val (.int (x3 &&& (255 : Int32))), .val (.int (x4 &&& (255 : Int32))), .val (.ref a214), .val (.ref a216), .unset, .unset, .unset] [(.int (1 : Int32)), (.int (0 : Int32))])
        refine gw_st (fun _ kq => XS.ifYes X255.here hx rfl (pc0 := 142) (pc' := 149) rfl (hb hby at_142) rfl (XT.i0_ne_t (by decide)) (by decide) (by decide) kq) ?_
        show GoW p e below s _ _ _ T255 (mkF m 149 #[.val (.int x0), .val (.int x1), .val (.int x2), .val (.int x3), .val (.int x4), .val (.int (1 : Int32)), .val (.int (0 : Int32)), .val (.int (x2 &&& (255 : Int32))), .val (.int (x3 &&& (255 : Int32))), .val (.int (x4 &&& (255 : Int32))), .val (.ref a214), .val (.ref a216), .unset, .unset, .unset] [(.int (0 : Int32))])
        refine gw_st (fun _ kq => XT.iconstV X255.here hx rfl (0 : Int32) (hb hby at_149) (by decide) kq) ?_
        show GoW p e below s _ _ _ T255 (mkF m 150 #[.val (.int x0), .val (.int x1), .val (.int x2), .val (.int x3), .val (.int x4), .val (.int (1 : Int32)), .val (.int (0 : Int32)), .val (.int (x2 &&& (255 : Int32))), .val (.int (x3 &&& (255 : Int32))), .val (.int (x4 &&& (255 : Int32))), .val (.ref a214), .val (.ref a216), .unset, .unset, .unset] [(.int (0 : Int32)), (.int (0 : Int32))])
        refine gw_st (fun _ kq => XS.icmpNo X255.here hx rfl (hb hby at_150) rfl (XT.ii_ne_f (by decide)) kq) ?_
        show GoW p e below s _ _ _ T255 (mkF m 153 #[.val (.int x0), .val (.int x1), .val (.int x2), .val (.int x3), .val (.int x4), .val (.int (1 : Int32)), .val (.int (0 : Int32)), .val (.int (x2 &&& (255 : Int32))), .val (.int (x3 &&& (255 : Int32))), .val (.int (x4 &&& (255 : Int32))), .val (.ref a214), .val (.ref a216), .unset, .unset, .unset] [])
        refine gw_st (fun _ kq => XT.iconstV X255.here hx rfl (1 : Int32) (hb hby at_153) (by decide) kq) ?_
        show GoW p e below s _ _ _ T255 (mkF m 154 #[.val (.int x0), .val (.int x1), .val (.int x2), .val (.int x3), .val (.int x4), .val (.int (1 : Int32)), .val (.int (0 : Int32)), .val (.int (x2 &&& (255 : Int32))), .val (.int (x3 &&& (255 : Int32))), .val (.int (x4 &&& (255 : Int32))), .val (.ref a214), .val (.ref a216), .unset, .unset, .unset] [(.int (1 : Int32))])
        refine gw_st (fun _ kq => XS.goto X255.here hx rfl (pc0 := 154) (pc' := 158) rfl (hb hby at_154) (by decide) (by decide) kq) ?_
        show GoW p e below s _ _ _ T255 (mkF m 158 #[.val (.int x0), .val (.int x1), .val (.int x2), .val (.int x3), .val (.int x4), .val (.int (1 : Int32)), .val (.int (0 : Int32)), .val (.int (x2 &&& (255 : Int32))), .val (.int (x3 &&& (255 : Int32))), .val (.int (x4 &&& (255 : Int32))), .val (.ref a214), .val (.ref a216), .unset, .unset, .unset] [(.int (1 : Int32))])
        refine gw_st (fun _ kq => XS.istore X255.here hx rfl (hb hby at_158) rfl (l' := #[.val (.int x0), .val (.int x1), .val (.int x2), .val (.int x3), .val (.int x4), .val (.int (1 : Int32)), .val (.int (0 : Int32)), .val (.int (x2 &&& (255 : Int32))), .val (.int (x3 &&& (255 : Int32))), .val (.int (x4 &&& (255 : Int32))), .val (.ref a214), .val (.ref a216), .val (.int (1 : Int32)), .unset, .unset]) rfl kq) ?_
        show GoW p e below s _ _ _ T255 (mkF m 160 #[.val (.int x0), .val (.int x1), .val (.int x2), .val (.int x3), .val (.int x4), .val (.int (1 : Int32)), .val (.int (0 : Int32)), .val (.int (x2 &&& (255 : Int32))), .val (.int (x3 &&& (255 : Int32))), .val (.int (x4 &&& (255 : Int32))), .val (.ref a214), .val (.ref a216), .val (.int (1 : Int32)), .unset, .unset] [])
        refine gw_st (fun _ kq => XS.iload X255.here hx rfl (hb hby at_160) rfl kq) ?_
        show GoW p e below s _ _ _ T255 (mkF m 162 #[.val (.int x0), .val (.int x1), .val (.int x2), .val (.int x3), .val (.int x4), .val (.int (1 : Int32)), .val (.int (0 : Int32)), .val (.int (x2 &&& (255 : Int32))), .val (.int (x3 &&& (255 : Int32))), .val (.int (x4 &&& (255 : Int32))), .val (.ref a214), .val (.ref a216), .val (.int (1 : Int32)), .unset, .unset] [(.int (0 : Int32))])
        refine gw_st (fun _ kq => XT.iconstV X255.here hx rfl (1 : Int32) (hb hby at_162) (by decide) kq) ?_
        show GoW p e below s _ _ _ T255 (mkF m 163 #[.val (.int x0), .val (.int x1), .val (.int x2), .val (.int x3), .val (.int x4), .val (.int (1 : Int32)), .val (.int (0 : Int32)), .val (.int (x2 &&& (255 : Int32))), .val (.int (x3 &&& (255 : Int32))), .val (.int (x4 &&& (255 : Int32))), .val (.ref a214), .val (.ref a216), .val (.int (1 : Int32)), .unset, .unset] [(.int (1 : Int32)), (.int (0 : Int32))])
        refine gw_st (fun _ kq => XS.icmpYes X255.here hx rfl (pc0 := 163) (pc' := 171) rfl (hb hby at_163) rfl (XT.ii_lt_t (by decide)) (by decide) (by decide) kq) ?_
        show GoW p e below s _ _ _ T255 (mkF m 171 #[.val (.int x0), .val (.int x1), .val (.int x2), .val (.int x3), .val (.int x4), .val (.int (1 : Int32)), .val (.int (0 : Int32)), .val (.int (x2 &&& (255 : Int32))), .val (.int (x3 &&& (255 : Int32))), .val (.int (x4 &&& (255 : Int32))), .val (.ref a214), .val (.ref a216), .val (.int (1 : Int32)), .unset, .unset] [])
        refine gw_st (fun _ kq => XS.iload X255.here hx rfl (hb hby at_171) rfl kq) ?_
        show GoW p e below s _ _ _ T255 (mkF m 173 #[.val (.int x0), .val (.int x1), .val (.int x2), .val (.int x3), .val (.int x4), .val (.int (1 : Int32)), .val (.int (0 : Int32)), .val (.int (x2 &&& (255 : Int32))), .val (.int (x3 &&& (255 : Int32))), .val (.int (x4 &&& (255 : Int32))), .val (.ref a214), .val (.ref a216), .val (.int (1 : Int32)), .unset, .unset] [(.int (0 : Int32))])
        refine gw_st (fun _ kq => XT.iconstV X255.here hx rfl (2 : Int32) (hb hby at_173) (by decide) kq) ?_
        show GoW p e below s _ _ _ T255 (mkF m 174 #[.val (.int x0), .val (.int x1), .val (.int x2), .val (.int x3), .val (.int x4), .val (.int (1 : Int32)), .val (.int (0 : Int32)), .val (.int (x2 &&& (255 : Int32))), .val (.int (x3 &&& (255 : Int32))), .val (.int (x4 &&& (255 : Int32))), .val (.ref a214), .val (.ref a216), .val (.int (1 : Int32)), .unset, .unset] [(.int (2 : Int32)), (.int (0 : Int32))])
        refine gw_st (fun _ kq => XS.icmpYes X255.here hx rfl (pc0 := 174) (pc' := 182) rfl (hb hby at_174) rfl (XT.ii_lt_t (by decide)) (by decide) (by decide) kq) ?_
        show GoW p e below s _ _ _ T255 (mkF m 182 #[.val (.int x0), .val (.int x1), .val (.int x2), .val (.int x3), .val (.int x4), .val (.int (1 : Int32)), .val (.int (0 : Int32)), .val (.int (x2 &&& (255 : Int32))), .val (.int (x3 &&& (255 : Int32))), .val (.int (x4 &&& (255 : Int32))), .val (.ref a214), .val (.ref a216), .val (.int (1 : Int32)), .unset, .unset] [])
        refine gw_st (fun _ kq => XS.iload X255.here hx rfl (hb hby at_182) rfl kq) ?_
        show GoW p e below s _ _ _ T255 (mkF m 184 #[.val (.int x0), .val (.int x1), .val (.int x2), .val (.int x3), .val (.int x4), .val (.int (1 : Int32)), .val (.int (0 : Int32)), .val (.int (x2 &&& (255 : Int32))), .val (.int (x3 &&& (255 : Int32))), .val (.int (x4 &&& (255 : Int32))), .val (.ref a214), .val (.ref a216), .val (.int (1 : Int32)), .unset, .unset] [(.int (0 : Int32))])
        refine gw_st (fun _ kq => XT.iconstV X255.here hx rfl (3 : Int32) (hb hby at_184) (by decide) kq) ?_
        show GoW p e below s _ _ _ T255 (mkF m 185 #[.val (.int x0), .val (.int x1), .val (.int x2), .val (.int x3), .val (.int x4), .val (.int (1 : Int32)), .val (.int (0 : Int32)), .val (.int (x2 &&& (255 : Int32))), .val (.int (x3 &&& (255 : Int32))), .val (.int (x4 &&& (255 : Int32))), .val (.ref a214), .val (.ref a216), .val (.int (1 : Int32)), .unset, .unset] [(.int (3 : Int32)), (.int (0 : Int32))])
        refine gw_st (fun _ kq => XS.icmpYes X255.here hx rfl (pc0 := 185) (pc' := 193) rfl (hb hby at_185) rfl (XT.ii_lt_t (by decide)) (by decide) (by decide) kq) ?_
        show GoW p e below s _ _ _ T255 (mkF m 193 #[.val (.int x0), .val (.int x1), .val (.int x2), .val (.int x3), .val (.int x4), .val (.int (1 : Int32)), .val (.int (0 : Int32)), .val (.int (x2 &&& (255 : Int32))), .val (.int (x3 &&& (255 : Int32))), .val (.int (x4 &&& (255 : Int32))), .val (.ref a214), .val (.ref a216), .val (.int (1 : Int32)), .unset, .unset] [])
        refine gw_st (fun _ kq => XS.aload X255.here hx rfl (hb hby at_193) rfl rfl kq) ?_
        show GoW p e below s _ _ _ T255 (mkF m 195 #[.val (.int x0), .val (.int x1), .val (.int x2), .val (.int x3), .val (.int x4), .val (.int (1 : Int32)), .val (.int (0 : Int32)), .val (.int (x2 &&& (255 : Int32))), .val (.int (x3 &&& (255 : Int32))), .val (.int (x4 &&& (255 : Int32))), .val (.ref a214), .val (.ref a216), .val (.int (1 : Int32)), .unset, .unset] [(.ref a216)])
        refine gw_callV X255 hx hZ hml hown (hw _ (List.mem_of_getElem? (i := 32) rfl)) (hw _ (List.mem_of_getElem? (i := 33) rfl)) (notFace_of_selects (args := #[]) (mvT hZ (hw _ (List.mem_of_getElem? (i := 35) rfl)))) (hw _ (List.mem_of_getElem? (i := 35) rfl)) (hw _ (List.mem_of_getElem? (i := 34) rfl)) (hw _ (List.mem_of_getElem? (i := 36) rfl)) (hw _ (List.mem_of_getElem? (i := 4) rfl)) e255 c263 (argsL := []) (rest := []) (W := 0) (met_end10 l Z a0 hw a216 a225 r_233 (fun i => .int (own_c3 (own_by (x2 &&& (255 : Int32))) (0 : Int32) (0 : Int32) i)) zc T247.heap n0 z262 f247_1 f247_0 c256 c257 c258 c259 c261 S0 zn) (hb hby at_195) rfl rfl rfl (lenOf pd8 rfl) (by show 2 * 0 + _ ≤ _; exact Nat.le_of_eq rfl) (by decide) (by decide) (by decide) (by decide) (by decide) ?_
        intro T264 v264 L264 X264 q264
        obtain ⟨rfl, M264, e264⟩ := q264
        have N264 := Fr.app N255 M264
        show GoW p e below s _ _ _ T264 (mkF m 198 #[.val (.int x0), .val (.int x1), .val (.int x2), .val (.int x3), .val (.int x4), .val (.int (1 : Int32)), .val (.int (0 : Int32)), .val (.int (x2 &&& (255 : Int32))), .val (.int (x3 &&& (255 : Int32))), .val (.int (x4 &&& (255 : Int32))), .val (.ref a214), .val (.ref a216), .val (.int (1 : Int32)), .unset, .unset] [(.int (0 : Int32))])
        refine gw_st (fun _ kq => XS.iload X264.here hx rfl (hb hby at_198) rfl kq) ?_
        show GoW p e below s _ _ _ T264 (mkF m 200 #[.val (.int x0), .val (.int x1), .val (.int x2), .val (.int x3), .val (.int x4), .val (.int (1 : Int32)), .val (.int (0 : Int32)), .val (.int (x2 &&& (255 : Int32))), .val (.int (x3 &&& (255 : Int32))), .val (.int (x4 &&& (255 : Int32))), .val (.ref a214), .val (.ref a216), .val (.int (1 : Int32)), .unset, .unset] [(.int (0 : Int32)), (.int (0 : Int32))])
        refine gw_st (fun _ kq => XS.iload X264.here hx rfl (hb hby at_200) rfl kq) ?_
        show GoW p e below s _ _ _ T264 (mkF m 202 #[.val (.int x0), .val (.int x1), .val (.int x2), .val (.int x3), .val (.int x4), .val (.int (1 : Int32)), .val (.int (0 : Int32)), .val (.int (x2 &&& (255 : Int32))), .val (.int (x3 &&& (255 : Int32))), .val (.int (x4 &&& (255 : Int32))), .val (.ref a214), .val (.ref a216), .val (.int (1 : Int32)), .unset, .unset] [(.int (1 : Int32)), (.int (0 : Int32)), (.int (0 : Int32))])
        refine gw_st (fun _ kq => XS.icmpYes X264.here hx rfl (pc0 := 202) (pc' := 209) rfl (hb hby at_202) rfl (XT.ii_ne_t (by decide)) (by decide) (by decide) kq) ?_
        show GoW p e below s _ _ _ T264 (mkF m 209 #[.val (.int x0), .val (.int x1), .val (.int x2), .val (.int x3), .val (.int x4), .val (.int (1 : Int32)), .val (.int (0 : Int32)), .val (.int (x2 &&& (255 : Int32))), .val (.int (x3 &&& (255 : Int32))), .val (.int (x4 &&& (255 : Int32))), .val (.ref a214), .val (.ref a216), .val (.int (1 : Int32)), .unset, .unset] [(.int (0 : Int32))])
        refine gw_st (fun _ kq => XT.iconstV X264.here hx rfl (0 : Int32) (hb hby at_209) (by decide) kq) ?_
        show GoW p e below s _ _ _ T264 (mkF m 210 #[.val (.int x0), .val (.int x1), .val (.int x2), .val (.int x3), .val (.int x4), .val (.int (1 : Int32)), .val (.int (0 : Int32)), .val (.int (x2 &&& (255 : Int32))), .val (.int (x3 &&& (255 : Int32))), .val (.int (x4 &&& (255 : Int32))), .val (.ref a214), .val (.ref a216), .val (.int (1 : Int32)), .unset, .unset] [(.int (0 : Int32)), (.int (0 : Int32))])
        refine gw_st (fun _ kq => XS.icmpNo X264.here hx rfl (hb hby at_210) rfl (XT.ii_ne_f (by decide)) kq) ?_
        show GoW p e below s _ _ _ T264 (mkF m 213 #[.val (.int x0), .val (.int x1), .val (.int x2), .val (.int x3), .val (.int x4), .val (.int (1 : Int32)), .val (.int (0 : Int32)), .val (.int (x2 &&& (255 : Int32))), .val (.int (x3 &&& (255 : Int32))), .val (.int (x4 &&& (255 : Int32))), .val (.ref a214), .val (.ref a216), .val (.int (1 : Int32)), .unset, .unset] [])
        refine gw_st (fun _ kq => XT.iconstV X264.here hx rfl (1 : Int32) (hb hby at_213) (by decide) kq) ?_
        show GoW p e below s _ _ _ T264 (mkF m 214 #[.val (.int x0), .val (.int x1), .val (.int x2), .val (.int x3), .val (.int x4), .val (.int (1 : Int32)), .val (.int (0 : Int32)), .val (.int (x2 &&& (255 : Int32))), .val (.int (x3 &&& (255 : Int32))), .val (.int (x4 &&& (255 : Int32))), .val (.ref a214), .val (.ref a216), .val (.int (1 : Int32)), .unset, .unset] [(.int (1 : Int32))])
        refine gw_st (fun _ kq => XS.goto X264.here hx rfl (pc0 := 214) (pc' := 218) rfl (hb hby at_214) (by decide) (by decide) kq) ?_
        show GoW p e below s _ _ _ T264 (mkF m 218 #[.val (.int x0), .val (.int x1), .val (.int x2), .val (.int x3), .val (.int x4), .val (.int (1 : Int32)), .val (.int (0 : Int32)), .val (.int (x2 &&& (255 : Int32))), .val (.int (x3 &&& (255 : Int32))), .val (.int (x4 &&& (255 : Int32))), .val (.ref a214), .val (.ref a216), .val (.int (1 : Int32)), .unset, .unset] [(.int (1 : Int32))])
        refine gw_st (fun _ kq => XS.istore X264.here hx rfl (hb hby at_218) rfl (l' := #[.val (.int x0), .val (.int x1), .val (.int x2), .val (.int x3), .val (.int x4), .val (.int (1 : Int32)), .val (.int (0 : Int32)), .val (.int (x2 &&& (255 : Int32))), .val (.int (x3 &&& (255 : Int32))), .val (.int (x4 &&& (255 : Int32))), .val (.ref a214), .val (.ref a216), .val (.int (1 : Int32)), .val (.int (1 : Int32)), .unset]) rfl kq) ?_
        show GoW p e below s _ _ _ T264 (mkF m 220 #[.val (.int x0), .val (.int x1), .val (.int x2), .val (.int x3), .val (.int x4), .val (.int (1 : Int32)), .val (.int (0 : Int32)), .val (.int (x2 &&& (255 : Int32))), .val (.int (x3 &&& (255 : Int32))), .val (.int (x4 &&& (255 : Int32))), .val (.ref a214), .val (.ref a216), .val (.int (1 : Int32)), .val (.int (1 : Int32)), .unset] [])
        refine gw_st (fun _ kq => XS.aload X264.here hx rfl (hb hby at_220) rfl rfl kq) ?_
        show GoW p e below s _ _ _ T264 (mkF m 222 #[.val (.int x0), .val (.int x1), .val (.int x2), .val (.int x3), .val (.int x4), .val (.int (1 : Int32)), .val (.int (0 : Int32)), .val (.int (x2 &&& (255 : Int32))), .val (.int (x3 &&& (255 : Int32))), .val (.int (x4 &&& (255 : Int32))), .val (.ref a214), .val (.ref a216), .val (.int (1 : Int32)), .val (.int (1 : Int32)), .unset] [(.ref a216)])
        refine gw_callV X264 hx hZ hml hown (hw _ (List.mem_of_getElem? (i := 50) rfl)) (hw _ (List.mem_of_getElem? (i := 51) rfl)) (notFace_of_selects (args := #[]) (mvT hZ (hw _ (List.mem_of_getElem? (i := 53) rfl)))) (hw _ (List.mem_of_getElem? (i := 53) rfl)) (hw _ (List.mem_of_getElem? (i := 52) rfl)) (hw _ (List.mem_of_getElem? (i := 54) rfl)) (hw _ (List.mem_of_getElem? (i := 4) rfl)) e264 c263 (argsL := []) (rest := []) (W := 0) (met_8 l Z a0 hw a216 (0 : Int32) T247.heap n0 z262 f247_1) (hb hby at_222) rfl rfl rfl (lenOf pd5 rfl) (by show 2 * 0 + _ ≤ _; exact Nat.le_of_eq rfl) (by decide) (by decide) (by decide) (by decide) (by decide) ?_
        intro T265 v265 L265 X265 q265
        obtain ⟨rfl, M265, e265⟩ := q265
        have N265 := Fr.app N264 M265
        show GoW p e below s _ _ _ T265 (mkF m 225 #[.val (.int x0), .val (.int x1), .val (.int x2), .val (.int x3), .val (.int x4), .val (.int (1 : Int32)), .val (.int (0 : Int32)), .val (.int (x2 &&& (255 : Int32))), .val (.int (x3 &&& (255 : Int32))), .val (.int (x4 &&& (255 : Int32))), .val (.ref a214), .val (.ref a216), .val (.int (1 : Int32)), .val (.int (1 : Int32)), .unset] [(.int (0 : Int32))])
        refine gw_st (fun _ kq => XS.iload X265.here hx rfl (hb hby at_225) rfl kq) ?_
        show GoW p e below s _ _ _ T265 (mkF m 227 #[.val (.int x0), .val (.int x1), .val (.int x2), .val (.int x3), .val (.int x4), .val (.int (1 : Int32)), .val (.int (0 : Int32)), .val (.int (x2 &&& (255 : Int32))), .val (.int (x3 &&& (255 : Int32))), .val (.int (x4 &&& (255 : Int32))), .val (.ref a214), .val (.ref a216), .val (.int (1 : Int32)), .val (.int (1 : Int32)), .unset] [(.int (0 : Int32)), (.int (0 : Int32))])
        refine gw_st (fun _ kq => XS.icmpNo X265.here hx rfl (hb hby at_227) rfl (XT.ii_ne_f (by decide)) kq) ?_
        show GoW p e below s _ _ _ T265 (mkF m 230 #[.val (.int x0), .val (.int x1), .val (.int x2), .val (.int x3), .val (.int x4), .val (.int (1 : Int32)), .val (.int (0 : Int32)), .val (.int (x2 &&& (255 : Int32))), .val (.int (x3 &&& (255 : Int32))), .val (.int (x4 &&& (255 : Int32))), .val (.ref a214), .val (.ref a216), .val (.int (1 : Int32)), .val (.int (1 : Int32)), .unset] [])
        refine gw_st (fun _ kq => XT.iconstV X265.here hx rfl (1 : Int32) (hb hby at_230) (by decide) kq) ?_
        show GoW p e below s _ _ _ T265 (mkF m 231 #[.val (.int x0), .val (.int x1), .val (.int x2), .val (.int x3), .val (.int x4), .val (.int (1 : Int32)), .val (.int (0 : Int32)), .val (.int (x2 &&& (255 : Int32))), .val (.int (x3 &&& (255 : Int32))), .val (.int (x4 &&& (255 : Int32))), .val (.ref a214), .val (.ref a216), .val (.int (1 : Int32)), .val (.int (1 : Int32)), .unset] [(.int (1 : Int32))])
        refine gw_st (fun _ kq => XS.goto X265.here hx rfl (pc0 := 231) (pc' := 235) rfl (hb hby at_231) (by decide) (by decide) kq) ?_
        show GoW p e below s _ _ _ T265 (mkF m 235 #[.val (.int x0), .val (.int x1), .val (.int x2), .val (.int x3), .val (.int x4), .val (.int (1 : Int32)), .val (.int (0 : Int32)), .val (.int (x2 &&& (255 : Int32))), .val (.int (x3 &&& (255 : Int32))), .val (.int (x4 &&& (255 : Int32))), .val (.ref a214), .val (.ref a216), .val (.int (1 : Int32)), .val (.int (1 : Int32)), .unset] [(.int (1 : Int32))])
        refine gw_st (fun _ kq => XS.istore X265.here hx rfl (hb hby at_235) rfl (l' := #[.val (.int x0), .val (.int x1), .val (.int x2), .val (.int x3), .val (.int x4), .val (.int (1 : Int32)), .val (.int (0 : Int32)), .val (.int (x2 &&& (255 : Int32))), .val (.int (x3 &&& (255 : Int32))), .val (.int (x4 &&& (255 : Int32))), .val (.ref a214), .val (.ref a216), .val (.int (1 : Int32)), .val (.int (1 : Int32)), .val (.int (1 : Int32))]) rfl kq) ?_
        show GoW p e below s _ _ _ T265 (mkF m 237 #[.val (.int x0), .val (.int x1), .val (.int x2), .val (.int x3), .val (.int x4), .val (.int (1 : Int32)), .val (.int (0 : Int32)), .val (.int (x2 &&& (255 : Int32))), .val (.int (x3 &&& (255 : Int32))), .val (.int (x4 &&& (255 : Int32))), .val (.ref a214), .val (.ref a216), .val (.int (1 : Int32)), .val (.int (1 : Int32)), .val (.int (1 : Int32))] [])
        refine gw_st (fun _ kq => XS.iload X265.here hx rfl (hb hby at_237) rfl kq) ?_
        show GoW p e below s _ _ _ T265 (mkF m 239 #[.val (.int x0), .val (.int x1), .val (.int x2), .val (.int x3), .val (.int x4), .val (.int (1 : Int32)), .val (.int (0 : Int32)), .val (.int (x2 &&& (255 : Int32))), .val (.int (x3 &&& (255 : Int32))), .val (.int (x4 &&& (255 : Int32))), .val (.ref a214), .val (.ref a216), .val (.int (1 : Int32)), .val (.int (1 : Int32)), .val (.int (1 : Int32))] [(.int (1 : Int32))])
        refine gw_st (fun _ kq => XS.ifNo X265.here hx rfl (hb hby at_239) rfl (XT.i0_eq_f (by decide)) kq) ?_
        show GoW p e below s _ _ _ T265 (mkF m 242 #[.val (.int x0), .val (.int x1), .val (.int x2), .val (.int x3), .val (.int x4), .val (.int (1 : Int32)), .val (.int (0 : Int32)), .val (.int (x2 &&& (255 : Int32))), .val (.int (x3 &&& (255 : Int32))), .val (.int (x4 &&& (255 : Int32))), .val (.ref a214), .val (.ref a216), .val (.int (1 : Int32)), .val (.int (1 : Int32)), .val (.int (1 : Int32))] [])
        refine gw_st (fun _ kq => XS.iload X265.here hx rfl (hb hby at_242) rfl kq) ?_
        show GoW p e below s _ _ _ T265 (mkF m 244 #[.val (.int x0), .val (.int x1), .val (.int x2), .val (.int x3), .val (.int x4), .val (.int (1 : Int32)), .val (.int (0 : Int32)), .val (.int (x2 &&& (255 : Int32))), .val (.int (x3 &&& (255 : Int32))), .val (.int (x4 &&& (255 : Int32))), .val (.ref a214), .val (.ref a216), .val (.int (1 : Int32)), .val (.int (1 : Int32)), .val (.int (1 : Int32))] [(.int (1 : Int32))])
        refine gw_st (fun _ kq => XS.ifNo X265.here hx rfl (hb hby at_244) rfl (XT.i0_eq_f (by decide)) kq) ?_
        show GoW p e below s _ _ _ T265 (mkF m 247 #[.val (.int x0), .val (.int x1), .val (.int x2), .val (.int x3), .val (.int x4), .val (.int (1 : Int32)), .val (.int (0 : Int32)), .val (.int (x2 &&& (255 : Int32))), .val (.int (x3 &&& (255 : Int32))), .val (.int (x4 &&& (255 : Int32))), .val (.ref a214), .val (.ref a216), .val (.int (1 : Int32)), .val (.int (1 : Int32)), .val (.int (1 : Int32))] [])
        refine gw_st (fun _ kq => XS.iload X265.here hx rfl (hb hby at_247) rfl kq) ?_
        show GoW p e below s _ _ _ T265 (mkF m 249 #[.val (.int x0), .val (.int x1), .val (.int x2), .val (.int x3), .val (.int x4), .val (.int (1 : Int32)), .val (.int (0 : Int32)), .val (.int (x2 &&& (255 : Int32))), .val (.int (x3 &&& (255 : Int32))), .val (.int (x4 &&& (255 : Int32))), .val (.ref a214), .val (.ref a216), .val (.int (1 : Int32)), .val (.int (1 : Int32)), .val (.int (1 : Int32))] [(.int (1 : Int32))])
        refine gw_st (fun _ kq => XS.ifNo X265.here hx rfl (hb hby at_249) rfl (XT.i0_eq_f (by decide)) kq) ?_
        show GoW p e below s _ _ _ T265 (mkF m 252 #[.val (.int x0), .val (.int x1), .val (.int x2), .val (.int x3), .val (.int x4), .val (.int (1 : Int32)), .val (.int (0 : Int32)), .val (.int (x2 &&& (255 : Int32))), .val (.int (x3 &&& (255 : Int32))), .val (.int (x4 &&& (255 : Int32))), .val (.ref a214), .val (.ref a216), .val (.int (1 : Int32)), .val (.int (1 : Int32)), .val (.int (1 : Int32))] [])
        refine gw_st (fun _ kq => XT.iconstV X265.here hx rfl (1 : Int32) (hb hby at_252) (by decide) kq) ?_
        show GoW p e below s _ _ _ T265 (mkF m 253 #[.val (.int x0), .val (.int x1), .val (.int x2), .val (.int x3), .val (.int x4), .val (.int (1 : Int32)), .val (.int (0 : Int32)), .val (.int (x2 &&& (255 : Int32))), .val (.int (x3 &&& (255 : Int32))), .val (.int (x4 &&& (255 : Int32))), .val (.ref a214), .val (.ref a216), .val (.int (1 : Int32)), .val (.int (1 : Int32)), .val (.int (1 : Int32))] [(.int (1 : Int32))])
        refine gw_st (fun _ kq => XS.goto X265.here hx rfl (pc0 := 253) (pc' := 257) rfl (hb hby at_253) (by decide) (by decide) kq) ?_
        show GoW p e below s _ _ _ T265 (mkF m 257 #[.val (.int x0), .val (.int x1), .val (.int x2), .val (.int x3), .val (.int x4), .val (.int (1 : Int32)), .val (.int (0 : Int32)), .val (.int (x2 &&& (255 : Int32))), .val (.int (x3 &&& (255 : Int32))), .val (.int (x4 &&& (255 : Int32))), .val (.ref a214), .val (.ref a216), .val (.int (1 : Int32)), .val (.int (1 : Int32)), .val (.int (1 : Int32))] [(.int (1 : Int32))])
        exact gw_retB (w := (1 : Int32)) X265 hx hlk hret (hb hby at_257) (by decide) (by decide) (by decide) ⟨rfl, N265⟩
      · by_cases hk266 : ((x1 &&& (2147483647 : Int32)) % (2 : Int32)) = (1 : Int32)
        · rw [hk266]
          show GoW p e below s _ _ _ s₁ (mkF m 16 #[.val (.int x0), .val (.int x1), .val (.int x2), .val (.int x3), .val (.int x4), .val (.int (1 : Int32)), .val (.int (1 : Int32)), .unset, .unset, .unset, .unset, .unset, .unset, .unset, .unset] [])
          refine gw_st (fun _ kq => XS.iloadN X0.here hx rfl (hb hby at_16) rfl kq) ?_
          show GoW p e below s _ _ _ s₁ (mkF m 17 #[.val (.int x0), .val (.int x1), .val (.int x2), .val (.int x3), .val (.int x4), .val (.int (1 : Int32)), .val (.int (1 : Int32)), .unset, .unset, .unset, .unset, .unset, .unset, .unset, .unset] [(.int x2)])
          refine gw_st (fun _ kq => XT.sipushV X0.here hx rfl (255 : Int32) (hb hby at_17) (by decide) kq) ?_
          show GoW p e below s _ _ _ s₁ (mkF m 20 #[.val (.int x0), .val (.int x1), .val (.int x2), .val (.int x3), .val (.int x4), .val (.int (1 : Int32)), .val (.int (1 : Int32)), .unset, .unset, .unset, .unset, .unset, .unset, .unset, .unset] [(.int (255 : Int32)), (.int x2)])
          refine gw_st (fun _ kq => XS.iand X0.here hx rfl (hb hby at_20) rfl kq) ?_
          show GoW p e below s _ _ _ s₁ (mkF m 21 #[.val (.int x0), .val (.int x1), .val (.int x2), .val (.int x3), .val (.int x4), .val (.int (1 : Int32)), .val (.int (1 : Int32)), .unset, .unset, .unset, .unset, .unset, .unset, .unset, .unset] [(.int (x2 &&& (255 : Int32)))])
          refine gw_st (fun _ kq => XT.i2c X0.here hx rfl (hb hby at_21) rfl kq) ?_
          rw [own_i2c]
          show GoW p e below s _ _ _ s₁ (mkF m 22 #[.val (.int x0), .val (.int x1), .val (.int x2), .val (.int x3), .val (.int x4), .val (.int (1 : Int32)), .val (.int (1 : Int32)), .unset, .unset, .unset, .unset, .unset, .unset, .unset, .unset] [(.int (x2 &&& (255 : Int32)))])
          refine gw_st (fun _ kq => XS.istore X0.here hx rfl (hb hby at_22) rfl (l' := #[.val (.int x0), .val (.int x1), .val (.int x2), .val (.int x3), .val (.int x4), .val (.int (1 : Int32)), .val (.int (1 : Int32)), .val (.int (x2 &&& (255 : Int32))), .unset, .unset, .unset, .unset, .unset, .unset, .unset]) rfl kq) ?_
          show GoW p e below s _ _ _ s₁ (mkF m 24 #[.val (.int x0), .val (.int x1), .val (.int x2), .val (.int x3), .val (.int x4), .val (.int (1 : Int32)), .val (.int (1 : Int32)), .val (.int (x2 &&& (255 : Int32))), .unset, .unset, .unset, .unset, .unset, .unset, .unset] [])
          refine gw_st (fun _ kq => XS.iloadN X0.here hx rfl (hb hby at_24) rfl kq) ?_
          show GoW p e below s _ _ _ s₁ (mkF m 25 #[.val (.int x0), .val (.int x1), .val (.int x2), .val (.int x3), .val (.int x4), .val (.int (1 : Int32)), .val (.int (1 : Int32)), .val (.int (x2 &&& (255 : Int32))), .unset, .unset, .unset, .unset, .unset, .unset, .unset] [(.int x3)])
          refine gw_st (fun _ kq => XT.sipushV X0.here hx rfl (255 : Int32) (hb hby at_25) (by decide) kq) ?_
          show GoW p e below s _ _ _ s₁ (mkF m 28 #[.val (.int x0), .val (.int x1), .val (.int x2), .val (.int x3), .val (.int x4), .val (.int (1 : Int32)), .val (.int (1 : Int32)), .val (.int (x2 &&& (255 : Int32))), .unset, .unset, .unset, .unset, .unset, .unset, .unset] [(.int (255 : Int32)), (.int x3)])
          refine gw_st (fun _ kq => XS.iand X0.here hx rfl (hb hby at_28) rfl kq) ?_
          show GoW p e below s _ _ _ s₁ (mkF m 29 #[.val (.int x0), .val (.int x1), .val (.int x2), .val (.int x3), .val (.int x4), .val (.int (1 : Int32)), .val (.int (1 : Int32)), .val (.int (x2 &&& (255 : Int32))), .unset, .unset, .unset, .unset, .unset, .unset, .unset] [(.int (x3 &&& (255 : Int32)))])
          refine gw_st (fun _ kq => XT.i2c X0.here hx rfl (hb hby at_29) rfl kq) ?_
          rw [own_i2c]
          show GoW p e below s _ _ _ s₁ (mkF m 30 #[.val (.int x0), .val (.int x1), .val (.int x2), .val (.int x3), .val (.int x4), .val (.int (1 : Int32)), .val (.int (1 : Int32)), .val (.int (x2 &&& (255 : Int32))), .unset, .unset, .unset, .unset, .unset, .unset, .unset] [(.int (x3 &&& (255 : Int32)))])
          refine gw_st (fun _ kq => XS.istore X0.here hx rfl (hb hby at_30) rfl (l' := #[.val (.int x0), .val (.int x1), .val (.int x2), .val (.int x3), .val (.int x4), .val (.int (1 : Int32)), .val (.int (1 : Int32)), .val (.int (x2 &&& (255 : Int32))), .val (.int (x3 &&& (255 : Int32))), .unset, .unset, .unset, .unset, .unset, .unset]) rfl kq) ?_
          show GoW p e below s _ _ _ s₁ (mkF m 32 #[.val (.int x0), .val (.int x1), .val (.int x2), .val (.int x3), .val (.int x4), .val (.int (1 : Int32)), .val (.int (1 : Int32)), .val (.int (x2 &&& (255 : Int32))), .val (.int (x3 &&& (255 : Int32))), .unset, .unset, .unset, .unset, .unset, .unset] [])
          refine gw_st (fun _ kq => XS.iload X0.here hx rfl (hb hby at_32) rfl kq) ?_
          show GoW p e below s _ _ _ s₁ (mkF m 34 #[.val (.int x0), .val (.int x1), .val (.int x2), .val (.int x3), .val (.int x4), .val (.int (1 : Int32)), .val (.int (1 : Int32)), .val (.int (x2 &&& (255 : Int32))), .val (.int (x3 &&& (255 : Int32))), .unset, .unset, .unset, .unset, .unset, .unset] [(.int x4)])
          refine gw_st (fun _ kq => XT.sipushV X0.here hx rfl (255 : Int32) (hb hby at_34) (by decide) kq) ?_
          show GoW p e below s _ _ _ s₁ (mkF m 37 #[.val (.int x0), .val (.int x1), .val (.int x2), .val (.int x3), .val (.int x4), .val (.int (1 : Int32)), .val (.int (1 : Int32)), .val (.int (x2 &&& (255 : Int32))), .val (.int (x3 &&& (255 : Int32))), .unset, .unset, .unset, .unset, .unset, .unset] [(.int (255 : Int32)), (.int x4)])
          refine gw_st (fun _ kq => XS.iand X0.here hx rfl (hb hby at_37) rfl kq) ?_
          show GoW p e below s _ _ _ s₁ (mkF m 38 #[.val (.int x0), .val (.int x1), .val (.int x2), .val (.int x3), .val (.int x4), .val (.int (1 : Int32)), .val (.int (1 : Int32)), .val (.int (x2 &&& (255 : Int32))), .val (.int (x3 &&& (255 : Int32))), .unset, .unset, .unset, .unset, .unset, .unset] [(.int (x4 &&& (255 : Int32)))])
          refine gw_st (fun _ kq => XT.i2c X0.here hx rfl (hb hby at_38) rfl kq) ?_
          rw [own_i2c]
          show GoW p e below s _ _ _ s₁ (mkF m 39 #[.val (.int x0), .val (.int x1), .val (.int x2), .val (.int x3), .val (.int x4), .val (.int (1 : Int32)), .val (.int (1 : Int32)), .val (.int (x2 &&& (255 : Int32))), .val (.int (x3 &&& (255 : Int32))), .unset, .unset, .unset, .unset, .unset, .unset] [(.int (x4 &&& (255 : Int32)))])
          refine gw_st (fun _ kq => XS.istore X0.here hx rfl (hb hby at_39) rfl (l' := #[.val (.int x0), .val (.int x1), .val (.int x2), .val (.int x3), .val (.int x4), .val (.int (1 : Int32)), .val (.int (1 : Int32)), .val (.int (x2 &&& (255 : Int32))), .val (.int (x3 &&& (255 : Int32))), .val (.int (x4 &&& (255 : Int32))), .unset, .unset, .unset, .unset, .unset]) rfl kq) ?_
          show GoW p e below s _ _ _ s₁ (mkF m 41 #[.val (.int x0), .val (.int x1), .val (.int x2), .val (.int x3), .val (.int x4), .val (.int (1 : Int32)), .val (.int (1 : Int32)), .val (.int (x2 &&& (255 : Int32))), .val (.int (x3 &&& (255 : Int32))), .val (.int (x4 &&& (255 : Int32))), .unset, .unset, .unset, .unset, .unset] [])
          refine gw_st (fun _ kq => XS.iload X0.here hx rfl (hb hby at_41) rfl kq) ?_
          show GoW p e below s _ _ _ s₁ (mkF m 43 #[.val (.int x0), .val (.int x1), .val (.int x2), .val (.int x3), .val (.int x4), .val (.int (1 : Int32)), .val (.int (1 : Int32)), .val (.int (x2 &&& (255 : Int32))), .val (.int (x3 &&& (255 : Int32))), .val (.int (x4 &&& (255 : Int32))), .unset, .unset, .unset, .unset, .unset] [(.int (1 : Int32))])
          refine gw_st (fun _ kq => XS.ifYes X0.here hx rfl (pc0 := 43) (pc' := 54) rfl (hb hby at_43) rfl (XT.i0_ne_t (by decide)) (by decide) (by decide) kq) ?_
          show GoW p e below s _ _ _ s₁ (mkF m 54 #[.val (.int x0), .val (.int x1), .val (.int x2), .val (.int x3), .val (.int x4), .val (.int (1 : Int32)), .val (.int (1 : Int32)), .val (.int (x2 &&& (255 : Int32))), .val (.int (x3 &&& (255 : Int32))), .val (.int (x4 &&& (255 : Int32))), .unset, .unset, .unset, .unset, .unset] [])
          refine gw_st (fun _ kq => XS.iload X0.here hx rfl (hb hby at_54) rfl kq) ?_
          show GoW p e below s _ _ _ s₁ (mkF m 56 #[.val (.int x0), .val (.int x1), .val (.int x2), .val (.int x3), .val (.int x4), .val (.int (1 : Int32)), .val (.int (1 : Int32)), .val (.int (x2 &&& (255 : Int32))), .val (.int (x3 &&& (255 : Int32))), .val (.int (x4 &&& (255 : Int32))), .unset, .unset, .unset, .unset, .unset] [(.int (1 : Int32))])
          refine gw_st (fun _ kq => XT.iconstV X0.here hx rfl (1 : Int32) (hb hby at_56) (by decide) kq) ?_
          show GoW p e below s _ _ _ s₁ (mkF m 57 #[.val (.int x0), .val (.int x1), .val (.int x2), .val (.int x3), .val (.int x4), .val (.int (1 : Int32)), .val (.int (1 : Int32)), .val (.int (x2 &&& (255 : Int32))), .val (.int (x3 &&& (255 : Int32))), .val (.int (x4 &&& (255 : Int32))), .unset, .unset, .unset, .unset, .unset] [(.int (1 : Int32)), (.int (1 : Int32))])
          refine gw_st (fun _ kq => XS.icmpNo X0.here hx rfl (hb hby at_57) rfl (XT.ii_ne_f (by decide)) kq) ?_
          show GoW p e below s _ _ _ s₁ (mkF m 60 #[.val (.int x0), .val (.int x1), .val (.int x2), .val (.int x3), .val (.int x4), .val (.int (1 : Int32)), .val (.int (1 : Int32)), .val (.int (x2 &&& (255 : Int32))), .val (.int (x3 &&& (255 : Int32))), .val (.int (x4 &&& (255 : Int32))), .unset, .unset, .unset, .unset, .unset] [])
          refine gw_st (fun _ kq => XT.iconstV X0.here hx rfl (1 : Int32) (hb hby at_60) (by decide) kq) ?_
          show GoW p e below s _ _ _ s₁ (mkF m 61 #[.val (.int x0), .val (.int x1), .val (.int x2), .val (.int x3), .val (.int x4), .val (.int (1 : Int32)), .val (.int (1 : Int32)), .val (.int (x2 &&& (255 : Int32))), .val (.int (x3 &&& (255 : Int32))), .val (.int (x4 &&& (255 : Int32))), .unset, .unset, .unset, .unset, .unset] [(.int (1 : Int32))])
          refine gw_newP X0 hx hZ (hw _ (List.mem_of_getElem? (i := 1) rfl)) e0 (hb hby at_61) rfl rfl 1 (by decide) 1 (Nat.le_refl _) (by decide) (by decide) (by decide) ?_
          intro T267 h267 a267 g267 X267 e267 E267 G267
          have nw_a267 : n0 ≤ a267 := Nat.le_trans Z0 (Nat.le_of_eq g267.symm)
          have lt_a267 : a267 < h267.size := G267.lt
          have A267 : GA Z h267 a267 .char 1 (fun i => .int (own_c3 (0 : Int32) (0 : Int32) (0 : Int32) i)) := (GA.congr G267 (fun i _ => own_z3 i))
          show GoW p e below s _ _ _ T267 (mkF m 63 #[.val (.int x0), .val (.int x1), .val (.int x2), .val (.int x3), .val (.int x4), .val (.int (1 : Int32)), .val (.int (1 : Int32)), .val (.int (x2 &&& (255 : Int32))), .val (.int (x3 &&& (255 : Int32))), .val (.int (x4 &&& (255 : Int32))), .unset, .unset, .unset, .unset, .unset] [(.ref a267)])
          refine gw_st (fun _ kq => XS.dup X267.here hx rfl (hb hby at_63) rfl rfl kq) ?_
          show GoW p e below s _ _ _ T267 (mkF m 64 #[.val (.int x0), .val (.int x1), .val (.int x2), .val (.int x3), .val (.int x4), .val (.int (1 : Int32)), .val (.int (1 : Int32)), .val (.int (x2 &&& (255 : Int32))), .val (.int (x3 &&& (255 : Int32))), .val (.int (x4 &&& (255 : Int32))), .unset, .unset, .unset, .unset, .unset] [(.ref a267), (.ref a267)])
          refine gw_st (fun _ kq => XT.iconstV X267.here hx rfl (0 : Int32) (hb hby at_64) (by decide) kq) ?_
          show GoW p e below s _ _ _ T267 (mkF m 65 #[.val (.int x0), .val (.int x1), .val (.int x2), .val (.int x3), .val (.int x4), .val (.int (1 : Int32)), .val (.int (1 : Int32)), .val (.int (x2 &&& (255 : Int32))), .val (.int (x3 &&& (255 : Int32))), .val (.int (x4 &&& (255 : Int32))), .unset, .unset, .unset, .unset, .unset] [(.int (0 : Int32)), (.ref a267), (.ref a267)])
          refine gw_st (fun _ kq => XS.iload X267.here hx rfl (hb hby at_65) rfl kq) ?_
          show GoW p e below s _ _ _ T267 (mkF m 67 #[.val (.int x0), .val (.int x1), .val (.int x2), .val (.int x3), .val (.int x4), .val (.int (1 : Int32)), .val (.int (1 : Int32)), .val (.int (x2 &&& (255 : Int32))), .val (.int (x3 &&& (255 : Int32))), .val (.int (x4 &&& (255 : Int32))), .unset, .unset, .unset, .unset, .unset] [(.int (x2 &&& (255 : Int32))), (.int (0 : Int32)), (.ref a267), (.ref a267)])
          refine gw_cast X267 hx hZ e267 A267 (hb hby at_67) rfl rfl (by decide) ?_
          intro T268 h268 X268 e268 W268 G268
          have N268 := Fr.snoc X268 N0 nw_a267
          have A268 : GA Z h268 a267 .char 1 (fun i => .int (own_c3 (x2 &&& (255 : Int32)) (0 : Int32) (0 : Int32) i)) := (own_stc (own_nc (own_lat _)) (by decide) (own_c30 (x2 &&& (255 : Int32)) (0 : Int32) (0 : Int32) (0 : Int32)) G268)
          show GoW p e below s _ _ _ T268 (mkF m 68 #[.val (.int x0), .val (.int x1), .val (.int x2), .val (.int x3), .val (.int x4), .val (.int (1 : Int32)), .val (.int (1 : Int32)), .val (.int (x2 &&& (255 : Int32))), .val (.int (x3 &&& (255 : Int32))), .val (.int (x4 &&& (255 : Int32))), .unset, .unset, .unset, .unset, .unset] [(.ref a267)])
          refine gw_st (fun _ kq => XS.astore X268.here hx rfl (hb hby at_68) rfl rfl (l' := #[.val (.int x0), .val (.int x1), .val (.int x2), .val (.int x3), .val (.int x4), .val (.int (1 : Int32)), .val (.int (1 : Int32)), .val (.int (x2 &&& (255 : Int32))), .val (.int (x3 &&& (255 : Int32))), .val (.int (x4 &&& (255 : Int32))), .val (.ref a267), .unset, .unset, .unset, .unset]) rfl kq) ?_
          show GoW p e below s _ _ _ T268 (mkF m 70 #[.val (.int x0), .val (.int x1), .val (.int x2), .val (.int x3), .val (.int x4), .val (.int (1 : Int32)), .val (.int (1 : Int32)), .val (.int (x2 &&& (255 : Int32))), .val (.int (x3 &&& (255 : Int32))), .val (.int (x4 &&& (255 : Int32))), .val (.ref a267), .unset, .unset, .unset, .unset] [])
          refine gw_st (fun _ kq => XS.goto X268.here hx rfl (pc0 := 70) (pc' := 117) rfl (hb hby at_70) (by decide) (by decide) kq) ?_
          show GoW p e below s _ _ _ T268 (mkF m 117 #[.val (.int x0), .val (.int x1), .val (.int x2), .val (.int x3), .val (.int x4), .val (.int (1 : Int32)), .val (.int (1 : Int32)), .val (.int (x2 &&& (255 : Int32))), .val (.int (x3 &&& (255 : Int32))), .val (.int (x4 &&& (255 : Int32))), .val (.ref a267), .unset, .unset, .unset, .unset] [])
          refine gw_newO X268 hx hZ hown (hw _ (List.mem_of_getElem? (i := 2) rfl)) (hw _ (List.mem_of_getElem? (i := 3) rfl)) (hw _ (List.mem_of_getElem? (i := 4) rfl)) e268 (hb hby at_117) rfl (by decide) (by decide) ?_
          intro T269 h269 a269 g269 X269 e269 E269 A269 D269
          have y270 : h0.size ≤ h267.size := Nat.le_trans (Nat.le_refl _) E267.1
          have y271 : h0.size ≤ h268.size := (Wr.size W268).symm ▸ y270
          have c272 : a267 < h268.size := (Wr.size W268).symm ▸ lt_a267
          have ne273 : a267 ≠ a269 := fun q => Nat.lt_irrefl _ (Nat.lt_of_lt_of_le c272 (Nat.le_of_eq (g269.symm.trans q.symm)))
          have z274 : n0 ≤ h267.size := Nat.le_trans Z0 E267.1
          have z275 : n0 ≤ h268.size := (Wr.size W268).symm ▸ z274
          have nw_a269 : n0 ≤ a269 := Nat.le_trans z275 (Nat.le_of_eq g269.symm)
          have lt_a269 : a269 < h269.size := A269.lt
          have F276 : Fld Z h269 a269 "com/example/wirecall/wirecall/TextCursor" "text" "Ljava/lang/String;" .null := D269 (Or.inr (hw _ (List.mem_of_getElem? (i := 31) rfl))) (ty := (.object "java/lang/String")) (by decide)
          have F277 : Fld Z h269 a269 "com/example/wirecall/wirecall/TextCursor" "pos" "I" (.int (0 : Int32)) := D269 (Or.inl (hw _ (List.mem_of_getElem? (i := 38) rfl))) (ty := .int) (by decide)
          show GoW p e below s _ _ _ T269 (mkF m 120 #[.val (.int x0), .val (.int x1), .val (.int x2), .val (.int x3), .val (.int x4), .val (.int (1 : Int32)), .val (.int (1 : Int32)), .val (.int (x2 &&& (255 : Int32))), .val (.int (x3 &&& (255 : Int32))), .val (.int (x4 &&& (255 : Int32))), .val (.ref a267), .unset, .unset, .unset, .unset] [(.ref a269)])
          refine gw_st (fun _ kq => XS.dup X269.here hx rfl (hb hby at_120) rfl rfl kq) ?_
          show GoW p e below s _ _ _ T269 (mkF m 121 #[.val (.int x0), .val (.int x1), .val (.int x2), .val (.int x3), .val (.int x4), .val (.int (1 : Int32)), .val (.int (1 : Int32)), .val (.int (x2 &&& (255 : Int32))), .val (.int (x3 &&& (255 : Int32))), .val (.int (x4 &&& (255 : Int32))), .val (.ref a267), .unset, .unset, .unset, .unset] [(.ref a269), (.ref a269)])
          refine gw_newO X269 hx hZ hown (hw _ (List.mem_of_getElem? (i := 5) rfl)) (hw _ (List.mem_of_getElem? (i := 6) rfl)) (hw _ (List.mem_of_getElem? (i := 7) rfl)) e269 (hb hby at_121) rfl (by decide) (by decide) ?_
          intro T278 h278 a278 g278 X278 e278 E278 A278 D278
          have y279 : h0.size ≤ h269.size := Nat.le_trans y271 E269.1
          have c280 : a267 < h269.size := Nat.lt_of_lt_of_le c272 E269.1
          have ne281 : a267 ≠ a278 := fun q => Nat.lt_irrefl _ (Nat.lt_of_lt_of_le c280 (Nat.le_of_eq (g278.symm.trans q.symm)))
          have ne282 : a269 ≠ a278 := fun q => Nat.lt_irrefl _ (Nat.lt_of_lt_of_le lt_a269 (Nat.le_of_eq (g278.symm.trans q.symm)))
          have z283 : n0 ≤ h269.size := Nat.le_trans z275 E269.1
          have nw_a278 : n0 ≤ a278 := Nat.le_trans z283 (Nat.le_of_eq g278.symm)
          have lt_a278 : a278 < h278.size := A278.lt
          have F284 : Fld Z h278 a278 "java/lang/String" "value" "[B" .null := D278 (Or.inr (hw _ (List.mem_of_getElem? (i := 20) rfl))) (ty := (.array .byte)) (by decide)
          have F285 : Fld Z h278 a278 "java/lang/String" "coder" "B" (.int (0 : Int32)) := D278 (Or.inr (hw _ (List.mem_of_getElem? (i := 21) rfl))) (ty := .byte) (by decide)
          show GoW p e below s _ _ _ T278 (mkF m 124 #[.val (.int x0), .val (.int x1), .val (.int x2), .val (.int x3), .val (.int x4), .val (.int (1 : Int32)), .val (.int (1 : Int32)), .val (.int (x2 &&& (255 : Int32))), .val (.int (x3 &&& (255 : Int32))), .val (.int (x4 &&& (255 : Int32))), .val (.ref a267), .unset, .unset, .unset, .unset] [(.ref a278), (.ref a269), (.ref a269)])
          refine gw_st (fun _ kq => XS.dup X278.here hx rfl (hb hby at_124) rfl rfl kq) ?_
          show GoW p e below s _ _ _ T278 (mkF m 125 #[.val (.int x0), .val (.int x1), .val (.int x2), .val (.int x3), .val (.int x4), .val (.int (1 : Int32)), .val (.int (1 : Int32)), .val (.int (x2 &&& (255 : Int32))), .val (.int (x3 &&& (255 : Int32))), .val (.int (x4 &&& (255 : Int32))), .val (.ref a267), .unset, .unset, .unset, .unset] [(.ref a278), (.ref a278), (.ref a269), (.ref a269)])
          refine gw_st (fun _ kq => XS.aload X278.here hx rfl (hb hby at_125) rfl rfl kq) ?_
          show GoW p e below s _ _ _ T278 (mkF m 127 #[.val (.int x0), .val (.int x1), .val (.int x2), .val (.int x3), .val (.int x4), .val (.int (1 : Int32)), .val (.int (1 : Int32)), .val (.int (x2 &&& (255 : Int32))), .val (.int (x3 &&& (255 : Int32))), .val (.int (x4 &&& (255 : Int32))), .val (.ref a267), .unset, .unset, .unset, .unset] [(.ref a267), (.ref a278), (.ref a278), (.ref a269), (.ref a269)])
          have c287 := A268.ext E269
          have c288 := c287.ext E278
          have c289 := Old.ext O0 E267
          have c290 := Old.wr c289 W268 nw_a267
          have c291 := Old.ext c290 E269
          have c292 := Old.ext c291 E278
          have z293 : n0 ≤ h278.size := Nat.le_trans z283 E278.1
          refine gw_callI X278 hx hZ hml hown rfl (hw _ (List.mem_of_getElem? (i := 8) rfl)) (hw _ (List.mem_of_getElem? (i := 9) rfl)) (hw _ (List.mem_of_getElem? (i := 10) rfl)) (hw _ (List.mem_of_getElem? (i := 7) rfl)) e278 (argsL := [(.ref a267)]) (rest := [(.ref a278), (.ref a269), (.ref a269)]) (W := 3) (met_s1 l Z a0 hw a278 a267 (x2 &&& (255 : Int32)) zc h278 n0 z293 A278 F284 F285 nw_a278 c288 (Ne.symm ne281) (own_lat _) c292 S0 zn) (hb hby at_127) rfl rfl rfl (lenOf pd6 rfl) (by show 2 * 0 + _ ≤ _; exact Nat.le_of_eq rfl) (by decide) (by decide) (by decide) (by decide) (by decide) ?_
          intro T286 v286 L286 X286 q286
          obtain ⟨r_286, rfl, M286, K286, fz286_r, f286_0, f286_1, f286_2, f286_3⟩ := q286
          have N286 := Fr.app N268 M286
          have c294 : a267 < h278.size := Nat.lt_of_lt_of_le c280 E278.1
          have ne295 : a267 ≠ r_286 := Nat.ne_of_lt (Nat.lt_of_lt_of_le c294 fz286_r)
          have c296 : a269 < h278.size := Nat.lt_of_lt_of_le lt_a269 E278.1
          have ne297 : a269 ≠ r_286 := Nat.ne_of_lt (Nat.lt_of_lt_of_le c296 fz286_r)
          have ne298 : a278 ≠ r_286 := Nat.ne_of_lt (Nat.lt_of_lt_of_le lt_a278 fz286_r)
          have nw_r_286 : n0 ≤ r_286 := Nat.le_trans z293 fz286_r
          have y299 : h0.size ≤ h278.size := Nat.le_trans y279 E278.1
          have lt_r_286 : r_286 < T286.heap.size := f286_3.lt
          show GoW p e below s _ _ _ T286 (mkF m 130 #[.val (.int x0), .val (.int x1), .val (.int x2), .val (.int x3), .val (.int x4), .val (.int (1 : Int32)), .val (.int (1 : Int32)), .val (.int (x2 &&& (255 : Int32))), .val (.int (x3 &&& (255 : Int32))), .val (.int (x4 &&& (255 : Int32))), .val (.ref a267), .unset, .unset, .unset, .unset] [(.ref a278), (.ref a269), (.ref a269)])
          have c301 := Exa.ext E278 A269
          have c302 := Exa.keep c301 K286
          have c303 := Fld.ext E278 F276
          have c304 := Fld.keep c303 K286 (ninS ne282 nin0)
          have c305 := Fld.ext E278 F277
          have c306 := Fld.keep c305 K286 (ninS ne282 nin0)
          have z307 : n0 ≤ T286.heap.size := Nat.le_trans z293 K286.1
          refine gw_callI X286 hx hZ hml hown rfl (hw _ (List.mem_of_getElem? (i := 26) rfl)) (hw _ (List.mem_of_getElem? (i := 27) rfl)) (hw _ (List.mem_of_getElem? (i := 28) rfl)) (hw _ (List.mem_of_getElem? (i := 4) rfl)) rfl (argsL := [(.ref a278)]) (rest := [(.ref a269)]) (W := 1) (met_tci l Z a0 hw a269 a278 T286.heap n0 z307 c302 c304 c306 nw_a269) (hb hby at_130) rfl rfl rfl (lenOf pd7 rfl) (by show 2 * 0 + _ ≤ _; exact Nat.le_of_eq rfl) (by decide) (by decide) (by decide) (by decide) (by decide) ?_
          intro T300 v300 L300 X300 q300
          obtain ⟨rfl, M300, K300, f300_0, f300_1⟩ := q300
          have N300 := Fr.app N286 M300
          show GoW p e below s _ _ _ T300 (mkF m 133 #[.val (.int x0), .val (.int x1), .val (.int x2), .val (.int x3), .val (.int x4), .val (.int (1 : Int32)), .val (.int (1 : Int32)), .val (.int (x2 &&& (255 : Int32))), .val (.int (x3 &&& (255 : Int32))), .val (.int (x4 &&& (255 : Int32))), .val (.ref a267), .unset, .unset, .unset, .unset] [(.ref a269)])
          refine gw_st (fun _ kq => XS.astore X300.here hx rfl (hb hby at_133) rfl rfl (l' := #[.val (.int x0), .val (.int x1), .val (.int x2), .val (.int x3), .val (.int x4), .val (.int (1 : Int32)), .val (.int (1 : Int32)), .val (.int (x2 &&& (255 : Int32))), .val (.int (x3 &&& (255 : Int32))), .val (.int (x4 &&& (255 : Int32))), .val (.ref a267), .val (.ref a269), .unset, .unset, .unset]) rfl kq) ?_
          show GoW p e below s _ _ _ T300 (mkF m 135 #[.val (.int x0), .val (.int x1), .val (.int x2), .val (.int x3), .val (.int x4), .val (.int (1 : Int32)), .val (.int (1 : Int32)), .val (.int (x2 &&& (255 : Int32))), .val (.int (x3 &&& (255 : Int32))), .val (.int (x4 &&& (255 : Int32))), .val (.ref a267), .val (.ref a269), .unset, .unset, .unset] [])
          refine gw_st (fun _ kq => XS.aload X300.here hx rfl (hb hby at_135) rfl rfl kq) ?_
          show GoW p e below s _ _ _ T300 (mkF m 137 #[.val (.int x0), .val (.int x1), .val (.int x2), .val (.int x3), .val (.int x4), .val (.int (1 : Int32)), .val (.int (1 : Int32)), .val (.int (x2 &&& (255 : Int32))), .val (.int (x3 &&& (255 : Int32))), .val (.int (x4 &&& (255 : Int32))), .val (.ref a267), .val (.ref a269), .unset, .unset, .unset] [(.ref a269)])
          have c309 := Exa.keep f286_0 K300
          have c310 := Fld.keep f286_1 K300 (ninS (Ne.symm ne282) nin0)
          have c311 := Fld.keep f286_2 K300 (ninS (Ne.symm ne282) nin0)
          have c312 := GA.keep f286_3 K300 (ninS (Ne.symm ne297) nin0)
          have c313 := Old.keep c292 K286 (allS nw_a278 all0)
          have c314 := Old.keep c313 K300 (allS nw_a269 all0)
          have z315 : n0 ≤ T300.heap.size := Nat.le_trans z307 K300.1
          have c316 := Exa.keep c302 K300
          refine gw_callV X300 hx hZ hml hown (hw _ (List.mem_of_getElem? (i := 32) rfl)) (hw _ (List.mem_of_getElem? (i := 33) rfl)) (notFace_of_selects (args := #[]) (mvT hZ (hw _ (List.mem_of_getElem? (i := 35) rfl)))) (hw _ (List.mem_of_getElem? (i := 35) rfl)) (hw _ (List.mem_of_getElem? (i := 34) rfl)) (hw _ (List.mem_of_getElem? (i := 36) rfl)) (hw _ (List.mem_of_getElem? (i := 4) rfl)) rfl c316 (argsL := []) (rest := []) (W := 0) (met_end10 l Z a0 hw a269 a278 r_286 (fun i => .int (own_c3 (own_by (x2 &&& (255 : Int32))) (0 : Int32) (0 : Int32) i)) zc T300.heap n0 z315 f300_1 f300_0 c309 c310 c311 c312 c314 S0 zn) (hb hby at_137) rfl rfl rfl (lenOf pd8 rfl) (by show 2 * 0 + _ ≤ _; exact Nat.le_of_eq rfl) (by decide) (by decide) (by decide) (by decide) (by decide) ?_
          intro T308 v308 L308 X308 q308
          obtain ⟨rfl, M308, e308⟩ := q308
          have N308 := Fr.app N300 M308
          show GoW p e below s _ _ _ T308 (mkF m 140 #[.val (.int x0), .val (.int x1), .val (.int x2), .val (.int x3), .val (.int x4), .val (.int (1 : Int32)), .val (.int (1 : Int32)), .val (.int (x2 &&& (255 : Int32))), .val (.int (x3 &&& (255 : Int32))), .val (.int (x4 &&& (255 : Int32))), .val (.ref a267), .val (.ref a269), .unset, .unset, .unset] [(.int (0 : Int32))])
          refine gw_st (fun _ kq => XS.iload X308.here hx rfl (hb hby at_140) rfl kq) ?_
          show GoW p e below s _ _ _ T308 (mkF m 142 #[.val (.int x0), .val (.int x1), .val (.int x2), .val (.int x3), .val (.int x4), .val (.int (1 : Int32)), .val (.int (1 : Int32)), .val (.int (x2 &&& (255 : Int32))), .val (.int (x3 &&& (255 : Int32))), .val (.int (x4 &&& (255 : Int32))), .val (.ref a267), .val (.ref a269), .unset, .unset, .unset] [(.int (1 : Int32)), (.int (0 : Int32))])
          refine gw_st (fun _ kq => XS.ifYes X308.here hx rfl (pc0 := 142) (pc' := 149) rfl (hb hby at_142) rfl (XT.i0_ne_t (by decide)) (by decide) (by decide) kq) ?_
          show GoW p e below s _ _ _ T308 (mkF m 149 #[.val (.int x0), .val (.int x1), .val (.int x2), .val (.int x3), .val (.int x4), .val (.int (1 : Int32)), .val (.int (1 : Int32)), .val (.int (x2 &&& (255 : Int32))), .val (.int (x3 &&& (255 : Int32))), .val (.int (x4 &&& (255 : Int32))), .val (.ref a267), .val (.ref a269), .unset, .unset, .unset] [(.int (0 : Int32))])
          refine gw_st (fun _ kq => XT.iconstV X308.here hx rfl (0 : Int32) (hb hby at_149) (by decide) kq) ?_
          show GoW p e below s _ _ _ T308 (mkF m 150 #[.val (.int x0), .val (.int x1), .val (.int x2), .val (.int x3), .val (.int x4), .val (.int (1 : Int32)), .val (.int (1 : Int32)), .val (.int (x2 &&& (255 : Int32))), .val (.int (x3 &&& (255 : Int32))), .val (.int (x4 &&& (255 : Int32))), .val (.ref a267), .val (.ref a269), .unset, .unset, .unset] [(.int (0 : Int32)), (.int (0 : Int32))])
          refine gw_st (fun _ kq => XS.icmpNo X308.here hx rfl (hb hby at_150) rfl (XT.ii_ne_f (by decide)) kq) ?_
          show GoW p e below s _ _ _ T308 (mkF m 153 #[.val (.int x0), .val (.int x1), .val (.int x2), .val (.int x3), .val (.int x4), .val (.int (1 : Int32)), .val (.int (1 : Int32)), .val (.int (x2 &&& (255 : Int32))), .val (.int (x3 &&& (255 : Int32))), .val (.int (x4 &&& (255 : Int32))), .val (.ref a267), .val (.ref a269), .unset, .unset, .unset] [])
          refine gw_st (fun _ kq => XT.iconstV X308.here hx rfl (1 : Int32) (hb hby at_153) (by decide) kq) ?_
          show GoW p e below s _ _ _ T308 (mkF m 154 #[.val (.int x0), .val (.int x1), .val (.int x2), .val (.int x3), .val (.int x4), .val (.int (1 : Int32)), .val (.int (1 : Int32)), .val (.int (x2 &&& (255 : Int32))), .val (.int (x3 &&& (255 : Int32))), .val (.int (x4 &&& (255 : Int32))), .val (.ref a267), .val (.ref a269), .unset, .unset, .unset] [(.int (1 : Int32))])
          refine gw_st (fun _ kq => XS.goto X308.here hx rfl (pc0 := 154) (pc' := 158) rfl (hb hby at_154) (by decide) (by decide) kq) ?_
          show GoW p e below s _ _ _ T308 (mkF m 158 #[.val (.int x0), .val (.int x1), .val (.int x2), .val (.int x3), .val (.int x4), .val (.int (1 : Int32)), .val (.int (1 : Int32)), .val (.int (x2 &&& (255 : Int32))), .val (.int (x3 &&& (255 : Int32))), .val (.int (x4 &&& (255 : Int32))), .val (.ref a267), .val (.ref a269), .unset, .unset, .unset] [(.int (1 : Int32))])
          refine gw_st (fun _ kq => XS.istore X308.here hx rfl (hb hby at_158) rfl (l' := #[.val (.int x0), .val (.int x1), .val (.int x2), .val (.int x3), .val (.int x4), .val (.int (1 : Int32)), .val (.int (1 : Int32)), .val (.int (x2 &&& (255 : Int32))), .val (.int (x3 &&& (255 : Int32))), .val (.int (x4 &&& (255 : Int32))), .val (.ref a267), .val (.ref a269), .val (.int (1 : Int32)), .unset, .unset]) rfl kq) ?_
          show GoW p e below s _ _ _ T308 (mkF m 160 #[.val (.int x0), .val (.int x1), .val (.int x2), .val (.int x3), .val (.int x4), .val (.int (1 : Int32)), .val (.int (1 : Int32)), .val (.int (x2 &&& (255 : Int32))), .val (.int (x3 &&& (255 : Int32))), .val (.int (x4 &&& (255 : Int32))), .val (.ref a267), .val (.ref a269), .val (.int (1 : Int32)), .unset, .unset] [])
          refine gw_st (fun _ kq => XS.iload X308.here hx rfl (hb hby at_160) rfl kq) ?_
          show GoW p e below s _ _ _ T308 (mkF m 162 #[.val (.int x0), .val (.int x1), .val (.int x2), .val (.int x3), .val (.int x4), .val (.int (1 : Int32)), .val (.int (1 : Int32)), .val (.int (x2 &&& (255 : Int32))), .val (.int (x3 &&& (255 : Int32))), .val (.int (x4 &&& (255 : Int32))), .val (.ref a267), .val (.ref a269), .val (.int (1 : Int32)), .unset, .unset] [(.int (1 : Int32))])
          refine gw_st (fun _ kq => XT.iconstV X308.here hx rfl (1 : Int32) (hb hby at_162) (by decide) kq) ?_
          show GoW p e below s _ _ _ T308 (mkF m 163 #[.val (.int x0), .val (.int x1), .val (.int x2), .val (.int x3), .val (.int x4), .val (.int (1 : Int32)), .val (.int (1 : Int32)), .val (.int (x2 &&& (255 : Int32))), .val (.int (x3 &&& (255 : Int32))), .val (.int (x4 &&& (255 : Int32))), .val (.ref a267), .val (.ref a269), .val (.int (1 : Int32)), .unset, .unset] [(.int (1 : Int32)), (.int (1 : Int32))])
          refine gw_st (fun _ kq => XS.icmpNo X308.here hx rfl (hb hby at_163) rfl (XT.ii_lt_f (by decide)) kq) ?_
          show GoW p e below s _ _ _ T308 (mkF m 166 #[.val (.int x0), .val (.int x1), .val (.int x2), .val (.int x3), .val (.int x4), .val (.int (1 : Int32)), .val (.int (1 : Int32)), .val (.int (x2 &&& (255 : Int32))), .val (.int (x3 &&& (255 : Int32))), .val (.int (x4 &&& (255 : Int32))), .val (.ref a267), .val (.ref a269), .val (.int (1 : Int32)), .unset, .unset] [])
          refine gw_st (fun _ kq => XS.aload X308.here hx rfl (hb hby at_166) rfl rfl kq) ?_
          show GoW p e below s _ _ _ T308 (mkF m 168 #[.val (.int x0), .val (.int x1), .val (.int x2), .val (.int x3), .val (.int x4), .val (.int (1 : Int32)), .val (.int (1 : Int32)), .val (.int (x2 &&& (255 : Int32))), .val (.int (x3 &&& (255 : Int32))), .val (.int (x4 &&& (255 : Int32))), .val (.ref a267), .val (.ref a269), .val (.int (1 : Int32)), .unset, .unset] [(.ref a269)])
          refine gw_callV X308 hx hZ hml hown (hw _ (List.mem_of_getElem? (i := 65) rfl)) (hw _ (List.mem_of_getElem? (i := 66) rfl)) (notFace_of_selects (args := #[]) (mvT hZ (hw _ (List.mem_of_getElem? (i := 68) rfl)))) (hw _ (List.mem_of_getElem? (i := 68) rfl)) (hw _ (List.mem_of_getElem? (i := 67) rfl)) (hw _ (List.mem_of_getElem? (i := 69) rfl)) (hw _ (List.mem_of_getElem? (i := 4) rfl)) e308 c316 (argsL := []) (rest := []) (W := 0) (met_sk0 l Z a0 hw a269 a278 T300.heap n0 z315 c316 f300_0 f300_1 nw_a269) (hb hby at_168) rfl rfl rfl (lenOf pd9 rfl) (by show 2 * 0 + _ ≤ _; exact Nat.le_of_eq rfl) (by decide) (by decide) (by decide) (by decide) (by decide) ?_
          intro T317 v317 L317 X317 q317
          obtain ⟨rfl, M317, K317, f317_0, f317_1⟩ := q317
          have N317 := Fr.app N308 M317
          show GoW p e below s _ _ _ T317 (mkF m 171 #[.val (.int x0), .val (.int x1), .val (.int x2), .val (.int x3), .val (.int x4), .val (.int (1 : Int32)), .val (.int (1 : Int32)), .val (.int (x2 &&& (255 : Int32))), .val (.int (x3 &&& (255 : Int32))), .val (.int (x4 &&& (255 : Int32))), .val (.ref a267), .val (.ref a269), .val (.int (1 : Int32)), .unset, .unset] [])
          refine gw_st (fun _ kq => XS.iload X317.here hx rfl (hb hby at_171) rfl kq) ?_
          show GoW p e below s _ _ _ T317 (mkF m 173 #[.val (.int x0), .val (.int x1), .val (.int x2), .val (.int x3), .val (.int x4), .val (.int (1 : Int32)), .val (.int (1 : Int32)), .val (.int (x2 &&& (255 : Int32))), .val (.int (x3 &&& (255 : Int32))), .val (.int (x4 &&& (255 : Int32))), .val (.ref a267), .val (.ref a269), .val (.int (1 : Int32)), .unset, .unset] [(.int (1 : Int32))])
          refine gw_st (fun _ kq => XT.iconstV X317.here hx rfl (2 : Int32) (hb hby at_173) (by decide) kq) ?_
          show GoW p e below s _ _ _ T317 (mkF m 174 #[.val (.int x0), .val (.int x1), .val (.int x2), .val (.int x3), .val (.int x4), .val (.int (1 : Int32)), .val (.int (1 : Int32)), .val (.int (x2 &&& (255 : Int32))), .val (.int (x3 &&& (255 : Int32))), .val (.int (x4 &&& (255 : Int32))), .val (.ref a267), .val (.ref a269), .val (.int (1 : Int32)), .unset, .unset] [(.int (2 : Int32)), (.int (1 : Int32))])
          refine gw_st (fun _ kq => XS.icmpYes X317.here hx rfl (pc0 := 174) (pc' := 182) rfl (hb hby at_174) rfl (XT.ii_lt_t (by decide)) (by decide) (by decide) kq) ?_
          show GoW p e below s _ _ _ T317 (mkF m 182 #[.val (.int x0), .val (.int x1), .val (.int x2), .val (.int x3), .val (.int x4), .val (.int (1 : Int32)), .val (.int (1 : Int32)), .val (.int (x2 &&& (255 : Int32))), .val (.int (x3 &&& (255 : Int32))), .val (.int (x4 &&& (255 : Int32))), .val (.ref a267), .val (.ref a269), .val (.int (1 : Int32)), .unset, .unset] [])
          refine gw_st (fun _ kq => XS.iload X317.here hx rfl (hb hby at_182) rfl kq) ?_
          show GoW p e below s _ _ _ T317 (mkF m 184 #[.val (.int x0), .val (.int x1), .val (.int x2), .val (.int x3), .val (.int x4), .val (.int (1 : Int32)), .val (.int (1 : Int32)), .val (.int (x2 &&& (255 : Int32))), .val (.int (x3 &&& (255 : Int32))), .val (.int (x4 &&& (255 : Int32))), .val (.ref a267), .val (.ref a269), .val (.int (1 : Int32)), .unset, .unset] [(.int (1 : Int32))])
          refine gw_st (fun _ kq => XT.iconstV X317.here hx rfl (3 : Int32) (hb hby at_184) (by decide) kq) ?_
          show GoW p e below s _ _ _ T317 (mkF m 185 #[.val (.int x0), .val (.int x1), .val (.int x2), .val (.int x3), .val (.int x4), .val (.int (1 : Int32)), .val (.int (1 : Int32)), .val (.int (x2 &&& (255 : Int32))), .val (.int (x3 &&& (255 : Int32))), .val (.int (x4 &&& (255 : Int32))), .val (.ref a267), .val (.ref a269), .val (.int (1 : Int32)), .unset, .unset] [(.int (3 : Int32)), (.int (1 : Int32))])
          refine gw_st (fun _ kq => XS.icmpYes X317.here hx rfl (pc0 := 185) (pc' := 193) rfl (hb hby at_185) rfl (XT.ii_lt_t (by decide)) (by decide) (by decide) kq) ?_
          show GoW p e below s _ _ _ T317 (mkF m 193 #[.val (.int x0), .val (.int x1), .val (.int x2), .val (.int x3), .val (.int x4), .val (.int (1 : Int32)), .val (.int (1 : Int32)), .val (.int (x2 &&& (255 : Int32))), .val (.int (x3 &&& (255 : Int32))), .val (.int (x4 &&& (255 : Int32))), .val (.ref a267), .val (.ref a269), .val (.int (1 : Int32)), .unset, .unset] [])
          refine gw_st (fun _ kq => XS.aload X317.here hx rfl (hb hby at_193) rfl rfl kq) ?_
          show GoW p e below s _ _ _ T317 (mkF m 195 #[.val (.int x0), .val (.int x1), .val (.int x2), .val (.int x3), .val (.int x4), .val (.int (1 : Int32)), .val (.int (1 : Int32)), .val (.int (x2 &&& (255 : Int32))), .val (.int (x3 &&& (255 : Int32))), .val (.int (x4 &&& (255 : Int32))), .val (.ref a267), .val (.ref a269), .val (.int (1 : Int32)), .unset, .unset] [(.ref a269)])
          have c319 := Exa.keep c309 K317
          have c320 := Fld.keep c310 K317 (ninS (Ne.symm ne282) nin0)
          have c321 := Fld.keep c311 K317 (ninS (Ne.symm ne282) nin0)
          have c322 := GA.keep c312 K317 (ninS (Ne.symm ne297) nin0)
          have c323 := Old.keep c314 K317 (allS nw_a269 all0)
          have z324 : n0 ≤ T317.heap.size := Nat.le_trans z315 K317.1
          have c325 := Exa.keep c316 K317
          refine gw_callV X317 hx hZ hml hown (hw _ (List.mem_of_getElem? (i := 32) rfl)) (hw _ (List.mem_of_getElem? (i := 33) rfl)) (notFace_of_selects (args := #[]) (mvT hZ (hw _ (List.mem_of_getElem? (i := 35) rfl)))) (hw _ (List.mem_of_getElem? (i := 35) rfl)) (hw _ (List.mem_of_getElem? (i := 34) rfl)) (hw _ (List.mem_of_getElem? (i := 36) rfl)) (hw _ (List.mem_of_getElem? (i := 4) rfl)) rfl c325 (argsL := []) (rest := []) (W := 0) (met_end11 l Z a0 hw a269 a278 r_286 (fun i => .int (own_c3 (own_by (x2 &&& (255 : Int32))) (0 : Int32) (0 : Int32) i)) zc T317.heap n0 z324 f317_1 f317_0 c319 c320 c321 c322 c323 S0 zn) (hb hby at_195) rfl rfl rfl (lenOf pd8 rfl) (by show 2 * 0 + _ ≤ _; exact Nat.le_of_eq rfl) (by decide) (by decide) (by decide) (by decide) (by decide) ?_
          intro T318 v318 L318 X318 q318
          obtain ⟨rfl, M318, e318⟩ := q318
          have N318 := Fr.app N317 M318
          show GoW p e below s _ _ _ T318 (mkF m 198 #[.val (.int x0), .val (.int x1), .val (.int x2), .val (.int x3), .val (.int x4), .val (.int (1 : Int32)), .val (.int (1 : Int32)), .val (.int (x2 &&& (255 : Int32))), .val (.int (x3 &&& (255 : Int32))), .val (.int (x4 &&& (255 : Int32))), .val (.ref a267), .val (.ref a269), .val (.int (1 : Int32)), .unset, .unset] [(.int (1 : Int32))])
          refine gw_st (fun _ kq => XS.iload X318.here hx rfl (hb hby at_198) rfl kq) ?_
          show GoW p e below s _ _ _ T318 (mkF m 200 #[.val (.int x0), .val (.int x1), .val (.int x2), .val (.int x3), .val (.int x4), .val (.int (1 : Int32)), .val (.int (1 : Int32)), .val (.int (x2 &&& (255 : Int32))), .val (.int (x3 &&& (255 : Int32))), .val (.int (x4 &&& (255 : Int32))), .val (.ref a267), .val (.ref a269), .val (.int (1 : Int32)), .unset, .unset] [(.int (1 : Int32)), (.int (1 : Int32))])
          refine gw_st (fun _ kq => XS.iload X318.here hx rfl (hb hby at_200) rfl kq) ?_
          show GoW p e below s _ _ _ T318 (mkF m 202 #[.val (.int x0), .val (.int x1), .val (.int x2), .val (.int x3), .val (.int x4), .val (.int (1 : Int32)), .val (.int (1 : Int32)), .val (.int (x2 &&& (255 : Int32))), .val (.int (x3 &&& (255 : Int32))), .val (.int (x4 &&& (255 : Int32))), .val (.ref a267), .val (.ref a269), .val (.int (1 : Int32)), .unset, .unset] [(.int (1 : Int32)), (.int (1 : Int32)), (.int (1 : Int32))])
          refine gw_st (fun _ kq => XS.icmpNo X318.here hx rfl (hb hby at_202) rfl (XT.ii_ne_f (by decide)) kq) ?_
          show GoW p e below s _ _ _ T318 (mkF m 205 #[.val (.int x0), .val (.int x1), .val (.int x2), .val (.int x3), .val (.int x4), .val (.int (1 : Int32)), .val (.int (1 : Int32)), .val (.int (x2 &&& (255 : Int32))), .val (.int (x3 &&& (255 : Int32))), .val (.int (x4 &&& (255 : Int32))), .val (.ref a267), .val (.ref a269), .val (.int (1 : Int32)), .unset, .unset] [(.int (1 : Int32))])
          refine gw_st (fun _ kq => XT.iconstV X318.here hx rfl (1 : Int32) (hb hby at_205) (by decide) kq) ?_
          show GoW p e below s _ _ _ T318 (mkF m 206 #[.val (.int x0), .val (.int x1), .val (.int x2), .val (.int x3), .val (.int x4), .val (.int (1 : Int32)), .val (.int (1 : Int32)), .val (.int (x2 &&& (255 : Int32))), .val (.int (x3 &&& (255 : Int32))), .val (.int (x4 &&& (255 : Int32))), .val (.ref a267), .val (.ref a269), .val (.int (1 : Int32)), .unset, .unset] [(.int (1 : Int32)), (.int (1 : Int32))])
          refine gw_st (fun _ kq => XS.goto X318.here hx rfl (pc0 := 206) (pc' := 210) rfl (hb hby at_206) (by decide) (by decide) kq) ?_
          show GoW p e below s _ _ _ T318 (mkF m 210 #[.val (.int x0), .val (.int x1), .val (.int x2), .val (.int x3), .val (.int x4), .val (.int (1 : Int32)), .val (.int (1 : Int32)), .val (.int (x2 &&& (255 : Int32))), .val (.int (x3 &&& (255 : Int32))), .val (.int (x4 &&& (255 : Int32))), .val (.ref a267), .val (.ref a269), .val (.int (1 : Int32)), .unset, .unset] [(.int (1 : Int32)), (.int (1 : Int32))])
          refine gw_st (fun _ kq => XS.icmpNo X318.here hx rfl (hb hby at_210) rfl (XT.ii_ne_f (by decide)) kq) ?_
          show GoW p e below s _ _ _ T318 (mkF m 213 #[.val (.int x0), .val (.int x1), .val (.int x2), .val (.int x3), .val (.int x4), .val (.int (1 : Int32)), .val (.int (1 : Int32)), .val (.int (x2 &&& (255 : Int32))), .val (.int (x3 &&& (255 : Int32))), .val (.int (x4 &&& (255 : Int32))), .val (.ref a267), .val (.ref a269), .val (.int (1 : Int32)), .unset, .unset] [])
          refine gw_st (fun _ kq => XT.iconstV X318.here hx rfl (1 : Int32) (hb hby at_213) (by decide) kq) ?_
          show GoW p e below s _ _ _ T318 (mkF m 214 #[.val (.int x0), .val (.int x1), .val (.int x2), .val (.int x3), .val (.int x4), .val (.int (1 : Int32)), .val (.int (1 : Int32)), .val (.int (x2 &&& (255 : Int32))), .val (.int (x3 &&& (255 : Int32))), .val (.int (x4 &&& (255 : Int32))), .val (.ref a267), .val (.ref a269), .val (.int (1 : Int32)), .unset, .unset] [(.int (1 : Int32))])
          refine gw_st (fun _ kq => XS.goto X318.here hx rfl (pc0 := 214) (pc' := 218) rfl (hb hby at_214) (by decide) (by decide) kq) ?_
          show GoW p e below s _ _ _ T318 (mkF m 218 #[.val (.int x0), .val (.int x1), .val (.int x2), .val (.int x3), .val (.int x4), .val (.int (1 : Int32)), .val (.int (1 : Int32)), .val (.int (x2 &&& (255 : Int32))), .val (.int (x3 &&& (255 : Int32))), .val (.int (x4 &&& (255 : Int32))), .val (.ref a267), .val (.ref a269), .val (.int (1 : Int32)), .unset, .unset] [(.int (1 : Int32))])
          refine gw_st (fun _ kq => XS.istore X318.here hx rfl (hb hby at_218) rfl (l' := #[.val (.int x0), .val (.int x1), .val (.int x2), .val (.int x3), .val (.int x4), .val (.int (1 : Int32)), .val (.int (1 : Int32)), .val (.int (x2 &&& (255 : Int32))), .val (.int (x3 &&& (255 : Int32))), .val (.int (x4 &&& (255 : Int32))), .val (.ref a267), .val (.ref a269), .val (.int (1 : Int32)), .val (.int (1 : Int32)), .unset]) rfl kq) ?_
          show GoW p e below s _ _ _ T318 (mkF m 220 #[.val (.int x0), .val (.int x1), .val (.int x2), .val (.int x3), .val (.int x4), .val (.int (1 : Int32)), .val (.int (1 : Int32)), .val (.int (x2 &&& (255 : Int32))), .val (.int (x3 &&& (255 : Int32))), .val (.int (x4 &&& (255 : Int32))), .val (.ref a267), .val (.ref a269), .val (.int (1 : Int32)), .val (.int (1 : Int32)), .unset] [])
          refine gw_st (fun _ kq => XS.aload X318.here hx rfl (hb hby at_220) rfl rfl kq) ?_
          show GoW p e below s _ _ _ T318 (mkF m 222 #[.val (.int x0), .val (.int x1), .val (.int x2), .val (.int x3), .val (.int x4), .val (.int (1 : Int32)), .val (.int (1 : Int32)), .val (.int (x2 &&& (255 : Int32))), .val (.int (x3 &&& (255 : Int32))), .val (.int (x4 &&& (255 : Int32))), .val (.ref a267), .val (.ref a269), .val (.int (1 : Int32)), .val (.int (1 : Int32)), .unset] [(.ref a269)])
          refine gw_callV X318 hx hZ hml hown (hw _ (List.mem_of_getElem? (i := 50) rfl)) (hw _ (List.mem_of_getElem? (i := 51) rfl)) (notFace_of_selects (args := #[]) (mvT hZ (hw _ (List.mem_of_getElem? (i := 53) rfl)))) (hw _ (List.mem_of_getElem? (i := 53) rfl)) (hw _ (List.mem_of_getElem? (i := 52) rfl)) (hw _ (List.mem_of_getElem? (i := 54) rfl)) (hw _ (List.mem_of_getElem? (i := 4) rfl)) e318 c325 (argsL := []) (rest := []) (W := 0) (met_8 l Z a0 hw a269 (1 : Int32) T317.heap n0 z324 f317_1) (hb hby at_222) rfl rfl rfl (lenOf pd5 rfl) (by show 2 * 0 + _ ≤ _; exact Nat.le_of_eq rfl) (by decide) (by decide) (by decide) (by decide) (by decide) ?_
          intro T326 v326 L326 X326 q326
          obtain ⟨rfl, M326, e326⟩ := q326
          have N326 := Fr.app N318 M326
          show GoW p e below s _ _ _ T326 (mkF m 225 #[.val (.int x0), .val (.int x1), .val (.int x2), .val (.int x3), .val (.int x4), .val (.int (1 : Int32)), .val (.int (1 : Int32)), .val (.int (x2 &&& (255 : Int32))), .val (.int (x3 &&& (255 : Int32))), .val (.int (x4 &&& (255 : Int32))), .val (.ref a267), .val (.ref a269), .val (.int (1 : Int32)), .val (.int (1 : Int32)), .unset] [(.int (1 : Int32))])
          refine gw_st (fun _ kq => XS.iload X326.here hx rfl (hb hby at_225) rfl kq) ?_
          show GoW p e below s _ _ _ T326 (mkF m 227 #[.val (.int x0), .val (.int x1), .val (.int x2), .val (.int x3), .val (.int x4), .val (.int (1 : Int32)), .val (.int (1 : Int32)), .val (.int (x2 &&& (255 : Int32))), .val (.int (x3 &&& (255 : Int32))), .val (.int (x4 &&& (255 : Int32))), .val (.ref a267), .val (.ref a269), .val (.int (1 : Int32)), .val (.int (1 : Int32)), .unset] [(.int (1 : Int32)), (.int (1 : Int32))])
          refine gw_st (fun _ kq => XS.icmpNo X326.here hx rfl (hb hby at_227) rfl (XT.ii_ne_f (by decide)) kq) ?_
          show GoW p e below s _ _ _ T326 (mkF m 230 #[.val (.int x0), .val (.int x1), .val (.int x2), .val (.int x3), .val (.int x4), .val (.int (1 : Int32)), .val (.int (1 : Int32)), .val (.int (x2 &&& (255 : Int32))), .val (.int (x3 &&& (255 : Int32))), .val (.int (x4 &&& (255 : Int32))), .val (.ref a267), .val (.ref a269), .val (.int (1 : Int32)), .val (.int (1 : Int32)), .unset] [])
          refine gw_st (fun _ kq => XT.iconstV X326.here hx rfl (1 : Int32) (hb hby at_230) (by decide) kq) ?_
          show GoW p e below s _ _ _ T326 (mkF m 231 #[.val (.int x0), .val (.int x1), .val (.int x2), .val (.int x3), .val (.int x4), .val (.int (1 : Int32)), .val (.int (1 : Int32)), .val (.int (x2 &&& (255 : Int32))), .val (.int (x3 &&& (255 : Int32))), .val (.int (x4 &&& (255 : Int32))), .val (.ref a267), .val (.ref a269), .val (.int (1 : Int32)), .val (.int (1 : Int32)), .unset] [(.int (1 : Int32))])
          refine gw_st (fun _ kq => XS.goto X326.here hx rfl (pc0 := 231) (pc' := 235) rfl (hb hby at_231) (by decide) (by decide) kq) ?_
          show GoW p e below s _ _ _ T326 (mkF m 235 #[.val (.int x0), .val (.int x1), .val (.int x2), .val (.int x3), .val (.int x4), .val (.int (1 : Int32)), .val (.int (1 : Int32)), .val (.int (x2 &&& (255 : Int32))), .val (.int (x3 &&& (255 : Int32))), .val (.int (x4 &&& (255 : Int32))), .val (.ref a267), .val (.ref a269), .val (.int (1 : Int32)), .val (.int (1 : Int32)), .unset] [(.int (1 : Int32))])
          refine gw_st (fun _ kq => XS.istore X326.here hx rfl (hb hby at_235) rfl (l' := #[.val (.int x0), .val (.int x1), .val (.int x2), .val (.int x3), .val (.int x4), .val (.int (1 : Int32)), .val (.int (1 : Int32)), .val (.int (x2 &&& (255 : Int32))), .val (.int (x3 &&& (255 : Int32))), .val (.int (x4 &&& (255 : Int32))), .val (.ref a267), .val (.ref a269), .val (.int (1 : Int32)), .val (.int (1 : Int32)), .val (.int (1 : Int32))]) rfl kq) ?_
          show GoW p e below s _ _ _ T326 (mkF m 237 #[.val (.int x0), .val (.int x1), .val (.int x2), .val (.int x3), .val (.int x4), .val (.int (1 : Int32)), .val (.int (1 : Int32)), .val (.int (x2 &&& (255 : Int32))), .val (.int (x3 &&& (255 : Int32))), .val (.int (x4 &&& (255 : Int32))), .val (.ref a267), .val (.ref a269), .val (.int (1 : Int32)), .val (.int (1 : Int32)), .val (.int (1 : Int32))] [])
          refine gw_st (fun _ kq => XS.iload X326.here hx rfl (hb hby at_237) rfl kq) ?_
          show GoW p e below s _ _ _ T326 (mkF m 239 #[.val (.int x0), .val (.int x1), .val (.int x2), .val (.int x3), .val (.int x4), .val (.int (1 : Int32)), .val (.int (1 : Int32)), .val (.int (x2 &&& (255 : Int32))), .val (.int (x3 &&& (255 : Int32))), .val (.int (x4 &&& (255 : Int32))), .val (.ref a267), .val (.ref a269), .val (.int (1 : Int32)), .val (.int (1 : Int32)), .val (.int (1 : Int32))] [(.int (1 : Int32))])
          refine gw_st (fun _ kq => XS.ifNo X326.here hx rfl (hb hby at_239) rfl (XT.i0_eq_f (by decide)) kq) ?_
          show GoW p e below s _ _ _ T326 (mkF m 242 #[.val (.int x0), .val (.int x1), .val (.int x2), .val (.int x3), .val (.int x4), .val (.int (1 : Int32)), .val (.int (1 : Int32)), .val (.int (x2 &&& (255 : Int32))), .val (.int (x3 &&& (255 : Int32))), .val (.int (x4 &&& (255 : Int32))), .val (.ref a267), .val (.ref a269), .val (.int (1 : Int32)), .val (.int (1 : Int32)), .val (.int (1 : Int32))] [])
          refine gw_st (fun _ kq => XS.iload X326.here hx rfl (hb hby at_242) rfl kq) ?_
          show GoW p e below s _ _ _ T326 (mkF m 244 #[.val (.int x0), .val (.int x1), .val (.int x2), .val (.int x3), .val (.int x4), .val (.int (1 : Int32)), .val (.int (1 : Int32)), .val (.int (x2 &&& (255 : Int32))), .val (.int (x3 &&& (255 : Int32))), .val (.int (x4 &&& (255 : Int32))), .val (.ref a267), .val (.ref a269), .val (.int (1 : Int32)), .val (.int (1 : Int32)), .val (.int (1 : Int32))] [(.int (1 : Int32))])
          refine gw_st (fun _ kq => XS.ifNo X326.here hx rfl (hb hby at_244) rfl (XT.i0_eq_f (by decide)) kq) ?_
          show GoW p e below s _ _ _ T326 (mkF m 247 #[.val (.int x0), .val (.int x1), .val (.int x2), .val (.int x3), .val (.int x4), .val (.int (1 : Int32)), .val (.int (1 : Int32)), .val (.int (x2 &&& (255 : Int32))), .val (.int (x3 &&& (255 : Int32))), .val (.int (x4 &&& (255 : Int32))), .val (.ref a267), .val (.ref a269), .val (.int (1 : Int32)), .val (.int (1 : Int32)), .val (.int (1 : Int32))] [])
          refine gw_st (fun _ kq => XS.iload X326.here hx rfl (hb hby at_247) rfl kq) ?_
          show GoW p e below s _ _ _ T326 (mkF m 249 #[.val (.int x0), .val (.int x1), .val (.int x2), .val (.int x3), .val (.int x4), .val (.int (1 : Int32)), .val (.int (1 : Int32)), .val (.int (x2 &&& (255 : Int32))), .val (.int (x3 &&& (255 : Int32))), .val (.int (x4 &&& (255 : Int32))), .val (.ref a267), .val (.ref a269), .val (.int (1 : Int32)), .val (.int (1 : Int32)), .val (.int (1 : Int32))] [(.int (1 : Int32))])
          refine gw_st (fun _ kq => XS.ifNo X326.here hx rfl (hb hby at_249) rfl (XT.i0_eq_f (by decide)) kq) ?_
          show GoW p e below s _ _ _ T326 (mkF m 252 #[.val (.int x0), .val (.int x1), .val (.int x2), .val (.int x3), .val (.int x4), .val (.int (1 : Int32)), .val (.int (1 : Int32)), .val (.int (x2 &&& (255 : Int32))), .val (.int (x3 &&& (255 : Int32))), .val (.int (x4 &&& (255 : Int32))), .val (.ref a267), .val (.ref a269), .val (.int (1 : Int32)), .val (.int (1 : Int32)), .val (.int (1 : Int32))] [])
          refine gw_st (fun _ kq => XT.iconstV X326.here hx rfl (1 : Int32) (hb hby at_252) (by decide) kq) ?_
          show GoW p e below s _ _ _ T326 (mkF m 253 #[.val (.int x0), .val (.int x1), .val (.int x2), .val (.int x3), .val (.int x4), .val (.int (1 : Int32)), .val (.int (1 : Int32)), .val (.int (x2 &&& (255 : Int32))), .val (.int (x3 &&& (255 : Int32))), .val (.int (x4 &&& (255 : Int32))), .val (.ref a267), .val (.ref a269), .val (.int (1 : Int32)), .val (.int (1 : Int32)), .val (.int (1 : Int32))] [(.int (1 : Int32))])
          refine gw_st (fun _ kq => XS.goto X326.here hx rfl (pc0 := 253) (pc' := 257) rfl (hb hby at_253) (by decide) (by decide) kq) ?_
          show GoW p e below s _ _ _ T326 (mkF m 257 #[.val (.int x0), .val (.int x1), .val (.int x2), .val (.int x3), .val (.int x4), .val (.int (1 : Int32)), .val (.int (1 : Int32)), .val (.int (x2 &&& (255 : Int32))), .val (.int (x3 &&& (255 : Int32))), .val (.int (x4 &&& (255 : Int32))), .val (.ref a267), .val (.ref a269), .val (.int (1 : Int32)), .val (.int (1 : Int32)), .val (.int (1 : Int32))] [(.int (1 : Int32))])
          exact gw_retB (w := (1 : Int32)) X326 hx hlk hret (hb hby at_257) (by decide) (by decide) (by decide) ⟨rfl, N326⟩
        · exact (own_dk2 _ hk213 hk266).elim
    · by_cases hk327 : (x0 &&& (3 : Int32)) = (2 : Int32)
      · rw [hk327]
        show GoW p e below s _ _ _ s₁ (mkF m 5 #[.val (.int x0), .val (.int x1), .val (.int x2), .val (.int x3), .val (.int x4), .val (.int (2 : Int32)), .unset, .unset, .unset, .unset, .unset, .unset, .unset, .unset, .unset] [])
        refine gw_st (fun _ kq => XS.iloadN X0.here hx rfl (hb hby at_5) rfl kq) ?_
        show GoW p e below s _ _ _ s₁ (mkF m 6 #[.val (.int x0), .val (.int x1), .val (.int x2), .val (.int x3), .val (.int x4), .val (.int (2 : Int32)), .unset, .unset, .unset, .unset, .unset, .unset, .unset, .unset, .unset] [(.int x1)])
        refine gw_st (fun _ kq => Jvm.Stand.ldcI X0 hx hown (mvT hZ (hw _ (List.mem_of_getElem? (i := 0) rfl))) rfl (hb hby at_6) kq) ?_
        show GoW p e below s _ _ _ s₁ (mkF m 8 #[.val (.int x0), .val (.int x1), .val (.int x2), .val (.int x3), .val (.int x4), .val (.int (2 : Int32)), .unset, .unset, .unset, .unset, .unset, .unset, .unset, .unset, .unset] [(.int (2147483647 : Int32)), (.int x1)])
        refine gw_st (fun _ kq => XS.iand X0.here hx rfl (hb hby at_8) rfl kq) ?_
        show GoW p e below s _ _ _ s₁ (mkF m 9 #[.val (.int x0), .val (.int x1), .val (.int x2), .val (.int x3), .val (.int x4), .val (.int (2 : Int32)), .unset, .unset, .unset, .unset, .unset, .unset, .unset, .unset, .unset] [(.int (x1 &&& (2147483647 : Int32)))])
        refine gw_st (fun _ kq => XS.iload X0.here hx rfl (hb hby at_9) rfl kq) ?_
        show GoW p e below s _ _ _ s₁ (mkF m 11 #[.val (.int x0), .val (.int x1), .val (.int x2), .val (.int x3), .val (.int x4), .val (.int (2 : Int32)), .unset, .unset, .unset, .unset, .unset, .unset, .unset, .unset, .unset] [(.int (2 : Int32)), (.int (x1 &&& (2147483647 : Int32)))])
        refine gw_st (fun _ kq => XT.iconstV X0.here hx rfl (1 : Int32) (hb hby at_11) (by decide) kq) ?_
        show GoW p e below s _ _ _ s₁ (mkF m 12 #[.val (.int x0), .val (.int x1), .val (.int x2), .val (.int x3), .val (.int x4), .val (.int (2 : Int32)), .unset, .unset, .unset, .unset, .unset, .unset, .unset, .unset, .unset] [(.int (1 : Int32)), (.int (2 : Int32)), (.int (x1 &&& (2147483647 : Int32)))])
        refine gw_st (fun _ kq => XS.iadd X0.here hx rfl (hb hby at_12) rfl kq) ?_
        rw [show ((2 : Int32) + (1 : Int32)) = (3 : Int32) from by decide +kernel]
        show GoW p e below s _ _ _ s₁ (mkF m 13 #[.val (.int x0), .val (.int x1), .val (.int x2), .val (.int x3), .val (.int x4), .val (.int (2 : Int32)), .unset, .unset, .unset, .unset, .unset, .unset, .unset, .unset, .unset] [(.int (3 : Int32)), (.int (x1 &&& (2147483647 : Int32)))])
        refine gw_st (fun _ kq => iremM X0 hx rfl (hb hby at_13) rfl (by decide) kq) ?_
        show GoW p e below s _ _ _ s₁ (mkF m 14 #[.val (.int x0), .val (.int x1), .val (.int x2), .val (.int x3), .val (.int x4), .val (.int (2 : Int32)), .unset, .unset, .unset, .unset, .unset, .unset, .unset, .unset, .unset] [(.int ((x1 &&& (2147483647 : Int32)) % (3 : Int32)))])
        refine gw_st (fun _ kq => XS.istore X0.here hx rfl (hb hby at_14) rfl (l' := #[.val (.int x0), .val (.int x1), .val (.int x2), .val (.int x3), .val (.int x4), .val (.int (2 : Int32)), .val (.int ((x1 &&& (2147483647 : Int32)) % (3 : Int32))), .unset, .unset, .unset, .unset, .unset, .unset, .unset, .unset]) rfl kq) ?_
        show GoW p e below s _ _ _ s₁ (mkF m 16 #[.val (.int x0), .val (.int x1), .val (.int x2), .val (.int x3), .val (.int x4), .val (.int (2 : Int32)), .val (.int ((x1 &&& (2147483647 : Int32)) % (3 : Int32))), .unset, .unset, .unset, .unset, .unset, .unset, .unset, .unset] [])
        by_cases hk328 : ((x1 &&& (2147483647 : Int32)) % (3 : Int32)) = (0 : Int32)
        · rw [hk328]
          show GoW p e below s _ _ _ s₁ (mkF m 16 #[.val (.int x0), .val (.int x1), .val (.int x2), .val (.int x3), .val (.int x4), .val (.int (2 : Int32)), .val (.int (0 : Int32)), .unset, .unset, .unset, .unset, .unset, .unset, .unset, .unset] [])
          refine gw_st (fun _ kq => XS.iloadN X0.here hx rfl (hb hby at_16) rfl kq) ?_
          show GoW p e below s _ _ _ s₁ (mkF m 17 #[.val (.int x0), .val (.int x1), .val (.int x2), .val (.int x3), .val (.int x4), .val (.int (2 : Int32)), .val (.int (0 : Int32)), .unset, .unset, .unset, .unset, .unset, .unset, .unset, .unset] [(.int x2)])
          refine gw_st (fun _ kq => XT.sipushV X0.here hx rfl (255 : Int32) (hb hby at_17) (by decide) kq) ?_
          show GoW p e below s _ _ _ s₁ (mkF m 20 #[.val (.int x0), .val (.int x1), .val (.int x2), .val (.int x3), .val (.int x4), .val (.int (2 : Int32)), .val (.int (0 : Int32)), .unset, .unset, .unset, .unset, .unset, .unset, .unset, .unset] [(.int (255 : Int32)), (.int x2)])
          refine gw_st (fun _ kq => XS.iand X0.here hx rfl (hb hby at_20) rfl kq) ?_
          show GoW p e below s _ _ _ s₁ (mkF m 21 #[.val (.int x0), .val (.int x1), .val (.int x2), .val (.int x3), .val (.int x4), .val (.int (2 : Int32)), .val (.int (0 : Int32)), .unset, .unset, .unset, .unset, .unset, .unset, .unset, .unset] [(.int (x2 &&& (255 : Int32)))])
          refine gw_st (fun _ kq => XT.i2c X0.here hx rfl (hb hby at_21) rfl kq) ?_
          rw [own_i2c]
          show GoW p e below s _ _ _ s₁ (mkF m 22 #[.val (.int x0), .val (.int x1), .val (.int x2), .val (.int x3), .val (.int x4), .val (.int (2 : Int32)), .val (.int (0 : Int32)), .unset, .unset, .unset, .unset, .unset, .unset, .unset, .unset] [(.int (x2 &&& (255 : Int32)))])
          refine gw_st (fun _ kq => XS.istore X0.here hx rfl (hb hby at_22) rfl (l' := #[.val (.int x0), .val (.int x1), .val (.int x2), .val (.int x3), .val (.int x4), .val (.int (2 : Int32)), .val (.int (0 : Int32)), .val (.int (x2 &&& (255 : Int32))), .unset, .unset, .unset, .unset, .unset, .unset, .unset]) rfl kq) ?_
          show GoW p e below s _ _ _ s₁ (mkF m 24 #[.val (.int x0), .val (.int x1), .val (.int x2), .val (.int x3), .val (.int x4), .val (.int (2 : Int32)), .val (.int (0 : Int32)), .val (.int (x2 &&& (255 : Int32))), .unset, .unset, .unset, .unset, .unset, .unset, .unset] [])
          refine gw_st (fun _ kq => XS.iloadN X0.here hx rfl (hb hby at_24) rfl kq) ?_
          show GoW p e below s _ _ _ s₁ (mkF m 25 #[.val (.int x0), .val (.int x1), .val (.int x2), .val (.int x3), .val (.int x4), .val (.int (2 : Int32)), .val (.int (0 : Int32)), .val (.int (x2 &&& (255 : Int32))), .unset, .unset, .unset, .unset, .unset, .unset, .unset] [(.int x3)])
          refine gw_st (fun _ kq => XT.sipushV X0.here hx rfl (255 : Int32) (hb hby at_25) (by decide) kq) ?_
          show GoW p e below s _ _ _ s₁ (mkF m 28 #[.val (.int x0), .val (.int x1), .val (.int x2), .val (.int x3), .val (.int x4), .val (.int (2 : Int32)), .val (.int (0 : Int32)), .val (.int (x2 &&& (255 : Int32))), .unset, .unset, .unset, .unset, .unset, .unset, .unset] [(.int (255 : Int32)), (.int x3)])
          refine gw_st (fun _ kq => XS.iand X0.here hx rfl (hb hby at_28) rfl kq) ?_
          show GoW p e below s _ _ _ s₁ (mkF m 29 #[.val (.int x0), .val (.int x1), .val (.int x2), .val (.int x3), .val (.int x4), .val (.int (2 : Int32)), .val (.int (0 : Int32)), .val (.int (x2 &&& (255 : Int32))), .unset, .unset, .unset, .unset, .unset, .unset, .unset] [(.int (x3 &&& (255 : Int32)))])
          refine gw_st (fun _ kq => XT.i2c X0.here hx rfl (hb hby at_29) rfl kq) ?_
          rw [own_i2c]
          show GoW p e below s _ _ _ s₁ (mkF m 30 #[.val (.int x0), .val (.int x1), .val (.int x2), .val (.int x3), .val (.int x4), .val (.int (2 : Int32)), .val (.int (0 : Int32)), .val (.int (x2 &&& (255 : Int32))), .unset, .unset, .unset, .unset, .unset, .unset, .unset] [(.int (x3 &&& (255 : Int32)))])
          refine gw_st (fun _ kq => XS.istore X0.here hx rfl (hb hby at_30) rfl (l' := #[.val (.int x0), .val (.int x1), .val (.int x2), .val (.int x3), .val (.int x4), .val (.int (2 : Int32)), .val (.int (0 : Int32)), .val (.int (x2 &&& (255 : Int32))), .val (.int (x3 &&& (255 : Int32))), .unset, .unset, .unset, .unset, .unset, .unset]) rfl kq) ?_
          show GoW p e below s _ _ _ s₁ (mkF m 32 #[.val (.int x0), .val (.int x1), .val (.int x2), .val (.int x3), .val (.int x4), .val (.int (2 : Int32)), .val (.int (0 : Int32)), .val (.int (x2 &&& (255 : Int32))), .val (.int (x3 &&& (255 : Int32))), .unset, .unset, .unset, .unset, .unset, .unset] [])
          refine gw_st (fun _ kq => XS.iload X0.here hx rfl (hb hby at_32) rfl kq) ?_
          show GoW p e below s _ _ _ s₁ (mkF m 34 #[.val (.int x0), .val (.int x1), .val (.int x2), .val (.int x3), .val (.int x4), .val (.int (2 : Int32)), .val (.int (0 : Int32)), .val (.int (x2 &&& (255 : Int32))), .val (.int (x3 &&& (255 : Int32))), .unset, .unset, .unset, .unset, .unset, .unset] [(.int x4)])
          refine gw_st (fun _ kq => XT.sipushV X0.here hx rfl (255 : Int32) (hb hby at_34) (by decide) kq) ?_
          show GoW p e below s _ _ _ s₁ (mkF m 37 #[.val (.int x0), .val (.int x1), .val (.int x2), .val (.int x3), .val (.int x4), .val (.int (2 : Int32)), .val (.int (0 : Int32)), .val (.int (x2 &&& (255 : Int32))), .val (.int (x3 &&& (255 : Int32))), .unset, .unset, .unset, .unset, .unset, .unset] [(.int (255 : Int32)), (.int x4)])
          refine gw_st (fun _ kq => XS.iand X0.here hx rfl (hb hby at_37) rfl kq) ?_
          show GoW p e below s _ _ _ s₁ (mkF m 38 #[.val (.int x0), .val (.int x1), .val (.int x2), .val (.int x3), .val (.int x4), .val (.int (2 : Int32)), .val (.int (0 : Int32)), .val (.int (x2 &&& (255 : Int32))), .val (.int (x3 &&& (255 : Int32))), .unset, .unset, .unset, .unset, .unset, .unset] [(.int (x4 &&& (255 : Int32)))])
          refine gw_st (fun _ kq => XT.i2c X0.here hx rfl (hb hby at_38) rfl kq) ?_
          rw [own_i2c]
          show GoW p e below s _ _ _ s₁ (mkF m 39 #[.val (.int x0), .val (.int x1), .val (.int x2), .val (.int x3), .val (.int x4), .val (.int (2 : Int32)), .val (.int (0 : Int32)), .val (.int (x2 &&& (255 : Int32))), .val (.int (x3 &&& (255 : Int32))), .unset, .unset, .unset, .unset, .unset, .unset] [(.int (x4 &&& (255 : Int32)))])
          refine gw_st (fun _ kq => XS.istore X0.here hx rfl (hb hby at_39) rfl (l' := #[.val (.int x0), .val (.int x1), .val (.int x2), .val (.int x3), .val (.int x4), .val (.int (2 : Int32)), .val (.int (0 : Int32)), .val (.int (x2 &&& (255 : Int32))), .val (.int (x3 &&& (255 : Int32))), .val (.int (x4 &&& (255 : Int32))), .unset, .unset, .unset, .unset, .unset]) rfl kq) ?_
          show GoW p e below s _ _ _ s₁ (mkF m 41 #[.val (.int x0), .val (.int x1), .val (.int x2), .val (.int x3), .val (.int x4), .val (.int (2 : Int32)), .val (.int (0 : Int32)), .val (.int (x2 &&& (255 : Int32))), .val (.int (x3 &&& (255 : Int32))), .val (.int (x4 &&& (255 : Int32))), .unset, .unset, .unset, .unset, .unset] [])
          refine gw_st (fun _ kq => XS.iload X0.here hx rfl (hb hby at_41) rfl kq) ?_
          show GoW p e below s _ _ _ s₁ (mkF m 43 #[.val (.int x0), .val (.int x1), .val (.int x2), .val (.int x3), .val (.int x4), .val (.int (2 : Int32)), .val (.int (0 : Int32)), .val (.int (x2 &&& (255 : Int32))), .val (.int (x3 &&& (255 : Int32))), .val (.int (x4 &&& (255 : Int32))), .unset, .unset, .unset, .unset, .unset] [(.int (2 : Int32))])
          refine gw_st (fun _ kq => XS.ifYes X0.here hx rfl (pc0 := 43) (pc' := 54) rfl (hb hby at_43) rfl (XT.i0_ne_t (by decide)) (by decide) (by decide) kq) ?_
          show GoW p e below s _ _ _ s₁ (mkF m 54 #[.val (.int x0), .val (.int x1), .val (.int x2), .val (.int x3), .val (.int x4), .val (.int (2 : Int32)), .val (.int (0 : Int32)), .val (.int (x2 &&& (255 : Int32))), .val (.int (x3 &&& (255 : Int32))), .val (.int (x4 &&& (255 : Int32))), .unset, .unset, .unset, .unset, .unset] [])
          refine gw_st (fun _ kq => XS.iload X0.here hx rfl (hb hby at_54) rfl kq) ?_
          show GoW p e below s _ _ _ s₁ (mkF m 56 #[.val (.int x0), .val (.int x1), .val (.int x2), .val (.int x3), .val (.int x4), .val (.int (2 : Int32)), .val (.int (0 : Int32)), .val (.int (x2 &&& (255 : Int32))), .val (.int (x3 &&& (255 : Int32))), .val (.int (x4 &&& (255 : Int32))), .unset, .unset, .unset, .unset, .unset] [(.int (2 : Int32))])
          refine gw_st (fun _ kq => XT.iconstV X0.here hx rfl (1 : Int32) (hb hby at_56) (by decide) kq) ?_
          show GoW p e below s _ _ _ s₁ (mkF m 57 #[.val (.int x0), .val (.int x1), .val (.int x2), .val (.int x3), .val (.int x4), .val (.int (2 : Int32)), .val (.int (0 : Int32)), .val (.int (x2 &&& (255 : Int32))), .val (.int (x3 &&& (255 : Int32))), .val (.int (x4 &&& (255 : Int32))), .unset, .unset, .unset, .unset, .unset] [(.int (1 : Int32)), (.int (2 : Int32))])
          refine gw_st (fun _ kq => XS.icmpYes X0.here hx rfl (pc0 := 57) (pc' := 73) rfl (hb hby at_57) rfl (XT.ii_ne_t (by decide)) (by decide) (by decide) kq) ?_
          show GoW p e below s _ _ _ s₁ (mkF m 73 #[.val (.int x0), .val (.int x1), .val (.int x2), .val (.int x3), .val (.int x4), .val (.int (2 : Int32)), .val (.int (0 : Int32)), .val (.int (x2 &&& (255 : Int32))), .val (.int (x3 &&& (255 : Int32))), .val (.int (x4 &&& (255 : Int32))), .unset, .unset, .unset, .unset, .unset] [])
          refine gw_st (fun _ kq => XS.iload X0.here hx rfl (hb hby at_73) rfl kq) ?_
          show GoW p e below s _ _ _ s₁ (mkF m 75 #[.val (.int x0), .val (.int x1), .val (.int x2), .val (.int x3), .val (.int x4), .val (.int (2 : Int32)), .val (.int (0 : Int32)), .val (.int (x2 &&& (255 : Int32))), .val (.int (x3 &&& (255 : Int32))), .val (.int (x4 &&& (255 : Int32))), .unset, .unset, .unset, .unset, .unset] [(.int (2 : Int32))])
          refine gw_st (fun _ kq => XT.iconstV X0.here hx rfl (2 : Int32) (hb hby at_75) (by decide) kq) ?_
          show GoW p e below s _ _ _ s₁ (mkF m 76 #[.val (.int x0), .val (.int x1), .val (.int x2), .val (.int x3), .val (.int x4), .val (.int (2 : Int32)), .val (.int (0 : Int32)), .val (.int (x2 &&& (255 : Int32))), .val (.int (x3 &&& (255 : Int32))), .val (.int (x4 &&& (255 : Int32))), .unset, .unset, .unset, .unset, .unset] [(.int (2 : Int32)), (.int (2 : Int32))])
          refine gw_st (fun _ kq => XS.icmpNo X0.here hx rfl (hb hby at_76) rfl (XT.ii_ne_f (by decide)) kq) ?_
          show GoW p e below s _ _ _ s₁ (mkF m 79 #[.val (.int x0), .val (.int x1), .val (.int x2), .val (.int x3), .val (.int x4), .val (.int (2 : Int32)), .val (.int (0 : Int32)), .val (.int (x2 &&& (255 : Int32))), .val (.int (x3 &&& (255 : Int32))), .val (.int (x4 &&& (255 : Int32))), .unset, .unset, .unset, .unset, .unset] [])
          refine gw_st (fun _ kq => XT.iconstV X0.here hx rfl (2 : Int32) (hb hby at_79) (by decide) kq) ?_
          show GoW p e below s _ _ _ s₁ (mkF m 80 #[.val (.int x0), .val (.int x1), .val (.int x2), .val (.int x3), .val (.int x4), .val (.int (2 : Int32)), .val (.int (0 : Int32)), .val (.int (x2 &&& (255 : Int32))), .val (.int (x3 &&& (255 : Int32))), .val (.int (x4 &&& (255 : Int32))), .unset, .unset, .unset, .unset, .unset] [(.int (2 : Int32))])
          refine gw_newP X0 hx hZ (hw _ (List.mem_of_getElem? (i := 1) rfl)) e0 (hb hby at_80) rfl rfl 2 (by decide) 2 (Nat.le_refl _) (by decide) (by decide) (by decide) ?_
          intro T329 h329 a329 g329 X329 e329 E329 G329
          have nw_a329 : n0 ≤ a329 := Nat.le_trans Z0 (Nat.le_of_eq g329.symm)
          have lt_a329 : a329 < h329.size := G329.lt
          have A329 : GA Z h329 a329 .char 2 (fun i => .int (own_c3 (0 : Int32) (0 : Int32) (0 : Int32) i)) := (GA.congr G329 (fun i _ => own_z3 i))
          show GoW p e below s _ _ _ T329 (mkF m 82 #[.val (.int x0), .val (.int x1), .val (.int x2), .val (.int x3), .val (.int x4), .val (.int (2 : Int32)), .val (.int (0 : Int32)), .val (.int (x2 &&& (255 : Int32))), .val (.int (x3 &&& (255 : Int32))), .val (.int (x4 &&& (255 : Int32))), .unset, .unset, .unset, .unset, .unset] [(.ref a329)])
          refine gw_st (fun _ kq => XS.dup X329.here hx rfl (hb hby at_82) rfl rfl kq) ?_
          show GoW p e below s _ _ _ T329 (mkF m 83 #[.val (.int x0), .val (.int x1), .val (.int x2), .val (.int x3), .val (.int x4), .val (.int (2 : Int32)), .val (.int (0 : Int32)), .val (.int (x2 &&& (255 : Int32))), .val (.int (x3 &&& (255 : Int32))), .val (.int (x4 &&& (255 : Int32))), .unset, .unset, .unset, .unset, .unset] [(.ref a329), (.ref a329)])
          refine gw_st (fun _ kq => XT.iconstV X329.here hx rfl (0 : Int32) (hb hby at_83) (by decide) kq) ?_
          show GoW p e below s _ _ _ T329 (mkF m 84 #[.val (.int x0), .val (.int x1), .val (.int x2), .val (.int x3), .val (.int x4), .val (.int (2 : Int32)), .val (.int (0 : Int32)), .val (.int (x2 &&& (255 : Int32))), .val (.int (x3 &&& (255 : Int32))), .val (.int (x4 &&& (255 : Int32))), .unset, .unset, .unset, .unset, .unset] [(.int (0 : Int32)), (.ref a329), (.ref a329)])
          refine gw_st (fun _ kq => XS.iload X329.here hx rfl (hb hby at_84) rfl kq) ?_
          show GoW p e below s _ _ _ T329 (mkF m 86 #[.val (.int x0), .val (.int x1), .val (.int x2), .val (.int x3), .val (.int x4), .val (.int (2 : Int32)), .val (.int (0 : Int32)), .val (.int (x2 &&& (255 : Int32))), .val (.int (x3 &&& (255 : Int32))), .val (.int (x4 &&& (255 : Int32))), .unset, .unset, .unset, .unset, .unset] [(.int (x2 &&& (255 : Int32))), (.int (0 : Int32)), (.ref a329), (.ref a329)])
          refine gw_cast X329 hx hZ e329 A329 (hb hby at_86) rfl rfl (by decide) ?_
          intro T330 h330 X330 e330 W330 G330
          have N330 := Fr.snoc X330 N0 nw_a329
          have A330 : GA Z h330 a329 .char 2 (fun i => .int (own_c3 (x2 &&& (255 : Int32)) (0 : Int32) (0 : Int32) i)) := (own_stc (own_nc (own_lat _)) (by decide) (own_c30 (x2 &&& (255 : Int32)) (0 : Int32) (0 : Int32) (0 : Int32)) G330)
          show GoW p e below s _ _ _ T330 (mkF m 87 #[.val (.int x0), .val (.int x1), .val (.int x2), .val (.int x3), .val (.int x4), .val (.int (2 : Int32)), .val (.int (0 : Int32)), .val (.int (x2 &&& (255 : Int32))), .val (.int (x3 &&& (255 : Int32))), .val (.int (x4 &&& (255 : Int32))), .unset, .unset, .unset, .unset, .unset] [(.ref a329)])
          refine gw_st (fun _ kq => XS.dup X330.here hx rfl (hb hby at_87) rfl rfl kq) ?_
          show GoW p e below s _ _ _ T330 (mkF m 88 #[.val (.int x0), .val (.int x1), .val (.int x2), .val (.int x3), .val (.int x4), .val (.int (2 : Int32)), .val (.int (0 : Int32)), .val (.int (x2 &&& (255 : Int32))), .val (.int (x3 &&& (255 : Int32))), .val (.int (x4 &&& (255 : Int32))), .unset, .unset, .unset, .unset, .unset] [(.ref a329), (.ref a329)])
          refine gw_st (fun _ kq => XT.iconstV X330.here hx rfl (1 : Int32) (hb hby at_88) (by decide) kq) ?_
          show GoW p e below s _ _ _ T330 (mkF m 89 #[.val (.int x0), .val (.int x1), .val (.int x2), .val (.int x3), .val (.int x4), .val (.int (2 : Int32)), .val (.int (0 : Int32)), .val (.int (x2 &&& (255 : Int32))), .val (.int (x3 &&& (255 : Int32))), .val (.int (x4 &&& (255 : Int32))), .unset, .unset, .unset, .unset, .unset] [(.int (1 : Int32)), (.ref a329), (.ref a329)])
          refine gw_st (fun _ kq => XS.iload X330.here hx rfl (hb hby at_89) rfl kq) ?_
          show GoW p e below s _ _ _ T330 (mkF m 91 #[.val (.int x0), .val (.int x1), .val (.int x2), .val (.int x3), .val (.int x4), .val (.int (2 : Int32)), .val (.int (0 : Int32)), .val (.int (x2 &&& (255 : Int32))), .val (.int (x3 &&& (255 : Int32))), .val (.int (x4 &&& (255 : Int32))), .unset, .unset, .unset, .unset, .unset] [(.int (x3 &&& (255 : Int32))), (.int (1 : Int32)), (.ref a329), (.ref a329)])
          refine gw_cast X330 hx hZ e330 A330 (hb hby at_91) rfl rfl (by decide) ?_
          intro T331 h331 X331 e331 W331 G331
          have N331 := Fr.snoc X331 N330 nw_a329
          have A331 : GA Z h331 a329 .char 2 (fun i => .int (own_c3 (x2 &&& (255 : Int32)) (x3 &&& (255 : Int32)) (0 : Int32) i)) := (own_stc (own_nc (own_lat _)) (by decide) (own_c31 (x3 &&& (255 : Int32)) (x2 &&& (255 : Int32)) (0 : Int32) (0 : Int32)) G331)
          show GoW p e below s _ _ _ T331 (mkF m 92 #[.val (.int x0), .val (.int x1), .val (.int x2), .val (.int x3), .val (.int x4), .val (.int (2 : Int32)), .val (.int (0 : Int32)), .val (.int (x2 &&& (255 : Int32))), .val (.int (x3 &&& (255 : Int32))), .val (.int (x4 &&& (255 : Int32))), .unset, .unset, .unset, .unset, .unset] [(.ref a329)])
          refine gw_st (fun _ kq => XS.astore X331.here hx rfl (hb hby at_92) rfl rfl (l' := #[.val (.int x0), .val (.int x1), .val (.int x2), .val (.int x3), .val (.int x4), .val (.int (2 : Int32)), .val (.int (0 : Int32)), .val (.int (x2 &&& (255 : Int32))), .val (.int (x3 &&& (255 : Int32))), .val (.int (x4 &&& (255 : Int32))), .val (.ref a329), .unset, .unset, .unset, .unset]) rfl kq) ?_
          show GoW p e below s _ _ _ T331 (mkF m 94 #[.val (.int x0), .val (.int x1), .val (.int x2), .val (.int x3), .val (.int x4), .val (.int (2 : Int32)), .val (.int (0 : Int32)), .val (.int (x2 &&& (255 : Int32))), .val (.int (x3 &&& (255 : Int32))), .val (.int (x4 &&& (255 : Int32))), .val (.ref a329), .unset, .unset, .unset, .unset] [])
          refine gw_st (fun _ kq => XS.goto X331.here hx rfl (pc0 := 94) (pc' := 117) rfl (hb hby at_94) (by decide) (by decide) kq) ?_
          show GoW p e below s _ _ _ T331 (mkF m 117 #[.val (.int x0), .val (.int x1), .val (.int x2), .val (.int x3), .val (.int x4), .val (.int (2 : Int32)), .val (.int (0 : Int32)), .val (.int (x2 &&& (255 : Int32))), .val (.int (x3 &&& (255 : Int32))), .val (.int (x4 &&& (255 : Int32))), .val (.ref a329), .unset, .unset, .unset, .unset] [])
          refine gw_newO X331 hx hZ hown (hw _ (List.mem_of_getElem? (i := 2) rfl)) (hw _ (List.mem_of_getElem? (i := 3) rfl)) (hw _ (List.mem_of_getElem? (i := 4) rfl)) e331 (hb hby at_117) rfl (by decide) (by decide) ?_
          intro T332 h332 a332 g332 X332 e332 E332 A332 D332
          have y333 : h0.size ≤ h329.size := Nat.le_trans (Nat.le_refl _) E329.1
          have y334 : h0.size ≤ h330.size := (Wr.size W330).symm ▸ y333
          have y335 : h0.size ≤ h331.size := (Wr.size W331).symm ▸ y334
          have c336 : a329 < h330.size := (Wr.size W330).symm ▸ lt_a329
          have c337 : a329 < h331.size := (Wr.size W331).symm ▸ c336
          have ne338 : a329 ≠ a332 := fun q => Nat.lt_irrefl _ (Nat.lt_of_lt_of_le c337 (Nat.le_of_eq (g332.symm.trans q.symm)))
          have z339 : n0 ≤ h329.size := Nat.le_trans Z0 E329.1
          have z340 : n0 ≤ h330.size := (Wr.size W330).symm ▸ z339
          have z341 : n0 ≤ h331.size := (Wr.size W331).symm ▸ z340
          have nw_a332 : n0 ≤ a332 := Nat.le_trans z341 (Nat.le_of_eq g332.symm)
          have lt_a332 : a332 < h332.size := A332.lt
          have F342 : Fld Z h332 a332 "com/example/wirecall/wirecall/TextCursor" "text" "Ljava/lang/String;" .null := D332 (Or.inr (hw _ (List.mem_of_getElem? (i := 31) rfl))) (ty := (.object "java/lang/String")) (by decide)
          have F343 : Fld Z h332 a332 "com/example/wirecall/wirecall/TextCursor" "pos" "I" (.int (0 : Int32)) := D332 (Or.inl (hw _ (List.mem_of_getElem? (i := 38) rfl))) (ty := .int) (by decide)
          show GoW p e below s _ _ _ T332 (mkF m 120 #[.val (.int x0), .val (.int x1), .val (.int x2), .val (.int x3), .val (.int x4), .val (.int (2 : Int32)), .val (.int (0 : Int32)), .val (.int (x2 &&& (255 : Int32))), .val (.int (x3 &&& (255 : Int32))), .val (.int (x4 &&& (255 : Int32))), .val (.ref a329), .unset, .unset, .unset, .unset] [(.ref a332)])
          refine gw_st (fun _ kq => XS.dup X332.here hx rfl (hb hby at_120) rfl rfl kq) ?_
          show GoW p e below s _ _ _ T332 (mkF m 121 #[.val (.int x0), .val (.int x1), .val (.int x2), .val (.int x3), .val (.int x4), .val (.int (2 : Int32)), .val (.int (0 : Int32)), .val (.int (x2 &&& (255 : Int32))), .val (.int (x3 &&& (255 : Int32))), .val (.int (x4 &&& (255 : Int32))), .val (.ref a329), .unset, .unset, .unset, .unset] [(.ref a332), (.ref a332)])
          refine gw_newO X332 hx hZ hown (hw _ (List.mem_of_getElem? (i := 5) rfl)) (hw _ (List.mem_of_getElem? (i := 6) rfl)) (hw _ (List.mem_of_getElem? (i := 7) rfl)) e332 (hb hby at_121) rfl (by decide) (by decide) ?_
          intro T344 h344 a344 g344 X344 e344 E344 A344 D344
          have y345 : h0.size ≤ h332.size := Nat.le_trans y335 E332.1
          have c346 : a329 < h332.size := Nat.lt_of_lt_of_le c337 E332.1
          have ne347 : a329 ≠ a344 := fun q => Nat.lt_irrefl _ (Nat.lt_of_lt_of_le c346 (Nat.le_of_eq (g344.symm.trans q.symm)))
          have ne348 : a332 ≠ a344 := fun q => Nat.lt_irrefl _ (Nat.lt_of_lt_of_le lt_a332 (Nat.le_of_eq (g344.symm.trans q.symm)))
          have z349 : n0 ≤ h332.size := Nat.le_trans z341 E332.1
          have nw_a344 : n0 ≤ a344 := Nat.le_trans z349 (Nat.le_of_eq g344.symm)
          have lt_a344 : a344 < h344.size := A344.lt
          have F350 : Fld Z h344 a344 "java/lang/String" "value" "[B" .null := D344 (Or.inr (hw _ (List.mem_of_getElem? (i := 20) rfl))) (ty := (.array .byte)) (by decide)
          have F351 : Fld Z h344 a344 "java/lang/String" "coder" "B" (.int (0 : Int32)) := D344 (Or.inr (hw _ (List.mem_of_getElem? (i := 21) rfl))) (ty := .byte) (by decide)
          show GoW p e below s _ _ _ T344 (mkF m 124 #[.val (.int x0), .val (.int x1), .val (.int x2), .val (.int x3), .val (.int x4), .val (.int (2 : Int32)), .val (.int (0 : Int32)), .val (.int (x2 &&& (255 : Int32))), .val (.int (x3 &&& (255 : Int32))), .val (.int (x4 &&& (255 : Int32))), .val (.ref a329), .unset, .unset, .unset, .unset] [(.ref a344), (.ref a332), (.ref a332)])
          refine gw_st (fun _ kq => XS.dup X344.here hx rfl (hb hby at_124) rfl rfl kq) ?_
          show GoW p e below s _ _ _ T344 (mkF m 125 #[.val (.int x0), .val (.int x1), .val (.int x2), .val (.int x3), .val (.int x4), .val (.int (2 : Int32)), .val (.int (0 : Int32)), .val (.int (x2 &&& (255 : Int32))), .val (.int (x3 &&& (255 : Int32))), .val (.int (x4 &&& (255 : Int32))), .val (.ref a329), .unset, .unset, .unset, .unset] [(.ref a344), (.ref a344), (.ref a332), (.ref a332)])
          refine gw_st (fun _ kq => XS.aload X344.here hx rfl (hb hby at_125) rfl rfl kq) ?_
          show GoW p e below s _ _ _ T344 (mkF m 127 #[.val (.int x0), .val (.int x1), .val (.int x2), .val (.int x3), .val (.int x4), .val (.int (2 : Int32)), .val (.int (0 : Int32)), .val (.int (x2 &&& (255 : Int32))), .val (.int (x3 &&& (255 : Int32))), .val (.int (x4 &&& (255 : Int32))), .val (.ref a329), .unset, .unset, .unset, .unset] [(.ref a329), (.ref a344), (.ref a344), (.ref a332), (.ref a332)])
          have c353 := A331.ext E332
          have c354 := c353.ext E344
          have c355 := Old.ext O0 E329
          have c356 := Old.wr c355 W330 nw_a329
          have c357 := Old.wr c356 W331 nw_a329
          have c358 := Old.ext c357 E332
          have c359 := Old.ext c358 E344
          have z360 : n0 ≤ h344.size := Nat.le_trans z349 E344.1
          refine gw_callI X344 hx hZ hml hown rfl (hw _ (List.mem_of_getElem? (i := 8) rfl)) (hw _ (List.mem_of_getElem? (i := 9) rfl)) (hw _ (List.mem_of_getElem? (i := 10) rfl)) (hw _ (List.mem_of_getElem? (i := 7) rfl)) e344 (argsL := [(.ref a329)]) (rest := [(.ref a344), (.ref a332), (.ref a332)]) (W := 3) (met_s2 l Z a0 hw a344 a329 (x2 &&& (255 : Int32)) (x3 &&& (255 : Int32)) zc h344 n0 z360 A344 F350 F351 nw_a344 c354 (Ne.symm ne347) (own_lat _) (own_lat _) c359 S0 zn) (hb hby at_127) rfl rfl rfl (lenOf pd6 rfl) (by show 2 * 0 + _ ≤ _; exact Nat.le_of_eq rfl) (by decide) (by decide) (by decide) (by decide) (by decide) ?_
          intro T352 v352 L352 X352 q352
          obtain ⟨r_352, rfl, M352, K352, fz352_r, f352_0, f352_1, f352_2, f352_3⟩ := q352
          have N352 := Fr.app N331 M352
          have c361 : a329 < h344.size := Nat.lt_of_lt_of_le c346 E344.1
          have ne362 : a329 ≠ r_352 := Nat.ne_of_lt (Nat.lt_of_lt_of_le c361 fz352_r)
          have c363 : a332 < h344.size := Nat.lt_of_lt_of_le lt_a332 E344.1
          have ne364 : a332 ≠ r_352 := Nat.ne_of_lt (Nat.lt_of_lt_of_le c363 fz352_r)
          have ne365 : a344 ≠ r_352 := Nat.ne_of_lt (Nat.lt_of_lt_of_le lt_a344 fz352_r)
          have nw_r_352 : n0 ≤ r_352 := Nat.le_trans z360 fz352_r
          have y366 : h0.size ≤ h344.size := Nat.le_trans y345 E344.1
          have lt_r_352 : r_352 < T352.heap.size := f352_3.lt
          show GoW p e below s _ _ _ T352 (mkF m 130 #[.val (.int x0), .val (.int x1), .val (.int x2), .val (.int x3), .val (.int x4), .val (.int (2 : Int32)), .val (.int (0 : Int32)), .val (.int (x2 &&& (255 : Int32))), .val (.int (x3 &&& (255 : Int32))), .val (.int (x4 &&& (255 : Int32))), .val (.ref a329), .unset, .unset, .unset, .unset] [(.ref a344), (.ref a332), (.ref a332)])
          have c368 := Exa.ext E344 A332
          have c369 := Exa.keep c368 K352
          have c370 := Fld.ext E344 F342
          have c371 := Fld.keep c370 K352 (ninS ne348 nin0)
          have c372 := Fld.ext E344 F343
          have c373 := Fld.keep c372 K352 (ninS ne348 nin0)
          have z374 : n0 ≤ T352.heap.size := Nat.le_trans z360 K352.1
          refine gw_callI X352 hx hZ hml hown rfl (hw _ (List.mem_of_getElem? (i := 26) rfl)) (hw _ (List.mem_of_getElem? (i := 27) rfl)) (hw _ (List.mem_of_getElem? (i := 28) rfl)) (hw _ (List.mem_of_getElem? (i := 4) rfl)) rfl (argsL := [(.ref a344)]) (rest := [(.ref a332)]) (W := 1) (met_tci l Z a0 hw a332 a344 T352.heap n0 z374 c369 c371 c373 nw_a332) (hb hby at_130) rfl rfl rfl (lenOf pd7 rfl) (by show 2 * 0 + _ ≤ _; exact Nat.le_of_eq rfl) (by decide) (by decide) (by decide) (by decide) (by decide) ?_
          intro T367 v367 L367 X367 q367
          obtain ⟨rfl, M367, K367, f367_0, f367_1⟩ := q367
          have N367 := Fr.app N352 M367
          show GoW p e below s _ _ _ T367 (mkF m 133 #[.val (.int x0), .val (.int x1), .val (.int x2), .val (.int x3), .val (.int x4), .val (.int (2 : Int32)), .val (.int (0 : Int32)), .val (.int (x2 &&& (255 : Int32))), .val (.int (x3 &&& (255 : Int32))), .val (.int (x4 &&& (255 : Int32))), .val (.ref a329), .unset, .unset, .unset, .unset] [(.ref a332)])
          refine gw_st (fun _ kq => XS.astore X367.here hx rfl (hb hby at_133) rfl rfl (l' := #[.val (.int x0), .val (.int x1), .val (.int x2), .val (.int x3), .val (.int x4), .val (.int (2 : Int32)), .val (.int (0 : Int32)), .val (.int (x2 &&& (255 : Int32))), .val (.int (x3 &&& (255 : Int32))), .val (.int (x4 &&& (255 : Int32))), .val (.ref a329), .val (.ref a332), .unset, .unset, .unset]) rfl kq) ?_
          show GoW p e below s _ _ _ T367 (mkF m 135 #[.val (.int x0), .val (.int x1), .val (.int x2), .val (.int x3), .val (.int x4), .val (.int (2 : Int32)), .val (.int (0 : Int32)), .val (.int (x2 &&& (255 : Int32))), .val (.int (x3 &&& (255 : Int32))), .val (.int (x4 &&& (255 : Int32))), .val (.ref a329), .val (.ref a332), .unset, .unset, .unset] [])
          refine gw_st (fun _ kq => XS.aload X367.here hx rfl (hb hby at_135) rfl rfl kq) ?_
          show GoW p e below s _ _ _ T367 (mkF m 137 #[.val (.int x0), .val (.int x1), .val (.int x2), .val (.int x3), .val (.int x4), .val (.int (2 : Int32)), .val (.int (0 : Int32)), .val (.int (x2 &&& (255 : Int32))), .val (.int (x3 &&& (255 : Int32))), .val (.int (x4 &&& (255 : Int32))), .val (.ref a329), .val (.ref a332), .unset, .unset, .unset] [(.ref a332)])
          have c376 := Exa.keep f352_0 K367
          have c377 := Fld.keep f352_1 K367 (ninS (Ne.symm ne348) nin0)
          have c378 := Fld.keep f352_2 K367 (ninS (Ne.symm ne348) nin0)
          have c379 := GA.keep f352_3 K367 (ninS (Ne.symm ne364) nin0)
          have c380 := Old.keep c359 K352 (allS nw_a344 all0)
          have c381 := Old.keep c380 K367 (allS nw_a332 all0)
          have z382 : n0 ≤ T367.heap.size := Nat.le_trans z374 K367.1
          have c383 := Exa.keep c369 K367
          refine gw_callV X367 hx hZ hml hown (hw _ (List.mem_of_getElem? (i := 32) rfl)) (hw _ (List.mem_of_getElem? (i := 33) rfl)) (notFace_of_selects (args := #[]) (mvT hZ (hw _ (List.mem_of_getElem? (i := 35) rfl)))) (hw _ (List.mem_of_getElem? (i := 35) rfl)) (hw _ (List.mem_of_getElem? (i := 34) rfl)) (hw _ (List.mem_of_getElem? (i := 36) rfl)) (hw _ (List.mem_of_getElem? (i := 4) rfl)) rfl c383 (argsL := []) (rest := []) (W := 0) (met_end20 l Z a0 hw a332 a344 r_352 (fun i => .int (own_c3 (own_by (x2 &&& (255 : Int32))) (own_by (x3 &&& (255 : Int32))) (0 : Int32) i)) zc T367.heap n0 z382 f367_1 f367_0 c376 c377 c378 c379 c381 S0 zn) (hb hby at_137) rfl rfl rfl (lenOf pd8 rfl) (by show 2 * 0 + _ ≤ _; exact Nat.le_of_eq rfl) (by decide) (by decide) (by decide) (by decide) (by decide) ?_
          intro T375 v375 L375 X375 q375
          obtain ⟨rfl, M375, e375⟩ := q375
          have N375 := Fr.app N367 M375
          show GoW p e below s _ _ _ T375 (mkF m 140 #[.val (.int x0), .val (.int x1), .val (.int x2), .val (.int x3), .val (.int x4), .val (.int (2 : Int32)), .val (.int (0 : Int32)), .val (.int (x2 &&& (255 : Int32))), .val (.int (x3 &&& (255 : Int32))), .val (.int (x4 &&& (255 : Int32))), .val (.ref a329), .val (.ref a332), .unset, .unset, .unset] [(.int (0 : Int32))])
          refine gw_st (fun _ kq => XS.iload X375.here hx rfl (hb hby at_140) rfl kq) ?_
          show GoW p e below s _ _ _ T375 (mkF m 142 #[.val (.int x0), .val (.int x1), .val (.int x2), .val (.int x3), .val (.int x4), .val (.int (2 : Int32)), .val (.int (0 : Int32)), .val (.int (x2 &&& (255 : Int32))), .val (.int (x3 &&& (255 : Int32))), .val (.int (x4 &&& (255 : Int32))), .val (.ref a329), .val (.ref a332), .unset, .unset, .unset] [(.int (2 : Int32)), (.int (0 : Int32))])
          refine gw_st (fun _ kq => XS.ifYes X375.here hx rfl (pc0 := 142) (pc' := 149) rfl (hb hby at_142) rfl (XT.i0_ne_t (by decide)) (by decide) (by decide) kq) ?_
          show GoW p e below s _ _ _ T375 (mkF m 149 #[.val (.int x0), .val (.int x1), .val (.int x2), .val (.int x3), .val (.int x4), .val (.int (2 : Int32)), .val (.int (0 : Int32)), .val (.int (x2 &&& (255 : Int32))), .val (.int (x3 &&& (255 : Int32))), .val (.int (x4 &&& (255 : Int32))), .val (.ref a329), .val (.ref a332), .unset, .unset, .unset] [(.int (0 : Int32))])
          refine gw_st (fun _ kq => XT.iconstV X375.here hx rfl (0 : Int32) (hb hby at_149) (by decide) kq) ?_
          show GoW p e below s _ _ _ T375 (mkF m 150 #[.val (.int x0), .val (.int x1), .val (.int x2), .val (.int x3), .val (.int x4), .val (.int (2 : Int32)), .val (.int (0 : Int32)), .val (.int (x2 &&& (255 : Int32))), .val (.int (x3 &&& (255 : Int32))), .val (.int (x4 &&& (255 : Int32))), .val (.ref a329), .val (.ref a332), .unset, .unset, .unset] [(.int (0 : Int32)), (.int (0 : Int32))])
          refine gw_st (fun _ kq => XS.icmpNo X375.here hx rfl (hb hby at_150) rfl (XT.ii_ne_f (by decide)) kq) ?_
          show GoW p e below s _ _ _ T375 (mkF m 153 #[.val (.int x0), .val (.int x1), .val (.int x2), .val (.int x3), .val (.int x4), .val (.int (2 : Int32)), .val (.int (0 : Int32)), .val (.int (x2 &&& (255 : Int32))), .val (.int (x3 &&& (255 : Int32))), .val (.int (x4 &&& (255 : Int32))), .val (.ref a329), .val (.ref a332), .unset, .unset, .unset] [])
          refine gw_st (fun _ kq => XT.iconstV X375.here hx rfl (1 : Int32) (hb hby at_153) (by decide) kq) ?_
          show GoW p e below s _ _ _ T375 (mkF m 154 #[.val (.int x0), .val (.int x1), .val (.int x2), .val (.int x3), .val (.int x4), .val (.int (2 : Int32)), .val (.int (0 : Int32)), .val (.int (x2 &&& (255 : Int32))), .val (.int (x3 &&& (255 : Int32))), .val (.int (x4 &&& (255 : Int32))), .val (.ref a329), .val (.ref a332), .unset, .unset, .unset] [(.int (1 : Int32))])
          refine gw_st (fun _ kq => XS.goto X375.here hx rfl (pc0 := 154) (pc' := 158) rfl (hb hby at_154) (by decide) (by decide) kq) ?_
          show GoW p e below s _ _ _ T375 (mkF m 158 #[.val (.int x0), .val (.int x1), .val (.int x2), .val (.int x3), .val (.int x4), .val (.int (2 : Int32)), .val (.int (0 : Int32)), .val (.int (x2 &&& (255 : Int32))), .val (.int (x3 &&& (255 : Int32))), .val (.int (x4 &&& (255 : Int32))), .val (.ref a329), .val (.ref a332), .unset, .unset, .unset] [(.int (1 : Int32))])
          refine gw_st (fun _ kq => XS.istore X375.here hx rfl (hb hby at_158) rfl (l' := #[.val (.int x0), .val (.int x1), .val (.int x2), .val (.int x3), .val (.int x4), .val (.int (2 : Int32)), .val (.int (0 : Int32)), .val (.int (x2 &&& (255 : Int32))), .val (.int (x3 &&& (255 : Int32))), .val (.int (x4 &&& (255 : Int32))), .val (.ref a329), .val (.ref a332), .val (.int (1 : Int32)), .unset, .unset]) rfl kq) ?_
          show GoW p e below s _ _ _ T375 (mkF m 160 #[.val (.int x0), .val (.int x1), .val (.int x2), .val (.int x3), .val (.int x4), .val (.int (2 : Int32)), .val (.int (0 : Int32)), .val (.int (x2 &&& (255 : Int32))), .val (.int (x3 &&& (255 : Int32))), .val (.int (x4 &&& (255 : Int32))), .val (.ref a329), .val (.ref a332), .val (.int (1 : Int32)), .unset, .unset] [])
          refine gw_st (fun _ kq => XS.iload X375.here hx rfl (hb hby at_160) rfl kq) ?_
          show GoW p e below s _ _ _ T375 (mkF m 162 #[.val (.int x0), .val (.int x1), .val (.int x2), .val (.int x3), .val (.int x4), .val (.int (2 : Int32)), .val (.int (0 : Int32)), .val (.int (x2 &&& (255 : Int32))), .val (.int (x3 &&& (255 : Int32))), .val (.int (x4 &&& (255 : Int32))), .val (.ref a329), .val (.ref a332), .val (.int (1 : Int32)), .unset, .unset] [(.int (0 : Int32))])
          refine gw_st (fun _ kq => XT.iconstV X375.here hx rfl (1 : Int32) (hb hby at_162) (by decide) kq) ?_
          show GoW p e below s _ _ _ T375 (mkF m 163 #[.val (.int x0), .val (.int x1), .val (.int x2), .val (.int x3), .val (.int x4), .val (.int (2 : Int32)), .val (.int (0 : Int32)), .val (.int (x2 &&& (255 : Int32))), .val (.int (x3 &&& (255 : Int32))), .val (.int (x4 &&& (255 : Int32))), .val (.ref a329), .val (.ref a332), .val (.int (1 : Int32)), .unset, .unset] [(.int (1 : Int32)), (.int (0 : Int32))])
          refine gw_st (fun _ kq => XS.icmpYes X375.here hx rfl (pc0 := 163) (pc' := 171) rfl (hb hby at_163) rfl (XT.ii_lt_t (by decide)) (by decide) (by decide) kq) ?_
          show GoW p e below s _ _ _ T375 (mkF m 171 #[.val (.int x0), .val (.int x1), .val (.int x2), .val (.int x3), .val (.int x4), .val (.int (2 : Int32)), .val (.int (0 : Int32)), .val (.int (x2 &&& (255 : Int32))), .val (.int (x3 &&& (255 : Int32))), .val (.int (x4 &&& (255 : Int32))), .val (.ref a329), .val (.ref a332), .val (.int (1 : Int32)), .unset, .unset] [])
          refine gw_st (fun _ kq => XS.iload X375.here hx rfl (hb hby at_171) rfl kq) ?_
          show GoW p e below s _ _ _ T375 (mkF m 173 #[.val (.int x0), .val (.int x1), .val (.int x2), .val (.int x3), .val (.int x4), .val (.int (2 : Int32)), .val (.int (0 : Int32)), .val (.int (x2 &&& (255 : Int32))), .val (.int (x3 &&& (255 : Int32))), .val (.int (x4 &&& (255 : Int32))), .val (.ref a329), .val (.ref a332), .val (.int (1 : Int32)), .unset, .unset] [(.int (0 : Int32))])
          refine gw_st (fun _ kq => XT.iconstV X375.here hx rfl (2 : Int32) (hb hby at_173) (by decide) kq) ?_
          show GoW p e below s _ _ _ T375 (mkF m 174 #[.val (.int x0), .val (.int x1), .val (.int x2), .val (.int x3), .val (.int x4), .val (.int (2 : Int32)), .val (.int (0 : Int32)), .val (.int (x2 &&& (255 : Int32))), .val (.int (x3 &&& (255 : Int32))), .val (.int (x4 &&& (255 : Int32))), .val (.ref a329), .val (.ref a332), .val (.int (1 : Int32)), .unset, .unset] [(.int (2 : Int32)), (.int (0 : Int32))])
          refine gw_st (fun _ kq => XS.icmpYes X375.here hx rfl (pc0 := 174) (pc' := 182) rfl (hb hby at_174) rfl (XT.ii_lt_t (by decide)) (by decide) (by decide) kq) ?_
          show GoW p e below s _ _ _ T375 (mkF m 182 #[.val (.int x0), .val (.int x1), .val (.int x2), .val (.int x3), .val (.int x4), .val (.int (2 : Int32)), .val (.int (0 : Int32)), .val (.int (x2 &&& (255 : Int32))), .val (.int (x3 &&& (255 : Int32))), .val (.int (x4 &&& (255 : Int32))), .val (.ref a329), .val (.ref a332), .val (.int (1 : Int32)), .unset, .unset] [])
          refine gw_st (fun _ kq => XS.iload X375.here hx rfl (hb hby at_182) rfl kq) ?_
          show GoW p e below s _ _ _ T375 (mkF m 184 #[.val (.int x0), .val (.int x1), .val (.int x2), .val (.int x3), .val (.int x4), .val (.int (2 : Int32)), .val (.int (0 : Int32)), .val (.int (x2 &&& (255 : Int32))), .val (.int (x3 &&& (255 : Int32))), .val (.int (x4 &&& (255 : Int32))), .val (.ref a329), .val (.ref a332), .val (.int (1 : Int32)), .unset, .unset] [(.int (0 : Int32))])
          refine gw_st (fun _ kq => XT.iconstV X375.here hx rfl (3 : Int32) (hb hby at_184) (by decide) kq) ?_
          show GoW p e below s _ _ _ T375 (mkF m 185 #[.val (.int x0), .val (.int x1), .val (.int x2), .val (.int x3), .val (.int x4), .val (.int (2 : Int32)), .val (.int (0 : Int32)), .val (.int (x2 &&& (255 : Int32))), .val (.int (x3 &&& (255 : Int32))), .val (.int (x4 &&& (255 : Int32))), .val (.ref a329), .val (.ref a332), .val (.int (1 : Int32)), .unset, .unset] [(.int (3 : Int32)), (.int (0 : Int32))])
          refine gw_st (fun _ kq => XS.icmpYes X375.here hx rfl (pc0 := 185) (pc' := 193) rfl (hb hby at_185) rfl (XT.ii_lt_t (by decide)) (by decide) (by decide) kq) ?_
          show GoW p e below s _ _ _ T375 (mkF m 193 #[.val (.int x0), .val (.int x1), .val (.int x2), .val (.int x3), .val (.int x4), .val (.int (2 : Int32)), .val (.int (0 : Int32)), .val (.int (x2 &&& (255 : Int32))), .val (.int (x3 &&& (255 : Int32))), .val (.int (x4 &&& (255 : Int32))), .val (.ref a329), .val (.ref a332), .val (.int (1 : Int32)), .unset, .unset] [])
          refine gw_st (fun _ kq => XS.aload X375.here hx rfl (hb hby at_193) rfl rfl kq) ?_
          show GoW p e below s _ _ _ T375 (mkF m 195 #[.val (.int x0), .val (.int x1), .val (.int x2), .val (.int x3), .val (.int x4), .val (.int (2 : Int32)), .val (.int (0 : Int32)), .val (.int (x2 &&& (255 : Int32))), .val (.int (x3 &&& (255 : Int32))), .val (.int (x4 &&& (255 : Int32))), .val (.ref a329), .val (.ref a332), .val (.int (1 : Int32)), .unset, .unset] [(.ref a332)])
          refine gw_callV X375 hx hZ hml hown (hw _ (List.mem_of_getElem? (i := 32) rfl)) (hw _ (List.mem_of_getElem? (i := 33) rfl)) (notFace_of_selects (args := #[]) (mvT hZ (hw _ (List.mem_of_getElem? (i := 35) rfl)))) (hw _ (List.mem_of_getElem? (i := 35) rfl)) (hw _ (List.mem_of_getElem? (i := 34) rfl)) (hw _ (List.mem_of_getElem? (i := 36) rfl)) (hw _ (List.mem_of_getElem? (i := 4) rfl)) e375 c383 (argsL := []) (rest := []) (W := 0) (met_end20 l Z a0 hw a332 a344 r_352 (fun i => .int (own_c3 (own_by (x2 &&& (255 : Int32))) (own_by (x3 &&& (255 : Int32))) (0 : Int32) i)) zc T367.heap n0 z382 f367_1 f367_0 c376 c377 c378 c379 c381 S0 zn) (hb hby at_195) rfl rfl rfl (lenOf pd8 rfl) (by show 2 * 0 + _ ≤ _; exact Nat.le_of_eq rfl) (by decide) (by decide) (by decide) (by decide) (by decide) ?_
          intro T384 v384 L384 X384 q384
          obtain ⟨rfl, M384, e384⟩ := q384
          have N384 := Fr.app N375 M384
          show GoW p e below s _ _ _ T384 (mkF m 198 #[.val (.int x0), .val (.int x1), .val (.int x2), .val (.int x3), .val (.int x4), .val (.int (2 : Int32)), .val (.int (0 : Int32)), .val (.int (x2 &&& (255 : Int32))), .val (.int (x3 &&& (255 : Int32))), .val (.int (x4 &&& (255 : Int32))), .val (.ref a329), .val (.ref a332), .val (.int (1 : Int32)), .unset, .unset] [(.int (0 : Int32))])
          refine gw_st (fun _ kq => XS.iload X384.here hx rfl (hb hby at_198) rfl kq) ?_
          show GoW p e below s _ _ _ T384 (mkF m 200 #[.val (.int x0), .val (.int x1), .val (.int x2), .val (.int x3), .val (.int x4), .val (.int (2 : Int32)), .val (.int (0 : Int32)), .val (.int (x2 &&& (255 : Int32))), .val (.int (x3 &&& (255 : Int32))), .val (.int (x4 &&& (255 : Int32))), .val (.ref a329), .val (.ref a332), .val (.int (1 : Int32)), .unset, .unset] [(.int (0 : Int32)), (.int (0 : Int32))])
          refine gw_st (fun _ kq => XS.iload X384.here hx rfl (hb hby at_200) rfl kq) ?_
          show GoW p e below s _ _ _ T384 (mkF m 202 #[.val (.int x0), .val (.int x1), .val (.int x2), .val (.int x3), .val (.int x4), .val (.int (2 : Int32)), .val (.int (0 : Int32)), .val (.int (x2 &&& (255 : Int32))), .val (.int (x3 &&& (255 : Int32))), .val (.int (x4 &&& (255 : Int32))), .val (.ref a329), .val (.ref a332), .val (.int (1 : Int32)), .unset, .unset] [(.int (2 : Int32)), (.int (0 : Int32)), (.int (0 : Int32))])
          refine gw_st (fun _ kq => XS.icmpYes X384.here hx rfl (pc0 := 202) (pc' := 209) rfl (hb hby at_202) rfl (XT.ii_ne_t (by decide)) (by decide) (by decide) kq) ?_
          show GoW p e below s _ _ _ T384 (mkF m 209 #[.val (.int x0), .val (.int x1), .val (.int x2), .val (.int x3), .val (.int x4), .val (.int (2 : Int32)), .val (.int (0 : Int32)), .val (.int (x2 &&& (255 : Int32))), .val (.int (x3 &&& (255 : Int32))), .val (.int (x4 &&& (255 : Int32))), .val (.ref a329), .val (.ref a332), .val (.int (1 : Int32)), .unset, .unset] [(.int (0 : Int32))])
          refine gw_st (fun _ kq => XT.iconstV X384.here hx rfl (0 : Int32) (hb hby at_209) (by decide) kq) ?_
          show GoW p e below s _ _ _ T384 (mkF m 210 #[.val (.int x0), .val (.int x1), .val (.int x2), .val (.int x3), .val (.int x4), .val (.int (2 : Int32)), .val (.int (0 : Int32)), .val (.int (x2 &&& (255 : Int32))), .val (.int (x3 &&& (255 : Int32))), .val (.int (x4 &&& (255 : Int32))), .val (.ref a329), .val (.ref a332), .val (.int (1 : Int32)), .unset, .unset] [(.int (0 : Int32)), (.int (0 : Int32))])
          refine gw_st (fun _ kq => XS.icmpNo X384.here hx rfl (hb hby at_210) rfl (XT.ii_ne_f (by decide)) kq) ?_
          show GoW p e below s _ _ _ T384 (mkF m 213 #[.val (.int x0), .val (.int x1), .val (.int x2), .val (.int x3), .val (.int x4), .val (.int (2 : Int32)), .val (.int (0 : Int32)), .val (.int (x2 &&& (255 : Int32))), .val (.int (x3 &&& (255 : Int32))), .val (.int (x4 &&& (255 : Int32))), .val (.ref a329), .val (.ref a332), .val (.int (1 : Int32)), .unset, .unset] [])
          refine gw_st (fun _ kq => XT.iconstV X384.here hx rfl (1 : Int32) (hb hby at_213) (by decide) kq) ?_
          show GoW p e below s _ _ _ T384 (mkF m 214 #[.val (.int x0), .val (.int x1), .val (.int x2), .val (.int x3), .val (.int x4), .val (.int (2 : Int32)), .val (.int (0 : Int32)), .val (.int (x2 &&& (255 : Int32))), .val (.int (x3 &&& (255 : Int32))), .val (.int (x4 &&& (255 : Int32))), .val (.ref a329), .val (.ref a332), .val (.int (1 : Int32)), .unset, .unset] [(.int (1 : Int32))])
          refine gw_st (fun _ kq => XS.goto X384.here hx rfl (pc0 := 214) (pc' := 218) rfl (hb hby at_214) (by decide) (by decide) kq) ?_
          show GoW p e below s _ _ _ T384 (mkF m 218 #[.val (.int x0), .val (.int x1), .val (.int x2), .val (.int x3), .val (.int x4), .val (.int (2 : Int32)), .val (.int (0 : Int32)), .val (.int (x2 &&& (255 : Int32))), .val (.int (x3 &&& (255 : Int32))), .val (.int (x4 &&& (255 : Int32))), .val (.ref a329), .val (.ref a332), .val (.int (1 : Int32)), .unset, .unset] [(.int (1 : Int32))])
          refine gw_st (fun _ kq => XS.istore X384.here hx rfl (hb hby at_218) rfl (l' := #[.val (.int x0), .val (.int x1), .val (.int x2), .val (.int x3), .val (.int x4), .val (.int (2 : Int32)), .val (.int (0 : Int32)), .val (.int (x2 &&& (255 : Int32))), .val (.int (x3 &&& (255 : Int32))), .val (.int (x4 &&& (255 : Int32))), .val (.ref a329), .val (.ref a332), .val (.int (1 : Int32)), .val (.int (1 : Int32)), .unset]) rfl kq) ?_
          show GoW p e below s _ _ _ T384 (mkF m 220 #[.val (.int x0), .val (.int x1), .val (.int x2), .val (.int x3), .val (.int x4), .val (.int (2 : Int32)), .val (.int (0 : Int32)), .val (.int (x2 &&& (255 : Int32))), .val (.int (x3 &&& (255 : Int32))), .val (.int (x4 &&& (255 : Int32))), .val (.ref a329), .val (.ref a332), .val (.int (1 : Int32)), .val (.int (1 : Int32)), .unset] [])
          refine gw_st (fun _ kq => XS.aload X384.here hx rfl (hb hby at_220) rfl rfl kq) ?_
          show GoW p e below s _ _ _ T384 (mkF m 222 #[.val (.int x0), .val (.int x1), .val (.int x2), .val (.int x3), .val (.int x4), .val (.int (2 : Int32)), .val (.int (0 : Int32)), .val (.int (x2 &&& (255 : Int32))), .val (.int (x3 &&& (255 : Int32))), .val (.int (x4 &&& (255 : Int32))), .val (.ref a329), .val (.ref a332), .val (.int (1 : Int32)), .val (.int (1 : Int32)), .unset] [(.ref a332)])
          refine gw_callV X384 hx hZ hml hown (hw _ (List.mem_of_getElem? (i := 50) rfl)) (hw _ (List.mem_of_getElem? (i := 51) rfl)) (notFace_of_selects (args := #[]) (mvT hZ (hw _ (List.mem_of_getElem? (i := 53) rfl)))) (hw _ (List.mem_of_getElem? (i := 53) rfl)) (hw _ (List.mem_of_getElem? (i := 52) rfl)) (hw _ (List.mem_of_getElem? (i := 54) rfl)) (hw _ (List.mem_of_getElem? (i := 4) rfl)) e384 c383 (argsL := []) (rest := []) (W := 0) (met_8 l Z a0 hw a332 (0 : Int32) T367.heap n0 z382 f367_1) (hb hby at_222) rfl rfl rfl (lenOf pd5 rfl) (by show 2 * 0 + _ ≤ _; exact Nat.le_of_eq rfl) (by decide) (by decide) (by decide) (by decide) (by decide) ?_
          intro T385 v385 L385 X385 q385
          obtain ⟨rfl, M385, e385⟩ := q385
          have N385 := Fr.app N384 M385
          show GoW p e below s _ _ _ T385 (mkF m 225 #[.val (.int x0), .val (.int x1), .val (.int x2), .val (.int x3), .val (.int x4), .val (.int (2 : Int32)), .val (.int (0 : Int32)), .val (.int (x2 &&& (255 : Int32))), .val (.int (x3 &&& (255 : Int32))), .val (.int (x4 &&& (255 : Int32))), .val (.ref a329), .val (.ref a332), .val (.int (1 : Int32)), .val (.int (1 : Int32)), .unset] [(.int (0 : Int32))])
          refine gw_st (fun _ kq => XS.iload X385.here hx rfl (hb hby at_225) rfl kq) ?_
          show GoW p e below s _ _ _ T385 (mkF m 227 #[.val (.int x0), .val (.int x1), .val (.int x2), .val (.int x3), .val (.int x4), .val (.int (2 : Int32)), .val (.int (0 : Int32)), .val (.int (x2 &&& (255 : Int32))), .val (.int (x3 &&& (255 : Int32))), .val (.int (x4 &&& (255 : Int32))), .val (.ref a329), .val (.ref a332), .val (.int (1 : Int32)), .val (.int (1 : Int32)), .unset] [(.int (0 : Int32)), (.int (0 : Int32))])
          refine gw_st (fun _ kq => XS.icmpNo X385.here hx rfl (hb hby at_227) rfl (XT.ii_ne_f (by decide)) kq) ?_
          show GoW p e below s _ _ _ T385 (mkF m 230 #[.val (.int x0), .val (.int x1), .val (.int x2), .val (.int x3), .val (.int x4), .val (.int (2 : Int32)), .val (.int (0 : Int32)), .val (.int (x2 &&& (255 : Int32))), .val (.int (x3 &&& (255 : Int32))), .val (.int (x4 &&& (255 : Int32))), .val (.ref a329), .val (.ref a332), .val (.int (1 : Int32)), .val (.int (1 : Int32)), .unset] [])
          refine gw_st (fun _ kq => XT.iconstV X385.here hx rfl (1 : Int32) (hb hby at_230) (by decide) kq) ?_
          show GoW p e below s _ _ _ T385 (mkF m 231 #[.val (.int x0), .val (.int x1), .val (.int x2), .val (.int x3), .val (.int x4), .val (.int (2 : Int32)), .val (.int (0 : Int32)), .val (.int (x2 &&& (255 : Int32))), .val (.int (x3 &&& (255 : Int32))), .val (.int (x4 &&& (255 : Int32))), .val (.ref a329), .val (.ref a332), .val (.int (1 : Int32)), .val (.int (1 : Int32)), .unset] [(.int (1 : Int32))])
          refine gw_st (fun _ kq => XS.goto X385.here hx rfl (pc0 := 231) (pc' := 235) rfl (hb hby at_231) (by decide) (by decide) kq) ?_
          show GoW p e below s _ _ _ T385 (mkF m 235 #[.val (.int x0), .val (.int x1), .val (.int x2), .val (.int x3), .val (.int x4), .val (.int (2 : Int32)), .val (.int (0 : Int32)), .val (.int (x2 &&& (255 : Int32))), .val (.int (x3 &&& (255 : Int32))), .val (.int (x4 &&& (255 : Int32))), .val (.ref a329), .val (.ref a332), .val (.int (1 : Int32)), .val (.int (1 : Int32)), .unset] [(.int (1 : Int32))])
          refine gw_st (fun _ kq => XS.istore X385.here hx rfl (hb hby at_235) rfl (l' := #[.val (.int x0), .val (.int x1), .val (.int x2), .val (.int x3), .val (.int x4), .val (.int (2 : Int32)), .val (.int (0 : Int32)), .val (.int (x2 &&& (255 : Int32))), .val (.int (x3 &&& (255 : Int32))), .val (.int (x4 &&& (255 : Int32))), .val (.ref a329), .val (.ref a332), .val (.int (1 : Int32)), .val (.int (1 : Int32)), .val (.int (1 : Int32))]) rfl kq) ?_
          show GoW p e below s _ _ _ T385 (mkF m 237 #[.val (.int x0), .val (.int x1), .val (.int x2), .val (.int x3), .val (.int x4), .val (.int (2 : Int32)), .val (.int (0 : Int32)), .val (.int (x2 &&& (255 : Int32))), .val (.int (x3 &&& (255 : Int32))), .val (.int (x4 &&& (255 : Int32))), .val (.ref a329), .val (.ref a332), .val (.int (1 : Int32)), .val (.int (1 : Int32)), .val (.int (1 : Int32))] [])
          refine gw_st (fun _ kq => XS.iload X385.here hx rfl (hb hby at_237) rfl kq) ?_
          show GoW p e below s _ _ _ T385 (mkF m 239 #[.val (.int x0), .val (.int x1), .val (.int x2), .val (.int x3), .val (.int x4), .val (.int (2 : Int32)), .val (.int (0 : Int32)), .val (.int (x2 &&& (255 : Int32))), .val (.int (x3 &&& (255 : Int32))), .val (.int (x4 &&& (255 : Int32))), .val (.ref a329), .val (.ref a332), .val (.int (1 : Int32)), .val (.int (1 : Int32)), .val (.int (1 : Int32))] [(.int (1 : Int32))])
          refine gw_st (fun _ kq => XS.ifNo X385.here hx rfl (hb hby at_239) rfl (XT.i0_eq_f (by decide)) kq) ?_
          show GoW p e below s _ _ _ T385 (mkF m 242 #[.val (.int x0), .val (.int x1), .val (.int x2), .val (.int x3), .val (.int x4), .val (.int (2 : Int32)), .val (.int (0 : Int32)), .val (.int (x2 &&& (255 : Int32))), .val (.int (x3 &&& (255 : Int32))), .val (.int (x4 &&& (255 : Int32))), .val (.ref a329), .val (.ref a332), .val (.int (1 : Int32)), .val (.int (1 : Int32)), .val (.int (1 : Int32))] [])
          refine gw_st (fun _ kq => XS.iload X385.here hx rfl (hb hby at_242) rfl kq) ?_
          show GoW p e below s _ _ _ T385 (mkF m 244 #[.val (.int x0), .val (.int x1), .val (.int x2), .val (.int x3), .val (.int x4), .val (.int (2 : Int32)), .val (.int (0 : Int32)), .val (.int (x2 &&& (255 : Int32))), .val (.int (x3 &&& (255 : Int32))), .val (.int (x4 &&& (255 : Int32))), .val (.ref a329), .val (.ref a332), .val (.int (1 : Int32)), .val (.int (1 : Int32)), .val (.int (1 : Int32))] [(.int (1 : Int32))])
          refine gw_st (fun _ kq => XS.ifNo X385.here hx rfl (hb hby at_244) rfl (XT.i0_eq_f (by decide)) kq) ?_
          show GoW p e below s _ _ _ T385 (mkF m 247 #[.val (.int x0), .val (.int x1), .val (.int x2), .val (.int x3), .val (.int x4), .val (.int (2 : Int32)), .val (.int (0 : Int32)), .val (.int (x2 &&& (255 : Int32))), .val (.int (x3 &&& (255 : Int32))), .val (.int (x4 &&& (255 : Int32))), .val (.ref a329), .val (.ref a332), .val (.int (1 : Int32)), .val (.int (1 : Int32)), .val (.int (1 : Int32))] [])
          refine gw_st (fun _ kq => XS.iload X385.here hx rfl (hb hby at_247) rfl kq) ?_
          show GoW p e below s _ _ _ T385 (mkF m 249 #[.val (.int x0), .val (.int x1), .val (.int x2), .val (.int x3), .val (.int x4), .val (.int (2 : Int32)), .val (.int (0 : Int32)), .val (.int (x2 &&& (255 : Int32))), .val (.int (x3 &&& (255 : Int32))), .val (.int (x4 &&& (255 : Int32))), .val (.ref a329), .val (.ref a332), .val (.int (1 : Int32)), .val (.int (1 : Int32)), .val (.int (1 : Int32))] [(.int (1 : Int32))])
          refine gw_st (fun _ kq => XS.ifNo X385.here hx rfl (hb hby at_249) rfl (XT.i0_eq_f (by decide)) kq) ?_
          show GoW p e below s _ _ _ T385 (mkF m 252 #[.val (.int x0), .val (.int x1), .val (.int x2), .val (.int x3), .val (.int x4), .val (.int (2 : Int32)), .val (.int (0 : Int32)), .val (.int (x2 &&& (255 : Int32))), .val (.int (x3 &&& (255 : Int32))), .val (.int (x4 &&& (255 : Int32))), .val (.ref a329), .val (.ref a332), .val (.int (1 : Int32)), .val (.int (1 : Int32)), .val (.int (1 : Int32))] [])
          refine gw_st (fun _ kq => XT.iconstV X385.here hx rfl (1 : Int32) (hb hby at_252) (by decide) kq) ?_
          show GoW p e below s _ _ _ T385 (mkF m 253 #[.val (.int x0), .val (.int x1), .val (.int x2), .val (.int x3), .val (.int x4), .val (.int (2 : Int32)), .val (.int (0 : Int32)), .val (.int (x2 &&& (255 : Int32))), .val (.int (x3 &&& (255 : Int32))), .val (.int (x4 &&& (255 : Int32))), .val (.ref a329), .val (.ref a332), .val (.int (1 : Int32)), .val (.int (1 : Int32)), .val (.int (1 : Int32))] [(.int (1 : Int32))])
          refine gw_st (fun _ kq => XS.goto X385.here hx rfl (pc0 := 253) (pc' := 257) rfl (hb hby at_253) (by decide) (by decide) kq) ?_
          show GoW p e below s _ _ _ T385 (mkF m 257 #[.val (.int x0), .val (.int x1), .val (.int x2), .val (.int x3), .val (.int x4), .val (.int (2 : Int32)), .val (.int (0 : Int32)), .val (.int (x2 &&& (255 : Int32))), .val (.int (x3 &&& (255 : Int32))), .val (.int (x4 &&& (255 : Int32))), .val (.ref a329), .val (.ref a332), .val (.int (1 : Int32)), .val (.int (1 : Int32)), .val (.int (1 : Int32))] [(.int (1 : Int32))])
          exact gw_retB (w := (1 : Int32)) X385 hx hlk hret (hb hby at_257) (by decide) (by decide) (by decide) ⟨rfl, N385⟩
        · by_cases hk386 : ((x1 &&& (2147483647 : Int32)) % (3 : Int32)) = (1 : Int32)
          · rw [hk386]
            show GoW p e below s _ _ _ s₁ (mkF m 16 #[.val (.int x0), .val (.int x1), .val (.int x2), .val (.int x3), .val (.int x4), .val (.int (2 : Int32)), .val (.int (1 : Int32)), .unset, .unset, .unset, .unset, .unset, .unset, .unset, .unset] [])
            refine gw_st (fun _ kq => XS.iloadN X0.here hx rfl (hb hby at_16) rfl kq) ?_
            show GoW p e below s _ _ _ s₁ (mkF m 17 #[.val (.int x0), .val (.int x1), .val (.int x2), .val (.int x3), .val (.int x4), .val (.int (2 : Int32)), .val (.int (1 : Int32)), .unset, .unset, .unset, .unset, .unset, .unset, .unset, .unset] [(.int x2)])
            refine gw_st (fun _ kq => XT.sipushV X0.here hx rfl (255 : Int32) (hb hby at_17) (by decide) kq) ?_
            show GoW p e below s _ _ _ s₁ (mkF m 20 #[.val (.int x0), .val (.int x1), .val (.int x2), .val (.int x3), .val (.int x4), .val (.int (2 : Int32)), .val (.int (1 : Int32)), .unset, .unset, .unset, .unset, .unset, .unset, .unset, .unset] [(.int (255 : Int32)), (.int x2)])
            refine gw_st (fun _ kq => XS.iand X0.here hx rfl (hb hby at_20) rfl kq) ?_
            show GoW p e below s _ _ _ s₁ (mkF m 21 #[.val (.int x0), .val (.int x1), .val (.int x2), .val (.int x3), .val (.int x4), .val (.int (2 : Int32)), .val (.int (1 : Int32)), .unset, .unset, .unset, .unset, .unset, .unset, .unset, .unset] [(.int (x2 &&& (255 : Int32)))])
            refine gw_st (fun _ kq => XT.i2c X0.here hx rfl (hb hby at_21) rfl kq) ?_
            rw [own_i2c]
            show GoW p e below s _ _ _ s₁ (mkF m 22 #[.val (.int x0), .val (.int x1), .val (.int x2), .val (.int x3), .val (.int x4), .val (.int (2 : Int32)), .val (.int (1 : Int32)), .unset, .unset, .unset, .unset, .unset, .unset, .unset, .unset] [(.int (x2 &&& (255 : Int32)))])
            refine gw_st (fun _ kq => XS.istore X0.here hx rfl (hb hby at_22) rfl (l' := #[.val (.int x0), .val (.int x1), .val (.int x2), .val (.int x3), .val (.int x4), .val (.int (2 : Int32)), .val (.int (1 : Int32)), .val (.int (x2 &&& (255 : Int32))), .unset, .unset, .unset, .unset, .unset, .unset, .unset]) rfl kq) ?_
            show GoW p e below s _ _ _ s₁ (mkF m 24 #[.val (.int x0), .val (.int x1), .val (.int x2), .val (.int x3), .val (.int x4), .val (.int (2 : Int32)), .val (.int (1 : Int32)), .val (.int (x2 &&& (255 : Int32))), .unset, .unset, .unset, .unset, .unset, .unset, .unset] [])
            refine gw_st (fun _ kq => XS.iloadN X0.here hx rfl (hb hby at_24) rfl kq) ?_
            show GoW p e below s _ _ _ s₁ (mkF m 25 #[.val (.int x0), .val (.int x1), .val (.int x2), .val (.int x3), .val (.int x4), .val (.int (2 : Int32)), .val (.int (1 : Int32)), .val (.int (x2 &&& (255 : Int32))), .unset, .unset, .unset, .unset, .unset, .unset, .unset] [(.int x3)])
            refine gw_st (fun _ kq => XT.sipushV X0.here hx rfl (255 : Int32) (hb hby at_25) (by decide) kq) ?_
            show GoW p e below s _ _ _ s₁ (mkF m 28 #[.val (.int x0), .val (.int x1), .val (.int x2), .val (.int x3), .val (.int x4), .val (.int (2 : Int32)), .val (.int (1 : Int32)), .val (.int (x2 &&& (255 : Int32))), .unset, .unset, .unset, .unset, .unset, .unset, .unset] [(.int (255 : Int32)), (.int x3)])
            refine gw_st (fun _ kq => XS.iand X0.here hx rfl (hb hby at_28) rfl kq) ?_
            show GoW p e below s _ _ _ s₁ (mkF m 29 #[.val (.int x0), .val (.int x1), .val (.int x2), .val (.int x3), .val (.int x4), .val (.int (2 : Int32)), .val (.int (1 : Int32)), .val (.int (x2 &&& (255 : Int32))), .unset, .unset, .unset, .unset, .unset, .unset, .unset] [(.int (x3 &&& (255 : Int32)))])
            refine gw_st (fun _ kq => XT.i2c X0.here hx rfl (hb hby at_29) rfl kq) ?_
            rw [own_i2c]
            show GoW p e below s _ _ _ s₁ (mkF m 30 #[.val (.int x0), .val (.int x1), .val (.int x2), .val (.int x3), .val (.int x4), .val (.int (2 : Int32)), .val (.int (1 : Int32)), .val (.int (x2 &&& (255 : Int32))), .unset, .unset, .unset, .unset, .unset, .unset, .unset] [(.int (x3 &&& (255 : Int32)))])
            refine gw_st (fun _ kq => XS.istore X0.here hx rfl (hb hby at_30) rfl (l' := #[.val (.int x0), .val (.int x1), .val (.int x2), .val (.int x3), .val (.int x4), .val (.int (2 : Int32)), .val (.int (1 : Int32)), .val (.int (x2 &&& (255 : Int32))), .val (.int (x3 &&& (255 : Int32))), .unset, .unset, .unset, .unset, .unset, .unset]) rfl kq) ?_
            show GoW p e below s _ _ _ s₁ (mkF m 32 #[.val (.int x0), .val (.int x1), .val (.int x2), .val (.int x3), .val (.int x4), .val (.int (2 : Int32)), .val (.int (1 : Int32)), .val (.int (x2 &&& (255 : Int32))), .val (.int (x3 &&& (255 : Int32))), .unset, .unset, .unset, .unset, .unset, .unset] [])
            refine gw_st (fun _ kq => XS.iload X0.here hx rfl (hb hby at_32) rfl kq) ?_
            show GoW p e below s _ _ _ s₁ (mkF m 34 #[.val (.int x0), .val (.int x1), .val (.int x2), .val (.int x3), .val (.int x4), .val (.int (2 : Int32)), .val (.int (1 : Int32)), .val (.int (x2 &&& (255 : Int32))), .val (.int (x3 &&& (255 : Int32))), .unset, .unset, .unset, .unset, .unset, .unset] [(.int x4)])
            refine gw_st (fun _ kq => XT.sipushV X0.here hx rfl (255 : Int32) (hb hby at_34) (by decide) kq) ?_
            show GoW p e below s _ _ _ s₁ (mkF m 37 #[.val (.int x0), .val (.int x1), .val (.int x2), .val (.int x3), .val (.int x4), .val (.int (2 : Int32)), .val (.int (1 : Int32)), .val (.int (x2 &&& (255 : Int32))), .val (.int (x3 &&& (255 : Int32))), .unset, .unset, .unset, .unset, .unset, .unset] [(.int (255 : Int32)), (.int x4)])
            refine gw_st (fun _ kq => XS.iand X0.here hx rfl (hb hby at_37) rfl kq) ?_
            show GoW p e below s _ _ _ s₁ (mkF m 38 #[.val (.int x0), .val (.int x1), .val (.int x2), .val (.int x3), .val (.int x4), .val (.int (2 : Int32)), .val (.int (1 : Int32)), .val (.int (x2 &&& (255 : Int32))), .val (.int (x3 &&& (255 : Int32))), .unset, .unset, .unset, .unset, .unset, .unset] [(.int (x4 &&& (255 : Int32)))])
            refine gw_st (fun _ kq => XT.i2c X0.here hx rfl (hb hby at_38) rfl kq) ?_
            rw [own_i2c]
            show GoW p e below s _ _ _ s₁ (mkF m 39 #[.val (.int x0), .val (.int x1), .val (.int x2), .val (.int x3), .val (.int x4), .val (.int (2 : Int32)), .val (.int (1 : Int32)), .val (.int (x2 &&& (255 : Int32))), .val (.int (x3 &&& (255 : Int32))), .unset, .unset, .unset, .unset, .unset, .unset] [(.int (x4 &&& (255 : Int32)))])
            refine gw_st (fun _ kq => XS.istore X0.here hx rfl (hb hby at_39) rfl (l' := #[.val (.int x0), .val (.int x1), .val (.int x2), .val (.int x3), .val (.int x4), .val (.int (2 : Int32)), .val (.int (1 : Int32)), .val (.int (x2 &&& (255 : Int32))), .val (.int (x3 &&& (255 : Int32))), .val (.int (x4 &&& (255 : Int32))), .unset, .unset, .unset, .unset, .unset]) rfl kq) ?_
            show GoW p e below s _ _ _ s₁ (mkF m 41 #[.val (.int x0), .val (.int x1), .val (.int x2), .val (.int x3), .val (.int x4), .val (.int (2 : Int32)), .val (.int (1 : Int32)), .val (.int (x2 &&& (255 : Int32))), .val (.int (x3 &&& (255 : Int32))), .val (.int (x4 &&& (255 : Int32))), .unset, .unset, .unset, .unset, .unset] [])
            refine gw_st (fun _ kq => XS.iload X0.here hx rfl (hb hby at_41) rfl kq) ?_
            show GoW p e below s _ _ _ s₁ (mkF m 43 #[.val (.int x0), .val (.int x1), .val (.int x2), .val (.int x3), .val (.int x4), .val (.int (2 : Int32)), .val (.int (1 : Int32)), .val (.int (x2 &&& (255 : Int32))), .val (.int (x3 &&& (255 : Int32))), .val (.int (x4 &&& (255 : Int32))), .unset, .unset, .unset, .unset, .unset] [(.int (2 : Int32))])
            refine gw_st (fun _ kq => XS.ifYes X0.here hx rfl (pc0 := 43) (pc' := 54) rfl (hb hby at_43) rfl (XT.i0_ne_t (by decide)) (by decide) (by decide) kq) ?_
            show GoW p e below s _ _ _ s₁ (mkF m 54 #[.val (.int x0), .val (.int x1), .val (.int x2), .val (.int x3), .val (.int x4), .val (.int (2 : Int32)), .val (.int (1 : Int32)), .val (.int (x2 &&& (255 : Int32))), .val (.int (x3 &&& (255 : Int32))), .val (.int (x4 &&& (255 : Int32))), .unset, .unset, .unset, .unset, .unset] [])
            refine gw_st (fun _ kq => XS.iload X0.here hx rfl (hb hby at_54) rfl kq) ?_
            show GoW p e below s _ _ _ s₁ (mkF m 56 #[.val (.int x0), .val (.int x1), .val (.int x2), .val (.int x3), .val (.int x4), .val (.int (2 : Int32)), .val (.int (1 : Int32)), .val (.int (x2 &&& (255 : Int32))), .val (.int (x3 &&& (255 : Int32))), .val (.int (x4 &&& (255 : Int32))), .unset, .unset, .unset, .unset, .unset] [(.int (2 : Int32))])
            refine gw_st (fun _ kq => XT.iconstV X0.here hx rfl (1 : Int32) (hb hby at_56) (by decide) kq) ?_
            show GoW p e below s _ _ _ s₁ (mkF m 57 #[.val (.int x0), .val (.int x1), .val (.int x2), .val (.int x3), .val (.int x4), .val (.int (2 : Int32)), .val (.int (1 : Int32)), .val (.int (x2 &&& (255 : Int32))), .val (.int (x3 &&& (255 : Int32))), .val (.int (x4 &&& (255 : Int32))), .unset, .unset, .unset, .unset, .unset] [(.int (1 : Int32)), (.int (2 : Int32))])
            refine gw_st (fun _ kq => XS.icmpYes X0.here hx rfl (pc0 := 57) (pc' := 73) rfl (hb hby at_57) rfl (XT.ii_ne_t (by decide)) (by decide) (by decide) kq) ?_
            show GoW p e below s _ _ _ s₁ (mkF m 73 #[.val (.int x0), .val (.int x1), .val (.int x2), .val (.int x3), .val (.int x4), .val (.int (2 : Int32)), .val (.int (1 : Int32)), .val (.int (x2 &&& (255 : Int32))), .val (.int (x3 &&& (255 : Int32))), .val (.int (x4 &&& (255 : Int32))), .unset, .unset, .unset, .unset, .unset] [])
            refine gw_st (fun _ kq => XS.iload X0.here hx rfl (hb hby at_73) rfl kq) ?_
            show GoW p e below s _ _ _ s₁ (mkF m 75 #[.val (.int x0), .val (.int x1), .val (.int x2), .val (.int x3), .val (.int x4), .val (.int (2 : Int32)), .val (.int (1 : Int32)), .val (.int (x2 &&& (255 : Int32))), .val (.int (x3 &&& (255 : Int32))), .val (.int (x4 &&& (255 : Int32))), .unset, .unset, .unset, .unset, .unset] [(.int (2 : Int32))])
            refine gw_st (fun _ kq => XT.iconstV X0.here hx rfl (2 : Int32) (hb hby at_75) (by decide) kq) ?_
            show GoW p e below s _ _ _ s₁ (mkF m 76 #[.val (.int x0), .val (.int x1), .val (.int x2), .val (.int x3), .val (.int x4), .val (.int (2 : Int32)), .val (.int (1 : Int32)), .val (.int (x2 &&& (255 : Int32))), .val (.int (x3 &&& (255 : Int32))), .val (.int (x4 &&& (255 : Int32))), .unset, .unset, .unset, .unset, .unset] [(.int (2 : Int32)), (.int (2 : Int32))])
            refine gw_st (fun _ kq => XS.icmpNo X0.here hx rfl (hb hby at_76) rfl (XT.ii_ne_f (by decide)) kq) ?_
            show GoW p e below s _ _ _ s₁ (mkF m 79 #[.val (.int x0), .val (.int x1), .val (.int x2), .val (.int x3), .val (.int x4), .val (.int (2 : Int32)), .val (.int (1 : Int32)), .val (.int (x2 &&& (255 : Int32))), .val (.int (x3 &&& (255 : Int32))), .val (.int (x4 &&& (255 : Int32))), .unset, .unset, .unset, .unset, .unset] [])
            refine gw_st (fun _ kq => XT.iconstV X0.here hx rfl (2 : Int32) (hb hby at_79) (by decide) kq) ?_
            show GoW p e below s _ _ _ s₁ (mkF m 80 #[.val (.int x0), .val (.int x1), .val (.int x2), .val (.int x3), .val (.int x4), .val (.int (2 : Int32)), .val (.int (1 : Int32)), .val (.int (x2 &&& (255 : Int32))), .val (.int (x3 &&& (255 : Int32))), .val (.int (x4 &&& (255 : Int32))), .unset, .unset, .unset, .unset, .unset] [(.int (2 : Int32))])
            refine gw_newP X0 hx hZ (hw _ (List.mem_of_getElem? (i := 1) rfl)) e0 (hb hby at_80) rfl rfl 2 (by decide) 2 (Nat.le_refl _) (by decide) (by decide) (by decide) ?_
            intro T387 h387 a387 g387 X387 e387 E387 G387
            have nw_a387 : n0 ≤ a387 := Nat.le_trans Z0 (Nat.le_of_eq g387.symm)
            have lt_a387 : a387 < h387.size := G387.lt
            have A387 : GA Z h387 a387 .char 2 (fun i => .int (own_c3 (0 : Int32) (0 : Int32) (0 : Int32) i)) := (GA.congr G387 (fun i _ => own_z3 i))
            show GoW p e below s _ _ _ T387 (mkF m 82 #[.val (.int x0), .val (.int x1), .val (.int x2), .val (.int x3), .val (.int x4), .val (.int (2 : Int32)), .val (.int (1 : Int32)), .val (.int (x2 &&& (255 : Int32))), .val (.int (x3 &&& (255 : Int32))), .val (.int (x4 &&& (255 : Int32))), .unset, .unset, .unset, .unset, .unset] [(.ref a387)])
            refine gw_st (fun _ kq => XS.dup X387.here hx rfl (hb hby at_82) rfl rfl kq) ?_
            show GoW p e below s _ _ _ T387 (mkF m 83 #[.val (.int x0), .val (.int x1), .val (.int x2), .val (.int x3), .val (.int x4), .val (.int (2 : Int32)), .val (.int (1 : Int32)), .val (.int (x2 &&& (255 : Int32))), .val (.int (x3 &&& (255 : Int32))), .val (.int (x4 &&& (255 : Int32))), .unset, .unset, .unset, .unset, .unset] [(.ref a387), (.ref a387)])
            refine gw_st (fun _ kq => XT.iconstV X387.here hx rfl (0 : Int32) (hb hby at_83) (by decide) kq) ?_
            show GoW p e below s _ _ _ T387 (mkF m 84 #[.val (.int x0), .val (.int x1), .val (.int x2), .val (.int x3), .val (.int x4), .val (.int (2 : Int32)), .val (.int (1 : Int32)), .val (.int (x2 &&& (255 : Int32))), .val (.int (x3 &&& (255 : Int32))), .val (.int (x4 &&& (255 : Int32))), .unset, .unset, .unset, .unset, .unset] [(.int (0 : Int32)), (.ref a387), (.ref a387)])
            refine gw_st (fun _ kq => XS.iload X387.here hx rfl (hb hby at_84) rfl kq) ?_
            show GoW p e below s _ _ _ T387 (mkF m 86 #[.val (.int x0), .val (.int x1), .val (.int x2), .val (.int x3), .val (.int x4), .val (.int (2 : Int32)), .val (.int (1 : Int32)), .val (.int (x2 &&& (255 : Int32))), .val (.int (x3 &&& (255 : Int32))), .val (.int (x4 &&& (255 : Int32))), .unset, .unset, .unset, .unset, .unset] [(.int (x2 &&& (255 : Int32))), (.int (0 : Int32)), (.ref a387), (.ref a387)])
            refine gw_cast X387 hx hZ e387 A387 (hb hby at_86) rfl rfl (by decide) ?_
            intro T388 h388 X388 e388 W388 G388
            have N388 := Fr.snoc X388 N0 nw_a387
            have A388 : GA Z h388 a387 .char 2 (fun i => .int (own_c3 (x2 &&& (255 : Int32)) (0 : Int32) (0 : Int32) i)) := (own_stc (own_nc (own_lat _)) (by decide) (own_c30 (x2 &&& (255 : Int32)) (0 : Int32) (0 : Int32) (0 : Int32)) G388)
            show GoW p e below s _ _ _ T388 (mkF m 87 #[.val (.int x0), .val (.int x1), .val (.int x2), .val (.int x3), .val (.int x4), .val (.int (2 : Int32)), .val (.int (1 : Int32)), .val (.int (x2 &&& (255 : Int32))), .val (.int (x3 &&& (255 : Int32))), .val (.int (x4 &&& (255 : Int32))), .unset, .unset, .unset, .unset, .unset] [(.ref a387)])
            refine gw_st (fun _ kq => XS.dup X388.here hx rfl (hb hby at_87) rfl rfl kq) ?_
            show GoW p e below s _ _ _ T388 (mkF m 88 #[.val (.int x0), .val (.int x1), .val (.int x2), .val (.int x3), .val (.int x4), .val (.int (2 : Int32)), .val (.int (1 : Int32)), .val (.int (x2 &&& (255 : Int32))), .val (.int (x3 &&& (255 : Int32))), .val (.int (x4 &&& (255 : Int32))), .unset, .unset, .unset, .unset, .unset] [(.ref a387), (.ref a387)])
            refine gw_st (fun _ kq => XT.iconstV X388.here hx rfl (1 : Int32) (hb hby at_88) (by decide) kq) ?_
            show GoW p e below s _ _ _ T388 (mkF m 89 #[.val (.int x0), .val (.int x1), .val (.int x2), .val (.int x3), .val (.int x4), .val (.int (2 : Int32)), .val (.int (1 : Int32)), .val (.int (x2 &&& (255 : Int32))), .val (.int (x3 &&& (255 : Int32))), .val (.int (x4 &&& (255 : Int32))), .unset, .unset, .unset, .unset, .unset] [(.int (1 : Int32)), (.ref a387), (.ref a387)])
            refine gw_st (fun _ kq => XS.iload X388.here hx rfl (hb hby at_89) rfl kq) ?_
            show GoW p e below s _ _ _ T388 (mkF m 91 #[.val (.int x0), .val (.int x1), .val (.int x2), .val (.int x3), .val (.int x4), .val (.int (2 : Int32)), .val (.int (1 : Int32)), .val (.int (x2 &&& (255 : Int32))), .val (.int (x3 &&& (255 : Int32))), .val (.int (x4 &&& (255 : Int32))), .unset, .unset, .unset, .unset, .unset] [(.int (x3 &&& (255 : Int32))), (.int (1 : Int32)), (.ref a387), (.ref a387)])
            refine gw_cast X388 hx hZ e388 A388 (hb hby at_91) rfl rfl (by decide) ?_
            intro T389 h389 X389 e389 W389 G389
            have N389 := Fr.snoc X389 N388 nw_a387
            have A389 : GA Z h389 a387 .char 2 (fun i => .int (own_c3 (x2 &&& (255 : Int32)) (x3 &&& (255 : Int32)) (0 : Int32) i)) := (own_stc (own_nc (own_lat _)) (by decide) (own_c31 (x3 &&& (255 : Int32)) (x2 &&& (255 : Int32)) (0 : Int32) (0 : Int32)) G389)
            show GoW p e below s _ _ _ T389 (mkF m 92 #[.val (.int x0), .val (.int x1), .val (.int x2), .val (.int x3), .val (.int x4), .val (.int (2 : Int32)), .val (.int (1 : Int32)), .val (.int (x2 &&& (255 : Int32))), .val (.int (x3 &&& (255 : Int32))), .val (.int (x4 &&& (255 : Int32))), .unset, .unset, .unset, .unset, .unset] [(.ref a387)])
            refine gw_st (fun _ kq => XS.astore X389.here hx rfl (hb hby at_92) rfl rfl (l' := #[.val (.int x0), .val (.int x1), .val (.int x2), .val (.int x3), .val (.int x4), .val (.int (2 : Int32)), .val (.int (1 : Int32)), .val (.int (x2 &&& (255 : Int32))), .val (.int (x3 &&& (255 : Int32))), .val (.int (x4 &&& (255 : Int32))), .val (.ref a387), .unset, .unset, .unset, .unset]) rfl kq) ?_
            show GoW p e below s _ _ _ T389 (mkF m 94 #[.val (.int x0), .val (.int x1), .val (.int x2), .val (.int x3), .val (.int x4), .val (.int (2 : Int32)), .val (.int (1 : Int32)), .val (.int (x2 &&& (255 : Int32))), .val (.int (x3 &&& (255 : Int32))), .val (.int (x4 &&& (255 : Int32))), .val (.ref a387), .unset, .unset, .unset, .unset] [])
            refine gw_st (fun _ kq => XS.goto X389.here hx rfl (pc0 := 94) (pc' := 117) rfl (hb hby at_94) (by decide) (by decide) kq) ?_
            show GoW p e below s _ _ _ T389 (mkF m 117 #[.val (.int x0), .val (.int x1), .val (.int x2), .val (.int x3), .val (.int x4), .val (.int (2 : Int32)), .val (.int (1 : Int32)), .val (.int (x2 &&& (255 : Int32))), .val (.int (x3 &&& (255 : Int32))), .val (.int (x4 &&& (255 : Int32))), .val (.ref a387), .unset, .unset, .unset, .unset] [])
            refine gw_newO X389 hx hZ hown (hw _ (List.mem_of_getElem? (i := 2) rfl)) (hw _ (List.mem_of_getElem? (i := 3) rfl)) (hw _ (List.mem_of_getElem? (i := 4) rfl)) e389 (hb hby at_117) rfl (by decide) (by decide) ?_
            intro T390 h390 a390 g390 X390 e390 E390 A390 D390
            have y391 : h0.size ≤ h387.size := Nat.le_trans (Nat.le_refl _) E387.1
            have y392 : h0.size ≤ h388.size := (Wr.size W388).symm ▸ y391
            have y393 : h0.size ≤ h389.size := (Wr.size W389).symm ▸ y392
            have c394 : a387 < h388.size := (Wr.size W388).symm ▸ lt_a387
            have c395 : a387 < h389.size := (Wr.size W389).symm ▸ c394
            have ne396 : a387 ≠ a390 := fun q => Nat.lt_irrefl _ (Nat.lt_of_lt_of_le c395 (Nat.le_of_eq (g390.symm.trans q.symm)))
            have z397 : n0 ≤ h387.size := Nat.le_trans Z0 E387.1
            have z398 : n0 ≤ h388.size := (Wr.size W388).symm ▸ z397
            have z399 : n0 ≤ h389.size := (Wr.size W389).symm ▸ z398
            have nw_a390 : n0 ≤ a390 := Nat.le_trans z399 (Nat.le_of_eq g390.symm)
            have lt_a390 : a390 < h390.size := A390.lt
            have F400 : Fld Z h390 a390 "com/example/wirecall/wirecall/TextCursor" "text" "Ljava/lang/String;" .null := D390 (Or.inr (hw _ (List.mem_of_getElem? (i := 31) rfl))) (ty := (.object "java/lang/String")) (by decide)
            have F401 : Fld Z h390 a390 "com/example/wirecall/wirecall/TextCursor" "pos" "I" (.int (0 : Int32)) := D390 (Or.inl (hw _ (List.mem_of_getElem? (i := 38) rfl))) (ty := .int) (by decide)
            show GoW p e below s _ _ _ T390 (mkF m 120 #[.val (.int x0), .val (.int x1), .val (.int x2), .val (.int x3), .val (.int x4), .val (.int (2 : Int32)), .val (.int (1 : Int32)), .val (.int (x2 &&& (255 : Int32))), .val (.int (x3 &&& (255 : Int32))), .val (.int (x4 &&& (255 : Int32))), .val (.ref a387), .unset, .unset, .unset, .unset] [(.ref a390)])
            refine gw_st (fun _ kq => XS.dup X390.here hx rfl (hb hby at_120) rfl rfl kq) ?_
            show GoW p e below s _ _ _ T390 (mkF m 121 #[.val (.int x0), .val (.int x1), .val (.int x2), .val (.int x3), .val (.int x4), .val (.int (2 : Int32)), .val (.int (1 : Int32)), .val (.int (x2 &&& (255 : Int32))), .val (.int (x3 &&& (255 : Int32))), .val (.int (x4 &&& (255 : Int32))), .val (.ref a387), .unset, .unset, .unset, .unset] [(.ref a390), (.ref a390)])
            refine gw_newO X390 hx hZ hown (hw _ (List.mem_of_getElem? (i := 5) rfl)) (hw _ (List.mem_of_getElem? (i := 6) rfl)) (hw _ (List.mem_of_getElem? (i := 7) rfl)) e390 (hb hby at_121) rfl (by decide) (by decide) ?_
            intro T402 h402 a402 g402 X402 e402 E402 A402 D402
            have y403 : h0.size ≤ h390.size := Nat.le_trans y393 E390.1
            have c404 : a387 < h390.size := Nat.lt_of_lt_of_le c395 E390.1
            have ne405 : a387 ≠ a402 := fun q => Nat.lt_irrefl _ (Nat.lt_of_lt_of_le c404 (Nat.le_of_eq (g402.symm.trans q.symm)))
            have ne406 : a390 ≠ a402 := fun q => Nat.lt_irrefl _ (Nat.lt_of_lt_of_le lt_a390 (Nat.le_of_eq (g402.symm.trans q.symm)))
            have z407 : n0 ≤ h390.size := Nat.le_trans z399 E390.1
            have nw_a402 : n0 ≤ a402 := Nat.le_trans z407 (Nat.le_of_eq g402.symm)
            have lt_a402 : a402 < h402.size := A402.lt
            have F408 : Fld Z h402 a402 "java/lang/String" "value" "[B" .null := D402 (Or.inr (hw _ (List.mem_of_getElem? (i := 20) rfl))) (ty := (.array .byte)) (by decide)
            have F409 : Fld Z h402 a402 "java/lang/String" "coder" "B" (.int (0 : Int32)) := D402 (Or.inr (hw _ (List.mem_of_getElem? (i := 21) rfl))) (ty := .byte) (by decide)
            show GoW p e below s _ _ _ T402 (mkF m 124 #[.val (.int x0), .val (.int x1), .val (.int x2), .val (.int x3), .val (.int x4), .val (.int (2 : Int32)), .val (.int (1 : Int32)), .val (.int (x2 &&& (255 : Int32))), .val (.int (x3 &&& (255 : Int32))), .val (.int (x4 &&& (255 : Int32))), .val (.ref a387), .unset, .unset, .unset, .unset] [(.ref a402), (.ref a390), (.ref a390)])
            refine gw_st (fun _ kq => XS.dup X402.here hx rfl (hb hby at_124) rfl rfl kq) ?_
            show GoW p e below s _ _ _ T402 (mkF m 125 #[.val (.int x0), .val (.int x1), .val (.int x2), .val (.int x3), .val (.int x4), .val (.int (2 : Int32)), .val (.int (1 : Int32)), .val (.int (x2 &&& (255 : Int32))), .val (.int (x3 &&& (255 : Int32))), .val (.int (x4 &&& (255 : Int32))), .val (.ref a387), .unset, .unset, .unset, .unset] [(.ref a402), (.ref a402), (.ref a390), (.ref a390)])
            refine gw_st (fun _ kq => XS.aload X402.here hx rfl (hb hby at_125) rfl rfl kq) ?_
            show GoW p e below s _ _ _ T402 (mkF m 127 #[.val (.int x0), .val (.int x1), .val (.int x2), .val (.int x3), .val (.int x4), .val (.int (2 : Int32)), .val (.int (1 : Int32)), .val (.int (x2 &&& (255 : Int32))), .val (.int (x3 &&& (255 : Int32))), .val (.int (x4 &&& (255 : Int32))), .val (.ref a387), .unset, .unset, .unset, .unset] [(.ref a387), (.ref a402), (.ref a402), (.ref a390), (.ref a390)])
            have c411 := A389.ext E390
            have c412 := c411.ext E402
            have c413 := Old.ext O0 E387
            have c414 := Old.wr c413 W388 nw_a387
            have c415 := Old.wr c414 W389 nw_a387
            have c416 := Old.ext c415 E390
            have c417 := Old.ext c416 E402
            have z418 : n0 ≤ h402.size := Nat.le_trans z407 E402.1
            refine gw_callI X402 hx hZ hml hown rfl (hw _ (List.mem_of_getElem? (i := 8) rfl)) (hw _ (List.mem_of_getElem? (i := 9) rfl)) (hw _ (List.mem_of_getElem? (i := 10) rfl)) (hw _ (List.mem_of_getElem? (i := 7) rfl)) e402 (argsL := [(.ref a387)]) (rest := [(.ref a402), (.ref a390), (.ref a390)]) (W := 3) (met_s2 l Z a0 hw a402 a387 (x2 &&& (255 : Int32)) (x3 &&& (255 : Int32)) zc h402 n0 z418 A402 F408 F409 nw_a402 c412 (Ne.symm ne405) (own_lat _) (own_lat _) c417 S0 zn) (hb hby at_127) rfl rfl rfl (lenOf pd6 rfl) (by show 2 * 0 + _ ≤ _; exact Nat.le_of_eq rfl) (by decide) (by decide) (by decide) (by decide) (by decide) ?_
            intro T410 v410 L410 X410 q410
            obtain ⟨r_410, rfl, M410, K410, fz410_r, f410_0, f410_1, f410_2, f410_3⟩ := q410
            have N410 := Fr.app N389 M410
            have c419 : a387 < h402.size := Nat.lt_of_lt_of_le c404 E402.1
            have ne420 : a387 ≠ r_410 := Nat.ne_of_lt (Nat.lt_of_lt_of_le c419 fz410_r)
            have c421 : a390 < h402.size := Nat.lt_of_lt_of_le lt_a390 E402.1
            have ne422 : a390 ≠ r_410 := Nat.ne_of_lt (Nat.lt_of_lt_of_le c421 fz410_r)
            have ne423 : a402 ≠ r_410 := Nat.ne_of_lt (Nat.lt_of_lt_of_le lt_a402 fz410_r)
            have nw_r_410 : n0 ≤ r_410 := Nat.le_trans z418 fz410_r
            have y424 : h0.size ≤ h402.size := Nat.le_trans y403 E402.1
            have lt_r_410 : r_410 < T410.heap.size := f410_3.lt
            show GoW p e below s _ _ _ T410 (mkF m 130 #[.val (.int x0), .val (.int x1), .val (.int x2), .val (.int x3), .val (.int x4), .val (.int (2 : Int32)), .val (.int (1 : Int32)), .val (.int (x2 &&& (255 : Int32))), .val (.int (x3 &&& (255 : Int32))), .val (.int (x4 &&& (255 : Int32))), .val (.ref a387), .unset, .unset, .unset, .unset] [(.ref a402), (.ref a390), (.ref a390)])
            have c426 := Exa.ext E402 A390
            have c427 := Exa.keep c426 K410
            have c428 := Fld.ext E402 F400
            have c429 := Fld.keep c428 K410 (ninS ne406 nin0)
            have c430 := Fld.ext E402 F401
            have c431 := Fld.keep c430 K410 (ninS ne406 nin0)
            have z432 : n0 ≤ T410.heap.size := Nat.le_trans z418 K410.1
            refine gw_callI X410 hx hZ hml hown rfl (hw _ (List.mem_of_getElem? (i := 26) rfl)) (hw _ (List.mem_of_getElem? (i := 27) rfl)) (hw _ (List.mem_of_getElem? (i := 28) rfl)) (hw _ (List.mem_of_getElem? (i := 4) rfl)) rfl (argsL := [(.ref a402)]) (rest := [(.ref a390)]) (W := 1) (met_tci l Z a0 hw a390 a402 T410.heap n0 z432 c427 c429 c431 nw_a390) (hb hby at_130) rfl rfl rfl (lenOf pd7 rfl) (by show 2 * 0 + _ ≤ _; exact Nat.le_of_eq rfl) (by decide) (by decide) (by decide) (by decide) (by decide) ?_
            intro T425 v425 L425 X425 q425
            obtain ⟨rfl, M425, K425, f425_0, f425_1⟩ := q425
            have N425 := Fr.app N410 M425
            show GoW p e below s _ _ _ T425 (mkF m 133 #[.val (.int x0), .val (.int x1), .val (.int x2), .val (.int x3), .val (.int x4), .val (.int (2 : Int32)), .val (.int (1 : Int32)), .val (.int (x2 &&& (255 : Int32))), .val (.int (x3 &&& (255 : Int32))), .val (.int (x4 &&& (255 : Int32))), .val (.ref a387), .unset, .unset, .unset, .unset] [(.ref a390)])
            refine gw_st (fun _ kq => XS.astore X425.here hx rfl (hb hby at_133) rfl rfl (l' := #[.val (.int x0), .val (.int x1), .val (.int x2), .val (.int x3), .val (.int x4), .val (.int (2 : Int32)), .val (.int (1 : Int32)), .val (.int (x2 &&& (255 : Int32))), .val (.int (x3 &&& (255 : Int32))), .val (.int (x4 &&& (255 : Int32))), .val (.ref a387), .val (.ref a390), .unset, .unset, .unset]) rfl kq) ?_
            show GoW p e below s _ _ _ T425 (mkF m 135 #[.val (.int x0), .val (.int x1), .val (.int x2), .val (.int x3), .val (.int x4), .val (.int (2 : Int32)), .val (.int (1 : Int32)), .val (.int (x2 &&& (255 : Int32))), .val (.int (x3 &&& (255 : Int32))), .val (.int (x4 &&& (255 : Int32))), .val (.ref a387), .val (.ref a390), .unset, .unset, .unset] [])
            refine gw_st (fun _ kq => XS.aload X425.here hx rfl (hb hby at_135) rfl rfl kq) ?_
            show GoW p e below s _ _ _ T425 (mkF m 137 #[.val (.int x0), .val (.int x1), .val (.int x2), .val (.int x3), .val (.int x4), .val (.int (2 : Int32)), .val (.int (1 : Int32)), .val (.int (x2 &&& (255 : Int32))), .val (.int (x3 &&& (255 : Int32))), .val (.int (x4 &&& (255 : Int32))), .val (.ref a387), .val (.ref a390), .unset, .unset, .unset] [(.ref a390)])
            have c434 := Exa.keep f410_0 K425
            have c435 := Fld.keep f410_1 K425 (ninS (Ne.symm ne406) nin0)
            have c436 := Fld.keep f410_2 K425 (ninS (Ne.symm ne406) nin0)
            have c437 := GA.keep f410_3 K425 (ninS (Ne.symm ne422) nin0)
            have c438 := Old.keep c417 K410 (allS nw_a402 all0)
            have c439 := Old.keep c438 K425 (allS nw_a390 all0)
            have z440 : n0 ≤ T425.heap.size := Nat.le_trans z432 K425.1
            have c441 := Exa.keep c427 K425
            refine gw_callV X425 hx hZ hml hown (hw _ (List.mem_of_getElem? (i := 32) rfl)) (hw _ (List.mem_of_getElem? (i := 33) rfl)) (notFace_of_selects (args := #[]) (mvT hZ (hw _ (List.mem_of_getElem? (i := 35) rfl)))) (hw _ (List.mem_of_getElem? (i := 35) rfl)) (hw _ (List.mem_of_getElem? (i := 34) rfl)) (hw _ (List.mem_of_getElem? (i := 36) rfl)) (hw _ (List.mem_of_getElem? (i := 4) rfl)) rfl c441 (argsL := []) (rest := []) (W := 0) (met_end20 l Z a0 hw a390 a402 r_410 (fun i => .int (own_c3 (own_by (x2 &&& (255 : Int32))) (own_by (x3 &&& (255 : Int32))) (0 : Int32) i)) zc T425.heap n0 z440 f425_1 f425_0 c434 c435 c436 c437 c439 S0 zn) (hb hby at_137) rfl rfl rfl (lenOf pd8 rfl) (by show 2 * 0 + _ ≤ _; exact Nat.le_of_eq rfl) (by decide) (by decide) (by decide) (by decide) (by decide) ?_
            intro T433 v433 L433 X433 q433
            obtain ⟨rfl, M433, e433⟩ := q433
            have N433 := Fr.app N425 M433
            show GoW p e below s _ _ _ T433 (mkF m 140 #[.val (.int x0), .val (.int x1), .val (.int x2), .val (.int x3), .val (.int x4), .val (.int (2 : Int32)), .val (.int (1 : Int32)), .val (.int (x2 &&& (255 : Int32))), .val (.int (x3 &&& (255 : Int32))), .val (.int (x4 &&& (255 : Int32))), .val (.ref a387), .val (.ref a390), .unset, .unset, .unset] [(.int (0 : Int32))])
            refine gw_st (fun _ kq => XS.iload X433.here hx rfl (hb hby at_140) rfl kq) ?_
            show GoW p e below s _ _ _ T433 (mkF m 142 #[.val (.int x0), .val (.int x1), .val (.int x2), .val (.int x3), .val (.int x4), .val (.int (2 : Int32)), .val (.int (1 : Int32)), .val (.int (x2 &&& (255 : Int32))), .val (.int (x3 &&& (255 : Int32))), .val (.int (x4 &&& (255 : Int32))), .val (.ref a387), .val (.ref a390), .unset, .unset, .unset] [(.int (2 : Int32)), (.int (0 : Int32))])
            refine gw_st (fun _ kq => XS.ifYes X433.here hx rfl (pc0 := 142) (pc' := 149) rfl (hb hby at_142) rfl (XT.i0_ne_t (by decide)) (by decide) (by decide) kq) ?_
            show GoW p e below s _ _ _ T433 (mkF m 149 #[.val (.int x0), .val (.int x1), .val (.int x2), .val (.int x3), .val (.int x4), .val (.int (2 : Int32)), .val (.int (1 : Int32)), .val (.int (x2 &&& (255 : Int32))), .val (.int (x3 &&& (255 : Int32))), .val (.int (x4 &&& (255 : Int32))), .val (.ref a387), .val (.ref a390), .unset, .unset, .unset] [(.int (0 : Int32))])
            refine gw_st (fun _ kq => XT.iconstV X433.here hx rfl (0 : Int32) (hb hby at_149) (by decide) kq) ?_
            show GoW p e below s _ _ _ T433 (mkF m 150 #[.val (.int x0), .val (.int x1), .val (.int x2), .val (.int x3), .val (.int x4), .val (.int (2 : Int32)), .val (.int (1 : Int32)), .val (.int (x2 &&& (255 : Int32))), .val (.int (x3 &&& (255 : Int32))), .val (.int (x4 &&& (255 : Int32))), .val (.ref a387), .val (.ref a390), .unset, .unset, .unset] [(.int (0 : Int32)), (.int (0 : Int32))])
            refine gw_st (fun _ kq => XS.icmpNo X433.here hx rfl (hb hby at_150) rfl (XT.ii_ne_f (by decide)) kq) ?_
            show GoW p e below s _ _ _ T433 (mkF m 153 #[.val (.int x0), .val (.int x1), .val (.int x2), .val (.int x3), .val (.int x4), .val (.int (2 : Int32)), .val (.int (1 : Int32)), .val (.int (x2 &&& (255 : Int32))), .val (.int (x3 &&& (255 : Int32))), .val (.int (x4 &&& (255 : Int32))), .val (.ref a387), .val (.ref a390), .unset, .unset, .unset] [])
            refine gw_st (fun _ kq => XT.iconstV X433.here hx rfl (1 : Int32) (hb hby at_153) (by decide) kq) ?_
            show GoW p e below s _ _ _ T433 (mkF m 154 #[.val (.int x0), .val (.int x1), .val (.int x2), .val (.int x3), .val (.int x4), .val (.int (2 : Int32)), .val (.int (1 : Int32)), .val (.int (x2 &&& (255 : Int32))), .val (.int (x3 &&& (255 : Int32))), .val (.int (x4 &&& (255 : Int32))), .val (.ref a387), .val (.ref a390), .unset, .unset, .unset] [(.int (1 : Int32))])
            refine gw_st (fun _ kq => XS.goto X433.here hx rfl (pc0 := 154) (pc' := 158) rfl (hb hby at_154) (by decide) (by decide) kq) ?_
            show GoW p e below s _ _ _ T433 (mkF m 158 #[.val (.int x0), .val (.int x1), .val (.int x2), .val (.int x3), .val (.int x4), .val (.int (2 : Int32)), .val (.int (1 : Int32)), .val (.int (x2 &&& (255 : Int32))), .val (.int (x3 &&& (255 : Int32))), .val (.int (x4 &&& (255 : Int32))), .val (.ref a387), .val (.ref a390), .unset, .unset, .unset] [(.int (1 : Int32))])
            refine gw_st (fun _ kq => XS.istore X433.here hx rfl (hb hby at_158) rfl (l' := #[.val (.int x0), .val (.int x1), .val (.int x2), .val (.int x3), .val (.int x4), .val (.int (2 : Int32)), .val (.int (1 : Int32)), .val (.int (x2 &&& (255 : Int32))), .val (.int (x3 &&& (255 : Int32))), .val (.int (x4 &&& (255 : Int32))), .val (.ref a387), .val (.ref a390), .val (.int (1 : Int32)), .unset, .unset]) rfl kq) ?_
            show GoW p e below s _ _ _ T433 (mkF m 160 #[.val (.int x0), .val (.int x1), .val (.int x2), .val (.int x3), .val (.int x4), .val (.int (2 : Int32)), .val (.int (1 : Int32)), .val (.int (x2 &&& (255 : Int32))), .val (.int (x3 &&& (255 : Int32))), .val (.int (x4 &&& (255 : Int32))), .val (.ref a387), .val (.ref a390), .val (.int (1 : Int32)), .unset, .unset] [])
            refine gw_st (fun _ kq => XS.iload X433.here hx rfl (hb hby at_160) rfl kq) ?_
            show GoW p e below s _ _ _ T433 (mkF m 162 #[.val (.int x0), .val (.int x1), .val (.int x2), .val (.int x3), .val (.int x4), .val (.int (2 : Int32)), .val (.int (1 : Int32)), .val (.int (x2 &&& (255 : Int32))), .val (.int (x3 &&& (255 : Int32))), .val (.int (x4 &&& (255 : Int32))), .val (.ref a387), .val (.ref a390), .val (.int (1 : Int32)), .unset, .unset] [(.int (1 : Int32))])
            refine gw_st (fun _ kq => XT.iconstV X433.here hx rfl (1 : Int32) (hb hby at_162) (by decide) kq) ?_
            show GoW p e below s _ _ _ T433 (mkF m 163 #[.val (.int x0), .val (.int x1), .val (.int x2), .val (.int x3), .val (.int x4), .val (.int (2 : Int32)), .val (.int (1 : Int32)), .val (.int (x2 &&& (255 : Int32))), .val (.int (x3 &&& (255 : Int32))), .val (.int (x4 &&& (255 : Int32))), .val (.ref a387), .val (.ref a390), .val (.int (1 : Int32)), .unset, .unset] [(.int (1 : Int32)), (.int (1 : Int32))])
            refine gw_st (fun _ kq => XS.icmpNo X433.here hx rfl (hb hby at_163) rfl (XT.ii_lt_f (by decide)) kq) ?_
            show GoW p e below s _ _ _ T433 (mkF m 166 #[.val (.int x0), .val (.int x1), .val (.int x2), .val (.int x3), .val (.int x4), .val (.int (2 : Int32)), .val (.int (1 : Int32)), .val (.int (x2 &&& (255 : Int32))), .val (.int (x3 &&& (255 : Int32))), .val (.int (x4 &&& (255 : Int32))), .val (.ref a387), .val (.ref a390), .val (.int (1 : Int32)), .unset, .unset] [])
            refine gw_st (fun _ kq => XS.aload X433.here hx rfl (hb hby at_166) rfl rfl kq) ?_
            show GoW p e below s _ _ _ T433 (mkF m 168 #[.val (.int x0), .val (.int x1), .val (.int x2), .val (.int x3), .val (.int x4), .val (.int (2 : Int32)), .val (.int (1 : Int32)), .val (.int (x2 &&& (255 : Int32))), .val (.int (x3 &&& (255 : Int32))), .val (.int (x4 &&& (255 : Int32))), .val (.ref a387), .val (.ref a390), .val (.int (1 : Int32)), .unset, .unset] [(.ref a390)])
            refine gw_callV X433 hx hZ hml hown (hw _ (List.mem_of_getElem? (i := 65) rfl)) (hw _ (List.mem_of_getElem? (i := 66) rfl)) (notFace_of_selects (args := #[]) (mvT hZ (hw _ (List.mem_of_getElem? (i := 68) rfl)))) (hw _ (List.mem_of_getElem? (i := 68) rfl)) (hw _ (List.mem_of_getElem? (i := 67) rfl)) (hw _ (List.mem_of_getElem? (i := 69) rfl)) (hw _ (List.mem_of_getElem? (i := 4) rfl)) e433 c441 (argsL := []) (rest := []) (W := 0) (met_sk0 l Z a0 hw a390 a402 T425.heap n0 z440 c441 f425_0 f425_1 nw_a390) (hb hby at_168) rfl rfl rfl (lenOf pd9 rfl) (by show 2 * 0 + _ ≤ _; exact Nat.le_of_eq rfl) (by decide) (by decide) (by decide) (by decide) (by decide) ?_
            intro T442 v442 L442 X442 q442
            obtain ⟨rfl, M442, K442, f442_0, f442_1⟩ := q442
            have N442 := Fr.app N433 M442
            show GoW p e below s _ _ _ T442 (mkF m 171 #[.val (.int x0), .val (.int x1), .val (.int x2), .val (.int x3), .val (.int x4), .val (.int (2 : Int32)), .val (.int (1 : Int32)), .val (.int (x2 &&& (255 : Int32))), .val (.int (x3 &&& (255 : Int32))), .val (.int (x4 &&& (255 : Int32))), .val (.ref a387), .val (.ref a390), .val (.int (1 : Int32)), .unset, .unset] [])
            refine gw_st (fun _ kq => XS.iload X442.here hx rfl (hb hby at_171) rfl kq) ?_
            show GoW p e below s _ _ _ T442 (mkF m 173 #[.val (.int x0), .val (.int x1), .val (.int x2), .val (.int x3), .val (.int x4), .val (.int (2 : Int32)), .val (.int (1 : Int32)), .val (.int (x2 &&& (255 : Int32))), .val (.int (x3 &&& (255 : Int32))), .val (.int (x4 &&& (255 : Int32))), .val (.ref a387), .val (.ref a390), .val (.int (1 : Int32)), .unset, .unset] [(.int (1 : Int32))])
            refine gw_st (fun _ kq => XT.iconstV X442.here hx rfl (2 : Int32) (hb hby at_173) (by decide) kq) ?_
            show GoW p e below s _ _ _ T442 (mkF m 174 #[.val (.int x0), .val (.int x1), .val (.int x2), .val (.int x3), .val (.int x4), .val (.int (2 : Int32)), .val (.int (1 : Int32)), .val (.int (x2 &&& (255 : Int32))), .val (.int (x3 &&& (255 : Int32))), .val (.int (x4 &&& (255 : Int32))), .val (.ref a387), .val (.ref a390), .val (.int (1 : Int32)), .unset, .unset] [(.int (2 : Int32)), (.int (1 : Int32))])
            refine gw_st (fun _ kq => XS.icmpYes X442.here hx rfl (pc0 := 174) (pc' := 182) rfl (hb hby at_174) rfl (XT.ii_lt_t (by decide)) (by decide) (by decide) kq) ?_
            show GoW p e below s _ _ _ T442 (mkF m 182 #[.val (.int x0), .val (.int x1), .val (.int x2), .val (.int x3), .val (.int x4), .val (.int (2 : Int32)), .val (.int (1 : Int32)), .val (.int (x2 &&& (255 : Int32))), .val (.int (x3 &&& (255 : Int32))), .val (.int (x4 &&& (255 : Int32))), .val (.ref a387), .val (.ref a390), .val (.int (1 : Int32)), .unset, .unset] [])
            refine gw_st (fun _ kq => XS.iload X442.here hx rfl (hb hby at_182) rfl kq) ?_
            show GoW p e below s _ _ _ T442 (mkF m 184 #[.val (.int x0), .val (.int x1), .val (.int x2), .val (.int x3), .val (.int x4), .val (.int (2 : Int32)), .val (.int (1 : Int32)), .val (.int (x2 &&& (255 : Int32))), .val (.int (x3 &&& (255 : Int32))), .val (.int (x4 &&& (255 : Int32))), .val (.ref a387), .val (.ref a390), .val (.int (1 : Int32)), .unset, .unset] [(.int (1 : Int32))])
            refine gw_st (fun _ kq => XT.iconstV X442.here hx rfl (3 : Int32) (hb hby at_184) (by decide) kq) ?_
            show GoW p e below s _ _ _ T442 (mkF m 185 #[.val (.int x0), .val (.int x1), .val (.int x2), .val (.int x3), .val (.int x4), .val (.int (2 : Int32)), .val (.int (1 : Int32)), .val (.int (x2 &&& (255 : Int32))), .val (.int (x3 &&& (255 : Int32))), .val (.int (x4 &&& (255 : Int32))), .val (.ref a387), .val (.ref a390), .val (.int (1 : Int32)), .unset, .unset] [(.int (3 : Int32)), (.int (1 : Int32))])
            refine gw_st (fun _ kq => XS.icmpYes X442.here hx rfl (pc0 := 185) (pc' := 193) rfl (hb hby at_185) rfl (XT.ii_lt_t (by decide)) (by decide) (by decide) kq) ?_
            show GoW p e below s _ _ _ T442 (mkF m 193 #[.val (.int x0), .val (.int x1), .val (.int x2), .val (.int x3), .val (.int x4), .val (.int (2 : Int32)), .val (.int (1 : Int32)), .val (.int (x2 &&& (255 : Int32))), .val (.int (x3 &&& (255 : Int32))), .val (.int (x4 &&& (255 : Int32))), .val (.ref a387), .val (.ref a390), .val (.int (1 : Int32)), .unset, .unset] [])
            refine gw_st (fun _ kq => XS.aload X442.here hx rfl (hb hby at_193) rfl rfl kq) ?_
            show GoW p e below s _ _ _ T442 (mkF m 195 #[.val (.int x0), .val (.int x1), .val (.int x2), .val (.int x3), .val (.int x4), .val (.int (2 : Int32)), .val (.int (1 : Int32)), .val (.int (x2 &&& (255 : Int32))), .val (.int (x3 &&& (255 : Int32))), .val (.int (x4 &&& (255 : Int32))), .val (.ref a387), .val (.ref a390), .val (.int (1 : Int32)), .unset, .unset] [(.ref a390)])
            have c444 := Exa.keep c434 K442
            have c445 := Fld.keep c435 K442 (ninS (Ne.symm ne406) nin0)
            have c446 := Fld.keep c436 K442 (ninS (Ne.symm ne406) nin0)
            have c447 := GA.keep c437 K442 (ninS (Ne.symm ne422) nin0)
            have c448 := Old.keep c439 K442 (allS nw_a390 all0)
            have z449 : n0 ≤ T442.heap.size := Nat.le_trans z440 K442.1
            have c450 := Exa.keep c441 K442
            refine gw_callV X442 hx hZ hml hown (hw _ (List.mem_of_getElem? (i := 32) rfl)) (hw _ (List.mem_of_getElem? (i := 33) rfl)) (notFace_of_selects (args := #[]) (mvT hZ (hw _ (List.mem_of_getElem? (i := 35) rfl)))) (hw _ (List.mem_of_getElem? (i := 35) rfl)) (hw _ (List.mem_of_getElem? (i := 34) rfl)) (hw _ (List.mem_of_getElem? (i := 36) rfl)) (hw _ (List.mem_of_getElem? (i := 4) rfl)) rfl c450 (argsL := []) (rest := []) (W := 0) (met_end21 l Z a0 hw a390 a402 r_410 (fun i => .int (own_c3 (own_by (x2 &&& (255 : Int32))) (own_by (x3 &&& (255 : Int32))) (0 : Int32) i)) zc T442.heap n0 z449 f442_1 f442_0 c444 c445 c446 c447 c448 S0 zn) (hb hby at_195) rfl rfl rfl (lenOf pd8 rfl) (by show 2 * 0 + _ ≤ _; exact Nat.le_of_eq rfl) (by decide) (by decide) (by decide) (by decide) (by decide) ?_
            intro T443 v443 L443 X443 q443
            obtain ⟨rfl, M443, e443⟩ := q443
            have N443 := Fr.app N442 M443
            show GoW p e below s _ _ _ T443 (mkF m 198 #[.val (.int x0), .val (.int x1), .val (.int x2), .val (.int x3), .val (.int x4), .val (.int (2 : Int32)), .val (.int (1 : Int32)), .val (.int (x2 &&& (255 : Int32))), .val (.int (x3 &&& (255 : Int32))), .val (.int (x4 &&& (255 : Int32))), .val (.ref a387), .val (.ref a390), .val (.int (1 : Int32)), .unset, .unset] [(.int (0 : Int32))])
            refine gw_st (fun _ kq => XS.iload X443.here hx rfl (hb hby at_198) rfl kq) ?_
            show GoW p e below s _ _ _ T443 (mkF m 200 #[.val (.int x0), .val (.int x1), .val (.int x2), .val (.int x3), .val (.int x4), .val (.int (2 : Int32)), .val (.int (1 : Int32)), .val (.int (x2 &&& (255 : Int32))), .val (.int (x3 &&& (255 : Int32))), .val (.int (x4 &&& (255 : Int32))), .val (.ref a387), .val (.ref a390), .val (.int (1 : Int32)), .unset, .unset] [(.int (1 : Int32)), (.int (0 : Int32))])
            refine gw_st (fun _ kq => XS.iload X443.here hx rfl (hb hby at_200) rfl kq) ?_
            show GoW p e below s _ _ _ T443 (mkF m 202 #[.val (.int x0), .val (.int x1), .val (.int x2), .val (.int x3), .val (.int x4), .val (.int (2 : Int32)), .val (.int (1 : Int32)), .val (.int (x2 &&& (255 : Int32))), .val (.int (x3 &&& (255 : Int32))), .val (.int (x4 &&& (255 : Int32))), .val (.ref a387), .val (.ref a390), .val (.int (1 : Int32)), .unset, .unset] [(.int (2 : Int32)), (.int (1 : Int32)), (.int (0 : Int32))])
            refine gw_st (fun _ kq => XS.icmpYes X443.here hx rfl (pc0 := 202) (pc' := 209) rfl (hb hby at_202) rfl (XT.ii_ne_t (by decide)) (by decide) (by decide) kq) ?_
            show GoW p e below s _ _ _ T443 (mkF m 209 #[.val (.int x0), .val (.int x1), .val (.int x2), .val (.int x3), .val (.int x4), .val (.int (2 : Int32)), .val (.int (1 : Int32)), .val (.int (x2 &&& (255 : Int32))), .val (.int (x3 &&& (255 : Int32))), .val (.int (x4 &&& (255 : Int32))), .val (.ref a387), .val (.ref a390), .val (.int (1 : Int32)), .unset, .unset] [(.int (0 : Int32))])
            refine gw_st (fun _ kq => XT.iconstV X443.here hx rfl (0 : Int32) (hb hby at_209) (by decide) kq) ?_
            show GoW p e below s _ _ _ T443 (mkF m 210 #[.val (.int x0), .val (.int x1), .val (.int x2), .val (.int x3), .val (.int x4), .val (.int (2 : Int32)), .val (.int (1 : Int32)), .val (.int (x2 &&& (255 : Int32))), .val (.int (x3 &&& (255 : Int32))), .val (.int (x4 &&& (255 : Int32))), .val (.ref a387), .val (.ref a390), .val (.int (1 : Int32)), .unset, .unset] [(.int (0 : Int32)), (.int (0 : Int32))])
            refine gw_st (fun _ kq => XS.icmpNo X443.here hx rfl (hb hby at_210) rfl (XT.ii_ne_f (by decide)) kq) ?_
            show GoW p e below s _ _ _ T443 (mkF m 213 #[.val (.int x0), .val (.int x1), .val (.int x2), .val (.int x3), .val (.int x4), .val (.int (2 : Int32)), .val (.int (1 : Int32)), .val (.int (x2 &&& (255 : Int32))), .val (.int (x3 &&& (255 : Int32))), .val (.int (x4 &&& (255 : Int32))), .val (.ref a387), .val (.ref a390), .val (.int (1 : Int32)), .unset, .unset] [])
            refine gw_st (fun _ kq => XT.iconstV X443.here hx rfl (1 : Int32) (hb hby at_213) (by decide) kq) ?_
            show GoW p e below s _ _ _ T443 (mkF m 214 #[.val (.int x0), .val (.int x1), .val (.int x2), .val (.int x3), .val (.int x4), .val (.int (2 : Int32)), .val (.int (1 : Int32)), .val (.int (x2 &&& (255 : Int32))), .val (.int (x3 &&& (255 : Int32))), .val (.int (x4 &&& (255 : Int32))), .val (.ref a387), .val (.ref a390), .val (.int (1 : Int32)), .unset, .unset] [(.int (1 : Int32))])
            refine gw_st (fun _ kq => XS.goto X443.here hx rfl (pc0 := 214) (pc' := 218) rfl (hb hby at_214) (by decide) (by decide) kq) ?_
            show GoW p e below s _ _ _ T443 (mkF m 218 #[.val (.int x0), .val (.int x1), .val (.int x2), .val (.int x3), .val (.int x4), .val (.int (2 : Int32)), .val (.int (1 : Int32)), .val (.int (x2 &&& (255 : Int32))), .val (.int (x3 &&& (255 : Int32))), .val (.int (x4 &&& (255 : Int32))), .val (.ref a387), .val (.ref a390), .val (.int (1 : Int32)), .unset, .unset] [(.int (1 : Int32))])
            refine gw_st (fun _ kq => XS.istore X443.here hx rfl (hb hby at_218) rfl (l' := #[.val (.int x0), .val (.int x1), .val (.int x2), .val (.int x3), .val (.int x4), .val (.int (2 : Int32)), .val (.int (1 : Int32)), .val (.int (x2 &&& (255 : Int32))), .val (.int (x3 &&& (255 : Int32))), .val (.int (x4 &&& (255 : Int32))), .val (.ref a387), .val (.ref a390), .val (.int (1 : Int32)), .val (.int (1 : Int32)), .unset]) rfl kq) ?_
            show GoW p e below s _ _ _ T443 (mkF m 220 #[.val (.int x0), .val (.int x1), .val (.int x2), .val (.int x3), .val (.int x4), .val (.int (2 : Int32)), .val (.int (1 : Int32)), .val (.int (x2 &&& (255 : Int32))), .val (.int (x3 &&& (255 : Int32))), .val (.int (x4 &&& (255 : Int32))), .val (.ref a387), .val (.ref a390), .val (.int (1 : Int32)), .val (.int (1 : Int32)), .unset] [])
            refine gw_st (fun _ kq => XS.aload X443.here hx rfl (hb hby at_220) rfl rfl kq) ?_
            show GoW p e below s _ _ _ T443 (mkF m 222 #[.val (.int x0), .val (.int x1), .val (.int x2), .val (.int x3), .val (.int x4), .val (.int (2 : Int32)), .val (.int (1 : Int32)), .val (.int (x2 &&& (255 : Int32))), .val (.int (x3 &&& (255 : Int32))), .val (.int (x4 &&& (255 : Int32))), .val (.ref a387), .val (.ref a390), .val (.int (1 : Int32)), .val (.int (1 : Int32)), .unset] [(.ref a390)])
            refine gw_callV X443 hx hZ hml hown (hw _ (List.mem_of_getElem? (i := 50) rfl)) (hw _ (List.mem_of_getElem? (i := 51) rfl)) (notFace_of_selects (args := #[]) (mvT hZ (hw _ (List.mem_of_getElem? (i := 53) rfl)))) (hw _ (List.mem_of_getElem? (i := 53) rfl)) (hw _ (List.mem_of_getElem? (i := 52) rfl)) (hw _ (List.mem_of_getElem? (i := 54) rfl)) (hw _ (List.mem_of_getElem? (i := 4) rfl)) e443 c450 (argsL := []) (rest := []) (W := 0) (met_8 l Z a0 hw a390 (1 : Int32) T442.heap n0 z449 f442_1) (hb hby at_222) rfl rfl rfl (lenOf pd5 rfl) (by show 2 * 0 + _ ≤ _; exact Nat.le_of_eq rfl) (by decide) (by decide) (by decide) (by decide) (by decide) ?_
            intro T451 v451 L451 X451 q451
            obtain ⟨rfl, M451, e451⟩ := q451
            have N451 := Fr.app N443 M451
            show GoW p e below s _ _ _ T451 (mkF m 225 #[.val (.int x0), .val (.int x1), .val (.int x2), .val (.int x3), .val (.int x4), .val (.int (2 : Int32)), .val (.int (1 : Int32)), .val (.int (x2 &&& (255 : Int32))), .val (.int (x3 &&& (255 : Int32))), .val (.int (x4 &&& (255 : Int32))), .val (.ref a387), .val (.ref a390), .val (.int (1 : Int32)), .val (.int (1 : Int32)), .unset] [(.int (1 : Int32))])
            refine gw_st (fun _ kq => XS.iload X451.here hx rfl (hb hby at_225) rfl kq) ?_
            show GoW p e below s _ _ _ T451 (mkF m 227 #[.val (.int x0), .val (.int x1), .val (.int x2), .val (.int x3), .val (.int x4), .val (.int (2 : Int32)), .val (.int (1 : Int32)), .val (.int (x2 &&& (255 : Int32))), .val (.int (x3 &&& (255 : Int32))), .val (.int (x4 &&& (255 : Int32))), .val (.ref a387), .val (.ref a390), .val (.int (1 : Int32)), .val (.int (1 : Int32)), .unset] [(.int (1 : Int32)), (.int (1 : Int32))])
            refine gw_st (fun _ kq => XS.icmpNo X451.here hx rfl (hb hby at_227) rfl (XT.ii_ne_f (by decide)) kq) ?_
            show GoW p e below s _ _ _ T451 (mkF m 230 #[.val (.int x0), .val (.int x1), .val (.int x2), .val (.int x3), .val (.int x4), .val (.int (2 : Int32)), .val (.int (1 : Int32)), .val (.int (x2 &&& (255 : Int32))), .val (.int (x3 &&& (255 : Int32))), .val (.int (x4 &&& (255 : Int32))), .val (.ref a387), .val (.ref a390), .val (.int (1 : Int32)), .val (.int (1 : Int32)), .unset] [])
            refine gw_st (fun _ kq => XT.iconstV X451.here hx rfl (1 : Int32) (hb hby at_230) (by decide) kq) ?_
            show GoW p e below s _ _ _ T451 (mkF m 231 #[.val (.int x0), .val (.int x1), .val (.int x2), .val (.int x3), .val (.int x4), .val (.int (2 : Int32)), .val (.int (1 : Int32)), .val (.int (x2 &&& (255 : Int32))), .val (.int (x3 &&& (255 : Int32))), .val (.int (x4 &&& (255 : Int32))), .val (.ref a387), .val (.ref a390), .val (.int (1 : Int32)), .val (.int (1 : Int32)), .unset] [(.int (1 : Int32))])
            refine gw_st (fun _ kq => XS.goto X451.here hx rfl (pc0 := 231) (pc' := 235) rfl (hb hby at_231) (by decide) (by decide) kq) ?_
            show GoW p e below s _ _ _ T451 (mkF m 235 #[.val (.int x0), .val (.int x1), .val (.int x2), .val (.int x3), .val (.int x4), .val (.int (2 : Int32)), .val (.int (1 : Int32)), .val (.int (x2 &&& (255 : Int32))), .val (.int (x3 &&& (255 : Int32))), .val (.int (x4 &&& (255 : Int32))), .val (.ref a387), .val (.ref a390), .val (.int (1 : Int32)), .val (.int (1 : Int32)), .unset] [(.int (1 : Int32))])
            refine gw_st (fun _ kq => XS.istore X451.here hx rfl (hb hby at_235) rfl (l' := #[.val (.int x0), .val (.int x1), .val (.int x2), .val (.int x3), .val (.int x4), .val (.int (2 : Int32)), .val (.int (1 : Int32)), .val (.int (x2 &&& (255 : Int32))), .val (.int (x3 &&& (255 : Int32))), .val (.int (x4 &&& (255 : Int32))), .val (.ref a387), .val (.ref a390), .val (.int (1 : Int32)), .val (.int (1 : Int32)), .val (.int (1 : Int32))]) rfl kq) ?_
            show GoW p e below s _ _ _ T451 (mkF m 237 #[.val (.int x0), .val (.int x1), .val (.int x2), .val (.int x3), .val (.int x4), .val (.int (2 : Int32)), .val (.int (1 : Int32)), .val (.int (x2 &&& (255 : Int32))), .val (.int (x3 &&& (255 : Int32))), .val (.int (x4 &&& (255 : Int32))), .val (.ref a387), .val (.ref a390), .val (.int (1 : Int32)), .val (.int (1 : Int32)), .val (.int (1 : Int32))] [])
            refine gw_st (fun _ kq => XS.iload X451.here hx rfl (hb hby at_237) rfl kq) ?_
            show GoW p e below s _ _ _ T451 (mkF m 239 #[.val (.int x0), .val (.int x1), .val (.int x2), .val (.int x3), .val (.int x4), .val (.int (2 : Int32)), .val (.int (1 : Int32)), .val (.int (x2 &&& (255 : Int32))), .val (.int (x3 &&& (255 : Int32))), .val (.int (x4 &&& (255 : Int32))), .val (.ref a387), .val (.ref a390), .val (.int (1 : Int32)), .val (.int (1 : Int32)), .val (.int (1 : Int32))] [(.int (1 : Int32))])
            refine gw_st (fun _ kq => XS.ifNo X451.here hx rfl (hb hby at_239) rfl (XT.i0_eq_f (by decide)) kq) ?_
            show GoW p e below s _ _ _ T451 (mkF m 242 #[.val (.int x0), .val (.int x1), .val (.int x2), .val (.int x3), .val (.int x4), .val (.int (2 : Int32)), .val (.int (1 : Int32)), .val (.int (x2 &&& (255 : Int32))), .val (.int (x3 &&& (255 : Int32))), .val (.int (x4 &&& (255 : Int32))), .val (.ref a387), .val (.ref a390), .val (.int (1 : Int32)), .val (.int (1 : Int32)), .val (.int (1 : Int32))] [])
            refine gw_st (fun _ kq => XS.iload X451.here hx rfl (hb hby at_242) rfl kq) ?_
            show GoW p e below s _ _ _ T451 (mkF m 244 #[.val (.int x0), .val (.int x1), .val (.int x2), .val (.int x3), .val (.int x4), .val (.int (2 : Int32)), .val (.int (1 : Int32)), .val (.int (x2 &&& (255 : Int32))), .val (.int (x3 &&& (255 : Int32))), .val (.int (x4 &&& (255 : Int32))), .val (.ref a387), .val (.ref a390), .val (.int (1 : Int32)), .val (.int (1 : Int32)), .val (.int (1 : Int32))] [(.int (1 : Int32))])
            refine gw_st (fun _ kq => XS.ifNo X451.here hx rfl (hb hby at_244) rfl (XT.i0_eq_f (by decide)) kq) ?_
            show GoW p e below s _ _ _ T451 (mkF m 247 #[.val (.int x0), .val (.int x1), .val (.int x2), .val (.int x3), .val (.int x4), .val (.int (2 : Int32)), .val (.int (1 : Int32)), .val (.int (x2 &&& (255 : Int32))), .val (.int (x3 &&& (255 : Int32))), .val (.int (x4 &&& (255 : Int32))), .val (.ref a387), .val (.ref a390), .val (.int (1 : Int32)), .val (.int (1 : Int32)), .val (.int (1 : Int32))] [])
            refine gw_st (fun _ kq => XS.iload X451.here hx rfl (hb hby at_247) rfl kq) ?_
            show GoW p e below s _ _ _ T451 (mkF m 249 #[.val (.int x0), .val (.int x1), .val (.int x2), .val (.int x3), .val (.int x4), .val (.int (2 : Int32)), .val (.int (1 : Int32)), .val (.int (x2 &&& (255 : Int32))), .val (.int (x3 &&& (255 : Int32))), .val (.int (x4 &&& (255 : Int32))), .val (.ref a387), .val (.ref a390), .val (.int (1 : Int32)), .val (.int (1 : Int32)), .val (.int (1 : Int32))] [(.int (1 : Int32))])
            refine gw_st (fun _ kq => XS.ifNo X451.here hx rfl (hb hby at_249) rfl (XT.i0_eq_f (by decide)) kq) ?_
            show GoW p e below s _ _ _ T451 (mkF m 252 #[.val (.int x0), .val (.int x1), .val (.int x2), .val (.int x3), .val (.int x4), .val (.int (2 : Int32)), .val (.int (1 : Int32)), .val (.int (x2 &&& (255 : Int32))), .val (.int (x3 &&& (255 : Int32))), .val (.int (x4 &&& (255 : Int32))), .val (.ref a387), .val (.ref a390), .val (.int (1 : Int32)), .val (.int (1 : Int32)), .val (.int (1 : Int32))] [])
            refine gw_st (fun _ kq => XT.iconstV X451.here hx rfl (1 : Int32) (hb hby at_252) (by decide) kq) ?_
            show GoW p e below s _ _ _ T451 (mkF m 253 #[.val (.int x0), .val (.int x1), .val (.int x2), .val (.int x3), .val (.int x4), .val (.int (2 : Int32)), .val (.int (1 : Int32)), .val (.int (x2 &&& (255 : Int32))), .val (.int (x3 &&& (255 : Int32))), .val (.int (x4 &&& (255 : Int32))), .val (.ref a387), .val (.ref a390), .val (.int (1 : Int32)), .val (.int (1 : Int32)), .val (.int (1 : Int32))] [(.int (1 : Int32))])
            refine gw_st (fun _ kq => XS.goto X451.here hx rfl (pc0 := 253) (pc' := 257) rfl (hb hby at_253) (by decide) (by decide) kq) ?_
            show GoW p e below s _ _ _ T451 (mkF m 257 #[.val (.int x0), .val (.int x1), .val (.int x2), .val (.int x3), .val (.int x4), .val (.int (2 : Int32)), .val (.int (1 : Int32)), .val (.int (x2 &&& (255 : Int32))), .val (.int (x3 &&& (255 : Int32))), .val (.int (x4 &&& (255 : Int32))), .val (.ref a387), .val (.ref a390), .val (.int (1 : Int32)), .val (.int (1 : Int32)), .val (.int (1 : Int32))] [(.int (1 : Int32))])
            exact gw_retB (w := (1 : Int32)) X451 hx hlk hret (hb hby at_257) (by decide) (by decide) (by decide) ⟨rfl, N451⟩
          · by_cases hk452 : ((x1 &&& (2147483647 : Int32)) % (3 : Int32)) = (2 : Int32)
            · rw [hk452]
              show GoW p e below s _ _ _ s₁ (mkF m 16 #[.val (.int x0), .val (.int x1), .val (.int x2), .val (.int x3), .val (.int x4), .val (.int (2 : Int32)), .val (.int (2 : Int32)), .unset, .unset, .unset, .unset, .unset, .unset, .unset, .unset] [])
              refine gw_st (fun _ kq => XS.iloadN X0.here hx rfl (hb hby at_16) rfl kq) ?_
              show GoW p e below s _ _ _ s₁ (mkF m 17 #[.val (.int x0), .val (.int x1), .val (.int x2), .val (.int x3), .val (.int x4), .val (.int (2 : Int32)), .val (.int (2 : Int32)), .unset, .unset, .unset, .unset, .unset, .unset, .unset, .unset] [(.int x2)])
              refine gw_st (fun _ kq => XT.sipushV X0.here hx rfl (255 : Int32) (hb hby at_17) (by decide) kq) ?_
              show GoW p e below s _ _ _ s₁ (mkF m 20 #[.val (.int x0), .val (.int x1), .val (.int x2), .val (.int x3), .val (.int x4), .val (.int (2 : Int32)), .val (.int (2 : Int32)), .unset, .unset, .unset, .unset, .unset, .unset, .unset, .unset] [(.int (255 : Int32)), (.int x2)])
              refine gw_st (fun _ kq => XS.iand X0.here hx rfl (hb hby at_20) rfl kq) ?_
              show GoW p e below s _ _ _ s₁ (mkF m 21 #[.val (.int x0), .val (.int x1), .val (.int x2), .val (.int x3), .val (.int x4), .val (.int (2 : Int32)), .val (.int (2 : Int32)), .unset, .unset, .unset, .unset, .unset, .unset, .unset, .unset] [(.int (x2 &&& (255 : Int32)))])
              refine gw_st (fun _ kq => XT.i2c X0.here hx rfl (hb hby at_21) rfl kq) ?_
              rw [own_i2c]
              show GoW p e below s _ _ _ s₁ (mkF m 22 #[.val (.int x0), .val (.int x1), .val (.int x2), .val (.int x3), .val (.int x4), .val (.int (2 : Int32)), .val (.int (2 : Int32)), .unset, .unset, .unset, .unset, .unset, .unset, .unset, .unset] [(.int (x2 &&& (255 : Int32)))])
              refine gw_st (fun _ kq => XS.istore X0.here hx rfl (hb hby at_22) rfl (l' := #[.val (.int x0), .val (.int x1), .val (.int x2), .val (.int x3), .val (.int x4), .val (.int (2 : Int32)), .val (.int (2 : Int32)), .val (.int (x2 &&& (255 : Int32))), .unset, .unset, .unset, .unset, .unset, .unset, .unset]) rfl kq) ?_
              show GoW p e below s _ _ _ s₁ (mkF m 24 #[.val (.int x0), .val (.int x1), .val (.int x2), .val (.int x3), .val (.int x4), .val (.int (2 : Int32)), .val (.int (2 : Int32)), .val (.int (x2 &&& (255 : Int32))), .unset, .unset, .unset, .unset, .unset, .unset, .unset] [])
              refine gw_st (fun _ kq => XS.iloadN X0.here hx rfl (hb hby at_24) rfl kq) ?_
              show GoW p e below s _ _ _ s₁ (mkF m 25 #[.val (.int x0), .val (.int x1), .val (.int x2), .val (.int x3), .val (.int x4), .val (.int (2 : Int32)), .val (.int (2 : Int32)), .val (.int (x2 &&& (255 : Int32))), .unset, .unset, .unset, .unset, .unset, .unset, .unset] [(.int x3)])
              refine gw_st (fun _ kq => XT.sipushV X0.here hx rfl (255 : Int32) (hb hby at_25) (by decide) kq) ?_
              show GoW p e below s _ _ _ s₁ (mkF m 28 #[.val (.int x0), .val (.int x1), .val (.int x2), .val (.int x3), .val (.int x4), .val (.int (2 : Int32)), .val (.int (2 : Int32)), .val (.int (x2 &&& (255 : Int32))), .unset, .unset, .unset, .unset, .unset, .unset, .unset] [(.int (255 : Int32)), (.int x3)])
              refine gw_st (fun _ kq => XS.iand X0.here hx rfl (hb hby at_28) rfl kq) ?_
              show GoW p e below s _ _ _ s₁ (mkF m 29 #[.val (.int x0), .val (.int x1), .val (.int x2), .val (.int x3), .val (.int x4), .val (.int (2 : Int32)), .val (.int (2 : Int32)), .val (.int (x2 &&& (255 : Int32))), .unset, .unset, .unset, .unset, .unset, .unset, .unset] [(.int (x3 &&& (255 : Int32)))])
              refine gw_st (fun _ kq => XT.i2c X0.here hx rfl (hb hby at_29) rfl kq) ?_
              rw [own_i2c]
              show GoW p e below s _ _ _ s₁ (mkF m 30 #[.val (.int x0), .val (.int x1), .val (.int x2), .val (.int x3), .val (.int x4), .val (.int (2 : Int32)), .val (.int (2 : Int32)), .val (.int (x2 &&& (255 : Int32))), .unset, .unset, .unset, .unset, .unset, .unset, .unset] [(.int (x3 &&& (255 : Int32)))])
              refine gw_st (fun _ kq => XS.istore X0.here hx rfl (hb hby at_30) rfl (l' := #[.val (.int x0), .val (.int x1), .val (.int x2), .val (.int x3), .val (.int x4), .val (.int (2 : Int32)), .val (.int (2 : Int32)), .val (.int (x2 &&& (255 : Int32))), .val (.int (x3 &&& (255 : Int32))), .unset, .unset, .unset, .unset, .unset, .unset]) rfl kq) ?_
              show GoW p e below s _ _ _ s₁ (mkF m 32 #[.val (.int x0), .val (.int x1), .val (.int x2), .val (.int x3), .val (.int x4), .val (.int (2 : Int32)), .val (.int (2 : Int32)), .val (.int (x2 &&& (255 : Int32))), .val (.int (x3 &&& (255 : Int32))), .unset, .unset, .unset, .unset, .unset, .unset] [])
              refine gw_st (fun _ kq => XS.iload X0.here hx rfl (hb hby at_32) rfl kq) ?_
              show GoW p e below s _ _ _ s₁ (mkF m 34 #[.val (.int x0), .val (.int x1), .val (.int x2), .val (.int x3), .val (.int x4), .val (.int (2 : Int32)), .val (.int (2 : Int32)), .val (.int (x2 &&& (255 : Int32))), .val (.int (x3 &&& (255 : Int32))), .unset, .unset, .unset, .unset, .unset, .unset] [(.int x4)])
              refine gw_st (fun _ kq => XT.sipushV X0.here hx rfl (255 : Int32) (hb hby at_34) (by decide) kq) ?_
              show GoW p e below s _ _ _ s₁ (mkF m 37 #[.val (.int x0), .val (.int x1), .val (.int x2), .val (.int x3), .val (.int x4), .val (.int (2 : Int32)), .val (.int (2 : Int32)), .val (.int (x2 &&& (255 : Int32))), .val (.int (x3 &&& (255 : Int32))), .unset, .unset, .unset, .unset, .unset, .unset] [(.int (255 : Int32)), (.int x4)])
              refine gw_st (fun _ kq => XS.iand X0.here hx rfl (hb hby at_37) rfl kq) ?_
              show GoW p e below s _ _ _ s₁ (mkF m 38 #[.val (.int x0), .val (.int x1), .val (.int x2), .val (.int x3), .val (.int x4), .val (.int (2 : Int32)), .val (.int (2 : Int32)), .val (.int (x2 &&& (255 : Int32))), .val (.int (x3 &&& (255 : Int32))), .unset, .unset, .unset, .unset, .unset, .unset] [(.int (x4 &&& (255 : Int32)))])
              refine gw_st (fun _ kq => XT.i2c X0.here hx rfl (hb hby at_38) rfl kq) ?_
              rw [own_i2c]
              show GoW p e below s _ _ _ s₁ (mkF m 39 #[.val (.int x0), .val (.int x1), .val (.int x2), .val (.int x3), .val (.int x4), .val (.int (2 : Int32)), .val (.int (2 : Int32)), .val (.int (x2 &&& (255 : Int32))), .val (.int (x3 &&& (255 : Int32))), .unset, .unset, .unset, .unset, .unset, .unset] [(.int (x4 &&& (255 : Int32)))])
              refine gw_st (fun _ kq => XS.istore X0.here hx rfl (hb hby at_39) rfl (l' := #[.val (.int x0), .val (.int x1), .val (.int x2), .val (.int x3), .val (.int x4), .val (.int (2 : Int32)), .val (.int (2 : Int32)), .val (.int (x2 &&& (255 : Int32))), .val (.int (x3 &&& (255 : Int32))), .val (.int (x4 &&& (255 : Int32))), .unset, .unset, .unset, .unset, .unset]) rfl kq) ?_
              show GoW p e below s _ _ _ s₁ (mkF m 41 #[.val (.int x0), .val (.int x1), .val (.int x2), .val (.int x3), .val (.int x4), .val (.int (2 : Int32)), .val (.int (2 : Int32)), .val (.int (x2 &&& (255 : Int32))), .val (.int (x3 &&& (255 : Int32))), .val (.int (x4 &&& (255 : Int32))), .unset, .unset, .unset, .unset, .unset] [])
              refine gw_st (fun _ kq => XS.iload X0.here hx rfl (hb hby at_41) rfl kq) ?_
              show GoW p e below s _ _ _ s₁ (mkF m 43 #[.val (.int x0), .val (.int x1), .val (.int x2), .val (.int x3), .val (.int x4), .val (.int (2 : Int32)), .val (.int (2 : Int32)), .val (.int (x2 &&& (255 : Int32))), .val (.int (x3 &&& (255 : Int32))), .val (.int (x4 &&& (255 : Int32))), .unset, .unset, .unset, .unset, .unset] [(.int (2 : Int32))])
              refine gw_st (fun _ kq => XS.ifYes X0.here hx rfl (pc0 := 43) (pc' := 54) rfl (hb hby at_43) rfl (XT.i0_ne_t (by decide)) (by decide) (by decide) kq) ?_
              show GoW p e below s _ _ _ s₁ (mkF m 54 #[.val (.int x0), .val (.int x1), .val (.int x2), .val (.int x3), .val (.int x4), .val (.int (2 : Int32)), .val (.int (2 : Int32)), .val (.int (x2 &&& (255 : Int32))), .val (.int (x3 &&& (255 : Int32))), .val (.int (x4 &&& (255 : Int32))), .unset, .unset, .unset, .unset, .unset] [])
              refine gw_st (fun _ kq => XS.iload X0.here hx rfl (hb hby at_54) rfl kq) ?_
              show GoW p e below s _ _ _ s₁ (mkF m 56 #[.val (.int x0), .val (.int x1), .val (.int x2), .val (.int x3), .val (.int x4), .val (.int (2 : Int32)), .val (.int (2 : Int32)), .val (.int (x2 &&& (255 : Int32))), .val (.int (x3 &&& (255 : Int32))), .val (.int (x4 &&& (255 : Int32))), .unset, .unset, .unset, .unset, .unset] [(.int (2 : Int32))])
              refine gw_st (fun _ kq => XT.iconstV X0.here hx rfl (1 : Int32) (hb hby at_56) (by decide) kq) ?_
              show GoW p e below s _ _ _ s₁ (mkF m 57 #[.val (.int x0), .val (.int x1), .val (.int x2), .val (.int x3), .val (.int x4), .val (.int (2 : Int32)), .val (.int (2 : Int32)), .val (.int (x2 &&& (255 : Int32))), .val (.int (x3 &&& (255 : Int32))), .val (.int (x4 &&& (255 : Int32))), .unset, .unset, .unset, .unset, .unset] [(.int (1 : Int32)), (.int (2 : Int32))])
              refine gw_st (fun _ kq => XS.icmpYes X0.here hx rfl (pc0 := 57) (pc' := 73) rfl (hb hby at_57) rfl (XT.ii_ne_t (by decide)) (by decide) (by decide) kq) ?_
              show GoW p e below s _ _ _ s₁ (mkF m 73 #[.val (.int x0), .val (.int x1), .val (.int x2), .val (.int x3), .val (.int x4), .val (.int (2 : Int32)), .val (.int (2 : Int32)), .val (.int (x2 &&& (255 : Int32))), .val (.int (x3 &&& (255 : Int32))), .val (.int (x4 &&& (255 : Int32))), .unset, .unset, .unset, .unset, .unset] [])
              refine gw_st (fun _ kq => XS.iload X0.here hx rfl (hb hby at_73) rfl kq) ?_
              show GoW p e below s _ _ _ s₁ (mkF m 75 #[.val (.int x0), .val (.int x1), .val (.int x2), .val (.int x3), .val (.int x4), .val (.int (2 : Int32)), .val (.int (2 : Int32)), .val (.int (x2 &&& (255 : Int32))), .val (.int (x3 &&& (255 : Int32))), .val (.int (x4 &&& (255 : Int32))), .unset, .unset, .unset, .unset, .unset] [(.int (2 : Int32))])
              refine gw_st (fun _ kq => XT.iconstV X0.here hx rfl (2 : Int32) (hb hby at_75) (by decide) kq) ?_
              show GoW p e below s _ _ _ s₁ (mkF m 76 #[.val (.int x0), .val (.int x1), .val (.int x2), .val (.int x3), .val (.int x4), .val (.int (2 : Int32)), .val (.int (2 : Int32)), .val (.int (x2 &&& (255 : Int32))), .val (.int (x3 &&& (255 : Int32))), .val (.int (x4 &&& (255 : Int32))), .unset, .unset, .unset, .unset, .unset] [(.int (2 : Int32)), (.int (2 : Int32))])
              refine gw_st (fun _ kq => XS.icmpNo X0.here hx rfl (hb hby at_76) rfl (XT.ii_ne_f (by decide)) kq) ?_
              show GoW p e below s _ _ _ s₁ (mkF m 79 #[.val (.int x0), .val (.int x1), .val (.int x2), .val (.int x3), .val (.int x4), .val (.int (2 : Int32)), .val (.int (2 : Int32)), .val (.int (x2 &&& (255 : Int32))), .val (.int (x3 &&& (255 : Int32))), .val (.int (x4 &&& (255 : Int32))), .unset, .unset, .unset, .unset, .unset] [])
              refine gw_st (fun _ kq => XT.iconstV X0.here hx rfl (2 : Int32) (hb hby at_79) (by decide) kq) ?_
              show GoW p e below s _ _ _ s₁ (mkF m 80 #[.val (.int x0), .val (.int x1), .val (.int x2), .val (.int x3), .val (.int x4), .val (.int (2 : Int32)), .val (.int (2 : Int32)), .val (.int (x2 &&& (255 : Int32))), .val (.int (x3 &&& (255 : Int32))), .val (.int (x4 &&& (255 : Int32))), .unset, .unset, .unset, .unset, .unset] [(.int (2 : Int32))])
              refine gw_newP X0 hx hZ (hw _ (List.mem_of_getElem? (i := 1) rfl)) e0 (hb hby at_80) rfl rfl 2 (by decide) 2 (Nat.le_refl _) (by decide) (by decide) (by decide) ?_
              intro T453 h453 a453 g453 X453 e453 E453 G453
              have nw_a453 : n0 ≤ a453 := Nat.le_trans Z0 (Nat.le_of_eq g453.symm)
              have lt_a453 : a453 < h453.size := G453.lt
              have A453 : GA Z h453 a453 .char 2 (fun i => .int (own_c3 (0 : Int32) (0 : Int32) (0 : Int32) i)) := (GA.congr G453 (fun i _ => own_z3 i))
              show GoW p e below s _ _ _ T453 (mkF m 82 #[.val (.int x0), .val (.int x1), .val (.int x2), .val (.int x3), .val (.int x4), .val (.int (2 : Int32)), .val (.int (2 : Int32)), .val (.int (x2 &&& (255 : Int32))), .val (.int (x3 &&& (255 : Int32))), .val (.int (x4 &&& (255 : Int32))), .unset, .unset, .unset, .unset, .unset] [(.ref a453)])
              refine gw_st (fun _ kq => XS.dup X453.here hx rfl (hb hby at_82) rfl rfl kq) ?_
              show GoW p e below s _ _ _ T453 (mkF m 83 #[.val (.int x0), .val (.int x1), .val (.int x2), .val (.int x3), .val (.int x4), .val (.int (2 : Int32)), .val (.int (2 : Int32)), .val (.int (x2 &&& (255 : Int32))), .val (.int (x3 &&& (255 : Int32))), .val (.int (x4 &&& (255 : Int32))), .unset, .unset, .unset, .unset, .unset] [(.ref a453), (.ref a453)])
              refine gw_st (fun _ kq => XT.iconstV X453.here hx rfl (0 : Int32) (hb hby at_83) (by decide) kq) ?_
              show GoW p e below s _ _ _ T453 (mkF m 84 #[.val (.int x0), .val (.int x1), .val (.int x2), .val (.int x3), .val (.int x4), .val (.int (2 : Int32)), .val (.int (2 : Int32)), .val (.int (x2 &&& (255 : Int32))), .val (.int (x3 &&& (255 : Int32))), .val (.int (x4 &&& (255 : Int32))), .unset, .unset, .unset, .unset, .unset] [(.int (0 : Int32)), (.ref a453), (.ref a453)])
              refine gw_st (fun _ kq => XS.iload X453.here hx rfl (hb hby at_84) rfl kq) ?_
              show GoW p e below s _ _ _ T453 (mkF m 86 #[.val (.int x0), .val (.int x1), .val (.int x2), .val (.int x3), .val (.int x4), .val (.int (2 : Int32)), .val (.int (2 : Int32)), .val (.int (x2 &&& (255 : Int32))), .val (.int (x3 &&& (255 : Int32))), .val (.int (x4 &&& (255 : Int32))), .unset, .unset, .unset, .unset, .unset] [(.int (x2 &&& (255 : Int32))), (.int (0 : Int32)), (.ref a453), (.ref a453)])
              refine gw_cast X453 hx hZ e453 A453 (hb hby at_86) rfl rfl (by decide) ?_
              intro T454 h454 X454 e454 W454 G454
              have N454 := Fr.snoc X454 N0 nw_a453
              have A454 : GA Z h454 a453 .char 2 (fun i => .int (own_c3 (x2 &&& (255 : Int32)) (0 : Int32) (0 : Int32) i)) := (own_stc (own_nc (own_lat _)) (by decide) (own_c30 (x2 &&& (255 : Int32)) (0 : Int32) (0 : Int32) (0 : Int32)) G454)
              show GoW p e below s _ _ _ T454 (mkF m 87 #[.val (.int x0), .val (.int x1), .val (.int x2), .val (.int x3), .val (.int x4), .val (.int (2 : Int32)), .val (.int (2 : Int32)), .val (.int (x2 &&& (255 : Int32))), .val (.int (x3 &&& (255 : Int32))), .val (.int (x4 &&& (255 : Int32))), .unset, .unset, .unset, .unset, .unset] [(.ref a453)])
              refine gw_st (fun _ kq => XS.dup X454.here hx rfl (hb hby at_87) rfl rfl kq) ?_
              show GoW p e below s _ _ _ T454 (mkF m 88 #[.val (.int x0), .val (.int x1), .val (.int x2), .val (.int x3), .val (.int x4), .val (.int (2 : Int32)), .val (.int (2 : Int32)), .val (.int (x2 &&& (255 : Int32))), .val (.int (x3 &&& (255 : Int32))), .val (.int (x4 &&& (255 : Int32))), .unset, .unset, .unset, .unset, .unset] [(.ref a453), (.ref a453)])
              refine gw_st (fun _ kq => XT.iconstV X454.here hx rfl (1 : Int32) (hb hby at_88) (by decide) kq) ?_
              show GoW p e below s _ _ _ T454 (mkF m 89 #[.val (.int x0), .val (.int x1), .val (.int x2), .val (.int x3), .val (.int x4), .val (.int (2 : Int32)), .val (.int (2 : Int32)), .val (.int (x2 &&& (255 : Int32))), .val (.int (x3 &&& (255 : Int32))), .val (.int (x4 &&& (255 : Int32))), .unset, .unset, .unset, .unset, .unset] [(.int (1 : Int32)), (.ref a453), (.ref a453)])
              refine gw_st (fun _ kq => XS.iload X454.here hx rfl (hb hby at_89) rfl kq) ?_
              show GoW p e below s _ _ _ T454 (mkF m 91 #[.val (.int x0), .val (.int x1), .val (.int x2), .val (.int x3), .val (.int x4), .val (.int (2 : Int32)), .val (.int (2 : Int32)), .val (.int (x2 &&& (255 : Int32))), .val (.int (x3 &&& (255 : Int32))), .val (.int (x4 &&& (255 : Int32))), .unset, .unset, .unset, .unset, .unset] [(.int (x3 &&& (255 : Int32))), (.int (1 : Int32)), (.ref a453), (.ref a453)])
              refine gw_cast X454 hx hZ e454 A454 (hb hby at_91) rfl rfl (by decide) ?_
              intro T455 h455 X455 e455 W455 G455
              have N455 := Fr.snoc X455 N454 nw_a453
              have A455 : GA Z h455 a453 .char 2 (fun i => .int (own_c3 (x2 &&& (255 : Int32)) (x3 &&& (255 : Int32)) (0 : Int32) i)) := (own_stc (own_nc (own_lat _)) (by decide) (own_c31 (x3 &&& (255 : Int32)) (x2 &&& (255 : Int32)) (0 : Int32) (0 : Int32)) G455)
              show GoW p e below s _ _ _ T455 (mkF m 92 #[.val (.int x0), .val (.int x1), .val (.int x2), .val (.int x3), .val (.int x4), .val (.int (2 : Int32)), .val (.int (2 : Int32)), .val (.int (x2 &&& (255 : Int32))), .val (.int (x3 &&& (255 : Int32))), .val (.int (x4 &&& (255 : Int32))), .unset, .unset, .unset, .unset, .unset] [(.ref a453)])
              refine gw_st (fun _ kq => XS.astore X455.here hx rfl (hb hby at_92) rfl rfl (l' := #[.val (.int x0), .val (.int x1), .val (.int x2), .val (.int x3), .val (.int x4), .val (.int (2 : Int32)), .val (.int (2 : Int32)), .val (.int (x2 &&& (255 : Int32))), .val (.int (x3 &&& (255 : Int32))), .val (.int (x4 &&& (255 : Int32))), .val (.ref a453), .unset, .unset, .unset, .unset]) rfl kq) ?_
              show GoW p e below s _ _ _ T455 (mkF m 94 #[.val (.int x0), .val (.int x1), .val (.int x2), .val (.int x3), .val (.int x4), .val (.int (2 : Int32)), .val (.int (2 : Int32)), .val (.int (x2 &&& (255 : Int32))), .val (.int (x3 &&& (255 : Int32))), .val (.int (x4 &&& (255 : Int32))), .val (.ref a453), .unset, .unset, .unset, .unset] [])
              refine gw_st (fun _ kq => XS.goto X455.here hx rfl (pc0 := 94) (pc' := 117) rfl (hb hby at_94) (by decide) (by decide) kq) ?_
              show GoW p e below s _ _ _ T455 (mkF m 117 #[.val (.int x0), .val (.int x1), .val (.int x2), .val (.int x3), .val (.int x4), .val (.int (2 : Int32)), .val (.int (2 : Int32)), .val (.int (x2 &&& (255 : Int32))), .val (.int (x3 &&& (255 : Int32))), .val (.int (x4 &&& (255 : Int32))), .val (.ref a453), .unset, .unset, .unset, .unset] [])
              refine gw_newO X455 hx hZ hown (hw _ (List.mem_of_getElem? (i := 2) rfl)) (hw _ (List.mem_of_getElem? (i := 3) rfl)) (hw _ (List.mem_of_getElem? (i := 4) rfl)) e455 (hb hby at_117) rfl (by decide) (by decide) ?_
              intro T456 h456 a456 g456 X456 e456 E456 A456 D456
              have y457 : h0.size ≤ h453.size := Nat.le_trans (Nat.le_refl _) E453.1
              have y458 : h0.size ≤ h454.size := (Wr.size W454).symm ▸ y457
              have y459 : h0.size ≤ h455.size := (Wr.size W455).symm ▸ y458
              have c460 : a453 < h454.size := (Wr.size W454).symm ▸ lt_a453
              have c461 : a453 < h455.size := (Wr.size W455).symm ▸ c460
              have ne462 : a453 ≠ a456 := fun q => Nat.lt_irrefl _ (Nat.lt_of_lt_of_le c461 (Nat.le_of_eq (g456.symm.trans q.symm)))
              have z463 : n0 ≤ h453.size := Nat.le_trans Z0 E453.1
              have z464 : n0 ≤ h454.size := (Wr.size W454).symm ▸ z463
              have z465 : n0 ≤ h455.size := (Wr.size W455).symm ▸ z464
              have nw_a456 : n0 ≤ a456 := Nat.le_trans z465 (Nat.le_of_eq g456.symm)
              have lt_a456 : a456 < h456.size := A456.lt
              have F466 : Fld Z h456 a456 "com/example/wirecall/wirecall/TextCursor" "text" "Ljava/lang/String;" .null := D456 (Or.inr (hw _ (List.mem_of_getElem? (i := 31) rfl))) (ty := (.object "java/lang/String")) (by decide)
              have F467 : Fld Z h456 a456 "com/example/wirecall/wirecall/TextCursor" "pos" "I" (.int (0 : Int32)) := D456 (Or.inl (hw _ (List.mem_of_getElem? (i := 38) rfl))) (ty := .int) (by decide)
              show GoW p e below s _ _ _ T456 (mkF m 120 #[.val (.int x0), .val (.int x1), .val (.int x2), .val (.int x3), .val (.int x4), .val (.int (2 : Int32)), .val (.int (2 : Int32)), .val (.int (x2 &&& (255 : Int32))), .val (.int (x3 &&& (255 : Int32))), .val (.int (x4 &&& (255 : Int32))), .val (.ref a453), .unset, .unset, .unset, .unset] [(.ref a456)])
              refine gw_st (fun _ kq => XS.dup X456.here hx rfl (hb hby at_120) rfl rfl kq) ?_
              show GoW p e below s _ _ _ T456 (mkF m 121 #[.val (.int x0), .val (.int x1), .val (.int x2), .val (.int x3), .val (.int x4), .val (.int (2 : Int32)), .val (.int (2 : Int32)), .val (.int (x2 &&& (255 : Int32))), .val (.int (x3 &&& (255 : Int32))), .val (.int (x4 &&& (255 : Int32))), .val (.ref a453), .unset, .unset, .unset, .unset] [(.ref a456), (.ref a456)])
              refine gw_newO X456 hx hZ hown (hw _ (List.mem_of_getElem? (i := 5) rfl)) (hw _ (List.mem_of_getElem? (i := 6) rfl)) (hw _ (List.mem_of_getElem? (i := 7) rfl)) e456 (hb hby at_121) rfl (by decide) (by decide) ?_
              intro T468 h468 a468 g468 X468 e468 E468 A468 D468
              have y469 : h0.size ≤ h456.size := Nat.le_trans y459 E456.1
              have c470 : a453 < h456.size := Nat.lt_of_lt_of_le c461 E456.1
              have ne471 : a453 ≠ a468 := fun q => Nat.lt_irrefl _ (Nat.lt_of_lt_of_le c470 (Nat.le_of_eq (g468.symm.trans q.symm)))
              have ne472 : a456 ≠ a468 := fun q => Nat.lt_irrefl _ (Nat.lt_of_lt_of_le lt_a456 (Nat.le_of_eq (g468.symm.trans q.symm)))
              have z473 : n0 ≤ h456.size := Nat.le_trans z465 E456.1
              have nw_a468 : n0 ≤ a468 := Nat.le_trans z473 (Nat.le_of_eq g468.symm)
              have lt_a468 : a468 < h468.size := A468.lt
              have F474 : Fld Z h468 a468 "java/lang/String" "value" "[B" .null := D468 (Or.inr (hw _ (List.mem_of_getElem? (i := 20) rfl))) (ty := (.array .byte)) (by decide)
              have F475 : Fld Z h468 a468 "java/lang/String" "coder" "B" (.int (0 : Int32)) := D468 (Or.inr (hw _ (List.mem_of_getElem? (i := 21) rfl))) (ty := .byte) (by decide)
              show GoW p e below s _ _ _ T468 (mkF m 124 #[.val (.int x0), .val (.int x1), .val (.int x2), .val (.int x3), .val (.int x4), .val (.int (2 : Int32)), .val (.int (2 : Int32)), .val (.int (x2 &&& (255 : Int32))), .val (.int (x3 &&& (255 : Int32))), .val (.int (x4 &&& (255 : Int32))), .val (.ref a453), .unset, .unset, .unset, .unset] [(.ref a468), (.ref a456), (.ref a456)])
              refine gw_st (fun _ kq => XS.dup X468.here hx rfl (hb hby at_124) rfl rfl kq) ?_
              show GoW p e below s _ _ _ T468 (mkF m 125 #[.val (.int x0), .val (.int x1), .val (.int x2), .val (.int x3), .val (.int x4), .val (.int (2 : Int32)), .val (.int (2 : Int32)), .val (.int (x2 &&& (255 : Int32))), .val (.int (x3 &&& (255 : Int32))), .val (.int (x4 &&& (255 : Int32))), .val (.ref a453), .unset, .unset, .unset, .unset] [(.ref a468), (.ref a468), (.ref a456), (.ref a456)])
              refine gw_st (fun _ kq => XS.aload X468.here hx rfl (hb hby at_125) rfl rfl kq) ?_
              show GoW p e below s _ _ _ T468 (mkF m 127 #[.val (.int x0), .val (.int x1), .val (.int x2), .val (.int x3), .val (.int x4), .val (.int (2 : Int32)), .val (.int (2 : Int32)), .val (.int (x2 &&& (255 : Int32))), .val (.int (x3 &&& (255 : Int32))), .val (.int (x4 &&& (255 : Int32))), .val (.ref a453), .unset, .unset, .unset, .unset] [(.ref a453), (.ref a468), (.ref a468), (.ref a456), (.ref a456)])
              have c477 := A455.ext E456
              have c478 := c477.ext E468
              have c479 := Old.ext O0 E453
              have c480 := Old.wr c479 W454 nw_a453
              have c481 := Old.wr c480 W455 nw_a453
              have c482 := Old.ext c481 E456
              have c483 := Old.ext c482 E468
              have z484 : n0 ≤ h468.size := Nat.le_trans z473 E468.1
              refine gw_callI X468 hx hZ hml hown rfl (hw _ (List.mem_of_getElem? (i := 8) rfl)) (hw _ (List.mem_of_getElem? (i := 9) rfl)) (hw _ (List.mem_of_getElem? (i := 10) rfl)) (hw _ (List.mem_of_getElem? (i := 7) rfl)) e468 (argsL := [(.ref a453)]) (rest := [(.ref a468), (.ref a456), (.ref a456)]) (W := 3) (met_s2 l Z a0 hw a468 a453 (x2 &&& (255 : Int32)) (x3 &&& (255 : Int32)) zc h468 n0 z484 A468 F474 F475 nw_a468 c478 (Ne.symm ne471) (own_lat _) (own_lat _) c483 S0 zn) (hb hby at_127) rfl rfl rfl (lenOf pd6 rfl) (by show 2 * 0 + _ ≤ _; exact Nat.le_of_eq rfl) (by decide) (by decide) (by decide) (by decide) (by decide) ?_
              intro T476 v476 L476 X476 q476
              obtain ⟨r_476, rfl, M476, K476, fz476_r, f476_0, f476_1, f476_2, f476_3⟩ := q476
              have N476 := Fr.app N455 M476
              have c485 : a453 < h468.size := Nat.lt_of_lt_of_le c470 E468.1
              have ne486 : a453 ≠ r_476 := Nat.ne_of_lt (Nat.lt_of_lt_of_le c485 fz476_r)
              have c487 : a456 < h468.size := Nat.lt_of_lt_of_le lt_a456 E468.1
              have ne488 : a456 ≠ r_476 := Nat.ne_of_lt (Nat.lt_of_lt_of_le c487 fz476_r)
              have ne489 : a468 ≠ r_476 := Nat.ne_of_lt (Nat.lt_of_lt_of_le lt_a468 fz476_r)
              have nw_r_476 : n0 ≤ r_476 := Nat.le_trans z484 fz476_r
              have y490 : h0.size ≤ h468.size := Nat.le_trans y469 E468.1
              have lt_r_476 : r_476 < T476.heap.size := f476_3.lt
              show GoW p e below s _ _ _ T476 (mkF m 130 #[.val (.int x0), .val (.int x1), .val (.int x2), .val (.int x3), .val (.int x4), .val (.int (2 : Int32)), .val (.int (2 : Int32)), .val (.int (x2 &&& (255 : Int32))), .val (.int (x3 &&& (255 : Int32))), .val (.int (x4 &&& (255 : Int32))), .val (.ref a453), .unset, .unset, .unset, .unset] [(.ref a468), (.ref a456), (.ref a456)])
              have c492 := Exa.ext E468 A456
              have c493 := Exa.keep c492 K476
              have c494 := Fld.ext E468 F466
              have c495 := Fld.keep c494 K476 (ninS ne472 nin0)
              have c496 := Fld.ext E468 F467
              have c497 := Fld.keep c496 K476 (ninS ne472 nin0)
              have z498 : n0 ≤ T476.heap.size := Nat.le_trans z484 K476.1
              refine gw_callI X476 hx hZ hml hown rfl (hw _ (List.mem_of_getElem? (i := 26) rfl)) (hw _ (List.mem_of_getElem? (i := 27) rfl)) (hw _ (List.mem_of_getElem? (i := 28) rfl)) (hw _ (List.mem_of_getElem? (i := 4) rfl)) rfl (argsL := [(.ref a468)]) (rest := [(.ref a456)]) (W := 1) (met_tci l Z a0 hw a456 a468 T476.heap n0 z498 c493 c495 c497 nw_a456) (hb hby at_130) rfl rfl rfl (lenOf pd7 rfl) (by show 2 * 0 + _ ≤ _; exact Nat.le_of_eq rfl) (by decide) (by decide) (by decide) (by decide) (by decide) ?_
              intro T491 v491 L491 X491 q491
              obtain ⟨rfl, M491, K491, f491_0, f491_1⟩ := q491
              have N491 := Fr.app N476 M491
              show GoW p e below s _ _ _ T491 (mkF m 133 #[.val (.int x0), .val (.int x1), .val (.int x2), .val (.int x3), .val (.int x4), .val (.int (2 : Int32)), .val (.int (2 : Int32)), .val (.int (x2 &&& (255 : Int32))), .val (.int (x3 &&& (255 : Int32))), .val (.int (x4 &&& (255 : Int32))), .val (.ref a453), .unset, .unset, .unset, .unset] [(.ref a456)])
              refine gw_st (fun _ kq => XS.astore X491.here hx rfl (hb hby at_133) rfl rfl (l' := #[.val (.int x0), .val (.int x1), .val (.int x2), .val (.int x3), .val (.int x4), .val (.int (2 : Int32)), .val (.int (2 : Int32)), .val (.int (x2 &&& (255 : Int32))), .val (.int (x3 &&& (255 : Int32))), .val (.int (x4 &&& (255 : Int32))), .val (.ref a453), .val (.ref a456), .unset, .unset, .unset]) rfl kq) ?_
              show GoW p e below s _ _ _ T491 (mkF m 135 #[.val (.int x0), .val (.int x1), .val (.int x2), .val (.int x3), .val (.int x4), .val (.int (2 : Int32)), .val (.int (2 : Int32)), .val (.int (x2 &&& (255 : Int32))), .val (.int (x3 &&& (255 : Int32))), .val (.int (x4 &&& (255 : Int32))), .val (.ref a453), .val (.ref a456), .unset, .unset, .unset] [])
              refine gw_st (fun _ kq => XS.aload X491.here hx rfl (hb hby at_135) rfl rfl kq) ?_
              show GoW p e below s _ _ _ T491 (mkF m 137 #[.val (.int x0), .val (.int x1), .val (.int x2), .val (.int x3), .val (.int x4), .val (.int (2 : Int32)), .val (.int (2 : Int32)), .val (.int (x2 &&& (255 : Int32))), .val (.int (x3 &&& (255 : Int32))), .val (.int (x4 &&& (255 : Int32))), .val (.ref a453), .val (.ref a456), .unset, .unset, .unset] [(.ref a456)])
              have c500 := Exa.keep f476_0 K491
              have c501 := Fld.keep f476_1 K491 (ninS (Ne.symm ne472) nin0)
              have c502 := Fld.keep f476_2 K491 (ninS (Ne.symm ne472) nin0)
              have c503 := GA.keep f476_3 K491 (ninS (Ne.symm ne488) nin0)
              have c504 := Old.keep c483 K476 (allS nw_a468 all0)
              have c505 := Old.keep c504 K491 (allS nw_a456 all0)
              have z506 : n0 ≤ T491.heap.size := Nat.le_trans z498 K491.1
              have c507 := Exa.keep c493 K491
              refine gw_callV X491 hx hZ hml hown (hw _ (List.mem_of_getElem? (i := 32) rfl)) (hw _ (List.mem_of_getElem? (i := 33) rfl)) (notFace_of_selects (args := #[]) (mvT hZ (hw _ (List.mem_of_getElem? (i := 35) rfl)))) (hw _ (List.mem_of_getElem? (i := 35) rfl)) (hw _ (List.mem_of_getElem? (i := 34) rfl)) (hw _ (List.mem_of_getElem? (i := 36) rfl)) (hw _ (List.mem_of_getElem? (i := 4) rfl)) rfl c507 (argsL := []) (rest := []) (W := 0) (met_end20 l Z a0 hw a456 a468 r_476 (fun i => .int (own_c3 (own_by (x2 &&& (255 : Int32))) (own_by (x3 &&& (255 : Int32))) (0 : Int32) i)) zc T491.heap n0 z506 f491_1 f491_0 c500 c501 c502 c503 c505 S0 zn) (hb hby at_137) rfl rfl rfl (lenOf pd8 rfl) (by show 2 * 0 + _ ≤ _; exact Nat.le_of_eq rfl) (by decide) (by decide) (by decide) (by decide) (by decide) ?_
              intro T499 v499 L499 X499 q499
              obtain ⟨rfl, M499, e499⟩ := q499
              have N499 := Fr.app N491 M499
              show GoW p e below s _ _ _ T499 (mkF m 140 #[.val (.int x0), .val (.int x1), .val (.int x2), .val (.int x3), .val (.int x4), .val (.int (2 : Int32)), .val (.int (2 : Int32)), .val (.int (x2 &&& (255 : Int32))), .val (.int (x3 &&& (255 : Int32))), .val (.int (x4 &&& (255 : Int32))), .val (.ref a453), .val (.ref a456), .unset, .unset, .unset] [(.int (0 : Int32))])
              refine gw_st (fun _ kq => XS.iload X499.here hx rfl (hb hby at_140) rfl kq) ?_
              show GoW p e below s _ _ _ T499 (mkF m 142 #[.val (.int x0), .val (.int x1), .val (.int x2), .val (.int x3), .val (.int x4), .val (.int (2 : Int32)), .val (.int (2 : Int32)), .val (.int (x2 &&& (255 : Int32))), .val (.int (x3 &&& (255 : Int32))), .val (.int (x4 &&& (255 : Int32))), .val (.ref a453), .val (.ref a456), .unset, .unset, .unset] [(.int (2 : Int32)), (.int (0 : Int32))])
              refine gw_st (fun _ kq => XS.ifYes X499.here hx rfl (pc0 := 142) (pc' := 149) rfl (hb hby at_142) rfl (XT.i0_ne_t (by decide)) (by decide) (by decide) kq) ?_
              show GoW p e below s _ _ _ T499 (mkF m 149 #[.val (.int x0), .val (.int x1), .val (.int x2), .val (.int x3), .val (.int x4), .val (.int (2 : Int32)), .val (.int (2 : Int32)), .val (.int (x2 &&& (255 : Int32))), .val (.int (x3 &&& (255 : Int32))), .val (.int (x4 &&& (255 : Int32))), .val (.ref a453), .val (.ref a456), .unset, .unset, .unset] [(.int (0 : Int32))])
              refine gw_st (fun _ kq => XT.iconstV X499.here hx rfl (0 : Int32) (hb hby at_149) (by decide) kq) ?_
              show GoW p e below s _ _ _ T499 (mkF m 150 #[.val (.int x0), .val (.int x1), .val (.int x2), .val (.int x3), .val (.int x4), .val (.int (2 : Int32)), .val (.int (2 : Int32)), .val (.int (x2 &&& (255 : Int32))), .val (.int (x3 &&& (255 : Int32))), .val (.int (x4 &&& (255 : Int32))), .val (.ref a453), .val (.ref a456), .unset, .unset, .unset] [(.int (0 : Int32)), (.int (0 : Int32))])
              refine gw_st (fun _ kq => XS.icmpNo X499.here hx rfl (hb hby at_150) rfl (XT.ii_ne_f (by decide)) kq) ?_
              show GoW p e below s _ _ _ T499 (mkF m 153 #[.val (.int x0), .val (.int x1), .val (.int x2), .val (.int x3), .val (.int x4), .val (.int (2 : Int32)), .val (.int (2 : Int32)), .val (.int (x2 &&& (255 : Int32))), .val (.int (x3 &&& (255 : Int32))), .val (.int (x4 &&& (255 : Int32))), .val (.ref a453), .val (.ref a456), .unset, .unset, .unset] [])
              refine gw_st (fun _ kq => XT.iconstV X499.here hx rfl (1 : Int32) (hb hby at_153) (by decide) kq) ?_
              show GoW p e below s _ _ _ T499 (mkF m 154 #[.val (.int x0), .val (.int x1), .val (.int x2), .val (.int x3), .val (.int x4), .val (.int (2 : Int32)), .val (.int (2 : Int32)), .val (.int (x2 &&& (255 : Int32))), .val (.int (x3 &&& (255 : Int32))), .val (.int (x4 &&& (255 : Int32))), .val (.ref a453), .val (.ref a456), .unset, .unset, .unset] [(.int (1 : Int32))])
              refine gw_st (fun _ kq => XS.goto X499.here hx rfl (pc0 := 154) (pc' := 158) rfl (hb hby at_154) (by decide) (by decide) kq) ?_
              show GoW p e below s _ _ _ T499 (mkF m 158 #[.val (.int x0), .val (.int x1), .val (.int x2), .val (.int x3), .val (.int x4), .val (.int (2 : Int32)), .val (.int (2 : Int32)), .val (.int (x2 &&& (255 : Int32))), .val (.int (x3 &&& (255 : Int32))), .val (.int (x4 &&& (255 : Int32))), .val (.ref a453), .val (.ref a456), .unset, .unset, .unset] [(.int (1 : Int32))])
              refine gw_st (fun _ kq => XS.istore X499.here hx rfl (hb hby at_158) rfl (l' := #[.val (.int x0), .val (.int x1), .val (.int x2), .val (.int x3), .val (.int x4), .val (.int (2 : Int32)), .val (.int (2 : Int32)), .val (.int (x2 &&& (255 : Int32))), .val (.int (x3 &&& (255 : Int32))), .val (.int (x4 &&& (255 : Int32))), .val (.ref a453), .val (.ref a456), .val (.int (1 : Int32)), .unset, .unset]) rfl kq) ?_
              show GoW p e below s _ _ _ T499 (mkF m 160 #[.val (.int x0), .val (.int x1), .val (.int x2), .val (.int x3), .val (.int x4), .val (.int (2 : Int32)), .val (.int (2 : Int32)), .val (.int (x2 &&& (255 : Int32))), .val (.int (x3 &&& (255 : Int32))), .val (.int (x4 &&& (255 : Int32))), .val (.ref a453), .val (.ref a456), .val (.int (1 : Int32)), .unset, .unset] [])
              refine gw_st (fun _ kq => XS.iload X499.here hx rfl (hb hby at_160) rfl kq) ?_
              show GoW p e below s _ _ _ T499 (mkF m 162 #[.val (.int x0), .val (.int x1), .val (.int x2), .val (.int x3), .val (.int x4), .val (.int (2 : Int32)), .val (.int (2 : Int32)), .val (.int (x2 &&& (255 : Int32))), .val (.int (x3 &&& (255 : Int32))), .val (.int (x4 &&& (255 : Int32))), .val (.ref a453), .val (.ref a456), .val (.int (1 : Int32)), .unset, .unset] [(.int (2 : Int32))])
              refine gw_st (fun _ kq => XT.iconstV X499.here hx rfl (1 : Int32) (hb hby at_162) (by decide) kq) ?_
              show GoW p e below s _ _ _ T499 (mkF m 163 #[.val (.int x0), .val (.int x1), .val (.int x2), .val (.int x3), .val (.int x4), .val (.int (2 : Int32)), .val (.int (2 : Int32)), .val (.int (x2 &&& (255 : Int32))), .val (.int (x3 &&& (255 : Int32))), .val (.int (x4 &&& (255 : Int32))), .val (.ref a453), .val (.ref a456), .val (.int (1 : Int32)), .unset, .unset] [(.int (1 : Int32)), (.int (2 : Int32))])
              refine gw_st (fun _ kq => XS.icmpNo X499.here hx rfl (hb hby at_163) rfl (XT.ii_lt_f (by decide)) kq) ?_
              show GoW p e below s _ _ _ T499 (mkF m 166 #[.val (.int x0), .val (.int x1), .val (.int x2), .val (.int x3), .val (.int x4), .val (.int (2 : Int32)), .val (.int (2 : Int32)), .val (.int (x2 &&& (255 : Int32))), .val (.int (x3 &&& (255 : Int32))), .val (.int (x4 &&& (255 : Int32))), .val (.ref a453), .val (.ref a456), .val (.int (1 : Int32)), .unset, .unset] [])
              refine gw_st (fun _ kq => XS.aload X499.here hx rfl (hb hby at_166) rfl rfl kq) ?_
              show GoW p e below s _ _ _ T499 (mkF m 168 #[.val (.int x0), .val (.int x1), .val (.int x2), .val (.int x3), .val (.int x4), .val (.int (2 : Int32)), .val (.int (2 : Int32)), .val (.int (x2 &&& (255 : Int32))), .val (.int (x3 &&& (255 : Int32))), .val (.int (x4 &&& (255 : Int32))), .val (.ref a453), .val (.ref a456), .val (.int (1 : Int32)), .unset, .unset] [(.ref a456)])
              refine gw_callV X499 hx hZ hml hown (hw _ (List.mem_of_getElem? (i := 65) rfl)) (hw _ (List.mem_of_getElem? (i := 66) rfl)) (notFace_of_selects (args := #[]) (mvT hZ (hw _ (List.mem_of_getElem? (i := 68) rfl)))) (hw _ (List.mem_of_getElem? (i := 68) rfl)) (hw _ (List.mem_of_getElem? (i := 67) rfl)) (hw _ (List.mem_of_getElem? (i := 69) rfl)) (hw _ (List.mem_of_getElem? (i := 4) rfl)) e499 c507 (argsL := []) (rest := []) (W := 0) (met_sk0 l Z a0 hw a456 a468 T491.heap n0 z506 c507 f491_0 f491_1 nw_a456) (hb hby at_168) rfl rfl rfl (lenOf pd9 rfl) (by show 2 * 0 + _ ≤ _; exact Nat.le_of_eq rfl) (by decide) (by decide) (by decide) (by decide) (by decide) ?_
              intro T508 v508 L508 X508 q508
              obtain ⟨rfl, M508, K508, f508_0, f508_1⟩ := q508
              have N508 := Fr.app N499 M508
              show GoW p e below s _ _ _ T508 (mkF m 171 #[.val (.int x0), .val (.int x1), .val (.int x2), .val (.int x3), .val (.int x4), .val (.int (2 : Int32)), .val (.int (2 : Int32)), .val (.int (x2 &&& (255 : Int32))), .val (.int (x3 &&& (255 : Int32))), .val (.int (x4 &&& (255 : Int32))), .val (.ref a453), .val (.ref a456), .val (.int (1 : Int32)), .unset, .unset] [])
              refine gw_st (fun _ kq => XS.iload X508.here hx rfl (hb hby at_171) rfl kq) ?_
              show GoW p e below s _ _ _ T508 (mkF m 173 #[.val (.int x0), .val (.int x1), .val (.int x2), .val (.int x3), .val (.int x4), .val (.int (2 : Int32)), .val (.int (2 : Int32)), .val (.int (x2 &&& (255 : Int32))), .val (.int (x3 &&& (255 : Int32))), .val (.int (x4 &&& (255 : Int32))), .val (.ref a453), .val (.ref a456), .val (.int (1 : Int32)), .unset, .unset] [(.int (2 : Int32))])
              refine gw_st (fun _ kq => XT.iconstV X508.here hx rfl (2 : Int32) (hb hby at_173) (by decide) kq) ?_
              show GoW p e below s _ _ _ T508 (mkF m 174 #[.val (.int x0), .val (.int x1), .val (.int x2), .val (.int x3), .val (.int x4), .val (.int (2 : Int32)), .val (.int (2 : Int32)), .val (.int (x2 &&& (255 : Int32))), .val (.int (x3 &&& (255 : Int32))), .val (.int (x4 &&& (255 : Int32))), .val (.ref a453), .val (.ref a456), .val (.int (1 : Int32)), .unset, .unset] [(.int (2 : Int32)), (.int (2 : Int32))])
              refine gw_st (fun _ kq => XS.icmpNo X508.here hx rfl (hb hby at_174) rfl (XT.ii_lt_f (by decide)) kq) ?_
              show GoW p e below s _ _ _ T508 (mkF m 177 #[.val (.int x0), .val (.int x1), .val (.int x2), .val (.int x3), .val (.int x4), .val (.int (2 : Int32)), .val (.int (2 : Int32)), .val (.int (x2 &&& (255 : Int32))), .val (.int (x3 &&& (255 : Int32))), .val (.int (x4 &&& (255 : Int32))), .val (.ref a453), .val (.ref a456), .val (.int (1 : Int32)), .unset, .unset] [])
              refine gw_st (fun _ kq => XS.aload X508.here hx rfl (hb hby at_177) rfl rfl kq) ?_
              show GoW p e below s _ _ _ T508 (mkF m 179 #[.val (.int x0), .val (.int x1), .val (.int x2), .val (.int x3), .val (.int x4), .val (.int (2 : Int32)), .val (.int (2 : Int32)), .val (.int (x2 &&& (255 : Int32))), .val (.int (x3 &&& (255 : Int32))), .val (.int (x4 &&& (255 : Int32))), .val (.ref a453), .val (.ref a456), .val (.int (1 : Int32)), .unset, .unset] [(.ref a456)])
              have c510 := Exa.keep c507 K508
              have z511 : n0 ≤ T508.heap.size := Nat.le_trans z506 K508.1
              refine gw_callV X508 hx hZ hml hown (hw _ (List.mem_of_getElem? (i := 65) rfl)) (hw _ (List.mem_of_getElem? (i := 66) rfl)) (notFace_of_selects (args := #[]) (mvT hZ (hw _ (List.mem_of_getElem? (i := 68) rfl)))) (hw _ (List.mem_of_getElem? (i := 68) rfl)) (hw _ (List.mem_of_getElem? (i := 67) rfl)) (hw _ (List.mem_of_getElem? (i := 69) rfl)) (hw _ (List.mem_of_getElem? (i := 4) rfl)) rfl c510 (argsL := []) (rest := []) (W := 0) (met_sk1 l Z a0 hw a456 a468 T508.heap n0 z511 c510 f508_0 f508_1 nw_a456) (hb hby at_179) rfl rfl rfl (lenOf pd9 rfl) (by show 2 * 0 + _ ≤ _; exact Nat.le_of_eq rfl) (by decide) (by decide) (by decide) (by decide) (by decide) ?_
              intro T509 v509 L509 X509 q509
              obtain ⟨rfl, M509, K509, f509_0, f509_1⟩ := q509
              have N509 := Fr.app N508 M509
              show GoW p e below s _ _ _ T509 (mkF m 182 #[.val (.int x0), .val (.int x1), .val (.int x2), .val (.int x3), .val (.int x4), .val (.int (2 : Int32)), .val (.int (2 : Int32)), .val (.int (x2 &&& (255 : Int32))), .val (.int (x3 &&& (255 : Int32))), .val (.int (x4 &&& (255 : Int32))), .val (.ref a453), .val (.ref a456), .val (.int (1 : Int32)), .unset, .unset] [])
              refine gw_st (fun _ kq => XS.iload X509.here hx rfl (hb hby at_182) rfl kq) ?_
              show GoW p e below s _ _ _ T509 (mkF m 184 #[.val (.int x0), .val (.int x1), .val (.int x2), .val (.int x3), .val (.int x4), .val (.int (2 : Int32)), .val (.int (2 : Int32)), .val (.int (x2 &&& (255 : Int32))), .val (.int (x3 &&& (255 : Int32))), .val (.int (x4 &&& (255 : Int32))), .val (.ref a453), .val (.ref a456), .val (.int (1 : Int32)), .unset, .unset] [(.int (2 : Int32))])
              refine gw_st (fun _ kq => XT.iconstV X509.here hx rfl (3 : Int32) (hb hby at_184) (by decide) kq) ?_
              show GoW p e below s _ _ _ T509 (mkF m 185 #[.val (.int x0), .val (.int x1), .val (.int x2), .val (.int x3), .val (.int x4), .val (.int (2 : Int32)), .val (.int (2 : Int32)), .val (.int (x2 &&& (255 : Int32))), .val (.int (x3 &&& (255 : Int32))), .val (.int (x4 &&& (255 : Int32))), .val (.ref a453), .val (.ref a456), .val (.int (1 : Int32)), .unset, .unset] [(.int (3 : Int32)), (.int (2 : Int32))])
              refine gw_st (fun _ kq => XS.icmpYes X509.here hx rfl (pc0 := 185) (pc' := 193) rfl (hb hby at_185) rfl (XT.ii_lt_t (by decide)) (by decide) (by decide) kq) ?_
              show GoW p e below s _ _ _ T509 (mkF m 193 #[.val (.int x0), .val (.int x1), .val (.int x2), .val (.int x3), .val (.int x4), .val (.int (2 : Int32)), .val (.int (2 : Int32)), .val (.int (x2 &&& (255 : Int32))), .val (.int (x3 &&& (255 : Int32))), .val (.int (x4 &&& (255 : Int32))), .val (.ref a453), .val (.ref a456), .val (.int (1 : Int32)), .unset, .unset] [])
              refine gw_st (fun _ kq => XS.aload X509.here hx rfl (hb hby at_193) rfl rfl kq) ?_
              show GoW p e below s _ _ _ T509 (mkF m 195 #[.val (.int x0), .val (.int x1), .val (.int x2), .val (.int x3), .val (.int x4), .val (.int (2 : Int32)), .val (.int (2 : Int32)), .val (.int (x2 &&& (255 : Int32))), .val (.int (x3 &&& (255 : Int32))), .val (.int (x4 &&& (255 : Int32))), .val (.ref a453), .val (.ref a456), .val (.int (1 : Int32)), .unset, .unset] [(.ref a456)])
              have c513 := Exa.keep c500 K508
              have c514 := Exa.keep c513 K509
              have c515 := Fld.keep c501 K508 (ninS (Ne.symm ne472) nin0)
              have c516 := Fld.keep c515 K509 (ninS (Ne.symm ne472) nin0)
              have c517 := Fld.keep c502 K508 (ninS (Ne.symm ne472) nin0)
              have c518 := Fld.keep c517 K509 (ninS (Ne.symm ne472) nin0)
              have c519 := GA.keep c503 K508 (ninS (Ne.symm ne488) nin0)
              have c520 := GA.keep c519 K509 (ninS (Ne.symm ne488) nin0)
              have c521 := Old.keep c505 K508 (allS nw_a456 all0)
              have c522 := Old.keep c521 K509 (allS nw_a456 all0)
              have z523 : n0 ≤ T509.heap.size := Nat.le_trans z511 K509.1
              have c524 := Exa.keep c510 K509
              refine gw_callV X509 hx hZ hml hown (hw _ (List.mem_of_getElem? (i := 32) rfl)) (hw _ (List.mem_of_getElem? (i := 33) rfl)) (notFace_of_selects (args := #[]) (mvT hZ (hw _ (List.mem_of_getElem? (i := 35) rfl)))) (hw _ (List.mem_of_getElem? (i := 35) rfl)) (hw _ (List.mem_of_getElem? (i := 34) rfl)) (hw _ (List.mem_of_getElem? (i := 36) rfl)) (hw _ (List.mem_of_getElem? (i := 4) rfl)) rfl c524 (argsL := []) (rest := []) (W := 0) (met_end22 l Z a0 hw a456 a468 r_476 (fun i => .int (own_c3 (own_by (x2 &&& (255 : Int32))) (own_by (x3 &&& (255 : Int32))) (0 : Int32) i)) zc T509.heap n0 z523 f509_1 f509_0 c514 c516 c518 c520 c522 S0 zn) (hb hby at_195) rfl rfl rfl (lenOf pd8 rfl) (by show 2 * 0 + _ ≤ _; exact Nat.le_of_eq rfl) (by decide) (by decide) (by decide) (by decide) (by decide) ?_
              intro T512 v512 L512 X512 q512
              obtain ⟨rfl, M512, e512⟩ := q512
              have N512 := Fr.app N509 M512
              show GoW p e below s _ _ _ T512 (mkF m 198 #[.val (.int x0), .val (.int x1), .val (.int x2), .val (.int x3), .val (.int x4), .val (.int (2 : Int32)), .val (.int (2 : Int32)), .val (.int (x2 &&& (255 : Int32))), .val (.int (x3 &&& (255 : Int32))), .val (.int (x4 &&& (255 : Int32))), .val (.ref a453), .val (.ref a456), .val (.int (1 : Int32)), .unset, .unset] [(.int (1 : Int32))])
              refine gw_st (fun _ kq => XS.iload X512.here hx rfl (hb hby at_198) rfl kq) ?_
              show GoW p e below s _ _ _ T512 (mkF m 200 #[.val (.int x0), .val (.int x1), .val (.int x2), .val (.int x3), .val (.int x4), .val (.int (2 : Int32)), .val (.int (2 : Int32)), .val (.int (x2 &&& (255 : Int32))), .val (.int (x3 &&& (255 : Int32))), .val (.int (x4 &&& (255 : Int32))), .val (.ref a453), .val (.ref a456), .val (.int (1 : Int32)), .unset, .unset] [(.int (2 : Int32)), (.int (1 : Int32))])
              refine gw_st (fun _ kq => XS.iload X512.here hx rfl (hb hby at_200) rfl kq) ?_
              show GoW p e below s _ _ _ T512 (mkF m 202 #[.val (.int x0), .val (.int x1), .val (.int x2), .val (.int x3), .val (.int x4), .val (.int (2 : Int32)), .val (.int (2 : Int32)), .val (.int (x2 &&& (255 : Int32))), .val (.int (x3 &&& (255 : Int32))), .val (.int (x4 &&& (255 : Int32))), .val (.ref a453), .val (.ref a456), .val (.int (1 : Int32)), .unset, .unset] [(.int (2 : Int32)), (.int (2 : Int32)), (.int (1 : Int32))])
              refine gw_st (fun _ kq => XS.icmpNo X512.here hx rfl (hb hby at_202) rfl (XT.ii_ne_f (by decide)) kq) ?_
              show GoW p e below s _ _ _ T512 (mkF m 205 #[.val (.int x0), .val (.int x1), .val (.int x2), .val (.int x3), .val (.int x4), .val (.int (2 : Int32)), .val (.int (2 : Int32)), .val (.int (x2 &&& (255 : Int32))), .val (.int (x3 &&& (255 : Int32))), .val (.int (x4 &&& (255 : Int32))), .val (.ref a453), .val (.ref a456), .val (.int (1 : Int32)), .unset, .unset] [(.int (1 : Int32))])
              refine gw_st (fun _ kq => XT.iconstV X512.here hx rfl (1 : Int32) (hb hby at_205) (by decide) kq) ?_
              show GoW p e below s _ _ _ T512 (mkF m 206 #[.val (.int x0), .val (.int x1), .val (.int x2), .val (.int x3), .val (.int x4), .val (.int (2 : Int32)), .val (.int (2 : Int32)), .val (.int (x2 &&& (255 : Int32))), .val (.int (x3 &&& (255 : Int32))), .val (.int (x4 &&& (255 : Int32))), .val (.ref a453), .val (.ref a456), .val (.int (1 : Int32)), .unset, .unset] [(.int (1 : Int32)), (.int (1 : Int32))])
              refine gw_st (fun _ kq => XS.goto X512.here hx rfl (pc0 := 206) (pc' := 210) rfl (hb hby at_206) (by decide) (by decide) kq) ?_
              show GoW p e below s _ _ _ T512 (mkF m 210 #[.val (.int x0), .val (.int x1), .val (.int x2), .val (.int x3), .val (.int x4), .val (.int (2 : Int32)), .val (.int (2 : Int32)), .val (.int (x2 &&& (255 : Int32))), .val (.int (x3 &&& (255 : Int32))), .val (.int (x4 &&& (255 : Int32))), .val (.ref a453), .val (.ref a456), .val (.int (1 : Int32)), .unset, .unset] [(.int (1 : Int32)), (.int (1 : Int32))])
              refine gw_st (fun _ kq => XS.icmpNo X512.here hx rfl (hb hby at_210) rfl (XT.ii_ne_f (by decide)) kq) ?_
              show GoW p e below s _ _ _ T512 (mkF m 213 #[.val (.int x0), .val (.int x1), .val (.int x2), .val (.int x3), .val (.int x4), .val (.int (2 : Int32)), .val (.int (2 : Int32)), .val (.int (x2 &&& (255 : Int32))), .val (.int (x3 &&& (255 : Int32))), .val (.int (x4 &&& (255 : Int32))), .val (.ref a453), .val (.ref a456), .val (.int (1 : Int32)), .unset, .unset] [])
              refine gw_st (fun _ kq => XT.iconstV X512.here hx rfl (1 : Int32) (hb hby at_213) (by decide) kq) ?_
              show GoW p e below s _ _ _ T512 (mkF m 214 #[.val (.int x0), .val (.int x1), .val (.int x2), .val (.int x3), .val (.int x4), .val (.int (2 : Int32)), .val (.int (2 : Int32)), .val (.int (x2 &&& (255 : Int32))), .val (.int (x3 &&& (255 : Int32))), .val (.int (x4 &&& (255 : Int32))), .val (.ref a453), .val (.ref a456), .val (.int (1 : Int32)), .unset, .unset] [(.int (1 : Int32))])
              refine gw_st (fun _ kq => XS.goto X512.here hx rfl (pc0 := 214) (pc' := 218) rfl (hb hby at_214) (by decide) (by decide) kq) ?_
              show GoW p e below s _ _ _ T512 (mkF m 218 #[.val (.int x0), .val (.int x1), .val (.int x2), .val (.int x3), .val (.int x4), .val (.int (2 : Int32)), .val (.int (2 : Int32)), .val (.int (x2 &&& (255 : Int32))), .val (.int (x3 &&& (255 : Int32))), .val (.int (x4 &&& (255 : Int32))), .val (.ref a453), .val (.ref a456), .val (.int (1 : Int32)), .unset, .unset] [(.int (1 : Int32))])
              refine gw_st (fun _ kq => XS.istore X512.here hx rfl (hb hby at_218) rfl (l' := #[.val (.int x0), .val (.int x1), .val (.int x2), .val (.int x3), .val (.int x4), .val (.int (2 : Int32)), .val (.int (2 : Int32)), .val (.int (x2 &&& (255 : Int32))), .val (.int (x3 &&& (255 : Int32))), .val (.int (x4 &&& (255 : Int32))), .val (.ref a453), .val (.ref a456), .val (.int (1 : Int32)), .val (.int (1 : Int32)), .unset]) rfl kq) ?_
              show GoW p e below s _ _ _ T512 (mkF m 220 #[.val (.int x0), .val (.int x1), .val (.int x2), .val (.int x3), .val (.int x4), .val (.int (2 : Int32)), .val (.int (2 : Int32)), .val (.int (x2 &&& (255 : Int32))), .val (.int (x3 &&& (255 : Int32))), .val (.int (x4 &&& (255 : Int32))), .val (.ref a453), .val (.ref a456), .val (.int (1 : Int32)), .val (.int (1 : Int32)), .unset] [])
              refine gw_st (fun _ kq => XS.aload X512.here hx rfl (hb hby at_220) rfl rfl kq) ?_
              show GoW p e below s _ _ _ T512 (mkF m 222 #[.val (.int x0), .val (.int x1), .val (.int x2), .val (.int x3), .val (.int x4), .val (.int (2 : Int32)), .val (.int (2 : Int32)), .val (.int (x2 &&& (255 : Int32))), .val (.int (x3 &&& (255 : Int32))), .val (.int (x4 &&& (255 : Int32))), .val (.ref a453), .val (.ref a456), .val (.int (1 : Int32)), .val (.int (1 : Int32)), .unset] [(.ref a456)])
              refine gw_callV X512 hx hZ hml hown (hw _ (List.mem_of_getElem? (i := 50) rfl)) (hw _ (List.mem_of_getElem? (i := 51) rfl)) (notFace_of_selects (args := #[]) (mvT hZ (hw _ (List.mem_of_getElem? (i := 53) rfl)))) (hw _ (List.mem_of_getElem? (i := 53) rfl)) (hw _ (List.mem_of_getElem? (i := 52) rfl)) (hw _ (List.mem_of_getElem? (i := 54) rfl)) (hw _ (List.mem_of_getElem? (i := 4) rfl)) e512 c524 (argsL := []) (rest := []) (W := 0) (met_8 l Z a0 hw a456 (2 : Int32) T509.heap n0 z523 f509_1) (hb hby at_222) rfl rfl rfl (lenOf pd5 rfl) (by show 2 * 0 + _ ≤ _; exact Nat.le_of_eq rfl) (by decide) (by decide) (by decide) (by decide) (by decide) ?_
              intro T525 v525 L525 X525 q525
              obtain ⟨rfl, M525, e525⟩ := q525
              have N525 := Fr.app N512 M525
              show GoW p e below s _ _ _ T525 (mkF m 225 #[.val (.int x0), .val (.int x1), .val (.int x2), .val (.int x3), .val (.int x4), .val (.int (2 : Int32)), .val (.int (2 : Int32)), .val (.int (x2 &&& (255 : Int32))), .val (.int (x3 &&& (255 : Int32))), .val (.int (x4 &&& (255 : Int32))), .val (.ref a453), .val (.ref a456), .val (.int (1 : Int32)), .val (.int (1 : Int32)), .unset] [(.int (2 : Int32))])
              refine gw_st (fun _ kq => XS.iload X525.here hx rfl (hb hby at_225) rfl kq) ?_
              show GoW p e below s _ _ _ T525 (mkF m 227 #[.val (.int x0), .val (.int x1), .val (.int x2), .val (.int x3), .val (.int x4), .val (.int (2 : Int32)), .val (.int (2 : Int32)), .val (.int (x2 &&& (255 : Int32))), .val (.int (x3 &&& (255 : Int32))), .val (.int (x4 &&& (255 : Int32))), .val (.ref a453), .val (.ref a456), .val (.int (1 : Int32)), .val (.int (1 : Int32)), .unset] [(.int (2 : Int32)), (.int (2 : Int32))])
              refine gw_st (fun _ kq => XS.icmpNo X525.here hx rfl (hb hby at_227) rfl (XT.ii_ne_f (by decide)) kq) ?_
              show GoW p e below s _ _ _ T525 (mkF m 230 #[.val (.int x0), .val (.int x1), .val (.int x2), .val (.int x3), .val (.int x4), .val (.int (2 : Int32)), .val (.int (2 : Int32)), .val (.int (x2 &&& (255 : Int32))), .val (.int (x3 &&& (255 : Int32))), .val (.int (x4 &&& (255 : Int32))), .val (.ref a453), .val (.ref a456), .val (.int (1 : Int32)), .val (.int (1 : Int32)), .unset] [])
              refine gw_st (fun _ kq => XT.iconstV X525.here hx rfl (1 : Int32) (hb hby at_230) (by decide) kq) ?_
              show GoW p e below s _ _ _ T525 (mkF m 231 #[.val (.int x0), .val (.int x1), .val (.int x2), .val (.int x3), .val (.int x4), .val (.int (2 : Int32)), .val (.int (2 : Int32)), .val (.int (x2 &&& (255 : Int32))), .val (.int (x3 &&& (255 : Int32))), .val (.int (x4 &&& (255 : Int32))), .val (.ref a453), .val (.ref a456), .val (.int (1 : Int32)), .val (.int (1 : Int32)), .unset] [(.int (1 : Int32))])
              refine gw_st (fun _ kq => XS.goto X525.here hx rfl (pc0 := 231) (pc' := 235) rfl (hb hby at_231) (by decide) (by decide) kq) ?_
              show GoW p e below s _ _ _ T525 (mkF m 235 #[.val (.int x0), .val (.int x1), .val (.int x2), .val (.int x3), .val (.int x4), .val (.int (2 : Int32)), .val (.int (2 : Int32)), .val (.int (x2 &&& (255 : Int32))), .val (.int (x3 &&& (255 : Int32))), .val (.int (x4 &&& (255 : Int32))), .val (.ref a453), .val (.ref a456), .val (.int (1 : Int32)), .val (.int (1 : Int32)), .unset] [(.int (1 : Int32))])
              refine gw_st (fun _ kq => XS.istore X525.here hx rfl (hb hby at_235) rfl (l' := #[.val (.int x0), .val (.int x1), .val (.int x2), .val (.int x3), .val (.int x4), .val (.int (2 : Int32)), .val (.int (2 : Int32)), .val (.int (x2 &&& (255 : Int32))), .val (.int (x3 &&& (255 : Int32))), .val (.int (x4 &&& (255 : Int32))), .val (.ref a453), .val (.ref a456), .val (.int (1 : Int32)), .val (.int (1 : Int32)), .val (.int (1 : Int32))]) rfl kq) ?_
              show GoW p e below s _ _ _ T525 (mkF m 237 #[.val (.int x0), .val (.int x1), .val (.int x2), .val (.int x3), .val (.int x4), .val (.int (2 : Int32)), .val (.int (2 : Int32)), .val (.int (x2 &&& (255 : Int32))), .val (.int (x3 &&& (255 : Int32))), .val (.int (x4 &&& (255 : Int32))), .val (.ref a453), .val (.ref a456), .val (.int (1 : Int32)), .val (.int (1 : Int32)), .val (.int (1 : Int32))] [])
              refine gw_st (fun _ kq => XS.iload X525.here hx rfl (hb hby at_237) rfl kq) ?_
              show GoW p e below s _ _ _ T525 (mkF m 239 #[.val (.int x0), .val (.int x1), .val (.int x2), .val (.int x3), .val (.int x4), .val (.int (2 : Int32)), .val (.int (2 : Int32)), .val (.int (x2 &&& (255 : Int32))), .val (.int (x3 &&& (255 : Int32))), .val (.int (x4 &&& (255 : Int32))), .val (.ref a453), .val (.ref a456), .val (.int (1 : Int32)), .val (.int (1 : Int32)), .val (.int (1 : Int32))] [(.int (1 : Int32))])
              refine gw_st (fun _ kq => XS.ifNo X525.here hx rfl (hb hby at_239) rfl (XT.i0_eq_f (by decide)) kq) ?_
              show GoW p e below s _ _ _ T525 (mkF m 242 #[.val (.int x0), .val (.int x1), .val (.int x2), .val (.int x3), .val (.int x4), .val (.int (2 : Int32)), .val (.int (2 : Int32)), .val (.int (x2 &&& (255 : Int32))), .val (.int (x3 &&& (255 : Int32))), .val (.int (x4 &&& (255 : Int32))), .val (.ref a453), .val (.ref a456), .val (.int (1 : Int32)), .val (.int (1 : Int32)), .val (.int (1 : Int32))] [])
              refine gw_st (fun _ kq => XS.iload X525.here hx rfl (hb hby at_242) rfl kq) ?_
              show GoW p e below s _ _ _ T525 (mkF m 244 #[.val (.int x0), .val (.int x1), .val (.int x2), .val (.int x3), .val (.int x4), .val (.int (2 : Int32)), .val (.int (2 : Int32)), .val (.int (x2 &&& (255 : Int32))), .val (.int (x3 &&& (255 : Int32))), .val (.int (x4 &&& (255 : Int32))), .val (.ref a453), .val (.ref a456), .val (.int (1 : Int32)), .val (.int (1 : Int32)), .val (.int (1 : Int32))] [(.int (1 : Int32))])
              refine gw_st (fun _ kq => XS.ifNo X525.here hx rfl (hb hby at_244) rfl (XT.i0_eq_f (by decide)) kq) ?_
              show GoW p e below s _ _ _ T525 (mkF m 247 #[.val (.int x0), .val (.int x1), .val (.int x2), .val (.int x3), .val (.int x4), .val (.int (2 : Int32)), .val (.int (2 : Int32)), .val (.int (x2 &&& (255 : Int32))), .val (.int (x3 &&& (255 : Int32))), .val (.int (x4 &&& (255 : Int32))), .val (.ref a453), .val (.ref a456), .val (.int (1 : Int32)), .val (.int (1 : Int32)), .val (.int (1 : Int32))] [])
              refine gw_st (fun _ kq => XS.iload X525.here hx rfl (hb hby at_247) rfl kq) ?_
              show GoW p e below s _ _ _ T525 (mkF m 249 #[.val (.int x0), .val (.int x1), .val (.int x2), .val (.int x3), .val (.int x4), .val (.int (2 : Int32)), .val (.int (2 : Int32)), .val (.int (x2 &&& (255 : Int32))), .val (.int (x3 &&& (255 : Int32))), .val (.int (x4 &&& (255 : Int32))), .val (.ref a453), .val (.ref a456), .val (.int (1 : Int32)), .val (.int (1 : Int32)), .val (.int (1 : Int32))] [(.int (1 : Int32))])
              refine gw_st (fun _ kq => XS.ifNo X525.here hx rfl (hb hby at_249) rfl (XT.i0_eq_f (by decide)) kq) ?_
              show GoW p e below s _ _ _ T525 (mkF m 252 #[.val (.int x0), .val (.int x1), .val (.int x2), .val (.int x3), .val (.int x4), .val (.int (2 : Int32)), .val (.int (2 : Int32)), .val (.int (x2 &&& (255 : Int32))), .val (.int (x3 &&& (255 : Int32))), .val (.int (x4 &&& (255 : Int32))), .val (.ref a453), .val (.ref a456), .val (.int (1 : Int32)), .val (.int (1 : Int32)), .val (.int (1 : Int32))] [])
              refine gw_st (fun _ kq => XT.iconstV X525.here hx rfl (1 : Int32) (hb hby at_252) (by decide) kq) ?_
              show GoW p e below s _ _ _ T525 (mkF m 253 #[.val (.int x0), .val (.int x1), .val (.int x2), .val (.int x3), .val (.int x4), .val (.int (2 : Int32)), .val (.int (2 : Int32)), .val (.int (x2 &&& (255 : Int32))), .val (.int (x3 &&& (255 : Int32))), .val (.int (x4 &&& (255 : Int32))), .val (.ref a453), .val (.ref a456), .val (.int (1 : Int32)), .val (.int (1 : Int32)), .val (.int (1 : Int32))] [(.int (1 : Int32))])
              refine gw_st (fun _ kq => XS.goto X525.here hx rfl (pc0 := 253) (pc' := 257) rfl (hb hby at_253) (by decide) (by decide) kq) ?_
              show GoW p e below s _ _ _ T525 (mkF m 257 #[.val (.int x0), .val (.int x1), .val (.int x2), .val (.int x3), .val (.int x4), .val (.int (2 : Int32)), .val (.int (2 : Int32)), .val (.int (x2 &&& (255 : Int32))), .val (.int (x3 &&& (255 : Int32))), .val (.int (x4 &&& (255 : Int32))), .val (.ref a453), .val (.ref a456), .val (.int (1 : Int32)), .val (.int (1 : Int32)), .val (.int (1 : Int32))] [(.int (1 : Int32))])
              exact gw_retB (w := (1 : Int32)) X525 hx hlk hret (hb hby at_257) (by decide) (by decide) (by decide) ⟨rfl, N525⟩
            · exact (own_dk3 _ hk328 hk386 hk452).elim
      · by_cases hk526 : (x0 &&& (3 : Int32)) = (3 : Int32)
        · rw [hk526]
          show GoW p e below s _ _ _ s₁ (mkF m 5 #[.val (.int x0), .val (.int x1), .val (.int x2), .val (.int x3), .val (.int x4), .val (.int (3 : Int32)), .unset, .unset, .unset, .unset, .unset, .unset, .unset, .unset, .unset] [])
          refine gw_st (fun _ kq => XS.iloadN X0.here hx rfl (hb hby at_5) rfl kq) ?_
          show GoW p e below s _ _ _ s₁ (mkF m 6 #[.val (.int x0), .val (.int x1), .val (.int x2), .val (.int x3), .val (.int x4), .val (.int (3 : Int32)), .unset, .unset, .unset, .unset, .unset, .unset, .unset, .unset, .unset] [(.int x1)])
          refine gw_st (fun _ kq => Jvm.Stand.ldcI X0 hx hown (mvT hZ (hw _ (List.mem_of_getElem? (i := 0) rfl))) rfl (hb hby at_6) kq) ?_
          show GoW p e below s _ _ _ s₁ (mkF m 8 #[.val (.int x0), .val (.int x1), .val (.int x2), .val (.int x3), .val (.int x4), .val (.int (3 : Int32)), .unset, .unset, .unset, .unset, .unset, .unset, .unset, .unset, .unset] [(.int (2147483647 : Int32)), (.int x1)])
          refine gw_st (fun _ kq => XS.iand X0.here hx rfl (hb hby at_8) rfl kq) ?_
          show GoW p e below s _ _ _ s₁ (mkF m 9 #[.val (.int x0), .val (.int x1), .val (.int x2), .val (.int x3), .val (.int x4), .val (.int (3 : Int32)), .unset, .unset, .unset, .unset, .unset, .unset, .unset, .unset, .unset] [(.int (x1 &&& (2147483647 : Int32)))])
          refine gw_st (fun _ kq => XS.iload X0.here hx rfl (hb hby at_9) rfl kq) ?_
          show GoW p e below s _ _ _ s₁ (mkF m 11 #[.val (.int x0), .val (.int x1), .val (.int x2), .val (.int x3), .val (.int x4), .val (.int (3 : Int32)), .unset, .unset, .unset, .unset, .unset, .unset, .unset, .unset, .unset] [(.int (3 : Int32)), (.int (x1 &&& (2147483647 : Int32)))])
          refine gw_st (fun _ kq => XT.iconstV X0.here hx rfl (1 : Int32) (hb hby at_11) (by decide) kq) ?_
          show GoW p e below s _ _ _ s₁ (mkF m 12 #[.val (.int x0), .val (.int x1), .val (.int x2), .val (.int x3), .val (.int x4), .val (.int (3 : Int32)), .unset, .unset, .unset, .unset, .unset, .unset, .unset, .unset, .unset] [(.int (1 : Int32)), (.int (3 : Int32)), (.int (x1 &&& (2147483647 : Int32)))])
          refine gw_st (fun _ kq => XS.iadd X0.here hx rfl (hb hby at_12) rfl kq) ?_
          rw [show ((3 : Int32) + (1 : Int32)) = (4 : Int32) from by decide +kernel]
          show GoW p e below s _ _ _ s₁ (mkF m 13 #[.val (.int x0), .val (.int x1), .val (.int x2), .val (.int x3), .val (.int x4), .val (.int (3 : Int32)), .unset, .unset, .unset, .unset, .unset, .unset, .unset, .unset, .unset] [(.int (4 : Int32)), (.int (x1 &&& (2147483647 : Int32)))])
          refine gw_st (fun _ kq => iremM X0 hx rfl (hb hby at_13) rfl (by decide) kq) ?_
          show GoW p e below s _ _ _ s₁ (mkF m 14 #[.val (.int x0), .val (.int x1), .val (.int x2), .val (.int x3), .val (.int x4), .val (.int (3 : Int32)), .unset, .unset, .unset, .unset, .unset, .unset, .unset, .unset, .unset] [(.int ((x1 &&& (2147483647 : Int32)) % (4 : Int32)))])
          refine gw_st (fun _ kq => XS.istore X0.here hx rfl (hb hby at_14) rfl (l' := #[.val (.int x0), .val (.int x1), .val (.int x2), .val (.int x3), .val (.int x4), .val (.int (3 : Int32)), .val (.int ((x1 &&& (2147483647 : Int32)) % (4 : Int32))), .unset, .unset, .unset, .unset, .unset, .unset, .unset, .unset]) rfl kq) ?_
          show GoW p e below s _ _ _ s₁ (mkF m 16 #[.val (.int x0), .val (.int x1), .val (.int x2), .val (.int x3), .val (.int x4), .val (.int (3 : Int32)), .val (.int ((x1 &&& (2147483647 : Int32)) % (4 : Int32))), .unset, .unset, .unset, .unset, .unset, .unset, .unset, .unset] [])
          by_cases hk527 : ((x1 &&& (2147483647 : Int32)) % (4 : Int32)) = (0 : Int32)
          · rw [hk527]
            show GoW p e below s _ _ _ s₁ (mkF m 16 #[.val (.int x0), .val (.int x1), .val (.int x2), .val (.int x3), .val (.int x4), .val (.int (3 : Int32)), .val (.int (0 : Int32)), .unset, .unset, .unset, .unset, .unset, .unset, .unset, .unset] [])
            refine gw_st (fun _ kq => XS.iloadN X0.here hx rfl (hb hby at_16) rfl kq) ?_
            show GoW p e below s _ _ _ s₁ (mkF m 17 #[.val (.int x0), .val (.int x1), .val (.int x2), .val (.int x3), .val (.int x4), .val (.int (3 : Int32)), .val (.int (0 : Int32)), .unset, .unset, .unset, .unset, .unset, .unset, .unset, .unset] [(.int x2)])
            refine gw_st (fun _ kq => XT.sipushV X0.here hx rfl (255 : Int32) (hb hby at_17) (by decide) kq) ?_
            show GoW p e below s _ _ _ s₁ (mkF m 20 #[.val (.int x0), .val (.int x1), .val (.int x2), .val (.int x3), .val (.int x4), .val (.int (3 : Int32)), .val (.int (0 : Int32)), .unset, .unset, .unset, .unset, .unset, .unset, .unset, .unset] [(.int (255 : Int32)), (.int x2)])
            refine gw_st (fun _ kq => XS.iand X0.here hx rfl (hb hby at_20) rfl kq) ?_
            show GoW p e below s _ _ _ s₁ (mkF m 21 #[.val (.int x0), .val (.int x1), .val (.int x2), .val (.int x3), .val (.int x4), .val (.int (3 : Int32)), .val (.int (0 : Int32)), .unset, .unset, .unset, .unset, .unset, .unset, .unset, .unset] [(.int (x2 &&& (255 : Int32)))])
            refine gw_st (fun _ kq => XT.i2c X0.here hx rfl (hb hby at_21) rfl kq) ?_
            rw [own_i2c]
            show GoW p e below s _ _ _ s₁ (mkF m 22 #[.val (.int x0), .val (.int x1), .val (.int x2), .val (.int x3), .val (.int x4), .val (.int (3 : Int32)), .val (.int (0 : Int32)), .unset, .unset, .unset, .unset, .unset, .unset, .unset, .unset] [(.int (x2 &&& (255 : Int32)))])
            refine gw_st (fun _ kq => XS.istore X0.here hx rfl (hb hby at_22) rfl (l' := #[.val (.int x0), .val (.int x1), .val (.int x2), .val (.int x3), .val (.int x4), .val (.int (3 : Int32)), .val (.int (0 : Int32)), .val (.int (x2 &&& (255 : Int32))), .unset, .unset, .unset, .unset, .unset, .unset, .unset]) rfl kq) ?_
            show GoW p e below s _ _ _ s₁ (mkF m 24 #[.val (.int x0), .val (.int x1), .val (.int x2), .val (.int x3), .val (.int x4), .val (.int (3 : Int32)), .val (.int (0 : Int32)), .val (.int (x2 &&& (255 : Int32))), .unset, .unset, .unset, .unset, .unset, .unset, .unset] [])
            refine gw_st (fun _ kq => XS.iloadN X0.here hx rfl (hb hby at_24) rfl kq) ?_
            show GoW p e below s _ _ _ s₁ (mkF m 25 #[.val (.int x0), .val (.int x1), .val (.int x2), .val (.int x3), .val (.int x4), .val (.int (3 : Int32)), .val (.int (0 : Int32)), .val (.int (x2 &&& (255 : Int32))), .unset, .unset, .unset, .unset, .unset, .unset, .unset] [(.int x3)])
            refine gw_st (fun _ kq => XT.sipushV X0.here hx rfl (255 : Int32) (hb hby at_25) (by decide) kq) ?_
            show GoW p e below s _ _ _ s₁ (mkF m 28 #[.val (.int x0), .val (.int x1), .val (.int x2), .val (.int x3), .val (.int x4), .val (.int (3 : Int32)), .val (.int (0 : Int32)), .val (.int (x2 &&& (255 : Int32))), .unset, .unset, .unset, .unset, .unset, .unset, .unset] [(.int (255 : Int32)), (.int x3)])
            refine gw_st (fun _ kq => XS.iand X0.here hx rfl (hb hby at_28) rfl kq) ?_
            show GoW p e below s _ _ _ s₁ (mkF m 29 #[.val (.int x0), .val (.int x1), .val (.int x2), .val (.int x3), .val (.int x4), .val (.int (3 : Int32)), .val (.int (0 : Int32)), .val (.int (x2 &&& (255 : Int32))), .unset, .unset, .unset, .unset, .unset, .unset, .unset] [(.int (x3 &&& (255 : Int32)))])
            refine gw_st (fun _ kq => XT.i2c X0.here hx rfl (hb hby at_29) rfl kq) ?_
            rw [own_i2c]
            show GoW p e below s _ _ _ s₁ (mkF m 30 #[.val (.int x0), .val (.int x1), .val (.int x2), .val (.int x3), .val (.int x4), .val (.int (3 : Int32)), .val (.int (0 : Int32)), .val (.int (x2 &&& (255 : Int32))), .unset, .unset, .unset, .unset, .unset, .unset, .unset] [(.int (x3 &&& (255 : Int32)))])
            refine gw_st (fun _ kq => XS.istore X0.here hx rfl (hb hby at_30) rfl (l' := #[.val (.int x0), .val (.int x1), .val (.int x2), .val (.int x3), .val (.int x4), .val (.int (3 : Int32)), .val (.int (0 : Int32)), .val (.int (x2 &&& (255 : Int32))), .val (.int (x3 &&& (255 : Int32))), .unset, .unset, .unset, .unset, .unset, .unset]) rfl kq) ?_
            show GoW p e below s _ _ _ s₁ (mkF m 32 #[.val (.int x0), .val (.int x1), .val (.int x2), .val (.int x3), .val (.int x4), .val (.int (3 : Int32)), .val (.int (0 : Int32)), .val (.int (x2 &&& (255 : Int32))), .val (.int (x3 &&& (255 : Int32))), .unset, .unset, .unset, .unset, .unset, .unset] [])
            refine gw_st (fun _ kq => XS.iload X0.here hx rfl (hb hby at_32) rfl kq) ?_
            show GoW p e below s _ _ _ s₁ (mkF m 34 #[.val (.int x0), .val (.int x1), .val (.int x2), .val (.int x3), .val (.int x4), .val (.int (3 : Int32)), .val (.int (0 : Int32)), .val (.int (x2 &&& (255 : Int32))), .val (.int (x3 &&& (255 : Int32))), .unset, .unset, .unset, .unset, .unset, .unset] [(.int x4)])
            refine gw_st (fun _ kq => XT.sipushV X0.here hx rfl (255 : Int32) (hb hby at_34) (by decide) kq) ?_
            show GoW p e below s _ _ _ s₁ (mkF m 37 #[.val (.int x0), .val (.int x1), .val (.int x2), .val (.int x3), .val (.int x4), .val (.int (3 : Int32)), .val (.int (0 : Int32)), .val (.int (x2 &&& (255 : Int32))), .val (.int (x3 &&& (255 : Int32))), .unset, .unset, .unset, .unset, .unset, .unset] [(.int (255 : Int32)), (.int x4)])
            refine gw_st (fun _ kq => XS.iand X0.here hx rfl (hb hby at_37) rfl kq) ?_
            show GoW p e below s _ _ _ s₁ (mkF m 38 #[.val (.int x0), .val (.int x1), .val (.int x2), .val (.int x3), .val (.int x4), .val (.int (3 : Int32)), .val (.int (0 : Int32)), .val (.int (x2 &&& (255 : Int32))), .val (.int (x3 &&& (255 : Int32))), .unset, .unset, .unset, .unset, .unset, .unset] [(.int (x4 &&& (255 : Int32)))])
            refine gw_st (fun _ kq => XT.i2c X0.here hx rfl (hb hby at_38) rfl kq) ?_
            rw [own_i2c]
            show GoW p e below s _ _ _ s₁ (mkF m 39 #[.val (.int x0), .val (.int x1), .val (.int x2), .val (.int x3), .val (.int x4), .val (.int (3 : Int32)), .val (.int (0 : Int32)), .val (.int (x2 &&& (255 : Int32))), .val (.int (x3 &&& (255 : Int32))), .unset, .unset, .unset, .unset, .unset, .unset] [(.int (x4 &&& (255 : Int32)))])
            refine gw_st (fun _ kq => XS.istore X0.here hx rfl (hb hby at_39) rfl (l' := #[.val (.int x0), .val (.int x1), .val (.int x2), .val (.int x3), .val (.int x4), .val (.int (3 : Int32)), .val (.int (0 : Int32)), .val (.int (x2 &&& (255 : Int32))), .val (.int (x3 &&& (255 : Int32))), .val (.int (x4 &&& (255 : Int32))), .unset, .unset, .unset, .unset, .unset]) rfl kq) ?_
            show GoW p e below s _ _ _ s₁ (mkF m 41 #[.val (.int x0), .val (.int x1), .val (.int x2), .val (.int x3), .val (.int x4), .val (.int (3 : Int32)), .val (.int (0 : Int32)), .val (.int (x2 &&& (255 : Int32))), .val (.int (x3 &&& (255 : Int32))), .val (.int (x4 &&& (255 : Int32))), .unset, .unset, .unset, .unset, .unset] [])
            refine gw_st (fun _ kq => XS.iload X0.here hx rfl (hb hby at_41) rfl kq) ?_
            show GoW p e below s _ _ _ s₁ (mkF m 43 #[.val (.int x0), .val (.int x1), .val (.int x2), .val (.int x3), .val (.int x4), .val (.int (3 : Int32)), .val (.int (0 : Int32)), .val (.int (x2 &&& (255 : Int32))), .val (.int (x3 &&& (255 : Int32))), .val (.int (x4 &&& (255 : Int32))), .unset, .unset, .unset, .unset, .unset] [(.int (3 : Int32))])
            refine gw_st (fun _ kq => XS.ifYes X0.here hx rfl (pc0 := 43) (pc' := 54) rfl (hb hby at_43) rfl (XT.i0_ne_t (by decide)) (by decide) (by decide) kq) ?_
            show GoW p e below s _ _ _ s₁ (mkF m 54 #[.val (.int x0), .val (.int x1), .val (.int x2), .val (.int x3), .val (.int x4), .val (.int (3 : Int32)), .val (.int (0 : Int32)), .val (.int (x2 &&& (255 : Int32))), .val (.int (x3 &&& (255 : Int32))), .val (.int (x4 &&& (255 : Int32))), .unset, .unset, .unset, .unset, .unset] [])
            refine gw_st (fun _ kq => XS.iload X0.here hx rfl (hb hby at_54) rfl kq) ?_
            show GoW p e below s _ _ _ s₁ (mkF m 56 #[.val (.int x0), .val (.int x1), .val (.int x2), .val (.int x3), .val (.int x4), .val (.int (3 : Int32)), .val (.int (0 : Int32)), .val (.int (x2 &&& (255 : Int32))), .val (.int (x3 &&& (255 : Int32))), .val (.int (x4 &&& (255 : Int32))), .unset, .unset, .unset, .unset, .unset] [(.int (3 : Int32))])
            refine gw_st (fun _ kq => XT.iconstV X0.here hx rfl (1 : Int32) (hb hby at_56) (by decide) kq) ?_
            show GoW p e below s _ _ _ s₁ (mkF m 57 #[.val (.int x0), .val (.int x1), .val (.int x2), .val (.int x3), .val (.int x4), .val (.int (3 : Int32)), .val (.int (0 : Int32)), .val (.int (x2 &&& (255 : Int32))), .val (.int (x3 &&& (255 : Int32))), .val (.int (x4 &&& (255 : Int32))), .unset, .unset, .unset, .unset, .unset] [(.int (1 : Int32)), (.int (3 : Int32))])
            refine gw_st (fun _ kq => XS.icmpYes X0.here hx rfl (pc0 := 57) (pc' := 73) rfl (hb hby at_57) rfl (XT.ii_ne_t (by decide)) (by decide) (by decide) kq) ?_
            show GoW p e below s _ _ _ s₁ (mkF m 73 #[.val (.int x0), .val (.int x1), .val (.int x2), .val (.int x3), .val (.int x4), .val (.int (3 : Int32)), .val (.int (0 : Int32)), .val (.int (x2 &&& (255 : Int32))), .val (.int (x3 &&& (255 : Int32))), .val (.int (x4 &&& (255 : Int32))), .unset, .unset, .unset, .unset, .unset] [])
            refine gw_st (fun _ kq => XS.iload X0.here hx rfl (hb hby at_73) rfl kq) ?_
            show GoW p e below s _ _ _ s₁ (mkF m 75 #[.val (.int x0), .val (.int x1), .val (.int x2), .val (.int x3), .val (.int x4), .val (.int (3 : Int32)), .val (.int (0 : Int32)), .val (.int (x2 &&& (255 : Int32))), .val (.int (x3 &&& (255 : Int32))), .val (.int (x4 &&& (255 : Int32))), .unset, .unset, .unset, .unset, .unset] [(.int (3 : Int32))])
            refine gw_st (fun _ kq => XT.iconstV X0.here hx rfl (2 : Int32) (hb hby at_75) (by decide) kq) ?_
            show GoW p e below s _ _ _ s₁ (mkF m 76 #[.val (.int x0), .val (.int x1), .val (.int x2), .val (.int x3), .val (.int x4), .val (.int (3 : Int32)), .val (.int (0 : Int32)), .val (.int (x2 &&& (255 : Int32))), .val (.int (x3 &&& (255 : Int32))), .val (.int (x4 &&& (255 : Int32))), .unset, .unset, .unset, .unset, .unset] [(.int (2 : Int32)), (.int (3 : Int32))])
            refine gw_st (fun _ kq => XS.icmpYes X0.here hx rfl (pc0 := 76) (pc' := 97) rfl (hb hby at_76) rfl (XT.ii_ne_t (by decide)) (by decide) (by decide) kq) ?_
            show GoW p e below s _ _ _ s₁ (mkF m 97 #[.val (.int x0), .val (.int x1), .val (.int x2), .val (.int x3), .val (.int x4), .val (.int (3 : Int32)), .val (.int (0 : Int32)), .val (.int (x2 &&& (255 : Int32))), .val (.int (x3 &&& (255 : Int32))), .val (.int (x4 &&& (255 : Int32))), .unset, .unset, .unset, .unset, .unset] [])
            refine gw_st (fun _ kq => XT.iconstV X0.here hx rfl (3 : Int32) (hb hby at_97) (by decide) kq) ?_
            show GoW p e below s _ _ _ s₁ (mkF m 98 #[.val (.int x0), .val (.int x1), .val (.int x2), .val (.int x3), .val (.int x4), .val (.int (3 : Int32)), .val (.int (0 : Int32)), .val (.int (x2 &&& (255 : Int32))), .val (.int (x3 &&& (255 : Int32))), .val (.int (x4 &&& (255 : Int32))), .unset, .unset, .unset, .unset, .unset] [(.int (3 : Int32))])
            refine gw_newP X0 hx hZ (hw _ (List.mem_of_getElem? (i := 1) rfl)) e0 (hb hby at_98) rfl rfl 3 (by decide) 3 (Nat.le_refl _) (by decide) (by decide) (by decide) ?_
            intro T528 h528 a528 g528 X528 e528 E528 G528
            have nw_a528 : n0 ≤ a528 := Nat.le_trans Z0 (Nat.le_of_eq g528.symm)
            have lt_a528 : a528 < h528.size := G528.lt
            have A528 : GA Z h528 a528 .char 3 (fun i => .int (own_c3 (0 : Int32) (0 : Int32) (0 : Int32) i)) := (GA.congr G528 (fun i _ => own_z3 i))
            show GoW p e below s _ _ _ T528 (mkF m 100 #[.val (.int x0), .val (.int x1), .val (.int x2), .val (.int x3), .val (.int x4), .val (.int (3 : Int32)), .val (.int (0 : Int32)), .val (.int (x2 &&& (255 : Int32))), .val (.int (x3 &&& (255 : Int32))), .val (.int (x4 &&& (255 : Int32))), .unset, .unset, .unset, .unset, .unset] [(.ref a528)])
            refine gw_st (fun _ kq => XS.dup X528.here hx rfl (hb hby at_100) rfl rfl kq) ?_
            show GoW p e below s _ _ _ T528 (mkF m 101 #[.val (.int x0), .val (.int x1), .val (.int x2), .val (.int x3), .val (.int x4), .val (.int (3 : Int32)), .val (.int (0 : Int32)), .val (.int (x2 &&& (255 : Int32))), .val (.int (x3 &&& (255 : Int32))), .val (.int (x4 &&& (255 : Int32))), .unset, .unset, .unset, .unset, .unset] [(.ref a528), (.ref a528)])
            refine gw_st (fun _ kq => XT.iconstV X528.here hx rfl (0 : Int32) (hb hby at_101) (by decide) kq) ?_
            show GoW p e below s _ _ _ T528 (mkF m 102 #[.val (.int x0), .val (.int x1), .val (.int x2), .val (.int x3), .val (.int x4), .val (.int (3 : Int32)), .val (.int (0 : Int32)), .val (.int (x2 &&& (255 : Int32))), .val (.int (x3 &&& (255 : Int32))), .val (.int (x4 &&& (255 : Int32))), .unset, .unset, .unset, .unset, .unset] [(.int (0 : Int32)), (.ref a528), (.ref a528)])
            refine gw_st (fun _ kq => XS.iload X528.here hx rfl (hb hby at_102) rfl kq) ?_
            show GoW p e below s _ _ _ T528 (mkF m 104 #[.val (.int x0), .val (.int x1), .val (.int x2), .val (.int x3), .val (.int x4), .val (.int (3 : Int32)), .val (.int (0 : Int32)), .val (.int (x2 &&& (255 : Int32))), .val (.int (x3 &&& (255 : Int32))), .val (.int (x4 &&& (255 : Int32))), .unset, .unset, .unset, .unset, .unset] [(.int (x2 &&& (255 : Int32))), (.int (0 : Int32)), (.ref a528), (.ref a528)])
            refine gw_cast X528 hx hZ e528 A528 (hb hby at_104) rfl rfl (by decide) ?_
            intro T529 h529 X529 e529 W529 G529
            have N529 := Fr.snoc X529 N0 nw_a528
            have A529 : GA Z h529 a528 .char 3 (fun i => .int (own_c3 (x2 &&& (255 : Int32)) (0 : Int32) (0 : Int32) i)) := (own_stc (own_nc (own_lat _)) (by decide) (own_c30 (x2 &&& (255 : Int32)) (0 : Int32) (0 : Int32) (0 : Int32)) G529)
            show GoW p e below s _ _ _ T529 (mkF m 105 #[.val (.int x0), .val (.int x1), .val (.int x2), .val (.int x3), .val (.int x4), .val (.int (3 : Int32)), .val (.int (0 : Int32)), .val (.int (x2 &&& (255 : Int32))), .val (.int (x3 &&& (255 : Int32))), .val (.int (x4 &&& (255 : Int32))), .unset, .unset, .unset, .unset, .unset] [(.ref a528)])
            refine gw_st (fun _ kq => XS.dup X529.here hx rfl (hb hby at_105) rfl rfl kq) ?_
            show GoW p e below s _ _ _ T529 (mkF m 106 #[.val (.int x0), .val (.int x1), .val (.int x2), .val (.int x3), .val (.int x4), .val (.int (3 : Int32)), .val (.int (0 : Int32)), .val (.int (x2 &&& (255 : Int32))), .val (.int (x3 &&& (255 : Int32))), .val (.int (x4 &&& (255 : Int32))), .unset, .unset, .unset, .unset, .unset] [(.ref a528), (.ref a528)])
            refine gw_st (fun _ kq => XT.iconstV X529.here hx rfl (1 : Int32) (hb hby at_106) (by decide) kq) ?_
            show GoW p e below s _ _ _ T529 (mkF m 107 #[.val (.int x0), .val (.int x1), .val (.int x2), .val (.int x3), .val (.int x4), .val (.int (3 : Int32)), .val (.int (0 : Int32)), .val (.int (x2 &&& (255 : Int32))), .val (.int (x3 &&& (255 : Int32))), .val (.int (x4 &&& (255 : Int32))), .unset, .unset, .unset, .unset, .unset] [(.int (1 : Int32)), (.ref a528), (.ref a528)])
            refine gw_st (fun _ kq => XS.iload X529.here hx rfl (hb hby at_107) rfl kq) ?_
            show GoW p e below s _ _ _ T529 (mkF m 109 #[.val (.int x0), .val (.int x1), .val (.int x2), .val (.int x3), .val (.int x4), .val (.int (3 : Int32)), .val (.int (0 : Int32)), .val (.int (x2 &&& (255 : Int32))), .val (.int (x3 &&& (255 : Int32))), .val (.int (x4 &&& (255 : Int32))), .unset, .unset, .unset, .unset, .unset] [(.int (x3 &&& (255 : Int32))), (.int (1 : Int32)), (.ref a528), (.ref a528)])
            refine gw_cast X529 hx hZ e529 A529 (hb hby at_109) rfl rfl (by decide) ?_
            intro T530 h530 X530 e530 W530 G530
            have N530 := Fr.snoc X530 N529 nw_a528
            have A530 : GA Z h530 a528 .char 3 (fun i => .int (own_c3 (x2 &&& (255 : Int32)) (x3 &&& (255 : Int32)) (0 : Int32) i)) := (own_stc (own_nc (own_lat _)) (by decide) (own_c31 (x3 &&& (255 : Int32)) (x2 &&& (255 : Int32)) (0 : Int32) (0 : Int32)) G530)
            show GoW p e below s _ _ _ T530 (mkF m 110 #[.val (.int x0), .val (.int x1), .val (.int x2), .val (.int x3), .val (.int x4), .val (.int (3 : Int32)), .val (.int (0 : Int32)), .val (.int (x2 &&& (255 : Int32))), .val (.int (x3 &&& (255 : Int32))), .val (.int (x4 &&& (255 : Int32))), .unset, .unset, .unset, .unset, .unset] [(.ref a528)])
            refine gw_st (fun _ kq => XS.dup X530.here hx rfl (hb hby at_110) rfl rfl kq) ?_
            show GoW p e below s _ _ _ T530 (mkF m 111 #[.val (.int x0), .val (.int x1), .val (.int x2), .val (.int x3), .val (.int x4), .val (.int (3 : Int32)), .val (.int (0 : Int32)), .val (.int (x2 &&& (255 : Int32))), .val (.int (x3 &&& (255 : Int32))), .val (.int (x4 &&& (255 : Int32))), .unset, .unset, .unset, .unset, .unset] [(.ref a528), (.ref a528)])
            refine gw_st (fun _ kq => XT.iconstV X530.here hx rfl (2 : Int32) (hb hby at_111) (by decide) kq) ?_
            show GoW p e below s _ _ _ T530 (mkF m 112 #[.val (.int x0), .val (.int x1), .val (.int x2), .val (.int x3), .val (.int x4), .val (.int (3 : Int32)), .val (.int (0 : Int32)), .val (.int (x2 &&& (255 : Int32))), .val (.int (x3 &&& (255 : Int32))), .val (.int (x4 &&& (255 : Int32))), .unset, .unset, .unset, .unset, .unset] [(.int (2 : Int32)), (.ref a528), (.ref a528)])
            refine gw_st (fun _ kq => XS.iload X530.here hx rfl (hb hby at_112) rfl kq) ?_
            show GoW p e below s _ _ _ T530 (mkF m 114 #[.val (.int x0), .val (.int x1), .val (.int x2), .val (.int x3), .val (.int x4), .val (.int (3 : Int32)), .val (.int (0 : Int32)), .val (.int (x2 &&& (255 : Int32))), .val (.int (x3 &&& (255 : Int32))), .val (.int (x4 &&& (255 : Int32))), .unset, .unset, .unset, .unset, .unset] [(.int (x4 &&& (255 : Int32))), (.int (2 : Int32)), (.ref a528), (.ref a528)])
            refine gw_cast X530 hx hZ e530 A530 (hb hby at_114) rfl rfl (by decide) ?_
            intro T531 h531 X531 e531 W531 G531
            have N531 := Fr.snoc X531 N530 nw_a528
            have A531 : GA Z h531 a528 .char 3 (fun i => .int (own_c3 (x2 &&& (255 : Int32)) (x3 &&& (255 : Int32)) (x4 &&& (255 : Int32)) i)) := (own_stc (own_nc (own_lat _)) (by decide) (own_c32 (x4 &&& (255 : Int32)) (x2 &&& (255 : Int32)) (x3 &&& (255 : Int32)) (0 : Int32)) G531)
            show GoW p e below s _ _ _ T531 (mkF m 115 #[.val (.int x0), .val (.int x1), .val (.int x2), .val (.int x3), .val (.int x4), .val (.int (3 : Int32)), .val (.int (0 : Int32)), .val (.int (x2 &&& (255 : Int32))), .val (.int (x3 &&& (255 : Int32))), .val (.int (x4 &&& (255 : Int32))), .unset, .unset, .unset, .unset, .unset] [(.ref a528)])
            refine gw_st (fun _ kq => XS.astore X531.here hx rfl (hb hby at_115) rfl rfl (l' := #[.val (.int x0), .val (.int x1), .val (.int x2), .val (.int x3), .val (.int x4), .val (.int (3 : Int32)), .val (.int (0 : Int32)), .val (.int (x2 &&& (255 : Int32))), .val (.int (x3 &&& (255 : Int32))), .val (.int (x4 &&& (255 : Int32))), .val (.ref a528), .unset, .unset, .unset, .unset]) rfl kq) ?_
            show GoW p e below s _ _ _ T531 (mkF m 117 #[.val (.int x0), .val (.int x1), .val (.int x2), .val (.int x3), .val (.int x4), .val (.int (3 : Int32)), .val (.int (0 : Int32)), .val (.int (x2 &&& (255 : Int32))), .val (.int (x3 &&& (255 : Int32))), .val (.int (x4 &&& (255 : Int32))), .val (.ref a528), .unset, .unset, .unset, .unset] [])
            refine gw_newO X531 hx hZ hown (hw _ (List.mem_of_getElem? (i := 2) rfl)) (hw _ (List.mem_of_getElem? (i := 3) rfl)) (hw _ (List.mem_of_getElem? (i := 4) rfl)) e531 (hb hby at_117) rfl (by decide) (by decide) ?_
            intro T532 h532 a532 g532 X532 e532 E532 A532 D532
            have y533 : h0.size ≤ h528.size := Nat.le_trans (Nat.le_refl _) E528.1
            have y534 : h0.size ≤ h529.size := (Wr.size W529).symm ▸ y533
            have y535 : h0.size ≤ h530.size := (Wr.size W530).symm ▸ y534
            have y536 : h0.size ≤ h531.size := (Wr.size W531).symm ▸ y535
            have c537 : a528 < h529.size := (Wr.size W529).symm ▸ lt_a528
            have c538 : a528 < h530.size := (Wr.size W530).symm ▸ c537
            have c539 : a528 < h531.size := (Wr.size W531).symm ▸ c538
            have ne540 : a528 ≠ a532 := fun q => Nat.lt_irrefl _ (Nat.lt_of_lt_of_le c539 (Nat.le_of_eq (g532.symm.trans q.symm)))
            have z541 : n0 ≤ h528.size := Nat.le_trans Z0 E528.1
            have z542 : n0 ≤ h529.size := (Wr.size W529).symm ▸ z541
            have z543 : n0 ≤ h530.size := (Wr.size W530).symm ▸ z542
            have z544 : n0 ≤ h531.size := (Wr.size W531).symm ▸ z543
            have nw_a532 : n0 ≤ a532 := Nat.le_trans z544 (Nat.le_of_eq g532.symm)
            have lt_a532 : a532 < h532.size := A532.lt
            have F545 : Fld Z h532 a532 "com/example/wirecall/wirecall/TextCursor" "text" "Ljava/lang/String;" .null := D532 (Or.inr (hw _ (List.mem_of_getElem? (i := 31) rfl))) (ty := (.object "java/lang/String")) (by decide)
            have F546 : Fld Z h532 a532 "com/example/wirecall/wirecall/TextCursor" "pos" "I" (.int (0 : Int32)) := D532 (Or.inl (hw _ (List.mem_of_getElem? (i := 38) rfl))) (ty := .int) (by decide)
            show GoW p e below s _ _ _ T532 (mkF m 120 #[.val (.int x0), .val (.int x1), .val (.int x2), .val (.int x3), .val (.int x4), .val (.int (3 : Int32)), .val (.int (0 : Int32)), .val (.int (x2 &&& (255 : Int32))), .val (.int (x3 &&& (255 : Int32))), .val (.int (x4 &&& (255 : Int32))), .val (.ref a528), .unset, .unset, .unset, .unset] [(.ref a532)])
            refine gw_st (fun _ kq => XS.dup X532.here hx rfl (hb hby at_120) rfl rfl kq) ?_
            show GoW p e below s _ _ _ T532 (mkF m 121 #[.val (.int x0), .val (.int x1), .val (.int x2), .val (.int x3), .val (.int x4), .val (.int (3 : Int32)), .val (.int (0 : Int32)), .val (.int (x2 &&& (255 : Int32))), .val (.int (x3 &&& (255 : Int32))), .val (.int (x4 &&& (255 : Int32))), .val (.ref a528), .unset, .unset, .unset, .unset] [(.ref a532), (.ref a532)])
            refine gw_newO X532 hx hZ hown (hw _ (List.mem_of_getElem? (i := 5) rfl)) (hw _ (List.mem_of_getElem? (i := 6) rfl)) (hw _ (List.mem_of_getElem? (i := 7) rfl)) e532 (hb hby at_121) rfl (by decide) (by decide) ?_
            intro T547 h547 a547 g547 X547 e547 E547 A547 D547
            have y548 : h0.size ≤ h532.size := Nat.le_trans y536 E532.1
            have c549 : a528 < h532.size := Nat.lt_of_lt_of_le c539 E532.1
            have ne550 : a528 ≠ a547 := fun q => Nat.lt_irrefl _ (Nat.lt_of_lt_of_le c549 (Nat.le_of_eq (g547.symm.trans q.symm)))
            have ne551 : a532 ≠ a547 := fun q => Nat.lt_irrefl _ (Nat.lt_of_lt_of_le lt_a532 (Nat.le_of_eq (g547.symm.trans q.symm)))
            have z552 : n0 ≤ h532.size := Nat.le_trans z544 E532.1
            have nw_a547 : n0 ≤ a547 := Nat.le_trans z552 (Nat.le_of_eq g547.symm)
            have lt_a547 : a547 < h547.size := A547.lt
            have F553 : Fld Z h547 a547 "java/lang/String" "value" "[B" .null := D547 (Or.inr (hw _ (List.mem_of_getElem? (i := 20) rfl))) (ty := (.array .byte)) (by decide)
            have F554 : Fld Z h547 a547 "java/lang/String" "coder" "B" (.int (0 : Int32)) := D547 (Or.inr (hw _ (List.mem_of_getElem? (i := 21) rfl))) (ty := .byte) (by decide)
            show GoW p e below s _ _ _ T547 (mkF m 124 #[.val (.int x0), .val (.int x1), .val (.int x2), .val (.int x3), .val (.int x4), .val (.int (3 : Int32)), .val (.int (0 : Int32)), .val (.int (x2 &&& (255 : Int32))), .val (.int (x3 &&& (255 : Int32))), .val (.int (x4 &&& (255 : Int32))), .val (.ref a528), .unset, .unset, .unset, .unset] [(.ref a547), (.ref a532), (.ref a532)])
            refine gw_st (fun _ kq => XS.dup X547.here hx rfl (hb hby at_124) rfl rfl kq) ?_
            show GoW p e below s _ _ _ T547 (mkF m 125 #[.val (.int x0), .val (.int x1), .val (.int x2), .val (.int x3), .val (.int x4), .val (.int (3 : Int32)), .val (.int (0 : Int32)), .val (.int (x2 &&& (255 : Int32))), .val (.int (x3 &&& (255 : Int32))), .val (.int (x4 &&& (255 : Int32))), .val (.ref a528), .unset, .unset, .unset, .unset] [(.ref a547), (.ref a547), (.ref a532), (.ref a532)])
            refine gw_st (fun _ kq => XS.aload X547.here hx rfl (hb hby at_125) rfl rfl kq) ?_
            show GoW p e below s _ _ _ T547 (mkF m 127 #[.val (.int x0), .val (.int x1), .val (.int x2), .val (.int x3), .val (.int x4), .val (.int (3 : Int32)), .val (.int (0 : Int32)), .val (.int (x2 &&& (255 : Int32))), .val (.int (x3 &&& (255 : Int32))), .val (.int (x4 &&& (255 : Int32))), .val (.ref a528), .unset, .unset, .unset, .unset] [(.ref a528), (.ref a547), (.ref a547), (.ref a532), (.ref a532)])
            have c556 := A531.ext E532
            have c557 := c556.ext E547
            have c558 := Old.ext O0 E528
            have c559 := Old.wr c558 W529 nw_a528
            have c560 := Old.wr c559 W530 nw_a528
            have c561 := Old.wr c560 W531 nw_a528
            have c562 := Old.ext c561 E532
            have c563 := Old.ext c562 E547
            have z564 : n0 ≤ h547.size := Nat.le_trans z552 E547.1
            refine gw_callI X547 hx hZ hml hown rfl (hw _ (List.mem_of_getElem? (i := 8) rfl)) (hw _ (List.mem_of_getElem? (i := 9) rfl)) (hw _ (List.mem_of_getElem? (i := 10) rfl)) (hw _ (List.mem_of_getElem? (i := 7) rfl)) e547 (argsL := [(.ref a528)]) (rest := [(.ref a547), (.ref a532), (.ref a532)]) (W := 3) (met_s3 l Z a0 hw a547 a528 (x2 &&& (255 : Int32)) (x3 &&& (255 : Int32)) (x4 &&& (255 : Int32)) zc h547 n0 z564 A547 F553 F554 nw_a547 c557 (Ne.symm ne550) (own_lat _) (own_lat _) (own_lat _) c563 S0 zn) (hb hby at_127) rfl rfl rfl (lenOf pd6 rfl) (by show 2 * 0 + _ ≤ _; exact Nat.le_of_eq rfl) (by decide) (by decide) (by decide) (by decide) (by decide) ?_
            intro T555 v555 L555 X555 q555
            obtain ⟨r_555, rfl, M555, K555, fz555_r, f555_0, f555_1, f555_2, f555_3⟩ := q555
            have N555 := Fr.app N531 M555
            have c565 : a528 < h547.size := Nat.lt_of_lt_of_le c549 E547.1
            have ne566 : a528 ≠ r_555 := Nat.ne_of_lt (Nat.lt_of_lt_of_le c565 fz555_r)
            have c567 : a532 < h547.size := Nat.lt_of_lt_of_le lt_a532 E547.1
            have ne568 : a532 ≠ r_555 := Nat.ne_of_lt (Nat.lt_of_lt_of_le c567 fz555_r)
            have ne569 : a547 ≠ r_555 := Nat.ne_of_lt (Nat.lt_of_lt_of_le lt_a547 fz555_r)
            have nw_r_555 : n0 ≤ r_555 := Nat.le_trans z564 fz555_r
            have y570 : h0.size ≤ h547.size := Nat.le_trans y548 E547.1
            have lt_r_555 : r_555 < T555.heap.size := f555_3.lt
            show GoW p e below s _ _ _ T555 (mkF m 130 #[.val (.int x0), .val (.int x1), .val (.int x2), .val (.int x3), .val (.int x4), .val (.int (3 : Int32)), .val (.int (0 : Int32)), .val (.int (x2 &&& (255 : Int32))), .val (.int (x3 &&& (255 : Int32))), .val (.int (x4 &&& (255 : Int32))), .val (.ref a528), .unset, .unset, .unset, .unset] [(.ref a547), (.ref a532), (.ref a532)])
            have c572 := Exa.ext E547 A532
            have c573 := Exa.keep c572 K555
            have c574 := Fld.ext E547 F545
            have c575 := Fld.keep c574 K555 (ninS ne551 nin0)
            have c576 := Fld.ext E547 F546
            have c577 := Fld.keep c576 K555 (ninS ne551 nin0)
            have z578 : n0 ≤ T555.heap.size := Nat.le_trans z564 K555.1
            refine gw_callI X555 hx hZ hml hown rfl (hw _ (List.mem_of_getElem? (i := 26) rfl)) (hw _ (List.mem_of_getElem? (i := 27) rfl)) (hw _ (List.mem_of_getElem? (i := 28) rfl)) (hw _ (List.mem_of_getElem? (i := 4) rfl)) rfl (argsL := [(.ref a547)]) (rest := [(.ref a532)]) (W := 1) (met_tci l Z a0 hw a532 a547 T555.heap n0 z578 c573 c575 c577 nw_a532) (hb hby at_130) rfl rfl rfl (lenOf pd7 rfl) (by show 2 * 0 + _ ≤ _; exact Nat.le_of_eq rfl) (by decide) (by decide) (by decide) (by decide) (by decide) ?_
            intro T571 v571 L571 X571 q571
            obtain ⟨rfl, M571, K571, f571_0, f571_1⟩ := q571
            have N571 := Fr.app N555 M571
            show GoW p e below s _ _ _ T571 (mkF m 133 #[.val (.int x0), .val (.int x1), .val (.int x2), .val (.int x3), .val (.int x4), .val (.int (3 : Int32)), .val (.int (0 : Int32)), .val (.int (x2 &&& (255 : Int32))), .val (.int (x3 &&& (255 : Int32))), .val (.int (x4 &&& (255 : Int32))), .val (.ref a528), .unset, .unset, .unset, .unset] [(.ref a532)])
            refine gw_st (fun _ kq => XS.astore X571.here hx rfl (hb hby at_133) rfl rfl (l' := #[.val (.int x0), .val (.int x1), .val (.int x2), .val (.int x3), .val (.int x4), .val (.int (3 : Int32)), .val (.int (0 : Int32)), .val (.int (x2 &&& (255 : Int32))), .val (.int (x3 &&& (255 : Int32))), .val (.int (x4 &&& (255 : Int32))), .val (.ref a528), .val (.ref a532), .unset, .unset, .unset]) rfl kq) ?_
            show GoW p e below s _ _ _ T571 (mkF m 135 #[.val (.int x0), .val (.int x1), .val (.int x2), .val (.int x3), .val (.int x4), .val (.int (3 : Int32)), .val (.int (0 : Int32)), .val (.int (x2 &&& (255 : Int32))), .val (.int (x3 &&& (255 : Int32))), .val (.int (x4 &&& (255 : Int32))), .val (.ref a528), .val (.ref a532), .unset, .unset, .unset] [])
            refine gw_st (fun _ kq => XS.aload X571.here hx rfl (hb hby at_135) rfl rfl kq) ?_
            show GoW p e below s _ _ _ T571 (mkF m 137 #[.val (.int x0), .val (.int x1), .val (.int x2), .val (.int x3), .val (.int x4), .val (.int (3 : Int32)), .val (.int (0 : Int32)), .val (.int (x2 &&& (255 : Int32))), .val (.int (x3 &&& (255 : Int32))), .val (.int (x4 &&& (255 : Int32))), .val (.ref a528), .val (.ref a532), .unset, .unset, .unset] [(.ref a532)])
            have c580 := Exa.keep f555_0 K571
            have c581 := Fld.keep f555_1 K571 (ninS (Ne.symm ne551) nin0)
            have c582 := Fld.keep f555_2 K571 (ninS (Ne.symm ne551) nin0)
            have c583 := GA.keep f555_3 K571 (ninS (Ne.symm ne568) nin0)
            have c584 := Old.keep c563 K555 (allS nw_a547 all0)
            have c585 := Old.keep c584 K571 (allS nw_a532 all0)
            have z586 : n0 ≤ T571.heap.size := Nat.le_trans z578 K571.1
            have c587 := Exa.keep c573 K571
            refine gw_callV X571 hx hZ hml hown (hw _ (List.mem_of_getElem? (i := 32) rfl)) (hw _ (List.mem_of_getElem? (i := 33) rfl)) (notFace_of_selects (args := #[]) (mvT hZ (hw _ (List.mem_of_getElem? (i := 35) rfl)))) (hw _ (List.mem_of_getElem? (i := 35) rfl)) (hw _ (List.mem_of_getElem? (i := 34) rfl)) (hw _ (List.mem_of_getElem? (i := 36) rfl)) (hw _ (List.mem_of_getElem? (i := 4) rfl)) rfl c587 (argsL := []) (rest := []) (W := 0) (met_end30 l Z a0 hw a532 a547 r_555 (fun i => .int (own_c3 (own_by (x2 &&& (255 : Int32))) (own_by (x3 &&& (255 : Int32))) (own_by (x4 &&& (255 : Int32))) i)) zc T571.heap n0 z586 f571_1 f571_0 c580 c581 c582 c583 c585 S0 zn) (hb hby at_137) rfl rfl rfl (lenOf pd8 rfl) (by show 2 * 0 + _ ≤ _; exact Nat.le_of_eq rfl) (by decide) (by decide) (by decide) (by decide) (by decide) ?_
            intro T579 v579 L579 X579 q579
            obtain ⟨rfl, M579, e579⟩ := q579
            have N579 := Fr.app N571 M579
            show GoW p e below s _ _ _ T579 (mkF m 140 #[.val (.int x0), .val (.int x1), .val (.int x2), .val (.int x3), .val (.int x4), .val (.int (3 : Int32)), .val (.int (0 : Int32)), .val (.int (x2 &&& (255 : Int32))), .val (.int (x3 &&& (255 : Int32))), .val (.int (x4 &&& (255 : Int32))), .val (.ref a528), .val (.ref a532), .unset, .unset, .unset] [(.int (0 : Int32))])
            refine gw_st (fun _ kq => XS.iload X579.here hx rfl (hb hby at_140) rfl kq) ?_
            show GoW p e below s _ _ _ T579 (mkF m 142 #[.val (.int x0), .val (.int x1), .val (.int x2), .val (.int x3), .val (.int x4), .val (.int (3 : Int32)), .val (.int (0 : Int32)), .val (.int (x2 &&& (255 : Int32))), .val (.int (x3 &&& (255 : Int32))), .val (.int (x4 &&& (255 : Int32))), .val (.ref a528), .val (.ref a532), .unset, .unset, .unset] [(.int (3 : Int32)), (.int (0 : Int32))])
            refine gw_st (fun _ kq => XS.ifYes X579.here hx rfl (pc0 := 142) (pc' := 149) rfl (hb hby at_142) rfl (XT.i0_ne_t (by decide)) (by decide) (by decide) kq) ?_
            show GoW p e below s _ _ _ T579 (mkF m 149 #[.val (.int x0), .val (.int x1), .val (.int x2), .val (.int x3), .val (.int x4), .val (.int (3 : Int32)), .val (.int (0 : Int32)), .val (.int (x2 &&& (255 : Int32))), .val (.int (x3 &&& (255 : Int32))), .val (.int (x4 &&& (255 : Int32))), .val (.ref a528), .val (.ref a532), .unset, .unset, .unset] [(.int (0 : Int32))])
            refine gw_st (fun _ kq => XT.iconstV X579.here hx rfl (0 : Int32) (hb hby at_149) (by decide) kq) ?_
            show GoW p e below s _ _ _ T579 (mkF m 150 #[.val (.int x0), .val (.int x1), .val (.int x2), .val (.int x3), .val (.int x4), .val (.int (3 : Int32)), .val (.int (0 : Int32)), .val (.int (x2 &&& (255 : Int32))), .val (.int (x3 &&& (255 : Int32))), .val (.int (x4 &&& (255 : Int32))), .val (.ref a528), .val (.ref a532), .unset, .unset, .unset] [(.int (0 : Int32)), (.int (0 : Int32))])
            refine gw_st (fun _ kq => XS.icmpNo X579.here hx rfl (hb hby at_150) rfl (XT.ii_ne_f (by decide)) kq) ?_
            show GoW p e below s _ _ _ T579 (mkF m 153 #[.val (.int x0), .val (.int x1), .val (.int x2), .val (.int x3), .val (.int x4), .val (.int (3 : Int32)), .val (.int (0 : Int32)), .val (.int (x2 &&& (255 : Int32))), .val (.int (x3 &&& (255 : Int32))), .val (.int (x4 &&& (255 : Int32))), .val (.ref a528), .val (.ref a532), .unset, .unset, .unset] [])
            refine gw_st (fun _ kq => XT.iconstV X579.here hx rfl (1 : Int32) (hb hby at_153) (by decide) kq) ?_
            show GoW p e below s _ _ _ T579 (mkF m 154 #[.val (.int x0), .val (.int x1), .val (.int x2), .val (.int x3), .val (.int x4), .val (.int (3 : Int32)), .val (.int (0 : Int32)), .val (.int (x2 &&& (255 : Int32))), .val (.int (x3 &&& (255 : Int32))), .val (.int (x4 &&& (255 : Int32))), .val (.ref a528), .val (.ref a532), .unset, .unset, .unset] [(.int (1 : Int32))])
            refine gw_st (fun _ kq => XS.goto X579.here hx rfl (pc0 := 154) (pc' := 158) rfl (hb hby at_154) (by decide) (by decide) kq) ?_
            show GoW p e below s _ _ _ T579 (mkF m 158 #[.val (.int x0), .val (.int x1), .val (.int x2), .val (.int x3), .val (.int x4), .val (.int (3 : Int32)), .val (.int (0 : Int32)), .val (.int (x2 &&& (255 : Int32))), .val (.int (x3 &&& (255 : Int32))), .val (.int (x4 &&& (255 : Int32))), .val (.ref a528), .val (.ref a532), .unset, .unset, .unset] [(.int (1 : Int32))])
            refine gw_st (fun _ kq => XS.istore X579.here hx rfl (hb hby at_158) rfl (l' := #[.val (.int x0), .val (.int x1), .val (.int x2), .val (.int x3), .val (.int x4), .val (.int (3 : Int32)), .val (.int (0 : Int32)), .val (.int (x2 &&& (255 : Int32))), .val (.int (x3 &&& (255 : Int32))), .val (.int (x4 &&& (255 : Int32))), .val (.ref a528), .val (.ref a532), .val (.int (1 : Int32)), .unset, .unset]) rfl kq) ?_
            show GoW p e below s _ _ _ T579 (mkF m 160 #[.val (.int x0), .val (.int x1), .val (.int x2), .val (.int x3), .val (.int x4), .val (.int (3 : Int32)), .val (.int (0 : Int32)), .val (.int (x2 &&& (255 : Int32))), .val (.int (x3 &&& (255 : Int32))), .val (.int (x4 &&& (255 : Int32))), .val (.ref a528), .val (.ref a532), .val (.int (1 : Int32)), .unset, .unset] [])
            refine gw_st (fun _ kq => XS.iload X579.here hx rfl (hb hby at_160) rfl kq) ?_
            show GoW p e below s _ _ _ T579 (mkF m 162 #[.val (.int x0), .val (.int x1), .val (.int x2), .val (.int x3), .val (.int x4), .val (.int (3 : Int32)), .val (.int (0 : Int32)), .val (.int (x2 &&& (255 : Int32))), .val (.int (x3 &&& (255 : Int32))), .val (.int (x4 &&& (255 : Int32))), .val (.ref a528), .val (.ref a532), .val (.int (1 : Int32)), .unset, .unset] [(.int (0 : Int32))])
            refine gw_st (fun _ kq => XT.iconstV X579.here hx rfl (1 : Int32) (hb hby at_162) (by decide) kq) ?_
            show GoW p e below s _ _ _ T579 (mkF m 163 #[.val (.int x0), .val (.int x1), .val (.int x2), .val (.int x3), .val (.int x4), .val (.int (3 : Int32)), .val (.int (0 : Int32)), .val (.int (x2 &&& (255 : Int32))), .val (.int (x3 &&& (255 : Int32))), .val (.int (x4 &&& (255 : Int32))), .val (.ref a528), .val (.ref a532), .val (.int (1 : Int32)), .unset, .unset] [(.int (1 : Int32)), (.int (0 : Int32))])
            refine gw_st (fun _ kq => XS.icmpYes X579.here hx rfl (pc0 := 163) (pc' := 171) rfl (hb hby at_163) rfl (XT.ii_lt_t (by decide)) (by decide) (by decide) kq) ?_
            show GoW p e below s _ _ _ T579 (mkF m 171 #[.val (.int x0), .val (.int x1), .val (.int x2), .val (.int x3), .val (.int x4), .val (.int (3 : Int32)), .val (.int (0 : Int32)), .val (.int (x2 &&& (255 : Int32))), .val (.int (x3 &&& (255 : Int32))), .val (.int (x4 &&& (255 : Int32))), .val (.ref a528), .val (.ref a532), .val (.int (1 : Int32)), .unset, .unset] [])
            refine gw_st (fun _ kq => XS.iload X579.here hx rfl (hb hby at_171) rfl kq) ?_
            show GoW p e below s _ _ _ T579 (mkF m 173 #[.val (.int x0), .val (.int x1), .val (.int x2), .val (.int x3), .val (.int x4), .val (.int (3 : Int32)), .val (.int (0 : Int32)), .val (.int (x2 &&& (255 : Int32))), .val (.int (x3 &&& (255 : Int32))), .val (.int (x4 &&& (255 : Int32))), .val (.ref a528), .val (.ref a532), .val (.int (1 : Int32)), .unset, .unset] [(.int (0 : Int32))])
            refine gw_st (fun _ kq => XT.iconstV X579.here hx rfl (2 : Int32) (hb hby at_173) (by decide) kq) ?_
            show GoW p e below s _ _ _ T579 (mkF m 174 #[.val (.int x0), .val (.int x1), .val (.int x2), .val (.int x3), .val (.int x4), .val (.int (3 : Int32)), .val (.int (0 : Int32)), .val (.int (x2 &&& (255 : Int32))), .val (.int (x3 &&& (255 : Int32))), .val (.int (x4 &&& (255 : Int32))), .val (.ref a528), .val (.ref a532), .val (.int (1 : Int32)), .unset, .unset] [(.int (2 : Int32)), (.int (0 : Int32))])
            refine gw_st (fun _ kq => XS.icmpYes X579.here hx rfl (pc0 := 174) (pc' := 182) rfl (hb hby at_174) rfl (XT.ii_lt_t (by decide)) (by decide) (by decide) kq) ?_
            show GoW p e below s _ _ _ T579 (mkF m 182 #[.val (.int x0), .val (.int x1), .val (.int x2), .val (.int x3), .val (.int x4), .val (.int (3 : Int32)), .val (.int (0 : Int32)), .val (.int (x2 &&& (255 : Int32))), .val (.int (x3 &&& (255 : Int32))), .val (.int (x4 &&& (255 : Int32))), .val (.ref a528), .val (.ref a532), .val (.int (1 : Int32)), .unset, .unset] [])
            refine gw_st (fun _ kq => XS.iload X579.here hx rfl (hb hby at_182) rfl kq) ?_
            show GoW p e below s _ _ _ T579 (mkF m 184 #[.val (.int x0), .val (.int x1), .val (.int x2), .val (.int x3), .val (.int x4), .val (.int (3 : Int32)), .val (.int (0 : Int32)), .val (.int (x2 &&& (255 : Int32))), .val (.int (x3 &&& (255 : Int32))), .val (.int (x4 &&& (255 : Int32))), .val (.ref a528), .val (.ref a532), .val (.int (1 : Int32)), .unset, .unset] [(.int (0 : Int32))])
            refine gw_st (fun _ kq => XT.iconstV X579.here hx rfl (3 : Int32) (hb hby at_184) (by decide) kq) ?_
            show GoW p e below s _ _ _ T579 (mkF m 185 #[.val (.int x0), .val (.int x1), .val (.int x2), .val (.int x3), .val (.int x4), .val (.int (3 : Int32)), .val (.int (0 : Int32)), .val (.int (x2 &&& (255 : Int32))), .val (.int (x3 &&& (255 : Int32))), .val (.int (x4 &&& (255 : Int32))), .val (.ref a528), .val (.ref a532), .val (.int (1 : Int32)), .unset, .unset] [(.int (3 : Int32)), (.int (0 : Int32))])
            refine gw_st (fun _ kq => XS.icmpYes X579.here hx rfl (pc0 := 185) (pc' := 193) rfl (hb hby at_185) rfl (XT.ii_lt_t (by decide)) (by decide) (by decide) kq) ?_
            show GoW p e below s _ _ _ T579 (mkF m 193 #[.val (.int x0), .val (.int x1), .val (.int x2), .val (.int x3), .val (.int x4), .val (.int (3 : Int32)), .val (.int (0 : Int32)), .val (.int (x2 &&& (255 : Int32))), .val (.int (x3 &&& (255 : Int32))), .val (.int (x4 &&& (255 : Int32))), .val (.ref a528), .val (.ref a532), .val (.int (1 : Int32)), .unset, .unset] [])
            refine gw_st (fun _ kq => XS.aload X579.here hx rfl (hb hby at_193) rfl rfl kq) ?_
            show GoW p e below s _ _ _ T579 (mkF m 195 #[.val (.int x0), .val (.int x1), .val (.int x2), .val (.int x3), .val (.int x4), .val (.int (3 : Int32)), .val (.int (0 : Int32)), .val (.int (x2 &&& (255 : Int32))), .val (.int (x3 &&& (255 : Int32))), .val (.int (x4 &&& (255 : Int32))), .val (.ref a528), .val (.ref a532), .val (.int (1 : Int32)), .unset, .unset] [(.ref a532)])
            refine gw_callV X579 hx hZ hml hown (hw _ (List.mem_of_getElem? (i := 32) rfl)) (hw _ (List.mem_of_getElem? (i := 33) rfl)) (notFace_of_selects (args := #[]) (mvT hZ (hw _ (List.mem_of_getElem? (i := 35) rfl)))) (hw _ (List.mem_of_getElem? (i := 35) rfl)) (hw _ (List.mem_of_getElem? (i := 34) rfl)) (hw _ (List.mem_of_getElem? (i := 36) rfl)) (hw _ (List.mem_of_getElem? (i := 4) rfl)) e579 c587 (argsL := []) (rest := []) (W := 0) (met_end30 l Z a0 hw a532 a547 r_555 (fun i => .int (own_c3 (own_by (x2 &&& (255 : Int32))) (own_by (x3 &&& (255 : Int32))) (own_by (x4 &&& (255 : Int32))) i)) zc T571.heap n0 z586 f571_1 f571_0 c580 c581 c582 c583 c585 S0 zn) (hb hby at_195) rfl rfl rfl (lenOf pd8 rfl) (by show 2 * 0 + _ ≤ _; exact Nat.le_of_eq rfl) (by decide) (by decide) (by decide) (by decide) (by decide) ?_
            intro T588 v588 L588 X588 q588
            obtain ⟨rfl, M588, e588⟩ := q588
            have N588 := Fr.app N579 M588
            show GoW p e below s _ _ _ T588 (mkF m 198 #[.val (.int x0), .val (.int x1), .val (.int x2), .val (.int x3), .val (.int x4), .val (.int (3 : Int32)), .val (.int (0 : Int32)), .val (.int (x2 &&& (255 : Int32))), .val (.int (x3 &&& (255 : Int32))), .val (.int (x4 &&& (255 : Int32))), .val (.ref a528), .val (.ref a532), .val (.int (1 : Int32)), .unset, .unset] [(.int (0 : Int32))])
            refine gw_st (fun _ kq => XS.iload X588.here hx rfl (hb hby at_198) rfl kq) ?_
            show GoW p e below s _ _ _ T588 (mkF m 200 #[.val (.int x0), .val (.int x1), .val (.int x2), .val (.int x3), .val (.int x4), .val (.int (3 : Int32)), .val (.int (0 : Int32)), .val (.int (x2 &&& (255 : Int32))), .val (.int (x3 &&& (255 : Int32))), .val (.int (x4 &&& (255 : Int32))), .val (.ref a528), .val (.ref a532), .val (.int (1 : Int32)), .unset, .unset] [(.int (0 : Int32)), (.int (0 : Int32))])
            refine gw_st (fun _ kq => XS.iload X588.here hx rfl (hb hby at_200) rfl kq) ?_
            show GoW p e below s _ _ _ T588 (mkF m 202 #[.val (.int x0), .val (.int x1), .val (.int x2), .val (.int x3), .val (.int x4), .val (.int (3 : Int32)), .val (.int (0 : Int32)), .val (.int (x2 &&& (255 : Int32))), .val (.int (x3 &&& (255 : Int32))), .val (.int (x4 &&& (255 : Int32))), .val (.ref a528), .val (.ref a532), .val (.int (1 : Int32)), .unset, .unset] [(.int (3 : Int32)), (.int (0 : Int32)), (.int (0 : Int32))])
            refine gw_st (fun _ kq => XS.icmpYes X588.here hx rfl (pc0 := 202) (pc' := 209) rfl (hb hby at_202) rfl (XT.ii_ne_t (by decide)) (by decide) (by decide) kq) ?_
            show GoW p e below s _ _ _ T588 (mkF m 209 #[.val (.int x0), .val (.int x1), .val (.int x2), .val (.int x3), .val (.int x4), .val (.int (3 : Int32)), .val (.int (0 : Int32)), .val (.int (x2 &&& (255 : Int32))), .val (.int (x3 &&& (255 : Int32))), .val (.int (x4 &&& (255 : Int32))), .val (.ref a528), .val (.ref a532), .val (.int (1 : Int32)), .unset, .unset] [(.int (0 : Int32))])
            refine gw_st (fun _ kq => XT.iconstV X588.here hx rfl (0 : Int32) (hb hby at_209) (by decide) kq) ?_
            show GoW p e below s _ _ _ T588 (mkF m 210 #[.val (.int x0), .val (.int x1), .val (.int x2), .val (.int x3), .val (.int x4), .val (.int (3 : Int32)), .val (.int (0 : Int32)), .val (.int (x2 &&& (255 : Int32))), .val (.int (x3 &&& (255 : Int32))), .val (.int (x4 &&& (255 : Int32))), .val (.ref a528), .val (.ref a532), .val (.int (1 : Int32)), .unset, .unset] [(.int (0 : Int32)), (.int (0 : Int32))])
            refine gw_st (fun _ kq => XS.icmpNo X588.here hx rfl (hb hby at_210) rfl (XT.ii_ne_f (by decide)) kq) ?_
            show GoW p e below s _ _ _ T588 (mkF m 213 #[.val (.int x0), .val (.int x1), .val (.int x2), .val (.int x3), .val (.int x4), .val (.int (3 : Int32)), .val (.int (0 : Int32)), .val (.int (x2 &&& (255 : Int32))), .val (.int (x3 &&& (255 : Int32))), .val (.int (x4 &&& (255 : Int32))), .val (.ref a528), .val (.ref a532), .val (.int (1 : Int32)), .unset, .unset] [])
            refine gw_st (fun _ kq => XT.iconstV X588.here hx rfl (1 : Int32) (hb hby at_213) (by decide) kq) ?_
            show GoW p e below s _ _ _ T588 (mkF m 214 #[.val (.int x0), .val (.int x1), .val (.int x2), .val (.int x3), .val (.int x4), .val (.int (3 : Int32)), .val (.int (0 : Int32)), .val (.int (x2 &&& (255 : Int32))), .val (.int (x3 &&& (255 : Int32))), .val (.int (x4 &&& (255 : Int32))), .val (.ref a528), .val (.ref a532), .val (.int (1 : Int32)), .unset, .unset] [(.int (1 : Int32))])
            refine gw_st (fun _ kq => XS.goto X588.here hx rfl (pc0 := 214) (pc' := 218) rfl (hb hby at_214) (by decide) (by decide) kq) ?_
            show GoW p e below s _ _ _ T588 (mkF m 218 #[.val (.int x0), .val (.int x1), .val (.int x2), .val (.int x3), .val (.int x4), .val (.int (3 : Int32)), .val (.int (0 : Int32)), .val (.int (x2 &&& (255 : Int32))), .val (.int (x3 &&& (255 : Int32))), .val (.int (x4 &&& (255 : Int32))), .val (.ref a528), .val (.ref a532), .val (.int (1 : Int32)), .unset, .unset] [(.int (1 : Int32))])
            refine gw_st (fun _ kq => XS.istore X588.here hx rfl (hb hby at_218) rfl (l' := #[.val (.int x0), .val (.int x1), .val (.int x2), .val (.int x3), .val (.int x4), .val (.int (3 : Int32)), .val (.int (0 : Int32)), .val (.int (x2 &&& (255 : Int32))), .val (.int (x3 &&& (255 : Int32))), .val (.int (x4 &&& (255 : Int32))), .val (.ref a528), .val (.ref a532), .val (.int (1 : Int32)), .val (.int (1 : Int32)), .unset]) rfl kq) ?_
            show GoW p e below s _ _ _ T588 (mkF m 220 #[.val (.int x0), .val (.int x1), .val (.int x2), .val (.int x3), .val (.int x4), .val (.int (3 : Int32)), .val (.int (0 : Int32)), .val (.int (x2 &&& (255 : Int32))), .val (.int (x3 &&& (255 : Int32))), .val (.int (x4 &&& (255 : Int32))), .val (.ref a528), .val (.ref a532), .val (.int (1 : Int32)), .val (.int (1 : Int32)), .unset] [])
            refine gw_st (fun _ kq => XS.aload X588.here hx rfl (hb hby at_220) rfl rfl kq) ?_
            show GoW p e below s _ _ _ T588 (mkF m 222 #[.val (.int x0), .val (.int x1), .val (.int x2), .val (.int x3), .val (.int x4), .val (.int (3 : Int32)), .val (.int (0 : Int32)), .val (.int (x2 &&& (255 : Int32))), .val (.int (x3 &&& (255 : Int32))), .val (.int (x4 &&& (255 : Int32))), .val (.ref a528), .val (.ref a532), .val (.int (1 : Int32)), .val (.int (1 : Int32)), .unset] [(.ref a532)])
            refine gw_callV X588 hx hZ hml hown (hw _ (List.mem_of_getElem? (i := 50) rfl)) (hw _ (List.mem_of_getElem? (i := 51) rfl)) (notFace_of_selects (args := #[]) (mvT hZ (hw _ (List.mem_of_getElem? (i := 53) rfl)))) (hw _ (List.mem_of_getElem? (i := 53) rfl)) (hw _ (List.mem_of_getElem? (i := 52) rfl)) (hw _ (List.mem_of_getElem? (i := 54) rfl)) (hw _ (List.mem_of_getElem? (i := 4) rfl)) e588 c587 (argsL := []) (rest := []) (W := 0) (met_8 l Z a0 hw a532 (0 : Int32) T571.heap n0 z586 f571_1) (hb hby at_222) rfl rfl rfl (lenOf pd5 rfl) (by show 2 * 0 + _ ≤ _; exact Nat.le_of_eq rfl) (by decide) (by decide) (by decide) (by decide) (by decide) ?_
            intro T589 v589 L589 X589 q589
            obtain ⟨rfl, M589, e589⟩ := q589
            have N589 := Fr.app N588 M589
            show GoW p e below s _ _ _ T589 (mkF m 225 #[.val (.int x0), .val (.int x1), .val (.int x2), .val (.int x3), .val (.int x4), .val (.int (3 : Int32)), .val (.int (0 : Int32)), .val (.int (x2 &&& (255 : Int32))), .val (.int (x3 &&& (255 : Int32))), .val (.int (x4 &&& (255 : Int32))), .val (.ref a528), .val (.ref a532), .val (.int (1 : Int32)), .val (.int (1 : Int32)), .unset] [(.int (0 : Int32))])
            refine gw_st (fun _ kq => XS.iload X589.here hx rfl (hb hby at_225) rfl kq) ?_
            show GoW p e below s _ _ _ T589 (mkF m 227 #[.val (.int x0), .val (.int x1), .val (.int x2), .val (.int x3), .val (.int x4), .val (.int (3 : Int32)), .val (.int (0 : Int32)), .val (.int (x2 &&& (255 : Int32))), .val (.int (x3 &&& (255 : Int32))), .val (.int (x4 &&& (255 : Int32))), .val (.ref a528), .val (.ref a532), .val (.int (1 : Int32)), .val (.int (1 : Int32)), .unset] [(.int (0 : Int32)), (.int (0 : Int32))])
            refine gw_st (fun _ kq => XS.icmpNo X589.here hx rfl (hb hby at_227) rfl (XT.ii_ne_f (by decide)) kq) ?_
            show GoW p e below s _ _ _ T589 (mkF m 230 #[.val (.int x0), .val (.int x1), .val (.int x2), .val (.int x3), .val (.int x4), .val (.int (3 : Int32)), .val (.int (0 : Int32)), .val (.int (x2 &&& (255 : Int32))), .val (.int (x3 &&& (255 : Int32))), .val (.int (x4 &&& (255 : Int32))), .val (.ref a528), .val (.ref a532), .val (.int (1 : Int32)), .val (.int (1 : Int32)), .unset] [])
            refine gw_st (fun _ kq => XT.iconstV X589.here hx rfl (1 : Int32) (hb hby at_230) (by decide) kq) ?_
            show GoW p e below s _ _ _ T589 (mkF m 231 #[.val (.int x0), .val (.int x1), .val (.int x2), .val (.int x3), .val (.int x4), .val (.int (3 : Int32)), .val (.int (0 : Int32)), .val (.int (x2 &&& (255 : Int32))), .val (.int (x3 &&& (255 : Int32))), .val (.int (x4 &&& (255 : Int32))), .val (.ref a528), .val (.ref a532), .val (.int (1 : Int32)), .val (.int (1 : Int32)), .unset] [(.int (1 : Int32))])
            refine gw_st (fun _ kq => XS.goto X589.here hx rfl (pc0 := 231) (pc' := 235) rfl (hb hby at_231) (by decide) (by decide) kq) ?_
            show GoW p e below s _ _ _ T589 (mkF m 235 #[.val (.int x0), .val (.int x1), .val (.int x2), .val (.int x3), .val (.int x4), .val (.int (3 : Int32)), .val (.int (0 : Int32)), .val (.int (x2 &&& (255 : Int32))), .val (.int (x3 &&& (255 : Int32))), .val (.int (x4 &&& (255 : Int32))), .val (.ref a528), .val (.ref a532), .val (.int (1 : Int32)), .val (.int (1 : Int32)), .unset] [(.int (1 : Int32))])
            refine gw_st (fun _ kq => XS.istore X589.here hx rfl (hb hby at_235) rfl (l' := #[.val (.int x0), .val (.int x1), .val (.int x2), .val (.int x3), .val (.int x4), .val (.int (3 : Int32)), .val (.int (0 : Int32)), .val (.int (x2 &&& (255 : Int32))), .val (.int (x3 &&& (255 : Int32))), .val (.int (x4 &&& (255 : Int32))), .val (.ref a528), .val (.ref a532), .val (.int (1 : Int32)), .val (.int (1 : Int32)), .val (.int (1 : Int32))]) rfl kq) ?_
            show GoW p e below s _ _ _ T589 (mkF m 237 #[.val (.int x0), .val (.int x1), .val (.int x2), .val (.int x3), .val (.int x4), .val (.int (3 : Int32)), .val (.int (0 : Int32)), .val (.int (x2 &&& (255 : Int32))), .val (.int (x3 &&& (255 : Int32))), .val (.int (x4 &&& (255 : Int32))), .val (.ref a528), .val (.ref a532), .val (.int (1 : Int32)), .val (.int (1 : Int32)), .val (.int (1 : Int32))] [])
            refine gw_st (fun _ kq => XS.iload X589.here hx rfl (hb hby at_237) rfl kq) ?_
            show GoW p e below s _ _ _ T589 (mkF m 239 #[.val (.int x0), .val (.int x1), .val (.int x2), .val (.int x3), .val (.int x4), .val (.int (3 : Int32)), .val (.int (0 : Int32)), .val (.int (x2 &&& (255 : Int32))), .val (.int (x3 &&& (255 : Int32))), .val (.int (x4 &&& (255 : Int32))), .val (.ref a528), .val (.ref a532), .val (.int (1 : Int32)), .val (.int (1 : Int32)), .val (.int (1 : Int32))] [(.int (1 : Int32))])
            refine gw_st (fun _ kq => XS.ifNo X589.here hx rfl (hb hby at_239) rfl (XT.i0_eq_f (by decide)) kq) ?_
            show GoW p e below s _ _ _ T589 (mkF m 242 #[.val (.int x0), .val (.int x1), .val (.int x2), .val (.int x3), .val (.int x4), .val (.int (3 : Int32)), .val (.int (0 : Int32)), .val (.int (x2 &&& (255 : Int32))), .val (.int (x3 &&& (255 : Int32))), .val (.int (x4 &&& (255 : Int32))), .val (.ref a528), .val (.ref a532), .val (.int (1 : Int32)), .val (.int (1 : Int32)), .val (.int (1 : Int32))] [])
            refine gw_st (fun _ kq => XS.iload X589.here hx rfl (hb hby at_242) rfl kq) ?_
            show GoW p e below s _ _ _ T589 (mkF m 244 #[.val (.int x0), .val (.int x1), .val (.int x2), .val (.int x3), .val (.int x4), .val (.int (3 : Int32)), .val (.int (0 : Int32)), .val (.int (x2 &&& (255 : Int32))), .val (.int (x3 &&& (255 : Int32))), .val (.int (x4 &&& (255 : Int32))), .val (.ref a528), .val (.ref a532), .val (.int (1 : Int32)), .val (.int (1 : Int32)), .val (.int (1 : Int32))] [(.int (1 : Int32))])
            refine gw_st (fun _ kq => XS.ifNo X589.here hx rfl (hb hby at_244) rfl (XT.i0_eq_f (by decide)) kq) ?_
            show GoW p e below s _ _ _ T589 (mkF m 247 #[.val (.int x0), .val (.int x1), .val (.int x2), .val (.int x3), .val (.int x4), .val (.int (3 : Int32)), .val (.int (0 : Int32)), .val (.int (x2 &&& (255 : Int32))), .val (.int (x3 &&& (255 : Int32))), .val (.int (x4 &&& (255 : Int32))), .val (.ref a528), .val (.ref a532), .val (.int (1 : Int32)), .val (.int (1 : Int32)), .val (.int (1 : Int32))] [])
            refine gw_st (fun _ kq => XS.iload X589.here hx rfl (hb hby at_247) rfl kq) ?_
            show GoW p e below s _ _ _ T589 (mkF m 249 #[.val (.int x0), .val (.int x1), .val (.int x2), .val (.int x3), .val (.int x4), .val (.int (3 : Int32)), .val (.int (0 : Int32)), .val (.int (x2 &&& (255 : Int32))), .val (.int (x3 &&& (255 : Int32))), .val (.int (x4 &&& (255 : Int32))), .val (.ref a528), .val (.ref a532), .val (.int (1 : Int32)), .val (.int (1 : Int32)), .val (.int (1 : Int32))] [(.int (1 : Int32))])
            refine gw_st (fun _ kq => XS.ifNo X589.here hx rfl (hb hby at_249) rfl (XT.i0_eq_f (by decide)) kq) ?_
            show GoW p e below s _ _ _ T589 (mkF m 252 #[.val (.int x0), .val (.int x1), .val (.int x2), .val (.int x3), .val (.int x4), .val (.int (3 : Int32)), .val (.int (0 : Int32)), .val (.int (x2 &&& (255 : Int32))), .val (.int (x3 &&& (255 : Int32))), .val (.int (x4 &&& (255 : Int32))), .val (.ref a528), .val (.ref a532), .val (.int (1 : Int32)), .val (.int (1 : Int32)), .val (.int (1 : Int32))] [])
            refine gw_st (fun _ kq => XT.iconstV X589.here hx rfl (1 : Int32) (hb hby at_252) (by decide) kq) ?_
            show GoW p e below s _ _ _ T589 (mkF m 253 #[.val (.int x0), .val (.int x1), .val (.int x2), .val (.int x3), .val (.int x4), .val (.int (3 : Int32)), .val (.int (0 : Int32)), .val (.int (x2 &&& (255 : Int32))), .val (.int (x3 &&& (255 : Int32))), .val (.int (x4 &&& (255 : Int32))), .val (.ref a528), .val (.ref a532), .val (.int (1 : Int32)), .val (.int (1 : Int32)), .val (.int (1 : Int32))] [(.int (1 : Int32))])
            refine gw_st (fun _ kq => XS.goto X589.here hx rfl (pc0 := 253) (pc' := 257) rfl (hb hby at_253) (by decide) (by decide) kq) ?_
            show GoW p e below s _ _ _ T589 (mkF m 257 #[.val (.int x0), .val (.int x1), .val (.int x2), .val (.int x3), .val (.int x4), .val (.int (3 : Int32)), .val (.int (0 : Int32)), .val (.int (x2 &&& (255 : Int32))), .val (.int (x3 &&& (255 : Int32))), .val (.int (x4 &&& (255 : Int32))), .val (.ref a528), .val (.ref a532), .val (.int (1 : Int32)), .val (.int (1 : Int32)), .val (.int (1 : Int32))] [(.int (1 : Int32))])
            exact gw_retB (w := (1 : Int32)) X589 hx hlk hret (hb hby at_257) (by decide) (by decide) (by decide) ⟨rfl, N589⟩
          · by_cases hk590 : ((x1 &&& (2147483647 : Int32)) % (4 : Int32)) = (1 : Int32)
            · rw [hk590]
              show GoW p e below s _ _ _ s₁ (mkF m 16 #[.val (.int x0), .val (.int x1), .val (.int x2), .val (.int x3), .val (.int x4), .val (.int (3 : Int32)), .val (.int (1 : Int32)), .unset, .unset, .unset, .unset, .unset, .unset, .unset, .unset] [])
              refine gw_st (fun _ kq => XS.iloadN X0.here hx rfl (hb hby at_16) rfl kq) ?_
              show GoW p e below s _ _ _ s₁ (mkF m 17 #[.val (.int x0), .val (.int x1), .val (.int x2), .val (.int x3), .val (.int x4), .val (.int (3 : Int32)), .val (.int (1 : Int32)), .unset, .unset, .unset, .unset, .unset, .unset, .unset, .unset] [(.int x2)])
              refine gw_st (fun _ kq => XT.sipushV X0.here hx rfl (255 : Int32) (hb hby at_17) (by decide) kq) ?_
              show GoW p e below s _ _ _ s₁ (mkF m 20 #[.val (.int x0), .val (.int x1), .val (.int x2), .val (.int x3), .val (.int x4), .val (.int (3 : Int32)), .val (.int (1 : Int32)), .unset, .unset, .unset, .unset, .unset, .unset, .unset, .unset] [(.int (255 : Int32)), (.int x2)])
              refine gw_st (fun _ kq => XS.iand X0.here hx rfl (hb hby at_20) rfl kq) ?_
              show GoW p e below s _ _ _ s₁ (mkF m 21 #[.val (.int x0), .val (.int x1), .val (.int x2), .val (.int x3), .val (.int x4), .val (.int (3 : Int32)), .val (.int (1 : Int32)), .unset, .unset, .unset, .unset, .unset, .unset, .unset, .unset] [(.int (x2 &&& (255 : Int32)))])
              refine gw_st (fun _ kq => XT.i2c X0.here hx rfl (hb hby at_21) rfl kq) ?_
              rw [own_i2c]
              show GoW p e below s _ _ _ s₁ (mkF m 22 #[.val (.int x0), .val (.int x1), .val (.int x2), .val (.int x3), .val (.int x4), .val (.int (3 : Int32)), .val (.int (1 : Int32)), .unset, .unset, .unset, .unset, .unset, .unset, .unset, .unset] [(.int (x2 &&& (255 : Int32)))])
              refine gw_st (fun _ kq => XS.istore X0.here hx rfl (hb hby at_22) rfl (l' := #[.val (.int x0), .val (.int x1), .val (.int x2), .val (.int x3), .val (.int x4), .val (.int (3 : Int32)), .val (.int (1 : Int32)), .val (.int (x2 &&& (255 : Int32))), .unset, .unset, .unset, .unset, .unset, .unset, .unset]) rfl kq) ?_
              show GoW p e below s _ _ _ s₁ (mkF m 24 #[.val (.int x0), .val (.int x1), .val (.int x2), .val (.int x3), .val (.int x4), .val (.int (3 : Int32)), .val (.int (1 : Int32)), .val (.int (x2 &&& (255 : Int32))), .unset, .unset, .unset, .unset, .unset, .unset, .unset] [])
              refine gw_st (fun _ kq => XS.iloadN X0.here hx rfl (hb hby at_24) rfl kq) ?_
              show GoW p e below s _ _ _ s₁ (mkF m 25 #[.val (.int x0), .val (.int x1), .val (.int x2), .val (.int x3), .val (.int x4), .val (.int (3 : Int32)), .val (.int (1 : Int32)), .val (.int (x2 &&& (255 : Int32))), .unset, .unset, .unset, .unset, .unset, .unset, .unset] [(.int x3)])
              refine gw_st (fun _ kq => XT.sipushV X0.here hx rfl (255 : Int32) (hb hby at_25) (by decide) kq) ?_
              show GoW p e below s _ _ _ s₁ (mkF m 28 #[.val (.int x0), .val (.int x1), .val (.int x2), .val (.int x3), .val (.int x4), .val (.int (3 : Int32)), .val (.int (1 : Int32)), .val (.int (x2 &&& (255 : Int32))), .unset, .unset, .unset, .unset, .unset, .unset, .unset] [(.int (255 : Int32)), (.int x3)])
              refine gw_st (fun _ kq => XS.iand X0.here hx rfl (hb hby at_28) rfl kq) ?_
              show GoW p e below s _ _ _ s₁ (mkF m 29 #[.val (.int x0), .val (.int x1), .val (.int x2), .val (.int x3), .val (.int x4), .val (.int (3 : Int32)), .val (.int (1 : Int32)), .val (.int (x2 &&& (255 : Int32))), .unset, .unset, .unset, .unset, .unset, .unset, .unset] [(.int (x3 &&& (255 : Int32)))])
              refine gw_st (fun _ kq => XT.i2c X0.here hx rfl (hb hby at_29) rfl kq) ?_
              rw [own_i2c]
              show GoW p e below s _ _ _ s₁ (mkF m 30 #[.val (.int x0), .val (.int x1), .val (.int x2), .val (.int x3), .val (.int x4), .val (.int (3 : Int32)), .val (.int (1 : Int32)), .val (.int (x2 &&& (255 : Int32))), .unset, .unset, .unset, .unset, .unset, .unset, .unset] [(.int (x3 &&& (255 : Int32)))])
              refine gw_st (fun _ kq => XS.istore X0.here hx rfl (hb hby at_30) rfl (l' := #[.val (.int x0), .val (.int x1), .val (.int x2), .val (.int x3), .val (.int x4), .val (.int (3 : Int32)), .val (.int (1 : Int32)), .val (.int (x2 &&& (255 : Int32))), .val (.int (x3 &&& (255 : Int32))), .unset, .unset, .unset, .unset, .unset, .unset]) rfl kq) ?_
              show GoW p e below s _ _ _ s₁ (mkF m 32 #[.val (.int x0), .val (.int x1), .val (.int x2), .val (.int x3), .val (.int x4), .val (.int (3 : Int32)), .val (.int (1 : Int32)), .val (.int (x2 &&& (255 : Int32))), .val (.int (x3 &&& (255 : Int32))), .unset, .unset, .unset, .unset, .unset, .unset] [])
              refine gw_st (fun _ kq => XS.iload X0.here hx rfl (hb hby at_32) rfl kq) ?_
              show GoW p e below s _ _ _ s₁ (mkF m 34 #[.val (.int x0), .val (.int x1), .val (.int x2), .val (.int x3), .val (.int x4), .val (.int (3 : Int32)), .val (.int (1 : Int32)), .val (.int (x2 &&& (255 : Int32))), .val (.int (x3 &&& (255 : Int32))), .unset, .unset, .unset, .unset, .unset, .unset] [(.int x4)])
              refine gw_st (fun _ kq => XT.sipushV X0.here hx rfl (255 : Int32) (hb hby at_34) (by decide) kq) ?_
              show GoW p e below s _ _ _ s₁ (mkF m 37 #[.val (.int x0), .val (.int x1), .val (.int x2), .val (.int x3), .val (.int x4), .val (.int (3 : Int32)), .val (.int (1 : Int32)), .val (.int (x2 &&& (255 : Int32))), .val (.int (x3 &&& (255 : Int32))), .unset, .unset, .unset, .unset, .unset, .unset] [(.int (255 : Int32)), (.int x4)])
              refine gw_st (fun _ kq => XS.iand X0.here hx rfl (hb hby at_37) rfl kq) ?_
              show GoW p e below s _ _ _ s₁ (mkF m 38 #[.val (.int x0), .val (.int x1), .val (.int x2), .val (.int x3), .val (.int x4), .val (.int (3 : Int32)), .val (.int (1 : Int32)), .val (.int (x2 &&& (255 : Int32))), .val (.int (x3 &&& (255 : Int32))), .unset, .unset, .unset, .unset, .unset, .unset] [(.int (x4 &&& (255 : Int32)))])
              refine gw_st (fun _ kq => XT.i2c X0.here hx rfl (hb hby at_38) rfl kq) ?_
              rw [own_i2c]
              show GoW p e below s _ _ _ s₁ (mkF m 39 #[.val (.int x0), .val (.int x1), .val (.int x2), .val (.int x3), .val (.int x4), .val (.int (3 : Int32)), .val (.int (1 : Int32)), .val (.int (x2 &&& (255 : Int32))), .val (.int (x3 &&& (255 : Int32))), .unset, .unset, .unset, .unset, .unset, .unset] [(.int (x4 &&& (255 : Int32)))])
              refine gw_st (fun _ kq => XS.istore X0.here hx rfl (hb hby at_39) rfl (l' := #[.val (.int x0), .val (.int x1), .val (.int x2), .val (.int x3), .val (.int x4), .val (.int (3 : Int32)), .val (.int (1 : Int32)), .val (.int (x2 &&& (255 : Int32))), .val (.int (x3 &&& (255 : Int32))), .val (.int (x4 &&& (255 : Int32))), .unset, .unset, .unset, .unset, .unset]) rfl kq) ?_
              show GoW p e below s _ _ _ s₁ (mkF m 41 #[.val (.int x0), .val (.int x1), .val (.int x2), .val (.int x3), .val (.int x4), .val (.int (3 : Int32)), .val (.int (1 : Int32)), .val (.int (x2 &&& (255 : Int32))), .val (.int (x3 &&& (255 : Int32))), .val (.int (x4 &&& (255 : Int32))), .unset, .unset, .unset, .unset, .unset] [])
              refine gw_st (fun _ kq => XS.iload X0.here hx rfl (hb hby at_41) rfl kq) ?_
              show GoW p e below s _ _ _ s₁ (mkF m 43 #[.val (.int x0), .val (.int x1), .val (.int x2), .val (.int x3), .val (.int x4), .val (.int (3 : Int32)), .val (.int (1 : Int32)), .val (.int (x2 &&& (255 : Int32))), .val (.int (x3 &&& (255 : Int32))), .val (.int (x4 &&& (255 : Int32))), .unset, .unset, .unset, .unset, .unset] [(.int (3 : Int32))])
              refine gw_st (fun _ kq => XS.ifYes X0.here hx rfl (pc0 := 43) (pc' := 54) rfl (hb hby at_43) rfl (XT.i0_ne_t (by decide)) (by decide) (by decide) kq) ?_
              show GoW p e below s _ _ _ s₁ (mkF m 54 #[.val (.int x0), .val (.int x1), .val (.int x2), .val (.int x3), .val (.int x4), .val (.int (3 : Int32)), .val (.int (1 : Int32)), .val (.int (x2 &&& (255 : Int32))), .val (.int (x3 &&& (255 : Int32))), .val (.int (x4 &&& (255 : Int32))), .unset, .unset, .unset, .unset, .unset] [])
              refine gw_st (fun _ kq => XS.iload X0.here hx rfl (hb hby at_54) rfl kq) ?_
              show GoW p e below s _ _ _ s₁ (mkF m 56 #[.val (.int x0), .val (.int x1), .val (.int x2), .val (.int x3), .val (.int x4), .val (.int (3 : Int32)), .val (.int (1 : Int32)), .val (.int (x2 &&& (255 : Int32))), .val (.int (x3 &&& (255 : Int32))), .val (.int (x4 &&& (255 : Int32))), .unset, .unset, .unset, .unset, .unset] [(.int (3 : Int32))])
              refine gw_st (fun _ kq => XT.iconstV X0.here hx rfl (1 : Int32) (hb hby at_56) (by decide) kq) ?_
              show GoW p e below s _ _ _ s₁ (mkF m 57 #[.val (.int x0), .val (.int x1), .val (.int x2), .val (.int x3), .val (.int x4), .val (.int (3 : Int32)), .val (.int (1 : Int32)), .val (.int (x2 &&& (255 : Int32))), .val (.int (x3 &&& (255 : Int32))), .val (.int (x4 &&& (255 : Int32))), .unset, .unset, .unset, .unset, .unset] [(.int (1 : Int32)), (.int (3 : Int32))])
              refine gw_st (fun _ kq => XS.icmpYes X0.here hx rfl (pc0 := 57) (pc' := 73) rfl (hb hby at_57) rfl (XT.ii_ne_t (by decide)) (by decide) (by decide) kq) ?_
              show GoW p e below s _ _ _ s₁ (mkF m 73 #[.val (.int x0), .val (.int x1), .val (.int x2), .val (.int x3), .val (.int x4), .val (.int (3 : Int32)), .val (.int (1 : Int32)), .val (.int (x2 &&& (255 : Int32))), .val (.int (x3 &&& (255 : Int32))), .val (.int (x4 &&& (255 : Int32))), .unset, .unset, .unset, .unset, .unset] [])
              refine gw_st (fun _ kq => XS.iload X0.here hx rfl (hb hby at_73) rfl kq) ?_
              show GoW p e below s _ _ _ s₁ (mkF m 75 #[.val (.int x0), .val (.int x1), .val (.int x2), .val (.int x3), .val (.int x4), .val (.int (3 : Int32)), .val (.int (1 : Int32)), .val (.int (x2 &&& (255 : Int32))), .val (.int (x3 &&& (255 : Int32))), .val (.int (x4 &&& (255 : Int32))), .unset, .unset, .unset, .unset, .unset] [(.int (3 : Int32))])
              refine gw_st (fun _ kq => XT.iconstV X0.here hx rfl (2 : Int32) (hb hby at_75) (by decide) kq) ?_
              show GoW p e below s _ _ _ s₁ (mkF m 76 #[.val (.int x0), .val (.int x1), .val (.int x2), .val (.int x3), .val (.int x4), .val (.int (3 : Int32)), .val (.int (1 : Int32)), .val (.int (x2 &&& (255 : Int32))), .val (.int (x3 &&& (255 : Int32))), .val (.int (x4 &&& (255 : Int32))), .unset, .unset, .unset, .unset, .unset] [(.int (2 : Int32)), (.int (3 : Int32))])
              refine gw_st (fun _ kq => XS.icmpYes X0.here hx rfl (pc0 := 76) (pc' := 97) rfl (hb hby at_76) rfl (XT.ii_ne_t (by decide)) (by decide) (by decide) kq) ?_
              show GoW p e below s _ _ _ s₁ (mkF m 97 #[.val (.int x0), .val (.int x1), .val (.int x2), .val (.int x3), .val (.int x4), .val (.int (3 : Int32)), .val (.int (1 : Int32)), .val (.int (x2 &&& (255 : Int32))), .val (.int (x3 &&& (255 : Int32))), .val (.int (x4 &&& (255 : Int32))), .unset, .unset, .unset, .unset, .unset] [])
              refine gw_st (fun _ kq => XT.iconstV X0.here hx rfl (3 : Int32) (hb hby at_97) (by decide) kq) ?_
              show GoW p e below s _ _ _ s₁ (mkF m 98 #[.val (.int x0), .val (.int x1), .val (.int x2), .val (.int x3), .val (.int x4), .val (.int (3 : Int32)), .val (.int (1 : Int32)), .val (.int (x2 &&& (255 : Int32))), .val (.int (x3 &&& (255 : Int32))), .val (.int (x4 &&& (255 : Int32))), .unset, .unset, .unset, .unset, .unset] [(.int (3 : Int32))])
              refine gw_newP X0 hx hZ (hw _ (List.mem_of_getElem? (i := 1) rfl)) e0 (hb hby at_98) rfl rfl 3 (by decide) 3 (Nat.le_refl _) (by decide) (by decide) (by decide) ?_
              intro T591 h591 a591 g591 X591 e591 E591 G591
              have nw_a591 : n0 ≤ a591 := Nat.le_trans Z0 (Nat.le_of_eq g591.symm)
              have lt_a591 : a591 < h591.size := G591.lt
              have A591 : GA Z h591 a591 .char 3 (fun i => .int (own_c3 (0 : Int32) (0 : Int32) (0 : Int32) i)) := (GA.congr G591 (fun i _ => own_z3 i))
              show GoW p e below s _ _ _ T591 (mkF m 100 #[.val (.int x0), .val (.int x1), .val (.int x2), .val (.int x3), .val (.int x4), .val (.int (3 : Int32)), .val (.int (1 : Int32)), .val (.int (x2 &&& (255 : Int32))), .val (.int (x3 &&& (255 : Int32))), .val (.int (x4 &&& (255 : Int32))), .unset, .unset, .unset, .unset, .unset] [(.ref a591)])
              refine gw_st (fun _ kq => XS.dup X591.here hx rfl (hb hby at_100) rfl rfl kq) ?_
              show GoW p e below s _ _ _ T591 (mkF m 101 #[.val (.int x0), .val (.int x1), .val (.int x2), .val (.int x3), .val (.int x4), .val (.int (3 : Int32)), .val (.int (1 : Int32)), .val (.int (x2 &&& (255 : Int32))), .val (.int (x3 &&& (255 : Int32))), .val (.int (x4 &&& (255 : Int32))), .unset, .unset, .unset, .unset, .unset] [(.ref a591), (.ref a591)])
              refine gw_st (fun _ kq => XT.iconstV X591.here hx rfl (0 : Int32) (hb hby at_101) (by decide) kq) ?_
              show GoW p e below s _ _ _ T591 (mkF m 102 #[.val (.int x0), .val (.int x1), .val (.int x2), .val (.int x3), .val (.int x4), .val (.int (3 : Int32)), .val (.int (1 : Int32)), .val (.int (x2 &&& (255 : Int32))), .val (.int (x3 &&& (255 : Int32))), .val (.int (x4 &&& (255 : Int32))), .unset, .unset, .unset, .unset, .unset] [(.int (0 : Int32)), (.ref a591), (.ref a591)])
              refine gw_st (fun _ kq => XS.iload X591.here hx rfl (hb hby at_102) rfl kq) ?_
              show GoW p e below s _ _ _ T591 (mkF m 104 #[.val (.int x0), .val (.int x1), .val (.int x2), .val (.int x3), .val (.int x4), .val (.int (3 : Int32)), .val (.int (1 : Int32)), .val (.int (x2 &&& (255 : Int32))), .val (.int (x3 &&& (255 : Int32))), .val (.int (x4 &&& (255 : Int32))), .unset, .unset, .unset, .unset, .unset] [(.int (x2 &&& (255 : Int32))), (.int (0 : Int32)), (.ref a591), (.ref a591)])
              refine gw_cast X591 hx hZ e591 A591 (hb hby at_104) rfl rfl (by decide) ?_
              intro T592 h592 X592 e592 W592 G592
              have N592 := Fr.snoc X592 N0 nw_a591
              have A592 : GA Z h592 a591 .char 3 (fun i => .int (own_c3 (x2 &&& (255 : Int32)) (0 : Int32) (0 : Int32) i)) := (own_stc (own_nc (own_lat _)) (by decide) (own_c30 (x2 &&& (255 : Int32)) (0 : Int32) (0 : Int32) (0 : Int32)) G592)
              show GoW p e below s _ _ _ T592 (mkF m 105 #[.val (.int x0), .val (.int x1), .val (.int x2), .val (.int x3), .val (.int x4), .val (.int (3 : Int32)), .val (.int (1 : Int32)), .val (.int (x2 &&& (255 : Int32))), .val (.int (x3 &&& (255 : Int32))), .val (.int (x4 &&& (255 : Int32))), .unset, .unset, .unset, .unset, .unset] [(.ref a591)])
              refine gw_st (fun _ kq => XS.dup X592.here hx rfl (hb hby at_105) rfl rfl kq) ?_
              show GoW p e below s _ _ _ T592 (mkF m 106 #[.val (.int x0), .val (.int x1), .val (.int x2), .val (.int x3), .val (.int x4), .val (.int (3 : Int32)), .val (.int (1 : Int32)), .val (.int (x2 &&& (255 : Int32))), .val (.int (x3 &&& (255 : Int32))), .val (.int (x4 &&& (255 : Int32))), .unset, .unset, .unset, .unset, .unset] [(.ref a591), (.ref a591)])
              refine gw_st (fun _ kq => XT.iconstV X592.here hx rfl (1 : Int32) (hb hby at_106) (by decide) kq) ?_
              show GoW p e below s _ _ _ T592 (mkF m 107 #[.val (.int x0), .val (.int x1), .val (.int x2), .val (.int x3), .val (.int x4), .val (.int (3 : Int32)), .val (.int (1 : Int32)), .val (.int (x2 &&& (255 : Int32))), .val (.int (x3 &&& (255 : Int32))), .val (.int (x4 &&& (255 : Int32))), .unset, .unset, .unset, .unset, .unset] [(.int (1 : Int32)), (.ref a591), (.ref a591)])
              refine gw_st (fun _ kq => XS.iload X592.here hx rfl (hb hby at_107) rfl kq) ?_
              show GoW p e below s _ _ _ T592 (mkF m 109 #[.val (.int x0), .val (.int x1), .val (.int x2), .val (.int x3), .val (.int x4), .val (.int (3 : Int32)), .val (.int (1 : Int32)), .val (.int (x2 &&& (255 : Int32))), .val (.int (x3 &&& (255 : Int32))), .val (.int (x4 &&& (255 : Int32))), .unset, .unset, .unset, .unset, .unset] [(.int (x3 &&& (255 : Int32))), (.int (1 : Int32)), (.ref a591), (.ref a591)])
              refine gw_cast X592 hx hZ e592 A592 (hb hby at_109) rfl rfl (by decide) ?_
              intro T593 h593 X593 e593 W593 G593
              have N593 := Fr.snoc X593 N592 nw_a591
              have A593 : GA Z h593 a591 .char 3 (fun i => .int (own_c3 (x2 &&& (255 : Int32)) (x3 &&& (255 : Int32)) (0 : Int32) i)) := (own_stc (own_nc (own_lat _)) (by decide) (own_c31 (x3 &&& (255 : Int32)) (x2 &&& (255 : Int32)) (0 : Int32) (0 : Int32)) G593)
              show GoW p e below s _ _ _ T593 (mkF m 110 #[.val (.int x0), .val (.int x1), .val (.int x2), .val (.int x3), .val (.int x4), .val (.int (3 : Int32)), .val (.int (1 : Int32)), .val (.int (x2 &&& (255 : Int32))), .val (.int (x3 &&& (255 : Int32))), .val (.int (x4 &&& (255 : Int32))), .unset, .unset, .unset, .unset, .unset] [(.ref a591)])
              refine gw_st (fun _ kq => XS.dup X593.here hx rfl (hb hby at_110) rfl rfl kq) ?_
              show GoW p e below s _ _ _ T593 (mkF m 111 #[.val (.int x0), .val (.int x1), .val (.int x2), .val (.int x3), .val (.int x4), .val (.int (3 : Int32)), .val (.int (1 : Int32)), .val (.int (x2 &&& (255 : Int32))), .val (.int (x3 &&& (255 : Int32))), .val (.int (x4 &&& (255 : Int32))), .unset, .unset, .unset, .unset, .unset] [(.ref a591), (.ref a591)])
              refine gw_st (fun _ kq => XT.iconstV X593.here hx rfl (2 : Int32) (hb hby at_111) (by decide) kq) ?_
              show GoW p e below s _ _ _ T593 (mkF m 112 #[.val (.int x0), .val (.int x1), .val (.int x2), .val (.int x3), .val (.int x4), .val (.int (3 : Int32)), .val (.int (1 : Int32)), .val (.int (x2 &&& (255 : Int32))), .val (.int (x3 &&& (255 : Int32))), .val (.int (x4 &&& (255 : Int32))), .unset, .unset, .unset, .unset, .unset] [(.int (2 : Int32)), (.ref a591), (.ref a591)])
              refine gw_st (fun _ kq => XS.iload X593.here hx rfl (hb hby at_112) rfl kq) ?_
              show GoW p e below s _ _ _ T593 (mkF m 114 #[.val (.int x0), .val (.int x1), .val (.int x2), .val (.int x3), .val (.int x4), .val (.int (3 : Int32)), .val (.int (1 : Int32)), .val (.int (x2 &&& (255 : Int32))), .val (.int (x3 &&& (255 : Int32))), .val (.int (x4 &&& (255 : Int32))), .unset, .unset, .unset, .unset, .unset] [(.int (x4 &&& (255 : Int32))), (.int (2 : Int32)), (.ref a591), (.ref a591)])
              refine gw_cast X593 hx hZ e593 A593 (hb hby at_114) rfl rfl (by decide) ?_
              intro T594 h594 X594 e594 W594 G594
              have N594 := Fr.snoc X594 N593 nw_a591
              have A594 : GA Z h594 a591 .char 3 (fun i => .int (own_c3 (x2 &&& (255 : Int32)) (x3 &&& (255 : Int32)) (x4 &&& (255 : Int32)) i)) := (own_stc (own_nc (own_lat _)) (by decide) (own_c32 (x4 &&& (255 : Int32)) (x2 &&& (255 : Int32)) (x3 &&& (255 : Int32)) (0 : Int32)) G594)
              show GoW p e below s _ _ _ T594 (mkF m 115 #[.val (.int x0), .val (.int x1), .val (.int x2), .val (.int x3), .val (.int x4), .val (.int (3 : Int32)), .val (.int (1 : Int32)), .val (.int (x2 &&& (255 : Int32))), .val (.int (x3 &&& (255 : Int32))), .val (.int (x4 &&& (255 : Int32))), .unset, .unset, .unset, .unset, .unset] [(.ref a591)])
              refine gw_st (fun _ kq => XS.astore X594.here hx rfl (hb hby at_115) rfl rfl (l' := #[.val (.int x0), .val (.int x1), .val (.int x2), .val (.int x3), .val (.int x4), .val (.int (3 : Int32)), .val (.int (1 : Int32)), .val (.int (x2 &&& (255 : Int32))), .val (.int (x3 &&& (255 : Int32))), .val (.int (x4 &&& (255 : Int32))), .val (.ref a591), .unset, .unset, .unset, .unset]) rfl kq) ?_
              show GoW p e below s _ _ _ T594 (mkF m 117 #[.val (.int x0), .val (.int x1), .val (.int x2), .val (.int x3), .val (.int x4), .val (.int (3 : Int32)), .val (.int (1 : Int32)), .val (.int (x2 &&& (255 : Int32))), .val (.int (x3 &&& (255 : Int32))), .val (.int (x4 &&& (255 : Int32))), .val (.ref a591), .unset, .unset, .unset, .unset] [])
              refine gw_newO X594 hx hZ hown (hw _ (List.mem_of_getElem? (i := 2) rfl)) (hw _ (List.mem_of_getElem? (i := 3) rfl)) (hw _ (List.mem_of_getElem? (i := 4) rfl)) e594 (hb hby at_117) rfl (by decide) (by decide) ?_
              intro T595 h595 a595 g595 X595 e595 E595 A595 D595
              have y596 : h0.size ≤ h591.size := Nat.le_trans (Nat.le_refl _) E591.1
              have y597 : h0.size ≤ h592.size := (Wr.size W592).symm ▸ y596
              have y598 : h0.size ≤ h593.size := (Wr.size W593).symm ▸ y597
              have y599 : h0.size ≤ h594.size := (Wr.size W594).symm ▸ y598
              have c600 : a591 < h592.size := (Wr.size W592).symm ▸ lt_a591
              have c601 : a591 < h593.size := (Wr.size W593).symm ▸ c600
              have c602 : a591 < h594.size := (Wr.size W594).symm ▸ c601
              have ne603 : a591 ≠ a595 := fun q => Nat.lt_irrefl _ (Nat.lt_of_lt_of_le c602 (Nat.le_of_eq (g595.symm.trans q.symm)))
              have z604 : n0 ≤ h591.size := Nat.le_trans Z0 E591.1
              have z605 : n0 ≤ h592.size := (Wr.size W592).symm ▸ z604
              have z606 : n0 ≤ h593.size := (Wr.size W593).symm ▸ z605
              have z607 : n0 ≤ h594.size := (Wr.size W594).symm ▸ z606
              have nw_a595 : n0 ≤ a595 := Nat.le_trans z607 (Nat.le_of_eq g595.symm)
              have lt_a595 : a595 < h595.size := A595.lt
              have F608 : Fld Z h595 a595 "com/example/wirecall/wirecall/TextCursor" "text" "Ljava/lang/String;" .null := D595 (Or.inr (hw _ (List.mem_of_getElem? (i := 31) rfl))) (ty := (.object "java/lang/String")) (by decide)
              have F609 : Fld Z h595 a595 "com/example/wirecall/wirecall/TextCursor" "pos" "I" (.int (0 : Int32)) := D595 (Or.inl (hw _ (List.mem_of_getElem? (i := 38) rfl))) (ty := .int) (by decide)
              show GoW p e below s _ _ _ T595 (mkF m 120 #[.val (.int x0), .val (.int x1), .val (.int x2), .val (.int x3), .val (.int x4), .val (.int (3 : Int32)), .val (.int (1 : Int32)), .val (.int (x2 &&& (255 : Int32))), .val (.int (x3 &&& (255 : Int32))), .val (.int (x4 &&& (255 : Int32))), .val (.ref a591), .unset, .unset, .unset, .unset] [(.ref a595)])
              refine gw_st (fun _ kq => XS.dup X595.here hx rfl (hb hby at_120) rfl rfl kq) ?_
              show GoW p e below s _ _ _ T595 (mkF m 121 #[.val (.int x0), .val (.int x1), .val (.int x2), .val (.int x3), .val (.int x4), .val (.int (3 : Int32)), .val (.int (1 : Int32)), .val (.int (x2 &&& (255 : Int32))), .val (.int (x3 &&& (255 : Int32))), .val (.int (x4 &&& (255 : Int32))), .val (.ref a591), .unset, .unset, .unset, .unset] [(.ref a595), (.ref a595)])
              refine gw_newO X595 hx hZ hown (hw _ (List.mem_of_getElem? (i := 5) rfl)) (hw _ (List.mem_of_getElem? (i := 6) rfl)) (hw _ (List.mem_of_getElem? (i := 7) rfl)) e595 (hb hby at_121) rfl (by decide) (by decide) ?_
              intro T610 h610 a610 g610 X610 e610 E610 A610 D610
              have y611 : h0.size ≤ h595.size := Nat.le_trans y599 E595.1
              have c612 : a591 < h595.size := Nat.lt_of_lt_of_le c602 E595.1
              have ne613 : a591 ≠ a610 := fun q => Nat.lt_irrefl _ (Nat.lt_of_lt_of_le c612 (Nat.le_of_eq (g610.symm.trans q.symm)))
              have ne614 : a595 ≠ a610 := fun q => Nat.lt_irrefl _ (Nat.lt_of_lt_of_le lt_a595 (Nat.le_of_eq (g610.symm.trans q.symm)))
              have z615 : n0 ≤ h595.size := Nat.le_trans z607 E595.1
              have nw_a610 : n0 ≤ a610 := Nat.le_trans z615 (Nat.le_of_eq g610.symm)
              have lt_a610 : a610 < h610.size := A610.lt
              have F616 : Fld Z h610 a610 "java/lang/String" "value" "[B" .null := D610 (Or.inr (hw _ (List.mem_of_getElem? (i := 20) rfl))) (ty := (.array .byte)) (by decide)
              have F617 : Fld Z h610 a610 "java/lang/String" "coder" "B" (.int (0 : Int32)) := D610 (Or.inr (hw _ (List.mem_of_getElem? (i := 21) rfl))) (ty := .byte) (by decide)
              show GoW p e below s _ _ _ T610 (mkF m 124 #[.val (.int x0), .val (.int x1), .val (.int x2), .val (.int x3), .val (.int x4), .val (.int (3 : Int32)), .val (.int (1 : Int32)), .val (.int (x2 &&& (255 : Int32))), .val (.int (x3 &&& (255 : Int32))), .val (.int (x4 &&& (255 : Int32))), .val (.ref a591), .unset, .unset, .unset, .unset] [(.ref a610), (.ref a595), (.ref a595)])
              refine gw_st (fun _ kq => XS.dup X610.here hx rfl (hb hby at_124) rfl rfl kq) ?_
              show GoW p e below s _ _ _ T610 (mkF m 125 #[.val (.int x0), .val (.int x1), .val (.int x2), .val (.int x3), .val (.int x4), .val (.int (3 : Int32)), .val (.int (1 : Int32)), .val (.int (x2 &&& (255 : Int32))), .val (.int (x3 &&& (255 : Int32))), .val (.int (x4 &&& (255 : Int32))), .val (.ref a591), .unset, .unset, .unset, .unset] [(.ref a610), (.ref a610), (.ref a595), (.ref a595)])
              refine gw_st (fun _ kq => XS.aload X610.here hx rfl (hb hby at_125) rfl rfl kq) ?_
              show GoW p e below s _ _ _ T610 (mkF m 127 #[.val (.int x0), .val (.int x1), .val (.int x2), .val (.int x3), .val (.int x4), .val (.int (3 : Int32)), .val (.int (1 : Int32)), .val (.int (x2 &&& (255 : Int32))), .val (.int (x3 &&& (255 : Int32))), .val (.int (x4 &&& (255 : Int32))), .val (.ref a591), .unset, .unset, .unset, .unset] [(.ref a591), (.ref a610), (.ref a610), (.ref a595), (.ref a595)])
              have c619 := A594.ext E595
              have c620 := c619.ext E610
              have c621 := Old.ext O0 E591
              have c622 := Old.wr c621 W592 nw_a591
              have c623 := Old.wr c622 W593 nw_a591
              have c624 := Old.wr c623 W594 nw_a591
              have c625 := Old.ext c624 E595
              have c626 := Old.ext c625 E610
              have z627 : n0 ≤ h610.size := Nat.le_trans z615 E610.1
              refine gw_callI X610 hx hZ hml hown rfl (hw _ (List.mem_of_getElem? (i := 8) rfl)) (hw _ (List.mem_of_getElem? (i := 9) rfl)) (hw _ (List.mem_of_getElem? (i := 10) rfl)) (hw _ (List.mem_of_getElem? (i := 7) rfl)) e610 (argsL := [(.ref a591)]) (rest := [(.ref a610), (.ref a595), (.ref a595)]) (W := 3) (met_s3 l Z a0 hw a610 a591 (x2 &&& (255 : Int32)) (x3 &&& (255 : Int32)) (x4 &&& (255 : Int32)) zc h610 n0 z627 A610 F616 F617 nw_a610 c620 (Ne.symm ne613) (own_lat _) (own_lat _) (own_lat _) c626 S0 zn) (hb hby at_127) rfl rfl rfl (lenOf pd6 rfl) (by show 2 * 0 + _ ≤ _; exact Nat.le_of_eq rfl) (by decide) (by decide) (by decide) (by decide) (by decide) ?_
              intro T618 v618 L618 X618 q618
              obtain ⟨r_618, rfl, M618, K618, fz618_r, f618_0, f618_1, f618_2, f618_3⟩ := q618
              have N618 := Fr.app N594 M618
              have c628 : a591 < h610.size := Nat.lt_of_lt_of_le c612 E610.1
              have ne629 : a591 ≠ r_618 := Nat.ne_of_lt (Nat.lt_of_lt_of_le c628 fz618_r)
              have c630 : a595 < h610.size := Nat.lt_of_lt_of_le lt_a595 E610.1
              have ne631 : a595 ≠ r_618 := Nat.ne_of_lt (Nat.lt_of_lt_of_le c630 fz618_r)
              have ne632 : a610 ≠ r_618 := Nat.ne_of_lt (Nat.lt_of_lt_of_le lt_a610 fz618_r)
              have nw_r_618 : n0 ≤ r_618 := Nat.le_trans z627 fz618_r
              have y633 : h0.size ≤ h610.size := Nat.le_trans y611 E610.1
              have lt_r_618 : r_618 < T618.heap.size := f618_3.lt
              show GoW p e below s _ _ _ T618 (mkF m 130 #[.val (.int x0), .val (.int x1), .val (.int x2), .val (.int x3), .val (.int x4), .val (.int (3 : Int32)), .val (.int (1 : Int32)), .val (.int (x2 &&& (255 : Int32))), .val (.int (x3 &&& (255 : Int32))), .val (.int (x4 &&& (255 : Int32))), .val (.ref a591), .unset, .unset, .unset, .unset] [(.ref a610), (.ref a595), (.ref a595)])
              have c635 := Exa.ext E610 A595
              have c636 := Exa.keep c635 K618
              have c637 := Fld.ext E610 F608
              have c638 := Fld.keep c637 K618 (ninS ne614 nin0)
              have c639 := Fld.ext E610 F609
              have c640 := Fld.keep c639 K618 (ninS ne614 nin0)
              have z641 : n0 ≤ T618.heap.size := Nat.le_trans z627 K618.1
              refine gw_callI X618 hx hZ hml hown rfl (hw _ (List.mem_of_getElem? (i := 26) rfl)) (hw _ (List.mem_of_getElem? (i := 27) rfl)) (hw _ (List.mem_of_getElem? (i := 28) rfl)) (hw _ (List.mem_of_getElem? (i := 4) rfl)) rfl (argsL := [(.ref a610)]) (rest := [(.ref a595)]) (W := 1) (met_tci l Z a0 hw a595 a610 T618.heap n0 z641 c636 c638 c640 nw_a595) (hb hby at_130) rfl rfl rfl (lenOf pd7 rfl) (by show 2 * 0 + _ ≤ _; exact Nat.le_of_eq rfl) (by decide) (by decide) (by decide) (by decide) (by decide) ?_
              intro T634 v634 L634 X634 q634
              obtain ⟨rfl, M634, K634, f634_0, f634_1⟩ := q634
              have N634 := Fr.app N618 M634
              show GoW p e below s _ _ _ T634 (mkF m 133 #[.val (.int x0), .val (.int x1), .val (.int x2), .val (.int x3), .val (.int x4), .val (.int (3 : Int32)), .val (.int (1 : Int32)), .val (.int (x2 &&& (255 : Int32))), .val (.int (x3 &&& (255 : Int32))), .val (.int (x4 &&& (255 : Int32))), .val (.ref a591), .unset, .unset, .unset, .unset] [(.ref a595)])
              refine gw_st (fun _ kq => XS.astore X634.here hx rfl (hb hby at_133) rfl rfl (l' := #[.val (.int x0), .val (.int x1), .val (.int x2), .val (.int x3), .val (.int x4), .val (.int (3 : Int32)), .val (.int (1 : Int32)), .val (.int (x2 &&& (255 : Int32))), .val (.int (x3 &&& (255 : Int32))), .val (.int (x4 &&& (255 : Int32))), .val (.ref a591), .val (.ref a595), .unset, .unset, .unset]) rfl kq) ?_
              show GoW p e below s _ _ _ T634 (mkF m 135 #[.val (.int x0), .val (.int x1), .val (.int x2), .val (.int x3), .val (.int x4), .val (.int (3 : Int32)), .val (.int (1 : Int32)), .val (.int (x2 &&& (255 : Int32))), .val (.int (x3 &&& (255 : Int32))), .val (.int (x4 &&& (255 : Int32))), .val (.ref a591), .val (.ref a595), .unset, .unset, .unset] [])
              refine gw_st (fun _ kq => XS.aload X634.here hx rfl (hb hby at_135) rfl rfl kq) ?_
              show GoW p e below s _ _ _ T634 (mkF m 137 #[.val (.int x0), .val (.int x1), .val (.int x2), .val (.int x3), .val (.int x4), .val (.int (3 : Int32)), .val (.int (1 : Int32)), .val (.int (x2 &&& (255 : Int32))), .val (.int (x3 &&& (255 : Int32))), .val (.int (x4 &&& (255 : Int32))), .val (.ref a591), .val (.ref a595), .unset, .unset, .unset] [(.ref a595)])
              have c643 := Exa.keep f618_0 K634
              have c644 := Fld.keep f618_1 K634 (ninS (Ne.symm ne614) nin0)
              have c645 := Fld.keep f618_2 K634 (ninS (Ne.symm ne614) nin0)
              have c646 := GA.keep f618_3 K634 (ninS (Ne.symm ne631) nin0)
              have c647 := Old.keep c626 K618 (allS nw_a610 all0)
              have c648 := Old.keep c647 K634 (allS nw_a595 all0)
              have z649 : n0 ≤ T634.heap.size := Nat.le_trans z641 K634.1
              have c650 := Exa.keep c636 K634
              refine gw_callV X634 hx hZ hml hown (hw _ (List.mem_of_getElem? (i := 32) rfl)) (hw _ (List.mem_of_getElem? (i := 33) rfl)) (notFace_of_selects (args := #[]) (mvT hZ (hw _ (List.mem_of_getElem? (i := 35) rfl)))) (hw _ (List.mem_of_getElem? (i := 35) rfl)) (hw _ (List.mem_of_getElem? (i := 34) rfl)) (hw _ (List.mem_of_getElem? (i := 36) rfl)) (hw _ (List.mem_of_getElem? (i := 4) rfl)) rfl c650 (argsL := []) (rest := []) (W := 0) (met_end30 l Z a0 hw a595 a610 r_618 (fun i => .int (own_c3 (own_by (x2 &&& (255 : Int32))) (own_by (x3 &&& (255 : Int32))) (own_by (x4 &&& (255 : Int32))) i)) zc T634.heap n0 z649 f634_1 f634_0 c643 c644 c645 c646 c648 S0 zn) (hb hby at_137) rfl rfl rfl (lenOf pd8 rfl) (by show 2 * 0 + _ ≤ _; exact Nat.le_of_eq rfl) (by decide) (by decide) (by decide) (by decide) (by decide) ?_
              intro T642 v642 L642 X642 q642
              obtain ⟨rfl, M642, e642⟩ := q642
              have N642 := Fr.app N634 M642
              show GoW p e below s _ _ _ T642 (mkF m 140 #[.val (.int x0), .val (.int x1), .val (.int x2), .val (.int x3), .val (.int x4), .val (.int (3 : Int32)), .val (.int (1 : Int32)), .val (.int (x2 &&& (255 : Int32))), .val (.int (x3 &&& (255 : Int32))), .val (.int (x4 &&& (255 : Int32))), .val (.ref a591), .val (.ref a595), .unset, .unset, .unset] [(.int (0 : Int32))])
              refine gw_st (fun _ kq => XS.iload X642.here hx rfl (hb hby at_140) rfl kq) ?_
              show GoW p e below s _ _ _ T642 (mkF m 142 #[.val (.int x0), .val (.int x1), .val (.int x2), .val (.int x3), .val (.int x4), .val (.int (3 : Int32)), .val (.int (1 : Int32)), .val (.int (x2 &&& (255 : Int32))), .val (.int (x3 &&& (255 : Int32))), .val (.int (x4 &&& (255 : Int32))), .val (.ref a591), .val (.ref a595), .unset, .unset, .unset] [(.int (3 : Int32)), (.int (0 : Int32))])
              refine gw_st (fun _ kq => XS.ifYes X642.here hx rfl (pc0 := 142) (pc' := 149) rfl (hb hby at_142) rfl (XT.i0_ne_t (by decide)) (by decide) (by decide) kq) ?_
              show GoW p e below s _ _ _ T642 (mkF m 149 #[.val (.int x0), .val (.int x1), .val (.int x2), .val (.int x3), .val (.int x4), .val (.int (3 : Int32)), .val (.int (1 : Int32)), .val (.int (x2 &&& (255 : Int32))), .val (.int (x3 &&& (255 : Int32))), .val (.int (x4 &&& (255 : Int32))), .val (.ref a591), .val (.ref a595), .unset, .unset, .unset] [(.int (0 : Int32))])
              refine gw_st (fun _ kq => XT.iconstV X642.here hx rfl (0 : Int32) (hb hby at_149) (by decide) kq) ?_
              show GoW p e below s _ _ _ T642 (mkF m 150 #[.val (.int x0), .val (.int x1), .val (.int x2), .val (.int x3), .val (.int x4), .val (.int (3 : Int32)), .val (.int (1 : Int32)), .val (.int (x2 &&& (255 : Int32))), .val (.int (x3 &&& (255 : Int32))), .val (.int (x4 &&& (255 : Int32))), .val (.ref a591), .val (.ref a595), .unset, .unset, .unset] [(.int (0 : Int32)), (.int (0 : Int32))])
              refine gw_st (fun _ kq => XS.icmpNo X642.here hx rfl (hb hby at_150) rfl (XT.ii_ne_f (by decide)) kq) ?_
              show GoW p e below s _ _ _ T642 (mkF m 153 #[.val (.int x0), .val (.int x1), .val (.int x2), .val (.int x3), .val (.int x4), .val (.int (3 : Int32)), .val (.int (1 : Int32)), .val (.int (x2 &&& (255 : Int32))), .val (.int (x3 &&& (255 : Int32))), .val (.int (x4 &&& (255 : Int32))), .val (.ref a591), .val (.ref a595), .unset, .unset, .unset] [])
              refine gw_st (fun _ kq => XT.iconstV X642.here hx rfl (1 : Int32) (hb hby at_153) (by decide) kq) ?_
              show GoW p e below s _ _ _ T642 (mkF m 154 #[.val (.int x0), .val (.int x1), .val (.int x2), .val (.int x3), .val (.int x4), .val (.int (3 : Int32)), .val (.int (1 : Int32)), .val (.int (x2 &&& (255 : Int32))), .val (.int (x3 &&& (255 : Int32))), .val (.int (x4 &&& (255 : Int32))), .val (.ref a591), .val (.ref a595), .unset, .unset, .unset] [(.int (1 : Int32))])
              refine gw_st (fun _ kq => XS.goto X642.here hx rfl (pc0 := 154) (pc' := 158) rfl (hb hby at_154) (by decide) (by decide) kq) ?_
              show GoW p e below s _ _ _ T642 (mkF m 158 #[.val (.int x0), .val (.int x1), .val (.int x2), .val (.int x3), .val (.int x4), .val (.int (3 : Int32)), .val (.int (1 : Int32)), .val (.int (x2 &&& (255 : Int32))), .val (.int (x3 &&& (255 : Int32))), .val (.int (x4 &&& (255 : Int32))), .val (.ref a591), .val (.ref a595), .unset, .unset, .unset] [(.int (1 : Int32))])
              refine gw_st (fun _ kq => XS.istore X642.here hx rfl (hb hby at_158) rfl (l' := #[.val (.int x0), .val (.int x1), .val (.int x2), .val (.int x3), .val (.int x4), .val (.int (3 : Int32)), .val (.int (1 : Int32)), .val (.int (x2 &&& (255 : Int32))), .val (.int (x3 &&& (255 : Int32))), .val (.int (x4 &&& (255 : Int32))), .val (.ref a591), .val (.ref a595), .val (.int (1 : Int32)), .unset, .unset]) rfl kq) ?_
              show GoW p e below s _ _ _ T642 (mkF m 160 #[.val (.int x0), .val (.int x1), .val (.int x2), .val (.int x3), .val (.int x4), .val (.int (3 : Int32)), .val (.int (1 : Int32)), .val (.int (x2 &&& (255 : Int32))), .val (.int (x3 &&& (255 : Int32))), .val (.int (x4 &&& (255 : Int32))), .val (.ref a591), .val (.ref a595), .val (.int (1 : Int32)), .unset, .unset] [])
              refine gw_st (fun _ kq => XS.iload X642.here hx rfl (hb hby at_160) rfl kq) ?_
              show GoW p e below s _ _ _ T642 (mkF m 162 #[.val (.int x0), .val (.int x1), .val (.int x2), .val (.int x3), .val (.int x4), .val (.int (3 : Int32)), .val (.int (1 : Int32)), .val (.int (x2 &&& (255 : Int32))), .val (.int (x3 &&& (255 : Int32))), .val (.int (x4 &&& (255 : Int32))), .val (.ref a591), .val (.ref a595), .val (.int (1 : Int32)), .unset, .unset] [(.int (1 : Int32))])
              refine gw_st (fun _ kq => XT.iconstV X642.here hx rfl (1 : Int32) (hb hby at_162) (by decide) kq) ?_
              show GoW p e below s _ _ _ T642 (mkF m 163 #[.val (.int x0), .val (.int x1), .val (.int x2), .val (.int x3), .val (.int x4), .val (.int (3 : Int32)), .val (.int (1 : Int32)), .val (.int (x2 &&& (255 : Int32))), .val (.int (x3 &&& (255 : Int32))), .val (.int (x4 &&& (255 : Int32))), .val (.ref a591), .val (.ref a595), .val (.int (1 : Int32)), .unset, .unset] [(.int (1 : Int32)), (.int (1 : Int32))])
              refine gw_st (fun _ kq => XS.icmpNo X642.here hx rfl (hb hby at_163) rfl (XT.ii_lt_f (by decide)) kq) ?_
              show GoW p e below s _ _ _ T642 (mkF m 166 #[.val (.int x0), .val (.int x1), .val (.int x2), .val (.int x3), .val (.int x4), .val (.int (3 : Int32)), .val (.int (1 : Int32)), .val (.int (x2 &&& (255 : Int32))), .val (.int (x3 &&& (255 : Int32))), .val (.int (x4 &&& (255 : Int32))), .val (.ref a591), .val (.ref a595), .val (.int (1 : Int32)), .unset, .unset] [])
              refine gw_st (fun _ kq => XS.aload X642.here hx rfl (hb hby at_166) rfl rfl kq) ?_
              show GoW p e below s _ _ _ T642 (mkF m 168 #[.val (.int x0), .val (.int x1), .val (.int x2), .val (.int x3), .val (.int x4), .val (.int (3 : Int32)), .val (.int (1 : Int32)), .val (.int (x2 &&& (255 : Int32))), .val (.int (x3 &&& (255 : Int32))), .val (.int (x4 &&& (255 : Int32))), .val (.ref a591), .val (.ref a595), .val (.int (1 : Int32)), .unset, .unset] [(.ref a595)])
              refine gw_callV X642 hx hZ hml hown (hw _ (List.mem_of_getElem? (i := 65) rfl)) (hw _ (List.mem_of_getElem? (i := 66) rfl)) (notFace_of_selects (args := #[]) (mvT hZ (hw _ (List.mem_of_getElem? (i := 68) rfl)))) (hw _ (List.mem_of_getElem? (i := 68) rfl)) (hw _ (List.mem_of_getElem? (i := 67) rfl)) (hw _ (List.mem_of_getElem? (i := 69) rfl)) (hw _ (List.mem_of_getElem? (i := 4) rfl)) e642 c650 (argsL := []) (rest := []) (W := 0) (met_sk0 l Z a0 hw a595 a610 T634.heap n0 z649 c650 f634_0 f634_1 nw_a595) (hb hby at_168) rfl rfl rfl (lenOf pd9 rfl) (by show 2 * 0 + _ ≤ _; exact Nat.le_of_eq rfl) (by decide) (by decide) (by decide) (by decide) (by decide) ?_
              intro T651 v651 L651 X651 q651
              obtain ⟨rfl, M651, K651, f651_0, f651_1⟩ := q651
              have N651 := Fr.app N642 M651
              show GoW p e below s _ _ _ T651 (mkF m 171 #[.val (.int x0), .val (.int x1), .val (.int x2), .val (.int x3), .val (.int x4), .val (.int (3 : Int32)), .val (.int (1 : Int32)), .val (.int (x2 &&& (255 : Int32))), .val (.int (x3 &&& (255 : Int32))), .val (.int (x4 &&& (255 : Int32))), .val (.ref a591), .val (.ref a595), .val (.int (1 : Int32)), .unset, .unset] [])
              refine gw_st (fun _ kq => XS.iload X651.here hx rfl (hb hby at_171) rfl kq) ?_
              show GoW p e below s _ _ _ T651 (mkF m 173 #[.val (.int x0), .val (.int x1), .val (.int x2), .val (.int x3), .val (.int x4), .val (.int (3 : Int32)), .val (.int (1 : Int32)), .val (.int (x2 &&& (255 : Int32))), .val (.int (x3 &&& (255 : Int32))), .val (.int (x4 &&& (255 : Int32))), .val (.ref a591), .val (.ref a595), .val (.int (1 : Int32)), .unset, .unset] [(.int (1 : Int32))])
              refine gw_st (fun _ kq => XT.iconstV X651.here hx rfl (2 : Int32) (hb hby at_173) (by decide) kq) ?_
              show GoW p e below s _ _ _ T651 (mkF m 174 #[.val (.int x0), .val (.int x1), .val (.int x2), .val (.int x3), .val (.int x4), .val (.int (3 : Int32)), .val (.int (1 : Int32)), .val (.int (x2 &&& (255 : Int32))), .val (.int (x3 &&& (255 : Int32))), .val (.int (x4 &&& (255 : Int32))), .val (.ref a591), .val (.ref a595), .val (.int (1 : Int32)), .unset, .unset] [(.int (2 : Int32)), (.int (1 : Int32))])
              refine gw_st (fun _ kq => XS.icmpYes X651.here hx rfl (pc0 := 174) (pc' := 182) rfl (hb hby at_174) rfl (XT.ii_lt_t (by decide)) (by decide) (by decide) kq) ?_
              show GoW p e below s _ _ _ T651 (mkF m 182 #[.val (.int x0), .val (.int x1), .val (.int x2), .val (.int x3), .val (.int x4), .val (.int (3 : Int32)), .val (.int (1 : Int32)), .val (.int (x2 &&& (255 : Int32))), .val (.int (x3 &&& (255 : Int32))), .val (.int (x4 &&& (255 : Int32))), .val (.ref a591), .val (.ref a595), .val (.int (1 : Int32)), .unset, .unset] [])
              refine gw_st (fun _ kq => XS.iload X651.here hx rfl (hb hby at_182) rfl kq) ?_
              show GoW p e below s _ _ _ T651 (mkF m 184 #[.val (.int x0), .val (.int x1), .val (.int x2), .val (.int x3), .val (.int x4), .val (.int (3 : Int32)), .val (.int (1 : Int32)), .val (.int (x2 &&& (255 : Int32))), .val (.int (x3 &&& (255 : Int32))), .val (.int (x4 &&& (255 : Int32))), .val (.ref a591), .val (.ref a595), .val (.int (1 : Int32)), .unset, .unset] [(.int (1 : Int32))])
              refine gw_st (fun _ kq => XT.iconstV X651.here hx rfl (3 : Int32) (hb hby at_184) (by decide) kq) ?_
              show GoW p e below s _ _ _ T651 (mkF m 185 #[.val (.int x0), .val (.int x1), .val (.int x2), .val (.int x3), .val (.int x4), .val (.int (3 : Int32)), .val (.int (1 : Int32)), .val (.int (x2 &&& (255 : Int32))), .val (.int (x3 &&& (255 : Int32))), .val (.int (x4 &&& (255 : Int32))), .val (.ref a591), .val (.ref a595), .val (.int (1 : Int32)), .unset, .unset] [(.int (3 : Int32)), (.int (1 : Int32))])
              refine gw_st (fun _ kq => XS.icmpYes X651.here hx rfl (pc0 := 185) (pc' := 193) rfl (hb hby at_185) rfl (XT.ii_lt_t (by decide)) (by decide) (by decide) kq) ?_
              show GoW p e below s _ _ _ T651 (mkF m 193 #[.val (.int x0), .val (.int x1), .val (.int x2), .val (.int x3), .val (.int x4), .val (.int (3 : Int32)), .val (.int (1 : Int32)), .val (.int (x2 &&& (255 : Int32))), .val (.int (x3 &&& (255 : Int32))), .val (.int (x4 &&& (255 : Int32))), .val (.ref a591), .val (.ref a595), .val (.int (1 : Int32)), .unset, .unset] [])
              refine gw_st (fun _ kq => XS.aload X651.here hx rfl (hb hby at_193) rfl rfl kq) ?_
              show GoW p e below s _ _ _ T651 (mkF m 195 #[.val (.int x0), .val (.int x1), .val (.int x2), .val (.int x3), .val (.int x4), .val (.int (3 : Int32)), .val (.int (1 : Int32)), .val (.int (x2 &&& (255 : Int32))), .val (.int (x3 &&& (255 : Int32))), .val (.int (x4 &&& (255 : Int32))), .val (.ref a591), .val (.ref a595), .val (.int (1 : Int32)), .unset, .unset] [(.ref a595)])
              have c653 := Exa.keep c643 K651
              have c654 := Fld.keep c644 K651 (ninS (Ne.symm ne614) nin0)
              have c655 := Fld.keep c645 K651 (ninS (Ne.symm ne614) nin0)
              have c656 := GA.keep c646 K651 (ninS (Ne.symm ne631) nin0)
              have c657 := Old.keep c648 K651 (allS nw_a595 all0)
              have z658 : n0 ≤ T651.heap.size := Nat.le_trans z649 K651.1
              have c659 := Exa.keep c650 K651
              refine gw_callV X651 hx hZ hml hown (hw _ (List.mem_of_getElem? (i := 32) rfl)) (hw _ (List.mem_of_getElem? (i := 33) rfl)) (notFace_of_selects (args := #[]) (mvT hZ (hw _ (List.mem_of_getElem? (i := 35) rfl)))) (hw _ (List.mem_of_getElem? (i := 35) rfl)) (hw _ (List.mem_of_getElem? (i := 34) rfl)) (hw _ (List.mem_of_getElem? (i := 36) rfl)) (hw _ (List.mem_of_getElem? (i := 4) rfl)) rfl c659 (argsL := []) (rest := []) (W := 0) (met_end31 l Z a0 hw a595 a610 r_618 (fun i => .int (own_c3 (own_by (x2 &&& (255 : Int32))) (own_by (x3 &&& (255 : Int32))) (own_by (x4 &&& (255 : Int32))) i)) zc T651.heap n0 z658 f651_1 f651_0 c653 c654 c655 c656 c657 S0 zn) (hb hby at_195) rfl rfl rfl (lenOf pd8 rfl) (by show 2 * 0 + _ ≤ _; exact Nat.le_of_eq rfl) (by decide) (by decide) (by decide) (by decide) (by decide) ?_
              intro T652 v652 L652 X652 q652
              obtain ⟨rfl, M652, e652⟩ := q652
              have N652 := Fr.app N651 M652
              show GoW p e below s _ _ _ T652 (mkF m 198 #[.val (.int x0), .val (.int x1), .val (.int x2), .val (.int x3), .val (.int x4), .val (.int (3 : Int32)), .val (.int (1 : Int32)), .val (.int (x2 &&& (255 : Int32))), .val (.int (x3 &&& (255 : Int32))), .val (.int (x4 &&& (255 : Int32))), .val (.ref a591), .val (.ref a595), .val (.int (1 : Int32)), .unset, .unset] [(.int (0 : Int32))])
              refine gw_st (fun _ kq => XS.iload X652.here hx rfl (hb hby at_198) rfl kq) ?_
              show GoW p e below s _ _ _ T652 (mkF m 200 #[.val (.int x0), .val (.int x1), .val (.int x2), .val (.int x3), .val (.int x4), .val (.int (3 : Int32)), .val (.int (1 : Int32)), .val (.int (x2 &&& (255 : Int32))), .val (.int (x3 &&& (255 : Int32))), .val (.int (x4 &&& (255 : Int32))), .val (.ref a591), .val (.ref a595), .val (.int (1 : Int32)), .unset, .unset] [(.int (1 : Int32)), (.int (0 : Int32))])
              refine gw_st (fun _ kq => XS.iload X652.here hx rfl (hb hby at_200) rfl kq) ?_
              show GoW p e below s _ _ _ T652 (mkF m 202 #[.val (.int x0), .val (.int x1), .val (.int x2), .val (.int x3), .val (.int x4), .val (.int (3 : Int32)), .val (.int (1 : Int32)), .val (.int (x2 &&& (255 : Int32))), .val (.int (x3 &&& (255 : Int32))), .val (.int (x4 &&& (255 : Int32))), .val (.ref a591), .val (.ref a595), .val (.int (1 : Int32)), .unset, .unset] [(.int (3 : Int32)), (.int (1 : Int32)), (.int (0 : Int32))])
              refine gw_st (fun _ kq => XS.icmpYes X652.here hx rfl (pc0 := 202) (pc' := 209) rfl (hb hby at_202) rfl (XT.ii_ne_t (by decide)) (by decide) (by decide) kq) ?_
              show GoW p e below s _ _ _ T652 (mkF m 209 #[.val (.int x0), .val (.int x1), .val (.int x2), .val (.int x3), .val (.int x4), .val (.int (3 : Int32)), .val (.int (1 : Int32)), .val (.int (x2 &&& (255 : Int32))), .val (.int (x3 &&& (255 : Int32))), .val (.int (x4 &&& (255 : Int32))), .val (.ref a591), .val (.ref a595), .val (.int (1 : Int32)), .unset, .unset] [(.int (0 : Int32))])
              refine gw_st (fun _ kq => XT.iconstV X652.here hx rfl (0 : Int32) (hb hby at_209) (by decide) kq) ?_
              show GoW p e below s _ _ _ T652 (mkF m 210 #[.val (.int x0), .val (.int x1), .val (.int x2), .val (.int x3), .val (.int x4), .val (.int (3 : Int32)), .val (.int (1 : Int32)), .val (.int (x2 &&& (255 : Int32))), .val (.int (x3 &&& (255 : Int32))), .val (.int (x4 &&& (255 : Int32))), .val (.ref a591), .val (.ref a595), .val (.int (1 : Int32)), .unset, .unset] [(.int (0 : Int32)), (.int (0 : Int32))])
              refine gw_st (fun _ kq => XS.icmpNo X652.here hx rfl (hb hby at_210) rfl (XT.ii_ne_f (by decide)) kq) ?_
              show GoW p e below s _ _ _ T652 (mkF m 213 #[.val (.int x0), .val (.int x1), .val (.int x2), .val (.int x3), .val (.int x4), .val (.int (3 : Int32)), .val (.int (1 : Int32)), .val (.int (x2 &&& (255 : Int32))), .val (.int (x3 &&& (255 : Int32))), .val (.int (x4 &&& (255 : Int32))), .val (.ref a591), .val (.ref a595), .val (.int (1 : Int32)), .unset, .unset] [])
              refine gw_st (fun _ kq => XT.iconstV X652.here hx rfl (1 : Int32) (hb hby at_213) (by decide) kq) ?_
              show GoW p e below s _ _ _ T652 (mkF m 214 #[.val (.int x0), .val (.int x1), .val (.int x2), .val (.int x3), .val (.int x4), .val (.int (3 : Int32)), .val (.int (1 : Int32)), .val (.int (x2 &&& (255 : Int32))), .val (.int (x3 &&& (255 : Int32))), .val (.int (x4 &&& (255 : Int32))), .val (.ref a591), .val (.ref a595), .val (.int (1 : Int32)), .unset, .unset] [(.int (1 : Int32))])
              refine gw_st (fun _ kq => XS.goto X652.here hx rfl (pc0 := 214) (pc' := 218) rfl (hb hby at_214) (by decide) (by decide) kq) ?_
              show GoW p e below s _ _ _ T652 (mkF m 218 #[.val (.int x0), .val (.int x1), .val (.int x2), .val (.int x3), .val (.int x4), .val (.int (3 : Int32)), .val (.int (1 : Int32)), .val (.int (x2 &&& (255 : Int32))), .val (.int (x3 &&& (255 : Int32))), .val (.int (x4 &&& (255 : Int32))), .val (.ref a591), .val (.ref a595), .val (.int (1 : Int32)), .unset, .unset] [(.int (1 : Int32))])
              refine gw_st (fun _ kq => XS.istore X652.here hx rfl (hb hby at_218) rfl (l' := #[.val (.int x0), .val (.int x1), .val (.int x2), .val (.int x3), .val (.int x4), .val (.int (3 : Int32)), .val (.int (1 : Int32)), .val (.int (x2 &&& (255 : Int32))), .val (.int (x3 &&& (255 : Int32))), .val (.int (x4 &&& (255 : Int32))), .val (.ref a591), .val (.ref a595), .val (.int (1 : Int32)), .val (.int (1 : Int32)), .unset]) rfl kq) ?_
              show GoW p e below s _ _ _ T652 (mkF m 220 #[.val (.int x0), .val (.int x1), .val (.int x2), .val (.int x3), .val (.int x4), .val (.int (3 : Int32)), .val (.int (1 : Int32)), .val (.int (x2 &&& (255 : Int32))), .val (.int (x3 &&& (255 : Int32))), .val (.int (x4 &&& (255 : Int32))), .val (.ref a591), .val (.ref a595), .val (.int (1 : Int32)), .val (.int (1 : Int32)), .unset] [])
              refine gw_st (fun _ kq => XS.aload X652.here hx rfl (hb hby at_220) rfl rfl kq) ?_
              show GoW p e below s _ _ _ T652 (mkF m 222 #[.val (.int x0), .val (.int x1), .val (.int x2), .val (.int x3), .val (.int x4), .val (.int (3 : Int32)), .val (.int (1 : Int32)), .val (.int (x2 &&& (255 : Int32))), .val (.int (x3 &&& (255 : Int32))), .val (.int (x4 &&& (255 : Int32))), .val (.ref a591), .val (.ref a595), .val (.int (1 : Int32)), .val (.int (1 : Int32)), .unset] [(.ref a595)])
              refine gw_callV X652 hx hZ hml hown (hw _ (List.mem_of_getElem? (i := 50) rfl)) (hw _ (List.mem_of_getElem? (i := 51) rfl)) (notFace_of_selects (args := #[]) (mvT hZ (hw _ (List.mem_of_getElem? (i := 53) rfl)))) (hw _ (List.mem_of_getElem? (i := 53) rfl)) (hw _ (List.mem_of_getElem? (i := 52) rfl)) (hw _ (List.mem_of_getElem? (i := 54) rfl)) (hw _ (List.mem_of_getElem? (i := 4) rfl)) e652 c659 (argsL := []) (rest := []) (W := 0) (met_8 l Z a0 hw a595 (1 : Int32) T651.heap n0 z658 f651_1) (hb hby at_222) rfl rfl rfl (lenOf pd5 rfl) (by show 2 * 0 + _ ≤ _; exact Nat.le_of_eq rfl) (by decide) (by decide) (by decide) (by decide) (by decide) ?_
              intro T660 v660 L660 X660 q660
              obtain ⟨rfl, M660, e660⟩ := q660
              have N660 := Fr.app N652 M660
              show GoW p e below s _ _ _ T660 (mkF m 225 #[.val (.int x0), .val (.int x1), .val (.int x2), .val (.int x3), .val (.int x4), .val (.int (3 : Int32)), .val (.int (1 : Int32)), .val (.int (x2 &&& (255 : Int32))), .val (.int (x3 &&& (255 : Int32))), .val (.int (x4 &&& (255 : Int32))), .val (.ref a591), .val (.ref a595), .val (.int (1 : Int32)), .val (.int (1 : Int32)), .unset] [(.int (1 : Int32))])
              refine gw_st (fun _ kq => XS.iload X660.here hx rfl (hb hby at_225) rfl kq) ?_
              show GoW p e below s _ _ _ T660 (mkF m 227 #[.val (.int x0), .val (.int x1), .val (.int x2), .val (.int x3), .val (.int x4), .val (.int (3 : Int32)), .val (.int (1 : Int32)), .val (.int (x2 &&& (255 : Int32))), .val (.int (x3 &&& (255 : Int32))), .val (.int (x4 &&& (255 : Int32))), .val (.ref a591), .val (.ref a595), .val (.int (1 : Int32)), .val (.int (1 : Int32)), .unset] [(.int (1 : Int32)), (.int (1 : Int32))])
              refine gw_st (fun _ kq => XS.icmpNo X660.here hx rfl (hb hby at_227) rfl (XT.ii_ne_f (by decide)) kq) ?_
              show GoW p e below s _ _ _ T660 (mkF m 230 #[.val (.int x0), .val (.int x1), .val (.int x2), .val (.int x3), .val (.int x4), .val (.int (3 : Int32)), .val (.int (1 : Int32)), .val (.int (x2 &&& (255 : Int32))), .val (.int (x3 &&& (255 : Int32))), .val (.int (x4 &&& (255 : Int32))), .val (.ref a591), .val (.ref a595), .val (.int (1 : Int32)), .val (.int (1 : Int32)), .unset] [])
              refine gw_st (fun _ kq => XT.iconstV X660.here hx rfl (1 : Int32) (hb hby at_230) (by decide) kq) ?_
              show GoW p e below s _ _ _ T660 (mkF m 231 #[.val (.int x0), .val (.int x1), .val (.int x2), .val (.int x3), .val (.int x4), .val (.int (3 : Int32)), .val (.int (1 : Int32)), .val (.int (x2 &&& (255 : Int32))), .val (.int (x3 &&& (255 : Int32))), .val (.int (x4 &&& (255 : Int32))), .val (.ref a591), .val (.ref a595), .val (.int (1 : Int32)), .val (.int (1 : Int32)), .unset] [(.int (1 : Int32))])
              refine gw_st (fun _ kq => XS.goto X660.here hx rfl (pc0 := 231) (pc' := 235) rfl (hb hby at_231) (by decide) (by decide) kq) ?_
              show GoW p e below s _ _ _ T660 (mkF m 235 #[.val (.int x0), .val (.int x1), .val (.int x2), .val (.int x3), .val (.int x4), .val (.int (3 : Int32)), .val (.int (1 : Int32)), .val (.int (x2 &&& (255 : Int32))), .val (.int (x3 &&& (255 : Int32))), .val (.int (x4 &&& (255 : Int32))), .val (.ref a591), .val (.ref a595), .val (.int (1 : Int32)), .val (.int (1 : Int32)), .unset] [(.int (1 : Int32))])
              refine gw_st (fun _ kq => XS.istore X660.here hx rfl (hb hby at_235) rfl (l' := #[.val (.int x0), .val (.int x1), .val (.int x2), .val (.int x3), .val (.int x4), .val (.int (3 : Int32)), .val (.int (1 : Int32)), .val (.int (x2 &&& (255 : Int32))), .val (.int (x3 &&& (255 : Int32))), .val (.int (x4 &&& (255 : Int32))), .val (.ref a591), .val (.ref a595), .val (.int (1 : Int32)), .val (.int (1 : Int32)), .val (.int (1 : Int32))]) rfl kq) ?_
              show GoW p e below s _ _ _ T660 (mkF m 237 #[.val (.int x0), .val (.int x1), .val (.int x2), .val (.int x3), .val (.int x4), .val (.int (3 : Int32)), .val (.int (1 : Int32)), .val (.int (x2 &&& (255 : Int32))), .val (.int (x3 &&& (255 : Int32))), .val (.int (x4 &&& (255 : Int32))), .val (.ref a591), .val (.ref a595), .val (.int (1 : Int32)), .val (.int (1 : Int32)), .val (.int (1 : Int32))] [])
              refine gw_st (fun _ kq => XS.iload X660.here hx rfl (hb hby at_237) rfl kq) ?_
              show GoW p e below s _ _ _ T660 (mkF m 239 #[.val (.int x0), .val (.int x1), .val (.int x2), .val (.int x3), .val (.int x4), .val (.int (3 : Int32)), .val (.int (1 : Int32)), .val (.int (x2 &&& (255 : Int32))), .val (.int (x3 &&& (255 : Int32))), .val (.int (x4 &&& (255 : Int32))), .val (.ref a591), .val (.ref a595), .val (.int (1 : Int32)), .val (.int (1 : Int32)), .val (.int (1 : Int32))] [(.int (1 : Int32))])
              refine gw_st (fun _ kq => XS.ifNo X660.here hx rfl (hb hby at_239) rfl (XT.i0_eq_f (by decide)) kq) ?_
              show GoW p e below s _ _ _ T660 (mkF m 242 #[.val (.int x0), .val (.int x1), .val (.int x2), .val (.int x3), .val (.int x4), .val (.int (3 : Int32)), .val (.int (1 : Int32)), .val (.int (x2 &&& (255 : Int32))), .val (.int (x3 &&& (255 : Int32))), .val (.int (x4 &&& (255 : Int32))), .val (.ref a591), .val (.ref a595), .val (.int (1 : Int32)), .val (.int (1 : Int32)), .val (.int (1 : Int32))] [])
              refine gw_st (fun _ kq => XS.iload X660.here hx rfl (hb hby at_242) rfl kq) ?_
              show GoW p e below s _ _ _ T660 (mkF m 244 #[.val (.int x0), .val (.int x1), .val (.int x2), .val (.int x3), .val (.int x4), .val (.int (3 : Int32)), .val (.int (1 : Int32)), .val (.int (x2 &&& (255 : Int32))), .val (.int (x3 &&& (255 : Int32))), .val (.int (x4 &&& (255 : Int32))), .val (.ref a591), .val (.ref a595), .val (.int (1 : Int32)), .val (.int (1 : Int32)), .val (.int (1 : Int32))] [(.int (1 : Int32))])
              refine gw_st (fun _ kq => XS.ifNo X660.here hx rfl (hb hby at_244) rfl (XT.i0_eq_f (by decide)) kq) ?_
              show GoW p e below s _ _ _ T660 (mkF m 247 #[.val (.int x0), .val (.int x1), .val (.int x2), .val (.int x3), .val (.int x4), .val (.int (3 : Int32)), .val (.int (1 : Int32)), .val (.int (x2 &&& (255 : Int32))), .val (.int (x3 &&& (255 : Int32))), .val (.int (x4 &&& (255 : Int32))), .val (.ref a591), .val (.ref a595), .val (.int (1 : Int32)), .val (.int (1 : Int32)), .val (.int (1 : Int32))] [])
              refine gw_st (fun _ kq => XS.iload X660.here hx rfl (hb hby at_247) rfl kq) ?_
              show GoW p e below s _ _ _ T660 (mkF m 249 #[.val (.int x0), .val (.int x1), .val (.int x2), .val (.int x3), .val (.int x4), .val (.int (3 : Int32)), .val (.int (1 : Int32)), .val (.int (x2 &&& (255 : Int32))), .val (.int (x3 &&& (255 : Int32))), .val (.int (x4 &&& (255 : Int32))), .val (.ref a591), .val (.ref a595), .val (.int (1 : Int32)), .val (.int (1 : Int32)), .val (.int (1 : Int32))] [(.int (1 : Int32))])
              refine gw_st (fun _ kq => XS.ifNo X660.here hx rfl (hb hby at_249) rfl (XT.i0_eq_f (by decide)) kq) ?_
              show GoW p e below s _ _ _ T660 (mkF m 252 #[.val (.int x0), .val (.int x1), .val (.int x2), .val (.int x3), .val (.int x4), .val (.int (3 : Int32)), .val (.int (1 : Int32)), .val (.int (x2 &&& (255 : Int32))), .val (.int (x3 &&& (255 : Int32))), .val (.int (x4 &&& (255 : Int32))), .val (.ref a591), .val (.ref a595), .val (.int (1 : Int32)), .val (.int (1 : Int32)), .val (.int (1 : Int32))] [])
              refine gw_st (fun _ kq => XT.iconstV X660.here hx rfl (1 : Int32) (hb hby at_252) (by decide) kq) ?_
              show GoW p e below s _ _ _ T660 (mkF m 253 #[.val (.int x0), .val (.int x1), .val (.int x2), .val (.int x3), .val (.int x4), .val (.int (3 : Int32)), .val (.int (1 : Int32)), .val (.int (x2 &&& (255 : Int32))), .val (.int (x3 &&& (255 : Int32))), .val (.int (x4 &&& (255 : Int32))), .val (.ref a591), .val (.ref a595), .val (.int (1 : Int32)), .val (.int (1 : Int32)), .val (.int (1 : Int32))] [(.int (1 : Int32))])
              refine gw_st (fun _ kq => XS.goto X660.here hx rfl (pc0 := 253) (pc' := 257) rfl (hb hby at_253) (by decide) (by decide) kq) ?_
              show GoW p e below s _ _ _ T660 (mkF m 257 #[.val (.int x0), .val (.int x1), .val (.int x2), .val (.int x3), .val (.int x4), .val (.int (3 : Int32)), .val (.int (1 : Int32)), .val (.int (x2 &&& (255 : Int32))), .val (.int (x3 &&& (255 : Int32))), .val (.int (x4 &&& (255 : Int32))), .val (.ref a591), .val (.ref a595), .val (.int (1 : Int32)), .val (.int (1 : Int32)), .val (.int (1 : Int32))] [(.int (1 : Int32))])
              exact gw_retB (w := (1 : Int32)) X660 hx hlk hret (hb hby at_257) (by decide) (by decide) (by decide) ⟨rfl, N660⟩
            · by_cases hk661 : ((x1 &&& (2147483647 : Int32)) % (4 : Int32)) = (2 : Int32)
              · rw [hk661]
                show GoW p e below s _ _ _ s₁ (mkF m 16 #[.val (.int x0), .val (.int x1), .val (.int x2), .val (.int x3), .val (.int x4), .val (.int (3 : Int32)), .val (.int (2 : Int32)), .unset, .unset, .unset, .unset, .unset, .unset, .unset, .unset] [])
                refine gw_st (fun _ kq => XS.iloadN X0.here hx rfl (hb hby at_16) rfl kq) ?_
                show GoW p e below s _ _ _ s₁ (mkF m 17 #[.val (.int x0), .val (.int x1), .val (.int x2), .val (.int x3), .val (.int x4), .val (.int (3 : Int32)), .val (.int (2 : Int32)), .unset, .unset, .unset, .unset, .unset, .unset, .unset, .unset] [(.int x2)])
                refine gw_st (fun _ kq => XT.sipushV X0.here hx rfl (255 : Int32) (hb hby at_17) (by decide) kq) ?_
                show GoW p e below s _ _ _ s₁ (mkF m 20 #[.val (.int x0), .val (.int x1), .val (.int x2), .val (.int x3), .val (.int x4), .val (.int (3 : Int32)), .val (.int (2 : Int32)), .unset, .unset, .unset, .unset, .unset, .unset, .unset, .unset] [(.int (255 : Int32)), (.int x2)])
                refine gw_st (fun _ kq => XS.iand X0.here hx rfl (hb hby at_20) rfl kq) ?_
                show GoW p e below s _ _ _ s₁ (mkF m 21 #[.val (.int x0), .val (.int x1), .val (.int x2), .val (.int x3), .val (.int x4), .val (.int (3 : Int32)), .val (.int (2 : Int32)), .unset, .unset, .unset, .unset, .unset, .unset, .unset, .unset] [(.int (x2 &&& (255 : Int32)))])
                refine gw_st (fun _ kq => XT.i2c X0.here hx rfl (hb hby at_21) rfl kq) ?_
                rw [own_i2c]
                show GoW p e below s _ _ _ s₁ (mkF m 22 #[.val (.int x0), .val (.int x1), .val (.int x2), .val (.int x3), .val (.int x4), .val (.int (3 : Int32)), .val (.int (2 : Int32)), .unset, .unset, .unset, .unset, .unset, .unset, .unset, .unset] [(.int (x2 &&& (255 : Int32)))])
                refine gw_st (fun _ kq => XS.istore X0.here hx rfl (hb hby at_22) rfl (l' := #[.val (.int x0), .val (.int x1), .val (.int x2), .val (.int x3), .val (.int x4), .val (.int (3 : Int32)), .val (.int (2 : Int32)), .val (.int (x2 &&& (255 : Int32))), .unset, .unset, .unset, .unset, .unset, .unset, .unset]) rfl kq) ?_
                show GoW p e below s _ _ _ s₁ (mkF m 24 #[.val (.int x0), .val (.int x1), .val (.int x2), .val (.int x3), .val (.int x4), .val (.int (3 : Int32)), .val (.int (2 : Int32)), .val (.int (x2 &&& (255 : Int32))), .unset, .unset, .unset, .unset, .unset, .unset, .unset] [])
                refine gw_st (fun _ kq => XS.iloadN X0.here hx rfl (hb hby at_24) rfl kq) ?_
                show GoW p e below s _ _ _ s₁ (mkF m 25 #[.val (.int x0), .val (.int x1), .val (.int x2), .val (.int x3), .val (.int x4), .val (.int (3 : Int32)), .val (.int (2 : Int32)), .val (.int (x2 &&& (255 : Int32))), .unset, .unset, .unset, .unset, .unset, .unset, .unset] [(.int x3)])
                refine gw_st (fun _ kq => XT.sipushV X0.here hx rfl (255 : Int32) (hb hby at_25) (by decide) kq) ?_
                show GoW p e below s _ _ _ s₁ (mkF m 28 #[.val (.int x0), .val (.int x1), .val (.int x2), .val (.int x3), .val (.int x4), .val (.int (3 : Int32)), .val (.int (2 : Int32)), .val (.int (x2 &&& (255 : Int32))), .unset, .unset, .unset, .unset, .unset, .unset, .unset] [(.int (255 : Int32)), (.int x3)])
                refine gw_st (fun _ kq => XS.iand X0.here hx rfl (hb hby at_28) rfl kq) ?_
                show GoW p e below s _ _ _ s₁ (mkF m 29 #[.val (.int x0), .val (.int x1), .val (.int x2), .val (.int x3), .val (.int x4), .val (.int (3 : Int32)), .val (.int (2 : Int32)), .val (.int (x2 &&& (255 : Int32))), .unset, .unset, .unset, .unset, .unset, .unset, .unset] [(.int (x3 &&& (255 : Int32)))])
                refine gw_st (fun _ kq => XT.i2c X0.here hx rfl (hb hby at_29) rfl kq) ?_
                rw [own_i2c]
                show GoW p e below s _ _ _ s₁ (mkF m 30 #[.val (.int x0), .val (.int x1), .val (.int x2), .val (.int x3), .val (.int x4), .val (.int (3 : Int32)), .val (.int (2 : Int32)), .val (.int (x2 &&& (255 : Int32))), .unset, .unset, .unset, .unset, .unset, .unset, .unset] [(.int (x3 &&& (255 : Int32)))])
                refine gw_st (fun _ kq => XS.istore X0.here hx rfl (hb hby at_30) rfl (l' := #[.val (.int x0), .val (.int x1), .val (.int x2), .val (.int x3), .val (.int x4), .val (.int (3 : Int32)), .val (.int (2 : Int32)), .val (.int (x2 &&& (255 : Int32))), .val (.int (x3 &&& (255 : Int32))), .unset, .unset, .unset, .unset, .unset, .unset]) rfl kq) ?_
                show GoW p e below s _ _ _ s₁ (mkF m 32 #[.val (.int x0), .val (.int x1), .val (.int x2), .val (.int x3), .val (.int x4), .val (.int (3 : Int32)), .val (.int (2 : Int32)), .val (.int (x2 &&& (255 : Int32))), .val (.int (x3 &&& (255 : Int32))), .unset, .unset, .unset, .unset, .unset, .unset] [])
                refine gw_st (fun _ kq => XS.iload X0.here hx rfl (hb hby at_32) rfl kq) ?_
                show GoW p e below s _ _ _ s₁ (mkF m 34 #[.val (.int x0), .val (.int x1), .val (.int x2), .val (.int x3), .val (.int x4), .val (.int (3 : Int32)), .val (.int (2 : Int32)), .val (.int (x2 &&& (255 : Int32))), .val (.int (x3 &&& (255 : Int32))), .unset, .unset, .unset, .unset, .unset, .unset] [(.int x4)])
                refine gw_st (fun _ kq => XT.sipushV X0.here hx rfl (255 : Int32) (hb hby at_34) (by decide) kq) ?_
                show GoW p e below s _ _ _ s₁ (mkF m 37 #[.val (.int x0), .val (.int x1), .val (.int x2), .val (.int x3), .val (.int x4), .val (.int (3 : Int32)), .val (.int (2 : Int32)), .val (.int (x2 &&& (255 : Int32))), .val (.int (x3 &&& (255 : Int32))), .unset, .unset, .unset, .unset, .unset, .unset] [(.int (255 : Int32)), (.int x4)])
                refine gw_st (fun _ kq => XS.iand X0.here hx rfl (hb hby at_37) rfl kq) ?_
                show GoW p e below s _ _ _ s₁ (mkF m 38 #[.val (.int x0), .val (.int x1), .val (.int x2), .val (.int x3), .val (.int x4), .val (.int (3 : Int32)), .val (.int (2 : Int32)), .val (.int (x2 &&& (255 : Int32))), .val (.int (x3 &&& (255 : Int32))), .unset, .unset, .unset, .unset, .unset, .unset] [(.int (x4 &&& (255 : Int32)))])
                refine gw_st (fun _ kq => XT.i2c X0.here hx rfl (hb hby at_38) rfl kq) ?_
                rw [own_i2c]
                show GoW p e below s _ _ _ s₁ (mkF m 39 #[.val (.int x0), .val (.int x1), .val (.int x2), .val (.int x3), .val (.int x4), .val (.int (3 : Int32)), .val (.int (2 : Int32)), .val (.int (x2 &&& (255 : Int32))), .val (.int (x3 &&& (255 : Int32))), .unset, .unset, .unset, .unset, .unset, .unset] [(.int (x4 &&& (255 : Int32)))])
                refine gw_st (fun _ kq => XS.istore X0.here hx rfl (hb hby at_39) rfl (l' := #[.val (.int x0), .val (.int x1), .val (.int x2), .val (.int x3), .val (.int x4), .val (.int (3 : Int32)), .val (.int (2 : Int32)), .val (.int (x2 &&& (255 : Int32))), .val (.int (x3 &&& (255 : Int32))), .val (.int (x4 &&& (255 : Int32))), .unset, .unset, .unset, .unset, .unset]) rfl kq) ?_
                show GoW p e below s _ _ _ s₁ (mkF m 41 #[.val (.int x0), .val (.int x1), .val (.int x2), .val (.int x3), .val (.int x4), .val (.int (3 : Int32)), .val (.int (2 : Int32)), .val (.int (x2 &&& (255 : Int32))), .val (.int (x3 &&& (255 : Int32))), .val (.int (x4 &&& (255 : Int32))), .unset, .unset, .unset, .unset, .unset] [])
                refine gw_st (fun _ kq => XS.iload X0.here hx rfl (hb hby at_41) rfl kq) ?_
                show GoW p e below s _ _ _ s₁ (mkF m 43 #[.val (.int x0), .val (.int x1), .val (.int x2), .val (.int x3), .val (.int x4), .val (.int (3 : Int32)), .val (.int (2 : Int32)), .val (.int (x2 &&& (255 : Int32))), .val (.int (x3 &&& (255 : Int32))), .val (.int (x4 &&& (255 : Int32))), .unset, .unset, .unset, .unset, .unset] [(.int (3 : Int32))])
                refine gw_st (fun _ kq => XS.ifYes X0.here hx rfl (pc0 := 43) (pc' := 54) rfl (hb hby at_43) rfl (XT.i0_ne_t (by decide)) (by decide) (by decide) kq) ?_
                show GoW p e below s _ _ _ s₁ (mkF m 54 #[.val (.int x0), .val (.int x1), .val (.int x2), .val (.int x3), .val (.int x4), .val (.int (3 : Int32)), .val (.int (2 : Int32)), .val (.int (x2 &&& (255 : Int32))), .val (.int (x3 &&& (255 : Int32))), .val (.int (x4 &&& (255 : Int32))), .unset, .unset, .unset, .unset, .unset] [])
                refine gw_st (fun _ kq => XS.iload X0.here hx rfl (hb hby at_54) rfl kq) ?_
                show GoW p e below s _ _ _ s₁ (mkF m 56 #[.val (.int x0), .val (.int x1), .val (.int x2), .val (.int x3), .val (.int x4), .val (.int (3 : Int32)), .val (.int (2 : Int32)), .val (.int (x2 &&& (255 : Int32))), .val (.int (x3 &&& (255 : Int32))), .val (.int (x4 &&& (255 : Int32))), .unset, .unset, .unset, .unset, .unset] [(.int (3 : Int32))])
                refine gw_st (fun _ kq => XT.iconstV X0.here hx rfl (1 : Int32) (hb hby at_56) (by decide) kq) ?_
                show GoW p e below s _ _ _ s₁ (mkF m 57 #[.val (.int x0), .val (.int x1), .val (.int x2), .val (.int x3), .val (.int x4), .val (.int (3 : Int32)), .val (.int (2 : Int32)), .val (.int (x2 &&& (255 : Int32))), .val (.int (x3 &&& (255 : Int32))), .val (.int (x4 &&& (255 : Int32))), .unset, .unset, .unset, .unset, .unset] [(.int (1 : Int32)), (.int (3 : Int32))])
                refine gw_st (fun _ kq => XS.icmpYes X0.here hx rfl (pc0 := 57) (pc' := 73) rfl (hb hby at_57) rfl (XT.ii_ne_t (by decide)) (by decide) (by decide) kq) ?_
                show GoW p e below s _ _ _ s₁ (mkF m 73 #[.val (.int x0), .val (.int x1), .val (.int x2), .val (.int x3), .val (.int x4), .val (.int (3 : Int32)), .val (.int (2 : Int32)), .val (.int (x2 &&& (255 : Int32))), .val (.int (x3 &&& (255 : Int32))), .val (.int (x4 &&& (255 : Int32))), .unset, .unset, .unset, .unset, .unset] [])
                refine gw_st (fun _ kq => XS.iload X0.here hx rfl (hb hby at_73) rfl kq) ?_
                show GoW p e below s _ _ _ s₁ (mkF m 75 #[.val (.int x0), .val (.int x1), .val (.int x2), .val (.int x3), .val (.int x4), .val (.int (3 : Int32)), .val (.int (2 : Int32)), .val (.int (x2 &&& (255 : Int32))), .val (.int (x3 &&& (255 : Int32))), .val (.int (x4 &&& (255 : Int32))), .unset, .unset, .unset, .unset, .unset] [(.int (3 : Int32))])
                refine gw_st (fun _ kq => XT.iconstV X0.here hx rfl (2 : Int32) (hb hby at_75) (by decide) kq) ?_
                show GoW p e below s _ _ _ s₁ (mkF m 76 #[.val (.int x0), .val (.int x1), .val (.int x2), .val (.int x3), .val (.int x4), .val (.int (3 : Int32)), .val (.int (2 : Int32)), .val (.int (x2 &&& (255 : Int32))), .val (.int (x3 &&& (255 : Int32))), .val (.int (x4 &&& (255 : Int32))), .unset, .unset, .unset, .unset, .unset] [(.int (2 : Int32)), (.int (3 : Int32))])
                refine gw_st (fun _ kq => XS.icmpYes X0.here hx rfl (pc0 := 76) (pc' := 97) rfl (hb hby at_76) rfl (XT.ii_ne_t (by decide)) (by decide) (by decide) kq) ?_
                show GoW p e below s _ _ _ s₁ (mkF m 97 #[.val (.int x0), .val (.int x1), .val (.int x2), .val (.int x3), .val (.int x4), .val (.int (3 : Int32)), .val (.int (2 : Int32)), .val (.int (x2 &&& (255 : Int32))), .val (.int (x3 &&& (255 : Int32))), .val (.int (x4 &&& (255 : Int32))), .unset, .unset, .unset, .unset, .unset] [])
                refine gw_st (fun _ kq => XT.iconstV X0.here hx rfl (3 : Int32) (hb hby at_97) (by decide) kq) ?_
                show GoW p e below s _ _ _ s₁ (mkF m 98 #[.val (.int x0), .val (.int x1), .val (.int x2), .val (.int x3), .val (.int x4), .val (.int (3 : Int32)), .val (.int (2 : Int32)), .val (.int (x2 &&& (255 : Int32))), .val (.int (x3 &&& (255 : Int32))), .val (.int (x4 &&& (255 : Int32))), .unset, .unset, .unset, .unset, .unset] [(.int (3 : Int32))])
                refine gw_newP X0 hx hZ (hw _ (List.mem_of_getElem? (i := 1) rfl)) e0 (hb hby at_98) rfl rfl 3 (by decide) 3 (Nat.le_refl _) (by decide) (by decide) (by decide) ?_
                intro T662 h662 a662 g662 X662 e662 E662 G662
                have nw_a662 : n0 ≤ a662 := Nat.le_trans Z0 (Nat.le_of_eq g662.symm)
                have lt_a662 : a662 < h662.size := G662.lt
                have A662 : GA Z h662 a662 .char 3 (fun i => .int (own_c3 (0 : Int32) (0 : Int32) (0 : Int32) i)) := (GA.congr G662 (fun i _ => own_z3 i))
                show GoW p e below s _ _ _ T662 (mkF m 100 #[.val (.int x0), .val (.int x1), .val (.int x2), .val (.int x3), .val (.int x4), .val (.int (3 : Int32)), .val (.int (2 : Int32)), .val (.int (x2 &&& (255 : Int32))), .val (.int (x3 &&& (255 : Int32))), .val (.int (x4 &&& (255 : Int32))), .unset, .unset, .unset, .unset, .unset] [(.ref a662)])
                refine gw_st (fun _ kq => XS.dup X662.here hx rfl (hb hby at_100) rfl rfl kq) ?_
                show GoW p e below s _ _ _ T662 (mkF m 101 #[.val (.int x0), .val (.int x1), .val (.int x2), .val (.int x3), .val (.int x4), .val (.int (3 : Int32)), .val (.int (2 : Int32)), .val (.int (x2 &&& (255 : Int32))), .val (.int (x3 &&& (255 : Int32))), .val (.int (x4 &&& (255 : Int32))), .unset, .unset, .unset, .unset, .unset] [(.ref a662), (.ref a662)])
                refine gw_st (fun _ kq => XT.iconstV X662.here hx rfl (0 : Int32) (hb hby at_101) (by decide) kq) ?_
                show GoW p e below s _ _ _ T662 (mkF m 102 #[.val (.int x0), .val (.int x1), .val (.int x2), .val (.int x3), .val (.int x4), .val (.int (3 : Int32)), .val (.int (2 : Int32)), .val (.int (x2 &&& (255 : Int32))), .val (.int (x3 &&& (255 : Int32))), .val (.int (x4 &&& (255 : Int32))), .unset, .unset, .unset, .unset, .unset] [(.int (0 : Int32)), (.ref a662), (.ref a662)])
                refine gw_st (fun _ kq => XS.iload X662.here hx rfl (hb hby at_102) rfl kq) ?_
                show GoW p e below s _ _ _ T662 (mkF m 104 #[.val (.int x0), .val (.int x1), .val (.int x2), .val (.int x3), .val (.int x4), .val (.int (3 : Int32)), .val (.int (2 : Int32)), .val (.int (x2 &&& (255 : Int32))), .val (.int (x3 &&& (255 : Int32))), .val (.int (x4 &&& (255 : Int32))), .unset, .unset, .unset, .unset, .unset] [(.int (x2 &&& (255 : Int32))), (.int (0 : Int32)), (.ref a662), (.ref a662)])
                refine gw_cast X662 hx hZ e662 A662 (hb hby at_104) rfl rfl (by decide) ?_
                intro T663 h663 X663 e663 W663 G663
                have N663 := Fr.snoc X663 N0 nw_a662
                have A663 : GA Z h663 a662 .char 3 (fun i => .int (own_c3 (x2 &&& (255 : Int32)) (0 : Int32) (0 : Int32) i)) := (own_stc (own_nc (own_lat _)) (by decide) (own_c30 (x2 &&& (255 : Int32)) (0 : Int32) (0 : Int32) (0 : Int32)) G663)
                show GoW p e below s _ _ _ T663 (mkF m 105 #[.val (.int x0), .val (.int x1), .val (.int x2), .val (.int x3), .val (.int x4), .val (.int (3 : Int32)), .val (.int (2 : Int32)), .val (.int (x2 &&& (255 : Int32))), .val (.int (x3 &&& (255 : Int32))), .val (.int (x4 &&& (255 : Int32))), .unset, .unset, .unset, .unset, .unset] [(.ref a662)])
                refine gw_st (fun _ kq => XS.dup X663.here hx rfl (hb hby at_105) rfl rfl kq) ?_
                show GoW p e below s _ _ _ T663 (mkF m 106 #[.val (.int x0), .val (.int x1), .val (.int x2), .val (.int x3), .val (.int x4), .val (.int (3 : Int32)), .val (.int (2 : Int32)), .val (.int (x2 &&& (255 : Int32))), .val (.int (x3 &&& (255 : Int32))), .val (.int (x4 &&& (255 : Int32))), .unset, .unset, .unset, .unset, .unset] [(.ref a662), (.ref a662)])
                refine gw_st (fun _ kq => XT.iconstV X663.here hx rfl (1 : Int32) (hb hby at_106) (by decide) kq) ?_
                show GoW p e below s _ _ _ T663 (mkF m 107 #[.val (.int x0), .val (.int x1), .val (.int x2), .val (.int x3), .val (.int x4), .val (.int (3 : Int32)), .val (.int (2 : Int32)), .val (.int (x2 &&& (255 : Int32))), .val (.int (x3 &&& (255 : Int32))), .val (.int (x4 &&& (255 : Int32))), .unset, .unset, .unset, .unset, .unset] [(.int (1 : Int32)), (.ref a662), (.ref a662)])
                refine gw_st (fun _ kq => XS.iload X663.here hx rfl (hb hby at_107) rfl kq) ?_
                show GoW p e below s _ _ _ T663 (mkF m 109 #[.val (.int x0), .val (.int x1), .val (.int x2), .val (.int x3), .val (.int x4), .val (.int (3 : Int32)), .val (.int (2 : Int32)), .val (.int (x2 &&& (255 : Int32))), .val (.int (x3 &&& (255 : Int32))), .val (.int (x4 &&& (255 : Int32))), .unset, .unset, .unset, .unset, .unset] [(.int (x3 &&& (255 : Int32))), (.int (1 : Int32)), (.ref a662), (.ref a662)])
                refine gw_cast X663 hx hZ e663 A663 (hb hby at_109) rfl rfl (by decide) ?_
                intro T664 h664 X664 e664 W664 G664
                have N664 := Fr.snoc X664 N663 nw_a662
                have A664 : GA Z h664 a662 .char 3 (fun i => .int (own_c3 (x2 &&& (255 : Int32)) (x3 &&& (255 : Int32)) (0 : Int32) i)) := (own_stc (own_nc (own_lat _)) (by decide) (own_c31 (x3 &&& (255 : Int32)) (x2 &&& (255 : Int32)) (0 : Int32) (0 : Int32)) G664)
                show GoW p e below s _ _ _ T664 (mkF m 110 #[.val (.int x0), .val (.int x1), .val (.int x2), .val (.int x3), .val (.int x4), .val (.int (3 : Int32)), .val (.int (2 : Int32)), .val (.int (x2 &&& (255 : Int32))), .val (.int (x3 &&& (255 : Int32))), .val (.int (x4 &&& (255 : Int32))), .unset, .unset, .unset, .unset, .unset] [(.ref a662)])
                refine gw_st (fun _ kq => XS.dup X664.here hx rfl (hb hby at_110) rfl rfl kq) ?_
                show GoW p e below s _ _ _ T664 (mkF m 111 #[.val (.int x0), .val (.int x1), .val (.int x2), .val (.int x3), .val (.int x4), .val (.int (3 : Int32)), .val (.int (2 : Int32)), .val (.int (x2 &&& (255 : Int32))), .val (.int (x3 &&& (255 : Int32))), .val (.int (x4 &&& (255 : Int32))), .unset, .unset, .unset, .unset, .unset] [(.ref a662), (.ref a662)])
                refine gw_st (fun _ kq => XT.iconstV X664.here hx rfl (2 : Int32) (hb hby at_111) (by decide) kq) ?_
                show GoW p e below s _ _ _ T664 (mkF m 112 #[.val (.int x0), .val (.int x1), .val (.int x2), .val (.int x3), .val (.int x4), .val (.int (3 : Int32)), .val (.int (2 : Int32)), .val (.int (x2 &&& (255 : Int32))), .val (.int (x3 &&& (255 : Int32))), .val (.int (x4 &&& (255 : Int32))), .unset, .unset, .unset, .unset, .unset] [(.int (2 : Int32)), (.ref a662), (.ref a662)])
                refine gw_st (fun _ kq => XS.iload X664.here hx rfl (hb hby at_112) rfl kq) ?_
                show GoW p e below s _ _ _ T664 (mkF m 114 #[.val (.int x0), .val (.int x1), .val (.int x2), .val (.int x3), .val (.int x4), .val (.int (3 : Int32)), .val (.int (2 : Int32)), .val (.int (x2 &&& (255 : Int32))), .val (.int (x3 &&& (255 : Int32))), .val (.int (x4 &&& (255 : Int32))), .unset, .unset, .unset, .unset, .unset] [(.int (x4 &&& (255 : Int32))), (.int (2 : Int32)), (.ref a662), (.ref a662)])
                refine gw_cast X664 hx hZ e664 A664 (hb hby at_114) rfl rfl (by decide) ?_
                intro T665 h665 X665 e665 W665 G665
                have N665 := Fr.snoc X665 N664 nw_a662
                have A665 : GA Z h665 a662 .char 3 (fun i => .int (own_c3 (x2 &&& (255 : Int32)) (x3 &&& (255 : Int32)) (x4 &&& (255 : Int32)) i)) := (own_stc (own_nc (own_lat _)) (by decide) (own_c32 (x4 &&& (255 : Int32)) (x2 &&& (255 : Int32)) (x3 &&& (255 : Int32)) (0 : Int32)) G665)
                show GoW p e below s _ _ _ T665 (mkF m 115 #[.val (.int x0), .val (.int x1), .val (.int x2), .val (.int x3), .val (.int x4), .val (.int (3 : Int32)), .val (.int (2 : Int32)), .val (.int (x2 &&& (255 : Int32))), .val (.int (x3 &&& (255 : Int32))), .val (.int (x4 &&& (255 : Int32))), .unset, .unset, .unset, .unset, .unset] [(.ref a662)])
                refine gw_st (fun _ kq => XS.astore X665.here hx rfl (hb hby at_115) rfl rfl (l' := #[.val (.int x0), .val (.int x1), .val (.int x2), .val (.int x3), .val (.int x4), .val (.int (3 : Int32)), .val (.int (2 : Int32)), .val (.int (x2 &&& (255 : Int32))), .val (.int (x3 &&& (255 : Int32))), .val (.int (x4 &&& (255 : Int32))), .val (.ref a662), .unset, .unset, .unset, .unset]) rfl kq) ?_
                show GoW p e below s _ _ _ T665 (mkF m 117 #[.val (.int x0), .val (.int x1), .val (.int x2), .val (.int x3), .val (.int x4), .val (.int (3 : Int32)), .val (.int (2 : Int32)), .val (.int (x2 &&& (255 : Int32))), .val (.int (x3 &&& (255 : Int32))), .val (.int (x4 &&& (255 : Int32))), .val (.ref a662), .unset, .unset, .unset, .unset] [])
                refine gw_newO X665 hx hZ hown (hw _ (List.mem_of_getElem? (i := 2) rfl)) (hw _ (List.mem_of_getElem? (i := 3) rfl)) (hw _ (List.mem_of_getElem? (i := 4) rfl)) e665 (hb hby at_117) rfl (by decide) (by decide) ?_
                intro T666 h666 a666 g666 X666 e666 E666 A666 D666
                have y667 : h0.size ≤ h662.size := Nat.le_trans (Nat.le_refl _) E662.1
                have y668 : h0.size ≤ h663.size := (Wr.size W663).symm ▸ y667
                have y669 : h0.size ≤ h664.size := (Wr.size W664).symm ▸ y668
                have y670 : h0.size ≤ h665.size := (Wr.size W665).symm ▸ y669
                have c671 : a662 < h663.size := (Wr.size W663).symm ▸ lt_a662
                have c672 : a662 < h664.size := (Wr.size W664).symm ▸ c671
                have c673 : a662 < h665.size := (Wr.size W665).symm ▸ c672
                have ne674 : a662 ≠ a666 := fun q => Nat.lt_irrefl _ (Nat.lt_of_lt_of_le c673 (Nat.le_of_eq (g666.symm.trans q.symm)))
                have z675 : n0 ≤ h662.size := Nat.le_trans Z0 E662.1
                have z676 : n0 ≤ h663.size := (Wr.size W663).symm ▸ z675
                have z677 : n0 ≤ h664.size := (Wr.size W664).symm ▸ z676
                have z678 : n0 ≤ h665.size := (Wr.size W665).symm ▸ z677
                have nw_a666 : n0 ≤ a666 := Nat.le_trans z678 (Nat.le_of_eq g666.symm)
                have lt_a666 : a666 < h666.size := A666.lt
                have F679 : Fld Z h666 a666 "com/example/wirecall/wirecall/TextCursor" "text" "Ljava/lang/String;" .null := D666 (Or.inr (hw _ (List.mem_of_getElem? (i := 31) rfl))) (ty := (.object "java/lang/String")) (by decide)
                have F680 : Fld Z h666 a666 "com/example/wirecall/wirecall/TextCursor" "pos" "I" (.int (0 : Int32)) := D666 (Or.inl (hw _ (List.mem_of_getElem? (i := 38) rfl))) (ty := .int) (by decide)
                show GoW p e below s _ _ _ T666 (mkF m 120 #[.val (.int x0), .val (.int x1), .val (.int x2), .val (.int x3), .val (.int x4), .val (.int (3 : Int32)), .val (.int (2 : Int32)), .val (.int (x2 &&& (255 : Int32))), .val (.int (x3 &&& (255 : Int32))), .val (.int (x4 &&& (255 : Int32))), .val (.ref a662), .unset, .unset, .unset, .unset] [(.ref a666)])
                refine gw_st (fun _ kq => XS.dup X666.here hx rfl (hb hby at_120) rfl rfl kq) ?_
                show GoW p e below s _ _ _ T666 (mkF m 121 #[.val (.int x0), .val (.int x1), .val (.int x2), .val (.int x3), .val (.int x4), .val (.int (3 : Int32)), .val (.int (2 : Int32)), .val (.int (x2 &&& (255 : Int32))), .val (.int (x3 &&& (255 : Int32))), .val (.int (x4 &&& (255 : Int32))), .val (.ref a662), .unset, .unset, .unset, .unset] [(.ref a666), (.ref a666)])
                refine gw_newO X666 hx hZ hown (hw _ (List.mem_of_getElem? (i := 5) rfl)) (hw _ (List.mem_of_getElem? (i := 6) rfl)) (hw _ (List.mem_of_getElem? (i := 7) rfl)) e666 (hb hby at_121) rfl (by decide) (by decide) ?_
                intro T681 h681 a681 g681 X681 e681 E681 A681 D681
                have y682 : h0.size ≤ h666.size := Nat.le_trans y670 E666.1
                have c683 : a662 < h666.size := Nat.lt_of_lt_of_le c673 E666.1
                have ne684 : a662 ≠ a681 := fun q => Nat.lt_irrefl _ (Nat.lt_of_lt_of_le c683 (Nat.le_of_eq (g681.symm.trans q.symm)))
                have ne685 : a666 ≠ a681 := fun q => Nat.lt_irrefl _ (Nat.lt_of_lt_of_le lt_a666 (Nat.le_of_eq (g681.symm.trans q.symm)))
                have z686 : n0 ≤ h666.size := Nat.le_trans z678 E666.1
                have nw_a681 : n0 ≤ a681 := Nat.le_trans z686 (Nat.le_of_eq g681.symm)
                have lt_a681 : a681 < h681.size := A681.lt
                have F687 : Fld Z h681 a681 "java/lang/String" "value" "[B" .null := D681 (Or.inr (hw _ (List.mem_of_getElem? (i := 20) rfl))) (ty := (.array .byte)) (by decide)
                have F688 : Fld Z h681 a681 "java/lang/String" "coder" "B" (.int (0 : Int32)) := D681 (Or.inr (hw _ (List.mem_of_getElem? (i := 21) rfl))) (ty := .byte) (by decide)
                show GoW p e below s _ _ _ T681 (mkF m 124 #[.val (.int x0), .val (.int x1), .val (.int x2), .val (.int x3), .val (.int x4), .val (.int (3 : Int32)), .val (.int (2 : Int32)), .val (.int (x2 &&& (255 : Int32))), .val (.int (x3 &&& (255 : Int32))), .val (.int (x4 &&& (255 : Int32))), .val (.ref a662), .unset, .unset, .unset, .unset] [(.ref a681), (.ref a666), (.ref a666)])
                refine gw_st (fun _ kq => XS.dup X681.here hx rfl (hb hby at_124) rfl rfl kq) ?_
                show GoW p e below s _ _ _ T681 (mkF m 125 #[.val (.int x0), .val (.int x1), .val (.int x2), .val (.int x3), .val (.int x4), .val (.int (3 : Int32)), .val (.int (2 : Int32)), .val (.int (x2 &&& (255 : Int32))), .val (.int (x3 &&& (255 : Int32))), .val (.int (x4 &&& (255 : Int32))), .val (.ref a662), .unset, .unset, .unset, .unset] [(.ref a681), (.ref a681), (.ref a666), (.ref a666)])
                refine gw_st (fun _ kq => XS.aload X681.here hx rfl (hb hby at_125) rfl rfl kq) ?_
                show GoW p e below s _ _ _ T681 (mkF m 127 #[.val (.int x0), .val (.int x1), .val (.int x2), .val (.int x3), .val (.int x4), .val (.int (3 : Int32)), .val (.int (2 : Int32)), .val (.int (x2 &&& (255 : Int32))), .val (.int (x3 &&& (255 : Int32))), .val (.int (x4 &&& (255 : Int32))), .val (.ref a662), .unset, .unset, .unset, .unset] [(.ref a662), (.ref a681), (.ref a681), (.ref a666), (.ref a666)])
                have c690 := A665.ext E666
                have c691 := c690.ext E681
                have c692 := Old.ext O0 E662
                have c693 := Old.wr c692 W663 nw_a662
                have c694 := Old.wr c693 W664 nw_a662
                have c695 := Old.wr c694 W665 nw_a662
                have c696 := Old.ext c695 E666
                have c697 := Old.ext c696 E681
                have z698 : n0 ≤ h681.size := Nat.le_trans z686 E681.1
                refine gw_callI X681 hx hZ hml hown rfl (hw _ (List.mem_of_getElem? (i := 8) rfl)) (hw _ (List.mem_of_getElem? (i := 9) rfl)) (hw _ (List.mem_of_getElem? (i := 10) rfl)) (hw _ (List.mem_of_getElem? (i := 7) rfl)) e681 (argsL := [(.ref a662)]) (rest := [(.ref a681), (.ref a666), (.ref a666)]) (W := 3) (met_s3 l Z a0 hw a681 a662 (x2 &&& (255 : Int32)) (x3 &&& (255 : Int32)) (x4 &&& (255 : Int32)) zc h681 n0 z698 A681 F687 F688 nw_a681 c691 (Ne.symm ne684) (own_lat _) (own_lat _) (own_lat _) c697 S0 zn) (hb hby at_127) rfl rfl rfl (lenOf pd6 rfl) (by show 2 * 0 + _ ≤ _; exact Nat.le_of_eq rfl) (by decide) (by decide) (by decide) (by decide) (by decide) ?_
                intro T689 v689 L689 X689 q689
                obtain ⟨r_689, rfl, M689, K689, fz689_r, f689_0, f689_1, f689_2, f689_3⟩ := q689
                have N689 := Fr.app N665 M689
                have c699 : a662 < h681.size := Nat.lt_of_lt_of_le c683 E681.1
                have ne700 : a662 ≠ r_689 := Nat.ne_of_lt (Nat.lt_of_lt_of_le c699 fz689_r)
                have c701 : a666 < h681.size := Nat.lt_of_lt_of_le lt_a666 E681.1
                have ne702 : a666 ≠ r_689 := Nat.ne_of_lt (Nat.lt_of_lt_of_le c701 fz689_r)
                have ne703 : a681 ≠ r_689 := Nat.ne_of_lt (Nat.lt_of_lt_of_le lt_a681 fz689_r)
                have nw_r_689 : n0 ≤ r_689 := Nat.le_trans z698 fz689_r
                have y704 : h0.size ≤ h681.size := Nat.le_trans y682 E681.1
                have lt_r_689 : r_689 < T689.heap.size := f689_3.lt
                show GoW p e below s _ _ _ T689 (mkF m 130 #[.val (.int x0), .val (.int x1), .val (.int x2), .val (.int x3), .val (.int x4), .val (.int (3 : Int32)), .val (.int (2 : Int32)), .val (.int (x2 &&& (255 : Int32))), .val (.int (x3 &&& (255 : Int32))), .val (.int (x4 &&& (255 : Int32))), .val (.ref a662), .unset, .unset, .unset, .unset] [(.ref a681), (.ref a666), (.ref a666)])
                have c706 := Exa.ext E681 A666
                have c707 := Exa.keep c706 K689
                have c708 := Fld.ext E681 F679
                have c709 := Fld.keep c708 K689 (ninS ne685 nin0)
                have c710 := Fld.ext E681 F680
                have c711 := Fld.keep c710 K689 (ninS ne685 nin0)
                have z712 : n0 ≤ T689.heap.size := Nat.le_trans z698 K689.1
                refine gw_callI X689 hx hZ hml hown rfl (hw _ (List.mem_of_getElem? (i := 26) rfl)) (hw _ (List.mem_of_getElem? (i := 27) rfl)) (hw _ (List.mem_of_getElem? (i := 28) rfl)) (hw _ (List.mem_of_getElem? (i := 4) rfl)) rfl (argsL := [(.ref a681)]) (rest := [(.ref a666)]) (W := 1) (met_tci l Z a0 hw a666 a681 T689.heap n0 z712 c707 c709 c711 nw_a666) (hb hby at_130) rfl rfl rfl (lenOf pd7 rfl) (by show 2 * 0 + _ ≤ _; exact Nat.le_of_eq rfl) (by decide) (by decide) (by decide) (by decide) (by decide) ?_
                intro T705 v705 L705 X705 q705
                obtain ⟨rfl, M705, K705, f705_0, f705_1⟩ := q705
                have N705 := Fr.app N689 M705
                show GoW p e below s _ _ _ T705 (mkF m 133 #[.val (.int x0), .val (.int x1), .val (.int x2), .val (.int x3), .val (.int x4), .val (.int (3 : Int32)), .val (.int (2 : Int32)), .val (.int (x2 &&& (255 : Int32))), .val (.int (x3 &&& (255 : Int32))), .val (.int (x4 &&& (255 : Int32))), .val (.ref a662), .unset, .unset, .unset, .unset] [(.ref a666)])
                refine gw_st (fun _ kq => XS.astore X705.here hx rfl (hb hby at_133) rfl rfl (l' := #[.val (.int x0), .val (.int x1), .val (.int x2), .val (.int x3), .val (.int x4), .val (.int (3 : Int32)), .val (.int (2 : Int32)), .val (.int (x2 &&& (255 : Int32))), .val (.int (x3 &&& (255 : Int32))), .val (.int (x4 &&& (255 : Int32))), .val (.ref a662), .val (.ref a666), .unset, .unset, .unset]) rfl kq) ?_
                show GoW p e below s _ _ _ T705 (mkF m 135 #[.val (.int x0), .val (.int x1), .val (.int x2), .val (.int x3), .val (.int x4), .val (.int (3 : Int32)), .val (.int (2 : Int32)), .val (.int (x2 &&& (255 : Int32))), .val (.int (x3 &&& (255 : Int32))), .val (.int (x4 &&& (255 : Int32))), .val (.ref a662), .val (.ref a666), .unset, .unset, .unset] [])
                refine gw_st (fun _ kq => XS.aload X705.here hx rfl (hb hby at_135) rfl rfl kq) ?_
                show GoW p e below s _ _ _ T705 (mkF m 137 #[.val (.int x0), .val (.int x1), .val (.int x2), .val (.int x3), .val (.int x4), .val (.int (3 : Int32)), .val (.int (2 : Int32)), .val (.int (x2 &&& (255 : Int32))), .val (.int (x3 &&& (255 : Int32))), .val (.int (x4 &&& (255 : Int32))), .val (.ref a662), .val (.ref a666), .unset, .unset, .unset] [(.ref a666)])
                have c714 := Exa.keep f689_0 K705
                have c715 := Fld.keep f689_1 K705 (ninS (Ne.symm ne685) nin0)
                have c716 := Fld.keep f689_2 K705 (ninS (Ne.symm ne685) nin0)
                have c717 := GA.keep f689_3 K705 (ninS (Ne.symm ne702) nin0)
                have c718 := Old.keep c697 K689 (allS nw_a681 all0)
                have c719 := Old.keep c718 K705 (allS nw_a666 all0)
                have z720 : n0 ≤ T705.heap.size := Nat.le_trans z712 K705.1
                have c721 := Exa.keep c707 K705
                refine gw_callV X705 hx hZ hml hown (hw _ (List.mem_of_getElem? (i := 32) rfl)) (hw _ (List.mem_of_getElem? (i := 33) rfl)) (notFace_of_selects (args := #[]) (mvT hZ (hw _ (List.mem_of_getElem? (i := 35) rfl)))) (hw _ (List.mem_of_getElem? (i := 35) rfl)) (hw _ (List.mem_of_getElem? (i := 34) rfl)) (hw _ (List.mem_of_getElem? (i := 36) rfl)) (hw _ (List.mem_of_getElem? (i := 4) rfl)) rfl c721 (argsL := []) (rest := []) (W := 0) (met_end30 l Z a0 hw a666 a681 r_689 (fun i => .int (own_c3 (own_by (x2 &&& (255 : Int32))) (own_by (x3 &&& (255 : Int32))) (own_by (x4 &&& (255 : Int32))) i)) zc T705.heap n0 z720 f705_1 f705_0 c714 c715 c716 c717 c719 S0 zn) (hb hby at_137) rfl rfl rfl (lenOf pd8 rfl) (by show 2 * 0 + _ ≤ _; exact Nat.le_of_eq rfl) (by decide) (by decide) (by decide) (by decide) (by decide) ?_
                intro T713 v713 L713 X713 q713
                obtain ⟨rfl, M713, e713⟩ := q713
                have N713 := Fr.app N705 M713
                show GoW p e below s _ _ _ T713 (mkF m 140 #[.val (.int x0), .val (.int x1), .val (.int x2), .val (.int x3), .val (.int x4), .val (.int (3 : Int32)), .val (.int (2 : Int32)), .val (.int (x2 &&& (255 : Int32))), .val (.int (x3 &&& (255 : Int32))), .val (.int (x4 &&& (255 : Int32))), .val (.ref a662), .val (.ref a666), .unset, .unset, .unset] [(.int (0 : Int32))])
                refine gw_st (fun _ kq => XS.iload X713.here hx rfl (hb hby at_140) rfl kq) ?_
                show GoW p e below s _ _ _ T713 (mkF m 142 #[.val (.int x0), .val (.int x1), .val (.int x2), .val (.int x3), .val (.int x4), .val (.int (3 : Int32)), .val (.int (2 : Int32)), .val (.int (x2 &&& (255 : Int32))), .val (.int (x3 &&& (255 : Int32))), .val (.int (x4 &&& (255 : Int32))), .val (.ref a662), .val (.ref a666), .unset, .unset, .unset] [(.int (3 : Int32)), (.int (0 : Int32))])
                refine gw_st (fun _ kq => XS.ifYes X713.here hx rfl (pc0 := 142) (pc' := 149) rfl (hb hby at_142) rfl (XT.i0_ne_t (by decide)) (by decide) (by decide) kq) ?_
                show GoW p e below s _ _ _ T713 (mkF m 149 #[.val (.int x0), .val (.int x1), .val (.int x2), .val (.int x3), .val (.int x4), .val (.int (3 : Int32)), .val (.int (2 : Int32)), .val (.int (x2 &&& (255 : Int32))), .val (.int (x3 &&& (255 : Int32))), .val (.int (x4 &&& (255 : Int32))), .val (.ref a662), .val (.ref a666), .unset, .unset, .unset] [(.int (0 : Int32))])
                refine gw_st (fun _ kq => XT.iconstV X713.here hx rfl (0 : Int32) (hb hby at_149) (by decide) kq) ?_
                show GoW p e below s _ _ _ T713 (mkF m 150 #[.val (.int x0), .val (.int x1), .val (.int x2), .val (.int x3), .val (.int x4), .val (.int (3 : Int32)), .val (.int (2 : Int32)), .val (.int (x2 &&& (255 : Int32))), .val (.int (x3 &&& (255 : Int32))), .val (.int (x4 &&& (255 : Int32))), .val (.ref a662), .val (.ref a666), .unset, .unset, .unset] [(.int (0 : Int32)), (.int (0 : Int32))])
                refine gw_st (fun _ kq => XS.icmpNo X713.here hx rfl (hb hby at_150) rfl (XT.ii_ne_f (by decide)) kq) ?_
                show GoW p e below s _ _ _ T713 (mkF m 153 #[.val (.int x0), .val (.int x1), .val (.int x2), .val (.int x3), .val (.int x4), .val (.int (3 : Int32)), .val (.int (2 : Int32)), .val (.int (x2 &&& (255 : Int32))), .val (.int (x3 &&& (255 : Int32))), .val (.int (x4 &&& (255 : Int32))), .val (.ref a662), .val (.ref a666), .unset, .unset, .unset] [])
                refine gw_st (fun _ kq => XT.iconstV X713.here hx rfl (1 : Int32) (hb hby at_153) (by decide) kq) ?_
                show GoW p e below s _ _ _ T713 (mkF m 154 #[.val (.int x0), .val (.int x1), .val (.int x2), .val (.int x3), .val (.int x4), .val (.int (3 : Int32)), .val (.int (2 : Int32)), .val (.int (x2 &&& (255 : Int32))), .val (.int (x3 &&& (255 : Int32))), .val (.int (x4 &&& (255 : Int32))), .val (.ref a662), .val (.ref a666), .unset, .unset, .unset] [(.int (1 : Int32))])
                refine gw_st (fun _ kq => XS.goto X713.here hx rfl (pc0 := 154) (pc' := 158) rfl (hb hby at_154) (by decide) (by decide) kq) ?_
                show GoW p e below s _ _ _ T713 (mkF m 158 #[.val (.int x0), .val (.int x1), .val (.int x2), .val (.int x3), .val (.int x4), .val (.int (3 : Int32)), .val (.int (2 : Int32)), .val (.int (x2 &&& (255 : Int32))), .val (.int (x3 &&& (255 : Int32))), .val (.int (x4 &&& (255 : Int32))), .val (.ref a662), .val (.ref a666), .unset, .unset, .unset] [(.int (1 : Int32))])
                refine gw_st (fun _ kq => XS.istore X713.here hx rfl (hb hby at_158) rfl (l' := #[.val (.int x0), .val (.int x1), .val (.int x2), .val (.int x3), .val (.int x4), .val (.int (3 : Int32)), .val (.int (2 : Int32)), .val (.int (x2 &&& (255 : Int32))), .val (.int (x3 &&& (255 : Int32))), .val (.int (x4 &&& (255 : Int32))), .val (.ref a662), .val (.ref a666), .val (.int (1 : Int32)), .unset, .unset]) rfl kq) ?_
                show GoW p e below s _ _ _ T713 (mkF m 160 #[.val (.int x0), .val (.int x1), .val (.int x2), .val (.int x3), .val (.int x4), .val (.int (3 : Int32)), .val (.int (2 : Int32)), .val (.int (x2 &&& (255 : Int32))), .val (.int (x3 &&& (255 : Int32))), .val (.int (x4 &&& (255 : Int32))), .val (.ref a662), .val (.ref a666), .val (.int (1 : Int32)), .unset, .unset] [])
                refine gw_st (fun _ kq => XS.iload X713.here hx rfl (hb hby at_160) rfl kq) ?_
                show GoW p e below s _ _ _ T713 (mkF m 162 #[.val (.int x0), .val (.int x1), .val (.int x2), .val (.int x3), .val (.int x4), .val (.int (3 : Int32)), .val (.int (2 : Int32)), .val (.int (x2 &&& (255 : Int32))), .val (.int (x3 &&& (255 : Int32))), .val (.int (x4 &&& (255 : Int32))), .val (.ref a662), .val (.ref a666), .val (.int (1 : Int32)), .unset, .unset] [(.int (2 : Int32))])
                refine gw_st (fun _ kq => XT.iconstV X713.here hx rfl (1 : Int32) (hb hby at_162) (by decide) kq) ?_
                show GoW p e below s _ _ _ T713 (mkF m 163 #[.val (.int x0), .val (.int x1), .val (.int x2), .val (.int x3), .val (.int x4), .val (.int (3 : Int32)), .val (.int (2 : Int32)), .val (.int (x2 &&& (255 : Int32))), .val (.int (x3 &&& (255 : Int32))), .val (.int (x4 &&& (255 : Int32))), .val (.ref a662), .val (.ref a666), .val (.int (1 : Int32)), .unset, .unset] [(.int (1 : Int32)), (.int (2 : Int32))])
                refine gw_st (fun _ kq => XS.icmpNo X713.here hx rfl (hb hby at_163) rfl (XT.ii_lt_f (by decide)) kq) ?_
                show GoW p e below s _ _ _ T713 (mkF m 166 #[.val (.int x0), .val (.int x1), .val (.int x2), .val (.int x3), .val (.int x4), .val (.int (3 : Int32)), .val (.int (2 : Int32)), .val (.int (x2 &&& (255 : Int32))), .val (.int (x3 &&& (255 : Int32))), .val (.int (x4 &&& (255 : Int32))), .val (.ref a662), .val (.ref a666), .val (.int (1 : Int32)), .unset, .unset] [])
                refine gw_st (fun _ kq => XS.aload X713.here hx rfl (hb hby at_166) rfl rfl kq) ?_
                show GoW p e below s _ _ _ T713 (mkF m 168 #[.val (.int x0), .val (.int x1), .val (.int x2), .val (.int x3), .val (.int x4), .val (.int (3 : Int32)), .val (.int (2 : Int32)), .val (.int (x2 &&& (255 : Int32))), .val (.int (x3 &&& (255 : Int32))), .val (.int (x4 &&& (255 : Int32))), .val (.ref a662), .val (.ref a666), .val (.int (1 : Int32)), .unset, .unset] [(.ref a666)])
                refine gw_callV X713 hx hZ hml hown (hw _ (List.mem_of_getElem? (i := 65) rfl)) (hw _ (List.mem_of_getElem? (i := 66) rfl)) (notFace_of_selects (args := #[]) (mvT hZ (hw _ (List.mem_of_getElem? (i := 68) rfl)))) (hw _ (List.mem_of_getElem? (i := 68) rfl)) (hw _ (List.mem_of_getElem? (i := 67) rfl)) (hw _ (List.mem_of_getElem? (i := 69) rfl)) (hw _ (List.mem_of_getElem? (i := 4) rfl)) e713 c721 (argsL := []) (rest := []) (W := 0) (met_sk0 l Z a0 hw a666 a681 T705.heap n0 z720 c721 f705_0 f705_1 nw_a666) (hb hby at_168) rfl rfl rfl (lenOf pd9 rfl) (by show 2 * 0 + _ ≤ _; exact Nat.le_of_eq rfl) (by decide) (by decide) (by decide) (by decide) (by decide) ?_
                intro T722 v722 L722 X722 q722
                obtain ⟨rfl, M722, K722, f722_0, f722_1⟩ := q722
                have N722 := Fr.app N713 M722
                show GoW p e below s _ _ _ T722 (mkF m 171 #[.val (.int x0), .val (.int x1), .val (.int x2), .val (.int x3), .val (.int x4), .val (.int (3 : Int32)), .val (.int (2 : Int32)), .val (.int (x2 &&& (255 : Int32))), .val (.int (x3 &&& (255 : Int32))), .val (.int (x4 &&& (255 : Int32))), .val (.ref a662), .val (.ref a666), .val (.int (1 : Int32)), .unset, .unset] [])
                refine gw_st (fun _ kq => XS.iload X722.here hx rfl (hb hby at_171) rfl kq) ?_
                show GoW p e below s _ _ _ T722 (mkF m 173 #[.val (.int x0), .val (.int x1), .val (.int x2), .val (.int x3), .val (.int x4), .val (.int (3 : Int32)), .val (.int (2 : Int32)), .val (.int (x2 &&& (255 : Int32))), .val (.int (x3 &&& (255 : Int32))), .val (.int (x4 &&& (255 : Int32))), .val (.ref a662), .val (.ref a666), .val (.int (1 : Int32)), .unset, .unset] [(.int (2 : Int32))])
                refine gw_st (fun _ kq => XT.iconstV X722.here hx rfl (2 : Int32) (hb hby at_173) (by decide) kq) ?_
                show GoW p e below s _ _ _ T722 (mkF m 174 #[.val (.int x0), .val (.int x1), .val (.int x2), .val (.int x3), .val (.int x4), .val (.int (3 : Int32)), .val (.int (2 : Int32)), .val (.int (x2 &&& (255 : Int32))), .val (.int (x3 &&& (255 : Int32))), .val (.int (x4 &&& (255 : Int32))), .val (.ref a662), .val (.ref a666), .val (.int (1 : Int32)), .unset, .unset] [(.int (2 : Int32)), (.int (2 : Int32))])
                refine gw_st (fun _ kq => XS.icmpNo X722.here hx rfl (hb hby at_174) rfl (XT.ii_lt_f (by decide)) kq) ?_
                show GoW p e below s _ _ _ T722 (mkF m 177 #[.val (.int x0), .val (.int x1), .val (.int x2), .val (.int x3), .val (.int x4), .val (.int (3 : Int32)), .val (.int (2 : Int32)), .val (.int (x2 &&& (255 : Int32))), .val (.int (x3 &&& (255 : Int32))), .val (.int (x4 &&& (255 : Int32))), .val (.ref a662), .val (.ref a666), .val (.int (1 : Int32)), .unset, .unset] [])
                refine gw_st (fun _ kq => XS.aload X722.here hx rfl (hb hby at_177) rfl rfl kq) ?_
                show GoW p e below s _ _ _ T722 (mkF m 179 #[.val (.int x0), .val (.int x1), .val (.int x2), .val (.int x3), .val (.int x4), .val (.int (3 : Int32)), .val (.int (2 : Int32)), .val (.int (x2 &&& (255 : Int32))), .val (.int (x3 &&& (255 : Int32))), .val (.int (x4 &&& (255 : Int32))), .val (.ref a662), .val (.ref a666), .val (.int (1 : Int32)), .unset, .unset] [(.ref a666)])
                have c724 := Exa.keep c721 K722
                have z725 : n0 ≤ T722.heap.size := Nat.le_trans z720 K722.1
                refine gw_callV X722 hx hZ hml hown (hw _ (List.mem_of_getElem? (i := 65) rfl)) (hw _ (List.mem_of_getElem? (i := 66) rfl)) (notFace_of_selects (args := #[]) (mvT hZ (hw _ (List.mem_of_getElem? (i := 68) rfl)))) (hw _ (List.mem_of_getElem? (i := 68) rfl)) (hw _ (List.mem_of_getElem? (i := 67) rfl)) (hw _ (List.mem_of_getElem? (i := 69) rfl)) (hw _ (List.mem_of_getElem? (i := 4) rfl)) rfl c724 (argsL := []) (rest := []) (W := 0) (met_sk1 l Z a0 hw a666 a681 T722.heap n0 z725 c724 f722_0 f722_1 nw_a666) (hb hby at_179) rfl rfl rfl (lenOf pd9 rfl) (by show 2 * 0 + _ ≤ _; exact Nat.le_of_eq rfl) (by decide) (by decide) (by decide) (by decide) (by decide) ?_
                intro T723 v723 L723 X723 q723
                obtain ⟨rfl, M723, K723, f723_0, f723_1⟩ := q723
                have N723 := Fr.app N722 M723
                show GoW p e below s _ _ _ T723 (mkF m 182 #[.val (.int x0), .val (.int x1), .val (.int x2), .val (.int x3), .val (.int x4), .val (.int (3 : Int32)), .val (.int (2 : Int32)), .val (.int (x2 &&& (255 : Int32))), .val (.int (x3 &&& (255 : Int32))), .val (.int (x4 &&& (255 : Int32))), .val (.ref a662), .val (.ref a666), .val (.int (1 : Int32)), .unset, .unset] [])
                refine gw_st (fun _ kq => XS.iload X723.here hx rfl (hb hby at_182) rfl kq) ?_
                show GoW p e below s _ _ _ T723 (mkF m 184 #[.val (.int x0), .val (.int x1), .val (.int x2), .val (.int x3), .val (.int x4), .val (.int (3 : Int32)), .val (.int (2 : Int32)), .val (.int (x2 &&& (255 : Int32))), .val (.int (x3 &&& (255 : Int32))), .val (.int (x4 &&& (255 : Int32))), .val (.ref a662), .val (.ref a666), .val (.int (1 : Int32)), .unset, .unset] [(.int (2 : Int32))])
                refine gw_st (fun _ kq => XT.iconstV X723.here hx rfl (3 : Int32) (hb hby at_184) (by decide) kq) ?_
                show GoW p e below s _ _ _ T723 (mkF m 185 #[.val (.int x0), .val (.int x1), .val (.int x2), .val (.int x3), .val (.int x4), .val (.int (3 : Int32)), .val (.int (2 : Int32)), .val (.int (x2 &&& (255 : Int32))), .val (.int (x3 &&& (255 : Int32))), .val (.int (x4 &&& (255 : Int32))), .val (.ref a662), .val (.ref a666), .val (.int (1 : Int32)), .unset, .unset] [(.int (3 : Int32)), (.int (2 : Int32))])
                refine gw_st (fun _ kq => XS.icmpYes X723.here hx rfl (pc0 := 185) (pc' := 193) rfl (hb hby at_185) rfl (XT.ii_lt_t (by decide)) (by decide) (by decide) kq) ?_
                show GoW p e below s _ _ _ T723 (mkF m 193 #[.val (.int x0), .val (.int x1), .val (.int x2), .val (.int x3), .val (.int x4), .val (.int (3 : Int32)), .val (.int (2 : Int32)), .val (.int (x2 &&& (255 : Int32))), .val (.int (x3 &&& (255 : Int32))), .val (.int (x4 &&& (255 : Int32))), .val (.ref a662), .val (.ref a666), .val (.int (1 : Int32)), .unset, .unset] [])
                refine gw_st (fun _ kq => XS.aload X723.here hx rfl (hb hby at_193) rfl rfl kq) ?_
                show GoW p e below s _ _ _ T723 (mkF m 195 #[.val (.int x0), .val (.int x1), .val (.int x2), .val (.int x3), .val (.int x4), .val (.int (3 : Int32)), .val (.int (2 : Int32)), .val (.int (x2 &&& (255 : Int32))), .val (.int (x3 &&& (255 : Int32))), .val (.int (x4 &&& (255 : Int32))), .val (.ref a662), .val (.ref a666), .val (.int (1 : Int32)), .unset, .unset] [(.ref a666)])
                have c727 := Exa.keep c714 K722
                have c728 := Exa.keep c727 K723
                have c729 := Fld.keep c715 K722 (ninS (Ne.symm ne685) nin0)
                have c730 := Fld.keep c729 K723 (ninS (Ne.symm ne685) nin0)
                have c731 := Fld.keep c716 K722 (ninS (Ne.symm ne685) nin0)
                have c732 := Fld.keep c731 K723 (ninS (Ne.symm ne685) nin0)
                have c733 := GA.keep c717 K722 (ninS (Ne.symm ne702) nin0)
                have c734 := GA.keep c733 K723 (ninS (Ne.symm ne702) nin0)
                have c735 := Old.keep c719 K722 (allS nw_a666 all0)
                have c736 := Old.keep c735 K723 (allS nw_a666 all0)
                have z737 : n0 ≤ T723.heap.size := Nat.le_trans z725 K723.1
                have c738 := Exa.keep c724 K723
                refine gw_callV X723 hx hZ hml hown (hw _ (List.mem_of_getElem? (i := 32) rfl)) (hw _ (List.mem_of_getElem? (i := 33) rfl)) (notFace_of_selects (args := #[]) (mvT hZ (hw _ (List.mem_of_getElem? (i := 35) rfl)))) (hw _ (List.mem_of_getElem? (i := 35) rfl)) (hw _ (List.mem_of_getElem? (i := 34) rfl)) (hw _ (List.mem_of_getElem? (i := 36) rfl)) (hw _ (List.mem_of_getElem? (i := 4) rfl)) rfl c738 (argsL := []) (rest := []) (W := 0) (met_end32 l Z a0 hw a666 a681 r_689 (fun i => .int (own_c3 (own_by (x2 &&& (255 : Int32))) (own_by (x3 &&& (255 : Int32))) (own_by (x4 &&& (255 : Int32))) i)) zc T723.heap n0 z737 f723_1 f723_0 c728 c730 c732 c734 c736 S0 zn) (hb hby at_195) rfl rfl rfl (lenOf pd8 rfl) (by show 2 * 0 + _ ≤ _; exact Nat.le_of_eq rfl) (by decide) (by decide) (by decide) (by decide) (by decide) ?_
                intro T726 v726 L726 X726 q726
                obtain ⟨rfl, M726, e726⟩ := q726
                have N726 := Fr.app N723 M726
                show GoW p e below s _ _ _ T726 (mkF m 198 #[.val (.int x0), .val (.int x1), .val (.int x2), .val (.int x3), .val (.int x4), .val (.int (3 : Int32)), .val (.int (2 : Int32)), .val (.int (x2 &&& (255 : Int32))), .val (.int (x3 &&& (255 : Int32))), .val (.int (x4 &&& (255 : Int32))), .val (.ref a662), .val (.ref a666), .val (.int (1 : Int32)), .unset, .unset] [(.int (0 : Int32))])
                refine gw_st (fun _ kq => XS.iload X726.here hx rfl (hb hby at_198) rfl kq) ?_
                show GoW p e below s _ _ _ T726 (mkF m 200 #[.val (.int x0), .val (.int x1), .val (.int x2), .val (.int x3), .val (.int x4), .val (.int (3 : Int32)), .val (.int (2 : Int32)), .val (.int (x2 &&& (255 : Int32))), .val (.int (x3 &&& (255 : Int32))), .val (.int (x4 &&& (255 : Int32))), .val (.ref a662), .val (.ref a666), .val (.int (1 : Int32)), .unset, .unset] [(.int (2 : Int32)), (.int (0 : Int32))])
                refine gw_st (fun _ kq => XS.iload X726.here hx rfl (hb hby at_200) rfl kq) ?_
                show GoW p e below s _ _ _ T726 (mkF m 202 #[.val (.int x0), .val (.int x1), .val (.int x2), .val (.int x3), .val (.int x4), .val (.int (3 : Int32)), .val (.int (2 : Int32)), .val (.int (x2 &&& (255 : Int32))), .val (.int (x3 &&& (255 : Int32))), .val (.int (x4 &&& (255 : Int32))), .val (.ref a662), .val (.ref a666), .val (.int (1 : Int32)), .unset, .unset] [(.int (3 : Int32)), (.int (2 : Int32)), (.int (0 : Int32))])
                refine gw_st (fun _ kq => XS.icmpYes X726.here hx rfl (pc0 := 202) (pc' := 209) rfl (hb hby at_202) rfl (XT.ii_ne_t (by decide)) (by decide) (by decide) kq) ?_
                show GoW p e below s _ _ _ T726 (mkF m 209 #[.val (.int x0), .val (.int x1), .val (.int x2), .val (.int x3), .val (.int x4), .val (.int (3 : Int32)), .val (.int (2 : Int32)), .val (.int (x2 &&& (255 : Int32))), .val (.int (x3 &&& (255 : Int32))), .val (.int (x4 &&& (255 : Int32))), .val (.ref a662), .val (.ref a666), .val (.int (1 : Int32)), .unset, .unset] [(.int (0 : Int32))])
                refine gw_st (fun _ kq => XT.iconstV X726.here hx rfl (0 : Int32) (hb hby at_209) (by decide) kq) ?_
                show GoW p e below s _ _ _ T726 (mkF m 210 #[.val (.int x0), .val (.int x1), .val (.int x2), .val (.int x3), .val (.int x4), .val (.int (3 : Int32)), .val (.int (2 : Int32)), .val (.int (x2 &&& (255 : Int32))), .val (.int (x3 &&& (255 : Int32))), .val (.int (x4 &&& (255 : Int32))), .val (.ref a662), .val (.ref a666), .val (.int (1 : Int32)), .unset, .unset] [(.int (0 : Int32)), (.int (0 : Int32))])
                refine gw_st (fun _ kq => XS.icmpNo X726.here hx rfl (hb hby at_210) rfl (XT.ii_ne_f (by decide)) kq) ?_
                show GoW p e below s _ _ _ T726 (mkF m 213 #[.val (.int x0), .val (.int x1), .val (.int x2), .val (.int x3), .val (.int x4), .val (.int (3 : Int32)), .val (.int (2 : Int32)), .val (.int (x2 &&& (255 : Int32))), .val (.int (x3 &&& (255 : Int32))), .val (.int (x4 &&& (255 : Int32))), .val (.ref a662), .val (.ref a666), .val (.int (1 : Int32)), .unset, .unset] [])
                refine gw_st (fun _ kq => XT.iconstV X726.here hx rfl (1 : Int32) (hb hby at_213) (by decide) kq) ?_
                show GoW p e below s _ _ _ T726 (mkF m 214 #[.val (.int x0), .val (.int x1), .val (.int x2), .val (.int x3), .val (.int x4), .val (.int (3 : Int32)), .val (.int (2 : Int32)), .val (.int (x2 &&& (255 : Int32))), .val (.int (x3 &&& (255 : Int32))), .val (.int (x4 &&& (255 : Int32))), .val (.ref a662), .val (.ref a666), .val (.int (1 : Int32)), .unset, .unset] [(.int (1 : Int32))])
                refine gw_st (fun _ kq => XS.goto X726.here hx rfl (pc0 := 214) (pc' := 218) rfl (hb hby at_214) (by decide) (by decide) kq) ?_
                show GoW p e below s _ _ _ T726 (mkF m 218 #[.val (.int x0), .val (.int x1), .val (.int x2), .val (.int x3), .val (.int x4), .val (.int (3 : Int32)), .val (.int (2 : Int32)), .val (.int (x2 &&& (255 : Int32))), .val (.int (x3 &&& (255 : Int32))), .val (.int (x4 &&& (255 : Int32))), .val (.ref a662), .val (.ref a666), .val (.int (1 : Int32)), .unset, .unset] [(.int (1 : Int32))])
                refine gw_st (fun _ kq => XS.istore X726.here hx rfl (hb hby at_218) rfl (l' := #[.val (.int x0), .val (.int x1), .val (.int x2), .val (.int x3), .val (.int x4), .val (.int (3 : Int32)), .val (.int (2 : Int32)), .val (.int (x2 &&& (255 : Int32))), .val (.int (x3 &&& (255 : Int32))), .val (.int (x4 &&& (255 : Int32))), .val (.ref a662), .val (.ref a666), .val (.int (1 : Int32)), .val (.int (1 : Int32)), .unset]) rfl kq) ?_
                show GoW p e below s _ _ _ T726 (mkF m 220 #[.val (.int x0), .val (.int x1), .val (.int x2), .val (.int x3), .val (.int x4), .val (.int (3 : Int32)), .val (.int (2 : Int32)), .val (.int (x2 &&& (255 : Int32))), .val (.int (x3 &&& (255 : Int32))), .val (.int (x4 &&& (255 : Int32))), .val (.ref a662), .val (.ref a666), .val (.int (1 : Int32)), .val (.int (1 : Int32)), .unset] [])
                refine gw_st (fun _ kq => XS.aload X726.here hx rfl (hb hby at_220) rfl rfl kq) ?_
                show GoW p e below s _ _ _ T726 (mkF m 222 #[.val (.int x0), .val (.int x1), .val (.int x2), .val (.int x3), .val (.int x4), .val (.int (3 : Int32)), .val (.int (2 : Int32)), .val (.int (x2 &&& (255 : Int32))), .val (.int (x3 &&& (255 : Int32))), .val (.int (x4 &&& (255 : Int32))), .val (.ref a662), .val (.ref a666), .val (.int (1 : Int32)), .val (.int (1 : Int32)), .unset] [(.ref a666)])
                refine gw_callV X726 hx hZ hml hown (hw _ (List.mem_of_getElem? (i := 50) rfl)) (hw _ (List.mem_of_getElem? (i := 51) rfl)) (notFace_of_selects (args := #[]) (mvT hZ (hw _ (List.mem_of_getElem? (i := 53) rfl)))) (hw _ (List.mem_of_getElem? (i := 53) rfl)) (hw _ (List.mem_of_getElem? (i := 52) rfl)) (hw _ (List.mem_of_getElem? (i := 54) rfl)) (hw _ (List.mem_of_getElem? (i := 4) rfl)) e726 c738 (argsL := []) (rest := []) (W := 0) (met_8 l Z a0 hw a666 (2 : Int32) T723.heap n0 z737 f723_1) (hb hby at_222) rfl rfl rfl (lenOf pd5 rfl) (by show 2 * 0 + _ ≤ _; exact Nat.le_of_eq rfl) (by decide) (by decide) (by decide) (by decide) (by decide) ?_
                intro T739 v739 L739 X739 q739
                obtain ⟨rfl, M739, e739⟩ := q739
                have N739 := Fr.app N726 M739
                show GoW p e below s _ _ _ T739 (mkF m 225 #[.val (.int x0), .val (.int x1), .val (.int x2), .val (.int x3), .val (.int x4), .val (.int (3 : Int32)), .val (.int (2 : Int32)), .val (.int (x2 &&& (255 : Int32))), .val (.int (x3 &&& (255 : Int32))), .val (.int (x4 &&& (255 : Int32))), .val (.ref a662), .val (.ref a666), .val (.int (1 : Int32)), .val (.int (1 : Int32)), .unset] [(.int (2 : Int32))])
                refine gw_st (fun _ kq => XS.iload X739.here hx rfl (hb hby at_225) rfl kq) ?_
                show GoW p e below s _ _ _ T739 (mkF m 227 #[.val (.int x0), .val (.int x1), .val (.int x2), .val (.int x3), .val (.int x4), .val (.int (3 : Int32)), .val (.int (2 : Int32)), .val (.int (x2 &&& (255 : Int32))), .val (.int (x3 &&& (255 : Int32))), .val (.int (x4 &&& (255 : Int32))), .val (.ref a662), .val (.ref a666), .val (.int (1 : Int32)), .val (.int (1 : Int32)), .unset] [(.int (2 : Int32)), (.int (2 : Int32))])
                refine gw_st (fun _ kq => XS.icmpNo X739.here hx rfl (hb hby at_227) rfl (XT.ii_ne_f (by decide)) kq) ?_
                show GoW p e below s _ _ _ T739 (mkF m 230 #[.val (.int x0), .val (.int x1), .val (.int x2), .val (.int x3), .val (.int x4), .val (.int (3 : Int32)), .val (.int (2 : Int32)), .val (.int (x2 &&& (255 : Int32))), .val (.int (x3 &&& (255 : Int32))), .val (.int (x4 &&& (255 : Int32))), .val (.ref a662), .val (.ref a666), .val (.int (1 : Int32)), .val (.int (1 : Int32)), .unset] [])
                refine gw_st (fun _ kq => XT.iconstV X739.here hx rfl (1 : Int32) (hb hby at_230) (by decide) kq) ?_
                show GoW p e below s _ _ _ T739 (mkF m 231 #[.val (.int x0), .val (.int x1), .val (.int x2), .val (.int x3), .val (.int x4), .val (.int (3 : Int32)), .val (.int (2 : Int32)), .val (.int (x2 &&& (255 : Int32))), .val (.int (x3 &&& (255 : Int32))), .val (.int (x4 &&& (255 : Int32))), .val (.ref a662), .val (.ref a666), .val (.int (1 : Int32)), .val (.int (1 : Int32)), .unset] [(.int (1 : Int32))])
                refine gw_st (fun _ kq => XS.goto X739.here hx rfl (pc0 := 231) (pc' := 235) rfl (hb hby at_231) (by decide) (by decide) kq) ?_
                show GoW p e below s _ _ _ T739 (mkF m 235 #[.val (.int x0), .val (.int x1), .val (.int x2), .val (.int x3), .val (.int x4), .val (.int (3 : Int32)), .val (.int (2 : Int32)), .val (.int (x2 &&& (255 : Int32))), .val (.int (x3 &&& (255 : Int32))), .val (.int (x4 &&& (255 : Int32))), .val (.ref a662), .val (.ref a666), .val (.int (1 : Int32)), .val (.int (1 : Int32)), .unset] [(.int (1 : Int32))])
                refine gw_st (fun _ kq => XS.istore X739.here hx rfl (hb hby at_235) rfl (l' := #[.val (.int x0), .val (.int x1), .val (.int x2), .val (.int x3), .val (.int x4), .val (.int (3 : Int32)), .val (.int (2 : Int32)), .val (.int (x2 &&& (255 : Int32))), .val (.int (x3 &&& (255 : Int32))), .val (.int (x4 &&& (255 : Int32))), .val (.ref a662), .val (.ref a666), .val (.int (1 : Int32)), .val (.int (1 : Int32)), .val (.int (1 : Int32))]) rfl kq) ?_
                show GoW p e below s _ _ _ T739 (mkF m 237 #[.val (.int x0), .val (.int x1), .val (.int x2), .val (.int x3), .val (.int x4), .val (.int (3 : Int32)), .val (.int (2 : Int32)), .val (.int (x2 &&& (255 : Int32))), .val (.int (x3 &&& (255 : Int32))), .val (.int (x4 &&& (255 : Int32))), .val (.ref a662), .val (.ref a666), .val (.int (1 : Int32)), .val (.int (1 : Int32)), .val (.int (1 : Int32))] [])
                refine gw_st (fun _ kq => XS.iload X739.here hx rfl (hb hby at_237) rfl kq) ?_
                show GoW p e below s _ _ _ T739 (mkF m 239 #[.val (.int x0), .val (.int x1), .val (.int x2), .val (.int x3), .val (.int x4), .val (.int (3 : Int32)), .val (.int (2 : Int32)), .val (.int (x2 &&& (255 : Int32))), .val (.int (x3 &&& (255 : Int32))), .val (.int (x4 &&& (255 : Int32))), .val (.ref a662), .val (.ref a666), .val (.int (1 : Int32)), .val (.int (1 : Int32)), .val (.int (1 : Int32))] [(.int (1 : Int32))])
                refine gw_st (fun _ kq => XS.ifNo X739.here hx rfl (hb hby at_239) rfl (XT.i0_eq_f (by decide)) kq) ?_
                show GoW p e below s _ _ _ T739 (mkF m 242 #[.val (.int x0), .val (.int x1), .val (.int x2), .val (.int x3), .val (.int x4), .val (.int (3 : Int32)), .val (.int (2 : Int32)), .val (.int (x2 &&& (255 : Int32))), .val (.int (x3 &&& (255 : Int32))), .val (.int (x4 &&& (255 : Int32))), .val (.ref a662), .val (.ref a666), .val (.int (1 : Int32)), .val (.int (1 : Int32)), .val (.int (1 : Int32))] [])
                refine gw_st (fun _ kq => XS.iload X739.here hx rfl (hb hby at_242) rfl kq) ?_
                show GoW p e below s _ _ _ T739 (mkF m 244 #[.val (.int x0), .val (.int x1), .val (.int x2), .val (.int x3), .val (.int x4), .val (.int (3 : Int32)), .val (.int (2 : Int32)), .val (.int (x2 &&& (255 : Int32))), .val (.int (x3 &&& (255 : Int32))), .val (.int (x4 &&& (255 : Int32))), .val (.ref a662), .val (.ref a666), .val (.int (1 : Int32)), .val (.int (1 : Int32)), .val (.int (1 : Int32))] [(.int (1 : Int32))])
                refine gw_st (fun _ kq => XS.ifNo X739.here hx rfl (hb hby at_244) rfl (XT.i0_eq_f (by decide)) kq) ?_
                show GoW p e below s _ _ _ T739 (mkF m 247 #[.val (.int x0), .val (.int x1), .val (.int x2), .val (.int x3), .val (.int x4), .val (.int (3 : Int32)), .val (.int (2 : Int32)), .val (.int (x2 &&& (255 : Int32))), .val (.int (x3 &&& (255 : Int32))), .val (.int (x4 &&& (255 : Int32))), .val (.ref a662), .val (.ref a666), .val (.int (1 : Int32)), .val (.int (1 : Int32)), .val (.int (1 : Int32))] [])
                refine gw_st (fun _ kq => XS.iload X739.here hx rfl (hb hby at_247) rfl kq) ?_
                show GoW p e below s _ _ _ T739 (mkF m 249 #[.val (.int x0), .val (.int x1), .val (.int x2), .val (.int x3), .val (.int x4), .val (.int (3 : Int32)), .val (.int (2 : Int32)), .val (.int (x2 &&& (255 : Int32))), .val (.int (x3 &&& (255 : Int32))), .val (.int (x4 &&& (255 : Int32))), .val (.ref a662), .val (.ref a666), .val (.int (1 : Int32)), .val (.int (1 : Int32)), .val (.int (1 : Int32))] [(.int (1 : Int32))])
                refine gw_st (fun _ kq => XS.ifNo X739.here hx rfl (hb hby at_249) rfl (XT.i0_eq_f (by decide)) kq) ?_
                show GoW p e below s _ _ _ T739 (mkF m 252 #[.val (.int x0), .val (.int x1), .val (.int x2), .val (.int x3), .val (.int x4), .val (.int (3 : Int32)), .val (.int (2 : Int32)), .val (.int (x2 &&& (255 : Int32))), .val (.int (x3 &&& (255 : Int32))), .val (.int (x4 &&& (255 : Int32))), .val (.ref a662), .val (.ref a666), .val (.int (1 : Int32)), .val (.int (1 : Int32)), .val (.int (1 : Int32))] [])
                refine gw_st (fun _ kq => XT.iconstV X739.here hx rfl (1 : Int32) (hb hby at_252) (by decide) kq) ?_
                show GoW p e below s _ _ _ T739 (mkF m 253 #[.val (.int x0), .val (.int x1), .val (.int x2), .val (.int x3), .val (.int x4), .val (.int (3 : Int32)), .val (.int (2 : Int32)), .val (.int (x2 &&& (255 : Int32))), .val (.int (x3 &&& (255 : Int32))), .val (.int (x4 &&& (255 : Int32))), .val (.ref a662), .val (.ref a666), .val (.int (1 : Int32)), .val (.int (1 : Int32)), .val (.int (1 : Int32))] [(.int (1 : Int32))])
                refine gw_st (fun _ kq => XS.goto X739.here hx rfl (pc0 := 253) (pc' := 257) rfl (hb hby at_253) (by decide) (by decide) kq) ?_
                show GoW p e below s _ _ _ T739 (mkF m 257 #[.val (.int x0), .val (.int x1), .val (.int x2), .val (.int x3), .val (.int x4), .val (.int (3 : Int32)), .val (.int (2 : Int32)), .val (.int (x2 &&& (255 : Int32))), .val (.int (x3 &&& (255 : Int32))), .val (.int (x4 &&& (255 : Int32))), .val (.ref a662), .val (.ref a666), .val (.int (1 : Int32)), .val (.int (1 : Int32)), .val (.int (1 : Int32))] [(.int (1 : Int32))])
                exact gw_retB (w := (1 : Int32)) X739 hx hlk hret (hb hby at_257) (by decide) (by decide) (by decide) ⟨rfl, N739⟩
              · by_cases hk740 : ((x1 &&& (2147483647 : Int32)) % (4 : Int32)) = (3 : Int32)
                · rw [hk740]
                  show GoW p e below s _ _ _ s₁ (mkF m 16 #[.val (.int x0), .val (.int x1), .val (.int x2), .val (.int x3), .val (.int x4), .val (.int (3 : Int32)), .val (.int (3 : Int32)), .unset, .unset, .unset, .unset, .unset, .unset, .unset, .unset] [])
                  refine gw_st (fun _ kq => XS.iloadN X0.here hx rfl (hb hby at_16) rfl kq) ?_
                  show GoW p e below s _ _ _ s₁ (mkF m 17 #[.val (.int x0), .val (.int x1), .val (.int x2), .val (.int x3), .val (.int x4), .val (.int (3 : Int32)), .val (.int (3 : Int32)), .unset, .unset, .unset, .unset, .unset, .unset, .unset, .unset] [(.int x2)])
                  refine gw_st (fun _ kq => XT.sipushV X0.here hx rfl (255 : Int32) (hb hby at_17) (by decide) kq) ?_
                  show GoW p e below s _ _ _ s₁ (mkF m 20 #[.val (.int x0), .val (.int x1), .val (.int x2), .val (.int x3), .val (.int x4), .val (.int (3 : Int32)), .val (.int (3 : Int32)), .unset, .unset, .unset, .unset, .unset, .unset, .unset, .unset] [(.int (255 : Int32)), (.int x2)])
                  refine gw_st (fun _ kq => XS.iand X0.here hx rfl (hb hby at_20) rfl kq) ?_
                  show GoW p e below s _ _ _ s₁ (mkF m 21 #[.val (.int x0), .val (.int x1), .val (.int x2), .val (.int x3), .val (.int x4), .val (.int (3 : Int32)), .val (.int (3 : Int32)), .unset, .unset, .unset, .unset, .unset, .unset, .unset, .unset] [(.int (x2 &&& (255 : Int32)))])
                  refine gw_st (fun _ kq => XT.i2c X0.here hx rfl (hb hby at_21) rfl kq) ?_
                  rw [own_i2c]
                  show GoW p e below s _ _ _ s₁ (mkF m 22 #[.val (.int x0), .val (.int x1), .val (.int x2), .val (.int x3), .val (.int x4), .val (.int (3 : Int32)), .val (.int (3 : Int32)), .unset, .unset, .unset, .unset, .unset, .unset, .unset, .unset] [(.int (x2 &&& (255 : Int32)))])
                  refine gw_st (fun _ kq => XS.istore X0.here hx rfl (hb hby at_22) rfl (l' := #[.val (.int x0), .val (.int x1), .val (.int x2), .val (.int x3), .val (.int x4), .val (.int (3 : Int32)), .val (.int (3 : Int32)), .val (.int (x2 &&& (255 : Int32))), .unset, .unset, .unset, .unset, .unset, .unset, .unset]) rfl kq) ?_
                  show GoW p e below s _ _ _ s₁ (mkF m 24 #[.val (.int x0), .val (.int x1), .val (.int x2), .val (.int x3), .val (.int x4), .val (.int (3 : Int32)), .val (.int (3 : Int32)), .val (.int (x2 &&& (255 : Int32))), .unset, .unset, .unset, .unset, .unset, .unset, .unset] [])
                  refine gw_st (fun _ kq => XS.iloadN X0.here hx rfl (hb hby at_24) rfl kq) ?_
                  show GoW p e below s _ _ _ s₁ (mkF m 25 #[.val (.int x0), .val (.int x1), .val (.int x2), .val (.int x3), .val (.int x4), .val (.int (3 : Int32)), .val (.int (3 : Int32)), .val (.int (x2 &&& (255 : Int32))), .unset, .unset, .unset, .unset, .unset, .unset, .unset] [(.int x3)])
                  refine gw_st (fun _ kq => XT.sipushV X0.here hx rfl (255 : Int32) (hb hby at_25) (by decide) kq) ?_
                  show GoW p e below s _ _ _ s₁ (mkF m 28 #[.val (.int x0), .val (.int x1), .val (.int x2), .val (.int x3), .val (.int x4), .val (.int (3 : Int32)), .val (.int (3 : Int32)), .val (.int (x2 &&& (255 : Int32))), .unset, .unset, .unset, .unset, .unset, .unset, .unset] [(.int (255 : Int32)), (.int x3)])
                  refine gw_st (fun _ kq => XS.iand X0.here hx rfl (hb hby at_28) rfl kq) ?_
                  show GoW p e below s _ _ _ s₁ (mkF m 29 #[.val (.int x0), .val (.int x1), .val (.int x2), .val (.int x3), .val (.int x4), .val (.int (3 : Int32)), .val (.int (3 : Int32)), .val (.int (x2 &&& (255 : Int32))), .unset, .unset, .unset, .unset, .unset, .unset, .unset] [(.int (x3 &&& (255 : Int32)))])
                  refine gw_st (fun _ kq => XT.i2c X0.here hx rfl (hb hby at_29) rfl kq) ?_
                  rw [own_i2c]
                  show GoW p e below s _ _ _ s₁ (mkF m 30 #[.val (.int x0), .val (.int x1), .val (.int x2), .val (.int x3), .val (.int x4), .val (.int (3 : Int32)), .val (.int (3 : Int32)), .val (.int (x2 &&& (255 : Int32))), .unset, .unset, .unset, .unset, .unset, .unset, .unset] [(.int (x3 &&& (255 : Int32)))])
                  refine gw_st (fun _ kq => XS.istore X0.here hx rfl (hb hby at_30) rfl (l' := #[.val (.int x0), .val (.int x1), .val (.int x2), .val (.int x3), .val (.int x4), .val (.int (3 : Int32)), .val (.int (3 : Int32)), .val (.int (x2 &&& (255 : Int32))), .val (.int (x3 &&& (255 : Int32))), .unset, .unset, .unset, .unset, .unset, .unset]) rfl kq) ?_
                  show GoW p e below s _ _ _ s₁ (mkF m 32 #[.val (.int x0), .val (.int x1), .val (.int x2), .val (.int x3), .val (.int x4), .val (.int (3 : Int32)), .val (.int (3 : Int32)), .val (.int (x2 &&& (255 : Int32))), .val (.int (x3 &&& (255 : Int32))), .unset, .unset, .unset, .unset, .unset, .unset] [])
                  refine gw_st (fun _ kq => XS.iload X0.here hx rfl (hb hby at_32) rfl kq) ?_
                  show GoW p e below s _ _ _ s₁ (mkF m 34 #[.val (.int x0), .val (.int x1), .val (.int x2), .val (.int x3), .val (.int x4), .val (.int (3 : Int32)), .val (.int (3 : Int32)), .val (.int (x2 &&& (255 : Int32))), .val (.int (x3 &&& (255 : Int32))), .unset, .unset, .unset, .unset, .unset, .unset] [(.int x4)])
                  refine gw_st (fun _ kq => XT.sipushV X0.here hx rfl (255 : Int32) (hb hby at_34) (by decide) kq) ?_
                  show GoW p e below s _ _ _ s₁ (mkF m 37 #[.val (.int x0), .val (.int x1), .val (.int x2), .val (.int x3), .val (.int x4), .val (.int (3 : Int32)), .val (.int (3 : Int32)), .val (.int (x2 &&& (255 : Int32))), .val (.int (x3 &&& (255 : Int32))), .unset, .unset, .unset, .unset, .unset, .unset] [(.int (255 : Int32)), (.int x4)])
                  refine gw_st (fun _ kq => XS.iand X0.here hx rfl (hb hby at_37) rfl kq) ?_
                  show GoW p e below s _ _ _ s₁ (mkF m 38 #[.val (.int x0), .val (.int x1), .val (.int x2), .val (.int x3), .val (.int x4), .val (.int (3 : Int32)), .val (.int (3 : Int32)), .val (.int (x2 &&& (255 : Int32))), .val (.int (x3 &&& (255 : Int32))), .unset, .unset, .unset, .unset, .unset, .unset] [(.int (x4 &&& (255 : Int32)))])
                  refine gw_st (fun _ kq => XT.i2c X0.here hx rfl (hb hby at_38) rfl kq) ?_
                  rw [own_i2c]
                  show GoW p e below s _ _ _ s₁ (mkF m 39 #[.val (.int x0), .val (.int x1), .val (.int x2), .val (.int x3), .val (.int x4), .val (.int (3 : Int32)), .val (.int (3 : Int32)), .val (.int (x2 &&& (255 : Int32))), .val (.int (x3 &&& (255 : Int32))), .unset, .unset, .unset, .unset, .unset, .unset] [(.int (x4 &&& (255 : Int32)))])
                  refine gw_st (fun _ kq => XS.istore X0.here hx rfl (hb hby at_39) rfl (l' := #[.val (.int x0), .val (.int x1), .val (.int x2), .val (.int x3), .val (.int x4), .val (.int (3 : Int32)), .val (.int (3 : Int32)), .val (.int (x2 &&& (255 : Int32))), .val (.int (x3 &&& (255 : Int32))), .val (.int (x4 &&& (255 : Int32))), .unset, .unset, .unset, .unset, .unset]) rfl kq) ?_
                  show GoW p e below s _ _ _ s₁ (mkF m 41 #[.val (.int x0), .val (.int x1), .val (.int x2), .val (.int x3), .val (.int x4), .val (.int (3 : Int32)), .val (.int (3 : Int32)), .val (.int (x2 &&& (255 : Int32))), .val (.int (x3 &&& (255 : Int32))), .val (.int (x4 &&& (255 : Int32))), .unset, .unset, .unset, .unset, .unset] [])
                  refine gw_st (fun _ kq => XS.iload X0.here hx rfl (hb hby at_41) rfl kq) ?_
                  show GoW p e below s _ _ _ s₁ (mkF m 43 #[.val (.int x0), .val (.int x1), .val (.int x2), .val (.int x3), .val (.int x4), .val (.int (3 : Int32)), .val (.int (3 : Int32)), .val (.int (x2 &&& (255 : Int32))), .val (.int (x3 &&& (255 : Int32))), .val (.int (x4 &&& (255 : Int32))), .unset, .unset, .unset, .unset, .unset] [(.int (3 : Int32))])
                  refine gw_st (fun _ kq => XS.ifYes X0.here hx rfl (pc0 := 43) (pc' := 54) rfl (hb hby at_43) rfl (XT.i0_ne_t (by decide)) (by decide) (by decide) kq) ?_
                  show GoW p e below s _ _ _ s₁ (mkF m 54 #[.val (.int x0), .val (.int x1), .val (.int x2), .val (.int x3), .val (.int x4), .val (.int (3 : Int32)), .val (.int (3 : Int32)), .val (.int (x2 &&& (255 : Int32))), .val (.int (x3 &&& (255 : Int32))), .val (.int (x4 &&& (255 : Int32))), .unset, .unset, .unset, .unset, .unset] [])
                  refine gw_st (fun _ kq => XS.iload X0.here hx rfl (hb hby at_54) rfl kq) ?_
                  show GoW p e below s _ _ _ s₁ (mkF m 56 #[.val (.int x0), .val (.int x1), .val (.int x2), .val (.int x3), .val (.int x4), .val (.int (3 : Int32)), .val (.int (3 : Int32)), .val (.int (x2 &&& (255 : Int32))), .val (.int (x3 &&& (255 : Int32))), .val (.int (x4 &&& (255 : Int32))), .unset, .unset, .unset, .unset, .unset] [(.int (3 : Int32))])
                  refine gw_st (fun _ kq => XT.iconstV X0.here hx rfl (1 : Int32) (hb hby at_56) (by decide) kq) ?_
                  show GoW p e below s _ _ _ s₁ (mkF m 57 #[.val (.int x0), .val (.int x1), .val (.int x2), .val (.int x3), .val (.int x4), .val (.int (3 : Int32)), .val (.int (3 : Int32)), .val (.int (x2 &&& (255 : Int32))), .val (.int (x3 &&& (255 : Int32))), .val (.int (x4 &&& (255 : Int32))), .unset, .unset, .unset, .unset, .unset] [(.int (1 : Int32)), (.int (3 : Int32))])
                  refine gw_st (fun _ kq => XS.icmpYes X0.here hx rfl (pc0 := 57) (pc' := 73) rfl (hb hby at_57) rfl (XT.ii_ne_t (by decide)) (by decide) (by decide) kq) ?_
                  show GoW p e below s _ _ _ s₁ (mkF m 73 #[.val (.int x0), .val (.int x1), .val (.int x2), .val (.int x3), .val (.int x4), .val (.int (3 : Int32)), .val (.int (3 : Int32)), .val (.int (x2 &&& (255 : Int32))), .val (.int (x3 &&& (255 : Int32))), .val (.int (x4 &&& (255 : Int32))), .unset, .unset, .unset, .unset, .unset] [])
                  refine gw_st (fun _ kq => XS.iload X0.here hx rfl (hb hby at_73) rfl kq) ?_
                  show GoW p e below s _ _ _ s₁ (mkF m 75 #[.val (.int x0), .val (.int x1), .val (.int x2), .val (.int x3), .val (.int x4), .val (.int (3 : Int32)), .val (.int (3 : Int32)), .val (.int (x2 &&& (255 : Int32))), .val (.int (x3 &&& (255 : Int32))), .val (.int (x4 &&& (255 : Int32))), .unset, .unset, .unset, .unset, .unset] [(.int (3 : Int32))])
                  refine gw_st (fun _ kq => XT.iconstV X0.here hx rfl (2 : Int32) (hb hby at_75) (by decide) kq) ?_
                  show GoW p e below s _ _ _ s₁ (mkF m 76 #[.val (.int x0), .val (.int x1), .val (.int x2), .val (.int x3), .val (.int x4), .val (.int (3 : Int32)), .val (.int (3 : Int32)), .val (.int (x2 &&& (255 : Int32))), .val (.int (x3 &&& (255 : Int32))), .val (.int (x4 &&& (255 : Int32))), .unset, .unset, .unset, .unset, .unset] [(.int (2 : Int32)), (.int (3 : Int32))])
                  refine gw_st (fun _ kq => XS.icmpYes X0.here hx rfl (pc0 := 76) (pc' := 97) rfl (hb hby at_76) rfl (XT.ii_ne_t (by decide)) (by decide) (by decide) kq) ?_
                  show GoW p e below s _ _ _ s₁ (mkF m 97 #[.val (.int x0), .val (.int x1), .val (.int x2), .val (.int x3), .val (.int x4), .val (.int (3 : Int32)), .val (.int (3 : Int32)), .val (.int (x2 &&& (255 : Int32))), .val (.int (x3 &&& (255 : Int32))), .val (.int (x4 &&& (255 : Int32))), .unset, .unset, .unset, .unset, .unset] [])
                  refine gw_st (fun _ kq => XT.iconstV X0.here hx rfl (3 : Int32) (hb hby at_97) (by decide) kq) ?_
                  show GoW p e below s _ _ _ s₁ (mkF m 98 #[.val (.int x0), .val (.int x1), .val (.int x2), .val (.int x3), .val (.int x4), .val (.int (3 : Int32)), .val (.int (3 : Int32)), .val (.int (x2 &&& (255 : Int32))), .val (.int (x3 &&& (255 : Int32))), .val (.int (x4 &&& (255 : Int32))), .unset, .unset, .unset, .unset, .unset] [(.int (3 : Int32))])
                  refine gw_newP X0 hx hZ (hw _ (List.mem_of_getElem? (i := 1) rfl)) e0 (hb hby at_98) rfl rfl 3 (by decide) 3 (Nat.le_refl _) (by decide) (by decide) (by decide) ?_
                  intro T741 h741 a741 g741 X741 e741 E741 G741
                  have nw_a741 : n0 ≤ a741 := Nat.le_trans Z0 (Nat.le_of_eq g741.symm)
                  have lt_a741 : a741 < h741.size := G741.lt
                  have A741 : GA Z h741 a741 .char 3 (fun i => .int (own_c3 (0 : Int32) (0 : Int32) (0 : Int32) i)) := (GA.congr G741 (fun i _ => own_z3 i))
                  show GoW p e below s _ _ _ T741 (mkF m 100 #[.val (.int x0), .val (.int x1), .val (.int x2), .val (.int x3), .val (.int x4), .val (.int (3 : Int32)), .val (.int (3 : Int32)), .val (.int (x2 &&& (255 : Int32))), .val (.int (x3 &&& (255 : Int32))), .val (.int (x4 &&& (255 : Int32))), .unset, .unset, .unset, .unset, .unset] [(.ref a741)])
                  refine gw_st (fun _ kq => XS.dup X741.here hx rfl (hb hby at_100) rfl rfl kq) ?_
                  show GoW p e below s _ _ _ T741 (mkF m 101 #[.val (.int x0), .val (.int x1), .val (.int x2), .val (.int x3), .val (.int x4), .val (.int (3 : Int32)), .val (.int (3 : Int32)), .val (.int (x2 &&& (255 : Int32))), .val (.int (x3 &&& (255 : Int32))), .val (.int (x4 &&& (255 : Int32))), .unset, .unset, .unset, .unset, .unset] [(.ref a741), (.ref a741)])
                  refine gw_st (fun _ kq => XT.iconstV X741.here hx rfl (0 : Int32) (hb hby at_101) (by decide) kq) ?_
                  show GoW p e below s _ _ _ T741 (mkF m 102 #[.val (.int x0), .val (.int x1), .val (.int x2), .val (.int x3), .val (.int x4), .val (.int (3 : Int32)), .val (.int (3 : Int32)), .val (.int (x2 &&& (255 : Int32))), .val (.int (x3 &&& (255 : Int32))), .val (.int (x4 &&& (255 : Int32))), .unset, .unset, .unset, .unset, .unset] [(.int (0 : Int32)), (.ref a741), (.ref a741)])
                  refine gw_st (fun _ kq => XS.iload X741.here hx rfl (hb hby at_102) rfl kq) ?_
                  show GoW p e below s _ _ _ T741 (mkF m 104 #[.val (.int x0), .val (.int x1), .val (.int x2), .val (.int x3), .val (.int x4), .val (.int (3 : Int32)), .val (.int (3 : Int32)), .val (.int (x2 &&& (255 : Int32))), .val (.int (x3 &&& (255 : Int32))), .val (.int (x4 &&& (255 : Int32))), .unset, .unset, .unset, .unset, .unset] [(.int (x2 &&& (255 : Int32))), (.int (0 : Int32)), (.ref a741), (.ref a741)])
                  refine gw_cast X741 hx hZ e741 A741 (hb hby at_104) rfl rfl (by decide) ?_
                  intro T742 h742 X742 e742 W742 G742
                  have N742 := Fr.snoc X742 N0 nw_a741
                  have A742 : GA Z h742 a741 .char 3 (fun i => .int (own_c3 (x2 &&& (255 : Int32)) (0 : Int32) (0 : Int32) i)) := (own_stc (own_nc (own_lat _)) (by decide) (own_c30 (x2 &&& (255 : Int32)) (0 : Int32) (0 : Int32) (0 : Int32)) G742)
                  show GoW p e below s _ _ _ T742 (mkF m 105 #[.val (.int x0), .val (.int x1), .val (.int x2), .val (.int x3), .val (.int x4), .val (.int (3 : Int32)), .val (.int (3 : Int32)), .val (.int (x2 &&& (255 : Int32))), .val (.int (x3 &&& (255 : Int32))), .val (.int (x4 &&& (255 : Int32))), .unset, .unset, .unset, .unset, .unset] [(.ref a741)])
                  refine gw_st (fun _ kq => XS.dup X742.here hx rfl (hb hby at_105) rfl rfl kq) ?_
                  show GoW p e below s _ _ _ T742 (mkF m 106 #[.val (.int x0), .val (.int x1), .val (.int x2), .val (.int x3), .val (.int x4), .val (.int (3 : Int32)), .val (.int (3 : Int32)), .val (.int (x2 &&& (255 : Int32))), .val (.int (x3 &&& (255 : Int32))), .val (.int (x4 &&& (255 : Int32))), .unset, .unset, .unset, .unset, .unset] [(.ref a741), (.ref a741)])
                  refine gw_st (fun _ kq => XT.iconstV X742.here hx rfl (1 : Int32) (hb hby at_106) (by decide) kq) ?_
                  show GoW p e below s _ _ _ T742 (mkF m 107 #[.val (.int x0), .val (.int x1), .val (.int x2), .val (.int x3), .val (.int x4), .val (.int (3 : Int32)), .val (.int (3 : Int32)), .val (.int (x2 &&& (255 : Int32))), .val (.int (x3 &&& (255 : Int32))), .val (.int (x4 &&& (255 : Int32))), .unset, .unset, .unset, .unset, .unset] [(.int (1 : Int32)), (.ref a741), (.ref a741)])
                  refine gw_st (fun _ kq => XS.iload X742.here hx rfl (hb hby at_107) rfl kq) ?_
                  show GoW p e below s _ _ _ T742 (mkF m 109 #[.val (.int x0), .val (.int x1), .val (.int x2), .val (.int x3), .val (.int x4), .val (.int (3 : Int32)), .val (.int (3 : Int32)), .val (.int (x2 &&& (255 : Int32))), .val (.int (x3 &&& (255 : Int32))), .val (.int (x4 &&& (255 : Int32))), .unset, .unset, .unset, .unset, .unset] [(.int (x3 &&& (255 : Int32))), (.int (1 : Int32)), (.ref a741), (.ref a741)])
                  refine gw_cast X742 hx hZ e742 A742 (hb hby at_109) rfl rfl (by decide) ?_
                  intro T743 h743 X743 e743 W743 G743
                  have N743 := Fr.snoc X743 N742 nw_a741
                  have A743 : GA Z h743 a741 .char 3 (fun i => .int (own_c3 (x2 &&& (255 : Int32)) (x3 &&& (255 : Int32)) (0 : Int32) i)) := (own_stc (own_nc (own_lat _)) (by decide) (own_c31 (x3 &&& (255 : Int32)) (x2 &&& (255 : Int32)) (0 : Int32) (0 : Int32)) G743)
                  show GoW p e below s _ _ _ T743 (mkF m 110 #[.val (.int x0), .val (.int x1), .val (.int x2), .val (.int x3), .val (.int x4), .val (.int (3 : Int32)), .val (.int (3 : Int32)), .val (.int (x2 &&& (255 : Int32))), .val (.int (x3 &&& (255 : Int32))), .val (.int (x4 &&& (255 : Int32))), .unset, .unset, .unset, .unset, .unset] [(.ref a741)])
                  refine gw_st (fun _ kq => XS.dup X743.here hx rfl (hb hby at_110) rfl rfl kq) ?_
                  show GoW p e below s _ _ _ T743 (mkF m 111 #[.val (.int x0), .val (.int x1), .val (.int x2), .val (.int x3), .val (.int x4), .val (.int (3 : Int32)), .val (.int (3 : Int32)), .val (.int (x2 &&& (255 : Int32))), .val (.int (x3 &&& (255 : Int32))), .val (.int (x4 &&& (255 : Int32))), .unset, .unset, .unset, .unset, .unset] [(.ref a741), (.ref a741)])
                  refine gw_st (fun _ kq => XT.iconstV X743.here hx rfl (2 : Int32) (hb hby at_111) (by decide) kq) ?_
                  show GoW p e below s _ _ _ T743 (mkF m 112 #[.val (.int x0), .val (.int x1), .val (.int x2), .val (.int x3), .val (.int x4), .val (.int (3 : Int32)), .val (.int (3 : Int32)), .val (.int (x2 &&& (255 : Int32))), .val (.int (x3 &&& (255 : Int32))), .val (.int (x4 &&& (255 : Int32))), .unset, .unset, .unset, .unset, .unset] [(.int (2 : Int32)), (.ref a741), (.ref a741)])
                  refine gw_st (fun _ kq => XS.iload X743.here hx rfl (hb hby at_112) rfl kq) ?_
                  show GoW p e below s _ _ _ T743 (mkF m 114 #[.val (.int x0), .val (.int x1), .val (.int x2), .val (.int x3), .val (.int x4), .val (.int (3 : Int32)), .val (.int (3 : Int32)), .val (.int (x2 &&& (255 : Int32))), .val (.int (x3 &&& (255 : Int32))), .val (.int (x4 &&& (255 : Int32))), .unset, .unset, .unset, .unset, .unset] [(.int (x4 &&& (255 : Int32))), (.int (2 : Int32)), (.ref a741), (.ref a741)])
                  refine gw_cast X743 hx hZ e743 A743 (hb hby at_114) rfl rfl (by decide) ?_
                  intro T744 h744 X744 e744 W744 G744
                  have N744 := Fr.snoc X744 N743 nw_a741
                  have A744 : GA Z h744 a741 .char 3 (fun i => .int (own_c3 (x2 &&& (255 : Int32)) (x3 &&& (255 : Int32)) (x4 &&& (255 : Int32)) i)) := (own_stc (own_nc (own_lat _)) (by decide) (own_c32 (x4 &&& (255 : Int32)) (x2 &&& (255 : Int32)) (x3 &&& (255 : Int32)) (0 : Int32)) G744)
                  show GoW p e below s _ _ _ T744 (mkF m 115 #[.val (.int x0), .val (.int x1), .val (.int x2), .val (.int x3), .val (.int x4), .val (.int (3 : Int32)), .val (.int (3 : Int32)), .val (.int (x2 &&& (255 : Int32))), .val (.int (x3 &&& (255 : Int32))), .val (.int (x4 &&& (255 : Int32))), .unset, .unset, .unset, .unset, .unset] [(.ref a741)])
                  refine gw_st (fun _ kq => XS.astore X744.here hx rfl (hb hby at_115) rfl rfl (l' := #[.val (.int x0), .val (.int x1), .val (.int x2), .val (.int x3), .val (.int x4), .val (.int (3 : Int32)), .val (.int (3 : Int32)), .val (.int (x2 &&& (255 : Int32))), .val (.int (x3 &&& (255 : Int32))), .val (.int (x4 &&& (255 : Int32))), .val (.ref a741), .unset, .unset, .unset, .unset]) rfl kq) ?_
                  show GoW p e below s _ _ _ T744 (mkF m 117 #[.val (.int x0), .val (.int x1), .val (.int x2), .val (.int x3), .val (.int x4), .val (.int (3 : Int32)), .val (.int (3 : Int32)), .val (.int (x2 &&& (255 : Int32))), .val (.int (x3 &&& (255 : Int32))), .val (.int (x4 &&& (255 : Int32))), .val (.ref a741), .unset, .unset, .unset, .unset] [])
                  refine gw_newO X744 hx hZ hown (hw _ (List.mem_of_getElem? (i := 2) rfl)) (hw _ (List.mem_of_getElem? (i := 3) rfl)) (hw _ (List.mem_of_getElem? (i := 4) rfl)) e744 (hb hby at_117) rfl (by decide) (by decide) ?_
                  intro T745 h745 a745 g745 X745 e745 E745 A745 D745
                  have y746 : h0.size ≤ h741.size := Nat.le_trans (Nat.le_refl _) E741.1
                  have y747 : h0.size ≤ h742.size := (Wr.size W742).symm ▸ y746
                  have y748 : h0.size ≤ h743.size := (Wr.size W743).symm ▸ y747
                  have y749 : h0.size ≤ h744.size := (Wr.size W744).symm ▸ y748
                  have c750 : a741 < h742.size := (Wr.size W742).symm ▸ lt_a741
                  have c751 : a741 < h743.size := (Wr.size W743).symm ▸ c750
                  have c752 : a741 < h744.size := (Wr.size W744).symm ▸ c751
                  have ne753 : a741 ≠ a745 := fun q => Nat.lt_irrefl _ (Nat.lt_of_lt_of_le c752 (Nat.le_of_eq (g745.symm.trans q.symm)))
                  have z754 : n0 ≤ h741.size := Nat.le_trans Z0 E741.1
                  have z755 : n0 ≤ h742.size := (Wr.size W742).symm ▸ z754
                  have z756 : n0 ≤ h743.size := (Wr.size W743).symm ▸ z755
                  have z757 : n0 ≤ h744.size := (Wr.size W744).symm ▸ z756
                  have nw_a745 : n0 ≤ a745 := Nat.le_trans z757 (Nat.le_of_eq g745.symm)
                  have lt_a745 : a745 < h745.size := A745.lt
                  have F758 : Fld Z h745 a745 "com/example/wirecall/wirecall/TextCursor" "text" "Ljava/lang/String;" .null := D745 (Or.inr (hw _ (List.mem_of_getElem? (i := 31) rfl))) (ty := (.object "java/lang/String")) (by decide)
                  have F759 : Fld Z h745 a745 "com/example/wirecall/wirecall/TextCursor" "pos" "I" (.int (0 : Int32)) := D745 (Or.inl (hw _ (List.mem_of_getElem? (i := 38) rfl))) (ty := .int) (by decide)
                  show GoW p e below s _ _ _ T745 (mkF m 120 #[.val (.int x0), .val (.int x1), .val (.int x2), .val (.int x3), .val (.int x4), .val (.int (3 : Int32)), .val (.int (3 : Int32)), .val (.int (x2 &&& (255 : Int32))), .val (.int (x3 &&& (255 : Int32))), .val (.int (x4 &&& (255 : Int32))), .val (.ref a741), .unset, .unset, .unset, .unset] [(.ref a745)])
                  refine gw_st (fun _ kq => XS.dup X745.here hx rfl (hb hby at_120) rfl rfl kq) ?_
                  show GoW p e below s _ _ _ T745 (mkF m 121 #[.val (.int x0), .val (.int x1), .val (.int x2), .val (.int x3), .val (.int x4), .val (.int (3 : Int32)), .val (.int (3 : Int32)), .val (.int (x2 &&& (255 : Int32))), .val (.int (x3 &&& (255 : Int32))), .val (.int (x4 &&& (255 : Int32))), .val (.ref a741), .unset, .unset, .unset, .unset] [(.ref a745), (.ref a745)])
                  refine gw_newO X745 hx hZ hown (hw _ (List.mem_of_getElem? (i := 5) rfl)) (hw _ (List.mem_of_getElem? (i := 6) rfl)) (hw _ (List.mem_of_getElem? (i := 7) rfl)) e745 (hb hby at_121) rfl (by decide) (by decide) ?_
                  intro T760 h760 a760 g760 X760 e760 E760 A760 D760
                  have y761 : h0.size ≤ h745.size := Nat.le_trans y749 E745.1
                  have c762 : a741 < h745.size := Nat.lt_of_lt_of_le c752 E745.1
                  have ne763 : a741 ≠ a760 := fun q => Nat.lt_irrefl _ (Nat.lt_of_lt_of_le c762 (Nat.le_of_eq (g760.symm.trans q.symm)))
                  have ne764 : a745 ≠ a760 := fun q => Nat.lt_irrefl _ (Nat.lt_of_lt_of_le lt_a745 (Nat.le_of_eq (g760.symm.trans q.symm)))
                  have z765 : n0 ≤ h745.size := Nat.le_trans z757 E745.1
                  have nw_a760 : n0 ≤ a760 := Nat.le_trans z765 (Nat.le_of_eq g760.symm)
                  have lt_a760 : a760 < h760.size := A760.lt
                  have F766 : Fld Z h760 a760 "java/lang/String" "value" "[B" .null := D760 (Or.inr (hw _ (List.mem_of_getElem? (i := 20) rfl))) (ty := (.array .byte)) (by decide)
                  have F767 : Fld Z h760 a760 "java/lang/String" "coder" "B" (.int (0 : Int32)) := D760 (Or.inr (hw _ (List.mem_of_getElem? (i := 21) rfl))) (ty := .byte) (by decide)
                  show GoW p e below s _ _ _ T760 (mkF m 124 #[.val (.int x0), .val (.int x1), .val (.int x2), .val (.int x3), .val (.int x4), .val (.int (3 : Int32)), .val (.int (3 : Int32)), .val (.int (x2 &&& (255 : Int32))), .val (.int (x3 &&& (255 : Int32))), .val (.int (x4 &&& (255 : Int32))), .val (.ref a741), .unset, .unset, .unset, .unset] [(.ref a760), (.ref a745), (.ref a745)])
                  refine gw_st (fun _ kq => XS.dup X760.here hx rfl (hb hby at_124) rfl rfl kq) ?_
                  show GoW p e below s _ _ _ T760 (mkF m 125 #[.val (.int x0), .val (.int x1), .val (.int x2), .val (.int x3), .val (.int x4), .val (.int (3 : Int32)), .val (.int (3 : Int32)), .val (.int (x2 &&& (255 : Int32))), .val (.int (x3 &&& (255 : Int32))), .val (.int (x4 &&& (255 : Int32))), .val (.ref a741), .unset, .unset, .unset, .unset] [(.ref a760), (.ref a760), (.ref a745), (.ref a745)])
                  refine gw_st (fun _ kq => XS.aload X760.here hx rfl (hb hby at_125) rfl rfl kq) ?_
                  show GoW p e below s _ _ _ T760 (mkF m 127 #[.val (.int x0), .val (.int x1), .val (.int x2), .val (.int x3), .val (.int x4), .val (.int (3 : Int32)), .val (.int (3 : Int32)), .val (.int (x2 &&& (255 : Int32))), .val (.int (x3 &&& (255 : Int32))), .val (.int (x4 &&& (255 : Int32))), .val (.ref a741), .unset, .unset, .unset, .unset] [(.ref a741), (.ref a760), (.ref a760), (.ref a745), (.ref a745)])
                  have c769 := A744.ext E745
                  have c770 := c769.ext E760
                  have c771 := Old.ext O0 E741
                  have c772 := Old.wr c771 W742 nw_a741
                  have c773 := Old.wr c772 W743 nw_a741
                  have c774 := Old.wr c773 W744 nw_a741
                  have c775 := Old.ext c774 E745
                  have c776 := Old.ext c775 E760
                  have z777 : n0 ≤ h760.size := Nat.le_trans z765 E760.1
                  refine gw_callI X760 hx hZ hml hown rfl (hw _ (List.mem_of_getElem? (i := 8) rfl)) (hw _ (List.mem_of_getElem? (i := 9) rfl)) (hw _ (List.mem_of_getElem? (i := 10) rfl)) (hw _ (List.mem_of_getElem? (i := 7) rfl)) e760 (argsL := [(.ref a741)]) (rest := [(.ref a760), (.ref a745), (.ref a745)]) (W := 3) (met_s3 l Z a0 hw a760 a741 (x2 &&& (255 : Int32)) (x3 &&& (255 : Int32)) (x4 &&& (255 : Int32)) zc h760 n0 z777 A760 F766 F767 nw_a760 c770 (Ne.symm ne763) (own_lat _) (own_lat _) (own_lat _) c776 S0 zn) (hb hby at_127) rfl rfl rfl (lenOf pd6 rfl) (by show 2 * 0 + _ ≤ _; exact Nat.le_of_eq rfl) (by decide) (by decide) (by decide) (by decide) (by decide) ?_
                  intro T768 v768 L768 X768 q768
                  obtain ⟨r_768, rfl, M768, K768, fz768_r, f768_0, f768_1, f768_2, f768_3⟩ := q768
                  have N768 := Fr.app N744 M768
                  have c778 : a741 < h760.size := Nat.lt_of_lt_of_le c762 E760.1
                  have ne779 : a741 ≠ r_768 := Nat.ne_of_lt (Nat.lt_of_lt_of_le c778 fz768_r)
                  have c780 : a745 < h760.size := Nat.lt_of_lt_of_le lt_a745 E760.1
                  have ne781 : a745 ≠ r_768 := Nat.ne_of_lt (Nat.lt_of_lt_of_le c780 fz768_r)
                  have ne782 : a760 ≠ r_768 := Nat.ne_of_lt (Nat.lt_of_lt_of_le lt_a760 fz768_r)
                  have nw_r_768 : n0 ≤ r_768 := Nat.le_trans z777 fz768_r
                  have y783 : h0.size ≤ h760.size := Nat.le_trans y761 E760.1
                  have lt_r_768 : r_768 < T768.heap.size := f768_3.lt
                  show GoW p e below s _ _ _ T768 (mkF m 130 #[.val (.int x0), .val (.int x1), .val (.int x2), .val (.int x3), .val (.int x4), .val (.int (3 : Int32)), .val (.int (3 : Int32)), .val (.int (x2 &&& (255 : Int32))), .val (.int (x3 &&& (255 : Int32))), .val (.int (x4 &&& (255 : Int32))), .val (.ref a741), .unset, .unset, .unset, .unset] [(.ref a760), (.ref a745), (.ref a745)])
                  have c785 := Exa.ext E760 A745
                  have c786 := Exa.keep c785 K768
                  have c787 := Fld.ext E760 F758
                  have c788 := Fld.keep c787 K768 (ninS ne764 nin0)
                  have c789 := Fld.ext E760 F759
                  have c790 := Fld.keep c789 K768 (ninS ne764 nin0)
                  have z791 : n0 ≤ T768.heap.size := Nat.le_trans z777 K768.1
                  refine gw_callI X768 hx hZ hml hown rfl (hw _ (List.mem_of_getElem? (i := 26) rfl)) (hw _ (List.mem_of_getElem? (i := 27) rfl)) (hw _ (List.mem_of_getElem? (i := 28) rfl)) (hw _ (List.mem_of_getElem? (i := 4) rfl)) rfl (argsL := [(.ref a760)]) (rest := [(.ref a745)]) (W := 1) (met_tci l Z a0 hw a745 a760 T768.heap n0 z791 c786 c788 c790 nw_a745) (hb hby at_130) rfl rfl rfl (lenOf pd7 rfl) (by show 2 * 0 + _ ≤ _; exact Nat.le_of_eq rfl) (by decide) (by decide) (by decide) (by decide) (by decide) ?_
                  intro T784 v784 L784 X784 q784
                  obtain ⟨rfl, M784, K784, f784_0, f784_1⟩ := q784
                  have N784 := Fr.app N768 M784
                  show GoW p e below s _ _ _ T784 (mkF m 133 #[.val (.int x0), .val (.int x1), .val (.int x2), .val (.int x3), .val (.int x4), .val (.int (3 : Int32)), .val (.int (3 : Int32)), .val (.int (x2 &&& (255 : Int32))), .val (.int (x3 &&& (255 : Int32))), .val (.int (x4 &&& (255 : Int32))), .val (.ref a741), .unset, .unset, .unset, .unset] [(.ref a745)])
                  refine gw_st (fun _ kq => XS.astore X784.here hx rfl (hb hby at_133) rfl rfl (l' := #[.val (.int x0), .val (.int x1), .val (.int x2), .val (.int x3), .val (.int x4), .val (.int (3 : Int32)), .val (.int (3 : Int32)), .val (.int (x2 &&& (255 : Int32))), .val (.int (x3 &&& (255 : Int32))), .val (.int (x4 &&& (255 : Int32))), .val (.ref a741), .val (.ref a745), .unset, .unset, .unset]) rfl kq) ?_
                  show GoW p e below s _ _ _ T784 (mkF m 135 #[.val (.int x0), .val (.int x1), .val (.int x2), .val (.int x3), .val (.int x4), .val (.int (3 : Int32)), .val (.int (3 : Int32)), .val (.int (x2 &&& (255 : Int32))), .val (.int (x3 &&& (255 : Int32))), .val (.int (x4 &&& (255 : Int32))), .val (.ref a741), .val (.ref a745), .unset, .unset, .unset] [])
                  refine gw_st (fun _ kq => XS.aload X784.here hx rfl (hb hby at_135) rfl rfl kq) ?_
                  show GoW p e below s _ _ _ T784 (mkF m 137 #[.val (.int x0), .val (.int x1), .val (.int x2), .val (.int x3), .val (.int x4), .val (.int (3 : Int32)), .val (.int (3 : Int32)), .val (.int (x2 &&& (255 : Int32))), .val (.int (x3 &&& (255 : Int32))), .val (.int (x4 &&& (255 : Int32))), .val (.ref a741), .val (.ref a745), .unset, .unset, .unset] [(.ref a745)])
                  have c793 := Exa.keep f768_0 K784
                  have c794 := Fld.keep f768_1 K784 (ninS (Ne.symm ne764) nin0)
                  have c795 := Fld.keep f768_2 K784 (ninS (Ne.symm ne764) nin0)
                  have c796 := GA.keep f768_3 K784 (ninS (Ne.symm ne781) nin0)
                  have c797 := Old.keep c776 K768 (allS nw_a760 all0)
                  have c798 := Old.keep c797 K784 (allS nw_a745 all0)
                  have z799 : n0 ≤ T784.heap.size := Nat.le_trans z791 K784.1
                  have c800 := Exa.keep c786 K784
                  refine gw_callV X784 hx hZ hml hown (hw _ (List.mem_of_getElem? (i := 32) rfl)) (hw _ (List.mem_of_getElem? (i := 33) rfl)) (notFace_of_selects (args := #[]) (mvT hZ (hw _ (List.mem_of_getElem? (i := 35) rfl)))) (hw _ (List.mem_of_getElem? (i := 35) rfl)) (hw _ (List.mem_of_getElem? (i := 34) rfl)) (hw _ (List.mem_of_getElem? (i := 36) rfl)) (hw _ (List.mem_of_getElem? (i := 4) rfl)) rfl c800 (argsL := []) (rest := []) (W := 0) (met_end30 l Z a0 hw a745 a760 r_768 (fun i => .int (own_c3 (own_by (x2 &&& (255 : Int32))) (own_by (x3 &&& (255 : Int32))) (own_by (x4 &&& (255 : Int32))) i)) zc T784.heap n0 z799 f784_1 f784_0 c793 c794 c795 c796 c798 S0 zn) (hb hby at_137) rfl rfl rfl (lenOf pd8 rfl) (by show 2 * 0 + _ ≤ _; exact Nat.le_of_eq rfl) (by decide) (by decide) (by decide) (by decide) (by decide) ?_
                  intro T792 v792 L792 X792 q792
                  obtain ⟨rfl, M792, e792⟩ := q792
                  have N792 := Fr.app N784 M792
                  show GoW p e below s _ _ _ T792 (mkF m 140 #[.val (.int x0), .val (.int x1), .val (.int x2), .val (.int x3), .val (.int x4), .val (.int (3 : Int32)), .val (.int (3 : Int32)), .val (.int (x2 &&& (255 : Int32))), .val (.int (x3 &&& (255 : Int32))), .val (.int (x4 &&& (255 : Int32))), .val (.ref a741), .val (.ref a745), .unset, .unset, .unset] [(.int (0 : Int32))])
                  refine gw_st (fun _ kq => XS.iload X792.here hx rfl (hb hby at_140) rfl kq) ?_
                  show GoW p e below s _ _ _ T792 (mkF m 142 #[.val (.int x0), .val (.int x1), .val (.int x2), .val (.int x3), .val (.int x4), .val (.int (3 : Int32)), .val (.int (3 : Int32)), .val (.int (x2 &&& (255 : Int32))), .val (.int (x3 &&& (255 : Int32))), .val (.int (x4 &&& (255 : Int32))), .val (.ref a741), .val (.ref a745), .unset, .unset, .unset] [(.int (3 : Int32)), (.int (0 : Int32))])
                  refine gw_st (fun _ kq => XS.ifYes X792.here hx rfl (pc0 := 142) (pc' := 149) rfl (hb hby at_142) rfl (XT.i0_ne_t (by decide)) (by decide) (by decide) kq) ?_
                  show GoW p e below s _ _ _ T792 (mkF m 149 #[.val (.int x0), .val (.int x1), .val (.int x2), .val (.int x3), .val (.int x4), .val (.int (3 : Int32)), .val (.int (3 : Int32)), .val (.int (x2 &&& (255 : Int32))), .val (.int (x3 &&& (255 : Int32))), .val (.int (x4 &&& (255 : Int32))), .val (.ref a741), .val (.ref a745), .unset, .unset, .unset] [(.int (0 : Int32))])
                  refine gw_st (fun _ kq => XT.iconstV X792.here hx rfl (0 : Int32) (hb hby at_149) (by decide) kq) ?_
                  show GoW p e below s _ _ _ T792 (mkF m 150 #[.val (.int x0), .val (.int x1), .val (.int x2), .val (.int x3), .val (.int x4), .val (.int (3 : Int32)), .val (.int (3 : Int32)), .val (.int (x2 &&& (255 : Int32))), .val (.int (x3 &&& (255 : Int32))), .val (.int (x4 &&& (255 : Int32))), .val (.ref a741), .val (.ref a745), .unset, .unset, .unset] [(.int (0 : Int32)), (.int (0 : Int32))])
                  refine gw_st (fun _ kq => XS.icmpNo X792.here hx rfl (hb hby at_150) rfl (XT.ii_ne_f (by decide)) kq) ?_
                  show GoW p e below s _ _ _ T792 (mkF m 153 #[.val (.int x0), .val (.int x1), .val (.int x2), .val (.int x3), .val (.int x4), .val (.int (3 : Int32)), .val (.int (3 : Int32)), .val (.int (x2 &&& (255 : Int32))), .val (.int (x3 &&& (255 : Int32))), .val (.int (x4 &&& (255 : Int32))), .val (.ref a741), .val (.ref a745), .unset, .unset, .unset] [])
                  refine gw_st (fun _ kq => XT.iconstV X792.here hx rfl (1 : Int32) (hb hby at_153) (by decide) kq) ?_
                  show GoW p e below s _ _ _ T792 (mkF m 154 #[.val (.int x0), .val (.int x1), .val (.int x2), .val (.int x3), .val (.int x4), .val (.int (3 : Int32)), .val (.int (3 : Int32)), .val (.int (x2 &&& (255 : Int32))), .val (.int (x3 &&& (255 : Int32))), .val (.int (x4 &&& (255 : Int32))), .val (.ref a741), .val (.ref a745), .unset, .unset, .unset] [(.int (1 : Int32))])
                  refine gw_st (fun _ kq => XS.goto X792.here hx rfl (pc0 := 154) (pc' := 158) rfl (hb hby at_154) (by decide) (by decide) kq) ?_
                  show GoW p e below s _ _ _ T792 (mkF m 158 #[.val (.int x0), .val (.int x1), .val (.int x2), .val (.int x3), .val (.int x4), .val (.int (3 : Int32)), .val (.int (3 : Int32)), .val (.int (x2 &&& (255 : Int32))), .val (.int (x3 &&& (255 : Int32))), .val (.int (x4 &&& (255 : Int32))), .val (.ref a741), .val (.ref a745), .unset, .unset, .unset] [(.int (1 : Int32))])
                  refine gw_st (fun _ kq => XS.istore X792.here hx rfl (hb hby at_158) rfl (l' := #[.val (.int x0), .val (.int x1), .val (.int x2), .val (.int x3), .val (.int x4), .val (.int (3 : Int32)), .val (.int (3 : Int32)), .val (.int (x2 &&& (255 : Int32))), .val (.int (x3 &&& (255 : Int32))), .val (.int (x4 &&& (255 : Int32))), .val (.ref a741), .val (.ref a745), .val (.int (1 : Int32)), .unset, .unset]) rfl kq) ?_
                  show GoW p e below s _ _ _ T792 (mkF m 160 #[.val (.int x0), .val (.int x1), .val (.int x2), .val (.int x3), .val (.int x4), .val (.int (3 : Int32)), .val (.int (3 : Int32)), .val (.int (x2 &&& (255 : Int32))), .val (.int (x3 &&& (255 : Int32))), .val (.int (x4 &&& (255 : Int32))), .val (.ref a741), .val (.ref a745), .val (.int (1 : Int32)), .unset, .unset] [])
                  refine gw_st (fun _ kq => XS.iload X792.here hx rfl (hb hby at_160) rfl kq) ?_
                  show GoW p e below s _ _ _ T792 (mkF m 162 #[.val (.int x0), .val (.int x1), .val (.int x2), .val (.int x3), .val (.int x4), .val (.int (3 : Int32)), .val (.int (3 : Int32)), .val (.int (x2 &&& (255 : Int32))), .val (.int (x3 &&& (255 : Int32))), .val (.int (x4 &&& (255 : Int32))), .val (.ref a741), .val (.ref a745), .val (.int (1 : Int32)), .unset, .unset] [(.int (3 : Int32))])
                  refine gw_st (fun _ kq => XT.iconstV X792.here hx rfl (1 : Int32) (hb hby at_162) (by decide) kq) ?_
                  show GoW p e below s _ _ _ T792 (mkF m 163 #[.val (.int x0), .val (.int x1), .val (.int x2), .val (.int x3), .val (.int x4), .val (.int (3 : Int32)), .val (.int (3 : Int32)), .val (.int (x2 &&& (255 : Int32))), .val (.int (x3 &&& (255 : Int32))), .val (.int (x4 &&& (255 : Int32))), .val (.ref a741), .val (.ref a745), .val (.int (1 : Int32)), .unset, .unset] [(.int (1 : Int32)), (.int (3 : Int32))])
                  refine gw_st (fun _ kq => XS.icmpNo X792.here hx rfl (hb hby at_163) rfl (XT.ii_lt_f (by decide)) kq) ?_
                  show GoW p e below s _ _ _ T792 (mkF m 166 #[.val (.int x0), .val (.int x1), .val (.int x2), .val (.int x3), .val (.int x4), .val (.int (3 : Int32)), .val (.int (3 : Int32)), .val (.int (x2 &&& (255 : Int32))), .val (.int (x3 &&& (255 : Int32))), .val (.int (x4 &&& (255 : Int32))), .val (.ref a741), .val (.ref a745), .val (.int (1 : Int32)), .unset, .unset] [])
                  refine gw_st (fun _ kq => XS.aload X792.here hx rfl (hb hby at_166) rfl rfl kq) ?_
                  show GoW p e below s _ _ _ T792 (mkF m 168 #[.val (.int x0), .val (.int x1), .val (.int x2), .val (.int x3), .val (.int x4), .val (.int (3 : Int32)), .val (.int (3 : Int32)), .val (.int (x2 &&& (255 : Int32))), .val (.int (x3 &&& (255 : Int32))), .val (.int (x4 &&& (255 : Int32))), .val (.ref a741), .val (.ref a745), .val (.int (1 : Int32)), .unset, .unset] [(.ref a745)])
                  refine gw_callV X792 hx hZ hml hown (hw _ (List.mem_of_getElem? (i := 65) rfl)) (hw _ (List.mem_of_getElem? (i := 66) rfl)) (notFace_of_selects (args := #[]) (mvT hZ (hw _ (List.mem_of_getElem? (i := 68) rfl)))) (hw _ (List.mem_of_getElem? (i := 68) rfl)) (hw _ (List.mem_of_getElem? (i := 67) rfl)) (hw _ (List.mem_of_getElem? (i := 69) rfl)) (hw _ (List.mem_of_getElem? (i := 4) rfl)) e792 c800 (argsL := []) (rest := []) (W := 0) (met_sk0 l Z a0 hw a745 a760 T784.heap n0 z799 c800 f784_0 f784_1 nw_a745) (hb hby at_168) rfl rfl rfl (lenOf pd9 rfl) (by show 2 * 0 + _ ≤ _; exact Nat.le_of_eq rfl) (by decide) (by decide) (by decide) (by decide) (by decide) ?_
                  intro T801 v801 L801 X801 q801
                  obtain ⟨rfl, M801, K801, f801_0, f801_1⟩ := q801
                  have N801 := Fr.app N792 M801
                  show GoW p e below s _ _ _ T801 (mkF m 171 #[.val (.int x0), .val (.int x1), .val (.int x2), .val (.int x3), .val (.int x4), .val (.int (3 : Int32)), .val (.int (3 : Int32)), .val (.int (x2 &&& (255 : Int32))), .val (.int (x3 &&& (255 : Int32))), .val (.int (x4 &&& (255 : Int32))), .val (.ref a741), .val (.ref a745), .val (.int (1 : Int32)), .unset, .unset] [])
                  refine gw_st (fun _ kq => XS.iload X801.here hx rfl (hb hby at_171) rfl kq) ?_
                  show GoW p e below s _ _ _ T801 (mkF m 173 #[.val (.int x0), .val (.int x1), .val (.int x2), .val (.int x3), .val (.int x4), .val (.int (3 : Int32)), .val (.int (3 : Int32)), .val (.int (x2 &&& (255 : Int32))), .val (.int (x3 &&& (255 : Int32))), .val (.int (x4 &&& (255 : Int32))), .val (.ref a741), .val (.ref a745), .val (.int (1 : Int32)), .unset, .unset] [(.int (3 : Int32))])
                  refine gw_st (fun _ kq => XT.iconstV X801.here hx rfl (2 : Int32) (hb hby at_173) (by decide) kq) ?_
                  show GoW p e below s _ _ _ T801 (mkF m 174 #[.val (.int x0), .val (.int x1), .val (.int x2), .val (.int x3), .val (.int x4), .val (.int (3 : Int32)), .val (.int (3 : Int32)), .val (.int (x2 &&& (255 : Int32))), .val (.int (x3 &&& (255 : Int32))), .val (.int (x4 &&& (255 : Int32))), .val (.ref a741), .val (.ref a745), .val (.int (1 : Int32)), .unset, .unset] [(.int (2 : Int32)), (.int (3 : Int32))])
                  refine gw_st (fun _ kq => XS.icmpNo X801.here hx rfl (hb hby at_174) rfl (XT.ii_lt_f (by decide)) kq) ?_
                  show GoW p e below s _ _ _ T801 (mkF m 177 #[.val (.int x0), .val (.int x1), .val (.int x2), .val (.int x3), .val (.int x4), .val (.int (3 : Int32)), .val (.int (3 : Int32)), .val (.int (x2 &&& (255 : Int32))), .val (.int (x3 &&& (255 : Int32))), .val (.int (x4 &&& (255 : Int32))), .val (.ref a741), .val (.ref a745), .val (.int (1 : Int32)), .unset, .unset] [])
                  refine gw_st (fun _ kq => XS.aload X801.here hx rfl (hb hby at_177) rfl rfl kq) ?_
                  show GoW p e below s _ _ _ T801 (mkF m 179 #[.val (.int x0), .val (.int x1), .val (.int x2), .val (.int x3), .val (.int x4), .val (.int (3 : Int32)), .val (.int (3 : Int32)), .val (.int (x2 &&& (255 : Int32))), .val (.int (x3 &&& (255 : Int32))), .val (.int (x4 &&& (255 : Int32))), .val (.ref a741), .val (.ref a745), .val (.int (1 : Int32)), .unset, .unset] [(.ref a745)])
                  have c803 := Exa.keep c800 K801
                  have z804 : n0 ≤ T801.heap.size := Nat.le_trans z799 K801.1
                  refine gw_callV X801 hx hZ hml hown (hw _ (List.mem_of_getElem? (i := 65) rfl)) (hw _ (List.mem_of_getElem? (i := 66) rfl)) (notFace_of_selects (args := #[]) (mvT hZ (hw _ (List.mem_of_getElem? (i := 68) rfl)))) (hw _ (List.mem_of_getElem? (i := 68) rfl)) (hw _ (List.mem_of_getElem? (i := 67) rfl)) (hw _ (List.mem_of_getElem? (i := 69) rfl)) (hw _ (List.mem_of_getElem? (i := 4) rfl)) rfl c803 (argsL := []) (rest := []) (W := 0) (met_sk1 l Z a0 hw a745 a760 T801.heap n0 z804 c803 f801_0 f801_1 nw_a745) (hb hby at_179) rfl rfl rfl (lenOf pd9 rfl) (by show 2 * 0 + _ ≤ _; exact Nat.le_of_eq rfl) (by decide) (by decide) (by decide) (by decide) (by decide) ?_
                  intro T802 v802 L802 X802 q802
                  obtain ⟨rfl, M802, K802, f802_0, f802_1⟩ := q802
                  have N802 := Fr.app N801 M802
                  show GoW p e below s _ _ _ T802 (mkF m 182 #[.val (.int x0), .val (.int x1), .val (.int x2), .val (.int x3), .val (.int x4), .val (.int (3 : Int32)), .val (.int (3 : Int32)), .val (.int (x2 &&& (255 : Int32))), .val (.int (x3 &&& (255 : Int32))), .val (.int (x4 &&& (255 : Int32))), .val (.ref a741), .val (.ref a745), .val (.int (1 : Int32)), .unset, .unset] [])
                  refine gw_st (fun _ kq => XS.iload X802.here hx rfl (hb hby at_182) rfl kq) ?_
                  show GoW p e below s _ _ _ T802 (mkF m 184 #[.val (.int x0), .val (.int x1), .val (.int x2), .val (.int x3), .val (.int x4), .val (.int (3 : Int32)), .val (.int (3 : Int32)), .val (.int (x2 &&& (255 : Int32))), .val (.int (x3 &&& (255 : Int32))), .val (.int (x4 &&& (255 : Int32))), .val (.ref a741), .val (.ref a745), .val (.int (1 : Int32)), .unset, .unset] [(.int (3 : Int32))])
                  refine gw_st (fun _ kq => XT.iconstV X802.here hx rfl (3 : Int32) (hb hby at_184) (by decide) kq) ?_
                  show GoW p e below s _ _ _ T802 (mkF m 185 #[.val (.int x0), .val (.int x1), .val (.int x2), .val (.int x3), .val (.int x4), .val (.int (3 : Int32)), .val (.int (3 : Int32)), .val (.int (x2 &&& (255 : Int32))), .val (.int (x3 &&& (255 : Int32))), .val (.int (x4 &&& (255 : Int32))), .val (.ref a741), .val (.ref a745), .val (.int (1 : Int32)), .unset, .unset] [(.int (3 : Int32)), (.int (3 : Int32))])
                  refine gw_st (fun _ kq => XS.icmpNo X802.here hx rfl (hb hby at_185) rfl (XT.ii_lt_f (by decide)) kq) ?_
                  show GoW p e below s _ _ _ T802 (mkF m 188 #[.val (.int x0), .val (.int x1), .val (.int x2), .val (.int x3), .val (.int x4), .val (.int (3 : Int32)), .val (.int (3 : Int32)), .val (.int (x2 &&& (255 : Int32))), .val (.int (x3 &&& (255 : Int32))), .val (.int (x4 &&& (255 : Int32))), .val (.ref a741), .val (.ref a745), .val (.int (1 : Int32)), .unset, .unset] [])
                  refine gw_st (fun _ kq => XS.aload X802.here hx rfl (hb hby at_188) rfl rfl kq) ?_
                  show GoW p e below s _ _ _ T802 (mkF m 190 #[.val (.int x0), .val (.int x1), .val (.int x2), .val (.int x3), .val (.int x4), .val (.int (3 : Int32)), .val (.int (3 : Int32)), .val (.int (x2 &&& (255 : Int32))), .val (.int (x3 &&& (255 : Int32))), .val (.int (x4 &&& (255 : Int32))), .val (.ref a741), .val (.ref a745), .val (.int (1 : Int32)), .unset, .unset] [(.ref a745)])
                  have c806 := Exa.keep c803 K802
                  have z807 : n0 ≤ T802.heap.size := Nat.le_trans z804 K802.1
                  refine gw_callV X802 hx hZ hml hown (hw _ (List.mem_of_getElem? (i := 65) rfl)) (hw _ (List.mem_of_getElem? (i := 66) rfl)) (notFace_of_selects (args := #[]) (mvT hZ (hw _ (List.mem_of_getElem? (i := 68) rfl)))) (hw _ (List.mem_of_getElem? (i := 68) rfl)) (hw _ (List.mem_of_getElem? (i := 67) rfl)) (hw _ (List.mem_of_getElem? (i := 69) rfl)) (hw _ (List.mem_of_getElem? (i := 4) rfl)) rfl c806 (argsL := []) (rest := []) (W := 0) (met_sk2 l Z a0 hw a745 a760 T802.heap n0 z807 c806 f802_0 f802_1 nw_a745) (hb hby at_190) rfl rfl rfl (lenOf pd9 rfl) (by show 2 * 0 + _ ≤ _; exact Nat.le_of_eq rfl) (by decide) (by decide) (by decide) (by decide) (by decide) ?_
                  intro T805 v805 L805 X805 q805
                  obtain ⟨rfl, M805, K805, f805_0, f805_1⟩ := q805
                  have N805 := Fr.app N802 M805
                  show GoW p e below s _ _ _ T805 (mkF m 193 #[.val (.int x0), .val (.int x1), .val (.int x2), .val (.int x3), .val (.int x4), .val (.int (3 : Int32)), .val (.int (3 : Int32)), .val (.int (x2 &&& (255 : Int32))), .val (.int (x3 &&& (255 : Int32))), .val (.int (x4 &&& (255 : Int32))), .val (.ref a741), .val (.ref a745), .val (.int (1 : Int32)), .unset, .unset] [])
                  refine gw_st (fun _ kq => XS.aload X805.here hx rfl (hb hby at_193) rfl rfl kq) ?_
                  show GoW p e below s _ _ _ T805 (mkF m 195 #[.val (.int x0), .val (.int x1), .val (.int x2), .val (.int x3), .val (.int x4), .val (.int (3 : Int32)), .val (.int (3 : Int32)), .val (.int (x2 &&& (255 : Int32))), .val (.int (x3 &&& (255 : Int32))), .val (.int (x4 &&& (255 : Int32))), .val (.ref a741), .val (.ref a745), .val (.int (1 : Int32)), .unset, .unset] [(.ref a745)])
                  have c809 := Exa.keep c793 K801
                  have c810 := Exa.keep c809 K802
                  have c811 := Exa.keep c810 K805
                  have c812 := Fld.keep c794 K801 (ninS (Ne.symm ne764) nin0)
                  have c813 := Fld.keep c812 K802 (ninS (Ne.symm ne764) nin0)
                  have c814 := Fld.keep c813 K805 (ninS (Ne.symm ne764) nin0)
                  have c815 := Fld.keep c795 K801 (ninS (Ne.symm ne764) nin0)
                  have c816 := Fld.keep c815 K802 (ninS (Ne.symm ne764) nin0)
                  have c817 := Fld.keep c816 K805 (ninS (Ne.symm ne764) nin0)
                  have c818 := GA.keep c796 K801 (ninS (Ne.symm ne781) nin0)
                  have c819 := GA.keep c818 K802 (ninS (Ne.symm ne781) nin0)
                  have c820 := GA.keep c819 K805 (ninS (Ne.symm ne781) nin0)
                  have c821 := Old.keep c798 K801 (allS nw_a745 all0)
                  have c822 := Old.keep c821 K802 (allS nw_a745 all0)
                  have c823 := Old.keep c822 K805 (allS nw_a745 all0)
                  have z824 : n0 ≤ T805.heap.size := Nat.le_trans z807 K805.1
                  have c825 := Exa.keep c806 K805
                  refine gw_callV X805 hx hZ hml hown (hw _ (List.mem_of_getElem? (i := 32) rfl)) (hw _ (List.mem_of_getElem? (i := 33) rfl)) (notFace_of_selects (args := #[]) (mvT hZ (hw _ (List.mem_of_getElem? (i := 35) rfl)))) (hw _ (List.mem_of_getElem? (i := 35) rfl)) (hw _ (List.mem_of_getElem? (i := 34) rfl)) (hw _ (List.mem_of_getElem? (i := 36) rfl)) (hw _ (List.mem_of_getElem? (i := 4) rfl)) rfl c825 (argsL := []) (rest := []) (W := 0) (met_end33 l Z a0 hw a745 a760 r_768 (fun i => .int (own_c3 (own_by (x2 &&& (255 : Int32))) (own_by (x3 &&& (255 : Int32))) (own_by (x4 &&& (255 : Int32))) i)) zc T805.heap n0 z824 f805_1 f805_0 c811 c814 c817 c820 c823 S0 zn) (hb hby at_195) rfl rfl rfl (lenOf pd8 rfl) (by show 2 * 0 + _ ≤ _; exact Nat.le_of_eq rfl) (by decide) (by decide) (by decide) (by decide) (by decide) ?_
                  intro T808 v808 L808 X808 q808
                  obtain ⟨rfl, M808, e808⟩ := q808
                  have N808 := Fr.app N805 M808
                  show GoW p e below s _ _ _ T808 (mkF m 198 #[.val (.int x0), .val (.int x1), .val (.int x2), .val (.int x3), .val (.int x4), .val (.int (3 : Int32)), .val (.int (3 : Int32)), .val (.int (x2 &&& (255 : Int32))), .val (.int (x3 &&& (255 : Int32))), .val (.int (x4 &&& (255 : Int32))), .val (.ref a741), .val (.ref a745), .val (.int (1 : Int32)), .unset, .unset] [(.int (1 : Int32))])
                  refine gw_st (fun _ kq => XS.iload X808.here hx rfl (hb hby at_198) rfl kq) ?_
                  show GoW p e below s _ _ _ T808 (mkF m 200 #[.val (.int x0), .val (.int x1), .val (.int x2), .val (.int x3), .val (.int x4), .val (.int (3 : Int32)), .val (.int (3 : Int32)), .val (.int (x2 &&& (255 : Int32))), .val (.int (x3 &&& (255 : Int32))), .val (.int (x4 &&& (255 : Int32))), .val (.ref a741), .val (.ref a745), .val (.int (1 : Int32)), .unset, .unset] [(.int (3 : Int32)), (.int (1 : Int32))])
                  refine gw_st (fun _ kq => XS.iload X808.here hx rfl (hb hby at_200) rfl kq) ?_
                  show GoW p e below s _ _ _ T808 (mkF m 202 #[.val (.int x0), .val (.int x1), .val (.int x2), .val (.int x3), .val (.int x4), .val (.int (3 : Int32)), .val (.int (3 : Int32)), .val (.int (x2 &&& (255 : Int32))), .val (.int (x3 &&& (255 : Int32))), .val (.int (x4 &&& (255 : Int32))), .val (.ref a741), .val (.ref a745), .val (.int (1 : Int32)), .unset, .unset] [(.int (3 : Int32)), (.int (3 : Int32)), (.int (1 : Int32))])
                  refine gw_st (fun _ kq => XS.icmpNo X808.here hx rfl (hb hby at_202) rfl (XT.ii_ne_f (by decide)) kq) ?_
                  show GoW p e below s _ _ _ T808 (mkF m 205 #[.val (.int x0), .val (.int x1), .val (.int x2), .val (.int x3), .val (.int x4), .val (.int (3 : Int32)), .val (.int (3 : Int32)), .val (.int (x2 &&& (255 : Int32))), .val (.int (x3 &&& (255 : Int32))), .val (.int (x4 &&& (255 : Int32))), .val (.ref a741), .val (.ref a745), .val (.int (1 : Int32)), .unset, .unset] [(.int (1 : Int32))])
                  refine gw_st (fun _ kq => XT.iconstV X808.here hx rfl (1 : Int32) (hb hby at_205) (by decide) kq) ?_
                  show GoW p e below s _ _ _ T808 (mkF m 206 #[.val (.int x0), .val (.int x1), .val (.int x2), .val (.int x3), .val (.int x4), .val (.int (3 : Int32)), .val (.int (3 : Int32)), .val (.int (x2 &&& (255 : Int32))), .val (.int (x3 &&& (255 : Int32))), .val (.int (x4 &&& (255 : Int32))), .val (.ref a741), .val (.ref a745), .val (.int (1 : Int32)), .unset, .unset] [(.int (1 : Int32)), (.int (1 : Int32))])
                  refine gw_st (fun _ kq => XS.goto X808.here hx rfl (pc0 := 206) (pc' := 210) rfl (hb hby at_206) (by decide) (by decide) kq) ?_
                  show GoW p e below s _ _ _ T808 (mkF m 210 #[.val (.int x0), .val (.int x1), .val (.int x2), .val (.int x3), .val (.int x4), .val (.int (3 : Int32)), .val (.int (3 : Int32)), .val (.int (x2 &&& (255 : Int32))), .val (.int (x3 &&& (255 : Int32))), .val (.int (x4 &&& (255 : Int32))), .val (.ref a741), .val (.ref a745), .val (.int (1 : Int32)), .unset, .unset] [(.int (1 : Int32)), (.int (1 : Int32))])
                  refine gw_st (fun _ kq => XS.icmpNo X808.here hx rfl (hb hby at_210) rfl (XT.ii_ne_f (by decide)) kq) ?_
                  show GoW p e below s _ _ _ T808 (mkF m 213 #[.val (.int x0), .val (.int x1), .val (.int x2), .val (.int x3), .val (.int x4), .val (.int (3 : Int32)), .val (.int (3 : Int32)), .val (.int (x2 &&& (255 : Int32))), .val (.int (x3 &&& (255 : Int32))), .val (.int (x4 &&& (255 : Int32))), .val (.ref a741), .val (.ref a745), .val (.int (1 : Int32)), .unset, .unset] [])
                  refine gw_st (fun _ kq => XT.iconstV X808.here hx rfl (1 : Int32) (hb hby at_213) (by decide) kq) ?_
                  show GoW p e below s _ _ _ T808 (mkF m 214 #[.val (.int x0), .val (.int x1), .val (.int x2), .val (.int x3), .val (.int x4), .val (.int (3 : Int32)), .val (.int (3 : Int32)), .val (.int (x2 &&& (255 : Int32))), .val (.int (x3 &&& (255 : Int32))), .val (.int (x4 &&& (255 : Int32))), .val (.ref a741), .val (.ref a745), .val (.int (1 : Int32)), .unset, .unset] [(.int (1 : Int32))])
                  refine gw_st (fun _ kq => XS.goto X808.here hx rfl (pc0 := 214) (pc' := 218) rfl (hb hby at_214) (by decide) (by decide) kq) ?_
                  show GoW p e below s _ _ _ T808 (mkF m 218 #[.val (.int x0), .val (.int x1), .val (.int x2), .val (.int x3), .val (.int x4), .val (.int (3 : Int32)), .val (.int (3 : Int32)), .val (.int (x2 &&& (255 : Int32))), .val (.int (x3 &&& (255 : Int32))), .val (.int (x4 &&& (255 : Int32))), .val (.ref a741), .val (.ref a745), .val (.int (1 : Int32)), .unset, .unset] [(.int (1 : Int32))])
                  refine gw_st (fun _ kq => XS.istore X808.here hx rfl (hb hby at_218) rfl (l' := #[.val (.int x0), .val (.int x1), .val (.int x2), .val (.int x3), .val (.int x4), .val (.int (3 : Int32)), .val (.int (3 : Int32)), .val (.int (x2 &&& (255 : Int32))), .val (.int (x3 &&& (255 : Int32))), .val (.int (x4 &&& (255 : Int32))), .val (.ref a741), .val (.ref a745), .val (.int (1 : Int32)), .val (.int (1 : Int32)), .unset]) rfl kq) ?_
                  show GoW p e below s _ _ _ T808 (mkF m 220 #[.val (.int x0), .val (.int x1), .val (.int x2), .val (.int x3), .val (.int x4), .val (.int (3 : Int32)), .val (.int (3 : Int32)), .val (.int (x2 &&& (255 : Int32))), .val (.int (x3 &&& (255 : Int32))), .val (.int (x4 &&& (255 : Int32))), .val (.ref a741), .val (.ref a745), .val (.int (1 : Int32)), .val (.int (1 : Int32)), .unset] [])
                  refine gw_st (fun _ kq => XS.aload X808.here hx rfl (hb hby at_220) rfl rfl kq) ?_
                  show GoW p e below s _ _ _ T808 (mkF m 222 #[.val (.int x0), .val (.int x1), .val (.int x2), .val (.int x3), .val (.int x4), .val (.int (3 : Int32)), .val (.int (3 : Int32)), .val (.int (x2 &&& (255 : Int32))), .val (.int (x3 &&& (255 : Int32))), .val (.int (x4 &&& (255 : Int32))), .val (.ref a741), .val (.ref a745), .val (.int (1 : Int32)), .val (.int (1 : Int32)), .unset] [(.ref a745)])
                  refine gw_callV X808 hx hZ hml hown (hw _ (List.mem_of_getElem? (i := 50) rfl)) (hw _ (List.mem_of_getElem? (i := 51) rfl)) (notFace_of_selects (args := #[]) (mvT hZ (hw _ (List.mem_of_getElem? (i := 53) rfl)))) (hw _ (List.mem_of_getElem? (i := 53) rfl)) (hw _ (List.mem_of_getElem? (i := 52) rfl)) (hw _ (List.mem_of_getElem? (i := 54) rfl)) (hw _ (List.mem_of_getElem? (i := 4) rfl)) e808 c825 (argsL := []) (rest := []) (W := 0) (met_8 l Z a0 hw a745 (3 : Int32) T805.heap n0 z824 f805_1) (hb hby at_222) rfl rfl rfl (lenOf pd5 rfl) (by show 2 * 0 + _ ≤ _; exact Nat.le_of_eq rfl) (by decide) (by decide) (by decide) (by decide) (by decide) ?_
                  intro T826 v826 L826 X826 q826
                  obtain ⟨rfl, M826, e826⟩ := q826
                  have N826 := Fr.app N808 M826
                  show GoW p e below s _ _ _ T826 (mkF m 225 #[.val (.int x0), .val (.int x1), .val (.int x2), .val (.int x3), .val (.int x4), .val (.int (3 : Int32)), .val (.int (3 : Int32)), .val (.int (x2 &&& (255 : Int32))), .val (.int (x3 &&& (255 : Int32))), .val (.int (x4 &&& (255 : Int32))), .val (.ref a741), .val (.ref a745), .val (.int (1 : Int32)), .val (.int (1 : Int32)), .unset] [(.int (3 : Int32))])
                  refine gw_st (fun _ kq => XS.iload X826.here hx rfl (hb hby at_225) rfl kq) ?_
                  show GoW p e below s _ _ _ T826 (mkF m 227 #[.val (.int x0), .val (.int x1), .val (.int x2), .val (.int x3), .val (.int x4), .val (.int (3 : Int32)), .val (.int (3 : Int32)), .val (.int (x2 &&& (255 : Int32))), .val (.int (x3 &&& (255 : Int32))), .val (.int (x4 &&& (255 : Int32))), .val (.ref a741), .val (.ref a745), .val (.int (1 : Int32)), .val (.int (1 : Int32)), .unset] [(.int (3 : Int32)), (.int (3 : Int32))])
                  refine gw_st (fun _ kq => XS.icmpNo X826.here hx rfl (hb hby at_227) rfl (XT.ii_ne_f (by decide)) kq) ?_
                  show GoW p e below s _ _ _ T826 (mkF m 230 #[.val (.int x0), .val (.int x1), .val (.int x2), .val (.int x3), .val (.int x4), .val (.int (3 : Int32)), .val (.int (3 : Int32)), .val (.int (x2 &&& (255 : Int32))), .val (.int (x3 &&& (255 : Int32))), .val (.int (x4 &&& (255 : Int32))), .val (.ref a741), .val (.ref a745), .val (.int (1 : Int32)), .val (.int (1 : Int32)), .unset] [])
                  refine gw_st (fun _ kq => XT.iconstV X826.here hx rfl (1 : Int32) (hb hby at_230) (by decide) kq) ?_
                  show GoW p e below s _ _ _ T826 (mkF m 231 #[.val (.int x0), .val (.int x1), .val (.int x2), .val (.int x3), .val (.int x4), .val (.int (3 : Int32)), .val (.int (3 : Int32)), .val (.int (x2 &&& (255 : Int32))), .val (.int (x3 &&& (255 : Int32))), .val (.int (x4 &&& (255 : Int32))), .val (.ref a741), .val (.ref a745), .val (.int (1 : Int32)), .val (.int (1 : Int32)), .unset] [(.int (1 : Int32))])
                  refine gw_st (fun _ kq => XS.goto X826.here hx rfl (pc0 := 231) (pc' := 235) rfl (hb hby at_231) (by decide) (by decide) kq) ?_
                  show GoW p e below s _ _ _ T826 (mkF m 235 #[.val (.int x0), .val (.int x1), .val (.int x2), .val (.int x3), .val (.int x4), .val (.int (3 : Int32)), .val (.int (3 : Int32)), .val (.int (x2 &&& (255 : Int32))), .val (.int (x3 &&& (255 : Int32))), .val (.int (x4 &&& (255 : Int32))), .val (.ref a741), .val (.ref a745), .val (.int (1 : Int32)), .val (.int (1 : Int32)), .unset] [(.int (1 : Int32))])
                  refine gw_st (fun _ kq => XS.istore X826.here hx rfl (hb hby at_235) rfl (l' := #[.val (.int x0), .val (.int x1), .val (.int x2), .val (.int x3), .val (.int x4), .val (.int (3 : Int32)), .val (.int (3 : Int32)), .val (.int (x2 &&& (255 : Int32))), .val (.int (x3 &&& (255 : Int32))), .val (.int (x4 &&& (255 : Int32))), .val (.ref a741), .val (.ref a745), .val (.int (1 : Int32)), .val (.int (1 : Int32)), .val (.int (1 : Int32))]) rfl kq) ?_
                  show GoW p e below s _ _ _ T826 (mkF m 237 #[.val (.int x0), .val (.int x1), .val (.int x2), .val (.int x3), .val (.int x4), .val (.int (3 : Int32)), .val (.int (3 : Int32)), .val (.int (x2 &&& (255 : Int32))), .val (.int (x3 &&& (255 : Int32))), .val (.int (x4 &&& (255 : Int32))), .val (.ref a741), .val (.ref a745), .val (.int (1 : Int32)), .val (.int (1 : Int32)), .val (.int (1 : Int32))] [])
                  refine gw_st (fun _ kq => XS.iload X826.here hx rfl (hb hby at_237) rfl kq) ?_
                  show GoW p e below s _ _ _ T826 (mkF m 239 #[.val (.int x0), .val (.int x1), .val (.int x2), .val (.int x3), .val (.int x4), .val (.int (3 : Int32)), .val (.int (3 : Int32)), .val (.int (x2 &&& (255 : Int32))), .val (.int (x3 &&& (255 : Int32))), .val (.int (x4 &&& (255 : Int32))), .val (.ref a741), .val (.ref a745), .val (.int (1 : Int32)), .val (.int (1 : Int32)), .val (.int (1 : Int32))] [(.int (1 : Int32))])
                  refine gw_st (fun _ kq => XS.ifNo X826.here hx rfl (hb hby at_239) rfl (XT.i0_eq_f (by decide)) kq) ?_
                  show GoW p e below s _ _ _ T826 (mkF m 242 #[.val (.int x0), .val (.int x1), .val (.int x2), .val (.int x3), .val (.int x4), .val (.int (3 : Int32)), .val (.int (3 : Int32)), .val (.int (x2 &&& (255 : Int32))), .val (.int (x3 &&& (255 : Int32))), .val (.int (x4 &&& (255 : Int32))), .val (.ref a741), .val (.ref a745), .val (.int (1 : Int32)), .val (.int (1 : Int32)), .val (.int (1 : Int32))] [])
                  refine gw_st (fun _ kq => XS.iload X826.here hx rfl (hb hby at_242) rfl kq) ?_
                  show GoW p e below s _ _ _ T826 (mkF m 244 #[.val (.int x0), .val (.int x1), .val (.int x2), .val (.int x3), .val (.int x4), .val (.int (3 : Int32)), .val (.int (3 : Int32)), .val (.int (x2 &&& (255 : Int32))), .val (.int (x3 &&& (255 : Int32))), .val (.int (x4 &&& (255 : Int32))), .val (.ref a741), .val (.ref a745), .val (.int (1 : Int32)), .val (.int (1 : Int32)), .val (.int (1 : Int32))] [(.int (1 : Int32))])
                  refine gw_st (fun _ kq => XS.ifNo X826.here hx rfl (hb hby at_244) rfl (XT.i0_eq_f (by decide)) kq) ?_
                  show GoW p e below s _ _ _ T826 (mkF m 247 #[.val (.int x0), .val (.int x1), .val (.int x2), .val (.int x3), .val (.int x4), .val (.int (3 : Int32)), .val (.int (3 : Int32)), .val (.int (x2 &&& (255 : Int32))), .val (.int (x3 &&& (255 : Int32))), .val (.int (x4 &&& (255 : Int32))), .val (.ref a741), .val (.ref a745), .val (.int (1 : Int32)), .val (.int (1 : Int32)), .val (.int (1 : Int32))] [])
                  refine gw_st (fun _ kq => XS.iload X826.here hx rfl (hb hby at_247) rfl kq) ?_
                  show GoW p e below s _ _ _ T826 (mkF m 249 #[.val (.int x0), .val (.int x1), .val (.int x2), .val (.int x3), .val (.int x4), .val (.int (3 : Int32)), .val (.int (3 : Int32)), .val (.int (x2 &&& (255 : Int32))), .val (.int (x3 &&& (255 : Int32))), .val (.int (x4 &&& (255 : Int32))), .val (.ref a741), .val (.ref a745), .val (.int (1 : Int32)), .val (.int (1 : Int32)), .val (.int (1 : Int32))] [(.int (1 : Int32))])
                  refine gw_st (fun _ kq => XS.ifNo X826.here hx rfl (hb hby at_249) rfl (XT.i0_eq_f (by decide)) kq) ?_
                  show GoW p e below s _ _ _ T826 (mkF m 252 #[.val (.int x0), .val (.int x1), .val (.int x2), .val (.int x3), .val (.int x4), .val (.int (3 : Int32)), .val (.int (3 : Int32)), .val (.int (x2 &&& (255 : Int32))), .val (.int (x3 &&& (255 : Int32))), .val (.int (x4 &&& (255 : Int32))), .val (.ref a741), .val (.ref a745), .val (.int (1 : Int32)), .val (.int (1 : Int32)), .val (.int (1 : Int32))] [])
                  refine gw_st (fun _ kq => XT.iconstV X826.here hx rfl (1 : Int32) (hb hby at_252) (by decide) kq) ?_
                  show GoW p e below s _ _ _ T826 (mkF m 253 #[.val (.int x0), .val (.int x1), .val (.int x2), .val (.int x3), .val (.int x4), .val (.int (3 : Int32)), .val (.int (3 : Int32)), .val (.int (x2 &&& (255 : Int32))), .val (.int (x3 &&& (255 : Int32))), .val (.int (x4 &&& (255 : Int32))), .val (.ref a741), .val (.ref a745), .val (.int (1 : Int32)), .val (.int (1 : Int32)), .val (.int (1 : Int32))] [(.int (1 : Int32))])
                  refine gw_st (fun _ kq => XS.goto X826.here hx rfl (pc0 := 253) (pc' := 257) rfl (hb hby at_253) (by decide) (by decide) kq) ?_
                  show GoW p e below s _ _ _ T826 (mkF m 257 #[.val (.int x0), .val (.int x1), .val (.int x2), .val (.int x3), .val (.int x4), .val (.int (3 : Int32)), .val (.int (3 : Int32)), .val (.int (x2 &&& (255 : Int32))), .val (.int (x3 &&& (255 : Int32))), .val (.int (x4 &&& (255 : Int32))), .val (.ref a741), .val (.ref a745), .val (.int (1 : Int32)), .val (.int (1 : Int32)), .val (.int (1 : Int32))] [(.int (1 : Int32))])
                  exact gw_retB (w := (1 : Int32)) X826 hx hlk hret (hb hby at_257) (by decide) (by decide) (by decide) ⟨rfl, N826⟩
                · exact (own_dk4 _ hk527 hk590 hk661 hk740).elim
        · exact (own_dn _ hk164 hk212 hk327 hk526).elim
set_option maxRecDepth 65536 in
set_option maxHeartbeats 4000000 in
theorem comes_1 {Post : Tables → Env → Array Value → State → Outcome → State → Prop} (hpost : ∀ tb e args s v u, (limb_1_1.after args s (.returned v) u = true ∧ limb_1_2.after args s (.returned v) u = true ∧ True) → ReturnedEndW s (.returned v) u (Jvm.fieldLocs frame_1_writes args s ++ Jvm.arrayLocs frame_1_arrays args s ++ Jvm.staticLocs frame_1_statics s) 24 1152 → Post tb e args s (.returned v) u) :
    ArmFor flags0 classFile x code maxLocals ret World_1 tables_1 room_1 Calls_1 rest_1 Pre_1 Post := by
  intro l hfl _ _ p e ha hc hk s m args below hf hA hF happ hP
  obtain ⟨hcalls, hrest, hpre⟩ := hP
  obtain ⟨-, -, -, hnamed, -, -, -, hat⟩ := (Spec.applies_iff hf).mp happ
  obtain ⟨hg, hn⟩ := and_e (Cond.before_iff.mp (show (Jvm.Cond.and given_1 narrow_1).before args s = true from hpre))
  obtain ⟨k1, r1⟩ := and_e hg
  obtain ⟨g0, r2⟩ := and_e r1
  obtain ⟨g1, r3⟩ := and_e r2
  obtain ⟨g2, r4⟩ := and_e r3
  obtain ⟨g3, r5⟩ := and_e r4
  have g4 := r5
  obtain ⟨w0, w1, w2, w3, w4, rfl⟩ : ∃ w0 w1 w2 w3 w4 : Value, args = #[w0, w1, w2, w3, w4] := by
    have hs : args.size = 5 := by simpa [Cond.value, given_1] using k1
    obtain ⟨L⟩ := args
    match L, hs with
    | [w0, w1, w2, w3, w4], _ => exact ⟨w0, w1, w2, w3, w4, rfl⟩
  have hw := fun d (hd : d ∈ tables_1) => atoms_spec (ws := Jvm.Cond.code x code maxLocals ret :: tables_1) hat d (List.mem_cons_of_mem _ hd)
  have hfit : Fit s := fun {y c} hc i hi => by
    obtain ⟨ha, rfl⟩ := Array.getElem?_eq_some_iff.mp hc
    have q := List.all_eq_true.mp ((Array.all_eq_true_iff_forall_mem.mp hF) _ (Array.getElem_mem ha)) i (List.mem_range.mpr hi)
    simpa [Array.getElem?_eq_getElem hi] using q
  obtain ⟨i0, f0⟩ := is_v g0
  obtain rfl : w0 = (.int i0) := Option.some.inj f0
  obtain ⟨i1, f1⟩ := is_v g1
  obtain rfl : w1 = (.int i1) := Option.some.inj f1
  obtain ⟨i2, f2⟩ := is_v g2
  obtain rfl : w2 = (.int i2) := Option.some.inj f2
  obtain ⟨i3, f3⟩ := is_v g3
  obtain rfl : w3 = (.int i3) := Option.some.inj f3
  obtain ⟨i4, f4⟩ := is_v g4
  obtain rfl : w4 = (.int i4) := Option.some.inj f4
  obtain ⟨hsets, hown0⟩ := atoms_of _ (rest_1_c_eq ▸ (show rest_1_c.before _ s = true from hrest))
  have n3 := not_v (Cond.before_iff.mp (hsets _ (List.mem_of_getElem? (i := 2) rfl)))
  obtain ⟨zc, ez⟩ := is_v (Cond.before_iff.mp (hsets _ (List.mem_of_getElem? (i := 1) rfl)))
  have S0 : Sta s s.heap "java/lang/String" "COMPACT_STRINGS" "Z" (.int zc) := Sta.start ez (Or.inl (hsets _ (List.mem_of_getElem? (i := 0) rfl)))
  have zn : ¬ (zc = (0 : Int32)) := gotF (Cond.eq_ints ez (Term.int_eval (0))) n3
  have hcst : ∀ q ∈ consts_1, Jvm.Lit.constHeld s q.1 q.2 := hcalls.1
  have hcw := hsets _ (List.mem_of_getElem? (i := 2) rfl)
  have hm := met_law l s _ hw i0 i1 i2 i3 i4 s.heap s.heap.size (Nat.le_refl _) zc (Old.start s) S0 zn
  obtain ⟨n, o, h1, h2, h3, _, L, rfl, ⟨rfl, N⟩, hq⟩ := hm p e ha hc hk s m _ below hf ((Spec.applies_iff_loose hf).mp happ).1 ⟨rfl, State.Warmed39.refl s, rfl, CHv.start (own_EL s _ hw) hcst hcw (hw _ (List.mem_of_getElem? (i := 19) rfl)) (hw _ (List.mem_of_getElem? (i := 6) rfl)), Safe.new (Nat.le_refl _)⟩ trivial
  refine ⟨n, _, h1, h2, h3, hpost _ _ _ _ _ _ ⟨Cond.after_iff.mpr rfl, Cond.after_iff.mpr (eq_i res_at (Term.int_eval (1)) rfl), trivial⟩ ⟨hq.1, hq.2.1, hq.2.2.1, (hq.2.2.2.sift fun y hy => Or.inr (N y hy)).mono (by decide) (by decide)⟩⟩
theorem main_1_1 : Claimed_1_1 := comes_1 fun _ _ _ _ _ _ h hF => ⟨h.1, hF⟩
theorem main_1_2 : Claimed_1_2 := comes_1 fun _ _ _ _ _ _ h hF => ⟨h.2.1, hF⟩
end Jvm.Pilot.@@N@@
namespace Jvm.Pilot.@@N@@
open Jvm Jvm.ClassFile Sem Op Lib Jvm.Free Jvm.Stand Jvm.Pilot.@@N@@.Jvm.D
/-! MADE BY PROGRAM (witnessworld.py) out of the Statement's table words and the real class files: 18 classes; the members and pool entries that the words name. The judged class is class 1, her method 1. -/
namespace start1
open Jvm.ClassFile
def u (s : String) : CpInfo := .utf8 (stringToUtf16 s)
/-- a pool by its gaps: so many unusable entries, then the entry; so many at the end -/
def gap : Nat → List CpInfo → List CpInfo
  | 0, r => r
  | n + 1, r => .unusable :: gap n r
def poolList (es : List (Nat × CpInfo)) (last : Nat) : List CpInfo := es.foldr (fun e r => gap e.1 (e.2 :: r)) (gap last [])
def pool (es : List (Nat × CpInfo)) (last : Nat) : Array CpInfo := ⟨poolList es last⟩
def fileOf (pool : Array CpInfo) (this : Nat) (attrs : Array Attribute := #[]) (ms : Array MethodInfo := #[]) (fl : Nat := 33) (sup : Nat := 0) (ifs : Array Nat := #[]) (fds : Array FieldInfo := #[]) : ClassFile where
  minorVersion := 0
  majorVersion := 65
  constantPool := pool
  accessFlags := fl
  thisClass := this
  superClass := sup
  interfaces := ifs
  fields := fds
  methods := ms
  attributes := attrs
def plain (name : String) (sup : Option ClassId) : Class where
  name := name
  kind := .ordinary
  loader := none
  accessFlags := 33
  super := sup
  interfaces := #[]
  cf := none
  fields := #[]
  methods := #[]
  instanceTypes := #[]
  staticTypes := #[]
  resolved := #[]
  callSites := []
  init := .initialized
  statics := none
  mirror := none

def pool0 : Array CpInfo := pool [(5, u "<init>"), (0, u "()V"), (1, .class_ 10), (1, u "java/lang/Object")] 113

def k0c0 : Code := { maxStack := 0, maxLocals := 1, code := object_method_1_code, exceptionTable := #[], attributes := #[] }
def k0m0 : Method := { name := "<init>", desc := "()V", sig := { parameters := [], returnType := none }, accessFlags := 1, code := some k0c0 }
/-- java/lang/Object -/
def k0 : Class := { plain "java/lang/Object" none with
  accessFlags := 33
  interfaces := #[]
  cf := some (fileOf pool0 8 #[] #[{ accessFlags := 1, nameIndex := 5, descriptorIndex := 6, attributes := #[] }] 33 0 #[] #[])
  fields := #[]
  methods := #[k0m0]
  instanceTypes := #[]
  staticTypes := #[]
  resolved := Array.replicate 124 none
  statics := none }

def pool1 : Array CpInfo := pool [(2, .class_ 4), (1, u "java/lang/Object"), (0, u "<init>"), (0, u "()V"), (0, .integer 2147483647), (0, .class_ 9), (0, u "com/example/wirecall/wirecall/TextCursor"), (0, .class_ 11), (0, u "java/lang/String"), (0, .methodref 10 13), (0, .nameAndType 5 14), (0, u "([C)V"), (0, .methodref 8 16), (0, .nameAndType 5 17), (0, u "(Ljava/lang/String;)V"), (0, .methodref 8 19), (0, .nameAndType 20 21), (0, u "atEnd"), (0, u "()Z"), (0, .methodref 8 23), (0, .nameAndType 24 6), (0, u "skip"), (0, .methodref 8 26), (0, .nameAndType 27 28), (0, u "offset"), (0, u "()I"), (0, .class_ 30), (0, u "com/example/wirecall/wirecall/TextCursorAtEndPinLaw"), (2, u "law"), (0, u "(IIIII)Z")] 5

def k1m0 : Method := { name := "<init>", desc := "()V", sig := { parameters := [], returnType := none }, accessFlags := 1, code := none }
def k1c1 : Code := { maxStack := 5, maxLocals := 15, code := code, exceptionTable := #[], attributes := #[] }
def k1m1 : Method := { name := "law", desc := "(IIIII)Z", sig := { parameters := [.int, .int, .int, .int, .int], returnType := some .boolean }, accessFlags := 9, code := some k1c1 }
/-- com/example/wirecall/wirecall/TextCursorAtEndPinLaw -/
def k1 : Class := { plain "com/example/wirecall/wirecall/TextCursorAtEndPinLaw" (some 0) with
  accessFlags := 49
  interfaces := #[]
  cf := some (fileOf pool1 29 #[] #[{ accessFlags := 1, nameIndex := 5, descriptorIndex := 6, attributes := #[] }, { accessFlags := 9, nameIndex := 33, descriptorIndex := 34, attributes := #[] }] 49 2 #[] #[])
  fields := #[]
  methods := #[k1m0, k1m1]
  instanceTypes := #[]
  staticTypes := #[]
  resolved := Array.replicate 40 none
  statics := none }

def pool2 : Array CpInfo := pool [(1, .methodref 2 3), (0, .class_ 4), (0, .nameAndType 5 6), (0, u "java/lang/Object"), (0, u "<init>"), (0, u "()V"), (0, .fieldref 8 9), (0, .class_ 10), (0, .nameAndType 11 12), (0, u "com/example/wirecall/wirecall/TextCursor"), (0, u "text"), (0, u "Ljava/lang/String;"), (0, .fieldref 8 14), (0, .nameAndType 15 16), (0, u "pos"), (0, u "I"), (0, .methodref 18 19), (0, .class_ 20), (0, .nameAndType 21 22), (0, u "java/lang/String"), (0, u "length"), (0, u "()I"), (54, u "skip"), (36, u "atEnd"), (0, u "()Z"), (28, u "(Ljava/lang/String;)V"), (0, u "ESCAPES"), (1, u "ESCAPED"), (2, u "offset")] 34

def k2c0 : Code := { maxStack := 2, maxLocals := 2, code := prog_21_method_1_code, exceptionTable := #[], attributes := #[] }
def k2m0 : Method := { name := "<init>", desc := "(Ljava/lang/String;)V", sig := { parameters := [(.object "java/lang/String")], returnType := none }, accessFlags := 0, code := some k2c0 }
def k2c1 : Code := { maxStack := 1, maxLocals := 1, code := prog_21_method_2_code, exceptionTable := #[], attributes := #[] }
def k2m1 : Method := { name := "offset", desc := "()I", sig := { parameters := [], returnType := some .int }, accessFlags := 0, code := some k2c1 }
def k2c2 : Code := { maxStack := 2, maxLocals := 1, code := prog_21_method_3_code, exceptionTable := #[], attributes := #[] }
def k2m2 : Method := { name := "atEnd", desc := "()Z", sig := { parameters := [], returnType := some .boolean }, accessFlags := 0, code := some k2c2 }
def k2c3 : Code := { maxStack := 3, maxLocals := 1, code := prog_21_method_6_code, exceptionTable := #[], attributes := #[] }
def k2m3 : Method := { name := "skip", desc := "()V", sig := { parameters := [], returnType := none }, accessFlags := 0, code := some k2c3 }
/-- com/example/wirecall/wirecall/TextCursor -/
def k2 : Class := { plain "com/example/wirecall/wirecall/TextCursor" (some 0) with
  accessFlags := 48
  interfaces := #[]
  cf := some (fileOf pool2 8 #[] #[{ accessFlags := 0, nameIndex := 5, descriptorIndex := 144, attributes := #[] }, { accessFlags := 0, nameIndex := 150, descriptorIndex := 22, attributes := #[] }, { accessFlags := 0, nameIndex := 114, descriptorIndex := 115, attributes := #[] }, { accessFlags := 0, nameIndex := 77, descriptorIndex := 6, attributes := #[] }] 48 2 #[] #[{ accessFlags := 26, nameIndex := 145, descriptorIndex := 12, attributes := #[] }, { accessFlags := 26, nameIndex := 147, descriptorIndex := 12, attributes := #[] }, { accessFlags := 18, nameIndex := 11, descriptorIndex := 12, attributes := #[] }, { accessFlags := 2, nameIndex := 15, descriptorIndex := 16, attributes := #[] }])
  fields := #[{ name := "ESCAPES", type := (.object "java/lang/String"), accessFlags := 26, slot := 0, constantValue := 0 }, { name := "ESCAPED", type := (.object "java/lang/String"), accessFlags := 26, slot := 1, constantValue := 0 }, { name := "text", type := (.object "java/lang/String"), accessFlags := 18, slot := 0, constantValue := 0 }, { name := "pos", type := .int, accessFlags := 2, slot := 1, constantValue := 0 }]
  methods := #[k2m0, k2m1, k2m2, k2m3]
  instanceTypes := #[(.object "java/lang/String"), .int]
  staticTypes := #[(.object "java/lang/String"), (.object "java/lang/String")]
  resolved := Array.replicate 185 none
  statics := none }

def pool3 : Array CpInfo := pool [(1, .class_ 2), (0, u "java/io/Serializable"), (0, .class_ 4), (0, u "java/lang/Object")] 2

/-- java/io/Serializable -/
def k3 : Class := { plain "java/io/Serializable" (some 0) with
  accessFlags := 1537
  interfaces := #[]
  cf := some (fileOf pool3 1 #[] #[] 1537 3 #[] #[])
  fields := #[]
  methods := #[]
  instanceTypes := #[]
  staticTypes := #[]
  resolved := Array.replicate 7 none
  statics := none }

def pool4 : Array CpInfo := pool [(1, .class_ 2), (0, u "java/lang/Comparable"), (0, .class_ 4), (0, u "java/lang/Object")] 7

/-- java/lang/Comparable -/
def k4 : Class := { plain "java/lang/Comparable" (some 0) with
  accessFlags := 1537
  interfaces := #[]
  cf := some (fileOf pool4 1 #[] #[] 1537 3 #[] #[])
  fields := #[]
  methods := #[]
  instanceTypes := #[]
  staticTypes := #[]
  resolved := Array.replicate 12 none
  statics := none }

def pool5 : Array CpInfo := pool [(2, .class_ 4), (1, u "java/lang/CharSequence"), (42, .class_ 48), (0, u "java/lang/CharSequence$1CodePointIterator"), (10, .class_ 60), (0, u "java/lang/CharSequence$1CharIterator"), (5, .class_ 67), (0, u "java/lang/Object")] 63

/-- java/lang/CharSequence -/
def k5 : Class := { plain "java/lang/CharSequence" (some 0) with
  accessFlags := 1537
  interfaces := #[]
  cf := some (fileOf pool5 2 #[.nestMembers #[47, 59]] #[] 1537 66 #[] #[])
  fields := #[]
  methods := #[]
  instanceTypes := #[]
  staticTypes := #[]
  resolved := Array.replicate 131 none
  statics := none }

def pool6 : Array CpInfo := pool [(1, .class_ 2), (0, u "java/lang/constant/Constable"), (0, .class_ 4), (0, u "java/lang/Object")] 6

/-- java/lang/constant/Constable -/
def k6 : Class := { plain "java/lang/constant/Constable" (some 0) with
  accessFlags := 1537
  interfaces := #[]
  cf := some (fileOf pool6 1 #[] #[] 1537 3 #[] #[])
  fields := #[]
  methods := #[]
  instanceTypes := #[]
  staticTypes := #[]
  resolved := Array.replicate 11 none
  statics := none }

def pool7 : Array CpInfo := pool [(1, .class_ 2), (0, u "java/lang/constant/ConstantDesc"), (0, .class_ 4), (0, u "java/lang/Object")] 32

/-- java/lang/constant/ConstantDesc -/
def k7 : Class := { plain "java/lang/constant/ConstantDesc" (some 0) with
  accessFlags := 1537
  interfaces := #[]
  cf := some (fileOf pool7 1 #[] #[] 1537 3 #[] #[])
  fields := #[]
  methods := #[]
  instanceTypes := #[]
  staticTypes := #[]
  resolved := Array.replicate 37 none
  statics := none }

def pool8 : Array CpInfo := pool [(1, .methodref 2 3), (0, .class_ 4), (0, .nameAndType 5 6), (0, u "java/lang/Object"), (0, u "<init>"), (0, u "()V"), (0, .string 8), (0, u ""), (0, .fieldref 10 11), (0, .class_ 12), (0, .nameAndType 13 14), (0, u "java/lang/String"), (0, u "value"), (0, u "[B"), (0, .fieldref 10 16), (0, .nameAndType 17 18), (0, u "coder"), (0, u "B"), (2, u "hash"), (0, u "I"), (2, u "hashIsZero"), (0, u "Z"), (0, .methodref 10 28), (0, .nameAndType 5 29), (0, u "([CIILjava/lang/Void;)V"), (8, .fieldref 10 39), (0, .nameAndType 40 26), (0, u "COMPACT_STRINGS"), (1, .class_ 44), (1, u "java/lang/StringUTF16"), (0, u "compress"), (1, .methodref 42 48), (0, .nameAndType 49 50), (0, u "coderFromArrayLen"), (0, u "([BI)B"), (126, .methodref 42 178), (0, .nameAndType 45 179), (0, u "([CII)[B"), (154, u "()I"), (0, .methodref 10 336), (0, .nameAndType 17 337), (0, u "()B"), (169, u "length"), (67, .class_ 576), (0, u "java/lang/CharSequence"), (22, u "CASE_INSENSITIVE_ORDER"), (0, u "Ljava/util/Comparator;"), (409, u "([C)V"), (90, u "serialPersistentFields"), (0, u "[Ljava/io/ObjectStreamField;"), (0, .class_ 1104), (0, u "java/lang/String$CaseInsensitiveComparator"), (1, .class_ 1107), (0, u "java/io/Serializable"), (0, .class_ 1109), (0, u "java/lang/Comparable"), (0, .class_ 1111), (0, u "java/lang/constant/Constable"), (0, .class_ 1113), (0, u "java/lang/constant/ConstantDesc"), (2, u "serialVersionUID"), (0, u "J"), (3, u "REPL"), (0, u "C"), (2, u "LATIN1"), (1, u "UTF16")] 323

def k8m0 : Method := { name := "<init>", desc := "()V", sig := { parameters := [], returnType := none }, accessFlags := 1, code := none }
def k8c1 : Code := { maxStack := 5, maxLocals := 2, code := jdk_42_method_3_code, exceptionTable := #[], attributes := #[] }
def k8m1 : Method := { name := "<init>", desc := "([C)V", sig := { parameters := [(.array .char)], returnType := none }, accessFlags := 1, code := some k8c1 }
def k8c2 : Code := { maxStack := 2, maxLocals := 1, code := jdk_42_method_54_code, exceptionTable := #[], attributes := #[] }
def k8m2 : Method := { name := "length", desc := "()I", sig := { parameters := [], returnType := some .int }, accessFlags := 1, code := some k8c2 }
def k8c3 : Code := { maxStack := 4, maxLocals := 6, code := jdk_42_method_149_code, exceptionTable := #[], attributes := #[] }
def k8m3 : Method := { name := "<init>", desc := "([CIILjava/lang/Void;)V", sig := { parameters := [(.array .char), .int, .int, (.object "java/lang/Void")], returnType := none }, accessFlags := 2, code := some k8c3 }
def k8c4 : Code := { maxStack := 1, maxLocals := 1, code := jdk_42_method_152_code, exceptionTable := #[], attributes := #[] }
def k8m4 : Method := { name := "coder", desc := "()B", sig := { parameters := [], returnType := some .byte }, accessFlags := 0, code := some k8c4 }
/-- java/lang/String -/
def k8 : Class := { plain "java/lang/String" (some 0) with
  accessFlags := 49
  interfaces := #[3, 4, 5, 6, 7]
  cf := some (fileOf pool8 10 #[.nestMembers #[1103]] #[{ accessFlags := 1, nameIndex := 5, descriptorIndex := 6, attributes := #[] }, { accessFlags := 1, nameIndex := 5, descriptorIndex := 1010, attributes := #[] }, { accessFlags := 1, nameIndex := 507, descriptorIndex := 334, attributes := #[] }, { accessFlags := 2, nameIndex := 5, descriptorIndex := 29, attributes := #[] }, { accessFlags := 0, nameIndex := 17, descriptorIndex := 337, attributes := #[] }] 49 2 #[1106, 1108, 575, 1110, 1112] #[{ accessFlags := 18, nameIndex := 13, descriptorIndex := 14, attributes := #[] }, { accessFlags := 18, nameIndex := 17, descriptorIndex := 18, attributes := #[] }, { accessFlags := 2, nameIndex := 21, descriptorIndex := 22, attributes := #[] }, { accessFlags := 2, nameIndex := 25, descriptorIndex := 26, attributes := #[] }, { accessFlags := 26, nameIndex := 1116, descriptorIndex := 1117, attributes := #[] }, { accessFlags := 24, nameIndex := 40, descriptorIndex := 26, attributes := #[] }, { accessFlags := 26, nameIndex := 1101, descriptorIndex := 1102, attributes := #[] }, { accessFlags := 26, nameIndex := 1121, descriptorIndex := 1122, attributes := #[] }, { accessFlags := 25, nameIndex := 599, descriptorIndex := 600, attributes := #[] }, { accessFlags := 24, nameIndex := 1125, descriptorIndex := 18, attributes := #[] }, { accessFlags := 24, nameIndex := 1127, descriptorIndex := 18, attributes := #[] }])
  fields := #[{ name := "value", type := (.array .byte), accessFlags := 18, slot := 0, constantValue := 0 }, { name := "coder", type := .byte, accessFlags := 18, slot := 1, constantValue := 0 }, { name := "hash", type := .int, accessFlags := 2, slot := 2, constantValue := 0 }, { name := "hashIsZero", type := .boolean, accessFlags := 2, slot := 3, constantValue := 0 }, { name := "serialVersionUID", type := .long, accessFlags := 26, slot := 0, constantValue := 0 }, { name := "COMPACT_STRINGS", type := .boolean, accessFlags := 24, slot := 1, constantValue := 0 }, { name := "serialPersistentFields", type := (.array (.object "java/io/ObjectStreamField")), accessFlags := 26, slot := 2, constantValue := 0 }, { name := "REPL", type := .char, accessFlags := 26, slot := 3, constantValue := 0 }, { name := "CASE_INSENSITIVE_ORDER", type := (.object "java/util/Comparator"), accessFlags := 25, slot := 4, constantValue := 0 }, { name := "LATIN1", type := .byte, accessFlags := 24, slot := 5, constantValue := 0 }, { name := "UTF16", type := .byte, accessFlags := 24, slot := 6, constantValue := 0 }]
  methods := #[k8m0, k8m1, k8m2, k8m3, k8m4]
  instanceTypes := #[(.array .byte), .byte, .int, .boolean]
  staticTypes := #[.long, .boolean, (.array (.object "java/io/ObjectStreamField")), .char, (.object "java/util/Comparator"), .byte, .byte]
  resolved := Array.replicate 1451 none
  statics := some 0 }

def pool9 : Array CpInfo := pool [(6, .class_ 8), (1, u "java/lang/Object"), (0, u "<init>"), (0, u "()V"), (1, .class_ 14), (1, u "java/lang/StringUTF16"), (31, u "$assertionsDisabled"), (0, u "Z"), (13, u "HI_BYTE_SHIFT"), (0, u "I"), (2, u "LO_BYTE_SHIFT"), (49, .methodref 12 116), (0, .nameAndType 117 118), (0, u "compress"), (0, u "([CI[BII)I"), (3, u "([CII)[B"), (138, u "coderFromArrayLen"), (0, u "([BI)B"), (106, .class_ 371), (1, u "java/lang/StringUTF16$LinesSpliterator"), (58, u "MAX_LENGTH"), (196, .class_ 628), (0, u "java/lang/StringUTF16$CodePointsSpliterator"), (0, .class_ 630), (0, u "java/lang/StringUTF16$CharsSpliterator")] 4

def k9m0 : Method := { name := "<init>", desc := "()V", sig := { parameters := [], returnType := none }, accessFlags := 0, code := none }
def k9c1 : Code := { maxStack := 2, maxLocals := 2, code := jdk_52_method_15_code, exceptionTable := #[], attributes := #[] }
def k9m1 : Method := { name := "coderFromArrayLen", desc := "([BI)B", sig := { parameters := [(.array .byte), .int], returnType := some .byte }, accessFlags := 8, code := some k9c1 }
def k9c2 : Code := { maxStack := 5, maxLocals := 6, code := jdk_52_method_16_code, exceptionTable := #[], attributes := #[] }
def k9m2 : Method := { name := "compress", desc := "([CII)[B", sig := { parameters := [(.array .char), .int, .int], returnType := some (.array .byte) }, accessFlags := 9, code := some k9c2 }
def k9c3 : Code := { maxStack := 3, maxLocals := 7, code := jdk_52_method_21_code, exceptionTable := #[], attributes := #[] }
def k9m3 : Method := { name := "compress", desc := "([CI[BII)I", sig := { parameters := [(.array .char), .int, (.array .byte), .int, .int], returnType := some .int }, accessFlags := 9, code := some k9c3 }
/-- java/lang/StringUTF16 -/
def k9 : Class := { plain "java/lang/StringUTF16" (some 0) with
  accessFlags := 48
  interfaces := #[]
  cf := some (fileOf pool9 12 #[.nestMembers #[627, 629, 369]] #[{ accessFlags := 0, nameIndex := 9, descriptorIndex := 10, attributes := #[] }, { accessFlags := 8, nameIndex := 261, descriptorIndex := 262, attributes := #[] }, { accessFlags := 9, nameIndex := 117, descriptorIndex := 122, attributes := #[] }, { accessFlags := 9, nameIndex := 117, descriptorIndex := 118, attributes := #[] }] 48 6 #[] #[{ accessFlags := 26, nameIndex := 61, descriptorIndex := 62, attributes := #[] }, { accessFlags := 26, nameIndex := 65, descriptorIndex := 62, attributes := #[] }, { accessFlags := 24, nameIndex := 430, descriptorIndex := 62, attributes := #[] }, { accessFlags := 4120, nameIndex := 46, descriptorIndex := 47, attributes := #[] }])
  fields := #[{ name := "HI_BYTE_SHIFT", type := .int, accessFlags := 26, slot := 0, constantValue := 0 }, { name := "LO_BYTE_SHIFT", type := .int, accessFlags := 26, slot := 1, constantValue := 0 }, { name := "MAX_LENGTH", type := .int, accessFlags := 24, slot := 2, constantValue := 0 }, { name := "$assertionsDisabled", type := .boolean, accessFlags := 4120, slot := 3, constantValue := 0 }]
  methods := #[k9m0, k9m1, k9m2, k9m3]
  instanceTypes := #[]
  staticTypes := #[.int, .int, .int, .boolean]
  resolved := Array.replicate 635 none
  statics := none }

def pool10 : Array CpInfo := pool [(4, .class_ 6), (1, u "java/lang/Object"), (0, u "<init>"), (0, u "()V"), (5, .class_ 16), (1, u "java/lang/StringLatin1"), (104, u "$assertionsDisabled"), (0, u "Z"), (98, .class_ 223), (1, u "java/lang/StringLatin1$LinesSpliterator"), (166, .class_ 391), (0, u "java/lang/StringLatin1$CharsSpliterator")] 3

def k10m0 : Method := { name := "<init>", desc := "()V", sig := { parameters := [], returnType := none }, accessFlags := 0, code := none }
/-- java/lang/StringLatin1 -/
def k10 : Class := { plain "java/lang/StringLatin1" (some 0) with
  accessFlags := 48
  interfaces := #[]
  cf := some (fileOf pool10 14 #[.nestMembers #[390, 221]] #[{ accessFlags := 0, nameIndex := 7, descriptorIndex := 8, attributes := #[] }] 48 4 #[] #[{ accessFlags := 4120, nameIndex := 121, descriptorIndex := 122, attributes := #[] }])
  fields := #[{ name := "$assertionsDisabled", type := .boolean, accessFlags := 4120, slot := 0, constantValue := 0 }]
  methods := #[k10m0]
  instanceTypes := #[]
  staticTypes := #[.boolean]
  resolved := Array.replicate 395 none
  statics := none }

def pool11 : Array CpInfo := pool [(2, .class_ 4), (1, u "java/lang/Object"), (0, u "<init>"), (0, u "()V"), (17, .class_ 26), (1, u "jdk/internal/util/Preconditions"), (28, .class_ 56), (0, u "jdk/internal/util/Preconditions$4"), (57, .class_ 115), (0, u "jdk/internal/util/Preconditions$1"), (7, u "SIOOBE_FORMATTER"), (0, u "Ljava/util/function/BiFunction;"), (0, .class_ 126), (0, u "jdk/internal/util/Preconditions$2"), (3, u "AIOOBE_FORMATTER"), (0, .class_ 132), (0, u "jdk/internal/util/Preconditions$3"), (3, u "IOOBE_FORMATTER")] 57

def k11m0 : Method := { name := "<init>", desc := "()V", sig := { parameters := [], returnType := none }, accessFlags := 1, code := none }
/-- jdk/internal/util/Preconditions -/
def k11 : Class := { plain "jdk/internal/util/Preconditions" (some 0) with
  accessFlags := 33
  interfaces := #[]
  cf := some (fileOf pool11 24 #[.nestMembers #[55, 131, 125, 114]] #[{ accessFlags := 1, nameIndex := 5, descriptorIndex := 6, attributes := #[] }] 33 2 #[] #[{ accessFlags := 25, nameIndex := 123, descriptorIndex := 124, attributes := #[] }, { accessFlags := 25, nameIndex := 130, descriptorIndex := 124, attributes := #[] }, { accessFlags := 25, nameIndex := 136, descriptorIndex := 124, attributes := #[] }])
  fields := #[{ name := "SIOOBE_FORMATTER", type := (.object "java/util/function/BiFunction"), accessFlags := 25, slot := 0, constantValue := 0 }, { name := "AIOOBE_FORMATTER", type := (.object "java/util/function/BiFunction"), accessFlags := 25, slot := 1, constantValue := 0 }, { name := "IOOBE_FORMATTER", type := (.object "java/util/function/BiFunction"), accessFlags := 25, slot := 2, constantValue := 0 }]
  methods := #[k11m0]
  instanceTypes := #[]
  staticTypes := #[(.object "java/util/function/BiFunction"), (.object "java/util/function/BiFunction"), (.object "java/util/function/BiFunction")]
  resolved := Array.replicate 194 none
  statics := some 1 }

def pool12 : Array CpInfo := pool [(9, u "<init>"), (6, .class_ 18), (1, u "java/lang/Object"), (0, u "()V"), (1, .class_ 23), (1, u "jdk/internal/util/ArraysSupport"), (0, u "LOG2_ARRAY_LONG_INDEX_SCALE"), (0, u "I"), (2, u "U"), (0, u "Ljdk/internal/misc/Unsafe;"), (8, u "BIG_ENDIAN"), (0, u "Z"), (8, u "LOG2_BYTE_BIT_SIZE"), (4, u "LOG2_ARRAY_INT_INDEX_SCALE"), (54, u "JLA"), (0, u "Ljdk/internal/access/JavaLangAccess;"), (11, u "LOG2_ARRAY_BOOLEAN_INDEX_SCALE"), (9, u "LOG2_ARRAY_BYTE_INDEX_SCALE"), (5, u "LOG2_ARRAY_CHAR_INDEX_SCALE"), (5, u "LOG2_ARRAY_SHORT_INDEX_SCALE"), (18, u "LOG2_ARRAY_FLOAT_INDEX_SCALE"), (24, u "LOG2_ARRAY_DOUBLE_INDEX_SCALE"), (89, u "T_BOOLEAN"), (2, u "T_CHAR"), (1, u "T_FLOAT"), (1, u "T_DOUBLE"), (1, u "T_BYTE"), (1, u "T_SHORT"), (1, u "T_INT"), (1, u "T_LONG"), (1, u "SOFT_MAX_ARRAY_LENGTH")] 83

def k12m0 : Method := { name := "<init>", desc := "()V", sig := { parameters := [], returnType := none }, accessFlags := 2, code := none }
/-- jdk/internal/util/ArraysSupport -/
def k12 : Class := { plain "jdk/internal/util/ArraysSupport" (some 0) with
  accessFlags := 33
  interfaces := #[]
  cf := some (fileOf pool12 21 #[] #[{ accessFlags := 2, nameIndex := 9, descriptorIndex := 19, attributes := #[] }] 33 16 #[] #[{ accessFlags := 24, nameIndex := 28, descriptorIndex := 29, attributes := #[] }, { accessFlags := 26, nameIndex := 38, descriptorIndex := 39, attributes := #[] }, { accessFlags := 25, nameIndex := 121, descriptorIndex := 25, attributes := #[] }, { accessFlags := 25, nameIndex := 131, descriptorIndex := 25, attributes := #[] }, { accessFlags := 25, nameIndex := 137, descriptorIndex := 25, attributes := #[] }, { accessFlags := 25, nameIndex := 143, descriptorIndex := 25, attributes := #[] }, { accessFlags := 25, nameIndex := 53, descriptorIndex := 25, attributes := #[] }, { accessFlags := 25, nameIndex := 24, descriptorIndex := 25, attributes := #[] }, { accessFlags := 25, nameIndex := 162, descriptorIndex := 25, attributes := #[] }, { accessFlags := 25, nameIndex := 187, descriptorIndex := 25, attributes := #[] }, { accessFlags := 26, nameIndex := 48, descriptorIndex := 25, attributes := #[] }, { accessFlags := 25, nameIndex := 277, descriptorIndex := 25, attributes := #[] }, { accessFlags := 25, nameIndex := 280, descriptorIndex := 25, attributes := #[] }, { accessFlags := 25, nameIndex := 282, descriptorIndex := 25, attributes := #[] }, { accessFlags := 25, nameIndex := 284, descriptorIndex := 25, attributes := #[] }, { accessFlags := 25, nameIndex := 286, descriptorIndex := 25, attributes := #[] }, { accessFlags := 25, nameIndex := 288, descriptorIndex := 25, attributes := #[] }, { accessFlags := 25, nameIndex := 290, descriptorIndex := 25, attributes := #[] }, { accessFlags := 25, nameIndex := 292, descriptorIndex := 25, attributes := #[] }, { accessFlags := 26, nameIndex := 108, descriptorIndex := 109, attributes := #[] }, { accessFlags := 25, nameIndex := 294, descriptorIndex := 25, attributes := #[] }])
  fields := #[{ name := "U", type := (.object "jdk/internal/misc/Unsafe"), accessFlags := 24, slot := 0, constantValue := 0 }, { name := "BIG_ENDIAN", type := .boolean, accessFlags := 26, slot := 1, constantValue := 0 }, { name := "LOG2_ARRAY_BOOLEAN_INDEX_SCALE", type := .int, accessFlags := 25, slot := 2, constantValue := 0 }, { name := "LOG2_ARRAY_BYTE_INDEX_SCALE", type := .int, accessFlags := 25, slot := 3, constantValue := 0 }, { name := "LOG2_ARRAY_CHAR_INDEX_SCALE", type := .int, accessFlags := 25, slot := 4, constantValue := 0 }, { name := "LOG2_ARRAY_SHORT_INDEX_SCALE", type := .int, accessFlags := 25, slot := 5, constantValue := 0 }, { name := "LOG2_ARRAY_INT_INDEX_SCALE", type := .int, accessFlags := 25, slot := 6, constantValue := 0 }, { name := "LOG2_ARRAY_LONG_INDEX_SCALE", type := .int, accessFlags := 25, slot := 7, constantValue := 0 }, { name := "LOG2_ARRAY_FLOAT_INDEX_SCALE", type := .int, accessFlags := 25, slot := 8, constantValue := 0 }, { name := "LOG2_ARRAY_DOUBLE_INDEX_SCALE", type := .int, accessFlags := 25, slot := 9, constantValue := 0 }, { name := "LOG2_BYTE_BIT_SIZE", type := .int, accessFlags := 26, slot := 10, constantValue := 0 }, { name := "T_BOOLEAN", type := .int, accessFlags := 25, slot := 11, constantValue := 0 }, { name := "T_CHAR", type := .int, accessFlags := 25, slot := 12, constantValue := 0 }, { name := "T_FLOAT", type := .int, accessFlags := 25, slot := 13, constantValue := 0 }, { name := "T_DOUBLE", type := .int, accessFlags := 25, slot := 14, constantValue := 0 }, { name := "T_BYTE", type := .int, accessFlags := 25, slot := 15, constantValue := 0 }, { name := "T_SHORT", type := .int, accessFlags := 25, slot := 16, constantValue := 0 }, { name := "T_INT", type := .int, accessFlags := 25, slot := 17, constantValue := 0 }, { name := "T_LONG", type := .int, accessFlags := 25, slot := 18, constantValue := 0 }, { name := "JLA", type := (.object "jdk/internal/access/JavaLangAccess"), accessFlags := 26, slot := 19, constantValue := 0 }, { name := "SOFT_MAX_ARRAY_LENGTH", type := .int, accessFlags := 25, slot := 20, constantValue := 0 }]
  methods := #[k12m0]
  instanceTypes := #[]
  staticTypes := #[(.object "jdk/internal/misc/Unsafe"), .boolean, .int, .int, .int, .int, .int, .int, .int, .int, .int, .int, .int, .int, .int, .int, .int, .int, .int, (.object "jdk/internal/access/JavaLangAccess"), .int]
  resolved := Array.replicate 378 none
  statics := none }

def pool13 : Array CpInfo := pool [(1, u "java/lang/Cloneable"), (0, .class_ 1), (0, u "java/lang/Object"), (0, .class_ 3)] 3

/-- java/lang/Cloneable -/
def k13 : Class := { plain "java/lang/Cloneable" (some 0) with
  accessFlags := 1537
  interfaces := #[]
  cf := some (fileOf pool13 2 #[] #[] 1537 4 #[] #[])
  fields := #[]
  methods := #[]
  instanceTypes := #[]
  staticTypes := #[]
  resolved := Array.replicate 8 none
  statics := none }

/-- the primitive byte -/
def k14 : Class := { plain "byte" none with kind := .primitive 'B', accessFlags := 0x411 }
/-- [B -/
def k15 : Class := { plain "[B" (some 0) with kind := .array 14 .byte, interfaces := #[13, 3], accessFlags := 1041 }

/-- the primitive char -/
def k16 : Class := { plain "char" none with kind := .primitive 'C', accessFlags := 0x411 }
/-- [C -/
def k17 : Class := { plain "[C" (some 0) with kind := .array 16 .char, interfaces := #[13, 3], accessFlags := 1041 }

def heap : Heap := #[{ cls := 8, slots := #[.long 0, .int 1, .null, .int 0, .null, .int 0, .int 0], vm := .statics 8 },
  { cls := 11, slots := #[.null, .null, .null], vm := .statics 11 }]
def classes : Array Class := #[k0, k1, k2, k3, k4, k5, k6, k7, k8, k9, k10, k11, k12, k13, k14, k15, k16, k17]
def interned : List (Array UInt16 × Addr) := []
def slotsUsed : Nat := 10
def theMethod : MethodId := ⟨1, 1⟩
def args0 : Array Value := #[.int 5, .int 6, .int 7, .int 8, .int 9]
def aboutOver (below : List Frame) : State where
  vm := { classes := classes, interned := interned.toArray }
  heap := heap
  slotsUsed := slotsUsed
  threads := #[{ frames := .invoking theMethod args0 :: below }]
def below0 : List Frame := [.native { method := ⟨0, 0⟩, args := #[] }]
def about1 : State := aboutOver below0
def p0 : Program := .bare "" "" ""
def e0 : Env := launch0.env 0 0 0
theorem w_frames : about1.frames = Frame.invoking theMethod args0 :: below0 := rfl
set_option maxRecDepth 65536 in
theorem w_args : argsFit about1.vm theMethod args0 = true := by decide +kernel
set_option maxRecDepth 65536 in
theorem w_heap : heapFits about1 = true := by decide +kernel
set_option maxRecDepth 65536 in
theorem w_runnable : about1.curStatus? = some .runnable := by decide +kernel
set_option maxRecDepth 65536 in
theorem w_alone : about1.alone = true := by decide +kernel
set_option maxRecDepth 65536 in
theorem w_named : about1.methodNamed? x = some theMethod := by decide +kernel
set_option maxRecDepth 65536 in
theorem w_hears : about1.hears theMethod below0 = true := by decide +kernel
set_option maxRecDepth 65536 in
theorem w_ripe : about1.ripe theMethod args0 below0 = true := by decide +kernel
theorem w_running : about1.status = .running := rfl
set_option maxRecDepth 65536 in
theorem w_room : about1.hasRoom e0.platform room_1 = true :=
  launch0.hasRoom_least _ room_1 (by decide +kernel) (by decide +kernel) (by decide +kernel) (by decide +kernel) (by decide +kernel) (by decide +kernel)
theorem allAtoms_all (ts : List Jvm.Cond) (a : Array Jvm.Value) (st : Jvm.State) : (allAtoms ts).before a st = ts.all (fun c => c.before a st) := by
  induction ts with
  | nil => rfl
  | cons c t ih =>
    show (Jvm.Cond.and c (allAtoms t)).before a st = _
    rw [Jvm.Cond.before_and, ih, List.all_cons]
def words1 : List Jvm.Cond := Jvm.Cond.code x code maxLocals ret :: tables_1
/-- a 'code' word, met by the world's own term for the bytes: nothing is compared byte by byte -/
theorem code_word {y : MethodName} {bytes : ByteArray} {mx : Nat} {rt : Option FieldType} {a : Array Value} {s : State} {m : MethodId} {meth : Method} {c : Code} (h1 : s.methodNamed? y = some m) (h2 : s.vm.method? m = some meth) (h3 : meth.code = some c) (h4 : c.code = bytes)
    (h5 : (c.maxLocals == mx && c.exceptionTable.isEmpty && decide (c.maxStack ≤ mostOperands) && decide (meth.sig.returnType = rt) && !meth.locks && decide (parseMethodDescriptor y.desc = some meth.sig)) = true) : (Jvm.Cond.code y bytes mx rt).before a s = true := by
  simp only [Bool.and_eq_true, beq_iff_eq, Bool.not_eq_true', decide_eq_true_eq] at h5
  obtain ⟨⟨⟨⟨⟨g1, g2⟩, g3⟩, g4⟩, g5⟩, g6⟩ := h5
  simp [Cond.before, Cond.holds, Cond.value, h1, h2, h3, h4, g1, g2, g3, g4, g5, g6]
def isCode : Jvm.Cond → Bool
  | .code _ _ _ _ => true
  | _ => false
theorem all_split {L : List Jvm.Cond} {P : Jvm.Cond → Bool} (h1 : L.all (fun c => isCode c || P c) = true) (h2 : ∀ c ∈ L.filter isCode, P c = true) : L.all P = true := by
  refine List.all_eq_true.mpr fun c hc => ?_
  have h := List.all_eq_true.mp h1 c hc
  rcases Bool.eq_false_or_eq_true (isCode c) with hi | hi
  · exact h2 c (List.mem_filter.mpr ⟨hc, hi⟩)
  · simpa [hi] using h
set_option maxRecDepth 65536 in
theorem w_c0 : (Jvm.Cond.code x code maxLocals ret).before args0 about1 = true := code_word (m := ⟨1, 1⟩) (meth := k1m1) (c := k1c1) (by decide +kernel) rfl rfl rfl (by decide +kernel)
set_option maxRecDepth 65536 in
theorem w_c1 : (Jvm.Cond.code ({ cls := "java/lang/String", name := "<init>", desc := "([C)V" } : Jvm.MethodName) jdk_42_method_3_code (2 : Nat) (Option.none : Option Jvm.ClassFile.FieldType)).before args0 about1 = true := code_word (m := ⟨8, 1⟩) (meth := k8m1) (c := k8c1) (by decide +kernel) rfl rfl rfl (by decide +kernel)
set_option maxRecDepth 65536 in
theorem w_c2 : (Jvm.Cond.code ({ cls := "java/lang/String", name := "<init>", desc := "([CIILjava/lang/Void;)V" } : Jvm.MethodName) jdk_42_method_149_code (6 : Nat) (Option.none : Option Jvm.ClassFile.FieldType)).before args0 about1 = true := code_word (m := ⟨8, 3⟩) (meth := k8m3) (c := k8c3) (by decide +kernel) rfl rfl rfl (by decide +kernel)
set_option maxRecDepth 65536 in
theorem w_c3 : (Jvm.Cond.code ({ cls := "java/lang/Object", name := "<init>", desc := "()V" } : Jvm.MethodName) object_method_1_code (1 : Nat) (Option.none : Option Jvm.ClassFile.FieldType)).before args0 about1 = true := code_word (m := ⟨0, 0⟩) (meth := k0m0) (c := k0c0) (by decide +kernel) rfl rfl rfl (by decide +kernel)
set_option maxRecDepth 65536 in
theorem w_c4 : (Jvm.Cond.code ({ cls := "com/example/wirecall/wirecall/TextCursor", name := "<init>", desc := "(Ljava/lang/String;)V" } : Jvm.MethodName) prog_21_method_1_code (2 : Nat) (Option.none : Option Jvm.ClassFile.FieldType)).before args0 about1 = true := code_word (m := ⟨2, 0⟩) (meth := k2m0) (c := k2c0) (by decide +kernel) rfl rfl rfl (by decide +kernel)
set_option maxRecDepth 65536 in
theorem w_c5 : (Jvm.Cond.code ({ cls := "com/example/wirecall/wirecall/TextCursor", name := "atEnd", desc := "()Z" } : Jvm.MethodName) prog_21_method_3_code (1 : Nat) (Option.some Jvm.ClassFile.FieldType.boolean)).before args0 about1 = true := code_word (m := ⟨2, 2⟩) (meth := k2m2) (c := k2c2) (by decide +kernel) rfl rfl rfl (by decide +kernel)
set_option maxRecDepth 65536 in
theorem w_c6 : (Jvm.Cond.code ({ cls := "java/lang/String", name := "length", desc := "()I" } : Jvm.MethodName) jdk_42_method_54_code (1 : Nat) (Option.some Jvm.ClassFile.FieldType.int)).before args0 about1 = true := code_word (m := ⟨8, 2⟩) (meth := k8m2) (c := k8c2) (by decide +kernel) rfl rfl rfl (by decide +kernel)
set_option maxRecDepth 65536 in
theorem w_c7 : (Jvm.Cond.code ({ cls := "java/lang/String", name := "coder", desc := "()B" } : Jvm.MethodName) jdk_42_method_152_code (1 : Nat) (Option.some Jvm.ClassFile.FieldType.byte)).before args0 about1 = true := code_word (m := ⟨8, 4⟩) (meth := k8m4) (c := k8c4) (by decide +kernel) rfl rfl rfl (by decide +kernel)
set_option maxRecDepth 65536 in
theorem w_c8 : (Jvm.Cond.code ({ cls := "com/example/wirecall/wirecall/TextCursor", name := "offset", desc := "()I" } : Jvm.MethodName) prog_21_method_2_code (1 : Nat) (Option.some Jvm.ClassFile.FieldType.int)).before args0 about1 = true := code_word (m := ⟨2, 1⟩) (meth := k2m1) (c := k2c1) (by decide +kernel) rfl rfl rfl (by decide +kernel)
set_option maxRecDepth 65536 in
theorem w_c9 : (Jvm.Cond.code ({ cls := "java/lang/StringUTF16", name := "compress", desc := "([CII)[B" } : Jvm.MethodName) jdk_52_method_16_code (6 : Nat) (Option.some (Jvm.ClassFile.FieldType.array Jvm.ClassFile.FieldType.byte))).before args0 about1 = true := code_word (m := ⟨9, 2⟩) (meth := k9m2) (c := k9c2) (by decide +kernel) rfl rfl rfl (by decide +kernel)
set_option maxRecDepth 65536 in
theorem w_c10 : (Jvm.Cond.code ({ cls := "java/lang/StringUTF16", name := "compress", desc := "([CI[BII)I" } : Jvm.MethodName) jdk_52_method_21_code (7 : Nat) (Option.some Jvm.ClassFile.FieldType.int)).before args0 about1 = true := code_word (m := ⟨9, 3⟩) (meth := k9m3) (c := k9c3) (by decide +kernel) rfl rfl rfl (by decide +kernel)
set_option maxRecDepth 65536 in
theorem w_c11 : (Jvm.Cond.code ({ cls := "java/lang/StringUTF16", name := "coderFromArrayLen", desc := "([BI)B" } : Jvm.MethodName) jdk_52_method_15_code (2 : Nat) (Option.some Jvm.ClassFile.FieldType.byte)).before args0 about1 = true := code_word (m := ⟨9, 1⟩) (meth := k9m1) (c := k9c1) (by decide +kernel) rfl rfl rfl (by decide +kernel)
set_option maxRecDepth 65536 in
theorem w_c12 : (Jvm.Cond.code ({ cls := "com/example/wirecall/wirecall/TextCursor", name := "skip", desc := "()V" } : Jvm.MethodName) prog_21_method_6_code (1 : Nat) (Option.none : Option Jvm.ClassFile.FieldType)).before args0 about1 = true := code_word (m := ⟨2, 3⟩) (meth := k2m3) (c := k2c3) (by decide +kernel) rfl rfl rfl (by decide +kernel)
def codes1 : List Jvm.Cond := [Jvm.Cond.code x code maxLocals ret, Jvm.Cond.code ({ cls := "java/lang/String", name := "<init>", desc := "([C)V" } : Jvm.MethodName) jdk_42_method_3_code (2 : Nat) (Option.none : Option Jvm.ClassFile.FieldType), Jvm.Cond.code ({ cls := "java/lang/String", name := "<init>", desc := "([CIILjava/lang/Void;)V" } : Jvm.MethodName) jdk_42_method_149_code (6 : Nat) (Option.none : Option Jvm.ClassFile.FieldType), Jvm.Cond.code ({ cls := "java/lang/Object", name := "<init>", desc := "()V" } : Jvm.MethodName) object_method_1_code (1 : Nat) (Option.none : Option Jvm.ClassFile.FieldType), Jvm.Cond.code ({ cls := "com/example/wirecall/wirecall/TextCursor", name := "<init>", desc := "(Ljava/lang/String;)V" } : Jvm.MethodName) prog_21_method_1_code (2 : Nat) (Option.none : Option Jvm.ClassFile.FieldType), Jvm.Cond.code ({ cls := "com/example/wirecall/wirecall/TextCursor", name := "atEnd", desc := "()Z" } : Jvm.MethodName) prog_21_method_3_code (1 : Nat) (Option.some Jvm.ClassFile.FieldType.boolean), Jvm.Cond.code ({ cls := "java/lang/String", name := "length", desc := "()I" } : Jvm.MethodName) jdk_42_method_54_code (1 : Nat) (Option.some Jvm.ClassFile.FieldType.int), Jvm.Cond.code ({ cls := "java/lang/String", name := "coder", desc := "()B" } : Jvm.MethodName) jdk_42_method_152_code (1 : Nat) (Option.some Jvm.ClassFile.FieldType.byte), Jvm.Cond.code ({ cls := "com/example/wirecall/wirecall/TextCursor", name := "offset", desc := "()I" } : Jvm.MethodName) prog_21_method_2_code (1 : Nat) (Option.some Jvm.ClassFile.FieldType.int), Jvm.Cond.code ({ cls := "java/lang/StringUTF16", name := "compress", desc := "([CII)[B" } : Jvm.MethodName) jdk_52_method_16_code (6 : Nat) (Option.some (Jvm.ClassFile.FieldType.array Jvm.ClassFile.FieldType.byte)), Jvm.Cond.code ({ cls := "java/lang/StringUTF16", name := "compress", desc := "([CI[BII)I" } : Jvm.MethodName) jdk_52_method_21_code (7 : Nat) (Option.some Jvm.ClassFile.FieldType.int), Jvm.Cond.code ({ cls := "java/lang/StringUTF16", name := "coderFromArrayLen", desc := "([BI)B" } : Jvm.MethodName) jdk_52_method_15_code (2 : Nat) (Option.some Jvm.ClassFile.FieldType.byte), Jvm.Cond.code ({ cls := "com/example/wirecall/wirecall/TextCursor", name := "skip", desc := "()V" } : Jvm.MethodName) prog_21_method_6_code (1 : Nat) (Option.none : Option Jvm.ClassFile.FieldType)]
set_option maxRecDepth 65536 in
theorem codes_eq : words1.filter isCode = codes1 := rfl
theorem w_codes : ∀ c ∈ words1.filter isCode, c.before args0 about1 = true := by
  rw [codes_eq]
  intro c hc
  simp only [codes1, List.mem_cons, List.not_mem_nil, or_false] at hc
  rcases hc with rfl | rfl | rfl | rfl | rfl | rfl | rfl | rfl | rfl | rfl | rfl | rfl | rfl
  · exact w_c0
  · exact w_c1
  · exact w_c2
  · exact w_c3
  · exact w_c4
  · exact w_c5
  · exact w_c6
  · exact w_c7
  · exact w_c8
  · exact w_c9
  · exact w_c10
  · exact w_c11
  · exact w_c12
set_option maxRecDepth 65536 in
theorem w_t1 : (words1.take 24).all (fun c => isCode c || c.before args0 about1) = true := by decide +kernel
set_option maxRecDepth 65536 in
theorem w_t2 : ((words1.drop 24).take 24).all (fun c => isCode c || c.before args0 about1) = true := by decide +kernel
set_option maxRecDepth 65536 in
theorem w_t3 : ((words1.drop 24).drop 24).all (fun c => isCode c || c.before args0 about1) = true := by decide +kernel
theorem w_tables : (allAtoms (Jvm.Cond.code x code maxLocals ret :: tables_1)).before args0 about1 = true := by
  rw [allAtoms_all]
  show words1.all (fun c => c.before args0 about1) = true
  refine all_split ?_ w_codes
  rw [← List.take_append_drop 24 words1, List.all_append, w_t1, ← List.take_append_drop 24 (words1.drop 24), List.all_append, w_t2, w_t3]
  rfl
set_option maxRecDepth 65536 in
theorem w_rest : rest_1_c.before args0 about1 = true := by decide +kernel
set_option maxRecDepth 65536 in
theorem w_case : (Jvm.Cond.and given_1 narrow_1).before args0 about1 = true := by decide +kernel
set_option maxRecDepth 65536 in
theorem w_consts : constsHeld consts_1 about1 := Jvm.Lit.constsHeldB_iff.mp (by decide +kernel)
theorem w_applies : (headSpec (Jvm.Cond.code x code maxLocals ret :: tables_1) room_1).applies x e0.platform about1 = true :=
  (Spec.applies_iff w_frames).mpr ⟨w_running, w_runnable, w_alone, w_named, w_hears, w_ripe, w_room, w_tables⟩
theorem atStart : AtStart classFile x code maxLocals ret World_1 tables_1 room_1 Calls_1 rest_1 Pre_1 launch0 p0 e0 about1 theMethod args0 below0 :=
  ⟨lists_1, trivial, launch0.admits_env _ _ _, launch0.least_env, fairChoices_fair.cas, fairChoices_fair.clock, w_frames, w_args, w_heap, w_applies, ⟨w_consts, trivial⟩, w_rest, w_case⟩
end start1
theorem witness_1 : WitnessClaimed_1 := ⟨start1.p0, start1.e0, start1.about1, start1.theMethod, start1.args0, start1.below0, start1.atStart⟩
end Jvm.Pilot.@@N@@
