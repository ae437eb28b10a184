import JvmDerived
import JvmDerived.Pilot.@@N@@Statement
import JvmDerived.Pilot.@@N@@Code
set_option linter.unusedVariables false
set_option linter.unusedSimpArgs false
namespace Jvm.Pilot.@@N@@
open Jvm Jvm.ClassFile Sem Op Lib Jvm.Free Jvm.Stand Jvm.LawKit Jvm.RoadKit Bundle Jvm.Pilot.@@N@@.Jvm.D
/-! own layer: a run that ends well, said backwards -/
section OwnGo
variable {p : Program} {l : Launch} {e : Env} {R : Room} {s : State} {m : MethodId} {args : Array Value} {below : List Frame} {meth : Method} {c : Code} {T T' : State} {locs : List Loc} {cells slots : Nat} {Z : State} {a0 : Array Value} {h : Heap} {Q : Option Value → Heap → List Loc → Prop} {C S maxL0 : Nat} {g g' : JFrame}
def Go (p : Program) (e : Env) (below : List Frame) (s : State) (Q : Option Value → Heap → List Loc → Prop) (C S : Nat) (T : State) (g : JFrame) : Prop :=
  ∃ s₂ o, Steps p.tables e below (T.setTop g) s₂ ∧ s₂.status = .running ∧ Ended s₂ below o ∧ ∃ v L, o = .returned v ∧ Q v s₂.heap L ∧ FrameEnd s o s₂ L C S
def Ct (p : Program) (s : State) (m : MethodId) (meth : Method) (c : Code) (Z : State) (own nm : String) (bytes : ByteArray) (maxL : Nat) (ret : Option FieldType) : Prop :=
  p.tables.exec = Jvm.exec ∧ Z.Warmed39 s.vm ∧ s.vm.findClass own = some m.cls ∧ c.code = bytes ∧ c.maxLocals = maxL ∧ meth.sig.returnType = ret ∧ meth.locks = false ∧ meth.name = nm
theorem go_st (k : ∀ t, Steps p.tables e below (T'.setTop g') t → Steps p.tables e below (T.setTop g) t) (q : Go p e below s Q C S T' g') : Go p e below s Q C S T g := by
  obtain ⟨s2, o, q1, q2⟩ := q
  exact ⟨s2, o, k _ q1, q2⟩
theorem castGo (q : g = g') (k : Go p e below s Q C S T g') : Go p e below s Q C S T g := by rw [q]; exact k
theorem go_tr (k : Steps p.tables e below (T.setTop g) (T'.setTop g')) (q : Go p e below s Q C S T' g') : Go p e below s Q C S T g := by
  obtain ⟨s2, o, q1, q2⟩ := q
  exact ⟨s2, o, k.trans q1, q2⟩
theorem go_end (X : Stand p l e R s m args below meth c T locs cells slots) (hlk : meth.locks = false) {v : Option Value} (hv : meth.sig.returnType = none → v = none)
    (hr : ∀ fs, (∀ (f : JFrame) (acts : List Action), f.method = m → f.locked = none → f.entered = [] → (doReturn e (T.setTop f) acts v).1 = T.setFrames fs) → Steps p.tables e below (T.setTop g) (T.setFrames fs))
    (hC : cells ≤ C) (hS : slots ≤ S) (hQ : Q v T.heap locs) : Go p e below s Q C S T g := by
  obtain ⟨fs, h1, hrun, hended, hW, hsame⟩ := X.leave (v := v) hv hlk
  exact ⟨_, _, hr fs h1, hrun, hended, _, _, rfl, hQ, ⟨_, rfl⟩, hW, hsame.mono hC hS⟩
theorem go_retI (X : Stand p l e R s m args below meth c T locs cells slots) (hx : p.tables.exec = Jvm.exec) (hlk : meth.locks = false) (hret : meth.sig.returnType = some .int) {pc : Nat} {Ls : Array Slot} {z : Int32} {rest : List Value} (hd : decode c.code pc = .ok (.ireturn, 1))
    (hC : cells ≤ C) (hS : slots ≤ S) (hQ : Q (some (.int z)) T.heap locs) : Go p e below s Q C S T (mkF m pc Ls (.int z :: rest)) :=
  go_end X hlk (fun h => by rw [hret] at h; cases h) (fun fs h1 => retOut X hx hret rfl (Or.inl ⟨rfl, Or.inl rfl, _, rfl⟩) hd h1) hC hS hQ
theorem go_retL (X : Stand p l e R s m args below meth c T locs cells slots) (hx : p.tables.exec = Jvm.exec) (hlk : meth.locks = false) (hret : meth.sig.returnType = some .long) {pc : Nat} {Ls : Array Slot} {z : Int64} {rest : List Value} (hd : decode c.code pc = .ok (.lreturn, 1))
    (hC : cells ≤ C) (hS : slots ≤ S) (hQ : Q (some (.long z)) T.heap locs) : Go p e below s Q C S T (mkF m pc Ls (.long z :: rest)) :=
  go_end X hlk (fun h => by rw [hret] at h; cases h) (fun fs h1 => retOut X hx hret rfl (Or.inr (Or.inl ⟨rfl, rfl, _, rfl⟩)) hd h1) hC hS hQ
theorem go_retD (X : Stand p l e R s m args below meth c T locs cells slots) (hx : p.tables.exec = Jvm.exec) (hlk : meth.locks = false) (hret : meth.sig.returnType = some .double) {pc : Nat} {Ls : Array Slot} {z : UInt64} {rest : List Value} (hd : decode c.code pc = .ok (.dreturn, 1))
    (hC : cells ≤ C) (hS : slots ≤ S) (hQ : Q (some (.double z)) T.heap locs) : Go p e below s Q C S T (mkF m pc Ls (.double z :: rest)) :=
  go_end X hlk (fun h => by rw [hret] at h; cases h) (fun fs h1 => retOut X hx hret rfl (Or.inr (Or.inr (Or.inl ⟨rfl, rfl, _, rfl⟩))) hd h1) hC hS hQ
theorem go_retA (X : Stand p l e R s m args below meth c T locs cells slots) (hx : p.tables.exec = Jvm.exec) (hlk : meth.locks = false) {t : FieldType} (hret : meth.sig.returnType = some t) (ht : t.isReference = true) {w : Value} (hw : w.isRef = true) {pc : Nat} {Ls : Array Slot} {rest : List Value} (hd : decode c.code pc = .ok (.areturn, 1))
    (hC : cells ≤ C) (hS : slots ≤ S) (hQ : Q (some w) T.heap locs) : Go p e below s Q C S T (mkF m pc Ls (w :: rest)) :=
  go_end X hlk (fun h => by rw [hret] at h; cases h) (fun fs h1 => retOut X hx hret (by cases t <;> simp_all [FieldType.isReference, narrow] <;> cases w <;> simp_all [Value.isRef, narrow]) (Or.inr (Or.inr (Or.inr (Or.inr ⟨rfl, ht, hw⟩)))) hd h1) hC hS hQ
theorem go_retB (X : Stand p l e R s m args below meth c T locs cells slots) (hx : p.tables.exec = Jvm.exec) (hlk : meth.locks = false) (hret : meth.sig.returnType = some .boolean) {pc : Nat} {Ls : Array Slot} {z w : Int32} {rest : List Value} (hd : decode c.code pc = .ok (.ireturn, 1)) (hw : z &&& 1 = w)
    (hC : cells ≤ C) (hS : slots ≤ S) (hQ : Q (some (.int w)) T.heap locs) : Go p e below s Q C S T (mkF m pc Ls (.int z :: rest)) := by
  subst hw
  exact go_end X hlk (fun h => by rw [hret] at h; cases h) (fun fs h1 => retN X hx (t := .boolean) hret (by simp) hd h1) hC hS hQ
theorem go_ret0 (X : Stand p l e R s m args below meth c T locs cells slots) (hx : p.tables.exec = Jvm.exec) (hlk : meth.locks = false) (hret : meth.sig.returnType = none) {pc : Nat} {Ls : Array Slot} (hd : decode c.code pc = .ok (.return_, 1))
    (hC : cells ≤ C) (hS : slots ≤ S) (hQ : Q none T.heap locs) : Go p e below s Q C S T (mkF m pc Ls []) :=
  go_end X hlk (fun _ => rfl) (fun fs h1 => X.returnOut hx hret hd h1) hC hS hQ
def Met (l : Launch) (y : MethodName) (bytes : ByteArray) (maxL : Nat) (ret : Option FieldType) (ws : List Cond) (rm : Room) (Z : State) (as' : Array Value) (h0 : Heap) (Q : Option Value → Heap → List Loc → Prop) (C S : Nat) : Prop :=
  MetFree l y (head1 (Jvm.Cond.code y bytes maxL ret :: ws) rm) (fun a U => a = as' ∧ Z.Warmed39 U.vm ∧ U.heap = h0) (fun _ _ _ _ _ => True) (fun _ U o U' => ∃ v L, o = .returned v ∧ Q v U'.heap L ∧ FrameEnd U o U' L C S)
def QV (w : Option Value) (h0 : Heap) (n0 : Nat) (v : Option Value) (h : Heap) (L : List Loc) : Prop := v = w ∧ Fr n0 L ∧ h = h0
def QF (w : Option Value) (n0 : Nat) (v : Option Value) (h : Heap) (L : List Loc) : Prop := v = w ∧ Fr n0 L
theorem own_body {y : MethodName} {bytes : ByteArray} {maxL : Nat} {ret : Option FieldType} {rm : Room} {as' : Array Value} {h0 : Heap} {ws : List Cond} (hn : plainFor y = true) {C S : Nat}
    (H : ∀ p e s m below meth c s₁, Ct p s m meth c Z y.cls y.name bytes maxL ret → Stand p l e rm s m as' below meth c s₁ [] 0 0 → s₁.heap = h0 → Go p e below s Q C S s₁ (entryFrame m as' maxL)) :
    Met l y bytes maxL ret ws rm Z as' h0 Q C S := by
  refine MetFree.of_bodySF hn hisR ?_
  intro p e s m args below meth c s₁ Bd hml0 hP hK
  obtain ⟨rfl, hZ, hh⟩ := hP
  have hown : s.vm.findClass y.cls = some m.cls := findClass_of_methodNamed Bd.named
  have hnm := (name_of_methodNamed Bd.named Bd.method).1
  have X0 : Stand p l e rm s m args below meth c s₁ [] 0 0 := Stand.of_body Bd
  have e0 : s₁.heap = h0 := by rw [← hh, Bd.state]; rfl
  exact H p e s m below meth c s₁ ⟨Bd.exec, hZ, hown, Bd.bytes, hml0, Bd.returns, Bd.notSynchronized, hnm⟩ X0 e0
theorem go_callS (X : Stand p l e R s m args below meth c T locs cells slots) (hx : p.tables.exec = Jvm.exec) (hZ : Z.Warmed39 s.vm) (hml : c.maxLocals = maxL0) {own : String} {index : Nat} {y : MethodName} {bytes : ByteArray} {maxL : Nat} {ret : Option FieldType} (hown : s.vm.findClass own = some m.cls)
    (w1 : (Cond.methodLink own index y).before a0 Z = true) (w2 : (Cond.static y).before a0 Z = true) (w3 : (Cond.initialized y.cls).before a0 Z = true) (w4 : (Cond.code y bytes maxL ret).before a0 Z = true) (eT : T.heap = h) {argsL rest : List Value} {rm : Room} {Q' : Option Value → Heap → List Loc → Prop} {W : Nat}
    (hM : Met l y bytes maxL ret [] rm Z argsL.toArray h Q' rm.cells rm.slots)
    (hd : decode c.code g.pc = .ok (.invokestatic index, 3)) (hs : g.stack = argsL.reverse ++ rest) (hg : g.method = m) (hsz : g.locals.size = maxL0) (hlen : ∀ sig, parseMethodDescriptor y.desc = some sig → argsL.length = sig.parameters.length) (hW : 2 * g.monitorRoom + (rest.map fun v => v.category).sum ≤ W)
    (hy : y.cls ≠ "java/lang/invoke/MethodHandle" ∧ y.cls ≠ "java/lang/invoke/VarHandle") (hf : rm.frames + 1 ≤ R.frames) (hl : W + (maxL + 11) + rm.locals ≤ R.locals) (hc : cells + rm.cells ≤ R.cells) (hsl : slots + rm.slots ≤ R.slots)
    (k : ∀ T' v L, Stand p l e R s m args below meth c T' (locs ++ L) (cells + rm.cells) (slots + rm.slots) → Q' v T'.heap L → Go p e below s Q C S T' { g with pc := g.pc + 3, stack := v.toList ++ rest }) : Go p e below s Q C S T g := by
  obtain ⟨v, _, ⟨T1, L1, k1, n1⟩, -, X1, ⟨Lc, hQ, l1, y1, z1⟩, st⟩ := Jvm.LawKit.callS X hx (y := y) hown (mvT hZ w1) (mvT hZ w2) (mvT hZ w3) (mvT hZ w4) hy (backOf (W := W) hM hZ w4 w3 hf hl) (g := g) hg (hsz.trans hml.symm) (argsL := argsL) (rest := rest) hlen hs hW hd (fun _ _ => ⟨rfl, eT, hc, hsl⟩)
  dsimp only [Pt.U, Pt.locs, Pt.cells, Pt.slots] at X1 l1 y1 z1 st hQ
  subst l1 y1 z1
  exact go_st st (k _ _ _ X1 hQ)
theorem go_callV (X : Stand p l e R s m args below meth c T locs cells slots) (hx : p.tables.exec = Jvm.exec) (hZ : Z.Warmed39 s.vm) (hml : c.maxLocals = maxL0) {own K : String} {index : Nat} {y z : MethodName} {bytes : ByteArray} {maxL : Nat} {ret : Option FieldType} (hown : s.vm.findClass own = some m.cls)
    (w1 : (Cond.methodLink own index y).before a0 Z = true) (w2 : (Cond.declares y).before a0 Z = true) (w2' : NotFace s y) (w3 : (Cond.selects K y z).before a0 Z = true) (w3' : (Cond.instanceMethod z).before a0 Z = true) (w4 : (Cond.code z bytes maxL ret).before a0 Z = true) (w5 : (Cond.initialized z.cls).before a0 Z = true) (eT : T.heap = h) {a : Addr} (E : Exa Z h a K) {argsL rest : List Value} {rm : Room} {Q' : Option Value → Heap → List Loc → Prop} {W : Nat}
    (hM : Met l z bytes maxL ret [] rm Z (.ref a :: argsL).toArray h Q' rm.cells rm.slots)
    (hd : decode c.code g.pc = .ok (.invokevirtual index, 3)) (hs : g.stack = argsL.reverse ++ .ref a :: rest) (hg : g.method = m) (hsz : g.locals.size = maxL0) (hlen : ∀ sig, parseMethodDescriptor y.desc = some sig → argsL.length = sig.parameters.length) (hW : 2 * g.monitorRoom + (rest.map fun v => v.category).sum ≤ W)
    (hy : y.cls ≠ "java/lang/invoke/MethodHandle" ∧ y.cls ≠ "java/lang/invoke/VarHandle") (hf : rm.frames + 1 ≤ R.frames) (hl : W + (maxL + 11) + rm.locals ≤ R.locals) (hc : cells + rm.cells ≤ R.cells) (hsl : slots + rm.slots ≤ R.slots)
    (k : ∀ T' v L, Stand p l e R s m args below meth c T' (locs ++ L) (cells + rm.cells) (slots + rm.slots) → Q' v T'.heap L → Go p e below s Q C S T' { g with pc := g.pc + 3, stack := v.toList ++ rest }) : Go p e below s Q C S T g := by
  obtain ⟨cB, kB, q1, q2, q3⟩ := isOf hZ eT E
  obtain ⟨v, _, ⟨T1, L1, k1, n1⟩, -, X1, ⟨Lc, hQ, l1, y1, z1⟩, st⟩ := X.virtualBack hx (y := y) (z := z) hown (mvT hZ w1) (mvT hZ w2) w2' (mvT hZ w3) (mvT hZ w3') hy (backOf (W := W) hM hZ w4 w5 hf hl) q1 q3 (g := g) hg (hsz.trans hml.symm) (Steps.refl _) (argsL := argsL) (rest := rest) hlen hs hW hd (fun _ _ => ⟨rfl, eT, hc, hsl⟩)
  dsimp only [Pt.U, Pt.locs, Pt.cells, Pt.slots] at X1 l1 y1 z1 st hQ
  subst l1 y1 z1
  exact go_tr st (k _ _ _ X1 hQ)
theorem go_callU (X : Stand p l e R s m args below meth c T locs cells slots) (hx : p.tables.exec = Jvm.exec) (hZ : Z.Warmed39 s.vm) (hml : c.maxLocals = maxL0) {own K owner : String} {index : Nat} {y z : MethodName} {bytes : ByteArray} {maxL : Nat} {ret : Option FieldType} (hown : s.vm.findClass own = some m.cls)
    (w1 : (Cond.methodLink own index y).before a0 Z = true) (w2 : (Cond.sameMethod y.cls owner y.name y.desc).before a0 Z = true) (w2' : (Cond.declares ⟨owner, y.name, y.desc⟩).before a0 Z = true) (ho : owner ≠ "java/lang/invoke/MethodHandle" ∧ owner ≠ "java/lang/invoke/VarHandle") (w3 : (Cond.selects K y z).before a0 Z = true) (w3' : (Cond.instanceMethod z).before a0 Z = true) (w4 : (Cond.code z bytes maxL ret).before a0 Z = true) (w5 : (Cond.initialized z.cls).before a0 Z = true) (eT : T.heap = h) {a : Addr} (E : Exa Z h a K) {argsL rest : List Value} {rm : Room} {Q' : Option Value → Heap → List Loc → Prop} {W : Nat}
    (hM : Met l z bytes maxL ret [] rm Z (.ref a :: argsL).toArray h Q' rm.cells rm.slots)
    (hd : decode c.code g.pc = .ok (.invokevirtual index, 3)) (hs : g.stack = argsL.reverse ++ .ref a :: rest) (hg : g.method = m) (hsz : g.locals.size = maxL0) (hlen : ∀ sig, parseMethodDescriptor y.desc = some sig → argsL.length = sig.parameters.length) (hW : 2 * g.monitorRoom + (rest.map fun v => v.category).sum ≤ W)
    (hf : rm.frames + 1 ≤ R.frames) (hl : W + (maxL + 11) + rm.locals ≤ R.locals) (hc : cells + rm.cells ≤ R.cells) (hsl : slots + rm.slots ≤ R.slots)
    (k : ∀ T' v L, Stand p l e R s m args below meth c T' (locs ++ L) (cells + rm.cells) (slots + rm.slots) → Q' v T'.heap L → Go p e below s Q C S T' { g with pc := g.pc + 3, stack := v.toList ++ rest }) : Go p e below s Q C S T g := by
  obtain ⟨cB, kB, q1, q2, q3⟩ := isOf hZ eT E
  obtain ⟨v, _, ⟨T1, L1, k1, n1⟩, -, X1, ⟨Lc, hQ, l1, y1, z1⟩, st⟩ := X.virtualBackUp hx (x := y) (y := z) hown (mvT hZ w1) (mvT hZ w2) (mvT hZ w2') ho (mvT hZ w3) (mvT hZ w3') (backOf (W := W) hM hZ w4 w5 hf hl) q1 q3 (g := g) hg (hsz.trans hml.symm) (Steps.refl _) (argsL := argsL) (rest := rest) hlen hs hW hd (fun _ _ => ⟨rfl, eT, hc, hsl⟩)
  dsimp only [Pt.U, Pt.locs, Pt.cells, Pt.slots] at X1 l1 y1 z1 st hQ
  subst l1 y1 z1
  exact go_tr st (k _ _ _ X1 hQ)
theorem go_callI (X : Stand p l e R s m args below meth c T locs cells slots) (hx : p.tables.exec = Jvm.exec) (hZ : Z.Warmed39 s.vm) (hml : c.maxLocals = maxL0) {own : String} {index : Nat} {y : MethodName} {bytes : ByteArray} {maxL : Nat} (hown : s.vm.findClass own = some m.cls) (hy1 : y.name = "<init>")
    (w1 : (Cond.methodLink own index y).before a0 Z = true) (w2 : (Cond.instanceMethod y).before a0 Z = true) (w4 : (Cond.code y bytes maxL none).before a0 Z = true) (w5 : (Cond.initialized y.cls).before a0 Z = true) (eT : T.heap = h) {a : Addr} {argsL rest : List Value} {rm : Room} {Q' : Option Value → Heap → List Loc → Prop} {W : Nat}
    (hM : Met l y bytes maxL none [] rm Z (.ref a :: argsL).toArray h Q' rm.cells rm.slots)
    (hd : decode c.code g.pc = .ok (.invokespecial index, 3)) (hs : g.stack = argsL.reverse ++ .ref a :: rest) (hg : g.method = m) (hsz : g.locals.size = maxL0) (hlen : ∀ sig, parseMethodDescriptor y.desc = some sig → argsL.length = sig.parameters.length) (hW : 2 * g.monitorRoom + (rest.map fun v => v.category).sum ≤ W)
    (hy : y.cls ≠ "java/lang/invoke/MethodHandle" ∧ y.cls ≠ "java/lang/invoke/VarHandle") (hf : rm.frames + 1 ≤ R.frames) (hl : W + (maxL + 11) + rm.locals ≤ R.locals) (hc : cells + rm.cells ≤ R.cells) (hsl : slots + rm.slots ≤ R.slots)
    (k : ∀ T' v L, Stand p l e R s m args below meth c T' (locs ++ L) (cells + rm.cells) (slots + rm.slots) → Q' v T'.heap L → Go p e below s Q C S T' { g with pc := g.pc + 3, stack := v.toList ++ rest }) : Go p e below s Q C S T g := by
  obtain ⟨v, _, ⟨T1, L1, k1, n1⟩, -, X1, ⟨Lc, hQ, l1, y1, z1⟩, st⟩ := X.specialBack hx (y := y) hy1 hown (mvT hZ w1) (mvT hZ w2) (mvT hZ w4) hy (backOf (W := W) hM hZ w4 w5 hf hl) (g := g) hg (hsz.trans hml.symm) (Steps.refl _) (a := a) (argsL := argsL) (rest := rest) hlen hs hW hd (fun _ _ => ⟨rfl, eT, hc, hsl⟩)
  dsimp only [Pt.U, Pt.locs, Pt.cells, Pt.slots] at X1 l1 y1 z1 st hQ
  subst l1 y1 z1
  exact go_tr st (k _ _ _ X1 hQ)
theorem go_getF (X : Stand p l e R s m args below meth c T locs cells slots) (hx : p.tables.exec = Jvm.exec) (hZ : Z.Warmed39 s.vm) {own R0 O n d host : String} {index : Nat} (hown : s.vm.findClass own = some m.cls) (w : (Cond.fieldLink own index R0 n d).before a0 Z = true ∨ (Cond.fieldLinkNest own index R0 n d host).before a0 Z = true) (via : Via Z R0 O n d)
    (eT : T.heap = h) {a : Addr} {v : Value} (F : Fld Z h a O n d v) {rest : List Value} (hd : decode c.code g.pc = .ok (.getfield index, 3)) (hg : g.method = m) (hs : g.stack = .ref a :: rest)
    (k : ∀ T', Stand p l e R s m args below meth c T' locs cells slots → T'.heap = h → Go p e below s Q C S T' { g with pc := g.pc + 3, stack := v :: rest }) : Go p e below s Q C S T g := by
  obtain ⟨T1, X1, e1, st⟩ := getF X hx hZ hown w via eT F hg hs hd
  exact go_st st (k _ X1 e1)
theorem go_getS (X : Stand p l e R s m args below meth c T locs cells slots) (hx : p.tables.exec = Jvm.exec) (hZ : Z.Warmed39 s.vm) {own R0 O n d host : String} {index : Nat} (hown : s.vm.findClass own = some m.cls) (w : (Cond.fieldLink own index R0 n d).before a0 Z = true ∨ (Cond.fieldLinkNest own index R0 n d host).before a0 Z = true) (via : Via Z R0 O n d)
    (eT : T.heap = h) {v : Value} (F : Sta Z h O n d v) (hd : decode c.code g.pc = .ok (.getstatic index, 3)) (hg : g.method = m)
    (k : ∀ T', Stand p l e R s m args below meth c T' locs cells slots → T'.heap = h → Go p e below s Q C S T' { g with pc := g.pc + 3, stack := v :: g.stack }) : Go p e below s Q C S T g := by
  obtain ⟨T1, X1, e1, st⟩ := getS2 X hx hZ hown w via eT F hg hd
  exact go_st st (k _ X1 e1)
theorem go_putF (X : Stand p l e R s m args below meth c T locs cells slots) (hx : p.tables.exec = Jvm.exec) (hZ : Z.Warmed39 s.vm) {own R0 O n d host K : String} {index kk : Nat} {ty : FieldType} (hown : s.vm.findClass own = some m.cls) (w : (Cond.fieldLink own index R0 n d).before a0 Z = true ∨ (Cond.fieldLinkNest own index R0 n d host).before a0 Z = true) (via : Via Z R0 O n d)
    (eT : T.heap = h) {a : Addr} {v old : Value} (F : Fld Z h a O n d old) (E : Exa Z h a K) (L : (Cond.lays K O n d).before a0 Z = true ∨ ((Cond.laysFinal K O n d).before a0 Z = true ∧ own = O ∧ meth.name = "<init>")) (wi : (Cond.instantiable K kk).before a0 Z = true)
    (hty : parseFieldDescriptor d = some ty) (hn : narrow ty v = v) (hf : fits ty v = true) {rest : List Value} (hd : decode c.code g.pc = .ok (.putfield index, 3)) (hg : g.method = m) (hs : g.stack = v :: .ref a :: rest)
    (k : ∀ T' h', Stand p l e R s m args below meth c T' (locs ++ [⟨a, Jvm.RoadKit.slotOf Z O n d⟩]) cells slots → T'.heap = h' → Wr h h' a (Jvm.RoadKit.slotOf Z O n d) v → Go p e below s Q C S T' { g with pc := g.pc + 3, stack := rest }) : Go p e below s Q C S T g := by
  obtain ⟨T1, h1, X1, e1, W1, st⟩ := putF X hx hZ hown w via eT F E L wi hty hn hf hg hs hd
  exact go_st st (k _ _ X1 e1 W1)
theorem go_newO (X : Stand p l e R s m args below meth c T locs cells slots) (hx : p.tables.exec = Jvm.exec) (hZ : Z.Warmed39 s.vm) {own K : String} {index n : Nat} (hown : s.vm.findClass own = some m.cls) (w : (Cond.classLink own index K).before a0 Z = true) (wi : (Cond.instantiable K n).before a0 Z = true) (wz : (Cond.initialized K).before a0 Z = true) (eT : T.heap = h)
    (hd : decode c.code g.pc = .ok (.new index, 3)) (hg : g.method = m) (hc : cells + 1 ≤ R.cells) (hl : slots + n ≤ R.slots)
    (k : ∀ T' h' a, a = h.size → Stand p l e R s m args below meth c T' locs (cells + 1) (slots + n) → T'.heap = h' → Ext h h' → Exa Z h' a K → (∀ {O nm d : String} {ty : FieldType}, Laid Z a0 K O nm d → parseFieldDescriptor d = some ty → Fld Z h' a O nm d (defaultValue ty)) → Go p e below s Q C S T' { g with pc := g.pc + 3, stack := .ref a :: g.stack }) : Go p e below s Q C S T g := by
  obtain ⟨T1, h1, X1, e1, E1, A1, D1, -, st⟩ := newO X hx hZ hown w wi wz eT hg hd hc hl
  exact go_st st (k _ _ _ rfl X1 e1 E1 A1 D1)
theorem go_initO (X : Stand p l e R s m args below meth c T locs cells slots) (hx : p.tables.exec = Jvm.exec) (hZ : Z.Warmed39 s.vm) (hml : c.maxLocals = maxL0) {own : String} {idx : Nat} (hown : s.vm.findClass own = some m.cls) (w1 : (Cond.methodLink own idx Lib.objectInit).before a0 Z = true) (w2 : (Cond.instanceMethod Lib.objectInit).before a0 Z = true)
    (w3 : (Cond.code Lib.objectInit ⟨#[0xb1]⟩ 1 none).before a0 Z = true) (eT : T.heap = h) {a : Addr} {rest : List Value} (hd : decode c.code g.pc = .ok (.invokespecial idx, 3)) (hg : g.method = m) (hsz : g.locals.size = maxL0) (hs : g.stack = .ref a :: rest)
    (hf : 1 ≤ R.frames) {W : Nat} (hW : 2 * g.monitorRoom + (rest.map fun v => v.category).sum ≤ W) (hl : W + 12 ≤ R.locals)
    (k : ∀ T', Stand p l e R s m args below meth c T' locs cells slots → T'.heap = h → Go p e below s Q C S T' { g with pc := g.pc + 3, stack := rest }) : Go p e below s Q C S T g := by
  obtain ⟨T1, X1, e1, st⟩ := initO X hx hZ hown w1 w2 w3 eT hg (hsz.trans hml.symm) hs hd hf hW hl
  exact go_st st (k _ X1 e1)
theorem own_lrem {tb : Tables} [Ours tb] {target : State} (hh : At T m c below) (hx : tb.exec = Jvm.exec) (hg : g.method = m) {x y : Int64} {rest : List Value} (hd : decode c.code g.pc = .ok (.lrem, 1)) (hs : g.stack = .long y :: .long x :: rest) (hy : y ≠ 0)
    (hr : Steps tb e below (T.setTop { g with pc := g.pc + 1, stack := .long (x % y) :: rest }) target) : Steps tb e below (T.setTop g) target :=
  XT.lrem hh hx hg hd hs hy (by rw [lrem_mod]; exact hr)
/-! arrays, their places by a function -/
def GA (Z : State) (h : Heap) (a : Addr) (ty : FieldType) (n : Nat) (f : Nat → Value) : Prop := ∃ cl : Cell, Arr Z h a cl ty ∧ cl.slots.size = n ∧ n < 2 ^ 31 ∧ ∀ i, i < n → cl.slots[i]? = some (f i)
theorem GA.lt {a : Addr} {ty : FieldType} {n : Nat} {f : Nat → Value} (A : GA Z h a ty n f) : a < h.size := by
  obtain ⟨cl, A1, -⟩ := A
  exact A1.lt
theorem GA.ext {a : Addr} {ty : FieldType} {n : Nat} {f : Nat → Value} {h' : Heap} (A : GA Z h a ty n f) (E : Ext h h') : GA Z h' a ty n f := by
  obtain ⟨cl, A1, r⟩ := A
  exact ⟨cl, A1.ext E, r⟩
theorem GA.other {a b : Addr} {ty : FieldType} {n sl : Nat} {v : Value} {f : Nat → Value} {h' : Heap} (A : GA Z h b ty n f) (W : Wr h h' a sl v) (q : b ≠ a) : GA Z h' b ty n f := by
  obtain ⟨cl, A1, r⟩ := A
  exact ⟨cl, A1.other W q, r⟩
theorem GA.keep {a : Addr} {ty : FieldType} {n : Nat} {f : Nat → Value} {h' : Heap} {ws : List Addr} (A : GA Z h a ty n f) (K : Keep h h' ws) (q : a ∉ ws) : GA Z h' a ty n f := by
  obtain ⟨cl, A1, r⟩ := A
  exact ⟨cl, ⟨K.2.1 _ _ A1.1 q, A1.2⟩, r⟩
theorem GA.congr {a : Addr} {ty : FieldType} {n : Nat} {f f' : Nat → Value} (A : GA Z h a ty n f) (q : ∀ i, i < n → f i = f' i) : GA Z h a ty n f' := by
  obtain ⟨cl, A1, A2, A3, A4⟩ := A
  exact ⟨cl, A1, A2, A3, fun i hi => (A4 i hi).trans (by rw [q i hi])⟩
theorem GA.set {a : Addr} {ty : FieldType} {n j : Nat} {v : Value} {f : Nat → Value} {h' : Heap} (A : GA Z h a ty n f) (W : Wr h h' a j v) : GA Z h' a ty n (fun i => if i = j then v else f i) := by
  obtain ⟨cl, A1, A2, A3, A4⟩ := A
  obtain ⟨c2, w1, w2, w3, w4⟩ := W
  obtain rfl : cl = c2 := Option.some.inj (A1.1.symm.trans w1)
  refine ⟨cl.setSlot j v, A1.same ⟨cl, w1, w2, w3, w4⟩, (sz_set cl j v).trans A2, A3, fun i hi => ?_⟩
  show (cl.slots.setIfInBounds j v)[i]? = _
  rw [Array.getElem?_setIfInBounds]
  by_cases q : i = j
  · subst q
    rw [if_pos rfl, if_pos w3]
    simp only [if_true]
  · rw [if_neg (fun h => q h.symm)]
    simp only [if_neg q]
    exact A4 i hi
theorem GA.len {a : Addr} {ty : FieldType} {n : Nat} {f : Nat → Value} (A : GA Z h a ty n f) : n < 2 ^ 31 := by
  obtain ⟨cl, -, -, A3, -⟩ := A
  exact A3
def OC (Z : State) (h : Heap) (a : Addr) (ty : FieldType) (K : String) : Prop := ∃ cl : Cell, Arr Z h a cl ty ∧ Ovr Z cl.cls K
theorem OC.ext {a : Addr} {ty : FieldType} {K : String} {h' : Heap} (A : OC Z h a ty K) (E : Ext h h') : OC Z h' a ty K := by
  obtain ⟨cl, A1, A2⟩ := A
  exact ⟨cl, A1.ext E, A2⟩
theorem OC.wr {a b : Addr} {ty : FieldType} {K : String} {sl : Nat} {v : Value} {h' : Heap} (A : OC Z h b ty K) (W : Wr h h' a sl v) : OC Z h' b ty K := by
  obtain ⟨cl, A1, A2⟩ := A
  by_cases q : b = a
  · subst q
    exact ⟨_, A1.same W, A2⟩
  · exact ⟨cl, A1.other W q, A2⟩
theorem OC.keep {b : Addr} {ty : FieldType} {K : String} {h' : Heap} {ws : List Addr} (A : OC Z h b ty K) (Kp : Keep h h' ws) : OC Z h' b ty K := by
  obtain ⟨cl, ⟨A1, A3, A4⟩, A2⟩ := A
  obtain ⟨c', q1, q2, q3, q4⟩ := Kp.2.2 _ _ A1
  refine ⟨c', ⟨q1, ?_, by rw [q3]; exact A4⟩, by rw [q2]; exact A2⟩
  unfold State.isArrayOf at A3 ⊢
  rw [q2, q3]
  exact A3
theorem OC.sto {a y : Addr} {ty : FieldType} {K : String} (A : OC Z h a ty K) (I : Ins Z h y K true) : Sto Z h a (.ref y) := by
  obtain ⟨cl, A1, A2⟩ := A
  exact Sto.of A1 A2 I
theorem own_in {j : Int32} {n : Nat} (q : 0 ≤ j.toInt ∧ j.toInt < n) : ¬ (j < 0 ∨ n ≤ j.toNatClampNeg) := by
  have h1 : (j.toNatClampNeg : Int) = j.toInt := by have := q.1; simp only [Int32.toNatClampNeg]; omega
  rw [Int32.lt_iff_toInt_lt]
  have : (0 : Int32).toInt = 0 := rfl
  omega
theorem go_alen (X : Stand p l e R s m args below meth c T locs cells slots) (hx : p.tables.exec = Jvm.exec) (hZ : Z.Warmed39 s.vm) (eT : T.heap = h) {a : Addr} {ty : FieldType} {n : Nat} {f : Nat → Value} (A : GA Z h a ty n f) {rest : List Value}
    (hd : decode c.code g.pc = .ok (.arraylength, 1)) (hg : g.method = m) (hs : g.stack = .ref a :: rest) (w : Int32) (hw : Nat.toInt32 n = w) (k : Go p e below s Q C S T { g with pc := g.pc + 1, stack := .int w :: rest }) : Go p e below s Q C S T g := by
  obtain ⟨cl, A1, rfl, -, -⟩ := A
  subst hw
  exact go_st (fun t => X.arraylength hx (by rw [eT]; exact A1.1) (State.isArrayOf_alike hZ.alike A1.2.1) hg hs hd t) k
theorem go_iald (X : Stand p l e R s m args below meth c T locs cells slots) (hx : p.tables.exec = Jvm.exec) (hZ : Z.Warmed39 s.vm) (eT : T.heap = h) {a : Addr} {n : Nat} {f : Nat → Value} (A : GA Z h a .int n f) {j : Int32} {rest : List Value}
    (hd : decode c.code g.pc = .ok (.iaload, 1)) (hg : g.method = m) (hs : g.stack = .int j :: .ref a :: rest) (q : 0 ≤ j.toInt ∧ j.toInt < n) (w : Value) (hw : f j.toNatClampNeg = w) (k : Go p e below s Q C S T { g with pc := g.pc + 1, stack := w :: rest }) : Go p e below s Q C S T g := by
  obtain ⟨cl, A1, rfl, -, A4⟩ := A
  have q2 := own_in q
  refine go_st (fun t => X.iaload hx (j := j) (v := w) (by rw [eT]; exact A1.1) (State.isArrayOf_alike hZ.alike A1.2.1) A1.2.2 q2 ?_ hg hs hd t) k
  rw [A4 _ (by omega), hw]
theorem go_lald (X : Stand p l e R s m args below meth c T locs cells slots) (hx : p.tables.exec = Jvm.exec) (hZ : Z.Warmed39 s.vm) (eT : T.heap = h) {a : Addr} {n : Nat} {f : Nat → Value} (A : GA Z h a .long n f) {j : Int32} {rest : List Value}
    (hd : decode c.code g.pc = .ok (.laload, 1)) (hg : g.method = m) (hs : g.stack = .int j :: .ref a :: rest) (q : 0 ≤ j.toInt ∧ j.toInt < n) (w : Value) (hw : f j.toNatClampNeg = w) (k : Go p e below s Q C S T { g with pc := g.pc + 1, stack := w :: rest }) : Go p e below s Q C S T g := by
  obtain ⟨cl, A1, rfl, -, A4⟩ := A
  have q2 := own_in q
  refine go_st (fun t => X.laload hx (j := j) (v := w) (by rw [eT]; exact A1.1) (State.isArrayOf_alike hZ.alike A1.2.1) A1.2.2 q2 ?_ hg hs hd t) k
  rw [A4 _ (by omega), hw]
theorem go_bald (X : Stand p l e R s m args below meth c T locs cells slots) (hx : p.tables.exec = Jvm.exec) (hZ : Z.Warmed39 s.vm) (eT : T.heap = h) {a : Addr} {n : Nat} {f : Nat → Value} (A : GA Z h a .byte n f) {j : Int32} {rest : List Value}
    (hd : decode c.code g.pc = .ok (.baload, 1)) (hg : g.method = m) (hs : g.stack = .int j :: .ref a :: rest) (q : 0 ≤ j.toInt ∧ j.toInt < n) (w : Value) (hw : f j.toNatClampNeg = w) (k : Go p e below s Q C S T { g with pc := g.pc + 1, stack := w :: rest }) : Go p e below s Q C S T g := by
  obtain ⟨cl, A1, rfl, -, A4⟩ := A
  have q2 := own_in q
  refine go_st (fun t => X.baloadBytes hx (j := j) (v := w) (by rw [eT]; exact A1.1) (State.isArrayOf_alike hZ.alike A1.2.1) A1.2.2 q2 ?_ hg hs hd t) k
  rw [A4 _ (by omega), hw]
theorem go_cald (X : Stand p l e R s m args below meth c T locs cells slots) (hx : p.tables.exec = Jvm.exec) (hZ : Z.Warmed39 s.vm) (eT : T.heap = h) {a : Addr} {n : Nat} {f : Nat → Value} (A : GA Z h a .char n f) {j : Int32} {rest : List Value}
    (hd : decode c.code g.pc = .ok (.caload, 1)) (hg : g.method = m) (hs : g.stack = .int j :: .ref a :: rest) (q : 0 ≤ j.toInt ∧ j.toInt < n) (w : Value) (hw : f j.toNatClampNeg = w) (k : Go p e below s Q C S T { g with pc := g.pc + 1, stack := w :: rest }) : Go p e below s Q C S T g := by
  obtain ⟨cl, A1, rfl, -, A4⟩ := A
  have q2 := own_in q
  refine go_st (fun t => X.caload hx (j := j) (v := w) (by rw [eT]; exact A1.1) (State.isArrayOf_alike hZ.alike A1.2.1) A1.2.2 q2 ?_ hg hs hd t) k
  rw [A4 _ (by omega), hw]
theorem go_aald (X : Stand p l e R s m args below meth c T locs cells slots) (hx : p.tables.exec = Jvm.exec) (hZ : Z.Warmed39 s.vm) (eT : T.heap = h) {a : Addr} {ty : FieldType} {n : Nat} {f : Nat → Value} (A : GA Z h a ty n f) (hty : ty.isReference = true) {j : Int32} {rest : List Value}
    (hd : decode c.code g.pc = .ok (.aaload, 1)) (hg : g.method = m) (hs : g.stack = .int j :: .ref a :: rest) (q : 0 ≤ j.toInt ∧ j.toInt < n) (w : Value) (hw : f j.toNatClampNeg = w) (k : Go p e below s Q C S T { g with pc := g.pc + 1, stack := w :: rest }) : Go p e below s Q C S T g := by
  obtain ⟨cl, A1, rfl, -, A4⟩ := A
  have q2 := own_in q
  refine go_st (fun t => X.aaload hx (j := j) (v := w) (by rw [eT]; exact A1.1) (State.isArrayOf_alike hZ.alike A1.2.1) hty A1.2.2 q2 ?_ hg hs hd t) k
  rw [A4 _ (by omega), hw]
theorem go_iast (X : Stand p l e R s m args below meth c T locs cells slots) (hx : p.tables.exec = Jvm.exec) (hZ : Z.Warmed39 s.vm) (eT : T.heap = h) {a : Addr} {n : Nat} {f : Nat → Value} (A : GA Z h a .int n f) {j x : Int32} {rest : List Value}
    (hd : decode c.code g.pc = .ok (.iastore, 1)) (hg : g.method = m) (hs : g.stack = .int x :: .int j :: .ref a :: rest) (q : 0 ≤ j.toInt ∧ j.toInt < n)
    (k : ∀ T' h', Stand p l e R s m args below meth c T' (locs ++ [⟨a, j.toNatClampNeg⟩]) cells slots → T'.heap = h' → Wr h h' a j.toNatClampNeg (.int x) → GA Z h' a .int n (fun i => if i = j.toNatClampNeg then .int x else f i) → Go p e below s Q C S T' { g with pc := g.pc + 1, stack := rest }) : Go p e below s Q C S T g := by
  have A' := A
  obtain ⟨cl, A1, rfl, -, A4⟩ := A
  obtain ⟨T1, h1, X1, e1, W1, st⟩ := stI X hx hZ eT A1 (own_in q) hg hs hd
  exact go_st st (k _ _ X1 e1 W1 (A'.set W1))
theorem go_last (X : Stand p l e R s m args below meth c T locs cells slots) (hx : p.tables.exec = Jvm.exec) (hZ : Z.Warmed39 s.vm) (eT : T.heap = h) {a : Addr} {n : Nat} {f : Nat → Value} (A : GA Z h a .long n f) {j : Int32} {x : Int64} {rest : List Value}
    (hd : decode c.code g.pc = .ok (.lastore, 1)) (hg : g.method = m) (hs : g.stack = .long x :: .int j :: .ref a :: rest) (q : 0 ≤ j.toInt ∧ j.toInt < n)
    (k : ∀ T' h', Stand p l e R s m args below meth c T' (locs ++ [⟨a, j.toNatClampNeg⟩]) cells slots → T'.heap = h' → Wr h h' a j.toNatClampNeg (.long x) → GA Z h' a .long n (fun i => if i = j.toNatClampNeg then .long x else f i) → Go p e below s Q C S T' { g with pc := g.pc + 1, stack := rest }) : Go p e below s Q C S T g := by
  have A' := A
  obtain ⟨cl, A1, rfl, -, A4⟩ := A
  obtain ⟨T1, h1, X1, e1, W1, st⟩ := stJ X hx hZ eT A1 (own_in q) hg hs hd
  exact go_st st (k _ _ X1 e1 W1 (A'.set W1))
theorem go_bast (X : Stand p l e R s m args below meth c T locs cells slots) (hx : p.tables.exec = Jvm.exec) (hZ : Z.Warmed39 s.vm) (eT : T.heap = h) {a : Addr} {n : Nat} {f : Nat → Value} (A : GA Z h a .byte n f) {j x : Int32} {rest : List Value}
    (hd : decode c.code g.pc = .ok (.bastore, 1)) (hg : g.method = m) (hs : g.stack = .int x :: .int j :: .ref a :: rest) (q : 0 ≤ j.toInt ∧ j.toInt < n)
    (k : ∀ T' h', Stand p l e R s m args below meth c T' (locs ++ [⟨a, j.toNatClampNeg⟩]) cells slots → T'.heap = h' → Wr h h' a j.toNatClampNeg (.int x.toInt8.toInt32) → GA Z h' a .byte n (fun i => if i = j.toNatClampNeg then .int x.toInt8.toInt32 else f i) → Go p e below s Q C S T' { g with pc := g.pc + 1, stack := rest }) : Go p e below s Q C S T g := by
  have A' := A
  obtain ⟨cl, A1, rfl, -, A4⟩ := A
  obtain ⟨T1, h1, X1, e1, W1, st⟩ := stB X hx hZ eT A1 (own_in q) hg hs hd
  exact go_st st (k _ _ X1 e1 W1 (A'.set W1))
theorem go_cast (X : Stand p l e R s m args below meth c T locs cells slots) (hx : p.tables.exec = Jvm.exec) (hZ : Z.Warmed39 s.vm) (eT : T.heap = h) {a : Addr} {n : Nat} {f : Nat → Value} (A : GA Z h a .char n f) {j x : Int32} {rest : List Value}
    (hd : decode c.code g.pc = .ok (.castore, 1)) (hg : g.method = m) (hs : g.stack = .int x :: .int j :: .ref a :: rest) (q : 0 ≤ j.toInt ∧ j.toInt < n)
    (k : ∀ T' h', Stand p l e R s m args below meth c T' (locs ++ [⟨a, j.toNatClampNeg⟩]) cells slots → T'.heap = h' → Wr h h' a j.toNatClampNeg (.int (nar .char x)) → GA Z h' a .char n (fun i => if i = j.toNatClampNeg then .int (nar .char x) else f i) → Go p e below s Q C S T' { g with pc := g.pc + 1, stack := rest }) : Go p e below s Q C S T g := by
  have A' := A
  obtain ⟨cl, A1, rfl, -, A4⟩ := A
  obtain ⟨T1, h1, X1, e1, W1, st⟩ := stC X hx hZ eT A1 (own_in q) hg hs hd
  exact go_st st (k _ _ X1 e1 W1 (A'.set W1))
theorem go_aast (X : Stand p l e R s m args below meth c T locs cells slots) (hx : p.tables.exec = Jvm.exec) (hZ : Z.Warmed39 s.vm) (eT : T.heap = h) {a : Addr} {ty : FieldType} {n : Nat} {f : Nat → Value} (A : GA Z h a ty n f) (hty : ty.isReference = true) {j : Int32} {v : Value} (F : Sto Z h a v) {rest : List Value}
    (hd : decode c.code g.pc = .ok (.aastore, 1)) (hg : g.method = m) (hs : g.stack = v :: .int j :: .ref a :: rest) (q : 0 ≤ j.toInt ∧ j.toInt < n)
    (k : ∀ T' h', Stand p l e R s m args below meth c T' (locs ++ [⟨a, j.toNatClampNeg⟩]) cells slots → T'.heap = h' → Wr h h' a j.toNatClampNeg v → GA Z h' a ty n (fun i => if i = j.toNatClampNeg then v else f i) → Go p e below s Q C S T' { g with pc := g.pc + 1, stack := rest }) : Go p e below s Q C S T g := by
  have A' := A
  obtain ⟨cl, A1, rfl, -, A4⟩ := A
  obtain ⟨T1, h1, X1, e1, W1, st⟩ := stR X hx hZ eT A1 (own_in q) hty F hg hs hd
  exact go_st st (k _ _ X1 e1 W1 (A'.set W1))
theorem own_clamp {n : Int32} {N : Nat} (q : n.toInt = N) : n.toNatClampNeg = N := by simp only [Int32.toNatClampNeg]; omega
theorem own_nneg {n : Int32} {N : Nat} (q : n.toInt = N) : ¬ n < 0 := by
  rw [Int32.lt_iff_toInt_lt]
  have : (0 : Int32).toInt = 0 := rfl
  omega
theorem go_newP (X : Stand p l e R s m args below meth c T locs cells slots) (hx : p.tables.exec = Jvm.exec) (hZ : Z.Warmed39 s.vm) {aty : ArrayType} (w : (Cond.arrayClass (newarray.typeOf aty)).before a0 Z = true) (eT : T.heap = h) {n : Int32} {rest : List Value} (hd : decode c.code g.pc = .ok (.newarray aty, 2)) (hg : g.method = m) (hs : g.stack = .int n :: rest)
    (N : Nat) (hn : n.toInt = N) (cap : Nat) (hcap : N ≤ cap) (hb : cap * 8 ≤ 536870912) (hc : cells + 1 ≤ R.cells) (hl : slots + cap ≤ R.slots)
    (k : ∀ T' h' a, a = h.size → Stand p l e R s m args below meth c T' locs (cells + 1) (slots + cap) → T'.heap = h' → Ext h h' → GA Z h' a (newarray.typeOf aty) N (fun _ => defaultValue (newarray.typeOf aty)) → Go p e below s Q C S T' { g with pc := g.pc + 2, stack := .ref a :: rest }) : Go p e below s Q C S T g := by
  have hN := own_clamp hn
  have hn0 := own_nneg hn
  obtain ⟨T1, h1, cA, X1, e1, E1, A1, st⟩ := newP X hx hZ w eT hg hd hs hn0 (cap := cap) (by omega) hb hc hl
  refine go_st st (k _ _ _ rfl X1 e1 E1 ⟨_, A1, (sz_new _ _ _).trans hN, ?_, fun i hi => ?_⟩)
  · have := (rng32 n).2
    omega
  · show (Array.replicate n.toNatClampNeg (defaultValue _))[i]? = _
    rw [hN, Array.getElem?_replicate, if_pos hi]
theorem go_newR (X : Stand p l e R s m args below meth c T locs cells slots) (hx : p.tables.exec = Jvm.exec) (hZ : Z.Warmed39 s.vm) {own K : String} {index : Nat} (hown : s.vm.findClass own = some m.cls) (w1 : (Cond.classLink own index K).before a0 Z = true) (w2 : (Cond.arrayOver (.object K)).before a0 Z = true) (eT : T.heap = h) {n : Int32} {rest : List Value} (hd : decode c.code g.pc = .ok (.anewarray index, 3)) (hg : g.method = m) (hs : g.stack = .int n :: rest)
    (N : Nat) (hn : n.toInt = N) (cap : Nat) (hcap : N ≤ cap) (hb : cap * 8 ≤ 536870912) (hc : cells + 1 ≤ R.cells) (hl : slots + cap ≤ R.slots)
    (k : ∀ T' h' a, a = h.size → Stand p l e R s m args below meth c T' locs (cells + 1) (slots + cap) → T'.heap = h' → Ext h h' → GA Z h' a (.object K) N (fun _ => .null) → OC Z h' a (.object K) K → Go p e below s Q C S T' { g with pc := g.pc + 3, stack := .ref a :: rest }) : Go p e below s Q C S T g := by
  have hN := own_clamp hn
  have hn0 := own_nneg hn
  obtain ⟨T1, h1, cA, X1, e1, E1, A1, O1, st⟩ := newR X hx hZ hown w1 w2 eT hg hd hs hn0 (cap := cap) (by omega) hb hc hl
  refine go_st st (k _ _ _ rfl X1 e1 E1 ⟨_, A1, (sz_new _ _ _).trans hN, ?_, fun i hi => ?_⟩ ⟨_, A1, O1⟩)
  · have := (rng32 n).2
    omega
  · show (Array.replicate n.toNatClampNeg (defaultValue _))[i]? = _
    rw [hN, Array.getElem?_replicate, if_pos hi]
    rfl
end OwnGo
theorem d2_0 : decode jdk_33_method_47_code 0 = .ok (.iload_n 0, 1) := by decide +kernel
theorem d2_1 : decode jdk_33_method_47_code 1 = .ok (.ifCond .gt 14, 3) := by decide +kernel
theorem d2_4 : decode jdk_33_method_47_code 4 = .ok (.iload_n 0, 1) := by decide +kernel
theorem d2_5 : decode jdk_33_method_47_code 5 = .ok (.ifCond .ne 8, 3) := by decide +kernel
theorem d2_8 : decode jdk_33_method_47_code 8 = .ok (.bipush 32, 2) := by decide +kernel
theorem d2_10 : decode jdk_33_method_47_code 10 = .ok (.goto 4, 3) := by decide +kernel
theorem d2_13 : decode jdk_33_method_47_code 13 = .ok (.iconst 0, 1) := by decide +kernel
theorem d2_14 : decode jdk_33_method_47_code 14 = .ok (.ireturn, 1) := by decide +kernel
theorem d2_15 : decode jdk_33_method_47_code 15 = .ok (.bipush 31, 2) := by decide +kernel
theorem d2_17 : decode jdk_33_method_47_code 17 = .ok (.istore_n 1, 1) := by decide +kernel
theorem d2_18 : decode jdk_33_method_47_code 18 = .ok (.iload_n 0, 1) := by decide +kernel
theorem d2_19 : decode jdk_33_method_47_code 19 = .ok (.ldc_w 264, 3) := by decide +kernel
theorem d2_22 : decode jdk_33_method_47_code 22 = .ok (.if_icmp .lt 11, 3) := by decide +kernel
theorem d2_25 : decode jdk_33_method_47_code 25 = .ok (.iinc 1 (-16), 3) := by decide +kernel
theorem d2_28 : decode jdk_33_method_47_code 28 = .ok (.iload_n 0, 1) := by decide +kernel
theorem d2_29 : decode jdk_33_method_47_code 29 = .ok (.bipush 16, 2) := by decide +kernel
theorem d2_31 : decode jdk_33_method_47_code 31 = .ok (.iushr, 1) := by decide +kernel
theorem d2_32 : decode jdk_33_method_47_code 32 = .ok (.istore_n 0, 1) := by decide +kernel
theorem d2_33 : decode jdk_33_method_47_code 33 = .ok (.iload_n 0, 1) := by decide +kernel
theorem d2_34 : decode jdk_33_method_47_code 34 = .ok (.sipush 256, 3) := by decide +kernel
theorem d2_37 : decode jdk_33_method_47_code 37 = .ok (.if_icmp .lt 11, 3) := by decide +kernel
theorem d2_40 : decode jdk_33_method_47_code 40 = .ok (.iinc 1 (-8), 3) := by decide +kernel
theorem d2_43 : decode jdk_33_method_47_code 43 = .ok (.iload_n 0, 1) := by decide +kernel
theorem d2_44 : decode jdk_33_method_47_code 44 = .ok (.bipush 8, 2) := by decide +kernel
theorem d2_46 : decode jdk_33_method_47_code 46 = .ok (.iushr, 1) := by decide +kernel
theorem d2_47 : decode jdk_33_method_47_code 47 = .ok (.istore_n 0, 1) := by decide +kernel
theorem d2_48 : decode jdk_33_method_47_code 48 = .ok (.iload_n 0, 1) := by decide +kernel
theorem d2_49 : decode jdk_33_method_47_code 49 = .ok (.bipush 16, 2) := by decide +kernel
theorem d2_51 : decode jdk_33_method_47_code 51 = .ok (.if_icmp .lt 10, 3) := by decide +kernel
theorem d2_54 : decode jdk_33_method_47_code 54 = .ok (.iinc 1 (-4), 3) := by decide +kernel
theorem d2_57 : decode jdk_33_method_47_code 57 = .ok (.iload_n 0, 1) := by decide +kernel
theorem d2_58 : decode jdk_33_method_47_code 58 = .ok (.iconst 4, 1) := by decide +kernel
theorem d2_59 : decode jdk_33_method_47_code 59 = .ok (.iushr, 1) := by decide +kernel
theorem d2_60 : decode jdk_33_method_47_code 60 = .ok (.istore_n 0, 1) := by decide +kernel
theorem d2_61 : decode jdk_33_method_47_code 61 = .ok (.iload_n 0, 1) := by decide +kernel
theorem d2_62 : decode jdk_33_method_47_code 62 = .ok (.iconst 4, 1) := by decide +kernel
theorem d2_63 : decode jdk_33_method_47_code 63 = .ok (.if_icmp .lt 10, 3) := by decide +kernel
theorem d2_66 : decode jdk_33_method_47_code 66 = .ok (.iinc 1 (-2), 3) := by decide +kernel
theorem d2_69 : decode jdk_33_method_47_code 69 = .ok (.iload_n 0, 1) := by decide +kernel
theorem d2_70 : decode jdk_33_method_47_code 70 = .ok (.iconst 2, 1) := by decide +kernel
theorem d2_71 : decode jdk_33_method_47_code 71 = .ok (.iushr, 1) := by decide +kernel
theorem d2_72 : decode jdk_33_method_47_code 72 = .ok (.istore_n 0, 1) := by decide +kernel
theorem d2_73 : decode jdk_33_method_47_code 73 = .ok (.iload_n 1, 1) := by decide +kernel
theorem d2_74 : decode jdk_33_method_47_code 74 = .ok (.iload_n 0, 1) := by decide +kernel
theorem d2_75 : decode jdk_33_method_47_code 75 = .ok (.iconst 1, 1) := by decide +kernel
theorem d2_76 : decode jdk_33_method_47_code 76 = .ok (.iushr, 1) := by decide +kernel
theorem d2_77 : decode jdk_33_method_47_code 77 = .ok (.isub, 1) := by decide +kernel
theorem d2_78 : decode jdk_33_method_47_code 78 = .ok (.ireturn, 1) := by decide +kernel
theorem pn0 : plainFor (⟨"java/lang/Integer", "numberOfLeadingZeros", "(I)I"⟩ : MethodName) = true := by first | (refine plainFor_of_name ?_; simp [plainName, overriddenIn]; done) | (refine plainFor_of_name ?_; decide +kernel) | decide +kernel
def fNlz_73 (y0 : Int32) (y1 : Int32) : Int32 := (y1 - (XT.ushr y0 (1 : Int32)))
def fNlz_61 (y0 : Int32) (y1 : Int32) : Int32 := (if y0 < (4 : Int32) then (fNlz_73 y0 y1) else (fNlz_73 (XT.ushr y0 (2 : Int32)) (y1 + (-2 : Int32))))
def fNlz_48 (y0 : Int32) (y1 : Int32) : Int32 := (if y0 < (16 : Int32) then (fNlz_61 y0 y1) else (fNlz_61 (XT.ushr y0 (4 : Int32)) (y1 + (-4 : Int32))))
def fNlz_33 (y0 : Int32) (y1 : Int32) : Int32 := (if y0 < (256 : Int32) then (fNlz_48 y0 y1) else (fNlz_48 (XT.ushr y0 (8 : Int32)) (y1 + (-8 : Int32))))
def fNlz (x0 : Int32) : Int32 := (if (0 : Int32) < x0 then (if x0 < (65536 : Int32) then (fNlz_33 x0 (31 : Int32)) else (fNlz_33 (XT.ushr x0 (16 : Int32)) (15 : Int32))) else (if x0 = (0 : Int32) then (32 : Int32) else (0 : Int32)))
theorem ef_2 (m : MethodId) (x0 : Int32) : entryFrame m #[(.int x0)] 2 = mkF m 0 #[.val (.int x0), .unset] [] := by first | (simp [entryFrame, mkF, argsToLocals, Value.category]; done) | rfl
abbrev rm_2 : Room := ({ frames := 0, cells := 0, slots := 0, locals := 0 } : Room)
set_option maxRecDepth 65536 in
set_option maxHeartbeats 4000000 in
theorem blk_fNlz_73 (l : Launch) (Z : State) (a0 : Array Value) (hw : ∀ d ∈ tables_1, d.before a0 Z = true) {p : Program} {e : Env} {s : State} {m : MethodId} {args : Array Value} {below : List Frame} {meth : Method} {c : Code} (ct : Ct p s m meth c Z "java/lang/Integer" "numberOfLeadingZeros" jdk_33_method_47_code 2 (some FieldType.int)) {T0 : State} {locs : List Loc} (X0 : Stand p l e rm_2 s m args below meth c T0 locs 0 0) {h0 : Heap} (e0 : T0.heap = h0) (n0 : Nat) (N0 : Fr n0 locs) (y0 : Int32) (y1 : Int32) :
    Go p e below s (QV (some (.int (fNlz_73 y0 y1))) h0 n0) 0 0 T0 (mkF m 73 #[.val (.int y0), .val (.int y1)] []) := by
  have ct0 := ct
  obtain ⟨hx, hZ, hown, hby, hml, hret, hlk, hnm⟩ := ct
  unfold fNlz_73
  refine go_st (fun _ k => XS.iloadN X0.here hx rfl (hb hby d2_73) rfl k) ?_
  show Go p e below s _ _ _ T0 (mkF m 74 #[.val (.int y0), .val (.int y1)] [(.int y1)])
  refine go_st (fun _ k => XS.iloadN X0.here hx rfl (hb hby d2_74) rfl k) ?_
  show Go p e below s _ _ _ T0 (mkF m 75 #[.val (.int y0), .val (.int y1)] [(.int y0), (.int y1)])
  refine go_st (fun _ k => XT.iconstV X0.here hx rfl (1 : Int32) (hb hby d2_75) (by decide) k) ?_
  show Go p e below s _ _ _ T0 (mkF m 76 #[.val (.int y0), .val (.int y1)] [(.int (1 : Int32)), (.int y0), (.int y1)])
  refine go_st (fun _ k => XT.iushr X0.here hx rfl (hb hby d2_76) rfl k) ?_
  show Go p e below s _ _ _ T0 (mkF m 77 #[.val (.int y0), .val (.int y1)] [(.int (XT.ushr y0 (1 : Int32))), (.int y1)])
  refine go_st (fun _ k => XS.isub X0.here hx rfl (hb hby d2_77) rfl k) ?_
  show Go p e below s _ _ _ T0 (mkF m 78 #[.val (.int y0), .val (.int y1)] [(.int (y1 - (XT.ushr y0 (1 : Int32))))])
  exact go_retI X0 hx hlk hret (hb hby d2_78) (by decide) (by decide) ⟨rfl, N0, e0⟩
set_option maxRecDepth 65536 in
set_option maxHeartbeats 4000000 in
theorem blk_fNlz_61 (l : Launch) (Z : State) (a0 : Array Value) (hw : ∀ d ∈ tables_1, d.before a0 Z = true) {p : Program} {e : Env} {s : State} {m : MethodId} {args : Array Value} {below : List Frame} {meth : Method} {c : Code} (ct : Ct p s m meth c Z "java/lang/Integer" "numberOfLeadingZeros" jdk_33_method_47_code 2 (some FieldType.int)) {T0 : State} {locs : List Loc} (X0 : Stand p l e rm_2 s m args below meth c T0 locs 0 0) {h0 : Heap} (e0 : T0.heap = h0) (n0 : Nat) (N0 : Fr n0 locs) (y0 : Int32) (y1 : Int32) :
    Go p e below s (QV (some (.int (fNlz_61 y0 y1))) h0 n0) 0 0 T0 (mkF m 61 #[.val (.int y0), .val (.int y1)] []) := by
  have ct0 := ct
  obtain ⟨hx, hZ, hown, hby, hml, hret, hlk, hnm⟩ := ct
  unfold fNlz_61
  refine go_st (fun _ k => XS.iloadN X0.here hx rfl (hb hby d2_61) rfl k) ?_
  show Go p e below s _ _ _ T0 (mkF m 62 #[.val (.int y0), .val (.int y1)] [(.int y0)])
  refine go_st (fun _ k => XT.iconstV X0.here hx rfl (4 : Int32) (hb hby d2_62) (by decide) k) ?_
  show Go p e below s _ _ _ T0 (mkF m 63 #[.val (.int y0), .val (.int y1)] [(.int (4 : Int32)), (.int y0)])
  by_cases hc5 : y0 < (4 : Int32)
  · rw [if_pos hc5]
    refine go_st (fun _ k => XS.icmpYes X0.here hx rfl (pc0 := 63) (pc' := 73) rfl (hb hby d2_63) rfl (XT.ii_lt_t hc5) (by decide) (by decide) k) ?_
    show Go p e below s _ _ _ T0 (mkF m 73 #[.val (.int y0), .val (.int y1)] [])
    exact blk_fNlz_73 l Z a0 hw ct0 X0 e0 n0 N0 y0 y1
  · rw [if_neg hc5]
    refine go_st (fun _ k => XS.icmpNo X0.here hx rfl (hb hby d2_63) rfl (XT.ii_lt_f hc5) k) ?_
    show Go p e below s _ _ _ T0 (mkF m 66 #[.val (.int y0), .val (.int y1)] [])
    refine go_st (fun _ k => XT.iincV X0.here hx rfl (-2 : Int32) (hb hby d2_66) (by decide) rfl (l' := #[.val (.int y0), .val (.int (y1 + (-2 : Int32)))]) rfl k) ?_
    show Go p e below s _ _ _ T0 (mkF m 69 #[.val (.int y0), .val (.int (y1 + (-2 : Int32)))] [])
    refine go_st (fun _ k => XS.iloadN X0.here hx rfl (hb hby d2_69) rfl k) ?_
    show Go p e below s _ _ _ T0 (mkF m 70 #[.val (.int y0), .val (.int (y1 + (-2 : Int32)))] [(.int y0)])
    refine go_st (fun _ k => XT.iconstV X0.here hx rfl (2 : Int32) (hb hby d2_70) (by decide) k) ?_
    show Go p e below s _ _ _ T0 (mkF m 71 #[.val (.int y0), .val (.int (y1 + (-2 : Int32)))] [(.int (2 : Int32)), (.int y0)])
    refine go_st (fun _ k => XT.iushr X0.here hx rfl (hb hby d2_71) rfl k) ?_
    show Go p e below s _ _ _ T0 (mkF m 72 #[.val (.int y0), .val (.int (y1 + (-2 : Int32)))] [(.int (XT.ushr y0 (2 : Int32)))])
    refine go_st (fun _ k => XS.istoreN X0.here hx rfl (hb hby d2_72) rfl (l' := #[.val (.int (XT.ushr y0 (2 : Int32))), .val (.int (y1 + (-2 : Int32)))]) rfl k) ?_
    show Go p e below s _ _ _ T0 (mkF m 73 #[.val (.int (XT.ushr y0 (2 : Int32))), .val (.int (y1 + (-2 : Int32)))] [])
    exact blk_fNlz_73 l Z a0 hw ct0 X0 e0 n0 N0 (XT.ushr y0 (2 : Int32)) (y1 + (-2 : Int32))
set_option maxRecDepth 65536 in
set_option maxHeartbeats 4000000 in
theorem blk_fNlz_48 (l : Launch) (Z : State) (a0 : Array Value) (hw : ∀ d ∈ tables_1, d.before a0 Z = true) {p : Program} {e : Env} {s : State} {m : MethodId} {args : Array Value} {below : List Frame} {meth : Method} {c : Code} (ct : Ct p s m meth c Z "java/lang/Integer" "numberOfLeadingZeros" jdk_33_method_47_code 2 (some FieldType.int)) {T0 : State} {locs : List Loc} (X0 : Stand p l e rm_2 s m args below meth c T0 locs 0 0) {h0 : Heap} (e0 : T0.heap = h0) (n0 : Nat) (N0 : Fr n0 locs) (y0 : Int32) (y1 : Int32) :
    Go p e below s (QV (some (.int (fNlz_48 y0 y1))) h0 n0) 0 0 T0 (mkF m 48 #[.val (.int y0), .val (.int y1)] []) := by
  have ct0 := ct
  obtain ⟨hx, hZ, hown, hby, hml, hret, hlk, hnm⟩ := ct
  unfold fNlz_48
  refine go_st (fun _ k => XS.iloadN X0.here hx rfl (hb hby d2_48) rfl k) ?_
  show Go p e below s _ _ _ T0 (mkF m 49 #[.val (.int y0), .val (.int y1)] [(.int y0)])
  refine go_st (fun _ k => XT.bipushV X0.here hx rfl (16 : Int32) (hb hby d2_49) (by decide) k) ?_
  show Go p e below s _ _ _ T0 (mkF m 51 #[.val (.int y0), .val (.int y1)] [(.int (16 : Int32)), (.int y0)])
  by_cases hc4 : y0 < (16 : Int32)
  · rw [if_pos hc4]
    refine go_st (fun _ k => XS.icmpYes X0.here hx rfl (pc0 := 51) (pc' := 61) rfl (hb hby d2_51) rfl (XT.ii_lt_t hc4) (by decide) (by decide) k) ?_
    show Go p e below s _ _ _ T0 (mkF m 61 #[.val (.int y0), .val (.int y1)] [])
    exact blk_fNlz_61 l Z a0 hw ct0 X0 e0 n0 N0 y0 y1
  · rw [if_neg hc4]
    refine go_st (fun _ k => XS.icmpNo X0.here hx rfl (hb hby d2_51) rfl (XT.ii_lt_f hc4) k) ?_
    show Go p e below s _ _ _ T0 (mkF m 54 #[.val (.int y0), .val (.int y1)] [])
    refine go_st (fun _ k => XT.iincV X0.here hx rfl (-4 : Int32) (hb hby d2_54) (by decide) rfl (l' := #[.val (.int y0), .val (.int (y1 + (-4 : Int32)))]) rfl k) ?_
    show Go p e below s _ _ _ T0 (mkF m 57 #[.val (.int y0), .val (.int (y1 + (-4 : Int32)))] [])
    refine go_st (fun _ k => XS.iloadN X0.here hx rfl (hb hby d2_57) rfl k) ?_
    show Go p e below s _ _ _ T0 (mkF m 58 #[.val (.int y0), .val (.int (y1 + (-4 : Int32)))] [(.int y0)])
    refine go_st (fun _ k => XT.iconstV X0.here hx rfl (4 : Int32) (hb hby d2_58) (by decide) k) ?_
    show Go p e below s _ _ _ T0 (mkF m 59 #[.val (.int y0), .val (.int (y1 + (-4 : Int32)))] [(.int (4 : Int32)), (.int y0)])
    refine go_st (fun _ k => XT.iushr X0.here hx rfl (hb hby d2_59) rfl k) ?_
    show Go p e below s _ _ _ T0 (mkF m 60 #[.val (.int y0), .val (.int (y1 + (-4 : Int32)))] [(.int (XT.ushr y0 (4 : Int32)))])
    refine go_st (fun _ k => XS.istoreN X0.here hx rfl (hb hby d2_60) rfl (l' := #[.val (.int (XT.ushr y0 (4 : Int32))), .val (.int (y1 + (-4 : Int32)))]) rfl k) ?_
    show Go p e below s _ _ _ T0 (mkF m 61 #[.val (.int (XT.ushr y0 (4 : Int32))), .val (.int (y1 + (-4 : Int32)))] [])
    exact blk_fNlz_61 l Z a0 hw ct0 X0 e0 n0 N0 (XT.ushr y0 (4 : Int32)) (y1 + (-4 : Int32))
set_option maxRecDepth 65536 in
set_option maxHeartbeats 4000000 in
theorem blk_fNlz_33 (l : Launch) (Z : State) (a0 : Array Value) (hw : ∀ d ∈ tables_1, d.before a0 Z = true) {p : Program} {e : Env} {s : State} {m : MethodId} {args : Array Value} {below : List Frame} {meth : Method} {c : Code} (ct : Ct p s m meth c Z "java/lang/Integer" "numberOfLeadingZeros" jdk_33_method_47_code 2 (some FieldType.int)) {T0 : State} {locs : List Loc} (X0 : Stand p l e rm_2 s m args below meth c T0 locs 0 0) {h0 : Heap} (e0 : T0.heap = h0) (n0 : Nat) (N0 : Fr n0 locs) (y0 : Int32) (y1 : Int32) :
    Go p e below s (QV (some (.int (fNlz_33 y0 y1))) h0 n0) 0 0 T0 (mkF m 33 #[.val (.int y0), .val (.int y1)] []) := by
  have ct0 := ct
  obtain ⟨hx, hZ, hown, hby, hml, hret, hlk, hnm⟩ := ct
  unfold fNlz_33
  refine go_st (fun _ k => XS.iloadN X0.here hx rfl (hb hby d2_33) rfl k) ?_
  show Go p e below s _ _ _ T0 (mkF m 34 #[.val (.int y0), .val (.int y1)] [(.int y0)])
  refine go_st (fun _ k => XT.sipushV X0.here hx rfl (256 : Int32) (hb hby d2_34) (by decide) k) ?_
  show Go p e below s _ _ _ T0 (mkF m 37 #[.val (.int y0), .val (.int y1)] [(.int (256 : Int32)), (.int y0)])
  by_cases hc3 : y0 < (256 : Int32)
  · rw [if_pos hc3]
    refine go_st (fun _ k => XS.icmpYes X0.here hx rfl (pc0 := 37) (pc' := 48) rfl (hb hby d2_37) rfl (XT.ii_lt_t hc3) (by decide) (by decide) k) ?_
    show Go p e below s _ _ _ T0 (mkF m 48 #[.val (.int y0), .val (.int y1)] [])
    exact blk_fNlz_48 l Z a0 hw ct0 X0 e0 n0 N0 y0 y1
  · rw [if_neg hc3]
    refine go_st (fun _ k => XS.icmpNo X0.here hx rfl (hb hby d2_37) rfl (XT.ii_lt_f hc3) k) ?_
    show Go p e below s _ _ _ T0 (mkF m 40 #[.val (.int y0), .val (.int y1)] [])
    refine go_st (fun _ k => XT.iincV X0.here hx rfl (-8 : Int32) (hb hby d2_40) (by decide) rfl (l' := #[.val (.int y0), .val (.int (y1 + (-8 : Int32)))]) rfl k) ?_
    show Go p e below s _ _ _ T0 (mkF m 43 #[.val (.int y0), .val (.int (y1 + (-8 : Int32)))] [])
    refine go_st (fun _ k => XS.iloadN X0.here hx rfl (hb hby d2_43) rfl k) ?_
    show Go p e below s _ _ _ T0 (mkF m 44 #[.val (.int y0), .val (.int (y1 + (-8 : Int32)))] [(.int y0)])
    refine go_st (fun _ k => XT.bipushV X0.here hx rfl (8 : Int32) (hb hby d2_44) (by decide) k) ?_
    show Go p e below s _ _ _ T0 (mkF m 46 #[.val (.int y0), .val (.int (y1 + (-8 : Int32)))] [(.int (8 : Int32)), (.int y0)])
    refine go_st (fun _ k => XT.iushr X0.here hx rfl (hb hby d2_46) rfl k) ?_
    show Go p e below s _ _ _ T0 (mkF m 47 #[.val (.int y0), .val (.int (y1 + (-8 : Int32)))] [(.int (XT.ushr y0 (8 : Int32)))])
    refine go_st (fun _ k => XS.istoreN X0.here hx rfl (hb hby d2_47) rfl (l' := #[.val (.int (XT.ushr y0 (8 : Int32))), .val (.int (y1 + (-8 : Int32)))]) rfl k) ?_
    show Go p e below s _ _ _ T0 (mkF m 48 #[.val (.int (XT.ushr y0 (8 : Int32))), .val (.int (y1 + (-8 : Int32)))] [])
    exact blk_fNlz_48 l Z a0 hw ct0 X0 e0 n0 N0 (XT.ushr y0 (8 : Int32)) (y1 + (-8 : Int32))
set_option maxRecDepth 65536 in
set_option maxHeartbeats 4000000 in
theorem met_2 (l : Launch) (Z : State) (a0 : Array Value) (hw : ∀ d ∈ tables_1, d.before a0 Z = true) (x0 : Int32) (h0 : Heap) (n0 : Nat) :
    Met l (⟨"java/lang/Integer", "numberOfLeadingZeros", "(I)I"⟩ : MethodName) jdk_33_method_47_code 2 (some FieldType.int) [] rm_2 Z #[(.int x0)] h0 (QV (some (.int (fNlz x0))) h0 n0) 0 0 := by
  refine own_body pn0 ?_
  intro p e s m below meth c s₁ ct X0 e0
  have ct0 := ct
  obtain ⟨hx, hZ, hown, hby, hml, hret, hlk, hnm⟩ := ct
  have N0 := Fr.nil n0
  refine castGo (ef_2 m x0) ?_
  unfold fNlz
  show Go p e below s _ _ _ s₁ (mkF m 0 #[.val (.int x0), .unset] [])
  refine go_st (fun _ k => XS.iloadN X0.here hx rfl (hb hby d2_0) rfl k) ?_
  show Go p e below s _ _ _ s₁ (mkF m 1 #[.val (.int x0), .unset] [(.int x0)])
  by_cases hc1 : (0 : Int32) < x0
  · rw [if_pos hc1]
    refine go_st (fun _ k => XS.ifYes X0.here hx rfl (pc0 := 1) (pc' := 15) rfl (hb hby d2_1) rfl (XT.i0_gt_t hc1) (by decide) (by decide) k) ?_
    show Go p e below s _ _ _ s₁ (mkF m 15 #[.val (.int x0), .unset] [])
    refine go_st (fun _ k => XT.bipushV X0.here hx rfl (31 : Int32) (hb hby d2_15) (by decide) k) ?_
    show Go p e below s _ _ _ s₁ (mkF m 17 #[.val (.int x0), .unset] [(.int (31 : Int32))])
    refine go_st (fun _ k => XS.istoreN X0.here hx rfl (hb hby d2_17) rfl (l' := #[.val (.int x0), .val (.int (31 : Int32))]) rfl k) ?_
    show Go p e below s _ _ _ s₁ (mkF m 18 #[.val (.int x0), .val (.int (31 : Int32))] [])
    refine go_st (fun _ k => XS.iloadN X0.here hx rfl (hb hby d2_18) rfl k) ?_
    show Go p e below s _ _ _ s₁ (mkF m 19 #[.val (.int x0), .val (.int (31 : Int32))] [(.int x0)])
    refine go_st (fun _ k => Jvm.Stand.ldcWI X0 hx hown (mvT hZ (hw _ (List.mem_of_getElem? (i := 34) rfl))) rfl (hb hby d2_19) k) ?_
    show Go p e below s _ _ _ s₁ (mkF m 22 #[.val (.int x0), .val (.int (31 : Int32))] [(.int (65536 : Int32)), (.int x0)])
    by_cases hc2 : x0 < (65536 : Int32)
    · rw [if_pos hc2]
      refine go_st (fun _ k => XS.icmpYes X0.here hx rfl (pc0 := 22) (pc' := 33) rfl (hb hby d2_22) rfl (XT.ii_lt_t hc2) (by decide) (by decide) k) ?_
      show Go p e below s _ _ _ s₁ (mkF m 33 #[.val (.int x0), .val (.int (31 : Int32))] [])
      exact blk_fNlz_33 l Z a0 hw ct0 X0 e0 n0 N0 x0 (31 : Int32)
    · rw [if_neg hc2]
      refine go_st (fun _ k => XS.icmpNo X0.here hx rfl (hb hby d2_22) rfl (XT.ii_lt_f hc2) k) ?_
      show Go p e below s _ _ _ s₁ (mkF m 25 #[.val (.int x0), .val (.int (31 : Int32))] [])
      refine go_st (fun _ k => XT.iincV X0.here hx rfl (-16 : Int32) (hb hby d2_25) (by decide) rfl (l' := #[.val (.int x0), .val (.int (15 : Int32))]) rfl k) ?_
      show Go p e below s _ _ _ s₁ (mkF m 28 #[.val (.int x0), .val (.int (15 : Int32))] [])
      refine go_st (fun _ k => XS.iloadN X0.here hx rfl (hb hby d2_28) rfl k) ?_
      show Go p e below s _ _ _ s₁ (mkF m 29 #[.val (.int x0), .val (.int (15 : Int32))] [(.int x0)])
      refine go_st (fun _ k => XT.bipushV X0.here hx rfl (16 : Int32) (hb hby d2_29) (by decide) k) ?_
      show Go p e below s _ _ _ s₁ (mkF m 31 #[.val (.int x0), .val (.int (15 : Int32))] [(.int (16 : Int32)), (.int x0)])
      refine go_st (fun _ k => XT.iushr X0.here hx rfl (hb hby d2_31) rfl k) ?_
      show Go p e below s _ _ _ s₁ (mkF m 32 #[.val (.int x0), .val (.int (15 : Int32))] [(.int (XT.ushr x0 (16 : Int32)))])
      refine go_st (fun _ k => XS.istoreN X0.here hx rfl (hb hby d2_32) rfl (l' := #[.val (.int (XT.ushr x0 (16 : Int32))), .val (.int (15 : Int32))]) rfl k) ?_
      show Go p e below s _ _ _ s₁ (mkF m 33 #[.val (.int (XT.ushr x0 (16 : Int32))), .val (.int (15 : Int32))] [])
      exact blk_fNlz_33 l Z a0 hw ct0 X0 e0 n0 N0 (XT.ushr x0 (16 : Int32)) (15 : Int32)
  · rw [if_neg hc1]
    refine go_st (fun _ k => XS.ifNo X0.here hx rfl (hb hby d2_1) rfl (XT.i0_gt_f hc1) k) ?_
    show Go p e below s _ _ _ s₁ (mkF m 4 #[.val (.int x0), .unset] [])
    refine go_st (fun _ k => XS.iloadN X0.here hx rfl (hb hby d2_4) rfl k) ?_
    show Go p e below s _ _ _ s₁ (mkF m 5 #[.val (.int x0), .unset] [(.int x0)])
    by_cases hc6 : x0 = (0 : Int32)
    · rw [if_pos hc6]
      refine go_st (fun _ k => XS.ifNo X0.here hx rfl (hb hby d2_5) rfl (XT.i0_ne_f hc6) k) ?_
      show Go p e below s _ _ _ s₁ (mkF m 8 #[.val (.int x0), .unset] [])
      refine go_st (fun _ k => XT.bipushV X0.here hx rfl (32 : Int32) (hb hby d2_8) (by decide) k) ?_
      show Go p e below s _ _ _ s₁ (mkF m 10 #[.val (.int x0), .unset] [(.int (32 : Int32))])
      refine go_st (fun _ k => XS.goto X0.here hx rfl (pc0 := 10) (pc' := 14) rfl (hb hby d2_10) (by decide) (by decide) k) ?_
      show Go p e below s _ _ _ s₁ (mkF m 14 #[.val (.int x0), .unset] [(.int (32 : Int32))])
      exact go_retI X0 hx hlk hret (hb hby d2_14) (by decide) (by decide) ⟨rfl, N0, e0⟩
    · rw [if_neg hc6]
      refine go_st (fun _ k => XS.ifYes X0.here hx rfl (pc0 := 5) (pc' := 13) rfl (hb hby d2_5) rfl (XT.i0_ne_t hc6) (by decide) (by decide) k) ?_
      show Go p e below s _ _ _ s₁ (mkF m 13 #[.val (.int x0), .unset] [])
      refine go_st (fun _ k => XT.iconstV X0.here hx rfl (0 : Int32) (hb hby d2_13) (by decide) k) ?_
      show Go p e below s _ _ _ s₁ (mkF m 14 #[.val (.int x0), .unset] [(.int (0 : Int32))])
      exact go_retI X0 hx hlk hret (hb hby d2_14) (by decide) (by decide) ⟨rfl, N0, e0⟩
theorem d3_0 : decode jdk_29_method_65_code 0 = .ok (.iload_n 0, 1) := by decide +kernel
theorem d3_1 : decode jdk_29_method_65_code 1 = .ok (.iload_n 1, 1) := by decide +kernel
theorem d3_2 : decode jdk_29_method_65_code 2 = .ok (.if_icmp .lt 7, 3) := by decide +kernel
theorem d3_5 : decode jdk_29_method_65_code 5 = .ok (.iload_n 0, 1) := by decide +kernel
theorem d3_6 : decode jdk_29_method_65_code 6 = .ok (.goto 4, 3) := by decide +kernel
theorem d3_9 : decode jdk_29_method_65_code 9 = .ok (.iload_n 1, 1) := by decide +kernel
theorem d3_10 : decode jdk_29_method_65_code 10 = .ok (.ireturn, 1) := by decide +kernel
theorem pn1 : plainFor (⟨"java/lang/Math", "max", "(II)I"⟩ : MethodName) = true := by first | (refine plainFor_of_name ?_; simp [plainName, overriddenIn]; done) | (refine plainFor_of_name ?_; decide +kernel) | decide +kernel
def fMax (x0 : Int32) (x1 : Int32) : Int32 := (if x0 < x1 then x1 else x0)
theorem ef_3 (m : MethodId) (x0 : Int32) (x1 : Int32) : entryFrame m #[(.int x0), (.int x1)] 2 = mkF m 0 #[.val (.int x0), .val (.int x1)] [] := by first | (simp [entryFrame, mkF, argsToLocals, Value.category]; done) | rfl
abbrev rm_3 : Room := ({ frames := 0, cells := 0, slots := 0, locals := 0 } : Room)
set_option maxRecDepth 65536 in
set_option maxHeartbeats 4000000 in
theorem met_3 (l : Launch) (Z : State) (a0 : Array Value) (hw : ∀ d ∈ tables_1, d.before a0 Z = true) (x0 : Int32) (x1 : Int32) (h0 : Heap) (n0 : Nat) :
    Met l (⟨"java/lang/Math", "max", "(II)I"⟩ : MethodName) jdk_29_method_65_code 2 (some FieldType.int) [] rm_3 Z #[(.int x0), (.int x1)] h0 (QV (some (.int (fMax x0 x1))) h0 n0) 0 0 := by
  refine own_body pn1 ?_
  intro p e s m below meth c s₁ ct X0 e0
  have ct0 := ct
  obtain ⟨hx, hZ, hown, hby, hml, hret, hlk, hnm⟩ := ct
  have N0 := Fr.nil n0
  refine castGo (ef_3 m x0 x1) ?_
  unfold fMax
  show Go p e below s _ _ _ s₁ (mkF m 0 #[.val (.int x0), .val (.int x1)] [])
  refine go_st (fun _ k => XS.iloadN X0.here hx rfl (hb hby d3_0) rfl k) ?_
  show Go p e below s _ _ _ s₁ (mkF m 1 #[.val (.int x0), .val (.int x1)] [(.int x0)])
  refine go_st (fun _ k => XS.iloadN X0.here hx rfl (hb hby d3_1) rfl k) ?_
  show Go p e below s _ _ _ s₁ (mkF m 2 #[.val (.int x0), .val (.int x1)] [(.int x1), (.int x0)])
  by_cases hc7 : x0 < x1
  · rw [if_pos hc7]
    refine go_st (fun _ k => XS.icmpYes X0.here hx rfl (pc0 := 2) (pc' := 9) rfl (hb hby d3_2) rfl (XT.ii_lt_t hc7) (by decide) (by decide) k) ?_
    show Go p e below s _ _ _ s₁ (mkF m 9 #[.val (.int x0), .val (.int x1)] [])
    refine go_st (fun _ k => XS.iloadN X0.here hx rfl (hb hby d3_9) rfl k) ?_
    show Go p e below s _ _ _ s₁ (mkF m 10 #[.val (.int x0), .val (.int x1)] [(.int x1)])
    exact go_retI X0 hx hlk hret (hb hby d3_10) (by decide) (by decide) ⟨rfl, N0, e0⟩
  · rw [if_neg hc7]
    refine go_st (fun _ k => XS.icmpNo X0.here hx rfl (hb hby d3_2) rfl (XT.ii_lt_f hc7) k) ?_
    show Go p e below s _ _ _ s₁ (mkF m 5 #[.val (.int x0), .val (.int x1)] [])
    refine go_st (fun _ k => XS.iloadN X0.here hx rfl (hb hby d3_5) rfl k) ?_
    show Go p e below s _ _ _ s₁ (mkF m 6 #[.val (.int x0), .val (.int x1)] [(.int x0)])
    refine go_st (fun _ k => XS.goto X0.here hx rfl (pc0 := 6) (pc' := 10) rfl (hb hby d3_6) (by decide) (by decide) k) ?_
    show Go p e below s _ _ _ s₁ (mkF m 10 #[.val (.int x0), .val (.int x1)] [(.int x0)])
    exact go_retI X0 hx hlk hret (hb hby d3_10) (by decide) (by decide) ⟨rfl, N0, e0⟩
theorem d4_0 : decode prog_32_method_1_code 0 = .ok (.aload_n 0, 1) := by decide +kernel
theorem d4_1 : decode prog_32_method_1_code 1 = .ok (.invokespecial 1, 3) := by decide +kernel
theorem d4_4 : decode prog_32_method_1_code 4 = .ok (.aload_n 0, 1) := by decide +kernel
theorem d4_5 : decode prog_32_method_1_code 5 = .ok (.iload_n 1, 1) := by decide +kernel
theorem d4_6 : decode prog_32_method_1_code 6 = .ok (.putfield 7, 3) := by decide +kernel
theorem d4_9 : decode prog_32_method_1_code 9 = .ok (.return_, 1) := by decide +kernel
theorem pn2 : plainFor (⟨"com/example/tourney/tourney/tree/TreeShape", "<init>", "(I)V"⟩ : MethodName) = true := by first | (refine plainFor_of_name ?_; simp [plainName, overriddenIn]; done) | (refine plainFor_of_name ?_; decide +kernel) | decide +kernel
def Q_ini (Z : State) (a : Addr) (q : Int32) (h0 : Heap) (n0 : Nat) (v : Option Value) (h : Heap) (L : List Loc) : Prop := v = none ∧ Fr n0 L ∧ Keep h0 h [a] ∧ Exa Z h a "com/example/tourney/tourney/tree/TreeShape" ∧ Fld Z h a "com/example/tourney/tourney/tree/TreeShape" "height" "I" (.int q)
theorem ef_ini (m : MethodId) (a : Addr) (q : Int32) : entryFrame m #[(.ref a), (.int q)] 2 = mkF m 0 #[.val (.ref a), .val (.int q)] [] := by first | (simp [entryFrame, mkF, argsToLocals, Value.category]; done) | rfl
abbrev rm_ini : Room := ({ frames := 1, cells := 0, slots := 0, locals := 12 } : Room)
set_option maxRecDepth 65536 in
set_option maxHeartbeats 4000000 in
theorem met_ini (l : Launch) (Z : State) (a0 : Array Value) (hw : ∀ d ∈ tables_1, d.before a0 Z = true) (a : Addr) (q : Int32) (h0 : Heap) (n0 : Nat) (Z0 : n0 ≤ h0.size) (P0 : Fld Z h0 a "com/example/tourney/tourney/tree/TreeShape" "height" "I" (.int (0 : Int32))) (P1 : Exa Z h0 a "com/example/tourney/tourney/tree/TreeShape") (P2 : n0 ≤ a) :
    Met l (⟨"com/example/tourney/tourney/tree/TreeShape", "<init>", "(I)V"⟩ : MethodName) prog_32_method_1_code 2 none [] rm_ini Z #[(.ref a), (.int q)] h0 (Q_ini Z a q h0 n0) rm_ini.cells rm_ini.slots := by
  refine own_body pn2 ?_
  intro p e s m below meth c s₁ ct X0 e0
  have ct0 := ct
  obtain ⟨hx, hZ, hown, hby, hml, hret, hlk, hnm⟩ := ct
  have lt_a : a < h0.size := P1.lt
  have N0 := Fr.nil n0
  refine castGo (ef_ini m a q) ?_
  show Go p e below s _ _ _ s₁ (mkF m 0 #[.val (.ref a), .val (.int q)] [])
  refine go_st (fun _ k => XS.aloadN X0.here hx rfl (hb hby d4_0) rfl rfl k) ?_
  show Go p e below s _ _ _ s₁ (mkF m 1 #[.val (.ref a), .val (.int q)] [(.ref a)])
  refine go_initO X0 hx hZ hml hown (hw _ (List.mem_of_getElem? (i := 19) rfl)) (hw _ (List.mem_of_getElem? (i := 20) rfl)) (hw _ (List.mem_of_getElem? (i := 21) rfl)) e0 (hb hby d4_1) rfl rfl rfl (by decide) (W := 0) (by show 2 * 0 + _ ≤ _; exact Nat.le_of_eq rfl) (by decide) ?_
  intro T8 X8 e8
  show Go p e below s _ _ _ T8 (mkF m 4 #[.val (.ref a), .val (.int q)] [])
  refine go_st (fun _ k => XS.aloadN X8.here hx rfl (hb hby d4_4) rfl rfl k) ?_
  show Go p e below s _ _ _ T8 (mkF m 5 #[.val (.ref a), .val (.int q)] [(.ref a)])
  refine go_st (fun _ k => XS.iloadN X8.here hx rfl (hb hby d4_5) rfl k) ?_
  show Go p e below s _ _ _ T8 (mkF m 6 #[.val (.ref a), .val (.int q)] [(.int q), (.ref a)])
  refine go_putF X8 hx hZ hown (host := "") (Or.inl (hw _ (List.mem_of_getElem? (i := 22) rfl))) Via.refl e8 P0 P1 (Or.inr ⟨(hw _ (List.mem_of_getElem? (i := 23) rfl)), rfl, hnm⟩) (hw _ (List.mem_of_getElem? (i := 11) rfl)) (ty := .int) (by decide) rfl rfl (hb hby d4_6) rfl rfl ?_
  intro T9 h9 X9 e9 W9
  have N9 := Fr.snoc X9 N0 P2
  have F9 : Fld Z h9 a "com/example/tourney/tourney/tree/TreeShape" "height" "I" (.int q) := Fld.same W9 P0
  show Go p e below s _ _ _ T9 (mkF m 9 #[.val (.ref a), .val (.int q)] [])
  have c10 := Exa.wr W9 P1
  exact go_ret0 X9 hx hlk hret (hb hby d4_9) (by decide) (by decide) (by rw [e9]; exact ⟨rfl, N9, (Keep.wr (Keep.refl h0 [a]) W9 (Or.inl (by simp))), c10, F9⟩)
theorem own_lo (x : Int32) : ¬ (((x &&& (1073741823 : Int32)) + (1 : Int32)) < (1 : Int32)) := by
  have h1 := c_mask x 1073741823 30 (by decide) (by decide)
  have h2 := c_iadd (x &&& 1073741823) 1
  have h3 := rng32 ((x &&& 1073741823) + 1)
  have h4 : (1 : Int32).toInt = 1 := rfl
  rw [Int32.lt_iff_toInt_lt]
  omega
theorem own_hi (x : Int32) : ¬ ((1073741824 : Int32) < ((x &&& (1073741823 : Int32)) + (1 : Int32))) := by
  have h1 := c_mask x 1073741823 30 (by decide) (by decide)
  have h2 := c_iadd (x &&& 1073741823) 1
  have h3 := rng32 ((x &&& 1073741823) + 1)
  have h4 : (1 : Int32).toInt = 1 := rfl
  have h5 : (1073741824 : Int32).toInt = 1073741824 := rfl
  rw [Int32.lt_iff_toInt_lt]
  omega
theorem d1_0 : decode prog_32_method_2_code 0 = .ok (.iload_n 0, 1) := by decide +kernel
theorem d1_1 : decode prog_32_method_2_code 1 = .ok (.iconst 1, 1) := by decide +kernel
theorem d1_2 : decode prog_32_method_2_code 2 = .ok (.if_icmp .lt 9, 3) := by decide +kernel
theorem d1_5 : decode prog_32_method_2_code 5 = .ok (.iload_n 0, 1) := by decide +kernel
theorem d1_6 : decode prog_32_method_2_code 6 = .ok (.ldc 13, 2) := by decide +kernel
theorem d1_8 : decode prog_32_method_2_code 8 = .ok (.if_icmp .le 17, 3) := by decide +kernel
theorem d1_11 : decode prog_32_method_2_code 11 = .ok (.new 14, 3) := by decide +kernel
theorem d1_14 : decode prog_32_method_2_code 14 = .ok (.dup, 1) := by decide +kernel
theorem d1_15 : decode prog_32_method_2_code 15 = .ok (.iload_n 0, 1) := by decide +kernel
theorem d1_16 : decode prog_32_method_2_code 16 = .ok (.invokedynamic 16, 5) := by decide +kernel
theorem d1_21 : decode prog_32_method_2_code 21 = .ok (.invokespecial 20, 3) := by decide +kernel
theorem d1_24 : decode prog_32_method_2_code 24 = .ok (.athrow, 1) := by decide +kernel
theorem d1_25 : decode prog_32_method_2_code 25 = .ok (.bipush 32, 2) := by decide +kernel
theorem d1_27 : decode prog_32_method_2_code 27 = .ok (.iload_n 0, 1) := by decide +kernel
theorem d1_28 : decode prog_32_method_2_code 28 = .ok (.iconst 1, 1) := by decide +kernel
theorem d1_29 : decode prog_32_method_2_code 29 = .ok (.isub, 1) := by decide +kernel
theorem d1_30 : decode prog_32_method_2_code 30 = .ok (.invokestatic 25, 3) := by decide +kernel
theorem d1_33 : decode prog_32_method_2_code 33 = .ok (.isub, 1) := by decide +kernel
theorem d1_34 : decode prog_32_method_2_code 34 = .ok (.istore_n 1, 1) := by decide +kernel
theorem d1_35 : decode prog_32_method_2_code 35 = .ok (.new 8, 3) := by decide +kernel
theorem d1_38 : decode prog_32_method_2_code 38 = .ok (.dup, 1) := by decide +kernel
theorem d1_39 : decode prog_32_method_2_code 39 = .ok (.iconst 1, 1) := by decide +kernel
theorem d1_40 : decode prog_32_method_2_code 40 = .ok (.iload_n 1, 1) := by decide +kernel
theorem d1_41 : decode prog_32_method_2_code 41 = .ok (.invokestatic 29, 3) := by decide +kernel
theorem d1_44 : decode prog_32_method_2_code 44 = .ok (.invokespecial 35, 3) := by decide +kernel
theorem d1_47 : decode prog_32_method_2_code 47 = .ok (.areturn, 1) := by decide +kernel
theorem pn3 : plainFor (⟨"com/example/tourney/tourney/tree/TreeShape", "forParticipants", "(I)Lcom/example/tourney/tourney/tree/TreeShape;"⟩ : MethodName) = true := by first | (refine plainFor_of_name ?_; simp [plainName, overriddenIn]; done) | (refine plainFor_of_name ?_; decide +kernel) | decide +kernel
def Q_for (Z : State) (q : Int32) (h0 : Heap) (n0 : Nat) (v : Option Value) (h : Heap) (L : List Loc) : Prop := ∃ r : Addr, v = some (.ref r) ∧ Fr n0 L ∧ Keep h0 h [] ∧ h0.size ≤ r ∧ Exa Z h r "com/example/tourney/tourney/tree/TreeShape" ∧ Fld Z h r "com/example/tourney/tourney/tree/TreeShape" "height" "I" (.int (fMax (1 : Int32) ((32 : Int32) - (fNlz (q - (1 : Int32))))))
theorem pd0 : parseMethodDescriptor "(I)I" = some ⟨[.int], (some .int)⟩ := by decide +kernel
theorem pd1 : parseMethodDescriptor "(II)I" = some ⟨[.int, .int], (some .int)⟩ := by decide +kernel
theorem pd2 : parseMethodDescriptor "(I)V" = some ⟨[.int], none⟩ := by decide +kernel
theorem ef_for (m : MethodId) (q : Int32) : entryFrame m #[(.int q)] 2 = mkF m 0 #[.val (.int q), .unset] [] := by first | (simp [entryFrame, mkF, argsToLocals, Value.category]; done) | rfl
abbrev rm_for : Room := ({ frames := 2, cells := 1, slots := 1, locals := 26 } : Room)
set_option maxRecDepth 65536 in
set_option maxHeartbeats 4000000 in
theorem met_for (l : Launch) (Z : State) (a0 : Array Value) (hw : ∀ d ∈ tables_1, d.before a0 Z = true) (q : Int32) (h0 : Heap) (n0 : Nat) (Z0 : n0 ≤ h0.size) (P0 : ¬ (q < (1 : Int32))) (P1 : ¬ ((1073741824 : Int32) < q)) :
    Met l (⟨"com/example/tourney/tourney/tree/TreeShape", "forParticipants", "(I)Lcom/example/tourney/tourney/tree/TreeShape;"⟩ : MethodName) prog_32_method_2_code 2 (some (FieldType.object "com/example/tourney/tourney/tree/TreeShape")) [] rm_for Z #[(.int q)] h0 (Q_for Z q h0 n0) rm_for.cells rm_for.slots := by
  refine own_body pn3 ?_
  intro p e s m below meth c s₁ ct X0 e0
  have ct0 := ct
  obtain ⟨hx, hZ, hown, hby, hml, hret, hlk, hnm⟩ := ct
  have N0 := Fr.nil n0
  refine castGo (ef_for m q) ?_
  show Go p e below s _ _ _ s₁ (mkF m 0 #[.val (.int q), .unset] [])
  refine go_st (fun _ k => XS.iloadN X0.here hx rfl (hb hby d1_0) rfl k) ?_
  show Go p e below s _ _ _ s₁ (mkF m 1 #[.val (.int q), .unset] [(.int q)])
  refine go_st (fun _ k => XT.iconstV X0.here hx rfl (1 : Int32) (hb hby d1_1) (by decide) k) ?_
  show Go p e below s _ _ _ s₁ (mkF m 2 #[.val (.int q), .unset] [(.int (1 : Int32)), (.int q)])
  refine go_st (fun _ k => XS.icmpNo X0.here hx rfl (hb hby d1_2) rfl (XT.ii_lt_f P0) k) ?_
  show Go p e below s _ _ _ s₁ (mkF m 5 #[.val (.int q), .unset] [])
  refine go_st (fun _ k => XS.iloadN X0.here hx rfl (hb hby d1_5) rfl k) ?_
  show Go p e below s _ _ _ s₁ (mkF m 6 #[.val (.int q), .unset] [(.int q)])
  refine go_st (fun _ k => Jvm.Stand.ldcI X0 hx hown (mvT hZ (hw _ (List.mem_of_getElem? (i := 5) rfl))) rfl (hb hby d1_6) k) ?_
  show Go p e below s _ _ _ s₁ (mkF m 8 #[.val (.int q), .unset] [(.int (1073741824 : Int32)), (.int q)])
  refine go_st (fun _ k => XS.icmpYes X0.here hx rfl (pc0 := 8) (pc' := 25) rfl (hb hby d1_8) rfl (XT.ii_le_t P1) (by decide) (by decide) k) ?_
  show Go p e below s _ _ _ s₁ (mkF m 25 #[.val (.int q), .unset] [])
  refine go_st (fun _ k => XT.bipushV X0.here hx rfl (32 : Int32) (hb hby d1_25) (by decide) k) ?_
  show Go p e below s _ _ _ s₁ (mkF m 27 #[.val (.int q), .unset] [(.int (32 : Int32))])
  refine go_st (fun _ k => XS.iloadN X0.here hx rfl (hb hby d1_27) rfl k) ?_
  show Go p e below s _ _ _ s₁ (mkF m 28 #[.val (.int q), .unset] [(.int q), (.int (32 : Int32))])
  refine go_st (fun _ k => XT.iconstV X0.here hx rfl (1 : Int32) (hb hby d1_28) (by decide) k) ?_
  show Go p e below s _ _ _ s₁ (mkF m 29 #[.val (.int q), .unset] [(.int (1 : Int32)), (.int q), (.int (32 : Int32))])
  refine go_st (fun _ k => XS.isub X0.here hx rfl (hb hby d1_29) rfl k) ?_
  show Go p e below s _ _ _ s₁ (mkF m 30 #[.val (.int q), .unset] [(.int (q - (1 : Int32))), (.int (32 : Int32))])
  refine go_callS X0 hx hZ hml hown (hw _ (List.mem_of_getElem? (i := 6) rfl)) (hw _ (List.mem_of_getElem? (i := 7) rfl)) (hw _ (List.mem_of_getElem? (i := 8) rfl)) (hw _ (List.mem_of_getElem? (i := 9) rfl)) e0 (argsL := [(.int (q - (1 : Int32)))]) (rest := [(.int (32 : Int32))]) (W := 1) (met_2 l Z a0 hw (q - (1 : Int32)) h0 n0) (hb hby d1_30) rfl rfl rfl (lenOf pd0 rfl) (by show 2 * 0 + _ ≤ _; exact Nat.le_of_eq rfl) (by decide) (by decide) (by decide) (by decide) (by decide) ?_
  intro T11 v11 L11 X11 q11
  obtain ⟨rfl, M11, e11⟩ := q11
  have N11 := Fr.app N0 M11
  show Go p e below s _ _ _ T11 (mkF m 33 #[.val (.int q), .unset] [(.int (fNlz (q - (1 : Int32)))), (.int (32 : Int32))])
  refine go_st (fun _ k => XS.isub X11.here hx rfl (hb hby d1_33) rfl k) ?_
  show Go p e below s _ _ _ T11 (mkF m 34 #[.val (.int q), .unset] [(.int ((32 : Int32) - (fNlz (q - (1 : Int32)))))])
  refine go_st (fun _ k => XS.istoreN X11.here hx rfl (hb hby d1_34) rfl (l' := #[.val (.int q), .val (.int ((32 : Int32) - (fNlz (q - (1 : Int32)))))]) rfl k) ?_
  show Go p e below s _ _ _ T11 (mkF m 35 #[.val (.int q), .val (.int ((32 : Int32) - (fNlz (q - (1 : Int32)))))] [])
  refine go_newO X11 hx hZ hown (hw _ (List.mem_of_getElem? (i := 10) rfl)) (hw _ (List.mem_of_getElem? (i := 11) rfl)) (hw _ (List.mem_of_getElem? (i := 3) rfl)) e11 (hb hby d1_35) rfl (by decide) (by decide) ?_
  intro T12 h12 a12 g12 X12 e12 E12 A12 D12
  have nw_a12 : n0 ≤ a12 := Nat.le_trans Z0 (Nat.le_of_eq g12.symm)
  have lt_a12 : a12 < h12.size := A12.lt
  have F13 : Fld Z h12 a12 "com/example/tourney/tourney/tree/TreeShape" "height" "I" (.int (0 : Int32)) := D12 (Or.inr (hw _ (List.mem_of_getElem? (i := 23) rfl))) (ty := .int) (by decide)
  show Go p e below s _ _ _ T12 (mkF m 38 #[.val (.int q), .val (.int ((32 : Int32) - (fNlz (q - (1 : Int32)))))] [(.ref a12)])
  refine go_st (fun _ k => XS.dup X12.here hx rfl (hb hby d1_38) rfl rfl k) ?_
  show Go p e below s _ _ _ T12 (mkF m 39 #[.val (.int q), .val (.int ((32 : Int32) - (fNlz (q - (1 : Int32)))))] [(.ref a12), (.ref a12)])
  refine go_st (fun _ k => XT.iconstV X12.here hx rfl (1 : Int32) (hb hby d1_39) (by decide) k) ?_
  show Go p e below s _ _ _ T12 (mkF m 40 #[.val (.int q), .val (.int ((32 : Int32) - (fNlz (q - (1 : Int32)))))] [(.int (1 : Int32)), (.ref a12), (.ref a12)])
  refine go_st (fun _ k => XS.iloadN X12.here hx rfl (hb hby d1_40) rfl k) ?_
  show Go p e below s _ _ _ T12 (mkF m 41 #[.val (.int q), .val (.int ((32 : Int32) - (fNlz (q - (1 : Int32)))))] [(.int ((32 : Int32) - (fNlz (q - (1 : Int32))))), (.int (1 : Int32)), (.ref a12), (.ref a12)])
  refine go_callS X12 hx hZ hml hown (hw _ (List.mem_of_getElem? (i := 12) rfl)) (hw _ (List.mem_of_getElem? (i := 13) rfl)) (hw _ (List.mem_of_getElem? (i := 14) rfl)) (hw _ (List.mem_of_getElem? (i := 15) rfl)) e12 (argsL := [(.int (1 : Int32)), (.int ((32 : Int32) - (fNlz (q - (1 : Int32)))))]) (rest := [(.ref a12), (.ref a12)]) (W := 2) (met_3 l Z a0 hw (1 : Int32) ((32 : Int32) - (fNlz (q - (1 : Int32)))) h12 n0) (hb hby d1_41) rfl rfl rfl (lenOf pd1 rfl) (by show 2 * 0 + _ ≤ _; exact Nat.le_of_eq rfl) (by decide) (by decide) (by decide) (by decide) (by decide) ?_
  intro T14 v14 L14 X14 q14
  obtain ⟨rfl, M14, e14⟩ := q14
  have N14 := Fr.app N11 M14
  show Go p e below s _ _ _ T14 (mkF m 44 #[.val (.int q), .val (.int ((32 : Int32) - (fNlz (q - (1 : Int32)))))] [(.int (fMax (1 : Int32) ((32 : Int32) - (fNlz (q - (1 : Int32)))))), (.ref a12), (.ref a12)])
  have z16 : n0 ≤ h12.size := Nat.le_trans Z0 E12.1
  refine go_callI X14 hx hZ hml hown rfl (hw _ (List.mem_of_getElem? (i := 16) rfl)) (hw _ (List.mem_of_getElem? (i := 17) rfl)) (hw _ (List.mem_of_getElem? (i := 18) rfl)) (hw _ (List.mem_of_getElem? (i := 3) rfl)) e14 (argsL := [(.int (fMax (1 : Int32) ((32 : Int32) - (fNlz (q - (1 : Int32))))))]) (rest := [(.ref a12)]) (W := 1) (met_ini l Z a0 hw a12 (fMax (1 : Int32) ((32 : Int32) - (fNlz (q - (1 : Int32))))) h12 n0 z16 F13 A12 nw_a12) (hb hby d1_44) rfl rfl rfl (lenOf pd2 rfl) (by show 2 * 0 + _ ≤ _; exact Nat.le_of_eq rfl) (by decide) (by decide) (by decide) (by decide) (by decide) ?_
  intro T15 v15 L15 X15 q15
  obtain ⟨rfl, M15, K15, f15_0, f15_1⟩ := q15
  have N15 := Fr.app N14 M15
  show Go p e below s _ _ _ T15 (mkF m 47 #[.val (.int q), .val (.int ((32 : Int32) - (fNlz (q - (1 : Int32)))))] [(.ref a12)])
  exact go_retA X15 hx hlk hret rfl rfl (hb hby d1_47) (by decide) (by decide) ⟨a12, rfl, N15, (Keep.trans (Keep.ext (Keep.refl h0 []) E12) K15 (allS (Or.inr (Nat.le_trans (Nat.le_refl _) (Nat.le_of_eq g12.symm))) all0)), (Nat.le_trans (Nat.le_refl _) (Nat.le_of_eq g12.symm)), f15_0, f15_1⟩
theorem d6_0 : decode prog_32_method_3_code 0 = .ok (.aload_n 0, 1) := by decide +kernel
theorem d6_1 : decode prog_32_method_3_code 1 = .ok (.getfield 7, 3) := by decide +kernel
theorem d6_4 : decode prog_32_method_3_code 4 = .ok (.ireturn, 1) := by decide +kernel
theorem pn4 : plainFor (⟨"com/example/tourney/tourney/tree/TreeShape", "height", "()I"⟩ : MethodName) = true := by first | (refine plainFor_of_name ?_; simp [plainName, overriddenIn]; done) | (refine plainFor_of_name ?_; decide +kernel) | decide +kernel
def fHei (q : Int32) : Int32 := q
theorem ef_6 (m : MethodId) (a : Addr) (q : Int32) : entryFrame m #[(.ref a)] 1 = mkF m 0 #[.val (.ref a)] [] := by first | (simp [entryFrame, mkF, argsToLocals, Value.category]; done) | rfl
abbrev rm_6 : Room := ({ frames := 0, cells := 0, slots := 0, locals := 0 } : Room)
set_option maxRecDepth 65536 in
set_option maxHeartbeats 4000000 in
theorem met_6 (l : Launch) (Z : State) (a0 : Array Value) (hw : ∀ d ∈ tables_1, d.before a0 Z = true) (a : Addr) (q : Int32) (h0 : Heap) (n0 : Nat) (Z0 : n0 ≤ h0.size) (P0 : Fld Z h0 a "com/example/tourney/tourney/tree/TreeShape" "height" "I" (.int q)) :
    Met l (⟨"com/example/tourney/tourney/tree/TreeShape", "height", "()I"⟩ : MethodName) prog_32_method_3_code 1 (some FieldType.int) [] rm_6 Z #[(.ref a)] h0 (QV (some (.int (fHei q))) h0 n0) 0 0 := by
  refine own_body pn4 ?_
  intro p e s m below meth c s₁ ct X0 e0
  have ct0 := ct
  obtain ⟨hx, hZ, hown, hby, hml, hret, hlk, hnm⟩ := ct
  have N0 := Fr.nil n0
  refine castGo (ef_6 m a q) ?_
  unfold fHei
  show Go p e below s _ _ _ s₁ (mkF m 0 #[.val (.ref a)] [])
  refine go_st (fun _ k => XS.aloadN X0.here hx rfl (hb hby d6_0) rfl rfl k) ?_
  show Go p e below s _ _ _ s₁ (mkF m 1 #[.val (.ref a)] [(.ref a)])
  refine go_getF X0 hx hZ hown (host := "") (Or.inl (hw _ (List.mem_of_getElem? (i := 22) rfl))) Via.refl e0 P0 (hb hby d6_1) rfl rfl ?_
  intro T17 X17 e17
  show Go p e below s _ _ _ T17 (mkF m 4 #[.val (.ref a)] [(.int q)])
  exact go_retI X17 hx hlk hret (hb hby d6_4) (by decide) (by decide) ⟨rfl, N0, e17⟩
theorem d7_0 : decode prog_32_method_4_code 0 = .ok (.iconst 1, 1) := by decide +kernel
theorem d7_1 : decode prog_32_method_4_code 1 = .ok (.aload_n 0, 1) := by decide +kernel
theorem d7_2 : decode prog_32_method_4_code 2 = .ok (.getfield 7, 3) := by decide +kernel
theorem d7_5 : decode prog_32_method_4_code 5 = .ok (.ishl, 1) := by decide +kernel
theorem d7_6 : decode prog_32_method_4_code 6 = .ok (.ireturn, 1) := by decide +kernel
theorem pn5 : plainFor (⟨"com/example/tourney/tourney/tree/TreeShape", "leafPositions", "()I"⟩ : MethodName) = true := by first | (refine plainFor_of_name ?_; simp [plainName, overriddenIn]; done) | (refine plainFor_of_name ?_; decide +kernel) | decide +kernel
def fLea (q : Int32) : Int32 := ((1 : Int32) <<< (q &&& 31))
theorem ef_7 (m : MethodId) (a : Addr) (q : Int32) : entryFrame m #[(.ref a)] 1 = mkF m 0 #[.val (.ref a)] [] := by first | (simp [entryFrame, mkF, argsToLocals, Value.category]; done) | rfl
abbrev rm_7 : Room := ({ frames := 0, cells := 0, slots := 0, locals := 0 } : Room)
set_option maxRecDepth 65536 in
set_option maxHeartbeats 4000000 in
theorem met_7 (l : Launch) (Z : State) (a0 : Array Value) (hw : ∀ d ∈ tables_1, d.before a0 Z = true) (a : Addr) (q : Int32) (h0 : Heap) (n0 : Nat) (Z0 : n0 ≤ h0.size) (P0 : Fld Z h0 a "com/example/tourney/tourney/tree/TreeShape" "height" "I" (.int q)) :
    Met l (⟨"com/example/tourney/tourney/tree/TreeShape", "leafPositions", "()I"⟩ : MethodName) prog_32_method_4_code 1 (some FieldType.int) [] rm_7 Z #[(.ref a)] h0 (QV (some (.int (fLea q))) h0 n0) 0 0 := by
  refine own_body pn5 ?_
  intro p e s m below meth c s₁ ct X0 e0
  have ct0 := ct
  obtain ⟨hx, hZ, hown, hby, hml, hret, hlk, hnm⟩ := ct
  have N0 := Fr.nil n0
  refine castGo (ef_7 m a q) ?_
  unfold fLea
  show Go p e below s _ _ _ s₁ (mkF m 0 #[.val (.ref a)] [])
  refine go_st (fun _ k => XT.iconstV X0.here hx rfl (1 : Int32) (hb hby d7_0) (by decide) k) ?_
  show Go p e below s _ _ _ s₁ (mkF m 1 #[.val (.ref a)] [(.int (1 : Int32))])
  refine go_st (fun _ k => XS.aloadN X0.here hx rfl (hb hby d7_1) rfl rfl k) ?_
  show Go p e below s _ _ _ s₁ (mkF m 2 #[.val (.ref a)] [(.ref a), (.int (1 : Int32))])
  refine go_getF X0 hx hZ hown (host := "") (Or.inl (hw _ (List.mem_of_getElem? (i := 22) rfl))) Via.refl e0 P0 (hb hby d7_2) rfl rfl ?_
  intro T18 X18 e18
  show Go p e below s _ _ _ T18 (mkF m 5 #[.val (.ref a)] [(.int q), (.int (1 : Int32))])
  refine go_st (fun _ k => XT.ishl X18.here hx rfl (hb hby d7_5) rfl k) ?_
  show Go p e below s _ _ _ T18 (mkF m 6 #[.val (.ref a)] [(.int ((1 : Int32) <<< (q &&& 31)))])
  exact go_retI X18 hx hlk hret (hb hby d7_6) (by decide) (by decide) ⟨rfl, N0, e18⟩
theorem pn6 : plainFor x = true := by first | (refine plainFor_of_name ?_; simp [plainName, overriddenIn]; done) | (refine plainFor_of_name ?_; decide +kernel) | decide +kernel
theorem pd3 : parseMethodDescriptor "(I)Lcom/example/tourney/tourney/tree/TreeShape;" = some ⟨[.int], (some (.object "com/example/tourney/tourney/tree/TreeShape"))⟩ := by decide +kernel
theorem pd4 : parseMethodDescriptor "()I" = some ⟨[], (some .int)⟩ := by decide +kernel
def fLaw (x0 : Int32) : Int32 := (if (fHei (fMax (1 : Int32) ((32 : Int32) - (fNlz (((x0 &&& (1073741823 : Int32)) + (1 : Int32)) - (1 : Int32)))))) < (1 : Int32) then (0 : Int32) else (if (30 : Int32) < (fHei (fMax (1 : Int32) ((32 : Int32) - (fNlz (((x0 &&& (1073741823 : Int32)) + (1 : Int32)) - (1 : Int32)))))) then (0 : Int32) else (if (fLea (fMax (1 : Int32) ((32 : Int32) - (fNlz (((x0 &&& (1073741823 : Int32)) + (1 : Int32)) - (1 : Int32)))))) = ((1 : Int64) <<< ((fHei (fMax (1 : Int32) ((32 : Int32) - (fNlz (((x0 &&& (1073741823 : Int32)) + (1 : Int32)) - (1 : Int32)))))).toInt64 &&& 63)).toInt32 then (if ((1 : Int64) <<< ((fHei (fMax (1 : Int32) ((32 : Int32) - (fNlz (((x0 &&& (1073741823 : Int32)) + (1 : Int32)) - (1 : Int32)))))).toInt64 &&& 63)) < ((x0 &&& (1073741823 : Int32)) + (1 : Int32)).toInt64 then (0 : Int32) else (if (1 : Int32) < (fHei (fMax (1 : Int32) ((32 : Int32) - (fNlz (((x0 &&& (1073741823 : Int32)) + (1 : Int32)) - (1 : Int32)))))) then (if ((1 : Int64) <<< (((fHei (fMax (1 : Int32) ((32 : Int32) - (fNlz (((x0 &&& (1073741823 : Int32)) + (1 : Int32)) - (1 : Int32)))))) - (1 : Int32)).toInt64 &&& 63)) < ((x0 &&& (1073741823 : Int32)) + (1 : Int32)).toInt64 then (1 : Int32) else (0 : Int32)) else (1 : Int32))) else (0 : Int32))))
theorem ef_law (m : MethodId) (x0 : Int32) : entryFrame m #[(.int x0)] maxLocals = mkF m 0 #[.val (.int x0), .unset, .unset, .unset, .unset, .unset] [] := by first | (simp [entryFrame, mkF, argsToLocals, Value.category, maxLocals]; done) | rfl
set_option maxRecDepth 65536 in
set_option maxHeartbeats 4000000 in
theorem met_law (l : Launch) (Z : State) (a0 : Array Value) (hw : ∀ d ∈ tables_1, d.before a0 Z = true) (x0 : Int32) (h0 : Heap) (n0 : Nat) (Z0 : n0 ≤ h0.size) :
    Met l x code maxLocals ret tables_1 room_1 Z #[(.int x0)] h0 (QF (some (.int (fLaw x0))) n0) 16 128 := by
  refine own_body pn6 ?_
  intro p e s m below meth c s₁ ct X0 e0
  have ct0 := ct
  obtain ⟨hx, hZ, hown, hby, hml, hret, hlk, hnm⟩ := ct
  have N0 := Fr.nil n0
  refine castGo (ef_law m x0) ?_
  unfold fLaw
  show Go p e below s _ _ _ s₁ (mkF m 0 #[.val (.int x0), .unset, .unset, .unset, .unset, .unset] [])
  refine go_st (fun _ k => XS.iloadN X0.here hx rfl (hb hby at_0) rfl k) ?_
  show Go p e below s _ _ _ s₁ (mkF m 1 #[.val (.int x0), .unset, .unset, .unset, .unset, .unset] [(.int x0)])
  refine go_st (fun _ k => Jvm.Stand.ldcI X0 hx hown (mvT hZ (hw _ (List.mem_of_getElem? (i := 0) rfl))) rfl (hb hby at_1) k) ?_
  show Go p e below s _ _ _ s₁ (mkF m 3 #[.val (.int x0), .unset, .unset, .unset, .unset, .unset] [(.int (1073741823 : Int32)), (.int x0)])
  refine go_st (fun _ k => XS.iand X0.here hx rfl (hb hby at_3) rfl k) ?_
  show Go p e below s _ _ _ s₁ (mkF m 4 #[.val (.int x0), .unset, .unset, .unset, .unset, .unset] [(.int (x0 &&& (1073741823 : Int32)))])
  refine go_st (fun _ k => XT.iconstV X0.here hx rfl (1 : Int32) (hb hby at_4) (by decide) k) ?_
  show Go p e below s _ _ _ s₁ (mkF m 5 #[.val (.int x0), .unset, .unset, .unset, .unset, .unset] [(.int (1 : Int32)), (.int (x0 &&& (1073741823 : Int32)))])
  refine go_st (fun _ k => XS.iadd X0.here hx rfl (hb hby at_5) rfl k) ?_
  show Go p e below s _ _ _ s₁ (mkF m 6 #[.val (.int x0), .unset, .unset, .unset, .unset, .unset] [(.int ((x0 &&& (1073741823 : Int32)) + (1 : Int32)))])
  refine go_st (fun _ k => XS.istoreN X0.here hx rfl (hb hby at_6) rfl (l' := #[.val (.int x0), .val (.int ((x0 &&& (1073741823 : Int32)) + (1 : Int32))), .unset, .unset, .unset, .unset]) rfl k) ?_
  show Go p e below s _ _ _ s₁ (mkF m 7 #[.val (.int x0), .val (.int ((x0 &&& (1073741823 : Int32)) + (1 : Int32))), .unset, .unset, .unset, .unset] [])
  refine go_st (fun _ k => XS.iloadN X0.here hx rfl (hb hby at_7) rfl k) ?_
  show Go p e below s _ _ _ s₁ (mkF m 8 #[.val (.int x0), .val (.int ((x0 &&& (1073741823 : Int32)) + (1 : Int32))), .unset, .unset, .unset, .unset] [(.int ((x0 &&& (1073741823 : Int32)) + (1 : Int32)))])
  refine go_callS X0 hx hZ hml hown (hw _ (List.mem_of_getElem? (i := 1) rfl)) (hw _ (List.mem_of_getElem? (i := 2) rfl)) (hw _ (List.mem_of_getElem? (i := 3) rfl)) (hw _ (List.mem_of_getElem? (i := 4) rfl)) e0 (argsL := [(.int ((x0 &&& (1073741823 : Int32)) + (1 : Int32)))]) (rest := []) (W := 0) (met_for l Z a0 hw ((x0 &&& (1073741823 : Int32)) + (1 : Int32)) h0 n0 Z0 (own_lo _) (own_hi _)) (hb hby at_8) rfl rfl rfl (lenOf pd3 rfl) (by show 2 * 0 + _ ≤ _; exact Nat.le_of_eq rfl) (by decide) (by decide) (by decide) (by decide) (by decide) ?_
  intro T19 v19 L19 X19 q19
  obtain ⟨r_19, rfl, M19, K19, fz19_r, f19_0, f19_1⟩ := q19
  have N19 := Fr.app N0 M19
  have nw_r_19 : n0 ≤ r_19 := Nat.le_trans Z0 fz19_r
  have lt_r_19 : r_19 < T19.heap.size := f19_0.lt
  show Go p e below s _ _ _ T19 (mkF m 11 #[.val (.int x0), .val (.int ((x0 &&& (1073741823 : Int32)) + (1 : Int32))), .unset, .unset, .unset, .unset] [(.ref r_19)])
  refine go_st (fun _ k => XS.astoreN X19.here hx rfl (hb hby at_11) rfl rfl (l' := #[.val (.int x0), .val (.int ((x0 &&& (1073741823 : Int32)) + (1 : Int32))), .val (.ref r_19), .unset, .unset, .unset]) rfl k) ?_
  show Go p e below s _ _ _ T19 (mkF m 12 #[.val (.int x0), .val (.int ((x0 &&& (1073741823 : Int32)) + (1 : Int32))), .val (.ref r_19), .unset, .unset, .unset] [])
  refine go_st (fun _ k => XS.aloadN X19.here hx rfl (hb hby at_12) rfl rfl k) ?_
  show Go p e below s _ _ _ T19 (mkF m 13 #[.val (.int x0), .val (.int ((x0 &&& (1073741823 : Int32)) + (1 : Int32))), .val (.ref r_19), .unset, .unset, .unset] [(.ref r_19)])
  have z21 : n0 ≤ T19.heap.size := Nat.le_trans Z0 K19.1
  refine go_callV X19 hx hZ hml hown (hw _ (List.mem_of_getElem? (i := 24) rfl)) (hw _ (List.mem_of_getElem? (i := 25) rfl)) (notFace_of_selects (args := #[]) (mvT hZ (hw _ (List.mem_of_getElem? (i := 27) rfl)))) (hw _ (List.mem_of_getElem? (i := 27) rfl)) (hw _ (List.mem_of_getElem? (i := 26) rfl)) (hw _ (List.mem_of_getElem? (i := 28) rfl)) (hw _ (List.mem_of_getElem? (i := 3) rfl)) rfl f19_0 (argsL := []) (rest := []) (W := 0) (met_6 l Z a0 hw r_19 (fMax (1 : Int32) ((32 : Int32) - (fNlz (((x0 &&& (1073741823 : Int32)) + (1 : Int32)) - (1 : Int32))))) T19.heap n0 z21 f19_1) (hb hby at_13) rfl rfl rfl (lenOf pd4 rfl) (by show 2 * 0 + _ ≤ _; exact Nat.le_of_eq rfl) (by decide) (by decide) (by decide) (by decide) (by decide) ?_
  intro T20 v20 L20 X20 q20
  obtain ⟨rfl, M20, e20⟩ := q20
  have N20 := Fr.app N19 M20
  show Go p e below s _ _ _ T20 (mkF m 16 #[.val (.int x0), .val (.int ((x0 &&& (1073741823 : Int32)) + (1 : Int32))), .val (.ref r_19), .unset, .unset, .unset] [(.int (fHei (fMax (1 : Int32) ((32 : Int32) - (fNlz (((x0 &&& (1073741823 : Int32)) + (1 : Int32)) - (1 : Int32)))))))])
  refine go_st (fun _ k => XS.istoreN X20.here hx rfl (hb hby at_16) rfl (l' := #[.val (.int x0), .val (.int ((x0 &&& (1073741823 : Int32)) + (1 : Int32))), .val (.ref r_19), .val (.int (fHei (fMax (1 : Int32) ((32 : Int32) - (fNlz (((x0 &&& (1073741823 : Int32)) + (1 : Int32)) - (1 : Int32))))))), .unset, .unset]) rfl k) ?_
  show Go p e below s _ _ _ T20 (mkF m 17 #[.val (.int x0), .val (.int ((x0 &&& (1073741823 : Int32)) + (1 : Int32))), .val (.ref r_19), .val (.int (fHei (fMax (1 : Int32) ((32 : Int32) - (fNlz (((x0 &&& (1073741823 : Int32)) + (1 : Int32)) - (1 : Int32))))))), .unset, .unset] [])
  refine go_st (fun _ k => XS.iloadN X20.here hx rfl (hb hby at_17) rfl k) ?_
  show Go p e below s _ _ _ T20 (mkF m 18 #[.val (.int x0), .val (.int ((x0 &&& (1073741823 : Int32)) + (1 : Int32))), .val (.ref r_19), .val (.int (fHei (fMax (1 : Int32) ((32 : Int32) - (fNlz (((x0 &&& (1073741823 : Int32)) + (1 : Int32)) - (1 : Int32))))))), .unset, .unset] [(.int (fHei (fMax (1 : Int32) ((32 : Int32) - (fNlz (((x0 &&& (1073741823 : Int32)) + (1 : Int32)) - (1 : Int32)))))))])
  refine go_st (fun _ k => XT.iconstV X20.here hx rfl (1 : Int32) (hb hby at_18) (by decide) k) ?_
  show Go p e below s _ _ _ T20 (mkF m 19 #[.val (.int x0), .val (.int ((x0 &&& (1073741823 : Int32)) + (1 : Int32))), .val (.ref r_19), .val (.int (fHei (fMax (1 : Int32) ((32 : Int32) - (fNlz (((x0 &&& (1073741823 : Int32)) + (1 : Int32)) - (1 : Int32))))))), .unset, .unset] [(.int (1 : Int32)), (.int (fHei (fMax (1 : Int32) ((32 : Int32) - (fNlz (((x0 &&& (1073741823 : Int32)) + (1 : Int32)) - (1 : Int32)))))))])
  by_cases hc22 : (fHei (fMax (1 : Int32) ((32 : Int32) - (fNlz (((x0 &&& (1073741823 : Int32)) + (1 : Int32)) - (1 : Int32)))))) < (1 : Int32)
  · rw [if_pos hc22]
    refine go_st (fun _ k => XS.icmpYes X20.here hx rfl (pc0 := 19) (pc' := 28) rfl (hb hby at_19) rfl (XT.ii_lt_t hc22) (by decide) (by decide) k) ?_
    show Go p e below s _ _ _ T20 (mkF m 28 #[.val (.int x0), .val (.int ((x0 &&& (1073741823 : Int32)) + (1 : Int32))), .val (.ref r_19), .val (.int (fHei (fMax (1 : Int32) ((32 : Int32) - (fNlz (((x0 &&& (1073741823 : Int32)) + (1 : Int32)) - (1 : Int32))))))), .unset, .unset] [])
    refine go_st (fun _ k => XT.iconstV X20.here hx rfl (0 : Int32) (hb hby at_28) (by decide) k) ?_
    show Go p e below s _ _ _ T20 (mkF m 29 #[.val (.int x0), .val (.int ((x0 &&& (1073741823 : Int32)) + (1 : Int32))), .val (.ref r_19), .val (.int (fHei (fMax (1 : Int32) ((32 : Int32) - (fNlz (((x0 &&& (1073741823 : Int32)) + (1 : Int32)) - (1 : Int32))))))), .unset, .unset] [(.int (0 : Int32))])
    exact go_retB (w := (0 : Int32)) X20 hx hlk hret (hb hby at_29) (by decide) (by decide) (by decide) ⟨rfl, N20⟩
  · rw [if_neg hc22]
    refine go_st (fun _ k => XS.icmpNo X20.here hx rfl (hb hby at_19) rfl (XT.ii_lt_f hc22) k) ?_
    show Go p e below s _ _ _ T20 (mkF m 22 #[.val (.int x0), .val (.int ((x0 &&& (1073741823 : Int32)) + (1 : Int32))), .val (.ref r_19), .val (.int (fHei (fMax (1 : Int32) ((32 : Int32) - (fNlz (((x0 &&& (1073741823 : Int32)) + (1 : Int32)) - (1 : Int32))))))), .unset, .unset] [])
    refine go_st (fun _ k => XS.iloadN X20.here hx rfl (hb hby at_22) rfl k) ?_
    show Go p e below s _ _ _ T20 (mkF m 23 #[.val (.int x0), .val (.int ((x0 &&& (1073741823 : Int32)) + (1 : Int32))), .val (.ref r_19), .val (.int (fHei (fMax (1 : Int32) ((32 : Int32) - (fNlz (((x0 &&& (1073741823 : Int32)) + (1 : Int32)) - (1 : Int32))))))), .unset, .unset] [(.int (fHei (fMax (1 : Int32) ((32 : Int32) - (fNlz (((x0 &&& (1073741823 : Int32)) + (1 : Int32)) - (1 : Int32)))))))])
    refine go_st (fun _ k => XT.bipushV X20.here hx rfl (30 : Int32) (hb hby at_23) (by decide) k) ?_
    show Go p e below s _ _ _ T20 (mkF m 25 #[.val (.int x0), .val (.int ((x0 &&& (1073741823 : Int32)) + (1 : Int32))), .val (.ref r_19), .val (.int (fHei (fMax (1 : Int32) ((32 : Int32) - (fNlz (((x0 &&& (1073741823 : Int32)) + (1 : Int32)) - (1 : Int32))))))), .unset, .unset] [(.int (30 : Int32)), (.int (fHei (fMax (1 : Int32) ((32 : Int32) - (fNlz (((x0 &&& (1073741823 : Int32)) + (1 : Int32)) - (1 : Int32)))))))])
    by_cases hc23 : (30 : Int32) < (fHei (fMax (1 : Int32) ((32 : Int32) - (fNlz (((x0 &&& (1073741823 : Int32)) + (1 : Int32)) - (1 : Int32))))))
    · rw [if_pos hc23]
      refine go_st (fun _ k => XS.icmpNo X20.here hx rfl (hb hby at_25) rfl (XT.ii_le_f hc23) k) ?_
      show Go p e below s _ _ _ T20 (mkF m 28 #[.val (.int x0), .val (.int ((x0 &&& (1073741823 : Int32)) + (1 : Int32))), .val (.ref r_19), .val (.int (fHei (fMax (1 : Int32) ((32 : Int32) - (fNlz (((x0 &&& (1073741823 : Int32)) + (1 : Int32)) - (1 : Int32))))))), .unset, .unset] [])
      refine go_st (fun _ k => XT.iconstV X20.here hx rfl (0 : Int32) (hb hby at_28) (by decide) k) ?_
      show Go p e below s _ _ _ T20 (mkF m 29 #[.val (.int x0), .val (.int ((x0 &&& (1073741823 : Int32)) + (1 : Int32))), .val (.ref r_19), .val (.int (fHei (fMax (1 : Int32) ((32 : Int32) - (fNlz (((x0 &&& (1073741823 : Int32)) + (1 : Int32)) - (1 : Int32))))))), .unset, .unset] [(.int (0 : Int32))])
      exact go_retB (w := (0 : Int32)) X20 hx hlk hret (hb hby at_29) (by decide) (by decide) (by decide) ⟨rfl, N20⟩
    · rw [if_neg hc23]
      refine go_st (fun _ k => XS.icmpYes X20.here hx rfl (pc0 := 25) (pc' := 30) rfl (hb hby at_25) rfl (XT.ii_le_t hc23) (by decide) (by decide) k) ?_
      show Go p e below s _ _ _ T20 (mkF m 30 #[.val (.int x0), .val (.int ((x0 &&& (1073741823 : Int32)) + (1 : Int32))), .val (.ref r_19), .val (.int (fHei (fMax (1 : Int32) ((32 : Int32) - (fNlz (((x0 &&& (1073741823 : Int32)) + (1 : Int32)) - (1 : Int32))))))), .unset, .unset] [])
      refine go_st (fun _ k => XT.lconstV X20.here hx rfl (1 : Int64) (hb hby at_30) (by decide) k) ?_
      show Go p e below s _ _ _ T20 (mkF m 31 #[.val (.int x0), .val (.int ((x0 &&& (1073741823 : Int32)) + (1 : Int32))), .val (.ref r_19), .val (.int (fHei (fMax (1 : Int32) ((32 : Int32) - (fNlz (((x0 &&& (1073741823 : Int32)) + (1 : Int32)) - (1 : Int32))))))), .unset, .unset] [(.long (1 : Int64))])
      refine go_st (fun _ k => XS.iloadN X20.here hx rfl (hb hby at_31) rfl k) ?_
      show Go p e below s _ _ _ T20 (mkF m 32 #[.val (.int x0), .val (.int ((x0 &&& (1073741823 : Int32)) + (1 : Int32))), .val (.ref r_19), .val (.int (fHei (fMax (1 : Int32) ((32 : Int32) - (fNlz (((x0 &&& (1073741823 : Int32)) + (1 : Int32)) - (1 : Int32))))))), .unset, .unset] [(.int (fHei (fMax (1 : Int32) ((32 : Int32) - (fNlz (((x0 &&& (1073741823 : Int32)) + (1 : Int32)) - (1 : Int32))))))), (.long (1 : Int64))])
      refine go_st (fun _ k => XT.lshl X20.here hx rfl (hb hby at_32) rfl k) ?_
      show Go p e below s _ _ _ T20 (mkF m 33 #[.val (.int x0), .val (.int ((x0 &&& (1073741823 : Int32)) + (1 : Int32))), .val (.ref r_19), .val (.int (fHei (fMax (1 : Int32) ((32 : Int32) - (fNlz (((x0 &&& (1073741823 : Int32)) + (1 : Int32)) - (1 : Int32))))))), .unset, .unset] [(.long ((1 : Int64) <<< ((fHei (fMax (1 : Int32) ((32 : Int32) - (fNlz (((x0 &&& (1073741823 : Int32)) + (1 : Int32)) - (1 : Int32)))))).toInt64 &&& 63)))])
      refine go_st (fun _ k => XT.lstore X20.here hx rfl (hb hby at_33) rfl (l' := #[.val (.int x0), .val (.int ((x0 &&& (1073741823 : Int32)) + (1 : Int32))), .val (.ref r_19), .val (.int (fHei (fMax (1 : Int32) ((32 : Int32) - (fNlz (((x0 &&& (1073741823 : Int32)) + (1 : Int32)) - (1 : Int32))))))), .val (.long ((1 : Int64) <<< ((fHei (fMax (1 : Int32) ((32 : Int32) - (fNlz (((x0 &&& (1073741823 : Int32)) + (1 : Int32)) - (1 : Int32)))))).toInt64 &&& 63))), .second]) rfl k) ?_
      show Go p e below s _ _ _ T20 (mkF m 35 #[.val (.int x0), .val (.int ((x0 &&& (1073741823 : Int32)) + (1 : Int32))), .val (.ref r_19), .val (.int (fHei (fMax (1 : Int32) ((32 : Int32) - (fNlz (((x0 &&& (1073741823 : Int32)) + (1 : Int32)) - (1 : Int32))))))), .val (.long ((1 : Int64) <<< ((fHei (fMax (1 : Int32) ((32 : Int32) - (fNlz (((x0 &&& (1073741823 : Int32)) + (1 : Int32)) - (1 : Int32)))))).toInt64 &&& 63))), .second] [])
      refine go_st (fun _ k => XS.aloadN X20.here hx rfl (hb hby at_35) rfl rfl k) ?_
      show Go p e below s _ _ _ T20 (mkF m 36 #[.val (.int x0), .val (.int ((x0 &&& (1073741823 : Int32)) + (1 : Int32))), .val (.ref r_19), .val (.int (fHei (fMax (1 : Int32) ((32 : Int32) - (fNlz (((x0 &&& (1073741823 : Int32)) + (1 : Int32)) - (1 : Int32))))))), .val (.long ((1 : Int64) <<< ((fHei (fMax (1 : Int32) ((32 : Int32) - (fNlz (((x0 &&& (1073741823 : Int32)) + (1 : Int32)) - (1 : Int32)))))).toInt64 &&& 63))), .second] [(.ref r_19)])
      refine go_callV X20 hx hZ hml hown (hw _ (List.mem_of_getElem? (i := 29) rfl)) (hw _ (List.mem_of_getElem? (i := 30) rfl)) (notFace_of_selects (args := #[]) (mvT hZ (hw _ (List.mem_of_getElem? (i := 32) rfl)))) (hw _ (List.mem_of_getElem? (i := 32) rfl)) (hw _ (List.mem_of_getElem? (i := 31) rfl)) (hw _ (List.mem_of_getElem? (i := 33) rfl)) (hw _ (List.mem_of_getElem? (i := 3) rfl)) e20 f19_0 (argsL := []) (rest := []) (W := 0) (met_7 l Z a0 hw r_19 (fMax (1 : Int32) ((32 : Int32) - (fNlz (((x0 &&& (1073741823 : Int32)) + (1 : Int32)) - (1 : Int32))))) T19.heap n0 z21 f19_1) (hb hby at_36) rfl rfl rfl (lenOf pd4 rfl) (by show 2 * 0 + _ ≤ _; exact Nat.le_of_eq rfl) (by decide) (by decide) (by decide) (by decide) (by decide) ?_
      intro T24 v24 L24 X24 q24
      obtain ⟨rfl, M24, e24⟩ := q24
      have N24 := Fr.app N20 M24
      show Go p e below s _ _ _ T24 (mkF m 39 #[.val (.int x0), .val (.int ((x0 &&& (1073741823 : Int32)) + (1 : Int32))), .val (.ref r_19), .val (.int (fHei (fMax (1 : Int32) ((32 : Int32) - (fNlz (((x0 &&& (1073741823 : Int32)) + (1 : Int32)) - (1 : Int32))))))), .val (.long ((1 : Int64) <<< ((fHei (fMax (1 : Int32) ((32 : Int32) - (fNlz (((x0 &&& (1073741823 : Int32)) + (1 : Int32)) - (1 : Int32)))))).toInt64 &&& 63))), .second] [(.int (fLea (fMax (1 : Int32) ((32 : Int32) - (fNlz (((x0 &&& (1073741823 : Int32)) + (1 : Int32)) - (1 : Int32)))))))])
      refine go_st (fun _ k => XT.lload X24.here hx rfl (hb hby at_39) rfl k) ?_
      show Go p e below s _ _ _ T24 (mkF m 41 #[.val (.int x0), .val (.int ((x0 &&& (1073741823 : Int32)) + (1 : Int32))), .val (.ref r_19), .val (.int (fHei (fMax (1 : Int32) ((32 : Int32) - (fNlz (((x0 &&& (1073741823 : Int32)) + (1 : Int32)) - (1 : Int32))))))), .val (.long ((1 : Int64) <<< ((fHei (fMax (1 : Int32) ((32 : Int32) - (fNlz (((x0 &&& (1073741823 : Int32)) + (1 : Int32)) - (1 : Int32)))))).toInt64 &&& 63))), .second] [(.long ((1 : Int64) <<< ((fHei (fMax (1 : Int32) ((32 : Int32) - (fNlz (((x0 &&& (1073741823 : Int32)) + (1 : Int32)) - (1 : Int32)))))).toInt64 &&& 63))), (.int (fLea (fMax (1 : Int32) ((32 : Int32) - (fNlz (((x0 &&& (1073741823 : Int32)) + (1 : Int32)) - (1 : Int32)))))))])
      refine go_st (fun _ k => XT.l2i X24.here hx rfl (hb hby at_41) rfl k) ?_
      show Go p e below s _ _ _ T24 (mkF m 42 #[.val (.int x0), .val (.int ((x0 &&& (1073741823 : Int32)) + (1 : Int32))), .val (.ref r_19), .val (.int (fHei (fMax (1 : Int32) ((32 : Int32) - (fNlz (((x0 &&& (1073741823 : Int32)) + (1 : Int32)) - (1 : Int32))))))), .val (.long ((1 : Int64) <<< ((fHei (fMax (1 : Int32) ((32 : Int32) - (fNlz (((x0 &&& (1073741823 : Int32)) + (1 : Int32)) - (1 : Int32)))))).toInt64 &&& 63))), .second] [(.int ((1 : Int64) <<< ((fHei (fMax (1 : Int32) ((32 : Int32) - (fNlz (((x0 &&& (1073741823 : Int32)) + (1 : Int32)) - (1 : Int32)))))).toInt64 &&& 63)).toInt32), (.int (fLea (fMax (1 : Int32) ((32 : Int32) - (fNlz (((x0 &&& (1073741823 : Int32)) + (1 : Int32)) - (1 : Int32)))))))])
      by_cases hc25 : (fLea (fMax (1 : Int32) ((32 : Int32) - (fNlz (((x0 &&& (1073741823 : Int32)) + (1 : Int32)) - (1 : Int32)))))) = ((1 : Int64) <<< ((fHei (fMax (1 : Int32) ((32 : Int32) - (fNlz (((x0 &&& (1073741823 : Int32)) + (1 : Int32)) - (1 : Int32)))))).toInt64 &&& 63)).toInt32
      · rw [if_pos hc25]
        refine go_st (fun _ k => XS.icmpYes X24.here hx rfl (pc0 := 42) (pc' := 47) rfl (hb hby at_42) rfl (XT.ii_eq_t hc25) (by decide) (by decide) k) ?_
        show Go p e below s _ _ _ T24 (mkF m 47 #[.val (.int x0), .val (.int ((x0 &&& (1073741823 : Int32)) + (1 : Int32))), .val (.ref r_19), .val (.int (fHei (fMax (1 : Int32) ((32 : Int32) - (fNlz (((x0 &&& (1073741823 : Int32)) + (1 : Int32)) - (1 : Int32))))))), .val (.long ((1 : Int64) <<< ((fHei (fMax (1 : Int32) ((32 : Int32) - (fNlz (((x0 &&& (1073741823 : Int32)) + (1 : Int32)) - (1 : Int32)))))).toInt64 &&& 63))), .second] [])
        refine go_st (fun _ k => XT.lload X24.here hx rfl (hb hby at_47) rfl k) ?_
        show Go p e below s _ _ _ T24 (mkF m 49 #[.val (.int x0), .val (.int ((x0 &&& (1073741823 : Int32)) + (1 : Int32))), .val (.ref r_19), .val (.int (fHei (fMax (1 : Int32) ((32 : Int32) - (fNlz (((x0 &&& (1073741823 : Int32)) + (1 : Int32)) - (1 : Int32))))))), .val (.long ((1 : Int64) <<< ((fHei (fMax (1 : Int32) ((32 : Int32) - (fNlz (((x0 &&& (1073741823 : Int32)) + (1 : Int32)) - (1 : Int32)))))).toInt64 &&& 63))), .second] [(.long ((1 : Int64) <<< ((fHei (fMax (1 : Int32) ((32 : Int32) - (fNlz (((x0 &&& (1073741823 : Int32)) + (1 : Int32)) - (1 : Int32)))))).toInt64 &&& 63)))])
        refine go_st (fun _ k => XS.iloadN X24.here hx rfl (hb hby at_49) rfl k) ?_
        show Go p e below s _ _ _ T24 (mkF m 50 #[.val (.int x0), .val (.int ((x0 &&& (1073741823 : Int32)) + (1 : Int32))), .val (.ref r_19), .val (.int (fHei (fMax (1 : Int32) ((32 : Int32) - (fNlz (((x0 &&& (1073741823 : Int32)) + (1 : Int32)) - (1 : Int32))))))), .val (.long ((1 : Int64) <<< ((fHei (fMax (1 : Int32) ((32 : Int32) - (fNlz (((x0 &&& (1073741823 : Int32)) + (1 : Int32)) - (1 : Int32)))))).toInt64 &&& 63))), .second] [(.int ((x0 &&& (1073741823 : Int32)) + (1 : Int32))), (.long ((1 : Int64) <<< ((fHei (fMax (1 : Int32) ((32 : Int32) - (fNlz (((x0 &&& (1073741823 : Int32)) + (1 : Int32)) - (1 : Int32)))))).toInt64 &&& 63)))])
        refine go_st (fun _ k => XT.i2l X24.here hx rfl (hb hby at_50) rfl k) ?_
        show Go p e below s _ _ _ T24 (mkF m 51 #[.val (.int x0), .val (.int ((x0 &&& (1073741823 : Int32)) + (1 : Int32))), .val (.ref r_19), .val (.int (fHei (fMax (1 : Int32) ((32 : Int32) - (fNlz (((x0 &&& (1073741823 : Int32)) + (1 : Int32)) - (1 : Int32))))))), .val (.long ((1 : Int64) <<< ((fHei (fMax (1 : Int32) ((32 : Int32) - (fNlz (((x0 &&& (1073741823 : Int32)) + (1 : Int32)) - (1 : Int32)))))).toInt64 &&& 63))), .second] [(.long ((x0 &&& (1073741823 : Int32)) + (1 : Int32)).toInt64), (.long ((1 : Int64) <<< ((fHei (fMax (1 : Int32) ((32 : Int32) - (fNlz (((x0 &&& (1073741823 : Int32)) + (1 : Int32)) - (1 : Int32)))))).toInt64 &&& 63)))])
        refine go_st (fun _ k => XT.lcmp X24.here hx rfl (hb hby at_51) rfl k) ?_
        show Go p e below s _ _ _ T24 (mkF m 52 #[.val (.int x0), .val (.int ((x0 &&& (1073741823 : Int32)) + (1 : Int32))), .val (.ref r_19), .val (.int (fHei (fMax (1 : Int32) ((32 : Int32) - (fNlz (((x0 &&& (1073741823 : Int32)) + (1 : Int32)) - (1 : Int32))))))), .val (.long ((1 : Int64) <<< ((fHei (fMax (1 : Int32) ((32 : Int32) - (fNlz (((x0 &&& (1073741823 : Int32)) + (1 : Int32)) - (1 : Int32)))))).toInt64 &&& 63))), .second] [(.int (XT.cmpL ((1 : Int64) <<< ((fHei (fMax (1 : Int32) ((32 : Int32) - (fNlz (((x0 &&& (1073741823 : Int32)) + (1 : Int32)) - (1 : Int32)))))).toInt64 &&& 63)) ((x0 &&& (1073741823 : Int32)) + (1 : Int32)).toInt64))])
        by_cases hc26 : ((1 : Int64) <<< ((fHei (fMax (1 : Int32) ((32 : Int32) - (fNlz (((x0 &&& (1073741823 : Int32)) + (1 : Int32)) - (1 : Int32)))))).toInt64 &&& 63)) < ((x0 &&& (1073741823 : Int32)) + (1 : Int32)).toInt64
        · rw [if_pos hc26]
          refine go_st (fun _ k => XS.ifNo X24.here hx rfl (hb hby at_52) rfl (XT.ll_ge_f hc26) k) ?_
          show Go p e below s _ _ _ T24 (mkF m 55 #[.val (.int x0), .val (.int ((x0 &&& (1073741823 : Int32)) + (1 : Int32))), .val (.ref r_19), .val (.int (fHei (fMax (1 : Int32) ((32 : Int32) - (fNlz (((x0 &&& (1073741823 : Int32)) + (1 : Int32)) - (1 : Int32))))))), .val (.long ((1 : Int64) <<< ((fHei (fMax (1 : Int32) ((32 : Int32) - (fNlz (((x0 &&& (1073741823 : Int32)) + (1 : Int32)) - (1 : Int32)))))).toInt64 &&& 63))), .second] [])
          refine go_st (fun _ k => XT.iconstV X24.here hx rfl (0 : Int32) (hb hby at_55) (by decide) k) ?_
          show Go p e below s _ _ _ T24 (mkF m 56 #[.val (.int x0), .val (.int ((x0 &&& (1073741823 : Int32)) + (1 : Int32))), .val (.ref r_19), .val (.int (fHei (fMax (1 : Int32) ((32 : Int32) - (fNlz (((x0 &&& (1073741823 : Int32)) + (1 : Int32)) - (1 : Int32))))))), .val (.long ((1 : Int64) <<< ((fHei (fMax (1 : Int32) ((32 : Int32) - (fNlz (((x0 &&& (1073741823 : Int32)) + (1 : Int32)) - (1 : Int32)))))).toInt64 &&& 63))), .second] [(.int (0 : Int32))])
          exact go_retB (w := (0 : Int32)) X24 hx hlk hret (hb hby at_56) (by decide) (by decide) (by decide) ⟨rfl, N24⟩
        · rw [if_neg hc26]
          refine go_st (fun _ k => XS.ifYes X24.here hx rfl (pc0 := 52) (pc' := 57) rfl (hb hby at_52) rfl (XT.ll_ge_t hc26) (by decide) (by decide) k) ?_
          show Go p e below s _ _ _ T24 (mkF m 57 #[.val (.int x0), .val (.int ((x0 &&& (1073741823 : Int32)) + (1 : Int32))), .val (.ref r_19), .val (.int (fHei (fMax (1 : Int32) ((32 : Int32) - (fNlz (((x0 &&& (1073741823 : Int32)) + (1 : Int32)) - (1 : Int32))))))), .val (.long ((1 : Int64) <<< ((fHei (fMax (1 : Int32) ((32 : Int32) - (fNlz (((x0 &&& (1073741823 : Int32)) + (1 : Int32)) - (1 : Int32)))))).toInt64 &&& 63))), .second] [])
          refine go_st (fun _ k => XS.iloadN X24.here hx rfl (hb hby at_57) rfl k) ?_
          show Go p e below s _ _ _ T24 (mkF m 58 #[.val (.int x0), .val (.int ((x0 &&& (1073741823 : Int32)) + (1 : Int32))), .val (.ref r_19), .val (.int (fHei (fMax (1 : Int32) ((32 : Int32) - (fNlz (((x0 &&& (1073741823 : Int32)) + (1 : Int32)) - (1 : Int32))))))), .val (.long ((1 : Int64) <<< ((fHei (fMax (1 : Int32) ((32 : Int32) - (fNlz (((x0 &&& (1073741823 : Int32)) + (1 : Int32)) - (1 : Int32)))))).toInt64 &&& 63))), .second] [(.int (fHei (fMax (1 : Int32) ((32 : Int32) - (fNlz (((x0 &&& (1073741823 : Int32)) + (1 : Int32)) - (1 : Int32)))))))])
          refine go_st (fun _ k => XT.iconstV X24.here hx rfl (1 : Int32) (hb hby at_58) (by decide) k) ?_
          show Go p e below s _ _ _ T24 (mkF m 59 #[.val (.int x0), .val (.int ((x0 &&& (1073741823 : Int32)) + (1 : Int32))), .val (.ref r_19), .val (.int (fHei (fMax (1 : Int32) ((32 : Int32) - (fNlz (((x0 &&& (1073741823 : Int32)) + (1 : Int32)) - (1 : Int32))))))), .val (.long ((1 : Int64) <<< ((fHei (fMax (1 : Int32) ((32 : Int32) - (fNlz (((x0 &&& (1073741823 : Int32)) + (1 : Int32)) - (1 : Int32)))))).toInt64 &&& 63))), .second] [(.int (1 : Int32)), (.int (fHei (fMax (1 : Int32) ((32 : Int32) - (fNlz (((x0 &&& (1073741823 : Int32)) + (1 : Int32)) - (1 : Int32)))))))])
          by_cases hc27 : (1 : Int32) < (fHei (fMax (1 : Int32) ((32 : Int32) - (fNlz (((x0 &&& (1073741823 : Int32)) + (1 : Int32)) - (1 : Int32))))))
          · rw [if_pos hc27]
            refine go_st (fun _ k => XS.icmpNo X24.here hx rfl (hb hby at_59) rfl (XT.ii_le_f hc27) k) ?_
            show Go p e below s _ _ _ T24 (mkF m 62 #[.val (.int x0), .val (.int ((x0 &&& (1073741823 : Int32)) + (1 : Int32))), .val (.ref r_19), .val (.int (fHei (fMax (1 : Int32) ((32 : Int32) - (fNlz (((x0 &&& (1073741823 : Int32)) + (1 : Int32)) - (1 : Int32))))))), .val (.long ((1 : Int64) <<< ((fHei (fMax (1 : Int32) ((32 : Int32) - (fNlz (((x0 &&& (1073741823 : Int32)) + (1 : Int32)) - (1 : Int32)))))).toInt64 &&& 63))), .second] [])
            refine go_st (fun _ k => XT.lconstV X24.here hx rfl (1 : Int64) (hb hby at_62) (by decide) k) ?_
            show Go p e below s _ _ _ T24 (mkF m 63 #[.val (.int x0), .val (.int ((x0 &&& (1073741823 : Int32)) + (1 : Int32))), .val (.ref r_19), .val (.int (fHei (fMax (1 : Int32) ((32 : Int32) - (fNlz (((x0 &&& (1073741823 : Int32)) + (1 : Int32)) - (1 : Int32))))))), .val (.long ((1 : Int64) <<< ((fHei (fMax (1 : Int32) ((32 : Int32) - (fNlz (((x0 &&& (1073741823 : Int32)) + (1 : Int32)) - (1 : Int32)))))).toInt64 &&& 63))), .second] [(.long (1 : Int64))])
            refine go_st (fun _ k => XS.iloadN X24.here hx rfl (hb hby at_63) rfl k) ?_
            show Go p e below s _ _ _ T24 (mkF m 64 #[.val (.int x0), .val (.int ((x0 &&& (1073741823 : Int32)) + (1 : Int32))), .val (.ref r_19), .val (.int (fHei (fMax (1 : Int32) ((32 : Int32) - (fNlz (((x0 &&& (1073741823 : Int32)) + (1 : Int32)) - (1 : Int32))))))), .val (.long ((1 : Int64) <<< ((fHei (fMax (1 : Int32) ((32 : Int32) - (fNlz (((x0 &&& (1073741823 : Int32)) + (1 : Int32)) - (1 : Int32)))))).toInt64 &&& 63))), .second] [(.int (fHei (fMax (1 : Int32) ((32 : Int32) - (fNlz (((x0 &&& (1073741823 : Int32)) + (1 : Int32)) - (1 : Int32))))))), (.long (1 : Int64))])
            refine go_st (fun _ k => XT.iconstV X24.here hx rfl (1 : Int32) (hb hby at_64) (by decide) k) ?_
            show Go p e below s _ _ _ T24 (mkF m 65 #[.val (.int x0), .val (.int ((x0 &&& (1073741823 : Int32)) + (1 : Int32))), .val (.ref r_19), .val (.int (fHei (fMax (1 : Int32) ((32 : Int32) - (fNlz (((x0 &&& (1073741823 : Int32)) + (1 : Int32)) - (1 : Int32))))))), .val (.long ((1 : Int64) <<< ((fHei (fMax (1 : Int32) ((32 : Int32) - (fNlz (((x0 &&& (1073741823 : Int32)) + (1 : Int32)) - (1 : Int32)))))).toInt64 &&& 63))), .second] [(.int (1 : Int32)), (.int (fHei (fMax (1 : Int32) ((32 : Int32) - (fNlz (((x0 &&& (1073741823 : Int32)) + (1 : Int32)) - (1 : Int32))))))), (.long (1 : Int64))])
            refine go_st (fun _ k => XS.isub X24.here hx rfl (hb hby at_65) rfl k) ?_
            show Go p e below s _ _ _ T24 (mkF m 66 #[.val (.int x0), .val (.int ((x0 &&& (1073741823 : Int32)) + (1 : Int32))), .val (.ref r_19), .val (.int (fHei (fMax (1 : Int32) ((32 : Int32) - (fNlz (((x0 &&& (1073741823 : Int32)) + (1 : Int32)) - (1 : Int32))))))), .val (.long ((1 : Int64) <<< ((fHei (fMax (1 : Int32) ((32 : Int32) - (fNlz (((x0 &&& (1073741823 : Int32)) + (1 : Int32)) - (1 : Int32)))))).toInt64 &&& 63))), .second] [(.int ((fHei (fMax (1 : Int32) ((32 : Int32) - (fNlz (((x0 &&& (1073741823 : Int32)) + (1 : Int32)) - (1 : Int32)))))) - (1 : Int32))), (.long (1 : Int64))])
            refine go_st (fun _ k => XT.lshl X24.here hx rfl (hb hby at_66) rfl k) ?_
            show Go p e below s _ _ _ T24 (mkF m 67 #[.val (.int x0), .val (.int ((x0 &&& (1073741823 : Int32)) + (1 : Int32))), .val (.ref r_19), .val (.int (fHei (fMax (1 : Int32) ((32 : Int32) - (fNlz (((x0 &&& (1073741823 : Int32)) + (1 : Int32)) - (1 : Int32))))))), .val (.long ((1 : Int64) <<< ((fHei (fMax (1 : Int32) ((32 : Int32) - (fNlz (((x0 &&& (1073741823 : Int32)) + (1 : Int32)) - (1 : Int32)))))).toInt64 &&& 63))), .second] [(.long ((1 : Int64) <<< (((fHei (fMax (1 : Int32) ((32 : Int32) - (fNlz (((x0 &&& (1073741823 : Int32)) + (1 : Int32)) - (1 : Int32)))))) - (1 : Int32)).toInt64 &&& 63)))])
            refine go_st (fun _ k => XS.iloadN X24.here hx rfl (hb hby at_67) rfl k) ?_
            show Go p e below s _ _ _ T24 (mkF m 68 #[.val (.int x0), .val (.int ((x0 &&& (1073741823 : Int32)) + (1 : Int32))), .val (.ref r_19), .val (.int (fHei (fMax (1 : Int32) ((32 : Int32) - (fNlz (((x0 &&& (1073741823 : Int32)) + (1 : Int32)) - (1 : Int32))))))), .val (.long ((1 : Int64) <<< ((fHei (fMax (1 : Int32) ((32 : Int32) - (fNlz (((x0 &&& (1073741823 : Int32)) + (1 : Int32)) - (1 : Int32)))))).toInt64 &&& 63))), .second] [(.int ((x0 &&& (1073741823 : Int32)) + (1 : Int32))), (.long ((1 : Int64) <<< (((fHei (fMax (1 : Int32) ((32 : Int32) - (fNlz (((x0 &&& (1073741823 : Int32)) + (1 : Int32)) - (1 : Int32)))))) - (1 : Int32)).toInt64 &&& 63)))])
            refine go_st (fun _ k => XT.i2l X24.here hx rfl (hb hby at_68) rfl k) ?_
            show Go p e below s _ _ _ T24 (mkF m 69 #[.val (.int x0), .val (.int ((x0 &&& (1073741823 : Int32)) + (1 : Int32))), .val (.ref r_19), .val (.int (fHei (fMax (1 : Int32) ((32 : Int32) - (fNlz (((x0 &&& (1073741823 : Int32)) + (1 : Int32)) - (1 : Int32))))))), .val (.long ((1 : Int64) <<< ((fHei (fMax (1 : Int32) ((32 : Int32) - (fNlz (((x0 &&& (1073741823 : Int32)) + (1 : Int32)) - (1 : Int32)))))).toInt64 &&& 63))), .second] [(.long ((x0 &&& (1073741823 : Int32)) + (1 : Int32)).toInt64), (.long ((1 : Int64) <<< (((fHei (fMax (1 : Int32) ((32 : Int32) - (fNlz (((x0 &&& (1073741823 : Int32)) + (1 : Int32)) - (1 : Int32)))))) - (1 : Int32)).toInt64 &&& 63)))])
            refine go_st (fun _ k => XT.lcmp X24.here hx rfl (hb hby at_69) rfl k) ?_
            show Go p e below s _ _ _ T24 (mkF m 70 #[.val (.int x0), .val (.int ((x0 &&& (1073741823 : Int32)) + (1 : Int32))), .val (.ref r_19), .val (.int (fHei (fMax (1 : Int32) ((32 : Int32) - (fNlz (((x0 &&& (1073741823 : Int32)) + (1 : Int32)) - (1 : Int32))))))), .val (.long ((1 : Int64) <<< ((fHei (fMax (1 : Int32) ((32 : Int32) - (fNlz (((x0 &&& (1073741823 : Int32)) + (1 : Int32)) - (1 : Int32)))))).toInt64 &&& 63))), .second] [(.int (XT.cmpL ((1 : Int64) <<< (((fHei (fMax (1 : Int32) ((32 : Int32) - (fNlz (((x0 &&& (1073741823 : Int32)) + (1 : Int32)) - (1 : Int32)))))) - (1 : Int32)).toInt64 &&& 63)) ((x0 &&& (1073741823 : Int32)) + (1 : Int32)).toInt64))])
            by_cases hc28 : ((1 : Int64) <<< (((fHei (fMax (1 : Int32) ((32 : Int32) - (fNlz (((x0 &&& (1073741823 : Int32)) + (1 : Int32)) - (1 : Int32)))))) - (1 : Int32)).toInt64 &&& 63)) < ((x0 &&& (1073741823 : Int32)) + (1 : Int32)).toInt64
            · rw [if_pos hc28]
              refine go_st (fun _ k => XS.ifYes X24.here hx rfl (pc0 := 70) (pc' := 75) rfl (hb hby at_70) rfl (XT.ll_lt_t hc28) (by decide) (by decide) k) ?_
              show Go p e below s _ _ _ T24 (mkF m 75 #[.val (.int x0), .val (.int ((x0 &&& (1073741823 : Int32)) + (1 : Int32))), .val (.ref r_19), .val (.int (fHei (fMax (1 : Int32) ((32 : Int32) - (fNlz (((x0 &&& (1073741823 : Int32)) + (1 : Int32)) - (1 : Int32))))))), .val (.long ((1 : Int64) <<< ((fHei (fMax (1 : Int32) ((32 : Int32) - (fNlz (((x0 &&& (1073741823 : Int32)) + (1 : Int32)) - (1 : Int32)))))).toInt64 &&& 63))), .second] [])
              refine go_st (fun _ k => XT.iconstV X24.here hx rfl (1 : Int32) (hb hby at_75) (by decide) k) ?_
              show Go p e below s _ _ _ T24 (mkF m 76 #[.val (.int x0), .val (.int ((x0 &&& (1073741823 : Int32)) + (1 : Int32))), .val (.ref r_19), .val (.int (fHei (fMax (1 : Int32) ((32 : Int32) - (fNlz (((x0 &&& (1073741823 : Int32)) + (1 : Int32)) - (1 : Int32))))))), .val (.long ((1 : Int64) <<< ((fHei (fMax (1 : Int32) ((32 : Int32) - (fNlz (((x0 &&& (1073741823 : Int32)) + (1 : Int32)) - (1 : Int32)))))).toInt64 &&& 63))), .second] [(.int (1 : Int32))])
              exact go_retB (w := (1 : Int32)) X24 hx hlk hret (hb hby at_76) (by decide) (by decide) (by decide) ⟨rfl, N24⟩
            · rw [if_neg hc28]
              refine go_st (fun _ k => XS.ifNo X24.here hx rfl (hb hby at_70) rfl (XT.ll_lt_f hc28) k) ?_
              show Go p e below s _ _ _ T24 (mkF m 73 #[.val (.int x0), .val (.int ((x0 &&& (1073741823 : Int32)) + (1 : Int32))), .val (.ref r_19), .val (.int (fHei (fMax (1 : Int32) ((32 : Int32) - (fNlz (((x0 &&& (1073741823 : Int32)) + (1 : Int32)) - (1 : Int32))))))), .val (.long ((1 : Int64) <<< ((fHei (fMax (1 : Int32) ((32 : Int32) - (fNlz (((x0 &&& (1073741823 : Int32)) + (1 : Int32)) - (1 : Int32)))))).toInt64 &&& 63))), .second] [])
              refine go_st (fun _ k => XT.iconstV X24.here hx rfl (0 : Int32) (hb hby at_73) (by decide) k) ?_
              show Go p e below s _ _ _ T24 (mkF m 74 #[.val (.int x0), .val (.int ((x0 &&& (1073741823 : Int32)) + (1 : Int32))), .val (.ref r_19), .val (.int (fHei (fMax (1 : Int32) ((32 : Int32) - (fNlz (((x0 &&& (1073741823 : Int32)) + (1 : Int32)) - (1 : Int32))))))), .val (.long ((1 : Int64) <<< ((fHei (fMax (1 : Int32) ((32 : Int32) - (fNlz (((x0 &&& (1073741823 : Int32)) + (1 : Int32)) - (1 : Int32)))))).toInt64 &&& 63))), .second] [(.int (0 : Int32))])
              exact go_retB (w := (0 : Int32)) X24 hx hlk hret (hb hby at_74) (by decide) (by decide) (by decide) ⟨rfl, N24⟩
          · rw [if_neg hc27]
            refine go_st (fun _ k => XS.icmpYes X24.here hx rfl (pc0 := 59) (pc' := 75) rfl (hb hby at_59) rfl (XT.ii_le_t hc27) (by decide) (by decide) k) ?_
            show Go p e below s _ _ _ T24 (mkF m 75 #[.val (.int x0), .val (.int ((x0 &&& (1073741823 : Int32)) + (1 : Int32))), .val (.ref r_19), .val (.int (fHei (fMax (1 : Int32) ((32 : Int32) - (fNlz (((x0 &&& (1073741823 : Int32)) + (1 : Int32)) - (1 : Int32))))))), .val (.long ((1 : Int64) <<< ((fHei (fMax (1 : Int32) ((32 : Int32) - (fNlz (((x0 &&& (1073741823 : Int32)) + (1 : Int32)) - (1 : Int32)))))).toInt64 &&& 63))), .second] [])
            refine go_st (fun _ k => XT.iconstV X24.here hx rfl (1 : Int32) (hb hby at_75) (by decide) k) ?_
            show Go p e below s _ _ _ T24 (mkF m 76 #[.val (.int x0), .val (.int ((x0 &&& (1073741823 : Int32)) + (1 : Int32))), .val (.ref r_19), .val (.int (fHei (fMax (1 : Int32) ((32 : Int32) - (fNlz (((x0 &&& (1073741823 : Int32)) + (1 : Int32)) - (1 : Int32))))))), .val (.long ((1 : Int64) <<< ((fHei (fMax (1 : Int32) ((32 : Int32) - (fNlz (((x0 &&& (1073741823 : Int32)) + (1 : Int32)) - (1 : Int32)))))).toInt64 &&& 63))), .second] [(.int (1 : Int32))])
            exact go_retB (w := (1 : Int32)) X24 hx hlk hret (hb hby at_76) (by decide) (by decide) (by decide) ⟨rfl, N24⟩
      · rw [if_neg hc25]
        refine go_st (fun _ k => XS.icmpNo X24.here hx rfl (hb hby at_42) rfl (XT.ii_eq_f hc25) k) ?_
        show Go p e below s _ _ _ T24 (mkF m 45 #[.val (.int x0), .val (.int ((x0 &&& (1073741823 : Int32)) + (1 : Int32))), .val (.ref r_19), .val (.int (fHei (fMax (1 : Int32) ((32 : Int32) - (fNlz (((x0 &&& (1073741823 : Int32)) + (1 : Int32)) - (1 : Int32))))))), .val (.long ((1 : Int64) <<< ((fHei (fMax (1 : Int32) ((32 : Int32) - (fNlz (((x0 &&& (1073741823 : Int32)) + (1 : Int32)) - (1 : Int32)))))).toInt64 &&& 63))), .second] [])
        refine go_st (fun _ k => XT.iconstV X24.here hx rfl (0 : Int32) (hb hby at_45) (by decide) k) ?_
        show Go p e below s _ _ _ T24 (mkF m 46 #[.val (.int x0), .val (.int ((x0 &&& (1073741823 : Int32)) + (1 : Int32))), .val (.ref r_19), .val (.int (fHei (fMax (1 : Int32) ((32 : Int32) - (fNlz (((x0 &&& (1073741823 : Int32)) + (1 : Int32)) - (1 : Int32))))))), .val (.long ((1 : Int64) <<< ((fHei (fMax (1 : Int32) ((32 : Int32) - (fNlz (((x0 &&& (1073741823 : Int32)) + (1 : Int32)) - (1 : Int32)))))).toInt64 &&& 63))), .second] [(.int (0 : Int32))])
        exact go_retB (w := (0 : Int32)) X24 hx hlk hret (hb hby at_46) (by decide) (by decide) (by decide) ⟨rfl, N24⟩
theorem own_nl73 (y n : Int32) (h0 : 1 ≤ y.toInt) (h1 : y.toInt < 4) (hn : -100 ≤ n.toInt) : ∃ k P : Nat, P = 2 ^ k ∧ k ≤ 1 ∧ P ≤ y.toInt ∧ y.toInt < 2 * P ∧ (fNlz_73 y n).toInt = n.toInt - k := by
  unfold fNlz_73
  have a1 : (XT.ushr y 1).toInt = y.toInt / 2 := by
    have := c_iushr y 1 1 (by decide) (by decide)
    unfold XT.ushr
    omega
  have a2 := c_isub n (XT.ushr y 1)
  have a3 := rng32 (n - XT.ushr y 1)
  have a4 := rng32 n
  by_cases h : y.toInt = 1
  · exact ⟨0, 1, rfl, by omega, by omega, by omega, by omega⟩
  · exact ⟨1, 2, rfl, by omega, by omega, by omega, by omega⟩
theorem own_nl61 (y n : Int32) (h0 : 1 ≤ y.toInt) (h1 : y.toInt < 16) (hn : -90 ≤ n.toInt) : ∃ k P : Nat, P = 2 ^ k ∧ k ≤ 3 ∧ P ≤ y.toInt ∧ y.toInt < 2 * P ∧ (fNlz_61 y n).toInt = n.toInt - k := by
  unfold fNlz_61
  have e1 : (4 : Int32).toInt = 4 := rfl
  by_cases h : y < 4
  · rw [if_pos h]
    rw [Int32.lt_iff_toInt_lt] at h
    obtain ⟨k, P, k0, k1, k2, k3, k4⟩ := own_nl73 y n h0 (by omega) (by omega)
    exact ⟨k, P, k0, Nat.le_trans k1 (by decide), k2, k3, k4⟩
  · rw [if_neg h]
    rw [Int32.lt_iff_toInt_lt] at h
    have a1 : (XT.ushr y 2).toInt = y.toInt / 4 := by
      have := c_iushr y 2 2 (by decide) (by decide)
      unfold XT.ushr
      omega
    have e2 : (-2 : Int32).toInt = -2 := rfl
    have a2 := c_iadd n (-2)
    have a3 := rng32 (n + -2)
    have a4 := rng32 n
    obtain ⟨k, P, k0, k1, k2, k3, k4⟩ := own_nl73 (XT.ushr y 2) (n + -2) (by omega) (by omega) (by omega)
    have hP : P * 4 = 2 ^ (k + 2) := by rw [Nat.pow_add, k0]
    generalize fNlz_73 (XT.ushr y 2) (n + -2) = r at *
    refine ⟨k + 2, P * 4, hP, ?_, ?_, ?_, ?_⟩
    all_goals (clear k0 hP)
    all_goals omega
theorem own_nl48 (y n : Int32) (h0 : 1 ≤ y.toInt) (h1 : y.toInt < 256) (hn : -80 ≤ n.toInt) : ∃ k P : Nat, P = 2 ^ k ∧ k ≤ 7 ∧ P ≤ y.toInt ∧ y.toInt < 2 * P ∧ (fNlz_48 y n).toInt = n.toInt - k := by
  unfold fNlz_48
  have e1 : (16 : Int32).toInt = 16 := rfl
  by_cases h : y < 16
  · rw [if_pos h]
    rw [Int32.lt_iff_toInt_lt] at h
    obtain ⟨k, P, k0, k1, k2, k3, k4⟩ := own_nl61 y n h0 (by omega) (by omega)
    exact ⟨k, P, k0, Nat.le_trans k1 (by decide), k2, k3, k4⟩
  · rw [if_neg h]
    rw [Int32.lt_iff_toInt_lt] at h
    have a1 : (XT.ushr y 4).toInt = y.toInt / 16 := by
      have := c_iushr y 4 4 (by decide) (by decide)
      unfold XT.ushr
      omega
    have e2 : (-4 : Int32).toInt = -4 := rfl
    have a2 := c_iadd n (-4)
    have a3 := rng32 (n + -4)
    have a4 := rng32 n
    obtain ⟨k, P, k0, k1, k2, k3, k4⟩ := own_nl61 (XT.ushr y 4) (n + -4) (by omega) (by omega) (by omega)
    have hP : P * 16 = 2 ^ (k + 4) := by rw [Nat.pow_add, k0]
    generalize fNlz_61 (XT.ushr y 4) (n + -4) = r at *
    refine ⟨k + 4, P * 16, hP, ?_, ?_, ?_, ?_⟩
    all_goals (clear k0 hP)
    all_goals omega
theorem own_nl33 (y n : Int32) (h0 : 1 ≤ y.toInt) (h1 : y.toInt < 65536) (hn : -70 ≤ n.toInt) : ∃ k P : Nat, P = 2 ^ k ∧ k ≤ 15 ∧ P ≤ y.toInt ∧ y.toInt < 2 * P ∧ (fNlz_33 y n).toInt = n.toInt - k := by
  unfold fNlz_33
  have e1 : (256 : Int32).toInt = 256 := rfl
  by_cases h : y < 256
  · rw [if_pos h]
    rw [Int32.lt_iff_toInt_lt] at h
    obtain ⟨k, P, k0, k1, k2, k3, k4⟩ := own_nl48 y n h0 (by omega) (by omega)
    exact ⟨k, P, k0, Nat.le_trans k1 (by decide), k2, k3, k4⟩
  · rw [if_neg h]
    rw [Int32.lt_iff_toInt_lt] at h
    have a1 : (XT.ushr y 8).toInt = y.toInt / 256 := by
      have := c_iushr y 8 8 (by decide) (by decide)
      unfold XT.ushr
      omega
    have e2 : (-8 : Int32).toInt = -8 := rfl
    have a2 := c_iadd n (-8)
    have a3 := rng32 (n + -8)
    have a4 := rng32 n
    obtain ⟨k, P, k0, k1, k2, k3, k4⟩ := own_nl48 (XT.ushr y 8) (n + -8) (by omega) (by omega) (by omega)
    have hP : P * 256 = 2 ^ (k + 8) := by rw [Nat.pow_add, k0]
    generalize fNlz_48 (XT.ushr y 8) (n + -8) = r at *
    refine ⟨k + 8, P * 256, hP, ?_, ?_, ?_, ?_⟩
    all_goals (clear k0 hP)
    all_goals omega
theorem own_nlz (y : Int32) (h0 : 1 ≤ y.toInt) : ∃ k P : Nat, P = 2 ^ k ∧ k ≤ 31 ∧ P ≤ y.toInt ∧ y.toInt < 2 * P ∧ (fNlz y).toInt = 31 - k := by
  unfold fNlz
  have e0 : (0 : Int32).toInt = 0 := rfl
  have e1 : (65536 : Int32).toInt = 65536 := rfl
  have e31 : (31 : Int32).toInt = 31 := rfl
  have hr := rng32 y
  rw [if_pos (by rw [Int32.lt_iff_toInt_lt]; omega)]
  by_cases h : y < 65536
  · rw [if_pos h]
    rw [Int32.lt_iff_toInt_lt] at h
    obtain ⟨k, P, k0, k1, k2, k3, k4⟩ := own_nl33 y 31 h0 (by omega) (by omega)
    exact ⟨k, P, k0, Nat.le_trans k1 (by decide), k2, k3, by clear k0; omega⟩
  · rw [if_neg h]
    rw [Int32.lt_iff_toInt_lt] at h
    have a1 : (XT.ushr y 16).toInt = y.toInt / 65536 := by
      have := c_iushr y 16 16 (by decide) (by decide)
      unfold XT.ushr
      omega
    have e2 : (15 : Int32).toInt = 15 := rfl
    obtain ⟨k, P, k0, k1, k2, k3, k4⟩ := own_nl33 (XT.ushr y 16) 15 (by omega) (by omega) (by omega)
    have hP : P * 65536 = 2 ^ (k + 16) := by rw [Nat.pow_add, k0]
    generalize fNlz_33 (XT.ushr y 16) 15 = r at *
    refine ⟨k + 16, P * 65536, hP, ?_, ?_, ?_, ?_⟩
    all_goals (clear k0 hP)
    all_goals omega
theorem own_fin (m p h : Int32) (k : Nat) (hk : k ≤ 29) (P : Nat) (hP : P = 2 ^ k) (h1 : m.toInt < 2 * P) (h2 : P ≤ m.toInt) (hp : p.toInt = m.toInt + 1) (hh : h.toInt = k + 1) :
    (if h < (1 : Int32) then (0 : Int32) else (if (30 : Int32) < h then (0 : Int32) else (if fLea h = ((1 : Int64) <<< (h.toInt64 &&& 63)).toInt32 then (if ((1 : Int64) <<< (h.toInt64 &&& 63)) < p.toInt64 then (0 : Int32) else (if (1 : Int32) < h then (if ((1 : Int64) <<< ((h - (1 : Int32)).toInt64 &&& 63)) < p.toInt64 then (1 : Int32) else (0 : Int32)) else (1 : Int32))) else (0 : Int32)))) = 1 := by
  have hl : p.toInt64.toInt = p.toInt := c_i2l p
  have e1 : (1 : Int32).toInt = 1 := rfl
  have hcs : k = 0 ∨ k = 1 ∨ k = 2 ∨ k = 3 ∨ k = 4 ∨ k = 5 ∨ k = 6 ∨ k = 7 ∨ k = 8 ∨ k = 9 ∨ k = 10 ∨ k = 11 ∨ k = 12 ∨ k = 13 ∨ k = 14 ∨ k = 15 ∨ k = 16 ∨ k = 17 ∨ k = 18 ∨ k = 19 ∨ k = 20 ∨ k = 21 ∨ k = 22 ∨ k = 23 ∨ k = 24 ∨ k = 25 ∨ k = 26 ∨ k = 27 ∨ k = 28 ∨ k = 29 := by omega
  rcases hcs with rfl | rfl | rfl | rfl | rfl | rfl | rfl | rfl | rfl | rfl | rfl | rfl | rfl | rfl | rfl | rfl | rfl | rfl | rfl | rfl | rfl | rfl | rfl | rfl | rfl | rfl | rfl | rfl | rfl | rfl
  · obtain rfl : h = 1 := by rw [← Int32.toInt_inj]; exact hh
    obtain rfl : P = 1 := hP
    have b1 : ((1 : Int64) <<< ((1 : Int32).toInt64 &&& 63)) = 2 := by decide +kernel
    have b2 : ((1 : Int64) <<< (((1 : Int32) - 1).toInt64 &&& 63)) = 1 := by decide +kernel
    rw [b1, b2, if_neg (by decide), if_neg (by decide), if_pos (by decide +kernel), if_neg (by rw [Int64.lt_iff_toInt_lt]; show ¬ ((2 : Int) < _); omega)]
    rw [if_neg (by decide)]
  · obtain rfl : h = 2 := by rw [← Int32.toInt_inj]; exact hh
    obtain rfl : P = 2 := hP
    have b1 : ((1 : Int64) <<< ((2 : Int32).toInt64 &&& 63)) = 4 := by decide +kernel
    have b2 : ((1 : Int64) <<< (((2 : Int32) - 1).toInt64 &&& 63)) = 2 := by decide +kernel
    rw [b1, b2, if_neg (by decide), if_neg (by decide), if_pos (by decide +kernel), if_neg (by rw [Int64.lt_iff_toInt_lt]; show ¬ ((4 : Int) < _); omega)]
    rw [if_pos (by decide), if_pos (by rw [Int64.lt_iff_toInt_lt]; show ((2 : Int) < _); omega)]
  · obtain rfl : h = 3 := by rw [← Int32.toInt_inj]; exact hh
    obtain rfl : P = 4 := hP
    have b1 : ((1 : Int64) <<< ((3 : Int32).toInt64 &&& 63)) = 8 := by decide +kernel
    have b2 : ((1 : Int64) <<< (((3 : Int32) - 1).toInt64 &&& 63)) = 4 := by decide +kernel
    rw [b1, b2, if_neg (by decide), if_neg (by decide), if_pos (by decide +kernel), if_neg (by rw [Int64.lt_iff_toInt_lt]; show ¬ ((8 : Int) < _); omega)]
    rw [if_pos (by decide), if_pos (by rw [Int64.lt_iff_toInt_lt]; show ((4 : Int) < _); omega)]
  · obtain rfl : h = 4 := by rw [← Int32.toInt_inj]; exact hh
    obtain rfl : P = 8 := hP
    have b1 : ((1 : Int64) <<< ((4 : Int32).toInt64 &&& 63)) = 16 := by decide +kernel
    have b2 : ((1 : Int64) <<< (((4 : Int32) - 1).toInt64 &&& 63)) = 8 := by decide +kernel
    rw [b1, b2, if_neg (by decide), if_neg (by decide), if_pos (by decide +kernel), if_neg (by rw [Int64.lt_iff_toInt_lt]; show ¬ ((16 : Int) < _); omega)]
    rw [if_pos (by decide), if_pos (by rw [Int64.lt_iff_toInt_lt]; show ((8 : Int) < _); omega)]
  · obtain rfl : h = 5 := by rw [← Int32.toInt_inj]; exact hh
    obtain rfl : P = 16 := hP
    have b1 : ((1 : Int64) <<< ((5 : Int32).toInt64 &&& 63)) = 32 := by decide +kernel
    have b2 : ((1 : Int64) <<< (((5 : Int32) - 1).toInt64 &&& 63)) = 16 := by decide +kernel
    rw [b1, b2, if_neg (by decide), if_neg (by decide), if_pos (by decide +kernel), if_neg (by rw [Int64.lt_iff_toInt_lt]; show ¬ ((32 : Int) < _); omega)]
    rw [if_pos (by decide), if_pos (by rw [Int64.lt_iff_toInt_lt]; show ((16 : Int) < _); omega)]
  · obtain rfl : h = 6 := by rw [← Int32.toInt_inj]; exact hh
    obtain rfl : P = 32 := hP
    have b1 : ((1 : Int64) <<< ((6 : Int32).toInt64 &&& 63)) = 64 := by decide +kernel
    have b2 : ((1 : Int64) <<< (((6 : Int32) - 1).toInt64 &&& 63)) = 32 := by decide +kernel
    rw [b1, b2, if_neg (by decide), if_neg (by decide), if_pos (by decide +kernel), if_neg (by rw [Int64.lt_iff_toInt_lt]; show ¬ ((64 : Int) < _); omega)]
    rw [if_pos (by decide), if_pos (by rw [Int64.lt_iff_toInt_lt]; show ((32 : Int) < _); omega)]
  · obtain rfl : h = 7 := by rw [← Int32.toInt_inj]; exact hh
    obtain rfl : P = 64 := hP
    have b1 : ((1 : Int64) <<< ((7 : Int32).toInt64 &&& 63)) = 128 := by decide +kernel
    have b2 : ((1 : Int64) <<< (((7 : Int32) - 1).toInt64 &&& 63)) = 64 := by decide +kernel
    rw [b1, b2, if_neg (by decide), if_neg (by decide), if_pos (by decide +kernel), if_neg (by rw [Int64.lt_iff_toInt_lt]; show ¬ ((128 : Int) < _); omega)]
    rw [if_pos (by decide), if_pos (by rw [Int64.lt_iff_toInt_lt]; show ((64 : Int) < _); omega)]
  · obtain rfl : h = 8 := by rw [← Int32.toInt_inj]; exact hh
    obtain rfl : P = 128 := hP
    have b1 : ((1 : Int64) <<< ((8 : Int32).toInt64 &&& 63)) = 256 := by decide +kernel
    have b2 : ((1 : Int64) <<< (((8 : Int32) - 1).toInt64 &&& 63)) = 128 := by decide +kernel
    rw [b1, b2, if_neg (by decide), if_neg (by decide), if_pos (by decide +kernel), if_neg (by rw [Int64.lt_iff_toInt_lt]; show ¬ ((256 : Int) < _); omega)]
    rw [if_pos (by decide), if_pos (by rw [Int64.lt_iff_toInt_lt]; show ((128 : Int) < _); omega)]
  · obtain rfl : h = 9 := by rw [← Int32.toInt_inj]; exact hh
    obtain rfl : P = 256 := hP
    have b1 : ((1 : Int64) <<< ((9 : Int32).toInt64 &&& 63)) = 512 := by decide +kernel
    have b2 : ((1 : Int64) <<< (((9 : Int32) - 1).toInt64 &&& 63)) = 256 := by decide +kernel
    rw [b1, b2, if_neg (by decide), if_neg (by decide), if_pos (by decide +kernel), if_neg (by rw [Int64.lt_iff_toInt_lt]; show ¬ ((512 : Int) < _); omega)]
    rw [if_pos (by decide), if_pos (by rw [Int64.lt_iff_toInt_lt]; show ((256 : Int) < _); omega)]
  · obtain rfl : h = 10 := by rw [← Int32.toInt_inj]; exact hh
    obtain rfl : P = 512 := hP
    have b1 : ((1 : Int64) <<< ((10 : Int32).toInt64 &&& 63)) = 1024 := by decide +kernel
    have b2 : ((1 : Int64) <<< (((10 : Int32) - 1).toInt64 &&& 63)) = 512 := by decide +kernel
    rw [b1, b2, if_neg (by decide), if_neg (by decide), if_pos (by decide +kernel), if_neg (by rw [Int64.lt_iff_toInt_lt]; show ¬ ((1024 : Int) < _); omega)]
    rw [if_pos (by decide), if_pos (by rw [Int64.lt_iff_toInt_lt]; show ((512 : Int) < _); omega)]
  · obtain rfl : h = 11 := by rw [← Int32.toInt_inj]; exact hh
    obtain rfl : P = 1024 := hP
    have b1 : ((1 : Int64) <<< ((11 : Int32).toInt64 &&& 63)) = 2048 := by decide +kernel
    have b2 : ((1 : Int64) <<< (((11 : Int32) - 1).toInt64 &&& 63)) = 1024 := by decide +kernel
    rw [b1, b2, if_neg (by decide), if_neg (by decide), if_pos (by decide +kernel), if_neg (by rw [Int64.lt_iff_toInt_lt]; show ¬ ((2048 : Int) < _); omega)]
    rw [if_pos (by decide), if_pos (by rw [Int64.lt_iff_toInt_lt]; show ((1024 : Int) < _); omega)]
  · obtain rfl : h = 12 := by rw [← Int32.toInt_inj]; exact hh
    obtain rfl : P = 2048 := hP
    have b1 : ((1 : Int64) <<< ((12 : Int32).toInt64 &&& 63)) = 4096 := by decide +kernel
    have b2 : ((1 : Int64) <<< (((12 : Int32) - 1).toInt64 &&& 63)) = 2048 := by decide +kernel
    rw [b1, b2, if_neg (by decide), if_neg (by decide), if_pos (by decide +kernel), if_neg (by rw [Int64.lt_iff_toInt_lt]; show ¬ ((4096 : Int) < _); omega)]
    rw [if_pos (by decide), if_pos (by rw [Int64.lt_iff_toInt_lt]; show ((2048 : Int) < _); omega)]
  · obtain rfl : h = 13 := by rw [← Int32.toInt_inj]; exact hh
    obtain rfl : P = 4096 := hP
    have b1 : ((1 : Int64) <<< ((13 : Int32).toInt64 &&& 63)) = 8192 := by decide +kernel
    have b2 : ((1 : Int64) <<< (((13 : Int32) - 1).toInt64 &&& 63)) = 4096 := by decide +kernel
    rw [b1, b2, if_neg (by decide), if_neg (by decide), if_pos (by decide +kernel), if_neg (by rw [Int64.lt_iff_toInt_lt]; show ¬ ((8192 : Int) < _); omega)]
    rw [if_pos (by decide), if_pos (by rw [Int64.lt_iff_toInt_lt]; show ((4096 : Int) < _); omega)]
  · obtain rfl : h = 14 := by rw [← Int32.toInt_inj]; exact hh
    obtain rfl : P = 8192 := hP
    have b1 : ((1 : Int64) <<< ((14 : Int32).toInt64 &&& 63)) = 16384 := by decide +kernel
    have b2 : ((1 : Int64) <<< (((14 : Int32) - 1).toInt64 &&& 63)) = 8192 := by decide +kernel
    rw [b1, b2, if_neg (by decide), if_neg (by decide), if_pos (by decide +kernel), if_neg (by rw [Int64.lt_iff_toInt_lt]; show ¬ ((16384 : Int) < _); omega)]
    rw [if_pos (by decide), if_pos (by rw [Int64.lt_iff_toInt_lt]; show ((8192 : Int) < _); omega)]
  · obtain rfl : h = 15 := by rw [← Int32.toInt_inj]; exact hh
    obtain rfl : P = 16384 := hP
    have b1 : ((1 : Int64) <<< ((15 : Int32).toInt64 &&& 63)) = 32768 := by decide +kernel
    have b2 : ((1 : Int64) <<< (((15 : Int32) - 1).toInt64 &&& 63)) = 16384 := by decide +kernel
    rw [b1, b2, if_neg (by decide), if_neg (by decide), if_pos (by decide +kernel), if_neg (by rw [Int64.lt_iff_toInt_lt]; show ¬ ((32768 : Int) < _); omega)]
    rw [if_pos (by decide), if_pos (by rw [Int64.lt_iff_toInt_lt]; show ((16384 : Int) < _); omega)]
  · obtain rfl : h = 16 := by rw [← Int32.toInt_inj]; exact hh
    obtain rfl : P = 32768 := hP
    have b1 : ((1 : Int64) <<< ((16 : Int32).toInt64 &&& 63)) = 65536 := by decide +kernel
    have b2 : ((1 : Int64) <<< (((16 : Int32) - 1).toInt64 &&& 63)) = 32768 := by decide +kernel
    rw [b1, b2, if_neg (by decide), if_neg (by decide), if_pos (by decide +kernel), if_neg (by rw [Int64.lt_iff_toInt_lt]; show ¬ ((65536 : Int) < _); omega)]
    rw [if_pos (by decide), if_pos (by rw [Int64.lt_iff_toInt_lt]; show ((32768 : Int) < _); omega)]
  · obtain rfl : h = 17 := by rw [← Int32.toInt_inj]; exact hh
    obtain rfl : P = 65536 := hP
    have b1 : ((1 : Int64) <<< ((17 : Int32).toInt64 &&& 63)) = 131072 := by decide +kernel
    have b2 : ((1 : Int64) <<< (((17 : Int32) - 1).toInt64 &&& 63)) = 65536 := by decide +kernel
    rw [b1, b2, if_neg (by decide), if_neg (by decide), if_pos (by decide +kernel), if_neg (by rw [Int64.lt_iff_toInt_lt]; show ¬ ((131072 : Int) < _); omega)]
    rw [if_pos (by decide), if_pos (by rw [Int64.lt_iff_toInt_lt]; show ((65536 : Int) < _); omega)]
  · obtain rfl : h = 18 := by rw [← Int32.toInt_inj]; exact hh
    obtain rfl : P = 131072 := hP
    have b1 : ((1 : Int64) <<< ((18 : Int32).toInt64 &&& 63)) = 262144 := by decide +kernel
    have b2 : ((1 : Int64) <<< (((18 : Int32) - 1).toInt64 &&& 63)) = 131072 := by decide +kernel
    rw [b1, b2, if_neg (by decide), if_neg (by decide), if_pos (by decide +kernel), if_neg (by rw [Int64.lt_iff_toInt_lt]; show ¬ ((262144 : Int) < _); omega)]
    rw [if_pos (by decide), if_pos (by rw [Int64.lt_iff_toInt_lt]; show ((131072 : Int) < _); omega)]
  · obtain rfl : h = 19 := by rw [← Int32.toInt_inj]; exact hh
    obtain rfl : P = 262144 := hP
    have b1 : ((1 : Int64) <<< ((19 : Int32).toInt64 &&& 63)) = 524288 := by decide +kernel
    have b2 : ((1 : Int64) <<< (((19 : Int32) - 1).toInt64 &&& 63)) = 262144 := by decide +kernel
    rw [b1, b2, if_neg (by decide), if_neg (by decide), if_pos (by decide +kernel), if_neg (by rw [Int64.lt_iff_toInt_lt]; show ¬ ((524288 : Int) < _); omega)]
    rw [if_pos (by decide), if_pos (by rw [Int64.lt_iff_toInt_lt]; show ((262144 : Int) < _); omega)]
  · obtain rfl : h = 20 := by rw [← Int32.toInt_inj]; exact hh
    obtain rfl : P = 524288 := hP
    have b1 : ((1 : Int64) <<< ((20 : Int32).toInt64 &&& 63)) = 1048576 := by decide +kernel
    have b2 : ((1 : Int64) <<< (((20 : Int32) - 1).toInt64 &&& 63)) = 524288 := by decide +kernel
    rw [b1, b2, if_neg (by decide), if_neg (by decide), if_pos (by decide +kernel), if_neg (by rw [Int64.lt_iff_toInt_lt]; show ¬ ((1048576 : Int) < _); omega)]
    rw [if_pos (by decide), if_pos (by rw [Int64.lt_iff_toInt_lt]; show ((524288 : Int) < _); omega)]
  · obtain rfl : h = 21 := by rw [← Int32.toInt_inj]; exact hh
    obtain rfl : P = 1048576 := hP
    have b1 : ((1 : Int64) <<< ((21 : Int32).toInt64 &&& 63)) = 2097152 := by decide +kernel
    have b2 : ((1 : Int64) <<< (((21 : Int32) - 1).toInt64 &&& 63)) = 1048576 := by decide +kernel
    rw [b1, b2, if_neg (by decide), if_neg (by decide), if_pos (by decide +kernel), if_neg (by rw [Int64.lt_iff_toInt_lt]; show ¬ ((2097152 : Int) < _); omega)]
    rw [if_pos (by decide), if_pos (by rw [Int64.lt_iff_toInt_lt]; show ((1048576 : Int) < _); omega)]
  · obtain rfl : h = 22 := by rw [← Int32.toInt_inj]; exact hh
    obtain rfl : P = 2097152 := hP
    have b1 : ((1 : Int64) <<< ((22 : Int32).toInt64 &&& 63)) = 4194304 := by decide +kernel
    have b2 : ((1 : Int64) <<< (((22 : Int32) - 1).toInt64 &&& 63)) = 2097152 := by decide +kernel
    rw [b1, b2, if_neg (by decide), if_neg (by decide), if_pos (by decide +kernel), if_neg (by rw [Int64.lt_iff_toInt_lt]; show ¬ ((4194304 : Int) < _); omega)]
    rw [if_pos (by decide), if_pos (by rw [Int64.lt_iff_toInt_lt]; show ((2097152 : Int) < _); omega)]
  · obtain rfl : h = 23 := by rw [← Int32.toInt_inj]; exact hh
    obtain rfl : P = 4194304 := hP
    have b1 : ((1 : Int64) <<< ((23 : Int32).toInt64 &&& 63)) = 8388608 := by decide +kernel
    have b2 : ((1 : Int64) <<< (((23 : Int32) - 1).toInt64 &&& 63)) = 4194304 := by decide +kernel
    rw [b1, b2, if_neg (by decide), if_neg (by decide), if_pos (by decide +kernel), if_neg (by rw [Int64.lt_iff_toInt_lt]; show ¬ ((8388608 : Int) < _); omega)]
    rw [if_pos (by decide), if_pos (by rw [Int64.lt_iff_toInt_lt]; show ((4194304 : Int) < _); omega)]
  · obtain rfl : h = 24 := by rw [← Int32.toInt_inj]; exact hh
    obtain rfl : P = 8388608 := hP
    have b1 : ((1 : Int64) <<< ((24 : Int32).toInt64 &&& 63)) = 16777216 := by decide +kernel
    have b2 : ((1 : Int64) <<< (((24 : Int32) - 1).toInt64 &&& 63)) = 8388608 := by decide +kernel
    rw [b1, b2, if_neg (by decide), if_neg (by decide), if_pos (by decide +kernel), if_neg (by rw [Int64.lt_iff_toInt_lt]; show ¬ ((16777216 : Int) < _); omega)]
    rw [if_pos (by decide), if_pos (by rw [Int64.lt_iff_toInt_lt]; show ((8388608 : Int) < _); omega)]
  · obtain rfl : h = 25 := by rw [← Int32.toInt_inj]; exact hh
    obtain rfl : P = 16777216 := hP
    have b1 : ((1 : Int64) <<< ((25 : Int32).toInt64 &&& 63)) = 33554432 := by decide +kernel
    have b2 : ((1 : Int64) <<< (((25 : Int32) - 1).toInt64 &&& 63)) = 16777216 := by decide +kernel
    rw [b1, b2, if_neg (by decide), if_neg (by decide), if_pos (by decide +kernel), if_neg (by rw [Int64.lt_iff_toInt_lt]; show ¬ ((33554432 : Int) < _); omega)]
    rw [if_pos (by decide), if_pos (by rw [Int64.lt_iff_toInt_lt]; show ((16777216 : Int) < _); omega)]
  · obtain rfl : h = 26 := by rw [← Int32.toInt_inj]; exact hh
    obtain rfl : P = 33554432 := hP
    have b1 : ((1 : Int64) <<< ((26 : Int32).toInt64 &&& 63)) = 67108864 := by decide +kernel
    have b2 : ((1 : Int64) <<< (((26 : Int32) - 1).toInt64 &&& 63)) = 33554432 := by decide +kernel
    rw [b1, b2, if_neg (by decide), if_neg (by decide), if_pos (by decide +kernel), if_neg (by rw [Int64.lt_iff_toInt_lt]; show ¬ ((67108864 : Int) < _); omega)]
    rw [if_pos (by decide), if_pos (by rw [Int64.lt_iff_toInt_lt]; show ((33554432 : Int) < _); omega)]
  · obtain rfl : h = 27 := by rw [← Int32.toInt_inj]; exact hh
    obtain rfl : P = 67108864 := hP
    have b1 : ((1 : Int64) <<< ((27 : Int32).toInt64 &&& 63)) = 134217728 := by decide +kernel
    have b2 : ((1 : Int64) <<< (((27 : Int32) - 1).toInt64 &&& 63)) = 67108864 := by decide +kernel
    rw [b1, b2, if_neg (by decide), if_neg (by decide), if_pos (by decide +kernel), if_neg (by rw [Int64.lt_iff_toInt_lt]; show ¬ ((134217728 : Int) < _); omega)]
    rw [if_pos (by decide), if_pos (by rw [Int64.lt_iff_toInt_lt]; show ((67108864 : Int) < _); omega)]
  · obtain rfl : h = 28 := by rw [← Int32.toInt_inj]; exact hh
    obtain rfl : P = 134217728 := hP
    have b1 : ((1 : Int64) <<< ((28 : Int32).toInt64 &&& 63)) = 268435456 := by decide +kernel
    have b2 : ((1 : Int64) <<< (((28 : Int32) - 1).toInt64 &&& 63)) = 134217728 := by decide +kernel
    rw [b1, b2, if_neg (by decide), if_neg (by decide), if_pos (by decide +kernel), if_neg (by rw [Int64.lt_iff_toInt_lt]; show ¬ ((268435456 : Int) < _); omega)]
    rw [if_pos (by decide), if_pos (by rw [Int64.lt_iff_toInt_lt]; show ((134217728 : Int) < _); omega)]
  · obtain rfl : h = 29 := by rw [← Int32.toInt_inj]; exact hh
    obtain rfl : P = 268435456 := hP
    have b1 : ((1 : Int64) <<< ((29 : Int32).toInt64 &&& 63)) = 536870912 := by decide +kernel
    have b2 : ((1 : Int64) <<< (((29 : Int32) - 1).toInt64 &&& 63)) = 268435456 := by decide +kernel
    rw [b1, b2, if_neg (by decide), if_neg (by decide), if_pos (by decide +kernel), if_neg (by rw [Int64.lt_iff_toInt_lt]; show ¬ ((536870912 : Int) < _); omega)]
    rw [if_pos (by decide), if_pos (by rw [Int64.lt_iff_toInt_lt]; show ((268435456 : Int) < _); omega)]
  · obtain rfl : h = 30 := by rw [← Int32.toInt_inj]; exact hh
    obtain rfl : P = 536870912 := hP
    have b1 : ((1 : Int64) <<< ((30 : Int32).toInt64 &&& 63)) = 1073741824 := by decide +kernel
    have b2 : ((1 : Int64) <<< (((30 : Int32) - 1).toInt64 &&& 63)) = 536870912 := by decide +kernel
    rw [b1, b2, if_neg (by decide), if_neg (by decide), if_pos (by decide +kernel), if_neg (by rw [Int64.lt_iff_toInt_lt]; show ¬ ((1073741824 : Int) < _); omega)]
    rw [if_pos (by decide), if_pos (by rw [Int64.lt_iff_toInt_lt]; show ((536870912 : Int) < _); omega)]
theorem own_law (x0 : Int32) : fLaw x0 = 1 := by
  unfold fLaw fHei
  have e0 : (0 : Int32).toInt = 0 := rfl
  have e1 : (1 : Int32).toInt = 1 := rfl
  have e32 : (32 : Int32).toInt = 32 := rfl
  have hm := c_mask x0 1073741823 30 (by decide) (by decide)
  have a1 := c_iadd (x0 &&& 1073741823) 1
  have a2 := rng32 ((x0 &&& 1073741823) + 1)
  have a3 : (x0 &&& 1073741823) + 1 - 1 = (x0 &&& 1073741823) := by
    have b1 := c_isub ((x0 &&& 1073741823) + 1) 1
    have b2 := rng32 ((x0 &&& 1073741823) + 1 - 1)
    rw [← Int32.toInt_inj]
    omega
  rw [a3]
  generalize (x0 &&& (1073741823 : Int32)) = m at *
  have hp : (m + 1).toInt = m.toInt + 1 := by omega
  by_cases hz : m.toInt = 0
  · obtain rfl : m = 0 := by rw [← Int32.toInt_inj]; exact hz
    decide +kernel
  · obtain ⟨k, P, k0, k1, k2, k3, k4⟩ := own_nlz m (by omega)
    have k5 : k ≤ 29 := by
      rcases Nat.lt_or_ge 29 k with h | h
      · have := Nat.pow_le_pow_right (n := 2) (by decide) (show 30 ≤ k from h)
        rw [← k0] at this
        have e : (2 : Nat) ^ 30 = 1073741824 := by decide
        rw [e] at this
        clear k0
        omega
      · exact h
    have b1 := c_isub 32 (fNlz m)
    have b2 := rng32 (32 - fNlz m)
    have hh : (fMax 1 (32 - fNlz m)).toInt = k + 1 := by
      clear k0
      unfold fMax
      split
      · omega
      · rename_i q
        rw [Int32.lt_iff_toInt_lt] at q
        omega
    exact own_fin m (m + 1) (fMax 1 (32 - fNlz m)) k k5 P k0 k3 k2 hp hh

set_option maxRecDepth 65536 in
set_option maxHeartbeats 4000000 in
theorem comes_1 {Post : Tables → Env → Array Value → State → Outcome → State → Prop} (hpost : ∀ tb e args s v u, (limb_1_1.after args s (.returned v) u = true ∧ limb_1_2.after args s (.returned v) u = true ∧ True) → FrameEnd s (.returned v) u (Jvm.fieldLocs frame_1_writes args s ++ Jvm.arrayLocs frame_1_arrays args s ++ Jvm.staticLocs frame_1_statics s) 16 128 → Post tb e args s (.returned v) u) :
    ArmFor flags0 classFile x code maxLocals ret World_1 tables_1 room_1 Calls_1 rest_1 Pre_1 Post := by
  intro l hfl _ _ p e ha hc hk s m args below hf hA hF happ hP
  obtain ⟨hcalls, hrest, hpre⟩ := hP
  obtain ⟨-, -, -, hnamed, -, -, -, hat⟩ := (Spec.applies_iff hf).mp happ
  obtain ⟨hg, hn⟩ := and_e (Cond.before_iff.mp (show (Jvm.Cond.and given_1 narrow_1).before args s = true from hpre))
  obtain ⟨k1, r1⟩ := and_e hg
  have g0 := r1
  obtain ⟨w0, rfl⟩ : ∃ w0 : Value, args = #[w0] := by
    have hs : args.size = 1 := by simpa [Cond.value, given_1] using k1
    obtain ⟨L⟩ := args
    match L, hs with
    | [w0], _ => exact ⟨w0, rfl⟩
  have hw := fun d (hd : d ∈ tables_1) => atoms_spec (ws := Jvm.Cond.code x code maxLocals ret :: tables_1) hat d (List.mem_cons_of_mem _ hd)
  have hfit : Fit s := fun {y c} hc i hi => by
    obtain ⟨ha, rfl⟩ := Array.getElem?_eq_some_iff.mp hc
    have q := List.all_eq_true.mp ((Array.all_eq_true_iff_forall_mem.mp hF) _ (Array.getElem_mem ha)) i (List.mem_range.mpr hi)
    simpa [Array.getElem?_eq_getElem hi] using q
  obtain ⟨i0, f0⟩ := is_v g0
  obtain rfl : w0 = (.int i0) := Option.some.inj f0
  have hm := met_law l s _ hw i0 s.heap s.heap.size (Nat.le_refl _)
  rw [own_law] at hm
  obtain ⟨n, o, h1, h2, h3, _, L, rfl, ⟨rfl, N⟩, hq⟩ := hm p e ha hc hk s m _ below hf ((Spec.applies_iff_loose hf).mp happ).1 ⟨rfl, State.Warmed39.refl s, rfl⟩ trivial
  refine ⟨n, _, h1, h2, h3, hpost _ _ _ _ _ _ ⟨Cond.after_iff.mpr rfl, Cond.after_iff.mpr (eq_i res_at (Term.int_eval (1)) rfl), trivial⟩ ⟨hq.1, hq.2.1, (hq.2.2.sift fun y hy => Or.inr (N y hy)).mono (by decide) (by decide)⟩⟩
theorem main_1_1 : Claimed_1_1 := comes_1 fun _ _ _ _ _ _ h hF => ⟨h.1, hF⟩
theorem main_1_2 : Claimed_1_2 := comes_1 fun _ _ _ _ _ _ h hF => ⟨h.2.1, hF⟩
end Jvm.Pilot.@@N@@
namespace Jvm.Pilot.@@N@@
open Jvm Jvm.ClassFile Sem Op Lib Jvm.Free Jvm.Stand Jvm.Pilot.@@N@@.Jvm.D
/-! MADE BY PROGRAM (witnessworld.py) out of the Statement's table words and the real class files: 15 classes; the members and pool entries that the words name. The judged class is class 1, her method 1. -/
namespace start1
open Jvm.ClassFile
def u (s : String) : CpInfo := .utf8 (stringToUtf16 s)
/-- a pool by its gaps: so many unusable entries, then the entry; so many at the end -/
def gap : Nat → List CpInfo → List CpInfo
  | 0, r => r
  | n + 1, r => .unusable :: gap n r
def poolList (es : List (Nat × CpInfo)) (last : Nat) : List CpInfo := es.foldr (fun e r => gap e.1 (e.2 :: r)) (gap last [])
def pool (es : List (Nat × CpInfo)) (last : Nat) : Array CpInfo := ⟨poolList es last⟩
def fileOf (pool : Array CpInfo) (this : Nat) (attrs : Array Attribute := #[]) (ms : Array MethodInfo := #[]) (fl : Nat := 33) (sup : Nat := 0) (ifs : Array Nat := #[]) (fds : Array FieldInfo := #[]) : ClassFile where
  minorVersion := 0
  majorVersion := 65
  constantPool := pool
  accessFlags := fl
  thisClass := this
  superClass := sup
  interfaces := ifs
  fields := fds
  methods := ms
  attributes := attrs
def plain (name : String) (sup : Option ClassId) : Class where
  name := name
  kind := .ordinary
  loader := none
  accessFlags := 33
  super := sup
  interfaces := #[]
  cf := none
  fields := #[]
  methods := #[]
  instanceTypes := #[]
  staticTypes := #[]
  resolved := #[]
  callSites := []
  init := .initialized
  statics := none
  mirror := none

def pool0 : Array CpInfo := pool [(5, u "<init>"), (0, u "()V"), (1, .class_ 10), (1, u "java/lang/Object")] 113

def k0c0 : Code := { maxStack := 0, maxLocals := 1, code := object_method_1_code, exceptionTable := #[], attributes := #[] }
def k0m0 : Method := { name := "<init>", desc := "()V", sig := { parameters := [], returnType := none }, accessFlags := 1, code := some k0c0 }
/-- java/lang/Object -/
def k0 : Class := { plain "java/lang/Object" none with
  accessFlags := 33
  interfaces := #[]
  cf := some (fileOf pool0 8 #[] #[{ accessFlags := 1, nameIndex := 5, descriptorIndex := 6, attributes := #[] }] 33 0 #[] #[])
  fields := #[]
  methods := #[k0m0]
  instanceTypes := #[]
  staticTypes := #[]
  resolved := Array.replicate 124 none
  statics := none }

def pool1 : Array CpInfo := pool [(2, .class_ 4), (1, u "java/lang/Object"), (0, u "<init>"), (0, u "()V"), (0, .integer 1073741823), (0, .methodref 9 10), (0, .class_ 11), (0, .nameAndType 12 13), (0, u "com/example/tourney/tourney/tree/TreeShape"), (0, u "forParticipants"), (0, u "(I)Lcom/example/tourney/tourney/tree/TreeShape;"), (0, .methodref 9 15), (0, .nameAndType 16 17), (0, u "height"), (0, u "()I"), (0, .methodref 9 19), (0, .nameAndType 20 17), (0, u "leafPositions"), (0, .class_ 22), (0, u "com/example/tourney/tourney/tree/TreeShapeForParticipantsPinLaw"), (2, u "law"), (0, u "(I)Z")] 3

def k1m0 : Method := { name := "<init>", desc := "()V", sig := { parameters := [], returnType := none }, accessFlags := 1, code := none }
def k1c1 : Code := { maxStack := 4, maxLocals := 6, code := code, exceptionTable := #[], attributes := #[] }
def k1m1 : Method := { name := "law", desc := "(I)Z", sig := { parameters := [.int], returnType := some .boolean }, accessFlags := 9, code := some k1c1 }
/-- com/example/tourney/tourney/tree/TreeShapeForParticipantsPinLaw -/
def k1 : Class := { plain "com/example/tourney/tourney/tree/TreeShapeForParticipantsPinLaw" (some 0) with
  accessFlags := 49
  interfaces := #[]
  cf := some (fileOf pool1 21 #[] #[{ accessFlags := 1, nameIndex := 5, descriptorIndex := 6, attributes := #[] }, { accessFlags := 9, nameIndex := 25, descriptorIndex := 26, attributes := #[] }] 49 2 #[] #[])
  fields := #[]
  methods := #[k1m0, k1m1]
  instanceTypes := #[]
  staticTypes := #[]
  resolved := Array.replicate 30 none
  statics := none }

def pool2 : Array CpInfo := pool [(1, .methodref 2 3), (0, .class_ 4), (0, .nameAndType 5 6), (0, u "java/lang/Object"), (0, u "<init>"), (0, u "()V"), (0, .fieldref 8 9), (0, .class_ 10), (0, .nameAndType 11 12), (0, u "com/example/tourney/tourney/tree/TreeShape"), (0, u "height"), (0, u "I"), (0, .integer 1073741824), (9, .class_ 24), (0, u "java/lang/Integer"), (0, .methodref 23 26), (0, .nameAndType 27 28), (0, u "numberOfLeadingZeros"), (0, u "(I)I"), (0, .methodref 30 31), (0, .class_ 32), (0, .nameAndType 33 34), (0, u "java/lang/Math"), (0, u "max"), (0, u "(II)I"), (0, .methodref 8 36), (0, .nameAndType 5 37), (0, u "(I)V"), (0, u "MAX_PARTICIPANTS"), (3, u "forParticipants"), (0, u "(I)Lcom/example/tourney/tourney/tree/TreeShape;"), (1, u "()I"), (0, u "leafPositions")] 17

def k2c0 : Code := { maxStack := 2, maxLocals := 2, code := prog_32_method_1_code, exceptionTable := #[], attributes := #[] }
def k2m0 : Method := { name := "<init>", desc := "(I)V", sig := { parameters := [.int], returnType := none }, accessFlags := 2, code := some k2c0 }
def k2c1 : Code := { maxStack := 4, maxLocals := 2, code := prog_32_method_2_code, exceptionTable := #[], attributes := #[] }
def k2m1 : Method := { name := "forParticipants", desc := "(I)Lcom/example/tourney/tourney/tree/TreeShape;", sig := { parameters := [.int], returnType := some (.object "com/example/tourney/tourney/tree/TreeShape") }, accessFlags := 9, code := some k2c1 }
def k2c2 : Code := { maxStack := 1, maxLocals := 1, code := prog_32_method_3_code, exceptionTable := #[], attributes := #[] }
def k2m2 : Method := { name := "height", desc := "()I", sig := { parameters := [], returnType := some .int }, accessFlags := 1, code := some k2c2 }
def k2c3 : Code := { maxStack := 2, maxLocals := 1, code := prog_32_method_4_code, exceptionTable := #[], attributes := #[] }
def k2m3 : Method := { name := "leafPositions", desc := "()I", sig := { parameters := [], returnType := some .int }, accessFlags := 1, code := some k2c3 }
/-- com/example/tourney/tourney/tree/TreeShape -/
def k2 : Class := { plain "com/example/tourney/tourney/tree/TreeShape" (some 0) with
  accessFlags := 49
  interfaces := #[]
  cf := some (fileOf pool2 8 #[] #[{ accessFlags := 2, nameIndex := 5, descriptorIndex := 37, attributes := #[] }, { accessFlags := 9, nameIndex := 42, descriptorIndex := 43, attributes := #[] }, { accessFlags := 1, nameIndex := 11, descriptorIndex := 45, attributes := #[] }, { accessFlags := 1, nameIndex := 46, descriptorIndex := 45, attributes := #[] }] 49 2 #[] #[{ accessFlags := 25, nameIndex := 38, descriptorIndex := 12, attributes := #[] }, { accessFlags := 18, nameIndex := 11, descriptorIndex := 12, attributes := #[] }])
  fields := #[{ name := "MAX_PARTICIPANTS", type := .int, accessFlags := 25, slot := 0, constantValue := 0 }, { name := "height", type := .int, accessFlags := 18, slot := 0, constantValue := 0 }]
  methods := #[k2m0, k2m1, k2m2, k2m3]
  instanceTypes := #[.int]
  staticTypes := #[.int]
  resolved := Array.replicate 64 none
  statics := none }

def pool3 : Array CpInfo := pool [(1, .class_ 2), (0, u "java/io/Serializable"), (0, .class_ 4), (0, u "java/lang/Object")] 2

/-- java/io/Serializable -/
def k3 : Class := { plain "java/io/Serializable" (some 0) with
  accessFlags := 1537
  interfaces := #[]
  cf := some (fileOf pool3 1 #[] #[] 1537 3 #[] #[])
  fields := #[]
  methods := #[]
  instanceTypes := #[]
  staticTypes := #[]
  resolved := Array.replicate 7 none
  statics := none }

def pool4 : Array CpInfo := pool [(2, .class_ 4), (1, u "java/lang/Object"), (0, u "<init>"), (0, u "()V"), (1, .class_ 10), (1, u "java/lang/Number"), (2, .class_ 14), (0, u "java/io/Serializable"), (0, u "serialVersionUID"), (0, u "J")] 20

def k4m0 : Method := { name := "<init>", desc := "()V", sig := { parameters := [], returnType := none }, accessFlags := 1, code := none }
/-- java/lang/Number -/
def k4 : Class := { plain "java/lang/Number" (some 0) with
  accessFlags := 1057
  interfaces := #[3]
  cf := some (fileOf pool4 8 #[] #[{ accessFlags := 1, nameIndex := 5, descriptorIndex := 6, attributes := #[] }] 1057 2 #[13] #[{ accessFlags := 26, nameIndex := 15, descriptorIndex := 16, attributes := #[] }])
  fields := #[{ name := "serialVersionUID", type := .long, accessFlags := 26, slot := 0, constantValue := 0 }]
  methods := #[k4m0]
  instanceTypes := #[]
  staticTypes := #[.long]
  resolved := Array.replicate 37 none
  statics := none }

def pool5 : Array CpInfo := pool [(1, .class_ 2), (0, u "java/lang/Comparable"), (0, .class_ 4), (0, u "java/lang/Object")] 7

/-- java/lang/Comparable -/
def k5 : Class := { plain "java/lang/Comparable" (some 0) with
  accessFlags := 1537
  interfaces := #[]
  cf := some (fileOf pool5 1 #[] #[] 1537 3 #[] #[])
  fields := #[]
  methods := #[]
  instanceTypes := #[]
  staticTypes := #[]
  resolved := Array.replicate 12 none
  statics := none }

def pool6 : Array CpInfo := pool [(1, .class_ 2), (0, u "java/lang/constant/Constable"), (0, .class_ 4), (0, u "java/lang/Object")] 6

/-- java/lang/constant/Constable -/
def k6 : Class := { plain "java/lang/constant/Constable" (some 0) with
  accessFlags := 1537
  interfaces := #[]
  cf := some (fileOf pool6 1 #[] #[] 1537 3 #[] #[])
  fields := #[]
  methods := #[]
  instanceTypes := #[]
  staticTypes := #[]
  resolved := Array.replicate 11 none
  statics := none }

def pool7 : Array CpInfo := pool [(1, .class_ 2), (0, u "java/lang/constant/ConstantDesc"), (0, .class_ 4), (0, u "java/lang/Object")] 32

/-- java/lang/constant/ConstantDesc -/
def k7 : Class := { plain "java/lang/constant/ConstantDesc" (some 0) with
  accessFlags := 1537
  interfaces := #[]
  cf := some (fileOf pool7 1 #[] #[] 1537 3 #[] #[])
  fields := #[]
  methods := #[]
  instanceTypes := #[]
  staticTypes := #[]
  resolved := Array.replicate 37 none
  statics := none }

def pool8 : Array CpInfo := pool [(1, .class_ 2), (0, u "java/lang/Integer"), (16, u "digits"), (0, u "[C"), (32, u "numberOfLeadingZeros"), (0, u "(I)I"), (30, u "DigitOnes"), (0, u "[B"), (2, u "DigitTens"), (99, .class_ 190), (0, u "java/lang/Integer$IntegerCache"), (3, u "I"), (8, .class_ 204), (0, u "java/lang/Number"), (2, u "value"), (56, .integer 65536), (37, u "TYPE"), (0, u "Ljava/lang/Class;"), (0, .class_ 305), (0, u "java/lang/Comparable"), (0, .class_ 307), (0, u "java/lang/constant/Constable"), (0, .class_ 309), (0, u "java/lang/constant/ConstantDesc"), (0, u "MIN_VALUE"), (1, u "MAX_VALUE"), (3, u "SIZE"), (1, u "BYTES"), (1, u "serialVersionUID"), (0, u "J")] 131

def k8c0 : Code := { maxStack := 3, maxLocals := 2, code := jdk_33_method_47_code, exceptionTable := #[], attributes := #[] }
def k8m0 : Method := { name := "numberOfLeadingZeros", desc := "(I)I", sig := { parameters := [.int], returnType := some .int }, accessFlags := 9, code := some k8c0 }
/-- java/lang/Integer -/
def k8 : Class := { plain "java/lang/Integer" (some 4) with
  accessFlags := 49
  interfaces := #[5, 6, 7]
  cf := some (fileOf pool8 1 #[.nestMembers #[189]] #[{ accessFlags := 9, nameIndex := 53, descriptorIndex := 54, attributes := #[] }] 49 203 #[304, 306, 308] #[{ accessFlags := 25, nameIndex := 310, descriptorIndex := 194, attributes := #[] }, { accessFlags := 25, nameIndex := 312, descriptorIndex := 194, attributes := #[] }, { accessFlags := 25, nameIndex := 302, descriptorIndex := 303, attributes := #[] }, { accessFlags := 24, nameIndex := 19, descriptorIndex := 20, attributes := #[] }, { accessFlags := 24, nameIndex := 89, descriptorIndex := 86, attributes := #[] }, { accessFlags := 24, nameIndex := 85, descriptorIndex := 86, attributes := #[] }, { accessFlags := 18, nameIndex := 207, descriptorIndex := 194, attributes := #[] }, { accessFlags := 25, nameIndex := 316, descriptorIndex := 194, attributes := #[] }, { accessFlags := 25, nameIndex := 318, descriptorIndex := 194, attributes := #[] }, { accessFlags := 26, nameIndex := 320, descriptorIndex := 321, attributes := #[] }])
  fields := #[{ name := "MIN_VALUE", type := .int, accessFlags := 25, slot := 0, constantValue := 0 }, { name := "MAX_VALUE", type := .int, accessFlags := 25, slot := 1, constantValue := 0 }, { name := "TYPE", type := (.object "java/lang/Class"), accessFlags := 25, slot := 2, constantValue := 0 }, { name := "digits", type := (.array .char), accessFlags := 24, slot := 3, constantValue := 0 }, { name := "DigitTens", type := (.array .byte), accessFlags := 24, slot := 4, constantValue := 0 }, { name := "DigitOnes", type := (.array .byte), accessFlags := 24, slot := 5, constantValue := 0 }, { name := "value", type := .int, accessFlags := 18, slot := 0, constantValue := 0 }, { name := "SIZE", type := .int, accessFlags := 25, slot := 6, constantValue := 0 }, { name := "BYTES", type := .int, accessFlags := 25, slot := 7, constantValue := 0 }, { name := "serialVersionUID", type := .long, accessFlags := 26, slot := 8, constantValue := 0 }]
  methods := #[k8m0]
  instanceTypes := #[.int]
  staticTypes := #[.int, .int, (.object "java/lang/Class"), (.array .char), (.array .byte), (.array .byte), .int, .int, .long]
  resolved := Array.replicate 453 none
  statics := none }

def pool9 : Array CpInfo := pool [(1, .class_ 2), (0, u "java/lang/Math"), (1, .class_ 6), (1, u "java/lang/Object"), (0, u "<init>"), (0, u "()V"), (89, .class_ 100), (1, u "java/lang/Math$RandomNumberGeneratorHolder"), (71, u "negativeZeroFloatBits"), (0, u "J"), (2, u "negativeZeroDoubleBits"), (21, u "max"), (46, u "$assertionsDisabled"), (0, u "Z"), (88, u "(II)I"), (2, u "twoToTheDoubleScaleDown"), (0, u "D"), (4, u "twoToTheDoubleScaleUp"), (9, u "E"), (3, u "PI"), (2, u "TAU"), (2, u "DEGREES_TO_RADIANS"), (0, u "RADIANS_TO_DEGREES")] 94

def k9m0 : Method := { name := "<init>", desc := "()V", sig := { parameters := [], returnType := none }, accessFlags := 2, code := none }
def k9c1 : Code := { maxStack := 2, maxLocals := 2, code := jdk_29_method_65_code, exceptionTable := #[], attributes := #[] }
def k9m1 : Method := { name := "max", desc := "(II)I", sig := { parameters := [.int, .int], returnType := some .int }, accessFlags := 9, code := some k9c1 }
/-- java/lang/Math -/
def k9 : Class := { plain "java/lang/Math" (some 0) with
  accessFlags := 49
  interfaces := #[]
  cf := some (fileOf pool9 1 #[.nestMembers #[98]] #[{ accessFlags := 2, nameIndex := 7, descriptorIndex := 8, attributes := #[] }, { accessFlags := 9, nameIndex := 198, descriptorIndex := 335, attributes := #[] }] 49 4 #[] #[{ accessFlags := 25, nameIndex := 354, descriptorIndex := 339, attributes := #[] }, { accessFlags := 25, nameIndex := 358, descriptorIndex := 339, attributes := #[] }, { accessFlags := 25, nameIndex := 361, descriptorIndex := 339, attributes := #[] }, { accessFlags := 26, nameIndex := 364, descriptorIndex := 339, attributes := #[] }, { accessFlags := 26, nameIndex := 365, descriptorIndex := 339, attributes := #[] }, { accessFlags := 26, nameIndex := 172, descriptorIndex := 173, attributes := #[] }, { accessFlags := 26, nameIndex := 176, descriptorIndex := 173, attributes := #[] }, { accessFlags := 8, nameIndex := 344, descriptorIndex := 339, attributes := #[] }, { accessFlags := 8, nameIndex := 338, descriptorIndex := 339, attributes := #[] }, { accessFlags := 4120, nameIndex := 245, descriptorIndex := 246, attributes := #[] }])
  fields := #[{ name := "E", type := .double, accessFlags := 25, slot := 0, constantValue := 0 }, { name := "PI", type := .double, accessFlags := 25, slot := 1, constantValue := 0 }, { name := "TAU", type := .double, accessFlags := 25, slot := 2, constantValue := 0 }, { name := "DEGREES_TO_RADIANS", type := .double, accessFlags := 26, slot := 3, constantValue := 0 }, { name := "RADIANS_TO_DEGREES", type := .double, accessFlags := 26, slot := 4, constantValue := 0 }, { name := "negativeZeroFloatBits", type := .long, accessFlags := 26, slot := 5, constantValue := 0 }, { name := "negativeZeroDoubleBits", type := .long, accessFlags := 26, slot := 6, constantValue := 0 }, { name := "twoToTheDoubleScaleUp", type := .double, accessFlags := 8, slot := 7, constantValue := 0 }, { name := "twoToTheDoubleScaleDown", type := .double, accessFlags := 8, slot := 8, constantValue := 0 }, { name := "$assertionsDisabled", type := .boolean, accessFlags := 4120, slot := 9, constantValue := 0 }]
  methods := #[k9m0, k9m1]
  instanceTypes := #[]
  staticTypes := #[.double, .double, .double, .double, .double, .long, .long, .double, .double, .boolean]
  resolved := Array.replicate 460 none
  statics := none }

def pool10 : Array CpInfo := pool [(1, u "java/lang/Cloneable"), (0, .class_ 1), (0, u "java/lang/Object"), (0, .class_ 3)] 3

/-- java/lang/Cloneable -/
def k10 : Class := { plain "java/lang/Cloneable" (some 0) with
  accessFlags := 1537
  interfaces := #[]
  cf := some (fileOf pool10 2 #[] #[] 1537 4 #[] #[])
  fields := #[]
  methods := #[]
  instanceTypes := #[]
  staticTypes := #[]
  resolved := Array.replicate 8 none
  statics := none }

/-- the primitive byte -/
def k11 : Class := { plain "byte" none with kind := .primitive 'B', accessFlags := 0x411 }
/-- [B -/
def k12 : Class := { plain "[B" (some 0) with kind := .array 11 .byte, interfaces := #[10, 3], accessFlags := 1041 }

/-- the primitive int -/
def k13 : Class := { plain "int" none with kind := .primitive 'I', accessFlags := 0x411 }
/-- [I -/
def k14 : Class := { plain "[I" (some 0) with kind := .array 13 .int, interfaces := #[10, 3], accessFlags := 1041 }

def heap : Heap := #[]
def classes : Array Class := #[k0, k1, k2, k3, k4, k5, k6, k7, k8, k9, k10, k11, k12, k13, k14]
def interned : List (Array UInt16 × Addr) := []
def slotsUsed : Nat := 0
def theMethod : MethodId := ⟨1, 1⟩
def args0 : Array Value := #[.int 5]
def aboutOver (below : List Frame) : State where
  vm := { classes := classes, interned := interned.toArray }
  heap := heap
  slotsUsed := slotsUsed
  threads := #[{ frames := .invoking theMethod args0 :: below }]
def below0 : List Frame := [.native { method := ⟨0, 0⟩, args := #[] }]
def about1 : State := aboutOver below0
def p0 : Program := .bare "" "" ""
def e0 : Env := launch0.env 0 0 0
theorem w_frames : about1.frames = Frame.invoking theMethod args0 :: below0 := rfl
set_option maxRecDepth 65536 in
theorem w_args : argsFit about1.vm theMethod args0 = true := by decide +kernel
set_option maxRecDepth 65536 in
theorem w_heap : heapFits about1 = true := by decide +kernel
set_option maxRecDepth 65536 in
theorem w_runnable : about1.curStatus? = some .runnable := by decide +kernel
set_option maxRecDepth 65536 in
theorem w_alone : about1.alone = true := by decide +kernel
set_option maxRecDepth 65536 in
theorem w_named : about1.methodNamed? x = some theMethod := by decide +kernel
set_option maxRecDepth 65536 in
theorem w_hears : about1.hears theMethod below0 = true := by decide +kernel
set_option maxRecDepth 65536 in
theorem w_ripe : about1.ripe theMethod args0 below0 = true := by decide +kernel
theorem w_running : about1.status = .running := rfl
set_option maxRecDepth 65536 in
theorem w_room : about1.hasRoom e0.platform room_1 = true :=
  launch0.hasRoom_least _ room_1 (by decide +kernel) (by decide +kernel) (by decide +kernel) (by decide +kernel) (by decide +kernel) (by decide +kernel)
theorem allAtoms_all (ts : List Jvm.Cond) (a : Array Jvm.Value) (st : Jvm.State) : (allAtoms ts).before a st = ts.all (fun c => c.before a st) := by
  induction ts with
  | nil => rfl
  | cons c t ih =>
    show (Jvm.Cond.and c (allAtoms t)).before a st = _
    rw [Jvm.Cond.before_and, ih, List.all_cons]
def words1 : List Jvm.Cond := Jvm.Cond.code x code maxLocals ret :: tables_1
/-- a 'code' word, met by the world's own term for the bytes: nothing is compared byte by byte -/
theorem code_word {y : MethodName} {bytes : ByteArray} {mx : Nat} {rt : Option FieldType} {a : Array Value} {s : State} {m : MethodId} {meth : Method} {c : Code} (h1 : s.methodNamed? y = some m) (h2 : s.vm.method? m = some meth) (h3 : meth.code = some c) (h4 : c.code = bytes)
    (h5 : (c.maxLocals == mx && c.exceptionTable.isEmpty && decide (c.maxStack ≤ mostOperands) && decide (meth.sig.returnType = rt) && !meth.locks && decide (parseMethodDescriptor y.desc = some meth.sig)) = true) : (Jvm.Cond.code y bytes mx rt).before a s = true := by
  simp only [Bool.and_eq_true, beq_iff_eq, Bool.not_eq_true', decide_eq_true_eq] at h5
  obtain ⟨⟨⟨⟨⟨g1, g2⟩, g3⟩, g4⟩, g5⟩, g6⟩ := h5
  simp [Cond.before, Cond.holds, Cond.value, h1, h2, h3, h4, g1, g2, g3, g4, g5, g6]
def isCode : Jvm.Cond → Bool
  | .code _ _ _ _ => true
  | _ => false
theorem all_split {L : List Jvm.Cond} {P : Jvm.Cond → Bool} (h1 : L.all (fun c => isCode c || P c) = true) (h2 : ∀ c ∈ L.filter isCode, P c = true) : L.all P = true := by
  refine List.all_eq_true.mpr fun c hc => ?_
  have h := List.all_eq_true.mp h1 c hc
  rcases Bool.eq_false_or_eq_true (isCode c) with hi | hi
  · exact h2 c (List.mem_filter.mpr ⟨hc, hi⟩)
  · simpa [hi] using h
set_option maxRecDepth 65536 in
theorem w_c0 : (Jvm.Cond.code x code maxLocals ret).before args0 about1 = true := code_word (m := ⟨1, 1⟩) (meth := k1m1) (c := k1c1) (by decide +kernel) rfl rfl rfl (by decide +kernel)
set_option maxRecDepth 65536 in
theorem w_c1 : (Jvm.Cond.code ({ cls := "com/example/tourney/tourney/tree/TreeShape", name := "forParticipants", desc := "(I)Lcom/example/tourney/tourney/tree/TreeShape;" } : Jvm.MethodName) prog_32_method_2_code (2 : Nat) (Option.some (Jvm.ClassFile.FieldType.object "com/example/tourney/tourney/tree/TreeShape"))).before args0 about1 = true := code_word (m := ⟨2, 1⟩) (meth := k2m1) (c := k2c1) (by decide +kernel) rfl rfl rfl (by decide +kernel)
set_option maxRecDepth 65536 in
theorem w_c2 : (Jvm.Cond.code ({ cls := "java/lang/Integer", name := "numberOfLeadingZeros", desc := "(I)I" } : Jvm.MethodName) jdk_33_method_47_code (2 : Nat) (Option.some Jvm.ClassFile.FieldType.int)).before args0 about1 = true := code_word (m := ⟨8, 0⟩) (meth := k8m0) (c := k8c0) (by decide +kernel) rfl rfl rfl (by decide +kernel)
set_option maxRecDepth 65536 in
theorem w_c3 : (Jvm.Cond.code ({ cls := "java/lang/Math", name := "max", desc := "(II)I" } : Jvm.MethodName) jdk_29_method_65_code (2 : Nat) (Option.some Jvm.ClassFile.FieldType.int)).before args0 about1 = true := code_word (m := ⟨9, 1⟩) (meth := k9m1) (c := k9c1) (by decide +kernel) rfl rfl rfl (by decide +kernel)
set_option maxRecDepth 65536 in
theorem w_c4 : (Jvm.Cond.code ({ cls := "com/example/tourney/tourney/tree/TreeShape", name := "<init>", desc := "(I)V" } : Jvm.MethodName) prog_32_method_1_code (2 : Nat) (Option.none : Option Jvm.ClassFile.FieldType)).before args0 about1 = true := code_word (m := ⟨2, 0⟩) (meth := k2m0) (c := k2c0) (by decide +kernel) rfl rfl rfl (by decide +kernel)
set_option maxRecDepth 65536 in
theorem w_c5 : (Jvm.Cond.code ({ cls := "java/lang/Object", name := "<init>", desc := "()V" } : Jvm.MethodName) object_method_1_code (1 : Nat) (Option.none : Option Jvm.ClassFile.FieldType)).before args0 about1 = true := code_word (m := ⟨0, 0⟩) (meth := k0m0) (c := k0c0) (by decide +kernel) rfl rfl rfl (by decide +kernel)
set_option maxRecDepth 65536 in
theorem w_c6 : (Jvm.Cond.code ({ cls := "com/example/tourney/tourney/tree/TreeShape", name := "height", desc := "()I" } : Jvm.MethodName) prog_32_method_3_code (1 : Nat) (Option.some Jvm.ClassFile.FieldType.int)).before args0 about1 = true := code_word (m := ⟨2, 2⟩) (meth := k2m2) (c := k2c2) (by decide +kernel) rfl rfl rfl (by decide +kernel)
set_option maxRecDepth 65536 in
theorem w_c7 : (Jvm.Cond.code ({ cls := "com/example/tourney/tourney/tree/TreeShape", name := "leafPositions", desc := "()I" } : Jvm.MethodName) prog_32_method_4_code (1 : Nat) (Option.some Jvm.ClassFile.FieldType.int)).before args0 about1 = true := code_word (m := ⟨2, 3⟩) (meth := k2m3) (c := k2c3) (by decide +kernel) rfl rfl rfl (by decide +kernel)
def codes1 : List Jvm.Cond := [Jvm.Cond.code x code maxLocals ret, Jvm.Cond.code ({ cls := "com/example/tourney/tourney/tree/TreeShape", name := "forParticipants", desc := "(I)Lcom/example/tourney/tourney/tree/TreeShape;" } : Jvm.MethodName) prog_32_method_2_code (2 : Nat) (Option.some (Jvm.ClassFile.FieldType.object "com/example/tourney/tourney/tree/TreeShape")), Jvm.Cond.code ({ cls := "java/lang/Integer", name := "numberOfLeadingZeros", desc := "(I)I" } : Jvm.MethodName) jdk_33_method_47_code (2 : Nat) (Option.some Jvm.ClassFile.FieldType.int), Jvm.Cond.code ({ cls := "java/lang/Math", name := "max", desc := "(II)I" } : Jvm.MethodName) jdk_29_method_65_code (2 : Nat) (Option.some Jvm.ClassFile.FieldType.int), Jvm.Cond.code ({ cls := "com/example/tourney/tourney/tree/TreeShape", name := "<init>", desc := "(I)V" } : Jvm.MethodName) prog_32_method_1_code (2 : Nat) (Option.none : Option Jvm.ClassFile.FieldType), Jvm.Cond.code ({ cls := "java/lang/Object", name := "<init>", desc := "()V" } : Jvm.MethodName) object_method_1_code (1 : Nat) (Option.none : Option Jvm.ClassFile.FieldType), Jvm.Cond.code ({ cls := "com/example/tourney/tourney/tree/TreeShape", name := "height", desc := "()I" } : Jvm.MethodName) prog_32_method_3_code (1 : Nat) (Option.some Jvm.ClassFile.FieldType.int), Jvm.Cond.code ({ cls := "com/example/tourney/tourney/tree/TreeShape", name := "leafPositions", desc := "()I" } : Jvm.MethodName) prog_32_method_4_code (1 : Nat) (Option.some Jvm.ClassFile.FieldType.int)]
set_option maxRecDepth 65536 in
theorem codes_eq : words1.filter isCode = codes1 := rfl
theorem w_codes : ∀ c ∈ words1.filter isCode, c.before args0 about1 = true := by
  rw [codes_eq]
  intro c hc
  simp only [codes1, List.mem_cons, List.not_mem_nil, or_false] at hc
  rcases hc with rfl | rfl | rfl | rfl | rfl | rfl | rfl | rfl
  · exact w_c0
  · exact w_c1
  · exact w_c2
  · exact w_c3
  · exact w_c4
  · exact w_c5
  · exact w_c6
  · exact w_c7
set_option maxRecDepth 65536 in
theorem w_t1 : (words1.take 24).all (fun c => isCode c || c.before args0 about1) = true := by decide +kernel
set_option maxRecDepth 65536 in
theorem w_t2 : (words1.drop 24).all (fun c => isCode c || c.before args0 about1) = true := by decide +kernel
theorem w_tables : (allAtoms (Jvm.Cond.code x code maxLocals ret :: tables_1)).before args0 about1 = true := by
  rw [allAtoms_all]
  show words1.all (fun c => c.before args0 about1) = true
  refine all_split ?_ w_codes
  rw [← List.take_append_drop 24 words1, List.all_append, w_t1, w_t2]
  rfl
set_option maxRecDepth 65536 in
theorem w_case : (Jvm.Cond.and given_1 narrow_1).before args0 about1 = true := by decide +kernel
theorem w_applies : (headSpec (Jvm.Cond.code x code maxLocals ret :: tables_1) room_1).applies x e0.platform about1 = true :=
  (Spec.applies_iff w_frames).mpr ⟨w_running, w_runnable, w_alone, w_named, w_hears, w_ripe, w_room, w_tables⟩
theorem atStart : AtStart classFile x code maxLocals ret World_1 tables_1 room_1 Calls_1 rest_1 Pre_1 launch0 p0 e0 about1 theMethod args0 below0 :=
  ⟨lists_1, trivial, launch0.admits_env _ _ _, launch0.least_env, fairChoices_fair.cas, fairChoices_fair.clock, w_frames, w_args, w_heap, w_applies, trivial, trivial, w_case⟩
end start1
theorem witness_1 : WitnessClaimed_1 := ⟨start1.p0, start1.e0, start1.about1, start1.theMethod, start1.args0, start1.below0, start1.atStart⟩
end Jvm.Pilot.@@N@@
