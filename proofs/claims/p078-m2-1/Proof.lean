import JvmDerived
import JvmDerived.Pilot.@@N@@Statement
import JvmDerived.Pilot.@@N@@Code
set_option linter.unusedVariables false
set_option linter.unusedSimpArgs false
namespace Jvm.Pilot.@@N@@
open Jvm Jvm.ClassFile Sem Op Lib Jvm.Free Jvm.Stand Jvm.LawKit Jvm.RoadKit Bundle Jvm.Pilot.@@N@@.Jvm.D
/-! own layer: a run that ends well, said backwards -/
section OwnGo
variable {p : Program} {l : Launch} {e : Env} {R : Room} {s : State} {m : MethodId} {args : Array Value} {below : List Frame} {meth : Method} {c : Code} {T T' : State} {locs : List Loc} {cells slots : Nat} {Z : State} {a0 : Array Value} {h : Heap} {Q : Option Value → Heap → List Loc → Prop} {C S maxL0 : Nat} {g g' : JFrame}
def Go (p : Program) (e : Env) (below : List Frame) (s : State) (Q : Option Value → Heap → List Loc → Prop) (C S : Nat) (T : State) (g : JFrame) : Prop :=
  ∃ s₂ o, Steps p.tables e below (T.setTop g) s₂ ∧ s₂.status = .running ∧ Ended s₂ below o ∧ ∃ v L, o = .returned v ∧ Q v s₂.heap L ∧ FrameEnd s o s₂ L C S
def Ct (p : Program) (s : State) (m : MethodId) (meth : Method) (c : Code) (Z : State) (own nm : String) (bytes : ByteArray) (maxL : Nat) (ret : Option FieldType) : Prop :=
  p.tables.exec = Jvm.exec ∧ Z.Warmed39 s.vm ∧ s.vm.findClass own = some m.cls ∧ c.code = bytes ∧ c.maxLocals = maxL ∧ meth.sig.returnType = ret ∧ meth.locks = false ∧ meth.name = nm
theorem go_st (k : ∀ t, Steps p.tables e below (T'.setTop g') t → Steps p.tables e below (T.setTop g) t) (q : Go p e below s Q C S T' g') : Go p e below s Q C S T g := by
  obtain ⟨s2, o, q1, q2⟩ := q
  exact ⟨s2, o, k _ q1, q2⟩
theorem castGo (q : g = g') (k : Go p e below s Q C S T g') : Go p e below s Q C S T g := by rw [q]; exact k
theorem go_tr (k : Steps p.tables e below (T.setTop g) (T'.setTop g')) (q : Go p e below s Q C S T' g') : Go p e below s Q C S T g := by
  obtain ⟨s2, o, q1, q2⟩ := q
  exact ⟨s2, o, k.trans q1, q2⟩
theorem go_end (X : Stand p l e R s m args below meth c T locs cells slots) (hlk : meth.locks = false) {v : Option Value} (hv : meth.sig.returnType = none → v = none)
    (hr : ∀ fs, (∀ (f : JFrame) (acts : List Action), f.method = m → f.locked = none → f.entered = [] → (doReturn e (T.setTop f) acts v).1 = T.setFrames fs) → Steps p.tables e below (T.setTop g) (T.setFrames fs))
    (hC : cells ≤ C) (hS : slots ≤ S) (hQ : Q v T.heap locs) : Go p e below s Q C S T g := by
  obtain ⟨fs, h1, hrun, hended, hW, hsame⟩ := X.leave (v := v) hv hlk
  exact ⟨_, _, hr fs h1, hrun, hended, _, _, rfl, hQ, ⟨_, rfl⟩, hW, hsame.mono hC hS⟩
theorem go_retI (X : Stand p l e R s m args below meth c T locs cells slots) (hx : p.tables.exec = Jvm.exec) (hlk : meth.locks = false) (hret : meth.sig.returnType = some .int) {pc : Nat} {Ls : Array Slot} {z : Int32} {rest : List Value} (hd : decode c.code pc = .ok (.ireturn, 1))
    (hC : cells ≤ C) (hS : slots ≤ S) (hQ : Q (some (.int z)) T.heap locs) : Go p e below s Q C S T (mkF m pc Ls (.int z :: rest)) :=
  go_end X hlk (fun h => by rw [hret] at h; cases h) (fun fs h1 => retOut X hx hret rfl (Or.inl ⟨rfl, Or.inl rfl, _, rfl⟩) hd h1) hC hS hQ
theorem go_retL (X : Stand p l e R s m args below meth c T locs cells slots) (hx : p.tables.exec = Jvm.exec) (hlk : meth.locks = false) (hret : meth.sig.returnType = some .long) {pc : Nat} {Ls : Array Slot} {z : Int64} {rest : List Value} (hd : decode c.code pc = .ok (.lreturn, 1))
    (hC : cells ≤ C) (hS : slots ≤ S) (hQ : Q (some (.long z)) T.heap locs) : Go p e below s Q C S T (mkF m pc Ls (.long z :: rest)) :=
  go_end X hlk (fun h => by rw [hret] at h; cases h) (fun fs h1 => retOut X hx hret rfl (Or.inr (Or.inl ⟨rfl, rfl, _, rfl⟩)) hd h1) hC hS hQ
theorem go_retD (X : Stand p l e R s m args below meth c T locs cells slots) (hx : p.tables.exec = Jvm.exec) (hlk : meth.locks = false) (hret : meth.sig.returnType = some .double) {pc : Nat} {Ls : Array Slot} {z : UInt64} {rest : List Value} (hd : decode c.code pc = .ok (.dreturn, 1))
    (hC : cells ≤ C) (hS : slots ≤ S) (hQ : Q (some (.double z)) T.heap locs) : Go p e below s Q C S T (mkF m pc Ls (.double z :: rest)) :=
  go_end X hlk (fun h => by rw [hret] at h; cases h) (fun fs h1 => retOut X hx hret rfl (Or.inr (Or.inr (Or.inl ⟨rfl, rfl, _, rfl⟩))) hd h1) hC hS hQ
theorem go_retA (X : Stand p l e R s m args below meth c T locs cells slots) (hx : p.tables.exec = Jvm.exec) (hlk : meth.locks = false) {t : FieldType} (hret : meth.sig.returnType = some t) (ht : t.isReference = true) {w : Value} (hw : w.isRef = true) {pc : Nat} {Ls : Array Slot} {rest : List Value} (hd : decode c.code pc = .ok (.areturn, 1))
    (hC : cells ≤ C) (hS : slots ≤ S) (hQ : Q (some w) T.heap locs) : Go p e below s Q C S T (mkF m pc Ls (w :: rest)) :=
  go_end X hlk (fun h => by rw [hret] at h; cases h) (fun fs h1 => retOut X hx hret (by cases t <;> simp_all [FieldType.isReference, narrow] <;> cases w <;> simp_all [Value.isRef, narrow]) (Or.inr (Or.inr (Or.inr (Or.inr ⟨rfl, ht, hw⟩)))) hd h1) hC hS hQ
theorem go_retB (X : Stand p l e R s m args below meth c T locs cells slots) (hx : p.tables.exec = Jvm.exec) (hlk : meth.locks = false) (hret : meth.sig.returnType = some .boolean) {pc : Nat} {Ls : Array Slot} {z w : Int32} {rest : List Value} (hd : decode c.code pc = .ok (.ireturn, 1)) (hw : z &&& 1 = w)
    (hC : cells ≤ C) (hS : slots ≤ S) (hQ : Q (some (.int w)) T.heap locs) : Go p e below s Q C S T (mkF m pc Ls (.int z :: rest)) := by
  subst hw
  exact go_end X hlk (fun h => by rw [hret] at h; cases h) (fun fs h1 => retN X hx (t := .boolean) hret (by simp) hd h1) hC hS hQ
theorem go_ret0 (X : Stand p l e R s m args below meth c T locs cells slots) (hx : p.tables.exec = Jvm.exec) (hlk : meth.locks = false) (hret : meth.sig.returnType = none) {pc : Nat} {Ls : Array Slot} (hd : decode c.code pc = .ok (.return_, 1))
    (hC : cells ≤ C) (hS : slots ≤ S) (hQ : Q none T.heap locs) : Go p e below s Q C S T (mkF m pc Ls []) :=
  go_end X hlk (fun _ => rfl) (fun fs h1 => X.returnOut hx hret hd h1) hC hS hQ
def Met (l : Launch) (y : MethodName) (bytes : ByteArray) (maxL : Nat) (ret : Option FieldType) (ws : List Cond) (rm : Room) (Z : State) (as' : Array Value) (h0 : Heap) (Q : Option Value → Heap → List Loc → Prop) (C S : Nat) : Prop :=
  MetFree l y (head1 (Jvm.Cond.code y bytes maxL ret :: ws) rm) (fun a U => a = as' ∧ Z.Warmed39 U.vm ∧ U.heap = h0) (fun _ _ _ _ _ => True) (fun _ U o U' => ∃ v L, o = .returned v ∧ Q v U'.heap L ∧ FrameEnd U o U' L C S)
def QV (w : Option Value) (h0 : Heap) (n0 : Nat) (v : Option Value) (h : Heap) (L : List Loc) : Prop := v = w ∧ Fr n0 L ∧ h = h0
def QF (w : Option Value) (n0 : Nat) (v : Option Value) (h : Heap) (L : List Loc) : Prop := v = w ∧ Fr n0 L
theorem own_body {y : MethodName} {bytes : ByteArray} {maxL : Nat} {ret : Option FieldType} {rm : Room} {as' : Array Value} {h0 : Heap} {ws : List Cond} (hn : plainFor y = true) {C S : Nat}
    (H : ∀ p e s m below meth c s₁, Ct p s m meth c Z y.cls y.name bytes maxL ret → Stand p l e rm s m as' below meth c s₁ [] 0 0 → s₁.heap = h0 → Go p e below s Q C S s₁ (entryFrame m as' maxL)) :
    Met l y bytes maxL ret ws rm Z as' h0 Q C S := by
  refine MetFree.of_bodySF hn hisR ?_
  intro p e s m args below meth c s₁ Bd hml0 hP hK
  obtain ⟨rfl, hZ, hh⟩ := hP
  have hown : s.vm.findClass y.cls = some m.cls := findClass_of_methodNamed Bd.named
  have hnm := (name_of_methodNamed Bd.named Bd.method).1
  have X0 : Stand p l e rm s m args below meth c s₁ [] 0 0 := Stand.of_body Bd
  have e0 : s₁.heap = h0 := by rw [← hh, Bd.state]; rfl
  exact H p e s m below meth c s₁ ⟨Bd.exec, hZ, hown, Bd.bytes, hml0, Bd.returns, Bd.notSynchronized, hnm⟩ X0 e0
theorem go_callS (X : Stand p l e R s m args below meth c T locs cells slots) (hx : p.tables.exec = Jvm.exec) (hZ : Z.Warmed39 s.vm) (hml : c.maxLocals = maxL0) {own : String} {index : Nat} {y : MethodName} {bytes : ByteArray} {maxL : Nat} {ret : Option FieldType} (hown : s.vm.findClass own = some m.cls)
    (w1 : (Cond.methodLink own index y).before a0 Z = true) (w2 : (Cond.static y).before a0 Z = true) (w3 : (Cond.initialized y.cls).before a0 Z = true) (w4 : (Cond.code y bytes maxL ret).before a0 Z = true) (eT : T.heap = h) {argsL rest : List Value} {rm : Room} {Q' : Option Value → Heap → List Loc → Prop} {W : Nat}
    (hM : Met l y bytes maxL ret [] rm Z argsL.toArray h Q' rm.cells rm.slots)
    (hd : decode c.code g.pc = .ok (.invokestatic index, 3)) (hs : g.stack = argsL.reverse ++ rest) (hg : g.method = m) (hsz : g.locals.size = maxL0) (hlen : ∀ sig, parseMethodDescriptor y.desc = some sig → argsL.length = sig.parameters.length) (hW : 2 * g.monitorRoom + (rest.map fun v => v.category).sum ≤ W)
    (hy : y.cls ≠ "java/lang/invoke/MethodHandle" ∧ y.cls ≠ "java/lang/invoke/VarHandle") (hf : rm.frames + 1 ≤ R.frames) (hl : W + (maxL + 11) + rm.locals ≤ R.locals) (hc : cells + rm.cells ≤ R.cells) (hsl : slots + rm.slots ≤ R.slots)
    (k : ∀ T' v L, Stand p l e R s m args below meth c T' (locs ++ L) (cells + rm.cells) (slots + rm.slots) → Q' v T'.heap L → Go p e below s Q C S T' { g with pc := g.pc + 3, stack := v.toList ++ rest }) : Go p e below s Q C S T g := by
  obtain ⟨v, _, ⟨T1, L1, k1, n1⟩, -, X1, ⟨Lc, hQ, l1, y1, z1⟩, st⟩ := Jvm.LawKit.callS X hx (y := y) hown (mvT hZ w1) (mvT hZ w2) (mvT hZ w3) (mvT hZ w4) hy (backOf (W := W) hM hZ w4 w3 hf hl) (g := g) hg (hsz.trans hml.symm) (argsL := argsL) (rest := rest) hlen hs hW hd (fun _ _ => ⟨rfl, eT, hc, hsl⟩)
  dsimp only [Pt.U, Pt.locs, Pt.cells, Pt.slots] at X1 l1 y1 z1 st hQ
  subst l1 y1 z1
  exact go_st st (k _ _ _ X1 hQ)
theorem go_callV (X : Stand p l e R s m args below meth c T locs cells slots) (hx : p.tables.exec = Jvm.exec) (hZ : Z.Warmed39 s.vm) (hml : c.maxLocals = maxL0) {own K : String} {index : Nat} {y z : MethodName} {bytes : ByteArray} {maxL : Nat} {ret : Option FieldType} (hown : s.vm.findClass own = some m.cls)
    (w1 : (Cond.methodLink own index y).before a0 Z = true) (w2 : (Cond.declares y).before a0 Z = true) (w2' : NotFace s y) (w3 : (Cond.selects K y z).before a0 Z = true) (w3' : (Cond.instanceMethod z).before a0 Z = true) (w4 : (Cond.code z bytes maxL ret).before a0 Z = true) (w5 : (Cond.initialized z.cls).before a0 Z = true) (eT : T.heap = h) {a : Addr} (E : Exa Z h a K) {argsL rest : List Value} {rm : Room} {Q' : Option Value → Heap → List Loc → Prop} {W : Nat}
    (hM : Met l z bytes maxL ret [] rm Z (.ref a :: argsL).toArray h Q' rm.cells rm.slots)
    (hd : decode c.code g.pc = .ok (.invokevirtual index, 3)) (hs : g.stack = argsL.reverse ++ .ref a :: rest) (hg : g.method = m) (hsz : g.locals.size = maxL0) (hlen : ∀ sig, parseMethodDescriptor y.desc = some sig → argsL.length = sig.parameters.length) (hW : 2 * g.monitorRoom + (rest.map fun v => v.category).sum ≤ W)
    (hy : y.cls ≠ "java/lang/invoke/MethodHandle" ∧ y.cls ≠ "java/lang/invoke/VarHandle") (hf : rm.frames + 1 ≤ R.frames) (hl : W + (maxL + 11) + rm.locals ≤ R.locals) (hc : cells + rm.cells ≤ R.cells) (hsl : slots + rm.slots ≤ R.slots)
    (k : ∀ T' v L, Stand p l e R s m args below meth c T' (locs ++ L) (cells + rm.cells) (slots + rm.slots) → Q' v T'.heap L → Go p e below s Q C S T' { g with pc := g.pc + 3, stack := v.toList ++ rest }) : Go p e below s Q C S T g := by
  obtain ⟨cB, kB, q1, q2, q3⟩ := isOf hZ eT E
  obtain ⟨v, _, ⟨T1, L1, k1, n1⟩, -, X1, ⟨Lc, hQ, l1, y1, z1⟩, st⟩ := X.virtualBack hx (y := y) (z := z) hown (mvT hZ w1) (mvT hZ w2) w2' (mvT hZ w3) (mvT hZ w3') hy (backOf (W := W) hM hZ w4 w5 hf hl) q1 q3 (g := g) hg (hsz.trans hml.symm) (Steps.refl _) (argsL := argsL) (rest := rest) hlen hs hW hd (fun _ _ => ⟨rfl, eT, hc, hsl⟩)
  dsimp only [Pt.U, Pt.locs, Pt.cells, Pt.slots] at X1 l1 y1 z1 st hQ
  subst l1 y1 z1
  exact go_tr st (k _ _ _ X1 hQ)
theorem go_callU (X : Stand p l e R s m args below meth c T locs cells slots) (hx : p.tables.exec = Jvm.exec) (hZ : Z.Warmed39 s.vm) (hml : c.maxLocals = maxL0) {own K owner : String} {index : Nat} {y z : MethodName} {bytes : ByteArray} {maxL : Nat} {ret : Option FieldType} (hown : s.vm.findClass own = some m.cls)
    (w1 : (Cond.methodLink own index y).before a0 Z = true) (w2 : (Cond.sameMethod y.cls owner y.name y.desc).before a0 Z = true) (w2' : (Cond.declares ⟨owner, y.name, y.desc⟩).before a0 Z = true) (ho : owner ≠ "java/lang/invoke/MethodHandle" ∧ owner ≠ "java/lang/invoke/VarHandle") (w3 : (Cond.selects K y z).before a0 Z = true) (w3' : (Cond.instanceMethod z).before a0 Z = true) (w4 : (Cond.code z bytes maxL ret).before a0 Z = true) (w5 : (Cond.initialized z.cls).before a0 Z = true) (eT : T.heap = h) {a : Addr} (E : Exa Z h a K) {argsL rest : List Value} {rm : Room} {Q' : Option Value → Heap → List Loc → Prop} {W : Nat}
    (hM : Met l z bytes maxL ret [] rm Z (.ref a :: argsL).toArray h Q' rm.cells rm.slots)
    (hd : decode c.code g.pc = .ok (.invokevirtual index, 3)) (hs : g.stack = argsL.reverse ++ .ref a :: rest) (hg : g.method = m) (hsz : g.locals.size = maxL0) (hlen : ∀ sig, parseMethodDescriptor y.desc = some sig → argsL.length = sig.parameters.length) (hW : 2 * g.monitorRoom + (rest.map fun v => v.category).sum ≤ W)
    (hf : rm.frames + 1 ≤ R.frames) (hl : W + (maxL + 11) + rm.locals ≤ R.locals) (hc : cells + rm.cells ≤ R.cells) (hsl : slots + rm.slots ≤ R.slots)
    (k : ∀ T' v L, Stand p l e R s m args below meth c T' (locs ++ L) (cells + rm.cells) (slots + rm.slots) → Q' v T'.heap L → Go p e below s Q C S T' { g with pc := g.pc + 3, stack := v.toList ++ rest }) : Go p e below s Q C S T g := by
  obtain ⟨cB, kB, q1, q2, q3⟩ := isOf hZ eT E
  obtain ⟨v, _, ⟨T1, L1, k1, n1⟩, -, X1, ⟨Lc, hQ, l1, y1, z1⟩, st⟩ := X.virtualBackUp hx (x := y) (y := z) hown (mvT hZ w1) (mvT hZ w2) (mvT hZ w2') ho (mvT hZ w3) (mvT hZ w3') (backOf (W := W) hM hZ w4 w5 hf hl) q1 q3 (g := g) hg (hsz.trans hml.symm) (Steps.refl _) (argsL := argsL) (rest := rest) hlen hs hW hd (fun _ _ => ⟨rfl, eT, hc, hsl⟩)
  dsimp only [Pt.U, Pt.locs, Pt.cells, Pt.slots] at X1 l1 y1 z1 st hQ
  subst l1 y1 z1
  exact go_tr st (k _ _ _ X1 hQ)
theorem go_callI (X : Stand p l e R s m args below meth c T locs cells slots) (hx : p.tables.exec = Jvm.exec) (hZ : Z.Warmed39 s.vm) (hml : c.maxLocals = maxL0) {own : String} {index : Nat} {y : MethodName} {bytes : ByteArray} {maxL : Nat} (hown : s.vm.findClass own = some m.cls) (hy1 : y.name = "<init>")
    (w1 : (Cond.methodLink own index y).before a0 Z = true) (w2 : (Cond.instanceMethod y).before a0 Z = true) (w4 : (Cond.code y bytes maxL none).before a0 Z = true) (w5 : (Cond.initialized y.cls).before a0 Z = true) (eT : T.heap = h) {a : Addr} {argsL rest : List Value} {rm : Room} {Q' : Option Value → Heap → List Loc → Prop} {W : Nat}
    (hM : Met l y bytes maxL none [] rm Z (.ref a :: argsL).toArray h Q' rm.cells rm.slots)
    (hd : decode c.code g.pc = .ok (.invokespecial index, 3)) (hs : g.stack = argsL.reverse ++ .ref a :: rest) (hg : g.method = m) (hsz : g.locals.size = maxL0) (hlen : ∀ sig, parseMethodDescriptor y.desc = some sig → argsL.length = sig.parameters.length) (hW : 2 * g.monitorRoom + (rest.map fun v => v.category).sum ≤ W)
    (hy : y.cls ≠ "java/lang/invoke/MethodHandle" ∧ y.cls ≠ "java/lang/invoke/VarHandle") (hf : rm.frames + 1 ≤ R.frames) (hl : W + (maxL + 11) + rm.locals ≤ R.locals) (hc : cells + rm.cells ≤ R.cells) (hsl : slots + rm.slots ≤ R.slots)
    (k : ∀ T' v L, Stand p l e R s m args below meth c T' (locs ++ L) (cells + rm.cells) (slots + rm.slots) → Q' v T'.heap L → Go p e below s Q C S T' { g with pc := g.pc + 3, stack := v.toList ++ rest }) : Go p e below s Q C S T g := by
  obtain ⟨v, _, ⟨T1, L1, k1, n1⟩, -, X1, ⟨Lc, hQ, l1, y1, z1⟩, st⟩ := X.specialBack hx (y := y) hy1 hown (mvT hZ w1) (mvT hZ w2) (mvT hZ w4) hy (backOf (W := W) hM hZ w4 w5 hf hl) (g := g) hg (hsz.trans hml.symm) (Steps.refl _) (a := a) (argsL := argsL) (rest := rest) hlen hs hW hd (fun _ _ => ⟨rfl, eT, hc, hsl⟩)
  dsimp only [Pt.U, Pt.locs, Pt.cells, Pt.slots] at X1 l1 y1 z1 st hQ
  subst l1 y1 z1
  exact go_tr st (k _ _ _ X1 hQ)
theorem go_getF (X : Stand p l e R s m args below meth c T locs cells slots) (hx : p.tables.exec = Jvm.exec) (hZ : Z.Warmed39 s.vm) {own R0 O n d host : String} {index : Nat} (hown : s.vm.findClass own = some m.cls) (w : (Cond.fieldLink own index R0 n d).before a0 Z = true ∨ (Cond.fieldLinkNest own index R0 n d host).before a0 Z = true) (via : Via Z R0 O n d)
    (eT : T.heap = h) {a : Addr} {v : Value} (F : Fld Z h a O n d v) {rest : List Value} (hd : decode c.code g.pc = .ok (.getfield index, 3)) (hg : g.method = m) (hs : g.stack = .ref a :: rest)
    (k : ∀ T', Stand p l e R s m args below meth c T' locs cells slots → T'.heap = h → Go p e below s Q C S T' { g with pc := g.pc + 3, stack := v :: rest }) : Go p e below s Q C S T g := by
  obtain ⟨T1, X1, e1, st⟩ := getF X hx hZ hown w via eT F hg hs hd
  exact go_st st (k _ X1 e1)
theorem go_getS (X : Stand p l e R s m args below meth c T locs cells slots) (hx : p.tables.exec = Jvm.exec) (hZ : Z.Warmed39 s.vm) {own R0 O n d host : String} {index : Nat} (hown : s.vm.findClass own = some m.cls) (w : (Cond.fieldLink own index R0 n d).before a0 Z = true ∨ (Cond.fieldLinkNest own index R0 n d host).before a0 Z = true) (via : Via Z R0 O n d)
    (eT : T.heap = h) {v : Value} (F : Sta Z h O n d v) (hd : decode c.code g.pc = .ok (.getstatic index, 3)) (hg : g.method = m)
    (k : ∀ T', Stand p l e R s m args below meth c T' locs cells slots → T'.heap = h → Go p e below s Q C S T' { g with pc := g.pc + 3, stack := v :: g.stack }) : Go p e below s Q C S T g := by
  obtain ⟨T1, X1, e1, st⟩ := getS2 X hx hZ hown w via eT F hg hd
  exact go_st st (k _ X1 e1)
theorem go_putF (X : Stand p l e R s m args below meth c T locs cells slots) (hx : p.tables.exec = Jvm.exec) (hZ : Z.Warmed39 s.vm) {own R0 O n d host K : String} {index kk : Nat} {ty : FieldType} (hown : s.vm.findClass own = some m.cls) (w : (Cond.fieldLink own index R0 n d).before a0 Z = true ∨ (Cond.fieldLinkNest own index R0 n d host).before a0 Z = true) (via : Via Z R0 O n d)
    (eT : T.heap = h) {a : Addr} {v old : Value} (F : Fld Z h a O n d old) (E : Exa Z h a K) (L : (Cond.lays K O n d).before a0 Z = true ∨ ((Cond.laysFinal K O n d).before a0 Z = true ∧ own = O ∧ meth.name = "<init>")) (wi : (Cond.instantiable K kk).before a0 Z = true)
    (hty : parseFieldDescriptor d = some ty) (hn : narrow ty v = v) (hf : fits ty v = true) {rest : List Value} (hd : decode c.code g.pc = .ok (.putfield index, 3)) (hg : g.method = m) (hs : g.stack = v :: .ref a :: rest)
    (k : ∀ T' h', Stand p l e R s m args below meth c T' (locs ++ [⟨a, Jvm.RoadKit.slotOf Z O n d⟩]) cells slots → T'.heap = h' → Wr h h' a (Jvm.RoadKit.slotOf Z O n d) v → Go p e below s Q C S T' { g with pc := g.pc + 3, stack := rest }) : Go p e below s Q C S T g := by
  obtain ⟨T1, h1, X1, e1, W1, st⟩ := putF X hx hZ hown w via eT F E L wi hty hn hf hg hs hd
  exact go_st st (k _ _ X1 e1 W1)
theorem go_newO (X : Stand p l e R s m args below meth c T locs cells slots) (hx : p.tables.exec = Jvm.exec) (hZ : Z.Warmed39 s.vm) {own K : String} {index n : Nat} (hown : s.vm.findClass own = some m.cls) (w : (Cond.classLink own index K).before a0 Z = true) (wi : (Cond.instantiable K n).before a0 Z = true) (wz : (Cond.initialized K).before a0 Z = true) (eT : T.heap = h)
    (hd : decode c.code g.pc = .ok (.new index, 3)) (hg : g.method = m) (hc : cells + 1 ≤ R.cells) (hl : slots + n ≤ R.slots)
    (k : ∀ T' h' a, a = h.size → Stand p l e R s m args below meth c T' locs (cells + 1) (slots + n) → T'.heap = h' → Ext h h' → Exa Z h' a K → (∀ {O nm d : String} {ty : FieldType}, Laid Z a0 K O nm d → parseFieldDescriptor d = some ty → Fld Z h' a O nm d (defaultValue ty)) → Go p e below s Q C S T' { g with pc := g.pc + 3, stack := .ref a :: g.stack }) : Go p e below s Q C S T g := by
  obtain ⟨T1, h1, X1, e1, E1, A1, D1, -, st⟩ := newO X hx hZ hown w wi wz eT hg hd hc hl
  exact go_st st (k _ _ _ rfl X1 e1 E1 A1 D1)
theorem go_initO (X : Stand p l e R s m args below meth c T locs cells slots) (hx : p.tables.exec = Jvm.exec) (hZ : Z.Warmed39 s.vm) (hml : c.maxLocals = maxL0) {own : String} {idx : Nat} (hown : s.vm.findClass own = some m.cls) (w1 : (Cond.methodLink own idx Lib.objectInit).before a0 Z = true) (w2 : (Cond.instanceMethod Lib.objectInit).before a0 Z = true)
    (w3 : (Cond.code Lib.objectInit ⟨#[0xb1]⟩ 1 none).before a0 Z = true) (eT : T.heap = h) {a : Addr} {rest : List Value} (hd : decode c.code g.pc = .ok (.invokespecial idx, 3)) (hg : g.method = m) (hsz : g.locals.size = maxL0) (hs : g.stack = .ref a :: rest)
    (hf : 1 ≤ R.frames) {W : Nat} (hW : 2 * g.monitorRoom + (rest.map fun v => v.category).sum ≤ W) (hl : W + 12 ≤ R.locals)
    (k : ∀ T', Stand p l e R s m args below meth c T' locs cells slots → T'.heap = h → Go p e below s Q C S T' { g with pc := g.pc + 3, stack := rest }) : Go p e below s Q C S T g := by
  obtain ⟨T1, X1, e1, st⟩ := initO X hx hZ hown w1 w2 w3 eT hg (hsz.trans hml.symm) hs hd hf hW hl
  exact go_st st (k _ X1 e1)
theorem own_lrem {tb : Tables} [Ours tb] {target : State} (hh : At T m c below) (hx : tb.exec = Jvm.exec) (hg : g.method = m) {x y : Int64} {rest : List Value} (hd : decode c.code g.pc = .ok (.lrem, 1)) (hs : g.stack = .long y :: .long x :: rest) (hy : y ≠ 0)
    (hr : Steps tb e below (T.setTop { g with pc := g.pc + 1, stack := .long (x % y) :: rest }) target) : Steps tb e below (T.setTop g) target :=
  XT.lrem hh hx hg hd hs hy (by rw [lrem_mod]; exact hr)
/-! arrays, their places by a function -/
def GA (Z : State) (h : Heap) (a : Addr) (ty : FieldType) (n : Nat) (f : Nat → Value) : Prop := ∃ cl : Cell, Arr Z h a cl ty ∧ cl.slots.size = n ∧ n < 2 ^ 31 ∧ ∀ i, i < n → cl.slots[i]? = some (f i)
theorem GA.lt {a : Addr} {ty : FieldType} {n : Nat} {f : Nat → Value} (A : GA Z h a ty n f) : a < h.size := by
  obtain ⟨cl, A1, -⟩ := A
  exact A1.lt
theorem GA.ext {a : Addr} {ty : FieldType} {n : Nat} {f : Nat → Value} {h' : Heap} (A : GA Z h a ty n f) (E : Ext h h') : GA Z h' a ty n f := by
  obtain ⟨cl, A1, r⟩ := A
  exact ⟨cl, A1.ext E, r⟩
theorem GA.other {a b : Addr} {ty : FieldType} {n sl : Nat} {v : Value} {f : Nat → Value} {h' : Heap} (A : GA Z h b ty n f) (W : Wr h h' a sl v) (q : b ≠ a) : GA Z h' b ty n f := by
  obtain ⟨cl, A1, r⟩ := A
  exact ⟨cl, A1.other W q, r⟩
theorem GA.keep {a : Addr} {ty : FieldType} {n : Nat} {f : Nat → Value} {h' : Heap} {ws : List Addr} (A : GA Z h a ty n f) (K : Keep h h' ws) (q : a ∉ ws) : GA Z h' a ty n f := by
  obtain ⟨cl, A1, r⟩ := A
  exact ⟨cl, ⟨K.2.1 _ _ A1.1 q, A1.2⟩, r⟩
theorem GA.congr {a : Addr} {ty : FieldType} {n : Nat} {f f' : Nat → Value} (A : GA Z h a ty n f) (q : ∀ i, i < n → f i = f' i) : GA Z h a ty n f' := by
  obtain ⟨cl, A1, A2, A3, A4⟩ := A
  exact ⟨cl, A1, A2, A3, fun i hi => (A4 i hi).trans (by rw [q i hi])⟩
theorem GA.set {a : Addr} {ty : FieldType} {n j : Nat} {v : Value} {f : Nat → Value} {h' : Heap} (A : GA Z h a ty n f) (W : Wr h h' a j v) : GA Z h' a ty n (fun i => if i = j then v else f i) := by
  obtain ⟨cl, A1, A2, A3, A4⟩ := A
  obtain ⟨c2, w1, w2, w3, w4⟩ := W
  obtain rfl : cl = c2 := Option.some.inj (A1.1.symm.trans w1)
  refine ⟨cl.setSlot j v, A1.same ⟨cl, w1, w2, w3, w4⟩, (sz_set cl j v).trans A2, A3, fun i hi => ?_⟩
  show (cl.slots.setIfInBounds j v)[i]? = _
  rw [Array.getElem?_setIfInBounds]
  by_cases q : i = j
  · subst q
    rw [if_pos rfl, if_pos w3]
    simp only [if_true]
  · rw [if_neg (fun h => q h.symm)]
    simp only [if_neg q]
    exact A4 i hi
theorem GA.len {a : Addr} {ty : FieldType} {n : Nat} {f : Nat → Value} (A : GA Z h a ty n f) : n < 2 ^ 31 := by
  obtain ⟨cl, -, -, A3, -⟩ := A
  exact A3
def OC (Z : State) (h : Heap) (a : Addr) (ty : FieldType) (K : String) : Prop := ∃ cl : Cell, Arr Z h a cl ty ∧ Ovr Z cl.cls K
theorem OC.ext {a : Addr} {ty : FieldType} {K : String} {h' : Heap} (A : OC Z h a ty K) (E : Ext h h') : OC Z h' a ty K := by
  obtain ⟨cl, A1, A2⟩ := A
  exact ⟨cl, A1.ext E, A2⟩
theorem OC.wr {a b : Addr} {ty : FieldType} {K : String} {sl : Nat} {v : Value} {h' : Heap} (A : OC Z h b ty K) (W : Wr h h' a sl v) : OC Z h' b ty K := by
  obtain ⟨cl, A1, A2⟩ := A
  by_cases q : b = a
  · subst q
    exact ⟨_, A1.same W, A2⟩
  · exact ⟨cl, A1.other W q, A2⟩
theorem OC.keep {b : Addr} {ty : FieldType} {K : String} {h' : Heap} {ws : List Addr} (A : OC Z h b ty K) (Kp : Keep h h' ws) : OC Z h' b ty K := by
  obtain ⟨cl, ⟨A1, A3, A4⟩, A2⟩ := A
  obtain ⟨c', q1, q2, q3, q4⟩ := Kp.2.2 _ _ A1
  refine ⟨c', ⟨q1, ?_, by rw [q3]; exact A4⟩, by rw [q2]; exact A2⟩
  unfold State.isArrayOf at A3 ⊢
  rw [q2, q3]
  exact A3
theorem OC.sto {a y : Addr} {ty : FieldType} {K : String} (A : OC Z h a ty K) (I : Ins Z h y K true) : Sto Z h a (.ref y) := by
  obtain ⟨cl, A1, A2⟩ := A
  exact Sto.of A1 A2 I
theorem own_in {j : Int32} {n : Nat} (q : 0 ≤ j.toInt ∧ j.toInt < n) : ¬ (j < 0 ∨ n ≤ j.toNatClampNeg) := by
  have h1 : (j.toNatClampNeg : Int) = j.toInt := by have := q.1; simp only [Int32.toNatClampNeg]; omega
  rw [Int32.lt_iff_toInt_lt]
  have : (0 : Int32).toInt = 0 := rfl
  omega
theorem go_alen (X : Stand p l e R s m args below meth c T locs cells slots) (hx : p.tables.exec = Jvm.exec) (hZ : Z.Warmed39 s.vm) (eT : T.heap = h) {a : Addr} {ty : FieldType} {n : Nat} {f : Nat → Value} (A : GA Z h a ty n f) {rest : List Value}
    (hd : decode c.code g.pc = .ok (.arraylength, 1)) (hg : g.method = m) (hs : g.stack = .ref a :: rest) (w : Int32) (hw : Nat.toInt32 n = w) (k : Go p e below s Q C S T { g with pc := g.pc + 1, stack := .int w :: rest }) : Go p e below s Q C S T g := by
  obtain ⟨cl, A1, rfl, -, -⟩ := A
  subst hw
  exact go_st (fun t => X.arraylength hx (by rw [eT]; exact A1.1) (State.isArrayOf_alike hZ.alike A1.2.1) hg hs hd t) k
theorem go_iald (X : Stand p l e R s m args below meth c T locs cells slots) (hx : p.tables.exec = Jvm.exec) (hZ : Z.Warmed39 s.vm) (eT : T.heap = h) {a : Addr} {n : Nat} {f : Nat → Value} (A : GA Z h a .int n f) {j : Int32} {rest : List Value}
    (hd : decode c.code g.pc = .ok (.iaload, 1)) (hg : g.method = m) (hs : g.stack = .int j :: .ref a :: rest) (q : 0 ≤ j.toInt ∧ j.toInt < n) (w : Value) (hw : f j.toNatClampNeg = w) (k : Go p e below s Q C S T { g with pc := g.pc + 1, stack := w :: rest }) : Go p e below s Q C S T g := by
  obtain ⟨cl, A1, rfl, -, A4⟩ := A
  have q2 := own_in q
  refine go_st (fun t => X.iaload hx (j := j) (v := w) (by rw [eT]; exact A1.1) (State.isArrayOf_alike hZ.alike A1.2.1) A1.2.2 q2 ?_ hg hs hd t) k
  rw [A4 _ (by omega), hw]
theorem go_lald (X : Stand p l e R s m args below meth c T locs cells slots) (hx : p.tables.exec = Jvm.exec) (hZ : Z.Warmed39 s.vm) (eT : T.heap = h) {a : Addr} {n : Nat} {f : Nat → Value} (A : GA Z h a .long n f) {j : Int32} {rest : List Value}
    (hd : decode c.code g.pc = .ok (.laload, 1)) (hg : g.method = m) (hs : g.stack = .int j :: .ref a :: rest) (q : 0 ≤ j.toInt ∧ j.toInt < n) (w : Value) (hw : f j.toNatClampNeg = w) (k : Go p e below s Q C S T { g with pc := g.pc + 1, stack := w :: rest }) : Go p e below s Q C S T g := by
  obtain ⟨cl, A1, rfl, -, A4⟩ := A
  have q2 := own_in q
  refine go_st (fun t => X.laload hx (j := j) (v := w) (by rw [eT]; exact A1.1) (State.isArrayOf_alike hZ.alike A1.2.1) A1.2.2 q2 ?_ hg hs hd t) k
  rw [A4 _ (by omega), hw]
theorem go_bald (X : Stand p l e R s m args below meth c T locs cells slots) (hx : p.tables.exec = Jvm.exec) (hZ : Z.Warmed39 s.vm) (eT : T.heap = h) {a : Addr} {n : Nat} {f : Nat → Value} (A : GA Z h a .byte n f) {j : Int32} {rest : List Value}
    (hd : decode c.code g.pc = .ok (.baload, 1)) (hg : g.method = m) (hs : g.stack = .int j :: .ref a :: rest) (q : 0 ≤ j.toInt ∧ j.toInt < n) (w : Value) (hw : f j.toNatClampNeg = w) (k : Go p e below s Q C S T { g with pc := g.pc + 1, stack := w :: rest }) : Go p e below s Q C S T g := by
  obtain ⟨cl, A1, rfl, -, A4⟩ := A
  have q2 := own_in q
  refine go_st (fun t => X.baloadBytes hx (j := j) (v := w) (by rw [eT]; exact A1.1) (State.isArrayOf_alike hZ.alike A1.2.1) A1.2.2 q2 ?_ hg hs hd t) k
  rw [A4 _ (by omega), hw]
theorem go_cald (X : Stand p l e R s m args below meth c T locs cells slots) (hx : p.tables.exec = Jvm.exec) (hZ : Z.Warmed39 s.vm) (eT : T.heap = h) {a : Addr} {n : Nat} {f : Nat → Value} (A : GA Z h a .char n f) {j : Int32} {rest : List Value}
    (hd : decode c.code g.pc = .ok (.caload, 1)) (hg : g.method = m) (hs : g.stack = .int j :: .ref a :: rest) (q : 0 ≤ j.toInt ∧ j.toInt < n) (w : Value) (hw : f j.toNatClampNeg = w) (k : Go p e below s Q C S T { g with pc := g.pc + 1, stack := w :: rest }) : Go p e below s Q C S T g := by
  obtain ⟨cl, A1, rfl, -, A4⟩ := A
  have q2 := own_in q
  refine go_st (fun t => X.caload hx (j := j) (v := w) (by rw [eT]; exact A1.1) (State.isArrayOf_alike hZ.alike A1.2.1) A1.2.2 q2 ?_ hg hs hd t) k
  rw [A4 _ (by omega), hw]
theorem go_aald (X : Stand p l e R s m args below meth c T locs cells slots) (hx : p.tables.exec = Jvm.exec) (hZ : Z.Warmed39 s.vm) (eT : T.heap = h) {a : Addr} {ty : FieldType} {n : Nat} {f : Nat → Value} (A : GA Z h a ty n f) (hty : ty.isReference = true) {j : Int32} {rest : List Value}
    (hd : decode c.code g.pc = .ok (.aaload, 1)) (hg : g.method = m) (hs : g.stack = .int j :: .ref a :: rest) (q : 0 ≤ j.toInt ∧ j.toInt < n) (w : Value) (hw : f j.toNatClampNeg = w) (k : Go p e below s Q C S T { g with pc := g.pc + 1, stack := w :: rest }) : Go p e below s Q C S T g := by
  obtain ⟨cl, A1, rfl, -, A4⟩ := A
  have q2 := own_in q
  refine go_st (fun t => X.aaload hx (j := j) (v := w) (by rw [eT]; exact A1.1) (State.isArrayOf_alike hZ.alike A1.2.1) hty A1.2.2 q2 ?_ hg hs hd t) k
  rw [A4 _ (by omega), hw]
theorem go_iast (X : Stand p l e R s m args below meth c T locs cells slots) (hx : p.tables.exec = Jvm.exec) (hZ : Z.Warmed39 s.vm) (eT : T.heap = h) {a : Addr} {n : Nat} {f : Nat → Value} (A : GA Z h a .int n f) {j x : Int32} {rest : List Value}
    (hd : decode c.code g.pc = .ok (.iastore, 1)) (hg : g.method = m) (hs : g.stack = .int x :: .int j :: .ref a :: rest) (q : 0 ≤ j.toInt ∧ j.toInt < n)
    (k : ∀ T' h', Stand p l e R s m args below meth c T' (locs ++ [⟨a, j.toNatClampNeg⟩]) cells slots → T'.heap = h' → Wr h h' a j.toNatClampNeg (.int x) → GA Z h' a .int n (fun i => if i = j.toNatClampNeg then .int x else f i) → Go p e below s Q C S T' { g with pc := g.pc + 1, stack := rest }) : Go p e below s Q C S T g := by
  have A' := A
  obtain ⟨cl, A1, rfl, -, A4⟩ := A
  obtain ⟨T1, h1, X1, e1, W1, st⟩ := stI X hx hZ eT A1 (own_in q) hg hs hd
  exact go_st st (k _ _ X1 e1 W1 (A'.set W1))
theorem go_last (X : Stand p l e R s m args below meth c T locs cells slots) (hx : p.tables.exec = Jvm.exec) (hZ : Z.Warmed39 s.vm) (eT : T.heap = h) {a : Addr} {n : Nat} {f : Nat → Value} (A : GA Z h a .long n f) {j : Int32} {x : Int64} {rest : List Value}
    (hd : decode c.code g.pc = .ok (.lastore, 1)) (hg : g.method = m) (hs : g.stack = .long x :: .int j :: .ref a :: rest) (q : 0 ≤ j.toInt ∧ j.toInt < n)
    (k : ∀ T' h', Stand p l e R s m args below meth c T' (locs ++ [⟨a, j.toNatClampNeg⟩]) cells slots → T'.heap = h' → Wr h h' a j.toNatClampNeg (.long x) → GA Z h' a .long n (fun i => if i = j.toNatClampNeg then .long x else f i) → Go p e below s Q C S T' { g with pc := g.pc + 1, stack := rest }) : Go p e below s Q C S T g := by
  have A' := A
  obtain ⟨cl, A1, rfl, -, A4⟩ := A
  obtain ⟨T1, h1, X1, e1, W1, st⟩ := stJ X hx hZ eT A1 (own_in q) hg hs hd
  exact go_st st (k _ _ X1 e1 W1 (A'.set W1))
theorem go_bast (X : Stand p l e R s m args below meth c T locs cells slots) (hx : p.tables.exec = Jvm.exec) (hZ : Z.Warmed39 s.vm) (eT : T.heap = h) {a : Addr} {n : Nat} {f : Nat → Value} (A : GA Z h a .byte n f) {j x : Int32} {rest : List Value}
    (hd : decode c.code g.pc = .ok (.bastore, 1)) (hg : g.method = m) (hs : g.stack = .int x :: .int j :: .ref a :: rest) (q : 0 ≤ j.toInt ∧ j.toInt < n)
    (k : ∀ T' h', Stand p l e R s m args below meth c T' (locs ++ [⟨a, j.toNatClampNeg⟩]) cells slots → T'.heap = h' → Wr h h' a j.toNatClampNeg (.int x.toInt8.toInt32) → GA Z h' a .byte n (fun i => if i = j.toNatClampNeg then .int x.toInt8.toInt32 else f i) → Go p e below s Q C S T' { g with pc := g.pc + 1, stack := rest }) : Go p e below s Q C S T g := by
  have A' := A
  obtain ⟨cl, A1, rfl, -, A4⟩ := A
  obtain ⟨T1, h1, X1, e1, W1, st⟩ := stB X hx hZ eT A1 (own_in q) hg hs hd
  exact go_st st (k _ _ X1 e1 W1 (A'.set W1))
theorem go_cast (X : Stand p l e R s m args below meth c T locs cells slots) (hx : p.tables.exec = Jvm.exec) (hZ : Z.Warmed39 s.vm) (eT : T.heap = h) {a : Addr} {n : Nat} {f : Nat → Value} (A : GA Z h a .char n f) {j x : Int32} {rest : List Value}
    (hd : decode c.code g.pc = .ok (.castore, 1)) (hg : g.method = m) (hs : g.stack = .int x :: .int j :: .ref a :: rest) (q : 0 ≤ j.toInt ∧ j.toInt < n)
    (k : ∀ T' h', Stand p l e R s m args below meth c T' (locs ++ [⟨a, j.toNatClampNeg⟩]) cells slots → T'.heap = h' → Wr h h' a j.toNatClampNeg (.int (nar .char x)) → GA Z h' a .char n (fun i => if i = j.toNatClampNeg then .int (nar .char x) else f i) → Go p e below s Q C S T' { g with pc := g.pc + 1, stack := rest }) : Go p e below s Q C S T g := by
  have A' := A
  obtain ⟨cl, A1, rfl, -, A4⟩ := A
  obtain ⟨T1, h1, X1, e1, W1, st⟩ := stC X hx hZ eT A1 (own_in q) hg hs hd
  exact go_st st (k _ _ X1 e1 W1 (A'.set W1))
theorem go_aast (X : Stand p l e R s m args below meth c T locs cells slots) (hx : p.tables.exec = Jvm.exec) (hZ : Z.Warmed39 s.vm) (eT : T.heap = h) {a : Addr} {ty : FieldType} {n : Nat} {f : Nat → Value} (A : GA Z h a ty n f) (hty : ty.isReference = true) {j : Int32} {v : Value} (F : Sto Z h a v) {rest : List Value}
    (hd : decode c.code g.pc = .ok (.aastore, 1)) (hg : g.method = m) (hs : g.stack = v :: .int j :: .ref a :: rest) (q : 0 ≤ j.toInt ∧ j.toInt < n)
    (k : ∀ T' h', Stand p l e R s m args below meth c T' (locs ++ [⟨a, j.toNatClampNeg⟩]) cells slots → T'.heap = h' → Wr h h' a j.toNatClampNeg v → GA Z h' a ty n (fun i => if i = j.toNatClampNeg then v else f i) → Go p e below s Q C S T' { g with pc := g.pc + 1, stack := rest }) : Go p e below s Q C S T g := by
  have A' := A
  obtain ⟨cl, A1, rfl, -, A4⟩ := A
  obtain ⟨T1, h1, X1, e1, W1, st⟩ := stR X hx hZ eT A1 (own_in q) hty F hg hs hd
  exact go_st st (k _ _ X1 e1 W1 (A'.set W1))
theorem own_clamp {n : Int32} {N : Nat} (q : n.toInt = N) : n.toNatClampNeg = N := by simp only [Int32.toNatClampNeg]; omega
theorem own_nneg {n : Int32} {N : Nat} (q : n.toInt = N) : ¬ n < 0 := by
  rw [Int32.lt_iff_toInt_lt]
  have : (0 : Int32).toInt = 0 := rfl
  omega
theorem go_newP (X : Stand p l e R s m args below meth c T locs cells slots) (hx : p.tables.exec = Jvm.exec) (hZ : Z.Warmed39 s.vm) {aty : ArrayType} (w : (Cond.arrayClass (newarray.typeOf aty)).before a0 Z = true) (eT : T.heap = h) {n : Int32} {rest : List Value} (hd : decode c.code g.pc = .ok (.newarray aty, 2)) (hg : g.method = m) (hs : g.stack = .int n :: rest)
    (N : Nat) (hn : n.toInt = N) (cap : Nat) (hcap : N ≤ cap) (hb : cap * 8 ≤ 536870912) (hc : cells + 1 ≤ R.cells) (hl : slots + cap ≤ R.slots)
    (k : ∀ T' h' a, a = h.size → Stand p l e R s m args below meth c T' locs (cells + 1) (slots + cap) → T'.heap = h' → Ext h h' → GA Z h' a (newarray.typeOf aty) N (fun _ => defaultValue (newarray.typeOf aty)) → Go p e below s Q C S T' { g with pc := g.pc + 2, stack := .ref a :: rest }) : Go p e below s Q C S T g := by
  have hN := own_clamp hn
  have hn0 := own_nneg hn
  obtain ⟨T1, h1, cA, X1, e1, E1, A1, st⟩ := newP X hx hZ w eT hg hd hs hn0 (cap := cap) (by omega) hb hc hl
  refine go_st st (k _ _ _ rfl X1 e1 E1 ⟨_, A1, (sz_new _ _ _).trans hN, ?_, fun i hi => ?_⟩)
  · have := (rng32 n).2
    omega
  · show (Array.replicate n.toNatClampNeg (defaultValue _))[i]? = _
    rw [hN, Array.getElem?_replicate, if_pos hi]
theorem go_newR (X : Stand p l e R s m args below meth c T locs cells slots) (hx : p.tables.exec = Jvm.exec) (hZ : Z.Warmed39 s.vm) {own K : String} {index : Nat} (hown : s.vm.findClass own = some m.cls) (w1 : (Cond.classLink own index K).before a0 Z = true) (w2 : (Cond.arrayOver (.object K)).before a0 Z = true) (eT : T.heap = h) {n : Int32} {rest : List Value} (hd : decode c.code g.pc = .ok (.anewarray index, 3)) (hg : g.method = m) (hs : g.stack = .int n :: rest)
    (N : Nat) (hn : n.toInt = N) (cap : Nat) (hcap : N ≤ cap) (hb : cap * 8 ≤ 536870912) (hc : cells + 1 ≤ R.cells) (hl : slots + cap ≤ R.slots)
    (k : ∀ T' h' a, a = h.size → Stand p l e R s m args below meth c T' locs (cells + 1) (slots + cap) → T'.heap = h' → Ext h h' → GA Z h' a (.object K) N (fun _ => .null) → OC Z h' a (.object K) K → Go p e below s Q C S T' { g with pc := g.pc + 3, stack := .ref a :: rest }) : Go p e below s Q C S T g := by
  have hN := own_clamp hn
  have hn0 := own_nneg hn
  obtain ⟨T1, h1, cA, X1, e1, E1, A1, O1, st⟩ := newR X hx hZ hown w1 w2 eT hg hd hs hn0 (cap := cap) (by omega) hb hc hl
  refine go_st st (k _ _ _ rfl X1 e1 E1 ⟨_, A1, (sz_new _ _ _).trans hN, ?_, fun i hi => ?_⟩ ⟨_, A1, O1⟩)
  · have := (rng32 n).2
    omega
  · show (Array.replicate n.toNatClampNeg (defaultValue _))[i]? = _
    rw [hN, Array.getElem?_replicate, if_pos hi]
    rfl
end OwnGo
def gt (c i : Nat) : Nat := c / 4 ^ i % 4
def sv (c i v : Nat) : Nat := c - gt c i * 4 ^ i + v * 4 ^ i
def rt (c i : Nat) : Nat := gt c (gt c (gt c i))
def okc (c : Nat) : Bool := (List.range 4).all fun i => gt c (rt c i) == rt c i
def ds (c i : Nat) : Nat := if gt c i == i then 0 else if gt c (gt c i) == gt c i then 1 else if gt c (gt c (gt c i)) == gt c (gt c i) then 2 else 3
theorem gt_lt (c i : Nat) : gt c i < 4 := Nat.mod_lt _ (by decide)
theorem rt_lt (c i : Nat) : rt c i < 4 := gt_lt _ _
theorem own_all {N : Nat} {P : Nat → Bool} (h : (List.range N).all P = true) {c : Nat} (hc : c < N) : P c = true := List.all_eq_true.mp h c (List.mem_range.mpr hc)
set_option maxRecDepth 65536 in
theorem b_set : ((List.range 256).all fun c => (List.range 4).all fun n => (List.range 4).all fun v => decide (sv c n v < 256) && (List.range 4).all fun i => gt (sv c n v) i == (if i == n then v else gt c i)) = true := by decide +kernel
set_option maxRecDepth 65536 in
theorem b_half : ((List.range 256).all fun c => !okc c || (List.range 4).all fun n => (gt c n == n) || (okc (sv c n (gt c (gt c n))) && decide (ds (sv c n (gt c (gt c n))) (gt c (gt c n)) < ds c n) && (List.range 4).all fun i => rt (sv c n (gt c (gt c n))) i == rt c i)) = true := by decide +kernel
set_option maxRecDepth 65536 in
theorem b_un : ((List.range 256).all fun c => !okc c || (List.range 4).all fun s => (List.range 4).all fun r => !(gt c s == s) || !(gt c r == r) || (s == r) || (okc (sv c s r) && (List.range 4).all fun i => rt (sv c s r) i == (if rt c i == s then r else rt c i))) = true := by decide +kernel
theorem sv_lt {c n v : Nat} (hc : c < 256) (hn : n < 4) (hv : v < 4) : sv c n v < 256 := by
  have h := own_all (own_all (own_all b_set hc) hn) hv
  rw [Bool.and_eq_true] at h
  exact of_decide_eq_true h.1
theorem sv_gt {c n v i : Nat} (hc : c < 256) (hn : n < 4) (hv : v < 4) (hi : i < 4) : gt (sv c n v) i = if i = n then v else gt c i := by
  have h := own_all (own_all (own_all b_set hc) hn) hv
  rw [Bool.and_eq_true] at h
  have h2 := eq_of_beq (own_all h.2 hi)
  rw [h2]
  by_cases q : i = n <;> simp [q]
theorem half_ok {c n : Nat} (hc : c < 256) (ho : okc c = true) (hn : n < 4) (hg : gt c n ≠ n) : okc (sv c n (gt c (gt c n))) = true ∧ ds (sv c n (gt c (gt c n))) (gt c (gt c n)) < ds c n ∧ ∀ i, i < 4 → rt (sv c n (gt c (gt c n))) i = rt c i := by
  have h := own_all b_half hc
  simp only [ho, Bool.not_true, Bool.false_or] at h
  have h2 := own_all h hn
  have h3 : (gt c n == n) = false := by simpa using hg
  simp only [h3, Bool.false_or, Bool.and_eq_true, decide_eq_true_eq] at h2
  exact ⟨h2.1.1, h2.1.2, fun i hi => eq_of_beq (own_all h2.2 hi)⟩
theorem un_ok {c s r : Nat} (hc : c < 256) (ho : okc c = true) (hs : s < 4) (hr : r < 4) (h1 : gt c s = s) (h2 : gt c r = r) (hne : s ≠ r) : okc (sv c s r) = true ∧ ∀ i, i < 4 → rt (sv c s r) i = if rt c i = s then r else rt c i := by
  have h := own_all b_un hc
  simp only [ho, Bool.not_true, Bool.false_or] at h
  have h3 := own_all (own_all h hs) hr
  have e3 : (s == r) = false := by simpa using hne
  simp only [h1, h2, e3, beq_self_eq_true, Bool.not_true, Bool.false_or, Bool.and_eq_true] at h3
  refine ⟨h3.1, fun i hi => ?_⟩
  rw [eq_of_beq (own_all h3.2 hi)]
  by_cases q : rt c i = s <;> simp [q]
theorem rt_root {c n : Nat} (ho : okc c = true) (hn : n < 4) : gt c (rt c n) = rt c n := eq_of_beq (own_all ho hn)
theorem rt_self {c n : Nat} (h : gt c n = n) : rt c n = n := by
  unfold rt
  rw [h, h, h]
theorem rt_idem {c n : Nat} (ho : okc c = true) (hn : n < 4) : rt c (rt c n) = rt c n := rt_self (rt_root ho hn)
theorem own_n4 {n : Nat} (h : n < 4) : (Int32.ofNat n).toInt = n := by
  have : n = 0 ∨ n = 1 ∨ n = 2 ∨ n = 3 := by omega
  rcases this with rfl | rfl | rfl | rfl <;> decide
theorem own_i4 {n : Nat} (h : n < 4) : 0 ≤ (Int32.ofNat n).toInt ∧ (Int32.ofNat n).toInt < (4 : Nat) := by
  rw [own_n4 h]
  omega
theorem own_c4 {n : Nat} (h : n < 4) : (Int32.ofNat n).toNatClampNeg = n := own_clamp (own_n4 h)
theorem own_eq4 {a b : Nat} (ha : a < 4) (hb : b < 4) : Int32.ofNat a = Int32.ofNat b ↔ a = b := by
  rw [← Int32.toInt_inj, own_n4 ha, own_n4 hb]
  omega
theorem own_st {Z : State} {h : Heap} {pa : Addr} {c n v k : Nat} (hc : c < 256) (hn : n < 4) (hv : v < 4) (hk : k = n) (G : GA Z h pa .int 4 (fun i => if i = k then .int (Int32.ofNat v) else .int (Int32.ofNat (gt c i)))) : GA Z h pa .int 4 (fun i => .int (Int32.ofNat (gt (sv c n v) i))) := by
  subst hk
  refine G.congr fun i hi => ?_
  rw [sv_gt hc hn hv hi]
  by_cases q : i = k <;> simp [q]
theorem own_sg {k n : Nat} {v : Int32} {g : Nat → Int32} {N : Nat} (hk : k = n) : ∀ i, i < N → (if i = k then Value.int v else .int (g i)) = .int ((fun i => if i = n then v else g i) i) := by
  intro i _
  subst hk
  by_cases q : i = k <;> simp [q]
theorem own_and3 (x : Int32) : ∃ n : Nat, n < 4 ∧ x &&& 3 = Int32.ofNat n := by
  have h := c_mask x 3 2 (by decide) (by decide)
  refine ⟨(x &&& 3).toInt.toNat, by omega, ?_⟩
  rw [← Int32.toInt_inj, own_n4 (by omega)]
  omega
theorem own_zero : ∀ i, i < 4 → (Value.int 0) = .int (Int32.ofNat (gt 0 i)) := by
  intro i _
  have : gt 0 i = 0 := by unfold gt; simp
  rw [this]
  rfl
theorem ds_le (q n : Nat) : ds q n ≤ 3 := by
  unfold ds
  repeat' split
  all_goals omega
set_option maxRecDepth 65536 in
theorem b_rt2 : ((List.range 256).all fun c => !okc c || (List.range 4).all fun n => rt c (gt c (gt c n)) == rt c n) = true := by decide +kernel
theorem own_rt2 {c n : Nat} (hc : c < 256) (ho : okc c = true) (hn : n < 4) : rt c (gt c (gt c n)) = rt c n := by
  have h := own_all b_rt2 hc
  simp only [ho, Bool.not_true, Bool.false_or] at h
  exact eq_of_beq (own_all h hn)
def Un (q n k q' r : Nat) : Prop := q' < 256 ∧ okc q' = true ∧ (r = rt q n ∨ r = rt q k) ∧ ∀ i, i < 4 → rt q' i = if rt q i = rt q n ∨ rt q i = rt q k then r else rt q i
theorem Un.lt {q n k q' r : Nat} (h : Un q n k q' r) : r < 4 := by
  rcases h.2.2.1 with e | e <;> rw [e] <;> exact rt_lt _ _
theorem Un.res {q n k q' r : Nat} (h : Un q n k q' r) (hn : n < 4) : rt q' n = r := by
  rw [h.2.2.2 n hn, if_pos (Or.inl rfl)]
theorem own_eqr {a b c d : Nat} (h : Int32.ofNat (rt a b) = Int32.ofNat (rt c d)) : rt a b = rt c d := (own_eq4 (rt_lt _ _) (rt_lt _ _)).mp h
theorem own_ner {a b c d : Nat} (h : ¬ Int32.ofNat (rt a b) = Int32.ofNat (rt c d)) : rt a b ≠ rt c d := fun q => h (congrArg Int32.ofNat q)
theorem own_un_eq {q q1 q2 n k : Nat} (hn : n < 4) (hk : k < 4) (ho : okc q2 = true) (h2 : q2 < 256) (s1 : ∀ i, i < 4 → rt q1 i = rt q i) (s2 : ∀ i, i < 4 → rt q2 i = rt q1 i) (e : rt q n = rt q1 k) : Un q n k q2 (rt q n) := by
  rw [s1 k hk] at e
  refine ⟨h2, ho, Or.inl rfl, fun i hi => ?_⟩
  rw [s2 i hi, s1 i hi, ← e]
  by_cases z : rt q i = rt q n
  · rw [if_pos (Or.inl z), z]
  · rw [if_neg (by simp [z])]
theorem own_un_a {q q1 q2 n k : Nat} (hn : n < 4) (hk : k < 4) (ho0 : okc q = true) (ho : okc q2 = true) (h2 : q2 < 256) (s1 : ∀ i, i < 4 → rt q1 i = rt q i) (s2 : ∀ i, i < 4 → rt q2 i = rt q1 i) (ne : rt q n ≠ rt q1 k) : Un q n k (sv q2 (rt q1 k) (rt q n)) (rt q n) := by
  have e1 : rt q1 k = rt q2 k := (s2 k hk).symm
  have e2 : rt q n = rt q2 n := by rw [s2 n hn, s1 n hn]
  have u := un_ok h2 ho (rt_lt q1 k) (rt_lt q n) (by rw [e1]; exact rt_root ho hk) (by rw [e2]; exact rt_root ho hn) ne.symm
  refine ⟨sv_lt h2 (rt_lt _ _) (rt_lt _ _), u.1, Or.inl rfl, fun i hi => ?_⟩
  rw [u.2 i hi, s2 i hi, s1 i hi, s1 k hk]
  by_cases z : rt q i = rt q k
  · rw [if_pos z, if_pos (Or.inr z)]
  · rw [if_neg z]
    by_cases z2 : rt q i = rt q n
    · rw [if_pos (Or.inl z2), z2]
    · rw [if_neg (by simp [z, z2])]
theorem own_un_b {q q1 q2 n k : Nat} (hn : n < 4) (hk : k < 4) (ho0 : okc q = true) (ho : okc q2 = true) (h2 : q2 < 256) (s1 : ∀ i, i < 4 → rt q1 i = rt q i) (s2 : ∀ i, i < 4 → rt q2 i = rt q1 i) (ne : rt q n ≠ rt q1 k) : Un q n k (sv q2 (rt q n) (rt q1 k)) (rt q1 k) := by
  have e1 : rt q1 k = rt q2 k := (s2 k hk).symm
  have e2 : rt q n = rt q2 n := by rw [s2 n hn, s1 n hn]
  have u := un_ok h2 ho (rt_lt q n) (rt_lt q1 k) (by rw [e2]; exact rt_root ho hn) (by rw [e1]; exact rt_root ho hk) ne
  refine ⟨sv_lt h2 (rt_lt _ _) (rt_lt _ _), u.1, Or.inr (s1 k hk), fun i hi => ?_⟩
  rw [u.2 i hi, s2 i hi, s1 i hi, s1 k hk]
  by_cases z : rt q i = rt q n
  · rw [if_pos z, if_pos (Or.inl z)]
  · rw [if_neg z]
    by_cases z2 : rt q i = rt q k
    · rw [if_pos (Or.inr z2), z2]
    · rw [if_neg (by simp [z, z2])]
def MG (d n k j d' : Nat) : Prop := ∀ i, i < 4 → gt d' i = if i < j then (if gt d i = gt d k then gt d n else gt d i) else gt d i
theorem own_mg0 (d n k : Nat) : MG d n k 0 d := fun i _ => by rw [if_neg (Nat.not_lt_zero _)]
theorem own_mgs {d n k j d' : Nat} (hd : d' < 256) (hj : j < 4) (H : MG d n k j d') (e : gt d' j = gt d k) : MG d n k (j + 1) (sv d' j (gt d n)) := by
  intro i hi
  rw [sv_gt hd hj (gt_lt _ _) hi]
  have h1 := H i hi
  have h2 := H j hj
  rw [if_neg (Nat.lt_irrefl _)] at h2
  by_cases z : i = j
  · subst z
    rw [if_pos rfl, if_pos (Nat.lt_succ_self _), if_pos (by rw [← h2]; exact e)]
  · rw [if_neg z, h1]
    by_cases y : i < j
    · have y2 : i < j + 1 := by omega
      simp only [if_pos y, if_pos y2]
    · have y2 : ¬ i < j + 1 := by omega
      simp only [if_neg y, if_neg y2]
theorem own_mgn {d n k j d' : Nat} (H : MG d n k j d') (hj : j < 4) (e : ¬ gt d' j = gt d k) : MG d n k (j + 1) d' := by
  intro i hi
  have h1 := H i hi
  have h2 := H j hj
  rw [if_neg (Nat.lt_irrefl _)] at h2
  rw [h1]
  by_cases z : i = j
  · subst z
    rw [if_neg (Nat.lt_irrefl _), if_pos (Nat.lt_succ_self _), if_neg (by rw [← h2]; exact e)]
  · by_cases y : i < j
    · have y2 : i < j + 1 := by omega
      simp only [if_pos y, if_pos y2]
    · have y2 : ¬ i < j + 1 := by omega
      simp only [if_neg y, if_neg y2]
theorem own_mg4 {d n k d' : Nat} (H : MG d n k 4 d') : ∀ i, i < 4 → gt d' i = if gt d i = gt d k then gt d n else gt d i := by
  intro i hi
  rw [H i hi, if_pos hi]
def Inv (q d : Nat) : Prop := ∀ i j, i < 4 → j < 4 → (gt d i = gt d j ↔ rt q i = rt q j)
theorem own_inv0 {q d : Nat} (h : ∀ i, i < 4 → rt q i = i) (e : ∀ i, i < 4 → gt d i = i) : Inv q d := by
  unfold Inv
  intro i j hi hj
  rw [h i hi, h j hj, e i hi, e j hj]
theorem own_iff (di dj dn dk ri rj rn rk r : Nat) (a1 : di = dj ↔ ri = rj) (a2 : di = dn ↔ ri = rn) (a3 : di = dk ↔ ri = rk) (a4 : dj = dn ↔ rj = rn) (a5 : dj = dk ↔ rj = rk) (a6 : dn = dk ↔ rn = rk) (a7 : r = rn ∨ r = rk) :
    ((if di = dk then dn else di) = (if dj = dk then dn else dj) ↔ (if ri = rn ∨ ri = rk then r else ri) = (if rj = rn ∨ rj = rk then r else rj)) := by
  by_cases c1 : di = dk
  · have q1 : ri = rk := a3.mp c1
    by_cases c2 : dj = dk
    · have q2 : rj = rk := a5.mp c2
      rw [if_pos c1, if_pos c2, if_pos (Or.inr q1), if_pos (Or.inr q2)]
      simp
    · have q2 : ¬ rj = rk := fun z => c2 (a5.mpr z)
      rw [if_pos c1, if_neg c2, if_pos (Or.inr q1)]
      by_cases c3 : dj = dn
      · rw [if_pos (Or.inl (a4.mp c3))]
        simp [c3]
      · have q3 : ¬ rj = rn := fun z => c3 (a4.mpr z)
        rw [if_neg (by simp [q2, q3])]
        constructor
        · intro z; exact absurd z.symm c3
        · intro z; rcases a7 with e | e
          · exact absurd (z.symm.trans e) q3
          · exact absurd (z.symm.trans e) q2
  · have q1 : ¬ ri = rk := fun z => c1 (a3.mpr z)
    rw [if_neg c1]
    by_cases c3 : di = dn
    · have q3 : ri = rn := a2.mp c3
      rw [if_pos (Or.inl q3)]
      by_cases c2 : dj = dk
      · rw [if_pos c2, if_pos (Or.inr (a5.mp c2))]
        simp [c3]
      · rw [if_neg c2]
        by_cases c4 : dj = dn
        · rw [if_pos (Or.inl (a4.mp c4))]
          simp [c3, c4]
        · have q4 : ¬ rj = rn := fun z => c4 (a4.mpr z)
          have q2 : ¬ rj = rk := fun z => c2 (a5.mpr z)
          rw [if_neg (by simp [q2, q4])]
          constructor
          · intro z; exact absurd (z.symm.trans c3) c4
          · intro z; rcases a7 with e | e
            · exact absurd (z.symm.trans e) q4
            · exact absurd (z.symm.trans e) q2
    · have q3 : ¬ ri = rn := fun z => c3 (a2.mpr z)
      rw [if_neg (show ¬ (ri = rn ∨ ri = rk) by simp [q1, q3])]
      by_cases c2 : dj = dk
      · rw [if_pos c2, if_pos (Or.inr (a5.mp c2))]
        constructor
        · intro z; exact absurd z c3
        · intro z; rcases a7 with e | e
          · exact absurd (z.trans e) q3
          · exact absurd (z.trans e) q1
      · rw [if_neg c2]
        by_cases c4 : dj = dn
        · rw [if_pos (Or.inl (a4.mp c4))]
          constructor
          · intro z; exact absurd (z.trans c4) c3
          · intro z; rcases a7 with e | e
            · exact absurd (z.trans e) q3
            · exact absurd (z.trans e) q1
        · have q4 : ¬ rj = rn := fun z => c4 (a4.mpr z)
          have q2 : ¬ rj = rk := fun z => c2 (a5.mpr z)
          rw [if_neg (by simp [q2, q4])]
          exact a1
theorem own_inv {q d n k q' r d' : Nat} (hn : n < 4) (hk : k < 4) (I : Inv q d) (U : Un q n k q' r) (M : ∀ i, i < 4 → gt d' i = if gt d i = gt d k then gt d n else gt d i) : Inv q' d' := by
  unfold Inv
  intro i j hi hj
  rw [M i hi, M j hj, U.2.2.2 i hi, U.2.2.2 j hj]
  exact own_iff _ _ _ _ _ _ _ _ _ (I i j hi hj) (I i n hi hn) (I i k hi hk) (I j n hj hn) (I j k hj hk) (I n k hn hk) U.2.2.1
theorem own_nlt0 {n : Nat} (h : n < 4) : ¬ Int32.ofNat n < 0 := by
  rw [Int32.lt_iff_toInt_lt, own_n4 h]
  show ¬ ((n : Int) < 0)
  omega
theorem own_nlt3 {n : Nat} (h : n < 4) : ¬ (3 : Int32) < Int32.ofNat n := by
  rw [Int32.lt_iff_toInt_lt, own_n4 h]
  show ¬ ((3 : Int) < n)
  omega

theorem d1_0 : decode prog_35_method_1_code 0 = .ok (.aload_n 0, 1) := by decide +kernel
theorem d1_1 : decode prog_35_method_1_code 1 = .ok (.invokespecial 1, 3) := by decide +kernel
theorem d1_4 : decode prog_35_method_1_code 4 = .ok (.aload_n 0, 1) := by decide +kernel
theorem d1_5 : decode prog_35_method_1_code 5 = .ok (.iload_n 1, 1) := by decide +kernel
theorem d1_6 : decode prog_35_method_1_code 6 = .ok (.newarray .int, 2) := by decide +kernel
theorem d1_8 : decode prog_35_method_1_code 8 = .ok (.putfield 7, 3) := by decide +kernel
theorem d1_11 : decode prog_35_method_1_code 11 = .ok (.aload_n 0, 1) := by decide +kernel
theorem d1_12 : decode prog_35_method_1_code 12 = .ok (.iload_n 1, 1) := by decide +kernel
theorem d1_13 : decode prog_35_method_1_code 13 = .ok (.newarray .int, 2) := by decide +kernel
theorem d1_15 : decode prog_35_method_1_code 15 = .ok (.putfield 13, 3) := by decide +kernel
theorem d1_18 : decode prog_35_method_1_code 18 = .ok (.iconst 0, 1) := by decide +kernel
theorem d1_19 : decode prog_35_method_1_code 19 = .ok (.istore_n 2, 1) := by decide +kernel
theorem d1_20 : decode prog_35_method_1_code 20 = .ok (.iload_n 2, 1) := by decide +kernel
theorem d1_21 : decode prog_35_method_1_code 21 = .ok (.iload_n 1, 1) := by decide +kernel
theorem d1_22 : decode prog_35_method_1_code 22 = .ok (.if_icmp .ge 23, 3) := by decide +kernel
theorem d1_25 : decode prog_35_method_1_code 25 = .ok (.aload_n 0, 1) := by decide +kernel
theorem d1_26 : decode prog_35_method_1_code 26 = .ok (.getfield 7, 3) := by decide +kernel
theorem d1_29 : decode prog_35_method_1_code 29 = .ok (.iload_n 2, 1) := by decide +kernel
theorem d1_30 : decode prog_35_method_1_code 30 = .ok (.iload_n 2, 1) := by decide +kernel
theorem d1_31 : decode prog_35_method_1_code 31 = .ok (.iastore, 1) := by decide +kernel
theorem d1_32 : decode prog_35_method_1_code 32 = .ok (.aload_n 0, 1) := by decide +kernel
theorem d1_33 : decode prog_35_method_1_code 33 = .ok (.getfield 13, 3) := by decide +kernel
theorem d1_36 : decode prog_35_method_1_code 36 = .ok (.iload_n 2, 1) := by decide +kernel
theorem d1_37 : decode prog_35_method_1_code 37 = .ok (.iconst 1, 1) := by decide +kernel
theorem d1_38 : decode prog_35_method_1_code 38 = .ok (.iastore, 1) := by decide +kernel
theorem d1_39 : decode prog_35_method_1_code 39 = .ok (.iinc 2 1, 3) := by decide +kernel
theorem d1_42 : decode prog_35_method_1_code 42 = .ok (.goto (-22), 3) := by decide +kernel
theorem d1_45 : decode prog_35_method_1_code 45 = .ok (.return_, 1) := by decide +kernel
theorem pn0 : plainFor (⟨"com/example/copse/copse/graph/DisjointSets", "<init>", "(I)V"⟩ : MethodName) = true := by first | (refine plainFor_of_name ?_; simp [plainName, overriddenIn]; done) | (refine plainFor_of_name ?_; decide +kernel) | decide +kernel
def Q_ini (Z : State) (a : Addr) (h0 : Heap) (n0 : Nat) (v : Option Value) (h : Heap) (L : List Loc) : Prop := ∃ pa : Addr, ∃ sa : Addr, ∃ q : Nat, ∃ g : Nat → Int32, v = none ∧ Fr n0 L ∧ Keep h0 h [a] ∧ h0.size ≤ pa ∧ h0.size ≤ sa ∧ (pa ≠ sa) ∧ (q < 256) ∧ (okc q = true) ∧ (∀ i, i < 4 → rt q i = i) ∧ (a ≠ pa) ∧ (a ≠ sa) ∧ Exa Z h a "com/example/copse/copse/graph/DisjointSets" ∧ Fld Z h a "com/example/copse/copse/graph/DisjointSets" "parent" "[I" (.ref pa) ∧ Fld Z h a "com/example/copse/copse/graph/DisjointSets" "size" "[I" (.ref sa) ∧ GA Z h pa .int 4 (fun i => .int (Int32.ofNat (gt q i))) ∧ GA Z h sa .int 4 (fun i => .int (g i))
theorem ef_ini (m : MethodId) (a : Addr) : entryFrame m #[(.ref a), (.int (4 : Int32))] 3 = mkF m 0 #[.val (.ref a), .val (.int (4 : Int32)), .unset] [] := by first | (simp [entryFrame, mkF, argsToLocals, Value.category]; done) | rfl
abbrev rm_ini : Room := ({ frames := 1, cells := 2, slots := 8, locals := 12 } : Room)
set_option maxRecDepth 65536 in
set_option maxHeartbeats 4000000 in
theorem met_ini (l : Launch) (Z : State) (a0 : Array Value) (hw : ∀ d ∈ tables_1, d.before a0 Z = true) (a : Addr) (h0 : Heap) (n0 : Nat) (Z0 : n0 ≤ h0.size) (P0 : Fld Z h0 a "com/example/copse/copse/graph/DisjointSets" "parent" "[I" .null) (P1 : Fld Z h0 a "com/example/copse/copse/graph/DisjointSets" "size" "[I" .null) (P2 : Exa Z h0 a "com/example/copse/copse/graph/DisjointSets") (P3 : n0 ≤ a) :
    Met l (⟨"com/example/copse/copse/graph/DisjointSets", "<init>", "(I)V"⟩ : MethodName) prog_35_method_1_code 3 none [] rm_ini Z #[(.ref a), (.int (4 : Int32))] h0 (Q_ini Z a h0 n0) rm_ini.cells rm_ini.slots := by
  refine own_body pn0 ?_
  intro p e s m below meth c s₁ ct X0 e0
  have ct0 := ct
  obtain ⟨hx, hZ, hown, hby, hml, hret, hlk, hnm⟩ := ct
  have lt_a : a < h0.size := P2.lt
  have N0 := Fr.nil n0
  refine castGo (ef_ini m a) ?_
  show Go p e below s _ _ _ s₁ (mkF m 0 #[.val (.ref a), .val (.int (4 : Int32)), .unset] [])
  refine go_st (fun _ kq => XS.aloadN X0.here hx rfl (hb hby d1_0) rfl rfl kq) ?_
  show Go p e below s _ _ _ s₁ (mkF m 1 #[.val (.ref a), .val (.int (4 : Int32)), .unset] [(.ref a)])
  refine go_initO X0 hx hZ hml hown (hw _ (List.mem_of_getElem? (i := 6) rfl)) (hw _ (List.mem_of_getElem? (i := 7) rfl)) (hw _ (List.mem_of_getElem? (i := 8) rfl)) e0 (hb hby d1_1) rfl rfl rfl (by decide) (W := 0) (by show 2 * 0 + _ ≤ _; exact Nat.le_of_eq rfl) (by decide) ?_
  intro T1 X1 e1
  show Go p e below s _ _ _ T1 (mkF m 4 #[.val (.ref a), .val (.int (4 : Int32)), .unset] [])
  refine go_st (fun _ kq => XS.aloadN X1.here hx rfl (hb hby d1_4) rfl rfl kq) ?_
  show Go p e below s _ _ _ T1 (mkF m 5 #[.val (.ref a), .val (.int (4 : Int32)), .unset] [(.ref a)])
  refine go_st (fun _ kq => XS.iloadN X1.here hx rfl (hb hby d1_5) rfl kq) ?_
  show Go p e below s _ _ _ T1 (mkF m 6 #[.val (.ref a), .val (.int (4 : Int32)), .unset] [(.int (4 : Int32)), (.ref a)])
  refine go_newP X1 hx hZ (hw _ (List.mem_of_getElem? (i := 9) rfl)) e1 (hb hby d1_6) rfl rfl 4 (by decide) 4 (Nat.le_refl _) (by decide) (by decide) (by decide) ?_
  intro T2 h2 a2 g2 X2 e2 E2 G2
  have ne3 : a ≠ a2 := fun q => Nat.lt_irrefl _ (Nat.lt_of_lt_of_le lt_a (Nat.le_of_eq (g2.symm.trans q.symm)))
  have nw_a2 : n0 ≤ a2 := Nat.le_trans Z0 (Nat.le_of_eq g2.symm)
  have lt_a2 : a2 < h2.size := G2.lt
  have A2 : GA Z h2 a2 .int 4 (fun i => .int (Int32.ofNat (gt 0 i))) := (G2.congr own_zero)
  show Go p e below s _ _ _ T2 (mkF m 8 #[.val (.ref a), .val (.int (4 : Int32)), .unset] [(.ref a2), (.ref a)])
  have c4 := Fld.ext E2 P0
  have c5 := Exa.ext E2 P2
  refine go_putF X2 hx hZ hown (host := "") (Or.inl (hw _ (List.mem_of_getElem? (i := 10) rfl))) Via.refl e2 c4 c5 (Or.inr ⟨(hw _ (List.mem_of_getElem? (i := 11) rfl)), rfl, hnm⟩) (hw _ (List.mem_of_getElem? (i := 1) rfl)) (ty := (.array .int)) (by decide) rfl rfl (hb hby d1_8) rfl rfl ?_
  intro T6 h6 X6 e6 W6
  have N6 := Fr.snoc X6 N0 P3
  have F6 : Fld Z h6 a "com/example/copse/copse/graph/DisjointSets" "parent" "[I" (.ref a2) := Fld.same W6 c4
  show Go p e below s _ _ _ T6 (mkF m 11 #[.val (.ref a), .val (.int (4 : Int32)), .unset] [])
  refine go_st (fun _ kq => XS.aloadN X6.here hx rfl (hb hby d1_11) rfl rfl kq) ?_
  show Go p e below s _ _ _ T6 (mkF m 12 #[.val (.ref a), .val (.int (4 : Int32)), .unset] [(.ref a)])
  refine go_st (fun _ kq => XS.iloadN X6.here hx rfl (hb hby d1_12) rfl kq) ?_
  show Go p e below s _ _ _ T6 (mkF m 13 #[.val (.ref a), .val (.int (4 : Int32)), .unset] [(.int (4 : Int32)), (.ref a)])
  refine go_newP X6 hx hZ (hw _ (List.mem_of_getElem? (i := 9) rfl)) e6 (hb hby d1_13) rfl rfl 4 (by decide) 4 (Nat.le_refl _) (by decide) (by decide) (by decide) ?_
  intro T7 h7 a7 g7 X7 e7 E7 G7
  have y8 : h0.size ≤ h2.size := Nat.le_trans (Nat.le_refl _) E2.1
  have y9 : h0.size ≤ h6.size := (Wr.size W6).symm ▸ y8
  have c10 : a < h2.size := Nat.lt_of_lt_of_le lt_a E2.1
  have c11 : a < h6.size := (Wr.size W6).symm ▸ c10
  have ne12 : a ≠ a7 := fun q => Nat.lt_irrefl _ (Nat.lt_of_lt_of_le c11 (Nat.le_of_eq (g7.symm.trans q.symm)))
  have c13 : a2 < h6.size := (Wr.size W6).symm ▸ lt_a2
  have ne14 : a2 ≠ a7 := fun q => Nat.lt_irrefl _ (Nat.lt_of_lt_of_le c13 (Nat.le_of_eq (g7.symm.trans q.symm)))
  have z15 : n0 ≤ h2.size := Nat.le_trans Z0 E2.1
  have z16 : n0 ≤ h6.size := (Wr.size W6).symm ▸ z15
  have nw_a7 : n0 ≤ a7 := Nat.le_trans z16 (Nat.le_of_eq g7.symm)
  have lt_a7 : a7 < h7.size := G7.lt
  have A7 : GA Z h7 a7 .int 4 (fun i => .int ((fun _ => (0 : Int32)) i)) := G7
  show Go p e below s _ _ _ T7 (mkF m 15 #[.val (.ref a), .val (.int (4 : Int32)), .unset] [(.ref a7), (.ref a)])
  have c17 := Fld.ext E2 P1
  have c18 := Fld.other W6 c17 (Or.inr (slot_ne (a0 := a0) (t := (.array .int)) (t' := (.array .int)) (Or.inr (hw _ (List.mem_of_getElem? (i := 13) rfl))) (Or.inr (hw _ (List.mem_of_getElem? (i := 11) rfl))) (by decide) (by decide) (by decide)))
  have c19 := Fld.ext E7 c18
  have c20 := Exa.wr W6 c5
  have c21 := Exa.ext E7 c20
  refine go_putF X7 hx hZ hown (host := "") (Or.inl (hw _ (List.mem_of_getElem? (i := 12) rfl))) Via.refl e7 c19 c21 (Or.inr ⟨(hw _ (List.mem_of_getElem? (i := 13) rfl)), rfl, hnm⟩) (hw _ (List.mem_of_getElem? (i := 1) rfl)) (ty := (.array .int)) (by decide) rfl rfl (hb hby d1_15) rfl rfl ?_
  intro T22 h22 X22 e22 W22
  have N22 := Fr.snoc X22 N6 P3
  have F22 : Fld Z h22 a "com/example/copse/copse/graph/DisjointSets" "size" "[I" (.ref a7) := Fld.same W22 c19
  show Go p e below s _ _ _ T22 (mkF m 18 #[.val (.ref a), .val (.int (4 : Int32)), .unset] [])
  refine go_st (fun _ kq => XT.iconstV X22.here hx rfl (0 : Int32) (hb hby d1_18) (by decide) kq) ?_
  show Go p e below s _ _ _ T22 (mkF m 19 #[.val (.ref a), .val (.int (4 : Int32)), .unset] [(.int (0 : Int32))])
  refine go_st (fun _ kq => XS.istoreN X22.here hx rfl (hb hby d1_19) rfl (l' := #[.val (.ref a), .val (.int (4 : Int32)), .val (.int (0 : Int32))]) rfl kq) ?_
  show Go p e below s _ _ _ T22 (mkF m 20 #[.val (.ref a), .val (.int (4 : Int32)), .val (.int (0 : Int32))] [])
  refine go_st (fun _ kq => XS.iloadN X22.here hx rfl (hb hby d1_20) rfl kq) ?_
  show Go p e below s _ _ _ T22 (mkF m 21 #[.val (.ref a), .val (.int (4 : Int32)), .val (.int (0 : Int32))] [(.int (0 : Int32))])
  refine go_st (fun _ kq => XS.iloadN X22.here hx rfl (hb hby d1_21) rfl kq) ?_
  show Go p e below s _ _ _ T22 (mkF m 22 #[.val (.ref a), .val (.int (4 : Int32)), .val (.int (0 : Int32))] [(.int (4 : Int32)), (.int (0 : Int32))])
  refine go_st (fun _ kq => XS.icmpNo X22.here hx rfl (hb hby d1_22) rfl (XT.ii_ge_f (by decide)) kq) ?_
  show Go p e below s _ _ _ T22 (mkF m 25 #[.val (.ref a), .val (.int (4 : Int32)), .val (.int (0 : Int32))] [])
  refine go_st (fun _ kq => XS.aloadN X22.here hx rfl (hb hby d1_25) rfl rfl kq) ?_
  show Go p e below s _ _ _ T22 (mkF m 26 #[.val (.ref a), .val (.int (4 : Int32)), .val (.int (0 : Int32))] [(.ref a)])
  have c23 := Fld.ext E7 F6
  have c24 := Fld.other W22 c23 (Or.inr (slot_ne (a0 := a0) (t := (.array .int)) (t' := (.array .int)) (Or.inr (hw _ (List.mem_of_getElem? (i := 11) rfl))) (Or.inr (hw _ (List.mem_of_getElem? (i := 13) rfl))) (by decide) (by decide) (by decide)))
  refine go_getF X22 hx hZ hown (host := "") (Or.inl (hw _ (List.mem_of_getElem? (i := 10) rfl))) Via.refl e22 c24 (hb hby d1_26) rfl rfl ?_
  intro T25 X25 e25
  show Go p e below s _ _ _ T25 (mkF m 29 #[.val (.ref a), .val (.int (4 : Int32)), .val (.int (0 : Int32))] [(.ref a2)])
  refine go_st (fun _ kq => XS.iloadN X25.here hx rfl (hb hby d1_29) rfl kq) ?_
  show Go p e below s _ _ _ T25 (mkF m 30 #[.val (.ref a), .val (.int (4 : Int32)), .val (.int (0 : Int32))] [(.int (0 : Int32)), (.ref a2)])
  refine go_st (fun _ kq => XS.iloadN X25.here hx rfl (hb hby d1_30) rfl kq) ?_
  show Go p e below s _ _ _ T25 (mkF m 31 #[.val (.ref a), .val (.int (4 : Int32)), .val (.int (0 : Int32))] [(.int (0 : Int32)), (.int (0 : Int32)), (.ref a2)])
  have c26 := A2.other W6 (Ne.symm ne3)
  have c27 := c26.ext E7
  have c28 := c27.other W22 (Ne.symm ne3)
  refine go_iast X25 hx hZ e25 c28 (hb hby d1_31) rfl rfl (by decide) ?_
  intro T29 h29 X29 e29 W29 G29
  have N29 := Fr.snoc X29 N22 nw_a2
  have A29 : GA Z h29 a2 .int 4 (fun i => .int (Int32.ofNat (gt (sv 0 0 0) i))) := (own_st (by decide : 0 < 256) (by decide : 0 < 4) (by decide : 0 < 4) (by first | rfl | exact own_c4 (by decide : 0 < 4)) G29)
  show Go p e below s _ _ _ T29 (mkF m 32 #[.val (.ref a), .val (.int (4 : Int32)), .val (.int (0 : Int32))] [])
  refine go_st (fun _ kq => XS.aloadN X29.here hx rfl (hb hby d1_32) rfl rfl kq) ?_
  show Go p e below s _ _ _ T29 (mkF m 33 #[.val (.ref a), .val (.int (4 : Int32)), .val (.int (0 : Int32))] [(.ref a)])
  have c30 := Fld.other W29 F22 (Or.inl ne3)
  refine go_getF X29 hx hZ hown (host := "") (Or.inl (hw _ (List.mem_of_getElem? (i := 12) rfl))) Via.refl e29 c30 (hb hby d1_33) rfl rfl ?_
  intro T31 X31 e31
  show Go p e below s _ _ _ T31 (mkF m 36 #[.val (.ref a), .val (.int (4 : Int32)), .val (.int (0 : Int32))] [(.ref a7)])
  refine go_st (fun _ kq => XS.iloadN X31.here hx rfl (hb hby d1_36) rfl kq) ?_
  show Go p e below s _ _ _ T31 (mkF m 37 #[.val (.ref a), .val (.int (4 : Int32)), .val (.int (0 : Int32))] [(.int (0 : Int32)), (.ref a7)])
  refine go_st (fun _ kq => XT.iconstV X31.here hx rfl (1 : Int32) (hb hby d1_37) (by decide) kq) ?_
  show Go p e below s _ _ _ T31 (mkF m 38 #[.val (.ref a), .val (.int (4 : Int32)), .val (.int (0 : Int32))] [(.int (1 : Int32)), (.int (0 : Int32)), (.ref a7)])
  have c32 := A7.other W22 (Ne.symm ne12)
  have c33 := c32.other W29 (Ne.symm ne14)
  refine go_iast X31 hx hZ e31 c33 (hb hby d1_38) rfl rfl (by decide) ?_
  intro T34 h34 X34 e34 W34 G34
  have N34 := Fr.snoc X34 N29 nw_a7
  have A34 : GA Z h34 a7 .int 4 (fun i => .int ((fun i => if i = 0 then (1 : Int32) else (fun _ => (0 : Int32)) i) i)) := (G34.congr (own_sg (by first | rfl | exact own_c4 (by decide : 0 < 4))))
  show Go p e below s _ _ _ T34 (mkF m 39 #[.val (.ref a), .val (.int (4 : Int32)), .val (.int (0 : Int32))] [])
  refine go_st (fun _ kq => XT.iincV X34.here hx rfl (1 : Int32) (hb hby d1_39) (by decide) rfl (l' := #[.val (.ref a), .val (.int (4 : Int32)), .val (.int (1 : Int32))]) rfl kq) ?_
  show Go p e below s _ _ _ T34 (mkF m 42 #[.val (.ref a), .val (.int (4 : Int32)), .val (.int (1 : Int32))] [])
  refine go_st (fun _ kq => XS.goto X34.here hx rfl (pc0 := 42) (pc' := 20) rfl (hb hby d1_42) (by decide) (by decide) kq) ?_
  show Go p e below s _ _ _ T34 (mkF m 20 #[.val (.ref a), .val (.int (4 : Int32)), .val (.int (1 : Int32))] [])
  refine go_st (fun _ kq => XS.iloadN X34.here hx rfl (hb hby d1_20) rfl kq) ?_
  show Go p e below s _ _ _ T34 (mkF m 21 #[.val (.ref a), .val (.int (4 : Int32)), .val (.int (1 : Int32))] [(.int (1 : Int32))])
  refine go_st (fun _ kq => XS.iloadN X34.here hx rfl (hb hby d1_21) rfl kq) ?_
  show Go p e below s _ _ _ T34 (mkF m 22 #[.val (.ref a), .val (.int (4 : Int32)), .val (.int (1 : Int32))] [(.int (4 : Int32)), (.int (1 : Int32))])
  refine go_st (fun _ kq => XS.icmpNo X34.here hx rfl (hb hby d1_22) rfl (XT.ii_ge_f (by decide)) kq) ?_
  show Go p e below s _ _ _ T34 (mkF m 25 #[.val (.ref a), .val (.int (4 : Int32)), .val (.int (1 : Int32))] [])
  refine go_st (fun _ kq => XS.aloadN X34.here hx rfl (hb hby d1_25) rfl rfl kq) ?_
  show Go p e below s _ _ _ T34 (mkF m 26 #[.val (.ref a), .val (.int (4 : Int32)), .val (.int (1 : Int32))] [(.ref a)])
  have c35 := Fld.other W29 c24 (Or.inl ne3)
  have c36 := Fld.other W34 c35 (Or.inl ne12)
  refine go_getF X34 hx hZ hown (host := "") (Or.inl (hw _ (List.mem_of_getElem? (i := 10) rfl))) Via.refl e34 c36 (hb hby d1_26) rfl rfl ?_
  intro T37 X37 e37
  show Go p e below s _ _ _ T37 (mkF m 29 #[.val (.ref a), .val (.int (4 : Int32)), .val (.int (1 : Int32))] [(.ref a2)])
  refine go_st (fun _ kq => XS.iloadN X37.here hx rfl (hb hby d1_29) rfl kq) ?_
  show Go p e below s _ _ _ T37 (mkF m 30 #[.val (.ref a), .val (.int (4 : Int32)), .val (.int (1 : Int32))] [(.int (1 : Int32)), (.ref a2)])
  refine go_st (fun _ kq => XS.iloadN X37.here hx rfl (hb hby d1_30) rfl kq) ?_
  show Go p e below s _ _ _ T37 (mkF m 31 #[.val (.ref a), .val (.int (4 : Int32)), .val (.int (1 : Int32))] [(.int (1 : Int32)), (.int (1 : Int32)), (.ref a2)])
  have c38 := A29.other W34 ne14
  refine go_iast X37 hx hZ e37 c38 (hb hby d1_31) rfl rfl (by decide) ?_
  intro T39 h39 X39 e39 W39 G39
  have N39 := Fr.snoc X39 N34 nw_a2
  have A39 : GA Z h39 a2 .int 4 (fun i => .int (Int32.ofNat (gt (sv (sv 0 0 0) 1 1) i))) := (own_st (sv_lt (by decide : 0 < 256) (by decide : 0 < 4) (by decide : 0 < 4)) (by decide : 1 < 4) (by decide : 1 < 4) (by first | rfl | exact own_c4 (by decide : 1 < 4)) G39)
  show Go p e below s _ _ _ T39 (mkF m 32 #[.val (.ref a), .val (.int (4 : Int32)), .val (.int (1 : Int32))] [])
  refine go_st (fun _ kq => XS.aloadN X39.here hx rfl (hb hby d1_32) rfl rfl kq) ?_
  show Go p e below s _ _ _ T39 (mkF m 33 #[.val (.ref a), .val (.int (4 : Int32)), .val (.int (1 : Int32))] [(.ref a)])
  have c40 := Fld.other W34 c30 (Or.inl ne12)
  have c41 := Fld.other W39 c40 (Or.inl ne3)
  refine go_getF X39 hx hZ hown (host := "") (Or.inl (hw _ (List.mem_of_getElem? (i := 12) rfl))) Via.refl e39 c41 (hb hby d1_33) rfl rfl ?_
  intro T42 X42 e42
  show Go p e below s _ _ _ T42 (mkF m 36 #[.val (.ref a), .val (.int (4 : Int32)), .val (.int (1 : Int32))] [(.ref a7)])
  refine go_st (fun _ kq => XS.iloadN X42.here hx rfl (hb hby d1_36) rfl kq) ?_
  show Go p e below s _ _ _ T42 (mkF m 37 #[.val (.ref a), .val (.int (4 : Int32)), .val (.int (1 : Int32))] [(.int (1 : Int32)), (.ref a7)])
  refine go_st (fun _ kq => XT.iconstV X42.here hx rfl (1 : Int32) (hb hby d1_37) (by decide) kq) ?_
  show Go p e below s _ _ _ T42 (mkF m 38 #[.val (.ref a), .val (.int (4 : Int32)), .val (.int (1 : Int32))] [(.int (1 : Int32)), (.int (1 : Int32)), (.ref a7)])
  have c43 := A34.other W39 (Ne.symm ne14)
  refine go_iast X42 hx hZ e42 c43 (hb hby d1_38) rfl rfl (by decide) ?_
  intro T44 h44 X44 e44 W44 G44
  have N44 := Fr.snoc X44 N39 nw_a7
  have A44 : GA Z h44 a7 .int 4 (fun i => .int ((fun i => if i = 1 then (1 : Int32) else (fun i => if i = 0 then (1 : Int32) else (fun _ => (0 : Int32)) i) i) i)) := (G44.congr (own_sg (by first | rfl | exact own_c4 (by decide : 1 < 4))))
  show Go p e below s _ _ _ T44 (mkF m 39 #[.val (.ref a), .val (.int (4 : Int32)), .val (.int (1 : Int32))] [])
  refine go_st (fun _ kq => XT.iincV X44.here hx rfl (1 : Int32) (hb hby d1_39) (by decide) rfl (l' := #[.val (.ref a), .val (.int (4 : Int32)), .val (.int (2 : Int32))]) rfl kq) ?_
  show Go p e below s _ _ _ T44 (mkF m 42 #[.val (.ref a), .val (.int (4 : Int32)), .val (.int (2 : Int32))] [])
  refine go_st (fun _ kq => XS.goto X44.here hx rfl (pc0 := 42) (pc' := 20) rfl (hb hby d1_42) (by decide) (by decide) kq) ?_
  show Go p e below s _ _ _ T44 (mkF m 20 #[.val (.ref a), .val (.int (4 : Int32)), .val (.int (2 : Int32))] [])
  refine go_st (fun _ kq => XS.iloadN X44.here hx rfl (hb hby d1_20) rfl kq) ?_
  show Go p e below s _ _ _ T44 (mkF m 21 #[.val (.ref a), .val (.int (4 : Int32)), .val (.int (2 : Int32))] [(.int (2 : Int32))])
  refine go_st (fun _ kq => XS.iloadN X44.here hx rfl (hb hby d1_21) rfl kq) ?_
  show Go p e below s _ _ _ T44 (mkF m 22 #[.val (.ref a), .val (.int (4 : Int32)), .val (.int (2 : Int32))] [(.int (4 : Int32)), (.int (2 : Int32))])
  refine go_st (fun _ kq => XS.icmpNo X44.here hx rfl (hb hby d1_22) rfl (XT.ii_ge_f (by decide)) kq) ?_
  show Go p e below s _ _ _ T44 (mkF m 25 #[.val (.ref a), .val (.int (4 : Int32)), .val (.int (2 : Int32))] [])
  refine go_st (fun _ kq => XS.aloadN X44.here hx rfl (hb hby d1_25) rfl rfl kq) ?_
  show Go p e below s _ _ _ T44 (mkF m 26 #[.val (.ref a), .val (.int (4 : Int32)), .val (.int (2 : Int32))] [(.ref a)])
  have c45 := Fld.other W39 c36 (Or.inl ne3)
  have c46 := Fld.other W44 c45 (Or.inl ne12)
  refine go_getF X44 hx hZ hown (host := "") (Or.inl (hw _ (List.mem_of_getElem? (i := 10) rfl))) Via.refl e44 c46 (hb hby d1_26) rfl rfl ?_
  intro T47 X47 e47
  show Go p e below s _ _ _ T47 (mkF m 29 #[.val (.ref a), .val (.int (4 : Int32)), .val (.int (2 : Int32))] [(.ref a2)])
  refine go_st (fun _ kq => XS.iloadN X47.here hx rfl (hb hby d1_29) rfl kq) ?_
  show Go p e below s _ _ _ T47 (mkF m 30 #[.val (.ref a), .val (.int (4 : Int32)), .val (.int (2 : Int32))] [(.int (2 : Int32)), (.ref a2)])
  refine go_st (fun _ kq => XS.iloadN X47.here hx rfl (hb hby d1_30) rfl kq) ?_
  show Go p e below s _ _ _ T47 (mkF m 31 #[.val (.ref a), .val (.int (4 : Int32)), .val (.int (2 : Int32))] [(.int (2 : Int32)), (.int (2 : Int32)), (.ref a2)])
  have c48 := A39.other W44 ne14
  refine go_iast X47 hx hZ e47 c48 (hb hby d1_31) rfl rfl (by decide) ?_
  intro T49 h49 X49 e49 W49 G49
  have N49 := Fr.snoc X49 N44 nw_a2
  have A49 : GA Z h49 a2 .int 4 (fun i => .int (Int32.ofNat (gt (sv (sv (sv 0 0 0) 1 1) 2 2) i))) := (own_st (sv_lt (sv_lt (by decide : 0 < 256) (by decide : 0 < 4) (by decide : 0 < 4)) (by decide : 1 < 4) (by decide : 1 < 4)) (by decide : 2 < 4) (by decide : 2 < 4) (by first | rfl | exact own_c4 (by decide : 2 < 4)) G49)
  show Go p e below s _ _ _ T49 (mkF m 32 #[.val (.ref a), .val (.int (4 : Int32)), .val (.int (2 : Int32))] [])
  refine go_st (fun _ kq => XS.aloadN X49.here hx rfl (hb hby d1_32) rfl rfl kq) ?_
  show Go p e below s _ _ _ T49 (mkF m 33 #[.val (.ref a), .val (.int (4 : Int32)), .val (.int (2 : Int32))] [(.ref a)])
  have c50 := Fld.other W44 c41 (Or.inl ne12)
  have c51 := Fld.other W49 c50 (Or.inl ne3)
  refine go_getF X49 hx hZ hown (host := "") (Or.inl (hw _ (List.mem_of_getElem? (i := 12) rfl))) Via.refl e49 c51 (hb hby d1_33) rfl rfl ?_
  intro T52 X52 e52
  show Go p e below s _ _ _ T52 (mkF m 36 #[.val (.ref a), .val (.int (4 : Int32)), .val (.int (2 : Int32))] [(.ref a7)])
  refine go_st (fun _ kq => XS.iloadN X52.here hx rfl (hb hby d1_36) rfl kq) ?_
  show Go p e below s _ _ _ T52 (mkF m 37 #[.val (.ref a), .val (.int (4 : Int32)), .val (.int (2 : Int32))] [(.int (2 : Int32)), (.ref a7)])
  refine go_st (fun _ kq => XT.iconstV X52.here hx rfl (1 : Int32) (hb hby d1_37) (by decide) kq) ?_
  show Go p e below s _ _ _ T52 (mkF m 38 #[.val (.ref a), .val (.int (4 : Int32)), .val (.int (2 : Int32))] [(.int (1 : Int32)), (.int (2 : Int32)), (.ref a7)])
  have c53 := A44.other W49 (Ne.symm ne14)
  refine go_iast X52 hx hZ e52 c53 (hb hby d1_38) rfl rfl (by decide) ?_
  intro T54 h54 X54 e54 W54 G54
  have N54 := Fr.snoc X54 N49 nw_a7
  have A54 : GA Z h54 a7 .int 4 (fun i => .int ((fun i => if i = 2 then (1 : Int32) else (fun i => if i = 1 then (1 : Int32) else (fun i => if i = 0 then (1 : Int32) else (fun _ => (0 : Int32)) i) i) i) i)) := (G54.congr (own_sg (by first | rfl | exact own_c4 (by decide : 2 < 4))))
  show Go p e below s _ _ _ T54 (mkF m 39 #[.val (.ref a), .val (.int (4 : Int32)), .val (.int (2 : Int32))] [])
  refine go_st (fun _ kq => XT.iincV X54.here hx rfl (1 : Int32) (hb hby d1_39) (by decide) rfl (l' := #[.val (.ref a), .val (.int (4 : Int32)), .val (.int (3 : Int32))]) rfl kq) ?_
  show Go p e below s _ _ _ T54 (mkF m 42 #[.val (.ref a), .val (.int (4 : Int32)), .val (.int (3 : Int32))] [])
  refine go_st (fun _ kq => XS.goto X54.here hx rfl (pc0 := 42) (pc' := 20) rfl (hb hby d1_42) (by decide) (by decide) kq) ?_
  show Go p e below s _ _ _ T54 (mkF m 20 #[.val (.ref a), .val (.int (4 : Int32)), .val (.int (3 : Int32))] [])
  refine go_st (fun _ kq => XS.iloadN X54.here hx rfl (hb hby d1_20) rfl kq) ?_
  show Go p e below s _ _ _ T54 (mkF m 21 #[.val (.ref a), .val (.int (4 : Int32)), .val (.int (3 : Int32))] [(.int (3 : Int32))])
  refine go_st (fun _ kq => XS.iloadN X54.here hx rfl (hb hby d1_21) rfl kq) ?_
  show Go p e below s _ _ _ T54 (mkF m 22 #[.val (.ref a), .val (.int (4 : Int32)), .val (.int (3 : Int32))] [(.int (4 : Int32)), (.int (3 : Int32))])
  refine go_st (fun _ kq => XS.icmpNo X54.here hx rfl (hb hby d1_22) rfl (XT.ii_ge_f (by decide)) kq) ?_
  show Go p e below s _ _ _ T54 (mkF m 25 #[.val (.ref a), .val (.int (4 : Int32)), .val (.int (3 : Int32))] [])
  refine go_st (fun _ kq => XS.aloadN X54.here hx rfl (hb hby d1_25) rfl rfl kq) ?_
  show Go p e below s _ _ _ T54 (mkF m 26 #[.val (.ref a), .val (.int (4 : Int32)), .val (.int (3 : Int32))] [(.ref a)])
  have c55 := Fld.other W49 c46 (Or.inl ne3)
  have c56 := Fld.other W54 c55 (Or.inl ne12)
  refine go_getF X54 hx hZ hown (host := "") (Or.inl (hw _ (List.mem_of_getElem? (i := 10) rfl))) Via.refl e54 c56 (hb hby d1_26) rfl rfl ?_
  intro T57 X57 e57
  show Go p e below s _ _ _ T57 (mkF m 29 #[.val (.ref a), .val (.int (4 : Int32)), .val (.int (3 : Int32))] [(.ref a2)])
  refine go_st (fun _ kq => XS.iloadN X57.here hx rfl (hb hby d1_29) rfl kq) ?_
  show Go p e below s _ _ _ T57 (mkF m 30 #[.val (.ref a), .val (.int (4 : Int32)), .val (.int (3 : Int32))] [(.int (3 : Int32)), (.ref a2)])
  refine go_st (fun _ kq => XS.iloadN X57.here hx rfl (hb hby d1_30) rfl kq) ?_
  show Go p e below s _ _ _ T57 (mkF m 31 #[.val (.ref a), .val (.int (4 : Int32)), .val (.int (3 : Int32))] [(.int (3 : Int32)), (.int (3 : Int32)), (.ref a2)])
  have c58 := A49.other W54 ne14
  refine go_iast X57 hx hZ e57 c58 (hb hby d1_31) rfl rfl (by decide) ?_
  intro T59 h59 X59 e59 W59 G59
  have N59 := Fr.snoc X59 N54 nw_a2
  have A59 : GA Z h59 a2 .int 4 (fun i => .int (Int32.ofNat (gt (sv (sv (sv (sv 0 0 0) 1 1) 2 2) 3 3) i))) := (own_st (sv_lt (sv_lt (sv_lt (by decide : 0 < 256) (by decide : 0 < 4) (by decide : 0 < 4)) (by decide : 1 < 4) (by decide : 1 < 4)) (by decide : 2 < 4) (by decide : 2 < 4)) (by decide : 3 < 4) (by decide : 3 < 4) (by first | rfl | exact own_c4 (by decide : 3 < 4)) G59)
  show Go p e below s _ _ _ T59 (mkF m 32 #[.val (.ref a), .val (.int (4 : Int32)), .val (.int (3 : Int32))] [])
  refine go_st (fun _ kq => XS.aloadN X59.here hx rfl (hb hby d1_32) rfl rfl kq) ?_
  show Go p e below s _ _ _ T59 (mkF m 33 #[.val (.ref a), .val (.int (4 : Int32)), .val (.int (3 : Int32))] [(.ref a)])
  have c60 := Fld.other W54 c51 (Or.inl ne12)
  have c61 := Fld.other W59 c60 (Or.inl ne3)
  refine go_getF X59 hx hZ hown (host := "") (Or.inl (hw _ (List.mem_of_getElem? (i := 12) rfl))) Via.refl e59 c61 (hb hby d1_33) rfl rfl ?_
  intro T62 X62 e62
  show Go p e below s _ _ _ T62 (mkF m 36 #[.val (.ref a), .val (.int (4 : Int32)), .val (.int (3 : Int32))] [(.ref a7)])
  refine go_st (fun _ kq => XS.iloadN X62.here hx rfl (hb hby d1_36) rfl kq) ?_
  show Go p e below s _ _ _ T62 (mkF m 37 #[.val (.ref a), .val (.int (4 : Int32)), .val (.int (3 : Int32))] [(.int (3 : Int32)), (.ref a7)])
  refine go_st (fun _ kq => XT.iconstV X62.here hx rfl (1 : Int32) (hb hby d1_37) (by decide) kq) ?_
  show Go p e below s _ _ _ T62 (mkF m 38 #[.val (.ref a), .val (.int (4 : Int32)), .val (.int (3 : Int32))] [(.int (1 : Int32)), (.int (3 : Int32)), (.ref a7)])
  have c63 := A54.other W59 (Ne.symm ne14)
  refine go_iast X62 hx hZ e62 c63 (hb hby d1_38) rfl rfl (by decide) ?_
  intro T64 h64 X64 e64 W64 G64
  have N64 := Fr.snoc X64 N59 nw_a7
  have A64 : GA Z h64 a7 .int 4 (fun i => .int ((fun i => if i = 3 then (1 : Int32) else (fun i => if i = 2 then (1 : Int32) else (fun i => if i = 1 then (1 : Int32) else (fun i => if i = 0 then (1 : Int32) else (fun _ => (0 : Int32)) i) i) i) i) i)) := (G64.congr (own_sg (by first | rfl | exact own_c4 (by decide : 3 < 4))))
  show Go p e below s _ _ _ T64 (mkF m 39 #[.val (.ref a), .val (.int (4 : Int32)), .val (.int (3 : Int32))] [])
  refine go_st (fun _ kq => XT.iincV X64.here hx rfl (1 : Int32) (hb hby d1_39) (by decide) rfl (l' := #[.val (.ref a), .val (.int (4 : Int32)), .val (.int (4 : Int32))]) rfl kq) ?_
  show Go p e below s _ _ _ T64 (mkF m 42 #[.val (.ref a), .val (.int (4 : Int32)), .val (.int (4 : Int32))] [])
  refine go_st (fun _ kq => XS.goto X64.here hx rfl (pc0 := 42) (pc' := 20) rfl (hb hby d1_42) (by decide) (by decide) kq) ?_
  show Go p e below s _ _ _ T64 (mkF m 20 #[.val (.ref a), .val (.int (4 : Int32)), .val (.int (4 : Int32))] [])
  refine go_st (fun _ kq => XS.iloadN X64.here hx rfl (hb hby d1_20) rfl kq) ?_
  show Go p e below s _ _ _ T64 (mkF m 21 #[.val (.ref a), .val (.int (4 : Int32)), .val (.int (4 : Int32))] [(.int (4 : Int32))])
  refine go_st (fun _ kq => XS.iloadN X64.here hx rfl (hb hby d1_21) rfl kq) ?_
  show Go p e below s _ _ _ T64 (mkF m 22 #[.val (.ref a), .val (.int (4 : Int32)), .val (.int (4 : Int32))] [(.int (4 : Int32)), (.int (4 : Int32))])
  refine go_st (fun _ kq => XS.icmpYes X64.here hx rfl (pc0 := 22) (pc' := 45) rfl (hb hby d1_22) rfl (XT.ii_ge_t (by decide)) (by decide) (by decide) kq) ?_
  show Go p e below s _ _ _ T64 (mkF m 45 #[.val (.ref a), .val (.int (4 : Int32)), .val (.int (4 : Int32))] [])
  have c65 := Exa.wr W22 c21
  have c66 := Exa.wr W29 c65
  have c67 := Exa.wr W34 c66
  have c68 := Exa.wr W39 c67
  have c69 := Exa.wr W44 c68
  have c70 := Exa.wr W49 c69
  have c71 := Exa.wr W54 c70
  have c72 := Exa.wr W59 c71
  have c73 := Exa.wr W64 c72
  have c74 := Fld.other W59 c56 (Or.inl ne3)
  have c75 := Fld.other W64 c74 (Or.inl ne12)
  have c76 := Fld.other W64 c61 (Or.inl ne12)
  have c77 := A59.other W64 ne14
  exact go_ret0 X64 hx hlk hret (hb hby d1_45) (by decide) (by decide) (by rw [e64]; exact ⟨a2, a7, (sv (sv (sv (sv 0 0 0) 1 1) 2 2) 3 3), (fun i => if i = 3 then (1 : Int32) else (fun i => if i = 2 then (1 : Int32) else (fun i => if i = 1 then (1 : Int32) else (fun i => if i = 0 then (1 : Int32) else (fun _ => (0 : Int32)) i) i) i) i), rfl, N64, (Keep.wr (Keep.wr (Keep.wr (Keep.wr (Keep.wr (Keep.wr (Keep.wr (Keep.wr (Keep.wr (Keep.ext (Keep.wr (Keep.ext (Keep.refl h0 [a]) E2) W6 (Or.inl (by simp))) E7) W22 (Or.inl (by simp))) W29 (Or.inr (Nat.le_trans (Nat.le_refl _) (Nat.le_of_eq g2.symm)))) W34 (Or.inr (Nat.le_trans y9 (Nat.le_of_eq g7.symm)))) W39 (Or.inr (Nat.le_trans (Nat.le_refl _) (Nat.le_of_eq g2.symm)))) W44 (Or.inr (Nat.le_trans y9 (Nat.le_of_eq g7.symm)))) W49 (Or.inr (Nat.le_trans (Nat.le_refl _) (Nat.le_of_eq g2.symm)))) W54 (Or.inr (Nat.le_trans y9 (Nat.le_of_eq g7.symm)))) W59 (Or.inr (Nat.le_trans (Nat.le_refl _) (Nat.le_of_eq g2.symm)))) W64 (Or.inr (Nat.le_trans y9 (Nat.le_of_eq g7.symm)))), (Nat.le_trans (Nat.le_refl _) (Nat.le_of_eq g2.symm)), (Nat.le_trans y9 (Nat.le_of_eq g7.symm)), ne14, (by decide +kernel), (by decide +kernel), (by decide +kernel), ne3, ne12, c73, c75, c76, c77, A64⟩)
theorem d4_0 : decode prog_35_method_2_code 0 = .ok (.iload_n 1, 1) := by decide +kernel
theorem d4_1 : decode prog_35_method_2_code 1 = .ok (.istore_n 2, 1) := by decide +kernel
theorem d4_2 : decode prog_35_method_2_code 2 = .ok (.aload_n 0, 1) := by decide +kernel
theorem d4_3 : decode prog_35_method_2_code 3 = .ok (.getfield 7, 3) := by decide +kernel
theorem d4_6 : decode prog_35_method_2_code 6 = .ok (.iload_n 2, 1) := by decide +kernel
theorem d4_7 : decode prog_35_method_2_code 7 = .ok (.iaload, 1) := by decide +kernel
theorem d4_8 : decode prog_35_method_2_code 8 = .ok (.iload_n 2, 1) := by decide +kernel
theorem d4_9 : decode prog_35_method_2_code 9 = .ok (.if_icmp .eq 30, 3) := by decide +kernel
theorem d4_12 : decode prog_35_method_2_code 12 = .ok (.aload_n 0, 1) := by decide +kernel
theorem d4_13 : decode prog_35_method_2_code 13 = .ok (.getfield 7, 3) := by decide +kernel
theorem d4_16 : decode prog_35_method_2_code 16 = .ok (.iload_n 2, 1) := by decide +kernel
theorem d4_17 : decode prog_35_method_2_code 17 = .ok (.aload_n 0, 1) := by decide +kernel
theorem d4_18 : decode prog_35_method_2_code 18 = .ok (.getfield 7, 3) := by decide +kernel
theorem d4_21 : decode prog_35_method_2_code 21 = .ok (.aload_n 0, 1) := by decide +kernel
theorem d4_22 : decode prog_35_method_2_code 22 = .ok (.getfield 7, 3) := by decide +kernel
theorem d4_25 : decode prog_35_method_2_code 25 = .ok (.iload_n 2, 1) := by decide +kernel
theorem d4_26 : decode prog_35_method_2_code 26 = .ok (.iaload, 1) := by decide +kernel
theorem d4_27 : decode prog_35_method_2_code 27 = .ok (.iaload, 1) := by decide +kernel
theorem d4_28 : decode prog_35_method_2_code 28 = .ok (.iastore, 1) := by decide +kernel
theorem d4_29 : decode prog_35_method_2_code 29 = .ok (.aload_n 0, 1) := by decide +kernel
theorem d4_30 : decode prog_35_method_2_code 30 = .ok (.getfield 7, 3) := by decide +kernel
theorem d4_33 : decode prog_35_method_2_code 33 = .ok (.iload_n 2, 1) := by decide +kernel
theorem d4_34 : decode prog_35_method_2_code 34 = .ok (.iaload, 1) := by decide +kernel
theorem d4_35 : decode prog_35_method_2_code 35 = .ok (.istore_n 2, 1) := by decide +kernel
theorem d4_36 : decode prog_35_method_2_code 36 = .ok (.goto (-34), 3) := by decide +kernel
theorem d4_39 : decode prog_35_method_2_code 39 = .ok (.iload_n 2, 1) := by decide +kernel
theorem d4_40 : decode prog_35_method_2_code 40 = .ok (.ireturn, 1) := by decide +kernel
theorem pn1 : plainFor (⟨"com/example/copse/copse/graph/DisjointSets", "find", "(I)I"⟩ : MethodName) = true := by first | (refine plainFor_of_name ?_; simp [plainName, overriddenIn]; done) | (refine plainFor_of_name ?_; decide +kernel) | decide +kernel
def Q_find (Z : State) (a : Addr) (n : Nat) (pa : Addr) (q : Nat) (h0 : Heap) (n0 : Nat) (v : Option Value) (h : Heap) (L : List Loc) : Prop := ∃ q' : Nat, v = some (.int (Int32.ofNat (rt q n))) ∧ Fr n0 L ∧ Keep h0 h [pa] ∧ (q' < 256) ∧ (okc q' = true) ∧ (∀ i, i < 4 → rt q' i = rt q i) ∧ GA Z h pa .int 4 (fun i => .int (Int32.ofNat (gt q' i)))
theorem ef_find (m : MethodId) (a : Addr) (n : Nat) (pa : Addr) (q : Nat) : entryFrame m #[(.ref a), (.int (Int32.ofNat n))] 3 = mkF m 0 #[.val (.ref a), .val (.int (Int32.ofNat n)), .unset] [] := by first | (simp [entryFrame, mkF, argsToLocals, Value.category]; done) | rfl
abbrev rm_find : Room := ({ frames := 0, cells := 0, slots := 0, locals := 0 } : Room)
set_option maxRecDepth 65536 in
set_option maxHeartbeats 4000000 in
theorem find_loop (l : Launch) (Z : State) (a0 : Array Value) (hw : ∀ d ∈ tables_1, d.before a0 Z = true) {p : Program} {e : Env} {s : State} {m : MethodId} {args : Array Value} {below : List Frame} {meth : Method} {c : Code} (ct : Ct p s m meth c Z "com/example/copse/copse/graph/DisjointSets" "find" prog_35_method_2_code 3 (some FieldType.int)) (x1 : Int32) {a pa : Addr} {n0 : Nat} (hnew : n0 ≤ pa) (hne : a ≠ pa) {h0 : Heap} {qa na : Nat} : ∀ (d q n : Nat), n < 4 → q < 256 → okc q = true → ds q n < d → (∀ i, i < 4 → rt q i = rt qa i) → rt q n = rt qa na →
    ∀ {T0 : State} {locs : List Loc} {h1 : Heap}, Stand p l e rm_find s m args below meth c T0 locs 0 0 → T0.heap = h1 → Fr n0 locs → Fld Z h1 a "com/example/copse/copse/graph/DisjointSets" "parent" "[I" (.ref pa) → GA Z h1 pa .int 4 (fun i => .int (Int32.ofNat (gt q i))) → Keep h0 h1 [pa] →
    Go p e below s (Q_find Z a na pa qa h0 n0) 0 0 T0 (mkF m 2 #[.val (.ref a), .val (.int x1), .val (.int (Int32.ofNat n))] [])
  | 0, _, _, _, _, _, hd, _, _, _, _, _, _, _, _, _, _, _ => absurd hd (Nat.not_lt_zero _)
  | d + 1, q, n, hn, hq, ho, hd, hr, hr2, T0, locs, h1, X0, e0, N0, F, G, K0 => by
    have ct0 := ct
    obtain ⟨hx, hZ, hown, hby, hml, hret, hlk, hnm⟩ := ct
    show Go p e below s _ _ _ T0 (mkF m 2 #[.val (.ref a), .val (.int x1), .val (.int (Int32.ofNat n))] [])
    refine go_st (fun _ kq => XS.aloadN X0.here hx rfl (hb hby d4_2) rfl rfl kq) ?_
    show Go p e below s _ _ _ T0 (mkF m 3 #[.val (.ref a), .val (.int x1), .val (.int (Int32.ofNat n))] [(.ref a)])
    refine go_getF X0 hx hZ hown (host := "") (Or.inl (hw _ (List.mem_of_getElem? (i := 10) rfl))) Via.refl e0 F (hb hby d4_3) rfl rfl ?_
    intro T78 X78 e78
    show Go p e below s _ _ _ T78 (mkF m 6 #[.val (.ref a), .val (.int x1), .val (.int (Int32.ofNat n))] [(.ref pa)])
    refine go_st (fun _ kq => XS.iloadN X78.here hx rfl (hb hby d4_6) rfl kq) ?_
    show Go p e below s _ _ _ T78 (mkF m 7 #[.val (.ref a), .val (.int x1), .val (.int (Int32.ofNat n))] [(.int (Int32.ofNat n)), (.ref pa)])
    refine go_iald X78 hx hZ e78 G (hb hby d4_7) rfl rfl (own_i4 hn) (.int (Int32.ofNat (gt q n))) (by rw [own_c4 hn]) ?_
    show Go p e below s _ _ _ T78 (mkF m 8 #[.val (.ref a), .val (.int x1), .val (.int (Int32.ofNat n))] [(.int (Int32.ofNat (gt q n)))])
    refine go_st (fun _ kq => XS.iloadN X78.here hx rfl (hb hby d4_8) rfl kq) ?_
    show Go p e below s _ _ _ T78 (mkF m 9 #[.val (.ref a), .val (.int x1), .val (.int (Int32.ofNat n))] [(.int (Int32.ofNat n)), (.int (Int32.ofNat (gt q n)))])
    by_cases hc79 : (Int32.ofNat (gt q n)) = (Int32.ofNat n)
    · refine go_st (fun _ kq => XS.icmpYes X78.here hx rfl (pc0 := 9) (pc' := 39) rfl (hb hby d4_9) rfl (XT.ii_eq_t hc79) (by decide) (by decide) kq) ?_
      show Go p e below s _ _ _ T78 (mkF m 39 #[.val (.ref a), .val (.int x1), .val (.int (Int32.ofNat n))] [])
      refine go_st (fun _ kq => XS.iloadN X78.here hx rfl (hb hby d4_39) rfl kq) ?_
      show Go p e below s _ _ _ T78 (mkF m 40 #[.val (.ref a), .val (.int x1), .val (.int (Int32.ofNat n))] [(.int (Int32.ofNat n))])
      exact go_retI X78 hx hlk hret (hb hby d4_40) (by decide) (by decide) (by rw [e78]; exact ⟨q, by rw [← hr2, rt_self ((own_eq4 (gt_lt _ _) hn).mp hc79)], N0, K0, hq, ho, hr, G⟩)
    · refine go_st (fun _ kq => XS.icmpNo X78.here hx rfl (hb hby d4_9) rfl (XT.ii_eq_f hc79) kq) ?_
      show Go p e below s _ _ _ T78 (mkF m 12 #[.val (.ref a), .val (.int x1), .val (.int (Int32.ofNat n))] [])
      refine go_st (fun _ kq => XS.aloadN X78.here hx rfl (hb hby d4_12) rfl rfl kq) ?_
      show Go p e below s _ _ _ T78 (mkF m 13 #[.val (.ref a), .val (.int x1), .val (.int (Int32.ofNat n))] [(.ref a)])
      refine go_getF X78 hx hZ hown (host := "") (Or.inl (hw _ (List.mem_of_getElem? (i := 10) rfl))) Via.refl e78 F (hb hby d4_13) rfl rfl ?_
      intro T80 X80 e80
      show Go p e below s _ _ _ T80 (mkF m 16 #[.val (.ref a), .val (.int x1), .val (.int (Int32.ofNat n))] [(.ref pa)])
      refine go_st (fun _ kq => XS.iloadN X80.here hx rfl (hb hby d4_16) rfl kq) ?_
      show Go p e below s _ _ _ T80 (mkF m 17 #[.val (.ref a), .val (.int x1), .val (.int (Int32.ofNat n))] [(.int (Int32.ofNat n)), (.ref pa)])
      refine go_st (fun _ kq => XS.aloadN X80.here hx rfl (hb hby d4_17) rfl rfl kq) ?_
      show Go p e below s _ _ _ T80 (mkF m 18 #[.val (.ref a), .val (.int x1), .val (.int (Int32.ofNat n))] [(.ref a), (.int (Int32.ofNat n)), (.ref pa)])
      refine go_getF X80 hx hZ hown (host := "") (Or.inl (hw _ (List.mem_of_getElem? (i := 10) rfl))) Via.refl e80 F (hb hby d4_18) rfl rfl ?_
      intro T81 X81 e81
      show Go p e below s _ _ _ T81 (mkF m 21 #[.val (.ref a), .val (.int x1), .val (.int (Int32.ofNat n))] [(.ref pa), (.int (Int32.ofNat n)), (.ref pa)])
      refine go_st (fun _ kq => XS.aloadN X81.here hx rfl (hb hby d4_21) rfl rfl kq) ?_
      show Go p e below s _ _ _ T81 (mkF m 22 #[.val (.ref a), .val (.int x1), .val (.int (Int32.ofNat n))] [(.ref a), (.ref pa), (.int (Int32.ofNat n)), (.ref pa)])
      refine go_getF X81 hx hZ hown (host := "") (Or.inl (hw _ (List.mem_of_getElem? (i := 10) rfl))) Via.refl e81 F (hb hby d4_22) rfl rfl ?_
      intro T82 X82 e82
      show Go p e below s _ _ _ T82 (mkF m 25 #[.val (.ref a), .val (.int x1), .val (.int (Int32.ofNat n))] [(.ref pa), (.ref pa), (.int (Int32.ofNat n)), (.ref pa)])
      refine go_st (fun _ kq => XS.iloadN X82.here hx rfl (hb hby d4_25) rfl kq) ?_
      show Go p e below s _ _ _ T82 (mkF m 26 #[.val (.ref a), .val (.int x1), .val (.int (Int32.ofNat n))] [(.int (Int32.ofNat n)), (.ref pa), (.ref pa), (.int (Int32.ofNat n)), (.ref pa)])
      refine go_iald X82 hx hZ e82 G (hb hby d4_26) rfl rfl (own_i4 hn) (.int (Int32.ofNat (gt q n))) (by rw [own_c4 hn]) ?_
      show Go p e below s _ _ _ T82 (mkF m 27 #[.val (.ref a), .val (.int x1), .val (.int (Int32.ofNat n))] [(.int (Int32.ofNat (gt q n))), (.ref pa), (.int (Int32.ofNat n)), (.ref pa)])
      refine go_iald X82 hx hZ e82 G (hb hby d4_27) rfl rfl (own_i4 (gt_lt _ _)) (.int (Int32.ofNat (gt q (gt q n)))) (by rw [own_c4 (gt_lt _ _)]) ?_
      show Go p e below s _ _ _ T82 (mkF m 28 #[.val (.ref a), .val (.int x1), .val (.int (Int32.ofNat n))] [(.int (Int32.ofNat (gt q (gt q n)))), (.int (Int32.ofNat n)), (.ref pa)])
      refine go_iast X82 hx hZ e82 G (hb hby d4_28) rfl rfl (own_i4 hn) ?_
      intro T83 h83 X83 e83 W83 G83
      have N83 := Fr.snoc X83 N0 hnew
      have A83 : GA Z h83 pa .int 4 (fun i => .int (Int32.ofNat (gt (sv q n (gt q (gt q n))) i))) := (own_st hq hn (gt_lt _ _) (by first | rfl | exact own_c4 hn) G83)
      show Go p e below s _ _ _ T83 (mkF m 29 #[.val (.ref a), .val (.int x1), .val (.int (Int32.ofNat n))] [])
      refine go_st (fun _ kq => XS.aloadN X83.here hx rfl (hb hby d4_29) rfl rfl kq) ?_
      show Go p e below s _ _ _ T83 (mkF m 30 #[.val (.ref a), .val (.int x1), .val (.int (Int32.ofNat n))] [(.ref a)])
      have c84 := Fld.other W83 F (Or.inl hne)
      refine go_getF X83 hx hZ hown (host := "") (Or.inl (hw _ (List.mem_of_getElem? (i := 10) rfl))) Via.refl e83 c84 (hb hby d4_30) rfl rfl ?_
      intro T85 X85 e85
      show Go p e below s _ _ _ T85 (mkF m 33 #[.val (.ref a), .val (.int x1), .val (.int (Int32.ofNat n))] [(.ref pa)])
      refine go_st (fun _ kq => XS.iloadN X85.here hx rfl (hb hby d4_33) rfl kq) ?_
      show Go p e below s _ _ _ T85 (mkF m 34 #[.val (.ref a), .val (.int x1), .val (.int (Int32.ofNat n))] [(.int (Int32.ofNat n)), (.ref pa)])
      refine go_iald X85 hx hZ e85 A83 (hb hby d4_34) rfl rfl (own_i4 hn) (.int (Int32.ofNat (gt (sv q n (gt q (gt q n))) n))) (by rw [own_c4 hn]) ?_
      show Go p e below s _ _ _ T85 (mkF m 35 #[.val (.ref a), .val (.int x1), .val (.int (Int32.ofNat n))] [(.int (Int32.ofNat (gt (sv q n (gt q (gt q n))) n)))])
      rw [show gt (sv q n (gt q (gt q n))) n = gt q (gt q n) from by rw [sv_gt hq hn (gt_lt _ _) hn, if_pos rfl]]
      show Go p e below s _ _ _ T85 (mkF m 35 #[.val (.ref a), .val (.int x1), .val (.int (Int32.ofNat n))] [(.int (Int32.ofNat (gt q (gt q n))))])
      refine go_st (fun _ kq => XS.istoreN X85.here hx rfl (hb hby d4_35) rfl (l' := #[.val (.ref a), .val (.int x1), .val (.int (Int32.ofNat (gt q (gt q n))))]) rfl kq) ?_
      show Go p e below s _ _ _ T85 (mkF m 36 #[.val (.ref a), .val (.int x1), .val (.int (Int32.ofNat (gt q (gt q n))))] [])
      refine go_st (fun _ kq => XS.goto X85.here hx rfl (pc0 := 36) (pc' := 2) rfl (hb hby d4_36) (by decide) (by decide) kq) ?_
      show Go p e below s _ _ _ T85 (mkF m 2 #[.val (.ref a), .val (.int x1), .val (.int (Int32.ofNat (gt q (gt q n))))] [])
      have hh := half_ok hq ho hn (fun hz => hc79 (by rw [hz]))
      have hlt := hh.2.1
      refine find_loop l Z a0 hw ct0 x1 hnew hne d _ _ (gt_lt _ _) (sv_lt hq hn (gt_lt _ _)) hh.1 (by omega) (fun i hi => (hh.2.2 i hi).trans (hr i hi)) ?_ X85 e85 N83 c84 A83 (Keep.wr K0 W83 (Or.inl (by simp)))
      · rw [hh.2.2 _ (gt_lt _ _)]
        exact (own_rt2 hq ho hn).trans hr2
set_option maxRecDepth 65536 in
set_option maxHeartbeats 4000000 in
theorem met_find (l : Launch) (Z : State) (a0 : Array Value) (hw : ∀ d ∈ tables_1, d.before a0 Z = true) (a : Addr) (n : Nat) (pa : Addr) (q : Nat) (h0 : Heap) (n0 : Nat) (Z0 : n0 ≤ h0.size) (P0 : Fld Z h0 a "com/example/copse/copse/graph/DisjointSets" "parent" "[I" (.ref pa)) (P1 : GA Z h0 pa .int 4 (fun i => .int (Int32.ofNat (gt q i)))) (P2 : n < 4) (P3 : a ≠ pa) (P4 : n0 ≤ pa) (P5 : q < 256) (P6 : okc q = true) :
    Met l (⟨"com/example/copse/copse/graph/DisjointSets", "find", "(I)I"⟩ : MethodName) prog_35_method_2_code 3 (some FieldType.int) [] rm_find Z #[(.ref a), (.int (Int32.ofNat n))] h0 (Q_find Z a n pa q h0 n0) rm_find.cells rm_find.slots := by
  refine own_body pn1 ?_
  intro p e s m below meth c s₁ ct X0 e0
  have ct0 := ct
  obtain ⟨hx, hZ, hown, hby, hml, hret, hlk, hnm⟩ := ct
  have lt_pa : pa < h0.size := P1.lt
  have N0 := Fr.nil n0
  refine castGo (ef_find m a n pa q) ?_
  show Go p e below s _ _ _ s₁ (mkF m 0 #[.val (.ref a), .val (.int (Int32.ofNat n)), .unset] [])
  refine go_st (fun _ kq => XS.iloadN X0.here hx rfl (hb hby d4_0) rfl kq) ?_
  show Go p e below s _ _ _ s₁ (mkF m 1 #[.val (.ref a), .val (.int (Int32.ofNat n)), .unset] [(.int (Int32.ofNat n))])
  refine go_st (fun _ kq => XS.istoreN X0.here hx rfl (hb hby d4_1) rfl (l' := #[.val (.ref a), .val (.int (Int32.ofNat n)), .val (.int (Int32.ofNat n))]) rfl kq) ?_
  show Go p e below s _ _ _ s₁ (mkF m 2 #[.val (.ref a), .val (.int (Int32.ofNat n)), .val (.int (Int32.ofNat n))] [])
  exact find_loop l Z a0 hw ct0 _ P4 P3 4 q n P2 P5 P6 (by have := ds_le q n; omega) (fun _ _ => rfl) rfl X0 e0 N0 P0 P1 (Keep.refl _ _)
theorem d3_0 : decode prog_35_method_3_code 0 = .ok (.aload_n 0, 1) := by decide +kernel
theorem d3_1 : decode prog_35_method_3_code 1 = .ok (.iload_n 1, 1) := by decide +kernel
theorem d3_2 : decode prog_35_method_3_code 2 = .ok (.invokevirtual 16, 3) := by decide +kernel
theorem d3_5 : decode prog_35_method_3_code 5 = .ok (.istore_n 3, 1) := by decide +kernel
theorem d3_6 : decode prog_35_method_3_code 6 = .ok (.aload_n 0, 1) := by decide +kernel
theorem d3_7 : decode prog_35_method_3_code 7 = .ok (.iload_n 2, 1) := by decide +kernel
theorem d3_8 : decode prog_35_method_3_code 8 = .ok (.invokevirtual 16, 3) := by decide +kernel
theorem d3_11 : decode prog_35_method_3_code 11 = .ok (.istore 4, 2) := by decide +kernel
theorem d3_13 : decode prog_35_method_3_code 13 = .ok (.iload_n 3, 1) := by decide +kernel
theorem d3_14 : decode prog_35_method_3_code 14 = .ok (.iload 4, 2) := by decide +kernel
theorem d3_16 : decode prog_35_method_3_code 16 = .ok (.if_icmp .ne 5, 3) := by decide +kernel
theorem d3_19 : decode prog_35_method_3_code 19 = .ok (.iload_n 3, 1) := by decide +kernel
theorem d3_20 : decode prog_35_method_3_code 20 = .ok (.ireturn, 1) := by decide +kernel
theorem d3_21 : decode prog_35_method_3_code 21 = .ok (.aload_n 0, 1) := by decide +kernel
theorem d3_22 : decode prog_35_method_3_code 22 = .ok (.getfield 13, 3) := by decide +kernel
theorem d3_25 : decode prog_35_method_3_code 25 = .ok (.iload_n 3, 1) := by decide +kernel
theorem d3_26 : decode prog_35_method_3_code 26 = .ok (.iaload, 1) := by decide +kernel
theorem d3_27 : decode prog_35_method_3_code 27 = .ok (.aload_n 0, 1) := by decide +kernel
theorem d3_28 : decode prog_35_method_3_code 28 = .ok (.getfield 13, 3) := by decide +kernel
theorem d3_31 : decode prog_35_method_3_code 31 = .ok (.iload 4, 2) := by decide +kernel
theorem d3_33 : decode prog_35_method_3_code 33 = .ok (.iaload, 1) := by decide +kernel
theorem d3_34 : decode prog_35_method_3_code 34 = .ok (.if_icmp .lt 7, 3) := by decide +kernel
theorem d3_37 : decode prog_35_method_3_code 37 = .ok (.iload_n 3, 1) := by decide +kernel
theorem d3_38 : decode prog_35_method_3_code 38 = .ok (.goto 5, 3) := by decide +kernel
theorem d3_41 : decode prog_35_method_3_code 41 = .ok (.iload 4, 2) := by decide +kernel
theorem d3_43 : decode prog_35_method_3_code 43 = .ok (.istore 5, 2) := by decide +kernel
theorem d3_45 : decode prog_35_method_3_code 45 = .ok (.iload 5, 2) := by decide +kernel
theorem d3_47 : decode prog_35_method_3_code 47 = .ok (.iload_n 3, 1) := by decide +kernel
theorem d3_48 : decode prog_35_method_3_code 48 = .ok (.if_icmp .ne 8, 3) := by decide +kernel
theorem d3_51 : decode prog_35_method_3_code 51 = .ok (.iload 4, 2) := by decide +kernel
theorem d3_53 : decode prog_35_method_3_code 53 = .ok (.goto 4, 3) := by decide +kernel
theorem d3_56 : decode prog_35_method_3_code 56 = .ok (.iload_n 3, 1) := by decide +kernel
theorem d3_57 : decode prog_35_method_3_code 57 = .ok (.istore 6, 2) := by decide +kernel
theorem d3_59 : decode prog_35_method_3_code 59 = .ok (.aload_n 0, 1) := by decide +kernel
theorem d3_60 : decode prog_35_method_3_code 60 = .ok (.getfield 7, 3) := by decide +kernel
theorem d3_63 : decode prog_35_method_3_code 63 = .ok (.iload 6, 2) := by decide +kernel
theorem d3_65 : decode prog_35_method_3_code 65 = .ok (.iload 5, 2) := by decide +kernel
theorem d3_67 : decode prog_35_method_3_code 67 = .ok (.iastore, 1) := by decide +kernel
theorem d3_68 : decode prog_35_method_3_code 68 = .ok (.aload_n 0, 1) := by decide +kernel
theorem d3_69 : decode prog_35_method_3_code 69 = .ok (.getfield 13, 3) := by decide +kernel
theorem d3_72 : decode prog_35_method_3_code 72 = .ok (.iload 5, 2) := by decide +kernel
theorem d3_74 : decode prog_35_method_3_code 74 = .ok (.dup2, 1) := by decide +kernel
theorem d3_75 : decode prog_35_method_3_code 75 = .ok (.iaload, 1) := by decide +kernel
theorem d3_76 : decode prog_35_method_3_code 76 = .ok (.aload_n 0, 1) := by decide +kernel
theorem d3_77 : decode prog_35_method_3_code 77 = .ok (.getfield 13, 3) := by decide +kernel
theorem d3_80 : decode prog_35_method_3_code 80 = .ok (.iload 6, 2) := by decide +kernel
theorem d3_82 : decode prog_35_method_3_code 82 = .ok (.iaload, 1) := by decide +kernel
theorem d3_83 : decode prog_35_method_3_code 83 = .ok (.iadd, 1) := by decide +kernel
theorem d3_84 : decode prog_35_method_3_code 84 = .ok (.iastore, 1) := by decide +kernel
theorem d3_85 : decode prog_35_method_3_code 85 = .ok (.iload 5, 2) := by decide +kernel
theorem d3_87 : decode prog_35_method_3_code 87 = .ok (.ireturn, 1) := by decide +kernel
theorem pn2 : plainFor (⟨"com/example/copse/copse/graph/DisjointSets", "union", "(II)I"⟩ : MethodName) = true := by first | (refine plainFor_of_name ?_; simp [plainName, overriddenIn]; done) | (refine plainFor_of_name ?_; decide +kernel) | decide +kernel
def Q_uni (Z : State) (a : Addr) (n : Nat) (k : Nat) (pa : Addr) (sa : Addr) (q : Nat) (g : Nat → Int32) (h0 : Heap) (n0 : Nat) (v : Option Value) (h : Heap) (L : List Loc) : Prop := ∃ q' : Nat, ∃ g' : Nat → Int32, ∃ r : Nat, v = some (.int (Int32.ofNat r)) ∧ Fr n0 L ∧ Keep h0 h [pa, sa] ∧ (Un q n k q' r) ∧ GA Z h pa .int 4 (fun i => .int (Int32.ofNat (gt q' i))) ∧ GA Z h sa .int 4 (fun i => .int (g' i))
theorem pd0 : parseMethodDescriptor "(I)I" = some ⟨[.int], (some .int)⟩ := by decide +kernel
theorem ef_uni (m : MethodId) (a : Addr) (n : Nat) (k : Nat) (pa : Addr) (sa : Addr) (q : Nat) (g : Nat → Int32) : entryFrame m #[(.ref a), (.int (Int32.ofNat n)), (.int (Int32.ofNat k))] 7 = mkF m 0 #[.val (.ref a), .val (.int (Int32.ofNat n)), .val (.int (Int32.ofNat k)), .unset, .unset, .unset, .unset] [] := by first | (simp [entryFrame, mkF, argsToLocals, Value.category]; done) | rfl
abbrev rm_uni : Room := ({ frames := 1, cells := 0, slots := 0, locals := 14 } : Room)
set_option maxRecDepth 65536 in
set_option maxHeartbeats 4000000 in
theorem met_uni (l : Launch) (Z : State) (a0 : Array Value) (hw : ∀ d ∈ tables_1, d.before a0 Z = true) (a : Addr) (n : Nat) (k : Nat) (pa : Addr) (sa : Addr) (q : Nat) (g : Nat → Int32) (h0 : Heap) (n0 : Nat) (Z0 : n0 ≤ h0.size) (P0 : Fld Z h0 a "com/example/copse/copse/graph/DisjointSets" "parent" "[I" (.ref pa)) (P1 : Fld Z h0 a "com/example/copse/copse/graph/DisjointSets" "size" "[I" (.ref sa)) (P2 : Exa Z h0 a "com/example/copse/copse/graph/DisjointSets") (P3 : GA Z h0 pa .int 4 (fun i => .int (Int32.ofNat (gt q i)))) (P4 : GA Z h0 sa .int 4 (fun i => .int (g i))) (P5 : n < 4) (P6 : k < 4) (P7 : q < 256) (P8 : okc q = true) (P9 : a ≠ pa) (P10 : a ≠ sa) (P11 : pa ≠ sa) (P12 : n0 ≤ pa) (P13 : n0 ≤ sa) :
    Met l (⟨"com/example/copse/copse/graph/DisjointSets", "union", "(II)I"⟩ : MethodName) prog_35_method_3_code 7 (some FieldType.int) [] rm_uni Z #[(.ref a), (.int (Int32.ofNat n)), (.int (Int32.ofNat k))] h0 (Q_uni Z a n k pa sa q g h0 n0) rm_uni.cells rm_uni.slots := by
  refine own_body pn2 ?_
  intro p e s m below meth c s₁ ct X0 e0
  have ct0 := ct
  obtain ⟨hx, hZ, hown, hby, hml, hret, hlk, hnm⟩ := ct
  have lt_a : a < h0.size := P2.lt
  have lt_pa : pa < h0.size := P3.lt
  have lt_sa : sa < h0.size := P4.lt
  have N0 := Fr.nil n0
  refine castGo (ef_uni m a n k pa sa q g) ?_
  show Go p e below s _ _ _ s₁ (mkF m 0 #[.val (.ref a), .val (.int (Int32.ofNat n)), .val (.int (Int32.ofNat k)), .unset, .unset, .unset, .unset] [])
  refine go_st (fun _ kq => XS.aloadN X0.here hx rfl (hb hby d3_0) rfl rfl kq) ?_
  show Go p e below s _ _ _ s₁ (mkF m 1 #[.val (.ref a), .val (.int (Int32.ofNat n)), .val (.int (Int32.ofNat k)), .unset, .unset, .unset, .unset] [(.ref a)])
  refine go_st (fun _ kq => XS.iloadN X0.here hx rfl (hb hby d3_1) rfl kq) ?_
  show Go p e below s _ _ _ s₁ (mkF m 2 #[.val (.ref a), .val (.int (Int32.ofNat n)), .val (.int (Int32.ofNat k)), .unset, .unset, .unset, .unset] [(.int (Int32.ofNat n)), (.ref a)])
  refine go_callV X0 hx hZ hml hown (hw _ (List.mem_of_getElem? (i := 19) rfl)) (hw _ (List.mem_of_getElem? (i := 20) rfl)) (notFace_of_selects (args := #[]) (mvT hZ (hw _ (List.mem_of_getElem? (i := 22) rfl)))) (hw _ (List.mem_of_getElem? (i := 22) rfl)) (hw _ (List.mem_of_getElem? (i := 21) rfl)) (hw _ (List.mem_of_getElem? (i := 23) rfl)) (hw _ (List.mem_of_getElem? (i := 2) rfl)) e0 P2 (argsL := [(.int (Int32.ofNat n))]) (rest := []) (W := 0) (met_find l Z a0 hw a n pa q h0 n0 Z0 P0 P3 P5 P9 P12 P7 P8) (hb hby d3_2) rfl rfl rfl (lenOf pd0 rfl) (by show 2 * 0 + _ ≤ _; exact Nat.le_of_eq rfl) (by decide) (by decide) (by decide) (by decide) (by decide) ?_
  intro T86 v86 L86 X86 q86
  obtain ⟨q'_86, rfl, M86, K86, p86_0, p86_1, p86_2, f86_0⟩ := q86
  have N86 := Fr.app N0 M86
  show Go p e below s _ _ _ T86 (mkF m 5 #[.val (.ref a), .val (.int (Int32.ofNat n)), .val (.int (Int32.ofNat k)), .unset, .unset, .unset, .unset] [(.int (Int32.ofNat (rt q n)))])
  refine go_st (fun _ kq => XS.istoreN X86.here hx rfl (hb hby d3_5) rfl (l' := #[.val (.ref a), .val (.int (Int32.ofNat n)), .val (.int (Int32.ofNat k)), .val (.int (Int32.ofNat (rt q n))), .unset, .unset, .unset]) rfl kq) ?_
  show Go p e below s _ _ _ T86 (mkF m 6 #[.val (.ref a), .val (.int (Int32.ofNat n)), .val (.int (Int32.ofNat k)), .val (.int (Int32.ofNat (rt q n))), .unset, .unset, .unset] [])
  refine go_st (fun _ kq => XS.aloadN X86.here hx rfl (hb hby d3_6) rfl rfl kq) ?_
  show Go p e below s _ _ _ T86 (mkF m 7 #[.val (.ref a), .val (.int (Int32.ofNat n)), .val (.int (Int32.ofNat k)), .val (.int (Int32.ofNat (rt q n))), .unset, .unset, .unset] [(.ref a)])
  refine go_st (fun _ kq => XS.iloadN X86.here hx rfl (hb hby d3_7) rfl kq) ?_
  show Go p e below s _ _ _ T86 (mkF m 8 #[.val (.ref a), .val (.int (Int32.ofNat n)), .val (.int (Int32.ofNat k)), .val (.int (Int32.ofNat (rt q n))), .unset, .unset, .unset] [(.int (Int32.ofNat k)), (.ref a)])
  have c88 := Fld.keep P0 K86 (ninS P9 nin0)
  have z89 : n0 ≤ T86.heap.size := Nat.le_trans Z0 K86.1
  have c90 := Exa.keep P2 K86
  refine go_callV X86 hx hZ hml hown (hw _ (List.mem_of_getElem? (i := 19) rfl)) (hw _ (List.mem_of_getElem? (i := 20) rfl)) (notFace_of_selects (args := #[]) (mvT hZ (hw _ (List.mem_of_getElem? (i := 22) rfl)))) (hw _ (List.mem_of_getElem? (i := 22) rfl)) (hw _ (List.mem_of_getElem? (i := 21) rfl)) (hw _ (List.mem_of_getElem? (i := 23) rfl)) (hw _ (List.mem_of_getElem? (i := 2) rfl)) rfl c90 (argsL := [(.int (Int32.ofNat k))]) (rest := []) (W := 0) (met_find l Z a0 hw a k pa q'_86 T86.heap n0 z89 c88 f86_0 P6 P9 P12 p86_0 p86_1) (hb hby d3_8) rfl rfl rfl (lenOf pd0 rfl) (by show 2 * 0 + _ ≤ _; exact Nat.le_of_eq rfl) (by decide) (by decide) (by decide) (by decide) (by decide) ?_
  intro T87 v87 L87 X87 q87
  obtain ⟨q'_87, rfl, M87, K87, p87_0, p87_1, p87_2, f87_0⟩ := q87
  have N87 := Fr.app N86 M87
  show Go p e below s _ _ _ T87 (mkF m 11 #[.val (.ref a), .val (.int (Int32.ofNat n)), .val (.int (Int32.ofNat k)), .val (.int (Int32.ofNat (rt q n))), .unset, .unset, .unset] [(.int (Int32.ofNat (rt q'_86 k)))])
  refine go_st (fun _ kq => XS.istore X87.here hx rfl (hb hby d3_11) rfl (l' := #[.val (.ref a), .val (.int (Int32.ofNat n)), .val (.int (Int32.ofNat k)), .val (.int (Int32.ofNat (rt q n))), .val (.int (Int32.ofNat (rt q'_86 k))), .unset, .unset]) rfl kq) ?_
  show Go p e below s _ _ _ T87 (mkF m 13 #[.val (.ref a), .val (.int (Int32.ofNat n)), .val (.int (Int32.ofNat k)), .val (.int (Int32.ofNat (rt q n))), .val (.int (Int32.ofNat (rt q'_86 k))), .unset, .unset] [])
  refine go_st (fun _ kq => XS.iloadN X87.here hx rfl (hb hby d3_13) rfl kq) ?_
  show Go p e below s _ _ _ T87 (mkF m 14 #[.val (.ref a), .val (.int (Int32.ofNat n)), .val (.int (Int32.ofNat k)), .val (.int (Int32.ofNat (rt q n))), .val (.int (Int32.ofNat (rt q'_86 k))), .unset, .unset] [(.int (Int32.ofNat (rt q n)))])
  refine go_st (fun _ kq => XS.iload X87.here hx rfl (hb hby d3_14) rfl kq) ?_
  show Go p e below s _ _ _ T87 (mkF m 16 #[.val (.ref a), .val (.int (Int32.ofNat n)), .val (.int (Int32.ofNat k)), .val (.int (Int32.ofNat (rt q n))), .val (.int (Int32.ofNat (rt q'_86 k))), .unset, .unset] [(.int (Int32.ofNat (rt q'_86 k))), (.int (Int32.ofNat (rt q n)))])
  by_cases hc91 : (Int32.ofNat (rt q n)) = (Int32.ofNat (rt q'_86 k))
  · refine go_st (fun _ kq => XS.icmpNo X87.here hx rfl (hb hby d3_16) rfl (XT.ii_ne_f hc91) kq) ?_
    show Go p e below s _ _ _ T87 (mkF m 19 #[.val (.ref a), .val (.int (Int32.ofNat n)), .val (.int (Int32.ofNat k)), .val (.int (Int32.ofNat (rt q n))), .val (.int (Int32.ofNat (rt q'_86 k))), .unset, .unset] [])
    refine go_st (fun _ kq => XS.iloadN X87.here hx rfl (hb hby d3_19) rfl kq) ?_
    show Go p e below s _ _ _ T87 (mkF m 20 #[.val (.ref a), .val (.int (Int32.ofNat n)), .val (.int (Int32.ofNat k)), .val (.int (Int32.ofNat (rt q n))), .val (.int (Int32.ofNat (rt q'_86 k))), .unset, .unset] [(.int (Int32.ofNat (rt q n)))])
    have c92 := GA.keep P4 K86 (ninS (Ne.symm P11) nin0)
    have c93 := GA.keep c92 K87 (ninS (Ne.symm P11) nin0)
    exact go_retI X87 hx hlk hret (hb hby d3_20) (by decide) (by decide) ⟨q'_87, g, (rt q n), rfl, N87, (Keep.trans (Keep.trans (Keep.refl h0 [pa, sa]) K86 (allS (Or.inl (by simp)) all0)) K87 (allS (Or.inl (by simp)) all0)), (own_un_eq P5 P6 p87_1 p87_0 p86_2 p87_2 (own_eqr hc91)), f87_0, c93⟩
  · refine go_st (fun _ kq => XS.icmpYes X87.here hx rfl (pc0 := 16) (pc' := 21) rfl (hb hby d3_16) rfl (XT.ii_ne_t hc91) (by decide) (by decide) kq) ?_
    show Go p e below s _ _ _ T87 (mkF m 21 #[.val (.ref a), .val (.int (Int32.ofNat n)), .val (.int (Int32.ofNat k)), .val (.int (Int32.ofNat (rt q n))), .val (.int (Int32.ofNat (rt q'_86 k))), .unset, .unset] [])
    refine go_st (fun _ kq => XS.aloadN X87.here hx rfl (hb hby d3_21) rfl rfl kq) ?_
    show Go p e below s _ _ _ T87 (mkF m 22 #[.val (.ref a), .val (.int (Int32.ofNat n)), .val (.int (Int32.ofNat k)), .val (.int (Int32.ofNat (rt q n))), .val (.int (Int32.ofNat (rt q'_86 k))), .unset, .unset] [(.ref a)])
    have c94 := Fld.keep P1 K86 (ninS P9 nin0)
    have c95 := Fld.keep c94 K87 (ninS P9 nin0)
    refine go_getF X87 hx hZ hown (host := "") (Or.inl (hw _ (List.mem_of_getElem? (i := 12) rfl))) Via.refl rfl c95 (hb hby d3_22) rfl rfl ?_
    intro T96 X96 e96
    show Go p e below s _ _ _ T96 (mkF m 25 #[.val (.ref a), .val (.int (Int32.ofNat n)), .val (.int (Int32.ofNat k)), .val (.int (Int32.ofNat (rt q n))), .val (.int (Int32.ofNat (rt q'_86 k))), .unset, .unset] [(.ref sa)])
    refine go_st (fun _ kq => XS.iloadN X96.here hx rfl (hb hby d3_25) rfl kq) ?_
    show Go p e below s _ _ _ T96 (mkF m 26 #[.val (.ref a), .val (.int (Int32.ofNat n)), .val (.int (Int32.ofNat k)), .val (.int (Int32.ofNat (rt q n))), .val (.int (Int32.ofNat (rt q'_86 k))), .unset, .unset] [(.int (Int32.ofNat (rt q n))), (.ref sa)])
    have c97 := GA.keep P4 K86 (ninS (Ne.symm P11) nin0)
    have c98 := GA.keep c97 K87 (ninS (Ne.symm P11) nin0)
    refine go_iald X96 hx hZ e96 c98 (hb hby d3_26) rfl rfl (own_i4 (rt_lt _ _)) (.int (g (rt q n))) (by rw [own_c4 (rt_lt _ _)]) ?_
    show Go p e below s _ _ _ T96 (mkF m 27 #[.val (.ref a), .val (.int (Int32.ofNat n)), .val (.int (Int32.ofNat k)), .val (.int (Int32.ofNat (rt q n))), .val (.int (Int32.ofNat (rt q'_86 k))), .unset, .unset] [(.int (g (rt q n)))])
    refine go_st (fun _ kq => XS.aloadN X96.here hx rfl (hb hby d3_27) rfl rfl kq) ?_
    show Go p e below s _ _ _ T96 (mkF m 28 #[.val (.ref a), .val (.int (Int32.ofNat n)), .val (.int (Int32.ofNat k)), .val (.int (Int32.ofNat (rt q n))), .val (.int (Int32.ofNat (rt q'_86 k))), .unset, .unset] [(.ref a), (.int (g (rt q n)))])
    refine go_getF X96 hx hZ hown (host := "") (Or.inl (hw _ (List.mem_of_getElem? (i := 12) rfl))) Via.refl e96 c95 (hb hby d3_28) rfl rfl ?_
    intro T99 X99 e99
    show Go p e below s _ _ _ T99 (mkF m 31 #[.val (.ref a), .val (.int (Int32.ofNat n)), .val (.int (Int32.ofNat k)), .val (.int (Int32.ofNat (rt q n))), .val (.int (Int32.ofNat (rt q'_86 k))), .unset, .unset] [(.ref sa), (.int (g (rt q n)))])
    refine go_st (fun _ kq => XS.iload X99.here hx rfl (hb hby d3_31) rfl kq) ?_
    show Go p e below s _ _ _ T99 (mkF m 33 #[.val (.ref a), .val (.int (Int32.ofNat n)), .val (.int (Int32.ofNat k)), .val (.int (Int32.ofNat (rt q n))), .val (.int (Int32.ofNat (rt q'_86 k))), .unset, .unset] [(.int (Int32.ofNat (rt q'_86 k))), (.ref sa), (.int (g (rt q n)))])
    refine go_iald X99 hx hZ e99 c98 (hb hby d3_33) rfl rfl (own_i4 (rt_lt _ _)) (.int (g (rt q'_86 k))) (by rw [own_c4 (rt_lt _ _)]) ?_
    show Go p e below s _ _ _ T99 (mkF m 34 #[.val (.ref a), .val (.int (Int32.ofNat n)), .val (.int (Int32.ofNat k)), .val (.int (Int32.ofNat (rt q n))), .val (.int (Int32.ofNat (rt q'_86 k))), .unset, .unset] [(.int (g (rt q'_86 k))), (.int (g (rt q n)))])
    by_cases hc100 : (g (rt q n)) < (g (rt q'_86 k))
    · refine go_st (fun _ kq => XS.icmpYes X99.here hx rfl (pc0 := 34) (pc' := 41) rfl (hb hby d3_34) rfl (XT.ii_lt_t hc100) (by decide) (by decide) kq) ?_
      show Go p e below s _ _ _ T99 (mkF m 41 #[.val (.ref a), .val (.int (Int32.ofNat n)), .val (.int (Int32.ofNat k)), .val (.int (Int32.ofNat (rt q n))), .val (.int (Int32.ofNat (rt q'_86 k))), .unset, .unset] [])
      refine go_st (fun _ kq => XS.iload X99.here hx rfl (hb hby d3_41) rfl kq) ?_
      show Go p e below s _ _ _ T99 (mkF m 43 #[.val (.ref a), .val (.int (Int32.ofNat n)), .val (.int (Int32.ofNat k)), .val (.int (Int32.ofNat (rt q n))), .val (.int (Int32.ofNat (rt q'_86 k))), .unset, .unset] [(.int (Int32.ofNat (rt q'_86 k)))])
      refine go_st (fun _ kq => XS.istore X99.here hx rfl (hb hby d3_43) rfl (l' := #[.val (.ref a), .val (.int (Int32.ofNat n)), .val (.int (Int32.ofNat k)), .val (.int (Int32.ofNat (rt q n))), .val (.int (Int32.ofNat (rt q'_86 k))), .val (.int (Int32.ofNat (rt q'_86 k))), .unset]) rfl kq) ?_
      show Go p e below s _ _ _ T99 (mkF m 45 #[.val (.ref a), .val (.int (Int32.ofNat n)), .val (.int (Int32.ofNat k)), .val (.int (Int32.ofNat (rt q n))), .val (.int (Int32.ofNat (rt q'_86 k))), .val (.int (Int32.ofNat (rt q'_86 k))), .unset] [])
      refine go_st (fun _ kq => XS.iload X99.here hx rfl (hb hby d3_45) rfl kq) ?_
      show Go p e below s _ _ _ T99 (mkF m 47 #[.val (.ref a), .val (.int (Int32.ofNat n)), .val (.int (Int32.ofNat k)), .val (.int (Int32.ofNat (rt q n))), .val (.int (Int32.ofNat (rt q'_86 k))), .val (.int (Int32.ofNat (rt q'_86 k))), .unset] [(.int (Int32.ofNat (rt q'_86 k)))])
      refine go_st (fun _ kq => XS.iloadN X99.here hx rfl (hb hby d3_47) rfl kq) ?_
      show Go p e below s _ _ _ T99 (mkF m 48 #[.val (.ref a), .val (.int (Int32.ofNat n)), .val (.int (Int32.ofNat k)), .val (.int (Int32.ofNat (rt q n))), .val (.int (Int32.ofNat (rt q'_86 k))), .val (.int (Int32.ofNat (rt q'_86 k))), .unset] [(.int (Int32.ofNat (rt q n))), (.int (Int32.ofNat (rt q'_86 k)))])
      have hb101 : ¬ ((Int32.ofNat (rt q'_86 k)) = (Int32.ofNat (rt q n))) := by exact fun hz => hc91 hz.symm
      refine go_st (fun _ kq => XS.icmpYes X99.here hx rfl (pc0 := 48) (pc' := 56) rfl (hb hby d3_48) rfl (XT.ii_ne_t hb101) (by decide) (by decide) kq) ?_
      show Go p e below s _ _ _ T99 (mkF m 56 #[.val (.ref a), .val (.int (Int32.ofNat n)), .val (.int (Int32.ofNat k)), .val (.int (Int32.ofNat (rt q n))), .val (.int (Int32.ofNat (rt q'_86 k))), .val (.int (Int32.ofNat (rt q'_86 k))), .unset] [])
      refine go_st (fun _ kq => XS.iloadN X99.here hx rfl (hb hby d3_56) rfl kq) ?_
      show Go p e below s _ _ _ T99 (mkF m 57 #[.val (.ref a), .val (.int (Int32.ofNat n)), .val (.int (Int32.ofNat k)), .val (.int (Int32.ofNat (rt q n))), .val (.int (Int32.ofNat (rt q'_86 k))), .val (.int (Int32.ofNat (rt q'_86 k))), .unset] [(.int (Int32.ofNat (rt q n)))])
      refine go_st (fun _ kq => XS.istore X99.here hx rfl (hb hby d3_57) rfl (l' := #[.val (.ref a), .val (.int (Int32.ofNat n)), .val (.int (Int32.ofNat k)), .val (.int (Int32.ofNat (rt q n))), .val (.int (Int32.ofNat (rt q'_86 k))), .val (.int (Int32.ofNat (rt q'_86 k))), .val (.int (Int32.ofNat (rt q n)))]) rfl kq) ?_
      show Go p e below s _ _ _ T99 (mkF m 59 #[.val (.ref a), .val (.int (Int32.ofNat n)), .val (.int (Int32.ofNat k)), .val (.int (Int32.ofNat (rt q n))), .val (.int (Int32.ofNat (rt q'_86 k))), .val (.int (Int32.ofNat (rt q'_86 k))), .val (.int (Int32.ofNat (rt q n)))] [])
      refine go_st (fun _ kq => XS.aloadN X99.here hx rfl (hb hby d3_59) rfl rfl kq) ?_
      show Go p e below s _ _ _ T99 (mkF m 60 #[.val (.ref a), .val (.int (Int32.ofNat n)), .val (.int (Int32.ofNat k)), .val (.int (Int32.ofNat (rt q n))), .val (.int (Int32.ofNat (rt q'_86 k))), .val (.int (Int32.ofNat (rt q'_86 k))), .val (.int (Int32.ofNat (rt q n)))] [(.ref a)])
      have c102 := Fld.keep c88 K87 (ninS P9 nin0)
      refine go_getF X99 hx hZ hown (host := "") (Or.inl (hw _ (List.mem_of_getElem? (i := 10) rfl))) Via.refl e99 c102 (hb hby d3_60) rfl rfl ?_
      intro T103 X103 e103
      show Go p e below s _ _ _ T103 (mkF m 63 #[.val (.ref a), .val (.int (Int32.ofNat n)), .val (.int (Int32.ofNat k)), .val (.int (Int32.ofNat (rt q n))), .val (.int (Int32.ofNat (rt q'_86 k))), .val (.int (Int32.ofNat (rt q'_86 k))), .val (.int (Int32.ofNat (rt q n)))] [(.ref pa)])
      refine go_st (fun _ kq => XS.iload X103.here hx rfl (hb hby d3_63) rfl kq) ?_
      show Go p e below s _ _ _ T103 (mkF m 65 #[.val (.ref a), .val (.int (Int32.ofNat n)), .val (.int (Int32.ofNat k)), .val (.int (Int32.ofNat (rt q n))), .val (.int (Int32.ofNat (rt q'_86 k))), .val (.int (Int32.ofNat (rt q'_86 k))), .val (.int (Int32.ofNat (rt q n)))] [(.int (Int32.ofNat (rt q n))), (.ref pa)])
      refine go_st (fun _ kq => XS.iload X103.here hx rfl (hb hby d3_65) rfl kq) ?_
      show Go p e below s _ _ _ T103 (mkF m 67 #[.val (.ref a), .val (.int (Int32.ofNat n)), .val (.int (Int32.ofNat k)), .val (.int (Int32.ofNat (rt q n))), .val (.int (Int32.ofNat (rt q'_86 k))), .val (.int (Int32.ofNat (rt q'_86 k))), .val (.int (Int32.ofNat (rt q n)))] [(.int (Int32.ofNat (rt q'_86 k))), (.int (Int32.ofNat (rt q n))), (.ref pa)])
      refine go_iast X103 hx hZ e103 f87_0 (hb hby d3_67) rfl rfl (own_i4 (rt_lt _ _)) ?_
      intro T104 h104 X104 e104 W104 G104
      have N104 := Fr.snoc X104 N87 P12
      have A104 : GA Z h104 pa .int 4 (fun i => .int (Int32.ofNat (gt (sv q'_87 (rt q n) (rt q'_86 k)) i))) := (own_st p87_0 (rt_lt _ _) (rt_lt _ _) (by first | rfl | exact own_c4 (rt_lt _ _)) G104)
      show Go p e below s _ _ _ T104 (mkF m 68 #[.val (.ref a), .val (.int (Int32.ofNat n)), .val (.int (Int32.ofNat k)), .val (.int (Int32.ofNat (rt q n))), .val (.int (Int32.ofNat (rt q'_86 k))), .val (.int (Int32.ofNat (rt q'_86 k))), .val (.int (Int32.ofNat (rt q n)))] [])
      refine go_st (fun _ kq => XS.aloadN X104.here hx rfl (hb hby d3_68) rfl rfl kq) ?_
      show Go p e below s _ _ _ T104 (mkF m 69 #[.val (.ref a), .val (.int (Int32.ofNat n)), .val (.int (Int32.ofNat k)), .val (.int (Int32.ofNat (rt q n))), .val (.int (Int32.ofNat (rt q'_86 k))), .val (.int (Int32.ofNat (rt q'_86 k))), .val (.int (Int32.ofNat (rt q n)))] [(.ref a)])
      have c105 := Fld.other W104 c95 (Or.inl P9)
      refine go_getF X104 hx hZ hown (host := "") (Or.inl (hw _ (List.mem_of_getElem? (i := 12) rfl))) Via.refl e104 c105 (hb hby d3_69) rfl rfl ?_
      intro T106 X106 e106
      show Go p e below s _ _ _ T106 (mkF m 72 #[.val (.ref a), .val (.int (Int32.ofNat n)), .val (.int (Int32.ofNat k)), .val (.int (Int32.ofNat (rt q n))), .val (.int (Int32.ofNat (rt q'_86 k))), .val (.int (Int32.ofNat (rt q'_86 k))), .val (.int (Int32.ofNat (rt q n)))] [(.ref sa)])
      refine go_st (fun _ kq => XS.iload X106.here hx rfl (hb hby d3_72) rfl kq) ?_
      show Go p e below s _ _ _ T106 (mkF m 74 #[.val (.ref a), .val (.int (Int32.ofNat n)), .val (.int (Int32.ofNat k)), .val (.int (Int32.ofNat (rt q n))), .val (.int (Int32.ofNat (rt q'_86 k))), .val (.int (Int32.ofNat (rt q'_86 k))), .val (.int (Int32.ofNat (rt q n)))] [(.int (Int32.ofNat (rt q'_86 k))), (.ref sa)])
      refine go_st (fun _ kq => XT.dup2 X106.here hx rfl (hb hby d3_74) rfl rfl rfl kq) ?_
      show Go p e below s _ _ _ T106 (mkF m 75 #[.val (.ref a), .val (.int (Int32.ofNat n)), .val (.int (Int32.ofNat k)), .val (.int (Int32.ofNat (rt q n))), .val (.int (Int32.ofNat (rt q'_86 k))), .val (.int (Int32.ofNat (rt q'_86 k))), .val (.int (Int32.ofNat (rt q n)))] [(.int (Int32.ofNat (rt q'_86 k))), (.ref sa), (.int (Int32.ofNat (rt q'_86 k))), (.ref sa)])
      have c107 := c98.other W104 (Ne.symm P11)
      refine go_iald X106 hx hZ e106 c107 (hb hby d3_75) rfl rfl (own_i4 (rt_lt _ _)) (.int (g (rt q'_86 k))) (by rw [own_c4 (rt_lt _ _)]) ?_
      show Go p e below s _ _ _ T106 (mkF m 76 #[.val (.ref a), .val (.int (Int32.ofNat n)), .val (.int (Int32.ofNat k)), .val (.int (Int32.ofNat (rt q n))), .val (.int (Int32.ofNat (rt q'_86 k))), .val (.int (Int32.ofNat (rt q'_86 k))), .val (.int (Int32.ofNat (rt q n)))] [(.int (g (rt q'_86 k))), (.int (Int32.ofNat (rt q'_86 k))), (.ref sa)])
      refine go_st (fun _ kq => XS.aloadN X106.here hx rfl (hb hby d3_76) rfl rfl kq) ?_
      show Go p e below s _ _ _ T106 (mkF m 77 #[.val (.ref a), .val (.int (Int32.ofNat n)), .val (.int (Int32.ofNat k)), .val (.int (Int32.ofNat (rt q n))), .val (.int (Int32.ofNat (rt q'_86 k))), .val (.int (Int32.ofNat (rt q'_86 k))), .val (.int (Int32.ofNat (rt q n)))] [(.ref a), (.int (g (rt q'_86 k))), (.int (Int32.ofNat (rt q'_86 k))), (.ref sa)])
      refine go_getF X106 hx hZ hown (host := "") (Or.inl (hw _ (List.mem_of_getElem? (i := 12) rfl))) Via.refl e106 c105 (hb hby d3_77) rfl rfl ?_
      intro T108 X108 e108
      show Go p e below s _ _ _ T108 (mkF m 80 #[.val (.ref a), .val (.int (Int32.ofNat n)), .val (.int (Int32.ofNat k)), .val (.int (Int32.ofNat (rt q n))), .val (.int (Int32.ofNat (rt q'_86 k))), .val (.int (Int32.ofNat (rt q'_86 k))), .val (.int (Int32.ofNat (rt q n)))] [(.ref sa), (.int (g (rt q'_86 k))), (.int (Int32.ofNat (rt q'_86 k))), (.ref sa)])
      refine go_st (fun _ kq => XS.iload X108.here hx rfl (hb hby d3_80) rfl kq) ?_
      show Go p e below s _ _ _ T108 (mkF m 82 #[.val (.ref a), .val (.int (Int32.ofNat n)), .val (.int (Int32.ofNat k)), .val (.int (Int32.ofNat (rt q n))), .val (.int (Int32.ofNat (rt q'_86 k))), .val (.int (Int32.ofNat (rt q'_86 k))), .val (.int (Int32.ofNat (rt q n)))] [(.int (Int32.ofNat (rt q n))), (.ref sa), (.int (g (rt q'_86 k))), (.int (Int32.ofNat (rt q'_86 k))), (.ref sa)])
      refine go_iald X108 hx hZ e108 c107 (hb hby d3_82) rfl rfl (own_i4 (rt_lt _ _)) (.int (g (rt q n))) (by rw [own_c4 (rt_lt _ _)]) ?_
      show Go p e below s _ _ _ T108 (mkF m 83 #[.val (.ref a), .val (.int (Int32.ofNat n)), .val (.int (Int32.ofNat k)), .val (.int (Int32.ofNat (rt q n))), .val (.int (Int32.ofNat (rt q'_86 k))), .val (.int (Int32.ofNat (rt q'_86 k))), .val (.int (Int32.ofNat (rt q n)))] [(.int (g (rt q n))), (.int (g (rt q'_86 k))), (.int (Int32.ofNat (rt q'_86 k))), (.ref sa)])
      refine go_st (fun _ kq => XS.iadd X108.here hx rfl (hb hby d3_83) rfl kq) ?_
      show Go p e below s _ _ _ T108 (mkF m 84 #[.val (.ref a), .val (.int (Int32.ofNat n)), .val (.int (Int32.ofNat k)), .val (.int (Int32.ofNat (rt q n))), .val (.int (Int32.ofNat (rt q'_86 k))), .val (.int (Int32.ofNat (rt q'_86 k))), .val (.int (Int32.ofNat (rt q n)))] [(.int ((g (rt q'_86 k)) + (g (rt q n)))), (.int (Int32.ofNat (rt q'_86 k))), (.ref sa)])
      refine go_iast X108 hx hZ e108 c107 (hb hby d3_84) rfl rfl (own_i4 (rt_lt _ _)) ?_
      intro T109 h109 X109 e109 W109 G109
      have N109 := Fr.snoc X109 N104 P13
      have A109 : GA Z h109 sa .int 4 (fun i => .int ((fun i => if i = (rt q'_86 k) then ((g (rt q'_86 k)) + (g (rt q n))) else g i) i)) := (G109.congr (own_sg (by first | rfl | exact own_c4 (rt_lt _ _))))
      show Go p e below s _ _ _ T109 (mkF m 85 #[.val (.ref a), .val (.int (Int32.ofNat n)), .val (.int (Int32.ofNat k)), .val (.int (Int32.ofNat (rt q n))), .val (.int (Int32.ofNat (rt q'_86 k))), .val (.int (Int32.ofNat (rt q'_86 k))), .val (.int (Int32.ofNat (rt q n)))] [])
      refine go_st (fun _ kq => XS.iload X109.here hx rfl (hb hby d3_85) rfl kq) ?_
      show Go p e below s _ _ _ T109 (mkF m 87 #[.val (.ref a), .val (.int (Int32.ofNat n)), .val (.int (Int32.ofNat k)), .val (.int (Int32.ofNat (rt q n))), .val (.int (Int32.ofNat (rt q'_86 k))), .val (.int (Int32.ofNat (rt q'_86 k))), .val (.int (Int32.ofNat (rt q n)))] [(.int (Int32.ofNat (rt q'_86 k)))])
      have c110 := A104.other W109 P11
      exact go_retI X109 hx hlk hret (hb hby d3_87) (by decide) (by decide) (by rw [e109]; exact ⟨(sv q'_87 (rt q n) (rt q'_86 k)), (fun i => if i = (rt q'_86 k) then ((g (rt q'_86 k)) + (g (rt q n))) else g i), (rt q'_86 k), rfl, N109, (Keep.wr (Keep.wr (Keep.trans (Keep.trans (Keep.refl h0 [pa, sa]) K86 (allS (Or.inl (by simp)) all0)) K87 (allS (Or.inl (by simp)) all0)) W104 (Or.inl (by simp))) W109 (Or.inl (by simp))), (own_un_b P5 P6 P8 p87_1 p87_0 p86_2 p87_2 (own_ner hc91)), c110, A109⟩)
    · refine go_st (fun _ kq => XS.icmpNo X99.here hx rfl (hb hby d3_34) rfl (XT.ii_lt_f hc100) kq) ?_
      show Go p e below s _ _ _ T99 (mkF m 37 #[.val (.ref a), .val (.int (Int32.ofNat n)), .val (.int (Int32.ofNat k)), .val (.int (Int32.ofNat (rt q n))), .val (.int (Int32.ofNat (rt q'_86 k))), .unset, .unset] [])
      refine go_st (fun _ kq => XS.iloadN X99.here hx rfl (hb hby d3_37) rfl kq) ?_
      show Go p e below s _ _ _ T99 (mkF m 38 #[.val (.ref a), .val (.int (Int32.ofNat n)), .val (.int (Int32.ofNat k)), .val (.int (Int32.ofNat (rt q n))), .val (.int (Int32.ofNat (rt q'_86 k))), .unset, .unset] [(.int (Int32.ofNat (rt q n)))])
      refine go_st (fun _ kq => XS.goto X99.here hx rfl (pc0 := 38) (pc' := 43) rfl (hb hby d3_38) (by decide) (by decide) kq) ?_
      show Go p e below s _ _ _ T99 (mkF m 43 #[.val (.ref a), .val (.int (Int32.ofNat n)), .val (.int (Int32.ofNat k)), .val (.int (Int32.ofNat (rt q n))), .val (.int (Int32.ofNat (rt q'_86 k))), .unset, .unset] [(.int (Int32.ofNat (rt q n)))])
      refine go_st (fun _ kq => XS.istore X99.here hx rfl (hb hby d3_43) rfl (l' := #[.val (.ref a), .val (.int (Int32.ofNat n)), .val (.int (Int32.ofNat k)), .val (.int (Int32.ofNat (rt q n))), .val (.int (Int32.ofNat (rt q'_86 k))), .val (.int (Int32.ofNat (rt q n))), .unset]) rfl kq) ?_
      show Go p e below s _ _ _ T99 (mkF m 45 #[.val (.ref a), .val (.int (Int32.ofNat n)), .val (.int (Int32.ofNat k)), .val (.int (Int32.ofNat (rt q n))), .val (.int (Int32.ofNat (rt q'_86 k))), .val (.int (Int32.ofNat (rt q n))), .unset] [])
      refine go_st (fun _ kq => XS.iload X99.here hx rfl (hb hby d3_45) rfl kq) ?_
      show Go p e below s _ _ _ T99 (mkF m 47 #[.val (.ref a), .val (.int (Int32.ofNat n)), .val (.int (Int32.ofNat k)), .val (.int (Int32.ofNat (rt q n))), .val (.int (Int32.ofNat (rt q'_86 k))), .val (.int (Int32.ofNat (rt q n))), .unset] [(.int (Int32.ofNat (rt q n)))])
      refine go_st (fun _ kq => XS.iloadN X99.here hx rfl (hb hby d3_47) rfl kq) ?_
      show Go p e below s _ _ _ T99 (mkF m 48 #[.val (.ref a), .val (.int (Int32.ofNat n)), .val (.int (Int32.ofNat k)), .val (.int (Int32.ofNat (rt q n))), .val (.int (Int32.ofNat (rt q'_86 k))), .val (.int (Int32.ofNat (rt q n))), .unset] [(.int (Int32.ofNat (rt q n))), (.int (Int32.ofNat (rt q n)))])
      refine go_st (fun _ kq => XS.icmpNo X99.here hx rfl (hb hby d3_48) rfl (XT.ii_ne_f rfl) kq) ?_
      show Go p e below s _ _ _ T99 (mkF m 51 #[.val (.ref a), .val (.int (Int32.ofNat n)), .val (.int (Int32.ofNat k)), .val (.int (Int32.ofNat (rt q n))), .val (.int (Int32.ofNat (rt q'_86 k))), .val (.int (Int32.ofNat (rt q n))), .unset] [])
      refine go_st (fun _ kq => XS.iload X99.here hx rfl (hb hby d3_51) rfl kq) ?_
      show Go p e below s _ _ _ T99 (mkF m 53 #[.val (.ref a), .val (.int (Int32.ofNat n)), .val (.int (Int32.ofNat k)), .val (.int (Int32.ofNat (rt q n))), .val (.int (Int32.ofNat (rt q'_86 k))), .val (.int (Int32.ofNat (rt q n))), .unset] [(.int (Int32.ofNat (rt q'_86 k)))])
      refine go_st (fun _ kq => XS.goto X99.here hx rfl (pc0 := 53) (pc' := 57) rfl (hb hby d3_53) (by decide) (by decide) kq) ?_
      show Go p e below s _ _ _ T99 (mkF m 57 #[.val (.ref a), .val (.int (Int32.ofNat n)), .val (.int (Int32.ofNat k)), .val (.int (Int32.ofNat (rt q n))), .val (.int (Int32.ofNat (rt q'_86 k))), .val (.int (Int32.ofNat (rt q n))), .unset] [(.int (Int32.ofNat (rt q'_86 k)))])
      refine go_st (fun _ kq => XS.istore X99.here hx rfl (hb hby d3_57) rfl (l' := #[.val (.ref a), .val (.int (Int32.ofNat n)), .val (.int (Int32.ofNat k)), .val (.int (Int32.ofNat (rt q n))), .val (.int (Int32.ofNat (rt q'_86 k))), .val (.int (Int32.ofNat (rt q n))), .val (.int (Int32.ofNat (rt q'_86 k)))]) rfl kq) ?_
      show Go p e below s _ _ _ T99 (mkF m 59 #[.val (.ref a), .val (.int (Int32.ofNat n)), .val (.int (Int32.ofNat k)), .val (.int (Int32.ofNat (rt q n))), .val (.int (Int32.ofNat (rt q'_86 k))), .val (.int (Int32.ofNat (rt q n))), .val (.int (Int32.ofNat (rt q'_86 k)))] [])
      refine go_st (fun _ kq => XS.aloadN X99.here hx rfl (hb hby d3_59) rfl rfl kq) ?_
      show Go p e below s _ _ _ T99 (mkF m 60 #[.val (.ref a), .val (.int (Int32.ofNat n)), .val (.int (Int32.ofNat k)), .val (.int (Int32.ofNat (rt q n))), .val (.int (Int32.ofNat (rt q'_86 k))), .val (.int (Int32.ofNat (rt q n))), .val (.int (Int32.ofNat (rt q'_86 k)))] [(.ref a)])
      have c111 := Fld.keep c88 K87 (ninS P9 nin0)
      refine go_getF X99 hx hZ hown (host := "") (Or.inl (hw _ (List.mem_of_getElem? (i := 10) rfl))) Via.refl e99 c111 (hb hby d3_60) rfl rfl ?_
      intro T112 X112 e112
      show Go p e below s _ _ _ T112 (mkF m 63 #[.val (.ref a), .val (.int (Int32.ofNat n)), .val (.int (Int32.ofNat k)), .val (.int (Int32.ofNat (rt q n))), .val (.int (Int32.ofNat (rt q'_86 k))), .val (.int (Int32.ofNat (rt q n))), .val (.int (Int32.ofNat (rt q'_86 k)))] [(.ref pa)])
      refine go_st (fun _ kq => XS.iload X112.here hx rfl (hb hby d3_63) rfl kq) ?_
      show Go p e below s _ _ _ T112 (mkF m 65 #[.val (.ref a), .val (.int (Int32.ofNat n)), .val (.int (Int32.ofNat k)), .val (.int (Int32.ofNat (rt q n))), .val (.int (Int32.ofNat (rt q'_86 k))), .val (.int (Int32.ofNat (rt q n))), .val (.int (Int32.ofNat (rt q'_86 k)))] [(.int (Int32.ofNat (rt q'_86 k))), (.ref pa)])
      refine go_st (fun _ kq => XS.iload X112.here hx rfl (hb hby d3_65) rfl kq) ?_
      show Go p e below s _ _ _ T112 (mkF m 67 #[.val (.ref a), .val (.int (Int32.ofNat n)), .val (.int (Int32.ofNat k)), .val (.int (Int32.ofNat (rt q n))), .val (.int (Int32.ofNat (rt q'_86 k))), .val (.int (Int32.ofNat (rt q n))), .val (.int (Int32.ofNat (rt q'_86 k)))] [(.int (Int32.ofNat (rt q n))), (.int (Int32.ofNat (rt q'_86 k))), (.ref pa)])
      refine go_iast X112 hx hZ e112 f87_0 (hb hby d3_67) rfl rfl (own_i4 (rt_lt _ _)) ?_
      intro T113 h113 X113 e113 W113 G113
      have N113 := Fr.snoc X113 N87 P12
      have A113 : GA Z h113 pa .int 4 (fun i => .int (Int32.ofNat (gt (sv q'_87 (rt q'_86 k) (rt q n)) i))) := (own_st p87_0 (rt_lt _ _) (rt_lt _ _) (by first | rfl | exact own_c4 (rt_lt _ _)) G113)
      show Go p e below s _ _ _ T113 (mkF m 68 #[.val (.ref a), .val (.int (Int32.ofNat n)), .val (.int (Int32.ofNat k)), .val (.int (Int32.ofNat (rt q n))), .val (.int (Int32.ofNat (rt q'_86 k))), .val (.int (Int32.ofNat (rt q n))), .val (.int (Int32.ofNat (rt q'_86 k)))] [])
      refine go_st (fun _ kq => XS.aloadN X113.here hx rfl (hb hby d3_68) rfl rfl kq) ?_
      show Go p e below s _ _ _ T113 (mkF m 69 #[.val (.ref a), .val (.int (Int32.ofNat n)), .val (.int (Int32.ofNat k)), .val (.int (Int32.ofNat (rt q n))), .val (.int (Int32.ofNat (rt q'_86 k))), .val (.int (Int32.ofNat (rt q n))), .val (.int (Int32.ofNat (rt q'_86 k)))] [(.ref a)])
      have c114 := Fld.other W113 c95 (Or.inl P9)
      refine go_getF X113 hx hZ hown (host := "") (Or.inl (hw _ (List.mem_of_getElem? (i := 12) rfl))) Via.refl e113 c114 (hb hby d3_69) rfl rfl ?_
      intro T115 X115 e115
      show Go p e below s _ _ _ T115 (mkF m 72 #[.val (.ref a), .val (.int (Int32.ofNat n)), .val (.int (Int32.ofNat k)), .val (.int (Int32.ofNat (rt q n))), .val (.int (Int32.ofNat (rt q'_86 k))), .val (.int (Int32.ofNat (rt q n))), .val (.int (Int32.ofNat (rt q'_86 k)))] [(.ref sa)])
      refine go_st (fun _ kq => XS.iload X115.here hx rfl (hb hby d3_72) rfl kq) ?_
      show Go p e below s _ _ _ T115 (mkF m 74 #[.val (.ref a), .val (.int (Int32.ofNat n)), .val (.int (Int32.ofNat k)), .val (.int (Int32.ofNat (rt q n))), .val (.int (Int32.ofNat (rt q'_86 k))), .val (.int (Int32.ofNat (rt q n))), .val (.int (Int32.ofNat (rt q'_86 k)))] [(.int (Int32.ofNat (rt q n))), (.ref sa)])
      refine go_st (fun _ kq => XT.dup2 X115.here hx rfl (hb hby d3_74) rfl rfl rfl kq) ?_
      show Go p e below s _ _ _ T115 (mkF m 75 #[.val (.ref a), .val (.int (Int32.ofNat n)), .val (.int (Int32.ofNat k)), .val (.int (Int32.ofNat (rt q n))), .val (.int (Int32.ofNat (rt q'_86 k))), .val (.int (Int32.ofNat (rt q n))), .val (.int (Int32.ofNat (rt q'_86 k)))] [(.int (Int32.ofNat (rt q n))), (.ref sa), (.int (Int32.ofNat (rt q n))), (.ref sa)])
      have c116 := c98.other W113 (Ne.symm P11)
      refine go_iald X115 hx hZ e115 c116 (hb hby d3_75) rfl rfl (own_i4 (rt_lt _ _)) (.int (g (rt q n))) (by rw [own_c4 (rt_lt _ _)]) ?_
      show Go p e below s _ _ _ T115 (mkF m 76 #[.val (.ref a), .val (.int (Int32.ofNat n)), .val (.int (Int32.ofNat k)), .val (.int (Int32.ofNat (rt q n))), .val (.int (Int32.ofNat (rt q'_86 k))), .val (.int (Int32.ofNat (rt q n))), .val (.int (Int32.ofNat (rt q'_86 k)))] [(.int (g (rt q n))), (.int (Int32.ofNat (rt q n))), (.ref sa)])
      refine go_st (fun _ kq => XS.aloadN X115.here hx rfl (hb hby d3_76) rfl rfl kq) ?_
      show Go p e below s _ _ _ T115 (mkF m 77 #[.val (.ref a), .val (.int (Int32.ofNat n)), .val (.int (Int32.ofNat k)), .val (.int (Int32.ofNat (rt q n))), .val (.int (Int32.ofNat (rt q'_86 k))), .val (.int (Int32.ofNat (rt q n))), .val (.int (Int32.ofNat (rt q'_86 k)))] [(.ref a), (.int (g (rt q n))), (.int (Int32.ofNat (rt q n))), (.ref sa)])
      refine go_getF X115 hx hZ hown (host := "") (Or.inl (hw _ (List.mem_of_getElem? (i := 12) rfl))) Via.refl e115 c114 (hb hby d3_77) rfl rfl ?_
      intro T117 X117 e117
      show Go p e below s _ _ _ T117 (mkF m 80 #[.val (.ref a), .val (.int (Int32.ofNat n)), .val (.int (Int32.ofNat k)), .val (.int (Int32.ofNat (rt q n))), .val (.int (Int32.ofNat (rt q'_86 k))), .val (.int (Int32.ofNat (rt q n))), .val (.int (Int32.ofNat (rt q'_86 k)))] [(.ref sa), (.int (g (rt q n))), (.int (Int32.ofNat (rt q n))), (.ref sa)])
      refine go_st (fun _ kq => XS.iload X117.here hx rfl (hb hby d3_80) rfl kq) ?_
      show Go p e below s _ _ _ T117 (mkF m 82 #[.val (.ref a), .val (.int (Int32.ofNat n)), .val (.int (Int32.ofNat k)), .val (.int (Int32.ofNat (rt q n))), .val (.int (Int32.ofNat (rt q'_86 k))), .val (.int (Int32.ofNat (rt q n))), .val (.int (Int32.ofNat (rt q'_86 k)))] [(.int (Int32.ofNat (rt q'_86 k))), (.ref sa), (.int (g (rt q n))), (.int (Int32.ofNat (rt q n))), (.ref sa)])
      refine go_iald X117 hx hZ e117 c116 (hb hby d3_82) rfl rfl (own_i4 (rt_lt _ _)) (.int (g (rt q'_86 k))) (by rw [own_c4 (rt_lt _ _)]) ?_
      show Go p e below s _ _ _ T117 (mkF m 83 #[.val (.ref a), .val (.int (Int32.ofNat n)), .val (.int (Int32.ofNat k)), .val (.int (Int32.ofNat (rt q n))), .val (.int (Int32.ofNat (rt q'_86 k))), .val (.int (Int32.ofNat (rt q n))), .val (.int (Int32.ofNat (rt q'_86 k)))] [(.int (g (rt q'_86 k))), (.int (g (rt q n))), (.int (Int32.ofNat (rt q n))), (.ref sa)])
      refine go_st (fun _ kq => XS.iadd X117.here hx rfl (hb hby d3_83) rfl kq) ?_
      show Go p e below s _ _ _ T117 (mkF m 84 #[.val (.ref a), .val (.int (Int32.ofNat n)), .val (.int (Int32.ofNat k)), .val (.int (Int32.ofNat (rt q n))), .val (.int (Int32.ofNat (rt q'_86 k))), .val (.int (Int32.ofNat (rt q n))), .val (.int (Int32.ofNat (rt q'_86 k)))] [(.int ((g (rt q n)) + (g (rt q'_86 k)))), (.int (Int32.ofNat (rt q n))), (.ref sa)])
      refine go_iast X117 hx hZ e117 c116 (hb hby d3_84) rfl rfl (own_i4 (rt_lt _ _)) ?_
      intro T118 h118 X118 e118 W118 G118
      have N118 := Fr.snoc X118 N113 P13
      have A118 : GA Z h118 sa .int 4 (fun i => .int ((fun i => if i = (rt q n) then ((g (rt q n)) + (g (rt q'_86 k))) else g i) i)) := (G118.congr (own_sg (by first | rfl | exact own_c4 (rt_lt _ _))))
      show Go p e below s _ _ _ T118 (mkF m 85 #[.val (.ref a), .val (.int (Int32.ofNat n)), .val (.int (Int32.ofNat k)), .val (.int (Int32.ofNat (rt q n))), .val (.int (Int32.ofNat (rt q'_86 k))), .val (.int (Int32.ofNat (rt q n))), .val (.int (Int32.ofNat (rt q'_86 k)))] [])
      refine go_st (fun _ kq => XS.iload X118.here hx rfl (hb hby d3_85) rfl kq) ?_
      show Go p e below s _ _ _ T118 (mkF m 87 #[.val (.ref a), .val (.int (Int32.ofNat n)), .val (.int (Int32.ofNat k)), .val (.int (Int32.ofNat (rt q n))), .val (.int (Int32.ofNat (rt q'_86 k))), .val (.int (Int32.ofNat (rt q n))), .val (.int (Int32.ofNat (rt q'_86 k)))] [(.int (Int32.ofNat (rt q n)))])
      have c119 := A113.other W118 P11
      exact go_retI X118 hx hlk hret (hb hby d3_87) (by decide) (by decide) (by rw [e118]; exact ⟨(sv q'_87 (rt q'_86 k) (rt q n)), (fun i => if i = (rt q n) then ((g (rt q n)) + (g (rt q'_86 k))) else g i), (rt q n), rfl, N118, (Keep.wr (Keep.wr (Keep.trans (Keep.trans (Keep.refl h0 [pa, sa]) K86 (allS (Or.inl (by simp)) all0)) K87 (allS (Or.inl (by simp)) all0)) W113 (Or.inl (by simp))) W118 (Or.inl (by simp))), (own_un_a P5 P6 P8 p87_1 p87_0 p86_2 p87_2 (own_ner hc91)), c119, A118⟩)
theorem d5_0 : decode method_2_code 0 = .ok (.aload_n 0, 1) := by decide +kernel
theorem d5_1 : decode method_2_code 1 = .ok (.iload_n 2, 1) := by decide +kernel
theorem d5_2 : decode method_2_code 2 = .ok (.iaload, 1) := by decide +kernel
theorem d5_3 : decode method_2_code 3 = .ok (.istore_n 3, 1) := by decide +kernel
theorem d5_4 : decode method_2_code 4 = .ok (.aload_n 0, 1) := by decide +kernel
theorem d5_5 : decode method_2_code 5 = .ok (.iload_n 1, 1) := by decide +kernel
theorem d5_6 : decode method_2_code 6 = .ok (.iaload, 1) := by decide +kernel
theorem d5_7 : decode method_2_code 7 = .ok (.istore 4, 2) := by decide +kernel
theorem d5_9 : decode method_2_code 9 = .ok (.aload_n 0, 1) := by decide +kernel
theorem d5_10 : decode method_2_code 10 = .ok (.iconst 0, 1) := by decide +kernel
theorem d5_11 : decode method_2_code 11 = .ok (.iaload, 1) := by decide +kernel
theorem d5_12 : decode method_2_code 12 = .ok (.iload_n 3, 1) := by decide +kernel
theorem d5_13 : decode method_2_code 13 = .ok (.if_icmp .ne 8, 3) := by decide +kernel
theorem d5_16 : decode method_2_code 16 = .ok (.aload_n 0, 1) := by decide +kernel
theorem d5_17 : decode method_2_code 17 = .ok (.iconst 0, 1) := by decide +kernel
theorem d5_18 : decode method_2_code 18 = .ok (.iload 4, 2) := by decide +kernel
theorem d5_20 : decode method_2_code 20 = .ok (.iastore, 1) := by decide +kernel
theorem d5_21 : decode method_2_code 21 = .ok (.aload_n 0, 1) := by decide +kernel
theorem d5_22 : decode method_2_code 22 = .ok (.iconst 1, 1) := by decide +kernel
theorem d5_23 : decode method_2_code 23 = .ok (.iaload, 1) := by decide +kernel
theorem d5_24 : decode method_2_code 24 = .ok (.iload_n 3, 1) := by decide +kernel
theorem d5_25 : decode method_2_code 25 = .ok (.if_icmp .ne 8, 3) := by decide +kernel
theorem d5_28 : decode method_2_code 28 = .ok (.aload_n 0, 1) := by decide +kernel
theorem d5_29 : decode method_2_code 29 = .ok (.iconst 1, 1) := by decide +kernel
theorem d5_30 : decode method_2_code 30 = .ok (.iload 4, 2) := by decide +kernel
theorem d5_32 : decode method_2_code 32 = .ok (.iastore, 1) := by decide +kernel
theorem d5_33 : decode method_2_code 33 = .ok (.aload_n 0, 1) := by decide +kernel
theorem d5_34 : decode method_2_code 34 = .ok (.iconst 2, 1) := by decide +kernel
theorem d5_35 : decode method_2_code 35 = .ok (.iaload, 1) := by decide +kernel
theorem d5_36 : decode method_2_code 36 = .ok (.iload_n 3, 1) := by decide +kernel
theorem d5_37 : decode method_2_code 37 = .ok (.if_icmp .ne 8, 3) := by decide +kernel
theorem d5_40 : decode method_2_code 40 = .ok (.aload_n 0, 1) := by decide +kernel
theorem d5_41 : decode method_2_code 41 = .ok (.iconst 2, 1) := by decide +kernel
theorem d5_42 : decode method_2_code 42 = .ok (.iload 4, 2) := by decide +kernel
theorem d5_44 : decode method_2_code 44 = .ok (.iastore, 1) := by decide +kernel
theorem d5_45 : decode method_2_code 45 = .ok (.aload_n 0, 1) := by decide +kernel
theorem d5_46 : decode method_2_code 46 = .ok (.iconst 3, 1) := by decide +kernel
theorem d5_47 : decode method_2_code 47 = .ok (.iaload, 1) := by decide +kernel
theorem d5_48 : decode method_2_code 48 = .ok (.iload_n 3, 1) := by decide +kernel
theorem d5_49 : decode method_2_code 49 = .ok (.if_icmp .ne 8, 3) := by decide +kernel
theorem d5_52 : decode method_2_code 52 = .ok (.aload_n 0, 1) := by decide +kernel
theorem d5_53 : decode method_2_code 53 = .ok (.iconst 3, 1) := by decide +kernel
theorem d5_54 : decode method_2_code 54 = .ok (.iload 4, 2) := by decide +kernel
theorem d5_56 : decode method_2_code 56 = .ok (.iastore, 1) := by decide +kernel
theorem d5_57 : decode method_2_code 57 = .ok (.return_, 1) := by decide +kernel
theorem pn3 : plainFor (⟨"com/example/copse/copse/graph/DisjointSetsFindPinLaw", "merge", "([III)V"⟩ : MethodName) = true := by first | (refine plainFor_of_name ?_; simp [plainName, overriddenIn]; done) | (refine plainFor_of_name ?_; decide +kernel) | decide +kernel
def Q_mer (Z : State) (la : Addr) (n : Nat) (k : Nat) (d : Nat) (h0 : Heap) (n0 : Nat) (v : Option Value) (h : Heap) (L : List Loc) : Prop := ∃ d' : Nat, v = none ∧ Fr n0 L ∧ Keep h0 h [la] ∧ (d' < 256) ∧ (∀ i, i < 4 → gt d' i = if gt d i = gt d k then gt d n else gt d i) ∧ GA Z h la .int 4 (fun i => .int (Int32.ofNat (gt d' i)))
theorem ef_mer (m : MethodId) (la : Addr) (n : Nat) (k : Nat) (d : Nat) : entryFrame m #[(.ref la), (.int (Int32.ofNat n)), (.int (Int32.ofNat k))] 5 = mkF m 0 #[.val (.ref la), .val (.int (Int32.ofNat n)), .val (.int (Int32.ofNat k)), .unset, .unset] [] := by first | (simp [entryFrame, mkF, argsToLocals, Value.category]; done) | rfl
abbrev rm_mer : Room := ({ frames := 0, cells := 0, slots := 0, locals := 0 } : Room)
set_option maxRecDepth 65536 in
set_option maxHeartbeats 4000000 in
theorem met_mer (l : Launch) (Z : State) (a0 : Array Value) (hw : ∀ d ∈ tables_1, d.before a0 Z = true) (la : Addr) (n : Nat) (k : Nat) (d : Nat) (h0 : Heap) (n0 : Nat) (Z0 : n0 ≤ h0.size) (P0 : GA Z h0 la .int 4 (fun i => .int (Int32.ofNat (gt d i)))) (P1 : n < 4) (P2 : k < 4) (P3 : d < 256) (P4 : n0 ≤ la) :
    Met l (⟨"com/example/copse/copse/graph/DisjointSetsFindPinLaw", "merge", "([III)V"⟩ : MethodName) method_2_code 5 none [] rm_mer Z #[(.ref la), (.int (Int32.ofNat n)), (.int (Int32.ofNat k))] h0 (Q_mer Z la n k d h0 n0) rm_mer.cells rm_mer.slots := by
  refine own_body pn3 ?_
  intro p e s m below meth c s₁ ct X0 e0
  have ct0 := ct
  obtain ⟨hx, hZ, hown, hby, hml, hret, hlk, hnm⟩ := ct
  have lt_la : la < h0.size := P0.lt
  have N0 := Fr.nil n0
  refine castGo (ef_mer m la n k d) ?_
  show Go p e below s _ _ _ s₁ (mkF m 0 #[.val (.ref la), .val (.int (Int32.ofNat n)), .val (.int (Int32.ofNat k)), .unset, .unset] [])
  have H0 := own_mg0 d n k
  refine go_st (fun _ kq => XS.aloadN X0.here hx rfl (hb hby d5_0) rfl rfl kq) ?_
  show Go p e below s _ _ _ s₁ (mkF m 1 #[.val (.ref la), .val (.int (Int32.ofNat n)), .val (.int (Int32.ofNat k)), .unset, .unset] [(.ref la)])
  refine go_st (fun _ kq => XS.iloadN X0.here hx rfl (hb hby d5_1) rfl kq) ?_
  show Go p e below s _ _ _ s₁ (mkF m 2 #[.val (.ref la), .val (.int (Int32.ofNat n)), .val (.int (Int32.ofNat k)), .unset, .unset] [(.int (Int32.ofNat k)), (.ref la)])
  refine go_iald X0 hx hZ e0 P0 (hb hby d5_2) rfl rfl (own_i4 P2) (.int (Int32.ofNat (gt d k))) (by rw [own_c4 P2]) ?_
  show Go p e below s _ _ _ s₁ (mkF m 3 #[.val (.ref la), .val (.int (Int32.ofNat n)), .val (.int (Int32.ofNat k)), .unset, .unset] [(.int (Int32.ofNat (gt d k)))])
  refine go_st (fun _ kq => XS.istoreN X0.here hx rfl (hb hby d5_3) rfl (l' := #[.val (.ref la), .val (.int (Int32.ofNat n)), .val (.int (Int32.ofNat k)), .val (.int (Int32.ofNat (gt d k))), .unset]) rfl kq) ?_
  show Go p e below s _ _ _ s₁ (mkF m 4 #[.val (.ref la), .val (.int (Int32.ofNat n)), .val (.int (Int32.ofNat k)), .val (.int (Int32.ofNat (gt d k))), .unset] [])
  refine go_st (fun _ kq => XS.aloadN X0.here hx rfl (hb hby d5_4) rfl rfl kq) ?_
  show Go p e below s _ _ _ s₁ (mkF m 5 #[.val (.ref la), .val (.int (Int32.ofNat n)), .val (.int (Int32.ofNat k)), .val (.int (Int32.ofNat (gt d k))), .unset] [(.ref la)])
  refine go_st (fun _ kq => XS.iloadN X0.here hx rfl (hb hby d5_5) rfl kq) ?_
  show Go p e below s _ _ _ s₁ (mkF m 6 #[.val (.ref la), .val (.int (Int32.ofNat n)), .val (.int (Int32.ofNat k)), .val (.int (Int32.ofNat (gt d k))), .unset] [(.int (Int32.ofNat n)), (.ref la)])
  refine go_iald X0 hx hZ e0 P0 (hb hby d5_6) rfl rfl (own_i4 P1) (.int (Int32.ofNat (gt d n))) (by rw [own_c4 P1]) ?_
  show Go p e below s _ _ _ s₁ (mkF m 7 #[.val (.ref la), .val (.int (Int32.ofNat n)), .val (.int (Int32.ofNat k)), .val (.int (Int32.ofNat (gt d k))), .unset] [(.int (Int32.ofNat (gt d n)))])
  refine go_st (fun _ kq => XS.istore X0.here hx rfl (hb hby d5_7) rfl (l' := #[.val (.ref la), .val (.int (Int32.ofNat n)), .val (.int (Int32.ofNat k)), .val (.int (Int32.ofNat (gt d k))), .val (.int (Int32.ofNat (gt d n)))]) rfl kq) ?_
  show Go p e below s _ _ _ s₁ (mkF m 9 #[.val (.ref la), .val (.int (Int32.ofNat n)), .val (.int (Int32.ofNat k)), .val (.int (Int32.ofNat (gt d k))), .val (.int (Int32.ofNat (gt d n)))] [])
  refine go_st (fun _ kq => XS.aloadN X0.here hx rfl (hb hby d5_9) rfl rfl kq) ?_
  show Go p e below s _ _ _ s₁ (mkF m 10 #[.val (.ref la), .val (.int (Int32.ofNat n)), .val (.int (Int32.ofNat k)), .val (.int (Int32.ofNat (gt d k))), .val (.int (Int32.ofNat (gt d n)))] [(.ref la)])
  refine go_st (fun _ kq => XT.iconstV X0.here hx rfl (0 : Int32) (hb hby d5_10) (by decide) kq) ?_
  show Go p e below s _ _ _ s₁ (mkF m 11 #[.val (.ref la), .val (.int (Int32.ofNat n)), .val (.int (Int32.ofNat k)), .val (.int (Int32.ofNat (gt d k))), .val (.int (Int32.ofNat (gt d n)))] [(.int (0 : Int32)), (.ref la)])
  refine go_iald X0 hx hZ e0 P0 (hb hby d5_11) rfl rfl (by decide) (.int (Int32.ofNat (gt d 0))) rfl ?_
  show Go p e below s _ _ _ s₁ (mkF m 12 #[.val (.ref la), .val (.int (Int32.ofNat n)), .val (.int (Int32.ofNat k)), .val (.int (Int32.ofNat (gt d k))), .val (.int (Int32.ofNat (gt d n)))] [(.int (Int32.ofNat (gt d 0)))])
  refine go_st (fun _ kq => XS.iloadN X0.here hx rfl (hb hby d5_12) rfl kq) ?_
  show Go p e below s _ _ _ s₁ (mkF m 13 #[.val (.ref la), .val (.int (Int32.ofNat n)), .val (.int (Int32.ofNat k)), .val (.int (Int32.ofNat (gt d k))), .val (.int (Int32.ofNat (gt d n)))] [(.int (Int32.ofNat (gt d k))), (.int (Int32.ofNat (gt d 0)))])
  by_cases hc120 : (Int32.ofNat (gt d 0)) = (Int32.ofNat (gt d k))
  · refine go_st (fun _ kq => XS.icmpNo X0.here hx rfl (hb hby d5_13) rfl (XT.ii_ne_f hc120) kq) ?_
    show Go p e below s _ _ _ s₁ (mkF m 16 #[.val (.ref la), .val (.int (Int32.ofNat n)), .val (.int (Int32.ofNat k)), .val (.int (Int32.ofNat (gt d k))), .val (.int (Int32.ofNat (gt d n)))] [])
    refine go_st (fun _ kq => XS.aloadN X0.here hx rfl (hb hby d5_16) rfl rfl kq) ?_
    show Go p e below s _ _ _ s₁ (mkF m 17 #[.val (.ref la), .val (.int (Int32.ofNat n)), .val (.int (Int32.ofNat k)), .val (.int (Int32.ofNat (gt d k))), .val (.int (Int32.ofNat (gt d n)))] [(.ref la)])
    refine go_st (fun _ kq => XT.iconstV X0.here hx rfl (0 : Int32) (hb hby d5_17) (by decide) kq) ?_
    show Go p e below s _ _ _ s₁ (mkF m 18 #[.val (.ref la), .val (.int (Int32.ofNat n)), .val (.int (Int32.ofNat k)), .val (.int (Int32.ofNat (gt d k))), .val (.int (Int32.ofNat (gt d n)))] [(.int (0 : Int32)), (.ref la)])
    refine go_st (fun _ kq => XS.iload X0.here hx rfl (hb hby d5_18) rfl kq) ?_
    show Go p e below s _ _ _ s₁ (mkF m 20 #[.val (.ref la), .val (.int (Int32.ofNat n)), .val (.int (Int32.ofNat k)), .val (.int (Int32.ofNat (gt d k))), .val (.int (Int32.ofNat (gt d n)))] [(.int (Int32.ofNat (gt d n))), (.int (0 : Int32)), (.ref la)])
    refine go_iast X0 hx hZ e0 P0 (hb hby d5_20) rfl rfl (by decide) ?_
    intro T121 h121 X121 e121 W121 G121
    have N121 := Fr.snoc X121 N0 P4
    have A121 : GA Z h121 la .int 4 (fun i => .int (Int32.ofNat (gt (sv d 0 (gt d n)) i))) := (own_st P3 (by decide : 0 < 4) (gt_lt _ _) (by first | rfl | exact own_c4 (by decide : 0 < 4)) G121)
    show Go p e below s _ _ _ T121 (mkF m 21 #[.val (.ref la), .val (.int (Int32.ofNat n)), .val (.int (Int32.ofNat k)), .val (.int (Int32.ofNat (gt d k))), .val (.int (Int32.ofNat (gt d n)))] [])
    have H122 := own_mgs P3 (by decide) H0 ((own_eq4 (gt_lt _ _) (gt_lt _ _)).mp hc120)
    refine go_st (fun _ kq => XS.aloadN X121.here hx rfl (hb hby d5_21) rfl rfl kq) ?_
    show Go p e below s _ _ _ T121 (mkF m 22 #[.val (.ref la), .val (.int (Int32.ofNat n)), .val (.int (Int32.ofNat k)), .val (.int (Int32.ofNat (gt d k))), .val (.int (Int32.ofNat (gt d n)))] [(.ref la)])
    refine go_st (fun _ kq => XT.iconstV X121.here hx rfl (1 : Int32) (hb hby d5_22) (by decide) kq) ?_
    show Go p e below s _ _ _ T121 (mkF m 23 #[.val (.ref la), .val (.int (Int32.ofNat n)), .val (.int (Int32.ofNat k)), .val (.int (Int32.ofNat (gt d k))), .val (.int (Int32.ofNat (gt d n)))] [(.int (1 : Int32)), (.ref la)])
    refine go_iald X121 hx hZ e121 A121 (hb hby d5_23) rfl rfl (by decide) (.int (Int32.ofNat (gt (sv d 0 (gt d n)) 1))) rfl ?_
    show Go p e below s _ _ _ T121 (mkF m 24 #[.val (.ref la), .val (.int (Int32.ofNat n)), .val (.int (Int32.ofNat k)), .val (.int (Int32.ofNat (gt d k))), .val (.int (Int32.ofNat (gt d n)))] [(.int (Int32.ofNat (gt (sv d 0 (gt d n)) 1)))])
    refine go_st (fun _ kq => XS.iloadN X121.here hx rfl (hb hby d5_24) rfl kq) ?_
    show Go p e below s _ _ _ T121 (mkF m 25 #[.val (.ref la), .val (.int (Int32.ofNat n)), .val (.int (Int32.ofNat k)), .val (.int (Int32.ofNat (gt d k))), .val (.int (Int32.ofNat (gt d n)))] [(.int (Int32.ofNat (gt d k))), (.int (Int32.ofNat (gt (sv d 0 (gt d n)) 1)))])
    by_cases hc123 : (Int32.ofNat (gt (sv d 0 (gt d n)) 1)) = (Int32.ofNat (gt d k))
    · refine go_st (fun _ kq => XS.icmpNo X121.here hx rfl (hb hby d5_25) rfl (XT.ii_ne_f hc123) kq) ?_
      show Go p e below s _ _ _ T121 (mkF m 28 #[.val (.ref la), .val (.int (Int32.ofNat n)), .val (.int (Int32.ofNat k)), .val (.int (Int32.ofNat (gt d k))), .val (.int (Int32.ofNat (gt d n)))] [])
      refine go_st (fun _ kq => XS.aloadN X121.here hx rfl (hb hby d5_28) rfl rfl kq) ?_
      show Go p e below s _ _ _ T121 (mkF m 29 #[.val (.ref la), .val (.int (Int32.ofNat n)), .val (.int (Int32.ofNat k)), .val (.int (Int32.ofNat (gt d k))), .val (.int (Int32.ofNat (gt d n)))] [(.ref la)])
      refine go_st (fun _ kq => XT.iconstV X121.here hx rfl (1 : Int32) (hb hby d5_29) (by decide) kq) ?_
      show Go p e below s _ _ _ T121 (mkF m 30 #[.val (.ref la), .val (.int (Int32.ofNat n)), .val (.int (Int32.ofNat k)), .val (.int (Int32.ofNat (gt d k))), .val (.int (Int32.ofNat (gt d n)))] [(.int (1 : Int32)), (.ref la)])
      refine go_st (fun _ kq => XS.iload X121.here hx rfl (hb hby d5_30) rfl kq) ?_
      show Go p e below s _ _ _ T121 (mkF m 32 #[.val (.ref la), .val (.int (Int32.ofNat n)), .val (.int (Int32.ofNat k)), .val (.int (Int32.ofNat (gt d k))), .val (.int (Int32.ofNat (gt d n)))] [(.int (Int32.ofNat (gt d n))), (.int (1 : Int32)), (.ref la)])
      refine go_iast X121 hx hZ e121 A121 (hb hby d5_32) rfl rfl (by decide) ?_
      intro T124 h124 X124 e124 W124 G124
      have N124 := Fr.snoc X124 N121 P4
      have A124 : GA Z h124 la .int 4 (fun i => .int (Int32.ofNat (gt (sv (sv d 0 (gt d n)) 1 (gt d n)) i))) := (own_st (sv_lt P3 (by decide : 0 < 4) (gt_lt _ _)) (by decide : 1 < 4) (gt_lt _ _) (by first | rfl | exact own_c4 (by decide : 1 < 4)) G124)
      show Go p e below s _ _ _ T124 (mkF m 33 #[.val (.ref la), .val (.int (Int32.ofNat n)), .val (.int (Int32.ofNat k)), .val (.int (Int32.ofNat (gt d k))), .val (.int (Int32.ofNat (gt d n)))] [])
      have H125 := own_mgs (sv_lt P3 (by decide : 0 < 4) (gt_lt _ _)) (by decide) H122 ((own_eq4 (gt_lt _ _) (gt_lt _ _)).mp hc123)
      refine go_st (fun _ kq => XS.aloadN X124.here hx rfl (hb hby d5_33) rfl rfl kq) ?_
      show Go p e below s _ _ _ T124 (mkF m 34 #[.val (.ref la), .val (.int (Int32.ofNat n)), .val (.int (Int32.ofNat k)), .val (.int (Int32.ofNat (gt d k))), .val (.int (Int32.ofNat (gt d n)))] [(.ref la)])
      refine go_st (fun _ kq => XT.iconstV X124.here hx rfl (2 : Int32) (hb hby d5_34) (by decide) kq) ?_
      show Go p e below s _ _ _ T124 (mkF m 35 #[.val (.ref la), .val (.int (Int32.ofNat n)), .val (.int (Int32.ofNat k)), .val (.int (Int32.ofNat (gt d k))), .val (.int (Int32.ofNat (gt d n)))] [(.int (2 : Int32)), (.ref la)])
      refine go_iald X124 hx hZ e124 A124 (hb hby d5_35) rfl rfl (by decide) (.int (Int32.ofNat (gt (sv (sv d 0 (gt d n)) 1 (gt d n)) 2))) rfl ?_
      show Go p e below s _ _ _ T124 (mkF m 36 #[.val (.ref la), .val (.int (Int32.ofNat n)), .val (.int (Int32.ofNat k)), .val (.int (Int32.ofNat (gt d k))), .val (.int (Int32.ofNat (gt d n)))] [(.int (Int32.ofNat (gt (sv (sv d 0 (gt d n)) 1 (gt d n)) 2)))])
      refine go_st (fun _ kq => XS.iloadN X124.here hx rfl (hb hby d5_36) rfl kq) ?_
      show Go p e below s _ _ _ T124 (mkF m 37 #[.val (.ref la), .val (.int (Int32.ofNat n)), .val (.int (Int32.ofNat k)), .val (.int (Int32.ofNat (gt d k))), .val (.int (Int32.ofNat (gt d n)))] [(.int (Int32.ofNat (gt d k))), (.int (Int32.ofNat (gt (sv (sv d 0 (gt d n)) 1 (gt d n)) 2)))])
      by_cases hc126 : (Int32.ofNat (gt (sv (sv d 0 (gt d n)) 1 (gt d n)) 2)) = (Int32.ofNat (gt d k))
      · refine go_st (fun _ kq => XS.icmpNo X124.here hx rfl (hb hby d5_37) rfl (XT.ii_ne_f hc126) kq) ?_
        show Go p e below s _ _ _ T124 (mkF m 40 #[.val (.ref la), .val (.int (Int32.ofNat n)), .val (.int (Int32.ofNat k)), .val (.int (Int32.ofNat (gt d k))), .val (.int (Int32.ofNat (gt d n)))] [])
        refine go_st (fun _ kq => XS.aloadN X124.here hx rfl (hb hby d5_40) rfl rfl kq) ?_
        show Go p e below s _ _ _ T124 (mkF m 41 #[.val (.ref la), .val (.int (Int32.ofNat n)), .val (.int (Int32.ofNat k)), .val (.int (Int32.ofNat (gt d k))), .val (.int (Int32.ofNat (gt d n)))] [(.ref la)])
        refine go_st (fun _ kq => XT.iconstV X124.here hx rfl (2 : Int32) (hb hby d5_41) (by decide) kq) ?_
        show Go p e below s _ _ _ T124 (mkF m 42 #[.val (.ref la), .val (.int (Int32.ofNat n)), .val (.int (Int32.ofNat k)), .val (.int (Int32.ofNat (gt d k))), .val (.int (Int32.ofNat (gt d n)))] [(.int (2 : Int32)), (.ref la)])
        refine go_st (fun _ kq => XS.iload X124.here hx rfl (hb hby d5_42) rfl kq) ?_
        show Go p e below s _ _ _ T124 (mkF m 44 #[.val (.ref la), .val (.int (Int32.ofNat n)), .val (.int (Int32.ofNat k)), .val (.int (Int32.ofNat (gt d k))), .val (.int (Int32.ofNat (gt d n)))] [(.int (Int32.ofNat (gt d n))), (.int (2 : Int32)), (.ref la)])
        refine go_iast X124 hx hZ e124 A124 (hb hby d5_44) rfl rfl (by decide) ?_
        intro T127 h127 X127 e127 W127 G127
        have N127 := Fr.snoc X127 N124 P4
        have A127 : GA Z h127 la .int 4 (fun i => .int (Int32.ofNat (gt (sv (sv (sv d 0 (gt d n)) 1 (gt d n)) 2 (gt d n)) i))) := (own_st (sv_lt (sv_lt P3 (by decide : 0 < 4) (gt_lt _ _)) (by decide : 1 < 4) (gt_lt _ _)) (by decide : 2 < 4) (gt_lt _ _) (by first | rfl | exact own_c4 (by decide : 2 < 4)) G127)
        show Go p e below s _ _ _ T127 (mkF m 45 #[.val (.ref la), .val (.int (Int32.ofNat n)), .val (.int (Int32.ofNat k)), .val (.int (Int32.ofNat (gt d k))), .val (.int (Int32.ofNat (gt d n)))] [])
        have H128 := own_mgs (sv_lt (sv_lt P3 (by decide : 0 < 4) (gt_lt _ _)) (by decide : 1 < 4) (gt_lt _ _)) (by decide) H125 ((own_eq4 (gt_lt _ _) (gt_lt _ _)).mp hc126)
        refine go_st (fun _ kq => XS.aloadN X127.here hx rfl (hb hby d5_45) rfl rfl kq) ?_
        show Go p e below s _ _ _ T127 (mkF m 46 #[.val (.ref la), .val (.int (Int32.ofNat n)), .val (.int (Int32.ofNat k)), .val (.int (Int32.ofNat (gt d k))), .val (.int (Int32.ofNat (gt d n)))] [(.ref la)])
        refine go_st (fun _ kq => XT.iconstV X127.here hx rfl (3 : Int32) (hb hby d5_46) (by decide) kq) ?_
        show Go p e below s _ _ _ T127 (mkF m 47 #[.val (.ref la), .val (.int (Int32.ofNat n)), .val (.int (Int32.ofNat k)), .val (.int (Int32.ofNat (gt d k))), .val (.int (Int32.ofNat (gt d n)))] [(.int (3 : Int32)), (.ref la)])
        refine go_iald X127 hx hZ e127 A127 (hb hby d5_47) rfl rfl (by decide) (.int (Int32.ofNat (gt (sv (sv (sv d 0 (gt d n)) 1 (gt d n)) 2 (gt d n)) 3))) rfl ?_
        show Go p e below s _ _ _ T127 (mkF m 48 #[.val (.ref la), .val (.int (Int32.ofNat n)), .val (.int (Int32.ofNat k)), .val (.int (Int32.ofNat (gt d k))), .val (.int (Int32.ofNat (gt d n)))] [(.int (Int32.ofNat (gt (sv (sv (sv d 0 (gt d n)) 1 (gt d n)) 2 (gt d n)) 3)))])
        refine go_st (fun _ kq => XS.iloadN X127.here hx rfl (hb hby d5_48) rfl kq) ?_
        show Go p e below s _ _ _ T127 (mkF m 49 #[.val (.ref la), .val (.int (Int32.ofNat n)), .val (.int (Int32.ofNat k)), .val (.int (Int32.ofNat (gt d k))), .val (.int (Int32.ofNat (gt d n)))] [(.int (Int32.ofNat (gt d k))), (.int (Int32.ofNat (gt (sv (sv (sv d 0 (gt d n)) 1 (gt d n)) 2 (gt d n)) 3)))])
        by_cases hc129 : (Int32.ofNat (gt (sv (sv (sv d 0 (gt d n)) 1 (gt d n)) 2 (gt d n)) 3)) = (Int32.ofNat (gt d k))
        · refine go_st (fun _ kq => XS.icmpNo X127.here hx rfl (hb hby d5_49) rfl (XT.ii_ne_f hc129) kq) ?_
          show Go p e below s _ _ _ T127 (mkF m 52 #[.val (.ref la), .val (.int (Int32.ofNat n)), .val (.int (Int32.ofNat k)), .val (.int (Int32.ofNat (gt d k))), .val (.int (Int32.ofNat (gt d n)))] [])
          refine go_st (fun _ kq => XS.aloadN X127.here hx rfl (hb hby d5_52) rfl rfl kq) ?_
          show Go p e below s _ _ _ T127 (mkF m 53 #[.val (.ref la), .val (.int (Int32.ofNat n)), .val (.int (Int32.ofNat k)), .val (.int (Int32.ofNat (gt d k))), .val (.int (Int32.ofNat (gt d n)))] [(.ref la)])
          refine go_st (fun _ kq => XT.iconstV X127.here hx rfl (3 : Int32) (hb hby d5_53) (by decide) kq) ?_
          show Go p e below s _ _ _ T127 (mkF m 54 #[.val (.ref la), .val (.int (Int32.ofNat n)), .val (.int (Int32.ofNat k)), .val (.int (Int32.ofNat (gt d k))), .val (.int (Int32.ofNat (gt d n)))] [(.int (3 : Int32)), (.ref la)])
          refine go_st (fun _ kq => XS.iload X127.here hx rfl (hb hby d5_54) rfl kq) ?_
          show Go p e below s _ _ _ T127 (mkF m 56 #[.val (.ref la), .val (.int (Int32.ofNat n)), .val (.int (Int32.ofNat k)), .val (.int (Int32.ofNat (gt d k))), .val (.int (Int32.ofNat (gt d n)))] [(.int (Int32.ofNat (gt d n))), (.int (3 : Int32)), (.ref la)])
          refine go_iast X127 hx hZ e127 A127 (hb hby d5_56) rfl rfl (by decide) ?_
          intro T130 h130 X130 e130 W130 G130
          have N130 := Fr.snoc X130 N127 P4
          have A130 : GA Z h130 la .int 4 (fun i => .int (Int32.ofNat (gt (sv (sv (sv (sv d 0 (gt d n)) 1 (gt d n)) 2 (gt d n)) 3 (gt d n)) i))) := (own_st (sv_lt (sv_lt (sv_lt P3 (by decide : 0 < 4) (gt_lt _ _)) (by decide : 1 < 4) (gt_lt _ _)) (by decide : 2 < 4) (gt_lt _ _)) (by decide : 3 < 4) (gt_lt _ _) (by first | rfl | exact own_c4 (by decide : 3 < 4)) G130)
          show Go p e below s _ _ _ T130 (mkF m 57 #[.val (.ref la), .val (.int (Int32.ofNat n)), .val (.int (Int32.ofNat k)), .val (.int (Int32.ofNat (gt d k))), .val (.int (Int32.ofNat (gt d n)))] [])
          have H131 := own_mgs (sv_lt (sv_lt (sv_lt P3 (by decide : 0 < 4) (gt_lt _ _)) (by decide : 1 < 4) (gt_lt _ _)) (by decide : 2 < 4) (gt_lt _ _)) (by decide) H128 ((own_eq4 (gt_lt _ _) (gt_lt _ _)).mp hc129)
          exact go_ret0 X130 hx hlk hret (hb hby d5_57) (by decide) (by decide) (by rw [e130]; exact ⟨(sv (sv (sv (sv d 0 (gt d n)) 1 (gt d n)) 2 (gt d n)) 3 (gt d n)), rfl, N130, (Keep.wr (Keep.wr (Keep.wr (Keep.wr (Keep.refl h0 [la]) W121 (Or.inl (by simp))) W124 (Or.inl (by simp))) W127 (Or.inl (by simp))) W130 (Or.inl (by simp))), (sv_lt (sv_lt (sv_lt (sv_lt P3 (by decide : 0 < 4) (gt_lt _ _)) (by decide : 1 < 4) (gt_lt _ _)) (by decide : 2 < 4) (gt_lt _ _)) (by decide : 3 < 4) (gt_lt _ _)), (own_mg4 H131), A130⟩)
        · refine go_st (fun _ kq => XS.icmpYes X127.here hx rfl (pc0 := 49) (pc' := 57) rfl (hb hby d5_49) rfl (XT.ii_ne_t hc129) (by decide) (by decide) kq) ?_
          show Go p e below s _ _ _ T127 (mkF m 57 #[.val (.ref la), .val (.int (Int32.ofNat n)), .val (.int (Int32.ofNat k)), .val (.int (Int32.ofNat (gt d k))), .val (.int (Int32.ofNat (gt d n)))] [])
          have H132 := own_mgn H128 (by decide) (fun hz => hc129 ((own_eq4 (gt_lt _ _) (gt_lt _ _)).mpr hz))
          exact go_ret0 X127 hx hlk hret (hb hby d5_57) (by decide) (by decide) (by rw [e127]; exact ⟨(sv (sv (sv d 0 (gt d n)) 1 (gt d n)) 2 (gt d n)), rfl, N127, (Keep.wr (Keep.wr (Keep.wr (Keep.refl h0 [la]) W121 (Or.inl (by simp))) W124 (Or.inl (by simp))) W127 (Or.inl (by simp))), (sv_lt (sv_lt (sv_lt P3 (by decide : 0 < 4) (gt_lt _ _)) (by decide : 1 < 4) (gt_lt _ _)) (by decide : 2 < 4) (gt_lt _ _)), (own_mg4 H132), A127⟩)
      · refine go_st (fun _ kq => XS.icmpYes X124.here hx rfl (pc0 := 37) (pc' := 45) rfl (hb hby d5_37) rfl (XT.ii_ne_t hc126) (by decide) (by decide) kq) ?_
        show Go p e below s _ _ _ T124 (mkF m 45 #[.val (.ref la), .val (.int (Int32.ofNat n)), .val (.int (Int32.ofNat k)), .val (.int (Int32.ofNat (gt d k))), .val (.int (Int32.ofNat (gt d n)))] [])
        have H133 := own_mgn H125 (by decide) (fun hz => hc126 ((own_eq4 (gt_lt _ _) (gt_lt _ _)).mpr hz))
        refine go_st (fun _ kq => XS.aloadN X124.here hx rfl (hb hby d5_45) rfl rfl kq) ?_
        show Go p e below s _ _ _ T124 (mkF m 46 #[.val (.ref la), .val (.int (Int32.ofNat n)), .val (.int (Int32.ofNat k)), .val (.int (Int32.ofNat (gt d k))), .val (.int (Int32.ofNat (gt d n)))] [(.ref la)])
        refine go_st (fun _ kq => XT.iconstV X124.here hx rfl (3 : Int32) (hb hby d5_46) (by decide) kq) ?_
        show Go p e below s _ _ _ T124 (mkF m 47 #[.val (.ref la), .val (.int (Int32.ofNat n)), .val (.int (Int32.ofNat k)), .val (.int (Int32.ofNat (gt d k))), .val (.int (Int32.ofNat (gt d n)))] [(.int (3 : Int32)), (.ref la)])
        refine go_iald X124 hx hZ e124 A124 (hb hby d5_47) rfl rfl (by decide) (.int (Int32.ofNat (gt (sv (sv d 0 (gt d n)) 1 (gt d n)) 3))) rfl ?_
        show Go p e below s _ _ _ T124 (mkF m 48 #[.val (.ref la), .val (.int (Int32.ofNat n)), .val (.int (Int32.ofNat k)), .val (.int (Int32.ofNat (gt d k))), .val (.int (Int32.ofNat (gt d n)))] [(.int (Int32.ofNat (gt (sv (sv d 0 (gt d n)) 1 (gt d n)) 3)))])
        refine go_st (fun _ kq => XS.iloadN X124.here hx rfl (hb hby d5_48) rfl kq) ?_
        show Go p e below s _ _ _ T124 (mkF m 49 #[.val (.ref la), .val (.int (Int32.ofNat n)), .val (.int (Int32.ofNat k)), .val (.int (Int32.ofNat (gt d k))), .val (.int (Int32.ofNat (gt d n)))] [(.int (Int32.ofNat (gt d k))), (.int (Int32.ofNat (gt (sv (sv d 0 (gt d n)) 1 (gt d n)) 3)))])
        by_cases hc134 : (Int32.ofNat (gt (sv (sv d 0 (gt d n)) 1 (gt d n)) 3)) = (Int32.ofNat (gt d k))
        · refine go_st (fun _ kq => XS.icmpNo X124.here hx rfl (hb hby d5_49) rfl (XT.ii_ne_f hc134) kq) ?_
          show Go p e below s _ _ _ T124 (mkF m 52 #[.val (.ref la), .val (.int (Int32.ofNat n)), .val (.int (Int32.ofNat k)), .val (.int (Int32.ofNat (gt d k))), .val (.int (Int32.ofNat (gt d n)))] [])
          refine go_st (fun _ kq => XS.aloadN X124.here hx rfl (hb hby d5_52) rfl rfl kq) ?_
          show Go p e below s _ _ _ T124 (mkF m 53 #[.val (.ref la), .val (.int (Int32.ofNat n)), .val (.int (Int32.ofNat k)), .val (.int (Int32.ofNat (gt d k))), .val (.int (Int32.ofNat (gt d n)))] [(.ref la)])
          refine go_st (fun _ kq => XT.iconstV X124.here hx rfl (3 : Int32) (hb hby d5_53) (by decide) kq) ?_
          show Go p e below s _ _ _ T124 (mkF m 54 #[.val (.ref la), .val (.int (Int32.ofNat n)), .val (.int (Int32.ofNat k)), .val (.int (Int32.ofNat (gt d k))), .val (.int (Int32.ofNat (gt d n)))] [(.int (3 : Int32)), (.ref la)])
          refine go_st (fun _ kq => XS.iload X124.here hx rfl (hb hby d5_54) rfl kq) ?_
          show Go p e below s _ _ _ T124 (mkF m 56 #[.val (.ref la), .val (.int (Int32.ofNat n)), .val (.int (Int32.ofNat k)), .val (.int (Int32.ofNat (gt d k))), .val (.int (Int32.ofNat (gt d n)))] [(.int (Int32.ofNat (gt d n))), (.int (3 : Int32)), (.ref la)])
          refine go_iast X124 hx hZ e124 A124 (hb hby d5_56) rfl rfl (by decide) ?_
          intro T135 h135 X135 e135 W135 G135
          have N135 := Fr.snoc X135 N124 P4
          have A135 : GA Z h135 la .int 4 (fun i => .int (Int32.ofNat (gt (sv (sv (sv d 0 (gt d n)) 1 (gt d n)) 3 (gt d n)) i))) := (own_st (sv_lt (sv_lt P3 (by decide : 0 < 4) (gt_lt _ _)) (by decide : 1 < 4) (gt_lt _ _)) (by decide : 3 < 4) (gt_lt _ _) (by first | rfl | exact own_c4 (by decide : 3 < 4)) G135)
          show Go p e below s _ _ _ T135 (mkF m 57 #[.val (.ref la), .val (.int (Int32.ofNat n)), .val (.int (Int32.ofNat k)), .val (.int (Int32.ofNat (gt d k))), .val (.int (Int32.ofNat (gt d n)))] [])
          have H136 := own_mgs (sv_lt (sv_lt P3 (by decide : 0 < 4) (gt_lt _ _)) (by decide : 1 < 4) (gt_lt _ _)) (by decide) H133 ((own_eq4 (gt_lt _ _) (gt_lt _ _)).mp hc134)
          exact go_ret0 X135 hx hlk hret (hb hby d5_57) (by decide) (by decide) (by rw [e135]; exact ⟨(sv (sv (sv d 0 (gt d n)) 1 (gt d n)) 3 (gt d n)), rfl, N135, (Keep.wr (Keep.wr (Keep.wr (Keep.refl h0 [la]) W121 (Or.inl (by simp))) W124 (Or.inl (by simp))) W135 (Or.inl (by simp))), (sv_lt (sv_lt (sv_lt P3 (by decide : 0 < 4) (gt_lt _ _)) (by decide : 1 < 4) (gt_lt _ _)) (by decide : 3 < 4) (gt_lt _ _)), (own_mg4 H136), A135⟩)
        · refine go_st (fun _ kq => XS.icmpYes X124.here hx rfl (pc0 := 49) (pc' := 57) rfl (hb hby d5_49) rfl (XT.ii_ne_t hc134) (by decide) (by decide) kq) ?_
          show Go p e below s _ _ _ T124 (mkF m 57 #[.val (.ref la), .val (.int (Int32.ofNat n)), .val (.int (Int32.ofNat k)), .val (.int (Int32.ofNat (gt d k))), .val (.int (Int32.ofNat (gt d n)))] [])
          have H137 := own_mgn H133 (by decide) (fun hz => hc134 ((own_eq4 (gt_lt _ _) (gt_lt _ _)).mpr hz))
          exact go_ret0 X124 hx hlk hret (hb hby d5_57) (by decide) (by decide) (by rw [e124]; exact ⟨(sv (sv d 0 (gt d n)) 1 (gt d n)), rfl, N124, (Keep.wr (Keep.wr (Keep.refl h0 [la]) W121 (Or.inl (by simp))) W124 (Or.inl (by simp))), (sv_lt (sv_lt P3 (by decide : 0 < 4) (gt_lt _ _)) (by decide : 1 < 4) (gt_lt _ _)), (own_mg4 H137), A124⟩)
    · refine go_st (fun _ kq => XS.icmpYes X121.here hx rfl (pc0 := 25) (pc' := 33) rfl (hb hby d5_25) rfl (XT.ii_ne_t hc123) (by decide) (by decide) kq) ?_
      show Go p e below s _ _ _ T121 (mkF m 33 #[.val (.ref la), .val (.int (Int32.ofNat n)), .val (.int (Int32.ofNat k)), .val (.int (Int32.ofNat (gt d k))), .val (.int (Int32.ofNat (gt d n)))] [])
      have H138 := own_mgn H122 (by decide) (fun hz => hc123 ((own_eq4 (gt_lt _ _) (gt_lt _ _)).mpr hz))
      refine go_st (fun _ kq => XS.aloadN X121.here hx rfl (hb hby d5_33) rfl rfl kq) ?_
      show Go p e below s _ _ _ T121 (mkF m 34 #[.val (.ref la), .val (.int (Int32.ofNat n)), .val (.int (Int32.ofNat k)), .val (.int (Int32.ofNat (gt d k))), .val (.int (Int32.ofNat (gt d n)))] [(.ref la)])
      refine go_st (fun _ kq => XT.iconstV X121.here hx rfl (2 : Int32) (hb hby d5_34) (by decide) kq) ?_
      show Go p e below s _ _ _ T121 (mkF m 35 #[.val (.ref la), .val (.int (Int32.ofNat n)), .val (.int (Int32.ofNat k)), .val (.int (Int32.ofNat (gt d k))), .val (.int (Int32.ofNat (gt d n)))] [(.int (2 : Int32)), (.ref la)])
      refine go_iald X121 hx hZ e121 A121 (hb hby d5_35) rfl rfl (by decide) (.int (Int32.ofNat (gt (sv d 0 (gt d n)) 2))) rfl ?_
      show Go p e below s _ _ _ T121 (mkF m 36 #[.val (.ref la), .val (.int (Int32.ofNat n)), .val (.int (Int32.ofNat k)), .val (.int (Int32.ofNat (gt d k))), .val (.int (Int32.ofNat (gt d n)))] [(.int (Int32.ofNat (gt (sv d 0 (gt d n)) 2)))])
      refine go_st (fun _ kq => XS.iloadN X121.here hx rfl (hb hby d5_36) rfl kq) ?_
      show Go p e below s _ _ _ T121 (mkF m 37 #[.val (.ref la), .val (.int (Int32.ofNat n)), .val (.int (Int32.ofNat k)), .val (.int (Int32.ofNat (gt d k))), .val (.int (Int32.ofNat (gt d n)))] [(.int (Int32.ofNat (gt d k))), (.int (Int32.ofNat (gt (sv d 0 (gt d n)) 2)))])
      by_cases hc139 : (Int32.ofNat (gt (sv d 0 (gt d n)) 2)) = (Int32.ofNat (gt d k))
      · refine go_st (fun _ kq => XS.icmpNo X121.here hx rfl (hb hby d5_37) rfl (XT.ii_ne_f hc139) kq) ?_
        show Go p e below s _ _ _ T121 (mkF m 40 #[.val (.ref la), .val (.int (Int32.ofNat n)), .val (.int (Int32.ofNat k)), .val (.int (Int32.ofNat (gt d k))), .val (.int (Int32.ofNat (gt d n)))] [])
        refine go_st (fun _ kq => XS.aloadN X121.here hx rfl (hb hby d5_40) rfl rfl kq) ?_
        show Go p e below s _ _ _ T121 (mkF m 41 #[.val (.ref la), .val (.int (Int32.ofNat n)), .val (.int (Int32.ofNat k)), .val (.int (Int32.ofNat (gt d k))), .val (.int (Int32.ofNat (gt d n)))] [(.ref la)])
        refine go_st (fun _ kq => XT.iconstV X121.here hx rfl (2 : Int32) (hb hby d5_41) (by decide) kq) ?_
        show Go p e below s _ _ _ T121 (mkF m 42 #[.val (.ref la), .val (.int (Int32.ofNat n)), .val (.int (Int32.ofNat k)), .val (.int (Int32.ofNat (gt d k))), .val (.int (Int32.ofNat (gt d n)))] [(.int (2 : Int32)), (.ref la)])
        refine go_st (fun _ kq => XS.iload X121.here hx rfl (hb hby d5_42) rfl kq) ?_
        show Go p e below s _ _ _ T121 (mkF m 44 #[.val (.ref la), .val (.int (Int32.ofNat n)), .val (.int (Int32.ofNat k)), .val (.int (Int32.ofNat (gt d k))), .val (.int (Int32.ofNat (gt d n)))] [(.int (Int32.ofNat (gt d n))), (.int (2 : Int32)), (.ref la)])
        refine go_iast X121 hx hZ e121 A121 (hb hby d5_44) rfl rfl (by decide) ?_
        intro T140 h140 X140 e140 W140 G140
        have N140 := Fr.snoc X140 N121 P4
        have A140 : GA Z h140 la .int 4 (fun i => .int (Int32.ofNat (gt (sv (sv d 0 (gt d n)) 2 (gt d n)) i))) := (own_st (sv_lt P3 (by decide : 0 < 4) (gt_lt _ _)) (by decide : 2 < 4) (gt_lt _ _) (by first | rfl | exact own_c4 (by decide : 2 < 4)) G140)
        show Go p e below s _ _ _ T140 (mkF m 45 #[.val (.ref la), .val (.int (Int32.ofNat n)), .val (.int (Int32.ofNat k)), .val (.int (Int32.ofNat (gt d k))), .val (.int (Int32.ofNat (gt d n)))] [])
        have H141 := own_mgs (sv_lt P3 (by decide : 0 < 4) (gt_lt _ _)) (by decide) H138 ((own_eq4 (gt_lt _ _) (gt_lt _ _)).mp hc139)
        refine go_st (fun _ kq => XS.aloadN X140.here hx rfl (hb hby d5_45) rfl rfl kq) ?_
        show Go p e below s _ _ _ T140 (mkF m 46 #[.val (.ref la), .val (.int (Int32.ofNat n)), .val (.int (Int32.ofNat k)), .val (.int (Int32.ofNat (gt d k))), .val (.int (Int32.ofNat (gt d n)))] [(.ref la)])
        refine go_st (fun _ kq => XT.iconstV X140.here hx rfl (3 : Int32) (hb hby d5_46) (by decide) kq) ?_
        show Go p e below s _ _ _ T140 (mkF m 47 #[.val (.ref la), .val (.int (Int32.ofNat n)), .val (.int (Int32.ofNat k)), .val (.int (Int32.ofNat (gt d k))), .val (.int (Int32.ofNat (gt d n)))] [(.int (3 : Int32)), (.ref la)])
        refine go_iald X140 hx hZ e140 A140 (hb hby d5_47) rfl rfl (by decide) (.int (Int32.ofNat (gt (sv (sv d 0 (gt d n)) 2 (gt d n)) 3))) rfl ?_
        show Go p e below s _ _ _ T140 (mkF m 48 #[.val (.ref la), .val (.int (Int32.ofNat n)), .val (.int (Int32.ofNat k)), .val (.int (Int32.ofNat (gt d k))), .val (.int (Int32.ofNat (gt d n)))] [(.int (Int32.ofNat (gt (sv (sv d 0 (gt d n)) 2 (gt d n)) 3)))])
        refine go_st (fun _ kq => XS.iloadN X140.here hx rfl (hb hby d5_48) rfl kq) ?_
        show Go p e below s _ _ _ T140 (mkF m 49 #[.val (.ref la), .val (.int (Int32.ofNat n)), .val (.int (Int32.ofNat k)), .val (.int (Int32.ofNat (gt d k))), .val (.int (Int32.ofNat (gt d n)))] [(.int (Int32.ofNat (gt d k))), (.int (Int32.ofNat (gt (sv (sv d 0 (gt d n)) 2 (gt d n)) 3)))])
        by_cases hc142 : (Int32.ofNat (gt (sv (sv d 0 (gt d n)) 2 (gt d n)) 3)) = (Int32.ofNat (gt d k))
        · refine go_st (fun _ kq => XS.icmpNo X140.here hx rfl (hb hby d5_49) rfl (XT.ii_ne_f hc142) kq) ?_
          show Go p e below s _ _ _ T140 (mkF m 52 #[.val (.ref la), .val (.int (Int32.ofNat n)), .val (.int (Int32.ofNat k)), .val (.int (Int32.ofNat (gt d k))), .val (.int (Int32.ofNat (gt d n)))] [])
          refine go_st (fun _ kq => XS.aloadN X140.here hx rfl (hb hby d5_52) rfl rfl kq) ?_
          show Go p e below s _ _ _ T140 (mkF m 53 #[.val (.ref la), .val (.int (Int32.ofNat n)), .val (.int (Int32.ofNat k)), .val (.int (Int32.ofNat (gt d k))), .val (.int (Int32.ofNat (gt d n)))] [(.ref la)])
          refine go_st (fun _ kq => XT.iconstV X140.here hx rfl (3 : Int32) (hb hby d5_53) (by decide) kq) ?_
          show Go p e below s _ _ _ T140 (mkF m 54 #[.val (.ref la), .val (.int (Int32.ofNat n)), .val (.int (Int32.ofNat k)), .val (.int (Int32.ofNat (gt d k))), .val (.int (Int32.ofNat (gt d n)))] [(.int (3 : Int32)), (.ref la)])
          refine go_st (fun _ kq => XS.iload X140.here hx rfl (hb hby d5_54) rfl kq) ?_
          show Go p e below s _ _ _ T140 (mkF m 56 #[.val (.ref la), .val (.int (Int32.ofNat n)), .val (.int (Int32.ofNat k)), .val (.int (Int32.ofNat (gt d k))), .val (.int (Int32.ofNat (gt d n)))] [(.int (Int32.ofNat (gt d n))), (.int (3 : Int32)), (.ref la)])
          refine go_iast X140 hx hZ e140 A140 (hb hby d5_56) rfl rfl (by decide) ?_
          intro T143 h143 X143 e143 W143 G143
          have N143 := Fr.snoc X143 N140 P4
          have A143 : GA Z h143 la .int 4 (fun i => .int (Int32.ofNat (gt (sv (sv (sv d 0 (gt d n)) 2 (gt d n)) 3 (gt d n)) i))) := (own_st (sv_lt (sv_lt P3 (by decide : 0 < 4) (gt_lt _ _)) (by decide : 2 < 4) (gt_lt _ _)) (by decide : 3 < 4) (gt_lt _ _) (by first | rfl | exact own_c4 (by decide : 3 < 4)) G143)
          show Go p e below s _ _ _ T143 (mkF m 57 #[.val (.ref la), .val (.int (Int32.ofNat n)), .val (.int (Int32.ofNat k)), .val (.int (Int32.ofNat (gt d k))), .val (.int (Int32.ofNat (gt d n)))] [])
          have H144 := own_mgs (sv_lt (sv_lt P3 (by decide : 0 < 4) (gt_lt _ _)) (by decide : 2 < 4) (gt_lt _ _)) (by decide) H141 ((own_eq4 (gt_lt _ _) (gt_lt _ _)).mp hc142)
          exact go_ret0 X143 hx hlk hret (hb hby d5_57) (by decide) (by decide) (by rw [e143]; exact ⟨(sv (sv (sv d 0 (gt d n)) 2 (gt d n)) 3 (gt d n)), rfl, N143, (Keep.wr (Keep.wr (Keep.wr (Keep.refl h0 [la]) W121 (Or.inl (by simp))) W140 (Or.inl (by simp))) W143 (Or.inl (by simp))), (sv_lt (sv_lt (sv_lt P3 (by decide : 0 < 4) (gt_lt _ _)) (by decide : 2 < 4) (gt_lt _ _)) (by decide : 3 < 4) (gt_lt _ _)), (own_mg4 H144), A143⟩)
        · refine go_st (fun _ kq => XS.icmpYes X140.here hx rfl (pc0 := 49) (pc' := 57) rfl (hb hby d5_49) rfl (XT.ii_ne_t hc142) (by decide) (by decide) kq) ?_
          show Go p e below s _ _ _ T140 (mkF m 57 #[.val (.ref la), .val (.int (Int32.ofNat n)), .val (.int (Int32.ofNat k)), .val (.int (Int32.ofNat (gt d k))), .val (.int (Int32.ofNat (gt d n)))] [])
          have H145 := own_mgn H141 (by decide) (fun hz => hc142 ((own_eq4 (gt_lt _ _) (gt_lt _ _)).mpr hz))
          exact go_ret0 X140 hx hlk hret (hb hby d5_57) (by decide) (by decide) (by rw [e140]; exact ⟨(sv (sv d 0 (gt d n)) 2 (gt d n)), rfl, N140, (Keep.wr (Keep.wr (Keep.refl h0 [la]) W121 (Or.inl (by simp))) W140 (Or.inl (by simp))), (sv_lt (sv_lt P3 (by decide : 0 < 4) (gt_lt _ _)) (by decide : 2 < 4) (gt_lt _ _)), (own_mg4 H145), A140⟩)
      · refine go_st (fun _ kq => XS.icmpYes X121.here hx rfl (pc0 := 37) (pc' := 45) rfl (hb hby d5_37) rfl (XT.ii_ne_t hc139) (by decide) (by decide) kq) ?_
        show Go p e below s _ _ _ T121 (mkF m 45 #[.val (.ref la), .val (.int (Int32.ofNat n)), .val (.int (Int32.ofNat k)), .val (.int (Int32.ofNat (gt d k))), .val (.int (Int32.ofNat (gt d n)))] [])
        have H146 := own_mgn H138 (by decide) (fun hz => hc139 ((own_eq4 (gt_lt _ _) (gt_lt _ _)).mpr hz))
        refine go_st (fun _ kq => XS.aloadN X121.here hx rfl (hb hby d5_45) rfl rfl kq) ?_
        show Go p e below s _ _ _ T121 (mkF m 46 #[.val (.ref la), .val (.int (Int32.ofNat n)), .val (.int (Int32.ofNat k)), .val (.int (Int32.ofNat (gt d k))), .val (.int (Int32.ofNat (gt d n)))] [(.ref la)])
        refine go_st (fun _ kq => XT.iconstV X121.here hx rfl (3 : Int32) (hb hby d5_46) (by decide) kq) ?_
        show Go p e below s _ _ _ T121 (mkF m 47 #[.val (.ref la), .val (.int (Int32.ofNat n)), .val (.int (Int32.ofNat k)), .val (.int (Int32.ofNat (gt d k))), .val (.int (Int32.ofNat (gt d n)))] [(.int (3 : Int32)), (.ref la)])
        refine go_iald X121 hx hZ e121 A121 (hb hby d5_47) rfl rfl (by decide) (.int (Int32.ofNat (gt (sv d 0 (gt d n)) 3))) rfl ?_
        show Go p e below s _ _ _ T121 (mkF m 48 #[.val (.ref la), .val (.int (Int32.ofNat n)), .val (.int (Int32.ofNat k)), .val (.int (Int32.ofNat (gt d k))), .val (.int (Int32.ofNat (gt d n)))] [(.int (Int32.ofNat (gt (sv d 0 (gt d n)) 3)))])
        refine go_st (fun _ kq => XS.iloadN X121.here hx rfl (hb hby d5_48) rfl kq) ?_
        show Go p e below s _ _ _ T121 (mkF m 49 #[.val (.ref la), .val (.int (Int32.ofNat n)), .val (.int (Int32.ofNat k)), .val (.int (Int32.ofNat (gt d k))), .val (.int (Int32.ofNat (gt d n)))] [(.int (Int32.ofNat (gt d k))), (.int (Int32.ofNat (gt (sv d 0 (gt d n)) 3)))])
        by_cases hc147 : (Int32.ofNat (gt (sv d 0 (gt d n)) 3)) = (Int32.ofNat (gt d k))
        · refine go_st (fun _ kq => XS.icmpNo X121.here hx rfl (hb hby d5_49) rfl (XT.ii_ne_f hc147) kq) ?_
          show Go p e below s _ _ _ T121 (mkF m 52 #[.val (.ref la), .val (.int (Int32.ofNat n)), .val (.int (Int32.ofNat k)), .val (.int (Int32.ofNat (gt d k))), .val (.int (Int32.ofNat (gt d n)))] [])
          refine go_st (fun _ kq => XS.aloadN X121.here hx rfl (hb hby d5_52) rfl rfl kq) ?_
          show Go p e below s _ _ _ T121 (mkF m 53 #[.val (.ref la), .val (.int (Int32.ofNat n)), .val (.int (Int32.ofNat k)), .val (.int (Int32.ofNat (gt d k))), .val (.int (Int32.ofNat (gt d n)))] [(.ref la)])
          refine go_st (fun _ kq => XT.iconstV X121.here hx rfl (3 : Int32) (hb hby d5_53) (by decide) kq) ?_
          show Go p e below s _ _ _ T121 (mkF m 54 #[.val (.ref la), .val (.int (Int32.ofNat n)), .val (.int (Int32.ofNat k)), .val (.int (Int32.ofNat (gt d k))), .val (.int (Int32.ofNat (gt d n)))] [(.int (3 : Int32)), (.ref la)])
          refine go_st (fun _ kq => XS.iload X121.here hx rfl (hb hby d5_54) rfl kq) ?_
          show Go p e below s _ _ _ T121 (mkF m 56 #[.val (.ref la), .val (.int (Int32.ofNat n)), .val (.int (Int32.ofNat k)), .val (.int (Int32.ofNat (gt d k))), .val (.int (Int32.ofNat (gt d n)))] [(.int (Int32.ofNat (gt d n))), (.int (3 : Int32)), (.ref la)])
          refine go_iast X121 hx hZ e121 A121 (hb hby d5_56) rfl rfl (by decide) ?_
          intro T148 h148 X148 e148 W148 G148
          have N148 := Fr.snoc X148 N121 P4
          have A148 : GA Z h148 la .int 4 (fun i => .int (Int32.ofNat (gt (sv (sv d 0 (gt d n)) 3 (gt d n)) i))) := (own_st (sv_lt P3 (by decide : 0 < 4) (gt_lt _ _)) (by decide : 3 < 4) (gt_lt _ _) (by first | rfl | exact own_c4 (by decide : 3 < 4)) G148)
          show Go p e below s _ _ _ T148 (mkF m 57 #[.val (.ref la), .val (.int (Int32.ofNat n)), .val (.int (Int32.ofNat k)), .val (.int (Int32.ofNat (gt d k))), .val (.int (Int32.ofNat (gt d n)))] [])
          have H149 := own_mgs (sv_lt P3 (by decide : 0 < 4) (gt_lt _ _)) (by decide) H146 ((own_eq4 (gt_lt _ _) (gt_lt _ _)).mp hc147)
          exact go_ret0 X148 hx hlk hret (hb hby d5_57) (by decide) (by decide) (by rw [e148]; exact ⟨(sv (sv d 0 (gt d n)) 3 (gt d n)), rfl, N148, (Keep.wr (Keep.wr (Keep.refl h0 [la]) W121 (Or.inl (by simp))) W148 (Or.inl (by simp))), (sv_lt (sv_lt P3 (by decide : 0 < 4) (gt_lt _ _)) (by decide : 3 < 4) (gt_lt _ _)), (own_mg4 H149), A148⟩)
        · refine go_st (fun _ kq => XS.icmpYes X121.here hx rfl (pc0 := 49) (pc' := 57) rfl (hb hby d5_49) rfl (XT.ii_ne_t hc147) (by decide) (by decide) kq) ?_
          show Go p e below s _ _ _ T121 (mkF m 57 #[.val (.ref la), .val (.int (Int32.ofNat n)), .val (.int (Int32.ofNat k)), .val (.int (Int32.ofNat (gt d k))), .val (.int (Int32.ofNat (gt d n)))] [])
          have H150 := own_mgn H146 (by decide) (fun hz => hc147 ((own_eq4 (gt_lt _ _) (gt_lt _ _)).mpr hz))
          exact go_ret0 X121 hx hlk hret (hb hby d5_57) (by decide) (by decide) (by rw [e121]; exact ⟨(sv d 0 (gt d n)), rfl, N121, (Keep.wr (Keep.refl h0 [la]) W121 (Or.inl (by simp))), (sv_lt P3 (by decide : 0 < 4) (gt_lt _ _)), (own_mg4 H150), A121⟩)
  · refine go_st (fun _ kq => XS.icmpYes X0.here hx rfl (pc0 := 13) (pc' := 21) rfl (hb hby d5_13) rfl (XT.ii_ne_t hc120) (by decide) (by decide) kq) ?_
    show Go p e below s _ _ _ s₁ (mkF m 21 #[.val (.ref la), .val (.int (Int32.ofNat n)), .val (.int (Int32.ofNat k)), .val (.int (Int32.ofNat (gt d k))), .val (.int (Int32.ofNat (gt d n)))] [])
    have H151 := own_mgn H0 (by decide) (fun hz => hc120 ((own_eq4 (gt_lt _ _) (gt_lt _ _)).mpr hz))
    refine go_st (fun _ kq => XS.aloadN X0.here hx rfl (hb hby d5_21) rfl rfl kq) ?_
    show Go p e below s _ _ _ s₁ (mkF m 22 #[.val (.ref la), .val (.int (Int32.ofNat n)), .val (.int (Int32.ofNat k)), .val (.int (Int32.ofNat (gt d k))), .val (.int (Int32.ofNat (gt d n)))] [(.ref la)])
    refine go_st (fun _ kq => XT.iconstV X0.here hx rfl (1 : Int32) (hb hby d5_22) (by decide) kq) ?_
    show Go p e below s _ _ _ s₁ (mkF m 23 #[.val (.ref la), .val (.int (Int32.ofNat n)), .val (.int (Int32.ofNat k)), .val (.int (Int32.ofNat (gt d k))), .val (.int (Int32.ofNat (gt d n)))] [(.int (1 : Int32)), (.ref la)])
    refine go_iald X0 hx hZ e0 P0 (hb hby d5_23) rfl rfl (by decide) (.int (Int32.ofNat (gt d 1))) rfl ?_
    show Go p e below s _ _ _ s₁ (mkF m 24 #[.val (.ref la), .val (.int (Int32.ofNat n)), .val (.int (Int32.ofNat k)), .val (.int (Int32.ofNat (gt d k))), .val (.int (Int32.ofNat (gt d n)))] [(.int (Int32.ofNat (gt d 1)))])
    refine go_st (fun _ kq => XS.iloadN X0.here hx rfl (hb hby d5_24) rfl kq) ?_
    show Go p e below s _ _ _ s₁ (mkF m 25 #[.val (.ref la), .val (.int (Int32.ofNat n)), .val (.int (Int32.ofNat k)), .val (.int (Int32.ofNat (gt d k))), .val (.int (Int32.ofNat (gt d n)))] [(.int (Int32.ofNat (gt d k))), (.int (Int32.ofNat (gt d 1)))])
    by_cases hc152 : (Int32.ofNat (gt d 1)) = (Int32.ofNat (gt d k))
    · refine go_st (fun _ kq => XS.icmpNo X0.here hx rfl (hb hby d5_25) rfl (XT.ii_ne_f hc152) kq) ?_
      show Go p e below s _ _ _ s₁ (mkF m 28 #[.val (.ref la), .val (.int (Int32.ofNat n)), .val (.int (Int32.ofNat k)), .val (.int (Int32.ofNat (gt d k))), .val (.int (Int32.ofNat (gt d n)))] [])
      refine go_st (fun _ kq => XS.aloadN X0.here hx rfl (hb hby d5_28) rfl rfl kq) ?_
      show Go p e below s _ _ _ s₁ (mkF m 29 #[.val (.ref la), .val (.int (Int32.ofNat n)), .val (.int (Int32.ofNat k)), .val (.int (Int32.ofNat (gt d k))), .val (.int (Int32.ofNat (gt d n)))] [(.ref la)])
      refine go_st (fun _ kq => XT.iconstV X0.here hx rfl (1 : Int32) (hb hby d5_29) (by decide) kq) ?_
      show Go p e below s _ _ _ s₁ (mkF m 30 #[.val (.ref la), .val (.int (Int32.ofNat n)), .val (.int (Int32.ofNat k)), .val (.int (Int32.ofNat (gt d k))), .val (.int (Int32.ofNat (gt d n)))] [(.int (1 : Int32)), (.ref la)])
      refine go_st (fun _ kq => XS.iload X0.here hx rfl (hb hby d5_30) rfl kq) ?_
      show Go p e below s _ _ _ s₁ (mkF m 32 #[.val (.ref la), .val (.int (Int32.ofNat n)), .val (.int (Int32.ofNat k)), .val (.int (Int32.ofNat (gt d k))), .val (.int (Int32.ofNat (gt d n)))] [(.int (Int32.ofNat (gt d n))), (.int (1 : Int32)), (.ref la)])
      refine go_iast X0 hx hZ e0 P0 (hb hby d5_32) rfl rfl (by decide) ?_
      intro T153 h153 X153 e153 W153 G153
      have N153 := Fr.snoc X153 N0 P4
      have A153 : GA Z h153 la .int 4 (fun i => .int (Int32.ofNat (gt (sv d 1 (gt d n)) i))) := (own_st P3 (by decide : 1 < 4) (gt_lt _ _) (by first | rfl | exact own_c4 (by decide : 1 < 4)) G153)
      show Go p e below s _ _ _ T153 (mkF m 33 #[.val (.ref la), .val (.int (Int32.ofNat n)), .val (.int (Int32.ofNat k)), .val (.int (Int32.ofNat (gt d k))), .val (.int (Int32.ofNat (gt d n)))] [])
      have H154 := own_mgs P3 (by decide) H151 ((own_eq4 (gt_lt _ _) (gt_lt _ _)).mp hc152)
      refine go_st (fun _ kq => XS.aloadN X153.here hx rfl (hb hby d5_33) rfl rfl kq) ?_
      show Go p e below s _ _ _ T153 (mkF m 34 #[.val (.ref la), .val (.int (Int32.ofNat n)), .val (.int (Int32.ofNat k)), .val (.int (Int32.ofNat (gt d k))), .val (.int (Int32.ofNat (gt d n)))] [(.ref la)])
      refine go_st (fun _ kq => XT.iconstV X153.here hx rfl (2 : Int32) (hb hby d5_34) (by decide) kq) ?_
      show Go p e below s _ _ _ T153 (mkF m 35 #[.val (.ref la), .val (.int (Int32.ofNat n)), .val (.int (Int32.ofNat k)), .val (.int (Int32.ofNat (gt d k))), .val (.int (Int32.ofNat (gt d n)))] [(.int (2 : Int32)), (.ref la)])
      refine go_iald X153 hx hZ e153 A153 (hb hby d5_35) rfl rfl (by decide) (.int (Int32.ofNat (gt (sv d 1 (gt d n)) 2))) rfl ?_
      show Go p e below s _ _ _ T153 (mkF m 36 #[.val (.ref la), .val (.int (Int32.ofNat n)), .val (.int (Int32.ofNat k)), .val (.int (Int32.ofNat (gt d k))), .val (.int (Int32.ofNat (gt d n)))] [(.int (Int32.ofNat (gt (sv d 1 (gt d n)) 2)))])
      refine go_st (fun _ kq => XS.iloadN X153.here hx rfl (hb hby d5_36) rfl kq) ?_
      show Go p e below s _ _ _ T153 (mkF m 37 #[.val (.ref la), .val (.int (Int32.ofNat n)), .val (.int (Int32.ofNat k)), .val (.int (Int32.ofNat (gt d k))), .val (.int (Int32.ofNat (gt d n)))] [(.int (Int32.ofNat (gt d k))), (.int (Int32.ofNat (gt (sv d 1 (gt d n)) 2)))])
      by_cases hc155 : (Int32.ofNat (gt (sv d 1 (gt d n)) 2)) = (Int32.ofNat (gt d k))
      · refine go_st (fun _ kq => XS.icmpNo X153.here hx rfl (hb hby d5_37) rfl (XT.ii_ne_f hc155) kq) ?_
        show Go p e below s _ _ _ T153 (mkF m 40 #[.val (.ref la), .val (.int (Int32.ofNat n)), .val (.int (Int32.ofNat k)), .val (.int (Int32.ofNat (gt d k))), .val (.int (Int32.ofNat (gt d n)))] [])
        refine go_st (fun _ kq => XS.aloadN X153.here hx rfl (hb hby d5_40) rfl rfl kq) ?_
        show Go p e below s _ _ _ T153 (mkF m 41 #[.val (.ref la), .val (.int (Int32.ofNat n)), .val (.int (Int32.ofNat k)), .val (.int (Int32.ofNat (gt d k))), .val (.int (Int32.ofNat (gt d n)))] [(.ref la)])
        refine go_st (fun _ kq => XT.iconstV X153.here hx rfl (2 : Int32) (hb hby d5_41) (by decide) kq) ?_
        show Go p e below s _ _ _ T153 (mkF m 42 #[.val (.ref la), .val (.int (Int32.ofNat n)), .val (.int (Int32.ofNat k)), .val (.int (Int32.ofNat (gt d k))), .val (.int (Int32.ofNat (gt d n)))] [(.int (2 : Int32)), (.ref la)])
        refine go_st (fun _ kq => XS.iload X153.here hx rfl (hb hby d5_42) rfl kq) ?_
        show Go p e below s _ _ _ T153 (mkF m 44 #[.val (.ref la), .val (.int (Int32.ofNat n)), .val (.int (Int32.ofNat k)), .val (.int (Int32.ofNat (gt d k))), .val (.int (Int32.ofNat (gt d n)))] [(.int (Int32.ofNat (gt d n))), (.int (2 : Int32)), (.ref la)])
        refine go_iast X153 hx hZ e153 A153 (hb hby d5_44) rfl rfl (by decide) ?_
        intro T156 h156 X156 e156 W156 G156
        have N156 := Fr.snoc X156 N153 P4
        have A156 : GA Z h156 la .int 4 (fun i => .int (Int32.ofNat (gt (sv (sv d 1 (gt d n)) 2 (gt d n)) i))) := (own_st (sv_lt P3 (by decide : 1 < 4) (gt_lt _ _)) (by decide : 2 < 4) (gt_lt _ _) (by first | rfl | exact own_c4 (by decide : 2 < 4)) G156)
        show Go p e below s _ _ _ T156 (mkF m 45 #[.val (.ref la), .val (.int (Int32.ofNat n)), .val (.int (Int32.ofNat k)), .val (.int (Int32.ofNat (gt d k))), .val (.int (Int32.ofNat (gt d n)))] [])
        have H157 := own_mgs (sv_lt P3 (by decide : 1 < 4) (gt_lt _ _)) (by decide) H154 ((own_eq4 (gt_lt _ _) (gt_lt _ _)).mp hc155)
        refine go_st (fun _ kq => XS.aloadN X156.here hx rfl (hb hby d5_45) rfl rfl kq) ?_
        show Go p e below s _ _ _ T156 (mkF m 46 #[.val (.ref la), .val (.int (Int32.ofNat n)), .val (.int (Int32.ofNat k)), .val (.int (Int32.ofNat (gt d k))), .val (.int (Int32.ofNat (gt d n)))] [(.ref la)])
        refine go_st (fun _ kq => XT.iconstV X156.here hx rfl (3 : Int32) (hb hby d5_46) (by decide) kq) ?_
        show Go p e below s _ _ _ T156 (mkF m 47 #[.val (.ref la), .val (.int (Int32.ofNat n)), .val (.int (Int32.ofNat k)), .val (.int (Int32.ofNat (gt d k))), .val (.int (Int32.ofNat (gt d n)))] [(.int (3 : Int32)), (.ref la)])
        refine go_iald X156 hx hZ e156 A156 (hb hby d5_47) rfl rfl (by decide) (.int (Int32.ofNat (gt (sv (sv d 1 (gt d n)) 2 (gt d n)) 3))) rfl ?_
        show Go p e below s _ _ _ T156 (mkF m 48 #[.val (.ref la), .val (.int (Int32.ofNat n)), .val (.int (Int32.ofNat k)), .val (.int (Int32.ofNat (gt d k))), .val (.int (Int32.ofNat (gt d n)))] [(.int (Int32.ofNat (gt (sv (sv d 1 (gt d n)) 2 (gt d n)) 3)))])
        refine go_st (fun _ kq => XS.iloadN X156.here hx rfl (hb hby d5_48) rfl kq) ?_
        show Go p e below s _ _ _ T156 (mkF m 49 #[.val (.ref la), .val (.int (Int32.ofNat n)), .val (.int (Int32.ofNat k)), .val (.int (Int32.ofNat (gt d k))), .val (.int (Int32.ofNat (gt d n)))] [(.int (Int32.ofNat (gt d k))), (.int (Int32.ofNat (gt (sv (sv d 1 (gt d n)) 2 (gt d n)) 3)))])
        by_cases hc158 : (Int32.ofNat (gt (sv (sv d 1 (gt d n)) 2 (gt d n)) 3)) = (Int32.ofNat (gt d k))
        · refine go_st (fun _ kq => XS.icmpNo X156.here hx rfl (hb hby d5_49) rfl (XT.ii_ne_f hc158) kq) ?_
          show Go p e below s _ _ _ T156 (mkF m 52 #[.val (.ref la), .val (.int (Int32.ofNat n)), .val (.int (Int32.ofNat k)), .val (.int (Int32.ofNat (gt d k))), .val (.int (Int32.ofNat (gt d n)))] [])
          refine go_st (fun _ kq => XS.aloadN X156.here hx rfl (hb hby d5_52) rfl rfl kq) ?_
          show Go p e below s _ _ _ T156 (mkF m 53 #[.val (.ref la), .val (.int (Int32.ofNat n)), .val (.int (Int32.ofNat k)), .val (.int (Int32.ofNat (gt d k))), .val (.int (Int32.ofNat (gt d n)))] [(.ref la)])
          refine go_st (fun _ kq => XT.iconstV X156.here hx rfl (3 : Int32) (hb hby d5_53) (by decide) kq) ?_
          show Go p e below s _ _ _ T156 (mkF m 54 #[.val (.ref la), .val (.int (Int32.ofNat n)), .val (.int (Int32.ofNat k)), .val (.int (Int32.ofNat (gt d k))), .val (.int (Int32.ofNat (gt d n)))] [(.int (3 : Int32)), (.ref la)])
          refine go_st (fun _ kq => XS.iload X156.here hx rfl (hb hby d5_54) rfl kq) ?_
          show Go p e below s _ _ _ T156 (mkF m 56 #[.val (.ref la), .val (.int (Int32.ofNat n)), .val (.int (Int32.ofNat k)), .val (.int (Int32.ofNat (gt d k))), .val (.int (Int32.ofNat (gt d n)))] [(.int (Int32.ofNat (gt d n))), (.int (3 : Int32)), (.ref la)])
          refine go_iast X156 hx hZ e156 A156 (hb hby d5_56) rfl rfl (by decide) ?_
          intro T159 h159 X159 e159 W159 G159
          have N159 := Fr.snoc X159 N156 P4
          have A159 : GA Z h159 la .int 4 (fun i => .int (Int32.ofNat (gt (sv (sv (sv d 1 (gt d n)) 2 (gt d n)) 3 (gt d n)) i))) := (own_st (sv_lt (sv_lt P3 (by decide : 1 < 4) (gt_lt _ _)) (by decide : 2 < 4) (gt_lt _ _)) (by decide : 3 < 4) (gt_lt _ _) (by first | rfl | exact own_c4 (by decide : 3 < 4)) G159)
          show Go p e below s _ _ _ T159 (mkF m 57 #[.val (.ref la), .val (.int (Int32.ofNat n)), .val (.int (Int32.ofNat k)), .val (.int (Int32.ofNat (gt d k))), .val (.int (Int32.ofNat (gt d n)))] [])
          have H160 := own_mgs (sv_lt (sv_lt P3 (by decide : 1 < 4) (gt_lt _ _)) (by decide : 2 < 4) (gt_lt _ _)) (by decide) H157 ((own_eq4 (gt_lt _ _) (gt_lt _ _)).mp hc158)
          exact go_ret0 X159 hx hlk hret (hb hby d5_57) (by decide) (by decide) (by rw [e159]; exact ⟨(sv (sv (sv d 1 (gt d n)) 2 (gt d n)) 3 (gt d n)), rfl, N159, (Keep.wr (Keep.wr (Keep.wr (Keep.refl h0 [la]) W153 (Or.inl (by simp))) W156 (Or.inl (by simp))) W159 (Or.inl (by simp))), (sv_lt (sv_lt (sv_lt P3 (by decide : 1 < 4) (gt_lt _ _)) (by decide : 2 < 4) (gt_lt _ _)) (by decide : 3 < 4) (gt_lt _ _)), (own_mg4 H160), A159⟩)
        · refine go_st (fun _ kq => XS.icmpYes X156.here hx rfl (pc0 := 49) (pc' := 57) rfl (hb hby d5_49) rfl (XT.ii_ne_t hc158) (by decide) (by decide) kq) ?_
          show Go p e below s _ _ _ T156 (mkF m 57 #[.val (.ref la), .val (.int (Int32.ofNat n)), .val (.int (Int32.ofNat k)), .val (.int (Int32.ofNat (gt d k))), .val (.int (Int32.ofNat (gt d n)))] [])
          have H161 := own_mgn H157 (by decide) (fun hz => hc158 ((own_eq4 (gt_lt _ _) (gt_lt _ _)).mpr hz))
          exact go_ret0 X156 hx hlk hret (hb hby d5_57) (by decide) (by decide) (by rw [e156]; exact ⟨(sv (sv d 1 (gt d n)) 2 (gt d n)), rfl, N156, (Keep.wr (Keep.wr (Keep.refl h0 [la]) W153 (Or.inl (by simp))) W156 (Or.inl (by simp))), (sv_lt (sv_lt P3 (by decide : 1 < 4) (gt_lt _ _)) (by decide : 2 < 4) (gt_lt _ _)), (own_mg4 H161), A156⟩)
      · refine go_st (fun _ kq => XS.icmpYes X153.here hx rfl (pc0 := 37) (pc' := 45) rfl (hb hby d5_37) rfl (XT.ii_ne_t hc155) (by decide) (by decide) kq) ?_
        show Go p e below s _ _ _ T153 (mkF m 45 #[.val (.ref la), .val (.int (Int32.ofNat n)), .val (.int (Int32.ofNat k)), .val (.int (Int32.ofNat (gt d k))), .val (.int (Int32.ofNat (gt d n)))] [])
        have H162 := own_mgn H154 (by decide) (fun hz => hc155 ((own_eq4 (gt_lt _ _) (gt_lt _ _)).mpr hz))
        refine go_st (fun _ kq => XS.aloadN X153.here hx rfl (hb hby d5_45) rfl rfl kq) ?_
        show Go p e below s _ _ _ T153 (mkF m 46 #[.val (.ref la), .val (.int (Int32.ofNat n)), .val (.int (Int32.ofNat k)), .val (.int (Int32.ofNat (gt d k))), .val (.int (Int32.ofNat (gt d n)))] [(.ref la)])
        refine go_st (fun _ kq => XT.iconstV X153.here hx rfl (3 : Int32) (hb hby d5_46) (by decide) kq) ?_
        show Go p e below s _ _ _ T153 (mkF m 47 #[.val (.ref la), .val (.int (Int32.ofNat n)), .val (.int (Int32.ofNat k)), .val (.int (Int32.ofNat (gt d k))), .val (.int (Int32.ofNat (gt d n)))] [(.int (3 : Int32)), (.ref la)])
        refine go_iald X153 hx hZ e153 A153 (hb hby d5_47) rfl rfl (by decide) (.int (Int32.ofNat (gt (sv d 1 (gt d n)) 3))) rfl ?_
        show Go p e below s _ _ _ T153 (mkF m 48 #[.val (.ref la), .val (.int (Int32.ofNat n)), .val (.int (Int32.ofNat k)), .val (.int (Int32.ofNat (gt d k))), .val (.int (Int32.ofNat (gt d n)))] [(.int (Int32.ofNat (gt (sv d 1 (gt d n)) 3)))])
        refine go_st (fun _ kq => XS.iloadN X153.here hx rfl (hb hby d5_48) rfl kq) ?_
        show Go p e below s _ _ _ T153 (mkF m 49 #[.val (.ref la), .val (.int (Int32.ofNat n)), .val (.int (Int32.ofNat k)), .val (.int (Int32.ofNat (gt d k))), .val (.int (Int32.ofNat (gt d n)))] [(.int (Int32.ofNat (gt d k))), (.int (Int32.ofNat (gt (sv d 1 (gt d n)) 3)))])
        by_cases hc163 : (Int32.ofNat (gt (sv d 1 (gt d n)) 3)) = (Int32.ofNat (gt d k))
        · refine go_st (fun _ kq => XS.icmpNo X153.here hx rfl (hb hby d5_49) rfl (XT.ii_ne_f hc163) kq) ?_
          show Go p e below s _ _ _ T153 (mkF m 52 #[.val (.ref la), .val (.int (Int32.ofNat n)), .val (.int (Int32.ofNat k)), .val (.int (Int32.ofNat (gt d k))), .val (.int (Int32.ofNat (gt d n)))] [])
          refine go_st (fun _ kq => XS.aloadN X153.here hx rfl (hb hby d5_52) rfl rfl kq) ?_
          show Go p e below s _ _ _ T153 (mkF m 53 #[.val (.ref la), .val (.int (Int32.ofNat n)), .val (.int (Int32.ofNat k)), .val (.int (Int32.ofNat (gt d k))), .val (.int (Int32.ofNat (gt d n)))] [(.ref la)])
          refine go_st (fun _ kq => XT.iconstV X153.here hx rfl (3 : Int32) (hb hby d5_53) (by decide) kq) ?_
          show Go p e below s _ _ _ T153 (mkF m 54 #[.val (.ref la), .val (.int (Int32.ofNat n)), .val (.int (Int32.ofNat k)), .val (.int (Int32.ofNat (gt d k))), .val (.int (Int32.ofNat (gt d n)))] [(.int (3 : Int32)), (.ref la)])
          refine go_st (fun _ kq => XS.iload X153.here hx rfl (hb hby d5_54) rfl kq) ?_
          show Go p e below s _ _ _ T153 (mkF m 56 #[.val (.ref la), .val (.int (Int32.ofNat n)), .val (.int (Int32.ofNat k)), .val (.int (Int32.ofNat (gt d k))), .val (.int (Int32.ofNat (gt d n)))] [(.int (Int32.ofNat (gt d n))), (.int (3 : Int32)), (.ref la)])
          refine go_iast X153 hx hZ e153 A153 (hb hby d5_56) rfl rfl (by decide) ?_
          intro T164 h164 X164 e164 W164 G164
          have N164 := Fr.snoc X164 N153 P4
          have A164 : GA Z h164 la .int 4 (fun i => .int (Int32.ofNat (gt (sv (sv d 1 (gt d n)) 3 (gt d n)) i))) := (own_st (sv_lt P3 (by decide : 1 < 4) (gt_lt _ _)) (by decide : 3 < 4) (gt_lt _ _) (by first | rfl | exact own_c4 (by decide : 3 < 4)) G164)
          show Go p e below s _ _ _ T164 (mkF m 57 #[.val (.ref la), .val (.int (Int32.ofNat n)), .val (.int (Int32.ofNat k)), .val (.int (Int32.ofNat (gt d k))), .val (.int (Int32.ofNat (gt d n)))] [])
          have H165 := own_mgs (sv_lt P3 (by decide : 1 < 4) (gt_lt _ _)) (by decide) H162 ((own_eq4 (gt_lt _ _) (gt_lt _ _)).mp hc163)
          exact go_ret0 X164 hx hlk hret (hb hby d5_57) (by decide) (by decide) (by rw [e164]; exact ⟨(sv (sv d 1 (gt d n)) 3 (gt d n)), rfl, N164, (Keep.wr (Keep.wr (Keep.refl h0 [la]) W153 (Or.inl (by simp))) W164 (Or.inl (by simp))), (sv_lt (sv_lt P3 (by decide : 1 < 4) (gt_lt _ _)) (by decide : 3 < 4) (gt_lt _ _)), (own_mg4 H165), A164⟩)
        · refine go_st (fun _ kq => XS.icmpYes X153.here hx rfl (pc0 := 49) (pc' := 57) rfl (hb hby d5_49) rfl (XT.ii_ne_t hc163) (by decide) (by decide) kq) ?_
          show Go p e below s _ _ _ T153 (mkF m 57 #[.val (.ref la), .val (.int (Int32.ofNat n)), .val (.int (Int32.ofNat k)), .val (.int (Int32.ofNat (gt d k))), .val (.int (Int32.ofNat (gt d n)))] [])
          have H166 := own_mgn H162 (by decide) (fun hz => hc163 ((own_eq4 (gt_lt _ _) (gt_lt _ _)).mpr hz))
          exact go_ret0 X153 hx hlk hret (hb hby d5_57) (by decide) (by decide) (by rw [e153]; exact ⟨(sv d 1 (gt d n)), rfl, N153, (Keep.wr (Keep.refl h0 [la]) W153 (Or.inl (by simp))), (sv_lt P3 (by decide : 1 < 4) (gt_lt _ _)), (own_mg4 H166), A153⟩)
    · refine go_st (fun _ kq => XS.icmpYes X0.here hx rfl (pc0 := 25) (pc' := 33) rfl (hb hby d5_25) rfl (XT.ii_ne_t hc152) (by decide) (by decide) kq) ?_
      show Go p e below s _ _ _ s₁ (mkF m 33 #[.val (.ref la), .val (.int (Int32.ofNat n)), .val (.int (Int32.ofNat k)), .val (.int (Int32.ofNat (gt d k))), .val (.int (Int32.ofNat (gt d n)))] [])
      have H167 := own_mgn H151 (by decide) (fun hz => hc152 ((own_eq4 (gt_lt _ _) (gt_lt _ _)).mpr hz))
      refine go_st (fun _ kq => XS.aloadN X0.here hx rfl (hb hby d5_33) rfl rfl kq) ?_
      show Go p e below s _ _ _ s₁ (mkF m 34 #[.val (.ref la), .val (.int (Int32.ofNat n)), .val (.int (Int32.ofNat k)), .val (.int (Int32.ofNat (gt d k))), .val (.int (Int32.ofNat (gt d n)))] [(.ref la)])
      refine go_st (fun _ kq => XT.iconstV X0.here hx rfl (2 : Int32) (hb hby d5_34) (by decide) kq) ?_
      show Go p e below s _ _ _ s₁ (mkF m 35 #[.val (.ref la), .val (.int (Int32.ofNat n)), .val (.int (Int32.ofNat k)), .val (.int (Int32.ofNat (gt d k))), .val (.int (Int32.ofNat (gt d n)))] [(.int (2 : Int32)), (.ref la)])
      refine go_iald X0 hx hZ e0 P0 (hb hby d5_35) rfl rfl (by decide) (.int (Int32.ofNat (gt d 2))) rfl ?_
      show Go p e below s _ _ _ s₁ (mkF m 36 #[.val (.ref la), .val (.int (Int32.ofNat n)), .val (.int (Int32.ofNat k)), .val (.int (Int32.ofNat (gt d k))), .val (.int (Int32.ofNat (gt d n)))] [(.int (Int32.ofNat (gt d 2)))])
      refine go_st (fun _ kq => XS.iloadN X0.here hx rfl (hb hby d5_36) rfl kq) ?_
      show Go p e below s _ _ _ s₁ (mkF m 37 #[.val (.ref la), .val (.int (Int32.ofNat n)), .val (.int (Int32.ofNat k)), .val (.int (Int32.ofNat (gt d k))), .val (.int (Int32.ofNat (gt d n)))] [(.int (Int32.ofNat (gt d k))), (.int (Int32.ofNat (gt d 2)))])
      by_cases hc168 : (Int32.ofNat (gt d 2)) = (Int32.ofNat (gt d k))
      · refine go_st (fun _ kq => XS.icmpNo X0.here hx rfl (hb hby d5_37) rfl (XT.ii_ne_f hc168) kq) ?_
        show Go p e below s _ _ _ s₁ (mkF m 40 #[.val (.ref la), .val (.int (Int32.ofNat n)), .val (.int (Int32.ofNat k)), .val (.int (Int32.ofNat (gt d k))), .val (.int (Int32.ofNat (gt d n)))] [])
        refine go_st (fun _ kq => XS.aloadN X0.here hx rfl (hb hby d5_40) rfl rfl kq) ?_
        show Go p e below s _ _ _ s₁ (mkF m 41 #[.val (.ref la), .val (.int (Int32.ofNat n)), .val (.int (Int32.ofNat k)), .val (.int (Int32.ofNat (gt d k))), .val (.int (Int32.ofNat (gt d n)))] [(.ref la)])
        refine go_st (fun _ kq => XT.iconstV X0.here hx rfl (2 : Int32) (hb hby d5_41) (by decide) kq) ?_
        show Go p e below s _ _ _ s₁ (mkF m 42 #[.val (.ref la), .val (.int (Int32.ofNat n)), .val (.int (Int32.ofNat k)), .val (.int (Int32.ofNat (gt d k))), .val (.int (Int32.ofNat (gt d n)))] [(.int (2 : Int32)), (.ref la)])
        refine go_st (fun _ kq => XS.iload X0.here hx rfl (hb hby d5_42) rfl kq) ?_
        show Go p e below s _ _ _ s₁ (mkF m 44 #[.val (.ref la), .val (.int (Int32.ofNat n)), .val (.int (Int32.ofNat k)), .val (.int (Int32.ofNat (gt d k))), .val (.int (Int32.ofNat (gt d n)))] [(.int (Int32.ofNat (gt d n))), (.int (2 : Int32)), (.ref la)])
        refine go_iast X0 hx hZ e0 P0 (hb hby d5_44) rfl rfl (by decide) ?_
        intro T169 h169 X169 e169 W169 G169
        have N169 := Fr.snoc X169 N0 P4
        have A169 : GA Z h169 la .int 4 (fun i => .int (Int32.ofNat (gt (sv d 2 (gt d n)) i))) := (own_st P3 (by decide : 2 < 4) (gt_lt _ _) (by first | rfl | exact own_c4 (by decide : 2 < 4)) G169)
        show Go p e below s _ _ _ T169 (mkF m 45 #[.val (.ref la), .val (.int (Int32.ofNat n)), .val (.int (Int32.ofNat k)), .val (.int (Int32.ofNat (gt d k))), .val (.int (Int32.ofNat (gt d n)))] [])
        have H170 := own_mgs P3 (by decide) H167 ((own_eq4 (gt_lt _ _) (gt_lt _ _)).mp hc168)
        refine go_st (fun _ kq => XS.aloadN X169.here hx rfl (hb hby d5_45) rfl rfl kq) ?_
        show Go p e below s _ _ _ T169 (mkF m 46 #[.val (.ref la), .val (.int (Int32.ofNat n)), .val (.int (Int32.ofNat k)), .val (.int (Int32.ofNat (gt d k))), .val (.int (Int32.ofNat (gt d n)))] [(.ref la)])
        refine go_st (fun _ kq => XT.iconstV X169.here hx rfl (3 : Int32) (hb hby d5_46) (by decide) kq) ?_
        show Go p e below s _ _ _ T169 (mkF m 47 #[.val (.ref la), .val (.int (Int32.ofNat n)), .val (.int (Int32.ofNat k)), .val (.int (Int32.ofNat (gt d k))), .val (.int (Int32.ofNat (gt d n)))] [(.int (3 : Int32)), (.ref la)])
        refine go_iald X169 hx hZ e169 A169 (hb hby d5_47) rfl rfl (by decide) (.int (Int32.ofNat (gt (sv d 2 (gt d n)) 3))) rfl ?_
        show Go p e below s _ _ _ T169 (mkF m 48 #[.val (.ref la), .val (.int (Int32.ofNat n)), .val (.int (Int32.ofNat k)), .val (.int (Int32.ofNat (gt d k))), .val (.int (Int32.ofNat (gt d n)))] [(.int (Int32.ofNat (gt (sv d 2 (gt d n)) 3)))])
        refine go_st (fun _ kq => XS.iloadN X169.here hx rfl (hb hby d5_48) rfl kq) ?_
        show Go p e below s _ _ _ T169 (mkF m 49 #[.val (.ref la), .val (.int (Int32.ofNat n)), .val (.int (Int32.ofNat k)), .val (.int (Int32.ofNat (gt d k))), .val (.int (Int32.ofNat (gt d n)))] [(.int (Int32.ofNat (gt d k))), (.int (Int32.ofNat (gt (sv d 2 (gt d n)) 3)))])
        by_cases hc171 : (Int32.ofNat (gt (sv d 2 (gt d n)) 3)) = (Int32.ofNat (gt d k))
        · refine go_st (fun _ kq => XS.icmpNo X169.here hx rfl (hb hby d5_49) rfl (XT.ii_ne_f hc171) kq) ?_
          show Go p e below s _ _ _ T169 (mkF m 52 #[.val (.ref la), .val (.int (Int32.ofNat n)), .val (.int (Int32.ofNat k)), .val (.int (Int32.ofNat (gt d k))), .val (.int (Int32.ofNat (gt d n)))] [])
          refine go_st (fun _ kq => XS.aloadN X169.here hx rfl (hb hby d5_52) rfl rfl kq) ?_
          show Go p e below s _ _ _ T169 (mkF m 53 #[.val (.ref la), .val (.int (Int32.ofNat n)), .val (.int (Int32.ofNat k)), .val (.int (Int32.ofNat (gt d k))), .val (.int (Int32.ofNat (gt d n)))] [(.ref la)])
          refine go_st (fun _ kq => XT.iconstV X169.here hx rfl (3 : Int32) (hb hby d5_53) (by decide) kq) ?_
          show Go p e below s _ _ _ T169 (mkF m 54 #[.val (.ref la), .val (.int (Int32.ofNat n)), .val (.int (Int32.ofNat k)), .val (.int (Int32.ofNat (gt d k))), .val (.int (Int32.ofNat (gt d n)))] [(.int (3 : Int32)), (.ref la)])
          refine go_st (fun _ kq => XS.iload X169.here hx rfl (hb hby d5_54) rfl kq) ?_
          show Go p e below s _ _ _ T169 (mkF m 56 #[.val (.ref la), .val (.int (Int32.ofNat n)), .val (.int (Int32.ofNat k)), .val (.int (Int32.ofNat (gt d k))), .val (.int (Int32.ofNat (gt d n)))] [(.int (Int32.ofNat (gt d n))), (.int (3 : Int32)), (.ref la)])
          refine go_iast X169 hx hZ e169 A169 (hb hby d5_56) rfl rfl (by decide) ?_
          intro T172 h172 X172 e172 W172 G172
          have N172 := Fr.snoc X172 N169 P4
          have A172 : GA Z h172 la .int 4 (fun i => .int (Int32.ofNat (gt (sv (sv d 2 (gt d n)) 3 (gt d n)) i))) := (own_st (sv_lt P3 (by decide : 2 < 4) (gt_lt _ _)) (by decide : 3 < 4) (gt_lt _ _) (by first | rfl | exact own_c4 (by decide : 3 < 4)) G172)
          show Go p e below s _ _ _ T172 (mkF m 57 #[.val (.ref la), .val (.int (Int32.ofNat n)), .val (.int (Int32.ofNat k)), .val (.int (Int32.ofNat (gt d k))), .val (.int (Int32.ofNat (gt d n)))] [])
          have H173 := own_mgs (sv_lt P3 (by decide : 2 < 4) (gt_lt _ _)) (by decide) H170 ((own_eq4 (gt_lt _ _) (gt_lt _ _)).mp hc171)
          exact go_ret0 X172 hx hlk hret (hb hby d5_57) (by decide) (by decide) (by rw [e172]; exact ⟨(sv (sv d 2 (gt d n)) 3 (gt d n)), rfl, N172, (Keep.wr (Keep.wr (Keep.refl h0 [la]) W169 (Or.inl (by simp))) W172 (Or.inl (by simp))), (sv_lt (sv_lt P3 (by decide : 2 < 4) (gt_lt _ _)) (by decide : 3 < 4) (gt_lt _ _)), (own_mg4 H173), A172⟩)
        · refine go_st (fun _ kq => XS.icmpYes X169.here hx rfl (pc0 := 49) (pc' := 57) rfl (hb hby d5_49) rfl (XT.ii_ne_t hc171) (by decide) (by decide) kq) ?_
          show Go p e below s _ _ _ T169 (mkF m 57 #[.val (.ref la), .val (.int (Int32.ofNat n)), .val (.int (Int32.ofNat k)), .val (.int (Int32.ofNat (gt d k))), .val (.int (Int32.ofNat (gt d n)))] [])
          have H174 := own_mgn H170 (by decide) (fun hz => hc171 ((own_eq4 (gt_lt _ _) (gt_lt _ _)).mpr hz))
          exact go_ret0 X169 hx hlk hret (hb hby d5_57) (by decide) (by decide) (by rw [e169]; exact ⟨(sv d 2 (gt d n)), rfl, N169, (Keep.wr (Keep.refl h0 [la]) W169 (Or.inl (by simp))), (sv_lt P3 (by decide : 2 < 4) (gt_lt _ _)), (own_mg4 H174), A169⟩)
      · refine go_st (fun _ kq => XS.icmpYes X0.here hx rfl (pc0 := 37) (pc' := 45) rfl (hb hby d5_37) rfl (XT.ii_ne_t hc168) (by decide) (by decide) kq) ?_
        show Go p e below s _ _ _ s₁ (mkF m 45 #[.val (.ref la), .val (.int (Int32.ofNat n)), .val (.int (Int32.ofNat k)), .val (.int (Int32.ofNat (gt d k))), .val (.int (Int32.ofNat (gt d n)))] [])
        have H175 := own_mgn H167 (by decide) (fun hz => hc168 ((own_eq4 (gt_lt _ _) (gt_lt _ _)).mpr hz))
        refine go_st (fun _ kq => XS.aloadN X0.here hx rfl (hb hby d5_45) rfl rfl kq) ?_
        show Go p e below s _ _ _ s₁ (mkF m 46 #[.val (.ref la), .val (.int (Int32.ofNat n)), .val (.int (Int32.ofNat k)), .val (.int (Int32.ofNat (gt d k))), .val (.int (Int32.ofNat (gt d n)))] [(.ref la)])
        refine go_st (fun _ kq => XT.iconstV X0.here hx rfl (3 : Int32) (hb hby d5_46) (by decide) kq) ?_
        show Go p e below s _ _ _ s₁ (mkF m 47 #[.val (.ref la), .val (.int (Int32.ofNat n)), .val (.int (Int32.ofNat k)), .val (.int (Int32.ofNat (gt d k))), .val (.int (Int32.ofNat (gt d n)))] [(.int (3 : Int32)), (.ref la)])
        refine go_iald X0 hx hZ e0 P0 (hb hby d5_47) rfl rfl (by decide) (.int (Int32.ofNat (gt d 3))) rfl ?_
        show Go p e below s _ _ _ s₁ (mkF m 48 #[.val (.ref la), .val (.int (Int32.ofNat n)), .val (.int (Int32.ofNat k)), .val (.int (Int32.ofNat (gt d k))), .val (.int (Int32.ofNat (gt d n)))] [(.int (Int32.ofNat (gt d 3)))])
        refine go_st (fun _ kq => XS.iloadN X0.here hx rfl (hb hby d5_48) rfl kq) ?_
        show Go p e below s _ _ _ s₁ (mkF m 49 #[.val (.ref la), .val (.int (Int32.ofNat n)), .val (.int (Int32.ofNat k)), .val (.int (Int32.ofNat (gt d k))), .val (.int (Int32.ofNat (gt d n)))] [(.int (Int32.ofNat (gt d k))), (.int (Int32.ofNat (gt d 3)))])
        by_cases hc176 : (Int32.ofNat (gt d 3)) = (Int32.ofNat (gt d k))
        · refine go_st (fun _ kq => XS.icmpNo X0.here hx rfl (hb hby d5_49) rfl (XT.ii_ne_f hc176) kq) ?_
          show Go p e below s _ _ _ s₁ (mkF m 52 #[.val (.ref la), .val (.int (Int32.ofNat n)), .val (.int (Int32.ofNat k)), .val (.int (Int32.ofNat (gt d k))), .val (.int (Int32.ofNat (gt d n)))] [])
          refine go_st (fun _ kq => XS.aloadN X0.here hx rfl (hb hby d5_52) rfl rfl kq) ?_
          show Go p e below s _ _ _ s₁ (mkF m 53 #[.val (.ref la), .val (.int (Int32.ofNat n)), .val (.int (Int32.ofNat k)), .val (.int (Int32.ofNat (gt d k))), .val (.int (Int32.ofNat (gt d n)))] [(.ref la)])
          refine go_st (fun _ kq => XT.iconstV X0.here hx rfl (3 : Int32) (hb hby d5_53) (by decide) kq) ?_
          show Go p e below s _ _ _ s₁ (mkF m 54 #[.val (.ref la), .val (.int (Int32.ofNat n)), .val (.int (Int32.ofNat k)), .val (.int (Int32.ofNat (gt d k))), .val (.int (Int32.ofNat (gt d n)))] [(.int (3 : Int32)), (.ref la)])
          refine go_st (fun _ kq => XS.iload X0.here hx rfl (hb hby d5_54) rfl kq) ?_
          show Go p e below s _ _ _ s₁ (mkF m 56 #[.val (.ref la), .val (.int (Int32.ofNat n)), .val (.int (Int32.ofNat k)), .val (.int (Int32.ofNat (gt d k))), .val (.int (Int32.ofNat (gt d n)))] [(.int (Int32.ofNat (gt d n))), (.int (3 : Int32)), (.ref la)])
          refine go_iast X0 hx hZ e0 P0 (hb hby d5_56) rfl rfl (by decide) ?_
          intro T177 h177 X177 e177 W177 G177
          have N177 := Fr.snoc X177 N0 P4
          have A177 : GA Z h177 la .int 4 (fun i => .int (Int32.ofNat (gt (sv d 3 (gt d n)) i))) := (own_st P3 (by decide : 3 < 4) (gt_lt _ _) (by first | rfl | exact own_c4 (by decide : 3 < 4)) G177)
          show Go p e below s _ _ _ T177 (mkF m 57 #[.val (.ref la), .val (.int (Int32.ofNat n)), .val (.int (Int32.ofNat k)), .val (.int (Int32.ofNat (gt d k))), .val (.int (Int32.ofNat (gt d n)))] [])
          have H178 := own_mgs P3 (by decide) H175 ((own_eq4 (gt_lt _ _) (gt_lt _ _)).mp hc176)
          exact go_ret0 X177 hx hlk hret (hb hby d5_57) (by decide) (by decide) (by rw [e177]; exact ⟨(sv d 3 (gt d n)), rfl, N177, (Keep.wr (Keep.refl h0 [la]) W177 (Or.inl (by simp))), (sv_lt P3 (by decide : 3 < 4) (gt_lt _ _)), (own_mg4 H178), A177⟩)
        · refine go_st (fun _ kq => XS.icmpYes X0.here hx rfl (pc0 := 49) (pc' := 57) rfl (hb hby d5_49) rfl (XT.ii_ne_t hc176) (by decide) (by decide) kq) ?_
          show Go p e below s _ _ _ s₁ (mkF m 57 #[.val (.ref la), .val (.int (Int32.ofNat n)), .val (.int (Int32.ofNat k)), .val (.int (Int32.ofNat (gt d k))), .val (.int (Int32.ofNat (gt d n)))] [])
          have H179 := own_mgn H175 (by decide) (fun hz => hc176 ((own_eq4 (gt_lt _ _) (gt_lt _ _)).mpr hz))
          exact go_ret0 X0 hx hlk hret (hb hby d5_57) (by decide) (by decide) (by rw [e0]; exact ⟨d, rfl, N0, (Keep.refl h0 [la]), P3, (own_mg4 H179), P0⟩)
theorem pn4 : plainFor x = true := by first | (refine plainFor_of_name ?_; simp [plainName, overriddenIn]; done) | (refine plainFor_of_name ?_; decide +kernel) | decide +kernel
theorem pd1 : parseMethodDescriptor "(I)V" = some ⟨[.int], none⟩ := by decide +kernel
theorem pd2 : parseMethodDescriptor "(II)I" = some ⟨[.int, .int], (some .int)⟩ := by decide +kernel
theorem pd3 : parseMethodDescriptor "([III)V" = some ⟨[(.array .int), .int, .int], none⟩ := by decide +kernel
theorem ef_law (m : MethodId) (x0 : Int32) (x1 : Int32) (x2 : Int32) (x3 : Int32) (x4 : Int32) : entryFrame m #[(.int x0), (.int x1), (.int x2), (.int x3), (.int x4)] maxLocals = mkF m 0 #[.val (.int x0), .val (.int x1), .val (.int x2), .val (.int x3), .val (.int x4), .unset, .unset, .unset, .unset, .unset, .unset, .unset, .unset, .unset, .unset, .unset, .unset, .unset, .unset, .unset, .unset] [] := by first | (simp [entryFrame, mkF, argsToLocals, Value.category, maxLocals]; done) | rfl
set_option maxRecDepth 65536 in
set_option maxHeartbeats 4000000 in
theorem met_law (l : Launch) (Z : State) (a0 : Array Value) (hw : ∀ d ∈ tables_1, d.before a0 Z = true) (x0 : Int32) (x1 : Int32) (x2 : Int32) (x3 : Int32) (x4 : Int32) (h0 : Heap) (n0 : Nat) (Z0 : n0 ≤ h0.size) :
    Met l x code maxLocals ret tables_1 room_1 Z #[(.int x0), (.int x1), (.int x2), (.int x3), (.int x4)] h0 (QF (some (.int (1 : Int32))) n0) 16 128 := by
  refine own_body pn4 ?_
  intro p e s m below meth c s₁ ct X0 e0
  have ct0 := ct
  obtain ⟨hx, hZ, hown, hby, hml, hret, hlk, hnm⟩ := ct
  have N0 := Fr.nil n0
  refine castGo (ef_law m x0 x1 x2 x3 x4) ?_
  show Go p e below s _ _ _ s₁ (mkF m 0 #[.val (.int x0), .val (.int x1), .val (.int x2), .val (.int x3), .val (.int x4), .unset, .unset, .unset, .unset, .unset, .unset, .unset, .unset, .unset, .unset, .unset, .unset, .unset, .unset, .unset, .unset] [])
  refine go_newO X0 hx hZ hown (hw _ (List.mem_of_getElem? (i := 0) rfl)) (hw _ (List.mem_of_getElem? (i := 1) rfl)) (hw _ (List.mem_of_getElem? (i := 2) rfl)) e0 (hb hby at_0) rfl (by decide) (by decide) ?_
  intro T180 h180 a180 g180 X180 e180 E180 A180 D180
  have nw_a180 : n0 ≤ a180 := Nat.le_trans Z0 (Nat.le_of_eq g180.symm)
  have lt_a180 : a180 < h180.size := A180.lt
  have F181 : Fld Z h180 a180 "com/example/copse/copse/graph/DisjointSets" "parent" "[I" .null := D180 (Or.inr (hw _ (List.mem_of_getElem? (i := 11) rfl))) (ty := (.array .int)) (by decide)
  have F182 : Fld Z h180 a180 "com/example/copse/copse/graph/DisjointSets" "size" "[I" .null := D180 (Or.inr (hw _ (List.mem_of_getElem? (i := 13) rfl))) (ty := (.array .int)) (by decide)
  show Go p e below s _ _ _ T180 (mkF m 3 #[.val (.int x0), .val (.int x1), .val (.int x2), .val (.int x3), .val (.int x4), .unset, .unset, .unset, .unset, .unset, .unset, .unset, .unset, .unset, .unset, .unset, .unset, .unset, .unset, .unset, .unset] [(.ref a180)])
  refine go_st (fun _ kq => XS.dup X180.here hx rfl (hb hby at_3) rfl rfl kq) ?_
  show Go p e below s _ _ _ T180 (mkF m 4 #[.val (.int x0), .val (.int x1), .val (.int x2), .val (.int x3), .val (.int x4), .unset, .unset, .unset, .unset, .unset, .unset, .unset, .unset, .unset, .unset, .unset, .unset, .unset, .unset, .unset, .unset] [(.ref a180), (.ref a180)])
  refine go_st (fun _ kq => XT.iconstV X180.here hx rfl (4 : Int32) (hb hby at_4) (by decide) kq) ?_
  show Go p e below s _ _ _ T180 (mkF m 5 #[.val (.int x0), .val (.int x1), .val (.int x2), .val (.int x3), .val (.int x4), .unset, .unset, .unset, .unset, .unset, .unset, .unset, .unset, .unset, .unset, .unset, .unset, .unset, .unset, .unset, .unset] [(.int (4 : Int32)), (.ref a180), (.ref a180)])
  have z184 : n0 ≤ h180.size := Nat.le_trans Z0 E180.1
  refine go_callI X180 hx hZ hml hown rfl (hw _ (List.mem_of_getElem? (i := 3) rfl)) (hw _ (List.mem_of_getElem? (i := 4) rfl)) (hw _ (List.mem_of_getElem? (i := 5) rfl)) (hw _ (List.mem_of_getElem? (i := 2) rfl)) e180 (argsL := [(.int (4 : Int32))]) (rest := [(.ref a180)]) (W := 1) (met_ini l Z a0 hw a180 h180 n0 z184 F181 F182 A180 nw_a180) (hb hby at_5) rfl rfl rfl (lenOf pd1 rfl) (by show 2 * 0 + _ ≤ _; exact Nat.le_of_eq rfl) (by decide) (by decide) (by decide) (by decide) (by decide) ?_
  intro T183 v183 L183 X183 q183
  obtain ⟨pa_183, sa_183, q_183, g_183, rfl, M183, K183, fz183_pa, fz183_sa, p183_0, p183_1, p183_2, p183_3, p183_4, p183_5, f183_0, f183_1, f183_2, f183_3, f183_4⟩ := q183
  have N183 := Fr.app N0 M183
  have ne185 : a180 ≠ pa_183 := Nat.ne_of_lt (Nat.lt_of_lt_of_le lt_a180 fz183_pa)
  have nw_pa_183 : n0 ≤ pa_183 := Nat.le_trans z184 fz183_pa
  have y186 : h0.size ≤ h180.size := Nat.le_trans (Nat.le_refl _) E180.1
  have ne187 : a180 ≠ sa_183 := Nat.ne_of_lt (Nat.lt_of_lt_of_le lt_a180 fz183_sa)
  have nw_sa_183 : n0 ≤ sa_183 := Nat.le_trans z184 fz183_sa
  have lt_pa_183 : pa_183 < T183.heap.size := f183_3.lt
  have lt_sa_183 : sa_183 < T183.heap.size := f183_4.lt
  show Go p e below s _ _ _ T183 (mkF m 8 #[.val (.int x0), .val (.int x1), .val (.int x2), .val (.int x3), .val (.int x4), .unset, .unset, .unset, .unset, .unset, .unset, .unset, .unset, .unset, .unset, .unset, .unset, .unset, .unset, .unset, .unset] [(.ref a180)])
  refine go_st (fun _ kq => XS.astore X183.here hx rfl (hb hby at_8) rfl rfl (l' := #[.val (.int x0), .val (.int x1), .val (.int x2), .val (.int x3), .val (.int x4), .val (.ref a180), .unset, .unset, .unset, .unset, .unset, .unset, .unset, .unset, .unset, .unset, .unset, .unset, .unset, .unset, .unset]) rfl kq) ?_
  show Go p e below s _ _ _ T183 (mkF m 10 #[.val (.int x0), .val (.int x1), .val (.int x2), .val (.int x3), .val (.int x4), .val (.ref a180), .unset, .unset, .unset, .unset, .unset, .unset, .unset, .unset, .unset, .unset, .unset, .unset, .unset, .unset, .unset] [])
  refine go_st (fun _ kq => XT.iconstV X183.here hx rfl (4 : Int32) (hb hby at_10) (by decide) kq) ?_
  show Go p e below s _ _ _ T183 (mkF m 11 #[.val (.int x0), .val (.int x1), .val (.int x2), .val (.int x3), .val (.int x4), .val (.ref a180), .unset, .unset, .unset, .unset, .unset, .unset, .unset, .unset, .unset, .unset, .unset, .unset, .unset, .unset, .unset] [(.int (4 : Int32))])
  refine go_newP X183 hx hZ (hw _ (List.mem_of_getElem? (i := 9) rfl)) rfl (hb hby at_11) rfl rfl 4 (by decide) 4 (Nat.le_refl _) (by decide) (by decide) (by decide) ?_
  intro T188 h188 a188 g188 X188 e188 E188 G188
  have y189 : h0.size ≤ T183.heap.size := Nat.le_trans y186 K183.1
  have c190 : a180 < T183.heap.size := Nat.lt_of_lt_of_le lt_a180 K183.1
  have ne191 : a180 ≠ a188 := fun q => Nat.lt_irrefl _ (Nat.lt_of_lt_of_le c190 (Nat.le_of_eq (g188.symm.trans q.symm)))
  have ne192 : pa_183 ≠ a188 := fun q => Nat.lt_irrefl _ (Nat.lt_of_lt_of_le lt_pa_183 (Nat.le_of_eq (g188.symm.trans q.symm)))
  have ne193 : sa_183 ≠ a188 := fun q => Nat.lt_irrefl _ (Nat.lt_of_lt_of_le lt_sa_183 (Nat.le_of_eq (g188.symm.trans q.symm)))
  have z194 : n0 ≤ T183.heap.size := Nat.le_trans z184 K183.1
  have nw_a188 : n0 ≤ a188 := Nat.le_trans z194 (Nat.le_of_eq g188.symm)
  have lt_a188 : a188 < h188.size := G188.lt
  have A188 : GA Z h188 a188 .int 4 (fun i => .int (Int32.ofNat (gt 0 i))) := (G188.congr own_zero)
  show Go p e below s _ _ _ T188 (mkF m 13 #[.val (.int x0), .val (.int x1), .val (.int x2), .val (.int x3), .val (.int x4), .val (.ref a180), .unset, .unset, .unset, .unset, .unset, .unset, .unset, .unset, .unset, .unset, .unset, .unset, .unset, .unset, .unset] [(.ref a188)])
  refine go_st (fun _ kq => XS.dup X188.here hx rfl (hb hby at_13) rfl rfl kq) ?_
  show Go p e below s _ _ _ T188 (mkF m 14 #[.val (.int x0), .val (.int x1), .val (.int x2), .val (.int x3), .val (.int x4), .val (.ref a180), .unset, .unset, .unset, .unset, .unset, .unset, .unset, .unset, .unset, .unset, .unset, .unset, .unset, .unset, .unset] [(.ref a188), (.ref a188)])
  refine go_st (fun _ kq => XT.iconstV X188.here hx rfl (0 : Int32) (hb hby at_14) (by decide) kq) ?_
  show Go p e below s _ _ _ T188 (mkF m 15 #[.val (.int x0), .val (.int x1), .val (.int x2), .val (.int x3), .val (.int x4), .val (.ref a180), .unset, .unset, .unset, .unset, .unset, .unset, .unset, .unset, .unset, .unset, .unset, .unset, .unset, .unset, .unset] [(.int (0 : Int32)), (.ref a188), (.ref a188)])
  refine go_st (fun _ kq => XT.iconstV X188.here hx rfl (0 : Int32) (hb hby at_15) (by decide) kq) ?_
  show Go p e below s _ _ _ T188 (mkF m 16 #[.val (.int x0), .val (.int x1), .val (.int x2), .val (.int x3), .val (.int x4), .val (.ref a180), .unset, .unset, .unset, .unset, .unset, .unset, .unset, .unset, .unset, .unset, .unset, .unset, .unset, .unset, .unset] [(.int (0 : Int32)), (.int (0 : Int32)), (.ref a188), (.ref a188)])
  refine go_iast X188 hx hZ e188 A188 (hb hby at_16) rfl rfl (by decide) ?_
  intro T195 h195 X195 e195 W195 G195
  have N195 := Fr.snoc X195 N183 nw_a188
  have A195 : GA Z h195 a188 .int 4 (fun i => .int (Int32.ofNat (gt (sv 0 0 0) i))) := (own_st (by decide : 0 < 256) (by decide : 0 < 4) (by decide : 0 < 4) (by first | rfl | exact own_c4 (by decide : 0 < 4)) G195)
  show Go p e below s _ _ _ T195 (mkF m 17 #[.val (.int x0), .val (.int x1), .val (.int x2), .val (.int x3), .val (.int x4), .val (.ref a180), .unset, .unset, .unset, .unset, .unset, .unset, .unset, .unset, .unset, .unset, .unset, .unset, .unset, .unset, .unset] [(.ref a188)])
  refine go_st (fun _ kq => XS.dup X195.here hx rfl (hb hby at_17) rfl rfl kq) ?_
  show Go p e below s _ _ _ T195 (mkF m 18 #[.val (.int x0), .val (.int x1), .val (.int x2), .val (.int x3), .val (.int x4), .val (.ref a180), .unset, .unset, .unset, .unset, .unset, .unset, .unset, .unset, .unset, .unset, .unset, .unset, .unset, .unset, .unset] [(.ref a188), (.ref a188)])
  refine go_st (fun _ kq => XT.iconstV X195.here hx rfl (1 : Int32) (hb hby at_18) (by decide) kq) ?_
  show Go p e below s _ _ _ T195 (mkF m 19 #[.val (.int x0), .val (.int x1), .val (.int x2), .val (.int x3), .val (.int x4), .val (.ref a180), .unset, .unset, .unset, .unset, .unset, .unset, .unset, .unset, .unset, .unset, .unset, .unset, .unset, .unset, .unset] [(.int (1 : Int32)), (.ref a188), (.ref a188)])
  refine go_st (fun _ kq => XT.iconstV X195.here hx rfl (1 : Int32) (hb hby at_19) (by decide) kq) ?_
  show Go p e below s _ _ _ T195 (mkF m 20 #[.val (.int x0), .val (.int x1), .val (.int x2), .val (.int x3), .val (.int x4), .val (.ref a180), .unset, .unset, .unset, .unset, .unset, .unset, .unset, .unset, .unset, .unset, .unset, .unset, .unset, .unset, .unset] [(.int (1 : Int32)), (.int (1 : Int32)), (.ref a188), (.ref a188)])
  refine go_iast X195 hx hZ e195 A195 (hb hby at_20) rfl rfl (by decide) ?_
  intro T196 h196 X196 e196 W196 G196
  have N196 := Fr.snoc X196 N195 nw_a188
  have A196 : GA Z h196 a188 .int 4 (fun i => .int (Int32.ofNat (gt (sv (sv 0 0 0) 1 1) i))) := (own_st (sv_lt (by decide : 0 < 256) (by decide : 0 < 4) (by decide : 0 < 4)) (by decide : 1 < 4) (by decide : 1 < 4) (by first | rfl | exact own_c4 (by decide : 1 < 4)) G196)
  show Go p e below s _ _ _ T196 (mkF m 21 #[.val (.int x0), .val (.int x1), .val (.int x2), .val (.int x3), .val (.int x4), .val (.ref a180), .unset, .unset, .unset, .unset, .unset, .unset, .unset, .unset, .unset, .unset, .unset, .unset, .unset, .unset, .unset] [(.ref a188)])
  refine go_st (fun _ kq => XS.dup X196.here hx rfl (hb hby at_21) rfl rfl kq) ?_
  show Go p e below s _ _ _ T196 (mkF m 22 #[.val (.int x0), .val (.int x1), .val (.int x2), .val (.int x3), .val (.int x4), .val (.ref a180), .unset, .unset, .unset, .unset, .unset, .unset, .unset, .unset, .unset, .unset, .unset, .unset, .unset, .unset, .unset] [(.ref a188), (.ref a188)])
  refine go_st (fun _ kq => XT.iconstV X196.here hx rfl (2 : Int32) (hb hby at_22) (by decide) kq) ?_
  show Go p e below s _ _ _ T196 (mkF m 23 #[.val (.int x0), .val (.int x1), .val (.int x2), .val (.int x3), .val (.int x4), .val (.ref a180), .unset, .unset, .unset, .unset, .unset, .unset, .unset, .unset, .unset, .unset, .unset, .unset, .unset, .unset, .unset] [(.int (2 : Int32)), (.ref a188), (.ref a188)])
  refine go_st (fun _ kq => XT.iconstV X196.here hx rfl (2 : Int32) (hb hby at_23) (by decide) kq) ?_
  show Go p e below s _ _ _ T196 (mkF m 24 #[.val (.int x0), .val (.int x1), .val (.int x2), .val (.int x3), .val (.int x4), .val (.ref a180), .unset, .unset, .unset, .unset, .unset, .unset, .unset, .unset, .unset, .unset, .unset, .unset, .unset, .unset, .unset] [(.int (2 : Int32)), (.int (2 : Int32)), (.ref a188), (.ref a188)])
  refine go_iast X196 hx hZ e196 A196 (hb hby at_24) rfl rfl (by decide) ?_
  intro T197 h197 X197 e197 W197 G197
  have N197 := Fr.snoc X197 N196 nw_a188
  have A197 : GA Z h197 a188 .int 4 (fun i => .int (Int32.ofNat (gt (sv (sv (sv 0 0 0) 1 1) 2 2) i))) := (own_st (sv_lt (sv_lt (by decide : 0 < 256) (by decide : 0 < 4) (by decide : 0 < 4)) (by decide : 1 < 4) (by decide : 1 < 4)) (by decide : 2 < 4) (by decide : 2 < 4) (by first | rfl | exact own_c4 (by decide : 2 < 4)) G197)
  show Go p e below s _ _ _ T197 (mkF m 25 #[.val (.int x0), .val (.int x1), .val (.int x2), .val (.int x3), .val (.int x4), .val (.ref a180), .unset, .unset, .unset, .unset, .unset, .unset, .unset, .unset, .unset, .unset, .unset, .unset, .unset, .unset, .unset] [(.ref a188)])
  refine go_st (fun _ kq => XS.dup X197.here hx rfl (hb hby at_25) rfl rfl kq) ?_
  show Go p e below s _ _ _ T197 (mkF m 26 #[.val (.int x0), .val (.int x1), .val (.int x2), .val (.int x3), .val (.int x4), .val (.ref a180), .unset, .unset, .unset, .unset, .unset, .unset, .unset, .unset, .unset, .unset, .unset, .unset, .unset, .unset, .unset] [(.ref a188), (.ref a188)])
  refine go_st (fun _ kq => XT.iconstV X197.here hx rfl (3 : Int32) (hb hby at_26) (by decide) kq) ?_
  show Go p e below s _ _ _ T197 (mkF m 27 #[.val (.int x0), .val (.int x1), .val (.int x2), .val (.int x3), .val (.int x4), .val (.ref a180), .unset, .unset, .unset, .unset, .unset, .unset, .unset, .unset, .unset, .unset, .unset, .unset, .unset, .unset, .unset] [(.int (3 : Int32)), (.ref a188), (.ref a188)])
  refine go_st (fun _ kq => XT.iconstV X197.here hx rfl (3 : Int32) (hb hby at_27) (by decide) kq) ?_
  show Go p e below s _ _ _ T197 (mkF m 28 #[.val (.int x0), .val (.int x1), .val (.int x2), .val (.int x3), .val (.int x4), .val (.ref a180), .unset, .unset, .unset, .unset, .unset, .unset, .unset, .unset, .unset, .unset, .unset, .unset, .unset, .unset, .unset] [(.int (3 : Int32)), (.int (3 : Int32)), (.ref a188), (.ref a188)])
  refine go_iast X197 hx hZ e197 A197 (hb hby at_28) rfl rfl (by decide) ?_
  intro T198 h198 X198 e198 W198 G198
  have N198 := Fr.snoc X198 N197 nw_a188
  have A198 : GA Z h198 a188 .int 4 (fun i => .int (Int32.ofNat (gt (sv (sv (sv (sv 0 0 0) 1 1) 2 2) 3 3) i))) := (own_st (sv_lt (sv_lt (sv_lt (by decide : 0 < 256) (by decide : 0 < 4) (by decide : 0 < 4)) (by decide : 1 < 4) (by decide : 1 < 4)) (by decide : 2 < 4) (by decide : 2 < 4)) (by decide : 3 < 4) (by decide : 3 < 4) (by first | rfl | exact own_c4 (by decide : 3 < 4)) G198)
  show Go p e below s _ _ _ T198 (mkF m 29 #[.val (.int x0), .val (.int x1), .val (.int x2), .val (.int x3), .val (.int x4), .val (.ref a180), .unset, .unset, .unset, .unset, .unset, .unset, .unset, .unset, .unset, .unset, .unset, .unset, .unset, .unset, .unset] [(.ref a188)])
  refine go_st (fun _ kq => XS.astore X198.here hx rfl (hb hby at_29) rfl rfl (l' := #[.val (.int x0), .val (.int x1), .val (.int x2), .val (.int x3), .val (.int x4), .val (.ref a180), .val (.ref a188), .unset, .unset, .unset, .unset, .unset, .unset, .unset, .unset, .unset, .unset, .unset, .unset, .unset, .unset]) rfl kq) ?_
  show Go p e below s _ _ _ T198 (mkF m 31 #[.val (.int x0), .val (.int x1), .val (.int x2), .val (.int x3), .val (.int x4), .val (.ref a180), .val (.ref a188), .unset, .unset, .unset, .unset, .unset, .unset, .unset, .unset, .unset, .unset, .unset, .unset, .unset, .unset] [])
  refine go_st (fun _ kq => XS.iloadN X198.here hx rfl (hb hby at_31) rfl kq) ?_
  show Go p e below s _ _ _ T198 (mkF m 32 #[.val (.int x0), .val (.int x1), .val (.int x2), .val (.int x3), .val (.int x4), .val (.ref a180), .val (.ref a188), .unset, .unset, .unset, .unset, .unset, .unset, .unset, .unset, .unset, .unset, .unset, .unset, .unset, .unset] [(.int x0)])
  refine go_st (fun _ kq => XT.iconstV X198.here hx rfl (3 : Int32) (hb hby at_32) (by decide) kq) ?_
  show Go p e below s _ _ _ T198 (mkF m 33 #[.val (.int x0), .val (.int x1), .val (.int x2), .val (.int x3), .val (.int x4), .val (.ref a180), .val (.ref a188), .unset, .unset, .unset, .unset, .unset, .unset, .unset, .unset, .unset, .unset, .unset, .unset, .unset, .unset] [(.int (3 : Int32)), (.int x0)])
  refine go_st (fun _ kq => XS.iand X198.here hx rfl (hb hby at_33) rfl kq) ?_
  show Go p e below s _ _ _ T198 (mkF m 34 #[.val (.int x0), .val (.int x1), .val (.int x2), .val (.int x3), .val (.int x4), .val (.ref a180), .val (.ref a188), .unset, .unset, .unset, .unset, .unset, .unset, .unset, .unset, .unset, .unset, .unset, .unset, .unset, .unset] [(.int (x0 &&& (3 : Int32)))])
  refine go_st (fun _ kq => XS.istore X198.here hx rfl (hb hby at_34) rfl (l' := #[.val (.int x0), .val (.int x1), .val (.int x2), .val (.int x3), .val (.int x4), .val (.ref a180), .val (.ref a188), .val (.int (x0 &&& (3 : Int32))), .unset, .unset, .unset, .unset, .unset, .unset, .unset, .unset, .unset, .unset, .unset, .unset, .unset]) rfl kq) ?_
  show Go p e below s _ _ _ T198 (mkF m 36 #[.val (.int x0), .val (.int x1), .val (.int x2), .val (.int x3), .val (.int x4), .val (.ref a180), .val (.ref a188), .val (.int (x0 &&& (3 : Int32))), .unset, .unset, .unset, .unset, .unset, .unset, .unset, .unset, .unset, .unset, .unset, .unset, .unset] [])
  refine go_st (fun _ kq => XS.iloadN X198.here hx rfl (hb hby at_36) rfl kq) ?_
  show Go p e below s _ _ _ T198 (mkF m 37 #[.val (.int x0), .val (.int x1), .val (.int x2), .val (.int x3), .val (.int x4), .val (.ref a180), .val (.ref a188), .val (.int (x0 &&& (3 : Int32))), .unset, .unset, .unset, .unset, .unset, .unset, .unset, .unset, .unset, .unset, .unset, .unset, .unset] [(.int x0)])
  refine go_st (fun _ kq => XT.iconstV X198.here hx rfl (2 : Int32) (hb hby at_37) (by decide) kq) ?_
  show Go p e below s _ _ _ T198 (mkF m 38 #[.val (.int x0), .val (.int x1), .val (.int x2), .val (.int x3), .val (.int x4), .val (.ref a180), .val (.ref a188), .val (.int (x0 &&& (3 : Int32))), .unset, .unset, .unset, .unset, .unset, .unset, .unset, .unset, .unset, .unset, .unset, .unset, .unset] [(.int (2 : Int32)), (.int x0)])
  refine go_st (fun _ kq => XT.iushr X198.here hx rfl (hb hby at_38) rfl kq) ?_
  show Go p e below s _ _ _ T198 (mkF m 39 #[.val (.int x0), .val (.int x1), .val (.int x2), .val (.int x3), .val (.int x4), .val (.ref a180), .val (.ref a188), .val (.int (x0 &&& (3 : Int32))), .unset, .unset, .unset, .unset, .unset, .unset, .unset, .unset, .unset, .unset, .unset, .unset, .unset] [(.int (XT.ushr x0 (2 : Int32)))])
  refine go_st (fun _ kq => XT.iconstV X198.here hx rfl (3 : Int32) (hb hby at_39) (by decide) kq) ?_
  show Go p e below s _ _ _ T198 (mkF m 40 #[.val (.int x0), .val (.int x1), .val (.int x2), .val (.int x3), .val (.int x4), .val (.ref a180), .val (.ref a188), .val (.int (x0 &&& (3 : Int32))), .unset, .unset, .unset, .unset, .unset, .unset, .unset, .unset, .unset, .unset, .unset, .unset, .unset] [(.int (3 : Int32)), (.int (XT.ushr x0 (2 : Int32)))])
  refine go_st (fun _ kq => XS.iand X198.here hx rfl (hb hby at_40) rfl kq) ?_
  show Go p e below s _ _ _ T198 (mkF m 41 #[.val (.int x0), .val (.int x1), .val (.int x2), .val (.int x3), .val (.int x4), .val (.ref a180), .val (.ref a188), .val (.int (x0 &&& (3 : Int32))), .unset, .unset, .unset, .unset, .unset, .unset, .unset, .unset, .unset, .unset, .unset, .unset, .unset] [(.int ((XT.ushr x0 (2 : Int32)) &&& (3 : Int32)))])
  refine go_st (fun _ kq => XS.istore X198.here hx rfl (hb hby at_41) rfl (l' := #[.val (.int x0), .val (.int x1), .val (.int x2), .val (.int x3), .val (.int x4), .val (.ref a180), .val (.ref a188), .val (.int (x0 &&& (3 : Int32))), .val (.int ((XT.ushr x0 (2 : Int32)) &&& (3 : Int32))), .unset, .unset, .unset, .unset, .unset, .unset, .unset, .unset, .unset, .unset, .unset, .unset]) rfl kq) ?_
  show Go p e below s _ _ _ T198 (mkF m 43 #[.val (.int x0), .val (.int x1), .val (.int x2), .val (.int x3), .val (.int x4), .val (.ref a180), .val (.ref a188), .val (.int (x0 &&& (3 : Int32))), .val (.int ((XT.ushr x0 (2 : Int32)) &&& (3 : Int32))), .unset, .unset, .unset, .unset, .unset, .unset, .unset, .unset, .unset, .unset, .unset, .unset] [])
  refine go_st (fun _ kq => XS.iloadN X198.here hx rfl (hb hby at_43) rfl kq) ?_
  show Go p e below s _ _ _ T198 (mkF m 44 #[.val (.int x0), .val (.int x1), .val (.int x2), .val (.int x3), .val (.int x4), .val (.ref a180), .val (.ref a188), .val (.int (x0 &&& (3 : Int32))), .val (.int ((XT.ushr x0 (2 : Int32)) &&& (3 : Int32))), .unset, .unset, .unset, .unset, .unset, .unset, .unset, .unset, .unset, .unset, .unset, .unset] [(.int x1)])
  refine go_st (fun _ kq => XT.iconstV X198.here hx rfl (3 : Int32) (hb hby at_44) (by decide) kq) ?_
  show Go p e below s _ _ _ T198 (mkF m 45 #[.val (.int x0), .val (.int x1), .val (.int x2), .val (.int x3), .val (.int x4), .val (.ref a180), .val (.ref a188), .val (.int (x0 &&& (3 : Int32))), .val (.int ((XT.ushr x0 (2 : Int32)) &&& (3 : Int32))), .unset, .unset, .unset, .unset, .unset, .unset, .unset, .unset, .unset, .unset, .unset, .unset] [(.int (3 : Int32)), (.int x1)])
  refine go_st (fun _ kq => XS.iand X198.here hx rfl (hb hby at_45) rfl kq) ?_
  show Go p e below s _ _ _ T198 (mkF m 46 #[.val (.int x0), .val (.int x1), .val (.int x2), .val (.int x3), .val (.int x4), .val (.ref a180), .val (.ref a188), .val (.int (x0 &&& (3 : Int32))), .val (.int ((XT.ushr x0 (2 : Int32)) &&& (3 : Int32))), .unset, .unset, .unset, .unset, .unset, .unset, .unset, .unset, .unset, .unset, .unset, .unset] [(.int (x1 &&& (3 : Int32)))])
  refine go_st (fun _ kq => XS.istore X198.here hx rfl (hb hby at_46) rfl (l' := #[.val (.int x0), .val (.int x1), .val (.int x2), .val (.int x3), .val (.int x4), .val (.ref a180), .val (.ref a188), .val (.int (x0 &&& (3 : Int32))), .val (.int ((XT.ushr x0 (2 : Int32)) &&& (3 : Int32))), .val (.int (x1 &&& (3 : Int32))), .unset, .unset, .unset, .unset, .unset, .unset, .unset, .unset, .unset, .unset, .unset]) rfl kq) ?_
  show Go p e below s _ _ _ T198 (mkF m 48 #[.val (.int x0), .val (.int x1), .val (.int x2), .val (.int x3), .val (.int x4), .val (.ref a180), .val (.ref a188), .val (.int (x0 &&& (3 : Int32))), .val (.int ((XT.ushr x0 (2 : Int32)) &&& (3 : Int32))), .val (.int (x1 &&& (3 : Int32))), .unset, .unset, .unset, .unset, .unset, .unset, .unset, .unset, .unset, .unset, .unset] [])
  refine go_st (fun _ kq => XS.iloadN X198.here hx rfl (hb hby at_48) rfl kq) ?_
  show Go p e below s _ _ _ T198 (mkF m 49 #[.val (.int x0), .val (.int x1), .val (.int x2), .val (.int x3), .val (.int x4), .val (.ref a180), .val (.ref a188), .val (.int (x0 &&& (3 : Int32))), .val (.int ((XT.ushr x0 (2 : Int32)) &&& (3 : Int32))), .val (.int (x1 &&& (3 : Int32))), .unset, .unset, .unset, .unset, .unset, .unset, .unset, .unset, .unset, .unset, .unset] [(.int x1)])
  refine go_st (fun _ kq => XT.iconstV X198.here hx rfl (2 : Int32) (hb hby at_49) (by decide) kq) ?_
  show Go p e below s _ _ _ T198 (mkF m 50 #[.val (.int x0), .val (.int x1), .val (.int x2), .val (.int x3), .val (.int x4), .val (.ref a180), .val (.ref a188), .val (.int (x0 &&& (3 : Int32))), .val (.int ((XT.ushr x0 (2 : Int32)) &&& (3 : Int32))), .val (.int (x1 &&& (3 : Int32))), .unset, .unset, .unset, .unset, .unset, .unset, .unset, .unset, .unset, .unset, .unset] [(.int (2 : Int32)), (.int x1)])
  refine go_st (fun _ kq => XT.iushr X198.here hx rfl (hb hby at_50) rfl kq) ?_
  show Go p e below s _ _ _ T198 (mkF m 51 #[.val (.int x0), .val (.int x1), .val (.int x2), .val (.int x3), .val (.int x4), .val (.ref a180), .val (.ref a188), .val (.int (x0 &&& (3 : Int32))), .val (.int ((XT.ushr x0 (2 : Int32)) &&& (3 : Int32))), .val (.int (x1 &&& (3 : Int32))), .unset, .unset, .unset, .unset, .unset, .unset, .unset, .unset, .unset, .unset, .unset] [(.int (XT.ushr x1 (2 : Int32)))])
  refine go_st (fun _ kq => XT.iconstV X198.here hx rfl (3 : Int32) (hb hby at_51) (by decide) kq) ?_
  show Go p e below s _ _ _ T198 (mkF m 52 #[.val (.int x0), .val (.int x1), .val (.int x2), .val (.int x3), .val (.int x4), .val (.ref a180), .val (.ref a188), .val (.int (x0 &&& (3 : Int32))), .val (.int ((XT.ushr x0 (2 : Int32)) &&& (3 : Int32))), .val (.int (x1 &&& (3 : Int32))), .unset, .unset, .unset, .unset, .unset, .unset, .unset, .unset, .unset, .unset, .unset] [(.int (3 : Int32)), (.int (XT.ushr x1 (2 : Int32)))])
  refine go_st (fun _ kq => XS.iand X198.here hx rfl (hb hby at_52) rfl kq) ?_
  show Go p e below s _ _ _ T198 (mkF m 53 #[.val (.int x0), .val (.int x1), .val (.int x2), .val (.int x3), .val (.int x4), .val (.ref a180), .val (.ref a188), .val (.int (x0 &&& (3 : Int32))), .val (.int ((XT.ushr x0 (2 : Int32)) &&& (3 : Int32))), .val (.int (x1 &&& (3 : Int32))), .unset, .unset, .unset, .unset, .unset, .unset, .unset, .unset, .unset, .unset, .unset] [(.int ((XT.ushr x1 (2 : Int32)) &&& (3 : Int32)))])
  refine go_st (fun _ kq => XS.istore X198.here hx rfl (hb hby at_53) rfl (l' := #[.val (.int x0), .val (.int x1), .val (.int x2), .val (.int x3), .val (.int x4), .val (.ref a180), .val (.ref a188), .val (.int (x0 &&& (3 : Int32))), .val (.int ((XT.ushr x0 (2 : Int32)) &&& (3 : Int32))), .val (.int (x1 &&& (3 : Int32))), .val (.int ((XT.ushr x1 (2 : Int32)) &&& (3 : Int32))), .unset, .unset, .unset, .unset, .unset, .unset, .unset, .unset, .unset, .unset]) rfl kq) ?_
  show Go p e below s _ _ _ T198 (mkF m 55 #[.val (.int x0), .val (.int x1), .val (.int x2), .val (.int x3), .val (.int x4), .val (.ref a180), .val (.ref a188), .val (.int (x0 &&& (3 : Int32))), .val (.int ((XT.ushr x0 (2 : Int32)) &&& (3 : Int32))), .val (.int (x1 &&& (3 : Int32))), .val (.int ((XT.ushr x1 (2 : Int32)) &&& (3 : Int32))), .unset, .unset, .unset, .unset, .unset, .unset, .unset, .unset, .unset, .unset] [])
  refine go_st (fun _ kq => XS.iloadN X198.here hx rfl (hb hby at_55) rfl kq) ?_
  show Go p e below s _ _ _ T198 (mkF m 56 #[.val (.int x0), .val (.int x1), .val (.int x2), .val (.int x3), .val (.int x4), .val (.ref a180), .val (.ref a188), .val (.int (x0 &&& (3 : Int32))), .val (.int ((XT.ushr x0 (2 : Int32)) &&& (3 : Int32))), .val (.int (x1 &&& (3 : Int32))), .val (.int ((XT.ushr x1 (2 : Int32)) &&& (3 : Int32))), .unset, .unset, .unset, .unset, .unset, .unset, .unset, .unset, .unset, .unset] [(.int x2)])
  refine go_st (fun _ kq => XT.iconstV X198.here hx rfl (3 : Int32) (hb hby at_56) (by decide) kq) ?_
  show Go p e below s _ _ _ T198 (mkF m 57 #[.val (.int x0), .val (.int x1), .val (.int x2), .val (.int x3), .val (.int x4), .val (.ref a180), .val (.ref a188), .val (.int (x0 &&& (3 : Int32))), .val (.int ((XT.ushr x0 (2 : Int32)) &&& (3 : Int32))), .val (.int (x1 &&& (3 : Int32))), .val (.int ((XT.ushr x1 (2 : Int32)) &&& (3 : Int32))), .unset, .unset, .unset, .unset, .unset, .unset, .unset, .unset, .unset, .unset] [(.int (3 : Int32)), (.int x2)])
  refine go_st (fun _ kq => XS.iand X198.here hx rfl (hb hby at_57) rfl kq) ?_
  show Go p e below s _ _ _ T198 (mkF m 58 #[.val (.int x0), .val (.int x1), .val (.int x2), .val (.int x3), .val (.int x4), .val (.ref a180), .val (.ref a188), .val (.int (x0 &&& (3 : Int32))), .val (.int ((XT.ushr x0 (2 : Int32)) &&& (3 : Int32))), .val (.int (x1 &&& (3 : Int32))), .val (.int ((XT.ushr x1 (2 : Int32)) &&& (3 : Int32))), .unset, .unset, .unset, .unset, .unset, .unset, .unset, .unset, .unset, .unset] [(.int (x2 &&& (3 : Int32)))])
  refine go_st (fun _ kq => XS.istore X198.here hx rfl (hb hby at_58) rfl (l' := #[.val (.int x0), .val (.int x1), .val (.int x2), .val (.int x3), .val (.int x4), .val (.ref a180), .val (.ref a188), .val (.int (x0 &&& (3 : Int32))), .val (.int ((XT.ushr x0 (2 : Int32)) &&& (3 : Int32))), .val (.int (x1 &&& (3 : Int32))), .val (.int ((XT.ushr x1 (2 : Int32)) &&& (3 : Int32))), .val (.int (x2 &&& (3 : Int32))), .unset, .unset, .unset, .unset, .unset, .unset, .unset, .unset, .unset]) rfl kq) ?_
  show Go p e below s _ _ _ T198 (mkF m 60 #[.val (.int x0), .val (.int x1), .val (.int x2), .val (.int x3), .val (.int x4), .val (.ref a180), .val (.ref a188), .val (.int (x0 &&& (3 : Int32))), .val (.int ((XT.ushr x0 (2 : Int32)) &&& (3 : Int32))), .val (.int (x1 &&& (3 : Int32))), .val (.int ((XT.ushr x1 (2 : Int32)) &&& (3 : Int32))), .val (.int (x2 &&& (3 : Int32))), .unset, .unset, .unset, .unset, .unset, .unset, .unset, .unset, .unset] [])
  refine go_st (fun _ kq => XS.iloadN X198.here hx rfl (hb hby at_60) rfl kq) ?_
  show Go p e below s _ _ _ T198 (mkF m 61 #[.val (.int x0), .val (.int x1), .val (.int x2), .val (.int x3), .val (.int x4), .val (.ref a180), .val (.ref a188), .val (.int (x0 &&& (3 : Int32))), .val (.int ((XT.ushr x0 (2 : Int32)) &&& (3 : Int32))), .val (.int (x1 &&& (3 : Int32))), .val (.int ((XT.ushr x1 (2 : Int32)) &&& (3 : Int32))), .val (.int (x2 &&& (3 : Int32))), .unset, .unset, .unset, .unset, .unset, .unset, .unset, .unset, .unset] [(.int x2)])
  refine go_st (fun _ kq => XT.iconstV X198.here hx rfl (2 : Int32) (hb hby at_61) (by decide) kq) ?_
  show Go p e below s _ _ _ T198 (mkF m 62 #[.val (.int x0), .val (.int x1), .val (.int x2), .val (.int x3), .val (.int x4), .val (.ref a180), .val (.ref a188), .val (.int (x0 &&& (3 : Int32))), .val (.int ((XT.ushr x0 (2 : Int32)) &&& (3 : Int32))), .val (.int (x1 &&& (3 : Int32))), .val (.int ((XT.ushr x1 (2 : Int32)) &&& (3 : Int32))), .val (.int (x2 &&& (3 : Int32))), .unset, .unset, .unset, .unset, .unset, .unset, .unset, .unset, .unset] [(.int (2 : Int32)), (.int x2)])
  refine go_st (fun _ kq => XT.iushr X198.here hx rfl (hb hby at_62) rfl kq) ?_
  show Go p e below s _ _ _ T198 (mkF m 63 #[.val (.int x0), .val (.int x1), .val (.int x2), .val (.int x3), .val (.int x4), .val (.ref a180), .val (.ref a188), .val (.int (x0 &&& (3 : Int32))), .val (.int ((XT.ushr x0 (2 : Int32)) &&& (3 : Int32))), .val (.int (x1 &&& (3 : Int32))), .val (.int ((XT.ushr x1 (2 : Int32)) &&& (3 : Int32))), .val (.int (x2 &&& (3 : Int32))), .unset, .unset, .unset, .unset, .unset, .unset, .unset, .unset, .unset] [(.int (XT.ushr x2 (2 : Int32)))])
  refine go_st (fun _ kq => XT.iconstV X198.here hx rfl (3 : Int32) (hb hby at_63) (by decide) kq) ?_
  show Go p e below s _ _ _ T198 (mkF m 64 #[.val (.int x0), .val (.int x1), .val (.int x2), .val (.int x3), .val (.int x4), .val (.ref a180), .val (.ref a188), .val (.int (x0 &&& (3 : Int32))), .val (.int ((XT.ushr x0 (2 : Int32)) &&& (3 : Int32))), .val (.int (x1 &&& (3 : Int32))), .val (.int ((XT.ushr x1 (2 : Int32)) &&& (3 : Int32))), .val (.int (x2 &&& (3 : Int32))), .unset, .unset, .unset, .unset, .unset, .unset, .unset, .unset, .unset] [(.int (3 : Int32)), (.int (XT.ushr x2 (2 : Int32)))])
  refine go_st (fun _ kq => XS.iand X198.here hx rfl (hb hby at_64) rfl kq) ?_
  show Go p e below s _ _ _ T198 (mkF m 65 #[.val (.int x0), .val (.int x1), .val (.int x2), .val (.int x3), .val (.int x4), .val (.ref a180), .val (.ref a188), .val (.int (x0 &&& (3 : Int32))), .val (.int ((XT.ushr x0 (2 : Int32)) &&& (3 : Int32))), .val (.int (x1 &&& (3 : Int32))), .val (.int ((XT.ushr x1 (2 : Int32)) &&& (3 : Int32))), .val (.int (x2 &&& (3 : Int32))), .unset, .unset, .unset, .unset, .unset, .unset, .unset, .unset, .unset] [(.int ((XT.ushr x2 (2 : Int32)) &&& (3 : Int32)))])
  refine go_st (fun _ kq => XS.istore X198.here hx rfl (hb hby at_65) rfl (l' := #[.val (.int x0), .val (.int x1), .val (.int x2), .val (.int x3), .val (.int x4), .val (.ref a180), .val (.ref a188), .val (.int (x0 &&& (3 : Int32))), .val (.int ((XT.ushr x0 (2 : Int32)) &&& (3 : Int32))), .val (.int (x1 &&& (3 : Int32))), .val (.int ((XT.ushr x1 (2 : Int32)) &&& (3 : Int32))), .val (.int (x2 &&& (3 : Int32))), .val (.int ((XT.ushr x2 (2 : Int32)) &&& (3 : Int32))), .unset, .unset, .unset, .unset, .unset, .unset, .unset, .unset]) rfl kq) ?_
  show Go p e below s _ _ _ T198 (mkF m 67 #[.val (.int x0), .val (.int x1), .val (.int x2), .val (.int x3), .val (.int x4), .val (.ref a180), .val (.ref a188), .val (.int (x0 &&& (3 : Int32))), .val (.int ((XT.ushr x0 (2 : Int32)) &&& (3 : Int32))), .val (.int (x1 &&& (3 : Int32))), .val (.int ((XT.ushr x1 (2 : Int32)) &&& (3 : Int32))), .val (.int (x2 &&& (3 : Int32))), .val (.int ((XT.ushr x2 (2 : Int32)) &&& (3 : Int32))), .unset, .unset, .unset, .unset, .unset, .unset, .unset, .unset] [])
  obtain ⟨n1, hn1, en1⟩ := own_and3 x0
  obtain ⟨n2, hn2, en2⟩ := own_and3 (XT.ushr x0 (2 : Int32))
  obtain ⟨n3, hn3, en3⟩ := own_and3 x1
  obtain ⟨n4, hn4, en4⟩ := own_and3 (XT.ushr x1 (2 : Int32))
  obtain ⟨n5, hn5, en5⟩ := own_and3 x2
  obtain ⟨n6, hn6, en6⟩ := own_and3 (XT.ushr x2 (2 : Int32))
  rw [en1, en2, en3, en4, en5, en6]
  have iv0 : Inv q_183 (sv (sv (sv (sv 0 0 0) 1 1) 2 2) 3 3) := own_inv0 p183_3 (by decide +kernel)
  show Go p e below s _ _ _ T198 (mkF m 67 #[.val (.int x0), .val (.int x1), .val (.int x2), .val (.int x3), .val (.int x4), .val (.ref a180), .val (.ref a188), .val (.int (Int32.ofNat n1)), .val (.int (Int32.ofNat n2)), .val (.int (Int32.ofNat n3)), .val (.int (Int32.ofNat n4)), .val (.int (Int32.ofNat n5)), .val (.int (Int32.ofNat n6)), .unset, .unset, .unset, .unset, .unset, .unset, .unset, .unset] [])
  refine go_st (fun _ kq => XS.aload X198.here hx rfl (hb hby at_67) rfl rfl kq) ?_
  show Go p e below s _ _ _ T198 (mkF m 69 #[.val (.int x0), .val (.int x1), .val (.int x2), .val (.int x3), .val (.int x4), .val (.ref a180), .val (.ref a188), .val (.int (Int32.ofNat n1)), .val (.int (Int32.ofNat n2)), .val (.int (Int32.ofNat n3)), .val (.int (Int32.ofNat n4)), .val (.int (Int32.ofNat n5)), .val (.int (Int32.ofNat n6)), .unset, .unset, .unset, .unset, .unset, .unset, .unset, .unset] [(.ref a180)])
  refine go_st (fun _ kq => XS.iload X198.here hx rfl (hb hby at_69) rfl kq) ?_
  show Go p e below s _ _ _ T198 (mkF m 71 #[.val (.int x0), .val (.int x1), .val (.int x2), .val (.int x3), .val (.int x4), .val (.ref a180), .val (.ref a188), .val (.int (Int32.ofNat n1)), .val (.int (Int32.ofNat n2)), .val (.int (Int32.ofNat n3)), .val (.int (Int32.ofNat n4)), .val (.int (Int32.ofNat n5)), .val (.int (Int32.ofNat n6)), .unset, .unset, .unset, .unset, .unset, .unset, .unset, .unset] [(.int (Int32.ofNat n1)), (.ref a180)])
  refine go_st (fun _ kq => XS.iload X198.here hx rfl (hb hby at_71) rfl kq) ?_
  show Go p e below s _ _ _ T198 (mkF m 73 #[.val (.int x0), .val (.int x1), .val (.int x2), .val (.int x3), .val (.int x4), .val (.ref a180), .val (.ref a188), .val (.int (Int32.ofNat n1)), .val (.int (Int32.ofNat n2)), .val (.int (Int32.ofNat n3)), .val (.int (Int32.ofNat n4)), .val (.int (Int32.ofNat n5)), .val (.int (Int32.ofNat n6)), .unset, .unset, .unset, .unset, .unset, .unset, .unset, .unset] [(.int (Int32.ofNat n2)), (.int (Int32.ofNat n1)), (.ref a180)])
  have c200 := Fld.ext E188 f183_1
  have c201 := Fld.other W195 c200 (Or.inl ne191)
  have c202 := Fld.other W196 c201 (Or.inl ne191)
  have c203 := Fld.other W197 c202 (Or.inl ne191)
  have c204 := Fld.other W198 c203 (Or.inl ne191)
  have c205 := Fld.ext E188 f183_2
  have c206 := Fld.other W195 c205 (Or.inl ne191)
  have c207 := Fld.other W196 c206 (Or.inl ne191)
  have c208 := Fld.other W197 c207 (Or.inl ne191)
  have c209 := Fld.other W198 c208 (Or.inl ne191)
  have c210 := Exa.ext E188 f183_0
  have c211 := Exa.wr W195 c210
  have c212 := Exa.wr W196 c211
  have c213 := Exa.wr W197 c212
  have c214 := Exa.wr W198 c213
  have c215 := f183_3.ext E188
  have c216 := c215.other W195 ne192
  have c217 := c216.other W196 ne192
  have c218 := c217.other W197 ne192
  have c219 := c218.other W198 ne192
  have c220 := f183_4.ext E188
  have c221 := c220.other W195 ne193
  have c222 := c221.other W196 ne193
  have c223 := c222.other W197 ne193
  have c224 := c223.other W198 ne193
  have z225 : n0 ≤ h188.size := Nat.le_trans z194 E188.1
  have z226 : n0 ≤ h195.size := (Wr.size W195).symm ▸ z225
  have z227 : n0 ≤ h196.size := (Wr.size W196).symm ▸ z226
  have z228 : n0 ≤ h197.size := (Wr.size W197).symm ▸ z227
  have z229 : n0 ≤ h198.size := (Wr.size W198).symm ▸ z228
  refine go_callV X198 hx hZ hml hown (hw _ (List.mem_of_getElem? (i := 14) rfl)) (hw _ (List.mem_of_getElem? (i := 15) rfl)) (notFace_of_selects (args := #[]) (mvT hZ (hw _ (List.mem_of_getElem? (i := 17) rfl)))) (hw _ (List.mem_of_getElem? (i := 17) rfl)) (hw _ (List.mem_of_getElem? (i := 16) rfl)) (hw _ (List.mem_of_getElem? (i := 18) rfl)) (hw _ (List.mem_of_getElem? (i := 2) rfl)) e198 c214 (argsL := [(.int (Int32.ofNat n1)), (.int (Int32.ofNat n2))]) (rest := []) (W := 0) (met_uni l Z a0 hw a180 n1 n2 pa_183 sa_183 q_183 g_183 h198 n0 z229 c204 c209 c214 c219 c224 hn1 hn2 p183_1 p183_2 p183_4 p183_5 p183_0 nw_pa_183 nw_sa_183) (hb hby at_73) rfl rfl rfl (lenOf pd2 rfl) (by show 2 * 0 + _ ≤ _; exact Nat.le_of_eq rfl) (by decide) (by decide) (by decide) (by decide) (by decide) ?_
  intro T199 v199 L199 X199 q199
  obtain ⟨q'_199, g'_199, r_199, rfl, M199, K199, p199_0, f199_0, f199_1⟩ := q199
  have N199 := Fr.app N198 M199
  have ul199 := p199_0.1
  have uo199 := p199_0.2.1
  have ur199 : r_199 < 4 := p199_0.lt
  show Go p e below s _ _ _ T199 (mkF m 76 #[.val (.int x0), .val (.int x1), .val (.int x2), .val (.int x3), .val (.int x4), .val (.ref a180), .val (.ref a188), .val (.int (Int32.ofNat n1)), .val (.int (Int32.ofNat n2)), .val (.int (Int32.ofNat n3)), .val (.int (Int32.ofNat n4)), .val (.int (Int32.ofNat n5)), .val (.int (Int32.ofNat n6)), .unset, .unset, .unset, .unset, .unset, .unset, .unset, .unset] [(.int (Int32.ofNat r_199))])
  refine go_st (fun _ kq => XT.pop X199.here hx rfl (hb hby at_76) rfl rfl kq) ?_
  show Go p e below s _ _ _ T199 (mkF m 77 #[.val (.int x0), .val (.int x1), .val (.int x2), .val (.int x3), .val (.int x4), .val (.ref a180), .val (.ref a188), .val (.int (Int32.ofNat n1)), .val (.int (Int32.ofNat n2)), .val (.int (Int32.ofNat n3)), .val (.int (Int32.ofNat n4)), .val (.int (Int32.ofNat n5)), .val (.int (Int32.ofNat n6)), .unset, .unset, .unset, .unset, .unset, .unset, .unset, .unset] [])
  refine go_st (fun _ kq => XS.aload X199.here hx rfl (hb hby at_77) rfl rfl kq) ?_
  show Go p e below s _ _ _ T199 (mkF m 79 #[.val (.int x0), .val (.int x1), .val (.int x2), .val (.int x3), .val (.int x4), .val (.ref a180), .val (.ref a188), .val (.int (Int32.ofNat n1)), .val (.int (Int32.ofNat n2)), .val (.int (Int32.ofNat n3)), .val (.int (Int32.ofNat n4)), .val (.int (Int32.ofNat n5)), .val (.int (Int32.ofNat n6)), .unset, .unset, .unset, .unset, .unset, .unset, .unset, .unset] [(.ref a188)])
  refine go_st (fun _ kq => XS.iload X199.here hx rfl (hb hby at_79) rfl kq) ?_
  show Go p e below s _ _ _ T199 (mkF m 81 #[.val (.int x0), .val (.int x1), .val (.int x2), .val (.int x3), .val (.int x4), .val (.ref a180), .val (.ref a188), .val (.int (Int32.ofNat n1)), .val (.int (Int32.ofNat n2)), .val (.int (Int32.ofNat n3)), .val (.int (Int32.ofNat n4)), .val (.int (Int32.ofNat n5)), .val (.int (Int32.ofNat n6)), .unset, .unset, .unset, .unset, .unset, .unset, .unset, .unset] [(.int (Int32.ofNat n1)), (.ref a188)])
  refine go_st (fun _ kq => XS.iload X199.here hx rfl (hb hby at_81) rfl kq) ?_
  show Go p e below s _ _ _ T199 (mkF m 83 #[.val (.int x0), .val (.int x1), .val (.int x2), .val (.int x3), .val (.int x4), .val (.ref a180), .val (.ref a188), .val (.int (Int32.ofNat n1)), .val (.int (Int32.ofNat n2)), .val (.int (Int32.ofNat n3)), .val (.int (Int32.ofNat n4)), .val (.int (Int32.ofNat n5)), .val (.int (Int32.ofNat n6)), .unset, .unset, .unset, .unset, .unset, .unset, .unset, .unset] [(.int (Int32.ofNat n2)), (.int (Int32.ofNat n1)), (.ref a188)])
  have c231 := GA.keep A198 K199 (ninS (Ne.symm ne192) (ninS (Ne.symm ne193) nin0))
  have z232 : n0 ≤ T199.heap.size := Nat.le_trans z229 K199.1
  refine go_callS X199 hx hZ hml hown (hw _ (List.mem_of_getElem? (i := 24) rfl)) (hw _ (List.mem_of_getElem? (i := 25) rfl)) (hw _ (List.mem_of_getElem? (i := 26) rfl)) (hw _ (List.mem_of_getElem? (i := 27) rfl)) rfl (argsL := [(.ref a188), (.int (Int32.ofNat n1)), (.int (Int32.ofNat n2))]) (rest := []) (W := 0) (met_mer l Z a0 hw a188 n1 n2 (sv (sv (sv (sv 0 0 0) 1 1) 2 2) 3 3) T199.heap n0 z232 c231 hn1 hn2 (sv_lt (sv_lt (sv_lt (sv_lt (by decide : 0 < 256) (by decide : 0 < 4) (by decide : 0 < 4)) (by decide : 1 < 4) (by decide : 1 < 4)) (by decide : 2 < 4) (by decide : 2 < 4)) (by decide : 3 < 4) (by decide : 3 < 4)) nw_a188) (hb hby at_83) rfl rfl rfl (lenOf pd3 rfl) (by show 2 * 0 + _ ≤ _; exact Nat.le_of_eq rfl) (by decide) (by decide) (by decide) (by decide) (by decide) ?_
  intro T230 v230 L230 X230 q230
  obtain ⟨d'_230, rfl, M230, K230, p230_0, p230_1, f230_0⟩ := q230
  have N230 := Fr.app N199 M230
  have iv230 := own_inv hn1 hn2 iv0 p199_0 p230_1
  show Go p e below s _ _ _ T230 (mkF m 86 #[.val (.int x0), .val (.int x1), .val (.int x2), .val (.int x3), .val (.int x4), .val (.ref a180), .val (.ref a188), .val (.int (Int32.ofNat n1)), .val (.int (Int32.ofNat n2)), .val (.int (Int32.ofNat n3)), .val (.int (Int32.ofNat n4)), .val (.int (Int32.ofNat n5)), .val (.int (Int32.ofNat n6)), .unset, .unset, .unset, .unset, .unset, .unset, .unset, .unset] [])
  refine go_st (fun _ kq => XS.aload X230.here hx rfl (hb hby at_86) rfl rfl kq) ?_
  show Go p e below s _ _ _ T230 (mkF m 88 #[.val (.int x0), .val (.int x1), .val (.int x2), .val (.int x3), .val (.int x4), .val (.ref a180), .val (.ref a188), .val (.int (Int32.ofNat n1)), .val (.int (Int32.ofNat n2)), .val (.int (Int32.ofNat n3)), .val (.int (Int32.ofNat n4)), .val (.int (Int32.ofNat n5)), .val (.int (Int32.ofNat n6)), .unset, .unset, .unset, .unset, .unset, .unset, .unset, .unset] [(.ref a180)])
  refine go_st (fun _ kq => XS.iload X230.here hx rfl (hb hby at_88) rfl kq) ?_
  show Go p e below s _ _ _ T230 (mkF m 90 #[.val (.int x0), .val (.int x1), .val (.int x2), .val (.int x3), .val (.int x4), .val (.ref a180), .val (.ref a188), .val (.int (Int32.ofNat n1)), .val (.int (Int32.ofNat n2)), .val (.int (Int32.ofNat n3)), .val (.int (Int32.ofNat n4)), .val (.int (Int32.ofNat n5)), .val (.int (Int32.ofNat n6)), .unset, .unset, .unset, .unset, .unset, .unset, .unset, .unset] [(.int (Int32.ofNat n3)), (.ref a180)])
  refine go_st (fun _ kq => XS.iload X230.here hx rfl (hb hby at_90) rfl kq) ?_
  show Go p e below s _ _ _ T230 (mkF m 92 #[.val (.int x0), .val (.int x1), .val (.int x2), .val (.int x3), .val (.int x4), .val (.ref a180), .val (.ref a188), .val (.int (Int32.ofNat n1)), .val (.int (Int32.ofNat n2)), .val (.int (Int32.ofNat n3)), .val (.int (Int32.ofNat n4)), .val (.int (Int32.ofNat n5)), .val (.int (Int32.ofNat n6)), .unset, .unset, .unset, .unset, .unset, .unset, .unset, .unset] [(.int (Int32.ofNat n4)), (.int (Int32.ofNat n3)), (.ref a180)])
  have c234 := Fld.keep c204 K199 (ninS p183_4 (ninS p183_5 nin0))
  have c235 := Fld.keep c234 K230 (ninS ne191 nin0)
  have c236 := Fld.keep c209 K199 (ninS p183_4 (ninS p183_5 nin0))
  have c237 := Fld.keep c236 K230 (ninS ne191 nin0)
  have c238 := Exa.keep c214 K199
  have c239 := Exa.keep c238 K230
  have c240 := GA.keep f199_0 K230 (ninS ne192 nin0)
  have c241 := GA.keep f199_1 K230 (ninS ne193 nin0)
  have z242 : n0 ≤ T230.heap.size := Nat.le_trans z232 K230.1
  refine go_callV X230 hx hZ hml hown (hw _ (List.mem_of_getElem? (i := 14) rfl)) (hw _ (List.mem_of_getElem? (i := 15) rfl)) (notFace_of_selects (args := #[]) (mvT hZ (hw _ (List.mem_of_getElem? (i := 17) rfl)))) (hw _ (List.mem_of_getElem? (i := 17) rfl)) (hw _ (List.mem_of_getElem? (i := 16) rfl)) (hw _ (List.mem_of_getElem? (i := 18) rfl)) (hw _ (List.mem_of_getElem? (i := 2) rfl)) rfl c239 (argsL := [(.int (Int32.ofNat n3)), (.int (Int32.ofNat n4))]) (rest := []) (W := 0) (met_uni l Z a0 hw a180 n3 n4 pa_183 sa_183 q'_199 g'_199 T230.heap n0 z242 c235 c237 c239 c240 c241 hn3 hn4 ul199 uo199 p183_4 p183_5 p183_0 nw_pa_183 nw_sa_183) (hb hby at_92) rfl rfl rfl (lenOf pd2 rfl) (by show 2 * 0 + _ ≤ _; exact Nat.le_of_eq rfl) (by decide) (by decide) (by decide) (by decide) (by decide) ?_
  intro T233 v233 L233 X233 q233
  obtain ⟨q'_233, g'_233, r_233, rfl, M233, K233, p233_0, f233_0, f233_1⟩ := q233
  have N233 := Fr.app N230 M233
  have ul233 := p233_0.1
  have uo233 := p233_0.2.1
  have ur233 : r_233 < 4 := p233_0.lt
  show Go p e below s _ _ _ T233 (mkF m 95 #[.val (.int x0), .val (.int x1), .val (.int x2), .val (.int x3), .val (.int x4), .val (.ref a180), .val (.ref a188), .val (.int (Int32.ofNat n1)), .val (.int (Int32.ofNat n2)), .val (.int (Int32.ofNat n3)), .val (.int (Int32.ofNat n4)), .val (.int (Int32.ofNat n5)), .val (.int (Int32.ofNat n6)), .unset, .unset, .unset, .unset, .unset, .unset, .unset, .unset] [(.int (Int32.ofNat r_233))])
  refine go_st (fun _ kq => XT.pop X233.here hx rfl (hb hby at_95) rfl rfl kq) ?_
  show Go p e below s _ _ _ T233 (mkF m 96 #[.val (.int x0), .val (.int x1), .val (.int x2), .val (.int x3), .val (.int x4), .val (.ref a180), .val (.ref a188), .val (.int (Int32.ofNat n1)), .val (.int (Int32.ofNat n2)), .val (.int (Int32.ofNat n3)), .val (.int (Int32.ofNat n4)), .val (.int (Int32.ofNat n5)), .val (.int (Int32.ofNat n6)), .unset, .unset, .unset, .unset, .unset, .unset, .unset, .unset] [])
  refine go_st (fun _ kq => XS.aload X233.here hx rfl (hb hby at_96) rfl rfl kq) ?_
  show Go p e below s _ _ _ T233 (mkF m 98 #[.val (.int x0), .val (.int x1), .val (.int x2), .val (.int x3), .val (.int x4), .val (.ref a180), .val (.ref a188), .val (.int (Int32.ofNat n1)), .val (.int (Int32.ofNat n2)), .val (.int (Int32.ofNat n3)), .val (.int (Int32.ofNat n4)), .val (.int (Int32.ofNat n5)), .val (.int (Int32.ofNat n6)), .unset, .unset, .unset, .unset, .unset, .unset, .unset, .unset] [(.ref a188)])
  refine go_st (fun _ kq => XS.iload X233.here hx rfl (hb hby at_98) rfl kq) ?_
  show Go p e below s _ _ _ T233 (mkF m 100 #[.val (.int x0), .val (.int x1), .val (.int x2), .val (.int x3), .val (.int x4), .val (.ref a180), .val (.ref a188), .val (.int (Int32.ofNat n1)), .val (.int (Int32.ofNat n2)), .val (.int (Int32.ofNat n3)), .val (.int (Int32.ofNat n4)), .val (.int (Int32.ofNat n5)), .val (.int (Int32.ofNat n6)), .unset, .unset, .unset, .unset, .unset, .unset, .unset, .unset] [(.int (Int32.ofNat n3)), (.ref a188)])
  refine go_st (fun _ kq => XS.iload X233.here hx rfl (hb hby at_100) rfl kq) ?_
  show Go p e below s _ _ _ T233 (mkF m 102 #[.val (.int x0), .val (.int x1), .val (.int x2), .val (.int x3), .val (.int x4), .val (.ref a180), .val (.ref a188), .val (.int (Int32.ofNat n1)), .val (.int (Int32.ofNat n2)), .val (.int (Int32.ofNat n3)), .val (.int (Int32.ofNat n4)), .val (.int (Int32.ofNat n5)), .val (.int (Int32.ofNat n6)), .unset, .unset, .unset, .unset, .unset, .unset, .unset, .unset] [(.int (Int32.ofNat n4)), (.int (Int32.ofNat n3)), (.ref a188)])
  have c244 := GA.keep f230_0 K233 (ninS (Ne.symm ne192) (ninS (Ne.symm ne193) nin0))
  have z245 : n0 ≤ T233.heap.size := Nat.le_trans z242 K233.1
  refine go_callS X233 hx hZ hml hown (hw _ (List.mem_of_getElem? (i := 24) rfl)) (hw _ (List.mem_of_getElem? (i := 25) rfl)) (hw _ (List.mem_of_getElem? (i := 26) rfl)) (hw _ (List.mem_of_getElem? (i := 27) rfl)) rfl (argsL := [(.ref a188), (.int (Int32.ofNat n3)), (.int (Int32.ofNat n4))]) (rest := []) (W := 0) (met_mer l Z a0 hw a188 n3 n4 d'_230 T233.heap n0 z245 c244 hn3 hn4 p230_0 nw_a188) (hb hby at_102) rfl rfl rfl (lenOf pd3 rfl) (by show 2 * 0 + _ ≤ _; exact Nat.le_of_eq rfl) (by decide) (by decide) (by decide) (by decide) (by decide) ?_
  intro T243 v243 L243 X243 q243
  obtain ⟨d'_243, rfl, M243, K243, p243_0, p243_1, f243_0⟩ := q243
  have N243 := Fr.app N233 M243
  have iv243 := own_inv hn3 hn4 iv230 p233_0 p243_1
  show Go p e below s _ _ _ T243 (mkF m 105 #[.val (.int x0), .val (.int x1), .val (.int x2), .val (.int x3), .val (.int x4), .val (.ref a180), .val (.ref a188), .val (.int (Int32.ofNat n1)), .val (.int (Int32.ofNat n2)), .val (.int (Int32.ofNat n3)), .val (.int (Int32.ofNat n4)), .val (.int (Int32.ofNat n5)), .val (.int (Int32.ofNat n6)), .unset, .unset, .unset, .unset, .unset, .unset, .unset, .unset] [])
  refine go_st (fun _ kq => XS.aload X243.here hx rfl (hb hby at_105) rfl rfl kq) ?_
  show Go p e below s _ _ _ T243 (mkF m 107 #[.val (.int x0), .val (.int x1), .val (.int x2), .val (.int x3), .val (.int x4), .val (.ref a180), .val (.ref a188), .val (.int (Int32.ofNat n1)), .val (.int (Int32.ofNat n2)), .val (.int (Int32.ofNat n3)), .val (.int (Int32.ofNat n4)), .val (.int (Int32.ofNat n5)), .val (.int (Int32.ofNat n6)), .unset, .unset, .unset, .unset, .unset, .unset, .unset, .unset] [(.ref a180)])
  refine go_st (fun _ kq => XS.iload X243.here hx rfl (hb hby at_107) rfl kq) ?_
  show Go p e below s _ _ _ T243 (mkF m 109 #[.val (.int x0), .val (.int x1), .val (.int x2), .val (.int x3), .val (.int x4), .val (.ref a180), .val (.ref a188), .val (.int (Int32.ofNat n1)), .val (.int (Int32.ofNat n2)), .val (.int (Int32.ofNat n3)), .val (.int (Int32.ofNat n4)), .val (.int (Int32.ofNat n5)), .val (.int (Int32.ofNat n6)), .unset, .unset, .unset, .unset, .unset, .unset, .unset, .unset] [(.int (Int32.ofNat n5)), (.ref a180)])
  refine go_st (fun _ kq => XS.iload X243.here hx rfl (hb hby at_109) rfl kq) ?_
  show Go p e below s _ _ _ T243 (mkF m 111 #[.val (.int x0), .val (.int x1), .val (.int x2), .val (.int x3), .val (.int x4), .val (.ref a180), .val (.ref a188), .val (.int (Int32.ofNat n1)), .val (.int (Int32.ofNat n2)), .val (.int (Int32.ofNat n3)), .val (.int (Int32.ofNat n4)), .val (.int (Int32.ofNat n5)), .val (.int (Int32.ofNat n6)), .unset, .unset, .unset, .unset, .unset, .unset, .unset, .unset] [(.int (Int32.ofNat n6)), (.int (Int32.ofNat n5)), (.ref a180)])
  have c247 := Fld.keep c235 K233 (ninS p183_4 (ninS p183_5 nin0))
  have c248 := Fld.keep c247 K243 (ninS ne191 nin0)
  have c249 := Fld.keep c237 K233 (ninS p183_4 (ninS p183_5 nin0))
  have c250 := Fld.keep c249 K243 (ninS ne191 nin0)
  have c251 := Exa.keep c239 K233
  have c252 := Exa.keep c251 K243
  have c253 := GA.keep f233_0 K243 (ninS ne192 nin0)
  have c254 := GA.keep f233_1 K243 (ninS ne193 nin0)
  have z255 : n0 ≤ T243.heap.size := Nat.le_trans z245 K243.1
  refine go_callV X243 hx hZ hml hown (hw _ (List.mem_of_getElem? (i := 14) rfl)) (hw _ (List.mem_of_getElem? (i := 15) rfl)) (notFace_of_selects (args := #[]) (mvT hZ (hw _ (List.mem_of_getElem? (i := 17) rfl)))) (hw _ (List.mem_of_getElem? (i := 17) rfl)) (hw _ (List.mem_of_getElem? (i := 16) rfl)) (hw _ (List.mem_of_getElem? (i := 18) rfl)) (hw _ (List.mem_of_getElem? (i := 2) rfl)) rfl c252 (argsL := [(.int (Int32.ofNat n5)), (.int (Int32.ofNat n6))]) (rest := []) (W := 0) (met_uni l Z a0 hw a180 n5 n6 pa_183 sa_183 q'_233 g'_233 T243.heap n0 z255 c248 c250 c252 c253 c254 hn5 hn6 ul233 uo233 p183_4 p183_5 p183_0 nw_pa_183 nw_sa_183) (hb hby at_111) rfl rfl rfl (lenOf pd2 rfl) (by show 2 * 0 + _ ≤ _; exact Nat.le_of_eq rfl) (by decide) (by decide) (by decide) (by decide) (by decide) ?_
  intro T246 v246 L246 X246 q246
  obtain ⟨q'_246, g'_246, r_246, rfl, M246, K246, p246_0, f246_0, f246_1⟩ := q246
  have N246 := Fr.app N243 M246
  have ul246 := p246_0.1
  have uo246 := p246_0.2.1
  have ur246 : r_246 < 4 := p246_0.lt
  show Go p e below s _ _ _ T246 (mkF m 114 #[.val (.int x0), .val (.int x1), .val (.int x2), .val (.int x3), .val (.int x4), .val (.ref a180), .val (.ref a188), .val (.int (Int32.ofNat n1)), .val (.int (Int32.ofNat n2)), .val (.int (Int32.ofNat n3)), .val (.int (Int32.ofNat n4)), .val (.int (Int32.ofNat n5)), .val (.int (Int32.ofNat n6)), .unset, .unset, .unset, .unset, .unset, .unset, .unset, .unset] [(.int (Int32.ofNat r_246))])
  refine go_st (fun _ kq => XS.istore X246.here hx rfl (hb hby at_114) rfl (l' := #[.val (.int x0), .val (.int x1), .val (.int x2), .val (.int x3), .val (.int x4), .val (.ref a180), .val (.ref a188), .val (.int (Int32.ofNat n1)), .val (.int (Int32.ofNat n2)), .val (.int (Int32.ofNat n3)), .val (.int (Int32.ofNat n4)), .val (.int (Int32.ofNat n5)), .val (.int (Int32.ofNat n6)), .val (.int (Int32.ofNat r_246)), .unset, .unset, .unset, .unset, .unset, .unset, .unset]) rfl kq) ?_
  show Go p e below s _ _ _ T246 (mkF m 116 #[.val (.int x0), .val (.int x1), .val (.int x2), .val (.int x3), .val (.int x4), .val (.ref a180), .val (.ref a188), .val (.int (Int32.ofNat n1)), .val (.int (Int32.ofNat n2)), .val (.int (Int32.ofNat n3)), .val (.int (Int32.ofNat n4)), .val (.int (Int32.ofNat n5)), .val (.int (Int32.ofNat n6)), .val (.int (Int32.ofNat r_246)), .unset, .unset, .unset, .unset, .unset, .unset, .unset] [])
  refine go_st (fun _ kq => XS.aload X246.here hx rfl (hb hby at_116) rfl rfl kq) ?_
  show Go p e below s _ _ _ T246 (mkF m 118 #[.val (.int x0), .val (.int x1), .val (.int x2), .val (.int x3), .val (.int x4), .val (.ref a180), .val (.ref a188), .val (.int (Int32.ofNat n1)), .val (.int (Int32.ofNat n2)), .val (.int (Int32.ofNat n3)), .val (.int (Int32.ofNat n4)), .val (.int (Int32.ofNat n5)), .val (.int (Int32.ofNat n6)), .val (.int (Int32.ofNat r_246)), .unset, .unset, .unset, .unset, .unset, .unset, .unset] [(.ref a188)])
  refine go_st (fun _ kq => XS.iload X246.here hx rfl (hb hby at_118) rfl kq) ?_
  show Go p e below s _ _ _ T246 (mkF m 120 #[.val (.int x0), .val (.int x1), .val (.int x2), .val (.int x3), .val (.int x4), .val (.ref a180), .val (.ref a188), .val (.int (Int32.ofNat n1)), .val (.int (Int32.ofNat n2)), .val (.int (Int32.ofNat n3)), .val (.int (Int32.ofNat n4)), .val (.int (Int32.ofNat n5)), .val (.int (Int32.ofNat n6)), .val (.int (Int32.ofNat r_246)), .unset, .unset, .unset, .unset, .unset, .unset, .unset] [(.int (Int32.ofNat n5)), (.ref a188)])
  refine go_st (fun _ kq => XS.iload X246.here hx rfl (hb hby at_120) rfl kq) ?_
  show Go p e below s _ _ _ T246 (mkF m 122 #[.val (.int x0), .val (.int x1), .val (.int x2), .val (.int x3), .val (.int x4), .val (.ref a180), .val (.ref a188), .val (.int (Int32.ofNat n1)), .val (.int (Int32.ofNat n2)), .val (.int (Int32.ofNat n3)), .val (.int (Int32.ofNat n4)), .val (.int (Int32.ofNat n5)), .val (.int (Int32.ofNat n6)), .val (.int (Int32.ofNat r_246)), .unset, .unset, .unset, .unset, .unset, .unset, .unset] [(.int (Int32.ofNat n6)), (.int (Int32.ofNat n5)), (.ref a188)])
  have c257 := GA.keep f243_0 K246 (ninS (Ne.symm ne192) (ninS (Ne.symm ne193) nin0))
  have z258 : n0 ≤ T246.heap.size := Nat.le_trans z255 K246.1
  refine go_callS X246 hx hZ hml hown (hw _ (List.mem_of_getElem? (i := 24) rfl)) (hw _ (List.mem_of_getElem? (i := 25) rfl)) (hw _ (List.mem_of_getElem? (i := 26) rfl)) (hw _ (List.mem_of_getElem? (i := 27) rfl)) rfl (argsL := [(.ref a188), (.int (Int32.ofNat n5)), (.int (Int32.ofNat n6))]) (rest := []) (W := 0) (met_mer l Z a0 hw a188 n5 n6 d'_243 T246.heap n0 z258 c257 hn5 hn6 p243_0 nw_a188) (hb hby at_122) rfl rfl rfl (lenOf pd3 rfl) (by show 2 * 0 + _ ≤ _; exact Nat.le_of_eq rfl) (by decide) (by decide) (by decide) (by decide) (by decide) ?_
  intro T256 v256 L256 X256 q256
  obtain ⟨d'_256, rfl, M256, K256, p256_0, p256_1, f256_0⟩ := q256
  have N256 := Fr.app N246 M256
  have iv256 := own_inv hn5 hn6 iv243 p246_0 p256_1
  show Go p e below s _ _ _ T256 (mkF m 125 #[.val (.int x0), .val (.int x1), .val (.int x2), .val (.int x3), .val (.int x4), .val (.ref a180), .val (.ref a188), .val (.int (Int32.ofNat n1)), .val (.int (Int32.ofNat n2)), .val (.int (Int32.ofNat n3)), .val (.int (Int32.ofNat n4)), .val (.int (Int32.ofNat n5)), .val (.int (Int32.ofNat n6)), .val (.int (Int32.ofNat r_246)), .unset, .unset, .unset, .unset, .unset, .unset, .unset] [])
  refine go_st (fun _ kq => XS.iloadN X256.here hx rfl (hb hby at_125) rfl kq) ?_
  show Go p e below s _ _ _ T256 (mkF m 126 #[.val (.int x0), .val (.int x1), .val (.int x2), .val (.int x3), .val (.int x4), .val (.ref a180), .val (.ref a188), .val (.int (Int32.ofNat n1)), .val (.int (Int32.ofNat n2)), .val (.int (Int32.ofNat n3)), .val (.int (Int32.ofNat n4)), .val (.int (Int32.ofNat n5)), .val (.int (Int32.ofNat n6)), .val (.int (Int32.ofNat r_246)), .unset, .unset, .unset, .unset, .unset, .unset, .unset] [(.int x3)])
  refine go_st (fun _ kq => XT.iconstV X256.here hx rfl (3 : Int32) (hb hby at_126) (by decide) kq) ?_
  show Go p e below s _ _ _ T256 (mkF m 127 #[.val (.int x0), .val (.int x1), .val (.int x2), .val (.int x3), .val (.int x4), .val (.ref a180), .val (.ref a188), .val (.int (Int32.ofNat n1)), .val (.int (Int32.ofNat n2)), .val (.int (Int32.ofNat n3)), .val (.int (Int32.ofNat n4)), .val (.int (Int32.ofNat n5)), .val (.int (Int32.ofNat n6)), .val (.int (Int32.ofNat r_246)), .unset, .unset, .unset, .unset, .unset, .unset, .unset] [(.int (3 : Int32)), (.int x3)])
  refine go_st (fun _ kq => XS.iand X256.here hx rfl (hb hby at_127) rfl kq) ?_
  show Go p e below s _ _ _ T256 (mkF m 128 #[.val (.int x0), .val (.int x1), .val (.int x2), .val (.int x3), .val (.int x4), .val (.ref a180), .val (.ref a188), .val (.int (Int32.ofNat n1)), .val (.int (Int32.ofNat n2)), .val (.int (Int32.ofNat n3)), .val (.int (Int32.ofNat n4)), .val (.int (Int32.ofNat n5)), .val (.int (Int32.ofNat n6)), .val (.int (Int32.ofNat r_246)), .unset, .unset, .unset, .unset, .unset, .unset, .unset] [(.int (x3 &&& (3 : Int32)))])
  refine go_st (fun _ kq => XS.istore X256.here hx rfl (hb hby at_128) rfl (l' := #[.val (.int x0), .val (.int x1), .val (.int x2), .val (.int x3), .val (.int x4), .val (.ref a180), .val (.ref a188), .val (.int (Int32.ofNat n1)), .val (.int (Int32.ofNat n2)), .val (.int (Int32.ofNat n3)), .val (.int (Int32.ofNat n4)), .val (.int (Int32.ofNat n5)), .val (.int (Int32.ofNat n6)), .val (.int (Int32.ofNat r_246)), .val (.int (x3 &&& (3 : Int32))), .unset, .unset, .unset, .unset, .unset, .unset]) rfl kq) ?_
  show Go p e below s _ _ _ T256 (mkF m 130 #[.val (.int x0), .val (.int x1), .val (.int x2), .val (.int x3), .val (.int x4), .val (.ref a180), .val (.ref a188), .val (.int (Int32.ofNat n1)), .val (.int (Int32.ofNat n2)), .val (.int (Int32.ofNat n3)), .val (.int (Int32.ofNat n4)), .val (.int (Int32.ofNat n5)), .val (.int (Int32.ofNat n6)), .val (.int (Int32.ofNat r_246)), .val (.int (x3 &&& (3 : Int32))), .unset, .unset, .unset, .unset, .unset, .unset] [])
  refine go_st (fun _ kq => XS.iload X256.here hx rfl (hb hby at_130) rfl kq) ?_
  show Go p e below s _ _ _ T256 (mkF m 132 #[.val (.int x0), .val (.int x1), .val (.int x2), .val (.int x3), .val (.int x4), .val (.ref a180), .val (.ref a188), .val (.int (Int32.ofNat n1)), .val (.int (Int32.ofNat n2)), .val (.int (Int32.ofNat n3)), .val (.int (Int32.ofNat n4)), .val (.int (Int32.ofNat n5)), .val (.int (Int32.ofNat n6)), .val (.int (Int32.ofNat r_246)), .val (.int (x3 &&& (3 : Int32))), .unset, .unset, .unset, .unset, .unset, .unset] [(.int x4)])
  refine go_st (fun _ kq => XT.iconstV X256.here hx rfl (3 : Int32) (hb hby at_132) (by decide) kq) ?_
  show Go p e below s _ _ _ T256 (mkF m 133 #[.val (.int x0), .val (.int x1), .val (.int x2), .val (.int x3), .val (.int x4), .val (.ref a180), .val (.ref a188), .val (.int (Int32.ofNat n1)), .val (.int (Int32.ofNat n2)), .val (.int (Int32.ofNat n3)), .val (.int (Int32.ofNat n4)), .val (.int (Int32.ofNat n5)), .val (.int (Int32.ofNat n6)), .val (.int (Int32.ofNat r_246)), .val (.int (x3 &&& (3 : Int32))), .unset, .unset, .unset, .unset, .unset, .unset] [(.int (3 : Int32)), (.int x4)])
  refine go_st (fun _ kq => XS.iand X256.here hx rfl (hb hby at_133) rfl kq) ?_
  show Go p e below s _ _ _ T256 (mkF m 134 #[.val (.int x0), .val (.int x1), .val (.int x2), .val (.int x3), .val (.int x4), .val (.ref a180), .val (.ref a188), .val (.int (Int32.ofNat n1)), .val (.int (Int32.ofNat n2)), .val (.int (Int32.ofNat n3)), .val (.int (Int32.ofNat n4)), .val (.int (Int32.ofNat n5)), .val (.int (Int32.ofNat n6)), .val (.int (Int32.ofNat r_246)), .val (.int (x3 &&& (3 : Int32))), .unset, .unset, .unset, .unset, .unset, .unset] [(.int (x4 &&& (3 : Int32)))])
  refine go_st (fun _ kq => XS.istore X256.here hx rfl (hb hby at_134) rfl (l' := #[.val (.int x0), .val (.int x1), .val (.int x2), .val (.int x3), .val (.int x4), .val (.ref a180), .val (.ref a188), .val (.int (Int32.ofNat n1)), .val (.int (Int32.ofNat n2)), .val (.int (Int32.ofNat n3)), .val (.int (Int32.ofNat n4)), .val (.int (Int32.ofNat n5)), .val (.int (Int32.ofNat n6)), .val (.int (Int32.ofNat r_246)), .val (.int (x3 &&& (3 : Int32))), .val (.int (x4 &&& (3 : Int32))), .unset, .unset, .unset, .unset, .unset]) rfl kq) ?_
  show Go p e below s _ _ _ T256 (mkF m 136 #[.val (.int x0), .val (.int x1), .val (.int x2), .val (.int x3), .val (.int x4), .val (.ref a180), .val (.ref a188), .val (.int (Int32.ofNat n1)), .val (.int (Int32.ofNat n2)), .val (.int (Int32.ofNat n3)), .val (.int (Int32.ofNat n4)), .val (.int (Int32.ofNat n5)), .val (.int (Int32.ofNat n6)), .val (.int (Int32.ofNat r_246)), .val (.int (x3 &&& (3 : Int32))), .val (.int (x4 &&& (3 : Int32))), .unset, .unset, .unset, .unset, .unset] [])
  obtain ⟨n7, hn7, en7⟩ := own_and3 x3
  obtain ⟨n8, hn8, en8⟩ := own_and3 x4
  rw [en7, en8]
  show Go p e below s _ _ _ T256 (mkF m 136 #[.val (.int x0), .val (.int x1), .val (.int x2), .val (.int x3), .val (.int x4), .val (.ref a180), .val (.ref a188), .val (.int (Int32.ofNat n1)), .val (.int (Int32.ofNat n2)), .val (.int (Int32.ofNat n3)), .val (.int (Int32.ofNat n4)), .val (.int (Int32.ofNat n5)), .val (.int (Int32.ofNat n6)), .val (.int (Int32.ofNat r_246)), .val (.int (Int32.ofNat n7)), .val (.int (Int32.ofNat n8)), .unset, .unset, .unset, .unset, .unset] [])
  refine go_st (fun _ kq => XS.aload X256.here hx rfl (hb hby at_136) rfl rfl kq) ?_
  show Go p e below s _ _ _ T256 (mkF m 138 #[.val (.int x0), .val (.int x1), .val (.int x2), .val (.int x3), .val (.int x4), .val (.ref a180), .val (.ref a188), .val (.int (Int32.ofNat n1)), .val (.int (Int32.ofNat n2)), .val (.int (Int32.ofNat n3)), .val (.int (Int32.ofNat n4)), .val (.int (Int32.ofNat n5)), .val (.int (Int32.ofNat n6)), .val (.int (Int32.ofNat r_246)), .val (.int (Int32.ofNat n7)), .val (.int (Int32.ofNat n8)), .unset, .unset, .unset, .unset, .unset] [(.ref a180)])
  refine go_st (fun _ kq => XS.iload X256.here hx rfl (hb hby at_138) rfl kq) ?_
  show Go p e below s _ _ _ T256 (mkF m 140 #[.val (.int x0), .val (.int x1), .val (.int x2), .val (.int x3), .val (.int x4), .val (.ref a180), .val (.ref a188), .val (.int (Int32.ofNat n1)), .val (.int (Int32.ofNat n2)), .val (.int (Int32.ofNat n3)), .val (.int (Int32.ofNat n4)), .val (.int (Int32.ofNat n5)), .val (.int (Int32.ofNat n6)), .val (.int (Int32.ofNat r_246)), .val (.int (Int32.ofNat n7)), .val (.int (Int32.ofNat n8)), .unset, .unset, .unset, .unset, .unset] [(.int (Int32.ofNat n7)), (.ref a180)])
  have c260 := Fld.keep c248 K246 (ninS p183_4 (ninS p183_5 nin0))
  have c261 := Fld.keep c260 K256 (ninS ne191 nin0)
  have c262 := GA.keep f246_0 K256 (ninS ne192 nin0)
  have z263 : n0 ≤ T256.heap.size := Nat.le_trans z258 K256.1
  have c264 := Exa.keep c252 K246
  have c265 := Exa.keep c264 K256
  refine go_callV X256 hx hZ hml hown (hw _ (List.mem_of_getElem? (i := 28) rfl)) (hw _ (List.mem_of_getElem? (i := 20) rfl)) (notFace_of_selects (args := #[]) (mvT hZ (hw _ (List.mem_of_getElem? (i := 22) rfl)))) (hw _ (List.mem_of_getElem? (i := 22) rfl)) (hw _ (List.mem_of_getElem? (i := 21) rfl)) (hw _ (List.mem_of_getElem? (i := 23) rfl)) (hw _ (List.mem_of_getElem? (i := 2) rfl)) rfl c265 (argsL := [(.int (Int32.ofNat n7))]) (rest := []) (W := 0) (met_find l Z a0 hw a180 n7 pa_183 q'_246 T256.heap n0 z263 c261 c262 hn7 p183_4 nw_pa_183 ul246 uo246) (hb hby at_140) rfl rfl rfl (lenOf pd0 rfl) (by show 2 * 0 + _ ≤ _; exact Nat.le_of_eq rfl) (by decide) (by decide) (by decide) (by decide) (by decide) ?_
  intro T259 v259 L259 X259 q259
  obtain ⟨q'_259, rfl, M259, K259, p259_0, p259_1, p259_2, f259_0⟩ := q259
  have N259 := Fr.app N256 M259
  show Go p e below s _ _ _ T259 (mkF m 143 #[.val (.int x0), .val (.int x1), .val (.int x2), .val (.int x3), .val (.int x4), .val (.ref a180), .val (.ref a188), .val (.int (Int32.ofNat n1)), .val (.int (Int32.ofNat n2)), .val (.int (Int32.ofNat n3)), .val (.int (Int32.ofNat n4)), .val (.int (Int32.ofNat n5)), .val (.int (Int32.ofNat n6)), .val (.int (Int32.ofNat r_246)), .val (.int (Int32.ofNat n7)), .val (.int (Int32.ofNat n8)), .unset, .unset, .unset, .unset, .unset] [(.int (Int32.ofNat (rt q'_246 n7)))])
  refine go_st (fun _ kq => XS.istore X259.here hx rfl (hb hby at_143) rfl (l' := #[.val (.int x0), .val (.int x1), .val (.int x2), .val (.int x3), .val (.int x4), .val (.ref a180), .val (.ref a188), .val (.int (Int32.ofNat n1)), .val (.int (Int32.ofNat n2)), .val (.int (Int32.ofNat n3)), .val (.int (Int32.ofNat n4)), .val (.int (Int32.ofNat n5)), .val (.int (Int32.ofNat n6)), .val (.int (Int32.ofNat r_246)), .val (.int (Int32.ofNat n7)), .val (.int (Int32.ofNat n8)), .val (.int (Int32.ofNat (rt q'_246 n7))), .unset, .unset, .unset, .unset]) rfl kq) ?_
  show Go p e below s _ _ _ T259 (mkF m 145 #[.val (.int x0), .val (.int x1), .val (.int x2), .val (.int x3), .val (.int x4), .val (.ref a180), .val (.ref a188), .val (.int (Int32.ofNat n1)), .val (.int (Int32.ofNat n2)), .val (.int (Int32.ofNat n3)), .val (.int (Int32.ofNat n4)), .val (.int (Int32.ofNat n5)), .val (.int (Int32.ofNat n6)), .val (.int (Int32.ofNat r_246)), .val (.int (Int32.ofNat n7)), .val (.int (Int32.ofNat n8)), .val (.int (Int32.ofNat (rt q'_246 n7))), .unset, .unset, .unset, .unset] [])
  refine go_st (fun _ kq => XS.iload X259.here hx rfl (hb hby at_145) rfl kq) ?_
  show Go p e below s _ _ _ T259 (mkF m 147 #[.val (.int x0), .val (.int x1), .val (.int x2), .val (.int x3), .val (.int x4), .val (.ref a180), .val (.ref a188), .val (.int (Int32.ofNat n1)), .val (.int (Int32.ofNat n2)), .val (.int (Int32.ofNat n3)), .val (.int (Int32.ofNat n4)), .val (.int (Int32.ofNat n5)), .val (.int (Int32.ofNat n6)), .val (.int (Int32.ofNat r_246)), .val (.int (Int32.ofNat n7)), .val (.int (Int32.ofNat n8)), .val (.int (Int32.ofNat (rt q'_246 n7))), .unset, .unset, .unset, .unset] [(.int (Int32.ofNat (rt q'_246 n7)))])
  have hb266 : ¬ ((Int32.ofNat (rt q'_246 n7)) < (0 : Int32)) := by exact own_nlt0 (rt_lt _ _)
  refine go_st (fun _ kq => XS.ifNo X259.here hx rfl (hb hby at_147) rfl (XT.i0_lt_f hb266) kq) ?_
  show Go p e below s _ _ _ T259 (mkF m 150 #[.val (.int x0), .val (.int x1), .val (.int x2), .val (.int x3), .val (.int x4), .val (.ref a180), .val (.ref a188), .val (.int (Int32.ofNat n1)), .val (.int (Int32.ofNat n2)), .val (.int (Int32.ofNat n3)), .val (.int (Int32.ofNat n4)), .val (.int (Int32.ofNat n5)), .val (.int (Int32.ofNat n6)), .val (.int (Int32.ofNat r_246)), .val (.int (Int32.ofNat n7)), .val (.int (Int32.ofNat n8)), .val (.int (Int32.ofNat (rt q'_246 n7))), .unset, .unset, .unset, .unset] [])
  refine go_st (fun _ kq => XS.iload X259.here hx rfl (hb hby at_150) rfl kq) ?_
  show Go p e below s _ _ _ T259 (mkF m 152 #[.val (.int x0), .val (.int x1), .val (.int x2), .val (.int x3), .val (.int x4), .val (.ref a180), .val (.ref a188), .val (.int (Int32.ofNat n1)), .val (.int (Int32.ofNat n2)), .val (.int (Int32.ofNat n3)), .val (.int (Int32.ofNat n4)), .val (.int (Int32.ofNat n5)), .val (.int (Int32.ofNat n6)), .val (.int (Int32.ofNat r_246)), .val (.int (Int32.ofNat n7)), .val (.int (Int32.ofNat n8)), .val (.int (Int32.ofNat (rt q'_246 n7))), .unset, .unset, .unset, .unset] [(.int (Int32.ofNat (rt q'_246 n7)))])
  refine go_st (fun _ kq => XT.iconstV X259.here hx rfl (3 : Int32) (hb hby at_152) (by decide) kq) ?_
  show Go p e below s _ _ _ T259 (mkF m 153 #[.val (.int x0), .val (.int x1), .val (.int x2), .val (.int x3), .val (.int x4), .val (.ref a180), .val (.ref a188), .val (.int (Int32.ofNat n1)), .val (.int (Int32.ofNat n2)), .val (.int (Int32.ofNat n3)), .val (.int (Int32.ofNat n4)), .val (.int (Int32.ofNat n5)), .val (.int (Int32.ofNat n6)), .val (.int (Int32.ofNat r_246)), .val (.int (Int32.ofNat n7)), .val (.int (Int32.ofNat n8)), .val (.int (Int32.ofNat (rt q'_246 n7))), .unset, .unset, .unset, .unset] [(.int (3 : Int32)), (.int (Int32.ofNat (rt q'_246 n7)))])
  have hb267 : ¬ ((3 : Int32) < (Int32.ofNat (rt q'_246 n7))) := by exact own_nlt3 (rt_lt _ _)
  refine go_st (fun _ kq => XS.icmpYes X259.here hx rfl (pc0 := 153) (pc' := 158) rfl (hb hby at_153) rfl (XT.ii_le_t hb267) (by decide) (by decide) kq) ?_
  show Go p e below s _ _ _ T259 (mkF m 158 #[.val (.int x0), .val (.int x1), .val (.int x2), .val (.int x3), .val (.int x4), .val (.ref a180), .val (.ref a188), .val (.int (Int32.ofNat n1)), .val (.int (Int32.ofNat n2)), .val (.int (Int32.ofNat n3)), .val (.int (Int32.ofNat n4)), .val (.int (Int32.ofNat n5)), .val (.int (Int32.ofNat n6)), .val (.int (Int32.ofNat r_246)), .val (.int (Int32.ofNat n7)), .val (.int (Int32.ofNat n8)), .val (.int (Int32.ofNat (rt q'_246 n7))), .unset, .unset, .unset, .unset] [])
  refine go_st (fun _ kq => XS.aload X259.here hx rfl (hb hby at_158) rfl rfl kq) ?_
  show Go p e below s _ _ _ T259 (mkF m 160 #[.val (.int x0), .val (.int x1), .val (.int x2), .val (.int x3), .val (.int x4), .val (.ref a180), .val (.ref a188), .val (.int (Int32.ofNat n1)), .val (.int (Int32.ofNat n2)), .val (.int (Int32.ofNat n3)), .val (.int (Int32.ofNat n4)), .val (.int (Int32.ofNat n5)), .val (.int (Int32.ofNat n6)), .val (.int (Int32.ofNat r_246)), .val (.int (Int32.ofNat n7)), .val (.int (Int32.ofNat n8)), .val (.int (Int32.ofNat (rt q'_246 n7))), .unset, .unset, .unset, .unset] [(.ref a180)])
  refine go_st (fun _ kq => XS.iload X259.here hx rfl (hb hby at_160) rfl kq) ?_
  show Go p e below s _ _ _ T259 (mkF m 162 #[.val (.int x0), .val (.int x1), .val (.int x2), .val (.int x3), .val (.int x4), .val (.ref a180), .val (.ref a188), .val (.int (Int32.ofNat n1)), .val (.int (Int32.ofNat n2)), .val (.int (Int32.ofNat n3)), .val (.int (Int32.ofNat n4)), .val (.int (Int32.ofNat n5)), .val (.int (Int32.ofNat n6)), .val (.int (Int32.ofNat r_246)), .val (.int (Int32.ofNat n7)), .val (.int (Int32.ofNat n8)), .val (.int (Int32.ofNat (rt q'_246 n7))), .unset, .unset, .unset, .unset] [(.int (Int32.ofNat n8)), (.ref a180)])
  have c269 := Fld.keep c261 K259 (ninS p183_4 nin0)
  have z270 : n0 ≤ T259.heap.size := Nat.le_trans z263 K259.1
  have c271 := Exa.keep c265 K259
  refine go_callV X259 hx hZ hml hown (hw _ (List.mem_of_getElem? (i := 28) rfl)) (hw _ (List.mem_of_getElem? (i := 20) rfl)) (notFace_of_selects (args := #[]) (mvT hZ (hw _ (List.mem_of_getElem? (i := 22) rfl)))) (hw _ (List.mem_of_getElem? (i := 22) rfl)) (hw _ (List.mem_of_getElem? (i := 21) rfl)) (hw _ (List.mem_of_getElem? (i := 23) rfl)) (hw _ (List.mem_of_getElem? (i := 2) rfl)) rfl c271 (argsL := [(.int (Int32.ofNat n8))]) (rest := []) (W := 0) (met_find l Z a0 hw a180 n8 pa_183 q'_259 T259.heap n0 z270 c269 f259_0 hn8 p183_4 nw_pa_183 p259_0 p259_1) (hb hby at_162) rfl rfl rfl (lenOf pd0 rfl) (by show 2 * 0 + _ ≤ _; exact Nat.le_of_eq rfl) (by decide) (by decide) (by decide) (by decide) (by decide) ?_
  intro T268 v268 L268 X268 q268
  obtain ⟨q'_268, rfl, M268, K268, p268_0, p268_1, p268_2, f268_0⟩ := q268
  have N268 := Fr.app N259 M268
  show Go p e below s _ _ _ T268 (mkF m 165 #[.val (.int x0), .val (.int x1), .val (.int x2), .val (.int x3), .val (.int x4), .val (.ref a180), .val (.ref a188), .val (.int (Int32.ofNat n1)), .val (.int (Int32.ofNat n2)), .val (.int (Int32.ofNat n3)), .val (.int (Int32.ofNat n4)), .val (.int (Int32.ofNat n5)), .val (.int (Int32.ofNat n6)), .val (.int (Int32.ofNat r_246)), .val (.int (Int32.ofNat n7)), .val (.int (Int32.ofNat n8)), .val (.int (Int32.ofNat (rt q'_246 n7))), .unset, .unset, .unset, .unset] [(.int (Int32.ofNat (rt q'_259 n8)))])
  refine go_st (fun _ kq => XS.istore X268.here hx rfl (hb hby at_165) rfl (l' := #[.val (.int x0), .val (.int x1), .val (.int x2), .val (.int x3), .val (.int x4), .val (.ref a180), .val (.ref a188), .val (.int (Int32.ofNat n1)), .val (.int (Int32.ofNat n2)), .val (.int (Int32.ofNat n3)), .val (.int (Int32.ofNat n4)), .val (.int (Int32.ofNat n5)), .val (.int (Int32.ofNat n6)), .val (.int (Int32.ofNat r_246)), .val (.int (Int32.ofNat n7)), .val (.int (Int32.ofNat n8)), .val (.int (Int32.ofNat (rt q'_246 n7))), .val (.int (Int32.ofNat (rt q'_259 n8))), .unset, .unset, .unset]) rfl kq) ?_
  show Go p e below s _ _ _ T268 (mkF m 167 #[.val (.int x0), .val (.int x1), .val (.int x2), .val (.int x3), .val (.int x4), .val (.ref a180), .val (.ref a188), .val (.int (Int32.ofNat n1)), .val (.int (Int32.ofNat n2)), .val (.int (Int32.ofNat n3)), .val (.int (Int32.ofNat n4)), .val (.int (Int32.ofNat n5)), .val (.int (Int32.ofNat n6)), .val (.int (Int32.ofNat r_246)), .val (.int (Int32.ofNat n7)), .val (.int (Int32.ofNat n8)), .val (.int (Int32.ofNat (rt q'_246 n7))), .val (.int (Int32.ofNat (rt q'_259 n8))), .unset, .unset, .unset] [])
  refine go_st (fun _ kq => XS.iload X268.here hx rfl (hb hby at_167) rfl kq) ?_
  show Go p e below s _ _ _ T268 (mkF m 169 #[.val (.int x0), .val (.int x1), .val (.int x2), .val (.int x3), .val (.int x4), .val (.ref a180), .val (.ref a188), .val (.int (Int32.ofNat n1)), .val (.int (Int32.ofNat n2)), .val (.int (Int32.ofNat n3)), .val (.int (Int32.ofNat n4)), .val (.int (Int32.ofNat n5)), .val (.int (Int32.ofNat n6)), .val (.int (Int32.ofNat r_246)), .val (.int (Int32.ofNat n7)), .val (.int (Int32.ofNat n8)), .val (.int (Int32.ofNat (rt q'_246 n7))), .val (.int (Int32.ofNat (rt q'_259 n8))), .unset, .unset, .unset] [(.int (Int32.ofNat (rt q'_259 n8)))])
  have hb272 : ¬ ((Int32.ofNat (rt q'_259 n8)) < (0 : Int32)) := by exact own_nlt0 (rt_lt _ _)
  refine go_st (fun _ kq => XS.ifNo X268.here hx rfl (hb hby at_169) rfl (XT.i0_lt_f hb272) kq) ?_
  show Go p e below s _ _ _ T268 (mkF m 172 #[.val (.int x0), .val (.int x1), .val (.int x2), .val (.int x3), .val (.int x4), .val (.ref a180), .val (.ref a188), .val (.int (Int32.ofNat n1)), .val (.int (Int32.ofNat n2)), .val (.int (Int32.ofNat n3)), .val (.int (Int32.ofNat n4)), .val (.int (Int32.ofNat n5)), .val (.int (Int32.ofNat n6)), .val (.int (Int32.ofNat r_246)), .val (.int (Int32.ofNat n7)), .val (.int (Int32.ofNat n8)), .val (.int (Int32.ofNat (rt q'_246 n7))), .val (.int (Int32.ofNat (rt q'_259 n8))), .unset, .unset, .unset] [])
  refine go_st (fun _ kq => XS.iload X268.here hx rfl (hb hby at_172) rfl kq) ?_
  show Go p e below s _ _ _ T268 (mkF m 174 #[.val (.int x0), .val (.int x1), .val (.int x2), .val (.int x3), .val (.int x4), .val (.ref a180), .val (.ref a188), .val (.int (Int32.ofNat n1)), .val (.int (Int32.ofNat n2)), .val (.int (Int32.ofNat n3)), .val (.int (Int32.ofNat n4)), .val (.int (Int32.ofNat n5)), .val (.int (Int32.ofNat n6)), .val (.int (Int32.ofNat r_246)), .val (.int (Int32.ofNat n7)), .val (.int (Int32.ofNat n8)), .val (.int (Int32.ofNat (rt q'_246 n7))), .val (.int (Int32.ofNat (rt q'_259 n8))), .unset, .unset, .unset] [(.int (Int32.ofNat (rt q'_259 n8)))])
  refine go_st (fun _ kq => XT.iconstV X268.here hx rfl (3 : Int32) (hb hby at_174) (by decide) kq) ?_
  show Go p e below s _ _ _ T268 (mkF m 175 #[.val (.int x0), .val (.int x1), .val (.int x2), .val (.int x3), .val (.int x4), .val (.ref a180), .val (.ref a188), .val (.int (Int32.ofNat n1)), .val (.int (Int32.ofNat n2)), .val (.int (Int32.ofNat n3)), .val (.int (Int32.ofNat n4)), .val (.int (Int32.ofNat n5)), .val (.int (Int32.ofNat n6)), .val (.int (Int32.ofNat r_246)), .val (.int (Int32.ofNat n7)), .val (.int (Int32.ofNat n8)), .val (.int (Int32.ofNat (rt q'_246 n7))), .val (.int (Int32.ofNat (rt q'_259 n8))), .unset, .unset, .unset] [(.int (3 : Int32)), (.int (Int32.ofNat (rt q'_259 n8)))])
  have hb273 : ¬ ((3 : Int32) < (Int32.ofNat (rt q'_259 n8))) := by exact own_nlt3 (rt_lt _ _)
  refine go_st (fun _ kq => XS.icmpYes X268.here hx rfl (pc0 := 175) (pc' := 180) rfl (hb hby at_175) rfl (XT.ii_le_t hb273) (by decide) (by decide) kq) ?_
  show Go p e below s _ _ _ T268 (mkF m 180 #[.val (.int x0), .val (.int x1), .val (.int x2), .val (.int x3), .val (.int x4), .val (.ref a180), .val (.ref a188), .val (.int (Int32.ofNat n1)), .val (.int (Int32.ofNat n2)), .val (.int (Int32.ofNat n3)), .val (.int (Int32.ofNat n4)), .val (.int (Int32.ofNat n5)), .val (.int (Int32.ofNat n6)), .val (.int (Int32.ofNat r_246)), .val (.int (Int32.ofNat n7)), .val (.int (Int32.ofNat n8)), .val (.int (Int32.ofNat (rt q'_246 n7))), .val (.int (Int32.ofNat (rt q'_259 n8))), .unset, .unset, .unset] [])
  refine go_st (fun _ kq => XS.aload X268.here hx rfl (hb hby at_180) rfl rfl kq) ?_
  show Go p e below s _ _ _ T268 (mkF m 182 #[.val (.int x0), .val (.int x1), .val (.int x2), .val (.int x3), .val (.int x4), .val (.ref a180), .val (.ref a188), .val (.int (Int32.ofNat n1)), .val (.int (Int32.ofNat n2)), .val (.int (Int32.ofNat n3)), .val (.int (Int32.ofNat n4)), .val (.int (Int32.ofNat n5)), .val (.int (Int32.ofNat n6)), .val (.int (Int32.ofNat r_246)), .val (.int (Int32.ofNat n7)), .val (.int (Int32.ofNat n8)), .val (.int (Int32.ofNat (rt q'_246 n7))), .val (.int (Int32.ofNat (rt q'_259 n8))), .unset, .unset, .unset] [(.ref a180)])
  refine go_st (fun _ kq => XS.iload X268.here hx rfl (hb hby at_182) rfl kq) ?_
  show Go p e below s _ _ _ T268 (mkF m 184 #[.val (.int x0), .val (.int x1), .val (.int x2), .val (.int x3), .val (.int x4), .val (.ref a180), .val (.ref a188), .val (.int (Int32.ofNat n1)), .val (.int (Int32.ofNat n2)), .val (.int (Int32.ofNat n3)), .val (.int (Int32.ofNat n4)), .val (.int (Int32.ofNat n5)), .val (.int (Int32.ofNat n6)), .val (.int (Int32.ofNat r_246)), .val (.int (Int32.ofNat n7)), .val (.int (Int32.ofNat n8)), .val (.int (Int32.ofNat (rt q'_246 n7))), .val (.int (Int32.ofNat (rt q'_259 n8))), .unset, .unset, .unset] [(.int (Int32.ofNat (rt q'_246 n7))), (.ref a180)])
  have c275 := Fld.keep c269 K268 (ninS p183_4 nin0)
  have z276 : n0 ≤ T268.heap.size := Nat.le_trans z270 K268.1
  have c277 := Exa.keep c271 K268
  refine go_callV X268 hx hZ hml hown (hw _ (List.mem_of_getElem? (i := 28) rfl)) (hw _ (List.mem_of_getElem? (i := 20) rfl)) (notFace_of_selects (args := #[]) (mvT hZ (hw _ (List.mem_of_getElem? (i := 22) rfl)))) (hw _ (List.mem_of_getElem? (i := 22) rfl)) (hw _ (List.mem_of_getElem? (i := 21) rfl)) (hw _ (List.mem_of_getElem? (i := 23) rfl)) (hw _ (List.mem_of_getElem? (i := 2) rfl)) rfl c277 (argsL := [(.int (Int32.ofNat (rt q'_246 n7)))]) (rest := []) (W := 0) (met_find l Z a0 hw a180 (rt q'_246 n7) pa_183 q'_268 T268.heap n0 z276 c275 f268_0 (rt_lt _ _) p183_4 nw_pa_183 p268_0 p268_1) (hb hby at_184) rfl rfl rfl (lenOf pd0 rfl) (by show 2 * 0 + _ ≤ _; exact Nat.le_of_eq rfl) (by decide) (by decide) (by decide) (by decide) (by decide) ?_
  intro T274 v274 L274 X274 q274
  obtain ⟨q'_274, rfl, M274, K274, p274_0, p274_1, p274_2, f274_0⟩ := q274
  have N274 := Fr.app N268 M274
  show Go p e below s _ _ _ T274 (mkF m 187 #[.val (.int x0), .val (.int x1), .val (.int x2), .val (.int x3), .val (.int x4), .val (.ref a180), .val (.ref a188), .val (.int (Int32.ofNat n1)), .val (.int (Int32.ofNat n2)), .val (.int (Int32.ofNat n3)), .val (.int (Int32.ofNat n4)), .val (.int (Int32.ofNat n5)), .val (.int (Int32.ofNat n6)), .val (.int (Int32.ofNat r_246)), .val (.int (Int32.ofNat n7)), .val (.int (Int32.ofNat n8)), .val (.int (Int32.ofNat (rt q'_246 n7))), .val (.int (Int32.ofNat (rt q'_259 n8))), .unset, .unset, .unset] [(.int (Int32.ofNat (rt q'_268 (rt q'_246 n7))))])
  refine go_st (fun _ kq => XS.istore X274.here hx rfl (hb hby at_187) rfl (l' := #[.val (.int x0), .val (.int x1), .val (.int x2), .val (.int x3), .val (.int x4), .val (.ref a180), .val (.ref a188), .val (.int (Int32.ofNat n1)), .val (.int (Int32.ofNat n2)), .val (.int (Int32.ofNat n3)), .val (.int (Int32.ofNat n4)), .val (.int (Int32.ofNat n5)), .val (.int (Int32.ofNat n6)), .val (.int (Int32.ofNat r_246)), .val (.int (Int32.ofNat n7)), .val (.int (Int32.ofNat n8)), .val (.int (Int32.ofNat (rt q'_246 n7))), .val (.int (Int32.ofNat (rt q'_259 n8))), .val (.int (Int32.ofNat (rt q'_268 (rt q'_246 n7)))), .unset, .unset]) rfl kq) ?_
  show Go p e below s _ _ _ T274 (mkF m 189 #[.val (.int x0), .val (.int x1), .val (.int x2), .val (.int x3), .val (.int x4), .val (.ref a180), .val (.ref a188), .val (.int (Int32.ofNat n1)), .val (.int (Int32.ofNat n2)), .val (.int (Int32.ofNat n3)), .val (.int (Int32.ofNat n4)), .val (.int (Int32.ofNat n5)), .val (.int (Int32.ofNat n6)), .val (.int (Int32.ofNat r_246)), .val (.int (Int32.ofNat n7)), .val (.int (Int32.ofNat n8)), .val (.int (Int32.ofNat (rt q'_246 n7))), .val (.int (Int32.ofNat (rt q'_259 n8))), .val (.int (Int32.ofNat (rt q'_268 (rt q'_246 n7)))), .unset, .unset] [])
  refine go_st (fun _ kq => XS.aload X274.here hx rfl (hb hby at_189) rfl rfl kq) ?_
  show Go p e below s _ _ _ T274 (mkF m 191 #[.val (.int x0), .val (.int x1), .val (.int x2), .val (.int x3), .val (.int x4), .val (.ref a180), .val (.ref a188), .val (.int (Int32.ofNat n1)), .val (.int (Int32.ofNat n2)), .val (.int (Int32.ofNat n3)), .val (.int (Int32.ofNat n4)), .val (.int (Int32.ofNat n5)), .val (.int (Int32.ofNat n6)), .val (.int (Int32.ofNat r_246)), .val (.int (Int32.ofNat n7)), .val (.int (Int32.ofNat n8)), .val (.int (Int32.ofNat (rt q'_246 n7))), .val (.int (Int32.ofNat (rt q'_259 n8))), .val (.int (Int32.ofNat (rt q'_268 (rt q'_246 n7)))), .unset, .unset] [(.ref a180)])
  refine go_st (fun _ kq => XS.iload X274.here hx rfl (hb hby at_191) rfl kq) ?_
  show Go p e below s _ _ _ T274 (mkF m 193 #[.val (.int x0), .val (.int x1), .val (.int x2), .val (.int x3), .val (.int x4), .val (.ref a180), .val (.ref a188), .val (.int (Int32.ofNat n1)), .val (.int (Int32.ofNat n2)), .val (.int (Int32.ofNat n3)), .val (.int (Int32.ofNat n4)), .val (.int (Int32.ofNat n5)), .val (.int (Int32.ofNat n6)), .val (.int (Int32.ofNat r_246)), .val (.int (Int32.ofNat n7)), .val (.int (Int32.ofNat n8)), .val (.int (Int32.ofNat (rt q'_246 n7))), .val (.int (Int32.ofNat (rt q'_259 n8))), .val (.int (Int32.ofNat (rt q'_268 (rt q'_246 n7)))), .unset, .unset] [(.int (Int32.ofNat n7)), (.ref a180)])
  have c279 := Fld.keep c275 K274 (ninS p183_4 nin0)
  have z280 : n0 ≤ T274.heap.size := Nat.le_trans z276 K274.1
  have c281 := Exa.keep c277 K274
  refine go_callV X274 hx hZ hml hown (hw _ (List.mem_of_getElem? (i := 28) rfl)) (hw _ (List.mem_of_getElem? (i := 20) rfl)) (notFace_of_selects (args := #[]) (mvT hZ (hw _ (List.mem_of_getElem? (i := 22) rfl)))) (hw _ (List.mem_of_getElem? (i := 22) rfl)) (hw _ (List.mem_of_getElem? (i := 21) rfl)) (hw _ (List.mem_of_getElem? (i := 23) rfl)) (hw _ (List.mem_of_getElem? (i := 2) rfl)) rfl c281 (argsL := [(.int (Int32.ofNat n7))]) (rest := []) (W := 0) (met_find l Z a0 hw a180 n7 pa_183 q'_274 T274.heap n0 z280 c279 f274_0 hn7 p183_4 nw_pa_183 p274_0 p274_1) (hb hby at_193) rfl rfl rfl (lenOf pd0 rfl) (by show 2 * 0 + _ ≤ _; exact Nat.le_of_eq rfl) (by decide) (by decide) (by decide) (by decide) (by decide) ?_
  intro T278 v278 L278 X278 q278
  obtain ⟨q'_278, rfl, M278, K278, p278_0, p278_1, p278_2, f278_0⟩ := q278
  have N278 := Fr.app N274 M278
  show Go p e below s _ _ _ T278 (mkF m 196 #[.val (.int x0), .val (.int x1), .val (.int x2), .val (.int x3), .val (.int x4), .val (.ref a180), .val (.ref a188), .val (.int (Int32.ofNat n1)), .val (.int (Int32.ofNat n2)), .val (.int (Int32.ofNat n3)), .val (.int (Int32.ofNat n4)), .val (.int (Int32.ofNat n5)), .val (.int (Int32.ofNat n6)), .val (.int (Int32.ofNat r_246)), .val (.int (Int32.ofNat n7)), .val (.int (Int32.ofNat n8)), .val (.int (Int32.ofNat (rt q'_246 n7))), .val (.int (Int32.ofNat (rt q'_259 n8))), .val (.int (Int32.ofNat (rt q'_268 (rt q'_246 n7)))), .unset, .unset] [(.int (Int32.ofNat (rt q'_274 n7)))])
  refine go_st (fun _ kq => XS.istore X278.here hx rfl (hb hby at_196) rfl (l' := #[.val (.int x0), .val (.int x1), .val (.int x2), .val (.int x3), .val (.int x4), .val (.ref a180), .val (.ref a188), .val (.int (Int32.ofNat n1)), .val (.int (Int32.ofNat n2)), .val (.int (Int32.ofNat n3)), .val (.int (Int32.ofNat n4)), .val (.int (Int32.ofNat n5)), .val (.int (Int32.ofNat n6)), .val (.int (Int32.ofNat r_246)), .val (.int (Int32.ofNat n7)), .val (.int (Int32.ofNat n8)), .val (.int (Int32.ofNat (rt q'_246 n7))), .val (.int (Int32.ofNat (rt q'_259 n8))), .val (.int (Int32.ofNat (rt q'_268 (rt q'_246 n7)))), .val (.int (Int32.ofNat (rt q'_274 n7))), .unset]) rfl kq) ?_
  show Go p e below s _ _ _ T278 (mkF m 198 #[.val (.int x0), .val (.int x1), .val (.int x2), .val (.int x3), .val (.int x4), .val (.ref a180), .val (.ref a188), .val (.int (Int32.ofNat n1)), .val (.int (Int32.ofNat n2)), .val (.int (Int32.ofNat n3)), .val (.int (Int32.ofNat n4)), .val (.int (Int32.ofNat n5)), .val (.int (Int32.ofNat n6)), .val (.int (Int32.ofNat r_246)), .val (.int (Int32.ofNat n7)), .val (.int (Int32.ofNat n8)), .val (.int (Int32.ofNat (rt q'_246 n7))), .val (.int (Int32.ofNat (rt q'_259 n8))), .val (.int (Int32.ofNat (rt q'_268 (rt q'_246 n7)))), .val (.int (Int32.ofNat (rt q'_274 n7))), .unset] [])
  refine go_st (fun _ kq => XS.aload X278.here hx rfl (hb hby at_198) rfl rfl kq) ?_
  show Go p e below s _ _ _ T278 (mkF m 200 #[.val (.int x0), .val (.int x1), .val (.int x2), .val (.int x3), .val (.int x4), .val (.ref a180), .val (.ref a188), .val (.int (Int32.ofNat n1)), .val (.int (Int32.ofNat n2)), .val (.int (Int32.ofNat n3)), .val (.int (Int32.ofNat n4)), .val (.int (Int32.ofNat n5)), .val (.int (Int32.ofNat n6)), .val (.int (Int32.ofNat r_246)), .val (.int (Int32.ofNat n7)), .val (.int (Int32.ofNat n8)), .val (.int (Int32.ofNat (rt q'_246 n7))), .val (.int (Int32.ofNat (rt q'_259 n8))), .val (.int (Int32.ofNat (rt q'_268 (rt q'_246 n7)))), .val (.int (Int32.ofNat (rt q'_274 n7))), .unset] [(.ref a188)])
  refine go_st (fun _ kq => XS.iload X278.here hx rfl (hb hby at_200) rfl kq) ?_
  show Go p e below s _ _ _ T278 (mkF m 202 #[.val (.int x0), .val (.int x1), .val (.int x2), .val (.int x3), .val (.int x4), .val (.ref a180), .val (.ref a188), .val (.int (Int32.ofNat n1)), .val (.int (Int32.ofNat n2)), .val (.int (Int32.ofNat n3)), .val (.int (Int32.ofNat n4)), .val (.int (Int32.ofNat n5)), .val (.int (Int32.ofNat n6)), .val (.int (Int32.ofNat r_246)), .val (.int (Int32.ofNat n7)), .val (.int (Int32.ofNat n8)), .val (.int (Int32.ofNat (rt q'_246 n7))), .val (.int (Int32.ofNat (rt q'_259 n8))), .val (.int (Int32.ofNat (rt q'_268 (rt q'_246 n7)))), .val (.int (Int32.ofNat (rt q'_274 n7))), .unset] [(.int (Int32.ofNat (rt q'_246 n7))), (.ref a188)])
  have c282 := GA.keep f256_0 K259 (ninS (Ne.symm ne192) nin0)
  have c283 := GA.keep c282 K268 (ninS (Ne.symm ne192) nin0)
  have c284 := GA.keep c283 K274 (ninS (Ne.symm ne192) nin0)
  have c285 := GA.keep c284 K278 (ninS (Ne.symm ne192) nin0)
  refine go_iald X278 hx hZ rfl c285 (hb hby at_202) rfl rfl (own_i4 (rt_lt _ _)) (.int (Int32.ofNat (gt d'_256 (rt q'_246 n7)))) (by rw [own_c4 (rt_lt _ _)]) ?_
  show Go p e below s _ _ _ T278 (mkF m 203 #[.val (.int x0), .val (.int x1), .val (.int x2), .val (.int x3), .val (.int x4), .val (.ref a180), .val (.ref a188), .val (.int (Int32.ofNat n1)), .val (.int (Int32.ofNat n2)), .val (.int (Int32.ofNat n3)), .val (.int (Int32.ofNat n4)), .val (.int (Int32.ofNat n5)), .val (.int (Int32.ofNat n6)), .val (.int (Int32.ofNat r_246)), .val (.int (Int32.ofNat n7)), .val (.int (Int32.ofNat n8)), .val (.int (Int32.ofNat (rt q'_246 n7))), .val (.int (Int32.ofNat (rt q'_259 n8))), .val (.int (Int32.ofNat (rt q'_268 (rt q'_246 n7)))), .val (.int (Int32.ofNat (rt q'_274 n7))), .unset] [(.int (Int32.ofNat (gt d'_256 (rt q'_246 n7))))])
  refine go_st (fun _ kq => XS.aload X278.here hx rfl (hb hby at_203) rfl rfl kq) ?_
  show Go p e below s _ _ _ T278 (mkF m 205 #[.val (.int x0), .val (.int x1), .val (.int x2), .val (.int x3), .val (.int x4), .val (.ref a180), .val (.ref a188), .val (.int (Int32.ofNat n1)), .val (.int (Int32.ofNat n2)), .val (.int (Int32.ofNat n3)), .val (.int (Int32.ofNat n4)), .val (.int (Int32.ofNat n5)), .val (.int (Int32.ofNat n6)), .val (.int (Int32.ofNat r_246)), .val (.int (Int32.ofNat n7)), .val (.int (Int32.ofNat n8)), .val (.int (Int32.ofNat (rt q'_246 n7))), .val (.int (Int32.ofNat (rt q'_259 n8))), .val (.int (Int32.ofNat (rt q'_268 (rt q'_246 n7)))), .val (.int (Int32.ofNat (rt q'_274 n7))), .unset] [(.ref a188), (.int (Int32.ofNat (gt d'_256 (rt q'_246 n7))))])
  refine go_st (fun _ kq => XS.iload X278.here hx rfl (hb hby at_205) rfl kq) ?_
  show Go p e below s _ _ _ T278 (mkF m 207 #[.val (.int x0), .val (.int x1), .val (.int x2), .val (.int x3), .val (.int x4), .val (.ref a180), .val (.ref a188), .val (.int (Int32.ofNat n1)), .val (.int (Int32.ofNat n2)), .val (.int (Int32.ofNat n3)), .val (.int (Int32.ofNat n4)), .val (.int (Int32.ofNat n5)), .val (.int (Int32.ofNat n6)), .val (.int (Int32.ofNat r_246)), .val (.int (Int32.ofNat n7)), .val (.int (Int32.ofNat n8)), .val (.int (Int32.ofNat (rt q'_246 n7))), .val (.int (Int32.ofNat (rt q'_259 n8))), .val (.int (Int32.ofNat (rt q'_268 (rt q'_246 n7)))), .val (.int (Int32.ofNat (rt q'_274 n7))), .unset] [(.int (Int32.ofNat n7)), (.ref a188), (.int (Int32.ofNat (gt d'_256 (rt q'_246 n7))))])
  refine go_iald X278 hx hZ rfl c285 (hb hby at_207) rfl rfl (own_i4 hn7) (.int (Int32.ofNat (gt d'_256 n7))) (by rw [own_c4 hn7]) ?_
  show Go p e below s _ _ _ T278 (mkF m 208 #[.val (.int x0), .val (.int x1), .val (.int x2), .val (.int x3), .val (.int x4), .val (.ref a180), .val (.ref a188), .val (.int (Int32.ofNat n1)), .val (.int (Int32.ofNat n2)), .val (.int (Int32.ofNat n3)), .val (.int (Int32.ofNat n4)), .val (.int (Int32.ofNat n5)), .val (.int (Int32.ofNat n6)), .val (.int (Int32.ofNat r_246)), .val (.int (Int32.ofNat n7)), .val (.int (Int32.ofNat n8)), .val (.int (Int32.ofNat (rt q'_246 n7))), .val (.int (Int32.ofNat (rt q'_259 n8))), .val (.int (Int32.ofNat (rt q'_268 (rt q'_246 n7)))), .val (.int (Int32.ofNat (rt q'_274 n7))), .unset] [(.int (Int32.ofNat (gt d'_256 n7))), (.int (Int32.ofNat (gt d'_256 (rt q'_246 n7))))])
  have hb286 : (Int32.ofNat (gt d'_256 (rt q'_246 n7))) = (Int32.ofNat (gt d'_256 n7)) := by rw [own_eq4 (gt_lt _ _) (gt_lt _ _)]; exact (iv256 _ _ (rt_lt _ _) hn7).mpr (rt_idem uo246 hn7)
  refine go_st (fun _ kq => XS.icmpNo X278.here hx rfl (hb hby at_208) rfl (XT.ii_ne_f hb286) kq) ?_
  show Go p e below s _ _ _ T278 (mkF m 211 #[.val (.int x0), .val (.int x1), .val (.int x2), .val (.int x3), .val (.int x4), .val (.ref a180), .val (.ref a188), .val (.int (Int32.ofNat n1)), .val (.int (Int32.ofNat n2)), .val (.int (Int32.ofNat n3)), .val (.int (Int32.ofNat n4)), .val (.int (Int32.ofNat n5)), .val (.int (Int32.ofNat n6)), .val (.int (Int32.ofNat r_246)), .val (.int (Int32.ofNat n7)), .val (.int (Int32.ofNat n8)), .val (.int (Int32.ofNat (rt q'_246 n7))), .val (.int (Int32.ofNat (rt q'_259 n8))), .val (.int (Int32.ofNat (rt q'_268 (rt q'_246 n7)))), .val (.int (Int32.ofNat (rt q'_274 n7))), .unset] [])
  refine go_st (fun _ kq => XS.aload X278.here hx rfl (hb hby at_211) rfl rfl kq) ?_
  show Go p e below s _ _ _ T278 (mkF m 213 #[.val (.int x0), .val (.int x1), .val (.int x2), .val (.int x3), .val (.int x4), .val (.ref a180), .val (.ref a188), .val (.int (Int32.ofNat n1)), .val (.int (Int32.ofNat n2)), .val (.int (Int32.ofNat n3)), .val (.int (Int32.ofNat n4)), .val (.int (Int32.ofNat n5)), .val (.int (Int32.ofNat n6)), .val (.int (Int32.ofNat r_246)), .val (.int (Int32.ofNat n7)), .val (.int (Int32.ofNat n8)), .val (.int (Int32.ofNat (rt q'_246 n7))), .val (.int (Int32.ofNat (rt q'_259 n8))), .val (.int (Int32.ofNat (rt q'_268 (rt q'_246 n7)))), .val (.int (Int32.ofNat (rt q'_274 n7))), .unset] [(.ref a188)])
  refine go_st (fun _ kq => XS.iload X278.here hx rfl (hb hby at_213) rfl kq) ?_
  show Go p e below s _ _ _ T278 (mkF m 215 #[.val (.int x0), .val (.int x1), .val (.int x2), .val (.int x3), .val (.int x4), .val (.ref a180), .val (.ref a188), .val (.int (Int32.ofNat n1)), .val (.int (Int32.ofNat n2)), .val (.int (Int32.ofNat n3)), .val (.int (Int32.ofNat n4)), .val (.int (Int32.ofNat n5)), .val (.int (Int32.ofNat n6)), .val (.int (Int32.ofNat r_246)), .val (.int (Int32.ofNat n7)), .val (.int (Int32.ofNat n8)), .val (.int (Int32.ofNat (rt q'_246 n7))), .val (.int (Int32.ofNat (rt q'_259 n8))), .val (.int (Int32.ofNat (rt q'_268 (rt q'_246 n7)))), .val (.int (Int32.ofNat (rt q'_274 n7))), .unset] [(.int (Int32.ofNat (rt q'_259 n8))), (.ref a188)])
  refine go_iald X278 hx hZ rfl c285 (hb hby at_215) rfl rfl (own_i4 (rt_lt _ _)) (.int (Int32.ofNat (gt d'_256 (rt q'_259 n8)))) (by rw [own_c4 (rt_lt _ _)]) ?_
  show Go p e below s _ _ _ T278 (mkF m 216 #[.val (.int x0), .val (.int x1), .val (.int x2), .val (.int x3), .val (.int x4), .val (.ref a180), .val (.ref a188), .val (.int (Int32.ofNat n1)), .val (.int (Int32.ofNat n2)), .val (.int (Int32.ofNat n3)), .val (.int (Int32.ofNat n4)), .val (.int (Int32.ofNat n5)), .val (.int (Int32.ofNat n6)), .val (.int (Int32.ofNat r_246)), .val (.int (Int32.ofNat n7)), .val (.int (Int32.ofNat n8)), .val (.int (Int32.ofNat (rt q'_246 n7))), .val (.int (Int32.ofNat (rt q'_259 n8))), .val (.int (Int32.ofNat (rt q'_268 (rt q'_246 n7)))), .val (.int (Int32.ofNat (rt q'_274 n7))), .unset] [(.int (Int32.ofNat (gt d'_256 (rt q'_259 n8))))])
  refine go_st (fun _ kq => XS.aload X278.here hx rfl (hb hby at_216) rfl rfl kq) ?_
  show Go p e below s _ _ _ T278 (mkF m 218 #[.val (.int x0), .val (.int x1), .val (.int x2), .val (.int x3), .val (.int x4), .val (.ref a180), .val (.ref a188), .val (.int (Int32.ofNat n1)), .val (.int (Int32.ofNat n2)), .val (.int (Int32.ofNat n3)), .val (.int (Int32.ofNat n4)), .val (.int (Int32.ofNat n5)), .val (.int (Int32.ofNat n6)), .val (.int (Int32.ofNat r_246)), .val (.int (Int32.ofNat n7)), .val (.int (Int32.ofNat n8)), .val (.int (Int32.ofNat (rt q'_246 n7))), .val (.int (Int32.ofNat (rt q'_259 n8))), .val (.int (Int32.ofNat (rt q'_268 (rt q'_246 n7)))), .val (.int (Int32.ofNat (rt q'_274 n7))), .unset] [(.ref a188), (.int (Int32.ofNat (gt d'_256 (rt q'_259 n8))))])
  refine go_st (fun _ kq => XS.iload X278.here hx rfl (hb hby at_218) rfl kq) ?_
  show Go p e below s _ _ _ T278 (mkF m 220 #[.val (.int x0), .val (.int x1), .val (.int x2), .val (.int x3), .val (.int x4), .val (.ref a180), .val (.ref a188), .val (.int (Int32.ofNat n1)), .val (.int (Int32.ofNat n2)), .val (.int (Int32.ofNat n3)), .val (.int (Int32.ofNat n4)), .val (.int (Int32.ofNat n5)), .val (.int (Int32.ofNat n6)), .val (.int (Int32.ofNat r_246)), .val (.int (Int32.ofNat n7)), .val (.int (Int32.ofNat n8)), .val (.int (Int32.ofNat (rt q'_246 n7))), .val (.int (Int32.ofNat (rt q'_259 n8))), .val (.int (Int32.ofNat (rt q'_268 (rt q'_246 n7)))), .val (.int (Int32.ofNat (rt q'_274 n7))), .unset] [(.int (Int32.ofNat n8)), (.ref a188), (.int (Int32.ofNat (gt d'_256 (rt q'_259 n8))))])
  refine go_iald X278 hx hZ rfl c285 (hb hby at_220) rfl rfl (own_i4 hn8) (.int (Int32.ofNat (gt d'_256 n8))) (by rw [own_c4 hn8]) ?_
  show Go p e below s _ _ _ T278 (mkF m 221 #[.val (.int x0), .val (.int x1), .val (.int x2), .val (.int x3), .val (.int x4), .val (.ref a180), .val (.ref a188), .val (.int (Int32.ofNat n1)), .val (.int (Int32.ofNat n2)), .val (.int (Int32.ofNat n3)), .val (.int (Int32.ofNat n4)), .val (.int (Int32.ofNat n5)), .val (.int (Int32.ofNat n6)), .val (.int (Int32.ofNat r_246)), .val (.int (Int32.ofNat n7)), .val (.int (Int32.ofNat n8)), .val (.int (Int32.ofNat (rt q'_246 n7))), .val (.int (Int32.ofNat (rt q'_259 n8))), .val (.int (Int32.ofNat (rt q'_268 (rt q'_246 n7)))), .val (.int (Int32.ofNat (rt q'_274 n7))), .unset] [(.int (Int32.ofNat (gt d'_256 n8))), (.int (Int32.ofNat (gt d'_256 (rt q'_259 n8))))])
  have hb287 : (Int32.ofNat (gt d'_256 (rt q'_259 n8))) = (Int32.ofNat (gt d'_256 n8)) := by rw [own_eq4 (gt_lt _ _) (gt_lt _ _), p259_2 _ hn8]; exact (iv256 _ _ (rt_lt _ _) hn8).mpr (rt_idem uo246 hn8)
  refine go_st (fun _ kq => XS.icmpNo X278.here hx rfl (hb hby at_221) rfl (XT.ii_ne_f hb287) kq) ?_
  show Go p e below s _ _ _ T278 (mkF m 224 #[.val (.int x0), .val (.int x1), .val (.int x2), .val (.int x3), .val (.int x4), .val (.ref a180), .val (.ref a188), .val (.int (Int32.ofNat n1)), .val (.int (Int32.ofNat n2)), .val (.int (Int32.ofNat n3)), .val (.int (Int32.ofNat n4)), .val (.int (Int32.ofNat n5)), .val (.int (Int32.ofNat n6)), .val (.int (Int32.ofNat r_246)), .val (.int (Int32.ofNat n7)), .val (.int (Int32.ofNat n8)), .val (.int (Int32.ofNat (rt q'_246 n7))), .val (.int (Int32.ofNat (rt q'_259 n8))), .val (.int (Int32.ofNat (rt q'_268 (rt q'_246 n7)))), .val (.int (Int32.ofNat (rt q'_274 n7))), .unset] [])
  refine go_st (fun _ kq => XS.iload X278.here hx rfl (hb hby at_224) rfl kq) ?_
  show Go p e below s _ _ _ T278 (mkF m 226 #[.val (.int x0), .val (.int x1), .val (.int x2), .val (.int x3), .val (.int x4), .val (.ref a180), .val (.ref a188), .val (.int (Int32.ofNat n1)), .val (.int (Int32.ofNat n2)), .val (.int (Int32.ofNat n3)), .val (.int (Int32.ofNat n4)), .val (.int (Int32.ofNat n5)), .val (.int (Int32.ofNat n6)), .val (.int (Int32.ofNat r_246)), .val (.int (Int32.ofNat n7)), .val (.int (Int32.ofNat n8)), .val (.int (Int32.ofNat (rt q'_246 n7))), .val (.int (Int32.ofNat (rt q'_259 n8))), .val (.int (Int32.ofNat (rt q'_268 (rt q'_246 n7)))), .val (.int (Int32.ofNat (rt q'_274 n7))), .unset] [(.int (Int32.ofNat (rt q'_246 n7)))])
  refine go_st (fun _ kq => XS.iload X278.here hx rfl (hb hby at_226) rfl kq) ?_
  show Go p e below s _ _ _ T278 (mkF m 228 #[.val (.int x0), .val (.int x1), .val (.int x2), .val (.int x3), .val (.int x4), .val (.ref a180), .val (.ref a188), .val (.int (Int32.ofNat n1)), .val (.int (Int32.ofNat n2)), .val (.int (Int32.ofNat n3)), .val (.int (Int32.ofNat n4)), .val (.int (Int32.ofNat n5)), .val (.int (Int32.ofNat n6)), .val (.int (Int32.ofNat r_246)), .val (.int (Int32.ofNat n7)), .val (.int (Int32.ofNat n8)), .val (.int (Int32.ofNat (rt q'_246 n7))), .val (.int (Int32.ofNat (rt q'_259 n8))), .val (.int (Int32.ofNat (rt q'_268 (rt q'_246 n7)))), .val (.int (Int32.ofNat (rt q'_274 n7))), .unset] [(.int (Int32.ofNat (rt q'_259 n8))), (.int (Int32.ofNat (rt q'_246 n7)))])
  by_cases hc288 : (Int32.ofNat (rt q'_246 n7)) = (Int32.ofNat (rt q'_259 n8))
  · refine go_st (fun _ kq => XS.icmpNo X278.here hx rfl (hb hby at_228) rfl (XT.ii_ne_f hc288) kq) ?_
    show Go p e below s _ _ _ T278 (mkF m 231 #[.val (.int x0), .val (.int x1), .val (.int x2), .val (.int x3), .val (.int x4), .val (.ref a180), .val (.ref a188), .val (.int (Int32.ofNat n1)), .val (.int (Int32.ofNat n2)), .val (.int (Int32.ofNat n3)), .val (.int (Int32.ofNat n4)), .val (.int (Int32.ofNat n5)), .val (.int (Int32.ofNat n6)), .val (.int (Int32.ofNat r_246)), .val (.int (Int32.ofNat n7)), .val (.int (Int32.ofNat n8)), .val (.int (Int32.ofNat (rt q'_246 n7))), .val (.int (Int32.ofNat (rt q'_259 n8))), .val (.int (Int32.ofNat (rt q'_268 (rt q'_246 n7)))), .val (.int (Int32.ofNat (rt q'_274 n7))), .unset] [])
    refine go_st (fun _ kq => XT.iconstV X278.here hx rfl (1 : Int32) (hb hby at_231) (by decide) kq) ?_
    show Go p e below s _ _ _ T278 (mkF m 232 #[.val (.int x0), .val (.int x1), .val (.int x2), .val (.int x3), .val (.int x4), .val (.ref a180), .val (.ref a188), .val (.int (Int32.ofNat n1)), .val (.int (Int32.ofNat n2)), .val (.int (Int32.ofNat n3)), .val (.int (Int32.ofNat n4)), .val (.int (Int32.ofNat n5)), .val (.int (Int32.ofNat n6)), .val (.int (Int32.ofNat r_246)), .val (.int (Int32.ofNat n7)), .val (.int (Int32.ofNat n8)), .val (.int (Int32.ofNat (rt q'_246 n7))), .val (.int (Int32.ofNat (rt q'_259 n8))), .val (.int (Int32.ofNat (rt q'_268 (rt q'_246 n7)))), .val (.int (Int32.ofNat (rt q'_274 n7))), .unset] [(.int (1 : Int32))])
    refine go_st (fun _ kq => XS.goto X278.here hx rfl (pc0 := 232) (pc' := 236) rfl (hb hby at_232) (by decide) (by decide) kq) ?_
    show Go p e below s _ _ _ T278 (mkF m 236 #[.val (.int x0), .val (.int x1), .val (.int x2), .val (.int x3), .val (.int x4), .val (.ref a180), .val (.ref a188), .val (.int (Int32.ofNat n1)), .val (.int (Int32.ofNat n2)), .val (.int (Int32.ofNat n3)), .val (.int (Int32.ofNat n4)), .val (.int (Int32.ofNat n5)), .val (.int (Int32.ofNat n6)), .val (.int (Int32.ofNat r_246)), .val (.int (Int32.ofNat n7)), .val (.int (Int32.ofNat n8)), .val (.int (Int32.ofNat (rt q'_246 n7))), .val (.int (Int32.ofNat (rt q'_259 n8))), .val (.int (Int32.ofNat (rt q'_268 (rt q'_246 n7)))), .val (.int (Int32.ofNat (rt q'_274 n7))), .unset] [(.int (1 : Int32))])
    refine go_st (fun _ kq => XS.aload X278.here hx rfl (hb hby at_236) rfl rfl kq) ?_
    show Go p e below s _ _ _ T278 (mkF m 238 #[.val (.int x0), .val (.int x1), .val (.int x2), .val (.int x3), .val (.int x4), .val (.ref a180), .val (.ref a188), .val (.int (Int32.ofNat n1)), .val (.int (Int32.ofNat n2)), .val (.int (Int32.ofNat n3)), .val (.int (Int32.ofNat n4)), .val (.int (Int32.ofNat n5)), .val (.int (Int32.ofNat n6)), .val (.int (Int32.ofNat r_246)), .val (.int (Int32.ofNat n7)), .val (.int (Int32.ofNat n8)), .val (.int (Int32.ofNat (rt q'_246 n7))), .val (.int (Int32.ofNat (rt q'_259 n8))), .val (.int (Int32.ofNat (rt q'_268 (rt q'_246 n7)))), .val (.int (Int32.ofNat (rt q'_274 n7))), .unset] [(.ref a188), (.int (1 : Int32))])
    refine go_st (fun _ kq => XS.iload X278.here hx rfl (hb hby at_238) rfl kq) ?_
    show Go p e below s _ _ _ T278 (mkF m 240 #[.val (.int x0), .val (.int x1), .val (.int x2), .val (.int x3), .val (.int x4), .val (.ref a180), .val (.ref a188), .val (.int (Int32.ofNat n1)), .val (.int (Int32.ofNat n2)), .val (.int (Int32.ofNat n3)), .val (.int (Int32.ofNat n4)), .val (.int (Int32.ofNat n5)), .val (.int (Int32.ofNat n6)), .val (.int (Int32.ofNat r_246)), .val (.int (Int32.ofNat n7)), .val (.int (Int32.ofNat n8)), .val (.int (Int32.ofNat (rt q'_246 n7))), .val (.int (Int32.ofNat (rt q'_259 n8))), .val (.int (Int32.ofNat (rt q'_268 (rt q'_246 n7)))), .val (.int (Int32.ofNat (rt q'_274 n7))), .unset] [(.int (Int32.ofNat n7)), (.ref a188), (.int (1 : Int32))])
    refine go_iald X278 hx hZ rfl c285 (hb hby at_240) rfl rfl (own_i4 hn7) (.int (Int32.ofNat (gt d'_256 n7))) (by rw [own_c4 hn7]) ?_
    show Go p e below s _ _ _ T278 (mkF m 241 #[.val (.int x0), .val (.int x1), .val (.int x2), .val (.int x3), .val (.int x4), .val (.ref a180), .val (.ref a188), .val (.int (Int32.ofNat n1)), .val (.int (Int32.ofNat n2)), .val (.int (Int32.ofNat n3)), .val (.int (Int32.ofNat n4)), .val (.int (Int32.ofNat n5)), .val (.int (Int32.ofNat n6)), .val (.int (Int32.ofNat r_246)), .val (.int (Int32.ofNat n7)), .val (.int (Int32.ofNat n8)), .val (.int (Int32.ofNat (rt q'_246 n7))), .val (.int (Int32.ofNat (rt q'_259 n8))), .val (.int (Int32.ofNat (rt q'_268 (rt q'_246 n7)))), .val (.int (Int32.ofNat (rt q'_274 n7))), .unset] [(.int (Int32.ofNat (gt d'_256 n7))), (.int (1 : Int32))])
    refine go_st (fun _ kq => XS.aload X278.here hx rfl (hb hby at_241) rfl rfl kq) ?_
    show Go p e below s _ _ _ T278 (mkF m 243 #[.val (.int x0), .val (.int x1), .val (.int x2), .val (.int x3), .val (.int x4), .val (.ref a180), .val (.ref a188), .val (.int (Int32.ofNat n1)), .val (.int (Int32.ofNat n2)), .val (.int (Int32.ofNat n3)), .val (.int (Int32.ofNat n4)), .val (.int (Int32.ofNat n5)), .val (.int (Int32.ofNat n6)), .val (.int (Int32.ofNat r_246)), .val (.int (Int32.ofNat n7)), .val (.int (Int32.ofNat n8)), .val (.int (Int32.ofNat (rt q'_246 n7))), .val (.int (Int32.ofNat (rt q'_259 n8))), .val (.int (Int32.ofNat (rt q'_268 (rt q'_246 n7)))), .val (.int (Int32.ofNat (rt q'_274 n7))), .unset] [(.ref a188), (.int (Int32.ofNat (gt d'_256 n7))), (.int (1 : Int32))])
    refine go_st (fun _ kq => XS.iload X278.here hx rfl (hb hby at_243) rfl kq) ?_
    show Go p e below s _ _ _ T278 (mkF m 245 #[.val (.int x0), .val (.int x1), .val (.int x2), .val (.int x3), .val (.int x4), .val (.ref a180), .val (.ref a188), .val (.int (Int32.ofNat n1)), .val (.int (Int32.ofNat n2)), .val (.int (Int32.ofNat n3)), .val (.int (Int32.ofNat n4)), .val (.int (Int32.ofNat n5)), .val (.int (Int32.ofNat n6)), .val (.int (Int32.ofNat r_246)), .val (.int (Int32.ofNat n7)), .val (.int (Int32.ofNat n8)), .val (.int (Int32.ofNat (rt q'_246 n7))), .val (.int (Int32.ofNat (rt q'_259 n8))), .val (.int (Int32.ofNat (rt q'_268 (rt q'_246 n7)))), .val (.int (Int32.ofNat (rt q'_274 n7))), .unset] [(.int (Int32.ofNat n8)), (.ref a188), (.int (Int32.ofNat (gt d'_256 n7))), (.int (1 : Int32))])
    refine go_iald X278 hx hZ rfl c285 (hb hby at_245) rfl rfl (own_i4 hn8) (.int (Int32.ofNat (gt d'_256 n8))) (by rw [own_c4 hn8]) ?_
    show Go p e below s _ _ _ T278 (mkF m 246 #[.val (.int x0), .val (.int x1), .val (.int x2), .val (.int x3), .val (.int x4), .val (.ref a180), .val (.ref a188), .val (.int (Int32.ofNat n1)), .val (.int (Int32.ofNat n2)), .val (.int (Int32.ofNat n3)), .val (.int (Int32.ofNat n4)), .val (.int (Int32.ofNat n5)), .val (.int (Int32.ofNat n6)), .val (.int (Int32.ofNat r_246)), .val (.int (Int32.ofNat n7)), .val (.int (Int32.ofNat n8)), .val (.int (Int32.ofNat (rt q'_246 n7))), .val (.int (Int32.ofNat (rt q'_259 n8))), .val (.int (Int32.ofNat (rt q'_268 (rt q'_246 n7)))), .val (.int (Int32.ofNat (rt q'_274 n7))), .unset] [(.int (Int32.ofNat (gt d'_256 n8))), (.int (Int32.ofNat (gt d'_256 n7))), (.int (1 : Int32))])
    have hb289 : (Int32.ofNat (gt d'_256 n7)) = (Int32.ofNat (gt d'_256 n8)) := by have hz := (own_eq4 (rt_lt _ _) (rt_lt _ _)).mp hc288; rw [p259_2 _ hn8] at hz; rw [own_eq4 (gt_lt _ _) (gt_lt _ _)]; exact (iv256 _ _ hn7 hn8).mpr hz
    refine go_st (fun _ kq => XS.icmpNo X278.here hx rfl (hb hby at_246) rfl (XT.ii_ne_f hb289) kq) ?_
    show Go p e below s _ _ _ T278 (mkF m 249 #[.val (.int x0), .val (.int x1), .val (.int x2), .val (.int x3), .val (.int x4), .val (.ref a180), .val (.ref a188), .val (.int (Int32.ofNat n1)), .val (.int (Int32.ofNat n2)), .val (.int (Int32.ofNat n3)), .val (.int (Int32.ofNat n4)), .val (.int (Int32.ofNat n5)), .val (.int (Int32.ofNat n6)), .val (.int (Int32.ofNat r_246)), .val (.int (Int32.ofNat n7)), .val (.int (Int32.ofNat n8)), .val (.int (Int32.ofNat (rt q'_246 n7))), .val (.int (Int32.ofNat (rt q'_259 n8))), .val (.int (Int32.ofNat (rt q'_268 (rt q'_246 n7)))), .val (.int (Int32.ofNat (rt q'_274 n7))), .unset] [(.int (1 : Int32))])
    refine go_st (fun _ kq => XT.iconstV X278.here hx rfl (1 : Int32) (hb hby at_249) (by decide) kq) ?_
    show Go p e below s _ _ _ T278 (mkF m 250 #[.val (.int x0), .val (.int x1), .val (.int x2), .val (.int x3), .val (.int x4), .val (.ref a180), .val (.ref a188), .val (.int (Int32.ofNat n1)), .val (.int (Int32.ofNat n2)), .val (.int (Int32.ofNat n3)), .val (.int (Int32.ofNat n4)), .val (.int (Int32.ofNat n5)), .val (.int (Int32.ofNat n6)), .val (.int (Int32.ofNat r_246)), .val (.int (Int32.ofNat n7)), .val (.int (Int32.ofNat n8)), .val (.int (Int32.ofNat (rt q'_246 n7))), .val (.int (Int32.ofNat (rt q'_259 n8))), .val (.int (Int32.ofNat (rt q'_268 (rt q'_246 n7)))), .val (.int (Int32.ofNat (rt q'_274 n7))), .unset] [(.int (1 : Int32)), (.int (1 : Int32))])
    refine go_st (fun _ kq => XS.goto X278.here hx rfl (pc0 := 250) (pc' := 254) rfl (hb hby at_250) (by decide) (by decide) kq) ?_
    show Go p e below s _ _ _ T278 (mkF m 254 #[.val (.int x0), .val (.int x1), .val (.int x2), .val (.int x3), .val (.int x4), .val (.ref a180), .val (.ref a188), .val (.int (Int32.ofNat n1)), .val (.int (Int32.ofNat n2)), .val (.int (Int32.ofNat n3)), .val (.int (Int32.ofNat n4)), .val (.int (Int32.ofNat n5)), .val (.int (Int32.ofNat n6)), .val (.int (Int32.ofNat r_246)), .val (.int (Int32.ofNat n7)), .val (.int (Int32.ofNat n8)), .val (.int (Int32.ofNat (rt q'_246 n7))), .val (.int (Int32.ofNat (rt q'_259 n8))), .val (.int (Int32.ofNat (rt q'_268 (rt q'_246 n7)))), .val (.int (Int32.ofNat (rt q'_274 n7))), .unset] [(.int (1 : Int32)), (.int (1 : Int32))])
    refine go_st (fun _ kq => XS.icmpNo X278.here hx rfl (hb hby at_254) rfl (XT.ii_ne_f (by decide)) kq) ?_
    show Go p e below s _ _ _ T278 (mkF m 257 #[.val (.int x0), .val (.int x1), .val (.int x2), .val (.int x3), .val (.int x4), .val (.ref a180), .val (.ref a188), .val (.int (Int32.ofNat n1)), .val (.int (Int32.ofNat n2)), .val (.int (Int32.ofNat n3)), .val (.int (Int32.ofNat n4)), .val (.int (Int32.ofNat n5)), .val (.int (Int32.ofNat n6)), .val (.int (Int32.ofNat r_246)), .val (.int (Int32.ofNat n7)), .val (.int (Int32.ofNat n8)), .val (.int (Int32.ofNat (rt q'_246 n7))), .val (.int (Int32.ofNat (rt q'_259 n8))), .val (.int (Int32.ofNat (rt q'_268 (rt q'_246 n7)))), .val (.int (Int32.ofNat (rt q'_274 n7))), .unset] [])
    refine go_st (fun _ kq => XS.iload X278.here hx rfl (hb hby at_257) rfl kq) ?_
    show Go p e below s _ _ _ T278 (mkF m 259 #[.val (.int x0), .val (.int x1), .val (.int x2), .val (.int x3), .val (.int x4), .val (.ref a180), .val (.ref a188), .val (.int (Int32.ofNat n1)), .val (.int (Int32.ofNat n2)), .val (.int (Int32.ofNat n3)), .val (.int (Int32.ofNat n4)), .val (.int (Int32.ofNat n5)), .val (.int (Int32.ofNat n6)), .val (.int (Int32.ofNat r_246)), .val (.int (Int32.ofNat n7)), .val (.int (Int32.ofNat n8)), .val (.int (Int32.ofNat (rt q'_246 n7))), .val (.int (Int32.ofNat (rt q'_259 n8))), .val (.int (Int32.ofNat (rt q'_268 (rt q'_246 n7)))), .val (.int (Int32.ofNat (rt q'_274 n7))), .unset] [(.int (Int32.ofNat (rt q'_268 (rt q'_246 n7))))])
    refine go_st (fun _ kq => XS.iload X278.here hx rfl (hb hby at_259) rfl kq) ?_
    show Go p e below s _ _ _ T278 (mkF m 261 #[.val (.int x0), .val (.int x1), .val (.int x2), .val (.int x3), .val (.int x4), .val (.ref a180), .val (.ref a188), .val (.int (Int32.ofNat n1)), .val (.int (Int32.ofNat n2)), .val (.int (Int32.ofNat n3)), .val (.int (Int32.ofNat n4)), .val (.int (Int32.ofNat n5)), .val (.int (Int32.ofNat n6)), .val (.int (Int32.ofNat r_246)), .val (.int (Int32.ofNat n7)), .val (.int (Int32.ofNat n8)), .val (.int (Int32.ofNat (rt q'_246 n7))), .val (.int (Int32.ofNat (rt q'_259 n8))), .val (.int (Int32.ofNat (rt q'_268 (rt q'_246 n7)))), .val (.int (Int32.ofNat (rt q'_274 n7))), .unset] [(.int (Int32.ofNat (rt q'_246 n7))), (.int (Int32.ofNat (rt q'_268 (rt q'_246 n7))))])
    have hb290 : (Int32.ofNat (rt q'_268 (rt q'_246 n7))) = (Int32.ofNat (rt q'_246 n7)) := by rw [own_eq4 (rt_lt _ _) (rt_lt _ _), p268_2 _ (rt_lt _ _), p259_2 _ (rt_lt _ _)]; exact rt_idem uo246 hn7
    refine go_st (fun _ kq => XS.icmpNo X278.here hx rfl (hb hby at_261) rfl (XT.ii_ne_f hb290) kq) ?_
    show Go p e below s _ _ _ T278 (mkF m 264 #[.val (.int x0), .val (.int x1), .val (.int x2), .val (.int x3), .val (.int x4), .val (.ref a180), .val (.ref a188), .val (.int (Int32.ofNat n1)), .val (.int (Int32.ofNat n2)), .val (.int (Int32.ofNat n3)), .val (.int (Int32.ofNat n4)), .val (.int (Int32.ofNat n5)), .val (.int (Int32.ofNat n6)), .val (.int (Int32.ofNat r_246)), .val (.int (Int32.ofNat n7)), .val (.int (Int32.ofNat n8)), .val (.int (Int32.ofNat (rt q'_246 n7))), .val (.int (Int32.ofNat (rt q'_259 n8))), .val (.int (Int32.ofNat (rt q'_268 (rt q'_246 n7)))), .val (.int (Int32.ofNat (rt q'_274 n7))), .unset] [])
    refine go_st (fun _ kq => XS.iload X278.here hx rfl (hb hby at_264) rfl kq) ?_
    show Go p e below s _ _ _ T278 (mkF m 266 #[.val (.int x0), .val (.int x1), .val (.int x2), .val (.int x3), .val (.int x4), .val (.ref a180), .val (.ref a188), .val (.int (Int32.ofNat n1)), .val (.int (Int32.ofNat n2)), .val (.int (Int32.ofNat n3)), .val (.int (Int32.ofNat n4)), .val (.int (Int32.ofNat n5)), .val (.int (Int32.ofNat n6)), .val (.int (Int32.ofNat r_246)), .val (.int (Int32.ofNat n7)), .val (.int (Int32.ofNat n8)), .val (.int (Int32.ofNat (rt q'_246 n7))), .val (.int (Int32.ofNat (rt q'_259 n8))), .val (.int (Int32.ofNat (rt q'_268 (rt q'_246 n7)))), .val (.int (Int32.ofNat (rt q'_274 n7))), .unset] [(.int (Int32.ofNat (rt q'_274 n7)))])
    refine go_st (fun _ kq => XS.iload X278.here hx rfl (hb hby at_266) rfl kq) ?_
    show Go p e below s _ _ _ T278 (mkF m 268 #[.val (.int x0), .val (.int x1), .val (.int x2), .val (.int x3), .val (.int x4), .val (.ref a180), .val (.ref a188), .val (.int (Int32.ofNat n1)), .val (.int (Int32.ofNat n2)), .val (.int (Int32.ofNat n3)), .val (.int (Int32.ofNat n4)), .val (.int (Int32.ofNat n5)), .val (.int (Int32.ofNat n6)), .val (.int (Int32.ofNat r_246)), .val (.int (Int32.ofNat n7)), .val (.int (Int32.ofNat n8)), .val (.int (Int32.ofNat (rt q'_246 n7))), .val (.int (Int32.ofNat (rt q'_259 n8))), .val (.int (Int32.ofNat (rt q'_268 (rt q'_246 n7)))), .val (.int (Int32.ofNat (rt q'_274 n7))), .unset] [(.int (Int32.ofNat (rt q'_246 n7))), (.int (Int32.ofNat (rt q'_274 n7)))])
    have hb291 : (Int32.ofNat (rt q'_274 n7)) = (Int32.ofNat (rt q'_246 n7)) := by rw [own_eq4 (rt_lt _ _) (rt_lt _ _), p274_2 _ hn7, p268_2 _ hn7, p259_2 _ hn7]
    refine go_st (fun _ kq => XS.icmpNo X278.here hx rfl (hb hby at_268) rfl (XT.ii_ne_f hb291) kq) ?_
    show Go p e below s _ _ _ T278 (mkF m 271 #[.val (.int x0), .val (.int x1), .val (.int x2), .val (.int x3), .val (.int x4), .val (.ref a180), .val (.ref a188), .val (.int (Int32.ofNat n1)), .val (.int (Int32.ofNat n2)), .val (.int (Int32.ofNat n3)), .val (.int (Int32.ofNat n4)), .val (.int (Int32.ofNat n5)), .val (.int (Int32.ofNat n6)), .val (.int (Int32.ofNat r_246)), .val (.int (Int32.ofNat n7)), .val (.int (Int32.ofNat n8)), .val (.int (Int32.ofNat (rt q'_246 n7))), .val (.int (Int32.ofNat (rt q'_259 n8))), .val (.int (Int32.ofNat (rt q'_268 (rt q'_246 n7)))), .val (.int (Int32.ofNat (rt q'_274 n7))), .unset] [])
    refine go_st (fun _ kq => XT.iconstV X278.here hx rfl (1 : Int32) (hb hby at_271) (by decide) kq) ?_
    show Go p e below s _ _ _ T278 (mkF m 272 #[.val (.int x0), .val (.int x1), .val (.int x2), .val (.int x3), .val (.int x4), .val (.ref a180), .val (.ref a188), .val (.int (Int32.ofNat n1)), .val (.int (Int32.ofNat n2)), .val (.int (Int32.ofNat n3)), .val (.int (Int32.ofNat n4)), .val (.int (Int32.ofNat n5)), .val (.int (Int32.ofNat n6)), .val (.int (Int32.ofNat r_246)), .val (.int (Int32.ofNat n7)), .val (.int (Int32.ofNat n8)), .val (.int (Int32.ofNat (rt q'_246 n7))), .val (.int (Int32.ofNat (rt q'_259 n8))), .val (.int (Int32.ofNat (rt q'_268 (rt q'_246 n7)))), .val (.int (Int32.ofNat (rt q'_274 n7))), .unset] [(.int (1 : Int32))])
    refine go_st (fun _ kq => XS.goto X278.here hx rfl (pc0 := 272) (pc' := 276) rfl (hb hby at_272) (by decide) (by decide) kq) ?_
    show Go p e below s _ _ _ T278 (mkF m 276 #[.val (.int x0), .val (.int x1), .val (.int x2), .val (.int x3), .val (.int x4), .val (.ref a180), .val (.ref a188), .val (.int (Int32.ofNat n1)), .val (.int (Int32.ofNat n2)), .val (.int (Int32.ofNat n3)), .val (.int (Int32.ofNat n4)), .val (.int (Int32.ofNat n5)), .val (.int (Int32.ofNat n6)), .val (.int (Int32.ofNat r_246)), .val (.int (Int32.ofNat n7)), .val (.int (Int32.ofNat n8)), .val (.int (Int32.ofNat (rt q'_246 n7))), .val (.int (Int32.ofNat (rt q'_259 n8))), .val (.int (Int32.ofNat (rt q'_268 (rt q'_246 n7)))), .val (.int (Int32.ofNat (rt q'_274 n7))), .unset] [(.int (1 : Int32))])
    refine go_st (fun _ kq => XS.istore X278.here hx rfl (hb hby at_276) rfl (l' := #[.val (.int x0), .val (.int x1), .val (.int x2), .val (.int x3), .val (.int x4), .val (.ref a180), .val (.ref a188), .val (.int (Int32.ofNat n1)), .val (.int (Int32.ofNat n2)), .val (.int (Int32.ofNat n3)), .val (.int (Int32.ofNat n4)), .val (.int (Int32.ofNat n5)), .val (.int (Int32.ofNat n6)), .val (.int (Int32.ofNat r_246)), .val (.int (Int32.ofNat n7)), .val (.int (Int32.ofNat n8)), .val (.int (Int32.ofNat (rt q'_246 n7))), .val (.int (Int32.ofNat (rt q'_259 n8))), .val (.int (Int32.ofNat (rt q'_268 (rt q'_246 n7)))), .val (.int (Int32.ofNat (rt q'_274 n7))), .val (.int (1 : Int32))]) rfl kq) ?_
    show Go p e below s _ _ _ T278 (mkF m 278 #[.val (.int x0), .val (.int x1), .val (.int x2), .val (.int x3), .val (.int x4), .val (.ref a180), .val (.ref a188), .val (.int (Int32.ofNat n1)), .val (.int (Int32.ofNat n2)), .val (.int (Int32.ofNat n3)), .val (.int (Int32.ofNat n4)), .val (.int (Int32.ofNat n5)), .val (.int (Int32.ofNat n6)), .val (.int (Int32.ofNat r_246)), .val (.int (Int32.ofNat n7)), .val (.int (Int32.ofNat n8)), .val (.int (Int32.ofNat (rt q'_246 n7))), .val (.int (Int32.ofNat (rt q'_259 n8))), .val (.int (Int32.ofNat (rt q'_268 (rt q'_246 n7)))), .val (.int (Int32.ofNat (rt q'_274 n7))), .val (.int (1 : Int32))] [])
    refine go_st (fun _ kq => XS.aload X278.here hx rfl (hb hby at_278) rfl rfl kq) ?_
    show Go p e below s _ _ _ T278 (mkF m 280 #[.val (.int x0), .val (.int x1), .val (.int x2), .val (.int x3), .val (.int x4), .val (.ref a180), .val (.ref a188), .val (.int (Int32.ofNat n1)), .val (.int (Int32.ofNat n2)), .val (.int (Int32.ofNat n3)), .val (.int (Int32.ofNat n4)), .val (.int (Int32.ofNat n5)), .val (.int (Int32.ofNat n6)), .val (.int (Int32.ofNat r_246)), .val (.int (Int32.ofNat n7)), .val (.int (Int32.ofNat n8)), .val (.int (Int32.ofNat (rt q'_246 n7))), .val (.int (Int32.ofNat (rt q'_259 n8))), .val (.int (Int32.ofNat (rt q'_268 (rt q'_246 n7)))), .val (.int (Int32.ofNat (rt q'_274 n7))), .val (.int (1 : Int32))] [(.ref a188)])
    refine go_st (fun _ kq => XS.iload X278.here hx rfl (hb hby at_280) rfl kq) ?_
    show Go p e below s _ _ _ T278 (mkF m 282 #[.val (.int x0), .val (.int x1), .val (.int x2), .val (.int x3), .val (.int x4), .val (.ref a180), .val (.ref a188), .val (.int (Int32.ofNat n1)), .val (.int (Int32.ofNat n2)), .val (.int (Int32.ofNat n3)), .val (.int (Int32.ofNat n4)), .val (.int (Int32.ofNat n5)), .val (.int (Int32.ofNat n6)), .val (.int (Int32.ofNat r_246)), .val (.int (Int32.ofNat n7)), .val (.int (Int32.ofNat n8)), .val (.int (Int32.ofNat (rt q'_246 n7))), .val (.int (Int32.ofNat (rt q'_259 n8))), .val (.int (Int32.ofNat (rt q'_268 (rt q'_246 n7)))), .val (.int (Int32.ofNat (rt q'_274 n7))), .val (.int (1 : Int32))] [(.int (Int32.ofNat n7)), (.ref a188)])
    refine go_iald X278 hx hZ rfl c285 (hb hby at_282) rfl rfl (own_i4 hn7) (.int (Int32.ofNat (gt d'_256 n7))) (by rw [own_c4 hn7]) ?_
    show Go p e below s _ _ _ T278 (mkF m 283 #[.val (.int x0), .val (.int x1), .val (.int x2), .val (.int x3), .val (.int x4), .val (.ref a180), .val (.ref a188), .val (.int (Int32.ofNat n1)), .val (.int (Int32.ofNat n2)), .val (.int (Int32.ofNat n3)), .val (.int (Int32.ofNat n4)), .val (.int (Int32.ofNat n5)), .val (.int (Int32.ofNat n6)), .val (.int (Int32.ofNat r_246)), .val (.int (Int32.ofNat n7)), .val (.int (Int32.ofNat n8)), .val (.int (Int32.ofNat (rt q'_246 n7))), .val (.int (Int32.ofNat (rt q'_259 n8))), .val (.int (Int32.ofNat (rt q'_268 (rt q'_246 n7)))), .val (.int (Int32.ofNat (rt q'_274 n7))), .val (.int (1 : Int32))] [(.int (Int32.ofNat (gt d'_256 n7)))])
    refine go_st (fun _ kq => XS.aload X278.here hx rfl (hb hby at_283) rfl rfl kq) ?_
    show Go p e below s _ _ _ T278 (mkF m 285 #[.val (.int x0), .val (.int x1), .val (.int x2), .val (.int x3), .val (.int x4), .val (.ref a180), .val (.ref a188), .val (.int (Int32.ofNat n1)), .val (.int (Int32.ofNat n2)), .val (.int (Int32.ofNat n3)), .val (.int (Int32.ofNat n4)), .val (.int (Int32.ofNat n5)), .val (.int (Int32.ofNat n6)), .val (.int (Int32.ofNat r_246)), .val (.int (Int32.ofNat n7)), .val (.int (Int32.ofNat n8)), .val (.int (Int32.ofNat (rt q'_246 n7))), .val (.int (Int32.ofNat (rt q'_259 n8))), .val (.int (Int32.ofNat (rt q'_268 (rt q'_246 n7)))), .val (.int (Int32.ofNat (rt q'_274 n7))), .val (.int (1 : Int32))] [(.ref a188), (.int (Int32.ofNat (gt d'_256 n7)))])
    refine go_st (fun _ kq => XS.iload X278.here hx rfl (hb hby at_285) rfl kq) ?_
    show Go p e below s _ _ _ T278 (mkF m 287 #[.val (.int x0), .val (.int x1), .val (.int x2), .val (.int x3), .val (.int x4), .val (.ref a180), .val (.ref a188), .val (.int (Int32.ofNat n1)), .val (.int (Int32.ofNat n2)), .val (.int (Int32.ofNat n3)), .val (.int (Int32.ofNat n4)), .val (.int (Int32.ofNat n5)), .val (.int (Int32.ofNat n6)), .val (.int (Int32.ofNat r_246)), .val (.int (Int32.ofNat n7)), .val (.int (Int32.ofNat n8)), .val (.int (Int32.ofNat (rt q'_246 n7))), .val (.int (Int32.ofNat (rt q'_259 n8))), .val (.int (Int32.ofNat (rt q'_268 (rt q'_246 n7)))), .val (.int (Int32.ofNat (rt q'_274 n7))), .val (.int (1 : Int32))] [(.int (Int32.ofNat n5)), (.ref a188), (.int (Int32.ofNat (gt d'_256 n7)))])
    refine go_iald X278 hx hZ rfl c285 (hb hby at_287) rfl rfl (own_i4 hn5) (.int (Int32.ofNat (gt d'_256 n5))) (by rw [own_c4 hn5]) ?_
    show Go p e below s _ _ _ T278 (mkF m 288 #[.val (.int x0), .val (.int x1), .val (.int x2), .val (.int x3), .val (.int x4), .val (.ref a180), .val (.ref a188), .val (.int (Int32.ofNat n1)), .val (.int (Int32.ofNat n2)), .val (.int (Int32.ofNat n3)), .val (.int (Int32.ofNat n4)), .val (.int (Int32.ofNat n5)), .val (.int (Int32.ofNat n6)), .val (.int (Int32.ofNat r_246)), .val (.int (Int32.ofNat n7)), .val (.int (Int32.ofNat n8)), .val (.int (Int32.ofNat (rt q'_246 n7))), .val (.int (Int32.ofNat (rt q'_259 n8))), .val (.int (Int32.ofNat (rt q'_268 (rt q'_246 n7)))), .val (.int (Int32.ofNat (rt q'_274 n7))), .val (.int (1 : Int32))] [(.int (Int32.ofNat (gt d'_256 n5))), (.int (Int32.ofNat (gt d'_256 n7)))])
    by_cases hc292 : (Int32.ofNat (gt d'_256 n7)) = (Int32.ofNat (gt d'_256 n5))
    · refine go_st (fun _ kq => XS.icmpNo X278.here hx rfl (hb hby at_288) rfl (XT.ii_ne_f hc292) kq) ?_
      show Go p e below s _ _ _ T278 (mkF m 291 #[.val (.int x0), .val (.int x1), .val (.int x2), .val (.int x3), .val (.int x4), .val (.ref a180), .val (.ref a188), .val (.int (Int32.ofNat n1)), .val (.int (Int32.ofNat n2)), .val (.int (Int32.ofNat n3)), .val (.int (Int32.ofNat n4)), .val (.int (Int32.ofNat n5)), .val (.int (Int32.ofNat n6)), .val (.int (Int32.ofNat r_246)), .val (.int (Int32.ofNat n7)), .val (.int (Int32.ofNat n8)), .val (.int (Int32.ofNat (rt q'_246 n7))), .val (.int (Int32.ofNat (rt q'_259 n8))), .val (.int (Int32.ofNat (rt q'_268 (rt q'_246 n7)))), .val (.int (Int32.ofNat (rt q'_274 n7))), .val (.int (1 : Int32))] [])
      refine go_st (fun _ kq => XS.iload X278.here hx rfl (hb hby at_291) rfl kq) ?_
      show Go p e below s _ _ _ T278 (mkF m 293 #[.val (.int x0), .val (.int x1), .val (.int x2), .val (.int x3), .val (.int x4), .val (.ref a180), .val (.ref a188), .val (.int (Int32.ofNat n1)), .val (.int (Int32.ofNat n2)), .val (.int (Int32.ofNat n3)), .val (.int (Int32.ofNat n4)), .val (.int (Int32.ofNat n5)), .val (.int (Int32.ofNat n6)), .val (.int (Int32.ofNat r_246)), .val (.int (Int32.ofNat n7)), .val (.int (Int32.ofNat n8)), .val (.int (Int32.ofNat (rt q'_246 n7))), .val (.int (Int32.ofNat (rt q'_259 n8))), .val (.int (Int32.ofNat (rt q'_268 (rt q'_246 n7)))), .val (.int (Int32.ofNat (rt q'_274 n7))), .val (.int (1 : Int32))] [(.int (1 : Int32))])
      refine go_st (fun _ kq => XS.ifNo X278.here hx rfl (hb hby at_293) rfl (XT.i0_eq_f (by decide)) kq) ?_
      show Go p e below s _ _ _ T278 (mkF m 296 #[.val (.int x0), .val (.int x1), .val (.int x2), .val (.int x3), .val (.int x4), .val (.ref a180), .val (.ref a188), .val (.int (Int32.ofNat n1)), .val (.int (Int32.ofNat n2)), .val (.int (Int32.ofNat n3)), .val (.int (Int32.ofNat n4)), .val (.int (Int32.ofNat n5)), .val (.int (Int32.ofNat n6)), .val (.int (Int32.ofNat r_246)), .val (.int (Int32.ofNat n7)), .val (.int (Int32.ofNat n8)), .val (.int (Int32.ofNat (rt q'_246 n7))), .val (.int (Int32.ofNat (rt q'_259 n8))), .val (.int (Int32.ofNat (rt q'_268 (rt q'_246 n7)))), .val (.int (Int32.ofNat (rt q'_274 n7))), .val (.int (1 : Int32))] [])
      refine go_st (fun _ kq => XS.iload X278.here hx rfl (hb hby at_296) rfl kq) ?_
      show Go p e below s _ _ _ T278 (mkF m 298 #[.val (.int x0), .val (.int x1), .val (.int x2), .val (.int x3), .val (.int x4), .val (.ref a180), .val (.ref a188), .val (.int (Int32.ofNat n1)), .val (.int (Int32.ofNat n2)), .val (.int (Int32.ofNat n3)), .val (.int (Int32.ofNat n4)), .val (.int (Int32.ofNat n5)), .val (.int (Int32.ofNat n6)), .val (.int (Int32.ofNat r_246)), .val (.int (Int32.ofNat n7)), .val (.int (Int32.ofNat n8)), .val (.int (Int32.ofNat (rt q'_246 n7))), .val (.int (Int32.ofNat (rt q'_259 n8))), .val (.int (Int32.ofNat (rt q'_268 (rt q'_246 n7)))), .val (.int (Int32.ofNat (rt q'_274 n7))), .val (.int (1 : Int32))] [(.int (Int32.ofNat (rt q'_246 n7)))])
      refine go_st (fun _ kq => XS.iload X278.here hx rfl (hb hby at_298) rfl kq) ?_
      show Go p e below s _ _ _ T278 (mkF m 300 #[.val (.int x0), .val (.int x1), .val (.int x2), .val (.int x3), .val (.int x4), .val (.ref a180), .val (.ref a188), .val (.int (Int32.ofNat n1)), .val (.int (Int32.ofNat n2)), .val (.int (Int32.ofNat n3)), .val (.int (Int32.ofNat n4)), .val (.int (Int32.ofNat n5)), .val (.int (Int32.ofNat n6)), .val (.int (Int32.ofNat r_246)), .val (.int (Int32.ofNat n7)), .val (.int (Int32.ofNat n8)), .val (.int (Int32.ofNat (rt q'_246 n7))), .val (.int (Int32.ofNat (rt q'_259 n8))), .val (.int (Int32.ofNat (rt q'_268 (rt q'_246 n7)))), .val (.int (Int32.ofNat (rt q'_274 n7))), .val (.int (1 : Int32))] [(.int (Int32.ofNat r_246)), (.int (Int32.ofNat (rt q'_246 n7)))])
      have hb293 : (Int32.ofNat (rt q'_246 n7)) = (Int32.ofNat r_246) := by rw [own_eq4 (rt_lt _ _) ur246]; have hz := (own_eq4 (gt_lt _ _) (gt_lt _ _)).mp hc292; rw [iv256 _ _ hn7 hn5] at hz; rw [hz]; exact p246_0.res hn5
      refine go_st (fun _ kq => XS.icmpNo X278.here hx rfl (hb hby at_300) rfl (XT.ii_ne_f hb293) kq) ?_
      show Go p e below s _ _ _ T278 (mkF m 303 #[.val (.int x0), .val (.int x1), .val (.int x2), .val (.int x3), .val (.int x4), .val (.ref a180), .val (.ref a188), .val (.int (Int32.ofNat n1)), .val (.int (Int32.ofNat n2)), .val (.int (Int32.ofNat n3)), .val (.int (Int32.ofNat n4)), .val (.int (Int32.ofNat n5)), .val (.int (Int32.ofNat n6)), .val (.int (Int32.ofNat r_246)), .val (.int (Int32.ofNat n7)), .val (.int (Int32.ofNat n8)), .val (.int (Int32.ofNat (rt q'_246 n7))), .val (.int (Int32.ofNat (rt q'_259 n8))), .val (.int (Int32.ofNat (rt q'_268 (rt q'_246 n7)))), .val (.int (Int32.ofNat (rt q'_274 n7))), .val (.int (1 : Int32))] [])
      refine go_st (fun _ kq => XT.iconstV X278.here hx rfl (1 : Int32) (hb hby at_303) (by decide) kq) ?_
      show Go p e below s _ _ _ T278 (mkF m 304 #[.val (.int x0), .val (.int x1), .val (.int x2), .val (.int x3), .val (.int x4), .val (.ref a180), .val (.ref a188), .val (.int (Int32.ofNat n1)), .val (.int (Int32.ofNat n2)), .val (.int (Int32.ofNat n3)), .val (.int (Int32.ofNat n4)), .val (.int (Int32.ofNat n5)), .val (.int (Int32.ofNat n6)), .val (.int (Int32.ofNat r_246)), .val (.int (Int32.ofNat n7)), .val (.int (Int32.ofNat n8)), .val (.int (Int32.ofNat (rt q'_246 n7))), .val (.int (Int32.ofNat (rt q'_259 n8))), .val (.int (Int32.ofNat (rt q'_268 (rt q'_246 n7)))), .val (.int (Int32.ofNat (rt q'_274 n7))), .val (.int (1 : Int32))] [(.int (1 : Int32))])
      refine go_st (fun _ kq => XS.goto X278.here hx rfl (pc0 := 304) (pc' := 308) rfl (hb hby at_304) (by decide) (by decide) kq) ?_
      show Go p e below s _ _ _ T278 (mkF m 308 #[.val (.int x0), .val (.int x1), .val (.int x2), .val (.int x3), .val (.int x4), .val (.ref a180), .val (.ref a188), .val (.int (Int32.ofNat n1)), .val (.int (Int32.ofNat n2)), .val (.int (Int32.ofNat n3)), .val (.int (Int32.ofNat n4)), .val (.int (Int32.ofNat n5)), .val (.int (Int32.ofNat n6)), .val (.int (Int32.ofNat r_246)), .val (.int (Int32.ofNat n7)), .val (.int (Int32.ofNat n8)), .val (.int (Int32.ofNat (rt q'_246 n7))), .val (.int (Int32.ofNat (rt q'_259 n8))), .val (.int (Int32.ofNat (rt q'_268 (rt q'_246 n7)))), .val (.int (Int32.ofNat (rt q'_274 n7))), .val (.int (1 : Int32))] [(.int (1 : Int32))])
      refine go_st (fun _ kq => XS.istore X278.here hx rfl (hb hby at_308) rfl (l' := #[.val (.int x0), .val (.int x1), .val (.int x2), .val (.int x3), .val (.int x4), .val (.ref a180), .val (.ref a188), .val (.int (Int32.ofNat n1)), .val (.int (Int32.ofNat n2)), .val (.int (Int32.ofNat n3)), .val (.int (Int32.ofNat n4)), .val (.int (Int32.ofNat n5)), .val (.int (Int32.ofNat n6)), .val (.int (Int32.ofNat r_246)), .val (.int (Int32.ofNat n7)), .val (.int (Int32.ofNat n8)), .val (.int (Int32.ofNat (rt q'_246 n7))), .val (.int (Int32.ofNat (rt q'_259 n8))), .val (.int (Int32.ofNat (rt q'_268 (rt q'_246 n7)))), .val (.int (Int32.ofNat (rt q'_274 n7))), .val (.int (1 : Int32))]) rfl kq) ?_
      show Go p e below s _ _ _ T278 (mkF m 310 #[.val (.int x0), .val (.int x1), .val (.int x2), .val (.int x3), .val (.int x4), .val (.ref a180), .val (.ref a188), .val (.int (Int32.ofNat n1)), .val (.int (Int32.ofNat n2)), .val (.int (Int32.ofNat n3)), .val (.int (Int32.ofNat n4)), .val (.int (Int32.ofNat n5)), .val (.int (Int32.ofNat n6)), .val (.int (Int32.ofNat r_246)), .val (.int (Int32.ofNat n7)), .val (.int (Int32.ofNat n8)), .val (.int (Int32.ofNat (rt q'_246 n7))), .val (.int (Int32.ofNat (rt q'_259 n8))), .val (.int (Int32.ofNat (rt q'_268 (rt q'_246 n7)))), .val (.int (Int32.ofNat (rt q'_274 n7))), .val (.int (1 : Int32))] [])
      refine go_st (fun _ kq => XS.iload X278.here hx rfl (hb hby at_310) rfl kq) ?_
      show Go p e below s _ _ _ T278 (mkF m 312 #[.val (.int x0), .val (.int x1), .val (.int x2), .val (.int x3), .val (.int x4), .val (.ref a180), .val (.ref a188), .val (.int (Int32.ofNat n1)), .val (.int (Int32.ofNat n2)), .val (.int (Int32.ofNat n3)), .val (.int (Int32.ofNat n4)), .val (.int (Int32.ofNat n5)), .val (.int (Int32.ofNat n6)), .val (.int (Int32.ofNat r_246)), .val (.int (Int32.ofNat n7)), .val (.int (Int32.ofNat n8)), .val (.int (Int32.ofNat (rt q'_246 n7))), .val (.int (Int32.ofNat (rt q'_259 n8))), .val (.int (Int32.ofNat (rt q'_268 (rt q'_246 n7)))), .val (.int (Int32.ofNat (rt q'_274 n7))), .val (.int (1 : Int32))] [(.int (1 : Int32))])
      exact go_retB (w := (1 : Int32)) X278 hx hlk hret (hb hby at_312) (by decide) (by decide) (by decide) ⟨rfl, N278⟩
    · refine go_st (fun _ kq => XS.icmpYes X278.here hx rfl (pc0 := 288) (pc' := 310) rfl (hb hby at_288) rfl (XT.ii_ne_t hc292) (by decide) (by decide) kq) ?_
      show Go p e below s _ _ _ T278 (mkF m 310 #[.val (.int x0), .val (.int x1), .val (.int x2), .val (.int x3), .val (.int x4), .val (.ref a180), .val (.ref a188), .val (.int (Int32.ofNat n1)), .val (.int (Int32.ofNat n2)), .val (.int (Int32.ofNat n3)), .val (.int (Int32.ofNat n4)), .val (.int (Int32.ofNat n5)), .val (.int (Int32.ofNat n6)), .val (.int (Int32.ofNat r_246)), .val (.int (Int32.ofNat n7)), .val (.int (Int32.ofNat n8)), .val (.int (Int32.ofNat (rt q'_246 n7))), .val (.int (Int32.ofNat (rt q'_259 n8))), .val (.int (Int32.ofNat (rt q'_268 (rt q'_246 n7)))), .val (.int (Int32.ofNat (rt q'_274 n7))), .val (.int (1 : Int32))] [])
      refine go_st (fun _ kq => XS.iload X278.here hx rfl (hb hby at_310) rfl kq) ?_
      show Go p e below s _ _ _ T278 (mkF m 312 #[.val (.int x0), .val (.int x1), .val (.int x2), .val (.int x3), .val (.int x4), .val (.ref a180), .val (.ref a188), .val (.int (Int32.ofNat n1)), .val (.int (Int32.ofNat n2)), .val (.int (Int32.ofNat n3)), .val (.int (Int32.ofNat n4)), .val (.int (Int32.ofNat n5)), .val (.int (Int32.ofNat n6)), .val (.int (Int32.ofNat r_246)), .val (.int (Int32.ofNat n7)), .val (.int (Int32.ofNat n8)), .val (.int (Int32.ofNat (rt q'_246 n7))), .val (.int (Int32.ofNat (rt q'_259 n8))), .val (.int (Int32.ofNat (rt q'_268 (rt q'_246 n7)))), .val (.int (Int32.ofNat (rt q'_274 n7))), .val (.int (1 : Int32))] [(.int (1 : Int32))])
      exact go_retB (w := (1 : Int32)) X278 hx hlk hret (hb hby at_312) (by decide) (by decide) (by decide) ⟨rfl, N278⟩
  · refine go_st (fun _ kq => XS.icmpYes X278.here hx rfl (pc0 := 228) (pc' := 235) rfl (hb hby at_228) rfl (XT.ii_ne_t hc288) (by decide) (by decide) kq) ?_
    show Go p e below s _ _ _ T278 (mkF m 235 #[.val (.int x0), .val (.int x1), .val (.int x2), .val (.int x3), .val (.int x4), .val (.ref a180), .val (.ref a188), .val (.int (Int32.ofNat n1)), .val (.int (Int32.ofNat n2)), .val (.int (Int32.ofNat n3)), .val (.int (Int32.ofNat n4)), .val (.int (Int32.ofNat n5)), .val (.int (Int32.ofNat n6)), .val (.int (Int32.ofNat r_246)), .val (.int (Int32.ofNat n7)), .val (.int (Int32.ofNat n8)), .val (.int (Int32.ofNat (rt q'_246 n7))), .val (.int (Int32.ofNat (rt q'_259 n8))), .val (.int (Int32.ofNat (rt q'_268 (rt q'_246 n7)))), .val (.int (Int32.ofNat (rt q'_274 n7))), .unset] [])
    refine go_st (fun _ kq => XT.iconstV X278.here hx rfl (0 : Int32) (hb hby at_235) (by decide) kq) ?_
    show Go p e below s _ _ _ T278 (mkF m 236 #[.val (.int x0), .val (.int x1), .val (.int x2), .val (.int x3), .val (.int x4), .val (.ref a180), .val (.ref a188), .val (.int (Int32.ofNat n1)), .val (.int (Int32.ofNat n2)), .val (.int (Int32.ofNat n3)), .val (.int (Int32.ofNat n4)), .val (.int (Int32.ofNat n5)), .val (.int (Int32.ofNat n6)), .val (.int (Int32.ofNat r_246)), .val (.int (Int32.ofNat n7)), .val (.int (Int32.ofNat n8)), .val (.int (Int32.ofNat (rt q'_246 n7))), .val (.int (Int32.ofNat (rt q'_259 n8))), .val (.int (Int32.ofNat (rt q'_268 (rt q'_246 n7)))), .val (.int (Int32.ofNat (rt q'_274 n7))), .unset] [(.int (0 : Int32))])
    refine go_st (fun _ kq => XS.aload X278.here hx rfl (hb hby at_236) rfl rfl kq) ?_
    show Go p e below s _ _ _ T278 (mkF m 238 #[.val (.int x0), .val (.int x1), .val (.int x2), .val (.int x3), .val (.int x4), .val (.ref a180), .val (.ref a188), .val (.int (Int32.ofNat n1)), .val (.int (Int32.ofNat n2)), .val (.int (Int32.ofNat n3)), .val (.int (Int32.ofNat n4)), .val (.int (Int32.ofNat n5)), .val (.int (Int32.ofNat n6)), .val (.int (Int32.ofNat r_246)), .val (.int (Int32.ofNat n7)), .val (.int (Int32.ofNat n8)), .val (.int (Int32.ofNat (rt q'_246 n7))), .val (.int (Int32.ofNat (rt q'_259 n8))), .val (.int (Int32.ofNat (rt q'_268 (rt q'_246 n7)))), .val (.int (Int32.ofNat (rt q'_274 n7))), .unset] [(.ref a188), (.int (0 : Int32))])
    refine go_st (fun _ kq => XS.iload X278.here hx rfl (hb hby at_238) rfl kq) ?_
    show Go p e below s _ _ _ T278 (mkF m 240 #[.val (.int x0), .val (.int x1), .val (.int x2), .val (.int x3), .val (.int x4), .val (.ref a180), .val (.ref a188), .val (.int (Int32.ofNat n1)), .val (.int (Int32.ofNat n2)), .val (.int (Int32.ofNat n3)), .val (.int (Int32.ofNat n4)), .val (.int (Int32.ofNat n5)), .val (.int (Int32.ofNat n6)), .val (.int (Int32.ofNat r_246)), .val (.int (Int32.ofNat n7)), .val (.int (Int32.ofNat n8)), .val (.int (Int32.ofNat (rt q'_246 n7))), .val (.int (Int32.ofNat (rt q'_259 n8))), .val (.int (Int32.ofNat (rt q'_268 (rt q'_246 n7)))), .val (.int (Int32.ofNat (rt q'_274 n7))), .unset] [(.int (Int32.ofNat n7)), (.ref a188), (.int (0 : Int32))])
    refine go_iald X278 hx hZ rfl c285 (hb hby at_240) rfl rfl (own_i4 hn7) (.int (Int32.ofNat (gt d'_256 n7))) (by rw [own_c4 hn7]) ?_
    show Go p e below s _ _ _ T278 (mkF m 241 #[.val (.int x0), .val (.int x1), .val (.int x2), .val (.int x3), .val (.int x4), .val (.ref a180), .val (.ref a188), .val (.int (Int32.ofNat n1)), .val (.int (Int32.ofNat n2)), .val (.int (Int32.ofNat n3)), .val (.int (Int32.ofNat n4)), .val (.int (Int32.ofNat n5)), .val (.int (Int32.ofNat n6)), .val (.int (Int32.ofNat r_246)), .val (.int (Int32.ofNat n7)), .val (.int (Int32.ofNat n8)), .val (.int (Int32.ofNat (rt q'_246 n7))), .val (.int (Int32.ofNat (rt q'_259 n8))), .val (.int (Int32.ofNat (rt q'_268 (rt q'_246 n7)))), .val (.int (Int32.ofNat (rt q'_274 n7))), .unset] [(.int (Int32.ofNat (gt d'_256 n7))), (.int (0 : Int32))])
    refine go_st (fun _ kq => XS.aload X278.here hx rfl (hb hby at_241) rfl rfl kq) ?_
    show Go p e below s _ _ _ T278 (mkF m 243 #[.val (.int x0), .val (.int x1), .val (.int x2), .val (.int x3), .val (.int x4), .val (.ref a180), .val (.ref a188), .val (.int (Int32.ofNat n1)), .val (.int (Int32.ofNat n2)), .val (.int (Int32.ofNat n3)), .val (.int (Int32.ofNat n4)), .val (.int (Int32.ofNat n5)), .val (.int (Int32.ofNat n6)), .val (.int (Int32.ofNat r_246)), .val (.int (Int32.ofNat n7)), .val (.int (Int32.ofNat n8)), .val (.int (Int32.ofNat (rt q'_246 n7))), .val (.int (Int32.ofNat (rt q'_259 n8))), .val (.int (Int32.ofNat (rt q'_268 (rt q'_246 n7)))), .val (.int (Int32.ofNat (rt q'_274 n7))), .unset] [(.ref a188), (.int (Int32.ofNat (gt d'_256 n7))), (.int (0 : Int32))])
    refine go_st (fun _ kq => XS.iload X278.here hx rfl (hb hby at_243) rfl kq) ?_
    show Go p e below s _ _ _ T278 (mkF m 245 #[.val (.int x0), .val (.int x1), .val (.int x2), .val (.int x3), .val (.int x4), .val (.ref a180), .val (.ref a188), .val (.int (Int32.ofNat n1)), .val (.int (Int32.ofNat n2)), .val (.int (Int32.ofNat n3)), .val (.int (Int32.ofNat n4)), .val (.int (Int32.ofNat n5)), .val (.int (Int32.ofNat n6)), .val (.int (Int32.ofNat r_246)), .val (.int (Int32.ofNat n7)), .val (.int (Int32.ofNat n8)), .val (.int (Int32.ofNat (rt q'_246 n7))), .val (.int (Int32.ofNat (rt q'_259 n8))), .val (.int (Int32.ofNat (rt q'_268 (rt q'_246 n7)))), .val (.int (Int32.ofNat (rt q'_274 n7))), .unset] [(.int (Int32.ofNat n8)), (.ref a188), (.int (Int32.ofNat (gt d'_256 n7))), (.int (0 : Int32))])
    refine go_iald X278 hx hZ rfl c285 (hb hby at_245) rfl rfl (own_i4 hn8) (.int (Int32.ofNat (gt d'_256 n8))) (by rw [own_c4 hn8]) ?_
    show Go p e below s _ _ _ T278 (mkF m 246 #[.val (.int x0), .val (.int x1), .val (.int x2), .val (.int x3), .val (.int x4), .val (.ref a180), .val (.ref a188), .val (.int (Int32.ofNat n1)), .val (.int (Int32.ofNat n2)), .val (.int (Int32.ofNat n3)), .val (.int (Int32.ofNat n4)), .val (.int (Int32.ofNat n5)), .val (.int (Int32.ofNat n6)), .val (.int (Int32.ofNat r_246)), .val (.int (Int32.ofNat n7)), .val (.int (Int32.ofNat n8)), .val (.int (Int32.ofNat (rt q'_246 n7))), .val (.int (Int32.ofNat (rt q'_259 n8))), .val (.int (Int32.ofNat (rt q'_268 (rt q'_246 n7)))), .val (.int (Int32.ofNat (rt q'_274 n7))), .unset] [(.int (Int32.ofNat (gt d'_256 n8))), (.int (Int32.ofNat (gt d'_256 n7))), (.int (0 : Int32))])
    have hb294 : ¬ ((Int32.ofNat (gt d'_256 n7)) = (Int32.ofNat (gt d'_256 n8))) := by intro hz; apply hc288; rw [own_eq4 (gt_lt _ _) (gt_lt _ _)] at hz; rw [p259_2 _ hn8]; exact congrArg Int32.ofNat ((iv256 _ _ hn7 hn8).mp hz)
    refine go_st (fun _ kq => XS.icmpYes X278.here hx rfl (pc0 := 246) (pc' := 253) rfl (hb hby at_246) rfl (XT.ii_ne_t hb294) (by decide) (by decide) kq) ?_
    show Go p e below s _ _ _ T278 (mkF m 253 #[.val (.int x0), .val (.int x1), .val (.int x2), .val (.int x3), .val (.int x4), .val (.ref a180), .val (.ref a188), .val (.int (Int32.ofNat n1)), .val (.int (Int32.ofNat n2)), .val (.int (Int32.ofNat n3)), .val (.int (Int32.ofNat n4)), .val (.int (Int32.ofNat n5)), .val (.int (Int32.ofNat n6)), .val (.int (Int32.ofNat r_246)), .val (.int (Int32.ofNat n7)), .val (.int (Int32.ofNat n8)), .val (.int (Int32.ofNat (rt q'_246 n7))), .val (.int (Int32.ofNat (rt q'_259 n8))), .val (.int (Int32.ofNat (rt q'_268 (rt q'_246 n7)))), .val (.int (Int32.ofNat (rt q'_274 n7))), .unset] [(.int (0 : Int32))])
    refine go_st (fun _ kq => XT.iconstV X278.here hx rfl (0 : Int32) (hb hby at_253) (by decide) kq) ?_
    show Go p e below s _ _ _ T278 (mkF m 254 #[.val (.int x0), .val (.int x1), .val (.int x2), .val (.int x3), .val (.int x4), .val (.ref a180), .val (.ref a188), .val (.int (Int32.ofNat n1)), .val (.int (Int32.ofNat n2)), .val (.int (Int32.ofNat n3)), .val (.int (Int32.ofNat n4)), .val (.int (Int32.ofNat n5)), .val (.int (Int32.ofNat n6)), .val (.int (Int32.ofNat r_246)), .val (.int (Int32.ofNat n7)), .val (.int (Int32.ofNat n8)), .val (.int (Int32.ofNat (rt q'_246 n7))), .val (.int (Int32.ofNat (rt q'_259 n8))), .val (.int (Int32.ofNat (rt q'_268 (rt q'_246 n7)))), .val (.int (Int32.ofNat (rt q'_274 n7))), .unset] [(.int (0 : Int32)), (.int (0 : Int32))])
    refine go_st (fun _ kq => XS.icmpNo X278.here hx rfl (hb hby at_254) rfl (XT.ii_ne_f (by decide)) kq) ?_
    show Go p e below s _ _ _ T278 (mkF m 257 #[.val (.int x0), .val (.int x1), .val (.int x2), .val (.int x3), .val (.int x4), .val (.ref a180), .val (.ref a188), .val (.int (Int32.ofNat n1)), .val (.int (Int32.ofNat n2)), .val (.int (Int32.ofNat n3)), .val (.int (Int32.ofNat n4)), .val (.int (Int32.ofNat n5)), .val (.int (Int32.ofNat n6)), .val (.int (Int32.ofNat r_246)), .val (.int (Int32.ofNat n7)), .val (.int (Int32.ofNat n8)), .val (.int (Int32.ofNat (rt q'_246 n7))), .val (.int (Int32.ofNat (rt q'_259 n8))), .val (.int (Int32.ofNat (rt q'_268 (rt q'_246 n7)))), .val (.int (Int32.ofNat (rt q'_274 n7))), .unset] [])
    refine go_st (fun _ kq => XS.iload X278.here hx rfl (hb hby at_257) rfl kq) ?_
    show Go p e below s _ _ _ T278 (mkF m 259 #[.val (.int x0), .val (.int x1), .val (.int x2), .val (.int x3), .val (.int x4), .val (.ref a180), .val (.ref a188), .val (.int (Int32.ofNat n1)), .val (.int (Int32.ofNat n2)), .val (.int (Int32.ofNat n3)), .val (.int (Int32.ofNat n4)), .val (.int (Int32.ofNat n5)), .val (.int (Int32.ofNat n6)), .val (.int (Int32.ofNat r_246)), .val (.int (Int32.ofNat n7)), .val (.int (Int32.ofNat n8)), .val (.int (Int32.ofNat (rt q'_246 n7))), .val (.int (Int32.ofNat (rt q'_259 n8))), .val (.int (Int32.ofNat (rt q'_268 (rt q'_246 n7)))), .val (.int (Int32.ofNat (rt q'_274 n7))), .unset] [(.int (Int32.ofNat (rt q'_268 (rt q'_246 n7))))])
    refine go_st (fun _ kq => XS.iload X278.here hx rfl (hb hby at_259) rfl kq) ?_
    show Go p e below s _ _ _ T278 (mkF m 261 #[.val (.int x0), .val (.int x1), .val (.int x2), .val (.int x3), .val (.int x4), .val (.ref a180), .val (.ref a188), .val (.int (Int32.ofNat n1)), .val (.int (Int32.ofNat n2)), .val (.int (Int32.ofNat n3)), .val (.int (Int32.ofNat n4)), .val (.int (Int32.ofNat n5)), .val (.int (Int32.ofNat n6)), .val (.int (Int32.ofNat r_246)), .val (.int (Int32.ofNat n7)), .val (.int (Int32.ofNat n8)), .val (.int (Int32.ofNat (rt q'_246 n7))), .val (.int (Int32.ofNat (rt q'_259 n8))), .val (.int (Int32.ofNat (rt q'_268 (rt q'_246 n7)))), .val (.int (Int32.ofNat (rt q'_274 n7))), .unset] [(.int (Int32.ofNat (rt q'_246 n7))), (.int (Int32.ofNat (rt q'_268 (rt q'_246 n7))))])
    have hb295 : (Int32.ofNat (rt q'_268 (rt q'_246 n7))) = (Int32.ofNat (rt q'_246 n7)) := by rw [own_eq4 (rt_lt _ _) (rt_lt _ _), p268_2 _ (rt_lt _ _), p259_2 _ (rt_lt _ _)]; exact rt_idem uo246 hn7
    refine go_st (fun _ kq => XS.icmpNo X278.here hx rfl (hb hby at_261) rfl (XT.ii_ne_f hb295) kq) ?_
    show Go p e below s _ _ _ T278 (mkF m 264 #[.val (.int x0), .val (.int x1), .val (.int x2), .val (.int x3), .val (.int x4), .val (.ref a180), .val (.ref a188), .val (.int (Int32.ofNat n1)), .val (.int (Int32.ofNat n2)), .val (.int (Int32.ofNat n3)), .val (.int (Int32.ofNat n4)), .val (.int (Int32.ofNat n5)), .val (.int (Int32.ofNat n6)), .val (.int (Int32.ofNat r_246)), .val (.int (Int32.ofNat n7)), .val (.int (Int32.ofNat n8)), .val (.int (Int32.ofNat (rt q'_246 n7))), .val (.int (Int32.ofNat (rt q'_259 n8))), .val (.int (Int32.ofNat (rt q'_268 (rt q'_246 n7)))), .val (.int (Int32.ofNat (rt q'_274 n7))), .unset] [])
    refine go_st (fun _ kq => XS.iload X278.here hx rfl (hb hby at_264) rfl kq) ?_
    show Go p e below s _ _ _ T278 (mkF m 266 #[.val (.int x0), .val (.int x1), .val (.int x2), .val (.int x3), .val (.int x4), .val (.ref a180), .val (.ref a188), .val (.int (Int32.ofNat n1)), .val (.int (Int32.ofNat n2)), .val (.int (Int32.ofNat n3)), .val (.int (Int32.ofNat n4)), .val (.int (Int32.ofNat n5)), .val (.int (Int32.ofNat n6)), .val (.int (Int32.ofNat r_246)), .val (.int (Int32.ofNat n7)), .val (.int (Int32.ofNat n8)), .val (.int (Int32.ofNat (rt q'_246 n7))), .val (.int (Int32.ofNat (rt q'_259 n8))), .val (.int (Int32.ofNat (rt q'_268 (rt q'_246 n7)))), .val (.int (Int32.ofNat (rt q'_274 n7))), .unset] [(.int (Int32.ofNat (rt q'_274 n7)))])
    refine go_st (fun _ kq => XS.iload X278.here hx rfl (hb hby at_266) rfl kq) ?_
    show Go p e below s _ _ _ T278 (mkF m 268 #[.val (.int x0), .val (.int x1), .val (.int x2), .val (.int x3), .val (.int x4), .val (.ref a180), .val (.ref a188), .val (.int (Int32.ofNat n1)), .val (.int (Int32.ofNat n2)), .val (.int (Int32.ofNat n3)), .val (.int (Int32.ofNat n4)), .val (.int (Int32.ofNat n5)), .val (.int (Int32.ofNat n6)), .val (.int (Int32.ofNat r_246)), .val (.int (Int32.ofNat n7)), .val (.int (Int32.ofNat n8)), .val (.int (Int32.ofNat (rt q'_246 n7))), .val (.int (Int32.ofNat (rt q'_259 n8))), .val (.int (Int32.ofNat (rt q'_268 (rt q'_246 n7)))), .val (.int (Int32.ofNat (rt q'_274 n7))), .unset] [(.int (Int32.ofNat (rt q'_246 n7))), (.int (Int32.ofNat (rt q'_274 n7)))])
    have hb296 : (Int32.ofNat (rt q'_274 n7)) = (Int32.ofNat (rt q'_246 n7)) := by rw [own_eq4 (rt_lt _ _) (rt_lt _ _), p274_2 _ hn7, p268_2 _ hn7, p259_2 _ hn7]
    refine go_st (fun _ kq => XS.icmpNo X278.here hx rfl (hb hby at_268) rfl (XT.ii_ne_f hb296) kq) ?_
    show Go p e below s _ _ _ T278 (mkF m 271 #[.val (.int x0), .val (.int x1), .val (.int x2), .val (.int x3), .val (.int x4), .val (.ref a180), .val (.ref a188), .val (.int (Int32.ofNat n1)), .val (.int (Int32.ofNat n2)), .val (.int (Int32.ofNat n3)), .val (.int (Int32.ofNat n4)), .val (.int (Int32.ofNat n5)), .val (.int (Int32.ofNat n6)), .val (.int (Int32.ofNat r_246)), .val (.int (Int32.ofNat n7)), .val (.int (Int32.ofNat n8)), .val (.int (Int32.ofNat (rt q'_246 n7))), .val (.int (Int32.ofNat (rt q'_259 n8))), .val (.int (Int32.ofNat (rt q'_268 (rt q'_246 n7)))), .val (.int (Int32.ofNat (rt q'_274 n7))), .unset] [])
    refine go_st (fun _ kq => XT.iconstV X278.here hx rfl (1 : Int32) (hb hby at_271) (by decide) kq) ?_
    show Go p e below s _ _ _ T278 (mkF m 272 #[.val (.int x0), .val (.int x1), .val (.int x2), .val (.int x3), .val (.int x4), .val (.ref a180), .val (.ref a188), .val (.int (Int32.ofNat n1)), .val (.int (Int32.ofNat n2)), .val (.int (Int32.ofNat n3)), .val (.int (Int32.ofNat n4)), .val (.int (Int32.ofNat n5)), .val (.int (Int32.ofNat n6)), .val (.int (Int32.ofNat r_246)), .val (.int (Int32.ofNat n7)), .val (.int (Int32.ofNat n8)), .val (.int (Int32.ofNat (rt q'_246 n7))), .val (.int (Int32.ofNat (rt q'_259 n8))), .val (.int (Int32.ofNat (rt q'_268 (rt q'_246 n7)))), .val (.int (Int32.ofNat (rt q'_274 n7))), .unset] [(.int (1 : Int32))])
    refine go_st (fun _ kq => XS.goto X278.here hx rfl (pc0 := 272) (pc' := 276) rfl (hb hby at_272) (by decide) (by decide) kq) ?_
    show Go p e below s _ _ _ T278 (mkF m 276 #[.val (.int x0), .val (.int x1), .val (.int x2), .val (.int x3), .val (.int x4), .val (.ref a180), .val (.ref a188), .val (.int (Int32.ofNat n1)), .val (.int (Int32.ofNat n2)), .val (.int (Int32.ofNat n3)), .val (.int (Int32.ofNat n4)), .val (.int (Int32.ofNat n5)), .val (.int (Int32.ofNat n6)), .val (.int (Int32.ofNat r_246)), .val (.int (Int32.ofNat n7)), .val (.int (Int32.ofNat n8)), .val (.int (Int32.ofNat (rt q'_246 n7))), .val (.int (Int32.ofNat (rt q'_259 n8))), .val (.int (Int32.ofNat (rt q'_268 (rt q'_246 n7)))), .val (.int (Int32.ofNat (rt q'_274 n7))), .unset] [(.int (1 : Int32))])
    refine go_st (fun _ kq => XS.istore X278.here hx rfl (hb hby at_276) rfl (l' := #[.val (.int x0), .val (.int x1), .val (.int x2), .val (.int x3), .val (.int x4), .val (.ref a180), .val (.ref a188), .val (.int (Int32.ofNat n1)), .val (.int (Int32.ofNat n2)), .val (.int (Int32.ofNat n3)), .val (.int (Int32.ofNat n4)), .val (.int (Int32.ofNat n5)), .val (.int (Int32.ofNat n6)), .val (.int (Int32.ofNat r_246)), .val (.int (Int32.ofNat n7)), .val (.int (Int32.ofNat n8)), .val (.int (Int32.ofNat (rt q'_246 n7))), .val (.int (Int32.ofNat (rt q'_259 n8))), .val (.int (Int32.ofNat (rt q'_268 (rt q'_246 n7)))), .val (.int (Int32.ofNat (rt q'_274 n7))), .val (.int (1 : Int32))]) rfl kq) ?_
    show Go p e below s _ _ _ T278 (mkF m 278 #[.val (.int x0), .val (.int x1), .val (.int x2), .val (.int x3), .val (.int x4), .val (.ref a180), .val (.ref a188), .val (.int (Int32.ofNat n1)), .val (.int (Int32.ofNat n2)), .val (.int (Int32.ofNat n3)), .val (.int (Int32.ofNat n4)), .val (.int (Int32.ofNat n5)), .val (.int (Int32.ofNat n6)), .val (.int (Int32.ofNat r_246)), .val (.int (Int32.ofNat n7)), .val (.int (Int32.ofNat n8)), .val (.int (Int32.ofNat (rt q'_246 n7))), .val (.int (Int32.ofNat (rt q'_259 n8))), .val (.int (Int32.ofNat (rt q'_268 (rt q'_246 n7)))), .val (.int (Int32.ofNat (rt q'_274 n7))), .val (.int (1 : Int32))] [])
    refine go_st (fun _ kq => XS.aload X278.here hx rfl (hb hby at_278) rfl rfl kq) ?_
    show Go p e below s _ _ _ T278 (mkF m 280 #[.val (.int x0), .val (.int x1), .val (.int x2), .val (.int x3), .val (.int x4), .val (.ref a180), .val (.ref a188), .val (.int (Int32.ofNat n1)), .val (.int (Int32.ofNat n2)), .val (.int (Int32.ofNat n3)), .val (.int (Int32.ofNat n4)), .val (.int (Int32.ofNat n5)), .val (.int (Int32.ofNat n6)), .val (.int (Int32.ofNat r_246)), .val (.int (Int32.ofNat n7)), .val (.int (Int32.ofNat n8)), .val (.int (Int32.ofNat (rt q'_246 n7))), .val (.int (Int32.ofNat (rt q'_259 n8))), .val (.int (Int32.ofNat (rt q'_268 (rt q'_246 n7)))), .val (.int (Int32.ofNat (rt q'_274 n7))), .val (.int (1 : Int32))] [(.ref a188)])
    refine go_st (fun _ kq => XS.iload X278.here hx rfl (hb hby at_280) rfl kq) ?_
    show Go p e below s _ _ _ T278 (mkF m 282 #[.val (.int x0), .val (.int x1), .val (.int x2), .val (.int x3), .val (.int x4), .val (.ref a180), .val (.ref a188), .val (.int (Int32.ofNat n1)), .val (.int (Int32.ofNat n2)), .val (.int (Int32.ofNat n3)), .val (.int (Int32.ofNat n4)), .val (.int (Int32.ofNat n5)), .val (.int (Int32.ofNat n6)), .val (.int (Int32.ofNat r_246)), .val (.int (Int32.ofNat n7)), .val (.int (Int32.ofNat n8)), .val (.int (Int32.ofNat (rt q'_246 n7))), .val (.int (Int32.ofNat (rt q'_259 n8))), .val (.int (Int32.ofNat (rt q'_268 (rt q'_246 n7)))), .val (.int (Int32.ofNat (rt q'_274 n7))), .val (.int (1 : Int32))] [(.int (Int32.ofNat n7)), (.ref a188)])
    refine go_iald X278 hx hZ rfl c285 (hb hby at_282) rfl rfl (own_i4 hn7) (.int (Int32.ofNat (gt d'_256 n7))) (by rw [own_c4 hn7]) ?_
    show Go p e below s _ _ _ T278 (mkF m 283 #[.val (.int x0), .val (.int x1), .val (.int x2), .val (.int x3), .val (.int x4), .val (.ref a180), .val (.ref a188), .val (.int (Int32.ofNat n1)), .val (.int (Int32.ofNat n2)), .val (.int (Int32.ofNat n3)), .val (.int (Int32.ofNat n4)), .val (.int (Int32.ofNat n5)), .val (.int (Int32.ofNat n6)), .val (.int (Int32.ofNat r_246)), .val (.int (Int32.ofNat n7)), .val (.int (Int32.ofNat n8)), .val (.int (Int32.ofNat (rt q'_246 n7))), .val (.int (Int32.ofNat (rt q'_259 n8))), .val (.int (Int32.ofNat (rt q'_268 (rt q'_246 n7)))), .val (.int (Int32.ofNat (rt q'_274 n7))), .val (.int (1 : Int32))] [(.int (Int32.ofNat (gt d'_256 n7)))])
    refine go_st (fun _ kq => XS.aload X278.here hx rfl (hb hby at_283) rfl rfl kq) ?_
    show Go p e below s _ _ _ T278 (mkF m 285 #[.val (.int x0), .val (.int x1), .val (.int x2), .val (.int x3), .val (.int x4), .val (.ref a180), .val (.ref a188), .val (.int (Int32.ofNat n1)), .val (.int (Int32.ofNat n2)), .val (.int (Int32.ofNat n3)), .val (.int (Int32.ofNat n4)), .val (.int (Int32.ofNat n5)), .val (.int (Int32.ofNat n6)), .val (.int (Int32.ofNat r_246)), .val (.int (Int32.ofNat n7)), .val (.int (Int32.ofNat n8)), .val (.int (Int32.ofNat (rt q'_246 n7))), .val (.int (Int32.ofNat (rt q'_259 n8))), .val (.int (Int32.ofNat (rt q'_268 (rt q'_246 n7)))), .val (.int (Int32.ofNat (rt q'_274 n7))), .val (.int (1 : Int32))] [(.ref a188), (.int (Int32.ofNat (gt d'_256 n7)))])
    refine go_st (fun _ kq => XS.iload X278.here hx rfl (hb hby at_285) rfl kq) ?_
    show Go p e below s _ _ _ T278 (mkF m 287 #[.val (.int x0), .val (.int x1), .val (.int x2), .val (.int x3), .val (.int x4), .val (.ref a180), .val (.ref a188), .val (.int (Int32.ofNat n1)), .val (.int (Int32.ofNat n2)), .val (.int (Int32.ofNat n3)), .val (.int (Int32.ofNat n4)), .val (.int (Int32.ofNat n5)), .val (.int (Int32.ofNat n6)), .val (.int (Int32.ofNat r_246)), .val (.int (Int32.ofNat n7)), .val (.int (Int32.ofNat n8)), .val (.int (Int32.ofNat (rt q'_246 n7))), .val (.int (Int32.ofNat (rt q'_259 n8))), .val (.int (Int32.ofNat (rt q'_268 (rt q'_246 n7)))), .val (.int (Int32.ofNat (rt q'_274 n7))), .val (.int (1 : Int32))] [(.int (Int32.ofNat n5)), (.ref a188), (.int (Int32.ofNat (gt d'_256 n7)))])
    refine go_iald X278 hx hZ rfl c285 (hb hby at_287) rfl rfl (own_i4 hn5) (.int (Int32.ofNat (gt d'_256 n5))) (by rw [own_c4 hn5]) ?_
    show Go p e below s _ _ _ T278 (mkF m 288 #[.val (.int x0), .val (.int x1), .val (.int x2), .val (.int x3), .val (.int x4), .val (.ref a180), .val (.ref a188), .val (.int (Int32.ofNat n1)), .val (.int (Int32.ofNat n2)), .val (.int (Int32.ofNat n3)), .val (.int (Int32.ofNat n4)), .val (.int (Int32.ofNat n5)), .val (.int (Int32.ofNat n6)), .val (.int (Int32.ofNat r_246)), .val (.int (Int32.ofNat n7)), .val (.int (Int32.ofNat n8)), .val (.int (Int32.ofNat (rt q'_246 n7))), .val (.int (Int32.ofNat (rt q'_259 n8))), .val (.int (Int32.ofNat (rt q'_268 (rt q'_246 n7)))), .val (.int (Int32.ofNat (rt q'_274 n7))), .val (.int (1 : Int32))] [(.int (Int32.ofNat (gt d'_256 n5))), (.int (Int32.ofNat (gt d'_256 n7)))])
    by_cases hc297 : (Int32.ofNat (gt d'_256 n7)) = (Int32.ofNat (gt d'_256 n5))
    · refine go_st (fun _ kq => XS.icmpNo X278.here hx rfl (hb hby at_288) rfl (XT.ii_ne_f hc297) kq) ?_
      show Go p e below s _ _ _ T278 (mkF m 291 #[.val (.int x0), .val (.int x1), .val (.int x2), .val (.int x3), .val (.int x4), .val (.ref a180), .val (.ref a188), .val (.int (Int32.ofNat n1)), .val (.int (Int32.ofNat n2)), .val (.int (Int32.ofNat n3)), .val (.int (Int32.ofNat n4)), .val (.int (Int32.ofNat n5)), .val (.int (Int32.ofNat n6)), .val (.int (Int32.ofNat r_246)), .val (.int (Int32.ofNat n7)), .val (.int (Int32.ofNat n8)), .val (.int (Int32.ofNat (rt q'_246 n7))), .val (.int (Int32.ofNat (rt q'_259 n8))), .val (.int (Int32.ofNat (rt q'_268 (rt q'_246 n7)))), .val (.int (Int32.ofNat (rt q'_274 n7))), .val (.int (1 : Int32))] [])
      refine go_st (fun _ kq => XS.iload X278.here hx rfl (hb hby at_291) rfl kq) ?_
      show Go p e below s _ _ _ T278 (mkF m 293 #[.val (.int x0), .val (.int x1), .val (.int x2), .val (.int x3), .val (.int x4), .val (.ref a180), .val (.ref a188), .val (.int (Int32.ofNat n1)), .val (.int (Int32.ofNat n2)), .val (.int (Int32.ofNat n3)), .val (.int (Int32.ofNat n4)), .val (.int (Int32.ofNat n5)), .val (.int (Int32.ofNat n6)), .val (.int (Int32.ofNat r_246)), .val (.int (Int32.ofNat n7)), .val (.int (Int32.ofNat n8)), .val (.int (Int32.ofNat (rt q'_246 n7))), .val (.int (Int32.ofNat (rt q'_259 n8))), .val (.int (Int32.ofNat (rt q'_268 (rt q'_246 n7)))), .val (.int (Int32.ofNat (rt q'_274 n7))), .val (.int (1 : Int32))] [(.int (1 : Int32))])
      refine go_st (fun _ kq => XS.ifNo X278.here hx rfl (hb hby at_293) rfl (XT.i0_eq_f (by decide)) kq) ?_
      show Go p e below s _ _ _ T278 (mkF m 296 #[.val (.int x0), .val (.int x1), .val (.int x2), .val (.int x3), .val (.int x4), .val (.ref a180), .val (.ref a188), .val (.int (Int32.ofNat n1)), .val (.int (Int32.ofNat n2)), .val (.int (Int32.ofNat n3)), .val (.int (Int32.ofNat n4)), .val (.int (Int32.ofNat n5)), .val (.int (Int32.ofNat n6)), .val (.int (Int32.ofNat r_246)), .val (.int (Int32.ofNat n7)), .val (.int (Int32.ofNat n8)), .val (.int (Int32.ofNat (rt q'_246 n7))), .val (.int (Int32.ofNat (rt q'_259 n8))), .val (.int (Int32.ofNat (rt q'_268 (rt q'_246 n7)))), .val (.int (Int32.ofNat (rt q'_274 n7))), .val (.int (1 : Int32))] [])
      refine go_st (fun _ kq => XS.iload X278.here hx rfl (hb hby at_296) rfl kq) ?_
      show Go p e below s _ _ _ T278 (mkF m 298 #[.val (.int x0), .val (.int x1), .val (.int x2), .val (.int x3), .val (.int x4), .val (.ref a180), .val (.ref a188), .val (.int (Int32.ofNat n1)), .val (.int (Int32.ofNat n2)), .val (.int (Int32.ofNat n3)), .val (.int (Int32.ofNat n4)), .val (.int (Int32.ofNat n5)), .val (.int (Int32.ofNat n6)), .val (.int (Int32.ofNat r_246)), .val (.int (Int32.ofNat n7)), .val (.int (Int32.ofNat n8)), .val (.int (Int32.ofNat (rt q'_246 n7))), .val (.int (Int32.ofNat (rt q'_259 n8))), .val (.int (Int32.ofNat (rt q'_268 (rt q'_246 n7)))), .val (.int (Int32.ofNat (rt q'_274 n7))), .val (.int (1 : Int32))] [(.int (Int32.ofNat (rt q'_246 n7)))])
      refine go_st (fun _ kq => XS.iload X278.here hx rfl (hb hby at_298) rfl kq) ?_
      show Go p e below s _ _ _ T278 (mkF m 300 #[.val (.int x0), .val (.int x1), .val (.int x2), .val (.int x3), .val (.int x4), .val (.ref a180), .val (.ref a188), .val (.int (Int32.ofNat n1)), .val (.int (Int32.ofNat n2)), .val (.int (Int32.ofNat n3)), .val (.int (Int32.ofNat n4)), .val (.int (Int32.ofNat n5)), .val (.int (Int32.ofNat n6)), .val (.int (Int32.ofNat r_246)), .val (.int (Int32.ofNat n7)), .val (.int (Int32.ofNat n8)), .val (.int (Int32.ofNat (rt q'_246 n7))), .val (.int (Int32.ofNat (rt q'_259 n8))), .val (.int (Int32.ofNat (rt q'_268 (rt q'_246 n7)))), .val (.int (Int32.ofNat (rt q'_274 n7))), .val (.int (1 : Int32))] [(.int (Int32.ofNat r_246)), (.int (Int32.ofNat (rt q'_246 n7)))])
      have hb298 : (Int32.ofNat (rt q'_246 n7)) = (Int32.ofNat r_246) := by rw [own_eq4 (rt_lt _ _) ur246]; have hz := (own_eq4 (gt_lt _ _) (gt_lt _ _)).mp hc297; rw [iv256 _ _ hn7 hn5] at hz; rw [hz]; exact p246_0.res hn5
      refine go_st (fun _ kq => XS.icmpNo X278.here hx rfl (hb hby at_300) rfl (XT.ii_ne_f hb298) kq) ?_
      show Go p e below s _ _ _ T278 (mkF m 303 #[.val (.int x0), .val (.int x1), .val (.int x2), .val (.int x3), .val (.int x4), .val (.ref a180), .val (.ref a188), .val (.int (Int32.ofNat n1)), .val (.int (Int32.ofNat n2)), .val (.int (Int32.ofNat n3)), .val (.int (Int32.ofNat n4)), .val (.int (Int32.ofNat n5)), .val (.int (Int32.ofNat n6)), .val (.int (Int32.ofNat r_246)), .val (.int (Int32.ofNat n7)), .val (.int (Int32.ofNat n8)), .val (.int (Int32.ofNat (rt q'_246 n7))), .val (.int (Int32.ofNat (rt q'_259 n8))), .val (.int (Int32.ofNat (rt q'_268 (rt q'_246 n7)))), .val (.int (Int32.ofNat (rt q'_274 n7))), .val (.int (1 : Int32))] [])
      refine go_st (fun _ kq => XT.iconstV X278.here hx rfl (1 : Int32) (hb hby at_303) (by decide) kq) ?_
      show Go p e below s _ _ _ T278 (mkF m 304 #[.val (.int x0), .val (.int x1), .val (.int x2), .val (.int x3), .val (.int x4), .val (.ref a180), .val (.ref a188), .val (.int (Int32.ofNat n1)), .val (.int (Int32.ofNat n2)), .val (.int (Int32.ofNat n3)), .val (.int (Int32.ofNat n4)), .val (.int (Int32.ofNat n5)), .val (.int (Int32.ofNat n6)), .val (.int (Int32.ofNat r_246)), .val (.int (Int32.ofNat n7)), .val (.int (Int32.ofNat n8)), .val (.int (Int32.ofNat (rt q'_246 n7))), .val (.int (Int32.ofNat (rt q'_259 n8))), .val (.int (Int32.ofNat (rt q'_268 (rt q'_246 n7)))), .val (.int (Int32.ofNat (rt q'_274 n7))), .val (.int (1 : Int32))] [(.int (1 : Int32))])
      refine go_st (fun _ kq => XS.goto X278.here hx rfl (pc0 := 304) (pc' := 308) rfl (hb hby at_304) (by decide) (by decide) kq) ?_
      show Go p e below s _ _ _ T278 (mkF m 308 #[.val (.int x0), .val (.int x1), .val (.int x2), .val (.int x3), .val (.int x4), .val (.ref a180), .val (.ref a188), .val (.int (Int32.ofNat n1)), .val (.int (Int32.ofNat n2)), .val (.int (Int32.ofNat n3)), .val (.int (Int32.ofNat n4)), .val (.int (Int32.ofNat n5)), .val (.int (Int32.ofNat n6)), .val (.int (Int32.ofNat r_246)), .val (.int (Int32.ofNat n7)), .val (.int (Int32.ofNat n8)), .val (.int (Int32.ofNat (rt q'_246 n7))), .val (.int (Int32.ofNat (rt q'_259 n8))), .val (.int (Int32.ofNat (rt q'_268 (rt q'_246 n7)))), .val (.int (Int32.ofNat (rt q'_274 n7))), .val (.int (1 : Int32))] [(.int (1 : Int32))])
      refine go_st (fun _ kq => XS.istore X278.here hx rfl (hb hby at_308) rfl (l' := #[.val (.int x0), .val (.int x1), .val (.int x2), .val (.int x3), .val (.int x4), .val (.ref a180), .val (.ref a188), .val (.int (Int32.ofNat n1)), .val (.int (Int32.ofNat n2)), .val (.int (Int32.ofNat n3)), .val (.int (Int32.ofNat n4)), .val (.int (Int32.ofNat n5)), .val (.int (Int32.ofNat n6)), .val (.int (Int32.ofNat r_246)), .val (.int (Int32.ofNat n7)), .val (.int (Int32.ofNat n8)), .val (.int (Int32.ofNat (rt q'_246 n7))), .val (.int (Int32.ofNat (rt q'_259 n8))), .val (.int (Int32.ofNat (rt q'_268 (rt q'_246 n7)))), .val (.int (Int32.ofNat (rt q'_274 n7))), .val (.int (1 : Int32))]) rfl kq) ?_
      show Go p e below s _ _ _ T278 (mkF m 310 #[.val (.int x0), .val (.int x1), .val (.int x2), .val (.int x3), .val (.int x4), .val (.ref a180), .val (.ref a188), .val (.int (Int32.ofNat n1)), .val (.int (Int32.ofNat n2)), .val (.int (Int32.ofNat n3)), .val (.int (Int32.ofNat n4)), .val (.int (Int32.ofNat n5)), .val (.int (Int32.ofNat n6)), .val (.int (Int32.ofNat r_246)), .val (.int (Int32.ofNat n7)), .val (.int (Int32.ofNat n8)), .val (.int (Int32.ofNat (rt q'_246 n7))), .val (.int (Int32.ofNat (rt q'_259 n8))), .val (.int (Int32.ofNat (rt q'_268 (rt q'_246 n7)))), .val (.int (Int32.ofNat (rt q'_274 n7))), .val (.int (1 : Int32))] [])
      refine go_st (fun _ kq => XS.iload X278.here hx rfl (hb hby at_310) rfl kq) ?_
      show Go p e below s _ _ _ T278 (mkF m 312 #[.val (.int x0), .val (.int x1), .val (.int x2), .val (.int x3), .val (.int x4), .val (.ref a180), .val (.ref a188), .val (.int (Int32.ofNat n1)), .val (.int (Int32.ofNat n2)), .val (.int (Int32.ofNat n3)), .val (.int (Int32.ofNat n4)), .val (.int (Int32.ofNat n5)), .val (.int (Int32.ofNat n6)), .val (.int (Int32.ofNat r_246)), .val (.int (Int32.ofNat n7)), .val (.int (Int32.ofNat n8)), .val (.int (Int32.ofNat (rt q'_246 n7))), .val (.int (Int32.ofNat (rt q'_259 n8))), .val (.int (Int32.ofNat (rt q'_268 (rt q'_246 n7)))), .val (.int (Int32.ofNat (rt q'_274 n7))), .val (.int (1 : Int32))] [(.int (1 : Int32))])
      exact go_retB (w := (1 : Int32)) X278 hx hlk hret (hb hby at_312) (by decide) (by decide) (by decide) ⟨rfl, N278⟩
    · refine go_st (fun _ kq => XS.icmpYes X278.here hx rfl (pc0 := 288) (pc' := 310) rfl (hb hby at_288) rfl (XT.ii_ne_t hc297) (by decide) (by decide) kq) ?_
      show Go p e below s _ _ _ T278 (mkF m 310 #[.val (.int x0), .val (.int x1), .val (.int x2), .val (.int x3), .val (.int x4), .val (.ref a180), .val (.ref a188), .val (.int (Int32.ofNat n1)), .val (.int (Int32.ofNat n2)), .val (.int (Int32.ofNat n3)), .val (.int (Int32.ofNat n4)), .val (.int (Int32.ofNat n5)), .val (.int (Int32.ofNat n6)), .val (.int (Int32.ofNat r_246)), .val (.int (Int32.ofNat n7)), .val (.int (Int32.ofNat n8)), .val (.int (Int32.ofNat (rt q'_246 n7))), .val (.int (Int32.ofNat (rt q'_259 n8))), .val (.int (Int32.ofNat (rt q'_268 (rt q'_246 n7)))), .val (.int (Int32.ofNat (rt q'_274 n7))), .val (.int (1 : Int32))] [])
      refine go_st (fun _ kq => XS.iload X278.here hx rfl (hb hby at_310) rfl kq) ?_
      show Go p e below s _ _ _ T278 (mkF m 312 #[.val (.int x0), .val (.int x1), .val (.int x2), .val (.int x3), .val (.int x4), .val (.ref a180), .val (.ref a188), .val (.int (Int32.ofNat n1)), .val (.int (Int32.ofNat n2)), .val (.int (Int32.ofNat n3)), .val (.int (Int32.ofNat n4)), .val (.int (Int32.ofNat n5)), .val (.int (Int32.ofNat n6)), .val (.int (Int32.ofNat r_246)), .val (.int (Int32.ofNat n7)), .val (.int (Int32.ofNat n8)), .val (.int (Int32.ofNat (rt q'_246 n7))), .val (.int (Int32.ofNat (rt q'_259 n8))), .val (.int (Int32.ofNat (rt q'_268 (rt q'_246 n7)))), .val (.int (Int32.ofNat (rt q'_274 n7))), .val (.int (1 : Int32))] [(.int (1 : Int32))])
      exact go_retB (w := (1 : Int32)) X278 hx hlk hret (hb hby at_312) (by decide) (by decide) (by decide) ⟨rfl, N278⟩
set_option maxRecDepth 65536 in
set_option maxHeartbeats 4000000 in
theorem comes_1 {Post : Tables → Env → Array Value → State → Outcome → State → Prop} (hpost : ∀ tb e args s v u, (limb_1_1.after args s (.returned v) u = true ∧ limb_1_2.after args s (.returned v) u = true ∧ True) → FrameEnd s (.returned v) u (Jvm.fieldLocs frame_1_writes args s ++ Jvm.arrayLocs frame_1_arrays args s ++ Jvm.staticLocs frame_1_statics s) 16 128 → Post tb e args s (.returned v) u) :
    ArmFor flags0 classFile x code maxLocals ret World_1 tables_1 room_1 Calls_1 rest_1 Pre_1 Post := by
  intro l hfl _ _ p e ha hc hk s m args below hf hA hF happ hP
  obtain ⟨hcalls, hrest, hpre⟩ := hP
  obtain ⟨-, -, -, hnamed, -, -, -, hat⟩ := (Spec.applies_iff hf).mp happ
  obtain ⟨hg, hn⟩ := and_e (Cond.before_iff.mp (show (Jvm.Cond.and given_1 narrow_1).before args s = true from hpre))
  obtain ⟨k1, r1⟩ := and_e hg
  obtain ⟨g0, r2⟩ := and_e r1
  obtain ⟨g1, r3⟩ := and_e r2
  obtain ⟨g2, r4⟩ := and_e r3
  obtain ⟨g3, r5⟩ := and_e r4
  have g4 := r5
  obtain ⟨w0, w1, w2, w3, w4, rfl⟩ : ∃ w0 w1 w2 w3 w4 : Value, args = #[w0, w1, w2, w3, w4] := by
    have hs : args.size = 5 := by simpa [Cond.value, given_1] using k1
    obtain ⟨L⟩ := args
    match L, hs with
    | [w0, w1, w2, w3, w4], _ => exact ⟨w0, w1, w2, w3, w4, rfl⟩
  have hw := fun d (hd : d ∈ tables_1) => atoms_spec (ws := Jvm.Cond.code x code maxLocals ret :: tables_1) hat d (List.mem_cons_of_mem _ hd)
  have hfit : Fit s := fun {y c} hc i hi => by
    obtain ⟨ha, rfl⟩ := Array.getElem?_eq_some_iff.mp hc
    have q := List.all_eq_true.mp ((Array.all_eq_true_iff_forall_mem.mp hF) _ (Array.getElem_mem ha)) i (List.mem_range.mpr hi)
    simpa [Array.getElem?_eq_getElem hi] using q
  obtain ⟨i0, f0⟩ := is_v g0
  obtain rfl : w0 = (.int i0) := Option.some.inj f0
  obtain ⟨i1, f1⟩ := is_v g1
  obtain rfl : w1 = (.int i1) := Option.some.inj f1
  obtain ⟨i2, f2⟩ := is_v g2
  obtain rfl : w2 = (.int i2) := Option.some.inj f2
  obtain ⟨i3, f3⟩ := is_v g3
  obtain rfl : w3 = (.int i3) := Option.some.inj f3
  obtain ⟨i4, f4⟩ := is_v g4
  obtain rfl : w4 = (.int i4) := Option.some.inj f4
  have hm := met_law l s _ hw i0 i1 i2 i3 i4 s.heap s.heap.size (Nat.le_refl _)
  obtain ⟨n, o, h1, h2, h3, _, L, rfl, ⟨rfl, N⟩, hq⟩ := hm p e ha hc hk s m _ below hf ((Spec.applies_iff_loose hf).mp happ).1 ⟨rfl, State.Warmed39.refl s, rfl⟩ trivial
  refine ⟨n, _, h1, h2, h3, hpost _ _ _ _ _ _ ⟨Cond.after_iff.mpr rfl, Cond.after_iff.mpr (eq_i res_at (Term.int_eval (1)) rfl), trivial⟩ ⟨hq.1, hq.2.1, (hq.2.2.sift fun y hy => Or.inr (N y hy)).mono (by decide) (by decide)⟩⟩
theorem main_1_1 : Claimed_1_1 := comes_1 fun _ _ _ _ _ _ h hF => ⟨h.1, hF⟩
theorem main_1_2 : Claimed_1_2 := comes_1 fun _ _ _ _ _ _ h hF => ⟨h.2.1, hF⟩
end Jvm.Pilot.@@N@@
namespace Jvm.Pilot.@@N@@
open Jvm Jvm.ClassFile Sem Op Lib Jvm.Free Jvm.Stand Jvm.Pilot.@@N@@.Jvm.D
/-! MADE BY PROGRAM (witnessworld.py) out of the Statement's table words and the real class files: 9 classes; the members and pool entries that the words name. The judged class is class 1, her method 2. -/
namespace start1
open Jvm.ClassFile
def u (s : String) : CpInfo := .utf8 (stringToUtf16 s)
/-- a pool by its gaps: so many unusable entries, then the entry; so many at the end -/
def gap : Nat → List CpInfo → List CpInfo
  | 0, r => r
  | n + 1, r => .unusable :: gap n r
def poolList (es : List (Nat × CpInfo)) (last : Nat) : List CpInfo := es.foldr (fun e r => gap e.1 (e.2 :: r)) (gap last [])
def pool (es : List (Nat × CpInfo)) (last : Nat) : Array CpInfo := ⟨poolList es last⟩
def fileOf (pool : Array CpInfo) (this : Nat) (attrs : Array Attribute := #[]) (ms : Array MethodInfo := #[]) (fl : Nat := 33) (sup : Nat := 0) (ifs : Array Nat := #[]) (fds : Array FieldInfo := #[]) : ClassFile where
  minorVersion := 0
  majorVersion := 65
  constantPool := pool
  accessFlags := fl
  thisClass := this
  superClass := sup
  interfaces := ifs
  fields := fds
  methods := ms
  attributes := attrs
def plain (name : String) (sup : Option ClassId) : Class where
  name := name
  kind := .ordinary
  loader := none
  accessFlags := 33
  super := sup
  interfaces := #[]
  cf := none
  fields := #[]
  methods := #[]
  instanceTypes := #[]
  staticTypes := #[]
  resolved := #[]
  callSites := []
  init := .initialized
  statics := none
  mirror := none

def pool0 : Array CpInfo := pool [(5, u "<init>"), (0, u "()V"), (1, .class_ 10), (1, u "java/lang/Object")] 113

def k0c0 : Code := { maxStack := 0, maxLocals := 1, code := object_method_1_code, exceptionTable := #[], attributes := #[] }
def k0m0 : Method := { name := "<init>", desc := "()V", sig := { parameters := [], returnType := none }, accessFlags := 1, code := some k0c0 }
/-- java/lang/Object -/
def k0 : Class := { plain "java/lang/Object" none with
  accessFlags := 33
  interfaces := #[]
  cf := some (fileOf pool0 8 #[] #[{ accessFlags := 1, nameIndex := 5, descriptorIndex := 6, attributes := #[] }] 33 0 #[] #[])
  fields := #[]
  methods := #[k0m0]
  instanceTypes := #[]
  staticTypes := #[]
  resolved := Array.replicate 124 none
  statics := none }

def pool1 : Array CpInfo := pool [(2, .class_ 4), (1, u "java/lang/Object"), (0, u "<init>"), (0, u "()V"), (0, .class_ 8), (0, u "com/example/copse/copse/graph/DisjointSets"), (0, .methodref 7 10), (0, .nameAndType 5 11), (0, u "(I)V"), (0, .methodref 7 13), (0, .nameAndType 14 15), (0, u "union"), (0, u "(II)I"), (0, .methodref 17 18), (0, .class_ 19), (0, .nameAndType 20 21), (0, u "com/example/copse/copse/graph/DisjointSetsFindPinLaw"), (0, u "merge"), (0, u "([III)V"), (0, .methodref 7 23), (0, .nameAndType 24 25), (0, u "find"), (0, u "(I)I"), (3, u "law"), (0, u "(IIIII)Z")] 4

def k1m0 : Method := { name := "<init>", desc := "()V", sig := { parameters := [], returnType := none }, accessFlags := 1, code := none }
def k1c1 : Code := { maxStack := 3, maxLocals := 5, code := method_2_code, exceptionTable := #[], attributes := #[] }
def k1m1 : Method := { name := "merge", desc := "([III)V", sig := { parameters := [(.array .int), .int, .int], returnType := none }, accessFlags := 10, code := some k1c1 }
def k1c2 : Code := { maxStack := 4, maxLocals := 21, code := code, exceptionTable := #[], attributes := #[] }
def k1m2 : Method := { name := "law", desc := "(IIIII)Z", sig := { parameters := [.int, .int, .int, .int, .int], returnType := some .boolean }, accessFlags := 9, code := some k1c2 }
/-- com/example/copse/copse/graph/DisjointSetsFindPinLaw -/
def k1 : Class := { plain "com/example/copse/copse/graph/DisjointSetsFindPinLaw" (some 0) with
  accessFlags := 49
  interfaces := #[]
  cf := some (fileOf pool1 17 #[] #[{ accessFlags := 1, nameIndex := 5, descriptorIndex := 6, attributes := #[] }, { accessFlags := 10, nameIndex := 20, descriptorIndex := 21, attributes := #[] }, { accessFlags := 9, nameIndex := 29, descriptorIndex := 30, attributes := #[] }] 49 2 #[] #[])
  fields := #[]
  methods := #[k1m0, k1m1, k1m2]
  instanceTypes := #[]
  staticTypes := #[]
  resolved := Array.replicate 35 none
  statics := none }

def pool2 : Array CpInfo := pool [(1, .methodref 2 3), (0, .class_ 4), (0, .nameAndType 5 6), (0, u "java/lang/Object"), (0, u "<init>"), (0, u "()V"), (0, .fieldref 8 9), (0, .class_ 10), (0, .nameAndType 11 12), (0, u "com/example/copse/copse/graph/DisjointSets"), (0, u "parent"), (0, u "[I"), (0, .fieldref 8 14), (0, .nameAndType 15 12), (0, u "size"), (0, .methodref 8 17), (0, .nameAndType 18 19), (0, u "find"), (0, u "(I)I"), (0, u "(I)V"), (3, u "union"), (0, u "(II)I")] 2

def k2c0 : Code := { maxStack := 3, maxLocals := 3, code := prog_35_method_1_code, exceptionTable := #[], attributes := #[] }
def k2m0 : Method := { name := "<init>", desc := "(I)V", sig := { parameters := [.int], returnType := none }, accessFlags := 0, code := some k2c0 }
def k2c1 : Code := { maxStack := 5, maxLocals := 3, code := prog_35_method_2_code, exceptionTable := #[], attributes := #[] }
def k2m1 : Method := { name := "find", desc := "(I)I", sig := { parameters := [.int], returnType := some .int }, accessFlags := 0, code := some k2c1 }
def k2c2 : Code := { maxStack := 5, maxLocals := 7, code := prog_35_method_3_code, exceptionTable := #[], attributes := #[] }
def k2m2 : Method := { name := "union", desc := "(II)I", sig := { parameters := [.int, .int], returnType := some .int }, accessFlags := 0, code := some k2c2 }
/-- com/example/copse/copse/graph/DisjointSets -/
def k2 : Class := { plain "com/example/copse/copse/graph/DisjointSets" (some 0) with
  accessFlags := 32
  interfaces := #[]
  cf := some (fileOf pool2 8 #[] #[{ accessFlags := 0, nameIndex := 5, descriptorIndex := 20, attributes := #[] }, { accessFlags := 0, nameIndex := 18, descriptorIndex := 19, attributes := #[] }, { accessFlags := 0, nameIndex := 24, descriptorIndex := 25, attributes := #[] }] 32 2 #[] #[{ accessFlags := 18, nameIndex := 11, descriptorIndex := 12, attributes := #[] }, { accessFlags := 18, nameIndex := 15, descriptorIndex := 12, attributes := #[] }])
  fields := #[{ name := "parent", type := (.array .int), accessFlags := 18, slot := 0, constantValue := 0 }, { name := "size", type := (.array .int), accessFlags := 18, slot := 1, constantValue := 0 }]
  methods := #[k2m0, k2m1, k2m2]
  instanceTypes := #[(.array .int), (.array .int)]
  staticTypes := #[]
  resolved := Array.replicate 28 none
  statics := none }

def pool3 : Array CpInfo := pool [(1, u "java/lang/Cloneable"), (0, .class_ 1), (0, u "java/lang/Object"), (0, .class_ 3)] 3

/-- java/lang/Cloneable -/
def k3 : Class := { plain "java/lang/Cloneable" (some 0) with
  accessFlags := 1537
  interfaces := #[]
  cf := some (fileOf pool3 2 #[] #[] 1537 4 #[] #[])
  fields := #[]
  methods := #[]
  instanceTypes := #[]
  staticTypes := #[]
  resolved := Array.replicate 8 none
  statics := none }

def pool4 : Array CpInfo := pool [(1, u "java/io/Serializable"), (0, .class_ 1), (0, u "java/lang/Object"), (0, .class_ 3)] 3

/-- java/io/Serializable -/
def k4 : Class := { plain "java/io/Serializable" (some 0) with
  accessFlags := 1537
  interfaces := #[]
  cf := some (fileOf pool4 2 #[] #[] 1537 4 #[] #[])
  fields := #[]
  methods := #[]
  instanceTypes := #[]
  staticTypes := #[]
  resolved := Array.replicate 8 none
  statics := none }

/-- the primitive byte -/
def k5 : Class := { plain "byte" none with kind := .primitive 'B', accessFlags := 0x411 }
/-- [B -/
def k6 : Class := { plain "[B" (some 0) with kind := .array 5 .byte, interfaces := #[3, 4], accessFlags := 1041 }

/-- the primitive int -/
def k7 : Class := { plain "int" none with kind := .primitive 'I', accessFlags := 0x411 }
/-- [I -/
def k8 : Class := { plain "[I" (some 0) with kind := .array 7 .int, interfaces := #[3, 4], accessFlags := 1041 }

def heap : Heap := #[]
def classes : Array Class := #[k0, k1, k2, k3, k4, k5, k6, k7, k8]
def interned : List (Array UInt16 × Addr) := []
def slotsUsed : Nat := 0
def theMethod : MethodId := ⟨1, 2⟩
def args0 : Array Value := #[.int 5, .int 1, .int 6, .int 3, .int 4]
def aboutOver (below : List Frame) : State where
  vm := { classes := classes, interned := interned.toArray }
  heap := heap
  slotsUsed := slotsUsed
  threads := #[{ frames := .invoking theMethod args0 :: below }]
def below0 : List Frame := [.native { method := ⟨0, 0⟩, args := #[] }]
def about1 : State := aboutOver below0
def p0 : Program := .bare "" "" ""
def e0 : Env := launch0.env 0 0 0
theorem w_frames : about1.frames = Frame.invoking theMethod args0 :: below0 := rfl
set_option maxRecDepth 65536 in
theorem w_args : argsFit about1.vm theMethod args0 = true := by decide +kernel
set_option maxRecDepth 65536 in
theorem w_heap : heapFits about1 = true := by decide +kernel
set_option maxRecDepth 65536 in
theorem w_runnable : about1.curStatus? = some .runnable := by decide +kernel
set_option maxRecDepth 65536 in
theorem w_alone : about1.alone = true := by decide +kernel
set_option maxRecDepth 65536 in
theorem w_named : about1.methodNamed? x = some theMethod := by decide +kernel
set_option maxRecDepth 65536 in
theorem w_hears : about1.hears theMethod below0 = true := by decide +kernel
set_option maxRecDepth 65536 in
theorem w_ripe : about1.ripe theMethod args0 below0 = true := by decide +kernel
theorem w_running : about1.status = .running := rfl
set_option maxRecDepth 65536 in
theorem w_room : about1.hasRoom e0.platform room_1 = true :=
  launch0.hasRoom_least _ room_1 (by decide +kernel) (by decide +kernel) (by decide +kernel) (by decide +kernel) (by decide +kernel) (by decide +kernel)
theorem allAtoms_all (ts : List Jvm.Cond) (a : Array Jvm.Value) (st : Jvm.State) : (allAtoms ts).before a st = ts.all (fun c => c.before a st) := by
  induction ts with
  | nil => rfl
  | cons c t ih =>
    show (Jvm.Cond.and c (allAtoms t)).before a st = _
    rw [Jvm.Cond.before_and, ih, List.all_cons]
def words1 : List Jvm.Cond := Jvm.Cond.code x code maxLocals ret :: tables_1
/-- a 'code' word, met by the world's own term for the bytes: nothing is compared byte by byte -/
theorem code_word {y : MethodName} {bytes : ByteArray} {mx : Nat} {rt : Option FieldType} {a : Array Value} {s : State} {m : MethodId} {meth : Method} {c : Code} (h1 : s.methodNamed? y = some m) (h2 : s.vm.method? m = some meth) (h3 : meth.code = some c) (h4 : c.code = bytes)
    (h5 : (c.maxLocals == mx && c.exceptionTable.isEmpty && decide (c.maxStack ≤ mostOperands) && decide (meth.sig.returnType = rt) && !meth.locks && decide (parseMethodDescriptor y.desc = some meth.sig)) = true) : (Jvm.Cond.code y bytes mx rt).before a s = true := by
  simp only [Bool.and_eq_true, beq_iff_eq, Bool.not_eq_true', decide_eq_true_eq] at h5
  obtain ⟨⟨⟨⟨⟨g1, g2⟩, g3⟩, g4⟩, g5⟩, g6⟩ := h5
  simp [Cond.before, Cond.holds, Cond.value, h1, h2, h3, h4, g1, g2, g3, g4, g5, g6]
def isCode : Jvm.Cond → Bool
  | .code _ _ _ _ => true
  | _ => false
theorem all_split {L : List Jvm.Cond} {P : Jvm.Cond → Bool} (h1 : L.all (fun c => isCode c || P c) = true) (h2 : ∀ c ∈ L.filter isCode, P c = true) : L.all P = true := by
  refine List.all_eq_true.mpr fun c hc => ?_
  have h := List.all_eq_true.mp h1 c hc
  rcases Bool.eq_false_or_eq_true (isCode c) with hi | hi
  · exact h2 c (List.mem_filter.mpr ⟨hc, hi⟩)
  · simpa [hi] using h
set_option maxRecDepth 65536 in
theorem w_c0 : (Jvm.Cond.code x code maxLocals ret).before args0 about1 = true := code_word (m := ⟨1, 2⟩) (meth := k1m2) (c := k1c2) (by decide +kernel) rfl rfl rfl (by decide +kernel)
set_option maxRecDepth 65536 in
theorem w_c1 : (Jvm.Cond.code ({ cls := "com/example/copse/copse/graph/DisjointSets", name := "<init>", desc := "(I)V" } : Jvm.MethodName) prog_35_method_1_code (3 : Nat) (Option.none : Option Jvm.ClassFile.FieldType)).before args0 about1 = true := code_word (m := ⟨2, 0⟩) (meth := k2m0) (c := k2c0) (by decide +kernel) rfl rfl rfl (by decide +kernel)
set_option maxRecDepth 65536 in
theorem w_c2 : (Jvm.Cond.code ({ cls := "java/lang/Object", name := "<init>", desc := "()V" } : Jvm.MethodName) object_method_1_code (1 : Nat) (Option.none : Option Jvm.ClassFile.FieldType)).before args0 about1 = true := code_word (m := ⟨0, 0⟩) (meth := k0m0) (c := k0c0) (by decide +kernel) rfl rfl rfl (by decide +kernel)
set_option maxRecDepth 65536 in
theorem w_c3 : (Jvm.Cond.code ({ cls := "com/example/copse/copse/graph/DisjointSets", name := "union", desc := "(II)I" } : Jvm.MethodName) prog_35_method_3_code (7 : Nat) (Option.some Jvm.ClassFile.FieldType.int)).before args0 about1 = true := code_word (m := ⟨2, 2⟩) (meth := k2m2) (c := k2c2) (by decide +kernel) rfl rfl rfl (by decide +kernel)
set_option maxRecDepth 65536 in
theorem w_c4 : (Jvm.Cond.code ({ cls := "com/example/copse/copse/graph/DisjointSets", name := "find", desc := "(I)I" } : Jvm.MethodName) prog_35_method_2_code (3 : Nat) (Option.some Jvm.ClassFile.FieldType.int)).before args0 about1 = true := code_word (m := ⟨2, 1⟩) (meth := k2m1) (c := k2c1) (by decide +kernel) rfl rfl rfl (by decide +kernel)
set_option maxRecDepth 65536 in
theorem w_c5 : (Jvm.Cond.code ({ cls := "com/example/copse/copse/graph/DisjointSetsFindPinLaw", name := "merge", desc := "([III)V" } : Jvm.MethodName) method_2_code (5 : Nat) (Option.none : Option Jvm.ClassFile.FieldType)).before args0 about1 = true := code_word (m := ⟨1, 1⟩) (meth := k1m1) (c := k1c1) (by decide +kernel) rfl rfl rfl (by decide +kernel)
def codes1 : List Jvm.Cond := [Jvm.Cond.code x code maxLocals ret, Jvm.Cond.code ({ cls := "com/example/copse/copse/graph/DisjointSets", name := "<init>", desc := "(I)V" } : Jvm.MethodName) prog_35_method_1_code (3 : Nat) (Option.none : Option Jvm.ClassFile.FieldType), Jvm.Cond.code ({ cls := "java/lang/Object", name := "<init>", desc := "()V" } : Jvm.MethodName) object_method_1_code (1 : Nat) (Option.none : Option Jvm.ClassFile.FieldType), Jvm.Cond.code ({ cls := "com/example/copse/copse/graph/DisjointSets", name := "union", desc := "(II)I" } : Jvm.MethodName) prog_35_method_3_code (7 : Nat) (Option.some Jvm.ClassFile.FieldType.int), Jvm.Cond.code ({ cls := "com/example/copse/copse/graph/DisjointSets", name := "find", desc := "(I)I" } : Jvm.MethodName) prog_35_method_2_code (3 : Nat) (Option.some Jvm.ClassFile.FieldType.int), Jvm.Cond.code ({ cls := "com/example/copse/copse/graph/DisjointSetsFindPinLaw", name := "merge", desc := "([III)V" } : Jvm.MethodName) method_2_code (5 : Nat) (Option.none : Option Jvm.ClassFile.FieldType)]
set_option maxRecDepth 65536 in
theorem codes_eq : words1.filter isCode = codes1 := rfl
theorem w_codes : ∀ c ∈ words1.filter isCode, c.before args0 about1 = true := by
  rw [codes_eq]
  intro c hc
  simp only [codes1, List.mem_cons, List.not_mem_nil, or_false] at hc
  rcases hc with rfl | rfl | rfl | rfl | rfl | rfl
  · exact w_c0
  · exact w_c1
  · exact w_c2
  · exact w_c3
  · exact w_c4
  · exact w_c5
set_option maxRecDepth 65536 in
theorem w_t1 : (words1.take 24).all (fun c => isCode c || c.before args0 about1) = true := by decide +kernel
set_option maxRecDepth 65536 in
theorem w_t2 : (words1.drop 24).all (fun c => isCode c || c.before args0 about1) = true := by decide +kernel
theorem w_tables : (allAtoms (Jvm.Cond.code x code maxLocals ret :: tables_1)).before args0 about1 = true := by
  rw [allAtoms_all]
  show words1.all (fun c => c.before args0 about1) = true
  refine all_split ?_ w_codes
  rw [← List.take_append_drop 24 words1, List.all_append, w_t1, w_t2]
  rfl
set_option maxRecDepth 65536 in
theorem w_case : (Jvm.Cond.and given_1 narrow_1).before args0 about1 = true := by decide +kernel
theorem w_applies : (headSpec (Jvm.Cond.code x code maxLocals ret :: tables_1) room_1).applies x e0.platform about1 = true :=
  (Spec.applies_iff w_frames).mpr ⟨w_running, w_runnable, w_alone, w_named, w_hears, w_ripe, w_room, w_tables⟩
theorem atStart : AtStart classFile x code maxLocals ret World_1 tables_1 room_1 Calls_1 rest_1 Pre_1 launch0 p0 e0 about1 theMethod args0 below0 :=
  ⟨lists_1, trivial, launch0.admits_env _ _ _, launch0.least_env, fairChoices_fair.cas, fairChoices_fair.clock, w_frames, w_args, w_heap, w_applies, trivial, trivial, w_case⟩
end start1
theorem witness_1 : WitnessClaimed_1 := ⟨start1.p0, start1.e0, start1.about1, start1.theMethod, start1.args0, start1.below0, start1.atStart⟩
end Jvm.Pilot.@@N@@
