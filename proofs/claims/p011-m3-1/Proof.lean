import JvmDerived
import JvmDerived.Pilot.@@N@@Statement
import JvmDerived.Pilot.@@N@@Code
set_option linter.unusedVariables false
set_option linter.unusedSimpArgs false
namespace Jvm.Pilot.@@N@@
open Jvm Jvm.ClassFile Sem Op Lib Jvm.Free Jvm.Stand Jvm.LawKit Jvm.RoadKit Bundle Jvm.Pilot.@@N@@.Jvm.D
/-! own layer: a run that ends well, said backwards -/
section OwnGo
variable {p : Program} {l : Launch} {e : Env} {R : Room} {s : State} {m : MethodId} {args : Array Value} {below : List Frame} {meth : Method} {c : Code} {T T' : State} {locs : List Loc} {cells slots : Nat} {Z : State} {a0 : Array Value} {h : Heap} {Q : Option Value → Heap → List Loc → Prop} {C S maxL0 : Nat} {g g' : JFrame}
def Go (p : Program) (e : Env) (below : List Frame) (s : State) (Q : Option Value → Heap → List Loc → Prop) (C S : Nat) (T : State) (g : JFrame) : Prop :=
  ∃ s₂ o, Steps p.tables e below (T.setTop g) s₂ ∧ s₂.status = .running ∧ Ended s₂ below o ∧ ∃ v L, o = .returned v ∧ Q v s₂.heap L ∧ FrameEnd s o s₂ L C S
def Ct (p : Program) (s : State) (m : MethodId) (meth : Method) (c : Code) (Z : State) (own nm : String) (bytes : ByteArray) (maxL : Nat) (ret : Option FieldType) : Prop :=
  p.tables.exec = Jvm.exec ∧ Z.Warmed39 s.vm ∧ s.vm.findClass own = some m.cls ∧ c.code = bytes ∧ c.maxLocals = maxL ∧ meth.sig.returnType = ret ∧ meth.locks = false ∧ meth.name = nm
theorem go_st (k : ∀ t, Steps p.tables e below (T'.setTop g') t → Steps p.tables e below (T.setTop g) t) (q : Go p e below s Q C S T' g') : Go p e below s Q C S T g := by
  obtain ⟨s2, o, q1, q2⟩ := q
  exact ⟨s2, o, k _ q1, q2⟩
theorem castGo (q : g = g') (k : Go p e below s Q C S T g') : Go p e below s Q C S T g := by rw [q]; exact k
theorem go_tr (k : Steps p.tables e below (T.setTop g) (T'.setTop g')) (q : Go p e below s Q C S T' g') : Go p e below s Q C S T g := by
  obtain ⟨s2, o, q1, q2⟩ := q
  exact ⟨s2, o, k.trans q1, q2⟩
theorem go_end (X : Stand p l e R s m args below meth c T locs cells slots) (hlk : meth.locks = false) {v : Option Value} (hv : meth.sig.returnType = none → v = none)
    (hr : ∀ fs, (∀ (f : JFrame) (acts : List Action), f.method = m → f.locked = none → f.entered = [] → (doReturn e (T.setTop f) acts v).1 = T.setFrames fs) → Steps p.tables e below (T.setTop g) (T.setFrames fs))
    (hC : cells ≤ C) (hS : slots ≤ S) (hQ : Q v T.heap locs) : Go p e below s Q C S T g := by
  obtain ⟨fs, h1, hrun, hended, hW, hsame⟩ := X.leave (v := v) hv hlk
  exact ⟨_, _, hr fs h1, hrun, hended, _, _, rfl, hQ, ⟨_, rfl⟩, hW, hsame.mono hC hS⟩
theorem go_retI (X : Stand p l e R s m args below meth c T locs cells slots) (hx : p.tables.exec = Jvm.exec) (hlk : meth.locks = false) (hret : meth.sig.returnType = some .int) {pc : Nat} {Ls : Array Slot} {z : Int32} {rest : List Value} (hd : decode c.code pc = .ok (.ireturn, 1))
    (hC : cells ≤ C) (hS : slots ≤ S) (hQ : Q (some (.int z)) T.heap locs) : Go p e below s Q C S T (mkF m pc Ls (.int z :: rest)) :=
  go_end X hlk (fun h => by rw [hret] at h; cases h) (fun fs h1 => retOut X hx hret rfl (Or.inl ⟨rfl, Or.inl rfl, _, rfl⟩) hd h1) hC hS hQ
theorem go_retL (X : Stand p l e R s m args below meth c T locs cells slots) (hx : p.tables.exec = Jvm.exec) (hlk : meth.locks = false) (hret : meth.sig.returnType = some .long) {pc : Nat} {Ls : Array Slot} {z : Int64} {rest : List Value} (hd : decode c.code pc = .ok (.lreturn, 1))
    (hC : cells ≤ C) (hS : slots ≤ S) (hQ : Q (some (.long z)) T.heap locs) : Go p e below s Q C S T (mkF m pc Ls (.long z :: rest)) :=
  go_end X hlk (fun h => by rw [hret] at h; cases h) (fun fs h1 => retOut X hx hret rfl (Or.inr (Or.inl ⟨rfl, rfl, _, rfl⟩)) hd h1) hC hS hQ
theorem go_retD (X : Stand p l e R s m args below meth c T locs cells slots) (hx : p.tables.exec = Jvm.exec) (hlk : meth.locks = false) (hret : meth.sig.returnType = some .double) {pc : Nat} {Ls : Array Slot} {z : UInt64} {rest : List Value} (hd : decode c.code pc = .ok (.dreturn, 1))
    (hC : cells ≤ C) (hS : slots ≤ S) (hQ : Q (some (.double z)) T.heap locs) : Go p e below s Q C S T (mkF m pc Ls (.double z :: rest)) :=
  go_end X hlk (fun h => by rw [hret] at h; cases h) (fun fs h1 => retOut X hx hret rfl (Or.inr (Or.inr (Or.inl ⟨rfl, rfl, _, rfl⟩))) hd h1) hC hS hQ
theorem go_retA (X : Stand p l e R s m args below meth c T locs cells slots) (hx : p.tables.exec = Jvm.exec) (hlk : meth.locks = false) {t : FieldType} (hret : meth.sig.returnType = some t) (ht : t.isReference = true) {w : Value} (hw : w.isRef = true) {pc : Nat} {Ls : Array Slot} {rest : List Value} (hd : decode c.code pc = .ok (.areturn, 1))
    (hC : cells ≤ C) (hS : slots ≤ S) (hQ : Q (some w) T.heap locs) : Go p e below s Q C S T (mkF m pc Ls (w :: rest)) :=
  go_end X hlk (fun h => by rw [hret] at h; cases h) (fun fs h1 => retOut X hx hret (by cases t <;> simp_all [FieldType.isReference, narrow] <;> cases w <;> simp_all [Value.isRef, narrow]) (Or.inr (Or.inr (Or.inr (Or.inr ⟨rfl, ht, hw⟩)))) hd h1) hC hS hQ
theorem go_retB (X : Stand p l e R s m args below meth c T locs cells slots) (hx : p.tables.exec = Jvm.exec) (hlk : meth.locks = false) (hret : meth.sig.returnType = some .boolean) {pc : Nat} {Ls : Array Slot} {z w : Int32} {rest : List Value} (hd : decode c.code pc = .ok (.ireturn, 1)) (hw : z &&& 1 = w)
    (hC : cells ≤ C) (hS : slots ≤ S) (hQ : Q (some (.int w)) T.heap locs) : Go p e below s Q C S T (mkF m pc Ls (.int z :: rest)) := by
  subst hw
  exact go_end X hlk (fun h => by rw [hret] at h; cases h) (fun fs h1 => retN X hx (t := .boolean) hret (by simp) hd h1) hC hS hQ
theorem go_ret0 (X : Stand p l e R s m args below meth c T locs cells slots) (hx : p.tables.exec = Jvm.exec) (hlk : meth.locks = false) (hret : meth.sig.returnType = none) {pc : Nat} {Ls : Array Slot} (hd : decode c.code pc = .ok (.return_, 1))
    (hC : cells ≤ C) (hS : slots ≤ S) (hQ : Q none T.heap locs) : Go p e below s Q C S T (mkF m pc Ls []) :=
  go_end X hlk (fun _ => rfl) (fun fs h1 => X.returnOut hx hret hd h1) hC hS hQ
def Met (l : Launch) (y : MethodName) (bytes : ByteArray) (maxL : Nat) (ret : Option FieldType) (ws : List Cond) (rm : Room) (Z : State) (as' : Array Value) (h0 : Heap) (Q : Option Value → Heap → List Loc → Prop) (C S : Nat) : Prop :=
  MetFree l y (head1 (Jvm.Cond.code y bytes maxL ret :: ws) rm) (fun a U => a = as' ∧ Z.Warmed39 U.vm ∧ U.heap = h0) (fun _ _ _ _ _ => True) (fun _ U o U' => ∃ v L, o = .returned v ∧ Q v U'.heap L ∧ FrameEnd U o U' L C S)
def QV (w : Option Value) (h0 : Heap) (n0 : Nat) (v : Option Value) (h : Heap) (L : List Loc) : Prop := v = w ∧ Fr n0 L ∧ h = h0
def QF (w : Option Value) (n0 : Nat) (v : Option Value) (h : Heap) (L : List Loc) : Prop := v = w ∧ Fr n0 L
theorem own_body {y : MethodName} {bytes : ByteArray} {maxL : Nat} {ret : Option FieldType} {rm : Room} {as' : Array Value} {h0 : Heap} {ws : List Cond} (hn : plainName y.cls = true) {C S : Nat}
    (H : ∀ p e s m below meth c s₁, Ct p s m meth c Z y.cls y.name bytes maxL ret → Stand p l e rm s m as' below meth c s₁ [] 0 0 → s₁.heap = h0 → Go p e below s Q C S s₁ (entryFrame m as' maxL)) :
    Met l y bytes maxL ret ws rm Z as' h0 Q C S := by
  refine MetFree.of_bodySF (plainFor_of_name hn) hisR ?_
  intro p e s m args below meth c s₁ Bd hml0 hP hK
  obtain ⟨rfl, hZ, hh⟩ := hP
  have hown : s.vm.findClass y.cls = some m.cls := findClass_of_methodNamed Bd.named
  have hnm := (name_of_methodNamed Bd.named Bd.method).1
  have X0 : Stand p l e rm s m args below meth c s₁ [] 0 0 := Stand.of_body Bd
  have e0 : s₁.heap = h0 := by rw [← hh, Bd.state]; rfl
  exact H p e s m below meth c s₁ ⟨Bd.exec, hZ, hown, Bd.bytes, hml0, Bd.returns, Bd.notSynchronized, hnm⟩ X0 e0
theorem go_callS (X : Stand p l e R s m args below meth c T locs cells slots) (hx : p.tables.exec = Jvm.exec) (hZ : Z.Warmed39 s.vm) (hml : c.maxLocals = maxL0) {own : String} {index : Nat} {y : MethodName} {bytes : ByteArray} {maxL : Nat} {ret : Option FieldType} (hown : s.vm.findClass own = some m.cls)
    (w1 : (Cond.methodLink own index y).before a0 Z = true) (w2 : (Cond.static y).before a0 Z = true) (w3 : (Cond.initialized y.cls).before a0 Z = true) (w4 : (Cond.code y bytes maxL ret).before a0 Z = true) (eT : T.heap = h) {argsL rest : List Value} {rm : Room} {Q' : Option Value → Heap → List Loc → Prop} {W : Nat}
    (hM : Met l y bytes maxL ret [] rm Z argsL.toArray h Q' rm.cells rm.slots)
    (hd : decode c.code g.pc = .ok (.invokestatic index, 3)) (hs : g.stack = argsL.reverse ++ rest) (hg : g.method = m) (hsz : g.locals.size = maxL0) (hlen : ∀ sig, parseMethodDescriptor y.desc = some sig → argsL.length = sig.parameters.length) (hW : 2 * g.monitorRoom + (rest.map fun v => v.category).sum ≤ W)
    (hy : y.cls ≠ "java/lang/invoke/MethodHandle" ∧ y.cls ≠ "java/lang/invoke/VarHandle") (hf : rm.frames + 1 ≤ R.frames) (hl : W + (maxL + 11) + rm.locals ≤ R.locals) (hc : cells + rm.cells ≤ R.cells) (hsl : slots + rm.slots ≤ R.slots)
    (k : ∀ T' v L, Stand p l e R s m args below meth c T' (locs ++ L) (cells + rm.cells) (slots + rm.slots) → Q' v T'.heap L → Go p e below s Q C S T' { g with pc := g.pc + 3, stack := v.toList ++ rest }) : Go p e below s Q C S T g := by
  obtain ⟨v, _, ⟨T1, L1, k1, n1⟩, -, X1, ⟨Lc, hQ, l1, y1, z1⟩, st⟩ := Jvm.LawKit.callS X hx (y := y) hown (mvT hZ w1) (mvT hZ w2) (mvT hZ w3) (mvT hZ w4) hy (backOf (W := W) hM hZ w4 w3 hf hl) (g := g) hg (hsz.trans hml.symm) (argsL := argsL) (rest := rest) hlen hs hW hd (fun _ _ => ⟨rfl, eT, hc, hsl⟩)
  dsimp only [Pt.U, Pt.locs, Pt.cells, Pt.slots] at X1 l1 y1 z1 st hQ
  subst l1 y1 z1
  exact go_st st (k _ _ _ X1 hQ)
theorem go_callV (X : Stand p l e R s m args below meth c T locs cells slots) (hx : p.tables.exec = Jvm.exec) (hZ : Z.Warmed39 s.vm) (hml : c.maxLocals = maxL0) {own K : String} {index : Nat} {y z : MethodName} {bytes : ByteArray} {maxL : Nat} {ret : Option FieldType} (hown : s.vm.findClass own = some m.cls)
    (w1 : (Cond.methodLink own index y).before a0 Z = true) (w2 : (Cond.declares y).before a0 Z = true) (w2' : NotFace s y) (w3 : (Cond.selects K y z).before a0 Z = true) (w3' : (Cond.instanceMethod z).before a0 Z = true) (w4 : (Cond.code z bytes maxL ret).before a0 Z = true) (w5 : (Cond.initialized z.cls).before a0 Z = true) (eT : T.heap = h) {a : Addr} (E : Exa Z h a K) {argsL rest : List Value} {rm : Room} {Q' : Option Value → Heap → List Loc → Prop} {W : Nat}
    (hM : Met l z bytes maxL ret [] rm Z (.ref a :: argsL).toArray h Q' rm.cells rm.slots)
    (hd : decode c.code g.pc = .ok (.invokevirtual index, 3)) (hs : g.stack = argsL.reverse ++ .ref a :: rest) (hg : g.method = m) (hsz : g.locals.size = maxL0) (hlen : ∀ sig, parseMethodDescriptor y.desc = some sig → argsL.length = sig.parameters.length) (hW : 2 * g.monitorRoom + (rest.map fun v => v.category).sum ≤ W)
    (hy : y.cls ≠ "java/lang/invoke/MethodHandle" ∧ y.cls ≠ "java/lang/invoke/VarHandle") (hf : rm.frames + 1 ≤ R.frames) (hl : W + (maxL + 11) + rm.locals ≤ R.locals) (hc : cells + rm.cells ≤ R.cells) (hsl : slots + rm.slots ≤ R.slots)
    (k : ∀ T' v L, Stand p l e R s m args below meth c T' (locs ++ L) (cells + rm.cells) (slots + rm.slots) → Q' v T'.heap L → Go p e below s Q C S T' { g with pc := g.pc + 3, stack := v.toList ++ rest }) : Go p e below s Q C S T g := by
  obtain ⟨cB, kB, q1, q2, q3⟩ := isOf hZ eT E
  obtain ⟨v, _, ⟨T1, L1, k1, n1⟩, -, X1, ⟨Lc, hQ, l1, y1, z1⟩, st⟩ := X.virtualBack hx (y := y) (z := z) hown (mvT hZ w1) (mvT hZ w2) w2' (mvT hZ w3) (mvT hZ w3') hy (backOf (W := W) hM hZ w4 w5 hf hl) q1 q3 (g := g) hg (hsz.trans hml.symm) (Steps.refl _) (argsL := argsL) (rest := rest) hlen hs hW hd (fun _ _ => ⟨rfl, eT, hc, hsl⟩)
  dsimp only [Pt.U, Pt.locs, Pt.cells, Pt.slots] at X1 l1 y1 z1 st hQ
  subst l1 y1 z1
  exact go_tr st (k _ _ _ X1 hQ)
theorem go_callU (X : Stand p l e R s m args below meth c T locs cells slots) (hx : p.tables.exec = Jvm.exec) (hZ : Z.Warmed39 s.vm) (hml : c.maxLocals = maxL0) {own K owner : String} {index : Nat} {y z : MethodName} {bytes : ByteArray} {maxL : Nat} {ret : Option FieldType} (hown : s.vm.findClass own = some m.cls)
    (w1 : (Cond.methodLink own index y).before a0 Z = true) (w2 : (Cond.sameMethod y.cls owner y.name y.desc).before a0 Z = true) (w2' : (Cond.declares ⟨owner, y.name, y.desc⟩).before a0 Z = true) (ho : owner ≠ "java/lang/invoke/MethodHandle" ∧ owner ≠ "java/lang/invoke/VarHandle") (w3 : (Cond.selects K y z).before a0 Z = true) (w3' : (Cond.instanceMethod z).before a0 Z = true) (w4 : (Cond.code z bytes maxL ret).before a0 Z = true) (w5 : (Cond.initialized z.cls).before a0 Z = true) (eT : T.heap = h) {a : Addr} (E : Exa Z h a K) {argsL rest : List Value} {rm : Room} {Q' : Option Value → Heap → List Loc → Prop} {W : Nat}
    (hM : Met l z bytes maxL ret [] rm Z (.ref a :: argsL).toArray h Q' rm.cells rm.slots)
    (hd : decode c.code g.pc = .ok (.invokevirtual index, 3)) (hs : g.stack = argsL.reverse ++ .ref a :: rest) (hg : g.method = m) (hsz : g.locals.size = maxL0) (hlen : ∀ sig, parseMethodDescriptor y.desc = some sig → argsL.length = sig.parameters.length) (hW : 2 * g.monitorRoom + (rest.map fun v => v.category).sum ≤ W)
    (hf : rm.frames + 1 ≤ R.frames) (hl : W + (maxL + 11) + rm.locals ≤ R.locals) (hc : cells + rm.cells ≤ R.cells) (hsl : slots + rm.slots ≤ R.slots)
    (k : ∀ T' v L, Stand p l e R s m args below meth c T' (locs ++ L) (cells + rm.cells) (slots + rm.slots) → Q' v T'.heap L → Go p e below s Q C S T' { g with pc := g.pc + 3, stack := v.toList ++ rest }) : Go p e below s Q C S T g := by
  obtain ⟨cB, kB, q1, q2, q3⟩ := isOf hZ eT E
  obtain ⟨v, _, ⟨T1, L1, k1, n1⟩, -, X1, ⟨Lc, hQ, l1, y1, z1⟩, st⟩ := X.virtualBackUp hx (x := y) (y := z) hown (mvT hZ w1) (mvT hZ w2) (mvT hZ w2') ho (mvT hZ w3) (mvT hZ w3') (backOf (W := W) hM hZ w4 w5 hf hl) q1 q3 (g := g) hg (hsz.trans hml.symm) (Steps.refl _) (argsL := argsL) (rest := rest) hlen hs hW hd (fun _ _ => ⟨rfl, eT, hc, hsl⟩)
  dsimp only [Pt.U, Pt.locs, Pt.cells, Pt.slots] at X1 l1 y1 z1 st hQ
  subst l1 y1 z1
  exact go_tr st (k _ _ _ X1 hQ)
theorem go_callI (X : Stand p l e R s m args below meth c T locs cells slots) (hx : p.tables.exec = Jvm.exec) (hZ : Z.Warmed39 s.vm) (hml : c.maxLocals = maxL0) {own : String} {index : Nat} {y : MethodName} {bytes : ByteArray} {maxL : Nat} (hown : s.vm.findClass own = some m.cls) (hy1 : y.name = "<init>")
    (w1 : (Cond.methodLink own index y).before a0 Z = true) (w2 : (Cond.instanceMethod y).before a0 Z = true) (w4 : (Cond.code y bytes maxL none).before a0 Z = true) (w5 : (Cond.initialized y.cls).before a0 Z = true) (eT : T.heap = h) {a : Addr} {argsL rest : List Value} {rm : Room} {Q' : Option Value → Heap → List Loc → Prop} {W : Nat}
    (hM : Met l y bytes maxL none [] rm Z (.ref a :: argsL).toArray h Q' rm.cells rm.slots)
    (hd : decode c.code g.pc = .ok (.invokespecial index, 3)) (hs : g.stack = argsL.reverse ++ .ref a :: rest) (hg : g.method = m) (hsz : g.locals.size = maxL0) (hlen : ∀ sig, parseMethodDescriptor y.desc = some sig → argsL.length = sig.parameters.length) (hW : 2 * g.monitorRoom + (rest.map fun v => v.category).sum ≤ W)
    (hy : y.cls ≠ "java/lang/invoke/MethodHandle" ∧ y.cls ≠ "java/lang/invoke/VarHandle") (hf : rm.frames + 1 ≤ R.frames) (hl : W + (maxL + 11) + rm.locals ≤ R.locals) (hc : cells + rm.cells ≤ R.cells) (hsl : slots + rm.slots ≤ R.slots)
    (k : ∀ T' v L, Stand p l e R s m args below meth c T' (locs ++ L) (cells + rm.cells) (slots + rm.slots) → Q' v T'.heap L → Go p e below s Q C S T' { g with pc := g.pc + 3, stack := v.toList ++ rest }) : Go p e below s Q C S T g := by
  obtain ⟨v, _, ⟨T1, L1, k1, n1⟩, -, X1, ⟨Lc, hQ, l1, y1, z1⟩, st⟩ := X.specialBack hx (y := y) hy1 hown (mvT hZ w1) (mvT hZ w2) (mvT hZ w4) hy (backOf (W := W) hM hZ w4 w5 hf hl) (g := g) hg (hsz.trans hml.symm) (Steps.refl _) (a := a) (argsL := argsL) (rest := rest) hlen hs hW hd (fun _ _ => ⟨rfl, eT, hc, hsl⟩)
  dsimp only [Pt.U, Pt.locs, Pt.cells, Pt.slots] at X1 l1 y1 z1 st hQ
  subst l1 y1 z1
  exact go_tr st (k _ _ _ X1 hQ)
theorem go_getF (X : Stand p l e R s m args below meth c T locs cells slots) (hx : p.tables.exec = Jvm.exec) (hZ : Z.Warmed39 s.vm) {own R0 O n d host : String} {index : Nat} (hown : s.vm.findClass own = some m.cls) (w : (Cond.fieldLink own index R0 n d).before a0 Z = true ∨ (Cond.fieldLinkNest own index R0 n d host).before a0 Z = true) (via : Via Z R0 O n d)
    (eT : T.heap = h) {a : Addr} {v : Value} (F : Fld Z h a O n d v) {rest : List Value} (hd : decode c.code g.pc = .ok (.getfield index, 3)) (hg : g.method = m) (hs : g.stack = .ref a :: rest)
    (k : ∀ T', Stand p l e R s m args below meth c T' locs cells slots → T'.heap = h → Go p e below s Q C S T' { g with pc := g.pc + 3, stack := v :: rest }) : Go p e below s Q C S T g := by
  obtain ⟨T1, X1, e1, st⟩ := getF X hx hZ hown w via eT F hg hs hd
  exact go_st st (k _ X1 e1)
theorem go_getS (X : Stand p l e R s m args below meth c T locs cells slots) (hx : p.tables.exec = Jvm.exec) (hZ : Z.Warmed39 s.vm) {own R0 O n d host : String} {index : Nat} (hown : s.vm.findClass own = some m.cls) (w : (Cond.fieldLink own index R0 n d).before a0 Z = true ∨ (Cond.fieldLinkNest own index R0 n d host).before a0 Z = true) (via : Via Z R0 O n d)
    (eT : T.heap = h) {v : Value} (F : Sta Z h O n d v) (hd : decode c.code g.pc = .ok (.getstatic index, 3)) (hg : g.method = m)
    (k : ∀ T', Stand p l e R s m args below meth c T' locs cells slots → T'.heap = h → Go p e below s Q C S T' { g with pc := g.pc + 3, stack := v :: g.stack }) : Go p e below s Q C S T g := by
  obtain ⟨T1, X1, e1, st⟩ := getS2 X hx hZ hown w via eT F hg hd
  exact go_st st (k _ X1 e1)
theorem go_putF (X : Stand p l e R s m args below meth c T locs cells slots) (hx : p.tables.exec = Jvm.exec) (hZ : Z.Warmed39 s.vm) {own R0 O n d host K : String} {index kk : Nat} {ty : FieldType} (hown : s.vm.findClass own = some m.cls) (w : (Cond.fieldLink own index R0 n d).before a0 Z = true ∨ (Cond.fieldLinkNest own index R0 n d host).before a0 Z = true) (via : Via Z R0 O n d)
    (eT : T.heap = h) {a : Addr} {v old : Value} (F : Fld Z h a O n d old) (E : Exa Z h a K) (L : (Cond.lays K O n d).before a0 Z = true ∨ ((Cond.laysFinal K O n d).before a0 Z = true ∧ own = O ∧ meth.name = "<init>")) (wi : (Cond.instantiable K kk).before a0 Z = true)
    (hty : parseFieldDescriptor d = some ty) (hn : narrow ty v = v) (hf : fits ty v = true) {rest : List Value} (hd : decode c.code g.pc = .ok (.putfield index, 3)) (hg : g.method = m) (hs : g.stack = v :: .ref a :: rest)
    (k : ∀ T' h', Stand p l e R s m args below meth c T' (locs ++ [⟨a, Jvm.RoadKit.slotOf Z O n d⟩]) cells slots → T'.heap = h' → Wr h h' a (Jvm.RoadKit.slotOf Z O n d) v → Go p e below s Q C S T' { g with pc := g.pc + 3, stack := rest }) : Go p e below s Q C S T g := by
  obtain ⟨T1, h1, X1, e1, W1, st⟩ := putF X hx hZ hown w via eT F E L wi hty hn hf hg hs hd
  exact go_st st (k _ _ X1 e1 W1)
theorem go_newO (X : Stand p l e R s m args below meth c T locs cells slots) (hx : p.tables.exec = Jvm.exec) (hZ : Z.Warmed39 s.vm) {own K : String} {index n : Nat} (hown : s.vm.findClass own = some m.cls) (w : (Cond.classLink own index K).before a0 Z = true) (wi : (Cond.instantiable K n).before a0 Z = true) (wz : (Cond.initialized K).before a0 Z = true) (eT : T.heap = h)
    (hd : decode c.code g.pc = .ok (.new index, 3)) (hg : g.method = m) (hc : cells + 1 ≤ R.cells) (hl : slots + n ≤ R.slots)
    (k : ∀ T' h' a, a = h.size → Stand p l e R s m args below meth c T' locs (cells + 1) (slots + n) → T'.heap = h' → Ext h h' → Exa Z h' a K → (∀ {O nm d : String} {ty : FieldType}, Laid Z a0 K O nm d → parseFieldDescriptor d = some ty → Fld Z h' a O nm d (defaultValue ty)) → Go p e below s Q C S T' { g with pc := g.pc + 3, stack := .ref a :: g.stack }) : Go p e below s Q C S T g := by
  obtain ⟨T1, h1, X1, e1, E1, A1, D1, -, st⟩ := newO X hx hZ hown w wi wz eT hg hd hc hl
  exact go_st st (k _ _ _ rfl X1 e1 E1 A1 D1)
theorem go_initO (X : Stand p l e R s m args below meth c T locs cells slots) (hx : p.tables.exec = Jvm.exec) (hZ : Z.Warmed39 s.vm) (hml : c.maxLocals = maxL0) {own : String} {idx : Nat} (hown : s.vm.findClass own = some m.cls) (w1 : (Cond.methodLink own idx Lib.objectInit).before a0 Z = true) (w2 : (Cond.instanceMethod Lib.objectInit).before a0 Z = true)
    (w3 : (Cond.code Lib.objectInit ⟨#[0xb1]⟩ 1 none).before a0 Z = true) (eT : T.heap = h) {a : Addr} {rest : List Value} (hd : decode c.code g.pc = .ok (.invokespecial idx, 3)) (hg : g.method = m) (hsz : g.locals.size = maxL0) (hs : g.stack = .ref a :: rest)
    (hf : 1 ≤ R.frames) {W : Nat} (hW : 2 * g.monitorRoom + (rest.map fun v => v.category).sum ≤ W) (hl : W + 12 ≤ R.locals)
    (k : ∀ T', Stand p l e R s m args below meth c T' locs cells slots → T'.heap = h → Go p e below s Q C S T' { g with pc := g.pc + 3, stack := rest }) : Go p e below s Q C S T g := by
  obtain ⟨T1, X1, e1, st⟩ := initO X hx hZ hown w1 w2 w3 eT hg (hsz.trans hml.symm) hs hd hf hW hl
  exact go_st st (k _ X1 e1)
theorem own_lrem {tb : Tables} [Ours tb] {target : State} (hh : At T m c below) (hx : tb.exec = Jvm.exec) (hg : g.method = m) {x y : Int64} {rest : List Value} (hd : decode c.code g.pc = .ok (.lrem, 1)) (hs : g.stack = .long y :: .long x :: rest) (hy : y ≠ 0)
    (hr : Steps tb e below (T.setTop { g with pc := g.pc + 1, stack := .long (x % y) :: rest }) target) : Steps tb e below (T.setTop g) target :=
  XT.lrem hh hx hg hd hs hy (by rw [lrem_mod]; exact hr)
/-! arrays, their places by a function -/
def GA (Z : State) (h : Heap) (a : Addr) (ty : FieldType) (n : Nat) (f : Nat → Value) : Prop := ∃ cl : Cell, Arr Z h a cl ty ∧ cl.slots.size = n ∧ n < 2 ^ 31 ∧ ∀ i, i < n → cl.slots[i]? = some (f i)
theorem GA.lt {a : Addr} {ty : FieldType} {n : Nat} {f : Nat → Value} (A : GA Z h a ty n f) : a < h.size := by
  obtain ⟨cl, A1, -⟩ := A
  exact A1.lt
theorem GA.ext {a : Addr} {ty : FieldType} {n : Nat} {f : Nat → Value} {h' : Heap} (A : GA Z h a ty n f) (E : Ext h h') : GA Z h' a ty n f := by
  obtain ⟨cl, A1, r⟩ := A
  exact ⟨cl, A1.ext E, r⟩
theorem GA.other {a b : Addr} {ty : FieldType} {n sl : Nat} {v : Value} {f : Nat → Value} {h' : Heap} (A : GA Z h b ty n f) (W : Wr h h' a sl v) (q : b ≠ a) : GA Z h' b ty n f := by
  obtain ⟨cl, A1, r⟩ := A
  exact ⟨cl, A1.other W q, r⟩
theorem GA.keep {a : Addr} {ty : FieldType} {n : Nat} {f : Nat → Value} {h' : Heap} {ws : List Addr} (A : GA Z h a ty n f) (K : Keep h h' ws) (q : a ∉ ws) : GA Z h' a ty n f := by
  obtain ⟨cl, A1, r⟩ := A
  exact ⟨cl, ⟨K.2.1 _ _ A1.1 q, A1.2⟩, r⟩
theorem GA.congr {a : Addr} {ty : FieldType} {n : Nat} {f f' : Nat → Value} (A : GA Z h a ty n f) (q : ∀ i, i < n → f i = f' i) : GA Z h a ty n f' := by
  obtain ⟨cl, A1, A2, A3, A4⟩ := A
  exact ⟨cl, A1, A2, A3, fun i hi => (A4 i hi).trans (by rw [q i hi])⟩
theorem GA.set {a : Addr} {ty : FieldType} {n j : Nat} {v : Value} {f : Nat → Value} {h' : Heap} (A : GA Z h a ty n f) (W : Wr h h' a j v) : GA Z h' a ty n (fun i => if i = j then v else f i) := by
  obtain ⟨cl, A1, A2, A3, A4⟩ := A
  obtain ⟨c2, w1, w2, w3, w4⟩ := W
  obtain rfl : cl = c2 := Option.some.inj (A1.1.symm.trans w1)
  refine ⟨cl.setSlot j v, A1.same ⟨cl, w1, w2, w3, w4⟩, (sz_set cl j v).trans A2, A3, fun i hi => ?_⟩
  show (cl.slots.setIfInBounds j v)[i]? = _
  rw [Array.getElem?_setIfInBounds]
  by_cases q : i = j
  · subst q
    rw [if_pos rfl, if_pos w3]
    simp only [if_true]
  · rw [if_neg (fun h => q h.symm)]
    simp only [if_neg q]
    exact A4 i hi
theorem GA.len {a : Addr} {ty : FieldType} {n : Nat} {f : Nat → Value} (A : GA Z h a ty n f) : n < 2 ^ 31 := by
  obtain ⟨cl, -, -, A3, -⟩ := A
  exact A3
def OC (Z : State) (h : Heap) (a : Addr) (ty : FieldType) (K : String) : Prop := ∃ cl : Cell, Arr Z h a cl ty ∧ Ovr Z cl.cls K
theorem OC.ext {a : Addr} {ty : FieldType} {K : String} {h' : Heap} (A : OC Z h a ty K) (E : Ext h h') : OC Z h' a ty K := by
  obtain ⟨cl, A1, A2⟩ := A
  exact ⟨cl, A1.ext E, A2⟩
theorem OC.wr {a b : Addr} {ty : FieldType} {K : String} {sl : Nat} {v : Value} {h' : Heap} (A : OC Z h b ty K) (W : Wr h h' a sl v) : OC Z h' b ty K := by
  obtain ⟨cl, A1, A2⟩ := A
  by_cases q : b = a
  · subst q
    exact ⟨_, A1.same W, A2⟩
  · exact ⟨cl, A1.other W q, A2⟩
theorem OC.keep {b : Addr} {ty : FieldType} {K : String} {h' : Heap} {ws : List Addr} (A : OC Z h b ty K) (Kp : Keep h h' ws) : OC Z h' b ty K := by
  obtain ⟨cl, ⟨A1, A3, A4⟩, A2⟩ := A
  obtain ⟨c', q1, q2, q3, q4⟩ := Kp.2.2 _ _ A1
  refine ⟨c', ⟨q1, ?_, by rw [q3]; exact A4⟩, by rw [q2]; exact A2⟩
  unfold State.isArrayOf at A3 ⊢
  rw [q2, q3]
  exact A3
theorem OC.sto {a y : Addr} {ty : FieldType} {K : String} (A : OC Z h a ty K) (I : Ins Z h y K true) : Sto Z h a (.ref y) := by
  obtain ⟨cl, A1, A2⟩ := A
  exact Sto.of A1 A2 I
theorem own_in {j : Int32} {n : Nat} (q : 0 ≤ j.toInt ∧ j.toInt < n) : ¬ (j < 0 ∨ n ≤ j.toNatClampNeg) := by
  have h1 : (j.toNatClampNeg : Int) = j.toInt := by have := q.1; simp only [Int32.toNatClampNeg]; omega
  rw [Int32.lt_iff_toInt_lt]
  have : (0 : Int32).toInt = 0 := rfl
  omega
theorem go_alen (X : Stand p l e R s m args below meth c T locs cells slots) (hx : p.tables.exec = Jvm.exec) (hZ : Z.Warmed39 s.vm) (eT : T.heap = h) {a : Addr} {ty : FieldType} {n : Nat} {f : Nat → Value} (A : GA Z h a ty n f) {rest : List Value}
    (hd : decode c.code g.pc = .ok (.arraylength, 1)) (hg : g.method = m) (hs : g.stack = .ref a :: rest) (w : Int32) (hw : Nat.toInt32 n = w) (k : Go p e below s Q C S T { g with pc := g.pc + 1, stack := .int w :: rest }) : Go p e below s Q C S T g := by
  obtain ⟨cl, A1, rfl, -, -⟩ := A
  subst hw
  exact go_st (fun t => X.arraylength hx (by rw [eT]; exact A1.1) (State.isArrayOf_alike hZ.alike A1.2.1) hg hs hd t) k
theorem go_iald (X : Stand p l e R s m args below meth c T locs cells slots) (hx : p.tables.exec = Jvm.exec) (hZ : Z.Warmed39 s.vm) (eT : T.heap = h) {a : Addr} {n : Nat} {f : Nat → Value} (A : GA Z h a .int n f) {j : Int32} {rest : List Value}
    (hd : decode c.code g.pc = .ok (.iaload, 1)) (hg : g.method = m) (hs : g.stack = .int j :: .ref a :: rest) (q : 0 ≤ j.toInt ∧ j.toInt < n) (w : Value) (hw : f j.toNatClampNeg = w) (k : Go p e below s Q C S T { g with pc := g.pc + 1, stack := w :: rest }) : Go p e below s Q C S T g := by
  obtain ⟨cl, A1, rfl, -, A4⟩ := A
  have q2 := own_in q
  refine go_st (fun t => X.iaload hx (j := j) (v := w) (by rw [eT]; exact A1.1) (State.isArrayOf_alike hZ.alike A1.2.1) A1.2.2 q2 ?_ hg hs hd t) k
  rw [A4 _ (by omega), hw]
theorem go_lald (X : Stand p l e R s m args below meth c T locs cells slots) (hx : p.tables.exec = Jvm.exec) (hZ : Z.Warmed39 s.vm) (eT : T.heap = h) {a : Addr} {n : Nat} {f : Nat → Value} (A : GA Z h a .long n f) {j : Int32} {rest : List Value}
    (hd : decode c.code g.pc = .ok (.laload, 1)) (hg : g.method = m) (hs : g.stack = .int j :: .ref a :: rest) (q : 0 ≤ j.toInt ∧ j.toInt < n) (w : Value) (hw : f j.toNatClampNeg = w) (k : Go p e below s Q C S T { g with pc := g.pc + 1, stack := w :: rest }) : Go p e below s Q C S T g := by
  obtain ⟨cl, A1, rfl, -, A4⟩ := A
  have q2 := own_in q
  refine go_st (fun t => X.laload hx (j := j) (v := w) (by rw [eT]; exact A1.1) (State.isArrayOf_alike hZ.alike A1.2.1) A1.2.2 q2 ?_ hg hs hd t) k
  rw [A4 _ (by omega), hw]
theorem go_bald (X : Stand p l e R s m args below meth c T locs cells slots) (hx : p.tables.exec = Jvm.exec) (hZ : Z.Warmed39 s.vm) (eT : T.heap = h) {a : Addr} {n : Nat} {f : Nat → Value} (A : GA Z h a .byte n f) {j : Int32} {rest : List Value}
    (hd : decode c.code g.pc = .ok (.baload, 1)) (hg : g.method = m) (hs : g.stack = .int j :: .ref a :: rest) (q : 0 ≤ j.toInt ∧ j.toInt < n) (w : Value) (hw : f j.toNatClampNeg = w) (k : Go p e below s Q C S T { g with pc := g.pc + 1, stack := w :: rest }) : Go p e below s Q C S T g := by
  obtain ⟨cl, A1, rfl, -, A4⟩ := A
  have q2 := own_in q
  refine go_st (fun t => X.baloadBytes hx (j := j) (v := w) (by rw [eT]; exact A1.1) (State.isArrayOf_alike hZ.alike A1.2.1) A1.2.2 q2 ?_ hg hs hd t) k
  rw [A4 _ (by omega), hw]
theorem go_cald (X : Stand p l e R s m args below meth c T locs cells slots) (hx : p.tables.exec = Jvm.exec) (hZ : Z.Warmed39 s.vm) (eT : T.heap = h) {a : Addr} {n : Nat} {f : Nat → Value} (A : GA Z h a .char n f) {j : Int32} {rest : List Value}
    (hd : decode c.code g.pc = .ok (.caload, 1)) (hg : g.method = m) (hs : g.stack = .int j :: .ref a :: rest) (q : 0 ≤ j.toInt ∧ j.toInt < n) (w : Value) (hw : f j.toNatClampNeg = w) (k : Go p e below s Q C S T { g with pc := g.pc + 1, stack := w :: rest }) : Go p e below s Q C S T g := by
  obtain ⟨cl, A1, rfl, -, A4⟩ := A
  have q2 := own_in q
  refine go_st (fun t => X.caload hx (j := j) (v := w) (by rw [eT]; exact A1.1) (State.isArrayOf_alike hZ.alike A1.2.1) A1.2.2 q2 ?_ hg hs hd t) k
  rw [A4 _ (by omega), hw]
theorem go_aald (X : Stand p l e R s m args below meth c T locs cells slots) (hx : p.tables.exec = Jvm.exec) (hZ : Z.Warmed39 s.vm) (eT : T.heap = h) {a : Addr} {ty : FieldType} {n : Nat} {f : Nat → Value} (A : GA Z h a ty n f) (hty : ty.isReference = true) {j : Int32} {rest : List Value}
    (hd : decode c.code g.pc = .ok (.aaload, 1)) (hg : g.method = m) (hs : g.stack = .int j :: .ref a :: rest) (q : 0 ≤ j.toInt ∧ j.toInt < n) (w : Value) (hw : f j.toNatClampNeg = w) (k : Go p e below s Q C S T { g with pc := g.pc + 1, stack := w :: rest }) : Go p e below s Q C S T g := by
  obtain ⟨cl, A1, rfl, -, A4⟩ := A
  have q2 := own_in q
  refine go_st (fun t => X.aaload hx (j := j) (v := w) (by rw [eT]; exact A1.1) (State.isArrayOf_alike hZ.alike A1.2.1) hty A1.2.2 q2 ?_ hg hs hd t) k
  rw [A4 _ (by omega), hw]
theorem go_iast (X : Stand p l e R s m args below meth c T locs cells slots) (hx : p.tables.exec = Jvm.exec) (hZ : Z.Warmed39 s.vm) (eT : T.heap = h) {a : Addr} {n : Nat} {f : Nat → Value} (A : GA Z h a .int n f) {j x : Int32} {rest : List Value}
    (hd : decode c.code g.pc = .ok (.iastore, 1)) (hg : g.method = m) (hs : g.stack = .int x :: .int j :: .ref a :: rest) (q : 0 ≤ j.toInt ∧ j.toInt < n)
    (k : ∀ T' h', Stand p l e R s m args below meth c T' (locs ++ [⟨a, j.toNatClampNeg⟩]) cells slots → T'.heap = h' → Wr h h' a j.toNatClampNeg (.int x) → GA Z h' a .int n (fun i => if i = j.toNatClampNeg then .int x else f i) → Go p e below s Q C S T' { g with pc := g.pc + 1, stack := rest }) : Go p e below s Q C S T g := by
  have A' := A
  obtain ⟨cl, A1, rfl, -, A4⟩ := A
  obtain ⟨T1, h1, X1, e1, W1, st⟩ := stI X hx hZ eT A1 (own_in q) hg hs hd
  exact go_st st (k _ _ X1 e1 W1 (A'.set W1))
theorem go_last (X : Stand p l e R s m args below meth c T locs cells slots) (hx : p.tables.exec = Jvm.exec) (hZ : Z.Warmed39 s.vm) (eT : T.heap = h) {a : Addr} {n : Nat} {f : Nat → Value} (A : GA Z h a .long n f) {j : Int32} {x : Int64} {rest : List Value}
    (hd : decode c.code g.pc = .ok (.lastore, 1)) (hg : g.method = m) (hs : g.stack = .long x :: .int j :: .ref a :: rest) (q : 0 ≤ j.toInt ∧ j.toInt < n)
    (k : ∀ T' h', Stand p l e R s m args below meth c T' (locs ++ [⟨a, j.toNatClampNeg⟩]) cells slots → T'.heap = h' → Wr h h' a j.toNatClampNeg (.long x) → GA Z h' a .long n (fun i => if i = j.toNatClampNeg then .long x else f i) → Go p e below s Q C S T' { g with pc := g.pc + 1, stack := rest }) : Go p e below s Q C S T g := by
  have A' := A
  obtain ⟨cl, A1, rfl, -, A4⟩ := A
  obtain ⟨T1, h1, X1, e1, W1, st⟩ := stJ X hx hZ eT A1 (own_in q) hg hs hd
  exact go_st st (k _ _ X1 e1 W1 (A'.set W1))
theorem go_bast (X : Stand p l e R s m args below meth c T locs cells slots) (hx : p.tables.exec = Jvm.exec) (hZ : Z.Warmed39 s.vm) (eT : T.heap = h) {a : Addr} {n : Nat} {f : Nat → Value} (A : GA Z h a .byte n f) {j x : Int32} {rest : List Value}
    (hd : decode c.code g.pc = .ok (.bastore, 1)) (hg : g.method = m) (hs : g.stack = .int x :: .int j :: .ref a :: rest) (q : 0 ≤ j.toInt ∧ j.toInt < n)
    (k : ∀ T' h', Stand p l e R s m args below meth c T' (locs ++ [⟨a, j.toNatClampNeg⟩]) cells slots → T'.heap = h' → Wr h h' a j.toNatClampNeg (.int x.toInt8.toInt32) → GA Z h' a .byte n (fun i => if i = j.toNatClampNeg then .int x.toInt8.toInt32 else f i) → Go p e below s Q C S T' { g with pc := g.pc + 1, stack := rest }) : Go p e below s Q C S T g := by
  have A' := A
  obtain ⟨cl, A1, rfl, -, A4⟩ := A
  obtain ⟨T1, h1, X1, e1, W1, st⟩ := stB X hx hZ eT A1 (own_in q) hg hs hd
  exact go_st st (k _ _ X1 e1 W1 (A'.set W1))
theorem go_cast (X : Stand p l e R s m args below meth c T locs cells slots) (hx : p.tables.exec = Jvm.exec) (hZ : Z.Warmed39 s.vm) (eT : T.heap = h) {a : Addr} {n : Nat} {f : Nat → Value} (A : GA Z h a .char n f) {j x : Int32} {rest : List Value}
    (hd : decode c.code g.pc = .ok (.castore, 1)) (hg : g.method = m) (hs : g.stack = .int x :: .int j :: .ref a :: rest) (q : 0 ≤ j.toInt ∧ j.toInt < n)
    (k : ∀ T' h', Stand p l e R s m args below meth c T' (locs ++ [⟨a, j.toNatClampNeg⟩]) cells slots → T'.heap = h' → Wr h h' a j.toNatClampNeg (.int (nar .char x)) → GA Z h' a .char n (fun i => if i = j.toNatClampNeg then .int (nar .char x) else f i) → Go p e below s Q C S T' { g with pc := g.pc + 1, stack := rest }) : Go p e below s Q C S T g := by
  have A' := A
  obtain ⟨cl, A1, rfl, -, A4⟩ := A
  obtain ⟨T1, h1, X1, e1, W1, st⟩ := stC X hx hZ eT A1 (own_in q) hg hs hd
  exact go_st st (k _ _ X1 e1 W1 (A'.set W1))
theorem go_aast (X : Stand p l e R s m args below meth c T locs cells slots) (hx : p.tables.exec = Jvm.exec) (hZ : Z.Warmed39 s.vm) (eT : T.heap = h) {a : Addr} {ty : FieldType} {n : Nat} {f : Nat → Value} (A : GA Z h a ty n f) (hty : ty.isReference = true) {j : Int32} {v : Value} (F : Sto Z h a v) {rest : List Value}
    (hd : decode c.code g.pc = .ok (.aastore, 1)) (hg : g.method = m) (hs : g.stack = v :: .int j :: .ref a :: rest) (q : 0 ≤ j.toInt ∧ j.toInt < n)
    (k : ∀ T' h', Stand p l e R s m args below meth c T' (locs ++ [⟨a, j.toNatClampNeg⟩]) cells slots → T'.heap = h' → Wr h h' a j.toNatClampNeg v → GA Z h' a ty n (fun i => if i = j.toNatClampNeg then v else f i) → Go p e below s Q C S T' { g with pc := g.pc + 1, stack := rest }) : Go p e below s Q C S T g := by
  have A' := A
  obtain ⟨cl, A1, rfl, -, A4⟩ := A
  obtain ⟨T1, h1, X1, e1, W1, st⟩ := stR X hx hZ eT A1 (own_in q) hty F hg hs hd
  exact go_st st (k _ _ X1 e1 W1 (A'.set W1))
theorem own_clamp {n : Int32} {N : Nat} (q : n.toInt = N) : n.toNatClampNeg = N := by simp only [Int32.toNatClampNeg]; omega
theorem own_nneg {n : Int32} {N : Nat} (q : n.toInt = N) : ¬ n < 0 := by
  rw [Int32.lt_iff_toInt_lt]
  have : (0 : Int32).toInt = 0 := rfl
  omega
theorem go_newP (X : Stand p l e R s m args below meth c T locs cells slots) (hx : p.tables.exec = Jvm.exec) (hZ : Z.Warmed39 s.vm) {aty : ArrayType} (w : (Cond.arrayClass (newarray.typeOf aty)).before a0 Z = true) (eT : T.heap = h) {n : Int32} {rest : List Value} (hd : decode c.code g.pc = .ok (.newarray aty, 2)) (hg : g.method = m) (hs : g.stack = .int n :: rest)
    (N : Nat) (hn : n.toInt = N) (cap : Nat) (hcap : N ≤ cap) (hb : cap * 8 ≤ 536870912) (hc : cells + 1 ≤ R.cells) (hl : slots + cap ≤ R.slots)
    (k : ∀ T' h' a, a = h.size → Stand p l e R s m args below meth c T' locs (cells + 1) (slots + cap) → T'.heap = h' → Ext h h' → GA Z h' a (newarray.typeOf aty) N (fun _ => defaultValue (newarray.typeOf aty)) → Go p e below s Q C S T' { g with pc := g.pc + 2, stack := .ref a :: rest }) : Go p e below s Q C S T g := by
  have hN := own_clamp hn
  have hn0 := own_nneg hn
  obtain ⟨T1, h1, cA, X1, e1, E1, A1, st⟩ := newP X hx hZ w eT hg hd hs hn0 (cap := cap) (by omega) hb hc hl
  refine go_st st (k _ _ _ rfl X1 e1 E1 ⟨_, A1, (sz_new _ _ _).trans hN, ?_, fun i hi => ?_⟩)
  · have := (rng32 n).2
    omega
  · show (Array.replicate n.toNatClampNeg (defaultValue _))[i]? = _
    rw [hN, Array.getElem?_replicate, if_pos hi]
theorem go_newR (X : Stand p l e R s m args below meth c T locs cells slots) (hx : p.tables.exec = Jvm.exec) (hZ : Z.Warmed39 s.vm) {own K : String} {index : Nat} (hown : s.vm.findClass own = some m.cls) (w1 : (Cond.classLink own index K).before a0 Z = true) (w2 : (Cond.arrayOver (.object K)).before a0 Z = true) (eT : T.heap = h) {n : Int32} {rest : List Value} (hd : decode c.code g.pc = .ok (.anewarray index, 3)) (hg : g.method = m) (hs : g.stack = .int n :: rest)
    (N : Nat) (hn : n.toInt = N) (cap : Nat) (hcap : N ≤ cap) (hb : cap * 8 ≤ 536870912) (hc : cells + 1 ≤ R.cells) (hl : slots + cap ≤ R.slots)
    (k : ∀ T' h' a, a = h.size → Stand p l e R s m args below meth c T' locs (cells + 1) (slots + cap) → T'.heap = h' → Ext h h' → GA Z h' a (.object K) N (fun _ => .null) → OC Z h' a (.object K) K → Go p e below s Q C S T' { g with pc := g.pc + 3, stack := .ref a :: rest }) : Go p e below s Q C S T g := by
  have hN := own_clamp hn
  have hn0 := own_nneg hn
  obtain ⟨T1, h1, cA, X1, e1, E1, A1, O1, st⟩ := newR X hx hZ hown w1 w2 eT hg hd hs hn0 (cap := cap) (by omega) hb hc hl
  refine go_st st (k _ _ _ rfl X1 e1 E1 ⟨_, A1, (sz_new _ _ _).trans hN, ?_, fun i hi => ?_⟩ ⟨_, A1, O1⟩)
  · have := (rng32 n).2
    omega
  · show (Array.replicate n.toNatClampNeg (defaultValue _))[i]? = _
    rw [hN, Array.getElem?_replicate, if_pos hi]
    rfl
end OwnGo
theorem d2_0 : decode jdk_30_method_1_code 0 = .ok (.aload_n 0, 1) := by decide +kernel
theorem d2_1 : decode jdk_30_method_1_code 1 = .ok (.invokespecial 1, 3) := by decide +kernel
theorem d2_4 : decode jdk_30_method_1_code 4 = .ok (.return_, 1) := by decide +kernel
theorem pn0 : plainName "java/lang/Record" = true := by first | (simp [plainName, overriddenIn]; done) | decide +kernel
def Q_rec (Z : State) (a : Addr) (h0 : Heap) (n0 : Nat) (v : Option Value) (h : Heap) (L : List Loc) : Prop := v = none ∧ Fr n0 L ∧ Keep h0 h []
theorem ef_rec (m : MethodId) (a : Addr) : entryFrame m #[(.ref a)] 1 = mkF m 0 #[.val (.ref a)] [] := by first | (simp [entryFrame, mkF, argsToLocals, Value.category]; done) | rfl
abbrev rm_rec : Room := ({ frames := 1, cells := 0, slots := 0, locals := 12 } : Room)
set_option maxRecDepth 65536 in
set_option maxHeartbeats 4000000 in
theorem met_rec (l : Launch) (Z : State) (a0 : Array Value) (hw : ∀ d ∈ tables_1, d.before a0 Z = true) (a : Addr) (h0 : Heap) (n0 : Nat) (Z0 : n0 ≤ h0.size)  :
    Met l (⟨"java/lang/Record", "<init>", "()V"⟩ : MethodName) jdk_30_method_1_code 1 none [] rm_rec Z #[(.ref a)] h0 (Q_rec Z a h0 n0) rm_rec.cells rm_rec.slots := by
  refine own_body pn0 ?_
  intro p e s m below meth c s₁ ct X0 e0
  have ct0 := ct
  obtain ⟨hx, hZ, hown, hby, hml, hret, hlk, hnm⟩ := ct
  have N0 := Fr.nil n0
  refine castGo (ef_rec m a) ?_
  show Go p e below s _ _ _ s₁ (mkF m 0 #[.val (.ref a)] [])
  refine go_st (fun _ k => XS.aloadN X0.here hx rfl (hb hby d2_0) rfl rfl k) ?_
  show Go p e below s _ _ _ s₁ (mkF m 1 #[.val (.ref a)] [(.ref a)])
  refine go_initO X0 hx hZ hml hown (hw _ (List.mem_of_getElem? (i := 11) rfl)) (hw _ (List.mem_of_getElem? (i := 12) rfl)) (hw _ (List.mem_of_getElem? (i := 13) rfl)) e0 (hb hby d2_1) rfl rfl rfl (by decide) (W := 0) (by show 2 * 0 + _ ≤ _; exact Nat.le_of_eq rfl) (by decide) ?_
  intro T1 X1 e1
  show Go p e below s _ _ _ T1 (mkF m 4 #[.val (.ref a)] [])
  exact go_ret0 X1 hx hlk hret (hb hby d2_4) (by decide) (by decide) (by rw [e1]; exact ⟨rfl, N0, (Keep.refl h0 [])⟩)
theorem d1_0 : decode prog_41_method_1_code 0 = .ok (.aload_n 0, 1) := by decide +kernel
theorem d1_1 : decode prog_41_method_1_code 1 = .ok (.invokespecial 1, 3) := by decide +kernel
theorem d1_4 : decode prog_41_method_1_code 4 = .ok (.aload_n 0, 1) := by decide +kernel
theorem d1_5 : decode prog_41_method_1_code 5 = .ok (.aload_n 1, 1) := by decide +kernel
theorem d1_6 : decode prog_41_method_1_code 6 = .ok (.putfield 7, 3) := by decide +kernel
theorem d1_9 : decode prog_41_method_1_code 9 = .ok (.aload_n 0, 1) := by decide +kernel
theorem d1_10 : decode prog_41_method_1_code 10 = .ok (.iload_n 2, 1) := by decide +kernel
theorem d1_11 : decode prog_41_method_1_code 11 = .ok (.putfield 13, 3) := by decide +kernel
theorem d1_14 : decode prog_41_method_1_code 14 = .ok (.return_, 1) := by decide +kernel
theorem pn1 : plainName "com/example/quorumhelm/quorumhelm/ControlMessage$Entry" = true := by first | (simp [plainName, overriddenIn]; done) | decide +kernel
def Q_ini (Z : State) (a : Addr) (q : Int32) (h0 : Heap) (n0 : Nat) (v : Option Value) (h : Heap) (L : List Loc) : Prop := v = none ∧ Fr n0 L ∧ Keep h0 h [a] ∧ Exa Z h a "com/example/quorumhelm/quorumhelm/ControlMessage$Entry" ∧ Fld Z h a "com/example/quorumhelm/quorumhelm/ControlMessage$Entry" "port" "I" (.int q)
theorem pd0 : parseMethodDescriptor "()V" = some ⟨[], none⟩ := by decide +kernel
theorem ef_ini (m : MethodId) (a : Addr) (q : Int32) : entryFrame m #[(.ref a), .null, (.int q)] 3 = mkF m 0 #[.val (.ref a), .val .null, .val (.int q)] [] := by first | (simp [entryFrame, mkF, argsToLocals, Value.category]; done) | rfl
abbrev rm_ini : Room := ({ frames := 2, cells := 0, slots := 0, locals := 24 } : Room)
set_option maxRecDepth 65536 in
set_option maxHeartbeats 4000000 in
theorem met_ini (l : Launch) (Z : State) (a0 : Array Value) (hw : ∀ d ∈ tables_1, d.before a0 Z = true) (a : Addr) (q : Int32) (h0 : Heap) (n0 : Nat) (Z0 : n0 ≤ h0.size) (P0 : Fld Z h0 a "com/example/quorumhelm/quorumhelm/ControlMessage$Entry" "flow" "Lcom/example/quorumhelm/quorumhelm/Network$Flow;" .null) (P1 : Fld Z h0 a "com/example/quorumhelm/quorumhelm/ControlMessage$Entry" "port" "I" (.int (0 : Int32))) (P2 : Exa Z h0 a "com/example/quorumhelm/quorumhelm/ControlMessage$Entry") (P3 : n0 ≤ a) :
    Met l (⟨"com/example/quorumhelm/quorumhelm/ControlMessage$Entry", "<init>", "(Lcom/example/quorumhelm/quorumhelm/Network$Flow;I)V"⟩ : MethodName) prog_41_method_1_code 3 none [] rm_ini Z #[(.ref a), .null, (.int q)] h0 (Q_ini Z a q h0 n0) rm_ini.cells rm_ini.slots := by
  refine own_body pn1 ?_
  intro p e s m below meth c s₁ ct X0 e0
  have ct0 := ct
  obtain ⟨hx, hZ, hown, hby, hml, hret, hlk, hnm⟩ := ct
  have lt_a : a < h0.size := P2.lt
  have N0 := Fr.nil n0
  refine castGo (ef_ini m a q) ?_
  show Go p e below s _ _ _ s₁ (mkF m 0 #[.val (.ref a), .val .null, .val (.int q)] [])
  refine go_st (fun _ k => XS.aloadN X0.here hx rfl (hb hby d1_0) rfl rfl k) ?_
  show Go p e below s _ _ _ s₁ (mkF m 1 #[.val (.ref a), .val .null, .val (.int q)] [(.ref a)])
  refine go_callI X0 hx hZ hml hown rfl (hw _ (List.mem_of_getElem? (i := 6) rfl)) (hw _ (List.mem_of_getElem? (i := 7) rfl)) (hw _ (List.mem_of_getElem? (i := 10) rfl)) (hw _ (List.mem_of_getElem? (i := 9) rfl)) e0 (argsL := []) (rest := []) (W := 0) (met_rec l Z a0 hw a h0 n0 Z0 ) (hb hby d1_1) rfl rfl rfl (lenOf pd0 rfl) (by show 2 * 0 + _ ≤ _; exact Nat.le_of_eq rfl) (by decide) (by decide) (by decide) (by decide) (by decide) ?_
  intro T2 v2 L2 X2 q2
  obtain ⟨rfl, M2, K2⟩ := q2
  have N2 := Fr.app N0 M2
  show Go p e below s _ _ _ T2 (mkF m 4 #[.val (.ref a), .val .null, .val (.int q)] [])
  refine go_st (fun _ k => XS.aloadN X2.here hx rfl (hb hby d1_4) rfl rfl k) ?_
  show Go p e below s _ _ _ T2 (mkF m 5 #[.val (.ref a), .val .null, .val (.int q)] [(.ref a)])
  refine go_st (fun _ k => XS.aloadN X2.here hx rfl (hb hby d1_5) rfl rfl k) ?_
  show Go p e below s _ _ _ T2 (mkF m 6 #[.val (.ref a), .val .null, .val (.int q)] [.null, (.ref a)])
  have c3 := Fld.keep P0 K2 nin0
  have c4 := Exa.keep P2 K2
  refine go_putF X2 hx hZ hown (host := "") (Or.inl (hw _ (List.mem_of_getElem? (i := 14) rfl))) Via.refl rfl c3 c4 (Or.inr ⟨(hw _ (List.mem_of_getElem? (i := 15) rfl)), rfl, hnm⟩) (hw _ (List.mem_of_getElem? (i := 1) rfl)) (ty := (.object "com/example/quorumhelm/quorumhelm/Network$Flow")) (by decide) rfl rfl (hb hby d1_6) rfl rfl ?_
  intro T5 h5 X5 e5 W5
  have N5 := Fr.snoc X5 N2 P3
  have F5 : Fld Z h5 a "com/example/quorumhelm/quorumhelm/ControlMessage$Entry" "flow" "Lcom/example/quorumhelm/quorumhelm/Network$Flow;" .null := Fld.same W5 c3
  show Go p e below s _ _ _ T5 (mkF m 9 #[.val (.ref a), .val .null, .val (.int q)] [])
  refine go_st (fun _ k => XS.aloadN X5.here hx rfl (hb hby d1_9) rfl rfl k) ?_
  show Go p e below s _ _ _ T5 (mkF m 10 #[.val (.ref a), .val .null, .val (.int q)] [(.ref a)])
  refine go_st (fun _ k => XS.iloadN X5.here hx rfl (hb hby d1_10) rfl k) ?_
  show Go p e below s _ _ _ T5 (mkF m 11 #[.val (.ref a), .val .null, .val (.int q)] [(.int q), (.ref a)])
  have c6 := Fld.keep P1 K2 nin0
  have c7 := Fld.other W5 c6 (Or.inr (slot_ne (a0 := a0) (t := .int) (t' := (.object "com/example/quorumhelm/quorumhelm/Network$Flow")) (Or.inr (hw _ (List.mem_of_getElem? (i := 17) rfl))) (Or.inr (hw _ (List.mem_of_getElem? (i := 15) rfl))) (by decide) (by decide) (by decide)))
  have c8 := Exa.wr W5 c4
  refine go_putF X5 hx hZ hown (host := "") (Or.inl (hw _ (List.mem_of_getElem? (i := 16) rfl))) Via.refl e5 c7 c8 (Or.inr ⟨(hw _ (List.mem_of_getElem? (i := 17) rfl)), rfl, hnm⟩) (hw _ (List.mem_of_getElem? (i := 1) rfl)) (ty := .int) (by decide) rfl rfl (hb hby d1_11) rfl rfl ?_
  intro T9 h9 X9 e9 W9
  have N9 := Fr.snoc X9 N5 P3
  have F9 : Fld Z h9 a "com/example/quorumhelm/quorumhelm/ControlMessage$Entry" "port" "I" (.int q) := Fld.same W9 c7
  show Go p e below s _ _ _ T9 (mkF m 14 #[.val (.ref a), .val .null, .val (.int q)] [])
  have c10 := Exa.wr W9 c8
  exact go_ret0 X9 hx hlk hret (hb hby d1_14) (by decide) (by decide) (by rw [e9]; exact ⟨rfl, N9, (Keep.wr (Keep.wr (Keep.trans (Keep.refl h0 [a]) K2 all0) W5 (Or.inl (by simp))) W9 (Or.inl (by simp))), c10, F9⟩)
theorem d4_0 : decode prog_41_method_5_code 0 = .ok (.aload_n 0, 1) := by decide +kernel
theorem d4_1 : decode prog_41_method_5_code 1 = .ok (.getfield 13, 3) := by decide +kernel
theorem d4_4 : decode prog_41_method_5_code 4 = .ok (.bipush (-3), 2) := by decide +kernel
theorem d4_6 : decode prog_41_method_5_code 6 = .ok (.if_icmp .ne 7, 3) := by decide +kernel
theorem d4_9 : decode prog_41_method_5_code 9 = .ok (.iconst 1, 1) := by decide +kernel
theorem d4_10 : decode prog_41_method_5_code 10 = .ok (.goto 4, 3) := by decide +kernel
theorem d4_13 : decode prog_41_method_5_code 13 = .ok (.iconst 0, 1) := by decide +kernel
theorem d4_14 : decode prog_41_method_5_code 14 = .ok (.ireturn, 1) := by decide +kernel
def fTo (q : Int32) : Int32 := (if q = (-3 : Int32) then (1 : Int32) else (0 : Int32))
theorem ef_4 (m : MethodId) (a : Addr) (q : Int32) : entryFrame m #[(.ref a)] 1 = mkF m 0 #[.val (.ref a)] [] := by first | (simp [entryFrame, mkF, argsToLocals, Value.category]; done) | rfl
abbrev rm_4 : Room := ({ frames := 0, cells := 0, slots := 0, locals := 0 } : Room)
set_option maxRecDepth 65536 in
set_option maxHeartbeats 4000000 in
theorem met_4 (l : Launch) (Z : State) (a0 : Array Value) (hw : ∀ d ∈ tables_1, d.before a0 Z = true) (a : Addr) (q : Int32) (h0 : Heap) (n0 : Nat) (Z0 : n0 ≤ h0.size) (P0 : Exa Z h0 a "com/example/quorumhelm/quorumhelm/ControlMessage$Entry") (P1 : Fld Z h0 a "com/example/quorumhelm/quorumhelm/ControlMessage$Entry" "port" "I" (.int q)) :
    Met l (⟨"com/example/quorumhelm/quorumhelm/ControlMessage$Entry", "toController", "()Z"⟩ : MethodName) prog_41_method_5_code 1 (some FieldType.boolean) [] rm_4 Z #[(.ref a)] h0 (QV (some (.int (fTo q))) h0 n0) 0 0 := by
  refine own_body pn1 ?_
  intro p e s m below meth c s₁ ct X0 e0
  have ct0 := ct
  obtain ⟨hx, hZ, hown, hby, hml, hret, hlk, hnm⟩ := ct
  have N0 := Fr.nil n0
  refine castGo (ef_4 m a q) ?_
  unfold fTo
  show Go p e below s _ _ _ s₁ (mkF m 0 #[.val (.ref a)] [])
  refine go_st (fun _ k => XS.aloadN X0.here hx rfl (hb hby d4_0) rfl rfl k) ?_
  show Go p e below s _ _ _ s₁ (mkF m 1 #[.val (.ref a)] [(.ref a)])
  refine go_getF X0 hx hZ hown (host := "") (Or.inl (hw _ (List.mem_of_getElem? (i := 16) rfl))) Via.refl e0 P1 (hb hby d4_1) rfl rfl ?_
  intro T11 X11 e11
  show Go p e below s _ _ _ T11 (mkF m 4 #[.val (.ref a)] [(.int q)])
  refine go_st (fun _ k => XT.bipushV X11.here hx rfl (-3 : Int32) (hb hby d4_4) (by decide) k) ?_
  show Go p e below s _ _ _ T11 (mkF m 6 #[.val (.ref a)] [(.int (-3 : Int32)), (.int q)])
  by_cases hc12 : q = (-3 : Int32)
  · rw [if_pos hc12]
    refine go_st (fun _ k => XS.icmpNo X11.here hx rfl (hb hby d4_6) rfl (XT.ii_ne_f hc12) k) ?_
    show Go p e below s _ _ _ T11 (mkF m 9 #[.val (.ref a)] [])
    refine go_st (fun _ k => XT.iconstV X11.here hx rfl (1 : Int32) (hb hby d4_9) (by decide) k) ?_
    show Go p e below s _ _ _ T11 (mkF m 10 #[.val (.ref a)] [(.int (1 : Int32))])
    refine go_st (fun _ k => XS.goto X11.here hx rfl (pc0 := 10) (pc' := 14) rfl (hb hby d4_10) (by decide) (by decide) k) ?_
    show Go p e below s _ _ _ T11 (mkF m 14 #[.val (.ref a)] [(.int (1 : Int32))])
    exact go_retB (w := (1 : Int32)) X11 hx hlk hret (hb hby d4_14) (by decide) (by decide) (by decide) ⟨rfl, N0, e11⟩
  · rw [if_neg hc12]
    refine go_st (fun _ k => XS.icmpYes X11.here hx rfl (pc0 := 6) (pc' := 13) rfl (hb hby d4_6) rfl (XT.ii_ne_t hc12) (by decide) (by decide) k) ?_
    show Go p e below s _ _ _ T11 (mkF m 13 #[.val (.ref a)] [])
    refine go_st (fun _ k => XT.iconstV X11.here hx rfl (0 : Int32) (hb hby d4_13) (by decide) k) ?_
    show Go p e below s _ _ _ T11 (mkF m 14 #[.val (.ref a)] [(.int (0 : Int32))])
    exact go_retB (w := (0 : Int32)) X11 hx hlk hret (hb hby d4_14) (by decide) (by decide) (by decide) ⟨rfl, N0, e11⟩
theorem d5_0 : decode prog_41_method_4_code 0 = .ok (.aload_n 0, 1) := by decide +kernel
theorem d5_1 : decode prog_41_method_4_code 1 = .ok (.getfield 13, 3) := by decide +kernel
theorem d5_4 : decode prog_41_method_4_code 4 = .ok (.ifCond .ne 7, 3) := by decide +kernel
theorem d5_7 : decode prog_41_method_4_code 7 = .ok (.iconst 1, 1) := by decide +kernel
theorem d5_8 : decode prog_41_method_4_code 8 = .ok (.goto 4, 3) := by decide +kernel
theorem d5_11 : decode prog_41_method_4_code 11 = .ok (.iconst 0, 1) := by decide +kernel
theorem d5_12 : decode prog_41_method_4_code 12 = .ok (.ireturn, 1) := by decide +kernel
def fRem (q : Int32) : Int32 := (if q = (0 : Int32) then (1 : Int32) else (0 : Int32))
theorem ef_5 (m : MethodId) (a : Addr) (q : Int32) : entryFrame m #[(.ref a)] 1 = mkF m 0 #[.val (.ref a)] [] := by first | (simp [entryFrame, mkF, argsToLocals, Value.category]; done) | rfl
abbrev rm_5 : Room := ({ frames := 0, cells := 0, slots := 0, locals := 0 } : Room)
set_option maxRecDepth 65536 in
set_option maxHeartbeats 4000000 in
theorem met_5 (l : Launch) (Z : State) (a0 : Array Value) (hw : ∀ d ∈ tables_1, d.before a0 Z = true) (a : Addr) (q : Int32) (h0 : Heap) (n0 : Nat) (Z0 : n0 ≤ h0.size) (P0 : Exa Z h0 a "com/example/quorumhelm/quorumhelm/ControlMessage$Entry") (P1 : Fld Z h0 a "com/example/quorumhelm/quorumhelm/ControlMessage$Entry" "port" "I" (.int q)) :
    Met l (⟨"com/example/quorumhelm/quorumhelm/ControlMessage$Entry", "removes", "()Z"⟩ : MethodName) prog_41_method_4_code 1 (some FieldType.boolean) [] rm_5 Z #[(.ref a)] h0 (QV (some (.int (fRem q))) h0 n0) 0 0 := by
  refine own_body pn1 ?_
  intro p e s m below meth c s₁ ct X0 e0
  have ct0 := ct
  obtain ⟨hx, hZ, hown, hby, hml, hret, hlk, hnm⟩ := ct
  have N0 := Fr.nil n0
  refine castGo (ef_5 m a q) ?_
  unfold fRem
  show Go p e below s _ _ _ s₁ (mkF m 0 #[.val (.ref a)] [])
  refine go_st (fun _ k => XS.aloadN X0.here hx rfl (hb hby d5_0) rfl rfl k) ?_
  show Go p e below s _ _ _ s₁ (mkF m 1 #[.val (.ref a)] [(.ref a)])
  refine go_getF X0 hx hZ hown (host := "") (Or.inl (hw _ (List.mem_of_getElem? (i := 16) rfl))) Via.refl e0 P1 (hb hby d5_1) rfl rfl ?_
  intro T13 X13 e13
  show Go p e below s _ _ _ T13 (mkF m 4 #[.val (.ref a)] [(.int q)])
  by_cases hc14 : q = (0 : Int32)
  · rw [if_pos hc14]
    refine go_st (fun _ k => XS.ifNo X13.here hx rfl (hb hby d5_4) rfl (XT.i0_ne_f hc14) k) ?_
    show Go p e below s _ _ _ T13 (mkF m 7 #[.val (.ref a)] [])
    refine go_st (fun _ k => XT.iconstV X13.here hx rfl (1 : Int32) (hb hby d5_7) (by decide) k) ?_
    show Go p e below s _ _ _ T13 (mkF m 8 #[.val (.ref a)] [(.int (1 : Int32))])
    refine go_st (fun _ k => XS.goto X13.here hx rfl (pc0 := 8) (pc' := 12) rfl (hb hby d5_8) (by decide) (by decide) k) ?_
    show Go p e below s _ _ _ T13 (mkF m 12 #[.val (.ref a)] [(.int (1 : Int32))])
    exact go_retB (w := (1 : Int32)) X13 hx hlk hret (hb hby d5_12) (by decide) (by decide) (by decide) ⟨rfl, N0, e13⟩
  · rw [if_neg hc14]
    refine go_st (fun _ k => XS.ifYes X13.here hx rfl (pc0 := 4) (pc' := 11) rfl (hb hby d5_4) rfl (XT.i0_ne_t hc14) (by decide) (by decide) k) ?_
    show Go p e below s _ _ _ T13 (mkF m 11 #[.val (.ref a)] [])
    refine go_st (fun _ k => XT.iconstV X13.here hx rfl (0 : Int32) (hb hby d5_11) (by decide) k) ?_
    show Go p e below s _ _ _ T13 (mkF m 12 #[.val (.ref a)] [(.int (0 : Int32))])
    exact go_retB (w := (0 : Int32)) X13 hx hlk hret (hb hby d5_12) (by decide) (by decide) (by decide) ⟨rfl, N0, e13⟩
theorem d6_0 : decode prog_41_method_6_code 0 = .ok (.aload_n 0, 1) := by decide +kernel
theorem d6_1 : decode prog_41_method_6_code 1 = .ok (.invokevirtual 32, 3) := by decide +kernel
theorem d6_4 : decode prog_41_method_6_code 4 = .ok (.ifCond .ne 14, 3) := by decide +kernel
theorem d6_7 : decode prog_41_method_6_code 7 = .ok (.aload_n 0, 1) := by decide +kernel
theorem d6_8 : decode prog_41_method_6_code 8 = .ok (.invokevirtual 36, 3) := by decide +kernel
theorem d6_11 : decode prog_41_method_6_code 11 = .ok (.ifCond .ne 7, 3) := by decide +kernel
theorem d6_14 : decode prog_41_method_6_code 14 = .ok (.iconst 1, 1) := by decide +kernel
theorem d6_15 : decode prog_41_method_6_code 15 = .ok (.goto 4, 3) := by decide +kernel
theorem d6_18 : decode prog_41_method_6_code 18 = .ok (.iconst 0, 1) := by decide +kernel
theorem d6_19 : decode prog_41_method_6_code 19 = .ok (.ireturn, 1) := by decide +kernel
theorem pd1 : parseMethodDescriptor "()Z" = some ⟨[], (some .boolean)⟩ := by decide +kernel
def fFwd (q : Int32) : Int32 := (if (fRem q) = (0 : Int32) then (if (fTo q) = (0 : Int32) then (1 : Int32) else (0 : Int32)) else (0 : Int32))
theorem ef_6 (m : MethodId) (a : Addr) (q : Int32) : entryFrame m #[(.ref a)] 1 = mkF m 0 #[.val (.ref a)] [] := by first | (simp [entryFrame, mkF, argsToLocals, Value.category]; done) | rfl
abbrev rm_6 : Room := ({ frames := 1, cells := 0, slots := 0, locals := 12 } : Room)
set_option maxRecDepth 65536 in
set_option maxHeartbeats 4000000 in
theorem met_6 (l : Launch) (Z : State) (a0 : Array Value) (hw : ∀ d ∈ tables_1, d.before a0 Z = true) (a : Addr) (q : Int32) (h0 : Heap) (n0 : Nat) (Z0 : n0 ≤ h0.size) (P0 : Exa Z h0 a "com/example/quorumhelm/quorumhelm/ControlMessage$Entry") (P1 : Fld Z h0 a "com/example/quorumhelm/quorumhelm/ControlMessage$Entry" "port" "I" (.int q)) :
    Met l (⟨"com/example/quorumhelm/quorumhelm/ControlMessage$Entry", "forwards", "()Z"⟩ : MethodName) prog_41_method_6_code 1 (some FieldType.boolean) [] rm_6 Z #[(.ref a)] h0 (QV (some (.int (fFwd q))) h0 n0) 0 0 := by
  refine own_body pn1 ?_
  intro p e s m below meth c s₁ ct X0 e0
  have ct0 := ct
  obtain ⟨hx, hZ, hown, hby, hml, hret, hlk, hnm⟩ := ct
  have N0 := Fr.nil n0
  refine castGo (ef_6 m a q) ?_
  unfold fFwd
  show Go p e below s _ _ _ s₁ (mkF m 0 #[.val (.ref a)] [])
  refine go_st (fun _ k => XS.aloadN X0.here hx rfl (hb hby d6_0) rfl rfl k) ?_
  show Go p e below s _ _ _ s₁ (mkF m 1 #[.val (.ref a)] [(.ref a)])
  refine go_callV X0 hx hZ hml hown (hw _ (List.mem_of_getElem? (i := 33) rfl)) (hw _ (List.mem_of_getElem? (i := 24) rfl)) (notFace_of_selects (args := #[]) (mvT hZ (hw _ (List.mem_of_getElem? (i := 26) rfl)))) (hw _ (List.mem_of_getElem? (i := 26) rfl)) (hw _ (List.mem_of_getElem? (i := 25) rfl)) (hw _ (List.mem_of_getElem? (i := 27) rfl)) (hw _ (List.mem_of_getElem? (i := 2) rfl)) e0 P0 (argsL := []) (rest := []) (W := 0) (met_5 l Z a0 hw a q h0 n0 Z0 P0 P1) (hb hby d6_1) rfl rfl rfl (lenOf pd1 rfl) (by show 2 * 0 + _ ≤ _; exact Nat.le_of_eq rfl) (by decide) (by decide) (by decide) (by decide) (by decide) ?_
  intro T15 v15 L15 X15 q15
  obtain ⟨rfl, M15, e15⟩ := q15
  have N15 := Fr.app N0 M15
  show Go p e below s _ _ _ T15 (mkF m 4 #[.val (.ref a)] [(.int (fRem q))])
  by_cases hc16 : (fRem q) = (0 : Int32)
  · rw [if_pos hc16]
    refine go_st (fun _ k => XS.ifNo X15.here hx rfl (hb hby d6_4) rfl (XT.i0_ne_f hc16) k) ?_
    show Go p e below s _ _ _ T15 (mkF m 7 #[.val (.ref a)] [])
    refine go_st (fun _ k => XS.aloadN X15.here hx rfl (hb hby d6_7) rfl rfl k) ?_
    show Go p e below s _ _ _ T15 (mkF m 8 #[.val (.ref a)] [(.ref a)])
    refine go_callV X15 hx hZ hml hown (hw _ (List.mem_of_getElem? (i := 34) rfl)) (hw _ (List.mem_of_getElem? (i := 19) rfl)) (notFace_of_selects (args := #[]) (mvT hZ (hw _ (List.mem_of_getElem? (i := 21) rfl)))) (hw _ (List.mem_of_getElem? (i := 21) rfl)) (hw _ (List.mem_of_getElem? (i := 20) rfl)) (hw _ (List.mem_of_getElem? (i := 22) rfl)) (hw _ (List.mem_of_getElem? (i := 2) rfl)) e15 P0 (argsL := []) (rest := []) (W := 0) (met_4 l Z a0 hw a q h0 n0 Z0 P0 P1) (hb hby d6_8) rfl rfl rfl (lenOf pd1 rfl) (by show 2 * 0 + _ ≤ _; exact Nat.le_of_eq rfl) (by decide) (by decide) (by decide) (by decide) (by decide) ?_
    intro T17 v17 L17 X17 q17
    obtain ⟨rfl, M17, e17⟩ := q17
    have N17 := Fr.app N15 M17
    show Go p e below s _ _ _ T17 (mkF m 11 #[.val (.ref a)] [(.int (fTo q))])
    by_cases hc18 : (fTo q) = (0 : Int32)
    · rw [if_pos hc18]
      refine go_st (fun _ k => XS.ifNo X17.here hx rfl (hb hby d6_11) rfl (XT.i0_ne_f hc18) k) ?_
      show Go p e below s _ _ _ T17 (mkF m 14 #[.val (.ref a)] [])
      refine go_st (fun _ k => XT.iconstV X17.here hx rfl (1 : Int32) (hb hby d6_14) (by decide) k) ?_
      show Go p e below s _ _ _ T17 (mkF m 15 #[.val (.ref a)] [(.int (1 : Int32))])
      refine go_st (fun _ k => XS.goto X17.here hx rfl (pc0 := 15) (pc' := 19) rfl (hb hby d6_15) (by decide) (by decide) k) ?_
      show Go p e below s _ _ _ T17 (mkF m 19 #[.val (.ref a)] [(.int (1 : Int32))])
      exact go_retB (w := (1 : Int32)) X17 hx hlk hret (hb hby d6_19) (by decide) (by decide) (by decide) ⟨rfl, N17, e17⟩
    · rw [if_neg hc18]
      refine go_st (fun _ k => XS.ifYes X17.here hx rfl (pc0 := 11) (pc' := 18) rfl (hb hby d6_11) rfl (XT.i0_ne_t hc18) (by decide) (by decide) k) ?_
      show Go p e below s _ _ _ T17 (mkF m 18 #[.val (.ref a)] [])
      refine go_st (fun _ k => XT.iconstV X17.here hx rfl (0 : Int32) (hb hby d6_18) (by decide) k) ?_
      show Go p e below s _ _ _ T17 (mkF m 19 #[.val (.ref a)] [(.int (0 : Int32))])
      exact go_retB (w := (0 : Int32)) X17 hx hlk hret (hb hby d6_19) (by decide) (by decide) (by decide) ⟨rfl, N17, e17⟩
  · rw [if_neg hc16]
    refine go_st (fun _ k => XS.ifYes X15.here hx rfl (pc0 := 4) (pc' := 18) rfl (hb hby d6_4) rfl (XT.i0_ne_t hc16) (by decide) (by decide) k) ?_
    show Go p e below s _ _ _ T15 (mkF m 18 #[.val (.ref a)] [])
    refine go_st (fun _ k => XT.iconstV X15.here hx rfl (0 : Int32) (hb hby d6_18) (by decide) k) ?_
    show Go p e below s _ _ _ T15 (mkF m 19 #[.val (.ref a)] [(.int (0 : Int32))])
    exact go_retB (w := (0 : Int32)) X15 hx hlk hret (hb hby d6_19) (by decide) (by decide) (by decide) ⟨rfl, N15, e15⟩
theorem pn2 : plainName "com/example/quorumhelm/quorumhelm/EntryToControllerPinLaw" = true := by first | (simp [plainName, overriddenIn]; done) | decide +kernel
theorem pd2 : parseMethodDescriptor "(Lcom/example/quorumhelm/quorumhelm/Network$Flow;I)V" = some ⟨[(.object "com/example/quorumhelm/quorumhelm/Network$Flow"), .int], none⟩ := by decide +kernel
def fLaw_139 (y0 : Int32) (y1 : Int32) (y2 : Int32) (y3 : Int32) (y5 : Int32) (y6 : Int32) (y7 : Int32) (y8 : Int32) (y9 : Int32) : Int32 := (if y5 = y8 then (if y9 = (1 : Int32) then (1 : Int32) else (0 : Int32)) else (0 : Int32))
def fLaw_126 (y0 : Int32) (y1 : Int32) (y2 : Int32) (y3 : Int32) (y5 : Int32) (y6 : Int32) (y7 : Int32) (y8 : Int32) (y9 : Int32) : Int32 := (if y7 = (0 : Int32) then (fLaw_139 y0 y1 y2 y3 y5 y6 y7 y8 (y9 + (0 : Int32))) else (fLaw_139 y0 y1 y2 y3 y5 y6 y7 y8 (y9 + (1 : Int32))))
def fLaw_115 (y0 : Int32) (y1 : Int32) (y2 : Int32) (y3 : Int32) (y5 : Int32) (y6 : Int32) (y7 : Int32) (y8 : Int32) (y9 : Int32) : Int32 := (if y5 = (0 : Int32) then (fLaw_126 y0 y1 y2 y3 y5 y6 y7 y8 (y9 + (0 : Int32))) else (fLaw_126 y0 y1 y2 y3 y5 y6 y7 y8 (y9 + (1 : Int32))))
def fLaw_105 (y0 : Int32) (y1 : Int32) (y2 : Int32) (y3 : Int32) (y5 : Int32) (y6 : Int32) (y7 : Int32) (y8 : Int32) : Int32 := (if y6 = (0 : Int32) then (fLaw_115 y0 y1 y2 y3 y5 y6 y7 y8 (0 : Int32)) else (fLaw_115 y0 y1 y2 y3 y5 y6 y7 y8 (1 : Int32)))
def fLaw_92 (y0 : Int32) (y1 : Int32) (y2 : Int32) (y3 : Int32) (y5 : Int32) (y6 : Int32) (y7 : Int32) : Int32 := (if y3 = (-3 : Int32) then (fLaw_105 y0 y1 y2 y3 y5 y6 y7 (1 : Int32)) else (fLaw_105 y0 y1 y2 y3 y5 y6 y7 (0 : Int32)))
def fLaw_60 (y0 : Int32) (y1 : Int32) (y2 : Int32) (y3 : Int32) : Int32 := (fLaw_92 y0 y1 y2 y3 (fTo y3) (fRem y3) (fFwd y3))
def fLaw (x0 : Int32) (x1 : Int32) : Int32 := (if (x1 &&& (7 : Int32)) = (0 : Int32) then (fLaw_60 x0 x1 (x1 &&& (7 : Int32)) (-3 : Int32)) else (if (x1 &&& (7 : Int32)) = (1 : Int32) then (fLaw_60 x0 x1 (x1 &&& (7 : Int32)) (-2 : Int32)) else (if (x1 &&& (7 : Int32)) = (2 : Int32) then (fLaw_60 x0 x1 (x1 &&& (7 : Int32)) (-4 : Int32)) else (if (x1 &&& (7 : Int32)) = (3 : Int32) then (fLaw_60 x0 x1 (x1 &&& (7 : Int32)) (0 : Int32)) else (if (x1 &&& (7 : Int32)) = (4 : Int32) then (fLaw_60 x0 x1 (x1 &&& (7 : Int32)) (65279 : Int32)) else (fLaw_60 x0 x1 (x1 &&& (7 : Int32)) x0))))))
theorem ef_law (m : MethodId) (x0 : Int32) (x1 : Int32) : entryFrame m #[(.int x0), (.int x1)] maxLocals = mkF m 0 #[.val (.int x0), .val (.int x1), .unset, .unset, .unset, .unset, .unset, .unset, .unset, .unset] [] := by first | (simp [entryFrame, mkF, argsToLocals, Value.category, maxLocals]; done) | rfl
set_option maxRecDepth 65536 in
set_option maxHeartbeats 4000000 in
theorem blk_fLaw_139 (l : Launch) (Z : State) (a0 : Array Value) (hw : ∀ d ∈ tables_1, d.before a0 Z = true) {p : Program} {e : Env} {s : State} {m : MethodId} {args : Array Value} {below : List Frame} {meth : Method} {c : Code} (ct : Ct p s m meth c Z "com/example/quorumhelm/quorumhelm/EntryToControllerPinLaw" "law" code maxLocals ret) {T0 : State} {locs : List Loc} (X0 : Stand p l e room_1 s m args below meth c T0 locs 1 2) {h0 : Heap} (e0 : T0.heap = h0) (n0 : Nat) (Z0 : n0 ≤ h0.size) (N0 : Fr n0 locs) (y0 : Int32) (y1 : Int32) (y2 : Int32) (y3 : Int32) (y4 : Addr) (y5 : Int32) (y6 : Int32) (y7 : Int32) (y8 : Int32) (y9 : Int32) :
    Go p e below s (QF (some (.int (fLaw_139 y0 y1 y2 y3 y5 y6 y7 y8 y9))) n0) 16 128 T0 (mkF m 139 #[.val (.int y0), .val (.int y1), .val (.int y2), .val (.int y3), .val (.ref y4), .val (.int y5), .val (.int y6), .val (.int y7), .val (.int y8), .val (.int y9)] []) := by
  have ct0 := ct
  obtain ⟨hx, hZ, hown, hby, hml, hret, hlk, hnm⟩ := ct
  unfold fLaw_139
  refine go_st (fun _ k => XS.iload X0.here hx rfl (hb hby at_139) rfl k) ?_
  show Go p e below s _ _ _ T0 (mkF m 141 #[.val (.int y0), .val (.int y1), .val (.int y2), .val (.int y3), .val (.ref y4), .val (.int y5), .val (.int y6), .val (.int y7), .val (.int y8), .val (.int y9)] [(.int y5)])
  refine go_st (fun _ k => XS.iload X0.here hx rfl (hb hby at_141) rfl k) ?_
  show Go p e below s _ _ _ T0 (mkF m 143 #[.val (.int y0), .val (.int y1), .val (.int y2), .val (.int y3), .val (.ref y4), .val (.int y5), .val (.int y6), .val (.int y7), .val (.int y8), .val (.int y9)] [(.int y8), (.int y5)])
  by_cases hc33 : y5 = y8
  · rw [if_pos hc33]
    refine go_st (fun _ k => XS.icmpNo X0.here hx rfl (hb hby at_143) rfl (XT.ii_ne_f hc33) k) ?_
    show Go p e below s _ _ _ T0 (mkF m 146 #[.val (.int y0), .val (.int y1), .val (.int y2), .val (.int y3), .val (.ref y4), .val (.int y5), .val (.int y6), .val (.int y7), .val (.int y8), .val (.int y9)] [])
    refine go_st (fun _ k => XS.iload X0.here hx rfl (hb hby at_146) rfl k) ?_
    show Go p e below s _ _ _ T0 (mkF m 148 #[.val (.int y0), .val (.int y1), .val (.int y2), .val (.int y3), .val (.ref y4), .val (.int y5), .val (.int y6), .val (.int y7), .val (.int y8), .val (.int y9)] [(.int y9)])
    refine go_st (fun _ k => XT.iconstV X0.here hx rfl (1 : Int32) (hb hby at_148) (by decide) k) ?_
    show Go p e below s _ _ _ T0 (mkF m 149 #[.val (.int y0), .val (.int y1), .val (.int y2), .val (.int y3), .val (.ref y4), .val (.int y5), .val (.int y6), .val (.int y7), .val (.int y8), .val (.int y9)] [(.int (1 : Int32)), (.int y9)])
    by_cases hc34 : y9 = (1 : Int32)
    · rw [if_pos hc34]
      refine go_st (fun _ k => XS.icmpNo X0.here hx rfl (hb hby at_149) rfl (XT.ii_ne_f hc34) k) ?_
      show Go p e below s _ _ _ T0 (mkF m 152 #[.val (.int y0), .val (.int y1), .val (.int y2), .val (.int y3), .val (.ref y4), .val (.int y5), .val (.int y6), .val (.int y7), .val (.int y8), .val (.int y9)] [])
      refine go_st (fun _ k => XT.iconstV X0.here hx rfl (1 : Int32) (hb hby at_152) (by decide) k) ?_
      show Go p e below s _ _ _ T0 (mkF m 153 #[.val (.int y0), .val (.int y1), .val (.int y2), .val (.int y3), .val (.ref y4), .val (.int y5), .val (.int y6), .val (.int y7), .val (.int y8), .val (.int y9)] [(.int (1 : Int32))])
      refine go_st (fun _ k => XS.goto X0.here hx rfl (pc0 := 153) (pc' := 157) rfl (hb hby at_153) (by decide) (by decide) k) ?_
      show Go p e below s _ _ _ T0 (mkF m 157 #[.val (.int y0), .val (.int y1), .val (.int y2), .val (.int y3), .val (.ref y4), .val (.int y5), .val (.int y6), .val (.int y7), .val (.int y8), .val (.int y9)] [(.int (1 : Int32))])
      exact go_retB (w := (1 : Int32)) X0 hx hlk hret (hb hby at_157) (by decide) (by decide) (by decide) ⟨rfl, N0⟩
    · rw [if_neg hc34]
      refine go_st (fun _ k => XS.icmpYes X0.here hx rfl (pc0 := 149) (pc' := 156) rfl (hb hby at_149) rfl (XT.ii_ne_t hc34) (by decide) (by decide) k) ?_
      show Go p e below s _ _ _ T0 (mkF m 156 #[.val (.int y0), .val (.int y1), .val (.int y2), .val (.int y3), .val (.ref y4), .val (.int y5), .val (.int y6), .val (.int y7), .val (.int y8), .val (.int y9)] [])
      refine go_st (fun _ k => XT.iconstV X0.here hx rfl (0 : Int32) (hb hby at_156) (by decide) k) ?_
      show Go p e below s _ _ _ T0 (mkF m 157 #[.val (.int y0), .val (.int y1), .val (.int y2), .val (.int y3), .val (.ref y4), .val (.int y5), .val (.int y6), .val (.int y7), .val (.int y8), .val (.int y9)] [(.int (0 : Int32))])
      exact go_retB (w := (0 : Int32)) X0 hx hlk hret (hb hby at_157) (by decide) (by decide) (by decide) ⟨rfl, N0⟩
  · rw [if_neg hc33]
    refine go_st (fun _ k => XS.icmpYes X0.here hx rfl (pc0 := 143) (pc' := 156) rfl (hb hby at_143) rfl (XT.ii_ne_t hc33) (by decide) (by decide) k) ?_
    show Go p e below s _ _ _ T0 (mkF m 156 #[.val (.int y0), .val (.int y1), .val (.int y2), .val (.int y3), .val (.ref y4), .val (.int y5), .val (.int y6), .val (.int y7), .val (.int y8), .val (.int y9)] [])
    refine go_st (fun _ k => XT.iconstV X0.here hx rfl (0 : Int32) (hb hby at_156) (by decide) k) ?_
    show Go p e below s _ _ _ T0 (mkF m 157 #[.val (.int y0), .val (.int y1), .val (.int y2), .val (.int y3), .val (.ref y4), .val (.int y5), .val (.int y6), .val (.int y7), .val (.int y8), .val (.int y9)] [(.int (0 : Int32))])
    exact go_retB (w := (0 : Int32)) X0 hx hlk hret (hb hby at_157) (by decide) (by decide) (by decide) ⟨rfl, N0⟩
set_option maxRecDepth 65536 in
set_option maxHeartbeats 4000000 in
theorem blk_fLaw_126 (l : Launch) (Z : State) (a0 : Array Value) (hw : ∀ d ∈ tables_1, d.before a0 Z = true) {p : Program} {e : Env} {s : State} {m : MethodId} {args : Array Value} {below : List Frame} {meth : Method} {c : Code} (ct : Ct p s m meth c Z "com/example/quorumhelm/quorumhelm/EntryToControllerPinLaw" "law" code maxLocals ret) {T0 : State} {locs : List Loc} (X0 : Stand p l e room_1 s m args below meth c T0 locs 1 2) {h0 : Heap} (e0 : T0.heap = h0) (n0 : Nat) (Z0 : n0 ≤ h0.size) (N0 : Fr n0 locs) (y0 : Int32) (y1 : Int32) (y2 : Int32) (y3 : Int32) (y4 : Addr) (y5 : Int32) (y6 : Int32) (y7 : Int32) (y8 : Int32) (y9 : Int32) :
    Go p e below s (QF (some (.int (fLaw_126 y0 y1 y2 y3 y5 y6 y7 y8 y9))) n0) 16 128 T0 (mkF m 126 #[.val (.int y0), .val (.int y1), .val (.int y2), .val (.int y3), .val (.ref y4), .val (.int y5), .val (.int y6), .val (.int y7), .val (.int y8), .unset] [(.int y9)]) := by
  have ct0 := ct
  obtain ⟨hx, hZ, hown, hby, hml, hret, hlk, hnm⟩ := ct
  unfold fLaw_126
  refine go_st (fun _ k => XS.iload X0.here hx rfl (hb hby at_126) rfl k) ?_
  show Go p e below s _ _ _ T0 (mkF m 128 #[.val (.int y0), .val (.int y1), .val (.int y2), .val (.int y3), .val (.ref y4), .val (.int y5), .val (.int y6), .val (.int y7), .val (.int y8), .unset] [(.int y7), (.int y9)])
  by_cases hc32 : y7 = (0 : Int32)
  · rw [if_pos hc32]
    refine go_st (fun _ k => XS.ifYes X0.here hx rfl (pc0 := 128) (pc' := 135) rfl (hb hby at_128) rfl (XT.i0_eq_t hc32) (by decide) (by decide) k) ?_
    show Go p e below s _ _ _ T0 (mkF m 135 #[.val (.int y0), .val (.int y1), .val (.int y2), .val (.int y3), .val (.ref y4), .val (.int y5), .val (.int y6), .val (.int y7), .val (.int y8), .unset] [(.int y9)])
    refine go_st (fun _ k => XT.iconstV X0.here hx rfl (0 : Int32) (hb hby at_135) (by decide) k) ?_
    show Go p e below s _ _ _ T0 (mkF m 136 #[.val (.int y0), .val (.int y1), .val (.int y2), .val (.int y3), .val (.ref y4), .val (.int y5), .val (.int y6), .val (.int y7), .val (.int y8), .unset] [(.int (0 : Int32)), (.int y9)])
    refine go_st (fun _ k => XS.iadd X0.here hx rfl (hb hby at_136) rfl k) ?_
    show Go p e below s _ _ _ T0 (mkF m 137 #[.val (.int y0), .val (.int y1), .val (.int y2), .val (.int y3), .val (.ref y4), .val (.int y5), .val (.int y6), .val (.int y7), .val (.int y8), .unset] [(.int (y9 + (0 : Int32)))])
    refine go_st (fun _ k => XS.istore X0.here hx rfl (hb hby at_137) rfl (l' := #[.val (.int y0), .val (.int y1), .val (.int y2), .val (.int y3), .val (.ref y4), .val (.int y5), .val (.int y6), .val (.int y7), .val (.int y8), .val (.int (y9 + (0 : Int32)))]) rfl k) ?_
    show Go p e below s _ _ _ T0 (mkF m 139 #[.val (.int y0), .val (.int y1), .val (.int y2), .val (.int y3), .val (.ref y4), .val (.int y5), .val (.int y6), .val (.int y7), .val (.int y8), .val (.int (y9 + (0 : Int32)))] [])
    exact blk_fLaw_139 l Z a0 hw ct0 X0 e0 n0 Z0 N0 y0 y1 y2 y3 y4 y5 y6 y7 y8 (y9 + (0 : Int32))
  · rw [if_neg hc32]
    refine go_st (fun _ k => XS.ifNo X0.here hx rfl (hb hby at_128) rfl (XT.i0_eq_f hc32) k) ?_
    show Go p e below s _ _ _ T0 (mkF m 131 #[.val (.int y0), .val (.int y1), .val (.int y2), .val (.int y3), .val (.ref y4), .val (.int y5), .val (.int y6), .val (.int y7), .val (.int y8), .unset] [(.int y9)])
    refine go_st (fun _ k => XT.iconstV X0.here hx rfl (1 : Int32) (hb hby at_131) (by decide) k) ?_
    show Go p e below s _ _ _ T0 (mkF m 132 #[.val (.int y0), .val (.int y1), .val (.int y2), .val (.int y3), .val (.ref y4), .val (.int y5), .val (.int y6), .val (.int y7), .val (.int y8), .unset] [(.int (1 : Int32)), (.int y9)])
    refine go_st (fun _ k => XS.goto X0.here hx rfl (pc0 := 132) (pc' := 136) rfl (hb hby at_132) (by decide) (by decide) k) ?_
    show Go p e below s _ _ _ T0 (mkF m 136 #[.val (.int y0), .val (.int y1), .val (.int y2), .val (.int y3), .val (.ref y4), .val (.int y5), .val (.int y6), .val (.int y7), .val (.int y8), .unset] [(.int (1 : Int32)), (.int y9)])
    refine go_st (fun _ k => XS.iadd X0.here hx rfl (hb hby at_136) rfl k) ?_
    show Go p e below s _ _ _ T0 (mkF m 137 #[.val (.int y0), .val (.int y1), .val (.int y2), .val (.int y3), .val (.ref y4), .val (.int y5), .val (.int y6), .val (.int y7), .val (.int y8), .unset] [(.int (y9 + (1 : Int32)))])
    refine go_st (fun _ k => XS.istore X0.here hx rfl (hb hby at_137) rfl (l' := #[.val (.int y0), .val (.int y1), .val (.int y2), .val (.int y3), .val (.ref y4), .val (.int y5), .val (.int y6), .val (.int y7), .val (.int y8), .val (.int (y9 + (1 : Int32)))]) rfl k) ?_
    show Go p e below s _ _ _ T0 (mkF m 139 #[.val (.int y0), .val (.int y1), .val (.int y2), .val (.int y3), .val (.ref y4), .val (.int y5), .val (.int y6), .val (.int y7), .val (.int y8), .val (.int (y9 + (1 : Int32)))] [])
    exact blk_fLaw_139 l Z a0 hw ct0 X0 e0 n0 Z0 N0 y0 y1 y2 y3 y4 y5 y6 y7 y8 (y9 + (1 : Int32))
set_option maxRecDepth 65536 in
set_option maxHeartbeats 4000000 in
theorem blk_fLaw_115 (l : Launch) (Z : State) (a0 : Array Value) (hw : ∀ d ∈ tables_1, d.before a0 Z = true) {p : Program} {e : Env} {s : State} {m : MethodId} {args : Array Value} {below : List Frame} {meth : Method} {c : Code} (ct : Ct p s m meth c Z "com/example/quorumhelm/quorumhelm/EntryToControllerPinLaw" "law" code maxLocals ret) {T0 : State} {locs : List Loc} (X0 : Stand p l e room_1 s m args below meth c T0 locs 1 2) {h0 : Heap} (e0 : T0.heap = h0) (n0 : Nat) (Z0 : n0 ≤ h0.size) (N0 : Fr n0 locs) (y0 : Int32) (y1 : Int32) (y2 : Int32) (y3 : Int32) (y4 : Addr) (y5 : Int32) (y6 : Int32) (y7 : Int32) (y8 : Int32) (y9 : Int32) :
    Go p e below s (QF (some (.int (fLaw_115 y0 y1 y2 y3 y5 y6 y7 y8 y9))) n0) 16 128 T0 (mkF m 115 #[.val (.int y0), .val (.int y1), .val (.int y2), .val (.int y3), .val (.ref y4), .val (.int y5), .val (.int y6), .val (.int y7), .val (.int y8), .unset] [(.int y9)]) := by
  have ct0 := ct
  obtain ⟨hx, hZ, hown, hby, hml, hret, hlk, hnm⟩ := ct
  unfold fLaw_115
  refine go_st (fun _ k => XS.iload X0.here hx rfl (hb hby at_115) rfl k) ?_
  show Go p e below s _ _ _ T0 (mkF m 117 #[.val (.int y0), .val (.int y1), .val (.int y2), .val (.int y3), .val (.ref y4), .val (.int y5), .val (.int y6), .val (.int y7), .val (.int y8), .unset] [(.int y5), (.int y9)])
  by_cases hc31 : y5 = (0 : Int32)
  · rw [if_pos hc31]
    refine go_st (fun _ k => XS.ifYes X0.here hx rfl (pc0 := 117) (pc' := 124) rfl (hb hby at_117) rfl (XT.i0_eq_t hc31) (by decide) (by decide) k) ?_
    show Go p e below s _ _ _ T0 (mkF m 124 #[.val (.int y0), .val (.int y1), .val (.int y2), .val (.int y3), .val (.ref y4), .val (.int y5), .val (.int y6), .val (.int y7), .val (.int y8), .unset] [(.int y9)])
    refine go_st (fun _ k => XT.iconstV X0.here hx rfl (0 : Int32) (hb hby at_124) (by decide) k) ?_
    show Go p e below s _ _ _ T0 (mkF m 125 #[.val (.int y0), .val (.int y1), .val (.int y2), .val (.int y3), .val (.ref y4), .val (.int y5), .val (.int y6), .val (.int y7), .val (.int y8), .unset] [(.int (0 : Int32)), (.int y9)])
    refine go_st (fun _ k => XS.iadd X0.here hx rfl (hb hby at_125) rfl k) ?_
    show Go p e below s _ _ _ T0 (mkF m 126 #[.val (.int y0), .val (.int y1), .val (.int y2), .val (.int y3), .val (.ref y4), .val (.int y5), .val (.int y6), .val (.int y7), .val (.int y8), .unset] [(.int (y9 + (0 : Int32)))])
    exact blk_fLaw_126 l Z a0 hw ct0 X0 e0 n0 Z0 N0 y0 y1 y2 y3 y4 y5 y6 y7 y8 (y9 + (0 : Int32))
  · rw [if_neg hc31]
    refine go_st (fun _ k => XS.ifNo X0.here hx rfl (hb hby at_117) rfl (XT.i0_eq_f hc31) k) ?_
    show Go p e below s _ _ _ T0 (mkF m 120 #[.val (.int y0), .val (.int y1), .val (.int y2), .val (.int y3), .val (.ref y4), .val (.int y5), .val (.int y6), .val (.int y7), .val (.int y8), .unset] [(.int y9)])
    refine go_st (fun _ k => XT.iconstV X0.here hx rfl (1 : Int32) (hb hby at_120) (by decide) k) ?_
    show Go p e below s _ _ _ T0 (mkF m 121 #[.val (.int y0), .val (.int y1), .val (.int y2), .val (.int y3), .val (.ref y4), .val (.int y5), .val (.int y6), .val (.int y7), .val (.int y8), .unset] [(.int (1 : Int32)), (.int y9)])
    refine go_st (fun _ k => XS.goto X0.here hx rfl (pc0 := 121) (pc' := 125) rfl (hb hby at_121) (by decide) (by decide) k) ?_
    show Go p e below s _ _ _ T0 (mkF m 125 #[.val (.int y0), .val (.int y1), .val (.int y2), .val (.int y3), .val (.ref y4), .val (.int y5), .val (.int y6), .val (.int y7), .val (.int y8), .unset] [(.int (1 : Int32)), (.int y9)])
    refine go_st (fun _ k => XS.iadd X0.here hx rfl (hb hby at_125) rfl k) ?_
    show Go p e below s _ _ _ T0 (mkF m 126 #[.val (.int y0), .val (.int y1), .val (.int y2), .val (.int y3), .val (.ref y4), .val (.int y5), .val (.int y6), .val (.int y7), .val (.int y8), .unset] [(.int (y9 + (1 : Int32)))])
    exact blk_fLaw_126 l Z a0 hw ct0 X0 e0 n0 Z0 N0 y0 y1 y2 y3 y4 y5 y6 y7 y8 (y9 + (1 : Int32))
set_option maxRecDepth 65536 in
set_option maxHeartbeats 4000000 in
theorem blk_fLaw_105 (l : Launch) (Z : State) (a0 : Array Value) (hw : ∀ d ∈ tables_1, d.before a0 Z = true) {p : Program} {e : Env} {s : State} {m : MethodId} {args : Array Value} {below : List Frame} {meth : Method} {c : Code} (ct : Ct p s m meth c Z "com/example/quorumhelm/quorumhelm/EntryToControllerPinLaw" "law" code maxLocals ret) {T0 : State} {locs : List Loc} (X0 : Stand p l e room_1 s m args below meth c T0 locs 1 2) {h0 : Heap} (e0 : T0.heap = h0) (n0 : Nat) (Z0 : n0 ≤ h0.size) (N0 : Fr n0 locs) (y0 : Int32) (y1 : Int32) (y2 : Int32) (y3 : Int32) (y4 : Addr) (y5 : Int32) (y6 : Int32) (y7 : Int32) (y8 : Int32) :
    Go p e below s (QF (some (.int (fLaw_105 y0 y1 y2 y3 y5 y6 y7 y8))) n0) 16 128 T0 (mkF m 105 #[.val (.int y0), .val (.int y1), .val (.int y2), .val (.int y3), .val (.ref y4), .val (.int y5), .val (.int y6), .val (.int y7), .val (.int y8), .unset] []) := by
  have ct0 := ct
  obtain ⟨hx, hZ, hown, hby, hml, hret, hlk, hnm⟩ := ct
  unfold fLaw_105
  refine go_st (fun _ k => XS.iload X0.here hx rfl (hb hby at_105) rfl k) ?_
  show Go p e below s _ _ _ T0 (mkF m 107 #[.val (.int y0), .val (.int y1), .val (.int y2), .val (.int y3), .val (.ref y4), .val (.int y5), .val (.int y6), .val (.int y7), .val (.int y8), .unset] [(.int y6)])
  by_cases hc30 : y6 = (0 : Int32)
  · rw [if_pos hc30]
    refine go_st (fun _ k => XS.ifYes X0.here hx rfl (pc0 := 107) (pc' := 114) rfl (hb hby at_107) rfl (XT.i0_eq_t hc30) (by decide) (by decide) k) ?_
    show Go p e below s _ _ _ T0 (mkF m 114 #[.val (.int y0), .val (.int y1), .val (.int y2), .val (.int y3), .val (.ref y4), .val (.int y5), .val (.int y6), .val (.int y7), .val (.int y8), .unset] [])
    refine go_st (fun _ k => XT.iconstV X0.here hx rfl (0 : Int32) (hb hby at_114) (by decide) k) ?_
    show Go p e below s _ _ _ T0 (mkF m 115 #[.val (.int y0), .val (.int y1), .val (.int y2), .val (.int y3), .val (.ref y4), .val (.int y5), .val (.int y6), .val (.int y7), .val (.int y8), .unset] [(.int (0 : Int32))])
    exact blk_fLaw_115 l Z a0 hw ct0 X0 e0 n0 Z0 N0 y0 y1 y2 y3 y4 y5 y6 y7 y8 (0 : Int32)
  · rw [if_neg hc30]
    refine go_st (fun _ k => XS.ifNo X0.here hx rfl (hb hby at_107) rfl (XT.i0_eq_f hc30) k) ?_
    show Go p e below s _ _ _ T0 (mkF m 110 #[.val (.int y0), .val (.int y1), .val (.int y2), .val (.int y3), .val (.ref y4), .val (.int y5), .val (.int y6), .val (.int y7), .val (.int y8), .unset] [])
    refine go_st (fun _ k => XT.iconstV X0.here hx rfl (1 : Int32) (hb hby at_110) (by decide) k) ?_
    show Go p e below s _ _ _ T0 (mkF m 111 #[.val (.int y0), .val (.int y1), .val (.int y2), .val (.int y3), .val (.ref y4), .val (.int y5), .val (.int y6), .val (.int y7), .val (.int y8), .unset] [(.int (1 : Int32))])
    refine go_st (fun _ k => XS.goto X0.here hx rfl (pc0 := 111) (pc' := 115) rfl (hb hby at_111) (by decide) (by decide) k) ?_
    show Go p e below s _ _ _ T0 (mkF m 115 #[.val (.int y0), .val (.int y1), .val (.int y2), .val (.int y3), .val (.ref y4), .val (.int y5), .val (.int y6), .val (.int y7), .val (.int y8), .unset] [(.int (1 : Int32))])
    exact blk_fLaw_115 l Z a0 hw ct0 X0 e0 n0 Z0 N0 y0 y1 y2 y3 y4 y5 y6 y7 y8 (1 : Int32)
set_option maxRecDepth 65536 in
set_option maxHeartbeats 4000000 in
theorem blk_fLaw_92 (l : Launch) (Z : State) (a0 : Array Value) (hw : ∀ d ∈ tables_1, d.before a0 Z = true) {p : Program} {e : Env} {s : State} {m : MethodId} {args : Array Value} {below : List Frame} {meth : Method} {c : Code} (ct : Ct p s m meth c Z "com/example/quorumhelm/quorumhelm/EntryToControllerPinLaw" "law" code maxLocals ret) {T0 : State} {locs : List Loc} (X0 : Stand p l e room_1 s m args below meth c T0 locs 1 2) {h0 : Heap} (e0 : T0.heap = h0) (n0 : Nat) (Z0 : n0 ≤ h0.size) (N0 : Fr n0 locs) (y0 : Int32) (y1 : Int32) (y2 : Int32) (y3 : Int32) (y4 : Addr) (y5 : Int32) (y6 : Int32) (y7 : Int32) :
    Go p e below s (QF (some (.int (fLaw_92 y0 y1 y2 y3 y5 y6 y7))) n0) 16 128 T0 (mkF m 92 #[.val (.int y0), .val (.int y1), .val (.int y2), .val (.int y3), .val (.ref y4), .val (.int y5), .val (.int y6), .val (.int y7), .unset, .unset] []) := by
  have ct0 := ct
  obtain ⟨hx, hZ, hown, hby, hml, hret, hlk, hnm⟩ := ct
  unfold fLaw_92
  refine go_st (fun _ k => XS.iloadN X0.here hx rfl (hb hby at_92) rfl k) ?_
  show Go p e below s _ _ _ T0 (mkF m 93 #[.val (.int y0), .val (.int y1), .val (.int y2), .val (.int y3), .val (.ref y4), .val (.int y5), .val (.int y6), .val (.int y7), .unset, .unset] [(.int y3)])
  refine go_st (fun _ k => XT.bipushV X0.here hx rfl (-3 : Int32) (hb hby at_93) (by decide) k) ?_
  show Go p e below s _ _ _ T0 (mkF m 95 #[.val (.int y0), .val (.int y1), .val (.int y2), .val (.int y3), .val (.ref y4), .val (.int y5), .val (.int y6), .val (.int y7), .unset, .unset] [(.int (-3 : Int32)), (.int y3)])
  by_cases hc29 : y3 = (-3 : Int32)
  · rw [if_pos hc29]
    refine go_st (fun _ k => XS.icmpNo X0.here hx rfl (hb hby at_95) rfl (XT.ii_ne_f hc29) k) ?_
    show Go p e below s _ _ _ T0 (mkF m 98 #[.val (.int y0), .val (.int y1), .val (.int y2), .val (.int y3), .val (.ref y4), .val (.int y5), .val (.int y6), .val (.int y7), .unset, .unset] [])
    refine go_st (fun _ k => XT.iconstV X0.here hx rfl (1 : Int32) (hb hby at_98) (by decide) k) ?_
    show Go p e below s _ _ _ T0 (mkF m 99 #[.val (.int y0), .val (.int y1), .val (.int y2), .val (.int y3), .val (.ref y4), .val (.int y5), .val (.int y6), .val (.int y7), .unset, .unset] [(.int (1 : Int32))])
    refine go_st (fun _ k => XS.goto X0.here hx rfl (pc0 := 99) (pc' := 103) rfl (hb hby at_99) (by decide) (by decide) k) ?_
    show Go p e below s _ _ _ T0 (mkF m 103 #[.val (.int y0), .val (.int y1), .val (.int y2), .val (.int y3), .val (.ref y4), .val (.int y5), .val (.int y6), .val (.int y7), .unset, .unset] [(.int (1 : Int32))])
    refine go_st (fun _ k => XS.istore X0.here hx rfl (hb hby at_103) rfl (l' := #[.val (.int y0), .val (.int y1), .val (.int y2), .val (.int y3), .val (.ref y4), .val (.int y5), .val (.int y6), .val (.int y7), .val (.int (1 : Int32)), .unset]) rfl k) ?_
    show Go p e below s _ _ _ T0 (mkF m 105 #[.val (.int y0), .val (.int y1), .val (.int y2), .val (.int y3), .val (.ref y4), .val (.int y5), .val (.int y6), .val (.int y7), .val (.int (1 : Int32)), .unset] [])
    exact blk_fLaw_105 l Z a0 hw ct0 X0 e0 n0 Z0 N0 y0 y1 y2 y3 y4 y5 y6 y7 (1 : Int32)
  · rw [if_neg hc29]
    refine go_st (fun _ k => XS.icmpYes X0.here hx rfl (pc0 := 95) (pc' := 102) rfl (hb hby at_95) rfl (XT.ii_ne_t hc29) (by decide) (by decide) k) ?_
    show Go p e below s _ _ _ T0 (mkF m 102 #[.val (.int y0), .val (.int y1), .val (.int y2), .val (.int y3), .val (.ref y4), .val (.int y5), .val (.int y6), .val (.int y7), .unset, .unset] [])
    refine go_st (fun _ k => XT.iconstV X0.here hx rfl (0 : Int32) (hb hby at_102) (by decide) k) ?_
    show Go p e below s _ _ _ T0 (mkF m 103 #[.val (.int y0), .val (.int y1), .val (.int y2), .val (.int y3), .val (.ref y4), .val (.int y5), .val (.int y6), .val (.int y7), .unset, .unset] [(.int (0 : Int32))])
    refine go_st (fun _ k => XS.istore X0.here hx rfl (hb hby at_103) rfl (l' := #[.val (.int y0), .val (.int y1), .val (.int y2), .val (.int y3), .val (.ref y4), .val (.int y5), .val (.int y6), .val (.int y7), .val (.int (0 : Int32)), .unset]) rfl k) ?_
    show Go p e below s _ _ _ T0 (mkF m 105 #[.val (.int y0), .val (.int y1), .val (.int y2), .val (.int y3), .val (.ref y4), .val (.int y5), .val (.int y6), .val (.int y7), .val (.int (0 : Int32)), .unset] [])
    exact blk_fLaw_105 l Z a0 hw ct0 X0 e0 n0 Z0 N0 y0 y1 y2 y3 y4 y5 y6 y7 (0 : Int32)
set_option maxRecDepth 65536 in
set_option maxHeartbeats 4000000 in
theorem blk_fLaw_60 (l : Launch) (Z : State) (a0 : Array Value) (hw : ∀ d ∈ tables_1, d.before a0 Z = true) {p : Program} {e : Env} {s : State} {m : MethodId} {args : Array Value} {below : List Frame} {meth : Method} {c : Code} (ct : Ct p s m meth c Z "com/example/quorumhelm/quorumhelm/EntryToControllerPinLaw" "law" code maxLocals ret) {T0 : State} {locs : List Loc} (X0 : Stand p l e room_1 s m args below meth c T0 locs 0 0) {h0 : Heap} (e0 : T0.heap = h0) (n0 : Nat) (Z0 : n0 ≤ h0.size) (N0 : Fr n0 locs) (y0 : Int32) (y1 : Int32) (y2 : Int32) (y3 : Int32) :
    Go p e below s (QF (some (.int (fLaw_60 y0 y1 y2 y3))) n0) 16 128 T0 (mkF m 60 #[.val (.int y0), .val (.int y1), .val (.int y2), .val (.int y3), .unset, .unset, .unset, .unset, .unset, .unset] []) := by
  have ct0 := ct
  obtain ⟨hx, hZ, hown, hby, hml, hret, hlk, hnm⟩ := ct
  unfold fLaw_60
  refine go_newO X0 hx hZ hown (hw _ (List.mem_of_getElem? (i := 0) rfl)) (hw _ (List.mem_of_getElem? (i := 1) rfl)) (hw _ (List.mem_of_getElem? (i := 2) rfl)) e0 (hb hby at_60) rfl (by decide) (by decide) ?_
  intro T20 h20 a20 g20 X20 e20 E20 A20 D20
  have nw_a20 : n0 ≤ a20 := Nat.le_trans Z0 (Nat.le_of_eq g20.symm)
  have lt_a20 : a20 < h20.size := A20.lt
  have F21 : Fld Z h20 a20 "com/example/quorumhelm/quorumhelm/ControlMessage$Entry" "flow" "Lcom/example/quorumhelm/quorumhelm/Network$Flow;" .null := D20 (Or.inr (hw _ (List.mem_of_getElem? (i := 15) rfl))) (ty := (.object "com/example/quorumhelm/quorumhelm/Network$Flow")) (by decide)
  have F22 : Fld Z h20 a20 "com/example/quorumhelm/quorumhelm/ControlMessage$Entry" "port" "I" (.int (0 : Int32)) := D20 (Or.inr (hw _ (List.mem_of_getElem? (i := 17) rfl))) (ty := .int) (by decide)
  show Go p e below s _ _ _ T20 (mkF m 63 #[.val (.int y0), .val (.int y1), .val (.int y2), .val (.int y3), .unset, .unset, .unset, .unset, .unset, .unset] [(.ref a20)])
  refine go_st (fun _ k => XS.dup X20.here hx rfl (hb hby at_63) rfl rfl k) ?_
  show Go p e below s _ _ _ T20 (mkF m 64 #[.val (.int y0), .val (.int y1), .val (.int y2), .val (.int y3), .unset, .unset, .unset, .unset, .unset, .unset] [(.ref a20), (.ref a20)])
  refine go_st (fun _ k => XS.aconstNull X20.here hx rfl (hb hby at_64) k) ?_
  show Go p e below s _ _ _ T20 (mkF m 65 #[.val (.int y0), .val (.int y1), .val (.int y2), .val (.int y3), .unset, .unset, .unset, .unset, .unset, .unset] [.null, (.ref a20), (.ref a20)])
  refine go_st (fun _ k => XS.iloadN X20.here hx rfl (hb hby at_65) rfl k) ?_
  show Go p e below s _ _ _ T20 (mkF m 66 #[.val (.int y0), .val (.int y1), .val (.int y2), .val (.int y3), .unset, .unset, .unset, .unset, .unset, .unset] [(.int y3), .null, (.ref a20), (.ref a20)])
  have z24 : n0 ≤ h20.size := Nat.le_trans Z0 E20.1
  refine go_callI X20 hx hZ hml hown rfl (hw _ (List.mem_of_getElem? (i := 3) rfl)) (hw _ (List.mem_of_getElem? (i := 4) rfl)) (hw _ (List.mem_of_getElem? (i := 5) rfl)) (hw _ (List.mem_of_getElem? (i := 2) rfl)) e20 (argsL := [.null, (.int y3)]) (rest := [(.ref a20)]) (W := 1) (met_ini l Z a0 hw a20 y3 h20 n0 z24 F21 F22 A20 nw_a20) (hb hby at_66) rfl rfl rfl (lenOf pd2 rfl) (by show 2 * 0 + _ ≤ _; exact Nat.le_of_eq rfl) (by decide) (by decide) (by decide) (by decide) (by decide) ?_
  intro T23 v23 L23 X23 q23
  obtain ⟨rfl, M23, K23, f23_0, f23_1⟩ := q23
  have N23 := Fr.app N0 M23
  show Go p e below s _ _ _ T23 (mkF m 69 #[.val (.int y0), .val (.int y1), .val (.int y2), .val (.int y3), .unset, .unset, .unset, .unset, .unset, .unset] [(.ref a20)])
  refine go_st (fun _ k => XS.astore X23.here hx rfl (hb hby at_69) rfl rfl (l' := #[.val (.int y0), .val (.int y1), .val (.int y2), .val (.int y3), .val (.ref a20), .unset, .unset, .unset, .unset, .unset]) rfl k) ?_
  show Go p e below s _ _ _ T23 (mkF m 71 #[.val (.int y0), .val (.int y1), .val (.int y2), .val (.int y3), .val (.ref a20), .unset, .unset, .unset, .unset, .unset] [])
  refine go_st (fun _ k => XS.aload X23.here hx rfl (hb hby at_71) rfl rfl k) ?_
  show Go p e below s _ _ _ T23 (mkF m 73 #[.val (.int y0), .val (.int y1), .val (.int y2), .val (.int y3), .val (.ref a20), .unset, .unset, .unset, .unset, .unset] [(.ref a20)])
  have z26 : n0 ≤ T23.heap.size := Nat.le_trans z24 K23.1
  refine go_callV X23 hx hZ hml hown (hw _ (List.mem_of_getElem? (i := 18) rfl)) (hw _ (List.mem_of_getElem? (i := 19) rfl)) (notFace_of_selects (args := #[]) (mvT hZ (hw _ (List.mem_of_getElem? (i := 21) rfl)))) (hw _ (List.mem_of_getElem? (i := 21) rfl)) (hw _ (List.mem_of_getElem? (i := 20) rfl)) (hw _ (List.mem_of_getElem? (i := 22) rfl)) (hw _ (List.mem_of_getElem? (i := 2) rfl)) rfl f23_0 (argsL := []) (rest := []) (W := 0) (met_4 l Z a0 hw a20 y3 T23.heap n0 z26 f23_0 f23_1) (hb hby at_73) rfl rfl rfl (lenOf pd1 rfl) (by show 2 * 0 + _ ≤ _; exact Nat.le_of_eq rfl) (by decide) (by decide) (by decide) (by decide) (by decide) ?_
  intro T25 v25 L25 X25 q25
  obtain ⟨rfl, M25, e25⟩ := q25
  have N25 := Fr.app N23 M25
  show Go p e below s _ _ _ T25 (mkF m 76 #[.val (.int y0), .val (.int y1), .val (.int y2), .val (.int y3), .val (.ref a20), .unset, .unset, .unset, .unset, .unset] [(.int (fTo y3))])
  refine go_st (fun _ k => XS.istore X25.here hx rfl (hb hby at_76) rfl (l' := #[.val (.int y0), .val (.int y1), .val (.int y2), .val (.int y3), .val (.ref a20), .val (.int (fTo y3)), .unset, .unset, .unset, .unset]) rfl k) ?_
  show Go p e below s _ _ _ T25 (mkF m 78 #[.val (.int y0), .val (.int y1), .val (.int y2), .val (.int y3), .val (.ref a20), .val (.int (fTo y3)), .unset, .unset, .unset, .unset] [])
  refine go_st (fun _ k => XS.aload X25.here hx rfl (hb hby at_78) rfl rfl k) ?_
  show Go p e below s _ _ _ T25 (mkF m 80 #[.val (.int y0), .val (.int y1), .val (.int y2), .val (.int y3), .val (.ref a20), .val (.int (fTo y3)), .unset, .unset, .unset, .unset] [(.ref a20)])
  refine go_callV X25 hx hZ hml hown (hw _ (List.mem_of_getElem? (i := 23) rfl)) (hw _ (List.mem_of_getElem? (i := 24) rfl)) (notFace_of_selects (args := #[]) (mvT hZ (hw _ (List.mem_of_getElem? (i := 26) rfl)))) (hw _ (List.mem_of_getElem? (i := 26) rfl)) (hw _ (List.mem_of_getElem? (i := 25) rfl)) (hw _ (List.mem_of_getElem? (i := 27) rfl)) (hw _ (List.mem_of_getElem? (i := 2) rfl)) e25 f23_0 (argsL := []) (rest := []) (W := 0) (met_5 l Z a0 hw a20 y3 T23.heap n0 z26 f23_0 f23_1) (hb hby at_80) rfl rfl rfl (lenOf pd1 rfl) (by show 2 * 0 + _ ≤ _; exact Nat.le_of_eq rfl) (by decide) (by decide) (by decide) (by decide) (by decide) ?_
  intro T27 v27 L27 X27 q27
  obtain ⟨rfl, M27, e27⟩ := q27
  have N27 := Fr.app N25 M27
  show Go p e below s _ _ _ T27 (mkF m 83 #[.val (.int y0), .val (.int y1), .val (.int y2), .val (.int y3), .val (.ref a20), .val (.int (fTo y3)), .unset, .unset, .unset, .unset] [(.int (fRem y3))])
  refine go_st (fun _ k => XS.istore X27.here hx rfl (hb hby at_83) rfl (l' := #[.val (.int y0), .val (.int y1), .val (.int y2), .val (.int y3), .val (.ref a20), .val (.int (fTo y3)), .val (.int (fRem y3)), .unset, .unset, .unset]) rfl k) ?_
  show Go p e below s _ _ _ T27 (mkF m 85 #[.val (.int y0), .val (.int y1), .val (.int y2), .val (.int y3), .val (.ref a20), .val (.int (fTo y3)), .val (.int (fRem y3)), .unset, .unset, .unset] [])
  refine go_st (fun _ k => XS.aload X27.here hx rfl (hb hby at_85) rfl rfl k) ?_
  show Go p e below s _ _ _ T27 (mkF m 87 #[.val (.int y0), .val (.int y1), .val (.int y2), .val (.int y3), .val (.ref a20), .val (.int (fTo y3)), .val (.int (fRem y3)), .unset, .unset, .unset] [(.ref a20)])
  refine go_callV X27 hx hZ hml hown (hw _ (List.mem_of_getElem? (i := 28) rfl)) (hw _ (List.mem_of_getElem? (i := 29) rfl)) (notFace_of_selects (args := #[]) (mvT hZ (hw _ (List.mem_of_getElem? (i := 31) rfl)))) (hw _ (List.mem_of_getElem? (i := 31) rfl)) (hw _ (List.mem_of_getElem? (i := 30) rfl)) (hw _ (List.mem_of_getElem? (i := 32) rfl)) (hw _ (List.mem_of_getElem? (i := 2) rfl)) e27 f23_0 (argsL := []) (rest := []) (W := 0) (met_6 l Z a0 hw a20 y3 T23.heap n0 z26 f23_0 f23_1) (hb hby at_87) rfl rfl rfl (lenOf pd1 rfl) (by show 2 * 0 + _ ≤ _; exact Nat.le_of_eq rfl) (by decide) (by decide) (by decide) (by decide) (by decide) ?_
  intro T28 v28 L28 X28 q28
  obtain ⟨rfl, M28, e28⟩ := q28
  have N28 := Fr.app N27 M28
  show Go p e below s _ _ _ T28 (mkF m 90 #[.val (.int y0), .val (.int y1), .val (.int y2), .val (.int y3), .val (.ref a20), .val (.int (fTo y3)), .val (.int (fRem y3)), .unset, .unset, .unset] [(.int (fFwd y3))])
  refine go_st (fun _ k => XS.istore X28.here hx rfl (hb hby at_90) rfl (l' := #[.val (.int y0), .val (.int y1), .val (.int y2), .val (.int y3), .val (.ref a20), .val (.int (fTo y3)), .val (.int (fRem y3)), .val (.int (fFwd y3)), .unset, .unset]) rfl k) ?_
  show Go p e below s _ _ _ T28 (mkF m 92 #[.val (.int y0), .val (.int y1), .val (.int y2), .val (.int y3), .val (.ref a20), .val (.int (fTo y3)), .val (.int (fRem y3)), .val (.int (fFwd y3)), .unset, .unset] [])
  exact blk_fLaw_92 l Z a0 hw ct0 X28 e28 n0 z26 N28 y0 y1 y2 y3 a20 (fTo y3) (fRem y3) (fFwd y3)
set_option maxRecDepth 65536 in
set_option maxHeartbeats 4000000 in
theorem met_law (l : Launch) (Z : State) (a0 : Array Value) (hw : ∀ d ∈ tables_1, d.before a0 Z = true) (x0 : Int32) (x1 : Int32) (h0 : Heap) (n0 : Nat) (Z0 : n0 ≤ h0.size) :
    Met l x code maxLocals ret tables_1 room_1 Z #[(.int x0), (.int x1)] h0 (QF (some (.int (fLaw x0 x1))) n0) 16 128 := by
  refine own_body pn2 ?_
  intro p e s m below meth c s₁ ct X0 e0
  have ct0 := ct
  obtain ⟨hx, hZ, hown, hby, hml, hret, hlk, hnm⟩ := ct
  have N0 := Fr.nil n0
  refine castGo (ef_law m x0 x1) ?_
  unfold fLaw
  show Go p e below s _ _ _ s₁ (mkF m 0 #[.val (.int x0), .val (.int x1), .unset, .unset, .unset, .unset, .unset, .unset, .unset, .unset] [])
  refine go_st (fun _ k => XS.iloadN X0.here hx rfl (hb hby at_0) rfl k) ?_
  show Go p e below s _ _ _ s₁ (mkF m 1 #[.val (.int x0), .val (.int x1), .unset, .unset, .unset, .unset, .unset, .unset, .unset, .unset] [(.int x1)])
  refine go_st (fun _ k => XT.bipushV X0.here hx rfl (7 : Int32) (hb hby at_1) (by decide) k) ?_
  show Go p e below s _ _ _ s₁ (mkF m 3 #[.val (.int x0), .val (.int x1), .unset, .unset, .unset, .unset, .unset, .unset, .unset, .unset] [(.int (7 : Int32)), (.int x1)])
  refine go_st (fun _ k => XS.iand X0.here hx rfl (hb hby at_3) rfl k) ?_
  show Go p e below s _ _ _ s₁ (mkF m 4 #[.val (.int x0), .val (.int x1), .unset, .unset, .unset, .unset, .unset, .unset, .unset, .unset] [(.int (x1 &&& (7 : Int32)))])
  refine go_st (fun _ k => XS.istoreN X0.here hx rfl (hb hby at_4) rfl (l' := #[.val (.int x0), .val (.int x1), .val (.int (x1 &&& (7 : Int32))), .unset, .unset, .unset, .unset, .unset, .unset, .unset]) rfl k) ?_
  show Go p e below s _ _ _ s₁ (mkF m 5 #[.val (.int x0), .val (.int x1), .val (.int (x1 &&& (7 : Int32))), .unset, .unset, .unset, .unset, .unset, .unset, .unset] [])
  refine go_st (fun _ k => XS.iloadN X0.here hx rfl (hb hby at_5) rfl k) ?_
  show Go p e below s _ _ _ s₁ (mkF m 6 #[.val (.int x0), .val (.int x1), .val (.int (x1 &&& (7 : Int32))), .unset, .unset, .unset, .unset, .unset, .unset, .unset] [(.int (x1 &&& (7 : Int32)))])
  by_cases hc19 : (x1 &&& (7 : Int32)) = (0 : Int32)
  · rw [if_pos hc19]
    refine go_st (fun _ k => XS.ifNo X0.here hx rfl (hb hby at_6) rfl (XT.i0_ne_f hc19) k) ?_
    show Go p e below s _ _ _ s₁ (mkF m 9 #[.val (.int x0), .val (.int x1), .val (.int (x1 &&& (7 : Int32))), .unset, .unset, .unset, .unset, .unset, .unset, .unset] [])
    refine go_st (fun _ k => XT.bipushV X0.here hx rfl (-3 : Int32) (hb hby at_9) (by decide) k) ?_
    show Go p e below s _ _ _ s₁ (mkF m 11 #[.val (.int x0), .val (.int x1), .val (.int (x1 &&& (7 : Int32))), .unset, .unset, .unset, .unset, .unset, .unset, .unset] [(.int (-3 : Int32))])
    refine go_st (fun _ k => XS.istoreN X0.here hx rfl (hb hby at_11) rfl (l' := #[.val (.int x0), .val (.int x1), .val (.int (x1 &&& (7 : Int32))), .val (.int (-3 : Int32)), .unset, .unset, .unset, .unset, .unset, .unset]) rfl k) ?_
    show Go p e below s _ _ _ s₁ (mkF m 12 #[.val (.int x0), .val (.int x1), .val (.int (x1 &&& (7 : Int32))), .val (.int (-3 : Int32)), .unset, .unset, .unset, .unset, .unset, .unset] [])
    refine go_st (fun _ k => XS.goto X0.here hx rfl (pc0 := 12) (pc' := 60) rfl (hb hby at_12) (by decide) (by decide) k) ?_
    show Go p e below s _ _ _ s₁ (mkF m 60 #[.val (.int x0), .val (.int x1), .val (.int (x1 &&& (7 : Int32))), .val (.int (-3 : Int32)), .unset, .unset, .unset, .unset, .unset, .unset] [])
    exact blk_fLaw_60 l Z a0 hw ct0 X0 e0 n0 Z0 N0 x0 x1 (x1 &&& (7 : Int32)) (-3 : Int32)
  · rw [if_neg hc19]
    refine go_st (fun _ k => XS.ifYes X0.here hx rfl (pc0 := 6) (pc' := 15) rfl (hb hby at_6) rfl (XT.i0_ne_t hc19) (by decide) (by decide) k) ?_
    show Go p e below s _ _ _ s₁ (mkF m 15 #[.val (.int x0), .val (.int x1), .val (.int (x1 &&& (7 : Int32))), .unset, .unset, .unset, .unset, .unset, .unset, .unset] [])
    refine go_st (fun _ k => XS.iloadN X0.here hx rfl (hb hby at_15) rfl k) ?_
    show Go p e below s _ _ _ s₁ (mkF m 16 #[.val (.int x0), .val (.int x1), .val (.int (x1 &&& (7 : Int32))), .unset, .unset, .unset, .unset, .unset, .unset, .unset] [(.int (x1 &&& (7 : Int32)))])
    refine go_st (fun _ k => XT.iconstV X0.here hx rfl (1 : Int32) (hb hby at_16) (by decide) k) ?_
    show Go p e below s _ _ _ s₁ (mkF m 17 #[.val (.int x0), .val (.int x1), .val (.int (x1 &&& (7 : Int32))), .unset, .unset, .unset, .unset, .unset, .unset, .unset] [(.int (1 : Int32)), (.int (x1 &&& (7 : Int32)))])
    by_cases hc35 : (x1 &&& (7 : Int32)) = (1 : Int32)
    · rw [if_pos hc35]
      refine go_st (fun _ k => XS.icmpNo X0.here hx rfl (hb hby at_17) rfl (XT.ii_ne_f hc35) k) ?_
      show Go p e below s _ _ _ s₁ (mkF m 20 #[.val (.int x0), .val (.int x1), .val (.int (x1 &&& (7 : Int32))), .unset, .unset, .unset, .unset, .unset, .unset, .unset] [])
      refine go_st (fun _ k => XT.bipushV X0.here hx rfl (-2 : Int32) (hb hby at_20) (by decide) k) ?_
      show Go p e below s _ _ _ s₁ (mkF m 22 #[.val (.int x0), .val (.int x1), .val (.int (x1 &&& (7 : Int32))), .unset, .unset, .unset, .unset, .unset, .unset, .unset] [(.int (-2 : Int32))])
      refine go_st (fun _ k => XS.istoreN X0.here hx rfl (hb hby at_22) rfl (l' := #[.val (.int x0), .val (.int x1), .val (.int (x1 &&& (7 : Int32))), .val (.int (-2 : Int32)), .unset, .unset, .unset, .unset, .unset, .unset]) rfl k) ?_
      show Go p e below s _ _ _ s₁ (mkF m 23 #[.val (.int x0), .val (.int x1), .val (.int (x1 &&& (7 : Int32))), .val (.int (-2 : Int32)), .unset, .unset, .unset, .unset, .unset, .unset] [])
      refine go_st (fun _ k => XS.goto X0.here hx rfl (pc0 := 23) (pc' := 60) rfl (hb hby at_23) (by decide) (by decide) k) ?_
      show Go p e below s _ _ _ s₁ (mkF m 60 #[.val (.int x0), .val (.int x1), .val (.int (x1 &&& (7 : Int32))), .val (.int (-2 : Int32)), .unset, .unset, .unset, .unset, .unset, .unset] [])
      exact blk_fLaw_60 l Z a0 hw ct0 X0 e0 n0 Z0 N0 x0 x1 (x1 &&& (7 : Int32)) (-2 : Int32)
    · rw [if_neg hc35]
      refine go_st (fun _ k => XS.icmpYes X0.here hx rfl (pc0 := 17) (pc' := 26) rfl (hb hby at_17) rfl (XT.ii_ne_t hc35) (by decide) (by decide) k) ?_
      show Go p e below s _ _ _ s₁ (mkF m 26 #[.val (.int x0), .val (.int x1), .val (.int (x1 &&& (7 : Int32))), .unset, .unset, .unset, .unset, .unset, .unset, .unset] [])
      refine go_st (fun _ k => XS.iloadN X0.here hx rfl (hb hby at_26) rfl k) ?_
      show Go p e below s _ _ _ s₁ (mkF m 27 #[.val (.int x0), .val (.int x1), .val (.int (x1 &&& (7 : Int32))), .unset, .unset, .unset, .unset, .unset, .unset, .unset] [(.int (x1 &&& (7 : Int32)))])
      refine go_st (fun _ k => XT.iconstV X0.here hx rfl (2 : Int32) (hb hby at_27) (by decide) k) ?_
      show Go p e below s _ _ _ s₁ (mkF m 28 #[.val (.int x0), .val (.int x1), .val (.int (x1 &&& (7 : Int32))), .unset, .unset, .unset, .unset, .unset, .unset, .unset] [(.int (2 : Int32)), (.int (x1 &&& (7 : Int32)))])
      by_cases hc36 : (x1 &&& (7 : Int32)) = (2 : Int32)
      · rw [if_pos hc36]
        refine go_st (fun _ k => XS.icmpNo X0.here hx rfl (hb hby at_28) rfl (XT.ii_ne_f hc36) k) ?_
        show Go p e below s _ _ _ s₁ (mkF m 31 #[.val (.int x0), .val (.int x1), .val (.int (x1 &&& (7 : Int32))), .unset, .unset, .unset, .unset, .unset, .unset, .unset] [])
        refine go_st (fun _ k => XT.bipushV X0.here hx rfl (-4 : Int32) (hb hby at_31) (by decide) k) ?_
        show Go p e below s _ _ _ s₁ (mkF m 33 #[.val (.int x0), .val (.int x1), .val (.int (x1 &&& (7 : Int32))), .unset, .unset, .unset, .unset, .unset, .unset, .unset] [(.int (-4 : Int32))])
        refine go_st (fun _ k => XS.istoreN X0.here hx rfl (hb hby at_33) rfl (l' := #[.val (.int x0), .val (.int x1), .val (.int (x1 &&& (7 : Int32))), .val (.int (-4 : Int32)), .unset, .unset, .unset, .unset, .unset, .unset]) rfl k) ?_
        show Go p e below s _ _ _ s₁ (mkF m 34 #[.val (.int x0), .val (.int x1), .val (.int (x1 &&& (7 : Int32))), .val (.int (-4 : Int32)), .unset, .unset, .unset, .unset, .unset, .unset] [])
        refine go_st (fun _ k => XS.goto X0.here hx rfl (pc0 := 34) (pc' := 60) rfl (hb hby at_34) (by decide) (by decide) k) ?_
        show Go p e below s _ _ _ s₁ (mkF m 60 #[.val (.int x0), .val (.int x1), .val (.int (x1 &&& (7 : Int32))), .val (.int (-4 : Int32)), .unset, .unset, .unset, .unset, .unset, .unset] [])
        exact blk_fLaw_60 l Z a0 hw ct0 X0 e0 n0 Z0 N0 x0 x1 (x1 &&& (7 : Int32)) (-4 : Int32)
      · rw [if_neg hc36]
        refine go_st (fun _ k => XS.icmpYes X0.here hx rfl (pc0 := 28) (pc' := 37) rfl (hb hby at_28) rfl (XT.ii_ne_t hc36) (by decide) (by decide) k) ?_
        show Go p e below s _ _ _ s₁ (mkF m 37 #[.val (.int x0), .val (.int x1), .val (.int (x1 &&& (7 : Int32))), .unset, .unset, .unset, .unset, .unset, .unset, .unset] [])
        refine go_st (fun _ k => XS.iloadN X0.here hx rfl (hb hby at_37) rfl k) ?_
        show Go p e below s _ _ _ s₁ (mkF m 38 #[.val (.int x0), .val (.int x1), .val (.int (x1 &&& (7 : Int32))), .unset, .unset, .unset, .unset, .unset, .unset, .unset] [(.int (x1 &&& (7 : Int32)))])
        refine go_st (fun _ k => XT.iconstV X0.here hx rfl (3 : Int32) (hb hby at_38) (by decide) k) ?_
        show Go p e below s _ _ _ s₁ (mkF m 39 #[.val (.int x0), .val (.int x1), .val (.int (x1 &&& (7 : Int32))), .unset, .unset, .unset, .unset, .unset, .unset, .unset] [(.int (3 : Int32)), (.int (x1 &&& (7 : Int32)))])
        by_cases hc37 : (x1 &&& (7 : Int32)) = (3 : Int32)
        · rw [if_pos hc37]
          refine go_st (fun _ k => XS.icmpNo X0.here hx rfl (hb hby at_39) rfl (XT.ii_ne_f hc37) k) ?_
          show Go p e below s _ _ _ s₁ (mkF m 42 #[.val (.int x0), .val (.int x1), .val (.int (x1 &&& (7 : Int32))), .unset, .unset, .unset, .unset, .unset, .unset, .unset] [])
          refine go_st (fun _ k => XT.iconstV X0.here hx rfl (0 : Int32) (hb hby at_42) (by decide) k) ?_
          show Go p e below s _ _ _ s₁ (mkF m 43 #[.val (.int x0), .val (.int x1), .val (.int (x1 &&& (7 : Int32))), .unset, .unset, .unset, .unset, .unset, .unset, .unset] [(.int (0 : Int32))])
          refine go_st (fun _ k => XS.istoreN X0.here hx rfl (hb hby at_43) rfl (l' := #[.val (.int x0), .val (.int x1), .val (.int (x1 &&& (7 : Int32))), .val (.int (0 : Int32)), .unset, .unset, .unset, .unset, .unset, .unset]) rfl k) ?_
          show Go p e below s _ _ _ s₁ (mkF m 44 #[.val (.int x0), .val (.int x1), .val (.int (x1 &&& (7 : Int32))), .val (.int (0 : Int32)), .unset, .unset, .unset, .unset, .unset, .unset] [])
          refine go_st (fun _ k => XS.goto X0.here hx rfl (pc0 := 44) (pc' := 60) rfl (hb hby at_44) (by decide) (by decide) k) ?_
          show Go p e below s _ _ _ s₁ (mkF m 60 #[.val (.int x0), .val (.int x1), .val (.int (x1 &&& (7 : Int32))), .val (.int (0 : Int32)), .unset, .unset, .unset, .unset, .unset, .unset] [])
          exact blk_fLaw_60 l Z a0 hw ct0 X0 e0 n0 Z0 N0 x0 x1 (x1 &&& (7 : Int32)) (0 : Int32)
        · rw [if_neg hc37]
          refine go_st (fun _ k => XS.icmpYes X0.here hx rfl (pc0 := 39) (pc' := 47) rfl (hb hby at_39) rfl (XT.ii_ne_t hc37) (by decide) (by decide) k) ?_
          show Go p e below s _ _ _ s₁ (mkF m 47 #[.val (.int x0), .val (.int x1), .val (.int (x1 &&& (7 : Int32))), .unset, .unset, .unset, .unset, .unset, .unset, .unset] [])
          refine go_st (fun _ k => XS.iloadN X0.here hx rfl (hb hby at_47) rfl k) ?_
          show Go p e below s _ _ _ s₁ (mkF m 48 #[.val (.int x0), .val (.int x1), .val (.int (x1 &&& (7 : Int32))), .unset, .unset, .unset, .unset, .unset, .unset, .unset] [(.int (x1 &&& (7 : Int32)))])
          refine go_st (fun _ k => XT.iconstV X0.here hx rfl (4 : Int32) (hb hby at_48) (by decide) k) ?_
          show Go p e below s _ _ _ s₁ (mkF m 49 #[.val (.int x0), .val (.int x1), .val (.int (x1 &&& (7 : Int32))), .unset, .unset, .unset, .unset, .unset, .unset, .unset] [(.int (4 : Int32)), (.int (x1 &&& (7 : Int32)))])
          by_cases hc38 : (x1 &&& (7 : Int32)) = (4 : Int32)
          · rw [if_pos hc38]
            refine go_st (fun _ k => XS.icmpNo X0.here hx rfl (hb hby at_49) rfl (XT.ii_ne_f hc38) k) ?_
            show Go p e below s _ _ _ s₁ (mkF m 52 #[.val (.int x0), .val (.int x1), .val (.int (x1 &&& (7 : Int32))), .unset, .unset, .unset, .unset, .unset, .unset, .unset] [])
            refine go_st (fun _ k => Jvm.Stand.ldcI X0 hx hown (mvT hZ (hw _ (List.mem_of_getElem? (i := 35) rfl))) rfl (hb hby at_52) k) ?_
            show Go p e below s _ _ _ s₁ (mkF m 54 #[.val (.int x0), .val (.int x1), .val (.int (x1 &&& (7 : Int32))), .unset, .unset, .unset, .unset, .unset, .unset, .unset] [(.int (65279 : Int32))])
            refine go_st (fun _ k => XS.istoreN X0.here hx rfl (hb hby at_54) rfl (l' := #[.val (.int x0), .val (.int x1), .val (.int (x1 &&& (7 : Int32))), .val (.int (65279 : Int32)), .unset, .unset, .unset, .unset, .unset, .unset]) rfl k) ?_
            show Go p e below s _ _ _ s₁ (mkF m 55 #[.val (.int x0), .val (.int x1), .val (.int (x1 &&& (7 : Int32))), .val (.int (65279 : Int32)), .unset, .unset, .unset, .unset, .unset, .unset] [])
            refine go_st (fun _ k => XS.goto X0.here hx rfl (pc0 := 55) (pc' := 60) rfl (hb hby at_55) (by decide) (by decide) k) ?_
            show Go p e below s _ _ _ s₁ (mkF m 60 #[.val (.int x0), .val (.int x1), .val (.int (x1 &&& (7 : Int32))), .val (.int (65279 : Int32)), .unset, .unset, .unset, .unset, .unset, .unset] [])
            exact blk_fLaw_60 l Z a0 hw ct0 X0 e0 n0 Z0 N0 x0 x1 (x1 &&& (7 : Int32)) (65279 : Int32)
          · rw [if_neg hc38]
            refine go_st (fun _ k => XS.icmpYes X0.here hx rfl (pc0 := 49) (pc' := 58) rfl (hb hby at_49) rfl (XT.ii_ne_t hc38) (by decide) (by decide) k) ?_
            show Go p e below s _ _ _ s₁ (mkF m 58 #[.val (.int x0), .val (.int x1), .val (.int (x1 &&& (7 : Int32))), .unset, .unset, .unset, .unset, .unset, .unset, .unset] [])
            refine go_st (fun _ k => XS.iloadN X0.here hx rfl (hb hby at_58) rfl k) ?_
            show Go p e below s _ _ _ s₁ (mkF m 59 #[.val (.int x0), .val (.int x1), .val (.int (x1 &&& (7 : Int32))), .unset, .unset, .unset, .unset, .unset, .unset, .unset] [(.int x0)])
            refine go_st (fun _ k => XS.istoreN X0.here hx rfl (hb hby at_59) rfl (l' := #[.val (.int x0), .val (.int x1), .val (.int (x1 &&& (7 : Int32))), .val (.int x0), .unset, .unset, .unset, .unset, .unset, .unset]) rfl k) ?_
            show Go p e below s _ _ _ s₁ (mkF m 60 #[.val (.int x0), .val (.int x1), .val (.int (x1 &&& (7 : Int32))), .val (.int x0), .unset, .unset, .unset, .unset, .unset, .unset] [])
            exact blk_fLaw_60 l Z a0 hw ct0 X0 e0 n0 Z0 N0 x0 x1 (x1 &&& (7 : Int32)) x0
theorem own_60 (y0 y1 y2 y3 : Int32) : fLaw_60 y0 y1 y2 y3 = 1 := by
  unfold fLaw_60 fLaw_92 fLaw_105 fLaw_115 fLaw_126 fLaw_139 fFwd fTo fRem
  by_cases h1 : y3 = -3
  · subst h1; decide +kernel
  · by_cases h2 : y3 = 0
    · subst h2; decide +kernel
    · simp [h1, h2]
theorem own_law (x0 x1 : Int32) : fLaw x0 x1 = 1 := by
  unfold fLaw
  repeat' split
  all_goals exact own_60 _ _ _ _

set_option maxRecDepth 65536 in
set_option maxHeartbeats 4000000 in
theorem comes_1 {Post : Tables → Env → Array Value → State → Outcome → State → Prop} (hpost : ∀ tb e args s v u, (limb_1_1.after args s (.returned v) u = true ∧ limb_1_2.after args s (.returned v) u = true ∧ True) → FrameEnd s (.returned v) u (Jvm.fieldLocs frame_1_writes args s ++ Jvm.arrayLocs frame_1_arrays args s ++ Jvm.staticLocs frame_1_statics s) 16 128 → Post tb e args s (.returned v) u) :
    ArmFor flags0 classFile x code maxLocals ret World_1 tables_1 room_1 Calls_1 rest_1 Pre_1 Post := by
  intro l hfl _ _ p e ha hc hk s m args below hf hA hF happ hP
  obtain ⟨hcalls, hrest, hpre⟩ := hP
  obtain ⟨-, -, -, hnamed, -, -, -, hat⟩ := (Spec.applies_iff hf).mp happ
  obtain ⟨hg, hn⟩ := and_e (Cond.before_iff.mp (show (Jvm.Cond.and given_1 narrow_1).before args s = true from hpre))
  obtain ⟨k1, r1⟩ := and_e hg
  obtain ⟨g0, r2⟩ := and_e r1
  have g1 := r2
  obtain ⟨w0, w1, rfl⟩ : ∃ w0 w1 : Value, args = #[w0, w1] := by
    have hs : args.size = 2 := by simpa [Cond.value, given_1] using k1
    obtain ⟨L⟩ := args
    match L, hs with
    | [w0, w1], _ => exact ⟨w0, w1, rfl⟩
  have hw := fun d (hd : d ∈ tables_1) => atoms_spec (ws := Jvm.Cond.code x code maxLocals ret :: tables_1) hat d (List.mem_cons_of_mem _ hd)
  have hfit : Fit s := fun {y c} hc i hi => by
    obtain ⟨ha, rfl⟩ := Array.getElem?_eq_some_iff.mp hc
    have q := List.all_eq_true.mp ((Array.all_eq_true_iff_forall_mem.mp hF) _ (Array.getElem_mem ha)) i (List.mem_range.mpr hi)
    simpa [Array.getElem?_eq_getElem hi] using q
  obtain ⟨i0, f0⟩ := is_v g0
  obtain rfl : w0 = (.int i0) := Option.some.inj f0
  obtain ⟨i1, f1⟩ := is_v g1
  obtain rfl : w1 = (.int i1) := Option.some.inj f1
  have hm := met_law l s _ hw i0 i1 s.heap s.heap.size (Nat.le_refl _)
  rw [own_law] at hm
  obtain ⟨n, o, h1, h2, h3, _, L, rfl, ⟨rfl, N⟩, hq⟩ := hm p e ha hc hk s m _ below hf ((Spec.applies_iff_loose hf).mp happ).1 ⟨rfl, State.Warmed39.refl s, rfl⟩ trivial
  refine ⟨n, _, h1, h2, h3, hpost _ _ _ _ _ _ ⟨Cond.after_iff.mpr rfl, Cond.after_iff.mpr (eq_i res_at (Term.int_eval (1)) rfl), trivial⟩ ⟨hq.1, hq.2.1, (hq.2.2.sift fun y hy => Or.inr (N y hy)).mono (by decide) (by decide)⟩⟩
theorem main_1_1 : Claimed_1_1 := comes_1 fun _ _ _ _ _ _ h hF => ⟨h.1, hF⟩
theorem main_1_2 : Claimed_1_2 := comes_1 fun _ _ _ _ _ _ h hF => ⟨h.2.1, hF⟩
end Jvm.Pilot.@@N@@
namespace Jvm.Pilot.@@N@@
open Jvm Jvm.ClassFile Sem Op Lib Jvm.Free Jvm.Stand Jvm.Pilot.@@N@@.Jvm.D
/-! MADE BY PROGRAM (witnessworld.py) out of the Statement's table words and the real class files: 10 classes; the members and pool entries that the words name. The judged class is class 1, her method 1. -/
namespace start1
open Jvm.ClassFile
def u (s : String) : CpInfo := .utf8 (stringToUtf16 s)
/-- a pool by its gaps: so many unusable entries, then the entry; so many at the end -/
def gap : Nat → List CpInfo → List CpInfo
  | 0, r => r
  | n + 1, r => .unusable :: gap n r
def poolList (es : List (Nat × CpInfo)) (last : Nat) : List CpInfo := es.foldr (fun e r => gap e.1 (e.2 :: r)) (gap last [])
def pool (es : List (Nat × CpInfo)) (last : Nat) : Array CpInfo := ⟨poolList es last⟩
def fileOf (pool : Array CpInfo) (this : Nat) (attrs : Array Attribute := #[]) (ms : Array MethodInfo := #[]) (fl : Nat := 33) (sup : Nat := 0) (ifs : Array Nat := #[]) (fds : Array FieldInfo := #[]) : ClassFile where
  minorVersion := 0
  majorVersion := 65
  constantPool := pool
  accessFlags := fl
  thisClass := this
  superClass := sup
  interfaces := ifs
  fields := fds
  methods := ms
  attributes := attrs
def plain (name : String) (sup : Option ClassId) : Class where
  name := name
  kind := .ordinary
  loader := none
  accessFlags := 33
  super := sup
  interfaces := #[]
  cf := none
  fields := #[]
  methods := #[]
  instanceTypes := #[]
  staticTypes := #[]
  resolved := #[]
  callSites := []
  init := .initialized
  statics := none
  mirror := none

def pool0 : Array CpInfo := pool [(5, u "<init>"), (0, u "()V"), (1, .class_ 10), (1, u "java/lang/Object")] 113

def k0c0 : Code := { maxStack := 0, maxLocals := 1, code := object_method_1_code, exceptionTable := #[], attributes := #[] }
def k0m0 : Method := { name := "<init>", desc := "()V", sig := { parameters := [], returnType := none }, accessFlags := 1, code := some k0c0 }
/-- java/lang/Object -/
def k0 : Class := { plain "java/lang/Object" none with
  accessFlags := 33
  interfaces := #[]
  cf := some (fileOf pool0 8 #[] #[{ accessFlags := 1, nameIndex := 5, descriptorIndex := 6, attributes := #[] }] 33 0 #[] #[])
  fields := #[]
  methods := #[k0m0]
  instanceTypes := #[]
  staticTypes := #[]
  resolved := Array.replicate 124 none
  statics := none }

def pool1 : Array CpInfo := pool [(2, .class_ 4), (1, u "java/lang/Object"), (0, u "<init>"), (0, u "()V"), (0, .integer 65279), (0, .class_ 9), (0, u "com/example/quorumhelm/quorumhelm/ControlMessage$Entry"), (0, .methodref 8 11), (0, .nameAndType 5 12), (0, u "(Lcom/example/quorumhelm/quorumhelm/Network$Flow;I)V"), (0, .methodref 8 14), (0, .nameAndType 15 16), (0, u "toController"), (0, u "()Z"), (0, .methodref 8 18), (0, .nameAndType 19 16), (0, u "removes"), (0, .methodref 8 21), (0, .nameAndType 22 16), (0, u "forwards"), (0, .class_ 24), (0, u "com/example/quorumhelm/quorumhelm/EntryToControllerPinLaw"), (2, u "law"), (0, u "(II)Z")] 12

def k1m0 : Method := { name := "<init>", desc := "()V", sig := { parameters := [], returnType := none }, accessFlags := 2, code := none }
def k1c1 : Code := { maxStack := 4, maxLocals := 10, code := code, exceptionTable := #[], attributes := #[] }
def k1m1 : Method := { name := "law", desc := "(II)Z", sig := { parameters := [.int, .int], returnType := some .boolean }, accessFlags := 9, code := some k1c1 }
/-- com/example/quorumhelm/quorumhelm/EntryToControllerPinLaw -/
def k1 : Class := { plain "com/example/quorumhelm/quorumhelm/EntryToControllerPinLaw" (some 0) with
  accessFlags := 49
  interfaces := #[]
  cf := some (fileOf pool1 23 #[] #[{ accessFlags := 2, nameIndex := 5, descriptorIndex := 6, attributes := #[] }, { accessFlags := 9, nameIndex := 27, descriptorIndex := 28, attributes := #[] }] 49 2 #[] #[])
  fields := #[]
  methods := #[k1m0, k1m1]
  instanceTypes := #[]
  staticTypes := #[]
  resolved := Array.replicate 41 none
  statics := none }

def pool2 : Array CpInfo := pool [(1, .methodref 2 3), (0, .class_ 4), (0, .nameAndType 5 6), (0, u "java/lang/Object"), (0, u "<init>"), (0, u "()V"), (0, .class_ 8), (0, u "java/lang/Record")] 13

def k2c0 : Code := { maxStack := 1, maxLocals := 1, code := jdk_30_method_1_code, exceptionTable := #[], attributes := #[] }
def k2m0 : Method := { name := "<init>", desc := "()V", sig := { parameters := [], returnType := none }, accessFlags := 4, code := some k2c0 }
/-- java/lang/Record -/
def k2 : Class := { plain "java/lang/Record" (some 0) with
  accessFlags := 1057
  interfaces := #[]
  cf := some (fileOf pool2 7 #[] #[{ accessFlags := 4, nameIndex := 5, descriptorIndex := 6, attributes := #[] }] 1057 2 #[] #[])
  fields := #[]
  methods := #[k2m0]
  instanceTypes := #[]
  staticTypes := #[]
  resolved := Array.replicate 22 none
  statics := none }

def pool3 : Array CpInfo := pool [(1, .methodref 2 3), (0, .class_ 4), (0, .nameAndType 5 6), (0, u "java/lang/Record"), (0, u "<init>"), (0, u "()V"), (0, .fieldref 8 9), (0, .class_ 10), (0, .nameAndType 11 12), (0, u "com/example/quorumhelm/quorumhelm/ControlMessage$Entry"), (0, u "flow"), (0, u "Lcom/example/quorumhelm/quorumhelm/Network$Flow;"), (0, .fieldref 8 14), (0, .nameAndType 15 16), (0, u "port"), (0, u "I"), (2, u "(Lcom/example/quorumhelm/quorumhelm/Network$Flow;I)V"), (12, .methodref 8 33), (0, .nameAndType 34 35), (0, u "removes"), (0, u "()Z"), (0, .methodref 8 37), (0, .nameAndType 38 35), (0, u "toController"), (18, u "forwards"), (6, .class_ 65), (0, u "com/example/quorumhelm/quorumhelm/ControlMessage")] 23

def k3c0 : Code := { maxStack := 2, maxLocals := 3, code := prog_41_method_1_code, exceptionTable := #[], attributes := #[] }
def k3m0 : Method := { name := "<init>", desc := "(Lcom/example/quorumhelm/quorumhelm/Network$Flow;I)V", sig := { parameters := [(.object "com/example/quorumhelm/quorumhelm/Network$Flow"), .int], returnType := none }, accessFlags := 1, code := some k3c0 }
def k3c1 : Code := { maxStack := 1, maxLocals := 1, code := prog_41_method_4_code, exceptionTable := #[], attributes := #[] }
def k3m1 : Method := { name := "removes", desc := "()Z", sig := { parameters := [], returnType := some .boolean }, accessFlags := 0, code := some k3c1 }
def k3c2 : Code := { maxStack := 2, maxLocals := 1, code := prog_41_method_5_code, exceptionTable := #[], attributes := #[] }
def k3m2 : Method := { name := "toController", desc := "()Z", sig := { parameters := [], returnType := some .boolean }, accessFlags := 0, code := some k3c2 }
def k3c3 : Code := { maxStack := 1, maxLocals := 1, code := prog_41_method_6_code, exceptionTable := #[], attributes := #[] }
def k3m3 : Method := { name := "forwards", desc := "()Z", sig := { parameters := [], returnType := some .boolean }, accessFlags := 0, code := some k3c3 }
/-- com/example/quorumhelm/quorumhelm/ControlMessage$Entry -/
def k3 : Class := { plain "com/example/quorumhelm/quorumhelm/ControlMessage$Entry" (some 2) with
  accessFlags := 49
  interfaces := #[]
  cf := some (fileOf pool3 8 #[.nestHost 64] #[{ accessFlags := 1, nameIndex := 5, descriptorIndex := 19, attributes := #[] }, { accessFlags := 0, nameIndex := 34, descriptorIndex := 35, attributes := #[] }, { accessFlags := 0, nameIndex := 38, descriptorIndex := 35, attributes := #[] }, { accessFlags := 0, nameIndex := 57, descriptorIndex := 35, attributes := #[] }] 49 2 #[] #[{ accessFlags := 18, nameIndex := 11, descriptorIndex := 12, attributes := #[] }, { accessFlags := 18, nameIndex := 15, descriptorIndex := 16, attributes := #[] }])
  fields := #[{ name := "flow", type := (.object "com/example/quorumhelm/quorumhelm/Network$Flow"), accessFlags := 18, slot := 0, constantValue := 0 }, { name := "port", type := .int, accessFlags := 18, slot := 1, constantValue := 0 }]
  methods := #[k3m0, k3m1, k3m2, k3m3]
  instanceTypes := #[(.object "com/example/quorumhelm/quorumhelm/Network$Flow"), .int]
  staticTypes := #[]
  resolved := Array.replicate 89 none
  statics := none }

def pool4 : Array CpInfo := pool [(1, u "java/lang/Cloneable"), (0, .class_ 1), (0, u "java/lang/Object"), (0, .class_ 3)] 3

/-- java/lang/Cloneable -/
def k4 : Class := { plain "java/lang/Cloneable" (some 0) with
  accessFlags := 1537
  interfaces := #[]
  cf := some (fileOf pool4 2 #[] #[] 1537 4 #[] #[])
  fields := #[]
  methods := #[]
  instanceTypes := #[]
  staticTypes := #[]
  resolved := Array.replicate 8 none
  statics := none }

def pool5 : Array CpInfo := pool [(1, u "java/io/Serializable"), (0, .class_ 1), (0, u "java/lang/Object"), (0, .class_ 3)] 3

/-- java/io/Serializable -/
def k5 : Class := { plain "java/io/Serializable" (some 0) with
  accessFlags := 1537
  interfaces := #[]
  cf := some (fileOf pool5 2 #[] #[] 1537 4 #[] #[])
  fields := #[]
  methods := #[]
  instanceTypes := #[]
  staticTypes := #[]
  resolved := Array.replicate 8 none
  statics := none }

/-- the primitive byte -/
def k6 : Class := { plain "byte" none with kind := .primitive 'B', accessFlags := 0x411 }
/-- [B -/
def k7 : Class := { plain "[B" (some 0) with kind := .array 6 .byte, interfaces := #[4, 5], accessFlags := 1041 }

/-- the primitive int -/
def k8 : Class := { plain "int" none with kind := .primitive 'I', accessFlags := 0x411 }
/-- [I -/
def k9 : Class := { plain "[I" (some 0) with kind := .array 8 .int, interfaces := #[4, 5], accessFlags := 1041 }

def heap : Heap := #[]
def classes : Array Class := #[k0, k1, k2, k3, k4, k5, k6, k7, k8, k9]
def interned : List (Array UInt16 × Addr) := []
def slotsUsed : Nat := 0
def theMethod : MethodId := ⟨1, 1⟩
def args0 : Array Value := #[.int 5, .int 1]
def aboutOver (below : List Frame) : State where
  vm := { classes := classes, interned := interned.toArray }
  heap := heap
  slotsUsed := slotsUsed
  threads := #[{ frames := .invoking theMethod args0 :: below }]
def below0 : List Frame := [.native { method := ⟨0, 0⟩, args := #[] }]
def about1 : State := aboutOver below0
def p0 : Program := .bare "" "" ""
def e0 : Env := launch0.env 0 0 0
theorem w_frames : about1.frames = Frame.invoking theMethod args0 :: below0 := rfl
set_option maxRecDepth 65536 in
theorem w_args : argsFit about1.vm theMethod args0 = true := by decide +kernel
set_option maxRecDepth 65536 in
theorem w_heap : heapFits about1 = true := by decide +kernel
set_option maxRecDepth 65536 in
theorem w_runnable : about1.curStatus? = some .runnable := by decide +kernel
set_option maxRecDepth 65536 in
theorem w_alone : about1.alone = true := by decide +kernel
set_option maxRecDepth 65536 in
theorem w_named : about1.methodNamed? x = some theMethod := by decide +kernel
set_option maxRecDepth 65536 in
theorem w_hears : about1.hears theMethod below0 = true := by decide +kernel
set_option maxRecDepth 65536 in
theorem w_ripe : about1.ripe theMethod args0 below0 = true := by decide +kernel
theorem w_running : about1.status = .running := rfl
set_option maxRecDepth 65536 in
theorem w_room : about1.hasRoom e0.platform room_1 = true :=
  launch0.hasRoom_least _ room_1 (by decide +kernel) (by decide +kernel) (by decide +kernel) (by decide +kernel) (by decide +kernel) (by decide +kernel)
theorem allAtoms_all (ts : List Jvm.Cond) (a : Array Jvm.Value) (st : Jvm.State) : (allAtoms ts).before a st = ts.all (fun c => c.before a st) := by
  induction ts with
  | nil => rfl
  | cons c t ih =>
    show (Jvm.Cond.and c (allAtoms t)).before a st = _
    rw [Jvm.Cond.before_and, ih, List.all_cons]
def words1 : List Jvm.Cond := Jvm.Cond.code x code maxLocals ret :: tables_1
/-- a 'code' word, met by the world's own term for the bytes: nothing is compared byte by byte -/
theorem code_word {y : MethodName} {bytes : ByteArray} {mx : Nat} {rt : Option FieldType} {a : Array Value} {s : State} {m : MethodId} {meth : Method} {c : Code} (h1 : s.methodNamed? y = some m) (h2 : s.vm.method? m = some meth) (h3 : meth.code = some c) (h4 : c.code = bytes)
    (h5 : (c.maxLocals == mx && c.exceptionTable.isEmpty && decide (c.maxStack ≤ mostOperands) && decide (meth.sig.returnType = rt) && !meth.locks && decide (parseMethodDescriptor y.desc = some meth.sig)) = true) : (Jvm.Cond.code y bytes mx rt).before a s = true := by
  simp only [Bool.and_eq_true, beq_iff_eq, Bool.not_eq_true', decide_eq_true_eq] at h5
  obtain ⟨⟨⟨⟨⟨g1, g2⟩, g3⟩, g4⟩, g5⟩, g6⟩ := h5
  simp [Cond.before, Cond.holds, Cond.value, h1, h2, h3, h4, g1, g2, g3, g4, g5, g6]
def isCode : Jvm.Cond → Bool
  | .code _ _ _ _ => true
  | _ => false
theorem all_split {L : List Jvm.Cond} {P : Jvm.Cond → Bool} (h1 : L.all (fun c => isCode c || P c) = true) (h2 : ∀ c ∈ L.filter isCode, P c = true) : L.all P = true := by
  refine List.all_eq_true.mpr fun c hc => ?_
  have h := List.all_eq_true.mp h1 c hc
  rcases Bool.eq_false_or_eq_true (isCode c) with hi | hi
  · exact h2 c (List.mem_filter.mpr ⟨hc, hi⟩)
  · simpa [hi] using h
set_option maxRecDepth 65536 in
theorem w_c0 : (Jvm.Cond.code x code maxLocals ret).before args0 about1 = true := code_word (m := ⟨1, 1⟩) (meth := k1m1) (c := k1c1) (by decide +kernel) rfl rfl rfl (by decide +kernel)
set_option maxRecDepth 65536 in
theorem w_c1 : (Jvm.Cond.code ({ cls := "com/example/quorumhelm/quorumhelm/ControlMessage$Entry", name := "<init>", desc := "(Lcom/example/quorumhelm/quorumhelm/Network$Flow;I)V" } : Jvm.MethodName) prog_41_method_1_code (3 : Nat) (Option.none : Option Jvm.ClassFile.FieldType)).before args0 about1 = true := code_word (m := ⟨3, 0⟩) (meth := k3m0) (c := k3c0) (by decide +kernel) rfl rfl rfl (by decide +kernel)
set_option maxRecDepth 65536 in
theorem w_c2 : (Jvm.Cond.code ({ cls := "java/lang/Record", name := "<init>", desc := "()V" } : Jvm.MethodName) jdk_30_method_1_code (1 : Nat) (Option.none : Option Jvm.ClassFile.FieldType)).before args0 about1 = true := code_word (m := ⟨2, 0⟩) (meth := k2m0) (c := k2c0) (by decide +kernel) rfl rfl rfl (by decide +kernel)
set_option maxRecDepth 65536 in
theorem w_c3 : (Jvm.Cond.code ({ cls := "java/lang/Object", name := "<init>", desc := "()V" } : Jvm.MethodName) object_method_1_code (1 : Nat) (Option.none : Option Jvm.ClassFile.FieldType)).before args0 about1 = true := code_word (m := ⟨0, 0⟩) (meth := k0m0) (c := k0c0) (by decide +kernel) rfl rfl rfl (by decide +kernel)
set_option maxRecDepth 65536 in
theorem w_c4 : (Jvm.Cond.code ({ cls := "com/example/quorumhelm/quorumhelm/ControlMessage$Entry", name := "toController", desc := "()Z" } : Jvm.MethodName) prog_41_method_5_code (1 : Nat) (Option.some Jvm.ClassFile.FieldType.boolean)).before args0 about1 = true := code_word (m := ⟨3, 2⟩) (meth := k3m2) (c := k3c2) (by decide +kernel) rfl rfl rfl (by decide +kernel)
set_option maxRecDepth 65536 in
theorem w_c5 : (Jvm.Cond.code ({ cls := "com/example/quorumhelm/quorumhelm/ControlMessage$Entry", name := "removes", desc := "()Z" } : Jvm.MethodName) prog_41_method_4_code (1 : Nat) (Option.some Jvm.ClassFile.FieldType.boolean)).before args0 about1 = true := code_word (m := ⟨3, 1⟩) (meth := k3m1) (c := k3c1) (by decide +kernel) rfl rfl rfl (by decide +kernel)
set_option maxRecDepth 65536 in
theorem w_c6 : (Jvm.Cond.code ({ cls := "com/example/quorumhelm/quorumhelm/ControlMessage$Entry", name := "forwards", desc := "()Z" } : Jvm.MethodName) prog_41_method_6_code (1 : Nat) (Option.some Jvm.ClassFile.FieldType.boolean)).before args0 about1 = true := code_word (m := ⟨3, 3⟩) (meth := k3m3) (c := k3c3) (by decide +kernel) rfl rfl rfl (by decide +kernel)
def codes1 : List Jvm.Cond := [Jvm.Cond.code x code maxLocals ret, Jvm.Cond.code ({ cls := "com/example/quorumhelm/quorumhelm/ControlMessage$Entry", name := "<init>", desc := "(Lcom/example/quorumhelm/quorumhelm/Network$Flow;I)V" } : Jvm.MethodName) prog_41_method_1_code (3 : Nat) (Option.none : Option Jvm.ClassFile.FieldType), Jvm.Cond.code ({ cls := "java/lang/Record", name := "<init>", desc := "()V" } : Jvm.MethodName) jdk_30_method_1_code (1 : Nat) (Option.none : Option Jvm.ClassFile.FieldType), Jvm.Cond.code ({ cls := "java/lang/Object", name := "<init>", desc := "()V" } : Jvm.MethodName) object_method_1_code (1 : Nat) (Option.none : Option Jvm.ClassFile.FieldType), Jvm.Cond.code ({ cls := "com/example/quorumhelm/quorumhelm/ControlMessage$Entry", name := "toController", desc := "()Z" } : Jvm.MethodName) prog_41_method_5_code (1 : Nat) (Option.some Jvm.ClassFile.FieldType.boolean), Jvm.Cond.code ({ cls := "com/example/quorumhelm/quorumhelm/ControlMessage$Entry", name := "removes", desc := "()Z" } : Jvm.MethodName) prog_41_method_4_code (1 : Nat) (Option.some Jvm.ClassFile.FieldType.boolean), Jvm.Cond.code ({ cls := "com/example/quorumhelm/quorumhelm/ControlMessage$Entry", name := "forwards", desc := "()Z" } : Jvm.MethodName) prog_41_method_6_code (1 : Nat) (Option.some Jvm.ClassFile.FieldType.boolean)]
set_option maxRecDepth 65536 in
theorem codes_eq : words1.filter isCode = codes1 := rfl
theorem w_codes : ∀ c ∈ words1.filter isCode, c.before args0 about1 = true := by
  rw [codes_eq]
  intro c hc
  simp only [codes1, List.mem_cons, List.not_mem_nil, or_false] at hc
  rcases hc with rfl | rfl | rfl | rfl | rfl | rfl | rfl
  · exact w_c0
  · exact w_c1
  · exact w_c2
  · exact w_c3
  · exact w_c4
  · exact w_c5
  · exact w_c6
set_option maxRecDepth 65536 in
theorem w_t1 : (words1.take 24).all (fun c => isCode c || c.before args0 about1) = true := by decide +kernel
set_option maxRecDepth 65536 in
theorem w_t2 : (words1.drop 24).all (fun c => isCode c || c.before args0 about1) = true := by decide +kernel
theorem w_tables : (allAtoms (Jvm.Cond.code x code maxLocals ret :: tables_1)).before args0 about1 = true := by
  rw [allAtoms_all]
  show words1.all (fun c => c.before args0 about1) = true
  refine all_split ?_ w_codes
  rw [← List.take_append_drop 24 words1, List.all_append, w_t1, w_t2]
  rfl
set_option maxRecDepth 65536 in
theorem w_case : (Jvm.Cond.and given_1 narrow_1).before args0 about1 = true := by decide +kernel
theorem w_applies : (headSpec (Jvm.Cond.code x code maxLocals ret :: tables_1) room_1).applies x e0.platform about1 = true :=
  (Spec.applies_iff w_frames).mpr ⟨w_running, w_runnable, w_alone, w_named, w_hears, w_ripe, w_room, w_tables⟩
theorem atStart : AtStart classFile x code maxLocals ret World_1 tables_1 room_1 Calls_1 rest_1 Pre_1 launch0 p0 e0 about1 theMethod args0 below0 :=
  ⟨lists_1, trivial, launch0.admits_env _ _ _, launch0.least_env, fairChoices_fair.cas, fairChoices_fair.clock, w_frames, w_args, w_heap, w_applies, trivial, trivial, w_case⟩
end start1
theorem witness_1 : WitnessClaimed_1 := ⟨start1.p0, start1.e0, start1.about1, start1.theMethod, start1.args0, start1.below0, start1.atStart⟩
end Jvm.Pilot.@@N@@
