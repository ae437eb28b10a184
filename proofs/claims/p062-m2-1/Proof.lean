import JvmDerived
import JvmDerived.Pilot.@@N@@Statement
import JvmDerived.Pilot.@@N@@Code
set_option linter.unusedVariables false
set_option linter.unusedSimpArgs false
namespace Jvm.Pilot.@@N@@
open Jvm Jvm.ClassFile Sem Op Lib Jvm.Free Jvm.Stand Jvm.LawKit Jvm.RoadKit Bundle Jvm.Pilot.@@N@@.Jvm.D
/-! own layer: a run that ends well, said backwards -/
section OwnGo
variable {p : Program} {l : Launch} {e : Env} {R : Room} {s : State} {m : MethodId} {args : Array Value} {below : List Frame} {meth : Method} {c : Code} {T T' : State} {locs : List Loc} {cells slots : Nat} {Z : State} {a0 : Array Value} {h : Heap} {Q : Option Value → Heap → List Loc → Prop} {C S maxL0 : Nat} {g g' : JFrame}
def Go (p : Program) (e : Env) (below : List Frame) (s : State) (Q : Option Value → Heap → List Loc → Prop) (C S : Nat) (T : State) (g : JFrame) : Prop :=
  ∃ s₂ o, Steps p.tables e below (T.setTop g) s₂ ∧ s₂.status = .running ∧ Ended s₂ below o ∧ ∃ v L, o = .returned v ∧ Q v s₂.heap L ∧ FrameEnd s o s₂ L C S
def Ct (p : Program) (s : State) (m : MethodId) (meth : Method) (c : Code) (Z : State) (own nm : String) (bytes : ByteArray) (maxL : Nat) (ret : Option FieldType) : Prop :=
  p.tables.exec = Jvm.exec ∧ Z.Warmed39 s.vm ∧ s.vm.findClass own = some m.cls ∧ c.code = bytes ∧ c.maxLocals = maxL ∧ meth.sig.returnType = ret ∧ meth.locks = false ∧ meth.name = nm
theorem go_st (k : ∀ t, Steps p.tables e below (T'.setTop g') t → Steps p.tables e below (T.setTop g) t) (q : Go p e below s Q C S T' g') : Go p e below s Q C S T g := by
  obtain ⟨s2, o, q1, q2⟩ := q
  exact ⟨s2, o, k _ q1, q2⟩
theorem castGo (q : g = g') (k : Go p e below s Q C S T g') : Go p e below s Q C S T g := by rw [q]; exact k
theorem go_tr (k : Steps p.tables e below (T.setTop g) (T'.setTop g')) (q : Go p e below s Q C S T' g') : Go p e below s Q C S T g := by
  obtain ⟨s2, o, q1, q2⟩ := q
  exact ⟨s2, o, k.trans q1, q2⟩
theorem go_end (X : Stand p l e R s m args below meth c T locs cells slots) (hlk : meth.locks = false) {v : Option Value} (hv : meth.sig.returnType = none → v = none)
    (hr : ∀ fs, (∀ (f : JFrame) (acts : List Action), f.method = m → f.locked = none → f.entered = [] → (doReturn e (T.setTop f) acts v).1 = T.setFrames fs) → Steps p.tables e below (T.setTop g) (T.setFrames fs))
    (hC : cells ≤ C) (hS : slots ≤ S) (hQ : Q v T.heap locs) : Go p e below s Q C S T g := by
  obtain ⟨fs, h1, hrun, hended, hW, hsame⟩ := X.leave (v := v) hv hlk
  exact ⟨_, _, hr fs h1, hrun, hended, _, _, rfl, hQ, ⟨_, rfl⟩, hW, hsame.mono hC hS⟩
theorem go_retI (X : Stand p l e R s m args below meth c T locs cells slots) (hx : p.tables.exec = Jvm.exec) (hlk : meth.locks = false) (hret : meth.sig.returnType = some .int) {pc : Nat} {Ls : Array Slot} {z : Int32} {rest : List Value} (hd : decode c.code pc = .ok (.ireturn, 1))
    (hC : cells ≤ C) (hS : slots ≤ S) (hQ : Q (some (.int z)) T.heap locs) : Go p e below s Q C S T (mkF m pc Ls (.int z :: rest)) :=
  go_end X hlk (fun h => by rw [hret] at h; cases h) (fun fs h1 => retOut X hx hret rfl (Or.inl ⟨rfl, Or.inl rfl, _, rfl⟩) hd h1) hC hS hQ
theorem go_retL (X : Stand p l e R s m args below meth c T locs cells slots) (hx : p.tables.exec = Jvm.exec) (hlk : meth.locks = false) (hret : meth.sig.returnType = some .long) {pc : Nat} {Ls : Array Slot} {z : Int64} {rest : List Value} (hd : decode c.code pc = .ok (.lreturn, 1))
    (hC : cells ≤ C) (hS : slots ≤ S) (hQ : Q (some (.long z)) T.heap locs) : Go p e below s Q C S T (mkF m pc Ls (.long z :: rest)) :=
  go_end X hlk (fun h => by rw [hret] at h; cases h) (fun fs h1 => retOut X hx hret rfl (Or.inr (Or.inl ⟨rfl, rfl, _, rfl⟩)) hd h1) hC hS hQ
theorem go_retD (X : Stand p l e R s m args below meth c T locs cells slots) (hx : p.tables.exec = Jvm.exec) (hlk : meth.locks = false) (hret : meth.sig.returnType = some .double) {pc : Nat} {Ls : Array Slot} {z : UInt64} {rest : List Value} (hd : decode c.code pc = .ok (.dreturn, 1))
    (hC : cells ≤ C) (hS : slots ≤ S) (hQ : Q (some (.double z)) T.heap locs) : Go p e below s Q C S T (mkF m pc Ls (.double z :: rest)) :=
  go_end X hlk (fun h => by rw [hret] at h; cases h) (fun fs h1 => retOut X hx hret rfl (Or.inr (Or.inr (Or.inl ⟨rfl, rfl, _, rfl⟩))) hd h1) hC hS hQ
theorem go_retA (X : Stand p l e R s m args below meth c T locs cells slots) (hx : p.tables.exec = Jvm.exec) (hlk : meth.locks = false) {t : FieldType} (hret : meth.sig.returnType = some t) (ht : t.isReference = true) {w : Value} (hw : w.isRef = true) {pc : Nat} {Ls : Array Slot} {rest : List Value} (hd : decode c.code pc = .ok (.areturn, 1))
    (hC : cells ≤ C) (hS : slots ≤ S) (hQ : Q (some w) T.heap locs) : Go p e below s Q C S T (mkF m pc Ls (w :: rest)) :=
  go_end X hlk (fun h => by rw [hret] at h; cases h) (fun fs h1 => retOut X hx hret (by cases t <;> simp_all [FieldType.isReference, narrow] <;> cases w <;> simp_all [Value.isRef, narrow]) (Or.inr (Or.inr (Or.inr (Or.inr ⟨rfl, ht, hw⟩)))) hd h1) hC hS hQ
theorem go_retB (X : Stand p l e R s m args below meth c T locs cells slots) (hx : p.tables.exec = Jvm.exec) (hlk : meth.locks = false) (hret : meth.sig.returnType = some .boolean) {pc : Nat} {Ls : Array Slot} {z w : Int32} {rest : List Value} (hd : decode c.code pc = .ok (.ireturn, 1)) (hw : z &&& 1 = w)
    (hC : cells ≤ C) (hS : slots ≤ S) (hQ : Q (some (.int w)) T.heap locs) : Go p e below s Q C S T (mkF m pc Ls (.int z :: rest)) := by
  subst hw
  exact go_end X hlk (fun h => by rw [hret] at h; cases h) (fun fs h1 => retN X hx (t := .boolean) hret (by simp) hd h1) hC hS hQ
theorem go_ret0 (X : Stand p l e R s m args below meth c T locs cells slots) (hx : p.tables.exec = Jvm.exec) (hlk : meth.locks = false) (hret : meth.sig.returnType = none) {pc : Nat} {Ls : Array Slot} (hd : decode c.code pc = .ok (.return_, 1))
    (hC : cells ≤ C) (hS : slots ≤ S) (hQ : Q none T.heap locs) : Go p e below s Q C S T (mkF m pc Ls []) :=
  go_end X hlk (fun _ => rfl) (fun fs h1 => X.returnOut hx hret hd h1) hC hS hQ
def Met (l : Launch) (y : MethodName) (bytes : ByteArray) (maxL : Nat) (ret : Option FieldType) (ws : List Cond) (rm : Room) (Z : State) (as' : Array Value) (h0 : Heap) (Q : Option Value → Heap → List Loc → Prop) (C S : Nat) : Prop :=
  MetFree l y (head1 (Jvm.Cond.code y bytes maxL ret :: ws) rm) (fun a U => a = as' ∧ Z.Warmed39 U.vm ∧ U.heap = h0) (fun _ _ _ _ _ => True) (fun _ U o U' => ∃ v L, o = .returned v ∧ Q v U'.heap L ∧ FrameEnd U o U' L C S)
def QV (w : Option Value) (h0 : Heap) (n0 : Nat) (v : Option Value) (h : Heap) (L : List Loc) : Prop := v = w ∧ Fr n0 L ∧ h = h0
def QF (w : Option Value) (n0 : Nat) (v : Option Value) (h : Heap) (L : List Loc) : Prop := v = w ∧ Fr n0 L
theorem own_body {y : MethodName} {bytes : ByteArray} {maxL : Nat} {ret : Option FieldType} {rm : Room} {as' : Array Value} {h0 : Heap} {ws : List Cond} (hn : plainName y.cls = true) {C S : Nat}
    (H : ∀ p e s m below meth c s₁, Ct p s m meth c Z y.cls y.name bytes maxL ret → Stand p l e rm s m as' below meth c s₁ [] 0 0 → s₁.heap = h0 → Go p e below s Q C S s₁ (entryFrame m as' maxL)) :
    Met l y bytes maxL ret ws rm Z as' h0 Q C S := by
  refine MetFree.of_bodySF (plainFor_of_name hn) hisR ?_
  intro p e s m args below meth c s₁ Bd hml0 hP hK
  obtain ⟨rfl, hZ, hh⟩ := hP
  have hown : s.vm.findClass y.cls = some m.cls := findClass_of_methodNamed Bd.named
  have hnm := (name_of_methodNamed Bd.named Bd.method).1
  have X0 : Stand p l e rm s m args below meth c s₁ [] 0 0 := Stand.of_body Bd
  have e0 : s₁.heap = h0 := by rw [← hh, Bd.state]; rfl
  exact H p e s m below meth c s₁ ⟨Bd.exec, hZ, hown, Bd.bytes, hml0, Bd.returns, Bd.notSynchronized, hnm⟩ X0 e0
theorem go_callS (X : Stand p l e R s m args below meth c T locs cells slots) (hx : p.tables.exec = Jvm.exec) (hZ : Z.Warmed39 s.vm) (hml : c.maxLocals = maxL0) {own : String} {index : Nat} {y : MethodName} {bytes : ByteArray} {maxL : Nat} {ret : Option FieldType} (hown : s.vm.findClass own = some m.cls)
    (w1 : (Cond.methodLink own index y).before a0 Z = true) (w2 : (Cond.static y).before a0 Z = true) (w3 : (Cond.initialized y.cls).before a0 Z = true) (w4 : (Cond.code y bytes maxL ret).before a0 Z = true) (eT : T.heap = h) {argsL rest : List Value} {rm : Room} {Q' : Option Value → Heap → List Loc → Prop} {W : Nat}
    (hM : Met l y bytes maxL ret [] rm Z argsL.toArray h Q' rm.cells rm.slots)
    (hd : decode c.code g.pc = .ok (.invokestatic index, 3)) (hs : g.stack = argsL.reverse ++ rest) (hg : g.method = m) (hsz : g.locals.size = maxL0) (hlen : ∀ sig, parseMethodDescriptor y.desc = some sig → argsL.length = sig.parameters.length) (hW : 2 * g.monitorRoom + (rest.map fun v => v.category).sum ≤ W)
    (hy : y.cls ≠ "java/lang/invoke/MethodHandle" ∧ y.cls ≠ "java/lang/invoke/VarHandle") (hf : rm.frames + 1 ≤ R.frames) (hl : W + (maxL + 11) + rm.locals ≤ R.locals) (hc : cells + rm.cells ≤ R.cells) (hsl : slots + rm.slots ≤ R.slots)
    (k : ∀ T' v L, Stand p l e R s m args below meth c T' (locs ++ L) (cells + rm.cells) (slots + rm.slots) → Q' v T'.heap L → Go p e below s Q C S T' { g with pc := g.pc + 3, stack := v.toList ++ rest }) : Go p e below s Q C S T g := by
  obtain ⟨v, _, ⟨T1, L1, k1, n1⟩, -, X1, ⟨Lc, hQ, l1, y1, z1⟩, st⟩ := Jvm.LawKit.callS X hx (y := y) hown (mvT hZ w1) (mvT hZ w2) (mvT hZ w3) (mvT hZ w4) hy (backOf (W := W) hM hZ w4 w3 hf hl) (g := g) hg (hsz.trans hml.symm) (argsL := argsL) (rest := rest) hlen hs hW hd (fun _ _ => ⟨rfl, eT, hc, hsl⟩)
  dsimp only [Pt.U, Pt.locs, Pt.cells, Pt.slots] at X1 l1 y1 z1 st hQ
  subst l1 y1 z1
  exact go_st st (k _ _ _ X1 hQ)
theorem go_callV (X : Stand p l e R s m args below meth c T locs cells slots) (hx : p.tables.exec = Jvm.exec) (hZ : Z.Warmed39 s.vm) (hml : c.maxLocals = maxL0) {own K : String} {index : Nat} {y z : MethodName} {bytes : ByteArray} {maxL : Nat} {ret : Option FieldType} (hown : s.vm.findClass own = some m.cls)
    (w1 : (Cond.methodLink own index y).before a0 Z = true) (w2 : (Cond.declares y).before a0 Z = true) (w2' : NotFace s y) (w3 : (Cond.selects K y z).before a0 Z = true) (w3' : (Cond.instanceMethod z).before a0 Z = true) (w4 : (Cond.code z bytes maxL ret).before a0 Z = true) (w5 : (Cond.initialized z.cls).before a0 Z = true) (eT : T.heap = h) {a : Addr} (E : Exa Z h a K) {argsL rest : List Value} {rm : Room} {Q' : Option Value → Heap → List Loc → Prop} {W : Nat}
    (hM : Met l z bytes maxL ret [] rm Z (.ref a :: argsL).toArray h Q' rm.cells rm.slots)
    (hd : decode c.code g.pc = .ok (.invokevirtual index, 3)) (hs : g.stack = argsL.reverse ++ .ref a :: rest) (hg : g.method = m) (hsz : g.locals.size = maxL0) (hlen : ∀ sig, parseMethodDescriptor y.desc = some sig → argsL.length = sig.parameters.length) (hW : 2 * g.monitorRoom + (rest.map fun v => v.category).sum ≤ W)
    (hy : y.cls ≠ "java/lang/invoke/MethodHandle" ∧ y.cls ≠ "java/lang/invoke/VarHandle") (hf : rm.frames + 1 ≤ R.frames) (hl : W + (maxL + 11) + rm.locals ≤ R.locals) (hc : cells + rm.cells ≤ R.cells) (hsl : slots + rm.slots ≤ R.slots)
    (k : ∀ T' v L, Stand p l e R s m args below meth c T' (locs ++ L) (cells + rm.cells) (slots + rm.slots) → Q' v T'.heap L → Go p e below s Q C S T' { g with pc := g.pc + 3, stack := v.toList ++ rest }) : Go p e below s Q C S T g := by
  obtain ⟨cB, kB, q1, q2, q3⟩ := isOf hZ eT E
  obtain ⟨v, _, ⟨T1, L1, k1, n1⟩, -, X1, ⟨Lc, hQ, l1, y1, z1⟩, st⟩ := X.virtualBack hx (y := y) (z := z) hown (mvT hZ w1) (mvT hZ w2) w2' (mvT hZ w3) (mvT hZ w3') hy (backOf (W := W) hM hZ w4 w5 hf hl) q1 q3 (g := g) hg (hsz.trans hml.symm) (Steps.refl _) (argsL := argsL) (rest := rest) hlen hs hW hd (fun _ _ => ⟨rfl, eT, hc, hsl⟩)
  dsimp only [Pt.U, Pt.locs, Pt.cells, Pt.slots] at X1 l1 y1 z1 st hQ
  subst l1 y1 z1
  exact go_tr st (k _ _ _ X1 hQ)
theorem go_callU (X : Stand p l e R s m args below meth c T locs cells slots) (hx : p.tables.exec = Jvm.exec) (hZ : Z.Warmed39 s.vm) (hml : c.maxLocals = maxL0) {own K owner : String} {index : Nat} {y z : MethodName} {bytes : ByteArray} {maxL : Nat} {ret : Option FieldType} (hown : s.vm.findClass own = some m.cls)
    (w1 : (Cond.methodLink own index y).before a0 Z = true) (w2 : (Cond.sameMethod y.cls owner y.name y.desc).before a0 Z = true) (w2' : (Cond.declares ⟨owner, y.name, y.desc⟩).before a0 Z = true) (ho : owner ≠ "java/lang/invoke/MethodHandle" ∧ owner ≠ "java/lang/invoke/VarHandle") (w3 : (Cond.selects K y z).before a0 Z = true) (w3' : (Cond.instanceMethod z).before a0 Z = true) (w4 : (Cond.code z bytes maxL ret).before a0 Z = true) (w5 : (Cond.initialized z.cls).before a0 Z = true) (eT : T.heap = h) {a : Addr} (E : Exa Z h a K) {argsL rest : List Value} {rm : Room} {Q' : Option Value → Heap → List Loc → Prop} {W : Nat}
    (hM : Met l z bytes maxL ret [] rm Z (.ref a :: argsL).toArray h Q' rm.cells rm.slots)
    (hd : decode c.code g.pc = .ok (.invokevirtual index, 3)) (hs : g.stack = argsL.reverse ++ .ref a :: rest) (hg : g.method = m) (hsz : g.locals.size = maxL0) (hlen : ∀ sig, parseMethodDescriptor y.desc = some sig → argsL.length = sig.parameters.length) (hW : 2 * g.monitorRoom + (rest.map fun v => v.category).sum ≤ W)
    (hf : rm.frames + 1 ≤ R.frames) (hl : W + (maxL + 11) + rm.locals ≤ R.locals) (hc : cells + rm.cells ≤ R.cells) (hsl : slots + rm.slots ≤ R.slots)
    (k : ∀ T' v L, Stand p l e R s m args below meth c T' (locs ++ L) (cells + rm.cells) (slots + rm.slots) → Q' v T'.heap L → Go p e below s Q C S T' { g with pc := g.pc + 3, stack := v.toList ++ rest }) : Go p e below s Q C S T g := by
  obtain ⟨cB, kB, q1, q2, q3⟩ := isOf hZ eT E
  obtain ⟨v, _, ⟨T1, L1, k1, n1⟩, -, X1, ⟨Lc, hQ, l1, y1, z1⟩, st⟩ := X.virtualBackUp hx (x := y) (y := z) hown (mvT hZ w1) (mvT hZ w2) (mvT hZ w2') ho (mvT hZ w3) (mvT hZ w3') (backOf (W := W) hM hZ w4 w5 hf hl) q1 q3 (g := g) hg (hsz.trans hml.symm) (Steps.refl _) (argsL := argsL) (rest := rest) hlen hs hW hd (fun _ _ => ⟨rfl, eT, hc, hsl⟩)
  dsimp only [Pt.U, Pt.locs, Pt.cells, Pt.slots] at X1 l1 y1 z1 st hQ
  subst l1 y1 z1
  exact go_tr st (k _ _ _ X1 hQ)
theorem go_callI (X : Stand p l e R s m args below meth c T locs cells slots) (hx : p.tables.exec = Jvm.exec) (hZ : Z.Warmed39 s.vm) (hml : c.maxLocals = maxL0) {own : String} {index : Nat} {y : MethodName} {bytes : ByteArray} {maxL : Nat} (hown : s.vm.findClass own = some m.cls) (hy1 : y.name = "<init>")
    (w1 : (Cond.methodLink own index y).before a0 Z = true) (w2 : (Cond.instanceMethod y).before a0 Z = true) (w4 : (Cond.code y bytes maxL none).before a0 Z = true) (w5 : (Cond.initialized y.cls).before a0 Z = true) (eT : T.heap = h) {a : Addr} {argsL rest : List Value} {rm : Room} {Q' : Option Value → Heap → List Loc → Prop} {W : Nat}
    (hM : Met l y bytes maxL none [] rm Z (.ref a :: argsL).toArray h Q' rm.cells rm.slots)
    (hd : decode c.code g.pc = .ok (.invokespecial index, 3)) (hs : g.stack = argsL.reverse ++ .ref a :: rest) (hg : g.method = m) (hsz : g.locals.size = maxL0) (hlen : ∀ sig, parseMethodDescriptor y.desc = some sig → argsL.length = sig.parameters.length) (hW : 2 * g.monitorRoom + (rest.map fun v => v.category).sum ≤ W)
    (hy : y.cls ≠ "java/lang/invoke/MethodHandle" ∧ y.cls ≠ "java/lang/invoke/VarHandle") (hf : rm.frames + 1 ≤ R.frames) (hl : W + (maxL + 11) + rm.locals ≤ R.locals) (hc : cells + rm.cells ≤ R.cells) (hsl : slots + rm.slots ≤ R.slots)
    (k : ∀ T' v L, Stand p l e R s m args below meth c T' (locs ++ L) (cells + rm.cells) (slots + rm.slots) → Q' v T'.heap L → Go p e below s Q C S T' { g with pc := g.pc + 3, stack := v.toList ++ rest }) : Go p e below s Q C S T g := by
  obtain ⟨v, _, ⟨T1, L1, k1, n1⟩, -, X1, ⟨Lc, hQ, l1, y1, z1⟩, st⟩ := X.specialBack hx (y := y) hy1 hown (mvT hZ w1) (mvT hZ w2) (mvT hZ w4) hy (backOf (W := W) hM hZ w4 w5 hf hl) (g := g) hg (hsz.trans hml.symm) (Steps.refl _) (a := a) (argsL := argsL) (rest := rest) hlen hs hW hd (fun _ _ => ⟨rfl, eT, hc, hsl⟩)
  dsimp only [Pt.U, Pt.locs, Pt.cells, Pt.slots] at X1 l1 y1 z1 st hQ
  subst l1 y1 z1
  exact go_tr st (k _ _ _ X1 hQ)
theorem go_getF (X : Stand p l e R s m args below meth c T locs cells slots) (hx : p.tables.exec = Jvm.exec) (hZ : Z.Warmed39 s.vm) {own R0 O n d host : String} {index : Nat} (hown : s.vm.findClass own = some m.cls) (w : (Cond.fieldLink own index R0 n d).before a0 Z = true ∨ (Cond.fieldLinkNest own index R0 n d host).before a0 Z = true) (via : Via Z R0 O n d)
    (eT : T.heap = h) {a : Addr} {v : Value} (F : Fld Z h a O n d v) {rest : List Value} (hd : decode c.code g.pc = .ok (.getfield index, 3)) (hg : g.method = m) (hs : g.stack = .ref a :: rest)
    (k : ∀ T', Stand p l e R s m args below meth c T' locs cells slots → T'.heap = h → Go p e below s Q C S T' { g with pc := g.pc + 3, stack := v :: rest }) : Go p e below s Q C S T g := by
  obtain ⟨T1, X1, e1, st⟩ := getF X hx hZ hown w via eT F hg hs hd
  exact go_st st (k _ X1 e1)
theorem go_getS (X : Stand p l e R s m args below meth c T locs cells slots) (hx : p.tables.exec = Jvm.exec) (hZ : Z.Warmed39 s.vm) {own R0 O n d host : String} {index : Nat} (hown : s.vm.findClass own = some m.cls) (w : (Cond.fieldLink own index R0 n d).before a0 Z = true ∨ (Cond.fieldLinkNest own index R0 n d host).before a0 Z = true) (via : Via Z R0 O n d)
    (eT : T.heap = h) {v : Value} (F : Sta Z h O n d v) (hd : decode c.code g.pc = .ok (.getstatic index, 3)) (hg : g.method = m)
    (k : ∀ T', Stand p l e R s m args below meth c T' locs cells slots → T'.heap = h → Go p e below s Q C S T' { g with pc := g.pc + 3, stack := v :: g.stack }) : Go p e below s Q C S T g := by
  obtain ⟨T1, X1, e1, st⟩ := getS2 X hx hZ hown w via eT F hg hd
  exact go_st st (k _ X1 e1)
theorem go_putF (X : Stand p l e R s m args below meth c T locs cells slots) (hx : p.tables.exec = Jvm.exec) (hZ : Z.Warmed39 s.vm) {own R0 O n d host K : String} {index kk : Nat} {ty : FieldType} (hown : s.vm.findClass own = some m.cls) (w : (Cond.fieldLink own index R0 n d).before a0 Z = true ∨ (Cond.fieldLinkNest own index R0 n d host).before a0 Z = true) (via : Via Z R0 O n d)
    (eT : T.heap = h) {a : Addr} {v old : Value} (F : Fld Z h a O n d old) (E : Exa Z h a K) (L : (Cond.lays K O n d).before a0 Z = true ∨ ((Cond.laysFinal K O n d).before a0 Z = true ∧ own = O ∧ meth.name = "<init>")) (wi : (Cond.instantiable K kk).before a0 Z = true)
    (hty : parseFieldDescriptor d = some ty) (hn : narrow ty v = v) (hf : fits ty v = true) {rest : List Value} (hd : decode c.code g.pc = .ok (.putfield index, 3)) (hg : g.method = m) (hs : g.stack = v :: .ref a :: rest)
    (k : ∀ T' h', Stand p l e R s m args below meth c T' (locs ++ [⟨a, Jvm.RoadKit.slotOf Z O n d⟩]) cells slots → T'.heap = h' → Wr h h' a (Jvm.RoadKit.slotOf Z O n d) v → Go p e below s Q C S T' { g with pc := g.pc + 3, stack := rest }) : Go p e below s Q C S T g := by
  obtain ⟨T1, h1, X1, e1, W1, st⟩ := putF X hx hZ hown w via eT F E L wi hty hn hf hg hs hd
  exact go_st st (k _ _ X1 e1 W1)
theorem go_newO (X : Stand p l e R s m args below meth c T locs cells slots) (hx : p.tables.exec = Jvm.exec) (hZ : Z.Warmed39 s.vm) {own K : String} {index n : Nat} (hown : s.vm.findClass own = some m.cls) (w : (Cond.classLink own index K).before a0 Z = true) (wi : (Cond.instantiable K n).before a0 Z = true) (wz : (Cond.initialized K).before a0 Z = true) (eT : T.heap = h)
    (hd : decode c.code g.pc = .ok (.new index, 3)) (hg : g.method = m) (hc : cells + 1 ≤ R.cells) (hl : slots + n ≤ R.slots)
    (k : ∀ T' h' a, a = h.size → Stand p l e R s m args below meth c T' locs (cells + 1) (slots + n) → T'.heap = h' → Ext h h' → Exa Z h' a K → (∀ {O nm d : String} {ty : FieldType}, Laid Z a0 K O nm d → parseFieldDescriptor d = some ty → Fld Z h' a O nm d (defaultValue ty)) → Go p e below s Q C S T' { g with pc := g.pc + 3, stack := .ref a :: g.stack }) : Go p e below s Q C S T g := by
  obtain ⟨T1, h1, X1, e1, E1, A1, D1, -, st⟩ := newO X hx hZ hown w wi wz eT hg hd hc hl
  exact go_st st (k _ _ _ rfl X1 e1 E1 A1 D1)
theorem go_initO (X : Stand p l e R s m args below meth c T locs cells slots) (hx : p.tables.exec = Jvm.exec) (hZ : Z.Warmed39 s.vm) (hml : c.maxLocals = maxL0) {own : String} {idx : Nat} (hown : s.vm.findClass own = some m.cls) (w1 : (Cond.methodLink own idx Lib.objectInit).before a0 Z = true) (w2 : (Cond.instanceMethod Lib.objectInit).before a0 Z = true)
    (w3 : (Cond.code Lib.objectInit ⟨#[0xb1]⟩ 1 none).before a0 Z = true) (eT : T.heap = h) {a : Addr} {rest : List Value} (hd : decode c.code g.pc = .ok (.invokespecial idx, 3)) (hg : g.method = m) (hsz : g.locals.size = maxL0) (hs : g.stack = .ref a :: rest)
    (hf : 1 ≤ R.frames) {W : Nat} (hW : 2 * g.monitorRoom + (rest.map fun v => v.category).sum ≤ W) (hl : W + 12 ≤ R.locals)
    (k : ∀ T', Stand p l e R s m args below meth c T' locs cells slots → T'.heap = h → Go p e below s Q C S T' { g with pc := g.pc + 3, stack := rest }) : Go p e below s Q C S T g := by
  obtain ⟨T1, X1, e1, st⟩ := initO X hx hZ hown w1 w2 w3 eT hg (hsz.trans hml.symm) hs hd hf hW hl
  exact go_st st (k _ X1 e1)
theorem own_lrem {tb : Tables} [Ours tb] {target : State} (hh : At T m c below) (hx : tb.exec = Jvm.exec) (hg : g.method = m) {x y : Int64} {rest : List Value} (hd : decode c.code g.pc = .ok (.lrem, 1)) (hs : g.stack = .long y :: .long x :: rest) (hy : y ≠ 0)
    (hr : Steps tb e below (T.setTop { g with pc := g.pc + 1, stack := .long (x % y) :: rest }) target) : Steps tb e below (T.setTop g) target :=
  XT.lrem hh hx hg hd hs hy (by rw [lrem_mod]; exact hr)
/-! arrays, their places by a function -/
def GA (Z : State) (h : Heap) (a : Addr) (ty : FieldType) (n : Nat) (f : Nat → Value) : Prop := ∃ cl : Cell, Arr Z h a cl ty ∧ cl.slots.size = n ∧ n < 2 ^ 31 ∧ ∀ i, i < n → cl.slots[i]? = some (f i)
theorem GA.lt {a : Addr} {ty : FieldType} {n : Nat} {f : Nat → Value} (A : GA Z h a ty n f) : a < h.size := by
  obtain ⟨cl, A1, -⟩ := A
  exact A1.lt
theorem GA.ext {a : Addr} {ty : FieldType} {n : Nat} {f : Nat → Value} {h' : Heap} (A : GA Z h a ty n f) (E : Ext h h') : GA Z h' a ty n f := by
  obtain ⟨cl, A1, r⟩ := A
  exact ⟨cl, A1.ext E, r⟩
theorem GA.other {a b : Addr} {ty : FieldType} {n sl : Nat} {v : Value} {f : Nat → Value} {h' : Heap} (A : GA Z h b ty n f) (W : Wr h h' a sl v) (q : b ≠ a) : GA Z h' b ty n f := by
  obtain ⟨cl, A1, r⟩ := A
  exact ⟨cl, A1.other W q, r⟩
theorem GA.keep {a : Addr} {ty : FieldType} {n : Nat} {f : Nat → Value} {h' : Heap} {ws : List Addr} (A : GA Z h a ty n f) (K : Keep h h' ws) (q : a ∉ ws) : GA Z h' a ty n f := by
  obtain ⟨cl, A1, r⟩ := A
  exact ⟨cl, ⟨K.2.1 _ _ A1.1 q, A1.2⟩, r⟩
theorem GA.congr {a : Addr} {ty : FieldType} {n : Nat} {f f' : Nat → Value} (A : GA Z h a ty n f) (q : ∀ i, i < n → f i = f' i) : GA Z h a ty n f' := by
  obtain ⟨cl, A1, A2, A3, A4⟩ := A
  exact ⟨cl, A1, A2, A3, fun i hi => (A4 i hi).trans (by rw [q i hi])⟩
theorem GA.set {a : Addr} {ty : FieldType} {n j : Nat} {v : Value} {f : Nat → Value} {h' : Heap} (A : GA Z h a ty n f) (W : Wr h h' a j v) : GA Z h' a ty n (fun i => if i = j then v else f i) := by
  obtain ⟨cl, A1, A2, A3, A4⟩ := A
  obtain ⟨c2, w1, w2, w3, w4⟩ := W
  obtain rfl : cl = c2 := Option.some.inj (A1.1.symm.trans w1)
  refine ⟨cl.setSlot j v, A1.same ⟨cl, w1, w2, w3, w4⟩, (sz_set cl j v).trans A2, A3, fun i hi => ?_⟩
  show (cl.slots.setIfInBounds j v)[i]? = _
  rw [Array.getElem?_setIfInBounds]
  by_cases q : i = j
  · subst q
    rw [if_pos rfl, if_pos w3]
    simp only [if_true]
  · rw [if_neg (fun h => q h.symm)]
    simp only [if_neg q]
    exact A4 i hi
theorem GA.len {a : Addr} {ty : FieldType} {n : Nat} {f : Nat → Value} (A : GA Z h a ty n f) : n < 2 ^ 31 := by
  obtain ⟨cl, -, -, A3, -⟩ := A
  exact A3
def OC (Z : State) (h : Heap) (a : Addr) (ty : FieldType) (K : String) : Prop := ∃ cl : Cell, Arr Z h a cl ty ∧ Ovr Z cl.cls K
theorem OC.ext {a : Addr} {ty : FieldType} {K : String} {h' : Heap} (A : OC Z h a ty K) (E : Ext h h') : OC Z h' a ty K := by
  obtain ⟨cl, A1, A2⟩ := A
  exact ⟨cl, A1.ext E, A2⟩
theorem OC.wr {a b : Addr} {ty : FieldType} {K : String} {sl : Nat} {v : Value} {h' : Heap} (A : OC Z h b ty K) (W : Wr h h' a sl v) : OC Z h' b ty K := by
  obtain ⟨cl, A1, A2⟩ := A
  by_cases q : b = a
  · subst q
    exact ⟨_, A1.same W, A2⟩
  · exact ⟨cl, A1.other W q, A2⟩
theorem OC.keep {b : Addr} {ty : FieldType} {K : String} {h' : Heap} {ws : List Addr} (A : OC Z h b ty K) (Kp : Keep h h' ws) : OC Z h' b ty K := by
  obtain ⟨cl, ⟨A1, A3, A4⟩, A2⟩ := A
  obtain ⟨c', q1, q2, q3, q4⟩ := Kp.2.2 _ _ A1
  refine ⟨c', ⟨q1, ?_, by rw [q3]; exact A4⟩, by rw [q2]; exact A2⟩
  unfold State.isArrayOf at A3 ⊢
  rw [q2, q3]
  exact A3
theorem OC.sto {a y : Addr} {ty : FieldType} {K : String} (A : OC Z h a ty K) (I : Ins Z h y K true) : Sto Z h a (.ref y) := by
  obtain ⟨cl, A1, A2⟩ := A
  exact Sto.of A1 A2 I
theorem own_in {j : Int32} {n : Nat} (q : 0 ≤ j.toInt ∧ j.toInt < n) : ¬ (j < 0 ∨ n ≤ j.toNatClampNeg) := by
  have h1 : (j.toNatClampNeg : Int) = j.toInt := by have := q.1; simp only [Int32.toNatClampNeg]; omega
  rw [Int32.lt_iff_toInt_lt]
  have : (0 : Int32).toInt = 0 := rfl
  omega
theorem go_alen (X : Stand p l e R s m args below meth c T locs cells slots) (hx : p.tables.exec = Jvm.exec) (hZ : Z.Warmed39 s.vm) (eT : T.heap = h) {a : Addr} {ty : FieldType} {n : Nat} {f : Nat → Value} (A : GA Z h a ty n f) {rest : List Value}
    (hd : decode c.code g.pc = .ok (.arraylength, 1)) (hg : g.method = m) (hs : g.stack = .ref a :: rest) (w : Int32) (hw : Nat.toInt32 n = w) (k : Go p e below s Q C S T { g with pc := g.pc + 1, stack := .int w :: rest }) : Go p e below s Q C S T g := by
  obtain ⟨cl, A1, rfl, -, -⟩ := A
  subst hw
  exact go_st (fun t => X.arraylength hx (by rw [eT]; exact A1.1) (State.isArrayOf_alike hZ.alike A1.2.1) hg hs hd t) k
theorem go_iald (X : Stand p l e R s m args below meth c T locs cells slots) (hx : p.tables.exec = Jvm.exec) (hZ : Z.Warmed39 s.vm) (eT : T.heap = h) {a : Addr} {n : Nat} {f : Nat → Value} (A : GA Z h a .int n f) {j : Int32} {rest : List Value}
    (hd : decode c.code g.pc = .ok (.iaload, 1)) (hg : g.method = m) (hs : g.stack = .int j :: .ref a :: rest) (q : 0 ≤ j.toInt ∧ j.toInt < n) (w : Value) (hw : f j.toNatClampNeg = w) (k : Go p e below s Q C S T { g with pc := g.pc + 1, stack := w :: rest }) : Go p e below s Q C S T g := by
  obtain ⟨cl, A1, rfl, -, A4⟩ := A
  have q2 := own_in q
  refine go_st (fun t => X.iaload hx (j := j) (v := w) (by rw [eT]; exact A1.1) (State.isArrayOf_alike hZ.alike A1.2.1) A1.2.2 q2 ?_ hg hs hd t) k
  rw [A4 _ (by omega), hw]
theorem go_lald (X : Stand p l e R s m args below meth c T locs cells slots) (hx : p.tables.exec = Jvm.exec) (hZ : Z.Warmed39 s.vm) (eT : T.heap = h) {a : Addr} {n : Nat} {f : Nat → Value} (A : GA Z h a .long n f) {j : Int32} {rest : List Value}
    (hd : decode c.code g.pc = .ok (.laload, 1)) (hg : g.method = m) (hs : g.stack = .int j :: .ref a :: rest) (q : 0 ≤ j.toInt ∧ j.toInt < n) (w : Value) (hw : f j.toNatClampNeg = w) (k : Go p e below s Q C S T { g with pc := g.pc + 1, stack := w :: rest }) : Go p e below s Q C S T g := by
  obtain ⟨cl, A1, rfl, -, A4⟩ := A
  have q2 := own_in q
  refine go_st (fun t => X.laload hx (j := j) (v := w) (by rw [eT]; exact A1.1) (State.isArrayOf_alike hZ.alike A1.2.1) A1.2.2 q2 ?_ hg hs hd t) k
  rw [A4 _ (by omega), hw]
theorem go_bald (X : Stand p l e R s m args below meth c T locs cells slots) (hx : p.tables.exec = Jvm.exec) (hZ : Z.Warmed39 s.vm) (eT : T.heap = h) {a : Addr} {n : Nat} {f : Nat → Value} (A : GA Z h a .byte n f) {j : Int32} {rest : List Value}
    (hd : decode c.code g.pc = .ok (.baload, 1)) (hg : g.method = m) (hs : g.stack = .int j :: .ref a :: rest) (q : 0 ≤ j.toInt ∧ j.toInt < n) (w : Value) (hw : f j.toNatClampNeg = w) (k : Go p e below s Q C S T { g with pc := g.pc + 1, stack := w :: rest }) : Go p e below s Q C S T g := by
  obtain ⟨cl, A1, rfl, -, A4⟩ := A
  have q2 := own_in q
  refine go_st (fun t => X.baloadBytes hx (j := j) (v := w) (by rw [eT]; exact A1.1) (State.isArrayOf_alike hZ.alike A1.2.1) A1.2.2 q2 ?_ hg hs hd t) k
  rw [A4 _ (by omega), hw]
theorem go_cald (X : Stand p l e R s m args below meth c T locs cells slots) (hx : p.tables.exec = Jvm.exec) (hZ : Z.Warmed39 s.vm) (eT : T.heap = h) {a : Addr} {n : Nat} {f : Nat → Value} (A : GA Z h a .char n f) {j : Int32} {rest : List Value}
    (hd : decode c.code g.pc = .ok (.caload, 1)) (hg : g.method = m) (hs : g.stack = .int j :: .ref a :: rest) (q : 0 ≤ j.toInt ∧ j.toInt < n) (w : Value) (hw : f j.toNatClampNeg = w) (k : Go p e below s Q C S T { g with pc := g.pc + 1, stack := w :: rest }) : Go p e below s Q C S T g := by
  obtain ⟨cl, A1, rfl, -, A4⟩ := A
  have q2 := own_in q
  refine go_st (fun t => X.caload hx (j := j) (v := w) (by rw [eT]; exact A1.1) (State.isArrayOf_alike hZ.alike A1.2.1) A1.2.2 q2 ?_ hg hs hd t) k
  rw [A4 _ (by omega), hw]
theorem go_aald (X : Stand p l e R s m args below meth c T locs cells slots) (hx : p.tables.exec = Jvm.exec) (hZ : Z.Warmed39 s.vm) (eT : T.heap = h) {a : Addr} {ty : FieldType} {n : Nat} {f : Nat → Value} (A : GA Z h a ty n f) (hty : ty.isReference = true) {j : Int32} {rest : List Value}
    (hd : decode c.code g.pc = .ok (.aaload, 1)) (hg : g.method = m) (hs : g.stack = .int j :: .ref a :: rest) (q : 0 ≤ j.toInt ∧ j.toInt < n) (w : Value) (hw : f j.toNatClampNeg = w) (k : Go p e below s Q C S T { g with pc := g.pc + 1, stack := w :: rest }) : Go p e below s Q C S T g := by
  obtain ⟨cl, A1, rfl, -, A4⟩ := A
  have q2 := own_in q
  refine go_st (fun t => X.aaload hx (j := j) (v := w) (by rw [eT]; exact A1.1) (State.isArrayOf_alike hZ.alike A1.2.1) hty A1.2.2 q2 ?_ hg hs hd t) k
  rw [A4 _ (by omega), hw]
theorem go_iast (X : Stand p l e R s m args below meth c T locs cells slots) (hx : p.tables.exec = Jvm.exec) (hZ : Z.Warmed39 s.vm) (eT : T.heap = h) {a : Addr} {n : Nat} {f : Nat → Value} (A : GA Z h a .int n f) {j x : Int32} {rest : List Value}
    (hd : decode c.code g.pc = .ok (.iastore, 1)) (hg : g.method = m) (hs : g.stack = .int x :: .int j :: .ref a :: rest) (q : 0 ≤ j.toInt ∧ j.toInt < n)
    (k : ∀ T' h', Stand p l e R s m args below meth c T' (locs ++ [⟨a, j.toNatClampNeg⟩]) cells slots → T'.heap = h' → Wr h h' a j.toNatClampNeg (.int x) → GA Z h' a .int n (fun i => if i = j.toNatClampNeg then .int x else f i) → Go p e below s Q C S T' { g with pc := g.pc + 1, stack := rest }) : Go p e below s Q C S T g := by
  have A' := A
  obtain ⟨cl, A1, rfl, -, A4⟩ := A
  obtain ⟨T1, h1, X1, e1, W1, st⟩ := stI X hx hZ eT A1 (own_in q) hg hs hd
  exact go_st st (k _ _ X1 e1 W1 (A'.set W1))
theorem go_last (X : Stand p l e R s m args below meth c T locs cells slots) (hx : p.tables.exec = Jvm.exec) (hZ : Z.Warmed39 s.vm) (eT : T.heap = h) {a : Addr} {n : Nat} {f : Nat → Value} (A : GA Z h a .long n f) {j : Int32} {x : Int64} {rest : List Value}
    (hd : decode c.code g.pc = .ok (.lastore, 1)) (hg : g.method = m) (hs : g.stack = .long x :: .int j :: .ref a :: rest) (q : 0 ≤ j.toInt ∧ j.toInt < n)
    (k : ∀ T' h', Stand p l e R s m args below meth c T' (locs ++ [⟨a, j.toNatClampNeg⟩]) cells slots → T'.heap = h' → Wr h h' a j.toNatClampNeg (.long x) → GA Z h' a .long n (fun i => if i = j.toNatClampNeg then .long x else f i) → Go p e below s Q C S T' { g with pc := g.pc + 1, stack := rest }) : Go p e below s Q C S T g := by
  have A' := A
  obtain ⟨cl, A1, rfl, -, A4⟩ := A
  obtain ⟨T1, h1, X1, e1, W1, st⟩ := stJ X hx hZ eT A1 (own_in q) hg hs hd
  exact go_st st (k _ _ X1 e1 W1 (A'.set W1))
theorem go_bast (X : Stand p l e R s m args below meth c T locs cells slots) (hx : p.tables.exec = Jvm.exec) (hZ : Z.Warmed39 s.vm) (eT : T.heap = h) {a : Addr} {n : Nat} {f : Nat → Value} (A : GA Z h a .byte n f) {j x : Int32} {rest : List Value}
    (hd : decode c.code g.pc = .ok (.bastore, 1)) (hg : g.method = m) (hs : g.stack = .int x :: .int j :: .ref a :: rest) (q : 0 ≤ j.toInt ∧ j.toInt < n)
    (k : ∀ T' h', Stand p l e R s m args below meth c T' (locs ++ [⟨a, j.toNatClampNeg⟩]) cells slots → T'.heap = h' → Wr h h' a j.toNatClampNeg (.int x.toInt8.toInt32) → GA Z h' a .byte n (fun i => if i = j.toNatClampNeg then .int x.toInt8.toInt32 else f i) → Go p e below s Q C S T' { g with pc := g.pc + 1, stack := rest }) : Go p e below s Q C S T g := by
  have A' := A
  obtain ⟨cl, A1, rfl, -, A4⟩ := A
  obtain ⟨T1, h1, X1, e1, W1, st⟩ := stB X hx hZ eT A1 (own_in q) hg hs hd
  exact go_st st (k _ _ X1 e1 W1 (A'.set W1))
theorem go_cast (X : Stand p l e R s m args below meth c T locs cells slots) (hx : p.tables.exec = Jvm.exec) (hZ : Z.Warmed39 s.vm) (eT : T.heap = h) {a : Addr} {n : Nat} {f : Nat → Value} (A : GA Z h a .char n f) {j x : Int32} {rest : List Value}
    (hd : decode c.code g.pc = .ok (.castore, 1)) (hg : g.method = m) (hs : g.stack = .int x :: .int j :: .ref a :: rest) (q : 0 ≤ j.toInt ∧ j.toInt < n)
    (k : ∀ T' h', Stand p l e R s m args below meth c T' (locs ++ [⟨a, j.toNatClampNeg⟩]) cells slots → T'.heap = h' → Wr h h' a j.toNatClampNeg (.int (nar .char x)) → GA Z h' a .char n (fun i => if i = j.toNatClampNeg then .int (nar .char x) else f i) → Go p e below s Q C S T' { g with pc := g.pc + 1, stack := rest }) : Go p e below s Q C S T g := by
  have A' := A
  obtain ⟨cl, A1, rfl, -, A4⟩ := A
  obtain ⟨T1, h1, X1, e1, W1, st⟩ := stC X hx hZ eT A1 (own_in q) hg hs hd
  exact go_st st (k _ _ X1 e1 W1 (A'.set W1))
theorem go_aast (X : Stand p l e R s m args below meth c T locs cells slots) (hx : p.tables.exec = Jvm.exec) (hZ : Z.Warmed39 s.vm) (eT : T.heap = h) {a : Addr} {ty : FieldType} {n : Nat} {f : Nat → Value} (A : GA Z h a ty n f) (hty : ty.isReference = true) {j : Int32} {v : Value} (F : Sto Z h a v) {rest : List Value}
    (hd : decode c.code g.pc = .ok (.aastore, 1)) (hg : g.method = m) (hs : g.stack = v :: .int j :: .ref a :: rest) (q : 0 ≤ j.toInt ∧ j.toInt < n)
    (k : ∀ T' h', Stand p l e R s m args below meth c T' (locs ++ [⟨a, j.toNatClampNeg⟩]) cells slots → T'.heap = h' → Wr h h' a j.toNatClampNeg v → GA Z h' a ty n (fun i => if i = j.toNatClampNeg then v else f i) → Go p e below s Q C S T' { g with pc := g.pc + 1, stack := rest }) : Go p e below s Q C S T g := by
  have A' := A
  obtain ⟨cl, A1, rfl, -, A4⟩ := A
  obtain ⟨T1, h1, X1, e1, W1, st⟩ := stR X hx hZ eT A1 (own_in q) hty F hg hs hd
  exact go_st st (k _ _ X1 e1 W1 (A'.set W1))
theorem own_clamp {n : Int32} {N : Nat} (q : n.toInt = N) : n.toNatClampNeg = N := by simp only [Int32.toNatClampNeg]; omega
theorem own_nneg {n : Int32} {N : Nat} (q : n.toInt = N) : ¬ n < 0 := by
  rw [Int32.lt_iff_toInt_lt]
  have : (0 : Int32).toInt = 0 := rfl
  omega
theorem go_newP (X : Stand p l e R s m args below meth c T locs cells slots) (hx : p.tables.exec = Jvm.exec) (hZ : Z.Warmed39 s.vm) {aty : ArrayType} (w : (Cond.arrayClass (newarray.typeOf aty)).before a0 Z = true) (eT : T.heap = h) {n : Int32} {rest : List Value} (hd : decode c.code g.pc = .ok (.newarray aty, 2)) (hg : g.method = m) (hs : g.stack = .int n :: rest)
    (N : Nat) (hn : n.toInt = N) (cap : Nat) (hcap : N ≤ cap) (hb : cap * 8 ≤ 536870912) (hc : cells + 1 ≤ R.cells) (hl : slots + cap ≤ R.slots)
    (k : ∀ T' h' a, a = h.size → Stand p l e R s m args below meth c T' locs (cells + 1) (slots + cap) → T'.heap = h' → Ext h h' → GA Z h' a (newarray.typeOf aty) N (fun _ => defaultValue (newarray.typeOf aty)) → Go p e below s Q C S T' { g with pc := g.pc + 2, stack := .ref a :: rest }) : Go p e below s Q C S T g := by
  have hN := own_clamp hn
  have hn0 := own_nneg hn
  obtain ⟨T1, h1, cA, X1, e1, E1, A1, st⟩ := newP X hx hZ w eT hg hd hs hn0 (cap := cap) (by omega) hb hc hl
  refine go_st st (k _ _ _ rfl X1 e1 E1 ⟨_, A1, (sz_new _ _ _).trans hN, ?_, fun i hi => ?_⟩)
  · have := (rng32 n).2
    omega
  · show (Array.replicate n.toNatClampNeg (defaultValue _))[i]? = _
    rw [hN, Array.getElem?_replicate, if_pos hi]
theorem go_newR (X : Stand p l e R s m args below meth c T locs cells slots) (hx : p.tables.exec = Jvm.exec) (hZ : Z.Warmed39 s.vm) {own K : String} {index : Nat} (hown : s.vm.findClass own = some m.cls) (w1 : (Cond.classLink own index K).before a0 Z = true) (w2 : (Cond.arrayOver (.object K)).before a0 Z = true) (eT : T.heap = h) {n : Int32} {rest : List Value} (hd : decode c.code g.pc = .ok (.anewarray index, 3)) (hg : g.method = m) (hs : g.stack = .int n :: rest)
    (N : Nat) (hn : n.toInt = N) (cap : Nat) (hcap : N ≤ cap) (hb : cap * 8 ≤ 536870912) (hc : cells + 1 ≤ R.cells) (hl : slots + cap ≤ R.slots)
    (k : ∀ T' h' a, a = h.size → Stand p l e R s m args below meth c T' locs (cells + 1) (slots + cap) → T'.heap = h' → Ext h h' → GA Z h' a (.object K) N (fun _ => .null) → OC Z h' a (.object K) K → Go p e below s Q C S T' { g with pc := g.pc + 3, stack := .ref a :: rest }) : Go p e below s Q C S T g := by
  have hN := own_clamp hn
  have hn0 := own_nneg hn
  obtain ⟨T1, h1, cA, X1, e1, E1, A1, O1, st⟩ := newR X hx hZ hown w1 w2 eT hg hd hs hn0 (cap := cap) (by omega) hb hc hl
  refine go_st st (k _ _ _ rfl X1 e1 E1 ⟨_, A1, (sz_new _ _ _).trans hN, ?_, fun i hi => ?_⟩ ⟨_, A1, O1⟩)
  · have := (rng32 n).2
    omega
  · show (Array.replicate n.toNatClampNeg (defaultValue _))[i]? = _
    rw [hN, Array.getElem?_replicate, if_pos hi]
    rfl
end OwnGo
theorem d1_0 : decode prog_18_method_2_code 0 = .ok (.lload_n 0, 1) := by decide +kernel
theorem d1_1 : decode prog_18_method_2_code 1 = .ok (.ldc2_w 23, 3) := by decide +kernel
theorem d1_4 : decode prog_18_method_2_code 4 = .ok (.lcmp, 1) := by decide +kernel
theorem d1_5 : decode prog_18_method_2_code 5 = .ok (.ifCond .lt 25, 3) := by decide +kernel
theorem d1_8 : decode prog_18_method_2_code 8 = .ok (.lload_n 0, 1) := by decide +kernel
theorem d1_9 : decode prog_18_method_2_code 9 = .ok (.ldc2_w 25, 3) := by decide +kernel
theorem d1_12 : decode prog_18_method_2_code 12 = .ok (.lcmp, 1) := by decide +kernel
theorem d1_13 : decode prog_18_method_2_code 13 = .ok (.ifCond .gt 17, 3) := by decide +kernel
theorem d1_16 : decode prog_18_method_2_code 16 = .ok (.lload_n 0, 1) := by decide +kernel
theorem d1_17 : decode prog_18_method_2_code 17 = .ok (.lload_n 0, 1) := by decide +kernel
theorem d1_18 : decode prog_18_method_2_code 18 = .ok (.lconst 1, 1) := by decide +kernel
theorem d1_19 : decode prog_18_method_2_code 19 = .ok (.lsub, 1) := by decide +kernel
theorem d1_20 : decode prog_18_method_2_code 20 = .ok (.land, 1) := by decide +kernel
theorem d1_21 : decode prog_18_method_2_code 21 = .ok (.lconst 0, 1) := by decide +kernel
theorem d1_22 : decode prog_18_method_2_code 22 = .ok (.lcmp, 1) := by decide +kernel
theorem d1_23 : decode prog_18_method_2_code 23 = .ok (.ifCond .ne 7, 3) := by decide +kernel
theorem d1_26 : decode prog_18_method_2_code 26 = .ok (.iconst 1, 1) := by decide +kernel
theorem d1_27 : decode prog_18_method_2_code 27 = .ok (.goto 4, 3) := by decide +kernel
theorem d1_30 : decode prog_18_method_2_code 30 = .ok (.iconst 0, 1) := by decide +kernel
theorem d1_31 : decode prog_18_method_2_code 31 = .ok (.ireturn, 1) := by decide +kernel
theorem pn0 : plainName "com/example/integrum/integrum/MultipartTreeHash" = true := by first | (simp [plainName, overriddenIn]; done) | decide +kernel
def fPart (x0 : Int64) : Int32 := (if x0 < (1048576 : Int64) then (0 : Int32) else (if (4294967296 : Int64) < x0 then (0 : Int32) else (if (x0 &&& (x0 - (1 : Int64))) = (0 : Int64) then (1 : Int32) else (0 : Int32))))
theorem ef_1 (m : MethodId) (x0 : Int64) : entryFrame m #[(.long x0)] 2 = mkF m 0 #[.val (.long x0), .second] [] := by first | (simp [entryFrame, mkF, argsToLocals, Value.category]; done) | rfl
abbrev rm_1 : Room := ({ frames := 0, cells := 0, slots := 0, locals := 0 } : Room)
set_option maxRecDepth 65536 in
set_option maxHeartbeats 4000000 in
theorem met_1 (l : Launch) (Z : State) (a0 : Array Value) (hw : ∀ d ∈ tables_1, d.before a0 Z = true) (x0 : Int64) (h0 : Heap) (n0 : Nat) :
    Met l (⟨"com/example/integrum/integrum/MultipartTreeHash", "isPartSize", "(J)Z"⟩ : MethodName) prog_18_method_2_code 2 (some FieldType.boolean) [] rm_1 Z #[(.long x0)] h0 (QV (some (.int (fPart x0))) h0 n0) 0 0 := by
  refine own_body pn0 ?_
  intro p e s m below meth c s₁ ct X0 e0
  have ct0 := ct
  obtain ⟨hx, hZ, hown, hby, hml, hret, hlk, hnm⟩ := ct
  have N0 := Fr.nil n0
  refine castGo (ef_1 m x0) ?_
  unfold fPart
  show Go p e below s _ _ _ s₁ (mkF m 0 #[.val (.long x0), .second] [])
  refine go_st (fun _ k => XT.lloadN X0.here hx rfl (hb hby d1_0) rfl k) ?_
  show Go p e below s _ _ _ s₁ (mkF m 1 #[.val (.long x0), .second] [(.long x0)])
  refine go_st (fun _ k => Jvm.Stand.ldc2J X0 hx hown (mvT hZ (hw _ (List.mem_of_getElem? (i := 4) rfl))) rfl (hb hby d1_1) k) ?_
  show Go p e below s _ _ _ s₁ (mkF m 4 #[.val (.long x0), .second] [(.long (1048576 : Int64)), (.long x0)])
  refine go_st (fun _ k => XT.lcmp X0.here hx rfl (hb hby d1_4) rfl k) ?_
  show Go p e below s _ _ _ s₁ (mkF m 5 #[.val (.long x0), .second] [(.int (XT.cmpL x0 (1048576 : Int64)))])
  by_cases hc1 : x0 < (1048576 : Int64)
  · rw [if_pos hc1]
    refine go_st (fun _ k => XS.ifYes X0.here hx rfl (pc0 := 5) (pc' := 30) rfl (hb hby d1_5) rfl (XT.ll_lt_t hc1) (by decide) (by decide) k) ?_
    show Go p e below s _ _ _ s₁ (mkF m 30 #[.val (.long x0), .second] [])
    refine go_st (fun _ k => XT.iconstV X0.here hx rfl (0 : Int32) (hb hby d1_30) (by decide) k) ?_
    show Go p e below s _ _ _ s₁ (mkF m 31 #[.val (.long x0), .second] [(.int (0 : Int32))])
    exact go_retB (w := (0 : Int32)) X0 hx hlk hret (hb hby d1_31) (by decide) (by decide) (by decide) ⟨rfl, N0, e0⟩
  · rw [if_neg hc1]
    refine go_st (fun _ k => XS.ifNo X0.here hx rfl (hb hby d1_5) rfl (XT.ll_lt_f hc1) k) ?_
    show Go p e below s _ _ _ s₁ (mkF m 8 #[.val (.long x0), .second] [])
    refine go_st (fun _ k => XT.lloadN X0.here hx rfl (hb hby d1_8) rfl k) ?_
    show Go p e below s _ _ _ s₁ (mkF m 9 #[.val (.long x0), .second] [(.long x0)])
    refine go_st (fun _ k => Jvm.Stand.ldc2J X0 hx hown (mvT hZ (hw _ (List.mem_of_getElem? (i := 22) rfl))) rfl (hb hby d1_9) k) ?_
    show Go p e below s _ _ _ s₁ (mkF m 12 #[.val (.long x0), .second] [(.long (4294967296 : Int64)), (.long x0)])
    refine go_st (fun _ k => XT.lcmp X0.here hx rfl (hb hby d1_12) rfl k) ?_
    show Go p e below s _ _ _ s₁ (mkF m 13 #[.val (.long x0), .second] [(.int (XT.cmpL x0 (4294967296 : Int64)))])
    by_cases hc2 : (4294967296 : Int64) < x0
    · rw [if_pos hc2]
      refine go_st (fun _ k => XS.ifYes X0.here hx rfl (pc0 := 13) (pc' := 30) rfl (hb hby d1_13) rfl (XT.ll_gt_t hc2) (by decide) (by decide) k) ?_
      show Go p e below s _ _ _ s₁ (mkF m 30 #[.val (.long x0), .second] [])
      refine go_st (fun _ k => XT.iconstV X0.here hx rfl (0 : Int32) (hb hby d1_30) (by decide) k) ?_
      show Go p e below s _ _ _ s₁ (mkF m 31 #[.val (.long x0), .second] [(.int (0 : Int32))])
      exact go_retB (w := (0 : Int32)) X0 hx hlk hret (hb hby d1_31) (by decide) (by decide) (by decide) ⟨rfl, N0, e0⟩
    · rw [if_neg hc2]
      refine go_st (fun _ k => XS.ifNo X0.here hx rfl (hb hby d1_13) rfl (XT.ll_gt_f hc2) k) ?_
      show Go p e below s _ _ _ s₁ (mkF m 16 #[.val (.long x0), .second] [])
      refine go_st (fun _ k => XT.lloadN X0.here hx rfl (hb hby d1_16) rfl k) ?_
      show Go p e below s _ _ _ s₁ (mkF m 17 #[.val (.long x0), .second] [(.long x0)])
      refine go_st (fun _ k => XT.lloadN X0.here hx rfl (hb hby d1_17) rfl k) ?_
      show Go p e below s _ _ _ s₁ (mkF m 18 #[.val (.long x0), .second] [(.long x0), (.long x0)])
      refine go_st (fun _ k => XT.lconstV X0.here hx rfl (1 : Int64) (hb hby d1_18) (by decide) k) ?_
      show Go p e below s _ _ _ s₁ (mkF m 19 #[.val (.long x0), .second] [(.long (1 : Int64)), (.long x0), (.long x0)])
      refine go_st (fun _ k => XT.lsub X0.here hx rfl (hb hby d1_19) rfl k) ?_
      show Go p e below s _ _ _ s₁ (mkF m 20 #[.val (.long x0), .second] [(.long (x0 - (1 : Int64))), (.long x0)])
      refine go_st (fun _ k => XT.land X0.here hx rfl (hb hby d1_20) rfl k) ?_
      show Go p e below s _ _ _ s₁ (mkF m 21 #[.val (.long x0), .second] [(.long (x0 &&& (x0 - (1 : Int64))))])
      refine go_st (fun _ k => XT.lconstV X0.here hx rfl (0 : Int64) (hb hby d1_21) (by decide) k) ?_
      show Go p e below s _ _ _ s₁ (mkF m 22 #[.val (.long x0), .second] [(.long (0 : Int64)), (.long (x0 &&& (x0 - (1 : Int64))))])
      refine go_st (fun _ k => XT.lcmp X0.here hx rfl (hb hby d1_22) rfl k) ?_
      show Go p e below s _ _ _ s₁ (mkF m 23 #[.val (.long x0), .second] [(.int (XT.cmpL (x0 &&& (x0 - (1 : Int64))) (0 : Int64)))])
      by_cases hc3 : (x0 &&& (x0 - (1 : Int64))) = (0 : Int64)
      · rw [if_pos hc3]
        refine go_st (fun _ k => XS.ifNo X0.here hx rfl (hb hby d1_23) rfl (XT.ll_ne_f hc3) k) ?_
        show Go p e below s _ _ _ s₁ (mkF m 26 #[.val (.long x0), .second] [])
        refine go_st (fun _ k => XT.iconstV X0.here hx rfl (1 : Int32) (hb hby d1_26) (by decide) k) ?_
        show Go p e below s _ _ _ s₁ (mkF m 27 #[.val (.long x0), .second] [(.int (1 : Int32))])
        refine go_st (fun _ k => XS.goto X0.here hx rfl (pc0 := 27) (pc' := 31) rfl (hb hby d1_27) (by decide) (by decide) k) ?_
        show Go p e below s _ _ _ s₁ (mkF m 31 #[.val (.long x0), .second] [(.int (1 : Int32))])
        exact go_retB (w := (1 : Int32)) X0 hx hlk hret (hb hby d1_31) (by decide) (by decide) (by decide) ⟨rfl, N0, e0⟩
      · rw [if_neg hc3]
        refine go_st (fun _ k => XS.ifYes X0.here hx rfl (pc0 := 23) (pc' := 30) rfl (hb hby d1_23) rfl (XT.ll_ne_t hc3) (by decide) (by decide) k) ?_
        show Go p e below s _ _ _ s₁ (mkF m 30 #[.val (.long x0), .second] [])
        refine go_st (fun _ k => XT.iconstV X0.here hx rfl (0 : Int32) (hb hby d1_30) (by decide) k) ?_
        show Go p e below s _ _ _ s₁ (mkF m 31 #[.val (.long x0), .second] [(.int (0 : Int32))])
        exact go_retB (w := (0 : Int32)) X0 hx hlk hret (hb hby d1_31) (by decide) (by decide) (by decide) ⟨rfl, N0, e0⟩
theorem d2_0 : decode method_2_code 0 = .ok (.lload_n 0, 1) := by decide +kernel
theorem d2_1 : decode method_2_code 1 = .ok (.ldc2_w 7, 3) := by decide +kernel
theorem d2_4 : decode method_2_code 4 = .ok (.lcmp, 1) := by decide +kernel
theorem d2_5 : decode method_2_code 5 = .ok (.ifCond .eq 99, 3) := by decide +kernel
theorem d2_8 : decode method_2_code 8 = .ok (.lload_n 0, 1) := by decide +kernel
theorem d2_9 : decode method_2_code 9 = .ok (.ldc2_w 9, 3) := by decide +kernel
theorem d2_12 : decode method_2_code 12 = .ok (.lcmp, 1) := by decide +kernel
theorem d2_13 : decode method_2_code 13 = .ok (.ifCond .eq 91, 3) := by decide +kernel
theorem d2_16 : decode method_2_code 16 = .ok (.lload_n 0, 1) := by decide +kernel
theorem d2_17 : decode method_2_code 17 = .ok (.ldc2_w 11, 3) := by decide +kernel
theorem d2_20 : decode method_2_code 20 = .ok (.lcmp, 1) := by decide +kernel
theorem d2_21 : decode method_2_code 21 = .ok (.ifCond .eq 83, 3) := by decide +kernel
theorem d2_24 : decode method_2_code 24 = .ok (.lload_n 0, 1) := by decide +kernel
theorem d2_25 : decode method_2_code 25 = .ok (.ldc2_w 13, 3) := by decide +kernel
theorem d2_28 : decode method_2_code 28 = .ok (.lcmp, 1) := by decide +kernel
theorem d2_29 : decode method_2_code 29 = .ok (.ifCond .eq 75, 3) := by decide +kernel
theorem d2_32 : decode method_2_code 32 = .ok (.lload_n 0, 1) := by decide +kernel
theorem d2_33 : decode method_2_code 33 = .ok (.ldc2_w 15, 3) := by decide +kernel
theorem d2_36 : decode method_2_code 36 = .ok (.lcmp, 1) := by decide +kernel
theorem d2_37 : decode method_2_code 37 = .ok (.ifCond .eq 67, 3) := by decide +kernel
theorem d2_40 : decode method_2_code 40 = .ok (.lload_n 0, 1) := by decide +kernel
theorem d2_41 : decode method_2_code 41 = .ok (.ldc2_w 17, 3) := by decide +kernel
theorem d2_44 : decode method_2_code 44 = .ok (.lcmp, 1) := by decide +kernel
theorem d2_45 : decode method_2_code 45 = .ok (.ifCond .eq 59, 3) := by decide +kernel
theorem d2_48 : decode method_2_code 48 = .ok (.lload_n 0, 1) := by decide +kernel
theorem d2_49 : decode method_2_code 49 = .ok (.ldc2_w 19, 3) := by decide +kernel
theorem d2_52 : decode method_2_code 52 = .ok (.lcmp, 1) := by decide +kernel
theorem d2_53 : decode method_2_code 53 = .ok (.ifCond .eq 51, 3) := by decide +kernel
theorem d2_56 : decode method_2_code 56 = .ok (.lload_n 0, 1) := by decide +kernel
theorem d2_57 : decode method_2_code 57 = .ok (.ldc2_w 21, 3) := by decide +kernel
theorem d2_60 : decode method_2_code 60 = .ok (.lcmp, 1) := by decide +kernel
theorem d2_61 : decode method_2_code 61 = .ok (.ifCond .eq 43, 3) := by decide +kernel
theorem d2_64 : decode method_2_code 64 = .ok (.lload_n 0, 1) := by decide +kernel
theorem d2_65 : decode method_2_code 65 = .ok (.ldc2_w 23, 3) := by decide +kernel
theorem d2_68 : decode method_2_code 68 = .ok (.lcmp, 1) := by decide +kernel
theorem d2_69 : decode method_2_code 69 = .ok (.ifCond .eq 35, 3) := by decide +kernel
theorem d2_72 : decode method_2_code 72 = .ok (.lload_n 0, 1) := by decide +kernel
theorem d2_73 : decode method_2_code 73 = .ok (.ldc2_w 25, 3) := by decide +kernel
theorem d2_76 : decode method_2_code 76 = .ok (.lcmp, 1) := by decide +kernel
theorem d2_77 : decode method_2_code 77 = .ok (.ifCond .eq 27, 3) := by decide +kernel
theorem d2_80 : decode method_2_code 80 = .ok (.lload_n 0, 1) := by decide +kernel
theorem d2_81 : decode method_2_code 81 = .ok (.ldc2_w 27, 3) := by decide +kernel
theorem d2_84 : decode method_2_code 84 = .ok (.lcmp, 1) := by decide +kernel
theorem d2_85 : decode method_2_code 85 = .ok (.ifCond .eq 19, 3) := by decide +kernel
theorem d2_88 : decode method_2_code 88 = .ok (.lload_n 0, 1) := by decide +kernel
theorem d2_89 : decode method_2_code 89 = .ok (.ldc2_w 29, 3) := by decide +kernel
theorem d2_92 : decode method_2_code 92 = .ok (.lcmp, 1) := by decide +kernel
theorem d2_93 : decode method_2_code 93 = .ok (.ifCond .eq 11, 3) := by decide +kernel
theorem d2_96 : decode method_2_code 96 = .ok (.lload_n 0, 1) := by decide +kernel
theorem d2_97 : decode method_2_code 97 = .ok (.ldc2_w 31, 3) := by decide +kernel
theorem d2_100 : decode method_2_code 100 = .ok (.lcmp, 1) := by decide +kernel
theorem d2_101 : decode method_2_code 101 = .ok (.ifCond .ne 7, 3) := by decide +kernel
theorem d2_104 : decode method_2_code 104 = .ok (.iconst 1, 1) := by decide +kernel
theorem d2_105 : decode method_2_code 105 = .ok (.goto 4, 3) := by decide +kernel
theorem d2_108 : decode method_2_code 108 = .ok (.iconst 0, 1) := by decide +kernel
theorem d2_109 : decode method_2_code 109 = .ok (.ireturn, 1) := by decide +kernel
theorem pn1 : plainName "com/example/integrum/integrum/MultipartTreeHashIsPartSizePinLaw" = true := by first | (simp [plainName, overriddenIn]; done) | decide +kernel
def fAll_104 (y0 : Int64) : Int32 := (1 : Int32)
def fAll (x0 : Int64) : Int32 := (if x0 = (1048576 : Int64) then (fAll_104 x0) else (if x0 = (2097152 : Int64) then (fAll_104 x0) else (if x0 = (4194304 : Int64) then (fAll_104 x0) else (if x0 = (8388608 : Int64) then (fAll_104 x0) else (if x0 = (16777216 : Int64) then (fAll_104 x0) else (if x0 = (33554432 : Int64) then (fAll_104 x0) else (if x0 = (67108864 : Int64) then (fAll_104 x0) else (if x0 = (134217728 : Int64) then (fAll_104 x0) else (if x0 = (268435456 : Int64) then (fAll_104 x0) else (if x0 = (536870912 : Int64) then (fAll_104 x0) else (if x0 = (1073741824 : Int64) then (fAll_104 x0) else (if x0 = (2147483648 : Int64) then (fAll_104 x0) else (if x0 = (4294967296 : Int64) then (fAll_104 x0) else (0 : Int32))))))))))))))
theorem ef_2 (m : MethodId) (x0 : Int64) : entryFrame m #[(.long x0)] 2 = mkF m 0 #[.val (.long x0), .second] [] := by first | (simp [entryFrame, mkF, argsToLocals, Value.category]; done) | rfl
abbrev rm_2 : Room := ({ frames := 0, cells := 0, slots := 0, locals := 0 } : Room)
set_option maxRecDepth 65536 in
set_option maxHeartbeats 4000000 in
theorem blk_fAll_104 (l : Launch) (Z : State) (a0 : Array Value) (hw : ∀ d ∈ tables_1, d.before a0 Z = true) {p : Program} {e : Env} {s : State} {m : MethodId} {args : Array Value} {below : List Frame} {meth : Method} {c : Code} (ct : Ct p s m meth c Z "com/example/integrum/integrum/MultipartTreeHashIsPartSizePinLaw" "allowed" method_2_code 2 (some FieldType.boolean)) {T0 : State} {locs : List Loc} (X0 : Stand p l e rm_2 s m args below meth c T0 locs 0 0) {h0 : Heap} (e0 : T0.heap = h0) (n0 : Nat) (N0 : Fr n0 locs) (y0 : Int64) :
    Go p e below s (QV (some (.int (fAll_104 y0))) h0 n0) 0 0 T0 (mkF m 104 #[.val (.long y0), .second] []) := by
  have ct0 := ct
  obtain ⟨hx, hZ, hown, hby, hml, hret, hlk, hnm⟩ := ct
  unfold fAll_104
  refine go_st (fun _ k => XT.iconstV X0.here hx rfl (1 : Int32) (hb hby d2_104) (by decide) k) ?_
  show Go p e below s _ _ _ T0 (mkF m 105 #[.val (.long y0), .second] [(.int (1 : Int32))])
  refine go_st (fun _ k => XS.goto X0.here hx rfl (pc0 := 105) (pc' := 109) rfl (hb hby d2_105) (by decide) (by decide) k) ?_
  show Go p e below s _ _ _ T0 (mkF m 109 #[.val (.long y0), .second] [(.int (1 : Int32))])
  exact go_retB (w := (1 : Int32)) X0 hx hlk hret (hb hby d2_109) (by decide) (by decide) (by decide) ⟨rfl, N0, e0⟩
set_option maxRecDepth 65536 in
set_option maxHeartbeats 4000000 in
theorem met_2 (l : Launch) (Z : State) (a0 : Array Value) (hw : ∀ d ∈ tables_1, d.before a0 Z = true) (x0 : Int64) (h0 : Heap) (n0 : Nat) :
    Met l (⟨"com/example/integrum/integrum/MultipartTreeHashIsPartSizePinLaw", "allowed", "(J)Z"⟩ : MethodName) method_2_code 2 (some FieldType.boolean) [] rm_2 Z #[(.long x0)] h0 (QV (some (.int (fAll x0))) h0 n0) 0 0 := by
  refine own_body pn1 ?_
  intro p e s m below meth c s₁ ct X0 e0
  have ct0 := ct
  obtain ⟨hx, hZ, hown, hby, hml, hret, hlk, hnm⟩ := ct
  have N0 := Fr.nil n0
  refine castGo (ef_2 m x0) ?_
  unfold fAll
  show Go p e below s _ _ _ s₁ (mkF m 0 #[.val (.long x0), .second] [])
  refine go_st (fun _ k => XT.lloadN X0.here hx rfl (hb hby d2_0) rfl k) ?_
  show Go p e below s _ _ _ s₁ (mkF m 1 #[.val (.long x0), .second] [(.long x0)])
  refine go_st (fun _ k => Jvm.Stand.ldc2J X0 hx hown (mvT hZ (hw _ (List.mem_of_getElem? (i := 9) rfl))) rfl (hb hby d2_1) k) ?_
  show Go p e below s _ _ _ s₁ (mkF m 4 #[.val (.long x0), .second] [(.long (1048576 : Int64)), (.long x0)])
  refine go_st (fun _ k => XT.lcmp X0.here hx rfl (hb hby d2_4) rfl k) ?_
  show Go p e below s _ _ _ s₁ (mkF m 5 #[.val (.long x0), .second] [(.int (XT.cmpL x0 (1048576 : Int64)))])
  by_cases hc4 : x0 = (1048576 : Int64)
  · rw [if_pos hc4]
    refine go_st (fun _ k => XS.ifYes X0.here hx rfl (pc0 := 5) (pc' := 104) rfl (hb hby d2_5) rfl (XT.ll_eq_t hc4) (by decide) (by decide) k) ?_
    show Go p e below s _ _ _ s₁ (mkF m 104 #[.val (.long x0), .second] [])
    exact blk_fAll_104 l Z a0 hw ct0 X0 e0 n0 N0 x0
  · rw [if_neg hc4]
    refine go_st (fun _ k => XS.ifNo X0.here hx rfl (hb hby d2_5) rfl (XT.ll_eq_f hc4) k) ?_
    show Go p e below s _ _ _ s₁ (mkF m 8 #[.val (.long x0), .second] [])
    refine go_st (fun _ k => XT.lloadN X0.here hx rfl (hb hby d2_8) rfl k) ?_
    show Go p e below s _ _ _ s₁ (mkF m 9 #[.val (.long x0), .second] [(.long x0)])
    refine go_st (fun _ k => Jvm.Stand.ldc2J X0 hx hown (mvT hZ (hw _ (List.mem_of_getElem? (i := 10) rfl))) rfl (hb hby d2_9) k) ?_
    show Go p e below s _ _ _ s₁ (mkF m 12 #[.val (.long x0), .second] [(.long (2097152 : Int64)), (.long x0)])
    refine go_st (fun _ k => XT.lcmp X0.here hx rfl (hb hby d2_12) rfl k) ?_
    show Go p e below s _ _ _ s₁ (mkF m 13 #[.val (.long x0), .second] [(.int (XT.cmpL x0 (2097152 : Int64)))])
    by_cases hc5 : x0 = (2097152 : Int64)
    · rw [if_pos hc5]
      refine go_st (fun _ k => XS.ifYes X0.here hx rfl (pc0 := 13) (pc' := 104) rfl (hb hby d2_13) rfl (XT.ll_eq_t hc5) (by decide) (by decide) k) ?_
      show Go p e below s _ _ _ s₁ (mkF m 104 #[.val (.long x0), .second] [])
      exact blk_fAll_104 l Z a0 hw ct0 X0 e0 n0 N0 x0
    · rw [if_neg hc5]
      refine go_st (fun _ k => XS.ifNo X0.here hx rfl (hb hby d2_13) rfl (XT.ll_eq_f hc5) k) ?_
      show Go p e below s _ _ _ s₁ (mkF m 16 #[.val (.long x0), .second] [])
      refine go_st (fun _ k => XT.lloadN X0.here hx rfl (hb hby d2_16) rfl k) ?_
      show Go p e below s _ _ _ s₁ (mkF m 17 #[.val (.long x0), .second] [(.long x0)])
      refine go_st (fun _ k => Jvm.Stand.ldc2J X0 hx hown (mvT hZ (hw _ (List.mem_of_getElem? (i := 11) rfl))) rfl (hb hby d2_17) k) ?_
      show Go p e below s _ _ _ s₁ (mkF m 20 #[.val (.long x0), .second] [(.long (4194304 : Int64)), (.long x0)])
      refine go_st (fun _ k => XT.lcmp X0.here hx rfl (hb hby d2_20) rfl k) ?_
      show Go p e below s _ _ _ s₁ (mkF m 21 #[.val (.long x0), .second] [(.int (XT.cmpL x0 (4194304 : Int64)))])
      by_cases hc6 : x0 = (4194304 : Int64)
      · rw [if_pos hc6]
        refine go_st (fun _ k => XS.ifYes X0.here hx rfl (pc0 := 21) (pc' := 104) rfl (hb hby d2_21) rfl (XT.ll_eq_t hc6) (by decide) (by decide) k) ?_
        show Go p e below s _ _ _ s₁ (mkF m 104 #[.val (.long x0), .second] [])
        exact blk_fAll_104 l Z a0 hw ct0 X0 e0 n0 N0 x0
      · rw [if_neg hc6]
        refine go_st (fun _ k => XS.ifNo X0.here hx rfl (hb hby d2_21) rfl (XT.ll_eq_f hc6) k) ?_
        show Go p e below s _ _ _ s₁ (mkF m 24 #[.val (.long x0), .second] [])
        refine go_st (fun _ k => XT.lloadN X0.here hx rfl (hb hby d2_24) rfl k) ?_
        show Go p e below s _ _ _ s₁ (mkF m 25 #[.val (.long x0), .second] [(.long x0)])
        refine go_st (fun _ k => Jvm.Stand.ldc2J X0 hx hown (mvT hZ (hw _ (List.mem_of_getElem? (i := 12) rfl))) rfl (hb hby d2_25) k) ?_
        show Go p e below s _ _ _ s₁ (mkF m 28 #[.val (.long x0), .second] [(.long (8388608 : Int64)), (.long x0)])
        refine go_st (fun _ k => XT.lcmp X0.here hx rfl (hb hby d2_28) rfl k) ?_
        show Go p e below s _ _ _ s₁ (mkF m 29 #[.val (.long x0), .second] [(.int (XT.cmpL x0 (8388608 : Int64)))])
        by_cases hc7 : x0 = (8388608 : Int64)
        · rw [if_pos hc7]
          refine go_st (fun _ k => XS.ifYes X0.here hx rfl (pc0 := 29) (pc' := 104) rfl (hb hby d2_29) rfl (XT.ll_eq_t hc7) (by decide) (by decide) k) ?_
          show Go p e below s _ _ _ s₁ (mkF m 104 #[.val (.long x0), .second] [])
          exact blk_fAll_104 l Z a0 hw ct0 X0 e0 n0 N0 x0
        · rw [if_neg hc7]
          refine go_st (fun _ k => XS.ifNo X0.here hx rfl (hb hby d2_29) rfl (XT.ll_eq_f hc7) k) ?_
          show Go p e below s _ _ _ s₁ (mkF m 32 #[.val (.long x0), .second] [])
          refine go_st (fun _ k => XT.lloadN X0.here hx rfl (hb hby d2_32) rfl k) ?_
          show Go p e below s _ _ _ s₁ (mkF m 33 #[.val (.long x0), .second] [(.long x0)])
          refine go_st (fun _ k => Jvm.Stand.ldc2J X0 hx hown (mvT hZ (hw _ (List.mem_of_getElem? (i := 13) rfl))) rfl (hb hby d2_33) k) ?_
          show Go p e below s _ _ _ s₁ (mkF m 36 #[.val (.long x0), .second] [(.long (16777216 : Int64)), (.long x0)])
          refine go_st (fun _ k => XT.lcmp X0.here hx rfl (hb hby d2_36) rfl k) ?_
          show Go p e below s _ _ _ s₁ (mkF m 37 #[.val (.long x0), .second] [(.int (XT.cmpL x0 (16777216 : Int64)))])
          by_cases hc8 : x0 = (16777216 : Int64)
          · rw [if_pos hc8]
            refine go_st (fun _ k => XS.ifYes X0.here hx rfl (pc0 := 37) (pc' := 104) rfl (hb hby d2_37) rfl (XT.ll_eq_t hc8) (by decide) (by decide) k) ?_
            show Go p e below s _ _ _ s₁ (mkF m 104 #[.val (.long x0), .second] [])
            exact blk_fAll_104 l Z a0 hw ct0 X0 e0 n0 N0 x0
          · rw [if_neg hc8]
            refine go_st (fun _ k => XS.ifNo X0.here hx rfl (hb hby d2_37) rfl (XT.ll_eq_f hc8) k) ?_
            show Go p e below s _ _ _ s₁ (mkF m 40 #[.val (.long x0), .second] [])
            refine go_st (fun _ k => XT.lloadN X0.here hx rfl (hb hby d2_40) rfl k) ?_
            show Go p e below s _ _ _ s₁ (mkF m 41 #[.val (.long x0), .second] [(.long x0)])
            refine go_st (fun _ k => Jvm.Stand.ldc2J X0 hx hown (mvT hZ (hw _ (List.mem_of_getElem? (i := 14) rfl))) rfl (hb hby d2_41) k) ?_
            show Go p e below s _ _ _ s₁ (mkF m 44 #[.val (.long x0), .second] [(.long (33554432 : Int64)), (.long x0)])
            refine go_st (fun _ k => XT.lcmp X0.here hx rfl (hb hby d2_44) rfl k) ?_
            show Go p e below s _ _ _ s₁ (mkF m 45 #[.val (.long x0), .second] [(.int (XT.cmpL x0 (33554432 : Int64)))])
            by_cases hc9 : x0 = (33554432 : Int64)
            · rw [if_pos hc9]
              refine go_st (fun _ k => XS.ifYes X0.here hx rfl (pc0 := 45) (pc' := 104) rfl (hb hby d2_45) rfl (XT.ll_eq_t hc9) (by decide) (by decide) k) ?_
              show Go p e below s _ _ _ s₁ (mkF m 104 #[.val (.long x0), .second] [])
              exact blk_fAll_104 l Z a0 hw ct0 X0 e0 n0 N0 x0
            · rw [if_neg hc9]
              refine go_st (fun _ k => XS.ifNo X0.here hx rfl (hb hby d2_45) rfl (XT.ll_eq_f hc9) k) ?_
              show Go p e below s _ _ _ s₁ (mkF m 48 #[.val (.long x0), .second] [])
              refine go_st (fun _ k => XT.lloadN X0.here hx rfl (hb hby d2_48) rfl k) ?_
              show Go p e below s _ _ _ s₁ (mkF m 49 #[.val (.long x0), .second] [(.long x0)])
              refine go_st (fun _ k => Jvm.Stand.ldc2J X0 hx hown (mvT hZ (hw _ (List.mem_of_getElem? (i := 15) rfl))) rfl (hb hby d2_49) k) ?_
              show Go p e below s _ _ _ s₁ (mkF m 52 #[.val (.long x0), .second] [(.long (67108864 : Int64)), (.long x0)])
              refine go_st (fun _ k => XT.lcmp X0.here hx rfl (hb hby d2_52) rfl k) ?_
              show Go p e below s _ _ _ s₁ (mkF m 53 #[.val (.long x0), .second] [(.int (XT.cmpL x0 (67108864 : Int64)))])
              by_cases hc10 : x0 = (67108864 : Int64)
              · rw [if_pos hc10]
                refine go_st (fun _ k => XS.ifYes X0.here hx rfl (pc0 := 53) (pc' := 104) rfl (hb hby d2_53) rfl (XT.ll_eq_t hc10) (by decide) (by decide) k) ?_
                show Go p e below s _ _ _ s₁ (mkF m 104 #[.val (.long x0), .second] [])
                exact blk_fAll_104 l Z a0 hw ct0 X0 e0 n0 N0 x0
              · rw [if_neg hc10]
                refine go_st (fun _ k => XS.ifNo X0.here hx rfl (hb hby d2_53) rfl (XT.ll_eq_f hc10) k) ?_
                show Go p e below s _ _ _ s₁ (mkF m 56 #[.val (.long x0), .second] [])
                refine go_st (fun _ k => XT.lloadN X0.here hx rfl (hb hby d2_56) rfl k) ?_
                show Go p e below s _ _ _ s₁ (mkF m 57 #[.val (.long x0), .second] [(.long x0)])
                refine go_st (fun _ k => Jvm.Stand.ldc2J X0 hx hown (mvT hZ (hw _ (List.mem_of_getElem? (i := 16) rfl))) rfl (hb hby d2_57) k) ?_
                show Go p e below s _ _ _ s₁ (mkF m 60 #[.val (.long x0), .second] [(.long (134217728 : Int64)), (.long x0)])
                refine go_st (fun _ k => XT.lcmp X0.here hx rfl (hb hby d2_60) rfl k) ?_
                show Go p e below s _ _ _ s₁ (mkF m 61 #[.val (.long x0), .second] [(.int (XT.cmpL x0 (134217728 : Int64)))])
                by_cases hc11 : x0 = (134217728 : Int64)
                · rw [if_pos hc11]
                  refine go_st (fun _ k => XS.ifYes X0.here hx rfl (pc0 := 61) (pc' := 104) rfl (hb hby d2_61) rfl (XT.ll_eq_t hc11) (by decide) (by decide) k) ?_
                  show Go p e below s _ _ _ s₁ (mkF m 104 #[.val (.long x0), .second] [])
                  exact blk_fAll_104 l Z a0 hw ct0 X0 e0 n0 N0 x0
                · rw [if_neg hc11]
                  refine go_st (fun _ k => XS.ifNo X0.here hx rfl (hb hby d2_61) rfl (XT.ll_eq_f hc11) k) ?_
                  show Go p e below s _ _ _ s₁ (mkF m 64 #[.val (.long x0), .second] [])
                  refine go_st (fun _ k => XT.lloadN X0.here hx rfl (hb hby d2_64) rfl k) ?_
                  show Go p e below s _ _ _ s₁ (mkF m 65 #[.val (.long x0), .second] [(.long x0)])
                  refine go_st (fun _ k => Jvm.Stand.ldc2J X0 hx hown (mvT hZ (hw _ (List.mem_of_getElem? (i := 17) rfl))) rfl (hb hby d2_65) k) ?_
                  show Go p e below s _ _ _ s₁ (mkF m 68 #[.val (.long x0), .second] [(.long (268435456 : Int64)), (.long x0)])
                  refine go_st (fun _ k => XT.lcmp X0.here hx rfl (hb hby d2_68) rfl k) ?_
                  show Go p e below s _ _ _ s₁ (mkF m 69 #[.val (.long x0), .second] [(.int (XT.cmpL x0 (268435456 : Int64)))])
                  by_cases hc12 : x0 = (268435456 : Int64)
                  · rw [if_pos hc12]
                    refine go_st (fun _ k => XS.ifYes X0.here hx rfl (pc0 := 69) (pc' := 104) rfl (hb hby d2_69) rfl (XT.ll_eq_t hc12) (by decide) (by decide) k) ?_
                    show Go p e below s _ _ _ s₁ (mkF m 104 #[.val (.long x0), .second] [])
                    exact blk_fAll_104 l Z a0 hw ct0 X0 e0 n0 N0 x0
                  · rw [if_neg hc12]
                    refine go_st (fun _ k => XS.ifNo X0.here hx rfl (hb hby d2_69) rfl (XT.ll_eq_f hc12) k) ?_
                    show Go p e below s _ _ _ s₁ (mkF m 72 #[.val (.long x0), .second] [])
                    refine go_st (fun _ k => XT.lloadN X0.here hx rfl (hb hby d2_72) rfl k) ?_
                    show Go p e below s _ _ _ s₁ (mkF m 73 #[.val (.long x0), .second] [(.long x0)])
                    refine go_st (fun _ k => Jvm.Stand.ldc2J X0 hx hown (mvT hZ (hw _ (List.mem_of_getElem? (i := 18) rfl))) rfl (hb hby d2_73) k) ?_
                    show Go p e below s _ _ _ s₁ (mkF m 76 #[.val (.long x0), .second] [(.long (536870912 : Int64)), (.long x0)])
                    refine go_st (fun _ k => XT.lcmp X0.here hx rfl (hb hby d2_76) rfl k) ?_
                    show Go p e below s _ _ _ s₁ (mkF m 77 #[.val (.long x0), .second] [(.int (XT.cmpL x0 (536870912 : Int64)))])
                    by_cases hc13 : x0 = (536870912 : Int64)
                    · rw [if_pos hc13]
                      refine go_st (fun _ k => XS.ifYes X0.here hx rfl (pc0 := 77) (pc' := 104) rfl (hb hby d2_77) rfl (XT.ll_eq_t hc13) (by decide) (by decide) k) ?_
                      show Go p e below s _ _ _ s₁ (mkF m 104 #[.val (.long x0), .second] [])
                      exact blk_fAll_104 l Z a0 hw ct0 X0 e0 n0 N0 x0
                    · rw [if_neg hc13]
                      refine go_st (fun _ k => XS.ifNo X0.here hx rfl (hb hby d2_77) rfl (XT.ll_eq_f hc13) k) ?_
                      show Go p e below s _ _ _ s₁ (mkF m 80 #[.val (.long x0), .second] [])
                      refine go_st (fun _ k => XT.lloadN X0.here hx rfl (hb hby d2_80) rfl k) ?_
                      show Go p e below s _ _ _ s₁ (mkF m 81 #[.val (.long x0), .second] [(.long x0)])
                      refine go_st (fun _ k => Jvm.Stand.ldc2J X0 hx hown (mvT hZ (hw _ (List.mem_of_getElem? (i := 19) rfl))) rfl (hb hby d2_81) k) ?_
                      show Go p e below s _ _ _ s₁ (mkF m 84 #[.val (.long x0), .second] [(.long (1073741824 : Int64)), (.long x0)])
                      refine go_st (fun _ k => XT.lcmp X0.here hx rfl (hb hby d2_84) rfl k) ?_
                      show Go p e below s _ _ _ s₁ (mkF m 85 #[.val (.long x0), .second] [(.int (XT.cmpL x0 (1073741824 : Int64)))])
                      by_cases hc14 : x0 = (1073741824 : Int64)
                      · rw [if_pos hc14]
                        refine go_st (fun _ k => XS.ifYes X0.here hx rfl (pc0 := 85) (pc' := 104) rfl (hb hby d2_85) rfl (XT.ll_eq_t hc14) (by decide) (by decide) k) ?_
                        show Go p e below s _ _ _ s₁ (mkF m 104 #[.val (.long x0), .second] [])
                        exact blk_fAll_104 l Z a0 hw ct0 X0 e0 n0 N0 x0
                      · rw [if_neg hc14]
                        refine go_st (fun _ k => XS.ifNo X0.here hx rfl (hb hby d2_85) rfl (XT.ll_eq_f hc14) k) ?_
                        show Go p e below s _ _ _ s₁ (mkF m 88 #[.val (.long x0), .second] [])
                        refine go_st (fun _ k => XT.lloadN X0.here hx rfl (hb hby d2_88) rfl k) ?_
                        show Go p e below s _ _ _ s₁ (mkF m 89 #[.val (.long x0), .second] [(.long x0)])
                        refine go_st (fun _ k => Jvm.Stand.ldc2J X0 hx hown (mvT hZ (hw _ (List.mem_of_getElem? (i := 20) rfl))) rfl (hb hby d2_89) k) ?_
                        show Go p e below s _ _ _ s₁ (mkF m 92 #[.val (.long x0), .second] [(.long (2147483648 : Int64)), (.long x0)])
                        refine go_st (fun _ k => XT.lcmp X0.here hx rfl (hb hby d2_92) rfl k) ?_
                        show Go p e below s _ _ _ s₁ (mkF m 93 #[.val (.long x0), .second] [(.int (XT.cmpL x0 (2147483648 : Int64)))])
                        by_cases hc15 : x0 = (2147483648 : Int64)
                        · rw [if_pos hc15]
                          refine go_st (fun _ k => XS.ifYes X0.here hx rfl (pc0 := 93) (pc' := 104) rfl (hb hby d2_93) rfl (XT.ll_eq_t hc15) (by decide) (by decide) k) ?_
                          show Go p e below s _ _ _ s₁ (mkF m 104 #[.val (.long x0), .second] [])
                          exact blk_fAll_104 l Z a0 hw ct0 X0 e0 n0 N0 x0
                        · rw [if_neg hc15]
                          refine go_st (fun _ k => XS.ifNo X0.here hx rfl (hb hby d2_93) rfl (XT.ll_eq_f hc15) k) ?_
                          show Go p e below s _ _ _ s₁ (mkF m 96 #[.val (.long x0), .second] [])
                          refine go_st (fun _ k => XT.lloadN X0.here hx rfl (hb hby d2_96) rfl k) ?_
                          show Go p e below s _ _ _ s₁ (mkF m 97 #[.val (.long x0), .second] [(.long x0)])
                          refine go_st (fun _ k => Jvm.Stand.ldc2J X0 hx hown (mvT hZ (hw _ (List.mem_of_getElem? (i := 21) rfl))) rfl (hb hby d2_97) k) ?_
                          show Go p e below s _ _ _ s₁ (mkF m 100 #[.val (.long x0), .second] [(.long (4294967296 : Int64)), (.long x0)])
                          refine go_st (fun _ k => XT.lcmp X0.here hx rfl (hb hby d2_100) rfl k) ?_
                          show Go p e below s _ _ _ s₁ (mkF m 101 #[.val (.long x0), .second] [(.int (XT.cmpL x0 (4294967296 : Int64)))])
                          by_cases hc16 : x0 = (4294967296 : Int64)
                          · rw [if_pos hc16]
                            refine go_st (fun _ k => XS.ifNo X0.here hx rfl (hb hby d2_101) rfl (XT.ll_ne_f hc16) k) ?_
                            show Go p e below s _ _ _ s₁ (mkF m 104 #[.val (.long x0), .second] [])
                            exact blk_fAll_104 l Z a0 hw ct0 X0 e0 n0 N0 x0
                          · rw [if_neg hc16]
                            refine go_st (fun _ k => XS.ifYes X0.here hx rfl (pc0 := 101) (pc' := 108) rfl (hb hby d2_101) rfl (XT.ll_ne_t hc16) (by decide) (by decide) k) ?_
                            show Go p e below s _ _ _ s₁ (mkF m 108 #[.val (.long x0), .second] [])
                            refine go_st (fun _ k => XT.iconstV X0.here hx rfl (0 : Int32) (hb hby d2_108) (by decide) k) ?_
                            show Go p e below s _ _ _ s₁ (mkF m 109 #[.val (.long x0), .second] [(.int (0 : Int32))])
                            exact go_retB (w := (0 : Int32)) X0 hx hlk hret (hb hby d2_109) (by decide) (by decide) (by decide) ⟨rfl, N0, e0⟩
theorem pd0 : parseMethodDescriptor "(J)Z" = some ⟨[.long], (some .boolean)⟩ := by decide +kernel
def fLaw_26 (y0 : Int64) (y1 : Int32) (y2 : Int32) (y3 : Int32) (y4 : Int64) : Int32 := (if (fPart y4) = (fAll y4) then (1 : Int32) else (0 : Int32))
def fLaw (x0 : Int64) (x1 : Int32) (x2 : Int32) (x3 : Int32) : Int32 := (if (x3 &&& (1 : Int32)) = (0 : Int32) then (fLaw_26 x0 x1 x2 x3 (((1 : Int64) <<< ((x1 &&& (63 : Int32)).toInt64 &&& 63)) + (x2 % (3 : Int32)).toInt64)) else (fLaw_26 x0 x1 x2 x3 x0))
theorem ef_law (m : MethodId) (x0 : Int64) (x1 : Int32) (x2 : Int32) (x3 : Int32) : entryFrame m #[(.long x0), (.int x1), (.int x2), (.int x3)] maxLocals = mkF m 0 #[.val (.long x0), .second, .val (.int x1), .val (.int x2), .val (.int x3), .unset, .unset] [] := by first | (simp [entryFrame, mkF, argsToLocals, Value.category, maxLocals]; done) | rfl
set_option maxRecDepth 65536 in
set_option maxHeartbeats 4000000 in
theorem blk_fLaw_26 (l : Launch) (Z : State) (a0 : Array Value) (hw : ∀ d ∈ tables_1, d.before a0 Z = true) {p : Program} {e : Env} {s : State} {m : MethodId} {args : Array Value} {below : List Frame} {meth : Method} {c : Code} (ct : Ct p s m meth c Z "com/example/integrum/integrum/MultipartTreeHashIsPartSizePinLaw" "law" code maxLocals ret) {T0 : State} {locs : List Loc} (X0 : Stand p l e room_1 s m args below meth c T0 locs 0 0) {h0 : Heap} (e0 : T0.heap = h0) (n0 : Nat) (Z0 : n0 ≤ h0.size) (N0 : Fr n0 locs) (y0 : Int64) (y1 : Int32) (y2 : Int32) (y3 : Int32) (y4 : Int64) :
    Go p e below s (QF (some (.int (fLaw_26 y0 y1 y2 y3 y4))) n0) 0 0 T0 (mkF m 26 #[.val (.long y0), .second, .val (.int y1), .val (.int y2), .val (.int y3), .val (.long y4), .second] []) := by
  have ct0 := ct
  obtain ⟨hx, hZ, hown, hby, hml, hret, hlk, hnm⟩ := ct
  unfold fLaw_26
  refine go_st (fun _ k => XT.lload X0.here hx rfl (hb hby at_26) rfl k) ?_
  show Go p e below s _ _ _ T0 (mkF m 28 #[.val (.long y0), .second, .val (.int y1), .val (.int y2), .val (.int y3), .val (.long y4), .second] [(.long y4)])
  refine go_callS X0 hx hZ hml hown (hw _ (List.mem_of_getElem? (i := 0) rfl)) (hw _ (List.mem_of_getElem? (i := 1) rfl)) (hw _ (List.mem_of_getElem? (i := 2) rfl)) (hw _ (List.mem_of_getElem? (i := 3) rfl)) e0 (argsL := [(.long y4)]) (rest := []) (W := 0) (met_1 l Z a0 hw y4 h0 n0) (hb hby at_28) rfl rfl rfl (lenOf pd0 rfl) (by show 2 * 0 + _ ≤ _; exact Nat.le_of_eq rfl) (by decide) (by decide) (by decide) (by decide) (by decide) ?_
  intro T18 v18 L18 X18 q18
  obtain ⟨rfl, M18, e18⟩ := q18
  have N18 := Fr.app N0 M18
  show Go p e below s _ _ _ T18 (mkF m 31 #[.val (.long y0), .second, .val (.int y1), .val (.int y2), .val (.int y3), .val (.long y4), .second] [(.int (fPart y4))])
  refine go_st (fun _ k => XT.lload X18.here hx rfl (hb hby at_31) rfl k) ?_
  show Go p e below s _ _ _ T18 (mkF m 33 #[.val (.long y0), .second, .val (.int y1), .val (.int y2), .val (.int y3), .val (.long y4), .second] [(.long y4), (.int (fPart y4))])
  refine go_callS X18 hx hZ hml hown (hw _ (List.mem_of_getElem? (i := 5) rfl)) (hw _ (List.mem_of_getElem? (i := 6) rfl)) (hw _ (List.mem_of_getElem? (i := 7) rfl)) (hw _ (List.mem_of_getElem? (i := 8) rfl)) e18 (argsL := [(.long y4)]) (rest := [(.int (fPart y4))]) (W := 1) (met_2 l Z a0 hw y4 h0 n0) (hb hby at_33) rfl rfl rfl (lenOf pd0 rfl) (by show 2 * 0 + _ ≤ _; exact Nat.le_of_eq rfl) (by decide) (by decide) (by decide) (by decide) (by decide) ?_
  intro T19 v19 L19 X19 q19
  obtain ⟨rfl, M19, e19⟩ := q19
  have N19 := Fr.app N18 M19
  show Go p e below s _ _ _ T19 (mkF m 36 #[.val (.long y0), .second, .val (.int y1), .val (.int y2), .val (.int y3), .val (.long y4), .second] [(.int (fAll y4)), (.int (fPart y4))])
  by_cases hc20 : (fPart y4) = (fAll y4)
  · rw [if_pos hc20]
    refine go_st (fun _ k => XS.icmpNo X19.here hx rfl (hb hby at_36) rfl (XT.ii_ne_f hc20) k) ?_
    show Go p e below s _ _ _ T19 (mkF m 39 #[.val (.long y0), .second, .val (.int y1), .val (.int y2), .val (.int y3), .val (.long y4), .second] [])
    refine go_st (fun _ k => XT.iconstV X19.here hx rfl (1 : Int32) (hb hby at_39) (by decide) k) ?_
    show Go p e below s _ _ _ T19 (mkF m 40 #[.val (.long y0), .second, .val (.int y1), .val (.int y2), .val (.int y3), .val (.long y4), .second] [(.int (1 : Int32))])
    refine go_st (fun _ k => XS.goto X19.here hx rfl (pc0 := 40) (pc' := 44) rfl (hb hby at_40) (by decide) (by decide) k) ?_
    show Go p e below s _ _ _ T19 (mkF m 44 #[.val (.long y0), .second, .val (.int y1), .val (.int y2), .val (.int y3), .val (.long y4), .second] [(.int (1 : Int32))])
    exact go_retB (w := (1 : Int32)) X19 hx hlk hret (hb hby at_44) (by decide) (by decide) (by decide) ⟨rfl, N19⟩
  · rw [if_neg hc20]
    refine go_st (fun _ k => XS.icmpYes X19.here hx rfl (pc0 := 36) (pc' := 43) rfl (hb hby at_36) rfl (XT.ii_ne_t hc20) (by decide) (by decide) k) ?_
    show Go p e below s _ _ _ T19 (mkF m 43 #[.val (.long y0), .second, .val (.int y1), .val (.int y2), .val (.int y3), .val (.long y4), .second] [])
    refine go_st (fun _ k => XT.iconstV X19.here hx rfl (0 : Int32) (hb hby at_43) (by decide) k) ?_
    show Go p e below s _ _ _ T19 (mkF m 44 #[.val (.long y0), .second, .val (.int y1), .val (.int y2), .val (.int y3), .val (.long y4), .second] [(.int (0 : Int32))])
    exact go_retB (w := (0 : Int32)) X19 hx hlk hret (hb hby at_44) (by decide) (by decide) (by decide) ⟨rfl, N19⟩
set_option maxRecDepth 65536 in
set_option maxHeartbeats 4000000 in
theorem met_law (l : Launch) (Z : State) (a0 : Array Value) (hw : ∀ d ∈ tables_1, d.before a0 Z = true) (x0 : Int64) (x1 : Int32) (x2 : Int32) (x3 : Int32) (h0 : Heap) (n0 : Nat) (Z0 : n0 ≤ h0.size) :
    Met l x code maxLocals ret tables_1 room_1 Z #[(.long x0), (.int x1), (.int x2), (.int x3)] h0 (QF (some (.int (fLaw x0 x1 x2 x3))) n0) 0 0 := by
  refine own_body pn1 ?_
  intro p e s m below meth c s₁ ct X0 e0
  have ct0 := ct
  obtain ⟨hx, hZ, hown, hby, hml, hret, hlk, hnm⟩ := ct
  have N0 := Fr.nil n0
  refine castGo (ef_law m x0 x1 x2 x3) ?_
  unfold fLaw
  show Go p e below s _ _ _ s₁ (mkF m 0 #[.val (.long x0), .second, .val (.int x1), .val (.int x2), .val (.int x3), .unset, .unset] [])
  refine go_st (fun _ k => XS.iload X0.here hx rfl (hb hby at_0) rfl k) ?_
  show Go p e below s _ _ _ s₁ (mkF m 2 #[.val (.long x0), .second, .val (.int x1), .val (.int x2), .val (.int x3), .unset, .unset] [(.int x3)])
  refine go_st (fun _ k => XT.iconstV X0.here hx rfl (1 : Int32) (hb hby at_2) (by decide) k) ?_
  show Go p e below s _ _ _ s₁ (mkF m 3 #[.val (.long x0), .second, .val (.int x1), .val (.int x2), .val (.int x3), .unset, .unset] [(.int (1 : Int32)), (.int x3)])
  refine go_st (fun _ k => XS.iand X0.here hx rfl (hb hby at_3) rfl k) ?_
  show Go p e below s _ _ _ s₁ (mkF m 4 #[.val (.long x0), .second, .val (.int x1), .val (.int x2), .val (.int x3), .unset, .unset] [(.int (x3 &&& (1 : Int32)))])
  by_cases hc17 : (x3 &&& (1 : Int32)) = (0 : Int32)
  · rw [if_pos hc17]
    refine go_st (fun _ k => XS.ifYes X0.here hx rfl (pc0 := 4) (pc' := 13) rfl (hb hby at_4) rfl (XT.i0_eq_t hc17) (by decide) (by decide) k) ?_
    show Go p e below s _ _ _ s₁ (mkF m 13 #[.val (.long x0), .second, .val (.int x1), .val (.int x2), .val (.int x3), .unset, .unset] [])
    refine go_st (fun _ k => XT.lconstV X0.here hx rfl (1 : Int64) (hb hby at_13) (by decide) k) ?_
    show Go p e below s _ _ _ s₁ (mkF m 14 #[.val (.long x0), .second, .val (.int x1), .val (.int x2), .val (.int x3), .unset, .unset] [(.long (1 : Int64))])
    refine go_st (fun _ k => XS.iloadN X0.here hx rfl (hb hby at_14) rfl k) ?_
    show Go p e below s _ _ _ s₁ (mkF m 15 #[.val (.long x0), .second, .val (.int x1), .val (.int x2), .val (.int x3), .unset, .unset] [(.int x1), (.long (1 : Int64))])
    refine go_st (fun _ k => XT.bipushV X0.here hx rfl (63 : Int32) (hb hby at_15) (by decide) k) ?_
    show Go p e below s _ _ _ s₁ (mkF m 17 #[.val (.long x0), .second, .val (.int x1), .val (.int x2), .val (.int x3), .unset, .unset] [(.int (63 : Int32)), (.int x1), (.long (1 : Int64))])
    refine go_st (fun _ k => XS.iand X0.here hx rfl (hb hby at_17) rfl k) ?_
    show Go p e below s _ _ _ s₁ (mkF m 18 #[.val (.long x0), .second, .val (.int x1), .val (.int x2), .val (.int x3), .unset, .unset] [(.int (x1 &&& (63 : Int32))), (.long (1 : Int64))])
    refine go_st (fun _ k => XT.lshl X0.here hx rfl (hb hby at_18) rfl k) ?_
    show Go p e below s _ _ _ s₁ (mkF m 19 #[.val (.long x0), .second, .val (.int x1), .val (.int x2), .val (.int x3), .unset, .unset] [(.long ((1 : Int64) <<< ((x1 &&& (63 : Int32)).toInt64 &&& 63)))])
    refine go_st (fun _ k => XS.iloadN X0.here hx rfl (hb hby at_19) rfl k) ?_
    show Go p e below s _ _ _ s₁ (mkF m 20 #[.val (.long x0), .second, .val (.int x1), .val (.int x2), .val (.int x3), .unset, .unset] [(.int x2), (.long ((1 : Int64) <<< ((x1 &&& (63 : Int32)).toInt64 &&& 63)))])
    refine go_st (fun _ k => XT.iconstV X0.here hx rfl (3 : Int32) (hb hby at_20) (by decide) k) ?_
    show Go p e below s _ _ _ s₁ (mkF m 21 #[.val (.long x0), .second, .val (.int x1), .val (.int x2), .val (.int x3), .unset, .unset] [(.int (3 : Int32)), (.int x2), (.long ((1 : Int64) <<< ((x1 &&& (63 : Int32)).toInt64 &&& 63)))])
    refine go_st (fun _ k => iremM X0 hx rfl (hb hby at_21) rfl (by decide) k) ?_
    show Go p e below s _ _ _ s₁ (mkF m 22 #[.val (.long x0), .second, .val (.int x1), .val (.int x2), .val (.int x3), .unset, .unset] [(.int (x2 % (3 : Int32))), (.long ((1 : Int64) <<< ((x1 &&& (63 : Int32)).toInt64 &&& 63)))])
    refine go_st (fun _ k => XT.i2l X0.here hx rfl (hb hby at_22) rfl k) ?_
    show Go p e below s _ _ _ s₁ (mkF m 23 #[.val (.long x0), .second, .val (.int x1), .val (.int x2), .val (.int x3), .unset, .unset] [(.long (x2 % (3 : Int32)).toInt64), (.long ((1 : Int64) <<< ((x1 &&& (63 : Int32)).toInt64 &&& 63)))])
    refine go_st (fun _ k => XT.ladd X0.here hx rfl (hb hby at_23) rfl k) ?_
    show Go p e below s _ _ _ s₁ (mkF m 24 #[.val (.long x0), .second, .val (.int x1), .val (.int x2), .val (.int x3), .unset, .unset] [(.long (((1 : Int64) <<< ((x1 &&& (63 : Int32)).toInt64 &&& 63)) + (x2 % (3 : Int32)).toInt64))])
    refine go_st (fun _ k => XT.lstore X0.here hx rfl (hb hby at_24) rfl (l' := #[.val (.long x0), .second, .val (.int x1), .val (.int x2), .val (.int x3), .val (.long (((1 : Int64) <<< ((x1 &&& (63 : Int32)).toInt64 &&& 63)) + (x2 % (3 : Int32)).toInt64)), .second]) rfl k) ?_
    show Go p e below s _ _ _ s₁ (mkF m 26 #[.val (.long x0), .second, .val (.int x1), .val (.int x2), .val (.int x3), .val (.long (((1 : Int64) <<< ((x1 &&& (63 : Int32)).toInt64 &&& 63)) + (x2 % (3 : Int32)).toInt64)), .second] [])
    exact blk_fLaw_26 l Z a0 hw ct0 X0 e0 n0 Z0 N0 x0 x1 x2 x3 (((1 : Int64) <<< ((x1 &&& (63 : Int32)).toInt64 &&& 63)) + (x2 % (3 : Int32)).toInt64)
  · rw [if_neg hc17]
    refine go_st (fun _ k => XS.ifNo X0.here hx rfl (hb hby at_4) rfl (XT.i0_eq_f hc17) k) ?_
    show Go p e below s _ _ _ s₁ (mkF m 7 #[.val (.long x0), .second, .val (.int x1), .val (.int x2), .val (.int x3), .unset, .unset] [])
    refine go_st (fun _ k => XT.lloadN X0.here hx rfl (hb hby at_7) rfl k) ?_
    show Go p e below s _ _ _ s₁ (mkF m 8 #[.val (.long x0), .second, .val (.int x1), .val (.int x2), .val (.int x3), .unset, .unset] [(.long x0)])
    refine go_st (fun _ k => XT.lstore X0.here hx rfl (hb hby at_8) rfl (l' := #[.val (.long x0), .second, .val (.int x1), .val (.int x2), .val (.int x3), .val (.long x0), .second]) rfl k) ?_
    show Go p e below s _ _ _ s₁ (mkF m 10 #[.val (.long x0), .second, .val (.int x1), .val (.int x2), .val (.int x3), .val (.long x0), .second] [])
    refine go_st (fun _ k => XS.goto X0.here hx rfl (pc0 := 10) (pc' := 26) rfl (hb hby at_10) (by decide) (by decide) k) ?_
    show Go p e below s _ _ _ s₁ (mkF m 26 #[.val (.long x0), .second, .val (.int x1), .val (.int x2), .val (.int x3), .val (.long x0), .second] [])
    exact blk_fLaw_26 l Z a0 hw ct0 X0 e0 n0 Z0 N0 x0 x1 x2 x3 x0
theorem own_pow2 : ∀ (k n : Nat), 0 < n → n < 2 ^ k → n &&& (n - 1) = 0 → ∃ j, j < k ∧ n = 2 ^ j := by
  intro k
  induction k with
  | zero => intro n h1 h2; simp at h2; omega
  | succ k ih =>
    intro n h1 h2 h3
    have hd : (n / 2) &&& ((n - 1) / 2) = 0 := by
      rw [← Nat.and_div_two, h3]
    by_cases he : n % 2 = 0
    · have e1 : (n - 1) / 2 = n / 2 - 1 := by omega
      rw [e1] at hd
      obtain ⟨j, hj, hn⟩ := ih (n / 2) (by omega) (by rw [Nat.pow_succ] at h2; omega) hd
      exact ⟨j + 1, by omega, by rw [Nat.pow_succ]; omega⟩
    · have e1 : (n - 1) / 2 = n / 2 := by omega
      rw [e1, Nat.and_self] at hd
      exact ⟨0, by omega, by simp; omega⟩
theorem own_pow2c (j : Nat) (h1 : 1048576 ≤ 2 ^ j) (h2 : 2 ^ j ≤ 4294967296) : j = 20 ∨ j = 21 ∨ j = 22 ∨ j = 23 ∨ j = 24 ∨ j = 25 ∨ j = 26 ∨ j = 27 ∨ j = 28 ∨ j = 29 ∨ j = 30 ∨ j = 31 ∨ j = 32 := by
  have a1 : 20 ≤ j := by
    rcases Nat.lt_or_ge j 20 with h | h
    · have := Nat.pow_le_pow_right (n := 2) (by omega) (show j ≤ 19 by omega)
      have : (2 : Nat) ^ 19 = 524288 := by decide
      omega
    · exact h
  have a2 : j ≤ 32 := by
    rcases Nat.lt_or_ge 32 j with h | h
    · have := Nat.pow_le_pow_right (n := 2) (by omega) (show 33 ≤ j by omega)
      have : (2 : Nat) ^ 33 = 8589934592 := by decide
      omega
    · exact h
  omega
theorem own_and (y : Int64) (h0 : 0 < y.toInt) (h : y &&& (y - 1) = 0) : y.toInt.toNat &&& (y.toInt.toNat - 1) = 0 := by
  have hr := rng64 y
  have e1 : (1 : Int64).toInt = 1 := rfl
  have a1 := c_lsub y 1
  have a2 := rng64 (y - 1)
  have k1 : (y - 1).toInt = y.toInt - 1 := by omega
  have b1 : y.toBitVec.toNat = y.toInt.toNat := by
    have := Int64.toInt_toBitVec y
    have h2 := BitVec.toInt_eq_toNat_cond y.toBitVec
    rw [← this] at h0 hr ⊢
    have := y.toBitVec.isLt
    split at h2 <;> omega
  have b2 : (y - 1).toBitVec.toNat = y.toInt.toNat - 1 := by
    have := Int64.toInt_toBitVec (y - 1)
    have h2 := BitVec.toInt_eq_toNat_cond (y - 1).toBitVec
    rw [← this] at k1
    have := (y - 1).toBitVec.isLt
    split at h2 <;> omega
  have h3 : (y &&& (y - 1)).toBitVec.toNat = 0 := by rw [h]; rfl
  rw [Int64.toBitVec_and, BitVec.toNat_and, b1, b2] at h3
  exact h3
theorem own_pa (y : Int64) : fPart y = fAll y := by
  have e1 : (1048576 : Int64).toInt = 1048576 := rfl
  have e2 : (4294967296 : Int64).toInt = 4294967296 := rfl
  by_cases hin : y = 1048576 ∨ y = 2097152 ∨ y = 4194304 ∨ y = 8388608 ∨ y = 16777216 ∨ y = 33554432 ∨ y = 67108864 ∨ y = 134217728 ∨ y = 268435456 ∨ y = 536870912 ∨ y = 1073741824 ∨ y = 2147483648 ∨ y = 4294967296
  · rcases hin with h | h | h | h | h | h | h | h | h | h | h | h | h <;> subst h <;> decide +kernel
  · have ha : fAll y = 0 := by
      unfold fAll fAll_104
      simp only [not_or] at hin
      obtain ⟨n0, n1, n2, n3, n4, n5, n6, n7, n8, n9, n10, n11, n12⟩ := hin
      rw [if_neg n0, if_neg n1, if_neg n2, if_neg n3, if_neg n4, if_neg n5, if_neg n6, if_neg n7, if_neg n8, if_neg n9, if_neg n10, if_neg n11, if_neg n12]
    rw [ha]
    unfold fPart
    by_cases h1 : y < 1048576
    · rw [if_pos h1]
    rw [if_neg h1]
    by_cases h2 : 4294967296 < y
    · rw [if_pos h2]
    rw [if_neg h2]
    by_cases h3 : y &&& (y - 1) = 0
    · exfalso
      rw [Int64.lt_iff_toInt_lt] at h1 h2
      have h4 := own_and y (by omega) h3
      obtain ⟨j, hj, hn⟩ := own_pow2 64 y.toInt.toNat (by omega) (by have := rng64 y; omega) h4
      have hc := own_pow2c j (by omega) (by omega)
      apply hin
      simp only [← Int64.toInt_inj]
      rcases hc with h | h | h | h | h | h | h | h | h | h | h | h | h <;> subst h
      · left; show y.toInt = 1048576; omega
      · right; left; show y.toInt = 2097152; omega
      · right; right; left; show y.toInt = 4194304; omega
      · right; right; right; left; show y.toInt = 8388608; omega
      · right; right; right; right; left; show y.toInt = 16777216; omega
      · right; right; right; right; right; left; show y.toInt = 33554432; omega
      · right; right; right; right; right; right; left; show y.toInt = 67108864; omega
      · right; right; right; right; right; right; right; left; show y.toInt = 134217728; omega
      · right; right; right; right; right; right; right; right; left; show y.toInt = 268435456; omega
      · right; right; right; right; right; right; right; right; right; left; show y.toInt = 536870912; omega
      · right; right; right; right; right; right; right; right; right; right; left; show y.toInt = 1073741824; omega
      · right; right; right; right; right; right; right; right; right; right; right; left; show y.toInt = 2147483648; omega
      · right; right; right; right; right; right; right; right; right; right; right; right; show y.toInt = 4294967296; omega
    · rw [if_neg h3]
theorem own_law (x0 : Int64) (x1 x2 x3 : Int32) : fLaw x0 x1 x2 x3 = 1 := by
  unfold fLaw fLaw_26
  split
  · rw [if_pos (own_pa _)]
  · rw [if_pos (own_pa _)]

set_option maxRecDepth 65536 in
set_option maxHeartbeats 4000000 in
theorem comes_1 {Post : Tables → Env → Array Value → State → Outcome → State → Prop} (hpost : ∀ tb e args s v u, (limb_1_1.after args s (.returned v) u = true ∧ limb_1_2.after args s (.returned v) u = true ∧ True) → FrameEnd s (.returned v) u (Jvm.fieldLocs frame_1_writes args s ++ Jvm.arrayLocs frame_1_arrays args s ++ Jvm.staticLocs frame_1_statics s) 0 0 → Post tb e args s (.returned v) u) :
    ArmFor flags0 classFile x code maxLocals ret World_1 tables_1 room_1 Calls_1 rest_1 Pre_1 Post := by
  intro l hfl _ _ p e ha hc hk s m args below hf hA hF happ hP
  obtain ⟨hcalls, hrest, hpre⟩ := hP
  obtain ⟨-, -, -, hnamed, -, -, -, hat⟩ := (Spec.applies_iff hf).mp happ
  obtain ⟨hg, hn⟩ := and_e (Cond.before_iff.mp (show (Jvm.Cond.and given_1 narrow_1).before args s = true from hpre))
  obtain ⟨k1, r1⟩ := and_e hg
  obtain ⟨g0, r2⟩ := and_e r1
  obtain ⟨g1, r3⟩ := and_e r2
  obtain ⟨g2, r4⟩ := and_e r3
  have g3 := r4
  obtain ⟨w0, w1, w2, w3, rfl⟩ : ∃ w0 w1 w2 w3 : Value, args = #[w0, w1, w2, w3] := by
    have hs : args.size = 4 := by simpa [Cond.value, given_1] using k1
    obtain ⟨L⟩ := args
    match L, hs with
    | [w0, w1, w2, w3], _ => exact ⟨w0, w1, w2, w3, rfl⟩
  have hw := fun d (hd : d ∈ tables_1) => atoms_spec (ws := Jvm.Cond.code x code maxLocals ret :: tables_1) hat d (List.mem_cons_of_mem _ hd)
  have hfit : Fit s := fun {y c} hc i hi => by
    obtain ⟨ha, rfl⟩ := Array.getElem?_eq_some_iff.mp hc
    have q := List.all_eq_true.mp ((Array.all_eq_true_iff_forall_mem.mp hF) _ (Array.getElem_mem ha)) i (List.mem_range.mpr hi)
    simpa [Array.getElem?_eq_getElem hi] using q
  obtain ⟨i0, f0⟩ := isL_v g0
  obtain rfl : w0 = (.long i0) := Option.some.inj f0
  obtain ⟨i1, f1⟩ := is_v g1
  obtain rfl : w1 = (.int i1) := Option.some.inj f1
  obtain ⟨i2, f2⟩ := is_v g2
  obtain rfl : w2 = (.int i2) := Option.some.inj f2
  obtain ⟨i3, f3⟩ := is_v g3
  obtain rfl : w3 = (.int i3) := Option.some.inj f3
  have hm := met_law l s _ hw i0 i1 i2 i3 s.heap s.heap.size (Nat.le_refl _)
  rw [own_law] at hm
  obtain ⟨n, o, h1, h2, h3, _, L, rfl, ⟨rfl, N⟩, hq⟩ := hm p e ha hc hk s m _ below hf ((Spec.applies_iff_loose hf).mp happ).1 ⟨rfl, State.Warmed39.refl s, rfl⟩ trivial
  refine ⟨n, _, h1, h2, h3, hpost _ _ _ _ _ _ ⟨Cond.after_iff.mpr rfl, Cond.after_iff.mpr (eq_i res_at (Term.int_eval (1)) rfl), trivial⟩ ⟨hq.1, hq.2.1, (hq.2.2.sift fun y hy => Or.inr (N y hy)).mono (by decide) (by decide)⟩⟩
theorem main_1_1 : Claimed_1_1 := comes_1 fun _ _ _ _ _ _ h hF => ⟨h.1, hF⟩
theorem main_1_2 : Claimed_1_2 := comes_1 fun _ _ _ _ _ _ h hF => ⟨h.2.1, hF⟩
end Jvm.Pilot.@@N@@
namespace Jvm.Pilot.@@N@@
open Jvm Jvm.ClassFile Sem Op Lib Jvm.Free Jvm.Stand Jvm.Pilot.@@N@@.Jvm.D
/-! MADE BY PROGRAM (witnessworld.py) out of the Statement's table words and the real class files: 9 classes; the members and pool entries that the words name. The judged class is class 1, her method 2. -/
namespace start1
open Jvm.ClassFile
def u (s : String) : CpInfo := .utf8 (stringToUtf16 s)
/-- a pool by its gaps: so many unusable entries, then the entry; so many at the end -/
def gap : Nat → List CpInfo → List CpInfo
  | 0, r => r
  | n + 1, r => .unusable :: gap n r
def poolList (es : List (Nat × CpInfo)) (last : Nat) : List CpInfo := es.foldr (fun e r => gap e.1 (e.2 :: r)) (gap last [])
def pool (es : List (Nat × CpInfo)) (last : Nat) : Array CpInfo := ⟨poolList es last⟩
def fileOf (pool : Array CpInfo) (this : Nat) (attrs : Array Attribute := #[]) (ms : Array MethodInfo := #[]) (fl : Nat := 33) (sup : Nat := 0) (ifs : Array Nat := #[]) (fds : Array FieldInfo := #[]) : ClassFile where
  minorVersion := 0
  majorVersion := 65
  constantPool := pool
  accessFlags := fl
  thisClass := this
  superClass := sup
  interfaces := ifs
  fields := fds
  methods := ms
  attributes := attrs
def plain (name : String) (sup : Option ClassId) : Class where
  name := name
  kind := .ordinary
  loader := none
  accessFlags := 33
  super := sup
  interfaces := #[]
  cf := none
  fields := #[]
  methods := #[]
  instanceTypes := #[]
  staticTypes := #[]
  resolved := #[]
  callSites := []
  init := .initialized
  statics := none
  mirror := none

def pool0 : Array CpInfo := pool [(5, u "<init>"), (0, u "()V"), (1, .class_ 10), (1, u "java/lang/Object")] 113

def k0m0 : Method := { name := "<init>", desc := "()V", sig := { parameters := [], returnType := none }, accessFlags := 1, code := none }
/-- java/lang/Object -/
def k0 : Class := { plain "java/lang/Object" none with
  accessFlags := 33
  interfaces := #[]
  cf := some (fileOf pool0 8 #[] #[{ accessFlags := 1, nameIndex := 5, descriptorIndex := 6, attributes := #[] }] 33 0 #[] #[])
  fields := #[]
  methods := #[k0m0]
  instanceTypes := #[]
  staticTypes := #[]
  resolved := Array.replicate 124 none
  statics := none }

def pool1 : Array CpInfo := pool [(2, .class_ 4), (1, u "java/lang/Object"), (0, u "<init>"), (0, u "()V"), (0, .long 1048576), (1, .long 2097152), (1, .long 4194304), (1, .long 8388608), (1, .long 16777216), (1, .long 33554432), (1, .long 67108864), (1, .long 134217728), (1, .long 268435456), (1, .long 536870912), (1, .long 1073741824), (1, .long 2147483648), (1, .long 4294967296), (1, .methodref 34 35), (0, .class_ 36), (0, .nameAndType 37 38), (0, u "com/example/integrum/integrum/MultipartTreeHash"), (0, u "isPartSize"), (0, u "(J)Z"), (0, .methodref 40 41), (0, .class_ 42), (0, .nameAndType 43 38), (0, u "com/example/integrum/integrum/MultipartTreeHashIsPartSizePinLaw"), (0, u "allowed"), (3, u "law"), (0, u "(JIII)Z")] 2

def k1m0 : Method := { name := "<init>", desc := "()V", sig := { parameters := [], returnType := none }, accessFlags := 2, code := none }
def k1c1 : Code := { maxStack := 4, maxLocals := 2, code := method_2_code, exceptionTable := #[], attributes := #[] }
def k1m1 : Method := { name := "allowed", desc := "(J)Z", sig := { parameters := [.long], returnType := some .boolean }, accessFlags := 10, code := some k1c1 }
def k1c2 : Code := { maxStack := 4, maxLocals := 7, code := code, exceptionTable := #[], attributes := #[] }
def k1m2 : Method := { name := "law", desc := "(JIII)Z", sig := { parameters := [.long, .int, .int, .int], returnType := some .boolean }, accessFlags := 9, code := some k1c2 }
/-- com/example/integrum/integrum/MultipartTreeHashIsPartSizePinLaw -/
def k1 : Class := { plain "com/example/integrum/integrum/MultipartTreeHashIsPartSizePinLaw" (some 0) with
  accessFlags := 49
  interfaces := #[]
  cf := some (fileOf pool1 40 #[] #[{ accessFlags := 2, nameIndex := 5, descriptorIndex := 6, attributes := #[] }, { accessFlags := 10, nameIndex := 43, descriptorIndex := 38, attributes := #[] }, { accessFlags := 9, nameIndex := 47, descriptorIndex := 48, attributes := #[] }] 49 2 #[] #[])
  fields := #[]
  methods := #[k1m0, k1m1, k1m2]
  instanceTypes := #[]
  staticTypes := #[]
  resolved := Array.replicate 51 none
  statics := none }

def pool2 : Array CpInfo := pool [(2, .class_ 4), (1, u "java/lang/Object"), (3, .class_ 10), (1, u "com/example/integrum/integrum/MultipartTreeHash"), (0, u "partSize"), (0, u "J"), (2, u "length"), (2, u "partValues"), (0, u "[B"), (2, u "treeHash"), (0, .long 1048576), (1, .long 4294967296), (44, .class_ 71), (0, u "com/example/integrum/integrum/MultipartTreeHash$Parts"), (70, u "isPartSize"), (0, u "(J)Z"), (1, u "MIN_PART_SIZE"), (1, u "MAX_PART_SIZE"), (0, u "MAX_PARTS"), (0, u "I"), (1, u "VALUE_SIZE")] 45

def k2c0 : Code := { maxStack := 6, maxLocals := 2, code := prog_18_method_2_code, exceptionTable := #[], attributes := #[] }
def k2m0 : Method := { name := "isPartSize", desc := "(J)Z", sig := { parameters := [.long], returnType := some .boolean }, accessFlags := 9, code := some k2c0 }
/-- com/example/integrum/integrum/MultipartTreeHash -/
def k2 : Class := { plain "com/example/integrum/integrum/MultipartTreeHash" (some 0) with
  accessFlags := 49
  interfaces := #[]
  cf := some (fileOf pool2 8 #[.nestMembers #[70]] #[{ accessFlags := 9, nameIndex := 142, descriptorIndex := 143, attributes := #[] }] 49 2 #[] #[{ accessFlags := 25, nameIndex := 145, descriptorIndex := 12, attributes := #[] }, { accessFlags := 25, nameIndex := 147, descriptorIndex := 12, attributes := #[] }, { accessFlags := 25, nameIndex := 148, descriptorIndex := 149, attributes := #[] }, { accessFlags := 26, nameIndex := 151, descriptorIndex := 149, attributes := #[] }, { accessFlags := 18, nameIndex := 11, descriptorIndex := 12, attributes := #[] }, { accessFlags := 18, nameIndex := 15, descriptorIndex := 12, attributes := #[] }, { accessFlags := 18, nameIndex := 18, descriptorIndex := 19, attributes := #[] }, { accessFlags := 18, nameIndex := 22, descriptorIndex := 19, attributes := #[] }])
  fields := #[{ name := "MIN_PART_SIZE", type := .long, accessFlags := 25, slot := 0, constantValue := 0 }, { name := "MAX_PART_SIZE", type := .long, accessFlags := 25, slot := 1, constantValue := 0 }, { name := "MAX_PARTS", type := .int, accessFlags := 25, slot := 2, constantValue := 0 }, { name := "VALUE_SIZE", type := .int, accessFlags := 26, slot := 3, constantValue := 0 }, { name := "partSize", type := .long, accessFlags := 18, slot := 0, constantValue := 0 }, { name := "length", type := .long, accessFlags := 18, slot := 1, constantValue := 0 }, { name := "partValues", type := (.array .byte), accessFlags := 18, slot := 2, constantValue := 0 }, { name := "treeHash", type := (.array .byte), accessFlags := 18, slot := 3, constantValue := 0 }]
  methods := #[k2m0]
  instanceTypes := #[.long, .long, (.array .byte), (.array .byte)]
  staticTypes := #[.long, .long, .int, .int]
  resolved := Array.replicate 197 none
  statics := none }

def pool3 : Array CpInfo := pool [(1, u "java/lang/Cloneable"), (0, .class_ 1), (0, u "java/lang/Object"), (0, .class_ 3)] 3

/-- java/lang/Cloneable -/
def k3 : Class := { plain "java/lang/Cloneable" (some 0) with
  accessFlags := 1537
  interfaces := #[]
  cf := some (fileOf pool3 2 #[] #[] 1537 4 #[] #[])
  fields := #[]
  methods := #[]
  instanceTypes := #[]
  staticTypes := #[]
  resolved := Array.replicate 8 none
  statics := none }

def pool4 : Array CpInfo := pool [(1, u "java/io/Serializable"), (0, .class_ 1), (0, u "java/lang/Object"), (0, .class_ 3)] 3

/-- java/io/Serializable -/
def k4 : Class := { plain "java/io/Serializable" (some 0) with
  accessFlags := 1537
  interfaces := #[]
  cf := some (fileOf pool4 2 #[] #[] 1537 4 #[] #[])
  fields := #[]
  methods := #[]
  instanceTypes := #[]
  staticTypes := #[]
  resolved := Array.replicate 8 none
  statics := none }

/-- the primitive byte -/
def k5 : Class := { plain "byte" none with kind := .primitive 'B', accessFlags := 0x411 }
/-- [B -/
def k6 : Class := { plain "[B" (some 0) with kind := .array 5 .byte, interfaces := #[3, 4], accessFlags := 1041 }

/-- the primitive int -/
def k7 : Class := { plain "int" none with kind := .primitive 'I', accessFlags := 0x411 }
/-- [I -/
def k8 : Class := { plain "[I" (some 0) with kind := .array 7 .int, interfaces := #[3, 4], accessFlags := 1041 }

def heap : Heap := #[]
def classes : Array Class := #[k0, k1, k2, k3, k4, k5, k6, k7, k8]
def interned : List (Array UInt16 × Addr) := []
def slotsUsed : Nat := 0
def theMethod : MethodId := ⟨1, 2⟩
def args0 : Array Value := #[.long 5, .int 20, .int 3, .int 2]
def aboutOver (below : List Frame) : State where
  vm := { classes := classes, interned := interned.toArray }
  heap := heap
  slotsUsed := slotsUsed
  threads := #[{ frames := .invoking theMethod args0 :: below }]
def below0 : List Frame := [.native { method := ⟨0, 0⟩, args := #[] }]
def about1 : State := aboutOver below0
def p0 : Program := .bare "" "" ""
def e0 : Env := launch0.env 0 0 0
theorem w_frames : about1.frames = Frame.invoking theMethod args0 :: below0 := rfl
set_option maxRecDepth 65536 in
theorem w_args : argsFit about1.vm theMethod args0 = true := by decide +kernel
set_option maxRecDepth 65536 in
theorem w_heap : heapFits about1 = true := by decide +kernel
set_option maxRecDepth 65536 in
theorem w_runnable : about1.curStatus? = some .runnable := by decide +kernel
set_option maxRecDepth 65536 in
theorem w_alone : about1.alone = true := by decide +kernel
set_option maxRecDepth 65536 in
theorem w_named : about1.methodNamed? x = some theMethod := by decide +kernel
set_option maxRecDepth 65536 in
theorem w_hears : about1.hears theMethod below0 = true := by decide +kernel
set_option maxRecDepth 65536 in
theorem w_ripe : about1.ripe theMethod args0 below0 = true := by decide +kernel
theorem w_running : about1.status = .running := rfl
set_option maxRecDepth 65536 in
theorem w_room : about1.hasRoom e0.platform room_1 = true :=
  launch0.hasRoom_least _ room_1 (by decide +kernel) (by decide +kernel) (by decide +kernel) (by decide +kernel) (by decide +kernel) (by decide +kernel)
theorem allAtoms_all (ts : List Jvm.Cond) (a : Array Jvm.Value) (st : Jvm.State) : (allAtoms ts).before a st = ts.all (fun c => c.before a st) := by
  induction ts with
  | nil => rfl
  | cons c t ih =>
    show (Jvm.Cond.and c (allAtoms t)).before a st = _
    rw [Jvm.Cond.before_and, ih, List.all_cons]
def words1 : List Jvm.Cond := Jvm.Cond.code x code maxLocals ret :: tables_1
/-- a 'code' word, met by the world's own term for the bytes: nothing is compared byte by byte -/
theorem code_word {y : MethodName} {bytes : ByteArray} {mx : Nat} {rt : Option FieldType} {a : Array Value} {s : State} {m : MethodId} {meth : Method} {c : Code} (h1 : s.methodNamed? y = some m) (h2 : s.vm.method? m = some meth) (h3 : meth.code = some c) (h4 : c.code = bytes)
    (h5 : (c.maxLocals == mx && c.exceptionTable.isEmpty && decide (c.maxStack ≤ mostOperands) && decide (meth.sig.returnType = rt) && !meth.locks && decide (parseMethodDescriptor y.desc = some meth.sig)) = true) : (Jvm.Cond.code y bytes mx rt).before a s = true := by
  simp only [Bool.and_eq_true, beq_iff_eq, Bool.not_eq_true', decide_eq_true_eq] at h5
  obtain ⟨⟨⟨⟨⟨g1, g2⟩, g3⟩, g4⟩, g5⟩, g6⟩ := h5
  simp [Cond.before, Cond.holds, Cond.value, h1, h2, h3, h4, g1, g2, g3, g4, g5, g6]
def isCode : Jvm.Cond → Bool
  | .code _ _ _ _ => true
  | _ => false
theorem all_split {L : List Jvm.Cond} {P : Jvm.Cond → Bool} (h1 : L.all (fun c => isCode c || P c) = true) (h2 : ∀ c ∈ L.filter isCode, P c = true) : L.all P = true := by
  refine List.all_eq_true.mpr fun c hc => ?_
  have h := List.all_eq_true.mp h1 c hc
  rcases Bool.eq_false_or_eq_true (isCode c) with hi | hi
  · exact h2 c (List.mem_filter.mpr ⟨hc, hi⟩)
  · simpa [hi] using h
set_option maxRecDepth 65536 in
theorem w_c0 : (Jvm.Cond.code x code maxLocals ret).before args0 about1 = true := code_word (m := ⟨1, 2⟩) (meth := k1m2) (c := k1c2) (by decide +kernel) rfl rfl rfl (by decide +kernel)
set_option maxRecDepth 65536 in
theorem w_c1 : (Jvm.Cond.code ({ cls := "com/example/integrum/integrum/MultipartTreeHash", name := "isPartSize", desc := "(J)Z" } : Jvm.MethodName) prog_18_method_2_code (2 : Nat) (Option.some Jvm.ClassFile.FieldType.boolean)).before args0 about1 = true := code_word (m := ⟨2, 0⟩) (meth := k2m0) (c := k2c0) (by decide +kernel) rfl rfl rfl (by decide +kernel)
set_option maxRecDepth 65536 in
theorem w_c2 : (Jvm.Cond.code ({ cls := "com/example/integrum/integrum/MultipartTreeHashIsPartSizePinLaw", name := "allowed", desc := "(J)Z" } : Jvm.MethodName) method_2_code (2 : Nat) (Option.some Jvm.ClassFile.FieldType.boolean)).before args0 about1 = true := code_word (m := ⟨1, 1⟩) (meth := k1m1) (c := k1c1) (by decide +kernel) rfl rfl rfl (by decide +kernel)
def codes1 : List Jvm.Cond := [Jvm.Cond.code x code maxLocals ret, Jvm.Cond.code ({ cls := "com/example/integrum/integrum/MultipartTreeHash", name := "isPartSize", desc := "(J)Z" } : Jvm.MethodName) prog_18_method_2_code (2 : Nat) (Option.some Jvm.ClassFile.FieldType.boolean), Jvm.Cond.code ({ cls := "com/example/integrum/integrum/MultipartTreeHashIsPartSizePinLaw", name := "allowed", desc := "(J)Z" } : Jvm.MethodName) method_2_code (2 : Nat) (Option.some Jvm.ClassFile.FieldType.boolean)]
set_option maxRecDepth 65536 in
theorem codes_eq : words1.filter isCode = codes1 := rfl
theorem w_codes : ∀ c ∈ words1.filter isCode, c.before args0 about1 = true := by
  rw [codes_eq]
  intro c hc
  simp only [codes1, List.mem_cons, List.not_mem_nil, or_false] at hc
  rcases hc with rfl | rfl | rfl
  · exact w_c0
  · exact w_c1
  · exact w_c2
set_option maxRecDepth 65536 in
theorem w_t1 : words1.all (fun c => isCode c || c.before args0 about1) = true := by decide +kernel
theorem w_tables : (allAtoms (Jvm.Cond.code x code maxLocals ret :: tables_1)).before args0 about1 = true := by
  rw [allAtoms_all]
  show words1.all (fun c => c.before args0 about1) = true
  refine all_split ?_ w_codes
  rw [w_t1]
set_option maxRecDepth 65536 in
theorem w_case : (Jvm.Cond.and given_1 narrow_1).before args0 about1 = true := by decide +kernel
theorem w_applies : (headSpec (Jvm.Cond.code x code maxLocals ret :: tables_1) room_1).applies x e0.platform about1 = true :=
  (Spec.applies_iff w_frames).mpr ⟨w_running, w_runnable, w_alone, w_named, w_hears, w_ripe, w_room, w_tables⟩
theorem atStart : AtStart classFile x code maxLocals ret World_1 tables_1 room_1 Calls_1 rest_1 Pre_1 launch0 p0 e0 about1 theMethod args0 below0 :=
  ⟨lists_1, trivial, launch0.admits_env _ _ _, launch0.least_env, fairChoices_fair.cas, fairChoices_fair.clock, w_frames, w_args, w_heap, w_applies, trivial, trivial, w_case⟩
end start1
theorem witness_1 : WitnessClaimed_1 := ⟨start1.p0, start1.e0, start1.about1, start1.theMethod, start1.args0, start1.below0, start1.atStart⟩
end Jvm.Pilot.@@N@@
