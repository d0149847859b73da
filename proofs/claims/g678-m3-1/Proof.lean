import JvmDerived
import JvmDerived.Pilot.@@N@@Statement
import JvmDerived.Pilot.@@N@@Code
set_option linter.unusedVariables false
set_option linter.unusedSimpArgs false
set_option maxRecDepth 65536
set_option maxHeartbeats 40000000
namespace Jvm.Pilot.@@N@@
open Jvm Jvm.ClassFile Sem Op Lib Jvm.Free Jvm.Stand Jvm.LawKit Jvm.RoadKit Bundle Jvm.Pilot.@@N@@.Jvm.D
theorem wk {Z : State} {a0 : Array Value} {d : Jvm.Cond} (hw : ∀ d ∈ tables_1, d.before a0 Z = true) (i : Nat) (h : tables_1[i]? = some d) : d.before a0 Z = true := hw _ (List.mem_of_getElem? h)
/-! a thin layer of one form a step, over the library's road laws -/
def MetN (l : Launch) (Z : State) (y : MethodName) (bytes : ByteArray) (maxL : Nat) (ret : Option FieldType) (rm : Room) (ws : List Jvm.Cond) (as' : Array Value) (h : Heap) (Q : Option Value → Heap → List Loc → Prop) : Prop :=
  MetFree l y (head1 (Jvm.Cond.code y bytes maxL ret :: ws) rm) (fun a U => a = as' ∧ Z.Warmed39 U.vm ∧ U.heap = h) (fun _ _ _ _ _ => True) (fun _ U o U' => ∃ v L, o = .returned v ∧ Q v U'.heap L ∧ FrameEnd U o U' L rm.cells rm.slots)
def Win (p : Program) (e : Env) (below : List Frame) (s : State) (rm : Room) (Q : Option Value → Heap → List Loc → Prop) (st : State) : Prop :=
  ∃ s₂ o, Steps p.tables e below st s₂ ∧ s₂.status = .running ∧ Ended s₂ below o ∧ ∃ v L, o = .returned v ∧ Q v s₂.heap L ∧ FrameEnd s o s₂ L rm.cells rm.slots
section Own
variable {p : Program} {l : Launch} {e : Env} {R rm : Room} {s : State} {m : MethodId} {args : Array Value} {below : List Frame} {meth : Method} {c : Code} {T : State} {locs : List Loc} {cells slots : Nat} {Z : State} {a0 : Array Value} {h : Heap} {Q : Option Value → Heap → List Loc → Prop}
theorem Win.to {A : State} (T : State) (g : JFrame) (k : ∀ t, Steps p.tables e below (T.setTop g) t → Steps p.tables e below A t) (w : Win p e below s rm Q (T.setTop g)) : Win p e below s rm Q A := by
  obtain ⟨s₂, o, h1, r⟩ := w
  exact ⟨s₂, o, k _ h1, r⟩
theorem Win.out (X : Stand p l e R s m args below meth c T locs cells slots) {A : State} {v : Option Value} (hlk : meth.locks = false) (hv : meth.sig.returnType = none → v = none)
    (hst : ∀ fs, (∀ (f : JFrame) (acts : List Action), f.method = m → f.locked = none → f.entered = [] → (doReturn e (T.setTop f) acts v).1 = T.setFrames fs) → Steps p.tables e below A (T.setFrames fs))
    (hc : cells ≤ rm.cells) (hs : slots ≤ rm.slots) (hq : Q v T.heap locs) : Win p e below s rm Q A := by
  obtain ⟨fs, hr, hrun, hended, hW, hsame⟩ := X.leave (v := v) hv
  exact ⟨_, _, hst fs hr, hrun, hended, _, _, rfl, hq, ⟨_, rfl⟩, hW, hsame.mono hc hs⟩
theorem Win.retN (X : Stand p l e R s m args below meth c T locs cells slots) (hx : p.tables.exec = Jvm.exec) (hlk : meth.locks = false) {pc : Nat} {Ls : Array Slot} {z z' : Int32} {t : FieldType} {rest : List Value} (hret : meth.sig.returnType = some t) (ht : t = .boolean ∨ t = .byte ∨ t = .char ∨ t = .short) (hz : nar t z = z')
    (hd : decode c.code pc = .ok (.ireturn, 1)) (hc : cells ≤ rm.cells) (hs : slots ≤ rm.slots) (hq : Q (some (.int z')) T.heap locs) : Win p e below s rm Q (T.setTop (mkF m pc Ls (.int z :: rest))) := by
  subst hz
  exact Win.out X (v := some (.int (nar t z))) hlk (fun q => by rw [hret] at q; cases q) (fun fs hr => Jvm.RoadKit.retN X hx (t := t) hret ht hd hr) hc hs hq
theorem Win.retI (X : Stand p l e R s m args below meth c T locs cells slots) (hx : p.tables.exec = Jvm.exec) (hlk : meth.locks = false) {pc : Nat} {Ls : Array Slot} {z : Int32} {rest : List Value} (hret : meth.sig.returnType = some .int)
    (hd : decode c.code pc = .ok (.ireturn, 1)) (hc : cells ≤ rm.cells) (hs : slots ≤ rm.slots) (hq : Q (some (.int z)) T.heap locs) : Win p e below s rm Q (T.setTop (mkF m pc Ls (.int z :: rest))) :=
  Win.out X (v := some (.int z)) hlk (fun q => by rw [hret] at q; cases q) (fun fs hr => retOut X hx hret rfl (Or.inl ⟨rfl, Or.inl rfl, z, rfl⟩) hd hr) hc hs hq
theorem Win.retJ (X : Stand p l e R s m args below meth c T locs cells slots) (hx : p.tables.exec = Jvm.exec) (hlk : meth.locks = false) {pc : Nat} {Ls : Array Slot} {z : Int64} {rest : List Value} (hret : meth.sig.returnType = some .long)
    (hd : decode c.code pc = .ok (.lreturn, 1)) (hc : cells ≤ rm.cells) (hs : slots ≤ rm.slots) (hq : Q (some (.long z)) T.heap locs) : Win p e below s rm Q (T.setTop (mkF m pc Ls (.long z :: rest))) :=
  Win.out X (v := some (.long z)) hlk (fun q => by rw [hret] at q; cases q) (fun fs hr => retOut X hx hret rfl (Or.inr (Or.inl ⟨rfl, rfl, z, rfl⟩)) hd hr) hc hs hq
theorem Win.retD (X : Stand p l e R s m args below meth c T locs cells slots) (hx : p.tables.exec = Jvm.exec) (hlk : meth.locks = false) {pc : Nat} {Ls : Array Slot} {z : UInt64} {rest : List Value} (hret : meth.sig.returnType = some .double)
    (hd : decode c.code pc = .ok (.dreturn, 1)) (hc : cells ≤ rm.cells) (hs : slots ≤ rm.slots) (hq : Q (some (.double z)) T.heap locs) : Win p e below s rm Q (T.setTop (mkF m pc Ls (.double z :: rest))) :=
  Win.out X (v := some (.double z)) hlk (fun q => by rw [hret] at q; cases q) (fun fs hr => retOut X hx hret rfl (Or.inr (Or.inr (Or.inl ⟨rfl, rfl, z, rfl⟩))) hd hr) hc hs hq
theorem Win.retA (X : Stand p l e R s m args below meth c T locs cells slots) (hx : p.tables.exec = Jvm.exec) (hlk : meth.locks = false) {pc : Nat} {Ls : Array Slot} {w : Value} {t : FieldType} {rest : List Value} (hret : meth.sig.returnType = some t) (ht : t.isReference = true) (hw : w.isRef = true)
    (hd : decode c.code pc = .ok (.areturn, 1)) (hc : cells ≤ rm.cells) (hs : slots ≤ rm.slots) (hq : Q (some w) T.heap locs) : Win p e below s rm Q (T.setTop (mkF m pc Ls (w :: rest))) :=
  Win.out X (v := some w) hlk (fun q => by rw [hret] at q; cases q) (fun fs hr => retOut X hx hret (by rcases ref_cases hw with rfl | ⟨_, rfl⟩ <;> cases t <;> first | rfl | cases ht) (Or.inr (Or.inr (Or.inr (Or.inr ⟨rfl, ht, hw⟩)))) hd hr) hc hs hq
theorem Win.retV (X : Stand p l e R s m args below meth c T locs cells slots) (hx : p.tables.exec = Jvm.exec) (hlk : meth.locks = false) {pc : Nat} {Ls : Array Slot} (hret : meth.sig.returnType = none)
    (hd : decode c.code pc = .ok (.return_, 1)) (hc : cells ≤ rm.cells) (hs : slots ≤ rm.slots) (hq : Q none T.heap locs) : Win p e below s rm Q (T.setTop (mkF m pc Ls [])) :=
  Win.out X (v := none) hlk (fun _ => rfl) (fun fs hr => X.returnOut hx hret hd hr) hc hs hq
theorem MetN.walk {y : MethodName} {bytes : ByteArray} {maxL : Nat} {ret : Option FieldType} {ws : List Jvm.Cond} {as' : Array Value} (hp : plainFor y = true)
    (b : ∀ (p : Program) (e : Env) (s : State) (m : MethodId) (below : List Frame) (meth : Method) (c : Code) (s₁ : State), p.tables.exec = Jvm.exec → Z.Warmed39 s.vm → c.code = bytes → c.maxLocals = maxL → s.vm.findClass y.cls = some m.cls → meth.name = y.name → meth.sig.returnType = ret → meth.locks = false →
      Stand p l e rm s m as' below meth c s₁ [] 0 0 → s₁.heap = h → Win p e below s rm Q (s₁.setTop (entryFrame m as' maxL))) : MetN l Z y bytes maxL ret rm ws as' h Q := by
  refine MetFree.of_bodySF hp hisR ?_
  intro p e s m args below meth c s₁ Bd hml0 hP hK
  obtain ⟨rfl, hZ, hh⟩ := hP
  exact b p e s m below meth c s₁ Bd.exec hZ Bd.bytes hml0 (findClass_of_methodNamed Bd.named) (name_of_methodNamed Bd.named Bd.method).1 Bd.returns Bd.notSynchronized (Stand.of_body Bd) (by rw [← hh, Bd.state]; rfl)
theorem N.static (X : Stand p l e R s m args below meth c T locs cells slots) (hx : p.tables.exec = Jvm.exec) (hZ : Z.Warmed39 s.vm) {own : String} {index : Nat} {y : MethodName} {bytes : ByteArray} {maxL : Nat} {ret : Option FieldType} {as' : Array Value}
    (hown : s.vm.findClass own = some m.cls) (w1 : (Jvm.Cond.methodLink own index y).before a0 Z = true) (w2 : (Jvm.Cond.static y).before a0 Z = true) (w3 : (Jvm.Cond.initialized y.cls).before a0 Z = true) (w4 : (Jvm.Cond.code y bytes maxL ret).before a0 Z = true)
    (hy : y.cls ≠ "java/lang/invoke/MethodHandle" ∧ y.cls ≠ "java/lang/invoke/VarHandle") (M : MetN l Z y bytes maxL ret rm [] as' h Q) (eT : T.heap = h) {g : JFrame} (hg : g.method = m) (hsize : g.locals.size = c.maxLocals) {argsL rest : List Value} (has : argsL.toArray = as')
    (hlen : ∀ sig, parseMethodDescriptor y.desc = some sig → argsL.length = sig.parameters.length) (hstack : g.stack = argsL.reverse ++ rest) {W : Nat} (hW : 2 * g.monitorRoom + (rest.map fun v => v.category).sum ≤ W) (hd : decode c.code g.pc = .ok (.invokestatic index, 3))
    (hf : rm.frames + 1 ≤ R.frames) (hl : W + (maxL + 11) + rm.locals ≤ R.locals) (hc : cells + rm.cells ≤ R.cells) (hs : slots + rm.slots ≤ R.slots) :
    ∃ (T' : State) (h' : Heap) (v : Option Value) (L : List Loc), Stand p l e R s m args below meth c T' (locs ++ L) (cells + rm.cells) (slots + rm.slots) ∧ T'.heap = h' ∧ Q v h' L ∧ ∀ t, Steps p.tables e below (T'.setTop { g with pc := g.pc + 3, stack := v.toList ++ rest }) t → Steps p.tables e below (T.setTop g) t := by
  obtain ⟨v, _, ⟨T', L', k', n'⟩, -, X', ⟨Lc, hQ, l', y', z'⟩, st⟩ := Jvm.LawKit.callS X hx hown (mvT hZ w1) (mvT hZ w2) (mvT hZ w3) (mvT hZ w4) hy (backOf (W := W) M hZ w4 w3 hf hl) hg hsize hlen hstack hW hd (fun _ _ => ⟨has, eT, hc, hs⟩)
  dsimp only [Pt.U, Pt.locs, Pt.cells, Pt.slots] at X' l' y' z' st hQ
  subst l' y' z'
  exact ⟨T', _, v, Lc, X', rfl, hQ, st⟩
theorem N.special (X : Stand p l e R s m args below meth c T locs cells slots) (hx : p.tables.exec = Jvm.exec) (hZ : Z.Warmed39 s.vm) {own : String} {index : Nat} {y : MethodName} {bytes : ByteArray} {maxL : Nat} {as' : Array Value} (hy1 : y.name = "<init>")
    (hown : s.vm.findClass own = some m.cls) (w1 : (Jvm.Cond.methodLink own index y).before a0 Z = true) (w2 : (Jvm.Cond.instanceMethod y).before a0 Z = true) (w3 : (Jvm.Cond.initialized y.cls).before a0 Z = true) (w4 : (Jvm.Cond.code y bytes maxL none).before a0 Z = true)
    (hy : y.cls ≠ "java/lang/invoke/MethodHandle" ∧ y.cls ≠ "java/lang/invoke/VarHandle") (M : MetN l Z y bytes maxL none rm [] as' h Q) (eT : T.heap = h) {g : JFrame} (hg : g.method = m) (hsize : g.locals.size = c.maxLocals) {a : Addr} {argsL rest : List Value} (has : (Value.ref a :: argsL).toArray = as')
    (hlen : ∀ sig, parseMethodDescriptor y.desc = some sig → argsL.length = sig.parameters.length) (hstack : g.stack = argsL.reverse ++ .ref a :: rest) {W : Nat} (hW : 2 * g.monitorRoom + (rest.map fun v => v.category).sum ≤ W) (hd : decode c.code g.pc = .ok (.invokespecial index, 3))
    (hf : rm.frames + 1 ≤ R.frames) (hl : W + (maxL + 11) + rm.locals ≤ R.locals) (hc : cells + rm.cells ≤ R.cells) (hs : slots + rm.slots ≤ R.slots) :
    ∃ (T' : State) (h' : Heap) (v : Option Value) (L : List Loc), Stand p l e R s m args below meth c T' (locs ++ L) (cells + rm.cells) (slots + rm.slots) ∧ T'.heap = h' ∧ Q v h' L ∧ ∀ t, Steps p.tables e below (T'.setTop { g with pc := g.pc + 3, stack := v.toList ++ rest }) t → Steps p.tables e below (T.setTop g) t := by
  obtain ⟨v, _, ⟨T', L', k', n'⟩, -, X', ⟨Lc, hQ, l', y', z'⟩, st⟩ := X.specialBack hx hy1 hown (mvT hZ w1) (mvT hZ w2) (mvT hZ w4) hy (backOf (W := W) M hZ w4 w3 hf hl) hg hsize (Steps.refl _) (a := a) hlen hstack hW hd (fun _ _ => ⟨has, eT, hc, hs⟩)
  dsimp only [Pt.U, Pt.locs, Pt.cells, Pt.slots] at X' l' y' z' st hQ
  subst l' y' z'
  exact ⟨T', _, v, Lc, X', rfl, hQ, fun t k => st.trans k⟩
theorem N.virtual (X : Stand p l e R s m args below meth c T locs cells slots) (hx : p.tables.exec = Jvm.exec) (hZ : Z.Warmed39 s.vm) {own C : String} {index : Nat} {y z : MethodName} {bytes : ByteArray} {maxL : Nat} {ret : Option FieldType} {as' : Array Value}
    (hown : s.vm.findClass own = some m.cls) (w1 : (Jvm.Cond.methodLink own index y).before a0 Z = true) (w5 : (Jvm.Cond.declares y).before a0 Z = true) (nf : NotFace s y) (w6 : (Jvm.Cond.selects C y z).before a0 Z = true) (w2 : (Jvm.Cond.instanceMethod z).before a0 Z = true) (w3 : (Jvm.Cond.initialized z.cls).before a0 Z = true) (w4 : (Jvm.Cond.code z bytes maxL ret).before a0 Z = true)
    (hy : y.cls ≠ "java/lang/invoke/MethodHandle" ∧ y.cls ≠ "java/lang/invoke/VarHandle") (M : MetN l Z z bytes maxL ret rm [] as' h Q) (eT : T.heap = h) {a : Addr} (E : Exa Z h a C) {g : JFrame} (hg : g.method = m) (hsize : g.locals.size = c.maxLocals) {argsL rest : List Value} (has : (Value.ref a :: argsL).toArray = as')
    (hlen : ∀ sig, parseMethodDescriptor y.desc = some sig → argsL.length = sig.parameters.length) (hstack : g.stack = argsL.reverse ++ .ref a :: rest) {W : Nat} (hW : 2 * g.monitorRoom + (rest.map fun v => v.category).sum ≤ W) (hd : decode c.code g.pc = .ok (.invokevirtual index, 3))
    (hf : rm.frames + 1 ≤ R.frames) (hl : W + (maxL + 11) + rm.locals ≤ R.locals) (hc : cells + rm.cells ≤ R.cells) (hs : slots + rm.slots ≤ R.slots) :
    ∃ (T' : State) (h' : Heap) (v : Option Value) (L : List Loc), Stand p l e R s m args below meth c T' (locs ++ L) (cells + rm.cells) (slots + rm.slots) ∧ T'.heap = h' ∧ Q v h' L ∧ ∀ t, Steps p.tables e below (T'.setTop { g with pc := g.pc + 3, stack := v.toList ++ rest }) t → Steps p.tables e below (T.setTop g) t := by
  obtain ⟨cq, kq, qa, qb, qc⟩ := isOf hZ eT E
  obtain ⟨v, _, ⟨T', L', k', n'⟩, -, X', ⟨Lc, hQ, l', y', z'⟩, st⟩ := X.virtualBack hx (y := y) (z := z) hown (mvT hZ w1) (mvT hZ w5) nf (mvT hZ w6) (mvT hZ w2) hy (backOf (W := W) M hZ w4 w3 hf hl) qa qc hg hsize (Steps.refl _) (argsL := argsL) hlen hstack hW hd (fun _ _ => ⟨has, eT, hc, hs⟩)
  dsimp only [Pt.U, Pt.locs, Pt.cells, Pt.slots] at X' l' y' z' st hQ
  subst l' y' z'
  exact ⟨T', _, v, Lc, X', rfl, hQ, fun t k => st.trans k⟩
theorem N.private (X : Stand p l e R s m args below meth c T locs cells slots) (hx : p.tables.exec = Jvm.exec) (hZ : Z.Warmed39 s.vm) {own C : String} {index : Nat} {y : MethodName} {bytes : ByteArray} {maxL : Nat} {ret : Option FieldType} {as' : Array Value}
    (hown : s.vm.findClass own = some m.cls) (w1 : (Jvm.Cond.methodLink own index y).before a0 Z = true) (w2 : (Jvm.Cond.instanceMethod y).before a0 Z = true) (w6 : (Jvm.Cond.selects y.cls y y).before a0 Z = true) (w5 : (Jvm.Cond.privateMethod y).before a0 Z = true) (w3 : (Jvm.Cond.initialized y.cls).before a0 Z = true) (w4 : (Jvm.Cond.code y bytes maxL ret).before a0 Z = true)
    (hy : y.cls ≠ "java/lang/invoke/MethodHandle" ∧ y.cls ≠ "java/lang/invoke/VarHandle") (M : MetN l Z y bytes maxL ret rm [] as' h Q) (eT : T.heap = h) {a : Addr} (E : Exa Z h a C) {g : JFrame} (hg : g.method = m) (hsize : g.locals.size = c.maxLocals) {argsL rest : List Value} (has : (Value.ref a :: argsL).toArray = as')
    (hlen : ∀ sig, parseMethodDescriptor y.desc = some sig → argsL.length = sig.parameters.length) (hstack : g.stack = argsL.reverse ++ .ref a :: rest) {W : Nat} (hW : 2 * g.monitorRoom + (rest.map fun v => v.category).sum ≤ W) (hd : decode c.code g.pc = .ok (.invokevirtual index, 3))
    (hf : rm.frames + 1 ≤ R.frames) (hl : W + (maxL + 11) + rm.locals ≤ R.locals) (hc : cells + rm.cells ≤ R.cells) (hs : slots + rm.slots ≤ R.slots) :
    ∃ (T' : State) (h' : Heap) (v : Option Value) (L : List Loc), Stand p l e R s m args below meth c T' (locs ++ L) (cells + rm.cells) (slots + rm.slots) ∧ T'.heap = h' ∧ Q v h' L ∧ ∀ t, Steps p.tables e below (T'.setTop { g with pc := g.pc + 3, stack := v.toList ++ rest }) t → Steps p.tables e below (T.setTop g) t := by
  obtain ⟨cq, kq, qa, qb, cell, qc, -, qd⟩ := isOf hZ eT E
  obtain ⟨v, _, ⟨T', L', k', n'⟩, -, X', ⟨Lc, hQ, l', y', z'⟩, st⟩ := X.privateBack hx (y := y) hown (mvT hZ w1) (mvT hZ w2) (mvT hZ w6) (Cond.privateMethod_at (args := #[]) (mvT hZ w5)) (mvT hZ w4) hy (backOf (W := W) M hZ w4 w3 hf hl) hg hsize (Steps.refl _) qc (fun q z => by rw [z] at qd; cases qd) (argsL := argsL) hlen hstack hW hd (fun _ _ => ⟨has, eT, hc, hs⟩)
  dsimp only [Pt.U, Pt.locs, Pt.cells, Pt.slots] at X' l' y' z' st hQ
  subst l' y' z'
  exact ⟨T', _, v, Lc, X', rfl, hQ, fun t k => st.trans k⟩
theorem N.iface (X : Stand p l e R s m args below meth c T locs cells slots) (hx : p.tables.exec = Jvm.exec) (hZ : Z.Warmed39 s.vm) {own C : String} {index count : Nat} {y z : MethodName} {bytes : ByteArray} {maxL : Nat} {ret : Option FieldType} {as' : Array Value}
    (hown : s.vm.findClass own = some m.cls) (w1 : (Jvm.Cond.methodLink own index y).before a0 Z = true) (w5 : (Jvm.Cond.declares y).before a0 Z = true) (w6 : (Jvm.Cond.selects C y z).before a0 Z = true) (w7 : (Jvm.Cond.interfaceMethod y.cls y.cls y.name y.desc).before args s = true) (w8 : (Jvm.Cond.publicMethod z).before a0 Z = true) (w9 : (Jvm.Cond.unhidden C y.name y.desc).before a0 Z = true) (w10 : (Jvm.Cond.castable C y.cls).before a0 Z = true) (w2 : (Jvm.Cond.instanceMethod z).before a0 Z = true) (w3 : (Jvm.Cond.initialized z.cls).before a0 Z = true) (w4 : (Jvm.Cond.code z bytes maxL ret).before a0 Z = true)
    (hy : y.cls ≠ "java/lang/invoke/MethodHandle" ∧ y.cls ≠ "java/lang/invoke/VarHandle") (M : MetN l Z z bytes maxL ret rm [] as' h Q) (eT : T.heap = h) {a : Addr} (E : Exa Z h a C) {g : JFrame} (hg : g.method = m) (hsize : g.locals.size = c.maxLocals) {argsL rest : List Value} (has : (Value.ref a :: argsL).toArray = as')
    (hlen : ∀ sig, parseMethodDescriptor y.desc = some sig → argsL.length = sig.parameters.length) (hstack : g.stack = argsL.reverse ++ .ref a :: rest) {W : Nat} (hW : 2 * g.monitorRoom + (rest.map fun v => v.category).sum ≤ W) (hd : decode c.code g.pc = .ok (.invokeinterface index count, 5))
    (hf : rm.frames + 1 ≤ R.frames) (hl : W + (maxL + 11) + rm.locals ≤ R.locals) (hc : cells + rm.cells ≤ R.cells) (hs : slots + rm.slots ≤ R.slots) :
    ∃ (T' : State) (h' : Heap) (v : Option Value) (L : List Loc), Stand p l e R s m args below meth c T' (locs ++ L) (cells + rm.cells) (slots + rm.slots) ∧ T'.heap = h' ∧ Q v h' L ∧ ∀ t, Steps p.tables e below (T'.setTop { g with pc := g.pc + 5, stack := v.toList ++ rest }) t → Steps p.tables e below (T.setTop g) t := by
  obtain ⟨cq, kq, qa, qb, qc⟩ := isOf hZ eT E
  obtain ⟨v, _, ⟨T', L', k', n'⟩, -, X', ⟨Lc, hQ, l', y', z'⟩, st⟩ := X.interfaceBack hx (xi := y) (y := z) hown (mvT hZ w1) (mvT hZ w5) w7 (mvT hZ w6) (mvT hZ w2) (mvT hZ w8) (mvT hZ w9) (mvT hZ w10) hy (backOf (W := W) M hZ w4 w3 hf hl) qa qb qc hg hsize (Steps.refl _) (argsL := argsL) hlen hstack hW hd (fun _ _ => ⟨has, eT, hc, hs⟩)
  dsimp only [Pt.U, Pt.locs, Pt.cells, Pt.slots] at X' l' y' z' st hQ
  subst l' y' z'
  exact ⟨T', _, v, Lc, X', rfl, hQ, fun t k => st.trans k⟩
theorem own_cat {v : Value} (q : v.isRef = true) : v.category = 1 := by rcases ref_cases q with rfl | ⟨_, rfl⟩ <;> rfl
theorem own_eqi {a b : Int32} (q : a = b) : (some (Value.int b) : Option Value) = some (Value.int a) := by rw [q]
theorem own_le {n0 : Nat} (X : Old Z n0 h) : n0 ≤ h.size := X.1 ▸ X.2.1
end Own
section OwnA
variable {p : Program} {l : Launch} {e : Env} {R rm R0 : Room} {s : State} {m : MethodId} {args : Array Value} {below : List Frame} {meth : Method} {c : Code} {T Z : State} {locs : List Loc} {cells slots : Nat} {a0 : Array Value} {h : Heap} {Q Q0 : Option Value → Heap → List Loc → Prop}
theorem W.iload (X : Stand p l e R s m args below meth c T locs cells slots) (hx : p.tables.exec = Jvm.exec) {pc : Nat} {Ls : Array Slot} {st : List Value} {k : Nat} {v : Int32} (hd : decode c.code pc = .ok (.iload k, 2)) (hl : Ls[k]? = some (.val (.int v))) (w : Win p e below s R0 Q0 (T.setTop (mkF m (pc + 2) Ls (.int v :: st)))) : Win p e below s R0 Q0 (T.setTop (mkF m pc Ls st)) := Win.to T _ (fun _ k => XS.iload X.here hx rfl hd hl k) w
theorem W.iloadN (X : Stand p l e R s m args below meth c T locs cells slots) (hx : p.tables.exec = Jvm.exec) {pc : Nat} {Ls : Array Slot} {st : List Value} {k : Fin 4} {v : Int32} (hd : decode c.code pc = .ok (.iload_n k, 1)) (hl : Ls[k.val]? = some (.val (.int v))) (w : Win p e below s R0 Q0 (T.setTop (mkF m (pc + 1) Ls (.int v :: st)))) : Win p e below s R0 Q0 (T.setTop (mkF m pc Ls st)) := Win.to T _ (fun _ k => XS.iloadN X.here hx rfl hd hl k) w
theorem W.lload (X : Stand p l e R s m args below meth c T locs cells slots) (hx : p.tables.exec = Jvm.exec) {pc : Nat} {Ls : Array Slot} {st : List Value} {k : Nat} {v : Int64} (hd : decode c.code pc = .ok (.lload k, 2)) (hl : Ls[k]? = some (.val (.long v))) (w : Win p e below s R0 Q0 (T.setTop (mkF m (pc + 2) Ls (.long v :: st)))) : Win p e below s R0 Q0 (T.setTop (mkF m pc Ls st)) := Win.to T _ (fun _ k => XS.lload X.here hx rfl hd hl k) w
theorem W.lloadN (X : Stand p l e R s m args below meth c T locs cells slots) (hx : p.tables.exec = Jvm.exec) {pc : Nat} {Ls : Array Slot} {st : List Value} {k : Fin 4} {v : Int64} (hd : decode c.code pc = .ok (.lload_n k, 1)) (hl : Ls[k.val]? = some (.val (.long v))) (w : Win p e below s R0 Q0 (T.setTop (mkF m (pc + 1) Ls (.long v :: st)))) : Win p e below s R0 Q0 (T.setTop (mkF m pc Ls st)) := Win.to T _ (fun _ k => XS.lloadN X.here hx rfl hd hl k) w
theorem W.aload (X : Stand p l e R s m args below meth c T locs cells slots) (hx : p.tables.exec = Jvm.exec) {pc : Nat} {Ls : Array Slot} {st : List Value} {k : Nat} {v : Value} (hd : decode c.code pc = .ok (.aload k, 2)) (hl : Ls[k]? = some (.val v)) (hv : v.isRef = true) (w : Win p e below s R0 Q0 (T.setTop (mkF m (pc + 2) Ls (v :: st)))) : Win p e below s R0 Q0 (T.setTop (mkF m pc Ls st)) := Win.to T _ (fun _ k => XS.aload X.here hx rfl hd hl hv k) w
theorem W.aloadN (X : Stand p l e R s m args below meth c T locs cells slots) (hx : p.tables.exec = Jvm.exec) {pc : Nat} {Ls : Array Slot} {st : List Value} {k : Fin 4} {v : Value} (hd : decode c.code pc = .ok (.aload_n k, 1)) (hl : Ls[k.val]? = some (.val v)) (hv : v.isRef = true) (w : Win p e below s R0 Q0 (T.setTop (mkF m (pc + 1) Ls (v :: st)))) : Win p e below s R0 Q0 (T.setTop (mkF m pc Ls st)) := Win.to T _ (fun _ k => XS.aloadN X.here hx rfl hd hl hv k) w
theorem W.istore (X : Stand p l e R s m args below meth c T locs cells slots) (hx : p.tables.exec = Jvm.exec) {pc : Nat} {Ls : Array Slot} {st : List Value} {k : Nat} {x : Int32} {l' : Array Slot} (hd : decode c.code pc = .ok (.istore k, 2)) (hl : storeLocals Ls k (.int x) = some l') (w : Win p e below s R0 Q0 (T.setTop (mkF m (pc + 2) l' st))) : Win p e below s R0 Q0 (T.setTop (mkF m pc Ls ((.int x) :: st))) := Win.to T _ (fun _ k => XS.istore X.here hx rfl hd rfl hl k) w
theorem W.istoreN (X : Stand p l e R s m args below meth c T locs cells slots) (hx : p.tables.exec = Jvm.exec) {pc : Nat} {Ls : Array Slot} {st : List Value} {k : Fin 4} {x : Int32} {l' : Array Slot} (hd : decode c.code pc = .ok (.istore_n k, 1)) (hl : storeLocals Ls k.val (.int x) = some l') (w : Win p e below s R0 Q0 (T.setTop (mkF m (pc + 1) l' st))) : Win p e below s R0 Q0 (T.setTop (mkF m pc Ls ((.int x) :: st))) := Win.to T _ (fun _ k => XS.istoreN X.here hx rfl hd rfl hl k) w
theorem W.lstore (X : Stand p l e R s m args below meth c T locs cells slots) (hx : p.tables.exec = Jvm.exec) {pc : Nat} {Ls : Array Slot} {st : List Value} {k : Nat} {x : Int64} {l' : Array Slot} (hd : decode c.code pc = .ok (.lstore k, 2)) (hl : storeLocals Ls k (.long x) = some l') (w : Win p e below s R0 Q0 (T.setTop (mkF m (pc + 2) l' st))) : Win p e below s R0 Q0 (T.setTop (mkF m pc Ls ((.long x) :: st))) := Win.to T _ (fun _ k => XS.lstore X.here hx rfl hd rfl hl k) w
theorem W.lstoreN (X : Stand p l e R s m args below meth c T locs cells slots) (hx : p.tables.exec = Jvm.exec) {pc : Nat} {Ls : Array Slot} {st : List Value} {k : Fin 4} {x : Int64} {l' : Array Slot} (hd : decode c.code pc = .ok (.lstore_n k, 1)) (hl : storeLocals Ls k.val (.long x) = some l') (w : Win p e below s R0 Q0 (T.setTop (mkF m (pc + 1) l' st))) : Win p e below s R0 Q0 (T.setTop (mkF m pc Ls ((.long x) :: st))) := Win.to T _ (fun _ k => XS.lstoreN X.here hx rfl hd rfl hl k) w
theorem W.astore (X : Stand p l e R s m args below meth c T locs cells slots) (hx : p.tables.exec = Jvm.exec) {pc : Nat} {Ls : Array Slot} {st : List Value} {k : Nat} {x : Value} {l' : Array Slot} (hd : decode c.code pc = .ok (.astore k, 2)) (hv : x.isRef = true) (hl : storeLocals Ls k x = some l') (w : Win p e below s R0 Q0 (T.setTop (mkF m (pc + 2) l' st))) : Win p e below s R0 Q0 (T.setTop (mkF m pc Ls (x :: st))) := Win.to T _ (fun _ k => XS.astore X.here hx rfl hd rfl hv hl k) w
theorem W.astoreN (X : Stand p l e R s m args below meth c T locs cells slots) (hx : p.tables.exec = Jvm.exec) {pc : Nat} {Ls : Array Slot} {st : List Value} {k : Fin 4} {x : Value} {l' : Array Slot} (hd : decode c.code pc = .ok (.astore_n k, 1)) (hv : x.isRef = true) (hl : storeLocals Ls k.val x = some l') (w : Win p e below s R0 Q0 (T.setTop (mkF m (pc + 1) l' st))) : Win p e below s R0 Q0 (T.setTop (mkF m pc Ls (x :: st))) := Win.to T _ (fun _ k => XS.astoreN X.here hx rfl hd rfl hv hl k) w
theorem W.iconst (X : Stand p l e R s m args below meth c T locs cells slots) (hx : p.tables.exec = Jvm.exec) {pc : Nat} {Ls : Array Slot} {st : List Value} {i : Int} (hd : decode c.code pc = .ok (.iconst i, 1)) {v : Int32} (hv : Int32.ofInt i = v) (w : Win p e below s R0 Q0 (T.setTop (mkF m (pc + 1) Ls (.int v :: st)))) : Win p e below s R0 Q0 (T.setTop (mkF m pc Ls st)) := by
  subst hv
  exact Win.to T _ (fun _ k => XS.iconst X.here hx rfl hd k) w
theorem W.bipush (X : Stand p l e R s m args below meth c T locs cells slots) (hx : p.tables.exec = Jvm.exec) {pc : Nat} {Ls : Array Slot} {st : List Value} {i : Int} (hd : decode c.code pc = .ok (.bipush i, 2)) {v : Int32} (hv : (Int8.ofInt i).toInt32 = v) (w : Win p e below s R0 Q0 (T.setTop (mkF m (pc + 2) Ls (.int v :: st)))) : Win p e below s R0 Q0 (T.setTop (mkF m pc Ls st)) := by
  subst hv
  exact Win.to T _ (fun _ k => XS.bipush X.here hx rfl hd k) w
theorem W.sipush (X : Stand p l e R s m args below meth c T locs cells slots) (hx : p.tables.exec = Jvm.exec) {pc : Nat} {Ls : Array Slot} {st : List Value} {i : Int} (hd : decode c.code pc = .ok (.sipush i, 3)) {v : Int32} (hv : (Int16.ofInt i).toInt32 = v) (w : Win p e below s R0 Q0 (T.setTop (mkF m (pc + 3) Ls (.int v :: st)))) : Win p e below s R0 Q0 (T.setTop (mkF m pc Ls st)) := by
  subst hv
  exact Win.to T _ (fun _ k => XS.sipush X.here hx rfl hd k) w
theorem W.aconstNull (X : Stand p l e R s m args below meth c T locs cells slots) (hx : p.tables.exec = Jvm.exec) {pc : Nat} {Ls : Array Slot} {st : List Value} (hd : decode c.code pc = .ok (.aconst_null, 1)) (w : Win p e below s R0 Q0 (T.setTop (mkF m (pc + 1) Ls (.null :: st)))) : Win p e below s R0 Q0 (T.setTop (mkF m pc Ls st)) := Win.to T _ (fun _ k => XS.aconstNull X.here hx rfl hd k) w
theorem W.iadd (X : Stand p l e R s m args below meth c T locs cells slots) (hx : p.tables.exec = Jvm.exec) {pc : Nat} {Ls : Array Slot} {st : List Value} {x y : Int32} (hd : decode c.code pc = .ok (.iadd, 1)) {v : Int32} (hv : x + y = v) (w : Win p e below s R0 Q0 (T.setTop (mkF m (pc + 1) Ls (.int v :: st)))) : Win p e below s R0 Q0 (T.setTop (mkF m pc Ls (.int y :: .int x :: st))) := by
  subst hv
  exact Win.to T _ (fun _ k => XS.iadd X.here hx rfl hd rfl k) w
theorem W.ladd (X : Stand p l e R s m args below meth c T locs cells slots) (hx : p.tables.exec = Jvm.exec) {pc : Nat} {Ls : Array Slot} {st : List Value} {x y : Int64} (hd : decode c.code pc = .ok (.ladd, 1)) {v : Int64} (hv : x + y = v) (w : Win p e below s R0 Q0 (T.setTop (mkF m (pc + 1) Ls (.long v :: st)))) : Win p e below s R0 Q0 (T.setTop (mkF m pc Ls (.long y :: .long x :: st))) := by
  subst hv
  exact Win.to T _ (fun _ k => XS.ladd X.here hx rfl hd rfl k) w
theorem W.isub (X : Stand p l e R s m args below meth c T locs cells slots) (hx : p.tables.exec = Jvm.exec) {pc : Nat} {Ls : Array Slot} {st : List Value} {x y : Int32} (hd : decode c.code pc = .ok (.isub, 1)) {v : Int32} (hv : x - y = v) (w : Win p e below s R0 Q0 (T.setTop (mkF m (pc + 1) Ls (.int v :: st)))) : Win p e below s R0 Q0 (T.setTop (mkF m pc Ls (.int y :: .int x :: st))) := by
  subst hv
  exact Win.to T _ (fun _ k => XS.isub X.here hx rfl hd rfl k) w
theorem W.lsub (X : Stand p l e R s m args below meth c T locs cells slots) (hx : p.tables.exec = Jvm.exec) {pc : Nat} {Ls : Array Slot} {st : List Value} {x y : Int64} (hd : decode c.code pc = .ok (.lsub, 1)) {v : Int64} (hv : x - y = v) (w : Win p e below s R0 Q0 (T.setTop (mkF m (pc + 1) Ls (.long v :: st)))) : Win p e below s R0 Q0 (T.setTop (mkF m pc Ls (.long y :: .long x :: st))) := by
  subst hv
  exact Win.to T _ (fun _ k => XS.lsub X.here hx rfl hd rfl k) w
theorem W.lmul (X : Stand p l e R s m args below meth c T locs cells slots) (hx : p.tables.exec = Jvm.exec) {pc : Nat} {Ls : Array Slot} {st : List Value} {x y : Int64} (hd : decode c.code pc = .ok (.lmul, 1)) {v : Int64} (hv : x * y = v) (w : Win p e below s R0 Q0 (T.setTop (mkF m (pc + 1) Ls (.long v :: st)))) : Win p e below s R0 Q0 (T.setTop (mkF m pc Ls (.long y :: .long x :: st))) := by
  subst hv
  exact Win.to T _ (fun _ k => XS.lmul X.here hx rfl hd rfl k) w
theorem W.iand (X : Stand p l e R s m args below meth c T locs cells slots) (hx : p.tables.exec = Jvm.exec) {pc : Nat} {Ls : Array Slot} {st : List Value} {x y : Int32} (hd : decode c.code pc = .ok (.iand, 1)) {v : Int32} (hv : x &&& y = v) (w : Win p e below s R0 Q0 (T.setTop (mkF m (pc + 1) Ls (.int v :: st)))) : Win p e below s R0 Q0 (T.setTop (mkF m pc Ls (.int y :: .int x :: st))) := by
  subst hv
  exact Win.to T _ (fun _ k => XS.iand X.here hx rfl hd rfl k) w
theorem W.land (X : Stand p l e R s m args below meth c T locs cells slots) (hx : p.tables.exec = Jvm.exec) {pc : Nat} {Ls : Array Slot} {st : List Value} {x y : Int64} (hd : decode c.code pc = .ok (.land, 1)) {v : Int64} (hv : x &&& y = v) (w : Win p e below s R0 Q0 (T.setTop (mkF m (pc + 1) Ls (.long v :: st)))) : Win p e below s R0 Q0 (T.setTop (mkF m pc Ls (.long y :: .long x :: st))) := by
  subst hv
  exact Win.to T _ (fun _ k => XS.land X.here hx rfl hd rfl k) w
theorem W.lor (X : Stand p l e R s m args below meth c T locs cells slots) (hx : p.tables.exec = Jvm.exec) {pc : Nat} {Ls : Array Slot} {st : List Value} {x y : Int64} (hd : decode c.code pc = .ok (.lor, 1)) {v : Int64} (hv : x ||| y = v) (w : Win p e below s R0 Q0 (T.setTop (mkF m (pc + 1) Ls (.long v :: st)))) : Win p e below s R0 Q0 (T.setTop (mkF m pc Ls (.long y :: .long x :: st))) := by
  subst hv
  exact Win.to T _ (fun _ k => XS.lor X.here hx rfl hd rfl k) w
theorem W.lxor (X : Stand p l e R s m args below meth c T locs cells slots) (hx : p.tables.exec = Jvm.exec) {pc : Nat} {Ls : Array Slot} {st : List Value} {x y : Int64} (hd : decode c.code pc = .ok (.lxor, 1)) {v : Int64} (hv : x ^^^ y = v) (w : Win p e below s R0 Q0 (T.setTop (mkF m (pc + 1) Ls (.long v :: st)))) : Win p e below s R0 Q0 (T.setTop (mkF m pc Ls (.long y :: .long x :: st))) := by
  subst hv
  exact Win.to T _ (fun _ k => XS.lxor X.here hx rfl hd rfl k) w
theorem W.i2l (X : Stand p l e R s m args below meth c T locs cells slots) (hx : p.tables.exec = Jvm.exec) {pc : Nat} {Ls : Array Slot} {st : List Value} {x : Int32} (hd : decode c.code pc = .ok (.i2l, 1)) {v : Int64} (hv : x.toInt64 = v) (w : Win p e below s R0 Q0 (T.setTop (mkF m (pc + 1) Ls (.long v :: st)))) : Win p e below s R0 Q0 (T.setTop (mkF m pc Ls (.int x :: st))) := by
  subst hv
  exact Win.to T _ (fun _ k => XS.i2l X.here hx rfl hd rfl k) w
theorem W.l2i (X : Stand p l e R s m args below meth c T locs cells slots) (hx : p.tables.exec = Jvm.exec) {pc : Nat} {Ls : Array Slot} {st : List Value} {x : Int64} (hd : decode c.code pc = .ok (.l2i, 1)) {v : Int32} (hv : x.toInt32 = v) (w : Win p e below s R0 Q0 (T.setTop (mkF m (pc + 1) Ls (.int v :: st)))) : Win p e below s R0 Q0 (T.setTop (mkF m pc Ls (.long x :: st))) := by
  subst hv
  exact Win.to T _ (fun _ k => XS.l2i X.here hx rfl hd rfl k) w
theorem W.lneg (X : Stand p l e R s m args below meth c T locs cells slots) (hx : p.tables.exec = Jvm.exec) {pc : Nat} {Ls : Array Slot} {st : List Value} {x : Int64} (hd : decode c.code pc = .ok (.lneg, 1)) {v : Int64} (hv : -x = v) (w : Win p e below s R0 Q0 (T.setTop (mkF m (pc + 1) Ls (.long v :: st)))) : Win p e below s R0 Q0 (T.setTop (mkF m pc Ls (.long x :: st))) := by
  subst hv
  exact Win.to T _ (fun _ k => XS.lneg X.here hx rfl hd rfl k) w
theorem W.ishl (X : Stand p l e R s m args below meth c T locs cells slots) (hx : p.tables.exec = Jvm.exec) {pc : Nat} {Ls : Array Slot} {st : List Value} {x : Int32} {y : Int32} (hd : decode c.code pc = .ok (.ishl, 1)) {v : Int32} (hv : (x <<< (y &&& 31)) = v) (w : Win p e below s R0 Q0 (T.setTop (mkF m (pc + 1) Ls (.int v :: st)))) : Win p e below s R0 Q0 (T.setTop (mkF m pc Ls (.int y :: .int x :: st))) := by
  subst hv
  exact Win.to T _ (fun _ k => XS.ishl X.here hx rfl hd rfl k) w
theorem W.iushr (X : Stand p l e R s m args below meth c T locs cells slots) (hx : p.tables.exec = Jvm.exec) {pc : Nat} {Ls : Array Slot} {st : List Value} {x : Int32} {y : Int32} (hd : decode c.code pc = .ok (.iushr, 1)) {v : Int32} (hv : ((x.toUInt32 >>> (y &&& 31).toUInt32).toInt32) = v) (w : Win p e below s R0 Q0 (T.setTop (mkF m (pc + 1) Ls (.int v :: st)))) : Win p e below s R0 Q0 (T.setTop (mkF m pc Ls (.int y :: .int x :: st))) := by
  subst hv
  exact Win.to T _ (fun _ k => XS.iushr X.here hx rfl hd rfl k) w
theorem W.lshl (X : Stand p l e R s m args below meth c T locs cells slots) (hx : p.tables.exec = Jvm.exec) {pc : Nat} {Ls : Array Slot} {st : List Value} {x : Int64} {y : Int32} (hd : decode c.code pc = .ok (.lshl, 1)) {v : Int64} (hv : (x <<< (y &&& 0x3f).toInt64) = v) (w : Win p e below s R0 Q0 (T.setTop (mkF m (pc + 1) Ls (.long v :: st)))) : Win p e below s R0 Q0 (T.setTop (mkF m pc Ls (.int y :: .long x :: st))) := by
  subst hv
  exact Win.to T _ (fun _ k => XS.lshl X.here hx rfl hd rfl k) w
theorem W.lushr (X : Stand p l e R s m args below meth c T locs cells slots) (hx : p.tables.exec = Jvm.exec) {pc : Nat} {Ls : Array Slot} {st : List Value} {x : Int64} {y : Int32} (hd : decode c.code pc = .ok (.lushr, 1)) {v : Int64} (hv : ((x.toUInt64 >>> (y &&& 0x3f).toInt64.toUInt64).toInt64) = v) (w : Win p e below s R0 Q0 (T.setTop (mkF m (pc + 1) Ls (.long v :: st)))) : Win p e below s R0 Q0 (T.setTop (mkF m pc Ls (.int y :: .long x :: st))) := by
  subst hv
  exact Win.to T _ (fun _ k => XS.lushr X.here hx rfl hd rfl k) w
theorem W.lcmp (X : Stand p l e R s m args below meth c T locs cells slots) (hx : p.tables.exec = Jvm.exec) {pc : Nat} {Ls : Array Slot} {st : List Value} {x y : Int64} (hd : decode c.code pc = .ok (.lcmp, 1)) {v : Int32} (hv : lcmpW x y = v) (w : Win p e below s R0 Q0 (T.setTop (mkF m (pc + 1) Ls (.int v :: st)))) : Win p e below s R0 Q0 (T.setTop (mkF m pc Ls (.long y :: .long x :: st))) := by
  subst hv
  exact Win.to T _ (fun _ k => XS.lcmp X.here hx rfl hd rfl k) w
theorem W.ldiv (X : Stand p l e R s m args below meth c T locs cells slots) (hx : p.tables.exec = Jvm.exec) {pc : Nat} {Ls : Array Slot} {st : List Value} {x y : Int64} (hd : decode c.code pc = .ok (.ldiv, 1)) (hn : ¬ y = 0) {v : Int64} (hv : x / y = v) (w : Win p e below s R0 Q0 (T.setTop (mkF m (pc + 1) Ls (.long v :: st)))) : Win p e below s R0 Q0 (T.setTop (mkF m pc Ls (.long y :: .long x :: st))) := by
  subst hv
  exact Win.to T _ (fun _ k => XS.ldiv X.here hx rfl hd rfl hn k) w
theorem W.dup (X : Stand p l e R s m args below meth c T locs cells slots) (hx : p.tables.exec = Jvm.exec) {pc : Nat} {Ls : Array Slot} {st : List Value} {x : Value} (hd : decode c.code pc = .ok (.dup, 1)) (hc : x.category = 1) (w : Win p e below s R0 Q0 (T.setTop (mkF m (pc + 1) Ls (x :: x :: st)))) : Win p e below s R0 Q0 (T.setTop (mkF m pc Ls (x :: st))) := Win.to T _ (fun _ k => XS.dup X.here hx rfl hd rfl hc k) w
theorem W.goto (X : Stand p l e R s m args below meth c T locs cells slots) (hx : p.tables.exec = Jvm.exec) {pc : Nat} {Ls : Array Slot} {st : List Value} {o : Int} {pc' : Nat} (hd : decode c.code pc = .ok (.goto o, 3)) (ho : 0 ≤ (pc : Int) + o) (hp : ((pc : Int) + o).toNat = pc') (w : Win p e below s R0 Q0 (T.setTop (mkF m pc' Ls st))) : Win p e below s R0 Q0 (T.setTop (mkF m pc Ls st)) := Win.to T _ (fun _ k => XS.goto X.here hx rfl (pc0 := pc) (pc' := pc') rfl hd ho hp k) w
theorem W.ifYes (X : Stand p l e R s m args below meth c T locs cells slots) (hx : p.tables.exec = Jvm.exec) {pc : Nat} {Ls : Array Slot} {st : List Value} {cd : ClassFile.Cond} {x : Int32} {o : Int} {pc' : Nat} (hd : decode c.code pc = .ok (.ifCond cd o, 3)) (hc : ifCond.holds cd x = true) (ho : 0 ≤ (pc : Int) + o) (hp : ((pc : Int) + o).toNat = pc') (w : Win p e below s R0 Q0 (T.setTop (mkF m pc' Ls st))) : Win p e below s R0 Q0 (T.setTop (mkF m pc Ls (.int x :: st))) := Win.to T _ (fun _ k => XS.ifYes X.here hx rfl (pc0 := pc) (pc' := pc') rfl hd rfl hc ho hp k) w
theorem W.ifNo (X : Stand p l e R s m args below meth c T locs cells slots) (hx : p.tables.exec = Jvm.exec) {pc : Nat} {Ls : Array Slot} {st : List Value} {cd : ClassFile.Cond} {x : Int32} {o : Int} (hd : decode c.code pc = .ok (.ifCond cd o, 3)) (hc : ifCond.holds cd x = false) (w : Win p e below s R0 Q0 (T.setTop (mkF m (pc + 3) Ls st))) : Win p e below s R0 Q0 (T.setTop (mkF m pc Ls (.int x :: st))) := Win.to T _ (fun _ k => XS.ifNo X.here hx rfl hd rfl hc k) w
theorem W.icmpYes (X : Stand p l e R s m args below meth c T locs cells slots) (hx : p.tables.exec = Jvm.exec) {pc : Nat} {Ls : Array Slot} {st : List Value} {cd : ClassFile.Cond} {x y : Int32} {o : Int} {pc' : Nat} (hd : decode c.code pc = .ok (.if_icmp cd o, 3)) (hc : if_icmp.holds cd x y = true) (ho : 0 ≤ (pc : Int) + o) (hp : ((pc : Int) + o).toNat = pc') (w : Win p e below s R0 Q0 (T.setTop (mkF m pc' Ls st))) : Win p e below s R0 Q0 (T.setTop (mkF m pc Ls (.int y :: .int x :: st))) := Win.to T _ (fun _ k => XS.icmpYes X.here hx rfl (pc0 := pc) (pc' := pc') rfl hd rfl hc ho hp k) w
theorem W.icmpNo (X : Stand p l e R s m args below meth c T locs cells slots) (hx : p.tables.exec = Jvm.exec) {pc : Nat} {Ls : Array Slot} {st : List Value} {cd : ClassFile.Cond} {x y : Int32} {o : Int} (hd : decode c.code pc = .ok (.if_icmp cd o, 3)) (hc : if_icmp.holds cd x y = false) (w : Win p e below s R0 Q0 (T.setTop (mkF m (pc + 3) Ls st))) : Win p e below s R0 Q0 (T.setTop (mkF m pc Ls (.int y :: .int x :: st))) := Win.to T _ (fun _ k => XS.icmpNo X.here hx rfl hd rfl hc k) w
theorem W.lconst (X : Stand p l e R s m args below meth c T locs cells slots) (hx : p.tables.exec = Jvm.exec) {pc : Nat} {Ls : Array Slot} {st : List Value} {k : Fin 2} (hd : decode c.code pc = .ok (.lconst k, 1)) {v : Int64} (hv : Int64.ofNat k = v) (w : Win p e below s R0 Q0 (T.setTop (mkF m (pc + 1) Ls (.long v :: st)))) : Win p e below s R0 Q0 (T.setTop (mkF m pc Ls st)) := by
  subst hv
  exact Win.to T _ (fun _ k => XS.lconst X.here hx rfl hd k) w
theorem W.ldc2 (X : Stand p l e R s m args below meth c T locs cells slots) (hx : p.tables.exec = Jvm.exec) {pc : Nat} {Ls : Array Slot} {st : List Value} {own : String} {index : Nat} {v : Int64} (hd : decode c.code pc = .ok (.ldc2_w index, 3)) (hown : s.vm.findClass own = some m.cls) (hk : (Jvm.Cond.constantLong own index v).before args s = true) (w : Win p e below s R0 Q0 (T.setTop (mkF m (pc + 3) Ls (.long v :: st)))) : Win p e below s R0 Q0 (T.setTop (mkF m pc Ls st)) := Win.to T _ (fun _ k => X.ldc2Long hx hown hk (g := mkF m pc Ls st) rfl hd _ k) w
theorem W.ldc1 (X : Stand p l e R s m args below meth c T locs cells slots) (hx : p.tables.exec = Jvm.exec) {pc : Nat} {Ls : Array Slot} {st : List Value} {own : String} {index : Nat} {v : Int32} (hd : decode c.code pc = .ok (.ldc index, 2)) (hown : s.vm.findClass own = some m.cls) (hk : (Jvm.Cond.constant own index v).before args s = true) (w : Win p e below s R0 Q0 (T.setTop (mkF m (pc + 2) Ls (.int v :: st)))) : Win p e below s R0 Q0 (T.setTop (mkF m pc Ls st)) := Win.to T _ (fun _ k => X.ldcInt hx hown hk (g := mkF m pc Ls st) rfl hd _ k) w
theorem W.putF (X : Stand p l e R s m args below meth c T locs cells slots) (hx : p.tables.exec = Jvm.exec) (hZ : Z.Warmed39 s.vm) {own R1 O n d host C : String} {index kk : Nat} {ty : FieldType} (hown : s.vm.findClass own = some m.cls) (w : (Jvm.Cond.fieldLink own index R1 n d).before a0 Z = true ∨ (Jvm.Cond.fieldLinkNest own index R1 n d host).before a0 Z = true) (via : Via Z R1 O n d)
    (eT : T.heap = h) {a : Addr} {v old : Value} (F : Fld Z h a O n d old) (E : Exa Z h a C) (L : (Jvm.Cond.lays C O n d).before a0 Z = true ∨ ((Jvm.Cond.laysFinal C O n d).before a0 Z = true ∧ own = O ∧ meth.name = "<init>")) (wi : (Jvm.Cond.instantiable C kk).before a0 Z = true)
    (hty : parseFieldDescriptor d = some ty) (hn : narrow ty v = v) (hf : fits ty v = true) {pc : Nat} {Ls : Array Slot} {st : List Value} (hd : decode c.code pc = .ok (.putfield index, 3)) {n0 : Nat} (Oq : Old Z n0 h) (ge : n0 ≤ a) {h0 : Heap} {ws : List Addr} (Kq : Keep h0 h ws) (hin : a ∈ ws ∨ h0.size ≤ a) (Nq : Fr n0 locs)
    (k : ∀ T' h', Stand p l e R s m args below meth c T' (locs ++ [⟨a, Jvm.RoadKit.slotOf Z O n d⟩]) cells slots → T'.heap = h' → Wr h h' a (Jvm.RoadKit.slotOf Z O n d) v → Old Z n0 h' → Keep h0 h' ws → Fr n0 (locs ++ [⟨a, Jvm.RoadKit.slotOf Z O n d⟩]) → Fld Z h' a O n d v → Win p e below s R0 Q0 (T'.setTop (mkF m (pc + 3) Ls st))) : Win p e below s R0 Q0 (T.setTop (mkF m pc Ls (v :: .ref a :: st))) := by
  obtain ⟨T', h', q1, q2, q3, q4⟩ := Jvm.RoadKit.putF X hx hZ hown w via eT F E L wi hty hn hf (g := mkF m pc Ls (v :: .ref a :: st)) rfl rfl hd
  exact Win.to T' _ q4 (k T' h' q1 q2 q3 (Old.wr Oq q3 ge) (Kq.wr q3 hin) (Fr.snoc q1 Nq ge) (Fld.same q3 F))
theorem W.getF (X : Stand p l e R s m args below meth c T locs cells slots) (hx : p.tables.exec = Jvm.exec) (hZ : Z.Warmed39 s.vm) {own R1 O n d host : String} {index : Nat} (hown : s.vm.findClass own = some m.cls) (w : (Jvm.Cond.fieldLink own index R1 n d).before a0 Z = true ∨ (Jvm.Cond.fieldLinkNest own index R1 n d host).before a0 Z = true) (via : Via Z R1 O n d)
    (eT : T.heap = h) {a : Addr} {v : Value} (F : Fld Z h a O n d v) {pc : Nat} {Ls : Array Slot} {st : List Value} (hd : decode c.code pc = .ok (.getfield index, 3))
    (k : ∀ T', Stand p l e R s m args below meth c T' locs cells slots → T'.heap = h → Win p e below s R0 Q0 (T'.setTop (mkF m (pc + 3) Ls (v :: st)))) : Win p e below s R0 Q0 (T.setTop (mkF m pc Ls (.ref a :: st))) := by
  obtain ⟨T', q1, q2, q3⟩ := Jvm.RoadKit.getF X hx hZ hown w via eT F (g := mkF m pc Ls (.ref a :: st)) rfl rfl hd
  exact Win.to T' _ q3 (k T' q1 q2)
theorem W.static (X : Stand p l e R s m args below meth c T locs cells slots) (hx : p.tables.exec = Jvm.exec) (hZ : Z.Warmed39 s.vm) {own : String} {index : Nat} {y : MethodName} {bytes : ByteArray} {maxL : Nat} {ret : Option FieldType} {as' : Array Value}
    (hown : s.vm.findClass own = some m.cls) (w1 : (Jvm.Cond.methodLink own index y).before a0 Z = true) (w2 : (Jvm.Cond.static y).before a0 Z = true) (w3 : (Jvm.Cond.initialized y.cls).before a0 Z = true) (w4 : (Jvm.Cond.code y bytes maxL ret).before a0 Z = true)
    (hy : y.cls ≠ "java/lang/invoke/MethodHandle" ∧ y.cls ≠ "java/lang/invoke/VarHandle") (M : MetN l Z y bytes maxL ret rm [] as' h Q) (eT : T.heap = h) {pc : Nat} {Ls : Array Slot} {st : List Value} (hsize : Ls.size = c.maxLocals) {argsL rest : List Value} (has : argsL.toArray = as')
    (hlen : ∀ sig, parseMethodDescriptor y.desc = some sig → argsL.length = sig.parameters.length) (hstack : st = argsL.reverse ++ rest) {W : Nat} (hW : (rest.map fun v => v.category).sum ≤ W) (hd : decode c.code pc = .ok (.invokestatic index, 3))
    (hf : rm.frames + 1 ≤ R.frames) (hl : W + (maxL + 11) + rm.locals ≤ R.locals) (hc : cells + rm.cells ≤ R.cells) (hs : slots + rm.slots ≤ R.slots) (k : ∀ (T' : State) (h' : Heap) (v : Option Value) (L : List Loc), Stand p l e R s m args below meth c T' (locs ++ L) (cells + rm.cells) (slots + rm.slots) → T'.heap = h' → Q v h' L → Win p e below s R0 Q0 (T'.setTop (mkF m (pc + 3) Ls (v.toList ++ rest)))) : Win p e below s R0 Q0 (T.setTop (mkF m pc Ls st)) := by
  obtain ⟨T', h', v, L, q1, q2, q3, q4⟩ := N.static X hx hZ hown w1 w2 w3 w4 hy M eT (g := mkF m pc Ls st) rfl hsize has hlen hstack (W := W) (by show 2 * 0 + _ ≤ _; omega) hd hf hl hc hs
  exact Win.to T' _ q4 (k T' h' v L q1 q2 q3)
theorem W.special (X : Stand p l e R s m args below meth c T locs cells slots) (hx : p.tables.exec = Jvm.exec) (hZ : Z.Warmed39 s.vm) {own : String} {index : Nat} {y : MethodName} {bytes : ByteArray} {maxL : Nat} {as' : Array Value} (hy1 : y.name = "<init>")
    (hown : s.vm.findClass own = some m.cls) (w1 : (Jvm.Cond.methodLink own index y).before a0 Z = true) (w2 : (Jvm.Cond.instanceMethod y).before a0 Z = true) (w3 : (Jvm.Cond.initialized y.cls).before a0 Z = true) (w4 : (Jvm.Cond.code y bytes maxL none).before a0 Z = true)
    (hy : y.cls ≠ "java/lang/invoke/MethodHandle" ∧ y.cls ≠ "java/lang/invoke/VarHandle") (M : MetN l Z y bytes maxL none rm [] as' h Q) (eT : T.heap = h) {pc : Nat} {Ls : Array Slot} {st : List Value} (hsize : Ls.size = c.maxLocals) {a : Addr} {argsL rest : List Value} (has : (Value.ref a :: argsL).toArray = as')
    (hlen : ∀ sig, parseMethodDescriptor y.desc = some sig → argsL.length = sig.parameters.length) (hstack : st = argsL.reverse ++ .ref a :: rest) {W : Nat} (hW : (rest.map fun v => v.category).sum ≤ W) (hd : decode c.code pc = .ok (.invokespecial index, 3))
    (hf : rm.frames + 1 ≤ R.frames) (hl : W + (maxL + 11) + rm.locals ≤ R.locals) (hc : cells + rm.cells ≤ R.cells) (hs : slots + rm.slots ≤ R.slots) (k : ∀ (T' : State) (h' : Heap) (v : Option Value) (L : List Loc), Stand p l e R s m args below meth c T' (locs ++ L) (cells + rm.cells) (slots + rm.slots) → T'.heap = h' → Q v h' L → Win p e below s R0 Q0 (T'.setTop (mkF m (pc + 3) Ls (v.toList ++ rest)))) : Win p e below s R0 Q0 (T.setTop (mkF m pc Ls st)) := by
  obtain ⟨T', h', v, L, q1, q2, q3, q4⟩ := N.special X hx hZ hy1 hown w1 w2 w3 w4 hy M eT (g := mkF m pc Ls st) rfl hsize has hlen hstack (W := W) (by show 2 * 0 + _ ≤ _; omega) hd hf hl hc hs
  exact Win.to T' _ q4 (k T' h' v L q1 q2 q3)
theorem W.virtual (X : Stand p l e R s m args below meth c T locs cells slots) (hx : p.tables.exec = Jvm.exec) (hZ : Z.Warmed39 s.vm) {own C : String} {index : Nat} {y z : MethodName} {bytes : ByteArray} {maxL : Nat} {ret : Option FieldType} {as' : Array Value}
    (hown : s.vm.findClass own = some m.cls) (w1 : (Jvm.Cond.methodLink own index y).before a0 Z = true) (w5 : (Jvm.Cond.declares y).before a0 Z = true) (nf : NotFace s y) (w6 : (Jvm.Cond.selects C y z).before a0 Z = true) (w2 : (Jvm.Cond.instanceMethod z).before a0 Z = true) (w3 : (Jvm.Cond.initialized z.cls).before a0 Z = true) (w4 : (Jvm.Cond.code z bytes maxL ret).before a0 Z = true)
    (hy : y.cls ≠ "java/lang/invoke/MethodHandle" ∧ y.cls ≠ "java/lang/invoke/VarHandle") (M : MetN l Z z bytes maxL ret rm [] as' h Q) (eT : T.heap = h) {a : Addr} (E : Exa Z h a C) {pc : Nat} {Ls : Array Slot} {st : List Value} (hsize : Ls.size = c.maxLocals) {argsL rest : List Value} (has : (Value.ref a :: argsL).toArray = as')
    (hlen : ∀ sig, parseMethodDescriptor y.desc = some sig → argsL.length = sig.parameters.length) (hstack : st = argsL.reverse ++ .ref a :: rest) {W : Nat} (hW : (rest.map fun v => v.category).sum ≤ W) (hd : decode c.code pc = .ok (.invokevirtual index, 3))
    (hf : rm.frames + 1 ≤ R.frames) (hl : W + (maxL + 11) + rm.locals ≤ R.locals) (hc : cells + rm.cells ≤ R.cells) (hs : slots + rm.slots ≤ R.slots) (k : ∀ (T' : State) (h' : Heap) (v : Option Value) (L : List Loc), Stand p l e R s m args below meth c T' (locs ++ L) (cells + rm.cells) (slots + rm.slots) → T'.heap = h' → Q v h' L → Win p e below s R0 Q0 (T'.setTop (mkF m (pc + 3) Ls (v.toList ++ rest)))) : Win p e below s R0 Q0 (T.setTop (mkF m pc Ls st)) := by
  obtain ⟨T', h', v, L, q1, q2, q3, q4⟩ := N.virtual X hx hZ hown w1 w5 nf w6 w2 w3 w4 hy M eT E (g := mkF m pc Ls st) rfl hsize has hlen hstack (W := W) (by show 2 * 0 + _ ≤ _; omega) hd hf hl hc hs
  exact Win.to T' _ q4 (k T' h' v L q1 q2 q3)
theorem W.private (X : Stand p l e R s m args below meth c T locs cells slots) (hx : p.tables.exec = Jvm.exec) (hZ : Z.Warmed39 s.vm) {own C : String} {index : Nat} {y : MethodName} {bytes : ByteArray} {maxL : Nat} {ret : Option FieldType} {as' : Array Value}
    (hown : s.vm.findClass own = some m.cls) (w1 : (Jvm.Cond.methodLink own index y).before a0 Z = true) (w2 : (Jvm.Cond.instanceMethod y).before a0 Z = true) (w6 : (Jvm.Cond.selects y.cls y y).before a0 Z = true) (w5 : (Jvm.Cond.privateMethod y).before a0 Z = true) (w3 : (Jvm.Cond.initialized y.cls).before a0 Z = true) (w4 : (Jvm.Cond.code y bytes maxL ret).before a0 Z = true)
    (hy : y.cls ≠ "java/lang/invoke/MethodHandle" ∧ y.cls ≠ "java/lang/invoke/VarHandle") (M : MetN l Z y bytes maxL ret rm [] as' h Q) (eT : T.heap = h) {a : Addr} (E : Exa Z h a C) {pc : Nat} {Ls : Array Slot} {st : List Value} (hsize : Ls.size = c.maxLocals) {argsL rest : List Value} (has : (Value.ref a :: argsL).toArray = as')
    (hlen : ∀ sig, parseMethodDescriptor y.desc = some sig → argsL.length = sig.parameters.length) (hstack : st = argsL.reverse ++ .ref a :: rest) {W : Nat} (hW : (rest.map fun v => v.category).sum ≤ W) (hd : decode c.code pc = .ok (.invokevirtual index, 3))
    (hf : rm.frames + 1 ≤ R.frames) (hl : W + (maxL + 11) + rm.locals ≤ R.locals) (hc : cells + rm.cells ≤ R.cells) (hs : slots + rm.slots ≤ R.slots) (k : ∀ (T' : State) (h' : Heap) (v : Option Value) (L : List Loc), Stand p l e R s m args below meth c T' (locs ++ L) (cells + rm.cells) (slots + rm.slots) → T'.heap = h' → Q v h' L → Win p e below s R0 Q0 (T'.setTop (mkF m (pc + 3) Ls (v.toList ++ rest)))) : Win p e below s R0 Q0 (T.setTop (mkF m pc Ls st)) := by
  obtain ⟨T', h', v, L, q1, q2, q3, q4⟩ := N.private X hx hZ hown w1 w2 w6 w5 w3 w4 hy M eT E (g := mkF m pc Ls st) rfl hsize has hlen hstack (W := W) (by show 2 * 0 + _ ≤ _; omega) hd hf hl hc hs
  exact Win.to T' _ q4 (k T' h' v L q1 q2 q3)
end OwnA
abbrev StatP (Z : State) (A : Nat → Addr) (C : Nat → Cell) (K : Nat → ClassId) : Prop :=
  Sta Z Z.heap "java/math/BigDecimal" "ZERO_THROUGH_TEN" "[Ljava/math/BigDecimal;" (.ref (A 5)) ∧
  Arr Z Z.heap (A 5) (C 0) (.object "java/math/BigDecimal") ∧
  (C 0).slots.size = 11 ∧
  (C 0).slots[1]? = some (.ref (A 0)) ∧
  (C 0).slots[2]? = some (.ref (A 1)) ∧
  (C 0).slots[4]? = some (.ref (A 2)) ∧
  (C 0).slots[8]? = some (.ref (A 3)) ∧
  Exa Z Z.heap (A 0) "java/math/BigDecimal" ∧
  Fld Z Z.heap (A 0) "java/math/BigDecimal" "scale" "I" (.int (0 : Int32)) ∧
  Fld Z Z.heap (A 0) "java/math/BigDecimal" "intCompact" "J" (.long (1 : Int64)) ∧
  Exa Z Z.heap (A 1) "java/math/BigDecimal" ∧
  Fld Z Z.heap (A 1) "java/math/BigDecimal" "scale" "I" (.int (0 : Int32)) ∧
  Fld Z Z.heap (A 1) "java/math/BigDecimal" "intCompact" "J" (.long (2 : Int64)) ∧
  Exa Z Z.heap (A 2) "java/math/BigDecimal" ∧
  Fld Z Z.heap (A 2) "java/math/BigDecimal" "scale" "I" (.int (0 : Int32)) ∧
  Fld Z Z.heap (A 2) "java/math/BigDecimal" "intCompact" "J" (.long (4 : Int64)) ∧
  Exa Z Z.heap (A 3) "java/math/BigDecimal" ∧
  Fld Z Z.heap (A 3) "java/math/BigDecimal" "scale" "I" (.int (0 : Int32)) ∧
  Fld Z Z.heap (A 3) "java/math/BigDecimal" "intCompact" "J" (.long (8 : Int64)) ∧
  Sta Z Z.heap "java/math/BigDecimal" "ZERO_SCALED_BY" "[Ljava/math/BigDecimal;" (.ref (A 6)) ∧
  Arr Z Z.heap (A 6) (C 1) (.object "java/math/BigDecimal") ∧
  (C 1).slots.size = 16 ∧
  (C 1).slots[9]? = some (.ref (A 4)) ∧
  Exa Z Z.heap (A 4) "java/math/BigDecimal" ∧
  Fld Z Z.heap (A 4) "java/math/BigDecimal" "scale" "I" (.int (9 : Int32)) ∧
  Fld Z Z.heap (A 4) "java/math/BigDecimal" "intCompact" "J" (.long (0 : Int64)) ∧
  Sta Z Z.heap "java/math/BigDecimal" "LONG_TEN_POWERS_TABLE" "[J" (.ref (A 7)) ∧
  Arr Z Z.heap (A 7) (C 2) .long ∧
  (C 2).slots.size = 19 ∧
  (C 2).slots[9]? = some (.long (1000000000 : Int64)) ∧
  Sta Z Z.heap "java/math/BigDecimal" "THRESHOLDS_TABLE" "[J" (.ref (A 8)) ∧
  Arr Z Z.heap (A 8) (C 3) .long ∧
  (C 3).slots.size = 19 ∧
  (C 3).slots[9]? = some (.long (9223372036 : Int64)) ∧
  Sta Z Z.heap "java/time/Duration" "BI_NANOS_PER_SECOND" "Ljava/math/BigInteger;" (.ref (A 9)) ∧
  Exa Z Z.heap (A 9) "java/math/BigInteger" ∧
  Fld Z Z.heap (A 9) "java/math/BigInteger" "signum" "I" (.int (1 : Int32)) ∧
  Fld Z Z.heap (A 9) "java/math/BigInteger" "mag" "[I" (.ref (A 10)) ∧
  Arv Z Z.heap (A 10) (K 0) .int (1 : Int32) [(.int (1000000000 : Int32))] (.int (0 : Int32)) ∧
  Sta Z Z.heap "java/math/BigInteger" "ZERO" "Ljava/math/BigInteger;" (.ref (A 11)) ∧
  Exa Z Z.heap (A 11) "java/math/BigInteger" ∧
  Fld Z Z.heap (A 11) "java/math/BigInteger" "signum" "I" (.int (0 : Int32)) ∧
  Fld Z Z.heap (A 11) "java/math/BigInteger" "mag" "[I" (.ref (A 12)) ∧
  Arv Z Z.heap (A 12) (K 1) .int (0 : Int32) [] (.int (0 : Int32)) ∧
  Sta Z Z.heap "com/example/usher/usher/worker/Pause" "FIRST" "Ljava/time/Duration;" (.ref (A 13)) ∧
  Exa Z Z.heap (A 13) "java/time/Duration" ∧
  Fld Z Z.heap (A 13) "java/time/Duration" "seconds" "J" (.long (1 : Int64)) ∧
  Fld Z Z.heap (A 13) "java/time/Duration" "nanos" "I" (.int (0 : Int32)) ∧
  Sta Z Z.heap "com/example/usher/usher/worker/Pause" "LONGEST" "Ljava/time/Duration;" (.ref (A 14)) ∧
  Exa Z Z.heap (A 14) "java/time/Duration" ∧
  Fld Z Z.heap (A 14) "java/time/Duration" "seconds" "J" (.long (30 : Int64)) ∧
  Fld Z Z.heap (A 14) "java/time/Duration" "nanos" "I" (.int (0 : Int32))
def Stat (Z : State) : Type := { q : (Nat → Addr) × (Nat → Cell) × (Nat → ClassId) // StatP Z q.1 q.2.1 q.2.2 }
section OwnT
variable {Z : State}
def Stat.d1 (SS : Stat Z) : Addr := SS.1.1 0
def Stat.d2 (SS : Stat Z) : Addr := SS.1.1 1
def Stat.d4 (SS : Stat Z) : Addr := SS.1.1 2
def Stat.d8 (SS : Stat Z) : Addr := SS.1.1 3
def Stat.z9 (SS : Stat Z) : Addr := SS.1.1 4
def Stat.zt (SS : Stat Z) : Addr := SS.1.1 5
def Stat.zs (SS : Stat Z) : Addr := SS.1.1 6
def Stat.lt (SS : Stat Z) : Addr := SS.1.1 7
def Stat.th (SS : Stat Z) : Addr := SS.1.1 8
def Stat.bn (SS : Stat Z) : Addr := SS.1.1 9
def Stat.bm (SS : Stat Z) : Addr := SS.1.1 10
def Stat.bz (SS : Stat Z) : Addr := SS.1.1 11
def Stat.bzm (SS : Stat Z) : Addr := SS.1.1 12
def Stat.fi (SS : Stat Z) : Addr := SS.1.1 13
def Stat.lo (SS : Stat Z) : Addr := SS.1.1 14
def Stat.c_zt (SS : Stat Z) : Cell := SS.1.2.1 0
def Stat.c_zs (SS : Stat Z) : Cell := SS.1.2.1 1
def Stat.c_lt (SS : Stat Z) : Cell := SS.1.2.1 2
def Stat.c_th (SS : Stat Z) : Cell := SS.1.2.1 3
def Stat.k_bm (SS : Stat Z) : ClassId := SS.1.2.2 0
def Stat.k_bzm (SS : Stat Z) : ClassId := SS.1.2.2 1
theorem Stat.S_zt (SS : Stat Z) : Sta Z Z.heap "java/math/BigDecimal" "ZERO_THROUGH_TEN" "[Ljava/math/BigDecimal;" (.ref SS.zt) := SS.2.1
theorem Stat.A_zt (SS : Stat Z) : Arr Z Z.heap SS.zt SS.c_zt (.object "java/math/BigDecimal") := SS.2.2.1
theorem Stat.L_zt (SS : Stat Z) : SS.c_zt.slots.size = 11 := SS.2.2.2.1
theorem Stat.e_zt_1 (SS : Stat Z) : SS.c_zt.slots[1]? = some (.ref SS.d1) := SS.2.2.2.2.1
theorem Stat.e_zt_2 (SS : Stat Z) : SS.c_zt.slots[2]? = some (.ref SS.d2) := SS.2.2.2.2.2.1
theorem Stat.e_zt_4 (SS : Stat Z) : SS.c_zt.slots[4]? = some (.ref SS.d4) := SS.2.2.2.2.2.2.1
theorem Stat.e_zt_8 (SS : Stat Z) : SS.c_zt.slots[8]? = some (.ref SS.d8) := SS.2.2.2.2.2.2.2.1
theorem Stat.E_d1 (SS : Stat Z) : Exa Z Z.heap SS.d1 "java/math/BigDecimal" := SS.2.2.2.2.2.2.2.2.1
theorem Stat.F_d1_scale (SS : Stat Z) : Fld Z Z.heap SS.d1 "java/math/BigDecimal" "scale" "I" (.int (0 : Int32)) := SS.2.2.2.2.2.2.2.2.2.1
theorem Stat.F_d1_intCompact (SS : Stat Z) : Fld Z Z.heap SS.d1 "java/math/BigDecimal" "intCompact" "J" (.long (1 : Int64)) := SS.2.2.2.2.2.2.2.2.2.2.1
theorem Stat.E_d2 (SS : Stat Z) : Exa Z Z.heap SS.d2 "java/math/BigDecimal" := SS.2.2.2.2.2.2.2.2.2.2.2.1
theorem Stat.F_d2_scale (SS : Stat Z) : Fld Z Z.heap SS.d2 "java/math/BigDecimal" "scale" "I" (.int (0 : Int32)) := SS.2.2.2.2.2.2.2.2.2.2.2.2.1
theorem Stat.F_d2_intCompact (SS : Stat Z) : Fld Z Z.heap SS.d2 "java/math/BigDecimal" "intCompact" "J" (.long (2 : Int64)) := SS.2.2.2.2.2.2.2.2.2.2.2.2.2.1
theorem Stat.E_d4 (SS : Stat Z) : Exa Z Z.heap SS.d4 "java/math/BigDecimal" := SS.2.2.2.2.2.2.2.2.2.2.2.2.2.2.1
theorem Stat.F_d4_scale (SS : Stat Z) : Fld Z Z.heap SS.d4 "java/math/BigDecimal" "scale" "I" (.int (0 : Int32)) := SS.2.2.2.2.2.2.2.2.2.2.2.2.2.2.2.1
theorem Stat.F_d4_intCompact (SS : Stat Z) : Fld Z Z.heap SS.d4 "java/math/BigDecimal" "intCompact" "J" (.long (4 : Int64)) := SS.2.2.2.2.2.2.2.2.2.2.2.2.2.2.2.2.1
theorem Stat.E_d8 (SS : Stat Z) : Exa Z Z.heap SS.d8 "java/math/BigDecimal" := SS.2.2.2.2.2.2.2.2.2.2.2.2.2.2.2.2.2.1
theorem Stat.F_d8_scale (SS : Stat Z) : Fld Z Z.heap SS.d8 "java/math/BigDecimal" "scale" "I" (.int (0 : Int32)) := SS.2.2.2.2.2.2.2.2.2.2.2.2.2.2.2.2.2.2.1
theorem Stat.F_d8_intCompact (SS : Stat Z) : Fld Z Z.heap SS.d8 "java/math/BigDecimal" "intCompact" "J" (.long (8 : Int64)) := SS.2.2.2.2.2.2.2.2.2.2.2.2.2.2.2.2.2.2.2.1
theorem Stat.S_zs (SS : Stat Z) : Sta Z Z.heap "java/math/BigDecimal" "ZERO_SCALED_BY" "[Ljava/math/BigDecimal;" (.ref SS.zs) := SS.2.2.2.2.2.2.2.2.2.2.2.2.2.2.2.2.2.2.2.2.1
theorem Stat.A_zs (SS : Stat Z) : Arr Z Z.heap SS.zs SS.c_zs (.object "java/math/BigDecimal") := SS.2.2.2.2.2.2.2.2.2.2.2.2.2.2.2.2.2.2.2.2.2.1
theorem Stat.L_zs (SS : Stat Z) : SS.c_zs.slots.size = 16 := SS.2.2.2.2.2.2.2.2.2.2.2.2.2.2.2.2.2.2.2.2.2.2.1
theorem Stat.e_zs_9 (SS : Stat Z) : SS.c_zs.slots[9]? = some (.ref SS.z9) := SS.2.2.2.2.2.2.2.2.2.2.2.2.2.2.2.2.2.2.2.2.2.2.2.1
theorem Stat.E_z9 (SS : Stat Z) : Exa Z Z.heap SS.z9 "java/math/BigDecimal" := SS.2.2.2.2.2.2.2.2.2.2.2.2.2.2.2.2.2.2.2.2.2.2.2.2.1
theorem Stat.F_z9_scale (SS : Stat Z) : Fld Z Z.heap SS.z9 "java/math/BigDecimal" "scale" "I" (.int (9 : Int32)) := SS.2.2.2.2.2.2.2.2.2.2.2.2.2.2.2.2.2.2.2.2.2.2.2.2.2.1
theorem Stat.F_z9_intCompact (SS : Stat Z) : Fld Z Z.heap SS.z9 "java/math/BigDecimal" "intCompact" "J" (.long (0 : Int64)) := SS.2.2.2.2.2.2.2.2.2.2.2.2.2.2.2.2.2.2.2.2.2.2.2.2.2.2.1
theorem Stat.S_lt (SS : Stat Z) : Sta Z Z.heap "java/math/BigDecimal" "LONG_TEN_POWERS_TABLE" "[J" (.ref SS.lt) := SS.2.2.2.2.2.2.2.2.2.2.2.2.2.2.2.2.2.2.2.2.2.2.2.2.2.2.2.1
theorem Stat.A_lt (SS : Stat Z) : Arr Z Z.heap SS.lt SS.c_lt .long := SS.2.2.2.2.2.2.2.2.2.2.2.2.2.2.2.2.2.2.2.2.2.2.2.2.2.2.2.2.1
theorem Stat.L_lt (SS : Stat Z) : SS.c_lt.slots.size = 19 := SS.2.2.2.2.2.2.2.2.2.2.2.2.2.2.2.2.2.2.2.2.2.2.2.2.2.2.2.2.2.1
theorem Stat.e_lt_9 (SS : Stat Z) : SS.c_lt.slots[9]? = some (.long (1000000000 : Int64)) := SS.2.2.2.2.2.2.2.2.2.2.2.2.2.2.2.2.2.2.2.2.2.2.2.2.2.2.2.2.2.2.1
theorem Stat.S_th (SS : Stat Z) : Sta Z Z.heap "java/math/BigDecimal" "THRESHOLDS_TABLE" "[J" (.ref SS.th) := SS.2.2.2.2.2.2.2.2.2.2.2.2.2.2.2.2.2.2.2.2.2.2.2.2.2.2.2.2.2.2.2.1
theorem Stat.A_th (SS : Stat Z) : Arr Z Z.heap SS.th SS.c_th .long := SS.2.2.2.2.2.2.2.2.2.2.2.2.2.2.2.2.2.2.2.2.2.2.2.2.2.2.2.2.2.2.2.2.1
theorem Stat.L_th (SS : Stat Z) : SS.c_th.slots.size = 19 := SS.2.2.2.2.2.2.2.2.2.2.2.2.2.2.2.2.2.2.2.2.2.2.2.2.2.2.2.2.2.2.2.2.2.1
theorem Stat.e_th_9 (SS : Stat Z) : SS.c_th.slots[9]? = some (.long (9223372036 : Int64)) := SS.2.2.2.2.2.2.2.2.2.2.2.2.2.2.2.2.2.2.2.2.2.2.2.2.2.2.2.2.2.2.2.2.2.2.1
theorem Stat.S_bn (SS : Stat Z) : Sta Z Z.heap "java/time/Duration" "BI_NANOS_PER_SECOND" "Ljava/math/BigInteger;" (.ref SS.bn) := SS.2.2.2.2.2.2.2.2.2.2.2.2.2.2.2.2.2.2.2.2.2.2.2.2.2.2.2.2.2.2.2.2.2.2.2.1
theorem Stat.E_bn (SS : Stat Z) : Exa Z Z.heap SS.bn "java/math/BigInteger" := SS.2.2.2.2.2.2.2.2.2.2.2.2.2.2.2.2.2.2.2.2.2.2.2.2.2.2.2.2.2.2.2.2.2.2.2.2.1
theorem Stat.F_bn_signum (SS : Stat Z) : Fld Z Z.heap SS.bn "java/math/BigInteger" "signum" "I" (.int (1 : Int32)) := SS.2.2.2.2.2.2.2.2.2.2.2.2.2.2.2.2.2.2.2.2.2.2.2.2.2.2.2.2.2.2.2.2.2.2.2.2.2.1
theorem Stat.F_bn_mag (SS : Stat Z) : Fld Z Z.heap SS.bn "java/math/BigInteger" "mag" "[I" (.ref SS.bm) := SS.2.2.2.2.2.2.2.2.2.2.2.2.2.2.2.2.2.2.2.2.2.2.2.2.2.2.2.2.2.2.2.2.2.2.2.2.2.2.1
theorem Stat.A_bm (SS : Stat Z) : Arv Z Z.heap SS.bm SS.k_bm .int (1 : Int32) [(.int (1000000000 : Int32))] (.int (0 : Int32)) := SS.2.2.2.2.2.2.2.2.2.2.2.2.2.2.2.2.2.2.2.2.2.2.2.2.2.2.2.2.2.2.2.2.2.2.2.2.2.2.2.1
theorem Stat.S_bz (SS : Stat Z) : Sta Z Z.heap "java/math/BigInteger" "ZERO" "Ljava/math/BigInteger;" (.ref SS.bz) := SS.2.2.2.2.2.2.2.2.2.2.2.2.2.2.2.2.2.2.2.2.2.2.2.2.2.2.2.2.2.2.2.2.2.2.2.2.2.2.2.2.1
theorem Stat.E_bz (SS : Stat Z) : Exa Z Z.heap SS.bz "java/math/BigInteger" := SS.2.2.2.2.2.2.2.2.2.2.2.2.2.2.2.2.2.2.2.2.2.2.2.2.2.2.2.2.2.2.2.2.2.2.2.2.2.2.2.2.2.1
theorem Stat.F_bz_signum (SS : Stat Z) : Fld Z Z.heap SS.bz "java/math/BigInteger" "signum" "I" (.int (0 : Int32)) := SS.2.2.2.2.2.2.2.2.2.2.2.2.2.2.2.2.2.2.2.2.2.2.2.2.2.2.2.2.2.2.2.2.2.2.2.2.2.2.2.2.2.2.1
theorem Stat.F_bz_mag (SS : Stat Z) : Fld Z Z.heap SS.bz "java/math/BigInteger" "mag" "[I" (.ref SS.bzm) := SS.2.2.2.2.2.2.2.2.2.2.2.2.2.2.2.2.2.2.2.2.2.2.2.2.2.2.2.2.2.2.2.2.2.2.2.2.2.2.2.2.2.2.2.1
theorem Stat.A_bzm (SS : Stat Z) : Arv Z Z.heap SS.bzm SS.k_bzm .int (0 : Int32) [] (.int (0 : Int32)) := SS.2.2.2.2.2.2.2.2.2.2.2.2.2.2.2.2.2.2.2.2.2.2.2.2.2.2.2.2.2.2.2.2.2.2.2.2.2.2.2.2.2.2.2.2.1
theorem Stat.S_fi (SS : Stat Z) : Sta Z Z.heap "com/example/usher/usher/worker/Pause" "FIRST" "Ljava/time/Duration;" (.ref SS.fi) := SS.2.2.2.2.2.2.2.2.2.2.2.2.2.2.2.2.2.2.2.2.2.2.2.2.2.2.2.2.2.2.2.2.2.2.2.2.2.2.2.2.2.2.2.2.2.1
theorem Stat.E_fi (SS : Stat Z) : Exa Z Z.heap SS.fi "java/time/Duration" := SS.2.2.2.2.2.2.2.2.2.2.2.2.2.2.2.2.2.2.2.2.2.2.2.2.2.2.2.2.2.2.2.2.2.2.2.2.2.2.2.2.2.2.2.2.2.2.1
theorem Stat.F_fi_seconds (SS : Stat Z) : Fld Z Z.heap SS.fi "java/time/Duration" "seconds" "J" (.long (1 : Int64)) := SS.2.2.2.2.2.2.2.2.2.2.2.2.2.2.2.2.2.2.2.2.2.2.2.2.2.2.2.2.2.2.2.2.2.2.2.2.2.2.2.2.2.2.2.2.2.2.2.1
theorem Stat.F_fi_nanos (SS : Stat Z) : Fld Z Z.heap SS.fi "java/time/Duration" "nanos" "I" (.int (0 : Int32)) := SS.2.2.2.2.2.2.2.2.2.2.2.2.2.2.2.2.2.2.2.2.2.2.2.2.2.2.2.2.2.2.2.2.2.2.2.2.2.2.2.2.2.2.2.2.2.2.2.2.1
theorem Stat.S_lo (SS : Stat Z) : Sta Z Z.heap "com/example/usher/usher/worker/Pause" "LONGEST" "Ljava/time/Duration;" (.ref SS.lo) := SS.2.2.2.2.2.2.2.2.2.2.2.2.2.2.2.2.2.2.2.2.2.2.2.2.2.2.2.2.2.2.2.2.2.2.2.2.2.2.2.2.2.2.2.2.2.2.2.2.2.1
theorem Stat.E_lo (SS : Stat Z) : Exa Z Z.heap SS.lo "java/time/Duration" := SS.2.2.2.2.2.2.2.2.2.2.2.2.2.2.2.2.2.2.2.2.2.2.2.2.2.2.2.2.2.2.2.2.2.2.2.2.2.2.2.2.2.2.2.2.2.2.2.2.2.2.1
theorem Stat.F_lo_seconds (SS : Stat Z) : Fld Z Z.heap SS.lo "java/time/Duration" "seconds" "J" (.long (30 : Int64)) := SS.2.2.2.2.2.2.2.2.2.2.2.2.2.2.2.2.2.2.2.2.2.2.2.2.2.2.2.2.2.2.2.2.2.2.2.2.2.2.2.2.2.2.2.2.2.2.2.2.2.2.2.1
theorem Stat.F_lo_nanos (SS : Stat Z) : Fld Z Z.heap SS.lo "java/time/Duration" "nanos" "I" (.int (0 : Int32)) := SS.2.2.2.2.2.2.2.2.2.2.2.2.2.2.2.2.2.2.2.2.2.2.2.2.2.2.2.2.2.2.2.2.2.2.2.2.2.2.2.2.2.2.2.2.2.2.2.2.2.2.2.2
end OwnT
theorem own_eq_long {args : Array Value} {s : State} {t u : Term} {n : Int64} (h : (Jvm.Cond.eq t u).value args s none s [] = some true) (hu : u.eval args s none [] s = some (.long n)) : t.eval args s none [] s = some (.long n) := Cond.eq_long (Cond.before_iff.mpr h) hu
theorem own_len {s : State} {args : Array Value} {t : Term} {a : Addr} {cl : Cell} {ty : FieldType} {N : Int32} {n : Nat} (A : Arr s s.heap a cl ty) (ev : t.eval args s none [] s = some (.ref a)) (el : (Term.length t).eval args s none [] s = some (.int N)) (hN : N.toInt = n) : cl.slots.size = n := by
  have q := A.fin (Vm.Alike.refl _)
  have h31 := SBG.length_lt ev q el
  have e := len_f (o := none) (first := s) (args := args) (idx := []) ev q h31
  have h2 := Value.int.inj (Option.some.inj (e.symm.trans el))
  have h3 := congrArg Int32.toInt h2
  rw [len_toInt h31] at h3
  omega
theorem own_and7 (x : Int32) : (x &&& (7 : Int32)) = (0 : Int32) ∨ (x &&& (7 : Int32)) = (1 : Int32) ∨ (x &&& (7 : Int32)) = (2 : Int32) ∨ (x &&& (7 : Int32)) = (3 : Int32) ∨ (x &&& (7 : Int32)) = (4 : Int32) ∨ (x &&& (7 : Int32)) = (5 : Int32) ∨ (x &&& (7 : Int32)) = (6 : Int32) ∨ (x &&& (7 : Int32)) = (7 : Int32) := by
  have a := c_and x (7 : Int32) (by decide)
  have e : (7 : Int32).toInt = 7 := by decide
  have h : (x &&& (7 : Int32)).toInt = 0 ∨ (x &&& (7 : Int32)).toInt = 1 ∨ (x &&& (7 : Int32)).toInt = 2 ∨ (x &&& (7 : Int32)).toInt = 3 ∨ (x &&& (7 : Int32)).toInt = 4 ∨ (x &&& (7 : Int32)).toInt = 5 ∨ (x &&& (7 : Int32)).toInt = 6 ∨ (x &&& (7 : Int32)).toInt = 7 := by omega
  rcases h with h | h | h | h | h | h | h | h
  · exact Or.inl (Int32.toInt_inj.mp (h.trans (by decide)))
  · exact Or.inr (Or.inl (Int32.toInt_inj.mp (h.trans (by decide))))
  · exact Or.inr (Or.inr (Or.inl (Int32.toInt_inj.mp (h.trans (by decide)))))
  · exact Or.inr (Or.inr (Or.inr (Or.inl (Int32.toInt_inj.mp (h.trans (by decide))))))
  · exact Or.inr (Or.inr (Or.inr (Or.inr (Or.inl (Int32.toInt_inj.mp (h.trans (by decide)))))))
  · exact Or.inr (Or.inr (Or.inr (Or.inr (Or.inr (Or.inl (Int32.toInt_inj.mp (h.trans (by decide))))))))
  · exact Or.inr (Or.inr (Or.inr (Or.inr (Or.inr (Or.inr (Or.inl (Int32.toInt_inj.mp (h.trans (by decide)))))))))
  · exact Or.inr (Or.inr (Or.inr (Or.inr (Or.inr (Or.inr (Or.inr ((Int32.toInt_inj.mp (h.trans (by decide))))))))))
def vJ (ix : Fin 6) (l : List Int64) : Int64 := l.getD ix.val 0
def vI (ix : Fin 6) (l : List Int32) : Int32 := l.getD ix.val 0
theorem own_fin6 (ix : Fin 6) : ix = 0 ∨ ix = 1 ∨ ix = 2 ∨ ix = 3 ∨ ix = 4 ∨ ix = 5 := by revert ix; decide
theorem hc {c : Code} {b : ByteArray} {L : List (Nat × Instr × Nat)} (hby : c.code = b) (h : ∀ q ∈ L, decode b q.1 = .ok q.2) (i : Nat) {pc : Nat} {x : Instr} {ln : Nat} (hq : L[i]? = some (pc, x, ln)) : decode c.code pc = .ok (x, ln) := by
  rw [hby]; exact h (pc, x, ln) (List.mem_of_getElem? hq)
def L44 : List (Nat × Instr × Nat) := [(0, .aload_n 0, 1), (1, .getfield 747, 3), (4, .iconst 1, 1), (5, .isub, 1), (6, .istore_n 1, 1), (7, .iload_n 1, 1), (8, .iconst (-1), 1), (9, .if_icmp .ne 129, 3), (12, .aload_n 0, 1), (13, .getfield 28, 3), (16, .astore_n 2, 1), (17, .aload_n 2, 1), (18, .arraylength, 1), (19, .istore_n 3, 1), (20, .iload_n 3, 1), (21, .ifCond .ne 8, 3), (29, .iload_n 3, 1), (30, .iconst 1, 1), (31, .isub, 1), (32, .iconst 5, 1), (33, .ishl, 1), (34, .aload_n 0, 1), (35, .getfield 28, 3), (38, .iconst 0, 1), (39, .iaload, 1), (40, .invokestatic 605, 3), (43, .iadd, 1), (44, .istore 4, 2), (46, .aload_n 0, 1), (47, .getfield 32, 3), (50, .ifCond .ge 78, 3), (128, .iload 4, 2), (130, .istore_n 1, 1), (131, .aload_n 0, 1), (132, .iload_n 1, 1), (133, .iconst 1, 1), (134, .iadd, 1), (135, .putfield 747, 3), (138, .iload_n 1, 1), (139, .ireturn, 1)]
theorem D44 : ∀ q ∈ L44, decode jdk_2097_method_118_code q.1 = .ok q.2 := by decide +kernel
def L45 : List (Nat × Instr × Nat) := [(0, .bipush 32, 2), (2, .iload_n 0, 1), (3, .invokestatic 602, 3), (6, .isub, 1), (7, .ireturn, 1)]
theorem D45 : ∀ q ∈ L45, decode jdk_2097_method_74_code q.1 = .ok q.2 := by decide +kernel
def L46 : List (Nat × Instr × Nat) := [(0, .iload_n 0, 1), (1, .ifCond .gt 14, 3), (15, .bipush 31, 2), (17, .istore_n 1, 1), (18, .iload_n 0, 1), (19, .ldc_w 264, 3), (22, .if_icmp .lt 11, 3), (33, .iload_n 0, 1), (34, .sipush 256, 3), (37, .if_icmp .lt 11, 3), (48, .iload_n 0, 1), (49, .bipush 16, 2), (51, .if_icmp .lt 10, 3), (61, .iload_n 0, 1), (62, .iconst 4, 1), (63, .if_icmp .lt 10, 3), (73, .iload_n 1, 1), (74, .iload_n 0, 1), (75, .iconst 1, 1), (76, .iushr, 1), (77, .isub, 1), (78, .ireturn, 1), (66, .iinc 1 (-2), 3), (69, .iload_n 0, 1), (70, .iconst 2, 1), (71, .iushr, 1), (72, .istore_n 0, 1), (54, .iinc 1 (-4), 3), (57, .iload_n 0, 1), (58, .iconst 4, 1), (59, .iushr, 1), (60, .istore_n 0, 1), (25, .iinc 1 (-16), 3), (28, .iload_n 0, 1), (29, .bipush 16, 2), (31, .iushr, 1), (32, .istore_n 0, 1), (40, .iinc 1 (-8), 3), (43, .iload_n 0, 1), (44, .bipush 8, 2), (46, .iushr, 1), (47, .istore_n 0, 1)]
theorem D46 : ∀ q ∈ L46, decode jdk_33_method_47_code q.1 = .ok q.2 := by decide +kernel
def L47 : List (Nat × Instr × Nat) := [(0, .lconst 0, 1), (1, .lstore_n 1, 1), (2, .iconst 1, 1), (3, .istore_n 3, 1), (4, .iload_n 3, 1), (5, .ifCond .lt 25, 3), (8, .lload_n 1, 1), (9, .bipush 32, 2), (11, .lshl, 1), (12, .aload_n 0, 1), (13, .iload_n 3, 1), (14, .invokevirtual 736, 3), (17, .i2l, 1), (18, .ldc2_w 130, 3), (21, .land, 1), (22, .ladd, 1), (23, .lstore_n 1, 1), (24, .iinc 3 (-1), 3), (27, .goto (-23), 3), (30, .lload_n 1, 1), (31, .lreturn, 1)]
theorem D47 : ∀ q ∈ L47, decode jdk_2097_method_136_code q.1 = .ok q.2 := by decide +kernel
def L48 : List (Nat × Instr × Nat) := [(0, .iload_n 1, 1), (1, .ifCond .ge 5, 3), (6, .iload_n 1, 1), (7, .aload_n 0, 1), (8, .getfield 28, 3), (11, .arraylength, 1), (12, .if_icmp .lt 8, 3), (15, .aload_n 0, 1), (16, .invokevirtual 860, 3), (19, .ireturn, 1), (20, .aload_n 0, 1), (21, .getfield 28, 3), (24, .aload_n 0, 1), (25, .getfield 28, 3), (28, .arraylength, 1), (29, .iload_n 1, 1), (30, .isub, 1), (31, .iconst 1, 1), (32, .isub, 1), (33, .iaload, 1), (34, .istore_n 2, 1), (35, .aload_n 0, 1), (36, .getfield 32, 3), (39, .ifCond .lt 7, 3), (42, .iload_n 2, 1), (43, .goto 19, 3), (62, .ireturn, 1)]
theorem D48 : ∀ q ∈ L48, decode jdk_2097_method_148_code q.1 = .ok q.2 := by decide +kernel
def L49 : List (Nat × Instr × Nat) := [(0, .aload_n 0, 1), (1, .getfield 32, 3), (4, .ifCond .ge 7, 3), (11, .iconst 0, 1), (12, .ireturn, 1)]
theorem D49 : ∀ q ∈ L49, decode jdk_2097_method_147_code q.1 = .ok q.2 := by decide +kernel
def L18 : List (Nat × Instr × Nat) := [(0, .aload_n 0, 1), (1, .invokespecial 11, 3), (4, .aload_n 0, 1), (5, .iload 4, 2), (7, .putfield 17, 3), (10, .aload_n 0, 1), (11, .iload 5, 2), (13, .putfield 21, 3), (16, .aload_n 0, 1), (17, .lload_n 2, 1), (18, .putfield 24, 3), (21, .aload_n 0, 1), (22, .aload_n 1, 1), (23, .putfield 28, 3), (26, .return_, 1)]
theorem D18 : ∀ q ∈ L18, decode jdk_17_method_1_code q.1 = .ok q.2 := by decide +kernel
def L19 : List (Nat × Instr × Nat) := [(0, .aload_n 0, 1), (1, .invokespecial 1, 3), (4, .return_, 1)]
theorem D19 : ∀ q ∈ L19, decode jdk_18_method_1_code q.1 = .ok q.2 := by decide +kernel
def L51 : List (Nat × Instr × Nat) := [(0, .lload_n 0, 1), (1, .lload_n 2, 1), (2, .ldc2_w 16, 3), (5, .invokestatic 18, 3), (8, .invokestatic 22, 3), (11, .lstore 4, 2), (13, .lload_n 2, 1), (14, .ldc2_w 16, 3), (17, .invokestatic 25, 3), (20, .l2i, 1), (21, .istore 6, 2), (23, .lload 4, 2), (25, .iload 6, 2), (27, .invokestatic 10, 3), (30, .areturn, 1)]
theorem D51 : ∀ q ∈ L51, decode jdk_2316_method_5_code q.1 = .ok q.2 := by decide +kernel
def L52 : List (Nat × Instr × Nat) := [(0, .lload_n 0, 1), (1, .lload_n 2, 1), (2, .ldiv, 1), (3, .lstore 4, 2), (5, .lload_n 0, 1), (6, .lload_n 2, 1), (7, .lxor, 1), (8, .lconst 0, 1), (9, .lcmp, 1), (10, .ifCond .ge 17, 3), (27, .lload 4, 2), (29, .lreturn, 1)]
theorem D52 : ∀ q ∈ L52, decode jdk_29_method_49_code q.1 = .ok q.2 := by decide +kernel
def L53 : List (Nat × Instr × Nat) := [(0, .lload_n 0, 1), (1, .lload_n 2, 1), (2, .ladd, 1), (3, .lstore 4, 2), (5, .lload_n 0, 1), (6, .lload 4, 2), (8, .lxor, 1), (9, .lload_n 2, 1), (10, .lload 4, 2), (12, .lxor, 1), (13, .land, 1), (14, .lconst 0, 1), (15, .lcmp, 1), (16, .ifCond .ge 13, 3), (29, .lload 4, 2), (31, .lreturn, 1)]
theorem D53 : ∀ q ∈ L53, decode jdk_29_method_25_code q.1 = .ok q.2 := by decide +kernel
def L54 : List (Nat × Instr × Nat) := [(0, .lload_n 0, 1), (1, .lload_n 2, 1), (2, .lrem, 1), (3, .lstore 4, 2), (5, .lload_n 0, 1), (6, .lload_n 2, 1), (7, .lxor, 1), (8, .lconst 0, 1), (9, .lcmp, 1), (10, .ifCond .ge 15, 3), (25, .lload 4, 2), (27, .lreturn, 1)]
theorem D54 : ∀ q ∈ L54, decode jdk_29_method_52_code q.1 = .ok q.2 := by decide +kernel
def L55 : List (Nat × Instr × Nat) := [(0, .lload_n 0, 1), (1, .iload_n 2, 1), (2, .i2l, 1), (3, .lor, 1), (4, .lconst 0, 1), (5, .lcmp, 1), (6, .ifCond .ne 7, 3), (13, .new 11, 3), (16, .dup, 1), (17, .lload_n 0, 1), (18, .iload_n 2, 1), (19, .invokespecial 215, 3), (22, .areturn, 1)]
theorem D55 : ∀ q ∈ L55, decode jdk_2316_method_16_code q.1 = .ok q.2 := by decide +kernel
def L56 : List (Nat × Instr × Nat) := [(0, .aload_n 0, 1), (1, .invokespecial 218, 3), (4, .aload_n 0, 1), (5, .lload_n 1, 1), (6, .putfield 221, 3), (9, .aload_n 0, 1), (10, .iload_n 3, 1), (11, .putfield 224, 3), (14, .return_, 1)]
theorem D56 : ∀ q ∈ L56, decode jdk_2316_method_17_code q.1 = .ok q.2 := by decide +kernel
def L5 : List (Nat × Instr × Nat) := [(0, .aload_n 0, 1), (1, .invokevirtual 7, 3), (4, .astore_n 3, 1), (5, .lload_n 1, 1), (6, .lconst 0, 1), (7, .lcmp, 1), (8, .ifCond .ge 7, 3), (15, .aload_n 3, 1), (16, .invokevirtual 15, 3), (19, .lload_n 1, 1), (20, .lcmp, 1), (21, .ifCond .ne 10, 3), (24, .aload_n 3, 1), (25, .invokevirtual 21, 3), (28, .ifCond .eq 7, 3), (35, .ldc2_w 25, 3), (38, .lload_n 1, 1), (39, .lmul, 1), (40, .ldc2_w 27, 3), (43, .invokestatic 29, 3), (46, .lreturn, 1)]
theorem D5 : ∀ q ∈ L5, decode method_2_code q.1 = .ok q.2 := by decide +kernel
def L6 : List (Nat × Instr × Nat) := [(0, .aload_n 0, 1), (1, .getfield 13, 3), (4, .astore_n 1, 1), (5, .aload_n 0, 1), (6, .getfield 13, 3), (9, .ldc2_w 16, 3), (12, .invokevirtual 18, 3), (15, .astore_n 2, 1), (16, .aload_n 0, 1), (17, .aload_n 2, 1), (18, .getstatic 24, 3), (21, .invokevirtual 27, 3), (24, .ifCond .ge 7, 3), (27, .aload_n 2, 1), (28, .goto 6, 3), (34, .putfield 13, 3), (37, .aload_n 1, 1), (38, .areturn, 1), (31, .getstatic 24, 3)]
theorem D6 : ∀ q ∈ L6, decode prog_45_method_2_code q.1 = .ok q.2 := by decide +kernel
def L7 : List (Nat × Instr × Nat) := [(0, .lload_n 1, 1), (1, .lconst 0, 1), (2, .lcmp, 1), (3, .ifCond .ne 7, 3), (10, .lload_n 1, 1), (11, .lconst 1, 1), (12, .lcmp, 1), (13, .ifCond .ne 5, 3), (18, .aload_n 0, 1), (19, .invokevirtual 309, 3), (22, .lload_n 1, 1), (23, .invokestatic 313, 3), (26, .invokevirtual 319, 3), (29, .invokestatic 323, 3), (32, .areturn, 1)]
theorem D7 : ∀ q ∈ L7, decode jdk_2316_method_44_code q.1 = .ok q.2 := by decide +kernel
def L8 : List (Nat × Instr × Nat) := [(0, .aload_n 0, 1), (1, .getfield 221, 3), (4, .invokestatic 313, 3), (7, .aload_n 0, 1), (8, .getfield 224, 3), (11, .i2l, 1), (12, .bipush 9, 2), (14, .invokestatic 347, 3), (17, .invokevirtual 350, 3), (20, .areturn, 1)]
theorem D8 : ∀ q ∈ L8, decode jdk_2316_method_47_code q.1 = .ok q.2 := by decide +kernel
def L9 : List (Nat × Instr × Nat) := [(0, .lload_n 0, 1), (1, .lconst 0, 1), (2, .lcmp, 1), (3, .ifCond .lt 20, 3), (6, .lload_n 0, 1), (7, .getstatic 246, 3), (10, .arraylength, 1), (11, .i2l, 1), (12, .lcmp, 1), (13, .ifCond .ge 10, 3), (16, .getstatic 246, 3), (19, .lload_n 0, 1), (20, .l2i, 1), (21, .aaload, 1), (22, .areturn, 1), (23, .lload_n 0, 1), (24, .ldc2_w 125, 3), (27, .lcmp, 1), (28, .ifCond .eq 15, 3), (31, .new 3, 3), (34, .dup, 1), (35, .aconst_null, 1), (36, .lload_n 0, 1), (37, .iconst 0, 1), (38, .iconst 0, 1), (39, .invokespecial 243, 3), (42, .areturn, 1)]
theorem D9 : ∀ q ∈ L9, decode jdk_17_method_21_code q.1 = .ok q.2 := by decide +kernel
def L10 : List (Nat × Instr × Nat) := [(0, .iload_n 2, 1), (1, .ifCond .ne 8, 3), (9, .lload_n 0, 1), (10, .lconst 0, 1), (11, .lcmp, 1), (12, .ifCond .ne 8, 3), (15, .iload_n 2, 1), (16, .invokestatic 239, 3), (19, .areturn, 1), (20, .new 3, 3), (23, .dup, 1), (24, .lload_n 0, 1), (25, .ldc2_w 125, 3), (28, .lcmp, 1), (29, .ifCond .ne 9, 3), (38, .aconst_null, 1), (39, .lload_n 0, 1), (40, .iload_n 2, 1), (41, .iconst 0, 1), (42, .invokespecial 243, 3), (45, .areturn, 1)]
theorem D10 : ∀ q ∈ L10, decode jdk_17_method_20_code q.1 = .ok q.2 := by decide +kernel
def L11 : List (Nat × Instr × Nat) := [(0, .iload_n 0, 1), (1, .ifCond .lt 17, 3), (4, .iload_n 0, 1), (5, .getstatic 250, 3), (8, .arraylength, 1), (9, .if_icmp .ge 9, 3), (12, .getstatic 250, 3), (15, .iload_n 0, 1), (16, .aaload, 1), (17, .areturn, 1)]
theorem D11 : ∀ q ∈ L11, decode jdk_17_method_24_code q.1 = .ok q.2 := by decide +kernel
def L12 : List (Nat × Instr × Nat) := [(0, .aload_n 0, 1), (1, .getfield 24, 3), (4, .ldc2_w 125, 3), (7, .lcmp, 1), (8, .ifCond .eq 54, 3), (11, .aload_n 1, 1), (12, .getfield 24, 3), (15, .ldc2_w 125, 3), (18, .lcmp, 1), (19, .ifCond .eq 23, 3), (22, .aload_n 0, 1), (23, .getfield 24, 3), (26, .aload_n 0, 1), (27, .getfield 17, 3), (30, .aload_n 1, 1), (31, .getfield 24, 3), (34, .aload_n 1, 1), (35, .getfield 17, 3), (38, .invokestatic 257, 3), (41, .areturn, 1)]
theorem D12 : ∀ q ∈ L12, decode jdk_17_method_26_code q.1 = .ok q.2 := by decide +kernel
def L13 : List (Nat × Instr × Nat) := [(0, .iload_n 2, 1), (1, .i2l, 1), (2, .iload 5, 2), (4, .i2l, 1), (5, .lsub, 1), (6, .lstore 6, 2), (8, .lload 6, 2), (10, .lconst 0, 1), (11, .lcmp, 1), (12, .ifCond .ne 10, 3), (22, .lload 6, 2), (24, .lconst 0, 1), (25, .lcmp, 1), (26, .ifCond .ge 85, 3), (29, .lload_n 0, 1), (30, .lload 6, 2), (32, .lneg, 1), (33, .invokestatic 994, 3), (36, .istore 8, 2), (38, .lload_n 0, 1), (39, .iload 8, 2), (41, .invokestatic 599, 3), (44, .lstore 9, 2), (46, .lload 9, 2), (48, .ldc2_w 125, 3), (51, .lcmp, 1), (52, .ifCond .eq 12, 3), (55, .lload 9, 2), (57, .lload_n 3, 1), (58, .iload 5, 2), (60, .invokestatic 1000, 3), (63, .areturn, 1)]
theorem D13 : ∀ q ∈ L13, decode jdk_17_method_134_code q.1 = .ok q.2 := by decide +kernel
def L14 : List (Nat × Instr × Nat) := [(0, .lload_n 2, 1), (1, .l2i, 1), (2, .istore 4, 2), (4, .iload 4, 2), (6, .i2l, 1), (7, .lload_n 2, 1), (8, .lcmp, 1), (9, .ifCond .eq 50, 3), (59, .iload 4, 2), (61, .ireturn, 1)]
theorem D14 : ∀ q ∈ L14, decode jdk_17_method_113_code q.1 = .ok q.2 := by decide +kernel
def L15 : List (Nat × Instr × Nat) := [(0, .lload_n 0, 1), (1, .lconst 0, 1), (2, .lcmp, 1), (3, .ifCond .eq 7, 3), (6, .iload_n 2, 1), (7, .ifCond .gt 5, 3), (12, .getstatic 95, 3), (15, .astore_n 3, 1), (16, .getstatic 825, 3), (19, .astore 4, 2), (21, .iload_n 2, 1), (22, .aload_n 3, 1), (23, .arraylength, 1), (24, .if_icmp .ge 41, 3), (27, .iload_n 2, 1), (28, .aload 4, 2), (30, .arraylength, 1), (31, .if_icmp .ge 34, 3), (34, .aload_n 3, 1), (35, .iload_n 2, 1), (36, .laload, 1), (37, .lstore 5, 2), (39, .lload_n 0, 1), (40, .lconst 1, 1), (41, .lcmp, 1), (42, .ifCond .ne 6, 3), (45, .lload 5, 2), (47, .lreturn, 1), (48, .lload_n 0, 1), (49, .invokestatic 440, 3), (52, .aload 4, 2), (54, .iload_n 2, 1), (55, .laload, 1), (56, .lcmp, 1), (57, .ifCond .gt 8, 3), (60, .lload_n 0, 1), (61, .lload 5, 2), (63, .lmul, 1), (64, .lreturn, 1)]
theorem D15 : ∀ q ∈ L15, decode jdk_17_method_97_code q.1 = .ok q.2 := by decide +kernel
def L24 : List (Nat × Instr × Nat) := [(0, .lload_n 0, 1), (1, .lconst 0, 1), (2, .lcmp, 1), (3, .ifCond .ge 8, 3), (11, .lload_n 0, 1), (12, .lreturn, 1)]
theorem D24 : ∀ q ∈ L24, decode jdk_29_method_61_code q.1 = .ok q.2 := by decide +kernel
def L16 : List (Nat × Instr × Nat) := [(0, .lload_n 0, 1), (1, .lload_n 2, 1), (2, .invokestatic 996, 3), (5, .lstore 5, 2), (7, .lload 5, 2), (9, .ldc2_w 125, 3), (12, .lcmp, 1), (13, .ifCond .eq 11, 3), (16, .lload 5, 2), (18, .iload 4, 2), (20, .invokestatic 328, 3), (23, .areturn, 1)]
theorem D16 : ∀ q ∈ L16, decode jdk_17_method_133_code q.1 = .ok q.2 := by decide +kernel
def L17 : List (Nat × Instr × Nat) := [(0, .lload_n 0, 1), (1, .lload_n 2, 1), (2, .ladd, 1), (3, .lstore 4, 2), (5, .lload 4, 2), (7, .lload_n 0, 1), (8, .lxor, 1), (9, .lload 4, 2), (11, .lload_n 2, 1), (12, .lxor, 1), (13, .land, 1), (14, .lconst 0, 1), (15, .lcmp, 1), (16, .ifCond .lt 6, 3), (19, .lload 4, 2), (21, .lreturn, 1)]
theorem D17 : ∀ q ∈ L17, decode jdk_17_method_132_code q.1 = .ok q.2 := by decide +kernel
def L20 : List (Nat × Instr × Nat) := [(0, .aload_n 0, 1), (1, .aload_n 0, 1), (2, .getfield 17, 3), (5, .i2l, 1), (6, .aload_n 1, 1), (7, .getfield 17, 3), (10, .i2l, 1), (11, .ladd, 1), (12, .invokevirtual 325, 3), (15, .istore_n 2, 1), (16, .aload_n 0, 1), (17, .getfield 24, 3), (20, .ldc2_w 125, 3), (23, .lcmp, 1), (24, .ifCond .eq 40, 3), (27, .aload_n 1, 1), (28, .getfield 24, 3), (31, .ldc2_w 125, 3), (34, .lcmp, 1), (35, .ifCond .eq 16, 3), (38, .aload_n 0, 1), (39, .getfield 24, 3), (42, .aload_n 1, 1), (43, .getfield 24, 3), (46, .iload_n 2, 1), (47, .invokestatic 342, 3), (50, .areturn, 1)]
theorem D20 : ∀ q ∈ L20, decode jdk_17_method_31_code q.1 = .ok q.2 := by decide +kernel
def L21 : List (Nat × Instr × Nat) := [(0, .lload_n 1, 1), (1, .l2i, 1), (2, .istore_n 3, 1), (3, .iload_n 3, 1), (4, .i2l, 1), (5, .lload_n 1, 1), (6, .lcmp, 1), (7, .ifCond .eq 69, 3), (76, .iload_n 3, 1), (77, .ireturn, 1)]
theorem D21 : ∀ q ∈ L21, decode jdk_17_method_106_code q.1 = .ok q.2 := by decide +kernel
def L22 : List (Nat × Instr × Nat) := [(0, .lload_n 0, 1), (1, .lload_n 2, 1), (2, .invokestatic 1055, 3), (5, .lstore 5, 2), (7, .lload 5, 2), (9, .ldc2_w 125, 3), (12, .lcmp, 1), (13, .ifCond .eq 11, 3), (16, .lload 5, 2), (18, .iload 4, 2), (20, .invokestatic 328, 3), (23, .areturn, 1)]
theorem D22 : ∀ q ∈ L22, decode jdk_17_method_157_code q.1 = .ok q.2 := by decide +kernel
def L23 : List (Nat × Instr × Nat) := [(0, .lload_n 0, 1), (1, .lload_n 2, 1), (2, .lmul, 1), (3, .lstore 4, 2), (5, .lload_n 0, 1), (6, .invokestatic 440, 3), (9, .lstore 6, 2), (11, .lload_n 2, 1), (12, .invokestatic 440, 3), (15, .lstore 8, 2), (17, .lload 6, 2), (19, .lload 8, 2), (21, .lor, 1), (22, .bipush 31, 2), (24, .lushr, 1), (25, .lconst 0, 1), (26, .lcmp, 1), (27, .ifCond .eq 18, 3), (45, .lload 4, 2), (47, .lreturn, 1), (30, .lload_n 2, 1), (31, .lconst 0, 1), (32, .lcmp, 1), (33, .ifCond .eq 12, 3), (36, .lload 4, 2), (38, .lload_n 2, 1), (39, .ldiv, 1), (40, .lload_n 0, 1), (41, .lcmp, 1), (42, .ifCond .ne 6, 3)]
theorem D23 : ∀ q ∈ L23, decode jdk_17_method_156_code q.1 = .ok q.2 := by decide +kernel
def L25 : List (Nat × Instr × Nat) := [(0, .aload_n 0, 1), (1, .bipush 9, 2), (3, .invokevirtual 353, 3), (6, .invokevirtual 357, 3), (9, .astore_n 1, 1), (10, .aload_n 1, 1), (11, .getstatic 361, 3), (14, .invokevirtual 365, 3), (17, .astore_n 2, 1), (18, .aload_n 2, 1), (19, .iconst 0, 1), (20, .aaload, 1), (21, .invokevirtual 371, 3), (24, .bipush 63, 2), (26, .if_icmp .le 31, 3), (57, .aload_n 2, 1), (58, .iconst 0, 1), (59, .aaload, 1), (60, .invokevirtual 376, 3), (63, .aload_n 2, 1), (64, .iconst 1, 1), (65, .aaload, 1), (66, .invokevirtual 379, 3), (69, .i2l, 1), (70, .invokestatic 176, 3), (73, .areturn, 1)]
theorem D25 : ∀ q ∈ L25, decode jdk_2316_method_48_code q.1 = .ok q.2 := by decide +kernel
def L26 : List (Nat × Instr × Nat) := [(0, .iload_n 1, 1), (1, .ifCond .ne 12, 3), (13, .aload_n 0, 1), (14, .aload_n 0, 1), (15, .getfield 17, 3), (18, .i2l, 1), (19, .iload_n 1, 1), (20, .i2l, 1), (21, .lsub, 1), (22, .invokevirtual 325, 3), (25, .istore_n 2, 1), (26, .new 3, 3), (29, .dup, 1), (30, .aload_n 0, 1), (31, .getfield 28, 3), (34, .aload_n 0, 1), (35, .getfield 24, 3), (38, .iload_n 2, 1), (39, .iconst 0, 1), (40, .invokespecial 243, 3), (43, .astore_n 3, 1), (44, .aload_n 3, 1), (45, .getfield 17, 3), (48, .ifCond .ge 13, 3), (61, .aload_n 3, 1), (62, .areturn, 1)]
theorem D26 : ∀ q ∈ L26, decode jdk_17_method_67_code q.1 = .ok q.2 := by decide +kernel
def L27 : List (Nat × Instr × Nat) := [(0, .aload_n 0, 1), (1, .iconst 0, 1), (2, .bipush 7, 2), (4, .invokevirtual 419, 3), (7, .invokevirtual 302, 3), (10, .areturn, 1)]
theorem D27 : ∀ q ∈ L27, decode jdk_17_method_81_code q.1 = .ok q.2 := by decide +kernel
def L28 : List (Nat × Instr × Nat) := [(0, .iload_n 2, 1), (1, .ifCond .lt 9, 3), (4, .iload_n 2, 1), (5, .bipush 7, 2), (7, .if_icmp .le 14, 3), (21, .aload_n 0, 1), (22, .getfield 17, 3), (25, .istore_n 3, 1), (26, .iload_n 1, 1), (27, .iload_n 3, 1), (28, .if_icmp .ne 5, 3), (31, .aload_n 0, 1), (32, .areturn, 1)]
theorem D28 : ∀ q ∈ L28, decode jdk_17_method_64_code q.1 = .ok q.2 := by decide +kernel
def L29 : List (Nat × Instr × Nat) := [(0, .aload_n 0, 1), (1, .getfield 28, 3), (4, .ifnonnull 11, 3), (7, .aload_n 0, 1), (8, .getfield 24, 3), (11, .invokestatic 193, 3), (14, .areturn, 1)]
theorem D29 : ∀ q ∈ L29, decode jdk_17_method_99_code q.1 = .ok q.2 := by decide +kernel
def L30 : List (Nat × Instr × Nat) := [(0, .lload_n 0, 1), (1, .lconst 0, 1), (2, .lcmp, 1), (3, .ifCond .ne 7, 3), (10, .lload_n 0, 1), (11, .lconst 0, 1), (12, .lcmp, 1), (13, .ifCond .le 18, 3), (16, .lload_n 0, 1), (17, .ldc2_w 345, 3), (20, .lcmp, 1), (21, .ifCond .gt 10, 3), (31, .lload_n 0, 1), (32, .lconst 0, 1), (33, .lcmp, 1), (34, .ifCond .ge 19, 3), (53, .new 23, 3), (56, .dup, 1), (57, .lload_n 0, 1), (58, .invokespecial 356, 3), (61, .areturn, 1)]
theorem D30 : ∀ q ∈ L30, decode jdk_2097_method_29_code q.1 = .ok q.2 := by decide +kernel
def L31 : List (Nat × Instr × Nat) := [(0, .aload_n 0, 1), (1, .invokespecial 3, 3), (4, .lload_n 1, 1), (5, .lconst 0, 1), (6, .lcmp, 1), (7, .ifCond .ge 14, 3), (21, .aload_n 0, 1), (22, .iconst 1, 1), (23, .putfield 32, 3), (26, .lload_n 1, 1), (27, .bipush 32, 2), (29, .lushr, 1), (30, .l2i, 1), (31, .istore_n 3, 1), (32, .iload_n 3, 1), (33, .ifCond .ne 21, 3), (36, .aload_n 0, 1), (37, .iconst 1, 1), (38, .newarray .int, 2), (40, .putfield 28, 3), (43, .aload_n 0, 1), (44, .getfield 28, 3), (47, .iconst 0, 1), (48, .lload_n 1, 1), (49, .l2i, 1), (50, .iastore, 1), (51, .goto 25, 3), (76, .return_, 1), (54, .aload_n 0, 1), (55, .iconst 2, 1), (56, .newarray .int, 2), (58, .putfield 28, 3), (61, .aload_n 0, 1), (62, .getfield 28, 3), (65, .iconst 0, 1), (66, .iload_n 3, 1), (67, .iastore, 1), (68, .aload_n 0, 1), (69, .getfield 28, 3), (72, .iconst 1, 1), (73, .lload_n 1, 1), (74, .l2i, 1), (75, .iastore, 1)]
theorem D31 : ∀ q ∈ L31, decode jdk_2097_method_30_code q.1 = .ok q.2 := by decide +kernel
def L32 : List (Nat × Instr × Nat) := [(0, .aload_n 1, 1), (1, .getfield 28, 3), (4, .arraylength, 1), (5, .bipush 80, 2), (7, .if_icmp .lt 19, 3), (26, .aload_n 0, 1), (27, .aload_n 1, 1), (28, .invokevirtual 551, 3), (31, .areturn, 1)]
theorem D32 : ∀ q ∈ L32, decode jdk_2097_method_63_code q.1 = .ok q.2 := by decide +kernel
def L33 : List (Nat × Instr × Nat) := [(0, .iconst 2, 1), (1, .anewarray 23, 3), (4, .astore_n 2, 1), (5, .new 541, 3), (8, .dup, 1), (9, .invokespecial 543, 3), (12, .astore_n 3, 1), (13, .new 541, 3), (16, .dup, 1), (17, .aload_n 0, 1), (18, .getfield 28, 3), (21, .invokespecial 544, 3), (24, .astore 4, 2), (26, .new 541, 3), (29, .dup, 1), (30, .aload_n 1, 1), (31, .getfield 28, 3), (34, .invokespecial 544, 3), (37, .astore 5, 2), (39, .aload 4, 2), (41, .aload 5, 2), (43, .aload_n 3, 1), (44, .invokevirtual 558, 3), (47, .astore 6, 2), (49, .aload_n 2, 1), (50, .iconst 0, 1), (51, .aload_n 3, 1), (52, .aload_n 0, 1), (53, .getfield 32, 3), (56, .aload_n 1, 1), (57, .getfield 32, 3), (60, .if_icmp .ne 7, 3), (63, .iconst 1, 1), (64, .goto 4, 3), (68, .invokevirtual 548, 3), (71, .aastore, 1), (72, .aload_n 2, 1), (73, .iconst 1, 1), (74, .aload 6, 2), (76, .aload_n 0, 1), (77, .getfield 32, 3), (80, .invokevirtual 548, 3), (83, .aastore, 1), (84, .aload_n 2, 1), (85, .areturn, 1)]
theorem D33 : ∀ q ∈ L33, decode jdk_2097_method_64_code q.1 = .ok q.2 := by decide +kernel
def L34 : List (Nat × Instr × Nat) := [(0, .aload_n 0, 1), (1, .invokespecial 5, 3), (4, .aload_n 0, 1), (5, .iconst 0, 1), (6, .putfield 11, 3), (9, .aload_n 0, 1), (10, .iconst 1, 1), (11, .newarray .int, 2), (13, .putfield 17, 3), (16, .aload_n 0, 1), (17, .iconst 0, 1), (18, .putfield 21, 3), (21, .return_, 1)]
theorem D34 : ∀ q ∈ L34, decode jdk_2101_method_1_code q.1 = .ok q.2 := by decide +kernel
def L35 : List (Nat × Instr × Nat) := [(0, .aload_n 0, 1), (1, .invokespecial 5, 3), (4, .aload_n 0, 1), (5, .iconst 0, 1), (6, .putfield 11, 3), (9, .aload_n 0, 1), (10, .aload_n 1, 1), (11, .putfield 17, 3), (14, .aload_n 0, 1), (15, .aload_n 1, 1), (16, .arraylength, 1), (17, .putfield 21, 3), (20, .return_, 1)]
theorem D35 : ∀ q ∈ L35, decode jdk_2101_method_3_code q.1 = .ok q.2 := by decide +kernel
def L36 : List (Nat × Instr × Nat) := [(0, .aload_n 0, 1), (1, .aload_n 1, 1), (2, .aload_n 2, 1), (3, .iconst 1, 1), (4, .invokevirtual 163, 3), (7, .areturn, 1)]
theorem D36 : ∀ q ∈ L36, decode jdk_2101_method_56_code q.1 = .ok q.2 := by decide +kernel
def L37 : List (Nat × Instr × Nat) := [(0, .aload_n 1, 1), (1, .getfield 21, 3), (4, .ifCond .ne 13, 3), (17, .aload_n 0, 1), (18, .getfield 21, 3), (21, .ifCond .ne 29, 3), (50, .aload_n 0, 1), (51, .aload_n 1, 1), (52, .invokevirtual 142, 3), (55, .istore 4, 2), (57, .iload 4, 2), (59, .ifCond .ge 30, 3), (89, .iload 4, 2), (91, .ifCond .ne 36, 3), (127, .aload_n 2, 1), (128, .invokevirtual 149, 3), (131, .aload_n 1, 1), (132, .getfield 21, 3), (135, .iconst 1, 1), (136, .if_icmp .ne 48, 3), (139, .aload_n 0, 1), (140, .aload_n 1, 1), (141, .getfield 17, 3), (144, .aload_n 1, 1), (145, .getfield 11, 3), (148, .iaload, 1), (149, .aload_n 2, 1), (150, .invokevirtual 178, 3), (153, .istore 5, 2), (155, .iload_n 3, 1), (156, .ifCond .eq 26, 3), (159, .iload 5, 2), (161, .ifCond .ne 11, 3), (164, .new 12, 3), (167, .dup, 1), (168, .invokespecial 177, 3), (171, .areturn, 1)]
theorem D37 : ∀ q ∈ L37, decode jdk_2101_method_57_code q.1 = .ok q.2 := by decide +kernel
def L38 : List (Nat × Instr × Nat) := [(0, .aload_n 1, 1), (1, .getfield 21, 3), (4, .istore_n 2, 1), (5, .aload_n 0, 1), (6, .getfield 21, 3), (9, .iload_n 2, 1), (10, .if_icmp .ge 5, 3), (15, .aload_n 0, 1), (16, .getfield 21, 3), (19, .iload_n 2, 1), (20, .if_icmp .le 5, 3), (25, .aload_n 1, 1), (26, .getfield 17, 3), (29, .astore_n 3, 1), (30, .aload_n 0, 1), (31, .getfield 11, 3), (34, .istore 4, 2), (36, .aload_n 1, 1), (37, .getfield 11, 3), (40, .istore 5, 2), (42, .iload 4, 2), (44, .aload_n 0, 1), (45, .getfield 21, 3), (48, .aload_n 0, 1), (49, .getfield 11, 3), (52, .iadd, 1), (53, .if_icmp .ge 51, 3), (56, .aload_n 0, 1), (57, .getfield 17, 3), (60, .iload 4, 2), (62, .iaload, 1), (63, .ldc 88, 2), (65, .iadd, 1), (66, .istore 6, 2), (68, .aload_n 3, 1), (69, .iload 5, 2), (71, .iaload, 1), (72, .ldc 88, 2), (74, .iadd, 1), (75, .istore 7, 2), (77, .iload 6, 2), (79, .iload 7, 2), (81, .if_icmp .ge 5, 3), (86, .iload 6, 2), (88, .iload 7, 2), (90, .if_icmp .le 5, 3), (93, .iconst 1, 1), (94, .ireturn, 1), (23, .iconst 1, 1), (24, .ireturn, 1)]
theorem D38 : ∀ q ∈ L38, decode jdk_2101_method_15_code q.1 = .ok q.2 := by decide +kernel
def L39 : List (Nat × Instr × Nat) := [(0, .aload_n 0, 1), (1, .aload_n 0, 1), (2, .iconst 0, 1), (3, .dup_x1, 1), (4, .putfield 21, 3), (7, .putfield 11, 3), (10, .iconst 0, 1), (11, .istore_n 1, 1), (12, .aload_n 0, 1), (13, .getfield 17, 3), (16, .arraylength, 1), (17, .istore_n 2, 1), (18, .iload_n 1, 1), (19, .iload_n 2, 1), (20, .if_icmp .ge 16, 3), (23, .aload_n 0, 1), (24, .getfield 17, 3), (27, .iload_n 1, 1), (28, .iconst 0, 1), (29, .iastore, 1), (30, .iinc 1 1, 3), (33, .goto (-15), 3), (36, .return_, 1)]
theorem D39 : ∀ q ∈ L39, decode jdk_2101_method_13_code q.1 = .ok q.2 := by decide +kernel
def L40 : List (Nat × Instr × Nat) := [(0, .iload_n 1, 1), (1, .i2l, 1), (2, .ldc2_w 52, 3), (5, .land, 1), (6, .lstore_n 3, 1), (7, .aload_n 0, 1), (8, .getfield 21, 3), (11, .iconst 1, 1), (12, .if_icmp .ne 67, 3), (15, .aload_n 0, 1), (16, .getfield 17, 3), (19, .aload_n 0, 1), (20, .getfield 11, 3), (23, .iaload, 1), (24, .i2l, 1), (25, .ldc2_w 52, 3), (28, .land, 1), (29, .lstore 5, 2), (31, .lload 5, 2), (33, .lload_n 3, 1), (34, .ldiv, 1), (35, .l2i, 1), (36, .istore 7, 2), (38, .lload 5, 2), (40, .iload 7, 2), (42, .i2l, 1), (43, .lload_n 3, 1), (44, .lmul, 1), (45, .lsub, 1), (46, .l2i, 1), (47, .istore 8, 2), (49, .aload_n 2, 1), (50, .getfield 17, 3), (53, .iconst 0, 1), (54, .iload 7, 2), (56, .iastore, 1), (57, .aload_n 2, 1), (58, .iload 7, 2), (60, .ifCond .ne 7, 3), (67, .iconst 1, 1), (68, .putfield 21, 3), (71, .aload_n 2, 1), (72, .iconst 0, 1), (73, .putfield 11, 3), (76, .iload 8, 2), (78, .ireturn, 1), (79, .aload_n 2, 1), (80, .getfield 17, 3), (83, .arraylength, 1), (84, .aload_n 0, 1), (85, .getfield 21, 3), (88, .if_icmp .ge 13, 3), (91, .aload_n 2, 1), (92, .aload_n 0, 1), (93, .getfield 21, 3), (96, .newarray .int, 2), (98, .putfield 17, 3), (101, .aload_n 2, 1), (102, .iconst 0, 1), (103, .putfield 11, 3), (106, .aload_n 2, 1), (107, .aload_n 0, 1), (108, .getfield 21, 3), (111, .putfield 21, 3), (114, .iload_n 1, 1), (115, .invokestatic 152, 3), (118, .istore 5, 2), (120, .aload_n 0, 1), (121, .getfield 17, 3), (124, .aload_n 0, 1), (125, .getfield 11, 3), (128, .iaload, 1), (129, .istore 6, 2), (131, .iload 6, 2), (133, .i2l, 1), (134, .ldc2_w 52, 3), (137, .land, 1), (138, .lstore 7, 2), (140, .lload 7, 2), (142, .lload_n 3, 1), (143, .lcmp, 1), (144, .ifCond .ge 13, 3), (147, .aload_n 2, 1), (148, .getfield 17, 3), (151, .iconst 0, 1), (152, .iconst 0, 1), (153, .iastore, 1), (154, .goto 38, 3), (192, .aload_n 0, 1), (193, .getfield 21, 3), (196, .istore 9, 2), (198, .iinc 9 (-1), 3), (201, .iload 9, 2), (203, .ifCond .le 112, 3), (206, .lload 7, 2), (208, .bipush 32, 2), (210, .lshl, 1), (211, .aload_n 0, 1), (212, .getfield 17, 3), (215, .aload_n 0, 1), (216, .getfield 11, 3), (219, .aload_n 0, 1), (220, .getfield 21, 3), (223, .iadd, 1), (224, .iload 9, 2), (226, .isub, 1), (227, .iaload, 1), (228, .i2l, 1), (229, .ldc2_w 52, 3), (232, .land, 1), (233, .lor, 1), (234, .lstore 10, 2), (236, .lload 10, 2), (238, .lconst 0, 1), (239, .lcmp, 1), (240, .ifCond .lt 24, 3), (243, .lload 10, 2), (245, .lload_n 3, 1), (246, .ldiv, 1), (247, .l2i, 1), (248, .istore 12, 2), (250, .lload 10, 2), (252, .iload 12, 2), (254, .i2l, 1), (255, .lload_n 3, 1), (256, .lmul, 1), (257, .lsub, 1), (258, .l2i, 1), (259, .istore 6, 2), (261, .goto 28, 3), (289, .aload_n 2, 1), (290, .getfield 17, 3), (293, .aload_n 0, 1), (294, .getfield 21, 3), (297, .iload 9, 2), (299, .isub, 1), (300, .iload 12, 2), (302, .iastore, 1), (303, .iload 6, 2), (305, .i2l, 1), (306, .ldc2_w 52, 3), (309, .land, 1), (310, .lstore 7, 2), (312, .goto (-114), 3), (315, .aload_n 2, 1), (316, .invokevirtual 64, 3), (319, .iload 5, 2), (321, .ifCond .le 8, 3), (324, .iload 6, 2), (326, .iload_n 1, 1), (327, .irem, 1), (328, .ireturn, 1)]
theorem D40 : ∀ q ∈ L40, decode jdk_2101_method_53_code q.1 = .ok q.2 := by decide +kernel
def L41 : List (Nat × Instr × Nat) := [(0, .aload_n 0, 1), (1, .getfield 21, 3), (4, .ifCond .eq 7, 3), (7, .iload_n 1, 1), (8, .ifCond .ne 7, 3), (15, .new 1, 3), (18, .dup, 1), (19, .aload_n 0, 1), (20, .invokevirtual 58, 3), (23, .iload_n 1, 1), (24, .invokespecial 62, 3), (27, .areturn, 1), (11, .getstatic 54, 3), (14, .areturn, 1)]
theorem D41 : ∀ q ∈ L41, decode jdk_2101_method_9_code q.1 = .ok q.2 := by decide +kernel
def L42 : List (Nat × Instr × Nat) := [(0, .aload_n 0, 1), (1, .getfield 11, 3), (4, .ifCond .gt 15, 3), (7, .aload_n 0, 1), (8, .getfield 17, 3), (11, .arraylength, 1), (12, .aload_n 0, 1), (13, .getfield 21, 3), (16, .if_icmp .eq 48, 3), (64, .aload_n 0, 1), (65, .getfield 17, 3), (68, .areturn, 1), (19, .aload_n 0, 1), (20, .getfield 17, 3), (23, .aload_n 0, 1), (24, .getfield 11, 3), (27, .aload_n 0, 1), (28, .getfield 11, 3), (31, .aload_n 0, 1), (32, .getfield 21, 3), (35, .iadd, 1), (36, .invokestatic 33, 3), (39, .astore_n 1, 1), (40, .aload_n 0, 1), (41, .getfield 17, 3), (44, .iconst 0, 1), (45, .invokestatic 37, 3), (48, .aload_n 0, 1), (49, .iconst 0, 1), (50, .putfield 11, 3), (53, .aload_n 0, 1), (54, .aload_n 1, 1), (55, .arraylength, 1), (56, .putfield 21, 3), (59, .aload_n 0, 1), (60, .aload_n 1, 1), (61, .putfield 17, 3)]
theorem D42 : ∀ q ∈ L42, decode jdk_2101_method_7_code q.1 = .ok q.2 := by decide +kernel
def L43 : List (Nat × Instr × Nat) := [(0, .aload_n 0, 1), (1, .invokespecial 3, 3), (4, .aload_n 0, 1), (5, .aload_n 1, 1), (6, .arraylength, 1), (7, .ifCond .ne 7, 3), (14, .iload_n 2, 1), (15, .putfield 32, 3), (18, .aload_n 0, 1), (19, .aload_n 1, 1), (20, .putfield 28, 3), (23, .aload_n 0, 1), (24, .getfield 28, 3), (27, .arraylength, 1), (28, .ldc 43, 2), (30, .if_icmp .lt 7, 3), (37, .return_, 1)]
theorem D43 : ∀ q ∈ L43, decode jdk_2097_method_25_code q.1 = .ok q.2 := by decide +kernel
def L50 : List (Nat × Instr × Nat) := [(0, .iconst 0, 1), (1, .istore_n 1, 1), (2, .aload_n 0, 1), (3, .iconst 0, 1), (4, .invokevirtual 736, 3), (7, .istore_n 1, 1), (8, .iload_n 1, 1), (9, .ireturn, 1)]
theorem D50 : ∀ q ∈ L50, decode jdk_2097_method_135_code q.1 = .ok q.2 := by decide +kernel
def L62 : List (Nat × Instr × Nat) := [(0, .aload_n 0, 1), (1, .getfield 21, 3), (4, .ifCond .ne 9, 3), (13, .aload_n 0, 1), (14, .getfield 11, 3), (17, .istore_n 1, 1), (18, .aload_n 0, 1), (19, .getfield 17, 3), (22, .iload_n 1, 1), (23, .iaload, 1), (24, .ifCond .eq 4, 3), (28, .iload_n 1, 1), (29, .aload_n 0, 1), (30, .getfield 21, 3), (33, .iadd, 1), (34, .istore_n 2, 1), (35, .iinc 1 1, 3), (38, .iload_n 1, 1), (39, .iload_n 2, 1), (40, .if_icmp .ge 12, 3), (43, .aload_n 0, 1), (44, .getfield 17, 3), (47, .iload_n 1, 1), (48, .iaload, 1), (49, .ifCond .eq (-14), 3), (52, .iload_n 1, 1), (53, .aload_n 0, 1), (54, .getfield 11, 3), (57, .isub, 1), (58, .istore_n 3, 1), (59, .aload_n 0, 1), (60, .dup, 1), (61, .getfield 21, 3), (64, .iload_n 3, 1), (65, .isub, 1), (66, .putfield 21, 3), (69, .aload_n 0, 1), (70, .aload_n 0, 1), (71, .getfield 21, 3), (74, .ifCond .ne 7, 3), (81, .aload_n 0, 1), (82, .getfield 11, 3), (85, .iload_n 3, 1), (86, .iadd, 1), (87, .putfield 11, 3), (90, .return_, 1)]
theorem D62 : ∀ q ∈ L62, decode jdk_2101_method_21_code q.1 = .ok q.2 := by decide +kernel
def L63 : List (Nat × Instr × Nat) := [(0, .iload_n 1, 1), (1, .ifCond .ne 9, 3), (10, .aload_n 0, 1), (11, .iload_n 1, 1), (12, .iload_n 2, 1), (13, .invokestatic 351, 3), (16, .areturn, 1)]
theorem D63 : ∀ q ∈ L63, decode jdk_65_method_136_code q.1 = .ok q.2 := by decide +kernel
def L64 : List (Nat × Instr × Nat) := [(0, .iload_n 1, 1), (1, .iload_n 2, 1), (2, .invokestatic 343, 3), (5, .iload_n 2, 1), (6, .iload_n 1, 1), (7, .isub, 1), (8, .istore_n 3, 1), (9, .iload_n 3, 1), (10, .newarray .int, 2), (12, .astore 4, 2), (14, .aload_n 0, 1), (15, .iload_n 1, 1), (16, .aload 4, 2), (18, .iconst 0, 1), (19, .aload_n 0, 1), (20, .arraylength, 1), (21, .iload_n 1, 1), (22, .isub, 1), (23, .iload_n 3, 1), (24, .invokestatic 304, 3), (27, .invokestatic 150, 3), (30, .aload 4, 2), (32, .areturn, 1)]
theorem D64 : ∀ q ∈ L64, decode jdk_65_method_137_code q.1 = .ok q.2 := by decide +kernel
def L65 : List (Nat × Instr × Nat) := [(0, .iload_n 1, 1), (1, .iload_n 0, 1), (2, .if_icmp .ge 35, 3), (37, .return_, 1)]
theorem D65 : ∀ q ∈ L65, decode jdk_65_method_131_code q.1 = .ok q.2 := by decide +kernel
def L66 : List (Nat × Instr × Nat) := [(0, .iload_n 0, 1), (1, .iload_n 1, 1), (2, .if_icmp .gt 7, 3), (5, .iload_n 0, 1), (6, .goto 4, 3), (10, .ireturn, 1)]
theorem D66 : ∀ q ∈ L66, decode jdk_29_method_69_code q.1 = .ok q.2 := by decide +kernel
def L67 : List (Nat × Instr × Nat) := [(0, .iconst 0, 1), (1, .istore_n 2, 1), (2, .aload_n 0, 1), (3, .arraylength, 1), (4, .istore_n 3, 1), (5, .iload_n 2, 1), (6, .iload_n 3, 1), (7, .if_icmp .ge 13, 3), (10, .aload_n 0, 1), (11, .iload_n 2, 1), (12, .iload_n 1, 1), (13, .iastore, 1), (14, .iinc 2 1, 3), (17, .goto (-12), 3), (20, .return_, 1)]
theorem D67 : ∀ q ∈ L67, decode jdk_65_method_103_code q.1 = .ok q.2 := by decide +kernel
def L57 : List (Nat × Instr × Nat) := [(0, .aload_n 0, 1), (1, .getfield 221, 3), (4, .aload_n 1, 1), (5, .getfield 221, 3), (8, .invokestatic 416, 3), (11, .istore_n 2, 1), (12, .iload_n 2, 1), (13, .ifCond .eq 5, 3), (16, .iload_n 2, 1), (17, .ireturn, 1)]
theorem D57 : ∀ q ∈ L57, decode jdk_2316_method_66_code q.1 = .ok q.2 := by decide +kernel
def L58 : List (Nat × Instr × Nat) := [(0, .lload_n 0, 1), (1, .lload_n 2, 1), (2, .lcmp, 1), (3, .ifCond .ge 7, 3), (6, .iconst (-1), 1), (7, .goto 14, 3), (21, .ireturn, 1), (10, .lload_n 0, 1), (11, .lload_n 2, 1), (12, .lcmp, 1), (13, .ifCond .ne 7, 3), (20, .iconst 1, 1)]
theorem D58 : ∀ q ∈ L58, decode jdk_35_method_42_code q.1 = .ok q.2 := by decide +kernel
def L59 : List (Nat × Instr × Nat) := [(0, .aload_n 0, 1), (1, .getfield 221, 3), (4, .lreturn, 1)]
theorem D59 : ∀ q ∈ L59, decode jdk_2316_method_23_code q.1 = .ok q.2 := by decide +kernel
def L60 : List (Nat × Instr × Nat) := [(0, .aload_n 0, 1), (1, .getfield 224, 3), (4, .ireturn, 1)]
theorem D60 : ∀ q ∈ L60, decode jdk_2316_method_24_code q.1 = .ok q.2 := by decide +kernel
def L61 : List (Nat × Instr × Nat) := [(0, .lload_n 0, 1), (1, .lload_n 2, 1), (2, .lcmp, 1), (3, .ifCond .gt 7, 3), (6, .lload_n 0, 1), (7, .goto 4, 3), (11, .lreturn, 1), (10, .lload_n 2, 1)]
theorem D61 : ∀ q ∈ L61, decode jdk_29_method_70_code q.1 = .ok q.2 := by decide +kernel
def L3 : List (Nat × Instr × Nat) := [(0, .iload_n 3, 1), (1, .ifCond .ne 5, 3), (4, .lload_n 1, 1), (5, .lreturn, 1), (6, .aload_n 0, 1), (7, .invokevirtual 35, 3), (10, .lload_n 1, 1), (11, .lconst 0, 1), (12, .lcmp, 1), (13, .ifCond .ge 7, 3), (20, .lconst 1, 1), (21, .lreturn, 1)]
theorem D3 : ∀ q ∈ L3, decode method_3_code q.1 = .ok q.2 := by decide +kernel
def L4 : List (Nat × Instr × Nat) := [(0, .aload_n 0, 1), (1, .getstatic 7, 3), (4, .putfield 13, 3), (7, .return_, 1)]
theorem D4 : ∀ q ∈ L4, decode prog_45_method_3_code q.1 = .ok q.2 := by decide +kernel
def L1 : List (Nat × Instr × Nat) := [(0, .aload_n 0, 1), (1, .invokespecial 1, 3), (4, .aload_n 0, 1), (5, .getstatic 7, 3), (8, .putfield 13, 3), (11, .return_, 1)]
theorem D1 : ∀ q ∈ L1, decode prog_45_method_1_code q.1 = .ok q.2 := by decide +kernel
theorem pn_44 : plainName "java/math/BigInteger" = true := by first | (simp [plainName, overriddenIn]; done) | decide +kernel
theorem pn_45 : plainName "java/math/BigInteger" = true := by first | (simp [plainName, overriddenIn]; done) | decide +kernel
theorem pn_46 : plainName "java/lang/Integer" = true := by first | (simp [plainName, overriddenIn]; done) | decide +kernel
theorem pd__I_I : parseMethodDescriptor "(I)I" = some ⟨[.int], some .int⟩ := by decide +kernel
theorem pn_47 : plainName "java/math/BigInteger" = true := by first | (simp [plainName, overriddenIn]; done) | decide +kernel
theorem pn_48 : plainName "java/math/BigInteger" = true := by first | (simp [plainName, overriddenIn]; done) | decide +kernel
theorem pn_49 : plainName "java/math/BigInteger" = true := by first | (simp [plainName, overriddenIn]; done) | decide +kernel
theorem pd___I : parseMethodDescriptor "()I" = some ⟨[], some .int⟩ := by decide +kernel
theorem pn_18 : plainName "java/math/BigDecimal" = true := by first | (simp [plainName, overriddenIn]; done) | decide +kernel
theorem pn_19 : plainName "java/lang/Number" = true := by first | (simp [plainName, overriddenIn]; done) | decide +kernel
theorem pd___V : parseMethodDescriptor "()V" = some ⟨[], none⟩ := by decide +kernel
theorem pn_51 : plainName "java/time/Duration" = true := by first | (simp [plainName, overriddenIn]; done) | decide +kernel
theorem pd__JJ_J : parseMethodDescriptor "(JJ)J" = some ⟨[.long, .long], some .long⟩ := by decide +kernel
theorem pn_55 : plainName "java/time/Duration" = true := by first | (simp [plainName, overriddenIn]; done) | decide +kernel
theorem pn_56 : plainName "java/time/Duration" = true := by first | (simp [plainName, overriddenIn]; done) | decide +kernel
theorem pd__JI_V : parseMethodDescriptor "(JI)V" = some ⟨[.long, .int], none⟩ := by decide +kernel
theorem pd__JI_Ljava_time_Duration_ : parseMethodDescriptor "(JI)Ljava/time/Duration;" = some ⟨[.long, .int], some (.object "java/time/Duration")⟩ := by decide +kernel
theorem pn_5 : plainName "com/example/usher/usher/worker/PauseNextPinLaw" = true := by first | (simp [plainName, overriddenIn]; done) | decide +kernel
theorem pn_6 : plainName "com/example/usher/usher/worker/Pause" = true := by first | (simp [plainName, overriddenIn]; done) | decide +kernel
theorem pn_7 : plainName "java/time/Duration" = true := by first | (simp [plainName, overriddenIn]; done) | decide +kernel
theorem pn_8 : plainName "java/time/Duration" = true := by first | (simp [plainName, overriddenIn]; done) | decide +kernel
theorem pn_9 : plainName "java/math/BigDecimal" = true := by first | (simp [plainName, overriddenIn]; done) | decide +kernel
theorem pd__Ljava_math_BigInteger_JII_V : parseMethodDescriptor "(Ljava/math/BigInteger;JII)V" = some ⟨[(.object "java/math/BigInteger"), .long, .int, .int], none⟩ := by decide +kernel
theorem pd__J_Ljava_math_BigDecimal_ : parseMethodDescriptor "(J)Ljava/math/BigDecimal;" = some ⟨[.long], some (.object "java/math/BigDecimal")⟩ := by decide +kernel
theorem pn_10 : plainName "java/math/BigDecimal" = true := by first | (simp [plainName, overriddenIn]; done) | decide +kernel
theorem pn_11 : plainName "java/math/BigDecimal" = true := by first | (simp [plainName, overriddenIn]; done) | decide +kernel
theorem pd__I_Ljava_math_BigDecimal_ : parseMethodDescriptor "(I)Ljava/math/BigDecimal;" = some ⟨[.int], some (.object "java/math/BigDecimal")⟩ := by decide +kernel
theorem pd__JI_Ljava_math_BigDecimal_ : parseMethodDescriptor "(JI)Ljava/math/BigDecimal;" = some ⟨[.long, .int], some (.object "java/math/BigDecimal")⟩ := by decide +kernel
theorem pn_12 : plainName "java/math/BigDecimal" = true := by first | (simp [plainName, overriddenIn]; done) | decide +kernel
theorem pn_13 : plainName "java/math/BigDecimal" = true := by first | (simp [plainName, overriddenIn]; done) | decide +kernel
theorem pn_14 : plainName "java/math/BigDecimal" = true := by first | (simp [plainName, overriddenIn]; done) | decide +kernel
theorem pd__JJ_I : parseMethodDescriptor "(JJ)I" = some ⟨[.long, .long], some .int⟩ := by decide +kernel
theorem pn_15 : plainName "java/math/BigDecimal" = true := by first | (simp [plainName, overriddenIn]; done) | decide +kernel
theorem pd__J_J : parseMethodDescriptor "(J)J" = some ⟨[.long], some .long⟩ := by decide +kernel
theorem pd__JI_J : parseMethodDescriptor "(JI)J" = some ⟨[.long, .int], some .long⟩ := by decide +kernel
theorem pn_16 : plainName "java/math/BigDecimal" = true := by first | (simp [plainName, overriddenIn]; done) | decide +kernel
theorem pn_17 : plainName "java/math/BigDecimal" = true := by first | (simp [plainName, overriddenIn]; done) | decide +kernel
theorem pd__JJI_Ljava_math_BigDecimal_ : parseMethodDescriptor "(JJI)Ljava/math/BigDecimal;" = some ⟨[.long, .long, .int], some (.object "java/math/BigDecimal")⟩ := by decide +kernel
theorem pd__JIJI_Ljava_math_BigDecimal_ : parseMethodDescriptor "(JIJI)Ljava/math/BigDecimal;" = some ⟨[.long, .int, .long, .int], some (.object "java/math/BigDecimal")⟩ := by decide +kernel
theorem pd__Ljava_math_BigDecimal__Ljava_math_BigDecimal_ : parseMethodDescriptor "(Ljava/math/BigDecimal;)Ljava/math/BigDecimal;" = some ⟨[(.object "java/math/BigDecimal")], some (.object "java/math/BigDecimal")⟩ := by decide +kernel
theorem pd___Ljava_math_BigDecimal_ : parseMethodDescriptor "()Ljava/math/BigDecimal;" = some ⟨[], some (.object "java/math/BigDecimal")⟩ := by decide +kernel
theorem pn_20 : plainName "java/math/BigDecimal" = true := by first | (simp [plainName, overriddenIn]; done) | decide +kernel
theorem pn_21 : plainName "java/math/BigDecimal" = true := by first | (simp [plainName, overriddenIn]; done) | decide +kernel
theorem pd__J_I : parseMethodDescriptor "(J)I" = some ⟨[.long], some .int⟩ := by decide +kernel
theorem pn_22 : plainName "java/math/BigDecimal" = true := by first | (simp [plainName, overriddenIn]; done) | decide +kernel
theorem pn_23 : plainName "java/math/BigDecimal" = true := by first | (simp [plainName, overriddenIn]; done) | decide +kernel
theorem pn_25 : plainName "java/time/Duration" = true := by first | (simp [plainName, overriddenIn]; done) | decide +kernel
theorem pn_26 : plainName "java/math/BigDecimal" = true := by first | (simp [plainName, overriddenIn]; done) | decide +kernel
theorem pn_27 : plainName "java/math/BigDecimal" = true := by first | (simp [plainName, overriddenIn]; done) | decide +kernel
theorem pn_28 : plainName "java/math/BigDecimal" = true := by first | (simp [plainName, overriddenIn]; done) | decide +kernel
theorem pd__II_Ljava_math_BigDecimal_ : parseMethodDescriptor "(II)Ljava/math/BigDecimal;" = some ⟨[.int, .int], some (.object "java/math/BigDecimal")⟩ := by decide +kernel
theorem pn_29 : plainName "java/math/BigDecimal" = true := by first | (simp [plainName, overriddenIn]; done) | decide +kernel
theorem pn_30 : plainName "java/math/BigInteger" = true := by first | (simp [plainName, overriddenIn]; done) | decide +kernel
theorem pn_31 : plainName "java/math/BigInteger" = true := by first | (simp [plainName, overriddenIn]; done) | decide +kernel
theorem pd__J_V : parseMethodDescriptor "(J)V" = some ⟨[.long], none⟩ := by decide +kernel
theorem pd__J_Ljava_math_BigInteger_ : parseMethodDescriptor "(J)Ljava/math/BigInteger;" = some ⟨[.long], some (.object "java/math/BigInteger")⟩ := by decide +kernel
theorem pd___Ljava_math_BigInteger_ : parseMethodDescriptor "()Ljava/math/BigInteger;" = some ⟨[], some (.object "java/math/BigInteger")⟩ := by decide +kernel
theorem pn_32 : plainName "java/math/BigInteger" = true := by first | (simp [plainName, overriddenIn]; done) | decide +kernel
theorem pn_33 : plainName "java/math/BigInteger" = true := by first | (simp [plainName, overriddenIn]; done) | decide +kernel
theorem pn_34 : plainName "java/math/MutableBigInteger" = true := by first | (simp [plainName, overriddenIn]; done) | decide +kernel
theorem pn_35 : plainName "java/math/MutableBigInteger" = true := by first | (simp [plainName, overriddenIn]; done) | decide +kernel
theorem pd___I_V : parseMethodDescriptor "([I)V" = some ⟨[(.array .int)], none⟩ := by decide +kernel
theorem pn_36 : plainName "java/math/MutableBigInteger" = true := by first | (simp [plainName, overriddenIn]; done) | decide +kernel
theorem pn_37 : plainName "java/math/MutableBigInteger" = true := by first | (simp [plainName, overriddenIn]; done) | decide +kernel
theorem pn_38 : plainName "java/math/MutableBigInteger" = true := by first | (simp [plainName, overriddenIn]; done) | decide +kernel
theorem pd__Ljava_math_MutableBigInteger__I : parseMethodDescriptor "(Ljava/math/MutableBigInteger;)I" = some ⟨[(.object "java/math/MutableBigInteger")], some .int⟩ := by decide +kernel
theorem pn_39 : plainName "java/math/MutableBigInteger" = true := by first | (simp [plainName, overriddenIn]; done) | decide +kernel
theorem pn_40 : plainName "java/math/MutableBigInteger" = true := by first | (simp [plainName, overriddenIn]; done) | decide +kernel
theorem pd__ILjava_math_MutableBigInteger__I : parseMethodDescriptor "(ILjava/math/MutableBigInteger;)I" = some ⟨[.int, (.object "java/math/MutableBigInteger")], some .int⟩ := by decide +kernel
theorem pd__Ljava_math_MutableBigInteger_Ljava_math_MutableBigInteger_Z_Ljava_math_MutableBigInteger_ : parseMethodDescriptor "(Ljava/math/MutableBigInteger;Ljava/math/MutableBigInteger;Z)Ljava/math/MutableBigInteger;" = some ⟨[(.object "java/math/MutableBigInteger"), (.object "java/math/MutableBigInteger"), .boolean], some (.object "java/math/MutableBigInteger")⟩ := by decide +kernel
theorem pd__Ljava_math_MutableBigInteger_Ljava_math_MutableBigInteger__Ljava_math_MutableBigInteger_ : parseMethodDescriptor "(Ljava/math/MutableBigInteger;Ljava/math/MutableBigInteger;)Ljava/math/MutableBigInteger;" = some ⟨[(.object "java/math/MutableBigInteger"), (.object "java/math/MutableBigInteger")], some (.object "java/math/MutableBigInteger")⟩ := by decide +kernel
theorem pn_41 : plainName "java/math/MutableBigInteger" = true := by first | (simp [plainName, overriddenIn]; done) | decide +kernel
theorem pn_42 : plainName "java/math/MutableBigInteger" = true := by first | (simp [plainName, overriddenIn]; done) | decide +kernel
theorem pd____I : parseMethodDescriptor "()[I" = some ⟨[], some (.array .int)⟩ := by decide +kernel
theorem pn_43 : plainName "java/math/BigInteger" = true := by first | (simp [plainName, overriddenIn]; done) | decide +kernel
theorem pd___II_V : parseMethodDescriptor "([II)V" = some ⟨[(.array .int), .int], none⟩ := by decide +kernel
theorem pd__I_Ljava_math_BigInteger_ : parseMethodDescriptor "(I)Ljava/math/BigInteger;" = some ⟨[.int], some (.object "java/math/BigInteger")⟩ := by decide +kernel
theorem pd__Ljava_math_BigInteger___Ljava_math_BigInteger_ : parseMethodDescriptor "(Ljava/math/BigInteger;)[Ljava/math/BigInteger;" = some ⟨[(.object "java/math/BigInteger")], some (.array (.object "java/math/BigInteger"))⟩ := by decide +kernel
theorem pd___J : parseMethodDescriptor "()J" = some ⟨[], some .long⟩ := by decide +kernel
theorem pn_50 : plainName "java/math/BigInteger" = true := by first | (simp [plainName, overriddenIn]; done) | decide +kernel
theorem pd__JJ_Ljava_time_Duration_ : parseMethodDescriptor "(JJ)Ljava/time/Duration;" = some ⟨[.long, .long], some (.object "java/time/Duration")⟩ := by decide +kernel
theorem pn_62 : plainName "java/math/MutableBigInteger" = true := by first | (simp [plainName, overriddenIn]; done) | decide +kernel
theorem pn_63 : plainName "java/util/Arrays" = true := by first | (simp [plainName, overriddenIn]; done) | decide +kernel
theorem pn_64 : plainName "java/util/Arrays" = true := by first | (simp [plainName, overriddenIn]; done) | decide +kernel
theorem pn_65 : plainName "java/util/Arrays" = true := by first | (simp [plainName, overriddenIn]; done) | decide +kernel
theorem pd__II_V : parseMethodDescriptor "(II)V" = some ⟨[.int, .int], none⟩ := by decide +kernel
theorem pd__II_I : parseMethodDescriptor "(II)I" = some ⟨[.int, .int], some .int⟩ := by decide +kernel
theorem pd___III__I : parseMethodDescriptor "([III)[I" = some ⟨[(.array .int), .int, .int], some (.array .int)⟩ := by decide +kernel
theorem pn_67 : plainName "java/util/Arrays" = true := by first | (simp [plainName, overriddenIn]; done) | decide +kernel
theorem pd__Ljava_math_BigDecimal__Ljava_time_Duration_ : parseMethodDescriptor "(Ljava/math/BigDecimal;)Ljava/time/Duration;" = some ⟨[(.object "java/math/BigDecimal")], some (.object "java/time/Duration")⟩ := by decide +kernel
theorem pd__J_Ljava_time_Duration_ : parseMethodDescriptor "(J)Ljava/time/Duration;" = some ⟨[.long], some (.object "java/time/Duration")⟩ := by decide +kernel
theorem pn_57 : plainName "java/time/Duration" = true := by first | (simp [plainName, overriddenIn]; done) | decide +kernel
theorem pn_58 : plainName "java/lang/Long" = true := by first | (simp [plainName, overriddenIn]; done) | decide +kernel
theorem pd__Ljava_time_Duration__I : parseMethodDescriptor "(Ljava/time/Duration;)I" = some ⟨[(.object "java/time/Duration")], some .int⟩ := by decide +kernel
theorem pd___Ljava_time_Duration_ : parseMethodDescriptor "()Ljava/time/Duration;" = some ⟨[], some (.object "java/time/Duration")⟩ := by decide +kernel
theorem pn_59 : plainName "java/time/Duration" = true := by first | (simp [plainName, overriddenIn]; done) | decide +kernel
theorem pn_60 : plainName "java/time/Duration" = true := by first | (simp [plainName, overriddenIn]; done) | decide +kernel
theorem pn_3 : plainName "com/example/usher/usher/worker/PauseNextPinLaw" = true := by first | (simp [plainName, overriddenIn]; done) | decide +kernel
theorem pn_4 : plainName "com/example/usher/usher/worker/Pause" = true := by first | (simp [plainName, overriddenIn]; done) | decide +kernel
theorem pn_0 : plainName "com/example/usher/usher/worker/PauseNextPinLaw" = true := by first | (simp [plainName, overriddenIn]; done) | decide +kernel
theorem pn_1 : plainName "com/example/usher/usher/worker/Pause" = true := by first | (simp [plainName, overriddenIn]; done) | decide +kernel
theorem pd__Lcom_example_usher_usher_worker_Pause_JZ_J : parseMethodDescriptor "(Lcom/example/usher/usher/worker/Pause;JZ)J" = some ⟨[(.object "com/example/usher/usher/worker/Pause"), .long, .boolean], some .long⟩ := by decide +kernel
theorem pd__Lcom_example_usher_usher_worker_Pause_J_J : parseMethodDescriptor "(Lcom/example/usher/usher/worker/Pause;J)J" = some ⟨[(.object "com/example/usher/usher/worker/Pause"), .long], some .long⟩ := by decide +kernel
abbrev R_xIntege_numberOfLeadingZeros1 : Room := ⟨0, 0, 0, 0⟩
theorem xIntege_numberOfLeadingZeros1 (l : Launch) (Z : State) (a0 : Array Value) (hw : ∀ d ∈ tables_1, d.before a0 Z = true) (SS : Stat Z) (ix : Fin 6) (h0 : Heap) (n0 : Nat) (O0 : Old Z n0 h0)  :
    MetN l Z (⟨"java/lang/Integer", "numberOfLeadingZeros", "(I)I"⟩ : MethodName) jdk_33_method_47_code 2 (some .int) R_xIntege_numberOfLeadingZeros1 [] #[(.int (vI ix [2, 4, 8, 16, 32, 60]))] h0 (fun v h L => v = some (.int (vI ix [30, 29, 28, 27, 26, 26])) ∧ Fr n0 L ∧ h = h0) := by
  refine MetN.walk (plainFor_of_name pn_46) ?_
  intro p e s m below meth c s₁ hx hZ hby hml hown hnm hret hlk X0 e0
  have N0 := Fr.nil n0
  refine Win.to s₁ (mkF m 0 #[.val (.int (vI ix [2, 4, 8, 16, 32, 60])), .unset] []) (fun _ k => castTop rfl k) ?_
  refine W.iloadN X0 hx (hc hby D46 0 rfl) rfl ?_
  refine W.ifYes X0 hx (hc hby D46 1 rfl) ((show ∀ ix : Fin 6, ifCond.holds .gt (vI ix [2, 4, 8, 16, 32, 60]) = true from by decide +kernel) ix) (by decide) (pc' := 15) rfl ?_
  refine W.bipush X0 hx (hc hby D46 2 rfl) (v := 31) rfl ?_
  refine W.istoreN X0 hx (hc hby D46 3 rfl) (l' := #[.val (.int (vI ix [2, 4, 8, 16, 32, 60])), .val (.int (31 : Int32))]) rfl ?_
  refine W.iloadN X0 hx (hc hby D46 4 rfl) rfl ?_
  refine Win.to s₁ (mkF m 22 #[.val (.int (vI ix [2, 4, 8, 16, 32, 60])), .val (.int (31 : Int32))] [(.int (65536 : Int32)), (.int (vI ix [2, 4, 8, 16, 32, 60]))]) (fun _ k => Jvm.Stand.ldcWI X0 hx hown (mvT hZ (wk hw 252 rfl)) rfl (hc hby D46 5 rfl) k) ?_
  refine W.icmpYes X0 hx (hc hby D46 6 rfl) ((show ∀ ix : Fin 6, if_icmp.holds .lt (vI ix [2, 4, 8, 16, 32, 60]) (65536 : Int32) = true from by decide +kernel) ix) (by decide) (pc' := 33) rfl ?_
  refine W.iloadN X0 hx (hc hby D46 7 rfl) rfl ?_
  refine W.sipush X0 hx (hc hby D46 8 rfl) (v := 256) rfl ?_
  refine W.icmpYes X0 hx (hc hby D46 9 rfl) ((show ∀ ix : Fin 6, if_icmp.holds .lt (vI ix [2, 4, 8, 16, 32, 60]) (256 : Int32) = true from by decide +kernel) ix) (by decide) (pc' := 48) rfl ?_
  refine W.iloadN X0 hx (hc hby D46 10 rfl) rfl ?_
  refine W.bipush X0 hx (hc hby D46 11 rfl) (v := 16) rfl ?_
  rcases own_fin6 ix with rfl | rfl | rfl | rfl | rfl | rfl
  · refine Win.to s₁ (mkF m 51 #[.val (.int (2 : Int32)), .val (.int (31 : Int32))] [(.int (16 : Int32)), (.int (2 : Int32))]) (fun _ k => k) ?_
    refine W.icmpYes X0 hx (hc hby D46 12 rfl) (by decide) (by decide) (pc' := 61) rfl ?_
    refine W.iloadN X0 hx (hc hby D46 13 rfl) rfl ?_
    refine W.iconst X0 hx (hc hby D46 14 rfl) (v := 4) rfl ?_
    refine W.icmpYes X0 hx (hc hby D46 15 rfl) (by decide) (by decide) (pc' := 73) rfl ?_
    refine W.iloadN X0 hx (hc hby D46 16 rfl) rfl ?_
    refine W.iloadN X0 hx (hc hby D46 17 rfl) rfl ?_
    refine W.iconst X0 hx (hc hby D46 18 rfl) (v := 1) rfl ?_
    refine W.iushr X0 hx (hc hby D46 19 rfl) (v := (1 : Int32)) (by decide) ?_
    refine W.isub X0 hx (hc hby D46 20 rfl) (v := (30 : Int32)) (by decide) ?_
    exact Win.retI X0 hx hlk hret (hc hby D46 21 rfl) (by decide) (by decide) (by (try rw [e0]); exact ⟨rfl, N0, rfl⟩)
  · refine Win.to s₁ (mkF m 51 #[.val (.int (4 : Int32)), .val (.int (31 : Int32))] [(.int (16 : Int32)), (.int (4 : Int32))]) (fun _ k => k) ?_
    refine W.icmpYes X0 hx (hc hby D46 12 rfl) (by decide) (by decide) (pc' := 61) rfl ?_
    refine W.iloadN X0 hx (hc hby D46 13 rfl) rfl ?_
    refine W.iconst X0 hx (hc hby D46 14 rfl) (v := 4) rfl ?_
    refine W.icmpNo X0 hx (hc hby D46 15 rfl) (by decide) ?_
    refine Win.to s₁ (mkF m 69 #[.val (.int (4 : Int32)), .val (.int (29 : Int32))] []) (fun _ k => XS.iinc X0.here hx rfl (hc hby D46 22 rfl) rfl (l' := #[.val (.int (4 : Int32)), .val (.int (29 : Int32))]) rfl k) ?_
    refine W.iloadN X0 hx (hc hby D46 23 rfl) rfl ?_
    refine W.iconst X0 hx (hc hby D46 24 rfl) (v := 2) rfl ?_
    refine W.iushr X0 hx (hc hby D46 25 rfl) (v := (1 : Int32)) (by decide) ?_
    refine W.istoreN X0 hx (hc hby D46 26 rfl) (l' := #[.val (.int (1 : Int32)), .val (.int (29 : Int32))]) rfl ?_
    refine W.iloadN X0 hx (hc hby D46 16 rfl) rfl ?_
    refine W.iloadN X0 hx (hc hby D46 17 rfl) rfl ?_
    refine W.iconst X0 hx (hc hby D46 18 rfl) (v := 1) rfl ?_
    refine W.iushr X0 hx (hc hby D46 19 rfl) (v := (0 : Int32)) (by decide) ?_
    refine W.isub X0 hx (hc hby D46 20 rfl) (v := (29 : Int32)) (by decide) ?_
    exact Win.retI X0 hx hlk hret (hc hby D46 21 rfl) (by decide) (by decide) (by (try rw [e0]); exact ⟨rfl, N0, rfl⟩)
  · refine Win.to s₁ (mkF m 51 #[.val (.int (8 : Int32)), .val (.int (31 : Int32))] [(.int (16 : Int32)), (.int (8 : Int32))]) (fun _ k => k) ?_
    refine W.icmpYes X0 hx (hc hby D46 12 rfl) (by decide) (by decide) (pc' := 61) rfl ?_
    refine W.iloadN X0 hx (hc hby D46 13 rfl) rfl ?_
    refine W.iconst X0 hx (hc hby D46 14 rfl) (v := 4) rfl ?_
    refine W.icmpNo X0 hx (hc hby D46 15 rfl) (by decide) ?_
    refine Win.to s₁ (mkF m 69 #[.val (.int (8 : Int32)), .val (.int (29 : Int32))] []) (fun _ k => XS.iinc X0.here hx rfl (hc hby D46 22 rfl) rfl (l' := #[.val (.int (8 : Int32)), .val (.int (29 : Int32))]) rfl k) ?_
    refine W.iloadN X0 hx (hc hby D46 23 rfl) rfl ?_
    refine W.iconst X0 hx (hc hby D46 24 rfl) (v := 2) rfl ?_
    refine W.iushr X0 hx (hc hby D46 25 rfl) (v := (2 : Int32)) (by decide) ?_
    refine W.istoreN X0 hx (hc hby D46 26 rfl) (l' := #[.val (.int (2 : Int32)), .val (.int (29 : Int32))]) rfl ?_
    refine W.iloadN X0 hx (hc hby D46 16 rfl) rfl ?_
    refine W.iloadN X0 hx (hc hby D46 17 rfl) rfl ?_
    refine W.iconst X0 hx (hc hby D46 18 rfl) (v := 1) rfl ?_
    refine W.iushr X0 hx (hc hby D46 19 rfl) (v := (1 : Int32)) (by decide) ?_
    refine W.isub X0 hx (hc hby D46 20 rfl) (v := (28 : Int32)) (by decide) ?_
    exact Win.retI X0 hx hlk hret (hc hby D46 21 rfl) (by decide) (by decide) (by (try rw [e0]); exact ⟨rfl, N0, rfl⟩)
  · refine Win.to s₁ (mkF m 51 #[.val (.int (16 : Int32)), .val (.int (31 : Int32))] [(.int (16 : Int32)), (.int (16 : Int32))]) (fun _ k => k) ?_
    refine W.icmpNo X0 hx (hc hby D46 12 rfl) (by decide) ?_
    refine Win.to s₁ (mkF m 57 #[.val (.int (16 : Int32)), .val (.int (27 : Int32))] []) (fun _ k => XS.iinc X0.here hx rfl (hc hby D46 27 rfl) rfl (l' := #[.val (.int (16 : Int32)), .val (.int (27 : Int32))]) rfl k) ?_
    refine W.iloadN X0 hx (hc hby D46 28 rfl) rfl ?_
    refine W.iconst X0 hx (hc hby D46 29 rfl) (v := 4) rfl ?_
    refine W.iushr X0 hx (hc hby D46 30 rfl) (v := (1 : Int32)) (by decide) ?_
    refine W.istoreN X0 hx (hc hby D46 31 rfl) (l' := #[.val (.int (1 : Int32)), .val (.int (27 : Int32))]) rfl ?_
    refine W.iloadN X0 hx (hc hby D46 13 rfl) rfl ?_
    refine W.iconst X0 hx (hc hby D46 14 rfl) (v := 4) rfl ?_
    refine W.icmpYes X0 hx (hc hby D46 15 rfl) (by decide) (by decide) (pc' := 73) rfl ?_
    refine W.iloadN X0 hx (hc hby D46 16 rfl) rfl ?_
    refine W.iloadN X0 hx (hc hby D46 17 rfl) rfl ?_
    refine W.iconst X0 hx (hc hby D46 18 rfl) (v := 1) rfl ?_
    refine W.iushr X0 hx (hc hby D46 19 rfl) (v := (0 : Int32)) (by decide) ?_
    refine W.isub X0 hx (hc hby D46 20 rfl) (v := (27 : Int32)) (by decide) ?_
    exact Win.retI X0 hx hlk hret (hc hby D46 21 rfl) (by decide) (by decide) (by (try rw [e0]); exact ⟨rfl, N0, rfl⟩)
  · refine Win.to s₁ (mkF m 51 #[.val (.int (32 : Int32)), .val (.int (31 : Int32))] [(.int (16 : Int32)), (.int (32 : Int32))]) (fun _ k => k) ?_
    refine W.icmpNo X0 hx (hc hby D46 12 rfl) (by decide) ?_
    refine Win.to s₁ (mkF m 57 #[.val (.int (32 : Int32)), .val (.int (27 : Int32))] []) (fun _ k => XS.iinc X0.here hx rfl (hc hby D46 27 rfl) rfl (l' := #[.val (.int (32 : Int32)), .val (.int (27 : Int32))]) rfl k) ?_
    refine W.iloadN X0 hx (hc hby D46 28 rfl) rfl ?_
    refine W.iconst X0 hx (hc hby D46 29 rfl) (v := 4) rfl ?_
    refine W.iushr X0 hx (hc hby D46 30 rfl) (v := (2 : Int32)) (by decide) ?_
    refine W.istoreN X0 hx (hc hby D46 31 rfl) (l' := #[.val (.int (2 : Int32)), .val (.int (27 : Int32))]) rfl ?_
    refine W.iloadN X0 hx (hc hby D46 13 rfl) rfl ?_
    refine W.iconst X0 hx (hc hby D46 14 rfl) (v := 4) rfl ?_
    refine W.icmpYes X0 hx (hc hby D46 15 rfl) (by decide) (by decide) (pc' := 73) rfl ?_
    refine W.iloadN X0 hx (hc hby D46 16 rfl) rfl ?_
    refine W.iloadN X0 hx (hc hby D46 17 rfl) rfl ?_
    refine W.iconst X0 hx (hc hby D46 18 rfl) (v := 1) rfl ?_
    refine W.iushr X0 hx (hc hby D46 19 rfl) (v := (1 : Int32)) (by decide) ?_
    refine W.isub X0 hx (hc hby D46 20 rfl) (v := (26 : Int32)) (by decide) ?_
    exact Win.retI X0 hx hlk hret (hc hby D46 21 rfl) (by decide) (by decide) (by (try rw [e0]); exact ⟨rfl, N0, rfl⟩)
  · refine Win.to s₁ (mkF m 51 #[.val (.int (60 : Int32)), .val (.int (31 : Int32))] [(.int (16 : Int32)), (.int (60 : Int32))]) (fun _ k => k) ?_
    refine W.icmpNo X0 hx (hc hby D46 12 rfl) (by decide) ?_
    refine Win.to s₁ (mkF m 57 #[.val (.int (60 : Int32)), .val (.int (27 : Int32))] []) (fun _ k => XS.iinc X0.here hx rfl (hc hby D46 27 rfl) rfl (l' := #[.val (.int (60 : Int32)), .val (.int (27 : Int32))]) rfl k) ?_
    refine W.iloadN X0 hx (hc hby D46 28 rfl) rfl ?_
    refine W.iconst X0 hx (hc hby D46 29 rfl) (v := 4) rfl ?_
    refine W.iushr X0 hx (hc hby D46 30 rfl) (v := (3 : Int32)) (by decide) ?_
    refine W.istoreN X0 hx (hc hby D46 31 rfl) (l' := #[.val (.int (3 : Int32)), .val (.int (27 : Int32))]) rfl ?_
    refine W.iloadN X0 hx (hc hby D46 13 rfl) rfl ?_
    refine W.iconst X0 hx (hc hby D46 14 rfl) (v := 4) rfl ?_
    refine W.icmpYes X0 hx (hc hby D46 15 rfl) (by decide) (by decide) (pc' := 73) rfl ?_
    refine W.iloadN X0 hx (hc hby D46 16 rfl) rfl ?_
    refine W.iloadN X0 hx (hc hby D46 17 rfl) rfl ?_
    refine W.iconst X0 hx (hc hby D46 18 rfl) (v := 1) rfl ?_
    refine W.iushr X0 hx (hc hby D46 19 rfl) (v := (1 : Int32)) (by decide) ?_
    refine W.isub X0 hx (hc hby D46 20 rfl) (v := (26 : Int32)) (by decide) ?_
    exact Win.retI X0 hx hlk hret (hc hby D46 21 rfl) (by decide) (by decide) (by (try rw [e0]); exact ⟨rfl, N0, rfl⟩)
abbrev R_xBigInt_bitLengthForInt1 : Room := ⟨1, 0, 0, 14⟩
theorem xBigInt_bitLengthForInt1 (l : Launch) (Z : State) (a0 : Array Value) (hw : ∀ d ∈ tables_1, d.before a0 Z = true) (SS : Stat Z) (ix : Fin 6) (h0 : Heap) (n0 : Nat) (O0 : Old Z n0 h0)  :
    MetN l Z (⟨"java/math/BigInteger", "bitLengthForInt", "(I)I"⟩ : MethodName) jdk_2097_method_74_code 1 (some .int) R_xBigInt_bitLengthForInt1 [] #[(.int (vI ix [2, 4, 8, 16, 32, 60]))] h0 (fun v h L => v = some (.int (vI ix [2, 3, 4, 5, 6, 6])) ∧ Fr n0 L ∧ h = h0) := by
  refine MetN.walk (plainFor_of_name pn_45) ?_
  intro p e s m below meth c s₁ hx hZ hby hml hown hnm hret hlk X0 e0
  have N0 := Fr.nil n0
  refine Win.to s₁ (mkF m 0 #[.val (.int (vI ix [2, 4, 8, 16, 32, 60]))] []) (fun _ k => castTop rfl k) ?_
  refine W.bipush X0 hx (hc hby D45 0 rfl) (v := 32) rfl ?_
  refine W.iloadN X0 hx (hc hby D45 1 rfl) rfl ?_
  refine W.static X0 hx hZ hown (wk hw 248 rfl) (wk hw 249 rfl) (wk hw 250 rfl) (wk hw 251 rfl) (by decide) (xIntege_numberOfLeadingZeros1 l Z a0 hw SS ix h0 n0 O0 ) e0 (by rw [hml]; rfl) (argsL := [(.int (vI ix [2, 4, 8, 16, 32, 60]))]) (rest := [(.int (32 : Int32))]) rfl (lenOf pd__I_I rfl) rfl (W := 1) (Nat.le_of_eq rfl) (hc hby D45 2 rfl) (by decide) (by decide) (by decide) (by decide) (fun T101 h101 v101 L101 X101 e101 q101 => ?_)
  obtain ⟨rfl, N101q, r101_0⟩ := q101
  have N102 := Fr.app N0 N101q
  have e101 := e101.trans r101_0
  refine W.isub X101 hx (hc hby D45 3 rfl) (v := (vI ix [2, 3, 4, 5, 6, 6])) ((show ∀ ix : Fin 6, (32 : Int32) - (vI ix [30, 29, 28, 27, 26, 26]) = (vI ix [2, 3, 4, 5, 6, 6]) from by decide +kernel) ix) ?_
  exact Win.retI X101 hx hlk hret (hc hby D45 4 rfl) (by decide) (by decide) (by (try rw [e101]); exact ⟨rfl, N102, rfl⟩)
abbrev R_xBigInt_bitLength1 : Room := ⟨2, 0, 0, 27⟩
theorem xBigInt_bitLength1 (l : Launch) (Z : State) (a0 : Array Value) (hw : ∀ d ∈ tables_1, d.before a0 Z = true) (SS : Stat Z) (ix : Fin 6) (a1 : Addr) (a2 : Addr) (k_a2 : ClassId) (h0 : Heap) (n0 : Nat) (O0 : Old Z n0 h0) (P0 : Exa Z h0 a1 "java/math/BigInteger") (P1 : Fld Z h0 a1 "java/math/BigInteger" "bitLengthPlusOne" "I" (.int (0 : Int32))) (P2 : Fld Z h0 a1 "java/math/BigInteger" "mag" "[I" (.ref a2)) (P3 : Fld Z h0 a1 "java/math/BigInteger" "signum" "I" (.int (1 : Int32))) (P4 : Arv Z h0 a2 k_a2 .int (1 : Int32) [(.int (vI ix [2, 4, 8, 16, 32, 60]))] (.int (0 : Int32))) (g_a1 : n0 ≤ a1) :
    MetN l Z (⟨"java/math/BigInteger", "bitLength", "()I"⟩ : MethodName) jdk_2097_method_118_code 7 (some .int) R_xBigInt_bitLength1 [] #[(.ref a1)] h0 (fun v h L => v = some (.int (vI ix [2, 3, 4, 5, 6, 6])) ∧ Fr n0 L ∧ Keep h0 h [a1] ∧ Fld Z h a1 "java/math/BigInteger" "bitLengthPlusOne" "I" (.int (vI ix [3, 4, 5, 6, 7, 7])) ∧ Fld Z h a1 "java/math/BigInteger" "mag" "[I" (.ref a2) ∧ Fld Z h a1 "java/math/BigInteger" "signum" "I" (.int (1 : Int32)) ∧ Exa Z h a1 "java/math/BigInteger") := by
  refine MetN.walk (plainFor_of_name pn_44) ?_
  intro p e s m below meth c s₁ hx hZ hby hml hown hnm hret hlk X0 e0
  have N0 := Fr.nil n0
  refine Win.to s₁ (mkF m 0 #[.val (.ref a1), .unset, .unset, .unset, .unset, .unset, .unset] []) (fun _ k => castTop rfl k) ?_
  refine W.aloadN X0 hx (hc hby D44 0 rfl) rfl rfl ?_
  refine W.getF X0 hx hZ hown (host := "") (Or.inl (wk hw 243 rfl)) Via.refl e0 P1 (hc hby D44 1 rfl) (fun T101 X101 e101 => ?_)
  refine W.iconst X101 hx (hc hby D44 2 rfl) (v := 1) rfl ?_
  refine W.isub X101 hx (hc hby D44 3 rfl) (v := (-1 : Int32)) (by decide) ?_
  refine W.istoreN X101 hx (hc hby D44 4 rfl) (l' := #[.val (.ref a1), .val (.int (-1 : Int32)), .unset, .unset, .unset, .unset, .unset]) rfl ?_
  refine W.iloadN X101 hx (hc hby D44 5 rfl) rfl ?_
  refine W.iconst X101 hx (hc hby D44 6 rfl) (v := (-1)) rfl ?_
  refine W.icmpNo X101 hx (hc hby D44 7 rfl) (by decide) ?_
  refine W.aloadN X101 hx (hc hby D44 8 rfl) rfl rfl ?_
  refine W.getF X101 hx hZ hown (host := "") (Or.inl (wk hw 162 rfl)) Via.refl e101 P2 (hc hby D44 9 rfl) (fun T102 X102 e102 => ?_)
  refine W.astoreN X102 hx (hc hby D44 10 rfl) rfl (l' := #[.val (.ref a1), .val (.int (-1 : Int32)), .val (.ref a2), .unset, .unset, .unset, .unset]) rfl ?_
  refine W.aloadN X102 hx (hc hby D44 11 rfl) rfl rfl ?_
  obtain ⟨cl103, Ar103, -, S103, N103, -, -⟩ := id P4
  refine Win.to T102 (mkF m 19 #[.val (.ref a1), .val (.int (-1 : Int32)), .val (.ref a2), .unset, .unset, .unset, .unset] [(.int (1 : Int32))]) (fun _ k => X102.arraylength hx (by rw [e102]; exact Ar103.1) (State.isArrayOf_alike hZ.alike Ar103.2.1) (g := (mkF m 18 #[.val (.ref a1), .val (.int (-1 : Int32)), .val (.ref a2), .unset, .unset, .unset, .unset] [(.ref a2)])) rfl rfl (hc hby D44 12 rfl) _ (by rw [len_of S103 N103]; exact k)) ?_
  refine W.istoreN X102 hx (hc hby D44 13 rfl) (l' := #[.val (.ref a1), .val (.int (-1 : Int32)), .val (.ref a2), .val (.int (1 : Int32)), .unset, .unset, .unset]) rfl ?_
  refine W.iloadN X102 hx (hc hby D44 14 rfl) rfl ?_
  refine W.ifYes X102 hx (hc hby D44 15 rfl) (by decide) (by decide) (pc' := 29) rfl ?_
  refine W.iloadN X102 hx (hc hby D44 16 rfl) rfl ?_
  refine W.iconst X102 hx (hc hby D44 17 rfl) (v := 1) rfl ?_
  refine W.isub X102 hx (hc hby D44 18 rfl) (v := (0 : Int32)) (by decide) ?_
  refine W.iconst X102 hx (hc hby D44 19 rfl) (v := 5) rfl ?_
  refine W.ishl X102 hx (hc hby D44 20 rfl) (v := (0 : Int32)) (by decide) ?_
  refine W.aloadN X102 hx (hc hby D44 21 rfl) rfl rfl ?_
  refine W.getF X102 hx hZ hown (host := "") (Or.inl (wk hw 162 rfl)) Via.refl e102 P2 (hc hby D44 22 rfl) (fun T104 X104 e104 => ?_)
  refine W.iconst X104 hx (hc hby D44 23 rfl) (v := 0) rfl ?_
  obtain ⟨cl105, Ar105, q105, S105, N105, H105, G105⟩ := id P4
  have hi105 : ¬ ((0 : Int32) < 0 ∨ cl105.slots.size ≤ ((0 : Int32)).toNatClampNeg) := inb_of S105 ⟨by decide, by decide⟩
  refine Win.to T104 (mkF m 40 #[.val (.ref a1), .val (.int (-1 : Int32)), .val (.ref a2), .val (.int (1 : Int32)), .unset, .unset, .unset] [(.int (vI ix [2, 4, 8, 16, 32, 60])), (.int (0 : Int32))]) (fun _ k => X104.iaload hx (j := (0 : Int32)) (v := (.int (vI ix [2, 4, 8, 16, 32, 60]))) (by rw [e104]; exact Ar105.1) (State.isArrayOf_alike hZ.alike Ar105.2.1) Ar105.2.2 hi105 (Has.at H105 hi105 rfl) (g := (mkF m 39 #[.val (.ref a1), .val (.int (-1 : Int32)), .val (.ref a2), .val (.int (1 : Int32)), .unset, .unset, .unset] [(.int (0 : Int32)), (.ref a2), (.int (0 : Int32))])) rfl rfl (hc hby D44 24 rfl) _ k) ?_
  refine W.static X104 hx hZ hown (wk hw 245 rfl) (wk hw 246 rfl) (wk hw 148 rfl) (wk hw 247 rfl) (by decide) (xBigInt_bitLengthForInt1 l Z a0 hw SS ix h0 n0 O0 ) e104 (by rw [hml]; rfl) (argsL := [(.int (vI ix [2, 4, 8, 16, 32, 60]))]) (rest := [(.int (0 : Int32))]) rfl (lenOf pd__I_I rfl) rfl (W := 1) (Nat.le_of_eq rfl) (hc hby D44 25 rfl) (by decide) (by decide) (by decide) (by decide) (fun T106 h106 v106 L106 X106 e106 q106 => ?_)
  obtain ⟨rfl, N106q, r106_0⟩ := q106
  have N107 := Fr.app N0 N106q
  have e106 := e106.trans r106_0
  refine W.iadd X106 hx (hc hby D44 26 rfl) (v := (vI ix [2, 3, 4, 5, 6, 6])) ((show ∀ ix : Fin 6, (0 : Int32) + (vI ix [2, 3, 4, 5, 6, 6]) = (vI ix [2, 3, 4, 5, 6, 6]) from by decide +kernel) ix) ?_
  refine W.istore X106 hx (hc hby D44 27 rfl) (l' := #[.val (.ref a1), .val (.int (-1 : Int32)), .val (.ref a2), .val (.int (1 : Int32)), .val (.int (vI ix [2, 3, 4, 5, 6, 6])), .unset, .unset]) rfl ?_
  refine W.aloadN X106 hx (hc hby D44 28 rfl) rfl rfl ?_
  refine W.getF X106 hx hZ hown (host := "") (Or.inl (wk hw 159 rfl)) Via.refl e106 P3 (hc hby D44 29 rfl) (fun T108 X108 e108 => ?_)
  refine W.ifYes X108 hx (hc hby D44 30 rfl) (by decide) (by decide) (pc' := 128) rfl ?_
  refine W.iload X108 hx (hc hby D44 31 rfl) rfl ?_
  refine W.istoreN X108 hx (hc hby D44 32 rfl) (l' := #[.val (.ref a1), .val (.int (vI ix [2, 3, 4, 5, 6, 6])), .val (.ref a2), .val (.int (1 : Int32)), .val (.int (vI ix [2, 3, 4, 5, 6, 6])), .unset, .unset]) rfl ?_
  refine W.aloadN X108 hx (hc hby D44 33 rfl) rfl rfl ?_
  refine W.iloadN X108 hx (hc hby D44 34 rfl) rfl ?_
  refine W.iconst X108 hx (hc hby D44 35 rfl) (v := 1) rfl ?_
  refine W.iadd X108 hx (hc hby D44 36 rfl) (v := (vI ix [3, 4, 5, 6, 7, 7])) ((show ∀ ix : Fin 6, (vI ix [2, 3, 4, 5, 6, 6]) + (1 : Int32) = (vI ix [3, 4, 5, 6, 7, 7]) from by decide +kernel) ix) ?_
  refine W.putF X108 hx hZ hown (host := "") (Or.inl (wk hw 243 rfl)) Via.refl e108 P1 P0 (Or.inl (wk hw 244 rfl)) (wk hw 152 rfl) (ty := .int) (by decide) rfl rfl (hc hby D44 37 rfl) O0 g_a1 (Keep.refl h0 [a1]) (Or.inl (List.mem_of_getElem? (i := 0) rfl)) N107 (fun T109 h109 X109 e109 W109 O109 K109 N109 F109 => ?_)
  refine W.iloadN X109 hx (hc hby D44 38 rfl) rfl ?_
  have F110 := Fld.other W109 P2 (Or.inr (slot_ne (Or.inr (wk hw 163 rfl)) (Or.inl (wk hw 244 rfl)) (by decide) (t := (.array .int)) (t' := .int) (by decide) (by decide)))
  have F111 := Fld.other W109 P3 (Or.inr (slot_ne (Or.inr (wk hw 160 rfl)) (Or.inl (wk hw 244 rfl)) (by decide) (t := .int) (t' := .int) (by decide) (by decide)))
  have F112 := Exa.wr W109 P0
  exact Win.retI X109 hx hlk hret (hc hby D44 39 rfl) (by decide) (by decide) (by (try rw [e109]); exact ⟨rfl, N109, K109, F109, F110, F111, F112⟩)
abbrev R_xBigInt_signInt1 : Room := ⟨0, 0, 0, 0⟩
theorem xBigInt_signInt1 (l : Launch) (Z : State) (a0 : Array Value) (hw : ∀ d ∈ tables_1, d.before a0 Z = true) (SS : Stat Z) (ix : Fin 6) (a1 : Addr) (h0 : Heap) (n0 : Nat) (O0 : Old Z n0 h0) (P0 : Fld Z h0 a1 "java/math/BigInteger" "signum" "I" (.int (1 : Int32))) :
    MetN l Z (⟨"java/math/BigInteger", "signInt", "()I"⟩ : MethodName) jdk_2097_method_147_code 1 (some .int) R_xBigInt_signInt1 [] #[(.ref a1)] h0 (fun v h L => v = some (.int (0 : Int32)) ∧ Fr n0 L ∧ h = h0) := by
  refine MetN.walk (plainFor_of_name pn_49) ?_
  intro p e s m below meth c s₁ hx hZ hby hml hown hnm hret hlk X0 e0
  have N0 := Fr.nil n0
  refine Win.to s₁ (mkF m 0 #[.val (.ref a1)] []) (fun _ k => castTop rfl k) ?_
  refine W.aloadN X0 hx (hc hby D49 0 rfl) rfl rfl ?_
  refine W.getF X0 hx hZ hown (host := "") (Or.inl (wk hw 159 rfl)) Via.refl e0 P0 (hc hby D49 1 rfl) (fun T101 X101 e101 => ?_)
  refine W.ifYes X101 hx (hc hby D49 2 rfl) (by decide) (by decide) (pc' := 11) rfl ?_
  refine W.iconst X101 hx (hc hby D49 3 rfl) (v := 0) rfl ?_
  exact Win.retI X101 hx hlk hret (hc hby D49 4 rfl) (by decide) (by decide) (by (try rw [e101]); exact ⟨rfl, N0, rfl⟩)
abbrev R_xBigInt_getInt1 : Room := ⟨1, 0, 0, 12⟩
theorem xBigInt_getInt1 (l : Launch) (Z : State) (a0 : Array Value) (hw : ∀ d ∈ tables_1, d.before a0 Z = true) (SS : Stat Z) (ix : Fin 6) (a1 : Addr) (a2 : Addr) (k_a2 : ClassId) (h0 : Heap) (n0 : Nat) (O0 : Old Z n0 h0) (P0 : Exa Z h0 a1 "java/math/BigInteger") (P1 : Fld Z h0 a1 "java/math/BigInteger" "mag" "[I" (.ref a2)) (P2 : Fld Z h0 a1 "java/math/BigInteger" "signum" "I" (.int (1 : Int32))) (P3 : Arv Z h0 a2 k_a2 .int (1 : Int32) [(.int (vI ix [2, 4, 8, 16, 32, 60]))] (.int (0 : Int32))) :
    MetN l Z (⟨"java/math/BigInteger", "getInt", "(I)I"⟩ : MethodName) jdk_2097_method_148_code 3 (some .int) R_xBigInt_getInt1 [] #[(.ref a1), (.int (1 : Int32))] h0 (fun v h L => v = some (.int (0 : Int32)) ∧ Fr n0 L ∧ h = h0) := by
  refine MetN.walk (plainFor_of_name pn_48) ?_
  intro p e s m below meth c s₁ hx hZ hby hml hown hnm hret hlk X0 e0
  have N0 := Fr.nil n0
  refine Win.to s₁ (mkF m 0 #[.val (.ref a1), .val (.int (1 : Int32)), .unset] []) (fun _ k => castTop rfl k) ?_
  refine W.iloadN X0 hx (hc hby D48 0 rfl) rfl ?_
  refine W.ifYes X0 hx (hc hby D48 1 rfl) (by decide) (by decide) (pc' := 6) rfl ?_
  refine W.iloadN X0 hx (hc hby D48 2 rfl) rfl ?_
  refine W.aloadN X0 hx (hc hby D48 3 rfl) rfl rfl ?_
  refine W.getF X0 hx hZ hown (host := "") (Or.inl (wk hw 162 rfl)) Via.refl e0 P1 (hc hby D48 4 rfl) (fun T101 X101 e101 => ?_)
  obtain ⟨cl102, Ar102, -, S102, N102, -, -⟩ := id P3
  refine Win.to T101 (mkF m 12 #[.val (.ref a1), .val (.int (1 : Int32)), .unset] [(.int (1 : Int32)), (.int (1 : Int32))]) (fun _ k => X101.arraylength hx (by rw [e101]; exact Ar102.1) (State.isArrayOf_alike hZ.alike Ar102.2.1) (g := (mkF m 11 #[.val (.ref a1), .val (.int (1 : Int32)), .unset] [(.ref a2), (.int (1 : Int32))])) rfl rfl (hc hby D48 5 rfl) _ (by rw [len_of S102 N102]; exact k)) ?_
  refine W.icmpNo X101 hx (hc hby D48 6 rfl) (by decide) ?_
  refine W.aloadN X101 hx (hc hby D48 7 rfl) rfl rfl ?_
  refine W.private X101 hx hZ hown (wk hw 263 rfl) (wk hw 264 rfl) (wk hw 266 rfl) (wk hw 265 rfl) (wk hw 148 rfl) (wk hw 267 rfl) (by decide) (xBigInt_signInt1 l Z a0 hw SS ix a1 h0 n0 O0 P2) e101 P0 (by rw [hml]; rfl) (argsL := []) (rest := []) rfl (lenOf pd___I rfl) rfl (W := 0) (Nat.le_of_eq rfl) (hc hby D48 8 rfl) (by decide) (by decide) (by decide) (by decide) (fun T103 h103 v103 L103 X103 e103 q103 => ?_)
  obtain ⟨rfl, N103q, r103_0⟩ := q103
  have N104 := Fr.app N0 N103q
  have e103 := e103.trans r103_0
  exact Win.retI X103 hx hlk hret (hc hby D48 9 rfl) (by decide) (by decide) (by (try rw [e103]); exact ⟨rfl, N104, rfl⟩)
abbrev R_xBigInt_getInt2 : Room := ⟨0, 0, 0, 0⟩
theorem xBigInt_getInt2 (l : Launch) (Z : State) (a0 : Array Value) (hw : ∀ d ∈ tables_1, d.before a0 Z = true) (SS : Stat Z) (ix : Fin 6) (a1 : Addr) (a2 : Addr) (k_a2 : ClassId) (h0 : Heap) (n0 : Nat) (O0 : Old Z n0 h0) (P0 : Fld Z h0 a1 "java/math/BigInteger" "mag" "[I" (.ref a2)) (P1 : Fld Z h0 a1 "java/math/BigInteger" "signum" "I" (.int (1 : Int32))) (P2 : Arv Z h0 a2 k_a2 .int (1 : Int32) [(.int (vI ix [2, 4, 8, 16, 32, 60]))] (.int (0 : Int32))) :
    MetN l Z (⟨"java/math/BigInteger", "getInt", "(I)I"⟩ : MethodName) jdk_2097_method_148_code 3 (some .int) R_xBigInt_getInt2 [] #[(.ref a1), (.int (0 : Int32))] h0 (fun v h L => v = some (.int (vI ix [2, 4, 8, 16, 32, 60])) ∧ Fr n0 L ∧ h = h0) := by
  refine MetN.walk (plainFor_of_name pn_48) ?_
  intro p e s m below meth c s₁ hx hZ hby hml hown hnm hret hlk X0 e0
  have N0 := Fr.nil n0
  refine Win.to s₁ (mkF m 0 #[.val (.ref a1), .val (.int (0 : Int32)), .unset] []) (fun _ k => castTop rfl k) ?_
  refine W.iloadN X0 hx (hc hby D48 0 rfl) rfl ?_
  refine W.ifYes X0 hx (hc hby D48 1 rfl) (by decide) (by decide) (pc' := 6) rfl ?_
  refine W.iloadN X0 hx (hc hby D48 2 rfl) rfl ?_
  refine W.aloadN X0 hx (hc hby D48 3 rfl) rfl rfl ?_
  refine W.getF X0 hx hZ hown (host := "") (Or.inl (wk hw 162 rfl)) Via.refl e0 P0 (hc hby D48 4 rfl) (fun T101 X101 e101 => ?_)
  obtain ⟨cl102, Ar102, -, S102, N102, -, -⟩ := id P2
  refine Win.to T101 (mkF m 12 #[.val (.ref a1), .val (.int (0 : Int32)), .unset] [(.int (1 : Int32)), (.int (0 : Int32))]) (fun _ k => X101.arraylength hx (by rw [e101]; exact Ar102.1) (State.isArrayOf_alike hZ.alike Ar102.2.1) (g := (mkF m 11 #[.val (.ref a1), .val (.int (0 : Int32)), .unset] [(.ref a2), (.int (0 : Int32))])) rfl rfl (hc hby D48 5 rfl) _ (by rw [len_of S102 N102]; exact k)) ?_
  refine W.icmpYes X101 hx (hc hby D48 6 rfl) (by decide) (by decide) (pc' := 20) rfl ?_
  refine W.aloadN X101 hx (hc hby D48 10 rfl) rfl rfl ?_
  refine W.getF X101 hx hZ hown (host := "") (Or.inl (wk hw 162 rfl)) Via.refl e101 P0 (hc hby D48 11 rfl) (fun T103 X103 e103 => ?_)
  refine W.aloadN X103 hx (hc hby D48 12 rfl) rfl rfl ?_
  refine W.getF X103 hx hZ hown (host := "") (Or.inl (wk hw 162 rfl)) Via.refl e103 P0 (hc hby D48 13 rfl) (fun T104 X104 e104 => ?_)
  obtain ⟨cl105, Ar105, -, S105, N105, -, -⟩ := id P2
  refine Win.to T104 (mkF m 29 #[.val (.ref a1), .val (.int (0 : Int32)), .unset] [(.int (1 : Int32)), (.ref a2)]) (fun _ k => X104.arraylength hx (by rw [e104]; exact Ar105.1) (State.isArrayOf_alike hZ.alike Ar105.2.1) (g := (mkF m 28 #[.val (.ref a1), .val (.int (0 : Int32)), .unset] [(.ref a2), (.ref a2)])) rfl rfl (hc hby D48 14 rfl) _ (by rw [len_of S105 N105]; exact k)) ?_
  refine W.iloadN X104 hx (hc hby D48 15 rfl) rfl ?_
  refine W.isub X104 hx (hc hby D48 16 rfl) (v := (1 : Int32)) (by decide) ?_
  refine W.iconst X104 hx (hc hby D48 17 rfl) (v := 1) rfl ?_
  refine W.isub X104 hx (hc hby D48 18 rfl) (v := (0 : Int32)) (by decide) ?_
  obtain ⟨cl106, Ar106, q106, S106, N106, H106, G106⟩ := id P2
  have hi106 : ¬ ((0 : Int32) < 0 ∨ cl106.slots.size ≤ ((0 : Int32)).toNatClampNeg) := inb_of S106 ⟨by decide, by decide⟩
  refine Win.to T104 (mkF m 34 #[.val (.ref a1), .val (.int (0 : Int32)), .unset] [(.int (vI ix [2, 4, 8, 16, 32, 60]))]) (fun _ k => X104.iaload hx (j := (0 : Int32)) (v := (.int (vI ix [2, 4, 8, 16, 32, 60]))) (by rw [e104]; exact Ar106.1) (State.isArrayOf_alike hZ.alike Ar106.2.1) Ar106.2.2 hi106 (Has.at H106 hi106 rfl) (g := (mkF m 33 #[.val (.ref a1), .val (.int (0 : Int32)), .unset] [(.int (0 : Int32)), (.ref a2)])) rfl rfl (hc hby D48 19 rfl) _ k) ?_
  refine W.istoreN X104 hx (hc hby D48 20 rfl) (l' := #[.val (.ref a1), .val (.int (0 : Int32)), .val (.int (vI ix [2, 4, 8, 16, 32, 60]))]) rfl ?_
  refine W.aloadN X104 hx (hc hby D48 21 rfl) rfl rfl ?_
  refine W.getF X104 hx hZ hown (host := "") (Or.inl (wk hw 159 rfl)) Via.refl e104 P1 (hc hby D48 22 rfl) (fun T107 X107 e107 => ?_)
  refine W.ifNo X107 hx (hc hby D48 23 rfl) (by decide) ?_
  refine W.iloadN X107 hx (hc hby D48 24 rfl) rfl ?_
  refine W.goto X107 hx (hc hby D48 25 rfl) (by decide) (pc' := 62) rfl ?_
  exact Win.retI X107 hx hlk hret (hc hby D48 26 rfl) (by decide) (by decide) (by (try rw [e107]); exact ⟨rfl, N0, rfl⟩)
abbrev R_xBigInt_longValue1 : Room := ⟨2, 0, 0, 28⟩
theorem xBigInt_longValue1 (l : Launch) (Z : State) (a0 : Array Value) (hw : ∀ d ∈ tables_1, d.before a0 Z = true) (SS : Stat Z) (ix : Fin 6) (a1 : Addr) (a2 : Addr) (k_a2 : ClassId) (h0 : Heap) (n0 : Nat) (O0 : Old Z n0 h0) (P0 : Exa Z h0 a1 "java/math/BigInteger") (P1 : Fld Z h0 a1 "java/math/BigInteger" "mag" "[I" (.ref a2)) (P2 : Fld Z h0 a1 "java/math/BigInteger" "signum" "I" (.int (1 : Int32))) (P3 : Arv Z h0 a2 k_a2 .int (1 : Int32) [(.int (vI ix [2, 4, 8, 16, 32, 60]))] (.int (0 : Int32))) :
    MetN l Z (⟨"java/math/BigInteger", "longValue", "()J"⟩ : MethodName) jdk_2097_method_136_code 4 (some .long) R_xBigInt_longValue1 [] #[(.ref a1)] h0 (fun v h L => v = some (.long (vJ ix [2, 4, 8, 16, 32, 60])) ∧ Fr n0 L ∧ h = h0) := by
  refine MetN.walk (plainFor_of_name pn_47) ?_
  intro p e s m below meth c s₁ hx hZ hby hml hown hnm hret hlk X0 e0
  have N0 := Fr.nil n0
  refine Win.to s₁ (mkF m 0 #[.val (.ref a1), .unset, .unset, .unset] []) (fun _ k => castTop rfl k) ?_
  refine W.lconst X0 hx (hc hby D47 0 rfl) (v := 0) rfl ?_
  refine W.lstoreN X0 hx (hc hby D47 1 rfl) (l' := #[.val (.ref a1), .val (.long (0 : Int64)), .second, .unset]) rfl ?_
  refine W.iconst X0 hx (hc hby D47 2 rfl) (v := 1) rfl ?_
  refine W.istoreN X0 hx (hc hby D47 3 rfl) (l' := #[.val (.ref a1), .val (.long (0 : Int64)), .second, .val (.int (1 : Int32))]) rfl ?_
  refine W.iloadN X0 hx (hc hby D47 4 rfl) rfl ?_
  refine W.ifNo X0 hx (hc hby D47 5 rfl) (by decide) ?_
  refine W.lloadN X0 hx (hc hby D47 6 rfl) rfl ?_
  refine W.bipush X0 hx (hc hby D47 7 rfl) (v := 32) rfl ?_
  refine W.lshl X0 hx (hc hby D47 8 rfl) (v := (0 : Int64)) (by decide) ?_
  refine W.aloadN X0 hx (hc hby D47 9 rfl) rfl rfl ?_
  refine W.iloadN X0 hx (hc hby D47 10 rfl) rfl ?_
  refine W.private X0 hx hZ hown (wk hw 258 rfl) (wk hw 259 rfl) (wk hw 261 rfl) (wk hw 260 rfl) (wk hw 148 rfl) (wk hw 262 rfl) (by decide) (xBigInt_getInt1 l Z a0 hw SS ix a1 a2 k_a2 h0 n0 O0 P0 P1 P2 P3) e0 P0 (by rw [hml]; rfl) (argsL := [(.int (1 : Int32))]) (rest := [(.long (0 : Int64))]) rfl (lenOf pd__I_I rfl) rfl (W := 2) (Nat.le_of_eq rfl) (hc hby D47 11 rfl) (by decide) (by decide) (by decide) (by decide) (fun T101 h101 v101 L101 X101 e101 q101 => ?_)
  obtain ⟨rfl, N101q, r101_0⟩ := q101
  have N102 := Fr.app N0 N101q
  have e101 := e101.trans r101_0
  refine W.i2l X101 hx (hc hby D47 12 rfl) (v := (0 : Int64)) (by decide) ?_
  refine W.ldc2 X101 hx (hc hby D47 13 rfl) hown (mvT hZ (wk hw 268 rfl)) ?_
  refine W.land X101 hx (hc hby D47 14 rfl) (v := (0 : Int64)) (by decide) ?_
  refine W.ladd X101 hx (hc hby D47 15 rfl) (v := (0 : Int64)) (by decide) ?_
  refine W.lstoreN X101 hx (hc hby D47 16 rfl) (l' := #[.val (.ref a1), .val (.long (0 : Int64)), .second, .val (.int (1 : Int32))]) rfl ?_
  refine Win.to T101 (mkF m 27 #[.val (.ref a1), .val (.long (0 : Int64)), .second, .val (.int (0 : Int32))] []) (fun _ k => XS.iinc X101.here hx rfl (hc hby D47 17 rfl) rfl (l' := #[.val (.ref a1), .val (.long (0 : Int64)), .second, .val (.int (0 : Int32))]) rfl k) ?_
  refine W.goto X101 hx (hc hby D47 18 rfl) (by decide) (pc' := 4) rfl ?_
  refine W.iloadN X101 hx (hc hby D47 4 rfl) rfl ?_
  refine W.ifNo X101 hx (hc hby D47 5 rfl) (by decide) ?_
  refine W.lloadN X101 hx (hc hby D47 6 rfl) rfl ?_
  refine W.bipush X101 hx (hc hby D47 7 rfl) (v := 32) rfl ?_
  refine W.lshl X101 hx (hc hby D47 8 rfl) (v := (0 : Int64)) (by decide) ?_
  refine W.aloadN X101 hx (hc hby D47 9 rfl) rfl rfl ?_
  refine W.iloadN X101 hx (hc hby D47 10 rfl) rfl ?_
  refine W.private X101 hx hZ hown (wk hw 258 rfl) (wk hw 259 rfl) (wk hw 261 rfl) (wk hw 260 rfl) (wk hw 148 rfl) (wk hw 262 rfl) (by decide) (xBigInt_getInt2 l Z a0 hw SS ix a1 a2 k_a2 h0 n0 O0 P1 P2 P3) e101 P0 (by rw [hml]; rfl) (argsL := [(.int (0 : Int32))]) (rest := [(.long (0 : Int64))]) rfl (lenOf pd__I_I rfl) rfl (W := 2) (Nat.le_of_eq rfl) (hc hby D47 11 rfl) (by decide) (by decide) (by decide) (by decide) (fun T103 h103 v103 L103 X103 e103 q103 => ?_)
  obtain ⟨rfl, N103q, r103_0⟩ := q103
  have N104 := Fr.app N102 N103q
  have e103 := e103.trans r103_0
  refine W.i2l X103 hx (hc hby D47 12 rfl) (v := (vJ ix [2, 4, 8, 16, 32, 60])) ((show ∀ ix : Fin 6, (vI ix [2, 4, 8, 16, 32, 60]).toInt64 = (vJ ix [2, 4, 8, 16, 32, 60]) from by decide +kernel) ix) ?_
  refine W.ldc2 X103 hx (hc hby D47 13 rfl) hown (mvT hZ (wk hw 268 rfl)) ?_
  refine W.land X103 hx (hc hby D47 14 rfl) (v := (vJ ix [2, 4, 8, 16, 32, 60])) ((show ∀ ix : Fin 6, (vJ ix [2, 4, 8, 16, 32, 60]) &&& (4294967295 : Int64) = (vJ ix [2, 4, 8, 16, 32, 60]) from by decide +kernel) ix) ?_
  refine W.ladd X103 hx (hc hby D47 15 rfl) (v := (vJ ix [2, 4, 8, 16, 32, 60])) ((show ∀ ix : Fin 6, (0 : Int64) + (vJ ix [2, 4, 8, 16, 32, 60]) = (vJ ix [2, 4, 8, 16, 32, 60]) from by decide +kernel) ix) ?_
  refine W.lstoreN X103 hx (hc hby D47 16 rfl) (l' := #[.val (.ref a1), .val (.long (vJ ix [2, 4, 8, 16, 32, 60])), .second, .val (.int (0 : Int32))]) rfl ?_
  refine Win.to T103 (mkF m 27 #[.val (.ref a1), .val (.long (vJ ix [2, 4, 8, 16, 32, 60])), .second, .val (.int (-1 : Int32))] []) (fun _ k => XS.iinc X103.here hx rfl (hc hby D47 17 rfl) rfl (l' := #[.val (.ref a1), .val (.long (vJ ix [2, 4, 8, 16, 32, 60])), .second, .val (.int (-1 : Int32))]) rfl k) ?_
  refine W.goto X103 hx (hc hby D47 18 rfl) (by decide) (pc' := 4) rfl ?_
  refine W.iloadN X103 hx (hc hby D47 4 rfl) rfl ?_
  refine W.ifYes X103 hx (hc hby D47 5 rfl) (by decide) (by decide) (pc' := 30) rfl ?_
  refine W.lloadN X103 hx (hc hby D47 19 rfl) rfl ?_
  exact Win.retJ X103 hx hlk hret (hc hby D47 20 rfl) (by decide) (by decide) (by (try rw [e103]); exact ⟨rfl, N104, rfl⟩)
abbrev R_xNumber_init1 : Room := ⟨1, 0, 0, 12⟩
theorem xNumber_init1 (l : Launch) (Z : State) (a0 : Array Value) (hw : ∀ d ∈ tables_1, d.before a0 Z = true) (SS : Stat Z) (a1 : Addr) (h0 : Heap) (n0 : Nat) (O0 : Old Z n0 h0)  :
    MetN l Z (⟨"java/lang/Number", "<init>", "()V"⟩ : MethodName) jdk_18_method_1_code 1 none R_xNumber_init1 [] #[(.ref a1)] h0 (fun v h L => v = none ∧ Fr n0 L ∧ h = h0) := by
  refine MetN.walk (plainFor_of_name pn_19) ?_
  intro p e s m below meth c s₁ hx hZ hby hml hown hnm hret hlk X0 e0
  have N0 := Fr.nil n0
  refine Win.to s₁ (mkF m 0 #[.val (.ref a1)] []) (fun _ k => castTop rfl k) ?_
  refine W.aloadN X0 hx (hc hby D19 0 rfl) rfl rfl ?_
  obtain ⟨T101, X101, e101, st101⟩ := initO X0 hx hZ hown (wk hw 98 rfl) (wk hw 7 rfl) (wk hw 8 rfl) e0 (g := (mkF m 1 #[.val (.ref a1)] [(.ref a1)])) rfl (by rw [hml]; rfl) rfl (hc hby D19 1 rfl) (by decide) (W := 0) (by show 2 * 0 + _ ≤ _; exact Nat.le_of_eq rfl) (by decide)
  refine Win.to T101 (mkF m 4 #[.val (.ref a1)] []) (fun _ k => st101 _ k) ?_
  exact Win.retV X101 hx hlk hret (hc hby D19 2 rfl) (by decide) (by decide) (by (try rw [e101]); exact ⟨rfl, N0, rfl⟩)
abbrev R_xBigDec_init1 : Room := ⟨2, 0, 0, 24⟩
theorem xBigDec_init1 (l : Launch) (Z : State) (a0 : Array Value) (hw : ∀ d ∈ tables_1, d.before a0 Z = true) (SS : Stat Z) (ix : Fin 6) (a1 : Addr) (h0 : Heap) (n0 : Nat) (O0 : Old Z n0 h0) (P0 : Exa Z h0 a1 "java/math/BigDecimal") (P1 : Fld Z h0 a1 "java/math/BigDecimal" "intCompact" "J" (.long (0 : Int64))) (P2 : Fld Z h0 a1 "java/math/BigDecimal" "intVal" "Ljava/math/BigInteger;" .null) (P3 : Fld Z h0 a1 "java/math/BigDecimal" "precision" "I" (.int (0 : Int32))) (P4 : Fld Z h0 a1 "java/math/BigDecimal" "scale" "I" (.int (0 : Int32))) (g_a1 : n0 ≤ a1) :
    MetN l Z (⟨"java/math/BigDecimal", "<init>", "(Ljava/math/BigInteger;JII)V"⟩ : MethodName) jdk_17_method_1_code 6 none R_xBigDec_init1 [] #[(.ref a1), .null, (.long (vJ ix [1000000000, 2000000000, 4000000000, 8000000000, 16000000000, 30000000000])), (.int (9 : Int32)), (.int (0 : Int32))] h0 (fun v h L => v = none ∧ Fr n0 L ∧ Keep h0 h [a1] ∧ Fld Z h a1 "java/math/BigDecimal" "intCompact" "J" (.long (vJ ix [1000000000, 2000000000, 4000000000, 8000000000, 16000000000, 30000000000])) ∧ Fld Z h a1 "java/math/BigDecimal" "intVal" "Ljava/math/BigInteger;" .null ∧ Fld Z h a1 "java/math/BigDecimal" "precision" "I" (.int (0 : Int32)) ∧ Fld Z h a1 "java/math/BigDecimal" "scale" "I" (.int (9 : Int32)) ∧ Exa Z h a1 "java/math/BigDecimal") := by
  refine MetN.walk (plainFor_of_name pn_18) ?_
  intro p e s m below meth c s₁ hx hZ hby hml hown hnm hret hlk X0 e0
  have N0 := Fr.nil n0
  refine Win.to s₁ (mkF m 0 #[.val (.ref a1), .val .null, .val (.long (vJ ix [1000000000, 2000000000, 4000000000, 8000000000, 16000000000, 30000000000])), .second, .val (.int (9 : Int32)), .val (.int (0 : Int32))] []) (fun _ k => castTop rfl k) ?_
  refine W.aloadN X0 hx (hc hby D18 0 rfl) rfl rfl ?_
  refine W.special X0 hx hZ rfl hown (wk hw 92 rfl) (wk hw 93 rfl) (wk hw 96 rfl) (wk hw 97 rfl) (by decide) (xNumber_init1 l Z a0 hw SS a1 h0 n0 O0 ) e0 (by rw [hml]; rfl) (a := a1) (argsL := []) (rest := []) rfl (lenOf pd___V rfl) rfl (W := 0) (Nat.le_of_eq rfl) (hc hby D18 1 rfl) (by decide) (by decide) (by decide) (by decide) (fun T101 h101 v101 L101 X101 e101 q101 => ?_)
  obtain ⟨rfl, N101q, r101_0⟩ := q101
  have N102 := Fr.app N0 N101q
  have e101 := e101.trans r101_0
  refine W.aloadN X101 hx (hc hby D18 2 rfl) rfl rfl ?_
  refine W.iload X101 hx (hc hby D18 3 rfl) rfl ?_
  refine W.putF X101 hx hZ hown (host := "") (Or.inl (wk hw 66 rfl)) Via.refl e101 P4 P0 (Or.inr ⟨(wk hw 67 rfl), rfl, hnm⟩) (wk hw 87 rfl) (ty := .int) (by decide) rfl rfl (hc hby D18 4 rfl) O0 g_a1 (Keep.refl h0 [a1]) (Or.inl (List.mem_of_getElem? (i := 0) rfl)) N102 (fun T103 h103 X103 e103 W103 O103 K103 N103 F103 => ?_)
  refine W.aloadN X103 hx (hc hby D18 5 rfl) rfl rfl ?_
  refine W.iload X103 hx (hc hby D18 6 rfl) rfl ?_
  have F104 := Exa.wr W103 P0
  have F105 := Fld.other W103 P3 (Or.inr (slot_ne (Or.inl (wk hw 100 rfl)) (Or.inr (wk hw 67 rfl)) (by decide) (t := .int) (t' := .int) (by decide) (by decide)))
  refine W.putF X103 hx hZ hown (host := "") (Or.inl (wk hw 99 rfl)) Via.refl e103 F105 F104 (Or.inl (wk hw 100 rfl)) (wk hw 87 rfl) (ty := .int) (by decide) rfl rfl (hc hby D18 7 rfl) O103 g_a1 K103 (Or.inl (List.mem_of_getElem? (i := 0) rfl)) N103 (fun T106 h106 X106 e106 W106 O106 K106 N106 F106 => ?_)
  refine W.aloadN X106 hx (hc hby D18 8 rfl) rfl rfl ?_
  refine W.lloadN X106 hx (hc hby D18 9 rfl) rfl ?_
  have F107 := Exa.wr W106 F104
  have F108 := Fld.other W106 (Fld.other W103 P1 (Or.inr (slot_ne (Or.inr (wk hw 64 rfl)) (Or.inr (wk hw 67 rfl)) (by decide) (t := .long) (t' := .int) (by decide) (by decide)))) (Or.inr (slot_ne (Or.inr (wk hw 64 rfl)) (Or.inl (wk hw 100 rfl)) (by decide) (t := .long) (t' := .int) (by decide) (by decide)))
  refine W.putF X106 hx hZ hown (host := "") (Or.inl (wk hw 63 rfl)) Via.refl e106 F108 F107 (Or.inr ⟨(wk hw 64 rfl), rfl, hnm⟩) (wk hw 87 rfl) (ty := .long) (by decide) rfl rfl (hc hby D18 10 rfl) O106 g_a1 K106 (Or.inl (List.mem_of_getElem? (i := 0) rfl)) N106 (fun T109 h109 X109 e109 W109 O109 K109 N109 F109 => ?_)
  refine W.aloadN X109 hx (hc hby D18 11 rfl) rfl rfl ?_
  refine W.aloadN X109 hx (hc hby D18 12 rfl) rfl rfl ?_
  have F110 := Exa.wr W109 F107
  have F111 := Fld.other W109 (Fld.other W106 (Fld.other W103 P2 (Or.inr (slot_ne (Or.inr (wk hw 102 rfl)) (Or.inr (wk hw 67 rfl)) (by decide) (t := (.object "java/math/BigInteger")) (t' := .int) (by decide) (by decide)))) (Or.inr (slot_ne (Or.inr (wk hw 102 rfl)) (Or.inl (wk hw 100 rfl)) (by decide) (t := (.object "java/math/BigInteger")) (t' := .int) (by decide) (by decide)))) (Or.inr (slot_ne (Or.inr (wk hw 102 rfl)) (Or.inr (wk hw 64 rfl)) (by decide) (t := (.object "java/math/BigInteger")) (t' := .long) (by decide) (by decide)))
  refine W.putF X109 hx hZ hown (host := "") (Or.inl (wk hw 101 rfl)) Via.refl e109 F111 F110 (Or.inr ⟨(wk hw 102 rfl), rfl, hnm⟩) (wk hw 87 rfl) (ty := (.object "java/math/BigInteger")) (by decide) rfl rfl (hc hby D18 13 rfl) O109 g_a1 K109 (Or.inl (List.mem_of_getElem? (i := 0) rfl)) N109 (fun T112 h112 X112 e112 W112 O112 K112 N112 F112 => ?_)
  have F113 := Fld.other W112 F109 (Or.inr (slot_ne (Or.inr (wk hw 64 rfl)) (Or.inr (wk hw 102 rfl)) (by decide) (t := .long) (t' := (.object "java/math/BigInteger")) (by decide) (by decide)))
  have F114 := Fld.other W112 (Fld.other W109 F106 (Or.inr (slot_ne (Or.inl (wk hw 100 rfl)) (Or.inr (wk hw 64 rfl)) (by decide) (t := .int) (t' := .long) (by decide) (by decide)))) (Or.inr (slot_ne (Or.inl (wk hw 100 rfl)) (Or.inr (wk hw 102 rfl)) (by decide) (t := .int) (t' := (.object "java/math/BigInteger")) (by decide) (by decide)))
  have F115 := Fld.other W112 (Fld.other W109 (Fld.other W106 F103 (Or.inr (slot_ne (Or.inr (wk hw 67 rfl)) (Or.inl (wk hw 100 rfl)) (by decide) (t := .int) (t' := .int) (by decide) (by decide)))) (Or.inr (slot_ne (Or.inr (wk hw 67 rfl)) (Or.inr (wk hw 64 rfl)) (by decide) (t := .int) (t' := .long) (by decide) (by decide)))) (Or.inr (slot_ne (Or.inr (wk hw 67 rfl)) (Or.inr (wk hw 102 rfl)) (by decide) (t := .int) (t' := (.object "java/math/BigInteger")) (by decide) (by decide)))
  have F116 := Exa.wr W112 F110
  exact Win.retV X112 hx hlk hret (hc hby D18 14 rfl) (by decide) (by decide) (by (try rw [e112]); exact ⟨rfl, N112, K112, F113, F112, F114, F115, F116⟩)
abbrev R_xMath_floorDiv1 : Room := ⟨0, 0, 0, 0⟩
theorem xMath_floorDiv1 (l : Launch) (Z : State) (a0 : Array Value) (hw : ∀ d ∈ tables_1, d.before a0 Z = true) (SS : Stat Z) (h0 : Heap) (n0 : Nat) (O0 : Old Z n0 h0)  :
    MetN l Z (⟨"java/lang/Math", "floorDiv", "(JJ)J"⟩ : MethodName) jdk_29_method_49_code 6 (some .long) R_xMath_floorDiv1 [] #[(.long (0 : Int64)), (.long (1000000000 : Int64))] h0 (fun v h L => v = some (.long (0 : Int64)) ∧ Fr n0 L ∧ h = h0) := by
  refine MetN.walk (Jvm.Free.JP.mathPlain rfl (by decide +kernel)) ?_
  intro p e s m below meth c s₁ hx hZ hby hml hown hnm hret hlk X0 e0
  have N0 := Fr.nil n0
  refine Win.to s₁ (mkF m 0 #[.val (.long (0 : Int64)), .second, .val (.long (1000000000 : Int64)), .second, .unset, .unset] []) (fun _ k => castTop rfl k) ?_
  refine W.lloadN X0 hx (hc hby D52 0 rfl) rfl ?_
  refine W.lloadN X0 hx (hc hby D52 1 rfl) rfl ?_
  refine W.ldiv X0 hx (hc hby D52 2 rfl) (by decide) (v := (0 : Int64)) (by decide) ?_
  refine W.lstore X0 hx (hc hby D52 3 rfl) (l' := #[.val (.long (0 : Int64)), .second, .val (.long (1000000000 : Int64)), .second, .val (.long (0 : Int64)), .second]) rfl ?_
  refine W.lloadN X0 hx (hc hby D52 4 rfl) rfl ?_
  refine W.lloadN X0 hx (hc hby D52 5 rfl) rfl ?_
  refine W.lxor X0 hx (hc hby D52 6 rfl) (v := (1000000000 : Int64)) (by decide) ?_
  refine W.lconst X0 hx (hc hby D52 7 rfl) (v := 0) rfl ?_
  refine W.lcmp X0 hx (hc hby D52 8 rfl) (v := (1 : Int32)) (by decide) ?_
  refine W.ifYes X0 hx (hc hby D52 9 rfl) (by decide) (by decide) (pc' := 27) rfl ?_
  refine W.lload X0 hx (hc hby D52 10 rfl) rfl ?_
  exact Win.retJ X0 hx hlk hret (hc hby D52 11 rfl) (by decide) (by decide) (by (try rw [e0]); exact ⟨rfl, N0, rfl⟩)
abbrev R_xMath_addExact1 : Room := ⟨0, 0, 0, 0⟩
theorem xMath_addExact1 (l : Launch) (Z : State) (a0 : Array Value) (hw : ∀ d ∈ tables_1, d.before a0 Z = true) (SS : Stat Z) (ix : Fin 6) (h0 : Heap) (n0 : Nat) (O0 : Old Z n0 h0)  :
    MetN l Z (⟨"java/lang/Math", "addExact", "(JJ)J"⟩ : MethodName) jdk_29_method_25_code 6 (some .long) R_xMath_addExact1 [] #[(.long (vJ ix [2, 4, 8, 16, 32, 60])), (.long (0 : Int64))] h0 (fun v h L => v = some (.long (vJ ix [2, 4, 8, 16, 32, 60])) ∧ Fr n0 L ∧ h = h0) := by
  refine MetN.walk (Jvm.Free.JP.mathPlain rfl (by decide +kernel)) ?_
  intro p e s m below meth c s₁ hx hZ hby hml hown hnm hret hlk X0 e0
  have N0 := Fr.nil n0
  refine Win.to s₁ (mkF m 0 #[.val (.long (vJ ix [2, 4, 8, 16, 32, 60])), .second, .val (.long (0 : Int64)), .second, .unset, .unset] []) (fun _ k => castTop rfl k) ?_
  refine W.lloadN X0 hx (hc hby D53 0 rfl) rfl ?_
  refine W.lloadN X0 hx (hc hby D53 1 rfl) rfl ?_
  refine W.ladd X0 hx (hc hby D53 2 rfl) (v := (vJ ix [2, 4, 8, 16, 32, 60])) ((show ∀ ix : Fin 6, (vJ ix [2, 4, 8, 16, 32, 60]) + (0 : Int64) = (vJ ix [2, 4, 8, 16, 32, 60]) from by decide +kernel) ix) ?_
  refine W.lstore X0 hx (hc hby D53 3 rfl) (l' := #[.val (.long (vJ ix [2, 4, 8, 16, 32, 60])), .second, .val (.long (0 : Int64)), .second, .val (.long (vJ ix [2, 4, 8, 16, 32, 60])), .second]) rfl ?_
  refine W.lloadN X0 hx (hc hby D53 4 rfl) rfl ?_
  refine W.lload X0 hx (hc hby D53 5 rfl) rfl ?_
  refine W.lxor X0 hx (hc hby D53 6 rfl) (v := (0 : Int64)) ((show ∀ ix : Fin 6, (vJ ix [2, 4, 8, 16, 32, 60]) ^^^ (vJ ix [2, 4, 8, 16, 32, 60]) = (0 : Int64) from by decide +kernel) ix) ?_
  refine W.lloadN X0 hx (hc hby D53 7 rfl) rfl ?_
  refine W.lload X0 hx (hc hby D53 8 rfl) rfl ?_
  refine W.lxor X0 hx (hc hby D53 9 rfl) (v := (vJ ix [2, 4, 8, 16, 32, 60])) ((show ∀ ix : Fin 6, (0 : Int64) ^^^ (vJ ix [2, 4, 8, 16, 32, 60]) = (vJ ix [2, 4, 8, 16, 32, 60]) from by decide +kernel) ix) ?_
  refine W.land X0 hx (hc hby D53 10 rfl) (v := (0 : Int64)) ((show ∀ ix : Fin 6, (0 : Int64) &&& (vJ ix [2, 4, 8, 16, 32, 60]) = (0 : Int64) from by decide +kernel) ix) ?_
  refine W.lconst X0 hx (hc hby D53 11 rfl) (v := 0) rfl ?_
  refine W.lcmp X0 hx (hc hby D53 12 rfl) (v := (0 : Int32)) (by decide) ?_
  refine W.ifYes X0 hx (hc hby D53 13 rfl) (by decide) (by decide) (pc' := 29) rfl ?_
  refine W.lload X0 hx (hc hby D53 14 rfl) rfl ?_
  exact Win.retJ X0 hx hlk hret (hc hby D53 15 rfl) (by decide) (by decide) (by (try rw [e0]); exact ⟨rfl, N0, rfl⟩)
abbrev R_xMath_floorMod1 : Room := ⟨0, 0, 0, 0⟩
theorem xMath_floorMod1 (l : Launch) (Z : State) (a0 : Array Value) (hw : ∀ d ∈ tables_1, d.before a0 Z = true) (SS : Stat Z) (h0 : Heap) (n0 : Nat) (O0 : Old Z n0 h0)  :
    MetN l Z (⟨"java/lang/Math", "floorMod", "(JJ)J"⟩ : MethodName) jdk_29_method_52_code 6 (some .long) R_xMath_floorMod1 [] #[(.long (0 : Int64)), (.long (1000000000 : Int64))] h0 (fun v h L => v = some (.long (0 : Int64)) ∧ Fr n0 L ∧ h = h0) := by
  refine MetN.walk (Jvm.Free.JP.mathPlain rfl (by decide +kernel)) ?_
  intro p e s m below meth c s₁ hx hZ hby hml hown hnm hret hlk X0 e0
  have N0 := Fr.nil n0
  refine Win.to s₁ (mkF m 0 #[.val (.long (0 : Int64)), .second, .val (.long (1000000000 : Int64)), .second, .unset, .unset] []) (fun _ k => castTop rfl k) ?_
  refine W.lloadN X0 hx (hc hby D54 0 rfl) rfl ?_
  refine W.lloadN X0 hx (hc hby D54 1 rfl) rfl ?_
  refine Win.to s₁ (mkF m 3 #[.val (.long (0 : Int64)), .second, .val (.long (1000000000 : Int64)), .second, .unset, .unset] [(.long (0 : Int64))]) (fun _ k => XS.lrem X0.here hx rfl (hc hby D54 2 rfl) rfl (by decide) (by rw [show ((0 : Int64) - ((0 : Int64) / (1000000000 : Int64)) * (1000000000 : Int64)) = (0 : Int64) from by decide]; exact k)) ?_
  refine W.lstore X0 hx (hc hby D54 3 rfl) (l' := #[.val (.long (0 : Int64)), .second, .val (.long (1000000000 : Int64)), .second, .val (.long (0 : Int64)), .second]) rfl ?_
  refine W.lloadN X0 hx (hc hby D54 4 rfl) rfl ?_
  refine W.lloadN X0 hx (hc hby D54 5 rfl) rfl ?_
  refine W.lxor X0 hx (hc hby D54 6 rfl) (v := (1000000000 : Int64)) (by decide) ?_
  refine W.lconst X0 hx (hc hby D54 7 rfl) (v := 0) rfl ?_
  refine W.lcmp X0 hx (hc hby D54 8 rfl) (v := (1 : Int32)) (by decide) ?_
  refine W.ifYes X0 hx (hc hby D54 9 rfl) (by decide) (by decide) (pc' := 25) rfl ?_
  refine W.lload X0 hx (hc hby D54 10 rfl) rfl ?_
  exact Win.retJ X0 hx hlk hret (hc hby D54 11 rfl) (by decide) (by decide) (by (try rw [e0]); exact ⟨rfl, N0, rfl⟩)
abbrev R_xDurati_init1 : Room := ⟨1, 0, 0, 12⟩
theorem xDurati_init1 (l : Launch) (Z : State) (a0 : Array Value) (hw : ∀ d ∈ tables_1, d.before a0 Z = true) (SS : Stat Z) (ix : Fin 6) (a1 : Addr) (h0 : Heap) (n0 : Nat) (O0 : Old Z n0 h0) (P0 : Exa Z h0 a1 "java/time/Duration") (P1 : Fld Z h0 a1 "java/time/Duration" "nanos" "I" (.int (0 : Int32))) (P2 : Fld Z h0 a1 "java/time/Duration" "seconds" "J" (.long (0 : Int64))) (g_a1 : n0 ≤ a1) :
    MetN l Z (⟨"java/time/Duration", "<init>", "(JI)V"⟩ : MethodName) jdk_2316_method_17_code 4 none R_xDurati_init1 [] #[(.ref a1), (.long (vJ ix [2, 4, 8, 16, 32, 60])), (.int (0 : Int32))] h0 (fun v h L => v = none ∧ Fr n0 L ∧ Keep h0 h [a1] ∧ Fld Z h a1 "java/time/Duration" "nanos" "I" (.int (0 : Int32)) ∧ Fld Z h a1 "java/time/Duration" "seconds" "J" (.long (vJ ix [2, 4, 8, 16, 32, 60])) ∧ Exa Z h a1 "java/time/Duration") := by
  refine MetN.walk (plainFor_of_name pn_56) ?_
  intro p e s m below meth c s₁ hx hZ hby hml hown hnm hret hlk X0 e0
  have N0 := Fr.nil n0
  refine Win.to s₁ (mkF m 0 #[.val (.ref a1), .val (.long (vJ ix [2, 4, 8, 16, 32, 60])), .second, .val (.int (0 : Int32))] []) (fun _ k => castTop rfl k) ?_
  refine W.aloadN X0 hx (hc hby D56 0 rfl) rfl rfl ?_
  obtain ⟨T101, X101, e101, st101⟩ := initO X0 hx hZ hown (wk hw 296 rfl) (wk hw 7 rfl) (wk hw 8 rfl) e0 (g := (mkF m 1 #[.val (.ref a1), .val (.long (vJ ix [2, 4, 8, 16, 32, 60])), .second, .val (.int (0 : Int32))] [(.ref a1)])) rfl (by rw [hml]; rfl) rfl (hc hby D56 1 rfl) (by decide) (W := 0) (by show 2 * 0 + _ ≤ _; exact Nat.le_of_eq rfl) (by decide)
  refine Win.to T101 (mkF m 4 #[.val (.ref a1), .val (.long (vJ ix [2, 4, 8, 16, 32, 60])), .second, .val (.int (0 : Int32))] []) (fun _ k => st101 _ k) ?_
  refine W.aloadN X101 hx (hc hby D56 2 rfl) rfl rfl ?_
  refine W.lloadN X101 hx (hc hby D56 3 rfl) rfl ?_
  refine W.putF X101 hx hZ hown (host := "") (Or.inl (wk hw 42 rfl)) Via.refl e101 P2 P0 (Or.inr ⟨(wk hw 43 rfl), rfl, hnm⟩) (wk hw 291 rfl) (ty := .long) (by decide) rfl rfl (hc hby D56 4 rfl) O0 g_a1 (Keep.refl h0 [a1]) (Or.inl (List.mem_of_getElem? (i := 0) rfl)) N0 (fun T102 h102 X102 e102 W102 O102 K102 N102 F102 => ?_)
  refine W.aloadN X102 hx (hc hby D56 5 rfl) rfl rfl ?_
  refine W.iloadN X102 hx (hc hby D56 6 rfl) rfl ?_
  have F103 := Exa.wr W102 P0
  have F104 := Fld.other W102 P1 (Or.inr (slot_ne (Or.inr (wk hw 50 rfl)) (Or.inr (wk hw 43 rfl)) (by decide) (t := .int) (t' := .long) (by decide) (by decide)))
  refine W.putF X102 hx hZ hown (host := "") (Or.inl (wk hw 49 rfl)) Via.refl e102 F104 F103 (Or.inr ⟨(wk hw 50 rfl), rfl, hnm⟩) (wk hw 291 rfl) (ty := .int) (by decide) rfl rfl (hc hby D56 7 rfl) O102 g_a1 K102 (Or.inl (List.mem_of_getElem? (i := 0) rfl)) N102 (fun T105 h105 X105 e105 W105 O105 K105 N105 F105 => ?_)
  have F106 := Fld.other W105 F102 (Or.inr (slot_ne (Or.inr (wk hw 43 rfl)) (Or.inr (wk hw 50 rfl)) (by decide) (t := .long) (t' := .int) (by decide) (by decide)))
  have F107 := Exa.wr W105 F103
  exact Win.retV X105 hx hlk hret (hc hby D56 8 rfl) (by decide) (by decide) (by (try rw [e105]); exact ⟨rfl, N105, K105, F105, F106, F107⟩)
abbrev R_xDurati_create1 : Room := ⟨2, 1, 2, 28⟩
theorem xDurati_create1 (l : Launch) (Z : State) (a0 : Array Value) (hw : ∀ d ∈ tables_1, d.before a0 Z = true) (SS : Stat Z) (ix : Fin 6) (h0 : Heap) (n0 : Nat) (O0 : Old Z n0 h0)  :
    MetN l Z (⟨"java/time/Duration", "create", "(JI)Ljava/time/Duration;"⟩ : MethodName) jdk_2316_method_16_code 3 (some (.object "java/time/Duration")) R_xDurati_create1 [] #[(.long (vJ ix [2, 4, 8, 16, 32, 60])), (.int (0 : Int32))] h0 (fun v h L => ∃ (r1 : Addr), v = some (.ref r1) ∧ Fr n0 L ∧ Keep h0 h [] ∧ h0.size ≤ r1 ∧ Fld Z h r1 "java/time/Duration" "nanos" "I" (.int (0 : Int32)) ∧ Fld Z h r1 "java/time/Duration" "seconds" "J" (.long (vJ ix [2, 4, 8, 16, 32, 60])) ∧ Exa Z h r1 "java/time/Duration") := by
  refine MetN.walk (plainFor_of_name pn_55) ?_
  intro p e s m below meth c s₁ hx hZ hby hml hown hnm hret hlk X0 e0
  have N0 := Fr.nil n0
  refine Win.to s₁ (mkF m 0 #[.val (.long (vJ ix [2, 4, 8, 16, 32, 60])), .second, .val (.int (0 : Int32))] []) (fun _ k => castTop rfl k) ?_
  refine W.lloadN X0 hx (hc hby D55 0 rfl) rfl ?_
  refine W.iloadN X0 hx (hc hby D55 1 rfl) rfl ?_
  refine W.i2l X0 hx (hc hby D55 2 rfl) (v := (0 : Int64)) (by decide) ?_
  refine W.lor X0 hx (hc hby D55 3 rfl) (v := (vJ ix [2, 4, 8, 16, 32, 60])) ((show ∀ ix : Fin 6, (vJ ix [2, 4, 8, 16, 32, 60]) ||| (0 : Int64) = (vJ ix [2, 4, 8, 16, 32, 60]) from by decide +kernel) ix) ?_
  refine W.lconst X0 hx (hc hby D55 4 rfl) (v := 0) rfl ?_
  refine W.lcmp X0 hx (hc hby D55 5 rfl) (v := (1 : Int32)) ((show ∀ ix : Fin 6, lcmpW (vJ ix [2, 4, 8, 16, 32, 60]) (0 : Int64) = (1 : Int32) from by decide +kernel) ix) ?_
  refine W.ifYes X0 hx (hc hby D55 6 rfl) (by decide) (by decide) (pc' := 13) rfl ?_
  obtain ⟨T101, h101, X101, e101, E101, A101, D101, -, st101⟩ := newO X0 hx hZ hown (wk hw 290 rfl) (wk hw 291 rfl) (wk hw 35 rfl) e0 (g := (mkF m 13 #[.val (.long (vJ ix [2, 4, 8, 16, 32, 60])), .second, .val (.int (0 : Int32))] [])) rfl (hc hby D55 7 rfl) (by decide) (by decide)
  obtain ⟨b101, g101⟩ : ∃ z, z = h0.size := ⟨_, rfl⟩
  rw [← g101] at A101 D101 st101
  have g102 : n0 ≤ b101 := Nat.le_trans (own_le O0) (Nat.le_of_eq g101.symm)
  have z103 : h0.size ≤ b101 := (Nat.le_of_eq g101.symm)
  have O104 := Old.ext O0 E101
  have K105 : Keep h0 h101 [] := (Keep.refl h0 []).ext E101
  have F106 : Fld Z h101 b101 "java/time/Duration" "seconds" "J" (.long (0 : Int64)) := D101 (Or.inr (wk hw 43 rfl)) (ty := .long) (by decide)
  have F107 : Fld Z h101 b101 "java/time/Duration" "nanos" "I" (.int (0 : Int32)) := D101 (Or.inr (wk hw 50 rfl)) (ty := .int) (by decide)
  refine Win.to T101 (mkF m 16 #[.val (.long (vJ ix [2, 4, 8, 16, 32, 60])), .second, .val (.int (0 : Int32))] [(.ref b101)]) (fun _ k => st101 _ k) ?_
  refine W.dup X101 hx (hc hby D55 8 rfl) rfl ?_
  refine W.lloadN X101 hx (hc hby D55 9 rfl) rfl ?_
  refine W.iloadN X101 hx (hc hby D55 10 rfl) rfl ?_
  refine W.special X101 hx hZ rfl hown (wk hw 292 rfl) (wk hw 293 rfl) (wk hw 35 rfl) (wk hw 295 rfl) (by decide) (xDurati_init1 l Z a0 hw SS ix b101 h101 n0 O104 A101 F107 F106 g102) e101 (by rw [hml]; rfl) (a := b101) (argsL := [(.long (vJ ix [2, 4, 8, 16, 32, 60])), (.int (0 : Int32))]) (rest := [(.ref b101)]) rfl (lenOf pd__JI_V rfl) rfl (W := 1) (Nat.le_of_eq rfl) (hc hby D55 11 rfl) (by decide) (by decide) (by decide) (by decide) (fun T108 h108 v108 L108 X108 e108 q108 => ?_)
  obtain ⟨rfl, N108q, r108_0, r108_1, r108_2, r108_3⟩ := q108
  have N109 := Fr.app N0 N108q
  have O110 := Old.keep O104 r108_0 (allS g102 all0)
  have K111 : Keep h0 h108 [] := Keep.trans K105 r108_0 (allS (Or.inr z103) all0)
  exact Win.retA X108 hx hlk hret rfl rfl (hc hby D55 12 rfl) (by decide) (by decide) (by (try rw [e108]); exact ⟨b101, rfl, N109, K111, z103, r108_1, r108_2, r108_3⟩)
abbrev R_xDurati_ofSeconds1 : Room := ⟨3, 1, 2, 42⟩
theorem xDurati_ofSeconds1 (l : Launch) (Z : State) (a0 : Array Value) (hw : ∀ d ∈ tables_1, d.before a0 Z = true) (SS : Stat Z) (ix : Fin 6) (h0 : Heap) (n0 : Nat) (O0 : Old Z n0 h0)  :
    MetN l Z (⟨"java/time/Duration", "ofSeconds", "(JJ)Ljava/time/Duration;"⟩ : MethodName) jdk_2316_method_5_code 7 (some (.object "java/time/Duration")) R_xDurati_ofSeconds1 [] #[(.long (vJ ix [2, 4, 8, 16, 32, 60])), (.long (0 : Int64))] h0 (fun v h L => ∃ (r1 : Addr), v = some (.ref r1) ∧ Fr n0 L ∧ Keep h0 h [] ∧ h0.size ≤ r1 ∧ Fld Z h r1 "java/time/Duration" "nanos" "I" (.int (0 : Int32)) ∧ Fld Z h r1 "java/time/Duration" "seconds" "J" (.long (vJ ix [2, 4, 8, 16, 32, 60])) ∧ Exa Z h r1 "java/time/Duration") := by
  refine MetN.walk (plainFor_of_name pn_51) ?_
  intro p e s m below meth c s₁ hx hZ hby hml hown hnm hret hlk X0 e0
  have N0 := Fr.nil n0
  refine Win.to s₁ (mkF m 0 #[.val (.long (vJ ix [2, 4, 8, 16, 32, 60])), .second, .val (.long (0 : Int64)), .second, .unset, .unset, .unset] []) (fun _ k => castTop rfl k) ?_
  refine W.lloadN X0 hx (hc hby D51 0 rfl) rfl ?_
  refine W.lloadN X0 hx (hc hby D51 1 rfl) rfl ?_
  refine W.ldc2 X0 hx (hc hby D51 2 rfl) hown (mvT hZ (wk hw 277 rfl)) ?_
  refine W.static X0 hx hZ hown (wk hw 278 rfl) (wk hw 279 rfl) (wk hw 121 rfl) (wk hw 280 rfl) (by decide) (xMath_floorDiv1 l Z a0 hw SS h0 n0 O0 ) e0 (by rw [hml]; rfl) (argsL := [(.long (0 : Int64)), (.long (1000000000 : Int64))]) (rest := [(.long (vJ ix [2, 4, 8, 16, 32, 60]))]) rfl (lenOf pd__JJ_J rfl) rfl (W := 2) (Nat.le_of_eq rfl) (hc hby D51 3 rfl) (by decide) (by decide) (by decide) (by decide) (fun T101 h101 v101 L101 X101 e101 q101 => ?_)
  obtain ⟨rfl, N101q, r101_0⟩ := q101
  have N102 := Fr.app N0 N101q
  have e101 := e101.trans r101_0
  refine W.static X101 hx hZ hown (wk hw 281 rfl) (wk hw 282 rfl) (wk hw 121 rfl) (wk hw 283 rfl) (by decide) (xMath_addExact1 l Z a0 hw SS ix h0 n0 O0 ) e101 (by rw [hml]; rfl) (argsL := [(.long (vJ ix [2, 4, 8, 16, 32, 60])), (.long (0 : Int64))]) (rest := []) rfl (lenOf pd__JJ_J rfl) rfl (W := 0) (Nat.le_of_eq rfl) (hc hby D51 4 rfl) (by decide) (by decide) (by decide) (by decide) (fun T103 h103 v103 L103 X103 e103 q103 => ?_)
  obtain ⟨rfl, N103q, r103_0⟩ := q103
  have N104 := Fr.app N102 N103q
  have e103 := e103.trans r103_0
  refine W.lstore X103 hx (hc hby D51 5 rfl) (l' := #[.val (.long (vJ ix [2, 4, 8, 16, 32, 60])), .second, .val (.long (0 : Int64)), .second, .val (.long (vJ ix [2, 4, 8, 16, 32, 60])), .second, .unset]) rfl ?_
  refine W.lloadN X103 hx (hc hby D51 6 rfl) rfl ?_
  refine W.ldc2 X103 hx (hc hby D51 7 rfl) hown (mvT hZ (wk hw 277 rfl)) ?_
  refine W.static X103 hx hZ hown (wk hw 284 rfl) (wk hw 285 rfl) (wk hw 121 rfl) (wk hw 286 rfl) (by decide) (xMath_floorMod1 l Z a0 hw SS h0 n0 O0 ) e103 (by rw [hml]; rfl) (argsL := [(.long (0 : Int64)), (.long (1000000000 : Int64))]) (rest := []) rfl (lenOf pd__JJ_J rfl) rfl (W := 0) (Nat.le_of_eq rfl) (hc hby D51 8 rfl) (by decide) (by decide) (by decide) (by decide) (fun T105 h105 v105 L105 X105 e105 q105 => ?_)
  obtain ⟨rfl, N105q, r105_0⟩ := q105
  have N106 := Fr.app N104 N105q
  have e105 := e105.trans r105_0
  refine W.l2i X105 hx (hc hby D51 9 rfl) (v := (0 : Int32)) (by decide) ?_
  refine W.istore X105 hx (hc hby D51 10 rfl) (l' := #[.val (.long (vJ ix [2, 4, 8, 16, 32, 60])), .second, .val (.long (0 : Int64)), .second, .val (.long (vJ ix [2, 4, 8, 16, 32, 60])), .second, .val (.int (0 : Int32))]) rfl ?_
  refine W.lload X105 hx (hc hby D51 11 rfl) rfl ?_
  refine W.iload X105 hx (hc hby D51 12 rfl) rfl ?_
  refine W.static X105 hx hZ hown (wk hw 287 rfl) (wk hw 288 rfl) (wk hw 35 rfl) (wk hw 289 rfl) (by decide) (xDurati_create1 l Z a0 hw SS ix h0 n0 O0 ) e105 (by rw [hml]; rfl) (argsL := [(.long (vJ ix [2, 4, 8, 16, 32, 60])), (.int (0 : Int32))]) (rest := []) rfl (lenOf pd__JI_Ljava_time_Duration_ rfl) rfl (W := 0) (Nat.le_of_eq rfl) (hc hby D51 13 rfl) (by decide) (by decide) (by decide) (by decide) (fun T107 h107 v107 L107 X107 e107 q107 => ?_)
  obtain ⟨r1_107, rfl, N107q, r107_0, r107_1, r107_2, r107_3, r107_4⟩ := q107
  have N108 := Fr.app N106 N107q
  have g109 : n0 ≤ r1_107 := Nat.le_trans (own_le O0) r107_1
  have z110 : h0.size ≤ r1_107 := r107_1
  have O111 := Old.keep O0 r107_0 all0
  have K112 : Keep h0 h107 [] := Keep.trans (Keep.refl h0 []) r107_0 all0
  exact Win.retA X107 hx hlk hret rfl rfl (hc hby D51 14 rfl) (by decide) (by decide) (by (try rw [e107]); exact ⟨r1_107, rfl, N108, K112, z110, r107_2, r107_3, r107_4⟩)
abbrev R_xBigDec_init2 : Room := ⟨2, 0, 0, 24⟩
theorem xBigDec_init2 (l : Launch) (Z : State) (a0 : Array Value) (hw : ∀ d ∈ tables_1, d.before a0 Z = true) (SS : Stat Z) (a1 : Addr) (h0 : Heap) (n0 : Nat) (O0 : Old Z n0 h0) (P0 : Exa Z h0 a1 "java/math/BigDecimal") (P1 : Fld Z h0 a1 "java/math/BigDecimal" "intCompact" "J" (.long (0 : Int64))) (P2 : Fld Z h0 a1 "java/math/BigDecimal" "intVal" "Ljava/math/BigInteger;" .null) (P3 : Fld Z h0 a1 "java/math/BigDecimal" "precision" "I" (.int (0 : Int32))) (P4 : Fld Z h0 a1 "java/math/BigDecimal" "scale" "I" (.int (0 : Int32))) (g_a1 : n0 ≤ a1) :
    MetN l Z (⟨"java/math/BigDecimal", "<init>", "(Ljava/math/BigInteger;JII)V"⟩ : MethodName) jdk_17_method_1_code 6 none R_xBigDec_init2 [] #[(.ref a1), .null, (.long (16 : Int64)), (.int (0 : Int32)), (.int (0 : Int32))] h0 (fun v h L => v = none ∧ Fr n0 L ∧ Keep h0 h [a1] ∧ Fld Z h a1 "java/math/BigDecimal" "intCompact" "J" (.long (16 : Int64)) ∧ Fld Z h a1 "java/math/BigDecimal" "intVal" "Ljava/math/BigInteger;" .null ∧ Fld Z h a1 "java/math/BigDecimal" "precision" "I" (.int (0 : Int32)) ∧ Fld Z h a1 "java/math/BigDecimal" "scale" "I" (.int (0 : Int32)) ∧ Exa Z h a1 "java/math/BigDecimal") := by
  refine MetN.walk (plainFor_of_name pn_18) ?_
  intro p e s m below meth c s₁ hx hZ hby hml hown hnm hret hlk X0 e0
  have N0 := Fr.nil n0
  refine Win.to s₁ (mkF m 0 #[.val (.ref a1), .val .null, .val (.long (16 : Int64)), .second, .val (.int (0 : Int32)), .val (.int (0 : Int32))] []) (fun _ k => castTop rfl k) ?_
  refine W.aloadN X0 hx (hc hby D18 0 rfl) rfl rfl ?_
  refine W.special X0 hx hZ rfl hown (wk hw 92 rfl) (wk hw 93 rfl) (wk hw 96 rfl) (wk hw 97 rfl) (by decide) (xNumber_init1 l Z a0 hw SS a1 h0 n0 O0 ) e0 (by rw [hml]; rfl) (a := a1) (argsL := []) (rest := []) rfl (lenOf pd___V rfl) rfl (W := 0) (Nat.le_of_eq rfl) (hc hby D18 1 rfl) (by decide) (by decide) (by decide) (by decide) (fun T101 h101 v101 L101 X101 e101 q101 => ?_)
  obtain ⟨rfl, N101q, r101_0⟩ := q101
  have N102 := Fr.app N0 N101q
  have e101 := e101.trans r101_0
  refine W.aloadN X101 hx (hc hby D18 2 rfl) rfl rfl ?_
  refine W.iload X101 hx (hc hby D18 3 rfl) rfl ?_
  refine W.putF X101 hx hZ hown (host := "") (Or.inl (wk hw 66 rfl)) Via.refl e101 P4 P0 (Or.inr ⟨(wk hw 67 rfl), rfl, hnm⟩) (wk hw 87 rfl) (ty := .int) (by decide) rfl rfl (hc hby D18 4 rfl) O0 g_a1 (Keep.refl h0 [a1]) (Or.inl (List.mem_of_getElem? (i := 0) rfl)) N102 (fun T103 h103 X103 e103 W103 O103 K103 N103 F103 => ?_)
  refine W.aloadN X103 hx (hc hby D18 5 rfl) rfl rfl ?_
  refine W.iload X103 hx (hc hby D18 6 rfl) rfl ?_
  have F104 := Exa.wr W103 P0
  have F105 := Fld.other W103 P3 (Or.inr (slot_ne (Or.inl (wk hw 100 rfl)) (Or.inr (wk hw 67 rfl)) (by decide) (t := .int) (t' := .int) (by decide) (by decide)))
  refine W.putF X103 hx hZ hown (host := "") (Or.inl (wk hw 99 rfl)) Via.refl e103 F105 F104 (Or.inl (wk hw 100 rfl)) (wk hw 87 rfl) (ty := .int) (by decide) rfl rfl (hc hby D18 7 rfl) O103 g_a1 K103 (Or.inl (List.mem_of_getElem? (i := 0) rfl)) N103 (fun T106 h106 X106 e106 W106 O106 K106 N106 F106 => ?_)
  refine W.aloadN X106 hx (hc hby D18 8 rfl) rfl rfl ?_
  refine W.lloadN X106 hx (hc hby D18 9 rfl) rfl ?_
  have F107 := Exa.wr W106 F104
  have F108 := Fld.other W106 (Fld.other W103 P1 (Or.inr (slot_ne (Or.inr (wk hw 64 rfl)) (Or.inr (wk hw 67 rfl)) (by decide) (t := .long) (t' := .int) (by decide) (by decide)))) (Or.inr (slot_ne (Or.inr (wk hw 64 rfl)) (Or.inl (wk hw 100 rfl)) (by decide) (t := .long) (t' := .int) (by decide) (by decide)))
  refine W.putF X106 hx hZ hown (host := "") (Or.inl (wk hw 63 rfl)) Via.refl e106 F108 F107 (Or.inr ⟨(wk hw 64 rfl), rfl, hnm⟩) (wk hw 87 rfl) (ty := .long) (by decide) rfl rfl (hc hby D18 10 rfl) O106 g_a1 K106 (Or.inl (List.mem_of_getElem? (i := 0) rfl)) N106 (fun T109 h109 X109 e109 W109 O109 K109 N109 F109 => ?_)
  refine W.aloadN X109 hx (hc hby D18 11 rfl) rfl rfl ?_
  refine W.aloadN X109 hx (hc hby D18 12 rfl) rfl rfl ?_
  have F110 := Exa.wr W109 F107
  have F111 := Fld.other W109 (Fld.other W106 (Fld.other W103 P2 (Or.inr (slot_ne (Or.inr (wk hw 102 rfl)) (Or.inr (wk hw 67 rfl)) (by decide) (t := (.object "java/math/BigInteger")) (t' := .int) (by decide) (by decide)))) (Or.inr (slot_ne (Or.inr (wk hw 102 rfl)) (Or.inl (wk hw 100 rfl)) (by decide) (t := (.object "java/math/BigInteger")) (t' := .int) (by decide) (by decide)))) (Or.inr (slot_ne (Or.inr (wk hw 102 rfl)) (Or.inr (wk hw 64 rfl)) (by decide) (t := (.object "java/math/BigInteger")) (t' := .long) (by decide) (by decide)))
  refine W.putF X109 hx hZ hown (host := "") (Or.inl (wk hw 101 rfl)) Via.refl e109 F111 F110 (Or.inr ⟨(wk hw 102 rfl), rfl, hnm⟩) (wk hw 87 rfl) (ty := (.object "java/math/BigInteger")) (by decide) rfl rfl (hc hby D18 13 rfl) O109 g_a1 K109 (Or.inl (List.mem_of_getElem? (i := 0) rfl)) N109 (fun T112 h112 X112 e112 W112 O112 K112 N112 F112 => ?_)
  have F113 := Fld.other W112 F109 (Or.inr (slot_ne (Or.inr (wk hw 64 rfl)) (Or.inr (wk hw 102 rfl)) (by decide) (t := .long) (t' := (.object "java/math/BigInteger")) (by decide) (by decide)))
  have F114 := Fld.other W112 (Fld.other W109 F106 (Or.inr (slot_ne (Or.inl (wk hw 100 rfl)) (Or.inr (wk hw 64 rfl)) (by decide) (t := .int) (t' := .long) (by decide) (by decide)))) (Or.inr (slot_ne (Or.inl (wk hw 100 rfl)) (Or.inr (wk hw 102 rfl)) (by decide) (t := .int) (t' := (.object "java/math/BigInteger")) (by decide) (by decide)))
  have F115 := Fld.other W112 (Fld.other W109 (Fld.other W106 F103 (Or.inr (slot_ne (Or.inr (wk hw 67 rfl)) (Or.inl (wk hw 100 rfl)) (by decide) (t := .int) (t' := .int) (by decide) (by decide)))) (Or.inr (slot_ne (Or.inr (wk hw 67 rfl)) (Or.inr (wk hw 64 rfl)) (by decide) (t := .int) (t' := .long) (by decide) (by decide)))) (Or.inr (slot_ne (Or.inr (wk hw 67 rfl)) (Or.inr (wk hw 102 rfl)) (by decide) (t := .int) (t' := (.object "java/math/BigInteger")) (by decide) (by decide)))
  have F116 := Exa.wr W112 F110
  exact Win.retV X112 hx hlk hret (hc hby D18 14 rfl) (by decide) (by decide) (by (try rw [e112]); exact ⟨rfl, N112, K112, F113, F112, F114, F115, F116⟩)
abbrev R_xBigDec_init3 : Room := ⟨2, 0, 0, 24⟩
theorem xBigDec_init3 (l : Launch) (Z : State) (a0 : Array Value) (hw : ∀ d ∈ tables_1, d.before a0 Z = true) (SS : Stat Z) (a1 : Addr) (h0 : Heap) (n0 : Nat) (O0 : Old Z n0 h0) (P0 : Exa Z h0 a1 "java/math/BigDecimal") (P1 : Fld Z h0 a1 "java/math/BigDecimal" "intCompact" "J" (.long (0 : Int64))) (P2 : Fld Z h0 a1 "java/math/BigDecimal" "intVal" "Ljava/math/BigInteger;" .null) (P3 : Fld Z h0 a1 "java/math/BigDecimal" "precision" "I" (.int (0 : Int32))) (P4 : Fld Z h0 a1 "java/math/BigDecimal" "scale" "I" (.int (0 : Int32))) (g_a1 : n0 ≤ a1) :
    MetN l Z (⟨"java/math/BigDecimal", "<init>", "(Ljava/math/BigInteger;JII)V"⟩ : MethodName) jdk_17_method_1_code 6 none R_xBigDec_init3 [] #[(.ref a1), .null, (.long (30 : Int64)), (.int (0 : Int32)), (.int (0 : Int32))] h0 (fun v h L => v = none ∧ Fr n0 L ∧ Keep h0 h [a1] ∧ Fld Z h a1 "java/math/BigDecimal" "intCompact" "J" (.long (30 : Int64)) ∧ Fld Z h a1 "java/math/BigDecimal" "intVal" "Ljava/math/BigInteger;" .null ∧ Fld Z h a1 "java/math/BigDecimal" "precision" "I" (.int (0 : Int32)) ∧ Fld Z h a1 "java/math/BigDecimal" "scale" "I" (.int (0 : Int32)) ∧ Exa Z h a1 "java/math/BigDecimal") := by
  refine MetN.walk (plainFor_of_name pn_18) ?_
  intro p e s m below meth c s₁ hx hZ hby hml hown hnm hret hlk X0 e0
  have N0 := Fr.nil n0
  refine Win.to s₁ (mkF m 0 #[.val (.ref a1), .val .null, .val (.long (30 : Int64)), .second, .val (.int (0 : Int32)), .val (.int (0 : Int32))] []) (fun _ k => castTop rfl k) ?_
  refine W.aloadN X0 hx (hc hby D18 0 rfl) rfl rfl ?_
  refine W.special X0 hx hZ rfl hown (wk hw 92 rfl) (wk hw 93 rfl) (wk hw 96 rfl) (wk hw 97 rfl) (by decide) (xNumber_init1 l Z a0 hw SS a1 h0 n0 O0 ) e0 (by rw [hml]; rfl) (a := a1) (argsL := []) (rest := []) rfl (lenOf pd___V rfl) rfl (W := 0) (Nat.le_of_eq rfl) (hc hby D18 1 rfl) (by decide) (by decide) (by decide) (by decide) (fun T101 h101 v101 L101 X101 e101 q101 => ?_)
  obtain ⟨rfl, N101q, r101_0⟩ := q101
  have N102 := Fr.app N0 N101q
  have e101 := e101.trans r101_0
  refine W.aloadN X101 hx (hc hby D18 2 rfl) rfl rfl ?_
  refine W.iload X101 hx (hc hby D18 3 rfl) rfl ?_
  refine W.putF X101 hx hZ hown (host := "") (Or.inl (wk hw 66 rfl)) Via.refl e101 P4 P0 (Or.inr ⟨(wk hw 67 rfl), rfl, hnm⟩) (wk hw 87 rfl) (ty := .int) (by decide) rfl rfl (hc hby D18 4 rfl) O0 g_a1 (Keep.refl h0 [a1]) (Or.inl (List.mem_of_getElem? (i := 0) rfl)) N102 (fun T103 h103 X103 e103 W103 O103 K103 N103 F103 => ?_)
  refine W.aloadN X103 hx (hc hby D18 5 rfl) rfl rfl ?_
  refine W.iload X103 hx (hc hby D18 6 rfl) rfl ?_
  have F104 := Exa.wr W103 P0
  have F105 := Fld.other W103 P3 (Or.inr (slot_ne (Or.inl (wk hw 100 rfl)) (Or.inr (wk hw 67 rfl)) (by decide) (t := .int) (t' := .int) (by decide) (by decide)))
  refine W.putF X103 hx hZ hown (host := "") (Or.inl (wk hw 99 rfl)) Via.refl e103 F105 F104 (Or.inl (wk hw 100 rfl)) (wk hw 87 rfl) (ty := .int) (by decide) rfl rfl (hc hby D18 7 rfl) O103 g_a1 K103 (Or.inl (List.mem_of_getElem? (i := 0) rfl)) N103 (fun T106 h106 X106 e106 W106 O106 K106 N106 F106 => ?_)
  refine W.aloadN X106 hx (hc hby D18 8 rfl) rfl rfl ?_
  refine W.lloadN X106 hx (hc hby D18 9 rfl) rfl ?_
  have F107 := Exa.wr W106 F104
  have F108 := Fld.other W106 (Fld.other W103 P1 (Or.inr (slot_ne (Or.inr (wk hw 64 rfl)) (Or.inr (wk hw 67 rfl)) (by decide) (t := .long) (t' := .int) (by decide) (by decide)))) (Or.inr (slot_ne (Or.inr (wk hw 64 rfl)) (Or.inl (wk hw 100 rfl)) (by decide) (t := .long) (t' := .int) (by decide) (by decide)))
  refine W.putF X106 hx hZ hown (host := "") (Or.inl (wk hw 63 rfl)) Via.refl e106 F108 F107 (Or.inr ⟨(wk hw 64 rfl), rfl, hnm⟩) (wk hw 87 rfl) (ty := .long) (by decide) rfl rfl (hc hby D18 10 rfl) O106 g_a1 K106 (Or.inl (List.mem_of_getElem? (i := 0) rfl)) N106 (fun T109 h109 X109 e109 W109 O109 K109 N109 F109 => ?_)
  refine W.aloadN X109 hx (hc hby D18 11 rfl) rfl rfl ?_
  refine W.aloadN X109 hx (hc hby D18 12 rfl) rfl rfl ?_
  have F110 := Exa.wr W109 F107
  have F111 := Fld.other W109 (Fld.other W106 (Fld.other W103 P2 (Or.inr (slot_ne (Or.inr (wk hw 102 rfl)) (Or.inr (wk hw 67 rfl)) (by decide) (t := (.object "java/math/BigInteger")) (t' := .int) (by decide) (by decide)))) (Or.inr (slot_ne (Or.inr (wk hw 102 rfl)) (Or.inl (wk hw 100 rfl)) (by decide) (t := (.object "java/math/BigInteger")) (t' := .int) (by decide) (by decide)))) (Or.inr (slot_ne (Or.inr (wk hw 102 rfl)) (Or.inr (wk hw 64 rfl)) (by decide) (t := (.object "java/math/BigInteger")) (t' := .long) (by decide) (by decide)))
  refine W.putF X109 hx hZ hown (host := "") (Or.inl (wk hw 101 rfl)) Via.refl e109 F111 F110 (Or.inr ⟨(wk hw 102 rfl), rfl, hnm⟩) (wk hw 87 rfl) (ty := (.object "java/math/BigInteger")) (by decide) rfl rfl (hc hby D18 13 rfl) O109 g_a1 K109 (Or.inl (List.mem_of_getElem? (i := 0) rfl)) N109 (fun T112 h112 X112 e112 W112 O112 K112 N112 F112 => ?_)
  have F113 := Fld.other W112 F109 (Or.inr (slot_ne (Or.inr (wk hw 64 rfl)) (Or.inr (wk hw 102 rfl)) (by decide) (t := .long) (t' := (.object "java/math/BigInteger")) (by decide) (by decide)))
  have F114 := Fld.other W112 (Fld.other W109 F106 (Or.inr (slot_ne (Or.inl (wk hw 100 rfl)) (Or.inr (wk hw 64 rfl)) (by decide) (t := .int) (t' := .long) (by decide) (by decide)))) (Or.inr (slot_ne (Or.inl (wk hw 100 rfl)) (Or.inr (wk hw 102 rfl)) (by decide) (t := .int) (t' := (.object "java/math/BigInteger")) (by decide) (by decide)))
  have F115 := Fld.other W112 (Fld.other W109 (Fld.other W106 F103 (Or.inr (slot_ne (Or.inr (wk hw 67 rfl)) (Or.inl (wk hw 100 rfl)) (by decide) (t := .int) (t' := .int) (by decide) (by decide)))) (Or.inr (slot_ne (Or.inr (wk hw 67 rfl)) (Or.inr (wk hw 64 rfl)) (by decide) (t := .int) (t' := .long) (by decide) (by decide)))) (Or.inr (slot_ne (Or.inr (wk hw 67 rfl)) (Or.inr (wk hw 102 rfl)) (by decide) (t := .int) (t' := (.object "java/math/BigInteger")) (by decide) (by decide)))
  have F116 := Exa.wr W112 F110
  exact Win.retV X112 hx hlk hret (hc hby D18 14 rfl) (by decide) (by decide) (by (try rw [e112]); exact ⟨rfl, N112, K112, F113, F112, F114, F115, F116⟩)
abbrev R_xBigDec_valueOf1 : Room := ⟨3, 1, 5, 42⟩
theorem xBigDec_valueOf1 (l : Launch) (Z : State) (a0 : Array Value) (hw : ∀ d ∈ tables_1, d.before a0 Z = true) (SS : Stat Z) (ix : Fin 6) (h0 : Heap) (n0 : Nat) (O0 : Old Z n0 h0)  :
    MetN l Z (⟨"java/math/BigDecimal", "valueOf", "(J)Ljava/math/BigDecimal;"⟩ : MethodName) jdk_17_method_21_code 2 (some (.object "java/math/BigDecimal")) R_xBigDec_valueOf1 [] #[(.long (vJ ix [1, 2, 4, 8, 16, 30]))] h0 (fun v h L => ∃ (r1 : Addr), v = some (.ref r1) ∧ Fr n0 L ∧ Keep h0 h [] ∧ Fld Z h r1 "java/math/BigDecimal" "intCompact" "J" (.long (vJ ix [1, 2, 4, 8, 16, 30])) ∧ Fld Z h r1 "java/math/BigDecimal" "scale" "I" (.int (0 : Int32)) ∧ Exa Z h r1 "java/math/BigDecimal") := by
  refine MetN.walk (plainFor_of_name pn_9) ?_
  intro p e s m below meth c s₁ hx hZ hby hml hown hnm hret hlk X0 e0
  have N0 := Fr.nil n0
  refine Win.to s₁ (mkF m 0 #[.val (.long (vJ ix [1, 2, 4, 8, 16, 30])), .second] []) (fun _ k => castTop rfl k) ?_
  refine W.lloadN X0 hx (hc hby D9 0 rfl) rfl ?_
  refine W.lconst X0 hx (hc hby D9 1 rfl) (v := 0) rfl ?_
  refine W.lcmp X0 hx (hc hby D9 2 rfl) (v := (1 : Int32)) ((show ∀ ix : Fin 6, lcmpW (vJ ix [1, 2, 4, 8, 16, 30]) (0 : Int64) = (1 : Int32) from by decide +kernel) ix) ?_
  refine W.ifNo X0 hx (hc hby D9 3 rfl) (by decide) ?_
  refine W.lloadN X0 hx (hc hby D9 4 rfl) rfl ?_
  obtain ⟨T101, X101, e101, st101⟩ := getS2 X0 hx hZ hown (host := "") (Or.inl (wk hw 48 rfl)) Via.refl e0 (Sta.ext O0.2 SS.S_zt) (g := (mkF m 7 #[.val (.long (vJ ix [1, 2, 4, 8, 16, 30])), .second] [(.long (vJ ix [1, 2, 4, 8, 16, 30]))])) rfl (hc hby D9 5 rfl)
  refine Win.to T101 (mkF m 10 #[.val (.long (vJ ix [1, 2, 4, 8, 16, 30])), .second] [(.ref SS.zt), (.long (vJ ix [1, 2, 4, 8, 16, 30]))]) (fun _ k => st101 _ k) ?_
  have Ar102 := Arr.ext O0.2 SS.A_zt
  refine Win.to T101 (mkF m 11 #[.val (.long (vJ ix [1, 2, 4, 8, 16, 30])), .second] [(.int (11 : Int32)), (.long (vJ ix [1, 2, 4, 8, 16, 30]))]) (fun _ k => X101.arraylength hx (by rw [e101]; exact Ar102.1) (State.isArrayOf_alike hZ.alike Ar102.2.1) (g := (mkF m 10 #[.val (.long (vJ ix [1, 2, 4, 8, 16, 30])), .second] [(.ref SS.zt), (.long (vJ ix [1, 2, 4, 8, 16, 30]))])) rfl rfl (hc hby D9 6 rfl) _ (by rw [SS.L_zt]; exact k)) ?_
  refine W.i2l X101 hx (hc hby D9 7 rfl) (v := (11 : Int64)) (by decide) ?_
  refine W.lcmp X101 hx (hc hby D9 8 rfl) (v := (vI ix [-1, -1, -1, -1, 1, 1])) ((show ∀ ix : Fin 6, lcmpW (vJ ix [1, 2, 4, 8, 16, 30]) (11 : Int64) = (vI ix [-1, -1, -1, -1, 1, 1]) from by decide +kernel) ix) ?_
  rcases own_fin6 ix with rfl | rfl | rfl | rfl | rfl | rfl
  · refine Win.to T101 (mkF m 13 #[.val (.long (1 : Int64)), .second] [(.int (-1 : Int32))]) (fun _ k => k) ?_
    refine W.ifNo X101 hx (hc hby D9 9 rfl) (by decide) ?_
    obtain ⟨T103, X103, e103, st103⟩ := getS2 X101 hx hZ hown (host := "") (Or.inl (wk hw 48 rfl)) Via.refl e101 (Sta.ext O0.2 SS.S_zt) (g := (mkF m 16 #[.val (.long (1 : Int64)), .second] [])) rfl (hc hby D9 10 rfl)
    refine Win.to T103 (mkF m 19 #[.val (.long (1 : Int64)), .second] [(.ref SS.zt)]) (fun _ k => st103 _ k) ?_
    refine W.lloadN X103 hx (hc hby D9 11 rfl) rfl ?_
    refine W.l2i X103 hx (hc hby D9 12 rfl) (v := (1 : Int32)) (by decide) ?_
    have Ar104 := Arr.ext O0.2 SS.A_zt
    have hi104 : ¬ ((1 : Int32) < 0 ∨ SS.c_zt.slots.size ≤ ((1 : Int32)).toNatClampNeg) := by rw [SS.L_zt]; decide
    refine Win.to T103 (mkF m 22 #[.val (.long (1 : Int64)), .second] [(.ref SS.d1)]) (fun _ k => X103.aaload hx (j := (1 : Int32)) (v := (.ref SS.d1)) (by rw [e103]; exact Ar104.1) (State.isArrayOf_alike hZ.alike Ar104.2.1) rfl Ar104.2.2 hi104 SS.e_zt_1 (g := (mkF m 21 #[.val (.long (1 : Int64)), .second] [(.int (1 : Int32)), (.ref SS.zt)])) rfl rfl (hc hby D9 13 rfl) _ k) ?_
    have F105 := Fld.ext O0.2 SS.F_d1_intCompact
    have F106 := Fld.ext O0.2 SS.F_d1_scale
    have F107 := Exa.ext O0.2 SS.E_d1
    exact Win.retA X103 hx hlk hret rfl rfl (hc hby D9 14 rfl) (by decide) (by decide) (by (try rw [e103]); exact ⟨SS.d1, rfl, N0, (Keep.refl _ _), F105, F106, F107⟩)
  · refine Win.to T101 (mkF m 13 #[.val (.long (2 : Int64)), .second] [(.int (-1 : Int32))]) (fun _ k => k) ?_
    refine W.ifNo X101 hx (hc hby D9 9 rfl) (by decide) ?_
    obtain ⟨T108, X108, e108, st108⟩ := getS2 X101 hx hZ hown (host := "") (Or.inl (wk hw 48 rfl)) Via.refl e101 (Sta.ext O0.2 SS.S_zt) (g := (mkF m 16 #[.val (.long (2 : Int64)), .second] [])) rfl (hc hby D9 10 rfl)
    refine Win.to T108 (mkF m 19 #[.val (.long (2 : Int64)), .second] [(.ref SS.zt)]) (fun _ k => st108 _ k) ?_
    refine W.lloadN X108 hx (hc hby D9 11 rfl) rfl ?_
    refine W.l2i X108 hx (hc hby D9 12 rfl) (v := (2 : Int32)) (by decide) ?_
    have Ar109 := Arr.ext O0.2 SS.A_zt
    have hi109 : ¬ ((2 : Int32) < 0 ∨ SS.c_zt.slots.size ≤ ((2 : Int32)).toNatClampNeg) := by rw [SS.L_zt]; decide
    refine Win.to T108 (mkF m 22 #[.val (.long (2 : Int64)), .second] [(.ref SS.d2)]) (fun _ k => X108.aaload hx (j := (2 : Int32)) (v := (.ref SS.d2)) (by rw [e108]; exact Ar109.1) (State.isArrayOf_alike hZ.alike Ar109.2.1) rfl Ar109.2.2 hi109 SS.e_zt_2 (g := (mkF m 21 #[.val (.long (2 : Int64)), .second] [(.int (2 : Int32)), (.ref SS.zt)])) rfl rfl (hc hby D9 13 rfl) _ k) ?_
    have F110 := Fld.ext O0.2 SS.F_d2_intCompact
    have F111 := Fld.ext O0.2 SS.F_d2_scale
    have F112 := Exa.ext O0.2 SS.E_d2
    exact Win.retA X108 hx hlk hret rfl rfl (hc hby D9 14 rfl) (by decide) (by decide) (by (try rw [e108]); exact ⟨SS.d2, rfl, N0, (Keep.refl _ _), F110, F111, F112⟩)
  · refine Win.to T101 (mkF m 13 #[.val (.long (4 : Int64)), .second] [(.int (-1 : Int32))]) (fun _ k => k) ?_
    refine W.ifNo X101 hx (hc hby D9 9 rfl) (by decide) ?_
    obtain ⟨T113, X113, e113, st113⟩ := getS2 X101 hx hZ hown (host := "") (Or.inl (wk hw 48 rfl)) Via.refl e101 (Sta.ext O0.2 SS.S_zt) (g := (mkF m 16 #[.val (.long (4 : Int64)), .second] [])) rfl (hc hby D9 10 rfl)
    refine Win.to T113 (mkF m 19 #[.val (.long (4 : Int64)), .second] [(.ref SS.zt)]) (fun _ k => st113 _ k) ?_
    refine W.lloadN X113 hx (hc hby D9 11 rfl) rfl ?_
    refine W.l2i X113 hx (hc hby D9 12 rfl) (v := (4 : Int32)) (by decide) ?_
    have Ar114 := Arr.ext O0.2 SS.A_zt
    have hi114 : ¬ ((4 : Int32) < 0 ∨ SS.c_zt.slots.size ≤ ((4 : Int32)).toNatClampNeg) := by rw [SS.L_zt]; decide
    refine Win.to T113 (mkF m 22 #[.val (.long (4 : Int64)), .second] [(.ref SS.d4)]) (fun _ k => X113.aaload hx (j := (4 : Int32)) (v := (.ref SS.d4)) (by rw [e113]; exact Ar114.1) (State.isArrayOf_alike hZ.alike Ar114.2.1) rfl Ar114.2.2 hi114 SS.e_zt_4 (g := (mkF m 21 #[.val (.long (4 : Int64)), .second] [(.int (4 : Int32)), (.ref SS.zt)])) rfl rfl (hc hby D9 13 rfl) _ k) ?_
    have F115 := Fld.ext O0.2 SS.F_d4_intCompact
    have F116 := Fld.ext O0.2 SS.F_d4_scale
    have F117 := Exa.ext O0.2 SS.E_d4
    exact Win.retA X113 hx hlk hret rfl rfl (hc hby D9 14 rfl) (by decide) (by decide) (by (try rw [e113]); exact ⟨SS.d4, rfl, N0, (Keep.refl _ _), F115, F116, F117⟩)
  · refine Win.to T101 (mkF m 13 #[.val (.long (8 : Int64)), .second] [(.int (-1 : Int32))]) (fun _ k => k) ?_
    refine W.ifNo X101 hx (hc hby D9 9 rfl) (by decide) ?_
    obtain ⟨T118, X118, e118, st118⟩ := getS2 X101 hx hZ hown (host := "") (Or.inl (wk hw 48 rfl)) Via.refl e101 (Sta.ext O0.2 SS.S_zt) (g := (mkF m 16 #[.val (.long (8 : Int64)), .second] [])) rfl (hc hby D9 10 rfl)
    refine Win.to T118 (mkF m 19 #[.val (.long (8 : Int64)), .second] [(.ref SS.zt)]) (fun _ k => st118 _ k) ?_
    refine W.lloadN X118 hx (hc hby D9 11 rfl) rfl ?_
    refine W.l2i X118 hx (hc hby D9 12 rfl) (v := (8 : Int32)) (by decide) ?_
    have Ar119 := Arr.ext O0.2 SS.A_zt
    have hi119 : ¬ ((8 : Int32) < 0 ∨ SS.c_zt.slots.size ≤ ((8 : Int32)).toNatClampNeg) := by rw [SS.L_zt]; decide
    refine Win.to T118 (mkF m 22 #[.val (.long (8 : Int64)), .second] [(.ref SS.d8)]) (fun _ k => X118.aaload hx (j := (8 : Int32)) (v := (.ref SS.d8)) (by rw [e118]; exact Ar119.1) (State.isArrayOf_alike hZ.alike Ar119.2.1) rfl Ar119.2.2 hi119 SS.e_zt_8 (g := (mkF m 21 #[.val (.long (8 : Int64)), .second] [(.int (8 : Int32)), (.ref SS.zt)])) rfl rfl (hc hby D9 13 rfl) _ k) ?_
    have F120 := Fld.ext O0.2 SS.F_d8_intCompact
    have F121 := Fld.ext O0.2 SS.F_d8_scale
    have F122 := Exa.ext O0.2 SS.E_d8
    exact Win.retA X118 hx hlk hret rfl rfl (hc hby D9 14 rfl) (by decide) (by decide) (by (try rw [e118]); exact ⟨SS.d8, rfl, N0, (Keep.refl _ _), F120, F121, F122⟩)
  · refine Win.to T101 (mkF m 13 #[.val (.long (16 : Int64)), .second] [(.int (1 : Int32))]) (fun _ k => k) ?_
    refine W.ifYes X101 hx (hc hby D9 9 rfl) (by decide) (by decide) (pc' := 23) rfl ?_
    refine W.lloadN X101 hx (hc hby D9 15 rfl) rfl ?_
    refine W.ldc2 X101 hx (hc hby D9 16 rfl) hown (mvT hZ (wk hw 65 rfl)) ?_
    refine W.lcmp X101 hx (hc hby D9 17 rfl) (v := (1 : Int32)) (by decide) ?_
    refine W.ifNo X101 hx (hc hby D9 18 rfl) (by decide) ?_
    obtain ⟨T123, h123, X123, e123, E123, A123, D123, -, st123⟩ := newO X101 hx hZ hown (wk hw 86 rfl) (wk hw 87 rfl) (wk hw 46 rfl) e101 (g := (mkF m 31 #[.val (.long (16 : Int64)), .second] [])) rfl (hc hby D9 19 rfl) (by decide) (by decide)
    obtain ⟨b123, g123⟩ : ∃ z, z = h0.size := ⟨_, rfl⟩
    rw [← g123] at A123 D123 st123
    have g124 : n0 ≤ b123 := Nat.le_trans (own_le O0) (Nat.le_of_eq g123.symm)
    have z125 : h0.size ≤ b123 := (Nat.le_of_eq g123.symm)
    have O126 := Old.ext O0 E123
    have K127 : Keep h0 h123 [] := (Keep.refl h0 []).ext E123
    have F128 : Fld Z h123 b123 "java/math/BigDecimal" "intCompact" "J" (.long (0 : Int64)) := D123 (Or.inr (wk hw 64 rfl)) (ty := .long) (by decide)
    have F129 : Fld Z h123 b123 "java/math/BigDecimal" "scale" "I" (.int (0 : Int32)) := D123 (Or.inr (wk hw 67 rfl)) (ty := .int) (by decide)
    have F130 : Fld Z h123 b123 "java/math/BigDecimal" "precision" "I" (.int (0 : Int32)) := D123 (Or.inl (wk hw 100 rfl)) (ty := .int) (by decide)
    have F131 : Fld Z h123 b123 "java/math/BigDecimal" "intVal" "Ljava/math/BigInteger;" .null := D123 (Or.inr (wk hw 102 rfl)) (ty := (.object "java/math/BigInteger")) (by decide)
    refine Win.to T123 (mkF m 34 #[.val (.long (16 : Int64)), .second] [(.ref b123)]) (fun _ k => st123 _ k) ?_
    refine W.dup X123 hx (hc hby D9 20 rfl) rfl ?_
    refine W.aconstNull X123 hx (hc hby D9 21 rfl) ?_
    refine W.lloadN X123 hx (hc hby D9 22 rfl) rfl ?_
    refine W.iconst X123 hx (hc hby D9 23 rfl) (v := 0) rfl ?_
    refine W.iconst X123 hx (hc hby D9 24 rfl) (v := 0) rfl ?_
    refine W.special X123 hx hZ rfl hown (wk hw 88 rfl) (wk hw 89 rfl) (wk hw 46 rfl) (wk hw 91 rfl) (by decide) (xBigDec_init2 l Z a0 hw SS b123 h123 n0 O126 A123 F128 F131 F130 F129 g124) e123 (by rw [hml]; rfl) (a := b123) (argsL := [.null, (.long (16 : Int64)), (.int (0 : Int32)), (.int (0 : Int32))]) (rest := [(.ref b123)]) rfl (lenOf pd__Ljava_math_BigInteger_JII_V rfl) rfl (W := 1) (Nat.le_of_eq rfl) (hc hby D9 25 rfl) (by decide) (by decide) (by decide) (by decide) (fun T132 h132 v132 L132 X132 e132 q132 => ?_)
    obtain ⟨rfl, N132q, r132_0, r132_1, r132_2, r132_3, r132_4, r132_5⟩ := q132
    have N133 := Fr.app N0 N132q
    have O134 := Old.keep O126 r132_0 (allS g124 all0)
    have K135 : Keep h0 h132 [] := Keep.trans K127 r132_0 (allS (Or.inr z125) all0)
    exact Win.retA X132 hx hlk hret rfl rfl (hc hby D9 26 rfl) (by decide) (by decide) (by (try rw [e132]); exact ⟨b123, rfl, N133, K135, r132_1, r132_4, r132_5⟩)
  · refine Win.to T101 (mkF m 13 #[.val (.long (30 : Int64)), .second] [(.int (1 : Int32))]) (fun _ k => k) ?_
    refine W.ifYes X101 hx (hc hby D9 9 rfl) (by decide) (by decide) (pc' := 23) rfl ?_
    refine W.lloadN X101 hx (hc hby D9 15 rfl) rfl ?_
    refine W.ldc2 X101 hx (hc hby D9 16 rfl) hown (mvT hZ (wk hw 65 rfl)) ?_
    refine W.lcmp X101 hx (hc hby D9 17 rfl) (v := (1 : Int32)) (by decide) ?_
    refine W.ifNo X101 hx (hc hby D9 18 rfl) (by decide) ?_
    obtain ⟨T136, h136, X136, e136, E136, A136, D136, -, st136⟩ := newO X101 hx hZ hown (wk hw 86 rfl) (wk hw 87 rfl) (wk hw 46 rfl) e101 (g := (mkF m 31 #[.val (.long (30 : Int64)), .second] [])) rfl (hc hby D9 19 rfl) (by decide) (by decide)
    obtain ⟨b136, g136⟩ : ∃ z, z = h0.size := ⟨_, rfl⟩
    rw [← g136] at A136 D136 st136
    have g137 : n0 ≤ b136 := Nat.le_trans (own_le O0) (Nat.le_of_eq g136.symm)
    have z138 : h0.size ≤ b136 := (Nat.le_of_eq g136.symm)
    have O139 := Old.ext O0 E136
    have K140 : Keep h0 h136 [] := (Keep.refl h0 []).ext E136
    have F141 : Fld Z h136 b136 "java/math/BigDecimal" "intCompact" "J" (.long (0 : Int64)) := D136 (Or.inr (wk hw 64 rfl)) (ty := .long) (by decide)
    have F142 : Fld Z h136 b136 "java/math/BigDecimal" "scale" "I" (.int (0 : Int32)) := D136 (Or.inr (wk hw 67 rfl)) (ty := .int) (by decide)
    have F143 : Fld Z h136 b136 "java/math/BigDecimal" "precision" "I" (.int (0 : Int32)) := D136 (Or.inl (wk hw 100 rfl)) (ty := .int) (by decide)
    have F144 : Fld Z h136 b136 "java/math/BigDecimal" "intVal" "Ljava/math/BigInteger;" .null := D136 (Or.inr (wk hw 102 rfl)) (ty := (.object "java/math/BigInteger")) (by decide)
    refine Win.to T136 (mkF m 34 #[.val (.long (30 : Int64)), .second] [(.ref b136)]) (fun _ k => st136 _ k) ?_
    refine W.dup X136 hx (hc hby D9 20 rfl) rfl ?_
    refine W.aconstNull X136 hx (hc hby D9 21 rfl) ?_
    refine W.lloadN X136 hx (hc hby D9 22 rfl) rfl ?_
    refine W.iconst X136 hx (hc hby D9 23 rfl) (v := 0) rfl ?_
    refine W.iconst X136 hx (hc hby D9 24 rfl) (v := 0) rfl ?_
    refine W.special X136 hx hZ rfl hown (wk hw 88 rfl) (wk hw 89 rfl) (wk hw 46 rfl) (wk hw 91 rfl) (by decide) (xBigDec_init3 l Z a0 hw SS b136 h136 n0 O139 A136 F141 F144 F143 F142 g137) e136 (by rw [hml]; rfl) (a := b136) (argsL := [.null, (.long (30 : Int64)), (.int (0 : Int32)), (.int (0 : Int32))]) (rest := [(.ref b136)]) rfl (lenOf pd__Ljava_math_BigInteger_JII_V rfl) rfl (W := 1) (Nat.le_of_eq rfl) (hc hby D9 25 rfl) (by decide) (by decide) (by decide) (by decide) (fun T145 h145 v145 L145 X145 e145 q145 => ?_)
    obtain ⟨rfl, N145q, r145_0, r145_1, r145_2, r145_3, r145_4, r145_5⟩ := q145
    have N146 := Fr.app N0 N145q
    have O147 := Old.keep O139 r145_0 (allS g137 all0)
    have K148 : Keep h0 h145 [] := Keep.trans K140 r145_0 (allS (Or.inr z138) all0)
    exact Win.retA X145 hx hlk hret rfl rfl (hc hby D9 26 rfl) (by decide) (by decide) (by (try rw [e145]); exact ⟨b136, rfl, N146, K148, r145_1, r145_4, r145_5⟩)
abbrev R_xBigDec_zeroValueOf1 : Room := ⟨0, 0, 0, 0⟩
theorem xBigDec_zeroValueOf1 (l : Launch) (Z : State) (a0 : Array Value) (hw : ∀ d ∈ tables_1, d.before a0 Z = true) (SS : Stat Z) (h0 : Heap) (n0 : Nat) (O0 : Old Z n0 h0)  :
    MetN l Z (⟨"java/math/BigDecimal", "zeroValueOf", "(I)Ljava/math/BigDecimal;"⟩ : MethodName) jdk_17_method_24_code 1 (some (.object "java/math/BigDecimal")) R_xBigDec_zeroValueOf1 [] #[(.int (9 : Int32))] h0 (fun v h L => v = some (.ref SS.z9) ∧ Fr n0 L ∧ h = h0) := by
  refine MetN.walk (plainFor_of_name pn_11) ?_
  intro p e s m below meth c s₁ hx hZ hby hml hown hnm hret hlk X0 e0
  have N0 := Fr.nil n0
  refine Win.to s₁ (mkF m 0 #[.val (.int (9 : Int32))] []) (fun _ k => castTop rfl k) ?_
  refine W.iloadN X0 hx (hc hby D11 0 rfl) rfl ?_
  refine W.ifNo X0 hx (hc hby D11 1 rfl) (by decide) ?_
  refine W.iloadN X0 hx (hc hby D11 2 rfl) rfl ?_
  obtain ⟨T101, X101, e101, st101⟩ := getS2 X0 hx hZ hown (host := "") (Or.inl (wk hw 57 rfl)) Via.refl e0 (Sta.ext O0.2 SS.S_zs) (g := (mkF m 5 #[.val (.int (9 : Int32))] [(.int (9 : Int32))])) rfl (hc hby D11 3 rfl)
  refine Win.to T101 (mkF m 8 #[.val (.int (9 : Int32))] [(.ref SS.zs), (.int (9 : Int32))]) (fun _ k => st101 _ k) ?_
  have Ar102 := Arr.ext O0.2 SS.A_zs
  refine Win.to T101 (mkF m 9 #[.val (.int (9 : Int32))] [(.int (16 : Int32)), (.int (9 : Int32))]) (fun _ k => X101.arraylength hx (by rw [e101]; exact Ar102.1) (State.isArrayOf_alike hZ.alike Ar102.2.1) (g := (mkF m 8 #[.val (.int (9 : Int32))] [(.ref SS.zs), (.int (9 : Int32))])) rfl rfl (hc hby D11 4 rfl) _ (by rw [SS.L_zs]; exact k)) ?_
  refine W.icmpNo X101 hx (hc hby D11 5 rfl) (by decide) ?_
  obtain ⟨T103, X103, e103, st103⟩ := getS2 X101 hx hZ hown (host := "") (Or.inl (wk hw 57 rfl)) Via.refl e101 (Sta.ext O0.2 SS.S_zs) (g := (mkF m 12 #[.val (.int (9 : Int32))] [])) rfl (hc hby D11 6 rfl)
  refine Win.to T103 (mkF m 15 #[.val (.int (9 : Int32))] [(.ref SS.zs)]) (fun _ k => st103 _ k) ?_
  refine W.iloadN X103 hx (hc hby D11 7 rfl) rfl ?_
  have Ar104 := Arr.ext O0.2 SS.A_zs
  have hi104 : ¬ ((9 : Int32) < 0 ∨ SS.c_zs.slots.size ≤ ((9 : Int32)).toNatClampNeg) := by rw [SS.L_zs]; decide
  refine Win.to T103 (mkF m 17 #[.val (.int (9 : Int32))] [(.ref SS.z9)]) (fun _ k => X103.aaload hx (j := (9 : Int32)) (v := (.ref SS.z9)) (by rw [e103]; exact Ar104.1) (State.isArrayOf_alike hZ.alike Ar104.2.1) rfl Ar104.2.2 hi104 SS.e_zs_9 (g := (mkF m 16 #[.val (.int (9 : Int32))] [(.int (9 : Int32)), (.ref SS.zs)])) rfl rfl (hc hby D11 8 rfl) _ k) ?_
  exact Win.retA X103 hx hlk hret rfl rfl (hc hby D11 9 rfl) (by decide) (by decide) (by (try rw [e103]); exact ⟨rfl, N0, rfl⟩)
abbrev R_xBigDec_valueOf2 : Room := ⟨1, 0, 0, 12⟩
theorem xBigDec_valueOf2 (l : Launch) (Z : State) (a0 : Array Value) (hw : ∀ d ∈ tables_1, d.before a0 Z = true) (SS : Stat Z) (h0 : Heap) (n0 : Nat) (O0 : Old Z n0 h0)  :
    MetN l Z (⟨"java/math/BigDecimal", "valueOf", "(JI)Ljava/math/BigDecimal;"⟩ : MethodName) jdk_17_method_20_code 3 (some (.object "java/math/BigDecimal")) R_xBigDec_valueOf2 [] #[(.long (0 : Int64)), (.int (9 : Int32))] h0 (fun v h L => v = some (.ref SS.z9) ∧ Fr n0 L ∧ h = h0) := by
  refine MetN.walk (plainFor_of_name pn_10) ?_
  intro p e s m below meth c s₁ hx hZ hby hml hown hnm hret hlk X0 e0
  have N0 := Fr.nil n0
  refine Win.to s₁ (mkF m 0 #[.val (.long (0 : Int64)), .second, .val (.int (9 : Int32))] []) (fun _ k => castTop rfl k) ?_
  refine W.iloadN X0 hx (hc hby D10 0 rfl) rfl ?_
  refine W.ifYes X0 hx (hc hby D10 1 rfl) (by decide) (by decide) (pc' := 9) rfl ?_
  refine W.lloadN X0 hx (hc hby D10 2 rfl) rfl ?_
  refine W.lconst X0 hx (hc hby D10 3 rfl) (v := 0) rfl ?_
  refine W.lcmp X0 hx (hc hby D10 4 rfl) (v := (0 : Int32)) (by decide) ?_
  refine W.ifNo X0 hx (hc hby D10 5 rfl) (by decide) ?_
  refine W.iloadN X0 hx (hc hby D10 6 rfl) rfl ?_
  refine W.static X0 hx hZ hown (wk hw 54 rfl) (wk hw 55 rfl) (wk hw 46 rfl) (wk hw 56 rfl) (by decide) (xBigDec_zeroValueOf1 l Z a0 hw SS h0 n0 O0 ) e0 (by rw [hml]; rfl) (argsL := [(.int (9 : Int32))]) (rest := []) rfl (lenOf pd__I_Ljava_math_BigDecimal_ rfl) rfl (W := 0) (Nat.le_of_eq rfl) (hc hby D10 7 rfl) (by decide) (by decide) (by decide) (by decide) (fun T101 h101 v101 L101 X101 e101 q101 => ?_)
  obtain ⟨rfl, N101q, r101_0⟩ := q101
  have N102 := Fr.app N0 N101q
  have e101 := e101.trans r101_0
  exact Win.retA X101 hx hlk hret rfl rfl (hc hby D10 8 rfl) (by decide) (by decide) (by (try rw [e101]); exact ⟨rfl, N102, rfl⟩)
abbrev R_xBigDec_checkScale1 : Room := ⟨0, 0, 0, 0⟩
theorem xBigDec_checkScale1 (l : Launch) (Z : State) (a0 : Array Value) (hw : ∀ d ∈ tables_1, d.before a0 Z = true) (SS : Stat Z) (ix : Fin 6) (h0 : Heap) (n0 : Nat) (O0 : Old Z n0 h0)  :
    MetN l Z (⟨"java/math/BigDecimal", "checkScale", "(JJ)I"⟩ : MethodName) jdk_17_method_113_code 5 (some .int) R_xBigDec_checkScale1 [] #[(.long (vJ ix [1, 2, 4, 8, 16, 30])), (.long (9 : Int64))] h0 (fun v h L => v = some (.int (9 : Int32)) ∧ Fr n0 L ∧ h = h0) := by
  refine MetN.walk (plainFor_of_name pn_14) ?_
  intro p e s m below meth c s₁ hx hZ hby hml hown hnm hret hlk X0 e0
  have N0 := Fr.nil n0
  refine Win.to s₁ (mkF m 0 #[.val (.long (vJ ix [1, 2, 4, 8, 16, 30])), .second, .val (.long (9 : Int64)), .second, .unset] []) (fun _ k => castTop rfl k) ?_
  refine W.lloadN X0 hx (hc hby D14 0 rfl) rfl ?_
  refine W.l2i X0 hx (hc hby D14 1 rfl) (v := (9 : Int32)) (by decide) ?_
  refine W.istore X0 hx (hc hby D14 2 rfl) (l' := #[.val (.long (vJ ix [1, 2, 4, 8, 16, 30])), .second, .val (.long (9 : Int64)), .second, .val (.int (9 : Int32))]) rfl ?_
  refine W.iload X0 hx (hc hby D14 3 rfl) rfl ?_
  refine W.i2l X0 hx (hc hby D14 4 rfl) (v := (9 : Int64)) (by decide) ?_
  refine W.lloadN X0 hx (hc hby D14 5 rfl) rfl ?_
  refine W.lcmp X0 hx (hc hby D14 6 rfl) (v := (0 : Int32)) (by decide) ?_
  refine W.ifYes X0 hx (hc hby D14 7 rfl) (by decide) (by decide) (pc' := 59) rfl ?_
  refine W.iload X0 hx (hc hby D14 8 rfl) rfl ?_
  exact Win.retI X0 hx hlk hret (hc hby D14 9 rfl) (by decide) (by decide) (by (try rw [e0]); exact ⟨rfl, N0, rfl⟩)
abbrev R_xMath_abs1 : Room := ⟨0, 0, 0, 0⟩
theorem xMath_abs1 (l : Launch) (Z : State) (a0 : Array Value) (hw : ∀ d ∈ tables_1, d.before a0 Z = true) (SS : Stat Z) (h0 : Heap) (n0 : Nat) (O0 : Old Z n0 h0)  :
    MetN l Z (⟨"java/lang/Math", "abs", "(J)J"⟩ : MethodName) jdk_29_method_61_code 2 (some .long) R_xMath_abs1 [] #[(.long (2 : Int64))] h0 (fun v h L => v = some (.long (2 : Int64)) ∧ Fr n0 L ∧ h = h0) := by
  refine MetN.walk (Jvm.Free.JP.mathPlain rfl (by decide +kernel)) ?_
  intro p e s m below meth c s₁ hx hZ hby hml hown hnm hret hlk X0 e0
  have N0 := Fr.nil n0
  refine Win.to s₁ (mkF m 0 #[.val (.long (2 : Int64)), .second] []) (fun _ k => castTop rfl k) ?_
  refine W.lloadN X0 hx (hc hby D24 0 rfl) rfl ?_
  refine W.lconst X0 hx (hc hby D24 1 rfl) (v := 0) rfl ?_
  refine W.lcmp X0 hx (hc hby D24 2 rfl) (v := (1 : Int32)) (by decide) ?_
  refine W.ifYes X0 hx (hc hby D24 3 rfl) (by decide) (by decide) (pc' := 11) rfl ?_
  refine W.lloadN X0 hx (hc hby D24 4 rfl) rfl ?_
  exact Win.retJ X0 hx hlk hret (hc hby D24 5 rfl) (by decide) (by decide) (by (try rw [e0]); exact ⟨rfl, N0, rfl⟩)
abbrev R_xMath_abs2 : Room := ⟨0, 0, 0, 0⟩
theorem xMath_abs2 (l : Launch) (Z : State) (a0 : Array Value) (hw : ∀ d ∈ tables_1, d.before a0 Z = true) (SS : Stat Z) (h0 : Heap) (n0 : Nat) (O0 : Old Z n0 h0)  :
    MetN l Z (⟨"java/lang/Math", "abs", "(J)J"⟩ : MethodName) jdk_29_method_61_code 2 (some .long) R_xMath_abs2 [] #[(.long (4 : Int64))] h0 (fun v h L => v = some (.long (4 : Int64)) ∧ Fr n0 L ∧ h = h0) := by
  refine MetN.walk (Jvm.Free.JP.mathPlain rfl (by decide +kernel)) ?_
  intro p e s m below meth c s₁ hx hZ hby hml hown hnm hret hlk X0 e0
  have N0 := Fr.nil n0
  refine Win.to s₁ (mkF m 0 #[.val (.long (4 : Int64)), .second] []) (fun _ k => castTop rfl k) ?_
  refine W.lloadN X0 hx (hc hby D24 0 rfl) rfl ?_
  refine W.lconst X0 hx (hc hby D24 1 rfl) (v := 0) rfl ?_
  refine W.lcmp X0 hx (hc hby D24 2 rfl) (v := (1 : Int32)) (by decide) ?_
  refine W.ifYes X0 hx (hc hby D24 3 rfl) (by decide) (by decide) (pc' := 11) rfl ?_
  refine W.lloadN X0 hx (hc hby D24 4 rfl) rfl ?_
  exact Win.retJ X0 hx hlk hret (hc hby D24 5 rfl) (by decide) (by decide) (by (try rw [e0]); exact ⟨rfl, N0, rfl⟩)
abbrev R_xMath_abs3 : Room := ⟨0, 0, 0, 0⟩
theorem xMath_abs3 (l : Launch) (Z : State) (a0 : Array Value) (hw : ∀ d ∈ tables_1, d.before a0 Z = true) (SS : Stat Z) (h0 : Heap) (n0 : Nat) (O0 : Old Z n0 h0)  :
    MetN l Z (⟨"java/lang/Math", "abs", "(J)J"⟩ : MethodName) jdk_29_method_61_code 2 (some .long) R_xMath_abs3 [] #[(.long (8 : Int64))] h0 (fun v h L => v = some (.long (8 : Int64)) ∧ Fr n0 L ∧ h = h0) := by
  refine MetN.walk (Jvm.Free.JP.mathPlain rfl (by decide +kernel)) ?_
  intro p e s m below meth c s₁ hx hZ hby hml hown hnm hret hlk X0 e0
  have N0 := Fr.nil n0
  refine Win.to s₁ (mkF m 0 #[.val (.long (8 : Int64)), .second] []) (fun _ k => castTop rfl k) ?_
  refine W.lloadN X0 hx (hc hby D24 0 rfl) rfl ?_
  refine W.lconst X0 hx (hc hby D24 1 rfl) (v := 0) rfl ?_
  refine W.lcmp X0 hx (hc hby D24 2 rfl) (v := (1 : Int32)) (by decide) ?_
  refine W.ifYes X0 hx (hc hby D24 3 rfl) (by decide) (by decide) (pc' := 11) rfl ?_
  refine W.lloadN X0 hx (hc hby D24 4 rfl) rfl ?_
  exact Win.retJ X0 hx hlk hret (hc hby D24 5 rfl) (by decide) (by decide) (by (try rw [e0]); exact ⟨rfl, N0, rfl⟩)
abbrev R_xMath_abs4 : Room := ⟨0, 0, 0, 0⟩
theorem xMath_abs4 (l : Launch) (Z : State) (a0 : Array Value) (hw : ∀ d ∈ tables_1, d.before a0 Z = true) (SS : Stat Z) (h0 : Heap) (n0 : Nat) (O0 : Old Z n0 h0)  :
    MetN l Z (⟨"java/lang/Math", "abs", "(J)J"⟩ : MethodName) jdk_29_method_61_code 2 (some .long) R_xMath_abs4 [] #[(.long (16 : Int64))] h0 (fun v h L => v = some (.long (16 : Int64)) ∧ Fr n0 L ∧ h = h0) := by
  refine MetN.walk (Jvm.Free.JP.mathPlain rfl (by decide +kernel)) ?_
  intro p e s m below meth c s₁ hx hZ hby hml hown hnm hret hlk X0 e0
  have N0 := Fr.nil n0
  refine Win.to s₁ (mkF m 0 #[.val (.long (16 : Int64)), .second] []) (fun _ k => castTop rfl k) ?_
  refine W.lloadN X0 hx (hc hby D24 0 rfl) rfl ?_
  refine W.lconst X0 hx (hc hby D24 1 rfl) (v := 0) rfl ?_
  refine W.lcmp X0 hx (hc hby D24 2 rfl) (v := (1 : Int32)) (by decide) ?_
  refine W.ifYes X0 hx (hc hby D24 3 rfl) (by decide) (by decide) (pc' := 11) rfl ?_
  refine W.lloadN X0 hx (hc hby D24 4 rfl) rfl ?_
  exact Win.retJ X0 hx hlk hret (hc hby D24 5 rfl) (by decide) (by decide) (by (try rw [e0]); exact ⟨rfl, N0, rfl⟩)
abbrev R_xMath_abs5 : Room := ⟨0, 0, 0, 0⟩
theorem xMath_abs5 (l : Launch) (Z : State) (a0 : Array Value) (hw : ∀ d ∈ tables_1, d.before a0 Z = true) (SS : Stat Z) (h0 : Heap) (n0 : Nat) (O0 : Old Z n0 h0)  :
    MetN l Z (⟨"java/lang/Math", "abs", "(J)J"⟩ : MethodName) jdk_29_method_61_code 2 (some .long) R_xMath_abs5 [] #[(.long (30 : Int64))] h0 (fun v h L => v = some (.long (30 : Int64)) ∧ Fr n0 L ∧ h = h0) := by
  refine MetN.walk (Jvm.Free.JP.mathPlain rfl (by decide +kernel)) ?_
  intro p e s m below meth c s₁ hx hZ hby hml hown hnm hret hlk X0 e0
  have N0 := Fr.nil n0
  refine Win.to s₁ (mkF m 0 #[.val (.long (30 : Int64)), .second] []) (fun _ k => castTop rfl k) ?_
  refine W.lloadN X0 hx (hc hby D24 0 rfl) rfl ?_
  refine W.lconst X0 hx (hc hby D24 1 rfl) (v := 0) rfl ?_
  refine W.lcmp X0 hx (hc hby D24 2 rfl) (v := (1 : Int32)) (by decide) ?_
  refine W.ifYes X0 hx (hc hby D24 3 rfl) (by decide) (by decide) (pc' := 11) rfl ?_
  refine W.lloadN X0 hx (hc hby D24 4 rfl) rfl ?_
  exact Win.retJ X0 hx hlk hret (hc hby D24 5 rfl) (by decide) (by decide) (by (try rw [e0]); exact ⟨rfl, N0, rfl⟩)
abbrev R_xBigDec_longMultiplyPowerTen1 : Room := ⟨1, 0, 0, 13⟩
theorem xBigDec_longMultiplyPowerTen1 (l : Launch) (Z : State) (a0 : Array Value) (hw : ∀ d ∈ tables_1, d.before a0 Z = true) (SS : Stat Z) (ix : Fin 6) (h0 : Heap) (n0 : Nat) (O0 : Old Z n0 h0)  :
    MetN l Z (⟨"java/math/BigDecimal", "longMultiplyPowerTen", "(JI)J"⟩ : MethodName) jdk_17_method_97_code 7 (some .long) R_xBigDec_longMultiplyPowerTen1 [] #[(.long (vJ ix [1, 2, 4, 8, 16, 30])), (.int (9 : Int32))] h0 (fun v h L => v = some (.long (vJ ix [1000000000, 2000000000, 4000000000, 8000000000, 16000000000, 30000000000])) ∧ Fr n0 L ∧ h = h0) := by
  refine MetN.walk (plainFor_of_name pn_15) ?_
  intro p e s m below meth c s₁ hx hZ hby hml hown hnm hret hlk X0 e0
  have N0 := Fr.nil n0
  refine Win.to s₁ (mkF m 0 #[.val (.long (vJ ix [1, 2, 4, 8, 16, 30])), .second, .val (.int (9 : Int32)), .unset, .unset, .unset, .unset] []) (fun _ k => castTop rfl k) ?_
  refine W.lloadN X0 hx (hc hby D15 0 rfl) rfl ?_
  refine W.lconst X0 hx (hc hby D15 1 rfl) (v := 0) rfl ?_
  refine W.lcmp X0 hx (hc hby D15 2 rfl) (v := (1 : Int32)) ((show ∀ ix : Fin 6, lcmpW (vJ ix [1, 2, 4, 8, 16, 30]) (0 : Int64) = (1 : Int32) from by decide +kernel) ix) ?_
  refine W.ifNo X0 hx (hc hby D15 3 rfl) (by decide) ?_
  refine W.iloadN X0 hx (hc hby D15 4 rfl) rfl ?_
  refine W.ifYes X0 hx (hc hby D15 5 rfl) (by decide) (by decide) (pc' := 12) rfl ?_
  obtain ⟨T101, X101, e101, st101⟩ := getS2 X0 hx hZ hown (host := "") (Or.inl (wk hw 77 rfl)) Via.refl e0 (Sta.ext O0.2 SS.S_lt) (g := (mkF m 12 #[.val (.long (vJ ix [1, 2, 4, 8, 16, 30])), .second, .val (.int (9 : Int32)), .unset, .unset, .unset, .unset] [])) rfl (hc hby D15 6 rfl)
  refine Win.to T101 (mkF m 15 #[.val (.long (vJ ix [1, 2, 4, 8, 16, 30])), .second, .val (.int (9 : Int32)), .unset, .unset, .unset, .unset] [(.ref SS.lt)]) (fun _ k => st101 _ k) ?_
  refine W.astoreN X101 hx (hc hby D15 7 rfl) rfl (l' := #[.val (.long (vJ ix [1, 2, 4, 8, 16, 30])), .second, .val (.int (9 : Int32)), .val (.ref SS.lt), .unset, .unset, .unset]) rfl ?_
  obtain ⟨T102, X102, e102, st102⟩ := getS2 X101 hx hZ hown (host := "") (Or.inl (wk hw 78 rfl)) Via.refl e101 (Sta.ext O0.2 SS.S_th) (g := (mkF m 16 #[.val (.long (vJ ix [1, 2, 4, 8, 16, 30])), .second, .val (.int (9 : Int32)), .val (.ref SS.lt), .unset, .unset, .unset] [])) rfl (hc hby D15 8 rfl)
  refine Win.to T102 (mkF m 19 #[.val (.long (vJ ix [1, 2, 4, 8, 16, 30])), .second, .val (.int (9 : Int32)), .val (.ref SS.lt), .unset, .unset, .unset] [(.ref SS.th)]) (fun _ k => st102 _ k) ?_
  refine W.astore X102 hx (hc hby D15 9 rfl) rfl (l' := #[.val (.long (vJ ix [1, 2, 4, 8, 16, 30])), .second, .val (.int (9 : Int32)), .val (.ref SS.lt), .val (.ref SS.th), .unset, .unset]) rfl ?_
  refine W.iloadN X102 hx (hc hby D15 10 rfl) rfl ?_
  refine W.aloadN X102 hx (hc hby D15 11 rfl) rfl rfl ?_
  have Ar103 := Arr.ext O0.2 SS.A_lt
  refine Win.to T102 (mkF m 24 #[.val (.long (vJ ix [1, 2, 4, 8, 16, 30])), .second, .val (.int (9 : Int32)), .val (.ref SS.lt), .val (.ref SS.th), .unset, .unset] [(.int (19 : Int32)), (.int (9 : Int32))]) (fun _ k => X102.arraylength hx (by rw [e102]; exact Ar103.1) (State.isArrayOf_alike hZ.alike Ar103.2.1) (g := (mkF m 23 #[.val (.long (vJ ix [1, 2, 4, 8, 16, 30])), .second, .val (.int (9 : Int32)), .val (.ref SS.lt), .val (.ref SS.th), .unset, .unset] [(.ref SS.lt), (.int (9 : Int32))])) rfl rfl (hc hby D15 12 rfl) _ (by rw [SS.L_lt]; exact k)) ?_
  refine W.icmpNo X102 hx (hc hby D15 13 rfl) (by decide) ?_
  refine W.iloadN X102 hx (hc hby D15 14 rfl) rfl ?_
  refine W.aload X102 hx (hc hby D15 15 rfl) rfl rfl ?_
  have Ar104 := Arr.ext O0.2 SS.A_th
  refine Win.to T102 (mkF m 31 #[.val (.long (vJ ix [1, 2, 4, 8, 16, 30])), .second, .val (.int (9 : Int32)), .val (.ref SS.lt), .val (.ref SS.th), .unset, .unset] [(.int (19 : Int32)), (.int (9 : Int32))]) (fun _ k => X102.arraylength hx (by rw [e102]; exact Ar104.1) (State.isArrayOf_alike hZ.alike Ar104.2.1) (g := (mkF m 30 #[.val (.long (vJ ix [1, 2, 4, 8, 16, 30])), .second, .val (.int (9 : Int32)), .val (.ref SS.lt), .val (.ref SS.th), .unset, .unset] [(.ref SS.th), (.int (9 : Int32))])) rfl rfl (hc hby D15 16 rfl) _ (by rw [SS.L_th]; exact k)) ?_
  refine W.icmpNo X102 hx (hc hby D15 17 rfl) (by decide) ?_
  refine W.aloadN X102 hx (hc hby D15 18 rfl) rfl rfl ?_
  refine W.iloadN X102 hx (hc hby D15 19 rfl) rfl ?_
  have Ar105 := Arr.ext O0.2 SS.A_lt
  have hi105 : ¬ ((9 : Int32) < 0 ∨ SS.c_lt.slots.size ≤ ((9 : Int32)).toNatClampNeg) := by rw [SS.L_lt]; decide
  refine Win.to T102 (mkF m 37 #[.val (.long (vJ ix [1, 2, 4, 8, 16, 30])), .second, .val (.int (9 : Int32)), .val (.ref SS.lt), .val (.ref SS.th), .unset, .unset] [(.long (1000000000 : Int64))]) (fun _ k => X102.laload hx (j := (9 : Int32)) (v := (.long (1000000000 : Int64))) (by rw [e102]; exact Ar105.1) (State.isArrayOf_alike hZ.alike Ar105.2.1) Ar105.2.2 hi105 SS.e_lt_9 (g := (mkF m 36 #[.val (.long (vJ ix [1, 2, 4, 8, 16, 30])), .second, .val (.int (9 : Int32)), .val (.ref SS.lt), .val (.ref SS.th), .unset, .unset] [(.int (9 : Int32)), (.ref SS.lt)])) rfl rfl (hc hby D15 20 rfl) _ k) ?_
  refine W.lstore X102 hx (hc hby D15 21 rfl) (l' := #[.val (.long (vJ ix [1, 2, 4, 8, 16, 30])), .second, .val (.int (9 : Int32)), .val (.ref SS.lt), .val (.ref SS.th), .val (.long (1000000000 : Int64)), .second]) rfl ?_
  refine W.lloadN X102 hx (hc hby D15 22 rfl) rfl ?_
  refine W.lconst X102 hx (hc hby D15 23 rfl) (v := 1) rfl ?_
  refine W.lcmp X102 hx (hc hby D15 24 rfl) (v := (vI ix [0, 1, 1, 1, 1, 1])) ((show ∀ ix : Fin 6, lcmpW (vJ ix [1, 2, 4, 8, 16, 30]) (1 : Int64) = (vI ix [0, 1, 1, 1, 1, 1]) from by decide +kernel) ix) ?_
  rcases own_fin6 ix with rfl | rfl | rfl | rfl | rfl | rfl
  · refine Win.to T102 (mkF m 42 #[.val (.long (1 : Int64)), .second, .val (.int (9 : Int32)), .val (.ref SS.lt), .val (.ref SS.th), .val (.long (1000000000 : Int64)), .second] [(.int (0 : Int32))]) (fun _ k => k) ?_
    refine W.ifNo X102 hx (hc hby D15 25 rfl) (by decide) ?_
    refine W.lload X102 hx (hc hby D15 26 rfl) rfl ?_
    exact Win.retJ X102 hx hlk hret (hc hby D15 27 rfl) (by decide) (by decide) (by (try rw [e102]); exact ⟨rfl, N0, rfl⟩)
  · refine Win.to T102 (mkF m 42 #[.val (.long (2 : Int64)), .second, .val (.int (9 : Int32)), .val (.ref SS.lt), .val (.ref SS.th), .val (.long (1000000000 : Int64)), .second] [(.int (1 : Int32))]) (fun _ k => k) ?_
    refine W.ifYes X102 hx (hc hby D15 25 rfl) (by decide) (by decide) (pc' := 48) rfl ?_
    refine W.lloadN X102 hx (hc hby D15 28 rfl) rfl ?_
    refine W.static X102 hx hZ hown (wk hw 119 rfl) (wk hw 120 rfl) (wk hw 121 rfl) (wk hw 122 rfl) (by decide) (xMath_abs1 l Z a0 hw SS h0 n0 O0 ) e102 (by rw [hml]; rfl) (argsL := [(.long (2 : Int64))]) (rest := []) rfl (lenOf pd__J_J rfl) rfl (W := 0) (Nat.le_of_eq rfl) (hc hby D15 29 rfl) (by decide) (by decide) (by decide) (by decide) (fun T106 h106 v106 L106 X106 e106 q106 => ?_)
    obtain ⟨rfl, N106q, r106_0⟩ := q106
    have N107 := Fr.app N0 N106q
    have e106 := e106.trans r106_0
    refine W.aload X106 hx (hc hby D15 30 rfl) rfl rfl ?_
    refine W.iloadN X106 hx (hc hby D15 31 rfl) rfl ?_
    have Ar108 := Arr.ext O0.2 SS.A_th
    have hi108 : ¬ ((9 : Int32) < 0 ∨ SS.c_th.slots.size ≤ ((9 : Int32)).toNatClampNeg) := by rw [SS.L_th]; decide
    refine Win.to T106 (mkF m 56 #[.val (.long (2 : Int64)), .second, .val (.int (9 : Int32)), .val (.ref SS.lt), .val (.ref SS.th), .val (.long (1000000000 : Int64)), .second] [(.long (9223372036 : Int64)), (.long (2 : Int64))]) (fun _ k => X106.laload hx (j := (9 : Int32)) (v := (.long (9223372036 : Int64))) (by rw [e106]; exact Ar108.1) (State.isArrayOf_alike hZ.alike Ar108.2.1) Ar108.2.2 hi108 SS.e_th_9 (g := (mkF m 55 #[.val (.long (2 : Int64)), .second, .val (.int (9 : Int32)), .val (.ref SS.lt), .val (.ref SS.th), .val (.long (1000000000 : Int64)), .second] [(.int (9 : Int32)), (.ref SS.th), (.long (2 : Int64))])) rfl rfl (hc hby D15 32 rfl) _ k) ?_
    refine W.lcmp X106 hx (hc hby D15 33 rfl) (v := (-1 : Int32)) (by decide) ?_
    refine W.ifNo X106 hx (hc hby D15 34 rfl) (by decide) ?_
    refine W.lloadN X106 hx (hc hby D15 35 rfl) rfl ?_
    refine W.lload X106 hx (hc hby D15 36 rfl) rfl ?_
    refine W.lmul X106 hx (hc hby D15 37 rfl) (v := (2000000000 : Int64)) (by decide) ?_
    exact Win.retJ X106 hx hlk hret (hc hby D15 38 rfl) (by decide) (by decide) (by (try rw [e106]); exact ⟨rfl, N107, rfl⟩)
  · refine Win.to T102 (mkF m 42 #[.val (.long (4 : Int64)), .second, .val (.int (9 : Int32)), .val (.ref SS.lt), .val (.ref SS.th), .val (.long (1000000000 : Int64)), .second] [(.int (1 : Int32))]) (fun _ k => k) ?_
    refine W.ifYes X102 hx (hc hby D15 25 rfl) (by decide) (by decide) (pc' := 48) rfl ?_
    refine W.lloadN X102 hx (hc hby D15 28 rfl) rfl ?_
    refine W.static X102 hx hZ hown (wk hw 119 rfl) (wk hw 120 rfl) (wk hw 121 rfl) (wk hw 122 rfl) (by decide) (xMath_abs2 l Z a0 hw SS h0 n0 O0 ) e102 (by rw [hml]; rfl) (argsL := [(.long (4 : Int64))]) (rest := []) rfl (lenOf pd__J_J rfl) rfl (W := 0) (Nat.le_of_eq rfl) (hc hby D15 29 rfl) (by decide) (by decide) (by decide) (by decide) (fun T109 h109 v109 L109 X109 e109 q109 => ?_)
    obtain ⟨rfl, N109q, r109_0⟩ := q109
    have N110 := Fr.app N0 N109q
    have e109 := e109.trans r109_0
    refine W.aload X109 hx (hc hby D15 30 rfl) rfl rfl ?_
    refine W.iloadN X109 hx (hc hby D15 31 rfl) rfl ?_
    have Ar111 := Arr.ext O0.2 SS.A_th
    have hi111 : ¬ ((9 : Int32) < 0 ∨ SS.c_th.slots.size ≤ ((9 : Int32)).toNatClampNeg) := by rw [SS.L_th]; decide
    refine Win.to T109 (mkF m 56 #[.val (.long (4 : Int64)), .second, .val (.int (9 : Int32)), .val (.ref SS.lt), .val (.ref SS.th), .val (.long (1000000000 : Int64)), .second] [(.long (9223372036 : Int64)), (.long (4 : Int64))]) (fun _ k => X109.laload hx (j := (9 : Int32)) (v := (.long (9223372036 : Int64))) (by rw [e109]; exact Ar111.1) (State.isArrayOf_alike hZ.alike Ar111.2.1) Ar111.2.2 hi111 SS.e_th_9 (g := (mkF m 55 #[.val (.long (4 : Int64)), .second, .val (.int (9 : Int32)), .val (.ref SS.lt), .val (.ref SS.th), .val (.long (1000000000 : Int64)), .second] [(.int (9 : Int32)), (.ref SS.th), (.long (4 : Int64))])) rfl rfl (hc hby D15 32 rfl) _ k) ?_
    refine W.lcmp X109 hx (hc hby D15 33 rfl) (v := (-1 : Int32)) (by decide) ?_
    refine W.ifNo X109 hx (hc hby D15 34 rfl) (by decide) ?_
    refine W.lloadN X109 hx (hc hby D15 35 rfl) rfl ?_
    refine W.lload X109 hx (hc hby D15 36 rfl) rfl ?_
    refine W.lmul X109 hx (hc hby D15 37 rfl) (v := (4000000000 : Int64)) (by decide) ?_
    exact Win.retJ X109 hx hlk hret (hc hby D15 38 rfl) (by decide) (by decide) (by (try rw [e109]); exact ⟨rfl, N110, rfl⟩)
  · refine Win.to T102 (mkF m 42 #[.val (.long (8 : Int64)), .second, .val (.int (9 : Int32)), .val (.ref SS.lt), .val (.ref SS.th), .val (.long (1000000000 : Int64)), .second] [(.int (1 : Int32))]) (fun _ k => k) ?_
    refine W.ifYes X102 hx (hc hby D15 25 rfl) (by decide) (by decide) (pc' := 48) rfl ?_
    refine W.lloadN X102 hx (hc hby D15 28 rfl) rfl ?_
    refine W.static X102 hx hZ hown (wk hw 119 rfl) (wk hw 120 rfl) (wk hw 121 rfl) (wk hw 122 rfl) (by decide) (xMath_abs3 l Z a0 hw SS h0 n0 O0 ) e102 (by rw [hml]; rfl) (argsL := [(.long (8 : Int64))]) (rest := []) rfl (lenOf pd__J_J rfl) rfl (W := 0) (Nat.le_of_eq rfl) (hc hby D15 29 rfl) (by decide) (by decide) (by decide) (by decide) (fun T112 h112 v112 L112 X112 e112 q112 => ?_)
    obtain ⟨rfl, N112q, r112_0⟩ := q112
    have N113 := Fr.app N0 N112q
    have e112 := e112.trans r112_0
    refine W.aload X112 hx (hc hby D15 30 rfl) rfl rfl ?_
    refine W.iloadN X112 hx (hc hby D15 31 rfl) rfl ?_
    have Ar114 := Arr.ext O0.2 SS.A_th
    have hi114 : ¬ ((9 : Int32) < 0 ∨ SS.c_th.slots.size ≤ ((9 : Int32)).toNatClampNeg) := by rw [SS.L_th]; decide
    refine Win.to T112 (mkF m 56 #[.val (.long (8 : Int64)), .second, .val (.int (9 : Int32)), .val (.ref SS.lt), .val (.ref SS.th), .val (.long (1000000000 : Int64)), .second] [(.long (9223372036 : Int64)), (.long (8 : Int64))]) (fun _ k => X112.laload hx (j := (9 : Int32)) (v := (.long (9223372036 : Int64))) (by rw [e112]; exact Ar114.1) (State.isArrayOf_alike hZ.alike Ar114.2.1) Ar114.2.2 hi114 SS.e_th_9 (g := (mkF m 55 #[.val (.long (8 : Int64)), .second, .val (.int (9 : Int32)), .val (.ref SS.lt), .val (.ref SS.th), .val (.long (1000000000 : Int64)), .second] [(.int (9 : Int32)), (.ref SS.th), (.long (8 : Int64))])) rfl rfl (hc hby D15 32 rfl) _ k) ?_
    refine W.lcmp X112 hx (hc hby D15 33 rfl) (v := (-1 : Int32)) (by decide) ?_
    refine W.ifNo X112 hx (hc hby D15 34 rfl) (by decide) ?_
    refine W.lloadN X112 hx (hc hby D15 35 rfl) rfl ?_
    refine W.lload X112 hx (hc hby D15 36 rfl) rfl ?_
    refine W.lmul X112 hx (hc hby D15 37 rfl) (v := (8000000000 : Int64)) (by decide) ?_
    exact Win.retJ X112 hx hlk hret (hc hby D15 38 rfl) (by decide) (by decide) (by (try rw [e112]); exact ⟨rfl, N113, rfl⟩)
  · refine Win.to T102 (mkF m 42 #[.val (.long (16 : Int64)), .second, .val (.int (9 : Int32)), .val (.ref SS.lt), .val (.ref SS.th), .val (.long (1000000000 : Int64)), .second] [(.int (1 : Int32))]) (fun _ k => k) ?_
    refine W.ifYes X102 hx (hc hby D15 25 rfl) (by decide) (by decide) (pc' := 48) rfl ?_
    refine W.lloadN X102 hx (hc hby D15 28 rfl) rfl ?_
    refine W.static X102 hx hZ hown (wk hw 119 rfl) (wk hw 120 rfl) (wk hw 121 rfl) (wk hw 122 rfl) (by decide) (xMath_abs4 l Z a0 hw SS h0 n0 O0 ) e102 (by rw [hml]; rfl) (argsL := [(.long (16 : Int64))]) (rest := []) rfl (lenOf pd__J_J rfl) rfl (W := 0) (Nat.le_of_eq rfl) (hc hby D15 29 rfl) (by decide) (by decide) (by decide) (by decide) (fun T115 h115 v115 L115 X115 e115 q115 => ?_)
    obtain ⟨rfl, N115q, r115_0⟩ := q115
    have N116 := Fr.app N0 N115q
    have e115 := e115.trans r115_0
    refine W.aload X115 hx (hc hby D15 30 rfl) rfl rfl ?_
    refine W.iloadN X115 hx (hc hby D15 31 rfl) rfl ?_
    have Ar117 := Arr.ext O0.2 SS.A_th
    have hi117 : ¬ ((9 : Int32) < 0 ∨ SS.c_th.slots.size ≤ ((9 : Int32)).toNatClampNeg) := by rw [SS.L_th]; decide
    refine Win.to T115 (mkF m 56 #[.val (.long (16 : Int64)), .second, .val (.int (9 : Int32)), .val (.ref SS.lt), .val (.ref SS.th), .val (.long (1000000000 : Int64)), .second] [(.long (9223372036 : Int64)), (.long (16 : Int64))]) (fun _ k => X115.laload hx (j := (9 : Int32)) (v := (.long (9223372036 : Int64))) (by rw [e115]; exact Ar117.1) (State.isArrayOf_alike hZ.alike Ar117.2.1) Ar117.2.2 hi117 SS.e_th_9 (g := (mkF m 55 #[.val (.long (16 : Int64)), .second, .val (.int (9 : Int32)), .val (.ref SS.lt), .val (.ref SS.th), .val (.long (1000000000 : Int64)), .second] [(.int (9 : Int32)), (.ref SS.th), (.long (16 : Int64))])) rfl rfl (hc hby D15 32 rfl) _ k) ?_
    refine W.lcmp X115 hx (hc hby D15 33 rfl) (v := (-1 : Int32)) (by decide) ?_
    refine W.ifNo X115 hx (hc hby D15 34 rfl) (by decide) ?_
    refine W.lloadN X115 hx (hc hby D15 35 rfl) rfl ?_
    refine W.lload X115 hx (hc hby D15 36 rfl) rfl ?_
    refine W.lmul X115 hx (hc hby D15 37 rfl) (v := (16000000000 : Int64)) (by decide) ?_
    exact Win.retJ X115 hx hlk hret (hc hby D15 38 rfl) (by decide) (by decide) (by (try rw [e115]); exact ⟨rfl, N116, rfl⟩)
  · refine Win.to T102 (mkF m 42 #[.val (.long (30 : Int64)), .second, .val (.int (9 : Int32)), .val (.ref SS.lt), .val (.ref SS.th), .val (.long (1000000000 : Int64)), .second] [(.int (1 : Int32))]) (fun _ k => k) ?_
    refine W.ifYes X102 hx (hc hby D15 25 rfl) (by decide) (by decide) (pc' := 48) rfl ?_
    refine W.lloadN X102 hx (hc hby D15 28 rfl) rfl ?_
    refine W.static X102 hx hZ hown (wk hw 119 rfl) (wk hw 120 rfl) (wk hw 121 rfl) (wk hw 122 rfl) (by decide) (xMath_abs5 l Z a0 hw SS h0 n0 O0 ) e102 (by rw [hml]; rfl) (argsL := [(.long (30 : Int64))]) (rest := []) rfl (lenOf pd__J_J rfl) rfl (W := 0) (Nat.le_of_eq rfl) (hc hby D15 29 rfl) (by decide) (by decide) (by decide) (by decide) (fun T118 h118 v118 L118 X118 e118 q118 => ?_)
    obtain ⟨rfl, N118q, r118_0⟩ := q118
    have N119 := Fr.app N0 N118q
    have e118 := e118.trans r118_0
    refine W.aload X118 hx (hc hby D15 30 rfl) rfl rfl ?_
    refine W.iloadN X118 hx (hc hby D15 31 rfl) rfl ?_
    have Ar120 := Arr.ext O0.2 SS.A_th
    have hi120 : ¬ ((9 : Int32) < 0 ∨ SS.c_th.slots.size ≤ ((9 : Int32)).toNatClampNeg) := by rw [SS.L_th]; decide
    refine Win.to T118 (mkF m 56 #[.val (.long (30 : Int64)), .second, .val (.int (9 : Int32)), .val (.ref SS.lt), .val (.ref SS.th), .val (.long (1000000000 : Int64)), .second] [(.long (9223372036 : Int64)), (.long (30 : Int64))]) (fun _ k => X118.laload hx (j := (9 : Int32)) (v := (.long (9223372036 : Int64))) (by rw [e118]; exact Ar120.1) (State.isArrayOf_alike hZ.alike Ar120.2.1) Ar120.2.2 hi120 SS.e_th_9 (g := (mkF m 55 #[.val (.long (30 : Int64)), .second, .val (.int (9 : Int32)), .val (.ref SS.lt), .val (.ref SS.th), .val (.long (1000000000 : Int64)), .second] [(.int (9 : Int32)), (.ref SS.th), (.long (30 : Int64))])) rfl rfl (hc hby D15 32 rfl) _ k) ?_
    refine W.lcmp X118 hx (hc hby D15 33 rfl) (v := (-1 : Int32)) (by decide) ?_
    refine W.ifNo X118 hx (hc hby D15 34 rfl) (by decide) ?_
    refine W.lloadN X118 hx (hc hby D15 35 rfl) rfl ?_
    refine W.lload X118 hx (hc hby D15 36 rfl) rfl ?_
    refine W.lmul X118 hx (hc hby D15 37 rfl) (v := (30000000000 : Int64)) (by decide) ?_
    exact Win.retJ X118 hx hlk hret (hc hby D15 38 rfl) (by decide) (by decide) (by (try rw [e118]); exact ⟨rfl, N119, rfl⟩)
abbrev R_xBigDec_add4 : Room := ⟨0, 0, 0, 0⟩
theorem xBigDec_add4 (l : Launch) (Z : State) (a0 : Array Value) (hw : ∀ d ∈ tables_1, d.before a0 Z = true) (SS : Stat Z) (ix : Fin 6) (h0 : Heap) (n0 : Nat) (O0 : Old Z n0 h0)  :
    MetN l Z (⟨"java/math/BigDecimal", "add", "(JJ)J"⟩ : MethodName) jdk_17_method_132_code 6 (some .long) R_xBigDec_add4 [] #[(.long (vJ ix [1000000000, 2000000000, 4000000000, 8000000000, 16000000000, 30000000000])), (.long (0 : Int64))] h0 (fun v h L => v = some (.long (vJ ix [1000000000, 2000000000, 4000000000, 8000000000, 16000000000, 30000000000])) ∧ Fr n0 L ∧ h = h0) := by
  refine MetN.walk (plainFor_of_name pn_17) ?_
  intro p e s m below meth c s₁ hx hZ hby hml hown hnm hret hlk X0 e0
  have N0 := Fr.nil n0
  refine Win.to s₁ (mkF m 0 #[.val (.long (vJ ix [1000000000, 2000000000, 4000000000, 8000000000, 16000000000, 30000000000])), .second, .val (.long (0 : Int64)), .second, .unset, .unset] []) (fun _ k => castTop rfl k) ?_
  refine W.lloadN X0 hx (hc hby D17 0 rfl) rfl ?_
  refine W.lloadN X0 hx (hc hby D17 1 rfl) rfl ?_
  refine W.ladd X0 hx (hc hby D17 2 rfl) (v := (vJ ix [1000000000, 2000000000, 4000000000, 8000000000, 16000000000, 30000000000])) ((show ∀ ix : Fin 6, (vJ ix [1000000000, 2000000000, 4000000000, 8000000000, 16000000000, 30000000000]) + (0 : Int64) = (vJ ix [1000000000, 2000000000, 4000000000, 8000000000, 16000000000, 30000000000]) from by decide +kernel) ix) ?_
  refine W.lstore X0 hx (hc hby D17 3 rfl) (l' := #[.val (.long (vJ ix [1000000000, 2000000000, 4000000000, 8000000000, 16000000000, 30000000000])), .second, .val (.long (0 : Int64)), .second, .val (.long (vJ ix [1000000000, 2000000000, 4000000000, 8000000000, 16000000000, 30000000000])), .second]) rfl ?_
  refine W.lload X0 hx (hc hby D17 4 rfl) rfl ?_
  refine W.lloadN X0 hx (hc hby D17 5 rfl) rfl ?_
  refine W.lxor X0 hx (hc hby D17 6 rfl) (v := (0 : Int64)) ((show ∀ ix : Fin 6, (vJ ix [1000000000, 2000000000, 4000000000, 8000000000, 16000000000, 30000000000]) ^^^ (vJ ix [1000000000, 2000000000, 4000000000, 8000000000, 16000000000, 30000000000]) = (0 : Int64) from by decide +kernel) ix) ?_
  refine W.lload X0 hx (hc hby D17 7 rfl) rfl ?_
  refine W.lloadN X0 hx (hc hby D17 8 rfl) rfl ?_
  refine W.lxor X0 hx (hc hby D17 9 rfl) (v := (vJ ix [1000000000, 2000000000, 4000000000, 8000000000, 16000000000, 30000000000])) ((show ∀ ix : Fin 6, (vJ ix [1000000000, 2000000000, 4000000000, 8000000000, 16000000000, 30000000000]) ^^^ (0 : Int64) = (vJ ix [1000000000, 2000000000, 4000000000, 8000000000, 16000000000, 30000000000]) from by decide +kernel) ix) ?_
  refine W.land X0 hx (hc hby D17 10 rfl) (v := (0 : Int64)) ((show ∀ ix : Fin 6, (0 : Int64) &&& (vJ ix [1000000000, 2000000000, 4000000000, 8000000000, 16000000000, 30000000000]) = (0 : Int64) from by decide +kernel) ix) ?_
  refine W.lconst X0 hx (hc hby D17 11 rfl) (v := 0) rfl ?_
  refine W.lcmp X0 hx (hc hby D17 12 rfl) (v := (0 : Int32)) (by decide) ?_
  refine W.ifNo X0 hx (hc hby D17 13 rfl) (by decide) ?_
  refine W.lload X0 hx (hc hby D17 14 rfl) rfl ?_
  exact Win.retJ X0 hx hlk hret (hc hby D17 15 rfl) (by decide) (by decide) (by (try rw [e0]); exact ⟨rfl, N0, rfl⟩)
abbrev R_xBigDec_valueOf3 : Room := ⟨3, 1, 5, 42⟩
theorem xBigDec_valueOf3 (l : Launch) (Z : State) (a0 : Array Value) (hw : ∀ d ∈ tables_1, d.before a0 Z = true) (SS : Stat Z) (ix : Fin 6) (h0 : Heap) (n0 : Nat) (O0 : Old Z n0 h0)  :
    MetN l Z (⟨"java/math/BigDecimal", "valueOf", "(JI)Ljava/math/BigDecimal;"⟩ : MethodName) jdk_17_method_20_code 3 (some (.object "java/math/BigDecimal")) R_xBigDec_valueOf3 [] #[(.long (vJ ix [1000000000, 2000000000, 4000000000, 8000000000, 16000000000, 30000000000])), (.int (9 : Int32))] h0 (fun v h L => ∃ (r1 : Addr), v = some (.ref r1) ∧ Fr n0 L ∧ Keep h0 h [] ∧ h0.size ≤ r1 ∧ Fld Z h r1 "java/math/BigDecimal" "intCompact" "J" (.long (vJ ix [1000000000, 2000000000, 4000000000, 8000000000, 16000000000, 30000000000])) ∧ Fld Z h r1 "java/math/BigDecimal" "intVal" "Ljava/math/BigInteger;" .null ∧ Fld Z h r1 "java/math/BigDecimal" "precision" "I" (.int (0 : Int32)) ∧ Fld Z h r1 "java/math/BigDecimal" "scale" "I" (.int (9 : Int32)) ∧ Exa Z h r1 "java/math/BigDecimal") := by
  refine MetN.walk (plainFor_of_name pn_10) ?_
  intro p e s m below meth c s₁ hx hZ hby hml hown hnm hret hlk X0 e0
  have N0 := Fr.nil n0
  refine Win.to s₁ (mkF m 0 #[.val (.long (vJ ix [1000000000, 2000000000, 4000000000, 8000000000, 16000000000, 30000000000])), .second, .val (.int (9 : Int32))] []) (fun _ k => castTop rfl k) ?_
  refine W.iloadN X0 hx (hc hby D10 0 rfl) rfl ?_
  refine W.ifYes X0 hx (hc hby D10 1 rfl) (by decide) (by decide) (pc' := 9) rfl ?_
  refine W.lloadN X0 hx (hc hby D10 2 rfl) rfl ?_
  refine W.lconst X0 hx (hc hby D10 3 rfl) (v := 0) rfl ?_
  refine W.lcmp X0 hx (hc hby D10 4 rfl) (v := (1 : Int32)) ((show ∀ ix : Fin 6, lcmpW (vJ ix [1000000000, 2000000000, 4000000000, 8000000000, 16000000000, 30000000000]) (0 : Int64) = (1 : Int32) from by decide +kernel) ix) ?_
  refine W.ifYes X0 hx (hc hby D10 5 rfl) (by decide) (by decide) (pc' := 20) rfl ?_
  obtain ⟨T101, h101, X101, e101, E101, A101, D101, -, st101⟩ := newO X0 hx hZ hown (wk hw 86 rfl) (wk hw 87 rfl) (wk hw 46 rfl) e0 (g := (mkF m 20 #[.val (.long (vJ ix [1000000000, 2000000000, 4000000000, 8000000000, 16000000000, 30000000000])), .second, .val (.int (9 : Int32))] [])) rfl (hc hby D10 9 rfl) (by decide) (by decide)
  obtain ⟨b101, g101⟩ : ∃ z, z = h0.size := ⟨_, rfl⟩
  rw [← g101] at A101 D101 st101
  have g102 : n0 ≤ b101 := Nat.le_trans (own_le O0) (Nat.le_of_eq g101.symm)
  have z103 : h0.size ≤ b101 := (Nat.le_of_eq g101.symm)
  have O104 := Old.ext O0 E101
  have K105 : Keep h0 h101 [] := (Keep.refl h0 []).ext E101
  have F106 : Fld Z h101 b101 "java/math/BigDecimal" "intCompact" "J" (.long (0 : Int64)) := D101 (Or.inr (wk hw 64 rfl)) (ty := .long) (by decide)
  have F107 : Fld Z h101 b101 "java/math/BigDecimal" "scale" "I" (.int (0 : Int32)) := D101 (Or.inr (wk hw 67 rfl)) (ty := .int) (by decide)
  have F108 : Fld Z h101 b101 "java/math/BigDecimal" "precision" "I" (.int (0 : Int32)) := D101 (Or.inl (wk hw 100 rfl)) (ty := .int) (by decide)
  have F109 : Fld Z h101 b101 "java/math/BigDecimal" "intVal" "Ljava/math/BigInteger;" .null := D101 (Or.inr (wk hw 102 rfl)) (ty := (.object "java/math/BigInteger")) (by decide)
  refine Win.to T101 (mkF m 23 #[.val (.long (vJ ix [1000000000, 2000000000, 4000000000, 8000000000, 16000000000, 30000000000])), .second, .val (.int (9 : Int32))] [(.ref b101)]) (fun _ k => st101 _ k) ?_
  refine W.dup X101 hx (hc hby D10 10 rfl) rfl ?_
  refine W.lloadN X101 hx (hc hby D10 11 rfl) rfl ?_
  refine W.ldc2 X101 hx (hc hby D10 12 rfl) hown (mvT hZ (wk hw 65 rfl)) ?_
  refine W.lcmp X101 hx (hc hby D10 13 rfl) (v := (1 : Int32)) ((show ∀ ix : Fin 6, lcmpW (vJ ix [1000000000, 2000000000, 4000000000, 8000000000, 16000000000, 30000000000]) (-9223372036854775808 : Int64) = (1 : Int32) from by decide +kernel) ix) ?_
  refine W.ifYes X101 hx (hc hby D10 14 rfl) (by decide) (by decide) (pc' := 38) rfl ?_
  refine W.aconstNull X101 hx (hc hby D10 15 rfl) ?_
  refine W.lloadN X101 hx (hc hby D10 16 rfl) rfl ?_
  refine W.iloadN X101 hx (hc hby D10 17 rfl) rfl ?_
  refine W.iconst X101 hx (hc hby D10 18 rfl) (v := 0) rfl ?_
  refine W.special X101 hx hZ rfl hown (wk hw 88 rfl) (wk hw 89 rfl) (wk hw 46 rfl) (wk hw 91 rfl) (by decide) (xBigDec_init1 l Z a0 hw SS ix b101 h101 n0 O104 A101 F106 F109 F108 F107 g102) e101 (by rw [hml]; rfl) (a := b101) (argsL := [.null, (.long (vJ ix [1000000000, 2000000000, 4000000000, 8000000000, 16000000000, 30000000000])), (.int (9 : Int32)), (.int (0 : Int32))]) (rest := [(.ref b101)]) rfl (lenOf pd__Ljava_math_BigInteger_JII_V rfl) rfl (W := 1) (Nat.le_of_eq rfl) (hc hby D10 19 rfl) (by decide) (by decide) (by decide) (by decide) (fun T110 h110 v110 L110 X110 e110 q110 => ?_)
  obtain ⟨rfl, N110q, r110_0, r110_1, r110_2, r110_3, r110_4, r110_5⟩ := q110
  have N111 := Fr.app N0 N110q
  have O112 := Old.keep O104 r110_0 (allS g102 all0)
  have K113 : Keep h0 h110 [] := Keep.trans K105 r110_0 (allS (Or.inr z103) all0)
  exact Win.retA X110 hx hlk hret rfl rfl (hc hby D10 20 rfl) (by decide) (by decide) (by (try rw [e110]); exact ⟨b101, rfl, N111, K113, z103, r110_1, r110_2, r110_3, r110_4, r110_5⟩)
abbrev R_xBigDec_add3 : Room := ⟨4, 1, 5, 56⟩
theorem xBigDec_add3 (l : Launch) (Z : State) (a0 : Array Value) (hw : ∀ d ∈ tables_1, d.before a0 Z = true) (SS : Stat Z) (ix : Fin 6) (h0 : Heap) (n0 : Nat) (O0 : Old Z n0 h0)  :
    MetN l Z (⟨"java/math/BigDecimal", "add", "(JJI)Ljava/math/BigDecimal;"⟩ : MethodName) jdk_17_method_133_code 7 (some (.object "java/math/BigDecimal")) R_xBigDec_add3 [] #[(.long (vJ ix [1000000000, 2000000000, 4000000000, 8000000000, 16000000000, 30000000000])), (.long (0 : Int64)), (.int (9 : Int32))] h0 (fun v h L => ∃ (r1 : Addr), v = some (.ref r1) ∧ Fr n0 L ∧ Keep h0 h [] ∧ h0.size ≤ r1 ∧ Fld Z h r1 "java/math/BigDecimal" "intCompact" "J" (.long (vJ ix [1000000000, 2000000000, 4000000000, 8000000000, 16000000000, 30000000000])) ∧ Fld Z h r1 "java/math/BigDecimal" "intVal" "Ljava/math/BigInteger;" .null ∧ Fld Z h r1 "java/math/BigDecimal" "precision" "I" (.int (0 : Int32)) ∧ Fld Z h r1 "java/math/BigDecimal" "scale" "I" (.int (9 : Int32)) ∧ Exa Z h r1 "java/math/BigDecimal") := by
  refine MetN.walk (plainFor_of_name pn_16) ?_
  intro p e s m below meth c s₁ hx hZ hby hml hown hnm hret hlk X0 e0
  have N0 := Fr.nil n0
  refine Win.to s₁ (mkF m 0 #[.val (.long (vJ ix [1000000000, 2000000000, 4000000000, 8000000000, 16000000000, 30000000000])), .second, .val (.long (0 : Int64)), .second, .val (.int (9 : Int32)), .unset, .unset] []) (fun _ k => castTop rfl k) ?_
  refine W.lloadN X0 hx (hc hby D16 0 rfl) rfl ?_
  refine W.lloadN X0 hx (hc hby D16 1 rfl) rfl ?_
  refine W.static X0 hx hZ hown (wk hw 82 rfl) (wk hw 83 rfl) (wk hw 46 rfl) (wk hw 84 rfl) (by decide) (xBigDec_add4 l Z a0 hw SS ix h0 n0 O0 ) e0 (by rw [hml]; rfl) (argsL := [(.long (vJ ix [1000000000, 2000000000, 4000000000, 8000000000, 16000000000, 30000000000])), (.long (0 : Int64))]) (rest := []) rfl (lenOf pd__JJ_J rfl) rfl (W := 0) (Nat.le_of_eq rfl) (hc hby D16 2 rfl) (by decide) (by decide) (by decide) (by decide) (fun T101 h101 v101 L101 X101 e101 q101 => ?_)
  obtain ⟨rfl, N101q, r101_0⟩ := q101
  have N102 := Fr.app N0 N101q
  have e101 := e101.trans r101_0
  refine W.lstore X101 hx (hc hby D16 3 rfl) (l' := #[.val (.long (vJ ix [1000000000, 2000000000, 4000000000, 8000000000, 16000000000, 30000000000])), .second, .val (.long (0 : Int64)), .second, .val (.int (9 : Int32)), .val (.long (vJ ix [1000000000, 2000000000, 4000000000, 8000000000, 16000000000, 30000000000])), .second]) rfl ?_
  refine W.lload X101 hx (hc hby D16 4 rfl) rfl ?_
  refine W.ldc2 X101 hx (hc hby D16 5 rfl) hown (mvT hZ (wk hw 65 rfl)) ?_
  refine W.lcmp X101 hx (hc hby D16 6 rfl) (v := (1 : Int32)) ((show ∀ ix : Fin 6, lcmpW (vJ ix [1000000000, 2000000000, 4000000000, 8000000000, 16000000000, 30000000000]) (-9223372036854775808 : Int64) = (1 : Int32) from by decide +kernel) ix) ?_
  refine W.ifNo X101 hx (hc hby D16 7 rfl) (by decide) ?_
  refine W.lload X101 hx (hc hby D16 8 rfl) rfl ?_
  refine W.iload X101 hx (hc hby D16 9 rfl) rfl ?_
  refine W.static X101 hx hZ hown (wk hw 85 rfl) (wk hw 52 rfl) (wk hw 46 rfl) (wk hw 53 rfl) (by decide) (xBigDec_valueOf3 l Z a0 hw SS ix h0 n0 O0 ) e101 (by rw [hml]; rfl) (argsL := [(.long (vJ ix [1000000000, 2000000000, 4000000000, 8000000000, 16000000000, 30000000000])), (.int (9 : Int32))]) (rest := []) rfl (lenOf pd__JI_Ljava_math_BigDecimal_ rfl) rfl (W := 0) (Nat.le_of_eq rfl) (hc hby D16 10 rfl) (by decide) (by decide) (by decide) (by decide) (fun T103 h103 v103 L103 X103 e103 q103 => ?_)
  obtain ⟨r1_103, rfl, N103q, r103_0, r103_1, r103_2, r103_3, r103_4, r103_5, r103_6⟩ := q103
  have N104 := Fr.app N102 N103q
  have g105 : n0 ≤ r1_103 := Nat.le_trans (own_le O0) r103_1
  have z106 : h0.size ≤ r1_103 := r103_1
  have O107 := Old.keep O0 r103_0 all0
  have K108 : Keep h0 h103 [] := Keep.trans (Keep.refl h0 []) r103_0 all0
  exact Win.retA X103 hx hlk hret rfl rfl (hc hby D16 11 rfl) (by decide) (by decide) (by (try rw [e103]); exact ⟨r1_103, rfl, N104, K108, z106, r103_2, r103_3, r103_4, r103_5, r103_6⟩)
abbrev R_xBigDec_add2 : Room := ⟨5, 1, 5, 74⟩
theorem xBigDec_add2 (l : Launch) (Z : State) (a0 : Array Value) (hw : ∀ d ∈ tables_1, d.before a0 Z = true) (SS : Stat Z) (ix : Fin 6) (h0 : Heap) (n0 : Nat) (O0 : Old Z n0 h0)  :
    MetN l Z (⟨"java/math/BigDecimal", "add", "(JIJI)Ljava/math/BigDecimal;"⟩ : MethodName) jdk_17_method_134_code 12 (some (.object "java/math/BigDecimal")) R_xBigDec_add2 [] #[(.long (vJ ix [1, 2, 4, 8, 16, 30])), (.int (0 : Int32)), (.long (0 : Int64)), (.int (9 : Int32))] h0 (fun v h L => ∃ (r1 : Addr), v = some (.ref r1) ∧ Fr n0 L ∧ Keep h0 h [] ∧ h0.size ≤ r1 ∧ Fld Z h r1 "java/math/BigDecimal" "intCompact" "J" (.long (vJ ix [1000000000, 2000000000, 4000000000, 8000000000, 16000000000, 30000000000])) ∧ Fld Z h r1 "java/math/BigDecimal" "intVal" "Ljava/math/BigInteger;" .null ∧ Fld Z h r1 "java/math/BigDecimal" "precision" "I" (.int (0 : Int32)) ∧ Fld Z h r1 "java/math/BigDecimal" "scale" "I" (.int (9 : Int32)) ∧ Exa Z h r1 "java/math/BigDecimal") := by
  refine MetN.walk (plainFor_of_name pn_13) ?_
  intro p e s m below meth c s₁ hx hZ hby hml hown hnm hret hlk X0 e0
  have N0 := Fr.nil n0
  refine Win.to s₁ (mkF m 0 #[.val (.long (vJ ix [1, 2, 4, 8, 16, 30])), .second, .val (.int (0 : Int32)), .val (.long (0 : Int64)), .second, .val (.int (9 : Int32)), .unset, .unset, .unset, .unset, .unset, .unset] []) (fun _ k => castTop rfl k) ?_
  refine W.iloadN X0 hx (hc hby D13 0 rfl) rfl ?_
  refine W.i2l X0 hx (hc hby D13 1 rfl) (v := (0 : Int64)) (by decide) ?_
  refine W.iload X0 hx (hc hby D13 2 rfl) rfl ?_
  refine W.i2l X0 hx (hc hby D13 3 rfl) (v := (9 : Int64)) (by decide) ?_
  refine W.lsub X0 hx (hc hby D13 4 rfl) (v := (-9 : Int64)) (by decide) ?_
  refine W.lstore X0 hx (hc hby D13 5 rfl) (l' := #[.val (.long (vJ ix [1, 2, 4, 8, 16, 30])), .second, .val (.int (0 : Int32)), .val (.long (0 : Int64)), .second, .val (.int (9 : Int32)), .val (.long (-9 : Int64)), .second, .unset, .unset, .unset, .unset]) rfl ?_
  refine W.lload X0 hx (hc hby D13 6 rfl) rfl ?_
  refine W.lconst X0 hx (hc hby D13 7 rfl) (v := 0) rfl ?_
  refine W.lcmp X0 hx (hc hby D13 8 rfl) (v := (-1 : Int32)) (by decide) ?_
  refine W.ifYes X0 hx (hc hby D13 9 rfl) (by decide) (by decide) (pc' := 22) rfl ?_
  refine W.lload X0 hx (hc hby D13 10 rfl) rfl ?_
  refine W.lconst X0 hx (hc hby D13 11 rfl) (v := 0) rfl ?_
  refine W.lcmp X0 hx (hc hby D13 12 rfl) (v := (-1 : Int32)) (by decide) ?_
  refine W.ifNo X0 hx (hc hby D13 13 rfl) (by decide) ?_
  refine W.lloadN X0 hx (hc hby D13 14 rfl) rfl ?_
  refine W.lload X0 hx (hc hby D13 15 rfl) rfl ?_
  refine W.lneg X0 hx (hc hby D13 16 rfl) (v := (9 : Int64)) (by decide) ?_
  refine W.static X0 hx hZ hown (wk hw 71 rfl) (wk hw 72 rfl) (wk hw 46 rfl) (wk hw 73 rfl) (by decide) (xBigDec_checkScale1 l Z a0 hw SS ix h0 n0 O0 ) e0 (by rw [hml]; rfl) (argsL := [(.long (vJ ix [1, 2, 4, 8, 16, 30])), (.long (9 : Int64))]) (rest := []) rfl (lenOf pd__JJ_I rfl) rfl (W := 0) (Nat.le_of_eq rfl) (hc hby D13 17 rfl) (by decide) (by decide) (by decide) (by decide) (fun T101 h101 v101 L101 X101 e101 q101 => ?_)
  obtain ⟨rfl, N101q, r101_0⟩ := q101
  have N102 := Fr.app N0 N101q
  have e101 := e101.trans r101_0
  refine W.istore X101 hx (hc hby D13 18 rfl) (l' := #[.val (.long (vJ ix [1, 2, 4, 8, 16, 30])), .second, .val (.int (0 : Int32)), .val (.long (0 : Int64)), .second, .val (.int (9 : Int32)), .val (.long (-9 : Int64)), .second, .val (.int (9 : Int32)), .unset, .unset, .unset]) rfl ?_
  refine W.lloadN X101 hx (hc hby D13 19 rfl) rfl ?_
  refine W.iload X101 hx (hc hby D13 20 rfl) rfl ?_
  refine W.static X101 hx hZ hown (wk hw 74 rfl) (wk hw 75 rfl) (wk hw 46 rfl) (wk hw 76 rfl) (by decide) (xBigDec_longMultiplyPowerTen1 l Z a0 hw SS ix h0 n0 O0 ) e101 (by rw [hml]; rfl) (argsL := [(.long (vJ ix [1, 2, 4, 8, 16, 30])), (.int (9 : Int32))]) (rest := []) rfl (lenOf pd__JI_J rfl) rfl (W := 0) (Nat.le_of_eq rfl) (hc hby D13 21 rfl) (by decide) (by decide) (by decide) (by decide) (fun T103 h103 v103 L103 X103 e103 q103 => ?_)
  obtain ⟨rfl, N103q, r103_0⟩ := q103
  have N104 := Fr.app N102 N103q
  have e103 := e103.trans r103_0
  refine W.lstore X103 hx (hc hby D13 22 rfl) (l' := #[.val (.long (vJ ix [1, 2, 4, 8, 16, 30])), .second, .val (.int (0 : Int32)), .val (.long (0 : Int64)), .second, .val (.int (9 : Int32)), .val (.long (-9 : Int64)), .second, .val (.int (9 : Int32)), .val (.long (vJ ix [1000000000, 2000000000, 4000000000, 8000000000, 16000000000, 30000000000])), .second, .unset]) rfl ?_
  refine W.lload X103 hx (hc hby D13 23 rfl) rfl ?_
  refine W.ldc2 X103 hx (hc hby D13 24 rfl) hown (mvT hZ (wk hw 65 rfl)) ?_
  refine W.lcmp X103 hx (hc hby D13 25 rfl) (v := (1 : Int32)) ((show ∀ ix : Fin 6, lcmpW (vJ ix [1000000000, 2000000000, 4000000000, 8000000000, 16000000000, 30000000000]) (-9223372036854775808 : Int64) = (1 : Int32) from by decide +kernel) ix) ?_
  refine W.ifNo X103 hx (hc hby D13 26 rfl) (by decide) ?_
  refine W.lload X103 hx (hc hby D13 27 rfl) rfl ?_
  refine W.lloadN X103 hx (hc hby D13 28 rfl) rfl ?_
  refine W.iload X103 hx (hc hby D13 29 rfl) rfl ?_
  refine W.static X103 hx hZ hown (wk hw 79 rfl) (wk hw 80 rfl) (wk hw 46 rfl) (wk hw 81 rfl) (by decide) (xBigDec_add3 l Z a0 hw SS ix h0 n0 O0 ) e103 (by rw [hml]; rfl) (argsL := [(.long (vJ ix [1000000000, 2000000000, 4000000000, 8000000000, 16000000000, 30000000000])), (.long (0 : Int64)), (.int (9 : Int32))]) (rest := []) rfl (lenOf pd__JJI_Ljava_math_BigDecimal_ rfl) rfl (W := 0) (Nat.le_of_eq rfl) (hc hby D13 30 rfl) (by decide) (by decide) (by decide) (by decide) (fun T105 h105 v105 L105 X105 e105 q105 => ?_)
  obtain ⟨r1_105, rfl, N105q, r105_0, r105_1, r105_2, r105_3, r105_4, r105_5, r105_6⟩ := q105
  have N106 := Fr.app N104 N105q
  have g107 : n0 ≤ r1_105 := Nat.le_trans (own_le O0) r105_1
  have z108 : h0.size ≤ r1_105 := r105_1
  have O109 := Old.keep O0 r105_0 all0
  have K110 : Keep h0 h105 [] := Keep.trans (Keep.refl h0 []) r105_0 all0
  exact Win.retA X105 hx hlk hret rfl rfl (hc hby D13 31 rfl) (by decide) (by decide) (by (try rw [e105]); exact ⟨r1_105, rfl, N106, K110, z108, r105_2, r105_3, r105_4, r105_5, r105_6⟩)
abbrev R_xBigDec_add1 : Room := ⟨6, 1, 5, 97⟩
theorem xBigDec_add1 (l : Launch) (Z : State) (a0 : Array Value) (hw : ∀ d ∈ tables_1, d.before a0 Z = true) (SS : Stat Z) (ix : Fin 6) (a1 : Addr) (a2 : Addr) (h0 : Heap) (n0 : Nat) (O0 : Old Z n0 h0) (P0 : Fld Z h0 a1 "java/math/BigDecimal" "intCompact" "J" (.long (vJ ix [1, 2, 4, 8, 16, 30]))) (P1 : Fld Z h0 a1 "java/math/BigDecimal" "scale" "I" (.int (0 : Int32))) (P2 : Fld Z h0 a2 "java/math/BigDecimal" "intCompact" "J" (.long (0 : Int64))) (P3 : Fld Z h0 a2 "java/math/BigDecimal" "scale" "I" (.int (9 : Int32))) :
    MetN l Z (⟨"java/math/BigDecimal", "add", "(Ljava/math/BigDecimal;)Ljava/math/BigDecimal;"⟩ : MethodName) jdk_17_method_26_code 2 (some (.object "java/math/BigDecimal")) R_xBigDec_add1 [] #[(.ref a1), (.ref a2)] h0 (fun v h L => ∃ (r1 : Addr), v = some (.ref r1) ∧ Fr n0 L ∧ Keep h0 h [] ∧ h0.size ≤ r1 ∧ Fld Z h r1 "java/math/BigDecimal" "intCompact" "J" (.long (vJ ix [1000000000, 2000000000, 4000000000, 8000000000, 16000000000, 30000000000])) ∧ Fld Z h r1 "java/math/BigDecimal" "intVal" "Ljava/math/BigInteger;" .null ∧ Fld Z h r1 "java/math/BigDecimal" "precision" "I" (.int (0 : Int32)) ∧ Fld Z h r1 "java/math/BigDecimal" "scale" "I" (.int (9 : Int32)) ∧ Exa Z h r1 "java/math/BigDecimal") := by
  refine MetN.walk (plainFor_of_name pn_12) ?_
  intro p e s m below meth c s₁ hx hZ hby hml hown hnm hret hlk X0 e0
  have N0 := Fr.nil n0
  refine Win.to s₁ (mkF m 0 #[.val (.ref a1), .val (.ref a2)] []) (fun _ k => castTop rfl k) ?_
  refine W.aloadN X0 hx (hc hby D12 0 rfl) rfl rfl ?_
  refine W.getF X0 hx hZ hown (host := "") (Or.inl (wk hw 63 rfl)) Via.refl e0 P0 (hc hby D12 1 rfl) (fun T101 X101 e101 => ?_)
  refine W.ldc2 X101 hx (hc hby D12 2 rfl) hown (mvT hZ (wk hw 65 rfl)) ?_
  refine W.lcmp X101 hx (hc hby D12 3 rfl) (v := (1 : Int32)) ((show ∀ ix : Fin 6, lcmpW (vJ ix [1, 2, 4, 8, 16, 30]) (-9223372036854775808 : Int64) = (1 : Int32) from by decide +kernel) ix) ?_
  refine W.ifNo X101 hx (hc hby D12 4 rfl) (by decide) ?_
  refine W.aloadN X101 hx (hc hby D12 5 rfl) rfl rfl ?_
  refine W.getF X101 hx hZ hown (host := "") (Or.inl (wk hw 63 rfl)) Via.refl e101 P2 (hc hby D12 6 rfl) (fun T102 X102 e102 => ?_)
  refine W.ldc2 X102 hx (hc hby D12 7 rfl) hown (mvT hZ (wk hw 65 rfl)) ?_
  refine W.lcmp X102 hx (hc hby D12 8 rfl) (v := (1 : Int32)) (by decide) ?_
  refine W.ifNo X102 hx (hc hby D12 9 rfl) (by decide) ?_
  refine W.aloadN X102 hx (hc hby D12 10 rfl) rfl rfl ?_
  refine W.getF X102 hx hZ hown (host := "") (Or.inl (wk hw 63 rfl)) Via.refl e102 P0 (hc hby D12 11 rfl) (fun T103 X103 e103 => ?_)
  refine W.aloadN X103 hx (hc hby D12 12 rfl) rfl rfl ?_
  refine W.getF X103 hx hZ hown (host := "") (Or.inl (wk hw 66 rfl)) Via.refl e103 P1 (hc hby D12 13 rfl) (fun T104 X104 e104 => ?_)
  refine W.aloadN X104 hx (hc hby D12 14 rfl) rfl rfl ?_
  refine W.getF X104 hx hZ hown (host := "") (Or.inl (wk hw 63 rfl)) Via.refl e104 P2 (hc hby D12 15 rfl) (fun T105 X105 e105 => ?_)
  refine W.aloadN X105 hx (hc hby D12 16 rfl) rfl rfl ?_
  refine W.getF X105 hx hZ hown (host := "") (Or.inl (wk hw 66 rfl)) Via.refl e105 P3 (hc hby D12 17 rfl) (fun T106 X106 e106 => ?_)
  refine W.static X106 hx hZ hown (wk hw 68 rfl) (wk hw 69 rfl) (wk hw 46 rfl) (wk hw 70 rfl) (by decide) (xBigDec_add2 l Z a0 hw SS ix h0 n0 O0 ) e106 (by rw [hml]; rfl) (argsL := [(.long (vJ ix [1, 2, 4, 8, 16, 30])), (.int (0 : Int32)), (.long (0 : Int64)), (.int (9 : Int32))]) (rest := []) rfl (lenOf pd__JIJI_Ljava_math_BigDecimal_ rfl) rfl (W := 0) (Nat.le_of_eq rfl) (hc hby D12 18 rfl) (by decide) (by decide) (by decide) (by decide) (fun T107 h107 v107 L107 X107 e107 q107 => ?_)
  obtain ⟨r1_107, rfl, N107q, r107_0, r107_1, r107_2, r107_3, r107_4, r107_5, r107_6⟩ := q107
  have N108 := Fr.app N0 N107q
  have g109 : n0 ≤ r1_107 := Nat.le_trans (own_le O0) r107_1
  have z110 : h0.size ≤ r1_107 := r107_1
  have O111 := Old.keep O0 r107_0 all0
  have K112 : Keep h0 h107 [] := Keep.trans (Keep.refl h0 []) r107_0 all0
  exact Win.retA X107 hx hlk hret rfl rfl (hc hby D12 19 rfl) (by decide) (by decide) (by (try rw [e107]); exact ⟨r1_107, rfl, N108, K112, z110, r107_2, r107_3, r107_4, r107_5, r107_6⟩)
abbrev R_xDurati_toBigDecimalSeconds1 : Room := ⟨7, 2, 10, 110⟩
theorem xDurati_toBigDecimalSeconds1 (l : Launch) (Z : State) (a0 : Array Value) (hw : ∀ d ∈ tables_1, d.before a0 Z = true) (SS : Stat Z) (ix : Fin 6) (a1 : Addr) (h0 : Heap) (n0 : Nat) (O0 : Old Z n0 h0) (P0 : Fld Z h0 a1 "java/time/Duration" "nanos" "I" (.int (0 : Int32))) (P1 : Fld Z h0 a1 "java/time/Duration" "seconds" "J" (.long (vJ ix [1, 2, 4, 8, 16, 30]))) :
    MetN l Z (⟨"java/time/Duration", "toBigDecimalSeconds", "()Ljava/math/BigDecimal;"⟩ : MethodName) jdk_2316_method_47_code 1 (some (.object "java/math/BigDecimal")) R_xDurati_toBigDecimalSeconds1 [] #[(.ref a1)] h0 (fun v h L => ∃ (r1 : Addr), v = some (.ref r1) ∧ Fr n0 L ∧ Keep h0 h [] ∧ h0.size ≤ r1 ∧ Fld Z h r1 "java/math/BigDecimal" "intCompact" "J" (.long (vJ ix [1000000000, 2000000000, 4000000000, 8000000000, 16000000000, 30000000000])) ∧ Fld Z h r1 "java/math/BigDecimal" "intVal" "Ljava/math/BigInteger;" .null ∧ Fld Z h r1 "java/math/BigDecimal" "precision" "I" (.int (0 : Int32)) ∧ Fld Z h r1 "java/math/BigDecimal" "scale" "I" (.int (9 : Int32)) ∧ Exa Z h r1 "java/math/BigDecimal") := by
  refine MetN.walk (plainFor_of_name pn_8) ?_
  intro p e s m below meth c s₁ hx hZ hby hml hown hnm hret hlk X0 e0
  have N0 := Fr.nil n0
  refine Win.to s₁ (mkF m 0 #[.val (.ref a1)] []) (fun _ k => castTop rfl k) ?_
  refine W.aloadN X0 hx (hc hby D8 0 rfl) rfl rfl ?_
  refine W.getF X0 hx hZ hown (host := "") (Or.inl (wk hw 42 rfl)) Via.refl e0 P1 (hc hby D8 1 rfl) (fun T101 X101 e101 => ?_)
  refine W.static X101 hx hZ hown (wk hw 44 rfl) (wk hw 45 rfl) (wk hw 46 rfl) (wk hw 47 rfl) (by decide) (xBigDec_valueOf1 l Z a0 hw SS ix h0 n0 O0 ) e101 (by rw [hml]; rfl) (argsL := [(.long (vJ ix [1, 2, 4, 8, 16, 30]))]) (rest := []) rfl (lenOf pd__J_Ljava_math_BigDecimal_ rfl) rfl (W := 0) (Nat.le_of_eq rfl) (hc hby D8 2 rfl) (by decide) (by decide) (by decide) (by decide) (fun T102 h102 v102 L102 X102 e102 q102 => ?_)
  obtain ⟨r1_102, rfl, N102q, r102_0, r102_1, r102_2, r102_3⟩ := q102
  have N103 := Fr.app N0 N102q
  have O104 := Old.keep O0 r102_0 all0
  have K105 : Keep h0 h102 [] := Keep.trans (Keep.refl h0 []) r102_0 all0
  refine W.aloadN X102 hx (hc hby D8 3 rfl) rfl rfl ?_
  have F106 := P0.keep r102_0 nin0
  refine W.getF X102 hx hZ hown (host := "") (Or.inl (wk hw 49 rfl)) Via.refl e102 F106 (hc hby D8 4 rfl) (fun T107 X107 e107 => ?_)
  refine W.i2l X107 hx (hc hby D8 5 rfl) (v := (0 : Int64)) (by decide) ?_
  refine W.bipush X107 hx (hc hby D8 6 rfl) (v := 9) rfl ?_
  refine W.static X107 hx hZ hown (wk hw 51 rfl) (wk hw 52 rfl) (wk hw 46 rfl) (wk hw 53 rfl) (by decide) (xBigDec_valueOf2 l Z a0 hw SS h102 n0 O104 ) e107 (by rw [hml]; rfl) (argsL := [(.long (0 : Int64)), (.int (9 : Int32))]) (rest := [(.ref r1_102)]) rfl (lenOf pd__JI_Ljava_math_BigDecimal_ rfl) rfl (W := 1) (Nat.le_of_eq rfl) (hc hby D8 7 rfl) (by decide) (by decide) (by decide) (by decide) (fun T108 h108 v108 L108 X108 e108 q108 => ?_)
  obtain ⟨rfl, N108q, r108_0⟩ := q108
  have N109 := Fr.app N103 N108q
  have e108 := e108.trans r108_0
  have F110 := Fld.ext O104.2 SS.F_z9_intCompact
  have F111 := Fld.ext O104.2 SS.F_z9_scale
  refine W.virtual X108 hx hZ hown (wk hw 58 rfl) (wk hw 59 rfl) (notFace_of_selects (args := #[]) (mvT hZ (wk hw 61 rfl))) (wk hw 61 rfl) (wk hw 60 rfl) (wk hw 46 rfl) (wk hw 62 rfl) (by decide) (xBigDec_add1 l Z a0 hw SS ix r1_102 SS.z9 h102 n0 O104 r102_1 r102_2 F110 F111) e108 r102_3 (by rw [hml]; rfl) (argsL := [(.ref SS.z9)]) (rest := []) rfl (lenOf pd__Ljava_math_BigDecimal__Ljava_math_BigDecimal_ rfl) rfl (W := 0) (Nat.le_of_eq rfl) (hc hby D8 8 rfl) (by decide) (by decide) (by decide) (by decide) (fun T112 h112 v112 L112 X112 e112 q112 => ?_)
  obtain ⟨r1_112, rfl, N112q, r112_0, r112_1, r112_2, r112_3, r112_4, r112_5, r112_6⟩ := q112
  have N113 := Fr.app N109 N112q
  have g114 : n0 ≤ r1_112 := Nat.le_trans (own_le O104) r112_1
  have z115 : h0.size ≤ r1_112 := Nat.le_trans K105.1 r112_1
  have O116 := Old.keep O104 r112_0 all0
  have K117 : Keep h0 h112 [] := Keep.trans K105 r112_0 all0
  exact Win.retA X112 hx hlk hret rfl rfl (hc hby D8 9 rfl) (by decide) (by decide) (by (try rw [e112]); exact ⟨r1_112, rfl, N113, K117, z115, r112_2, r112_3, r112_4, r112_5, r112_6⟩)
abbrev R_xBigDec_checkScale2 : Room := ⟨0, 0, 0, 0⟩
theorem xBigDec_checkScale2 (l : Launch) (Z : State) (a0 : Array Value) (hw : ∀ d ∈ tables_1, d.before a0 Z = true) (SS : Stat Z) (ix : Fin 6) (a1 : Addr) (h0 : Heap) (n0 : Nat) (O0 : Old Z n0 h0)  :
    MetN l Z (⟨"java/math/BigDecimal", "checkScale", "(J)I"⟩ : MethodName) jdk_17_method_106_code 5 (some .int) R_xBigDec_checkScale2 [] #[(.ref a1), (.long (9 : Int64))] h0 (fun v h L => v = some (.int (9 : Int32)) ∧ Fr n0 L ∧ h = h0) := by
  refine MetN.walk (plainFor_of_name pn_21) ?_
  intro p e s m below meth c s₁ hx hZ hby hml hown hnm hret hlk X0 e0
  have N0 := Fr.nil n0
  refine Win.to s₁ (mkF m 0 #[.val (.ref a1), .val (.long (9 : Int64)), .second, .unset, .unset] []) (fun _ k => castTop rfl k) ?_
  refine W.lloadN X0 hx (hc hby D21 0 rfl) rfl ?_
  refine W.l2i X0 hx (hc hby D21 1 rfl) (v := (9 : Int32)) (by decide) ?_
  refine W.istoreN X0 hx (hc hby D21 2 rfl) (l' := #[.val (.ref a1), .val (.long (9 : Int64)), .second, .val (.int (9 : Int32)), .unset]) rfl ?_
  refine W.iloadN X0 hx (hc hby D21 3 rfl) rfl ?_
  refine W.i2l X0 hx (hc hby D21 4 rfl) (v := (9 : Int64)) (by decide) ?_
  refine W.lloadN X0 hx (hc hby D21 5 rfl) rfl ?_
  refine W.lcmp X0 hx (hc hby D21 6 rfl) (v := (0 : Int32)) (by decide) ?_
  refine W.ifYes X0 hx (hc hby D21 7 rfl) (by decide) (by decide) (pc' := 76) rfl ?_
  refine W.iloadN X0 hx (hc hby D21 8 rfl) rfl ?_
  exact Win.retI X0 hx hlk hret (hc hby D21 9 rfl) (by decide) (by decide) (by (try rw [e0]); exact ⟨rfl, N0, rfl⟩)
abbrev R_xMath_abs6 : Room := ⟨0, 0, 0, 0⟩
theorem xMath_abs6 (l : Launch) (Z : State) (a0 : Array Value) (hw : ∀ d ∈ tables_1, d.before a0 Z = true) (SS : Stat Z) (ix : Fin 6) (h0 : Heap) (n0 : Nat) (O0 : Old Z n0 h0)  :
    MetN l Z (⟨"java/lang/Math", "abs", "(J)J"⟩ : MethodName) jdk_29_method_61_code 2 (some .long) R_xMath_abs6 [] #[(.long (vJ ix [1000000000, 2000000000, 4000000000, 8000000000, 16000000000, 30000000000]))] h0 (fun v h L => v = some (.long (vJ ix [1000000000, 2000000000, 4000000000, 8000000000, 16000000000, 30000000000])) ∧ Fr n0 L ∧ h = h0) := by
  refine MetN.walk (Jvm.Free.JP.mathPlain rfl (by decide +kernel)) ?_
  intro p e s m below meth c s₁ hx hZ hby hml hown hnm hret hlk X0 e0
  have N0 := Fr.nil n0
  refine Win.to s₁ (mkF m 0 #[.val (.long (vJ ix [1000000000, 2000000000, 4000000000, 8000000000, 16000000000, 30000000000])), .second] []) (fun _ k => castTop rfl k) ?_
  refine W.lloadN X0 hx (hc hby D24 0 rfl) rfl ?_
  refine W.lconst X0 hx (hc hby D24 1 rfl) (v := 0) rfl ?_
  refine W.lcmp X0 hx (hc hby D24 2 rfl) (v := (1 : Int32)) ((show ∀ ix : Fin 6, lcmpW (vJ ix [1000000000, 2000000000, 4000000000, 8000000000, 16000000000, 30000000000]) (0 : Int64) = (1 : Int32) from by decide +kernel) ix) ?_
  refine W.ifYes X0 hx (hc hby D24 3 rfl) (by decide) (by decide) (pc' := 11) rfl ?_
  refine W.lloadN X0 hx (hc hby D24 4 rfl) rfl ?_
  exact Win.retJ X0 hx hlk hret (hc hby D24 5 rfl) (by decide) (by decide) (by (try rw [e0]); exact ⟨rfl, N0, rfl⟩)
abbrev R_xBigDec_multiply3 : Room := ⟨1, 0, 0, 13⟩
theorem xBigDec_multiply3 (l : Launch) (Z : State) (a0 : Array Value) (hw : ∀ d ∈ tables_1, d.before a0 Z = true) (SS : Stat Z) (ix : Fin 6) (h0 : Heap) (n0 : Nat) (O0 : Old Z n0 h0)  :
    MetN l Z (⟨"java/math/BigDecimal", "multiply", "(JJ)J"⟩ : MethodName) jdk_17_method_156_code 10 (some .long) R_xBigDec_multiply3 [] #[(.long (vJ ix [1000000000, 2000000000, 4000000000, 8000000000, 16000000000, 30000000000])), (.long (2 : Int64))] h0 (fun v h L => v = some (.long (vJ ix [2000000000, 4000000000, 8000000000, 16000000000, 32000000000, 60000000000])) ∧ Fr n0 L ∧ h = h0) := by
  refine MetN.walk (plainFor_of_name pn_23) ?_
  intro p e s m below meth c s₁ hx hZ hby hml hown hnm hret hlk X0 e0
  have N0 := Fr.nil n0
  refine Win.to s₁ (mkF m 0 #[.val (.long (vJ ix [1000000000, 2000000000, 4000000000, 8000000000, 16000000000, 30000000000])), .second, .val (.long (2 : Int64)), .second, .unset, .unset, .unset, .unset, .unset, .unset] []) (fun _ k => castTop rfl k) ?_
  refine W.lloadN X0 hx (hc hby D23 0 rfl) rfl ?_
  refine W.lloadN X0 hx (hc hby D23 1 rfl) rfl ?_
  refine W.lmul X0 hx (hc hby D23 2 rfl) (v := (vJ ix [2000000000, 4000000000, 8000000000, 16000000000, 32000000000, 60000000000])) ((show ∀ ix : Fin 6, (vJ ix [1000000000, 2000000000, 4000000000, 8000000000, 16000000000, 30000000000]) * (2 : Int64) = (vJ ix [2000000000, 4000000000, 8000000000, 16000000000, 32000000000, 60000000000]) from by decide +kernel) ix) ?_
  refine W.lstore X0 hx (hc hby D23 3 rfl) (l' := #[.val (.long (vJ ix [1000000000, 2000000000, 4000000000, 8000000000, 16000000000, 30000000000])), .second, .val (.long (2 : Int64)), .second, .val (.long (vJ ix [2000000000, 4000000000, 8000000000, 16000000000, 32000000000, 60000000000])), .second, .unset, .unset, .unset, .unset]) rfl ?_
  refine W.lloadN X0 hx (hc hby D23 4 rfl) rfl ?_
  refine W.static X0 hx hZ hown (wk hw 119 rfl) (wk hw 120 rfl) (wk hw 121 rfl) (wk hw 122 rfl) (by decide) (xMath_abs6 l Z a0 hw SS ix h0 n0 O0 ) e0 (by rw [hml]; rfl) (argsL := [(.long (vJ ix [1000000000, 2000000000, 4000000000, 8000000000, 16000000000, 30000000000]))]) (rest := []) rfl (lenOf pd__J_J rfl) rfl (W := 0) (Nat.le_of_eq rfl) (hc hby D23 5 rfl) (by decide) (by decide) (by decide) (by decide) (fun T101 h101 v101 L101 X101 e101 q101 => ?_)
  obtain ⟨rfl, N101q, r101_0⟩ := q101
  have N102 := Fr.app N0 N101q
  have e101 := e101.trans r101_0
  refine W.lstore X101 hx (hc hby D23 6 rfl) (l' := #[.val (.long (vJ ix [1000000000, 2000000000, 4000000000, 8000000000, 16000000000, 30000000000])), .second, .val (.long (2 : Int64)), .second, .val (.long (vJ ix [2000000000, 4000000000, 8000000000, 16000000000, 32000000000, 60000000000])), .second, .val (.long (vJ ix [1000000000, 2000000000, 4000000000, 8000000000, 16000000000, 30000000000])), .second, .unset, .unset]) rfl ?_
  refine W.lloadN X101 hx (hc hby D23 7 rfl) rfl ?_
  refine W.static X101 hx hZ hown (wk hw 119 rfl) (wk hw 120 rfl) (wk hw 121 rfl) (wk hw 122 rfl) (by decide) (xMath_abs1 l Z a0 hw SS h0 n0 O0 ) e101 (by rw [hml]; rfl) (argsL := [(.long (2 : Int64))]) (rest := []) rfl (lenOf pd__J_J rfl) rfl (W := 0) (Nat.le_of_eq rfl) (hc hby D23 8 rfl) (by decide) (by decide) (by decide) (by decide) (fun T103 h103 v103 L103 X103 e103 q103 => ?_)
  obtain ⟨rfl, N103q, r103_0⟩ := q103
  have N104 := Fr.app N102 N103q
  have e103 := e103.trans r103_0
  refine W.lstore X103 hx (hc hby D23 9 rfl) (l' := #[.val (.long (vJ ix [1000000000, 2000000000, 4000000000, 8000000000, 16000000000, 30000000000])), .second, .val (.long (2 : Int64)), .second, .val (.long (vJ ix [2000000000, 4000000000, 8000000000, 16000000000, 32000000000, 60000000000])), .second, .val (.long (vJ ix [1000000000, 2000000000, 4000000000, 8000000000, 16000000000, 30000000000])), .second, .val (.long (2 : Int64)), .second]) rfl ?_
  refine W.lload X103 hx (hc hby D23 10 rfl) rfl ?_
  refine W.lload X103 hx (hc hby D23 11 rfl) rfl ?_
  refine W.lor X103 hx (hc hby D23 12 rfl) (v := (vJ ix [1000000002, 2000000002, 4000000002, 8000000002, 16000000002, 30000000002])) ((show ∀ ix : Fin 6, (vJ ix [1000000000, 2000000000, 4000000000, 8000000000, 16000000000, 30000000000]) ||| (2 : Int64) = (vJ ix [1000000002, 2000000002, 4000000002, 8000000002, 16000000002, 30000000002]) from by decide +kernel) ix) ?_
  refine W.bipush X103 hx (hc hby D23 13 rfl) (v := 31) rfl ?_
  refine W.lushr X103 hx (hc hby D23 14 rfl) (v := (vJ ix [0, 0, 1, 3, 7, 13])) ((show ∀ ix : Fin 6, (((vJ ix [1000000002, 2000000002, 4000000002, 8000000002, 16000000002, 30000000002]).toUInt64 >>> ((31 : Int32) &&& 0x3f).toInt64.toUInt64).toInt64) = (vJ ix [0, 0, 1, 3, 7, 13]) from by decide +kernel) ix) ?_
  refine W.lconst X103 hx (hc hby D23 15 rfl) (v := 0) rfl ?_
  refine W.lcmp X103 hx (hc hby D23 16 rfl) (v := (vI ix [0, 0, 1, 1, 1, 1])) ((show ∀ ix : Fin 6, lcmpW (vJ ix [0, 0, 1, 3, 7, 13]) (0 : Int64) = (vI ix [0, 0, 1, 1, 1, 1]) from by decide +kernel) ix) ?_
  rcases own_fin6 ix with rfl | rfl | rfl | rfl | rfl | rfl
  · refine Win.to T103 (mkF m 27 #[.val (.long (1000000000 : Int64)), .second, .val (.long (2 : Int64)), .second, .val (.long (2000000000 : Int64)), .second, .val (.long (1000000000 : Int64)), .second, .val (.long (2 : Int64)), .second] [(.int (0 : Int32))]) (fun _ k => k) ?_
    refine W.ifYes X103 hx (hc hby D23 17 rfl) (by decide) (by decide) (pc' := 45) rfl ?_
    refine W.lload X103 hx (hc hby D23 18 rfl) rfl ?_
    exact Win.retJ X103 hx hlk hret (hc hby D23 19 rfl) (by decide) (by decide) (by (try rw [e103]); exact ⟨rfl, N104, rfl⟩)
  · refine Win.to T103 (mkF m 27 #[.val (.long (2000000000 : Int64)), .second, .val (.long (2 : Int64)), .second, .val (.long (4000000000 : Int64)), .second, .val (.long (2000000000 : Int64)), .second, .val (.long (2 : Int64)), .second] [(.int (0 : Int32))]) (fun _ k => k) ?_
    refine W.ifYes X103 hx (hc hby D23 17 rfl) (by decide) (by decide) (pc' := 45) rfl ?_
    refine W.lload X103 hx (hc hby D23 18 rfl) rfl ?_
    exact Win.retJ X103 hx hlk hret (hc hby D23 19 rfl) (by decide) (by decide) (by (try rw [e103]); exact ⟨rfl, N104, rfl⟩)
  · refine Win.to T103 (mkF m 27 #[.val (.long (4000000000 : Int64)), .second, .val (.long (2 : Int64)), .second, .val (.long (8000000000 : Int64)), .second, .val (.long (4000000000 : Int64)), .second, .val (.long (2 : Int64)), .second] [(.int (1 : Int32))]) (fun _ k => k) ?_
    refine W.ifNo X103 hx (hc hby D23 17 rfl) (by decide) ?_
    refine W.lloadN X103 hx (hc hby D23 20 rfl) rfl ?_
    refine W.lconst X103 hx (hc hby D23 21 rfl) (v := 0) rfl ?_
    refine W.lcmp X103 hx (hc hby D23 22 rfl) (v := (1 : Int32)) (by decide) ?_
    refine W.ifNo X103 hx (hc hby D23 23 rfl) (by decide) ?_
    refine W.lload X103 hx (hc hby D23 24 rfl) rfl ?_
    refine W.lloadN X103 hx (hc hby D23 25 rfl) rfl ?_
    refine W.ldiv X103 hx (hc hby D23 26 rfl) (by decide) (v := (4000000000 : Int64)) (by decide) ?_
    refine W.lloadN X103 hx (hc hby D23 27 rfl) rfl ?_
    refine W.lcmp X103 hx (hc hby D23 28 rfl) (v := (0 : Int32)) (by decide) ?_
    refine W.ifNo X103 hx (hc hby D23 29 rfl) (by decide) ?_
    refine W.lload X103 hx (hc hby D23 18 rfl) rfl ?_
    exact Win.retJ X103 hx hlk hret (hc hby D23 19 rfl) (by decide) (by decide) (by (try rw [e103]); exact ⟨rfl, N104, rfl⟩)
  · refine Win.to T103 (mkF m 27 #[.val (.long (8000000000 : Int64)), .second, .val (.long (2 : Int64)), .second, .val (.long (16000000000 : Int64)), .second, .val (.long (8000000000 : Int64)), .second, .val (.long (2 : Int64)), .second] [(.int (1 : Int32))]) (fun _ k => k) ?_
    refine W.ifNo X103 hx (hc hby D23 17 rfl) (by decide) ?_
    refine W.lloadN X103 hx (hc hby D23 20 rfl) rfl ?_
    refine W.lconst X103 hx (hc hby D23 21 rfl) (v := 0) rfl ?_
    refine W.lcmp X103 hx (hc hby D23 22 rfl) (v := (1 : Int32)) (by decide) ?_
    refine W.ifNo X103 hx (hc hby D23 23 rfl) (by decide) ?_
    refine W.lload X103 hx (hc hby D23 24 rfl) rfl ?_
    refine W.lloadN X103 hx (hc hby D23 25 rfl) rfl ?_
    refine W.ldiv X103 hx (hc hby D23 26 rfl) (by decide) (v := (8000000000 : Int64)) (by decide) ?_
    refine W.lloadN X103 hx (hc hby D23 27 rfl) rfl ?_
    refine W.lcmp X103 hx (hc hby D23 28 rfl) (v := (0 : Int32)) (by decide) ?_
    refine W.ifNo X103 hx (hc hby D23 29 rfl) (by decide) ?_
    refine W.lload X103 hx (hc hby D23 18 rfl) rfl ?_
    exact Win.retJ X103 hx hlk hret (hc hby D23 19 rfl) (by decide) (by decide) (by (try rw [e103]); exact ⟨rfl, N104, rfl⟩)
  · refine Win.to T103 (mkF m 27 #[.val (.long (16000000000 : Int64)), .second, .val (.long (2 : Int64)), .second, .val (.long (32000000000 : Int64)), .second, .val (.long (16000000000 : Int64)), .second, .val (.long (2 : Int64)), .second] [(.int (1 : Int32))]) (fun _ k => k) ?_
    refine W.ifNo X103 hx (hc hby D23 17 rfl) (by decide) ?_
    refine W.lloadN X103 hx (hc hby D23 20 rfl) rfl ?_
    refine W.lconst X103 hx (hc hby D23 21 rfl) (v := 0) rfl ?_
    refine W.lcmp X103 hx (hc hby D23 22 rfl) (v := (1 : Int32)) (by decide) ?_
    refine W.ifNo X103 hx (hc hby D23 23 rfl) (by decide) ?_
    refine W.lload X103 hx (hc hby D23 24 rfl) rfl ?_
    refine W.lloadN X103 hx (hc hby D23 25 rfl) rfl ?_
    refine W.ldiv X103 hx (hc hby D23 26 rfl) (by decide) (v := (16000000000 : Int64)) (by decide) ?_
    refine W.lloadN X103 hx (hc hby D23 27 rfl) rfl ?_
    refine W.lcmp X103 hx (hc hby D23 28 rfl) (v := (0 : Int32)) (by decide) ?_
    refine W.ifNo X103 hx (hc hby D23 29 rfl) (by decide) ?_
    refine W.lload X103 hx (hc hby D23 18 rfl) rfl ?_
    exact Win.retJ X103 hx hlk hret (hc hby D23 19 rfl) (by decide) (by decide) (by (try rw [e103]); exact ⟨rfl, N104, rfl⟩)
  · refine Win.to T103 (mkF m 27 #[.val (.long (30000000000 : Int64)), .second, .val (.long (2 : Int64)), .second, .val (.long (60000000000 : Int64)), .second, .val (.long (30000000000 : Int64)), .second, .val (.long (2 : Int64)), .second] [(.int (1 : Int32))]) (fun _ k => k) ?_
    refine W.ifNo X103 hx (hc hby D23 17 rfl) (by decide) ?_
    refine W.lloadN X103 hx (hc hby D23 20 rfl) rfl ?_
    refine W.lconst X103 hx (hc hby D23 21 rfl) (v := 0) rfl ?_
    refine W.lcmp X103 hx (hc hby D23 22 rfl) (v := (1 : Int32)) (by decide) ?_
    refine W.ifNo X103 hx (hc hby D23 23 rfl) (by decide) ?_
    refine W.lload X103 hx (hc hby D23 24 rfl) rfl ?_
    refine W.lloadN X103 hx (hc hby D23 25 rfl) rfl ?_
    refine W.ldiv X103 hx (hc hby D23 26 rfl) (by decide) (v := (30000000000 : Int64)) (by decide) ?_
    refine W.lloadN X103 hx (hc hby D23 27 rfl) rfl ?_
    refine W.lcmp X103 hx (hc hby D23 28 rfl) (v := (0 : Int32)) (by decide) ?_
    refine W.ifNo X103 hx (hc hby D23 29 rfl) (by decide) ?_
    refine W.lload X103 hx (hc hby D23 18 rfl) rfl ?_
    exact Win.retJ X103 hx hlk hret (hc hby D23 19 rfl) (by decide) (by decide) (by (try rw [e103]); exact ⟨rfl, N104, rfl⟩)
abbrev R_xBigDec_init4 : Room := ⟨2, 0, 0, 24⟩
theorem xBigDec_init4 (l : Launch) (Z : State) (a0 : Array Value) (hw : ∀ d ∈ tables_1, d.before a0 Z = true) (SS : Stat Z) (ix : Fin 6) (a1 : Addr) (h0 : Heap) (n0 : Nat) (O0 : Old Z n0 h0) (P0 : Exa Z h0 a1 "java/math/BigDecimal") (P1 : Fld Z h0 a1 "java/math/BigDecimal" "intCompact" "J" (.long (0 : Int64))) (P2 : Fld Z h0 a1 "java/math/BigDecimal" "intVal" "Ljava/math/BigInteger;" .null) (P3 : Fld Z h0 a1 "java/math/BigDecimal" "precision" "I" (.int (0 : Int32))) (P4 : Fld Z h0 a1 "java/math/BigDecimal" "scale" "I" (.int (0 : Int32))) (g_a1 : n0 ≤ a1) :
    MetN l Z (⟨"java/math/BigDecimal", "<init>", "(Ljava/math/BigInteger;JII)V"⟩ : MethodName) jdk_17_method_1_code 6 none R_xBigDec_init4 [] #[(.ref a1), .null, (.long (vJ ix [2000000000, 4000000000, 8000000000, 16000000000, 32000000000, 60000000000])), (.int (9 : Int32)), (.int (0 : Int32))] h0 (fun v h L => v = none ∧ Fr n0 L ∧ Keep h0 h [a1] ∧ Fld Z h a1 "java/math/BigDecimal" "intCompact" "J" (.long (vJ ix [2000000000, 4000000000, 8000000000, 16000000000, 32000000000, 60000000000])) ∧ Fld Z h a1 "java/math/BigDecimal" "intVal" "Ljava/math/BigInteger;" .null ∧ Fld Z h a1 "java/math/BigDecimal" "precision" "I" (.int (0 : Int32)) ∧ Fld Z h a1 "java/math/BigDecimal" "scale" "I" (.int (9 : Int32)) ∧ Exa Z h a1 "java/math/BigDecimal") := by
  refine MetN.walk (plainFor_of_name pn_18) ?_
  intro p e s m below meth c s₁ hx hZ hby hml hown hnm hret hlk X0 e0
  have N0 := Fr.nil n0
  refine Win.to s₁ (mkF m 0 #[.val (.ref a1), .val .null, .val (.long (vJ ix [2000000000, 4000000000, 8000000000, 16000000000, 32000000000, 60000000000])), .second, .val (.int (9 : Int32)), .val (.int (0 : Int32))] []) (fun _ k => castTop rfl k) ?_
  refine W.aloadN X0 hx (hc hby D18 0 rfl) rfl rfl ?_
  refine W.special X0 hx hZ rfl hown (wk hw 92 rfl) (wk hw 93 rfl) (wk hw 96 rfl) (wk hw 97 rfl) (by decide) (xNumber_init1 l Z a0 hw SS a1 h0 n0 O0 ) e0 (by rw [hml]; rfl) (a := a1) (argsL := []) (rest := []) rfl (lenOf pd___V rfl) rfl (W := 0) (Nat.le_of_eq rfl) (hc hby D18 1 rfl) (by decide) (by decide) (by decide) (by decide) (fun T101 h101 v101 L101 X101 e101 q101 => ?_)
  obtain ⟨rfl, N101q, r101_0⟩ := q101
  have N102 := Fr.app N0 N101q
  have e101 := e101.trans r101_0
  refine W.aloadN X101 hx (hc hby D18 2 rfl) rfl rfl ?_
  refine W.iload X101 hx (hc hby D18 3 rfl) rfl ?_
  refine W.putF X101 hx hZ hown (host := "") (Or.inl (wk hw 66 rfl)) Via.refl e101 P4 P0 (Or.inr ⟨(wk hw 67 rfl), rfl, hnm⟩) (wk hw 87 rfl) (ty := .int) (by decide) rfl rfl (hc hby D18 4 rfl) O0 g_a1 (Keep.refl h0 [a1]) (Or.inl (List.mem_of_getElem? (i := 0) rfl)) N102 (fun T103 h103 X103 e103 W103 O103 K103 N103 F103 => ?_)
  refine W.aloadN X103 hx (hc hby D18 5 rfl) rfl rfl ?_
  refine W.iload X103 hx (hc hby D18 6 rfl) rfl ?_
  have F104 := Exa.wr W103 P0
  have F105 := Fld.other W103 P3 (Or.inr (slot_ne (Or.inl (wk hw 100 rfl)) (Or.inr (wk hw 67 rfl)) (by decide) (t := .int) (t' := .int) (by decide) (by decide)))
  refine W.putF X103 hx hZ hown (host := "") (Or.inl (wk hw 99 rfl)) Via.refl e103 F105 F104 (Or.inl (wk hw 100 rfl)) (wk hw 87 rfl) (ty := .int) (by decide) rfl rfl (hc hby D18 7 rfl) O103 g_a1 K103 (Or.inl (List.mem_of_getElem? (i := 0) rfl)) N103 (fun T106 h106 X106 e106 W106 O106 K106 N106 F106 => ?_)
  refine W.aloadN X106 hx (hc hby D18 8 rfl) rfl rfl ?_
  refine W.lloadN X106 hx (hc hby D18 9 rfl) rfl ?_
  have F107 := Exa.wr W106 F104
  have F108 := Fld.other W106 (Fld.other W103 P1 (Or.inr (slot_ne (Or.inr (wk hw 64 rfl)) (Or.inr (wk hw 67 rfl)) (by decide) (t := .long) (t' := .int) (by decide) (by decide)))) (Or.inr (slot_ne (Or.inr (wk hw 64 rfl)) (Or.inl (wk hw 100 rfl)) (by decide) (t := .long) (t' := .int) (by decide) (by decide)))
  refine W.putF X106 hx hZ hown (host := "") (Or.inl (wk hw 63 rfl)) Via.refl e106 F108 F107 (Or.inr ⟨(wk hw 64 rfl), rfl, hnm⟩) (wk hw 87 rfl) (ty := .long) (by decide) rfl rfl (hc hby D18 10 rfl) O106 g_a1 K106 (Or.inl (List.mem_of_getElem? (i := 0) rfl)) N106 (fun T109 h109 X109 e109 W109 O109 K109 N109 F109 => ?_)
  refine W.aloadN X109 hx (hc hby D18 11 rfl) rfl rfl ?_
  refine W.aloadN X109 hx (hc hby D18 12 rfl) rfl rfl ?_
  have F110 := Exa.wr W109 F107
  have F111 := Fld.other W109 (Fld.other W106 (Fld.other W103 P2 (Or.inr (slot_ne (Or.inr (wk hw 102 rfl)) (Or.inr (wk hw 67 rfl)) (by decide) (t := (.object "java/math/BigInteger")) (t' := .int) (by decide) (by decide)))) (Or.inr (slot_ne (Or.inr (wk hw 102 rfl)) (Or.inl (wk hw 100 rfl)) (by decide) (t := (.object "java/math/BigInteger")) (t' := .int) (by decide) (by decide)))) (Or.inr (slot_ne (Or.inr (wk hw 102 rfl)) (Or.inr (wk hw 64 rfl)) (by decide) (t := (.object "java/math/BigInteger")) (t' := .long) (by decide) (by decide)))
  refine W.putF X109 hx hZ hown (host := "") (Or.inl (wk hw 101 rfl)) Via.refl e109 F111 F110 (Or.inr ⟨(wk hw 102 rfl), rfl, hnm⟩) (wk hw 87 rfl) (ty := (.object "java/math/BigInteger")) (by decide) rfl rfl (hc hby D18 13 rfl) O109 g_a1 K109 (Or.inl (List.mem_of_getElem? (i := 0) rfl)) N109 (fun T112 h112 X112 e112 W112 O112 K112 N112 F112 => ?_)
  have F113 := Fld.other W112 F109 (Or.inr (slot_ne (Or.inr (wk hw 64 rfl)) (Or.inr (wk hw 102 rfl)) (by decide) (t := .long) (t' := (.object "java/math/BigInteger")) (by decide) (by decide)))
  have F114 := Fld.other W112 (Fld.other W109 F106 (Or.inr (slot_ne (Or.inl (wk hw 100 rfl)) (Or.inr (wk hw 64 rfl)) (by decide) (t := .int) (t' := .long) (by decide) (by decide)))) (Or.inr (slot_ne (Or.inl (wk hw 100 rfl)) (Or.inr (wk hw 102 rfl)) (by decide) (t := .int) (t' := (.object "java/math/BigInteger")) (by decide) (by decide)))
  have F115 := Fld.other W112 (Fld.other W109 (Fld.other W106 F103 (Or.inr (slot_ne (Or.inr (wk hw 67 rfl)) (Or.inl (wk hw 100 rfl)) (by decide) (t := .int) (t' := .int) (by decide) (by decide)))) (Or.inr (slot_ne (Or.inr (wk hw 67 rfl)) (Or.inr (wk hw 64 rfl)) (by decide) (t := .int) (t' := .long) (by decide) (by decide)))) (Or.inr (slot_ne (Or.inr (wk hw 67 rfl)) (Or.inr (wk hw 102 rfl)) (by decide) (t := .int) (t' := (.object "java/math/BigInteger")) (by decide) (by decide)))
  have F116 := Exa.wr W112 F110
  exact Win.retV X112 hx hlk hret (hc hby D18 14 rfl) (by decide) (by decide) (by (try rw [e112]); exact ⟨rfl, N112, K112, F113, F112, F114, F115, F116⟩)
abbrev R_xBigDec_valueOf4 : Room := ⟨3, 1, 5, 42⟩
theorem xBigDec_valueOf4 (l : Launch) (Z : State) (a0 : Array Value) (hw : ∀ d ∈ tables_1, d.before a0 Z = true) (SS : Stat Z) (ix : Fin 6) (h0 : Heap) (n0 : Nat) (O0 : Old Z n0 h0)  :
    MetN l Z (⟨"java/math/BigDecimal", "valueOf", "(JI)Ljava/math/BigDecimal;"⟩ : MethodName) jdk_17_method_20_code 3 (some (.object "java/math/BigDecimal")) R_xBigDec_valueOf4 [] #[(.long (vJ ix [2000000000, 4000000000, 8000000000, 16000000000, 32000000000, 60000000000])), (.int (9 : Int32))] h0 (fun v h L => ∃ (r1 : Addr), v = some (.ref r1) ∧ Fr n0 L ∧ Keep h0 h [] ∧ h0.size ≤ r1 ∧ Fld Z h r1 "java/math/BigDecimal" "intCompact" "J" (.long (vJ ix [2000000000, 4000000000, 8000000000, 16000000000, 32000000000, 60000000000])) ∧ Fld Z h r1 "java/math/BigDecimal" "intVal" "Ljava/math/BigInteger;" .null ∧ Fld Z h r1 "java/math/BigDecimal" "precision" "I" (.int (0 : Int32)) ∧ Fld Z h r1 "java/math/BigDecimal" "scale" "I" (.int (9 : Int32)) ∧ Exa Z h r1 "java/math/BigDecimal") := by
  refine MetN.walk (plainFor_of_name pn_10) ?_
  intro p e s m below meth c s₁ hx hZ hby hml hown hnm hret hlk X0 e0
  have N0 := Fr.nil n0
  refine Win.to s₁ (mkF m 0 #[.val (.long (vJ ix [2000000000, 4000000000, 8000000000, 16000000000, 32000000000, 60000000000])), .second, .val (.int (9 : Int32))] []) (fun _ k => castTop rfl k) ?_
  refine W.iloadN X0 hx (hc hby D10 0 rfl) rfl ?_
  refine W.ifYes X0 hx (hc hby D10 1 rfl) (by decide) (by decide) (pc' := 9) rfl ?_
  refine W.lloadN X0 hx (hc hby D10 2 rfl) rfl ?_
  refine W.lconst X0 hx (hc hby D10 3 rfl) (v := 0) rfl ?_
  refine W.lcmp X0 hx (hc hby D10 4 rfl) (v := (1 : Int32)) ((show ∀ ix : Fin 6, lcmpW (vJ ix [2000000000, 4000000000, 8000000000, 16000000000, 32000000000, 60000000000]) (0 : Int64) = (1 : Int32) from by decide +kernel) ix) ?_
  refine W.ifYes X0 hx (hc hby D10 5 rfl) (by decide) (by decide) (pc' := 20) rfl ?_
  obtain ⟨T101, h101, X101, e101, E101, A101, D101, -, st101⟩ := newO X0 hx hZ hown (wk hw 86 rfl) (wk hw 87 rfl) (wk hw 46 rfl) e0 (g := (mkF m 20 #[.val (.long (vJ ix [2000000000, 4000000000, 8000000000, 16000000000, 32000000000, 60000000000])), .second, .val (.int (9 : Int32))] [])) rfl (hc hby D10 9 rfl) (by decide) (by decide)
  obtain ⟨b101, g101⟩ : ∃ z, z = h0.size := ⟨_, rfl⟩
  rw [← g101] at A101 D101 st101
  have g102 : n0 ≤ b101 := Nat.le_trans (own_le O0) (Nat.le_of_eq g101.symm)
  have z103 : h0.size ≤ b101 := (Nat.le_of_eq g101.symm)
  have O104 := Old.ext O0 E101
  have K105 : Keep h0 h101 [] := (Keep.refl h0 []).ext E101
  have F106 : Fld Z h101 b101 "java/math/BigDecimal" "intCompact" "J" (.long (0 : Int64)) := D101 (Or.inr (wk hw 64 rfl)) (ty := .long) (by decide)
  have F107 : Fld Z h101 b101 "java/math/BigDecimal" "scale" "I" (.int (0 : Int32)) := D101 (Or.inr (wk hw 67 rfl)) (ty := .int) (by decide)
  have F108 : Fld Z h101 b101 "java/math/BigDecimal" "precision" "I" (.int (0 : Int32)) := D101 (Or.inl (wk hw 100 rfl)) (ty := .int) (by decide)
  have F109 : Fld Z h101 b101 "java/math/BigDecimal" "intVal" "Ljava/math/BigInteger;" .null := D101 (Or.inr (wk hw 102 rfl)) (ty := (.object "java/math/BigInteger")) (by decide)
  refine Win.to T101 (mkF m 23 #[.val (.long (vJ ix [2000000000, 4000000000, 8000000000, 16000000000, 32000000000, 60000000000])), .second, .val (.int (9 : Int32))] [(.ref b101)]) (fun _ k => st101 _ k) ?_
  refine W.dup X101 hx (hc hby D10 10 rfl) rfl ?_
  refine W.lloadN X101 hx (hc hby D10 11 rfl) rfl ?_
  refine W.ldc2 X101 hx (hc hby D10 12 rfl) hown (mvT hZ (wk hw 65 rfl)) ?_
  refine W.lcmp X101 hx (hc hby D10 13 rfl) (v := (1 : Int32)) ((show ∀ ix : Fin 6, lcmpW (vJ ix [2000000000, 4000000000, 8000000000, 16000000000, 32000000000, 60000000000]) (-9223372036854775808 : Int64) = (1 : Int32) from by decide +kernel) ix) ?_
  refine W.ifYes X101 hx (hc hby D10 14 rfl) (by decide) (by decide) (pc' := 38) rfl ?_
  refine W.aconstNull X101 hx (hc hby D10 15 rfl) ?_
  refine W.lloadN X101 hx (hc hby D10 16 rfl) rfl ?_
  refine W.iloadN X101 hx (hc hby D10 17 rfl) rfl ?_
  refine W.iconst X101 hx (hc hby D10 18 rfl) (v := 0) rfl ?_
  refine W.special X101 hx hZ rfl hown (wk hw 88 rfl) (wk hw 89 rfl) (wk hw 46 rfl) (wk hw 91 rfl) (by decide) (xBigDec_init4 l Z a0 hw SS ix b101 h101 n0 O104 A101 F106 F109 F108 F107 g102) e101 (by rw [hml]; rfl) (a := b101) (argsL := [.null, (.long (vJ ix [2000000000, 4000000000, 8000000000, 16000000000, 32000000000, 60000000000])), (.int (9 : Int32)), (.int (0 : Int32))]) (rest := [(.ref b101)]) rfl (lenOf pd__Ljava_math_BigInteger_JII_V rfl) rfl (W := 1) (Nat.le_of_eq rfl) (hc hby D10 19 rfl) (by decide) (by decide) (by decide) (by decide) (fun T110 h110 v110 L110 X110 e110 q110 => ?_)
  obtain ⟨rfl, N110q, r110_0, r110_1, r110_2, r110_3, r110_4, r110_5⟩ := q110
  have N111 := Fr.app N0 N110q
  have O112 := Old.keep O104 r110_0 (allS g102 all0)
  have K113 : Keep h0 h110 [] := Keep.trans K105 r110_0 (allS (Or.inr z103) all0)
  exact Win.retA X110 hx hlk hret rfl rfl (hc hby D10 20 rfl) (by decide) (by decide) (by (try rw [e110]); exact ⟨b101, rfl, N111, K113, z103, r110_1, r110_2, r110_3, r110_4, r110_5⟩)
abbrev R_xBigDec_multiply2 : Room := ⟨4, 1, 5, 56⟩
theorem xBigDec_multiply2 (l : Launch) (Z : State) (a0 : Array Value) (hw : ∀ d ∈ tables_1, d.before a0 Z = true) (SS : Stat Z) (ix : Fin 6) (h0 : Heap) (n0 : Nat) (O0 : Old Z n0 h0)  :
    MetN l Z (⟨"java/math/BigDecimal", "multiply", "(JJI)Ljava/math/BigDecimal;"⟩ : MethodName) jdk_17_method_157_code 7 (some (.object "java/math/BigDecimal")) R_xBigDec_multiply2 [] #[(.long (vJ ix [1000000000, 2000000000, 4000000000, 8000000000, 16000000000, 30000000000])), (.long (2 : Int64)), (.int (9 : Int32))] h0 (fun v h L => ∃ (r1 : Addr), v = some (.ref r1) ∧ Fr n0 L ∧ Keep h0 h [] ∧ h0.size ≤ r1 ∧ Fld Z h r1 "java/math/BigDecimal" "intCompact" "J" (.long (vJ ix [2000000000, 4000000000, 8000000000, 16000000000, 32000000000, 60000000000])) ∧ Fld Z h r1 "java/math/BigDecimal" "intVal" "Ljava/math/BigInteger;" .null ∧ Fld Z h r1 "java/math/BigDecimal" "precision" "I" (.int (0 : Int32)) ∧ Fld Z h r1 "java/math/BigDecimal" "scale" "I" (.int (9 : Int32)) ∧ Exa Z h r1 "java/math/BigDecimal") := by
  refine MetN.walk (plainFor_of_name pn_22) ?_
  intro p e s m below meth c s₁ hx hZ hby hml hown hnm hret hlk X0 e0
  have N0 := Fr.nil n0
  refine Win.to s₁ (mkF m 0 #[.val (.long (vJ ix [1000000000, 2000000000, 4000000000, 8000000000, 16000000000, 30000000000])), .second, .val (.long (2 : Int64)), .second, .val (.int (9 : Int32)), .unset, .unset] []) (fun _ k => castTop rfl k) ?_
  refine W.lloadN X0 hx (hc hby D22 0 rfl) rfl ?_
  refine W.lloadN X0 hx (hc hby D22 1 rfl) rfl ?_
  refine W.static X0 hx hZ hown (wk hw 116 rfl) (wk hw 117 rfl) (wk hw 46 rfl) (wk hw 118 rfl) (by decide) (xBigDec_multiply3 l Z a0 hw SS ix h0 n0 O0 ) e0 (by rw [hml]; rfl) (argsL := [(.long (vJ ix [1000000000, 2000000000, 4000000000, 8000000000, 16000000000, 30000000000])), (.long (2 : Int64))]) (rest := []) rfl (lenOf pd__JJ_J rfl) rfl (W := 0) (Nat.le_of_eq rfl) (hc hby D22 2 rfl) (by decide) (by decide) (by decide) (by decide) (fun T101 h101 v101 L101 X101 e101 q101 => ?_)
  obtain ⟨rfl, N101q, r101_0⟩ := q101
  have N102 := Fr.app N0 N101q
  have e101 := e101.trans r101_0
  refine W.lstore X101 hx (hc hby D22 3 rfl) (l' := #[.val (.long (vJ ix [1000000000, 2000000000, 4000000000, 8000000000, 16000000000, 30000000000])), .second, .val (.long (2 : Int64)), .second, .val (.int (9 : Int32)), .val (.long (vJ ix [2000000000, 4000000000, 8000000000, 16000000000, 32000000000, 60000000000])), .second]) rfl ?_
  refine W.lload X101 hx (hc hby D22 4 rfl) rfl ?_
  refine W.ldc2 X101 hx (hc hby D22 5 rfl) hown (mvT hZ (wk hw 65 rfl)) ?_
  refine W.lcmp X101 hx (hc hby D22 6 rfl) (v := (1 : Int32)) ((show ∀ ix : Fin 6, lcmpW (vJ ix [2000000000, 4000000000, 8000000000, 16000000000, 32000000000, 60000000000]) (-9223372036854775808 : Int64) = (1 : Int32) from by decide +kernel) ix) ?_
  refine W.ifNo X101 hx (hc hby D22 7 rfl) (by decide) ?_
  refine W.lload X101 hx (hc hby D22 8 rfl) rfl ?_
  refine W.iload X101 hx (hc hby D22 9 rfl) rfl ?_
  refine W.static X101 hx hZ hown (wk hw 85 rfl) (wk hw 52 rfl) (wk hw 46 rfl) (wk hw 53 rfl) (by decide) (xBigDec_valueOf4 l Z a0 hw SS ix h0 n0 O0 ) e101 (by rw [hml]; rfl) (argsL := [(.long (vJ ix [2000000000, 4000000000, 8000000000, 16000000000, 32000000000, 60000000000])), (.int (9 : Int32))]) (rest := []) rfl (lenOf pd__JI_Ljava_math_BigDecimal_ rfl) rfl (W := 0) (Nat.le_of_eq rfl) (hc hby D22 10 rfl) (by decide) (by decide) (by decide) (by decide) (fun T103 h103 v103 L103 X103 e103 q103 => ?_)
  obtain ⟨r1_103, rfl, N103q, r103_0, r103_1, r103_2, r103_3, r103_4, r103_5, r103_6⟩ := q103
  have N104 := Fr.app N102 N103q
  have g105 : n0 ≤ r1_103 := Nat.le_trans (own_le O0) r103_1
  have z106 : h0.size ≤ r1_103 := r103_1
  have O107 := Old.keep O0 r103_0 all0
  have K108 : Keep h0 h103 [] := Keep.trans (Keep.refl h0 []) r103_0 all0
  exact Win.retA X103 hx hlk hret rfl rfl (hc hby D22 11 rfl) (by decide) (by decide) (by (try rw [e103]); exact ⟨r1_103, rfl, N104, K108, z106, r103_2, r103_3, r103_4, r103_5, r103_6⟩)
abbrev R_xBigDec_multiply1 : Room := ⟨5, 1, 5, 74⟩
theorem xBigDec_multiply1 (l : Launch) (Z : State) (a0 : Array Value) (hw : ∀ d ∈ tables_1, d.before a0 Z = true) (SS : Stat Z) (ix : Fin 6) (a1 : Addr) (a2 : Addr) (h0 : Heap) (n0 : Nat) (O0 : Old Z n0 h0) (P0 : Exa Z h0 a1 "java/math/BigDecimal") (P1 : Fld Z h0 a1 "java/math/BigDecimal" "intCompact" "J" (.long (vJ ix [1000000000, 2000000000, 4000000000, 8000000000, 16000000000, 30000000000]))) (P2 : Fld Z h0 a1 "java/math/BigDecimal" "scale" "I" (.int (9 : Int32))) (P3 : Fld Z h0 a2 "java/math/BigDecimal" "intCompact" "J" (.long (2 : Int64))) (P4 : Fld Z h0 a2 "java/math/BigDecimal" "scale" "I" (.int (0 : Int32))) :
    MetN l Z (⟨"java/math/BigDecimal", "multiply", "(Ljava/math/BigDecimal;)Ljava/math/BigDecimal;"⟩ : MethodName) jdk_17_method_31_code 3 (some (.object "java/math/BigDecimal")) R_xBigDec_multiply1 [] #[(.ref a1), (.ref a2)] h0 (fun v h L => ∃ (r1 : Addr), v = some (.ref r1) ∧ Fr n0 L ∧ Keep h0 h [] ∧ h0.size ≤ r1 ∧ Fld Z h r1 "java/math/BigDecimal" "intCompact" "J" (.long (vJ ix [2000000000, 4000000000, 8000000000, 16000000000, 32000000000, 60000000000])) ∧ Fld Z h r1 "java/math/BigDecimal" "intVal" "Ljava/math/BigInteger;" .null ∧ Fld Z h r1 "java/math/BigDecimal" "precision" "I" (.int (0 : Int32)) ∧ Fld Z h r1 "java/math/BigDecimal" "scale" "I" (.int (9 : Int32)) ∧ Exa Z h r1 "java/math/BigDecimal") := by
  refine MetN.walk (plainFor_of_name pn_20) ?_
  intro p e s m below meth c s₁ hx hZ hby hml hown hnm hret hlk X0 e0
  have N0 := Fr.nil n0
  refine Win.to s₁ (mkF m 0 #[.val (.ref a1), .val (.ref a2), .unset] []) (fun _ k => castTop rfl k) ?_
  refine W.aloadN X0 hx (hc hby D20 0 rfl) rfl rfl ?_
  refine W.aloadN X0 hx (hc hby D20 1 rfl) rfl rfl ?_
  refine W.getF X0 hx hZ hown (host := "") (Or.inl (wk hw 66 rfl)) Via.refl e0 P2 (hc hby D20 2 rfl) (fun T101 X101 e101 => ?_)
  refine W.i2l X101 hx (hc hby D20 3 rfl) (v := (9 : Int64)) (by decide) ?_
  refine W.aloadN X101 hx (hc hby D20 4 rfl) rfl rfl ?_
  refine W.getF X101 hx hZ hown (host := "") (Or.inl (wk hw 66 rfl)) Via.refl e101 P4 (hc hby D20 5 rfl) (fun T102 X102 e102 => ?_)
  refine W.i2l X102 hx (hc hby D20 6 rfl) (v := (0 : Int64)) (by decide) ?_
  refine W.ladd X102 hx (hc hby D20 7 rfl) (v := (9 : Int64)) (by decide) ?_
  refine W.private X102 hx hZ hown (wk hw 108 rfl) (wk hw 109 rfl) (wk hw 111 rfl) (wk hw 110 rfl) (wk hw 46 rfl) (wk hw 112 rfl) (by decide) (xBigDec_checkScale2 l Z a0 hw SS ix a1 h0 n0 O0 ) e102 P0 (by rw [hml]; rfl) (argsL := [(.long (9 : Int64))]) (rest := []) rfl (lenOf pd__J_I rfl) rfl (W := 0) (Nat.le_of_eq rfl) (hc hby D20 8 rfl) (by decide) (by decide) (by decide) (by decide) (fun T103 h103 v103 L103 X103 e103 q103 => ?_)
  obtain ⟨rfl, N103q, r103_0⟩ := q103
  have N104 := Fr.app N0 N103q
  have e103 := e103.trans r103_0
  refine W.istoreN X103 hx (hc hby D20 9 rfl) (l' := #[.val (.ref a1), .val (.ref a2), .val (.int (9 : Int32))]) rfl ?_
  refine W.aloadN X103 hx (hc hby D20 10 rfl) rfl rfl ?_
  refine W.getF X103 hx hZ hown (host := "") (Or.inl (wk hw 63 rfl)) Via.refl e103 P1 (hc hby D20 11 rfl) (fun T105 X105 e105 => ?_)
  refine W.ldc2 X105 hx (hc hby D20 12 rfl) hown (mvT hZ (wk hw 65 rfl)) ?_
  refine W.lcmp X105 hx (hc hby D20 13 rfl) (v := (1 : Int32)) ((show ∀ ix : Fin 6, lcmpW (vJ ix [1000000000, 2000000000, 4000000000, 8000000000, 16000000000, 30000000000]) (-9223372036854775808 : Int64) = (1 : Int32) from by decide +kernel) ix) ?_
  refine W.ifNo X105 hx (hc hby D20 14 rfl) (by decide) ?_
  refine W.aloadN X105 hx (hc hby D20 15 rfl) rfl rfl ?_
  refine W.getF X105 hx hZ hown (host := "") (Or.inl (wk hw 63 rfl)) Via.refl e105 P3 (hc hby D20 16 rfl) (fun T106 X106 e106 => ?_)
  refine W.ldc2 X106 hx (hc hby D20 17 rfl) hown (mvT hZ (wk hw 65 rfl)) ?_
  refine W.lcmp X106 hx (hc hby D20 18 rfl) (v := (1 : Int32)) (by decide) ?_
  refine W.ifNo X106 hx (hc hby D20 19 rfl) (by decide) ?_
  refine W.aloadN X106 hx (hc hby D20 20 rfl) rfl rfl ?_
  refine W.getF X106 hx hZ hown (host := "") (Or.inl (wk hw 63 rfl)) Via.refl e106 P1 (hc hby D20 21 rfl) (fun T107 X107 e107 => ?_)
  refine W.aloadN X107 hx (hc hby D20 22 rfl) rfl rfl ?_
  refine W.getF X107 hx hZ hown (host := "") (Or.inl (wk hw 63 rfl)) Via.refl e107 P3 (hc hby D20 23 rfl) (fun T108 X108 e108 => ?_)
  refine W.iloadN X108 hx (hc hby D20 24 rfl) rfl ?_
  refine W.static X108 hx hZ hown (wk hw 113 rfl) (wk hw 114 rfl) (wk hw 46 rfl) (wk hw 115 rfl) (by decide) (xBigDec_multiply2 l Z a0 hw SS ix h0 n0 O0 ) e108 (by rw [hml]; rfl) (argsL := [(.long (vJ ix [1000000000, 2000000000, 4000000000, 8000000000, 16000000000, 30000000000])), (.long (2 : Int64)), (.int (9 : Int32))]) (rest := []) rfl (lenOf pd__JJI_Ljava_math_BigDecimal_ rfl) rfl (W := 0) (Nat.le_of_eq rfl) (hc hby D20 25 rfl) (by decide) (by decide) (by decide) (by decide) (fun T109 h109 v109 L109 X109 e109 q109 => ?_)
  obtain ⟨r1_109, rfl, N109q, r109_0, r109_1, r109_2, r109_3, r109_4, r109_5, r109_6⟩ := q109
  have N110 := Fr.app N104 N109q
  have g111 : n0 ≤ r1_109 := Nat.le_trans (own_le O0) r109_1
  have z112 : h0.size ≤ r1_109 := r109_1
  have O113 := Old.keep O0 r109_0 all0
  have K114 : Keep h0 h109 [] := Keep.trans (Keep.refl h0 []) r109_0 all0
  exact Win.retA X109 hx hlk hret rfl rfl (hc hby D20 26 rfl) (by decide) (by decide) (by (try rw [e109]); exact ⟨r1_109, rfl, N110, K114, z112, r109_2, r109_3, r109_4, r109_5, r109_6⟩)
abbrev R_xBigDec_checkScale3 : Room := ⟨0, 0, 0, 0⟩
theorem xBigDec_checkScale3 (l : Launch) (Z : State) (a0 : Array Value) (hw : ∀ d ∈ tables_1, d.before a0 Z = true) (SS : Stat Z) (ix : Fin 6) (a1 : Addr) (h0 : Heap) (n0 : Nat) (O0 : Old Z n0 h0) (hcl : ix.val < 2) :
    MetN l Z (⟨"java/math/BigDecimal", "checkScale", "(J)I"⟩ : MethodName) jdk_17_method_106_code 5 (some .int) R_xBigDec_checkScale3 [] #[(.ref a1), (.long (0 : Int64))] h0 (fun v h L => v = some (.int (0 : Int32)) ∧ Fr n0 L ∧ h = h0) := by
  refine MetN.walk (plainFor_of_name pn_21) ?_
  intro p e s m below meth c s₁ hx hZ hby hml hown hnm hret hlk X0 e0
  have N0 := Fr.nil n0
  refine Win.to s₁ (mkF m 0 #[.val (.ref a1), .val (.long (0 : Int64)), .second, .unset, .unset] []) (fun _ k => castTop rfl k) ?_
  refine W.lloadN X0 hx (hc hby D21 0 rfl) rfl ?_
  refine W.l2i X0 hx (hc hby D21 1 rfl) (v := (0 : Int32)) (by decide) ?_
  refine W.istoreN X0 hx (hc hby D21 2 rfl) (l' := #[.val (.ref a1), .val (.long (0 : Int64)), .second, .val (.int (0 : Int32)), .unset]) rfl ?_
  refine W.iloadN X0 hx (hc hby D21 3 rfl) rfl ?_
  refine W.i2l X0 hx (hc hby D21 4 rfl) (v := (0 : Int64)) (by decide) ?_
  refine W.lloadN X0 hx (hc hby D21 5 rfl) rfl ?_
  refine W.lcmp X0 hx (hc hby D21 6 rfl) (v := (0 : Int32)) (by decide) ?_
  refine W.ifYes X0 hx (hc hby D21 7 rfl) (by decide) (by decide) (pc' := 76) rfl ?_
  refine W.iloadN X0 hx (hc hby D21 8 rfl) rfl ?_
  exact Win.retI X0 hx hlk hret (hc hby D21 9 rfl) (by decide) (by decide) (by (try rw [e0]); exact ⟨rfl, N0, rfl⟩)
abbrev R_xBigDec_init5 : Room := ⟨2, 0, 0, 24⟩
theorem xBigDec_init5 (l : Launch) (Z : State) (a0 : Array Value) (hw : ∀ d ∈ tables_1, d.before a0 Z = true) (SS : Stat Z) (ix : Fin 6) (a1 : Addr) (h0 : Heap) (n0 : Nat) (O0 : Old Z n0 h0) (P0 : Exa Z h0 a1 "java/math/BigDecimal") (P1 : Fld Z h0 a1 "java/math/BigDecimal" "intCompact" "J" (.long (0 : Int64))) (P2 : Fld Z h0 a1 "java/math/BigDecimal" "intVal" "Ljava/math/BigInteger;" .null) (P3 : Fld Z h0 a1 "java/math/BigDecimal" "precision" "I" (.int (0 : Int32))) (P4 : Fld Z h0 a1 "java/math/BigDecimal" "scale" "I" (.int (0 : Int32))) (hcl : ix.val < 2) (g_a1 : n0 ≤ a1) :
    MetN l Z (⟨"java/math/BigDecimal", "<init>", "(Ljava/math/BigInteger;JII)V"⟩ : MethodName) jdk_17_method_1_code 6 none R_xBigDec_init5 [] #[(.ref a1), .null, (.long (vJ ix [2000000000, 4000000000, 8000000000, 16000000000, 32000000000, 60000000000])), (.int (0 : Int32)), (.int (0 : Int32))] h0 (fun v h L => v = none ∧ Fr n0 L ∧ Keep h0 h [a1] ∧ Fld Z h a1 "java/math/BigDecimal" "intCompact" "J" (.long (vJ ix [2000000000, 4000000000, 8000000000, 16000000000, 32000000000, 60000000000])) ∧ Fld Z h a1 "java/math/BigDecimal" "intVal" "Ljava/math/BigInteger;" .null ∧ Fld Z h a1 "java/math/BigDecimal" "precision" "I" (.int (0 : Int32)) ∧ Fld Z h a1 "java/math/BigDecimal" "scale" "I" (.int (0 : Int32)) ∧ Exa Z h a1 "java/math/BigDecimal") := by
  refine MetN.walk (plainFor_of_name pn_18) ?_
  intro p e s m below meth c s₁ hx hZ hby hml hown hnm hret hlk X0 e0
  have N0 := Fr.nil n0
  refine Win.to s₁ (mkF m 0 #[.val (.ref a1), .val .null, .val (.long (vJ ix [2000000000, 4000000000, 8000000000, 16000000000, 32000000000, 60000000000])), .second, .val (.int (0 : Int32)), .val (.int (0 : Int32))] []) (fun _ k => castTop rfl k) ?_
  refine W.aloadN X0 hx (hc hby D18 0 rfl) rfl rfl ?_
  refine W.special X0 hx hZ rfl hown (wk hw 92 rfl) (wk hw 93 rfl) (wk hw 96 rfl) (wk hw 97 rfl) (by decide) (xNumber_init1 l Z a0 hw SS a1 h0 n0 O0 ) e0 (by rw [hml]; rfl) (a := a1) (argsL := []) (rest := []) rfl (lenOf pd___V rfl) rfl (W := 0) (Nat.le_of_eq rfl) (hc hby D18 1 rfl) (by decide) (by decide) (by decide) (by decide) (fun T101 h101 v101 L101 X101 e101 q101 => ?_)
  obtain ⟨rfl, N101q, r101_0⟩ := q101
  have N102 := Fr.app N0 N101q
  have e101 := e101.trans r101_0
  refine W.aloadN X101 hx (hc hby D18 2 rfl) rfl rfl ?_
  refine W.iload X101 hx (hc hby D18 3 rfl) rfl ?_
  refine W.putF X101 hx hZ hown (host := "") (Or.inl (wk hw 66 rfl)) Via.refl e101 P4 P0 (Or.inr ⟨(wk hw 67 rfl), rfl, hnm⟩) (wk hw 87 rfl) (ty := .int) (by decide) rfl rfl (hc hby D18 4 rfl) O0 g_a1 (Keep.refl h0 [a1]) (Or.inl (List.mem_of_getElem? (i := 0) rfl)) N102 (fun T103 h103 X103 e103 W103 O103 K103 N103 F103 => ?_)
  refine W.aloadN X103 hx (hc hby D18 5 rfl) rfl rfl ?_
  refine W.iload X103 hx (hc hby D18 6 rfl) rfl ?_
  have F104 := Exa.wr W103 P0
  have F105 := Fld.other W103 P3 (Or.inr (slot_ne (Or.inl (wk hw 100 rfl)) (Or.inr (wk hw 67 rfl)) (by decide) (t := .int) (t' := .int) (by decide) (by decide)))
  refine W.putF X103 hx hZ hown (host := "") (Or.inl (wk hw 99 rfl)) Via.refl e103 F105 F104 (Or.inl (wk hw 100 rfl)) (wk hw 87 rfl) (ty := .int) (by decide) rfl rfl (hc hby D18 7 rfl) O103 g_a1 K103 (Or.inl (List.mem_of_getElem? (i := 0) rfl)) N103 (fun T106 h106 X106 e106 W106 O106 K106 N106 F106 => ?_)
  refine W.aloadN X106 hx (hc hby D18 8 rfl) rfl rfl ?_
  refine W.lloadN X106 hx (hc hby D18 9 rfl) rfl ?_
  have F107 := Exa.wr W106 F104
  have F108 := Fld.other W106 (Fld.other W103 P1 (Or.inr (slot_ne (Or.inr (wk hw 64 rfl)) (Or.inr (wk hw 67 rfl)) (by decide) (t := .long) (t' := .int) (by decide) (by decide)))) (Or.inr (slot_ne (Or.inr (wk hw 64 rfl)) (Or.inl (wk hw 100 rfl)) (by decide) (t := .long) (t' := .int) (by decide) (by decide)))
  refine W.putF X106 hx hZ hown (host := "") (Or.inl (wk hw 63 rfl)) Via.refl e106 F108 F107 (Or.inr ⟨(wk hw 64 rfl), rfl, hnm⟩) (wk hw 87 rfl) (ty := .long) (by decide) rfl rfl (hc hby D18 10 rfl) O106 g_a1 K106 (Or.inl (List.mem_of_getElem? (i := 0) rfl)) N106 (fun T109 h109 X109 e109 W109 O109 K109 N109 F109 => ?_)
  refine W.aloadN X109 hx (hc hby D18 11 rfl) rfl rfl ?_
  refine W.aloadN X109 hx (hc hby D18 12 rfl) rfl rfl ?_
  have F110 := Exa.wr W109 F107
  have F111 := Fld.other W109 (Fld.other W106 (Fld.other W103 P2 (Or.inr (slot_ne (Or.inr (wk hw 102 rfl)) (Or.inr (wk hw 67 rfl)) (by decide) (t := (.object "java/math/BigInteger")) (t' := .int) (by decide) (by decide)))) (Or.inr (slot_ne (Or.inr (wk hw 102 rfl)) (Or.inl (wk hw 100 rfl)) (by decide) (t := (.object "java/math/BigInteger")) (t' := .int) (by decide) (by decide)))) (Or.inr (slot_ne (Or.inr (wk hw 102 rfl)) (Or.inr (wk hw 64 rfl)) (by decide) (t := (.object "java/math/BigInteger")) (t' := .long) (by decide) (by decide)))
  refine W.putF X109 hx hZ hown (host := "") (Or.inl (wk hw 101 rfl)) Via.refl e109 F111 F110 (Or.inr ⟨(wk hw 102 rfl), rfl, hnm⟩) (wk hw 87 rfl) (ty := (.object "java/math/BigInteger")) (by decide) rfl rfl (hc hby D18 13 rfl) O109 g_a1 K109 (Or.inl (List.mem_of_getElem? (i := 0) rfl)) N109 (fun T112 h112 X112 e112 W112 O112 K112 N112 F112 => ?_)
  have F113 := Fld.other W112 F109 (Or.inr (slot_ne (Or.inr (wk hw 64 rfl)) (Or.inr (wk hw 102 rfl)) (by decide) (t := .long) (t' := (.object "java/math/BigInteger")) (by decide) (by decide)))
  have F114 := Fld.other W112 (Fld.other W109 F106 (Or.inr (slot_ne (Or.inl (wk hw 100 rfl)) (Or.inr (wk hw 64 rfl)) (by decide) (t := .int) (t' := .long) (by decide) (by decide)))) (Or.inr (slot_ne (Or.inl (wk hw 100 rfl)) (Or.inr (wk hw 102 rfl)) (by decide) (t := .int) (t' := (.object "java/math/BigInteger")) (by decide) (by decide)))
  have F115 := Fld.other W112 (Fld.other W109 (Fld.other W106 F103 (Or.inr (slot_ne (Or.inr (wk hw 67 rfl)) (Or.inl (wk hw 100 rfl)) (by decide) (t := .int) (t' := .int) (by decide) (by decide)))) (Or.inr (slot_ne (Or.inr (wk hw 67 rfl)) (Or.inr (wk hw 64 rfl)) (by decide) (t := .int) (t' := .long) (by decide) (by decide)))) (Or.inr (slot_ne (Or.inr (wk hw 67 rfl)) (Or.inr (wk hw 102 rfl)) (by decide) (t := .int) (t' := (.object "java/math/BigInteger")) (by decide) (by decide)))
  have F116 := Exa.wr W112 F110
  exact Win.retV X112 hx hlk hret (hc hby D18 14 rfl) (by decide) (by decide) (by (try rw [e112]); exact ⟨rfl, N112, K112, F113, F112, F114, F115, F116⟩)
abbrev R_xBigDec_movePointRight1 : Room := ⟨3, 1, 5, 42⟩
theorem xBigDec_movePointRight1 (l : Launch) (Z : State) (a0 : Array Value) (hw : ∀ d ∈ tables_1, d.before a0 Z = true) (SS : Stat Z) (ix : Fin 6) (a1 : Addr) (h0 : Heap) (n0 : Nat) (O0 : Old Z n0 h0) (P0 : Exa Z h0 a1 "java/math/BigDecimal") (P1 : Fld Z h0 a1 "java/math/BigDecimal" "intCompact" "J" (.long (vJ ix [2000000000, 4000000000, 8000000000, 16000000000, 32000000000, 60000000000]))) (P2 : Fld Z h0 a1 "java/math/BigDecimal" "intVal" "Ljava/math/BigInteger;" .null) (P3 : Fld Z h0 a1 "java/math/BigDecimal" "scale" "I" (.int (9 : Int32))) (hcl : ix.val < 2) :
    MetN l Z (⟨"java/math/BigDecimal", "movePointRight", "(I)Ljava/math/BigDecimal;"⟩ : MethodName) jdk_17_method_67_code 4 (some (.object "java/math/BigDecimal")) R_xBigDec_movePointRight1 [] #[(.ref a1), (.int (9 : Int32))] h0 (fun v h L => ∃ (r1 : Addr), v = some (.ref r1) ∧ Fr n0 L ∧ Keep h0 h [] ∧ h0.size ≤ r1 ∧ Fld Z h r1 "java/math/BigDecimal" "intCompact" "J" (.long (vJ ix [2000000000, 4000000000, 8000000000, 16000000000, 32000000000, 60000000000])) ∧ Fld Z h r1 "java/math/BigDecimal" "intVal" "Ljava/math/BigInteger;" .null ∧ Fld Z h r1 "java/math/BigDecimal" "precision" "I" (.int (0 : Int32)) ∧ Fld Z h r1 "java/math/BigDecimal" "scale" "I" (.int (0 : Int32)) ∧ Exa Z h r1 "java/math/BigDecimal") := by
  refine MetN.walk (plainFor_of_name pn_26) ?_
  intro p e s m below meth c s₁ hx hZ hby hml hown hnm hret hlk X0 e0
  have N0 := Fr.nil n0
  refine Win.to s₁ (mkF m 0 #[.val (.ref a1), .val (.int (9 : Int32)), .unset, .unset] []) (fun _ k => castTop rfl k) ?_
  refine W.iloadN X0 hx (hc hby D26 0 rfl) rfl ?_
  refine W.ifYes X0 hx (hc hby D26 1 rfl) (by decide) (by decide) (pc' := 13) rfl ?_
  refine W.aloadN X0 hx (hc hby D26 2 rfl) rfl rfl ?_
  refine W.aloadN X0 hx (hc hby D26 3 rfl) rfl rfl ?_
  refine W.getF X0 hx hZ hown (host := "") (Or.inl (wk hw 66 rfl)) Via.refl e0 P3 (hc hby D26 4 rfl) (fun T101 X101 e101 => ?_)
  refine W.i2l X101 hx (hc hby D26 5 rfl) (v := (9 : Int64)) (by decide) ?_
  refine W.iloadN X101 hx (hc hby D26 6 rfl) rfl ?_
  refine W.i2l X101 hx (hc hby D26 7 rfl) (v := (9 : Int64)) (by decide) ?_
  refine W.lsub X101 hx (hc hby D26 8 rfl) (v := (0 : Int64)) (by decide) ?_
  refine W.private X101 hx hZ hown (wk hw 108 rfl) (wk hw 109 rfl) (wk hw 111 rfl) (wk hw 110 rfl) (wk hw 46 rfl) (wk hw 112 rfl) (by decide) (xBigDec_checkScale3 l Z a0 hw SS ix a1 h0 n0 O0 hcl) e101 P0 (by rw [hml]; rfl) (argsL := [(.long (0 : Int64))]) (rest := []) rfl (lenOf pd__J_I rfl) rfl (W := 0) (Nat.le_of_eq rfl) (hc hby D26 9 rfl) (by decide) (by decide) (by decide) (by decide) (fun T102 h102 v102 L102 X102 e102 q102 => ?_)
  obtain ⟨rfl, N102q, r102_0⟩ := q102
  have N103 := Fr.app N0 N102q
  have e102 := e102.trans r102_0
  refine W.istoreN X102 hx (hc hby D26 10 rfl) (l' := #[.val (.ref a1), .val (.int (9 : Int32)), .val (.int (0 : Int32)), .unset]) rfl ?_
  obtain ⟨T104, h104, X104, e104, E104, A104, D104, -, st104⟩ := newO X102 hx hZ hown (wk hw 86 rfl) (wk hw 87 rfl) (wk hw 46 rfl) e102 (g := (mkF m 26 #[.val (.ref a1), .val (.int (9 : Int32)), .val (.int (0 : Int32)), .unset] [])) rfl (hc hby D26 11 rfl) (by decide) (by decide)
  obtain ⟨b104, g104⟩ : ∃ z, z = h0.size := ⟨_, rfl⟩
  rw [← g104] at A104 D104 st104
  have g105 : n0 ≤ b104 := Nat.le_trans (own_le O0) (Nat.le_of_eq g104.symm)
  have z106 : h0.size ≤ b104 := (Nat.le_of_eq g104.symm)
  have O107 := Old.ext O0 E104
  have K108 : Keep h0 h104 [] := (Keep.refl h0 []).ext E104
  have F109 : Fld Z h104 b104 "java/math/BigDecimal" "intCompact" "J" (.long (0 : Int64)) := D104 (Or.inr (wk hw 64 rfl)) (ty := .long) (by decide)
  have F110 : Fld Z h104 b104 "java/math/BigDecimal" "scale" "I" (.int (0 : Int32)) := D104 (Or.inr (wk hw 67 rfl)) (ty := .int) (by decide)
  have F111 : Fld Z h104 b104 "java/math/BigDecimal" "precision" "I" (.int (0 : Int32)) := D104 (Or.inl (wk hw 100 rfl)) (ty := .int) (by decide)
  have F112 : Fld Z h104 b104 "java/math/BigDecimal" "intVal" "Ljava/math/BigInteger;" .null := D104 (Or.inr (wk hw 102 rfl)) (ty := (.object "java/math/BigInteger")) (by decide)
  refine Win.to T104 (mkF m 29 #[.val (.ref a1), .val (.int (9 : Int32)), .val (.int (0 : Int32)), .unset] [(.ref b104)]) (fun _ k => st104 _ k) ?_
  refine W.dup X104 hx (hc hby D26 12 rfl) rfl ?_
  refine W.aloadN X104 hx (hc hby D26 13 rfl) rfl rfl ?_
  have F113 := Fld.ext E104 P2
  refine W.getF X104 hx hZ hown (host := "") (Or.inl (wk hw 101 rfl)) Via.refl e104 F113 (hc hby D26 14 rfl) (fun T114 X114 e114 => ?_)
  refine W.aloadN X114 hx (hc hby D26 15 rfl) rfl rfl ?_
  have F115 := Fld.ext E104 P1
  refine W.getF X114 hx hZ hown (host := "") (Or.inl (wk hw 63 rfl)) Via.refl e114 F115 (hc hby D26 16 rfl) (fun T116 X116 e116 => ?_)
  refine W.iloadN X116 hx (hc hby D26 17 rfl) rfl ?_
  refine W.iconst X116 hx (hc hby D26 18 rfl) (v := 0) rfl ?_
  refine W.special X116 hx hZ rfl hown (wk hw 88 rfl) (wk hw 89 rfl) (wk hw 46 rfl) (wk hw 91 rfl) (by decide) (xBigDec_init5 l Z a0 hw SS ix b104 h104 n0 O107 A104 F109 F112 F111 F110 hcl g105) e116 (by rw [hml]; rfl) (a := b104) (argsL := [.null, (.long (vJ ix [2000000000, 4000000000, 8000000000, 16000000000, 32000000000, 60000000000])), (.int (0 : Int32)), (.int (0 : Int32))]) (rest := [(.ref b104)]) rfl (lenOf pd__Ljava_math_BigInteger_JII_V rfl) rfl (W := 1) (Nat.le_of_eq rfl) (hc hby D26 19 rfl) (by decide) (by decide) (by decide) (by decide) (fun T117 h117 v117 L117 X117 e117 q117 => ?_)
  obtain ⟨rfl, N117q, r117_0, r117_1, r117_2, r117_3, r117_4, r117_5⟩ := q117
  have N118 := Fr.app N103 N117q
  have O119 := Old.keep O107 r117_0 (allS g105 all0)
  have K120 : Keep h0 h117 [] := Keep.trans K108 r117_0 (allS (Or.inr z106) all0)
  refine W.astoreN X117 hx (hc hby D26 20 rfl) rfl (l' := #[.val (.ref a1), .val (.int (9 : Int32)), .val (.int (0 : Int32)), .val (.ref b104)]) rfl ?_
  refine W.aloadN X117 hx (hc hby D26 21 rfl) rfl rfl ?_
  refine W.getF X117 hx hZ hown (host := "") (Or.inl (wk hw 66 rfl)) Via.refl e117 r117_4 (hc hby D26 22 rfl) (fun T121 X121 e121 => ?_)
  refine W.ifYes X121 hx (hc hby D26 23 rfl) (by decide) (by decide) (pc' := 61) rfl ?_
  refine W.aloadN X121 hx (hc hby D26 24 rfl) rfl rfl ?_
  exact Win.retA X121 hx hlk hret rfl rfl (hc hby D26 25 rfl) (by decide) (by decide) (by (try rw [e121]); exact ⟨b104, rfl, N118, K120, z106, r117_1, r117_2, r117_3, r117_4, r117_5⟩)
abbrev R_xBigDec_setScale1 : Room := ⟨0, 0, 0, 0⟩
theorem xBigDec_setScale1 (l : Launch) (Z : State) (a0 : Array Value) (hw : ∀ d ∈ tables_1, d.before a0 Z = true) (SS : Stat Z) (ix : Fin 6) (a1 : Addr) (h0 : Heap) (n0 : Nat) (O0 : Old Z n0 h0) (P0 : Fld Z h0 a1 "java/math/BigDecimal" "scale" "I" (.int (0 : Int32))) (hcl : ix.val < 2) :
    MetN l Z (⟨"java/math/BigDecimal", "setScale", "(II)Ljava/math/BigDecimal;"⟩ : MethodName) jdk_17_method_64_code 8 (some (.object "java/math/BigDecimal")) R_xBigDec_setScale1 [] #[(.ref a1), (.int (0 : Int32)), (.int (7 : Int32))] h0 (fun v h L => v = some (.ref a1) ∧ Fr n0 L ∧ h = h0) := by
  refine MetN.walk (plainFor_of_name pn_28) ?_
  intro p e s m below meth c s₁ hx hZ hby hml hown hnm hret hlk X0 e0
  have N0 := Fr.nil n0
  refine Win.to s₁ (mkF m 0 #[.val (.ref a1), .val (.int (0 : Int32)), .val (.int (7 : Int32)), .unset, .unset, .unset, .unset, .unset] []) (fun _ k => castTop rfl k) ?_
  refine W.iloadN X0 hx (hc hby D28 0 rfl) rfl ?_
  refine W.ifNo X0 hx (hc hby D28 1 rfl) (by decide) ?_
  refine W.iloadN X0 hx (hc hby D28 2 rfl) rfl ?_
  refine W.bipush X0 hx (hc hby D28 3 rfl) (v := 7) rfl ?_
  refine W.icmpYes X0 hx (hc hby D28 4 rfl) (by decide) (by decide) (pc' := 21) rfl ?_
  refine W.aloadN X0 hx (hc hby D28 5 rfl) rfl rfl ?_
  refine W.getF X0 hx hZ hown (host := "") (Or.inl (wk hw 66 rfl)) Via.refl e0 P0 (hc hby D28 6 rfl) (fun T101 X101 e101 => ?_)
  refine W.istoreN X101 hx (hc hby D28 7 rfl) (l' := #[.val (.ref a1), .val (.int (0 : Int32)), .val (.int (7 : Int32)), .val (.int (0 : Int32)), .unset, .unset, .unset, .unset]) rfl ?_
  refine W.iloadN X101 hx (hc hby D28 8 rfl) rfl ?_
  refine W.iloadN X101 hx (hc hby D28 9 rfl) rfl ?_
  refine W.icmpNo X101 hx (hc hby D28 10 rfl) (by decide) ?_
  refine W.aloadN X101 hx (hc hby D28 11 rfl) rfl rfl ?_
  exact Win.retA X101 hx hlk hret rfl rfl (hc hby D28 12 rfl) (by decide) (by decide) (by (try rw [e101]); exact ⟨rfl, N0, rfl⟩)
abbrev R_xBigInt_init1 : Room := ⟨2, 1, 1, 24⟩
theorem xBigInt_init1 (l : Launch) (Z : State) (a0 : Array Value) (hw : ∀ d ∈ tables_1, d.before a0 Z = true) (SS : Stat Z) (ix : Fin 6) (a1 : Addr) (h0 : Heap) (n0 : Nat) (O0 : Old Z n0 h0) (P0 : Exa Z h0 a1 "java/math/BigInteger") (P1 : Fld Z h0 a1 "java/math/BigInteger" "bitLengthPlusOne" "I" (.int (0 : Int32))) (P2 : Fld Z h0 a1 "java/math/BigInteger" "mag" "[I" .null) (P3 : Fld Z h0 a1 "java/math/BigInteger" "signum" "I" (.int (0 : Int32))) (hcl : ix.val < 2) (g_a1 : n0 ≤ a1) :
    MetN l Z (⟨"java/math/BigInteger", "<init>", "(J)V"⟩ : MethodName) jdk_2097_method_30_code 4 none R_xBigInt_init1 [] #[(.ref a1), (.long (vJ ix [2000000000, 4000000000, 8000000000, 16000000000, 32000000000, 60000000000]))] h0 (fun v h L => ∃ (r1 : Addr) (k_r1 : ClassId), v = none ∧ Fr n0 L ∧ Keep h0 h [a1] ∧ h0.size ≤ r1 ∧ Fld Z h a1 "java/math/BigInteger" "bitLengthPlusOne" "I" (.int (0 : Int32)) ∧ Arv Z h r1 k_r1 .int (1 : Int32) [(.int (vI ix [2000000000, -294967296, 2000000000, 2000000000, 2000000000, 2000000000]))] (.int (0 : Int32)) ∧ Fld Z h a1 "java/math/BigInteger" "mag" "[I" (.ref r1) ∧ Fld Z h a1 "java/math/BigInteger" "signum" "I" (.int (1 : Int32)) ∧ Exa Z h a1 "java/math/BigInteger") := by
  refine MetN.walk (plainFor_of_name pn_31) ?_
  intro p e s m below meth c s₁ hx hZ hby hml hown hnm hret hlk X0 e0
  have N0 := Fr.nil n0
  refine Win.to s₁ (mkF m 0 #[.val (.ref a1), .val (.long (vJ ix [2000000000, 4000000000, 8000000000, 16000000000, 32000000000, 60000000000])), .second, .unset] []) (fun _ k => castTop rfl k) ?_
  refine W.aloadN X0 hx (hc hby D31 0 rfl) rfl rfl ?_
  refine W.special X0 hx hZ rfl hown (wk hw 157 rfl) (wk hw 93 rfl) (wk hw 96 rfl) (wk hw 97 rfl) (by decide) (xNumber_init1 l Z a0 hw SS a1 h0 n0 O0 ) e0 (by rw [hml]; rfl) (a := a1) (argsL := []) (rest := []) rfl (lenOf pd___V rfl) rfl (W := 0) (Nat.le_of_eq rfl) (hc hby D31 1 rfl) (by decide) (by decide) (by decide) (by decide) (fun T101 h101 v101 L101 X101 e101 q101 => ?_)
  obtain ⟨rfl, N101q, r101_0⟩ := q101
  have N102 := Fr.app N0 N101q
  have e101 := e101.trans r101_0
  refine W.lloadN X101 hx (hc hby D31 2 rfl) rfl ?_
  refine W.lconst X101 hx (hc hby D31 3 rfl) (v := 0) rfl ?_
  refine W.lcmp X101 hx (hc hby D31 4 rfl) (v := (1 : Int32)) ((show ∀ ix : Fin 6, ix.val < 2 → lcmpW (vJ ix [2000000000, 4000000000, 8000000000, 16000000000, 32000000000, 60000000000]) (0 : Int64) = (1 : Int32) from by decide +kernel) ix hcl) ?_
  refine W.ifYes X101 hx (hc hby D31 5 rfl) (by decide) (by decide) (pc' := 21) rfl ?_
  refine W.aloadN X101 hx (hc hby D31 6 rfl) rfl rfl ?_
  refine W.iconst X101 hx (hc hby D31 7 rfl) (v := 1) rfl ?_
  refine W.putF X101 hx hZ hown (host := "") (Or.inl (wk hw 159 rfl)) Via.refl e101 P3 P0 (Or.inr ⟨(wk hw 160 rfl), rfl, hnm⟩) (wk hw 152 rfl) (ty := .int) (by decide) rfl rfl (hc hby D31 8 rfl) O0 g_a1 (Keep.refl h0 [a1]) (Or.inl (List.mem_of_getElem? (i := 0) rfl)) N102 (fun T103 h103 X103 e103 W103 O103 K103 N103 F103 => ?_)
  refine W.lloadN X103 hx (hc hby D31 9 rfl) rfl ?_
  refine W.bipush X103 hx (hc hby D31 10 rfl) (v := 32) rfl ?_
  refine W.lushr X103 hx (hc hby D31 11 rfl) (v := (0 : Int64)) ((show ∀ ix : Fin 6, ix.val < 2 → (((vJ ix [2000000000, 4000000000, 8000000000, 16000000000, 32000000000, 60000000000]).toUInt64 >>> ((32 : Int32) &&& 0x3f).toInt64.toUInt64).toInt64) = (0 : Int64) from by decide +kernel) ix hcl) ?_
  refine W.l2i X103 hx (hc hby D31 12 rfl) (v := (0 : Int32)) (by decide) ?_
  refine W.istoreN X103 hx (hc hby D31 13 rfl) (l' := #[.val (.ref a1), .val (.long (vJ ix [2000000000, 4000000000, 8000000000, 16000000000, 32000000000, 60000000000])), .second, .val (.int (0 : Int32))]) rfl ?_
  refine W.iloadN X103 hx (hc hby D31 14 rfl) rfl ?_
  refine W.ifNo X103 hx (hc hby D31 15 rfl) (by decide) ?_
  refine W.aloadN X103 hx (hc hby D31 16 rfl) rfl rfl ?_
  refine W.iconst X103 hx (hc hby D31 17 rfl) (v := 1) rfl ?_
  obtain ⟨T104, h104, k104, X104, e104, E104, A104, st104⟩ := newP X103 hx hZ (wk hw 161 rfl) e103 (g := (mkF m 38 #[.val (.ref a1), .val (.long (vJ ix [2000000000, 4000000000, 8000000000, 16000000000, 32000000000, 60000000000])), .second, .val (.int (0 : Int32))] [(.int (1 : Int32)), (.ref a1)])) rfl (hc hby D31 18 rfl) rfl (by decide) (cap := 1) (by decide) (by decide) (by decide) (by decide)
  obtain ⟨b104, g104⟩ : ∃ z, z = h103.size := ⟨_, rfl⟩
  rw [← g104] at A104 st104
  have F105 := Exa.wr W103 P0
  have ne106 : a1 ≠ b104 := Nat.ne_of_lt (Nat.lt_of_lt_of_le F105.lt (Nat.le_of_eq g104.symm))
  have g107 : n0 ≤ b104 := Nat.le_trans (own_le O103) (Nat.le_of_eq g104.symm)
  have z108 : h0.size ≤ b104 := Nat.le_trans K103.1 (Nat.le_of_eq g104.symm)
  have O109 := Old.ext O103 E104
  have K110 : Keep h0 h104 [a1] := K103.ext E104
  have F111 : Arv Z h104 b104 k104 .int (1 : Int32) [(.int (0 : Int32))] (.int (0 : Int32)) := (Arv.new A104 (by decide)).pad (pad_rep [] (.int (0 : Int32)) 1)
  refine Win.to T104 (mkF m 40 #[.val (.ref a1), .val (.long (vJ ix [2000000000, 4000000000, 8000000000, 16000000000, 32000000000, 60000000000])), .second, .val (.int (0 : Int32))] [(.ref b104), (.ref a1)]) (fun _ k => st104 _ k) ?_
  have F112 := Exa.ext E104 F105
  have F113 := Fld.ext E104 (Fld.other W103 P2 (Or.inr (slot_ne (Or.inr (wk hw 163 rfl)) (Or.inr (wk hw 160 rfl)) (by decide) (t := (.array .int)) (t' := .int) (by decide) (by decide))))
  refine W.putF X104 hx hZ hown (host := "") (Or.inl (wk hw 162 rfl)) Via.refl e104 F113 F112 (Or.inr ⟨(wk hw 163 rfl), rfl, hnm⟩) (wk hw 152 rfl) (ty := (.array .int)) (by decide) rfl rfl (hc hby D31 19 rfl) O109 g_a1 K110 (Or.inl (List.mem_of_getElem? (i := 0) rfl)) N103 (fun T114 h114 X114 e114 W114 O114 K114 N114 F114 => ?_)
  refine W.aloadN X114 hx (hc hby D31 20 rfl) rfl rfl ?_
  refine W.getF X114 hx hZ hown (host := "") (Or.inl (wk hw 162 rfl)) Via.refl e114 F114 (hc hby D31 21 rfl) (fun T115 X115 e115 => ?_)
  refine W.iconst X115 hx (hc hby D31 22 rfl) (v := 0) rfl ?_
  refine W.lloadN X115 hx (hc hby D31 23 rfl) rfl ?_
  refine W.l2i X115 hx (hc hby D31 24 rfl) (v := (vI ix [2000000000, -294967296, 2000000000, 2000000000, 2000000000, 2000000000])) ((show ∀ ix : Fin 6, ix.val < 2 → (vJ ix [2000000000, 4000000000, 8000000000, 16000000000, 32000000000, 60000000000]).toInt32 = (vI ix [2000000000, -294967296, 2000000000, 2000000000, 2000000000, 2000000000]) from by decide +kernel) ix hcl) ?_
  have F116 := F111.other W114 (Ne.symm ne106)
  obtain ⟨cl117, Ar117, q117, S117, N117, H117, G117⟩ := id F116
  have hi117 : ¬ ((0 : Int32) < 0 ∨ cl117.slots.size ≤ ((0 : Int32)).toNatClampNeg) := inb_of S117 ⟨by decide, by decide⟩
  obtain ⟨T118, h118, X118, e118, W118, st118⟩ := stI X115 hx hZ e115 Ar117 (j := (0 : Int32)) hi117 (g := (mkF m 50 #[.val (.ref a1), .val (.long (vJ ix [2000000000, 4000000000, 8000000000, 16000000000, 32000000000, 60000000000])), .second, .val (.int (0 : Int32))] [(.int (vI ix [2000000000, -294967296, 2000000000, 2000000000, 2000000000, 2000000000])), (.int (0 : Int32)), (.ref b104)])) rfl rfl (hc hby D31 25 rfl)
  have O120 := Old.wr O114 W118 g107
  have K121 : Keep h0 h118 [a1] := K114.wr W118 (Or.inr z108)
  have N122 := Fr.snoc X118 N114 g107
  have F119 : Arv Z h118 b104 k104 .int (1 : Int32) [(.int (vI ix [2000000000, -294967296, 2000000000, 2000000000, 2000000000, 2000000000]))] (.int (0 : Int32)) := Arv.set Ar117 q117 S117 N117 H117 G117 rfl W118 0 rfl (Nat.le_of_ble_eq_true rfl)
  refine Win.to T118 (mkF m 51 #[.val (.ref a1), .val (.long (vJ ix [2000000000, 4000000000, 8000000000, 16000000000, 32000000000, 60000000000])), .second, .val (.int (0 : Int32))] []) (fun _ k => st118 _ k) ?_
  refine W.goto X118 hx (hc hby D31 26 rfl) (by decide) (pc' := 76) rfl ?_
  have F123 := Fld.other W118 (Fld.other W114 (Fld.ext E104 (Fld.other W103 P1 (Or.inr (slot_ne (Or.inl (wk hw 244 rfl)) (Or.inr (wk hw 160 rfl)) (by decide) (t := .int) (t' := .int) (by decide) (by decide))))) (Or.inr (slot_ne (Or.inl (wk hw 244 rfl)) (Or.inr (wk hw 163 rfl)) (by decide) (t := .int) (t' := (.array .int)) (by decide) (by decide)))) (Or.inl ne106)
  have F124 := Fld.other W118 F114 (Or.inl ne106)
  have F125 := Fld.other W118 (Fld.other W114 (Fld.ext E104 F103) (Or.inr (slot_ne (Or.inr (wk hw 160 rfl)) (Or.inr (wk hw 163 rfl)) (by decide) (t := .int) (t' := (.array .int)) (by decide) (by decide)))) (Or.inl ne106)
  have F126 := Exa.wr W118 (Exa.wr W114 F112)
  exact Win.retV X118 hx hlk hret (hc hby D31 27 rfl) (by decide) (by decide) (by (try rw [e118]); exact ⟨b104, k104, rfl, N122, K121, z108, F123, F119, F124, F125, F126⟩)
abbrev R_xBigInt_valueOf1 : Room := ⟨3, 2, 7, 40⟩
theorem xBigInt_valueOf1 (l : Launch) (Z : State) (a0 : Array Value) (hw : ∀ d ∈ tables_1, d.before a0 Z = true) (SS : Stat Z) (ix : Fin 6) (h0 : Heap) (n0 : Nat) (O0 : Old Z n0 h0) (hcl : ix.val < 2) :
    MetN l Z (⟨"java/math/BigInteger", "valueOf", "(J)Ljava/math/BigInteger;"⟩ : MethodName) jdk_2097_method_29_code 2 (some (.object "java/math/BigInteger")) R_xBigInt_valueOf1 [] #[(.long (vJ ix [2000000000, 4000000000, 8000000000, 16000000000, 32000000000, 60000000000]))] h0 (fun v h L => ∃ (r1 : Addr) (r2 : Addr) (k_r2 : ClassId), v = some (.ref r1) ∧ Fr n0 L ∧ Keep h0 h [] ∧ h0.size ≤ r1 ∧ h0.size ≤ r2 ∧ Fld Z h r1 "java/math/BigInteger" "bitLengthPlusOne" "I" (.int (0 : Int32)) ∧ Arv Z h r2 k_r2 .int (1 : Int32) [(.int (vI ix [2000000000, -294967296, 2000000000, 2000000000, 2000000000, 2000000000]))] (.int (0 : Int32)) ∧ Fld Z h r1 "java/math/BigInteger" "mag" "[I" (.ref r2) ∧ Fld Z h r1 "java/math/BigInteger" "signum" "I" (.int (1 : Int32)) ∧ Exa Z h r1 "java/math/BigInteger") := by
  refine MetN.walk (plainFor_of_name pn_30) ?_
  intro p e s m below meth c s₁ hx hZ hby hml hown hnm hret hlk X0 e0
  have N0 := Fr.nil n0
  refine Win.to s₁ (mkF m 0 #[.val (.long (vJ ix [2000000000, 4000000000, 8000000000, 16000000000, 32000000000, 60000000000])), .second] []) (fun _ k => castTop rfl k) ?_
  refine W.lloadN X0 hx (hc hby D30 0 rfl) rfl ?_
  refine W.lconst X0 hx (hc hby D30 1 rfl) (v := 0) rfl ?_
  refine W.lcmp X0 hx (hc hby D30 2 rfl) (v := (1 : Int32)) ((show ∀ ix : Fin 6, ix.val < 2 → lcmpW (vJ ix [2000000000, 4000000000, 8000000000, 16000000000, 32000000000, 60000000000]) (0 : Int64) = (1 : Int32) from by decide +kernel) ix hcl) ?_
  refine W.ifYes X0 hx (hc hby D30 3 rfl) (by decide) (by decide) (pc' := 10) rfl ?_
  refine W.lloadN X0 hx (hc hby D30 4 rfl) rfl ?_
  refine W.lconst X0 hx (hc hby D30 5 rfl) (v := 0) rfl ?_
  refine W.lcmp X0 hx (hc hby D30 6 rfl) (v := (1 : Int32)) ((show ∀ ix : Fin 6, ix.val < 2 → lcmpW (vJ ix [2000000000, 4000000000, 8000000000, 16000000000, 32000000000, 60000000000]) (0 : Int64) = (1 : Int32) from by decide +kernel) ix hcl) ?_
  refine W.ifNo X0 hx (hc hby D30 7 rfl) (by decide) ?_
  refine W.lloadN X0 hx (hc hby D30 8 rfl) rfl ?_
  refine W.ldc2 X0 hx (hc hby D30 9 rfl) hown (mvT hZ (wk hw 150 rfl)) ?_
  refine W.lcmp X0 hx (hc hby D30 10 rfl) (v := (1 : Int32)) ((show ∀ ix : Fin 6, ix.val < 2 → lcmpW (vJ ix [2000000000, 4000000000, 8000000000, 16000000000, 32000000000, 60000000000]) (16 : Int64) = (1 : Int32) from by decide +kernel) ix hcl) ?_
  refine W.ifYes X0 hx (hc hby D30 11 rfl) (by decide) (by decide) (pc' := 31) rfl ?_
  refine W.lloadN X0 hx (hc hby D30 12 rfl) rfl ?_
  refine W.lconst X0 hx (hc hby D30 13 rfl) (v := 0) rfl ?_
  refine W.lcmp X0 hx (hc hby D30 14 rfl) (v := (1 : Int32)) ((show ∀ ix : Fin 6, ix.val < 2 → lcmpW (vJ ix [2000000000, 4000000000, 8000000000, 16000000000, 32000000000, 60000000000]) (0 : Int64) = (1 : Int32) from by decide +kernel) ix hcl) ?_
  refine W.ifYes X0 hx (hc hby D30 15 rfl) (by decide) (by decide) (pc' := 53) rfl ?_
  obtain ⟨T101, h101, X101, e101, E101, A101, D101, -, st101⟩ := newO X0 hx hZ hown (wk hw 151 rfl) (wk hw 152 rfl) (wk hw 148 rfl) e0 (g := (mkF m 53 #[.val (.long (vJ ix [2000000000, 4000000000, 8000000000, 16000000000, 32000000000, 60000000000])), .second] [])) rfl (hc hby D30 16 rfl) (by decide) (by decide)
  obtain ⟨b101, g101⟩ : ∃ z, z = h0.size := ⟨_, rfl⟩
  rw [← g101] at A101 D101 st101
  have g102 : n0 ≤ b101 := Nat.le_trans (own_le O0) (Nat.le_of_eq g101.symm)
  have z103 : h0.size ≤ b101 := (Nat.le_of_eq g101.symm)
  have O104 := Old.ext O0 E101
  have K105 : Keep h0 h101 [] := (Keep.refl h0 []).ext E101
  have F106 : Fld Z h101 b101 "java/math/BigInteger" "signum" "I" (.int (0 : Int32)) := D101 (Or.inr (wk hw 160 rfl)) (ty := .int) (by decide)
  have F107 : Fld Z h101 b101 "java/math/BigInteger" "mag" "[I" .null := D101 (Or.inr (wk hw 163 rfl)) (ty := (.array .int)) (by decide)
  have F108 : Fld Z h101 b101 "java/math/BigInteger" "bitLengthPlusOne" "I" (.int (0 : Int32)) := D101 (Or.inl (wk hw 244 rfl)) (ty := .int) (by decide)
  refine Win.to T101 (mkF m 56 #[.val (.long (vJ ix [2000000000, 4000000000, 8000000000, 16000000000, 32000000000, 60000000000])), .second] [(.ref b101)]) (fun _ k => st101 _ k) ?_
  refine W.dup X101 hx (hc hby D30 17 rfl) rfl ?_
  refine W.lloadN X101 hx (hc hby D30 18 rfl) rfl ?_
  refine W.special X101 hx hZ rfl hown (wk hw 153 rfl) (wk hw 154 rfl) (wk hw 148 rfl) (wk hw 156 rfl) (by decide) (xBigInt_init1 l Z a0 hw SS ix b101 h101 n0 O104 A101 F108 F107 F106 hcl g102) e101 (by rw [hml]; rfl) (a := b101) (argsL := [(.long (vJ ix [2000000000, 4000000000, 8000000000, 16000000000, 32000000000, 60000000000]))]) (rest := [(.ref b101)]) rfl (lenOf pd__J_V rfl) rfl (W := 1) (Nat.le_of_eq rfl) (hc hby D30 19 rfl) (by decide) (by decide) (by decide) (by decide) (fun T109 h109 v109 L109 X109 e109 q109 => ?_)
  obtain ⟨r1_109, k_r1_109, rfl, N109q, r109_0, r109_1, r109_2, r109_3, r109_4, r109_5, r109_6⟩ := q109
  have N110 := Fr.app N0 N109q
  have g111 : n0 ≤ r1_109 := Nat.le_trans (own_le O104) r109_1
  have z112 : h0.size ≤ r1_109 := Nat.le_trans K105.1 r109_1
  have O113 := Old.keep O104 r109_0 (allS g102 all0)
  have K114 : Keep h0 h109 [] := Keep.trans K105 r109_0 (allS (Or.inr z103) all0)
  exact Win.retA X109 hx hlk hret rfl rfl (hc hby D30 20 rfl) (by decide) (by decide) (by (try rw [e109]); exact ⟨b101, r1_109, k_r1_109, rfl, N110, K114, z103, z112, r109_2, r109_3, r109_4, r109_5, r109_6⟩)
abbrev R_xBigDec_inflated1 : Room := ⟨4, 2, 7, 53⟩
theorem xBigDec_inflated1 (l : Launch) (Z : State) (a0 : Array Value) (hw : ∀ d ∈ tables_1, d.before a0 Z = true) (SS : Stat Z) (ix : Fin 6) (a1 : Addr) (h0 : Heap) (n0 : Nat) (O0 : Old Z n0 h0) (P0 : Fld Z h0 a1 "java/math/BigDecimal" "intCompact" "J" (.long (vJ ix [2000000000, 4000000000, 8000000000, 16000000000, 32000000000, 60000000000]))) (P1 : Fld Z h0 a1 "java/math/BigDecimal" "intVal" "Ljava/math/BigInteger;" .null) (hcl : ix.val < 2) :
    MetN l Z (⟨"java/math/BigDecimal", "inflated", "()Ljava/math/BigInteger;"⟩ : MethodName) jdk_17_method_99_code 1 (some (.object "java/math/BigInteger")) R_xBigDec_inflated1 [] #[(.ref a1)] h0 (fun v h L => ∃ (r1 : Addr) (r2 : Addr) (k_r2 : ClassId), v = some (.ref r1) ∧ Fr n0 L ∧ Keep h0 h [] ∧ h0.size ≤ r1 ∧ h0.size ≤ r2 ∧ Fld Z h r1 "java/math/BigInteger" "bitLengthPlusOne" "I" (.int (0 : Int32)) ∧ Arv Z h r2 k_r2 .int (1 : Int32) [(.int (vI ix [2000000000, -294967296, 2000000000, 2000000000, 2000000000, 2000000000]))] (.int (0 : Int32)) ∧ Fld Z h r1 "java/math/BigInteger" "mag" "[I" (.ref r2) ∧ Fld Z h r1 "java/math/BigInteger" "signum" "I" (.int (1 : Int32)) ∧ Exa Z h r1 "java/math/BigInteger") := by
  refine MetN.walk (plainFor_of_name pn_29) ?_
  intro p e s m below meth c s₁ hx hZ hby hml hown hnm hret hlk X0 e0
  have N0 := Fr.nil n0
  refine Win.to s₁ (mkF m 0 #[.val (.ref a1)] []) (fun _ k => castTop rfl k) ?_
  refine W.aloadN X0 hx (hc hby D29 0 rfl) rfl rfl ?_
  refine W.getF X0 hx hZ hown (host := "") (Or.inl (wk hw 101 rfl)) Via.refl e0 P1 (hc hby D29 1 rfl) (fun T101 X101 e101 => ?_)
  refine Win.to T101 (mkF m 7 #[.val (.ref a1)] []) (fun _ k => XS.ifnonnullNo X101.here hx rfl (hc hby D29 2 rfl) rfl k) ?_
  refine W.aloadN X101 hx (hc hby D29 3 rfl) rfl rfl ?_
  refine W.getF X101 hx hZ hown (host := "") (Or.inl (wk hw 63 rfl)) Via.refl e101 P0 (hc hby D29 4 rfl) (fun T102 X102 e102 => ?_)
  refine W.static X102 hx hZ hown (wk hw 146 rfl) (wk hw 147 rfl) (wk hw 148 rfl) (wk hw 149 rfl) (by decide) (xBigInt_valueOf1 l Z a0 hw SS ix h0 n0 O0 hcl) e102 (by rw [hml]; rfl) (argsL := [(.long (vJ ix [2000000000, 4000000000, 8000000000, 16000000000, 32000000000, 60000000000]))]) (rest := []) rfl (lenOf pd__J_Ljava_math_BigInteger_ rfl) rfl (W := 0) (Nat.le_of_eq rfl) (hc hby D29 5 rfl) (by decide) (by decide) (by decide) (by decide) (fun T103 h103 v103 L103 X103 e103 q103 => ?_)
  obtain ⟨r1_103, r2_103, k_r2_103, rfl, N103q, r103_0, r103_1, r103_2, r103_3, r103_4, r103_5, r103_6, r103_7⟩ := q103
  have N104 := Fr.app N0 N103q
  have g105 : n0 ≤ r1_103 := Nat.le_trans (own_le O0) r103_1
  have z106 : h0.size ≤ r1_103 := r103_1
  have g107 : n0 ≤ r2_103 := Nat.le_trans (own_le O0) r103_2
  have z108 : h0.size ≤ r2_103 := r103_2
  have O109 := Old.keep O0 r103_0 all0
  have K110 : Keep h0 h103 [] := Keep.trans (Keep.refl h0 []) r103_0 all0
  exact Win.retA X103 hx hlk hret rfl rfl (hc hby D29 6 rfl) (by decide) (by decide) (by (try rw [e103]); exact ⟨r1_103, r2_103, k_r2_103, rfl, N104, K110, z106, z108, r103_3, r103_4, r103_5, r103_6, r103_7⟩)
abbrev R_xBigDec_toBigIntegerExact1 : Room := ⟨5, 2, 7, 65⟩
theorem xBigDec_toBigIntegerExact1 (l : Launch) (Z : State) (a0 : Array Value) (hw : ∀ d ∈ tables_1, d.before a0 Z = true) (SS : Stat Z) (ix : Fin 6) (a1 : Addr) (h0 : Heap) (n0 : Nat) (O0 : Old Z n0 h0) (P0 : Exa Z h0 a1 "java/math/BigDecimal") (P1 : Fld Z h0 a1 "java/math/BigDecimal" "intCompact" "J" (.long (vJ ix [2000000000, 4000000000, 8000000000, 16000000000, 32000000000, 60000000000]))) (P2 : Fld Z h0 a1 "java/math/BigDecimal" "intVal" "Ljava/math/BigInteger;" .null) (P3 : Fld Z h0 a1 "java/math/BigDecimal" "scale" "I" (.int (0 : Int32))) (hcl : ix.val < 2) :
    MetN l Z (⟨"java/math/BigDecimal", "toBigIntegerExact", "()Ljava/math/BigInteger;"⟩ : MethodName) jdk_17_method_81_code 1 (some (.object "java/math/BigInteger")) R_xBigDec_toBigIntegerExact1 [] #[(.ref a1)] h0 (fun v h L => ∃ (r1 : Addr) (r2 : Addr) (k_r2 : ClassId), v = some (.ref r1) ∧ Fr n0 L ∧ Keep h0 h [] ∧ h0.size ≤ r1 ∧ h0.size ≤ r2 ∧ Fld Z h r1 "java/math/BigInteger" "bitLengthPlusOne" "I" (.int (0 : Int32)) ∧ Arv Z h r2 k_r2 .int (1 : Int32) [(.int (vI ix [2000000000, -294967296, 2000000000, 2000000000, 2000000000, 2000000000]))] (.int (0 : Int32)) ∧ Fld Z h r1 "java/math/BigInteger" "mag" "[I" (.ref r2) ∧ Fld Z h r1 "java/math/BigInteger" "signum" "I" (.int (1 : Int32)) ∧ Exa Z h r1 "java/math/BigInteger") := by
  refine MetN.walk (plainFor_of_name pn_27) ?_
  intro p e s m below meth c s₁ hx hZ hby hml hown hnm hret hlk X0 e0
  have N0 := Fr.nil n0
  refine Win.to s₁ (mkF m 0 #[.val (.ref a1)] []) (fun _ k => castTop rfl k) ?_
  refine W.aloadN X0 hx (hc hby D27 0 rfl) rfl rfl ?_
  refine W.iconst X0 hx (hc hby D27 1 rfl) (v := 0) rfl ?_
  refine W.bipush X0 hx (hc hby D27 2 rfl) (v := 7) rfl ?_
  refine W.virtual X0 hx hZ hown (wk hw 136 rfl) (wk hw 137 rfl) (notFace_of_selects (args := #[]) (mvT hZ (wk hw 139 rfl))) (wk hw 139 rfl) (wk hw 138 rfl) (wk hw 46 rfl) (wk hw 140 rfl) (by decide) (xBigDec_setScale1 l Z a0 hw SS ix a1 h0 n0 O0 P3 hcl) e0 P0 (by rw [hml]; rfl) (argsL := [(.int (0 : Int32)), (.int (7 : Int32))]) (rest := []) rfl (lenOf pd__II_Ljava_math_BigDecimal_ rfl) rfl (W := 0) (Nat.le_of_eq rfl) (hc hby D27 3 rfl) (by decide) (by decide) (by decide) (by decide) (fun T101 h101 v101 L101 X101 e101 q101 => ?_)
  obtain ⟨rfl, N101q, r101_0⟩ := q101
  have N102 := Fr.app N0 N101q
  have e101 := e101.trans r101_0
  refine W.private X101 hx hZ hown (wk hw 141 rfl) (wk hw 142 rfl) (wk hw 144 rfl) (wk hw 143 rfl) (wk hw 46 rfl) (wk hw 145 rfl) (by decide) (xBigDec_inflated1 l Z a0 hw SS ix a1 h0 n0 O0 P1 P2 hcl) e101 P0 (by rw [hml]; rfl) (argsL := []) (rest := []) rfl (lenOf pd___Ljava_math_BigInteger_ rfl) rfl (W := 0) (Nat.le_of_eq rfl) (hc hby D27 4 rfl) (by decide) (by decide) (by decide) (by decide) (fun T103 h103 v103 L103 X103 e103 q103 => ?_)
  obtain ⟨r1_103, r2_103, k_r2_103, rfl, N103q, r103_0, r103_1, r103_2, r103_3, r103_4, r103_5, r103_6, r103_7⟩ := q103
  have N104 := Fr.app N102 N103q
  have g105 : n0 ≤ r1_103 := Nat.le_trans (own_le O0) r103_1
  have z106 : h0.size ≤ r1_103 := r103_1
  have g107 : n0 ≤ r2_103 := Nat.le_trans (own_le O0) r103_2
  have z108 : h0.size ≤ r2_103 := r103_2
  have O109 := Old.keep O0 r103_0 all0
  have K110 : Keep h0 h103 [] := Keep.trans (Keep.refl h0 []) r103_0 all0
  exact Win.retA X103 hx hlk hret rfl rfl (hc hby D27 5 rfl) (by decide) (by decide) (by (try rw [e103]); exact ⟨r1_103, r2_103, k_r2_103, rfl, N104, K110, z106, z108, r103_3, r103_4, r103_5, r103_6, r103_7⟩)
abbrev R_xMutabl_init1 : Room := ⟨1, 1, 1, 12⟩
theorem xMutabl_init1 (l : Launch) (Z : State) (a0 : Array Value) (hw : ∀ d ∈ tables_1, d.before a0 Z = true) (SS : Stat Z) (a1 : Addr) (h0 : Heap) (n0 : Nat) (O0 : Old Z n0 h0) (P0 : Exa Z h0 a1 "java/math/MutableBigInteger") (P1 : Fld Z h0 a1 "java/math/MutableBigInteger" "intLen" "I" (.int (0 : Int32))) (P2 : Fld Z h0 a1 "java/math/MutableBigInteger" "offset" "I" (.int (0 : Int32))) (P3 : Fld Z h0 a1 "java/math/MutableBigInteger" "value" "[I" .null) (g_a1 : n0 ≤ a1) :
    MetN l Z (⟨"java/math/MutableBigInteger", "<init>", "()V"⟩ : MethodName) jdk_2101_method_1_code 1 none R_xMutabl_init1 [] #[(.ref a1)] h0 (fun v h L => ∃ (r1 : Addr) (k_r1 : ClassId), v = none ∧ Fr n0 L ∧ Keep h0 h [a1] ∧ h0.size ≤ r1 ∧ Fld Z h a1 "java/math/MutableBigInteger" "intLen" "I" (.int (0 : Int32)) ∧ Fld Z h a1 "java/math/MutableBigInteger" "offset" "I" (.int (0 : Int32)) ∧ Arv Z h r1 k_r1 .int (1 : Int32) [(.int (0 : Int32))] (.int (0 : Int32)) ∧ Fld Z h a1 "java/math/MutableBigInteger" "value" "[I" (.ref r1) ∧ Exa Z h a1 "java/math/MutableBigInteger") := by
  refine MetN.walk (plainFor_of_name pn_34) ?_
  intro p e s m below meth c s₁ hx hZ hby hml hown hnm hret hlk X0 e0
  have N0 := Fr.nil n0
  refine Win.to s₁ (mkF m 0 #[.val (.ref a1)] []) (fun _ k => castTop rfl k) ?_
  refine W.aloadN X0 hx (hc hby D34 0 rfl) rfl rfl ?_
  obtain ⟨T101, X101, e101, st101⟩ := initO X0 hx hZ hown (wk hw 183 rfl) (wk hw 7 rfl) (wk hw 8 rfl) e0 (g := (mkF m 1 #[.val (.ref a1)] [(.ref a1)])) rfl (by rw [hml]; rfl) rfl (hc hby D34 1 rfl) (by decide) (W := 0) (by show 2 * 0 + _ ≤ _; exact Nat.le_of_eq rfl) (by decide)
  refine Win.to T101 (mkF m 4 #[.val (.ref a1)] []) (fun _ k => st101 _ k) ?_
  refine W.aloadN X101 hx (hc hby D34 2 rfl) rfl rfl ?_
  refine W.iconst X101 hx (hc hby D34 3 rfl) (v := 0) rfl ?_
  refine W.putF X101 hx hZ hown (host := "") (Or.inl (wk hw 184 rfl)) Via.refl e101 P2 P0 (Or.inl (wk hw 185 rfl)) (wk hw 177 rfl) (ty := .int) (by decide) rfl rfl (hc hby D34 4 rfl) O0 g_a1 (Keep.refl h0 [a1]) (Or.inl (List.mem_of_getElem? (i := 0) rfl)) N0 (fun T102 h102 X102 e102 W102 O102 K102 N102 F102 => ?_)
  refine W.aloadN X102 hx (hc hby D34 5 rfl) rfl rfl ?_
  refine W.iconst X102 hx (hc hby D34 6 rfl) (v := 1) rfl ?_
  obtain ⟨T103, h103, k103, X103, e103, E103, A103, st103⟩ := newP X102 hx hZ (wk hw 161 rfl) e102 (g := (mkF m 11 #[.val (.ref a1)] [(.int (1 : Int32)), (.ref a1)])) rfl (hc hby D34 7 rfl) rfl (by decide) (cap := 1) (by decide) (by decide) (by decide) (by decide)
  obtain ⟨b103, g103⟩ : ∃ z, z = h102.size := ⟨_, rfl⟩
  rw [← g103] at A103 st103
  have F104 := Exa.wr W102 P0
  have ne105 : a1 ≠ b103 := Nat.ne_of_lt (Nat.lt_of_lt_of_le F104.lt (Nat.le_of_eq g103.symm))
  have g106 : n0 ≤ b103 := Nat.le_trans (own_le O102) (Nat.le_of_eq g103.symm)
  have z107 : h0.size ≤ b103 := Nat.le_trans K102.1 (Nat.le_of_eq g103.symm)
  have O108 := Old.ext O102 E103
  have K109 : Keep h0 h103 [a1] := K102.ext E103
  have F110 : Arv Z h103 b103 k103 .int (1 : Int32) [(.int (0 : Int32))] (.int (0 : Int32)) := (Arv.new A103 (by decide)).pad (pad_rep [] (.int (0 : Int32)) 1)
  refine Win.to T103 (mkF m 13 #[.val (.ref a1)] [(.ref b103), (.ref a1)]) (fun _ k => st103 _ k) ?_
  have F111 := Exa.ext E103 F104
  have F112 := Fld.ext E103 (Fld.other W102 P3 (Or.inr (slot_ne (Or.inl (wk hw 187 rfl)) (Or.inl (wk hw 185 rfl)) (by decide) (t := (.array .int)) (t' := .int) (by decide) (by decide))))
  refine W.putF X103 hx hZ hown (host := "") (Or.inl (wk hw 186 rfl)) Via.refl e103 F112 F111 (Or.inl (wk hw 187 rfl)) (wk hw 177 rfl) (ty := (.array .int)) (by decide) rfl rfl (hc hby D34 8 rfl) O108 g_a1 K109 (Or.inl (List.mem_of_getElem? (i := 0) rfl)) N102 (fun T113 h113 X113 e113 W113 O113 K113 N113 F113 => ?_)
  refine W.aloadN X113 hx (hc hby D34 9 rfl) rfl rfl ?_
  refine W.iconst X113 hx (hc hby D34 10 rfl) (v := 0) rfl ?_
  have F114 := Exa.wr W113 F111
  have F115 := Fld.other W113 (Fld.ext E103 (Fld.other W102 P1 (Or.inr (slot_ne (Or.inl (wk hw 189 rfl)) (Or.inl (wk hw 185 rfl)) (by decide) (t := .int) (t' := .int) (by decide) (by decide))))) (Or.inr (slot_ne (Or.inl (wk hw 189 rfl)) (Or.inl (wk hw 187 rfl)) (by decide) (t := .int) (t' := (.array .int)) (by decide) (by decide)))
  refine W.putF X113 hx hZ hown (host := "") (Or.inl (wk hw 188 rfl)) Via.refl e113 F115 F114 (Or.inl (wk hw 189 rfl)) (wk hw 177 rfl) (ty := .int) (by decide) rfl rfl (hc hby D34 11 rfl) O113 g_a1 K113 (Or.inl (List.mem_of_getElem? (i := 0) rfl)) N113 (fun T116 h116 X116 e116 W116 O116 K116 N116 F116 => ?_)
  have F117 := Fld.other W116 (Fld.other W113 (Fld.ext E103 F102) (Or.inr (slot_ne (Or.inl (wk hw 185 rfl)) (Or.inl (wk hw 187 rfl)) (by decide) (t := .int) (t' := (.array .int)) (by decide) (by decide)))) (Or.inr (slot_ne (Or.inl (wk hw 185 rfl)) (Or.inl (wk hw 189 rfl)) (by decide) (t := .int) (t' := .int) (by decide) (by decide)))
  have F118 := (F110.other W113 (Ne.symm ne105)).other W116 (Ne.symm ne105)
  have F119 := Fld.other W116 F113 (Or.inr (slot_ne (Or.inl (wk hw 187 rfl)) (Or.inl (wk hw 189 rfl)) (by decide) (t := (.array .int)) (t' := .int) (by decide) (by decide)))
  have F120 := Exa.wr W116 F114
  exact Win.retV X116 hx hlk hret (hc hby D34 12 rfl) (by decide) (by decide) (by (try rw [e116]); exact ⟨b103, k103, rfl, N116, K116, z107, F116, F117, F118, F119, F120⟩)
abbrev R_xMutabl_init2 : Room := ⟨1, 0, 0, 12⟩
theorem xMutabl_init2 (l : Launch) (Z : State) (a0 : Array Value) (hw : ∀ d ∈ tables_1, d.before a0 Z = true) (SS : Stat Z) (ix : Fin 6) (a1 : Addr) (a2 : Addr) (k_a2 : ClassId) (h0 : Heap) (n0 : Nat) (O0 : Old Z n0 h0) (P0 : Exa Z h0 a1 "java/math/MutableBigInteger") (P1 : Fld Z h0 a1 "java/math/MutableBigInteger" "intLen" "I" (.int (0 : Int32))) (P2 : Fld Z h0 a1 "java/math/MutableBigInteger" "offset" "I" (.int (0 : Int32))) (P3 : Fld Z h0 a1 "java/math/MutableBigInteger" "value" "[I" .null) (P4 : Arv Z h0 a2 k_a2 .int (1 : Int32) [(.int (vI ix [2000000000, -294967296, 2000000000, 2000000000, 2000000000, 2000000000]))] (.int (0 : Int32))) (hcl : ix.val < 2) (g_a1 : n0 ≤ a1) :
    MetN l Z (⟨"java/math/MutableBigInteger", "<init>", "([I)V"⟩ : MethodName) jdk_2101_method_3_code 2 none R_xMutabl_init2 [] #[(.ref a1), (.ref a2)] h0 (fun v h L => v = none ∧ Fr n0 L ∧ Keep h0 h [a1] ∧ Fld Z h a1 "java/math/MutableBigInteger" "intLen" "I" (.int (1 : Int32)) ∧ Fld Z h a1 "java/math/MutableBigInteger" "offset" "I" (.int (0 : Int32)) ∧ Fld Z h a1 "java/math/MutableBigInteger" "value" "[I" (.ref a2) ∧ Exa Z h a1 "java/math/MutableBigInteger") := by
  refine MetN.walk (plainFor_of_name pn_35) ?_
  intro p e s m below meth c s₁ hx hZ hby hml hown hnm hret hlk X0 e0
  have N0 := Fr.nil n0
  refine Win.to s₁ (mkF m 0 #[.val (.ref a1), .val (.ref a2)] []) (fun _ k => castTop rfl k) ?_
  refine W.aloadN X0 hx (hc hby D35 0 rfl) rfl rfl ?_
  obtain ⟨T101, X101, e101, st101⟩ := initO X0 hx hZ hown (wk hw 183 rfl) (wk hw 7 rfl) (wk hw 8 rfl) e0 (g := (mkF m 1 #[.val (.ref a1), .val (.ref a2)] [(.ref a1)])) rfl (by rw [hml]; rfl) rfl (hc hby D35 1 rfl) (by decide) (W := 0) (by show 2 * 0 + _ ≤ _; exact Nat.le_of_eq rfl) (by decide)
  refine Win.to T101 (mkF m 4 #[.val (.ref a1), .val (.ref a2)] []) (fun _ k => st101 _ k) ?_
  refine W.aloadN X101 hx (hc hby D35 2 rfl) rfl rfl ?_
  refine W.iconst X101 hx (hc hby D35 3 rfl) (v := 0) rfl ?_
  have ne102 : a1 ≠ a2 := (Exa.neArv P0 P4 (wk hw 177 rfl))
  refine W.putF X101 hx hZ hown (host := "") (Or.inl (wk hw 184 rfl)) Via.refl e101 P2 P0 (Or.inl (wk hw 185 rfl)) (wk hw 177 rfl) (ty := .int) (by decide) rfl rfl (hc hby D35 4 rfl) O0 g_a1 (Keep.refl h0 [a1]) (Or.inl (List.mem_of_getElem? (i := 0) rfl)) N0 (fun T103 h103 X103 e103 W103 O103 K103 N103 F103 => ?_)
  refine W.aloadN X103 hx (hc hby D35 5 rfl) rfl rfl ?_
  refine W.aloadN X103 hx (hc hby D35 6 rfl) rfl rfl ?_
  have F104 := Exa.wr W103 P0
  have F105 := Fld.other W103 P3 (Or.inr (slot_ne (Or.inl (wk hw 187 rfl)) (Or.inl (wk hw 185 rfl)) (by decide) (t := (.array .int)) (t' := .int) (by decide) (by decide)))
  refine W.putF X103 hx hZ hown (host := "") (Or.inl (wk hw 186 rfl)) Via.refl e103 F105 F104 (Or.inl (wk hw 187 rfl)) (wk hw 177 rfl) (ty := (.array .int)) (by decide) rfl rfl (hc hby D35 7 rfl) O103 g_a1 K103 (Or.inl (List.mem_of_getElem? (i := 0) rfl)) N103 (fun T106 h106 X106 e106 W106 O106 K106 N106 F106 => ?_)
  refine W.aloadN X106 hx (hc hby D35 8 rfl) rfl rfl ?_
  refine W.aloadN X106 hx (hc hby D35 9 rfl) rfl rfl ?_
  have F107 := (P4.other W103 (Ne.symm ne102)).other W106 (Ne.symm ne102)
  obtain ⟨cl108, Ar108, -, S108, N108, -, -⟩ := id F107
  refine Win.to T106 (mkF m 17 #[.val (.ref a1), .val (.ref a2)] [(.int (1 : Int32)), (.ref a1)]) (fun _ k => X106.arraylength hx (by rw [e106]; exact Ar108.1) (State.isArrayOf_alike hZ.alike Ar108.2.1) (g := (mkF m 16 #[.val (.ref a1), .val (.ref a2)] [(.ref a2), (.ref a1)])) rfl rfl (hc hby D35 10 rfl) _ (by rw [len_of S108 N108]; exact k)) ?_
  have F109 := Exa.wr W106 F104
  have F110 := Fld.other W106 (Fld.other W103 P1 (Or.inr (slot_ne (Or.inl (wk hw 189 rfl)) (Or.inl (wk hw 185 rfl)) (by decide) (t := .int) (t' := .int) (by decide) (by decide)))) (Or.inr (slot_ne (Or.inl (wk hw 189 rfl)) (Or.inl (wk hw 187 rfl)) (by decide) (t := .int) (t' := (.array .int)) (by decide) (by decide)))
  refine W.putF X106 hx hZ hown (host := "") (Or.inl (wk hw 188 rfl)) Via.refl e106 F110 F109 (Or.inl (wk hw 189 rfl)) (wk hw 177 rfl) (ty := .int) (by decide) rfl rfl (hc hby D35 11 rfl) O106 g_a1 K106 (Or.inl (List.mem_of_getElem? (i := 0) rfl)) N106 (fun T111 h111 X111 e111 W111 O111 K111 N111 F111 => ?_)
  have F112 := Fld.other W111 (Fld.other W106 F103 (Or.inr (slot_ne (Or.inl (wk hw 185 rfl)) (Or.inl (wk hw 187 rfl)) (by decide) (t := .int) (t' := (.array .int)) (by decide) (by decide)))) (Or.inr (slot_ne (Or.inl (wk hw 185 rfl)) (Or.inl (wk hw 189 rfl)) (by decide) (t := .int) (t' := .int) (by decide) (by decide)))
  have F113 := Fld.other W111 F106 (Or.inr (slot_ne (Or.inl (wk hw 187 rfl)) (Or.inl (wk hw 189 rfl)) (by decide) (t := (.array .int)) (t' := .int) (by decide) (by decide)))
  have F114 := Exa.wr W111 F109
  exact Win.retV X111 hx hlk hret (hc hby D35 12 rfl) (by decide) (by decide) (by (try rw [e111]); exact ⟨rfl, N111, K111, F111, F112, F113, F114⟩)
abbrev R_xMutabl_init3 : Room := ⟨1, 0, 0, 12⟩
theorem xMutabl_init3 (l : Launch) (Z : State) (a0 : Array Value) (hw : ∀ d ∈ tables_1, d.before a0 Z = true) (SS : Stat Z) (a1 : Addr) (a2 : Addr) (k_a2 : ClassId) (h0 : Heap) (n0 : Nat) (O0 : Old Z n0 h0) (P0 : Exa Z h0 a1 "java/math/MutableBigInteger") (P1 : Fld Z h0 a1 "java/math/MutableBigInteger" "intLen" "I" (.int (0 : Int32))) (P2 : Fld Z h0 a1 "java/math/MutableBigInteger" "offset" "I" (.int (0 : Int32))) (P3 : Fld Z h0 a1 "java/math/MutableBigInteger" "value" "[I" .null) (P4 : Arv Z h0 a2 k_a2 .int (1 : Int32) [(.int (1000000000 : Int32))] (.int (0 : Int32))) (g_a1 : n0 ≤ a1) :
    MetN l Z (⟨"java/math/MutableBigInteger", "<init>", "([I)V"⟩ : MethodName) jdk_2101_method_3_code 2 none R_xMutabl_init3 [] #[(.ref a1), (.ref a2)] h0 (fun v h L => v = none ∧ Fr n0 L ∧ Keep h0 h [a1] ∧ Fld Z h a1 "java/math/MutableBigInteger" "intLen" "I" (.int (1 : Int32)) ∧ Fld Z h a1 "java/math/MutableBigInteger" "offset" "I" (.int (0 : Int32)) ∧ Fld Z h a1 "java/math/MutableBigInteger" "value" "[I" (.ref a2) ∧ Exa Z h a1 "java/math/MutableBigInteger") := by
  refine MetN.walk (plainFor_of_name pn_35) ?_
  intro p e s m below meth c s₁ hx hZ hby hml hown hnm hret hlk X0 e0
  have N0 := Fr.nil n0
  refine Win.to s₁ (mkF m 0 #[.val (.ref a1), .val (.ref a2)] []) (fun _ k => castTop rfl k) ?_
  refine W.aloadN X0 hx (hc hby D35 0 rfl) rfl rfl ?_
  obtain ⟨T101, X101, e101, st101⟩ := initO X0 hx hZ hown (wk hw 183 rfl) (wk hw 7 rfl) (wk hw 8 rfl) e0 (g := (mkF m 1 #[.val (.ref a1), .val (.ref a2)] [(.ref a1)])) rfl (by rw [hml]; rfl) rfl (hc hby D35 1 rfl) (by decide) (W := 0) (by show 2 * 0 + _ ≤ _; exact Nat.le_of_eq rfl) (by decide)
  refine Win.to T101 (mkF m 4 #[.val (.ref a1), .val (.ref a2)] []) (fun _ k => st101 _ k) ?_
  refine W.aloadN X101 hx (hc hby D35 2 rfl) rfl rfl ?_
  refine W.iconst X101 hx (hc hby D35 3 rfl) (v := 0) rfl ?_
  have ne102 : a1 ≠ a2 := (Exa.neArv P0 P4 (wk hw 177 rfl))
  refine W.putF X101 hx hZ hown (host := "") (Or.inl (wk hw 184 rfl)) Via.refl e101 P2 P0 (Or.inl (wk hw 185 rfl)) (wk hw 177 rfl) (ty := .int) (by decide) rfl rfl (hc hby D35 4 rfl) O0 g_a1 (Keep.refl h0 [a1]) (Or.inl (List.mem_of_getElem? (i := 0) rfl)) N0 (fun T103 h103 X103 e103 W103 O103 K103 N103 F103 => ?_)
  refine W.aloadN X103 hx (hc hby D35 5 rfl) rfl rfl ?_
  refine W.aloadN X103 hx (hc hby D35 6 rfl) rfl rfl ?_
  have F104 := Exa.wr W103 P0
  have F105 := Fld.other W103 P3 (Or.inr (slot_ne (Or.inl (wk hw 187 rfl)) (Or.inl (wk hw 185 rfl)) (by decide) (t := (.array .int)) (t' := .int) (by decide) (by decide)))
  refine W.putF X103 hx hZ hown (host := "") (Or.inl (wk hw 186 rfl)) Via.refl e103 F105 F104 (Or.inl (wk hw 187 rfl)) (wk hw 177 rfl) (ty := (.array .int)) (by decide) rfl rfl (hc hby D35 7 rfl) O103 g_a1 K103 (Or.inl (List.mem_of_getElem? (i := 0) rfl)) N103 (fun T106 h106 X106 e106 W106 O106 K106 N106 F106 => ?_)
  refine W.aloadN X106 hx (hc hby D35 8 rfl) rfl rfl ?_
  refine W.aloadN X106 hx (hc hby D35 9 rfl) rfl rfl ?_
  have F107 := (P4.other W103 (Ne.symm ne102)).other W106 (Ne.symm ne102)
  obtain ⟨cl108, Ar108, -, S108, N108, -, -⟩ := id F107
  refine Win.to T106 (mkF m 17 #[.val (.ref a1), .val (.ref a2)] [(.int (1 : Int32)), (.ref a1)]) (fun _ k => X106.arraylength hx (by rw [e106]; exact Ar108.1) (State.isArrayOf_alike hZ.alike Ar108.2.1) (g := (mkF m 16 #[.val (.ref a1), .val (.ref a2)] [(.ref a2), (.ref a1)])) rfl rfl (hc hby D35 10 rfl) _ (by rw [len_of S108 N108]; exact k)) ?_
  have F109 := Exa.wr W106 F104
  have F110 := Fld.other W106 (Fld.other W103 P1 (Or.inr (slot_ne (Or.inl (wk hw 189 rfl)) (Or.inl (wk hw 185 rfl)) (by decide) (t := .int) (t' := .int) (by decide) (by decide)))) (Or.inr (slot_ne (Or.inl (wk hw 189 rfl)) (Or.inl (wk hw 187 rfl)) (by decide) (t := .int) (t' := (.array .int)) (by decide) (by decide)))
  refine W.putF X106 hx hZ hown (host := "") (Or.inl (wk hw 188 rfl)) Via.refl e106 F110 F109 (Or.inl (wk hw 189 rfl)) (wk hw 177 rfl) (ty := .int) (by decide) rfl rfl (hc hby D35 11 rfl) O106 g_a1 K106 (Or.inl (List.mem_of_getElem? (i := 0) rfl)) N106 (fun T111 h111 X111 e111 W111 O111 K111 N111 F111 => ?_)
  have F112 := Fld.other W111 (Fld.other W106 F103 (Or.inr (slot_ne (Or.inl (wk hw 185 rfl)) (Or.inl (wk hw 187 rfl)) (by decide) (t := .int) (t' := (.array .int)) (by decide) (by decide)))) (Or.inr (slot_ne (Or.inl (wk hw 185 rfl)) (Or.inl (wk hw 189 rfl)) (by decide) (t := .int) (t' := .int) (by decide) (by decide)))
  have F113 := Fld.other W111 F106 (Or.inr (slot_ne (Or.inl (wk hw 187 rfl)) (Or.inl (wk hw 189 rfl)) (by decide) (t := (.array .int)) (t' := .int) (by decide) (by decide)))
  have F114 := Exa.wr W111 F109
  exact Win.retV X111 hx hlk hret (hc hby D35 12 rfl) (by decide) (by decide) (by (try rw [e111]); exact ⟨rfl, N111, K111, F111, F112, F113, F114⟩)
abbrev R_xMutabl_compare1 : Room := ⟨0, 0, 0, 0⟩
theorem xMutabl_compare1 (l : Launch) (Z : State) (a0 : Array Value) (hw : ∀ d ∈ tables_1, d.before a0 Z = true) (SS : Stat Z) (ix : Fin 6) (a1 : Addr) (a2 : Addr) (a3 : Addr) (a4 : Addr) (k_a3 : ClassId) (k_a4 : ClassId) (h0 : Heap) (n0 : Nat) (O0 : Old Z n0 h0) (P0 : Fld Z h0 a1 "java/math/MutableBigInteger" "intLen" "I" (.int (1 : Int32))) (P1 : Fld Z h0 a1 "java/math/MutableBigInteger" "offset" "I" (.int (0 : Int32))) (P2 : Fld Z h0 a1 "java/math/MutableBigInteger" "value" "[I" (.ref a3)) (P3 : Fld Z h0 a2 "java/math/MutableBigInteger" "intLen" "I" (.int (1 : Int32))) (P4 : Fld Z h0 a2 "java/math/MutableBigInteger" "offset" "I" (.int (0 : Int32))) (P5 : Fld Z h0 a2 "java/math/MutableBigInteger" "value" "[I" (.ref a4)) (P6 : Arv Z h0 a3 k_a3 .int (1 : Int32) [(.int (vI ix [2000000000, -294967296, 2000000000, 2000000000, 2000000000, 2000000000]))] (.int (0 : Int32))) (P7 : Arv Z h0 a4 k_a4 .int (1 : Int32) [(.int (1000000000 : Int32))] (.int (0 : Int32))) (hcl : ix.val < 2) :
    MetN l Z (⟨"java/math/MutableBigInteger", "compare", "(Ljava/math/MutableBigInteger;)I"⟩ : MethodName) jdk_2101_method_15_code 8 (some .int) R_xMutabl_compare1 [] #[(.ref a1), (.ref a2)] h0 (fun v h L => v = some (.int (1 : Int32)) ∧ Fr n0 L ∧ h = h0) := by
  refine MetN.walk (plainFor_of_name pn_38) ?_
  intro p e s m below meth c s₁ hx hZ hby hml hown hnm hret hlk X0 e0
  have N0 := Fr.nil n0
  refine Win.to s₁ (mkF m 0 #[.val (.ref a1), .val (.ref a2), .unset, .unset, .unset, .unset, .unset, .unset] []) (fun _ k => castTop rfl k) ?_
  refine W.aloadN X0 hx (hc hby D38 0 rfl) rfl rfl ?_
  refine W.getF X0 hx hZ hown (host := "") (Or.inl (wk hw 188 rfl)) Via.refl e0 P3 (hc hby D38 1 rfl) (fun T101 X101 e101 => ?_)
  refine W.istoreN X101 hx (hc hby D38 2 rfl) (l' := #[.val (.ref a1), .val (.ref a2), .val (.int (1 : Int32)), .unset, .unset, .unset, .unset, .unset]) rfl ?_
  refine W.aloadN X101 hx (hc hby D38 3 rfl) rfl rfl ?_
  refine W.getF X101 hx hZ hown (host := "") (Or.inl (wk hw 188 rfl)) Via.refl e101 P0 (hc hby D38 4 rfl) (fun T102 X102 e102 => ?_)
  refine W.iloadN X102 hx (hc hby D38 5 rfl) rfl ?_
  refine W.icmpYes X102 hx (hc hby D38 6 rfl) (by decide) (by decide) (pc' := 15) rfl ?_
  refine W.aloadN X102 hx (hc hby D38 7 rfl) rfl rfl ?_
  refine W.getF X102 hx hZ hown (host := "") (Or.inl (wk hw 188 rfl)) Via.refl e102 P0 (hc hby D38 8 rfl) (fun T103 X103 e103 => ?_)
  refine W.iloadN X103 hx (hc hby D38 9 rfl) rfl ?_
  refine W.icmpYes X103 hx (hc hby D38 10 rfl) (by decide) (by decide) (pc' := 25) rfl ?_
  refine W.aloadN X103 hx (hc hby D38 11 rfl) rfl rfl ?_
  refine W.getF X103 hx hZ hown (host := "") (Or.inl (wk hw 186 rfl)) Via.refl e103 P5 (hc hby D38 12 rfl) (fun T104 X104 e104 => ?_)
  refine W.astoreN X104 hx (hc hby D38 13 rfl) rfl (l' := #[.val (.ref a1), .val (.ref a2), .val (.int (1 : Int32)), .val (.ref a4), .unset, .unset, .unset, .unset]) rfl ?_
  refine W.aloadN X104 hx (hc hby D38 14 rfl) rfl rfl ?_
  refine W.getF X104 hx hZ hown (host := "") (Or.inl (wk hw 184 rfl)) Via.refl e104 P1 (hc hby D38 15 rfl) (fun T105 X105 e105 => ?_)
  refine W.istore X105 hx (hc hby D38 16 rfl) (l' := #[.val (.ref a1), .val (.ref a2), .val (.int (1 : Int32)), .val (.ref a4), .val (.int (0 : Int32)), .unset, .unset, .unset]) rfl ?_
  refine W.aloadN X105 hx (hc hby D38 17 rfl) rfl rfl ?_
  refine W.getF X105 hx hZ hown (host := "") (Or.inl (wk hw 184 rfl)) Via.refl e105 P4 (hc hby D38 18 rfl) (fun T106 X106 e106 => ?_)
  refine W.istore X106 hx (hc hby D38 19 rfl) (l' := #[.val (.ref a1), .val (.ref a2), .val (.int (1 : Int32)), .val (.ref a4), .val (.int (0 : Int32)), .val (.int (0 : Int32)), .unset, .unset]) rfl ?_
  refine W.iload X106 hx (hc hby D38 20 rfl) rfl ?_
  refine W.aloadN X106 hx (hc hby D38 21 rfl) rfl rfl ?_
  refine W.getF X106 hx hZ hown (host := "") (Or.inl (wk hw 188 rfl)) Via.refl e106 P0 (hc hby D38 22 rfl) (fun T107 X107 e107 => ?_)
  refine W.aloadN X107 hx (hc hby D38 23 rfl) rfl rfl ?_
  refine W.getF X107 hx hZ hown (host := "") (Or.inl (wk hw 184 rfl)) Via.refl e107 P1 (hc hby D38 24 rfl) (fun T108 X108 e108 => ?_)
  refine W.iadd X108 hx (hc hby D38 25 rfl) (v := (1 : Int32)) (by decide) ?_
  refine W.icmpNo X108 hx (hc hby D38 26 rfl) (by decide) ?_
  refine W.aloadN X108 hx (hc hby D38 27 rfl) rfl rfl ?_
  refine W.getF X108 hx hZ hown (host := "") (Or.inl (wk hw 186 rfl)) Via.refl e108 P2 (hc hby D38 28 rfl) (fun T109 X109 e109 => ?_)
  refine W.iload X109 hx (hc hby D38 29 rfl) rfl ?_
  obtain ⟨cl110, Ar110, q110, S110, N110, H110, G110⟩ := id P6
  have hi110 : ¬ ((0 : Int32) < 0 ∨ cl110.slots.size ≤ ((0 : Int32)).toNatClampNeg) := inb_of S110 ⟨by decide, by decide⟩
  refine Win.to T109 (mkF m 63 #[.val (.ref a1), .val (.ref a2), .val (.int (1 : Int32)), .val (.ref a4), .val (.int (0 : Int32)), .val (.int (0 : Int32)), .unset, .unset] [(.int (vI ix [2000000000, -294967296, 2000000000, 2000000000, 2000000000, 2000000000]))]) (fun _ k => X109.iaload hx (j := (0 : Int32)) (v := (.int (vI ix [2000000000, -294967296, 2000000000, 2000000000, 2000000000, 2000000000]))) (by rw [e109]; exact Ar110.1) (State.isArrayOf_alike hZ.alike Ar110.2.1) Ar110.2.2 hi110 (Has.at H110 hi110 rfl) (g := (mkF m 62 #[.val (.ref a1), .val (.ref a2), .val (.int (1 : Int32)), .val (.ref a4), .val (.int (0 : Int32)), .val (.int (0 : Int32)), .unset, .unset] [(.int (0 : Int32)), (.ref a3)])) rfl rfl (hc hby D38 30 rfl) _ k) ?_
  refine W.ldc1 X109 hx (hc hby D38 31 rfl) hown (mvT hZ (wk hw 208 rfl)) ?_
  refine W.iadd X109 hx (hc hby D38 32 rfl) (v := (vI ix [-147483648, 1852516352, -147483648, -147483648, -147483648, -147483648])) ((show ∀ ix : Fin 6, ix.val < 2 → (vI ix [2000000000, -294967296, 2000000000, 2000000000, 2000000000, 2000000000]) + (-2147483648 : Int32) = (vI ix [-147483648, 1852516352, -147483648, -147483648, -147483648, -147483648]) from by decide +kernel) ix hcl) ?_
  refine W.istore X109 hx (hc hby D38 33 rfl) (l' := #[.val (.ref a1), .val (.ref a2), .val (.int (1 : Int32)), .val (.ref a4), .val (.int (0 : Int32)), .val (.int (0 : Int32)), .val (.int (vI ix [-147483648, 1852516352, -147483648, -147483648, -147483648, -147483648])), .unset]) rfl ?_
  refine W.aloadN X109 hx (hc hby D38 34 rfl) rfl rfl ?_
  refine W.iload X109 hx (hc hby D38 35 rfl) rfl ?_
  obtain ⟨cl111, Ar111, q111, S111, N111, H111, G111⟩ := id P7
  have hi111 : ¬ ((0 : Int32) < 0 ∨ cl111.slots.size ≤ ((0 : Int32)).toNatClampNeg) := inb_of S111 ⟨by decide, by decide⟩
  refine Win.to T109 (mkF m 72 #[.val (.ref a1), .val (.ref a2), .val (.int (1 : Int32)), .val (.ref a4), .val (.int (0 : Int32)), .val (.int (0 : Int32)), .val (.int (vI ix [-147483648, 1852516352, -147483648, -147483648, -147483648, -147483648])), .unset] [(.int (1000000000 : Int32))]) (fun _ k => X109.iaload hx (j := (0 : Int32)) (v := (.int (1000000000 : Int32))) (by rw [e109]; exact Ar111.1) (State.isArrayOf_alike hZ.alike Ar111.2.1) Ar111.2.2 hi111 (Has.at H111 hi111 rfl) (g := (mkF m 71 #[.val (.ref a1), .val (.ref a2), .val (.int (1 : Int32)), .val (.ref a4), .val (.int (0 : Int32)), .val (.int (0 : Int32)), .val (.int (vI ix [-147483648, 1852516352, -147483648, -147483648, -147483648, -147483648])), .unset] [(.int (0 : Int32)), (.ref a4)])) rfl rfl (hc hby D38 36 rfl) _ k) ?_
  refine W.ldc1 X109 hx (hc hby D38 37 rfl) hown (mvT hZ (wk hw 208 rfl)) ?_
  refine W.iadd X109 hx (hc hby D38 38 rfl) (v := (-1147483648 : Int32)) (by decide) ?_
  refine W.istore X109 hx (hc hby D38 39 rfl) (l' := #[.val (.ref a1), .val (.ref a2), .val (.int (1 : Int32)), .val (.ref a4), .val (.int (0 : Int32)), .val (.int (0 : Int32)), .val (.int (vI ix [-147483648, 1852516352, -147483648, -147483648, -147483648, -147483648])), .val (.int (-1147483648 : Int32))]) rfl ?_
  refine W.iload X109 hx (hc hby D38 40 rfl) rfl ?_
  refine W.iload X109 hx (hc hby D38 41 rfl) rfl ?_
  refine W.icmpYes X109 hx (hc hby D38 42 rfl) ((show ∀ ix : Fin 6, ix.val < 2 → if_icmp.holds .ge (vI ix [-147483648, 1852516352, -147483648, -147483648, -147483648, -147483648]) (-1147483648 : Int32) = true from by decide +kernel) ix hcl) (by decide) (pc' := 86) rfl ?_
  refine W.iload X109 hx (hc hby D38 43 rfl) rfl ?_
  refine W.iload X109 hx (hc hby D38 44 rfl) rfl ?_
  refine W.icmpNo X109 hx (hc hby D38 45 rfl) ((show ∀ ix : Fin 6, ix.val < 2 → if_icmp.holds .le (vI ix [-147483648, 1852516352, -147483648, -147483648, -147483648, -147483648]) (-1147483648 : Int32) = false from by decide +kernel) ix hcl) ?_
  refine W.iconst X109 hx (hc hby D38 46 rfl) (v := 1) rfl ?_
  exact Win.retI X109 hx hlk hret (hc hby D38 47 rfl) (by decide) (by decide) (by (try rw [e109]); exact ⟨rfl, N0, rfl⟩)
abbrev R_xMutabl_clear1 : Room := ⟨0, 0, 0, 0⟩
theorem xMutabl_clear1 (l : Launch) (Z : State) (a0 : Array Value) (hw : ∀ d ∈ tables_1, d.before a0 Z = true) (SS : Stat Z) (a1 : Addr) (a2 : Addr) (k_a2 : ClassId) (h0 : Heap) (n0 : Nat) (O0 : Old Z n0 h0) (P0 : Exa Z h0 a1 "java/math/MutableBigInteger") (P1 : Fld Z h0 a1 "java/math/MutableBigInteger" "intLen" "I" (.int (0 : Int32))) (P2 : Fld Z h0 a1 "java/math/MutableBigInteger" "offset" "I" (.int (0 : Int32))) (P3 : Fld Z h0 a1 "java/math/MutableBigInteger" "value" "[I" (.ref a2)) (P4 : Arv Z h0 a2 k_a2 .int (1 : Int32) [(.int (0 : Int32))] (.int (0 : Int32))) (g_a1 : n0 ≤ a1) (g_a2 : n0 ≤ a2) :
    MetN l Z (⟨"java/math/MutableBigInteger", "clear", "()V"⟩ : MethodName) jdk_2101_method_13_code 3 none R_xMutabl_clear1 [] #[(.ref a1)] h0 (fun v h L => v = none ∧ Fr n0 L ∧ Keep h0 h [a1, a2] ∧ Fld Z h a1 "java/math/MutableBigInteger" "intLen" "I" (.int (0 : Int32)) ∧ Fld Z h a1 "java/math/MutableBigInteger" "offset" "I" (.int (0 : Int32)) ∧ Fld Z h a1 "java/math/MutableBigInteger" "value" "[I" (.ref a2) ∧ Exa Z h a1 "java/math/MutableBigInteger" ∧ Arv Z h a2 k_a2 .int (1 : Int32) [(.int (0 : Int32))] (.int (0 : Int32))) := by
  refine MetN.walk (plainFor_of_name pn_39) ?_
  intro p e s m below meth c s₁ hx hZ hby hml hown hnm hret hlk X0 e0
  have N0 := Fr.nil n0
  refine Win.to s₁ (mkF m 0 #[.val (.ref a1), .unset, .unset] []) (fun _ k => castTop rfl k) ?_
  refine W.aloadN X0 hx (hc hby D39 0 rfl) rfl rfl ?_
  refine W.aloadN X0 hx (hc hby D39 1 rfl) rfl rfl ?_
  refine W.iconst X0 hx (hc hby D39 2 rfl) (v := 0) rfl ?_
  refine Win.to s₁ (mkF m 4 #[.val (.ref a1), .unset, .unset] [(.int (0 : Int32)), (.ref a1), (.int (0 : Int32)), (.ref a1)]) (fun _ k => XS.dupX1 X0.here hx rfl (hc hby D39 3 rfl) rfl rfl rfl k) ?_
  have ne101 : a1 ≠ a2 := (Exa.neArv P0 P4 (wk hw 177 rfl))
  refine W.putF X0 hx hZ hown (host := "") (Or.inl (wk hw 188 rfl)) Via.refl e0 P1 P0 (Or.inl (wk hw 189 rfl)) (wk hw 177 rfl) (ty := .int) (by decide) rfl rfl (hc hby D39 4 rfl) O0 g_a1 (Keep.refl h0 [a1, a2]) (Or.inl (List.mem_of_getElem? (i := 0) rfl)) N0 (fun T102 h102 X102 e102 W102 O102 K102 N102 F102 => ?_)
  have F103 := Exa.wr W102 P0
  have F104 := Fld.other W102 P2 (Or.inr (slot_ne (Or.inl (wk hw 185 rfl)) (Or.inl (wk hw 189 rfl)) (by decide) (t := .int) (t' := .int) (by decide) (by decide)))
  refine W.putF X102 hx hZ hown (host := "") (Or.inl (wk hw 184 rfl)) Via.refl e102 F104 F103 (Or.inl (wk hw 185 rfl)) (wk hw 177 rfl) (ty := .int) (by decide) rfl rfl (hc hby D39 5 rfl) O102 g_a1 K102 (Or.inl (List.mem_of_getElem? (i := 0) rfl)) N102 (fun T105 h105 X105 e105 W105 O105 K105 N105 F105 => ?_)
  refine W.iconst X105 hx (hc hby D39 6 rfl) (v := 0) rfl ?_
  refine W.istoreN X105 hx (hc hby D39 7 rfl) (l' := #[.val (.ref a1), .val (.int (0 : Int32)), .unset]) rfl ?_
  refine W.aloadN X105 hx (hc hby D39 8 rfl) rfl rfl ?_
  have F106 := Fld.other W105 (Fld.other W102 P3 (Or.inr (slot_ne (Or.inl (wk hw 187 rfl)) (Or.inl (wk hw 189 rfl)) (by decide) (t := (.array .int)) (t' := .int) (by decide) (by decide)))) (Or.inr (slot_ne (Or.inl (wk hw 187 rfl)) (Or.inl (wk hw 185 rfl)) (by decide) (t := (.array .int)) (t' := .int) (by decide) (by decide)))
  refine W.getF X105 hx hZ hown (host := "") (Or.inl (wk hw 186 rfl)) Via.refl e105 F106 (hc hby D39 9 rfl) (fun T107 X107 e107 => ?_)
  have F108 := (P4.other W102 (Ne.symm ne101)).other W105 (Ne.symm ne101)
  obtain ⟨cl109, Ar109, -, S109, N109, -, -⟩ := id F108
  refine Win.to T107 (mkF m 17 #[.val (.ref a1), .val (.int (0 : Int32)), .unset] [(.int (1 : Int32))]) (fun _ k => X107.arraylength hx (by rw [e107]; exact Ar109.1) (State.isArrayOf_alike hZ.alike Ar109.2.1) (g := (mkF m 16 #[.val (.ref a1), .val (.int (0 : Int32)), .unset] [(.ref a2)])) rfl rfl (hc hby D39 10 rfl) _ (by rw [len_of S109 N109]; exact k)) ?_
  refine W.istoreN X107 hx (hc hby D39 11 rfl) (l' := #[.val (.ref a1), .val (.int (0 : Int32)), .val (.int (1 : Int32))]) rfl ?_
  refine W.iloadN X107 hx (hc hby D39 12 rfl) rfl ?_
  refine W.iloadN X107 hx (hc hby D39 13 rfl) rfl ?_
  refine W.icmpNo X107 hx (hc hby D39 14 rfl) (by decide) ?_
  refine W.aloadN X107 hx (hc hby D39 15 rfl) rfl rfl ?_
  refine W.getF X107 hx hZ hown (host := "") (Or.inl (wk hw 186 rfl)) Via.refl e107 F106 (hc hby D39 16 rfl) (fun T110 X110 e110 => ?_)
  refine W.iloadN X110 hx (hc hby D39 17 rfl) rfl ?_
  refine W.iconst X110 hx (hc hby D39 18 rfl) (v := 0) rfl ?_
  obtain ⟨cl111, Ar111, q111, S111, N111, H111, G111⟩ := id F108
  have hi111 : ¬ ((0 : Int32) < 0 ∨ cl111.slots.size ≤ ((0 : Int32)).toNatClampNeg) := inb_of S111 ⟨by decide, by decide⟩
  obtain ⟨T112, h112, X112, e112, W112, st112⟩ := stI X110 hx hZ e110 Ar111 (j := (0 : Int32)) hi111 (g := (mkF m 29 #[.val (.ref a1), .val (.int (0 : Int32)), .val (.int (1 : Int32))] [(.int (0 : Int32)), (.int (0 : Int32)), (.ref a2)])) rfl rfl (hc hby D39 19 rfl)
  have O114 := Old.wr O105 W112 g_a2
  have K115 : Keep h0 h112 [a1, a2] := K105.wr W112 (Or.inl (List.mem_of_getElem? (i := 1) rfl))
  have N116 := Fr.snoc X112 N105 g_a2
  have F113 : Arv Z h112 a2 k_a2 .int (1 : Int32) [(.int (0 : Int32))] (.int (0 : Int32)) := Arv.set Ar111 q111 S111 N111 H111 G111 rfl W112 0 rfl (Nat.le_of_ble_eq_true rfl)
  refine Win.to T112 (mkF m 30 #[.val (.ref a1), .val (.int (0 : Int32)), .val (.int (1 : Int32))] []) (fun _ k => st112 _ k) ?_
  refine Win.to T112 (mkF m 33 #[.val (.ref a1), .val (.int (1 : Int32)), .val (.int (1 : Int32))] []) (fun _ k => XS.iinc X112.here hx rfl (hc hby D39 20 rfl) rfl (l' := #[.val (.ref a1), .val (.int (1 : Int32)), .val (.int (1 : Int32))]) rfl k) ?_
  refine W.goto X112 hx (hc hby D39 21 rfl) (by decide) (pc' := 18) rfl ?_
  refine W.iloadN X112 hx (hc hby D39 12 rfl) rfl ?_
  refine W.iloadN X112 hx (hc hby D39 13 rfl) rfl ?_
  refine W.icmpYes X112 hx (hc hby D39 14 rfl) (by decide) (by decide) (pc' := 36) rfl ?_
  have F117 := Fld.other W112 (Fld.other W105 F102 (Or.inr (slot_ne (Or.inl (wk hw 189 rfl)) (Or.inl (wk hw 185 rfl)) (by decide) (t := .int) (t' := .int) (by decide) (by decide)))) (Or.inl ne101)
  have F118 := Fld.other W112 F105 (Or.inl ne101)
  have F119 := Fld.other W112 F106 (Or.inl ne101)
  have F120 := Exa.wr W112 (Exa.wr W105 F103)
  exact Win.retV X112 hx hlk hret (hc hby D39 22 rfl) (by decide) (by decide) (by (try rw [e112]); exact ⟨rfl, N116, K115, F117, F118, F119, F120, F113⟩)
abbrev R_xMutabl_divideOneWord1 : Room := ⟨0, 0, 0, 0⟩
theorem xMutabl_divideOneWord1 (l : Launch) (Z : State) (a0 : Array Value) (hw : ∀ d ∈ tables_1, d.before a0 Z = true) (SS : Stat Z) (ix : Fin 6) (a1 : Addr) (a2 : Addr) (a3 : Addr) (a4 : Addr) (k_a3 : ClassId) (k_a4 : ClassId) (h0 : Heap) (n0 : Nat) (O0 : Old Z n0 h0) (P0 : Fld Z h0 a1 "java/math/MutableBigInteger" "intLen" "I" (.int (1 : Int32))) (P1 : Fld Z h0 a1 "java/math/MutableBigInteger" "offset" "I" (.int (0 : Int32))) (P2 : Fld Z h0 a1 "java/math/MutableBigInteger" "value" "[I" (.ref a3)) (P3 : Exa Z h0 a2 "java/math/MutableBigInteger") (P4 : Fld Z h0 a2 "java/math/MutableBigInteger" "intLen" "I" (.int (0 : Int32))) (P5 : Fld Z h0 a2 "java/math/MutableBigInteger" "offset" "I" (.int (0 : Int32))) (P6 : Fld Z h0 a2 "java/math/MutableBigInteger" "value" "[I" (.ref a4)) (P7 : Arv Z h0 a3 k_a3 .int (1 : Int32) [(.int (vI ix [2000000000, -294967296, 2000000000, 2000000000, 2000000000, 2000000000]))] (.int (0 : Int32))) (P8 : Arv Z h0 a4 k_a4 .int (1 : Int32) [(.int (0 : Int32))] (.int (0 : Int32))) (hcl : ix.val < 2) (ne_a3_a4 : a3 ≠ a4) (g_a2 : n0 ≤ a2) (g_a4 : n0 ≤ a4) :
    MetN l Z (⟨"java/math/MutableBigInteger", "divideOneWord", "(ILjava/math/MutableBigInteger;)I"⟩ : MethodName) jdk_2101_method_53_code 15 (some .int) R_xMutabl_divideOneWord1 [] #[(.ref a1), (.int (1000000000 : Int32)), (.ref a2)] h0 (fun v h L => v = some (.int (0 : Int32)) ∧ Fr n0 L ∧ Keep h0 h [a2, a4] ∧ Fld Z h a2 "java/math/MutableBigInteger" "intLen" "I" (.int (1 : Int32)) ∧ Fld Z h a2 "java/math/MutableBigInteger" "offset" "I" (.int (0 : Int32)) ∧ Fld Z h a2 "java/math/MutableBigInteger" "value" "[I" (.ref a4) ∧ Exa Z h a2 "java/math/MutableBigInteger" ∧ Arv Z h a4 k_a4 .int (1 : Int32) [(.int (vI ix [2, 4, 8, 16, 32, 60]))] (.int (0 : Int32))) := by
  refine MetN.walk (plainFor_of_name pn_40) ?_
  intro p e s m below meth c s₁ hx hZ hby hml hown hnm hret hlk X0 e0
  have N0 := Fr.nil n0
  refine Win.to s₁ (mkF m 0 #[.val (.ref a1), .val (.int (1000000000 : Int32)), .val (.ref a2), .unset, .unset, .unset, .unset, .unset, .unset, .unset, .unset, .unset, .unset, .unset, .unset] []) (fun _ k => castTop rfl k) ?_
  refine W.iloadN X0 hx (hc hby D40 0 rfl) rfl ?_
  refine W.i2l X0 hx (hc hby D40 1 rfl) (v := (1000000000 : Int64)) (by decide) ?_
  refine W.ldc2 X0 hx (hc hby D40 2 rfl) hown (mvT hZ (wk hw 219 rfl)) ?_
  refine W.land X0 hx (hc hby D40 3 rfl) (v := (1000000000 : Int64)) (by decide) ?_
  refine W.lstoreN X0 hx (hc hby D40 4 rfl) (l' := #[.val (.ref a1), .val (.int (1000000000 : Int32)), .val (.ref a2), .val (.long (1000000000 : Int64)), .second, .unset, .unset, .unset, .unset, .unset, .unset, .unset, .unset, .unset, .unset]) rfl ?_
  refine W.aloadN X0 hx (hc hby D40 5 rfl) rfl rfl ?_
  refine W.getF X0 hx hZ hown (host := "") (Or.inl (wk hw 188 rfl)) Via.refl e0 P0 (hc hby D40 6 rfl) (fun T101 X101 e101 => ?_)
  refine W.iconst X101 hx (hc hby D40 7 rfl) (v := 1) rfl ?_
  refine W.icmpNo X101 hx (hc hby D40 8 rfl) (by decide) ?_
  refine W.aloadN X101 hx (hc hby D40 9 rfl) rfl rfl ?_
  refine W.getF X101 hx hZ hown (host := "") (Or.inl (wk hw 186 rfl)) Via.refl e101 P2 (hc hby D40 10 rfl) (fun T102 X102 e102 => ?_)
  refine W.aloadN X102 hx (hc hby D40 11 rfl) rfl rfl ?_
  refine W.getF X102 hx hZ hown (host := "") (Or.inl (wk hw 184 rfl)) Via.refl e102 P1 (hc hby D40 12 rfl) (fun T103 X103 e103 => ?_)
  obtain ⟨cl104, Ar104, q104, S104, N104, H104, G104⟩ := id P7
  have hi104 : ¬ ((0 : Int32) < 0 ∨ cl104.slots.size ≤ ((0 : Int32)).toNatClampNeg) := inb_of S104 ⟨by decide, by decide⟩
  refine Win.to T103 (mkF m 24 #[.val (.ref a1), .val (.int (1000000000 : Int32)), .val (.ref a2), .val (.long (1000000000 : Int64)), .second, .unset, .unset, .unset, .unset, .unset, .unset, .unset, .unset, .unset, .unset] [(.int (vI ix [2000000000, -294967296, 2000000000, 2000000000, 2000000000, 2000000000]))]) (fun _ k => X103.iaload hx (j := (0 : Int32)) (v := (.int (vI ix [2000000000, -294967296, 2000000000, 2000000000, 2000000000, 2000000000]))) (by rw [e103]; exact Ar104.1) (State.isArrayOf_alike hZ.alike Ar104.2.1) Ar104.2.2 hi104 (Has.at H104 hi104 rfl) (g := (mkF m 23 #[.val (.ref a1), .val (.int (1000000000 : Int32)), .val (.ref a2), .val (.long (1000000000 : Int64)), .second, .unset, .unset, .unset, .unset, .unset, .unset, .unset, .unset, .unset, .unset] [(.int (0 : Int32)), (.ref a3)])) rfl rfl (hc hby D40 13 rfl) _ k) ?_
  refine W.i2l X103 hx (hc hby D40 14 rfl) (v := (vJ ix [2000000000, -294967296, 2000000000, 2000000000, 2000000000, 2000000000])) ((show ∀ ix : Fin 6, ix.val < 2 → (vI ix [2000000000, -294967296, 2000000000, 2000000000, 2000000000, 2000000000]).toInt64 = (vJ ix [2000000000, -294967296, 2000000000, 2000000000, 2000000000, 2000000000]) from by decide +kernel) ix hcl) ?_
  refine W.ldc2 X103 hx (hc hby D40 15 rfl) hown (mvT hZ (wk hw 219 rfl)) ?_
  refine W.land X103 hx (hc hby D40 16 rfl) (v := (vJ ix [2000000000, 4000000000, 2000000000, 2000000000, 2000000000, 2000000000])) ((show ∀ ix : Fin 6, ix.val < 2 → (vJ ix [2000000000, -294967296, 2000000000, 2000000000, 2000000000, 2000000000]) &&& (4294967295 : Int64) = (vJ ix [2000000000, 4000000000, 2000000000, 2000000000, 2000000000, 2000000000]) from by decide +kernel) ix hcl) ?_
  refine W.lstore X103 hx (hc hby D40 17 rfl) (l' := #[.val (.ref a1), .val (.int (1000000000 : Int32)), .val (.ref a2), .val (.long (1000000000 : Int64)), .second, .val (.long (vJ ix [2000000000, 4000000000, 2000000000, 2000000000, 2000000000, 2000000000])), .second, .unset, .unset, .unset, .unset, .unset, .unset, .unset, .unset]) rfl ?_
  refine W.lload X103 hx (hc hby D40 18 rfl) rfl ?_
  refine W.lloadN X103 hx (hc hby D40 19 rfl) rfl ?_
  refine W.ldiv X103 hx (hc hby D40 20 rfl) (by decide) (v := (vJ ix [2, 4, 8, 16, 32, 60])) ((show ∀ ix : Fin 6, ix.val < 2 → (vJ ix [2000000000, 4000000000, 2000000000, 2000000000, 2000000000, 2000000000]) / (1000000000 : Int64) = (vJ ix [2, 4, 8, 16, 32, 60]) from by decide +kernel) ix hcl) ?_
  refine W.l2i X103 hx (hc hby D40 21 rfl) (v := (vI ix [2, 4, 8, 16, 32, 60])) ((show ∀ ix : Fin 6, ix.val < 2 → (vJ ix [2, 4, 8, 16, 32, 60]).toInt32 = (vI ix [2, 4, 8, 16, 32, 60]) from by decide +kernel) ix hcl) ?_
  refine W.istore X103 hx (hc hby D40 22 rfl) (l' := #[.val (.ref a1), .val (.int (1000000000 : Int32)), .val (.ref a2), .val (.long (1000000000 : Int64)), .second, .val (.long (vJ ix [2000000000, 4000000000, 2000000000, 2000000000, 2000000000, 2000000000])), .second, .val (.int (vI ix [2, 4, 8, 16, 32, 60])), .unset, .unset, .unset, .unset, .unset, .unset, .unset]) rfl ?_
  refine W.lload X103 hx (hc hby D40 23 rfl) rfl ?_
  refine W.iload X103 hx (hc hby D40 24 rfl) rfl ?_
  refine W.i2l X103 hx (hc hby D40 25 rfl) (v := (vJ ix [2, 4, 8, 16, 32, 60])) ((show ∀ ix : Fin 6, ix.val < 2 → (vI ix [2, 4, 8, 16, 32, 60]).toInt64 = (vJ ix [2, 4, 8, 16, 32, 60]) from by decide +kernel) ix hcl) ?_
  refine W.lloadN X103 hx (hc hby D40 26 rfl) rfl ?_
  refine W.lmul X103 hx (hc hby D40 27 rfl) (v := (vJ ix [2000000000, 4000000000, 2000000000, 2000000000, 2000000000, 2000000000])) ((show ∀ ix : Fin 6, ix.val < 2 → (vJ ix [2, 4, 8, 16, 32, 60]) * (1000000000 : Int64) = (vJ ix [2000000000, 4000000000, 2000000000, 2000000000, 2000000000, 2000000000]) from by decide +kernel) ix hcl) ?_
  refine W.lsub X103 hx (hc hby D40 28 rfl) (v := (0 : Int64)) ((show ∀ ix : Fin 6, ix.val < 2 → (vJ ix [2000000000, 4000000000, 2000000000, 2000000000, 2000000000, 2000000000]) - (vJ ix [2000000000, 4000000000, 2000000000, 2000000000, 2000000000, 2000000000]) = (0 : Int64) from by decide +kernel) ix hcl) ?_
  refine W.l2i X103 hx (hc hby D40 29 rfl) (v := (0 : Int32)) (by decide) ?_
  refine W.istore X103 hx (hc hby D40 30 rfl) (l' := #[.val (.ref a1), .val (.int (1000000000 : Int32)), .val (.ref a2), .val (.long (1000000000 : Int64)), .second, .val (.long (vJ ix [2000000000, 4000000000, 2000000000, 2000000000, 2000000000, 2000000000])), .second, .val (.int (vI ix [2, 4, 8, 16, 32, 60])), .val (.int (0 : Int32)), .unset, .unset, .unset, .unset, .unset, .unset]) rfl ?_
  refine W.aloadN X103 hx (hc hby D40 31 rfl) rfl rfl ?_
  refine W.getF X103 hx hZ hown (host := "") (Or.inl (wk hw 186 rfl)) Via.refl e103 P6 (hc hby D40 32 rfl) (fun T105 X105 e105 => ?_)
  refine W.iconst X105 hx (hc hby D40 33 rfl) (v := 0) rfl ?_
  refine W.iload X105 hx (hc hby D40 34 rfl) rfl ?_
  have ne106 : a4 ≠ a2 := (Ne.symm (Exa.neArv P3 P8 (wk hw 177 rfl)))
  obtain ⟨cl107, Ar107, q107, S107, N107, H107, G107⟩ := id P8
  have hi107 : ¬ ((0 : Int32) < 0 ∨ cl107.slots.size ≤ ((0 : Int32)).toNatClampNeg) := inb_of S107 ⟨by decide, by decide⟩
  obtain ⟨T108, h108, X108, e108, W108, st108⟩ := stI X105 hx hZ e105 Ar107 (j := (0 : Int32)) hi107 (g := (mkF m 56 #[.val (.ref a1), .val (.int (1000000000 : Int32)), .val (.ref a2), .val (.long (1000000000 : Int64)), .second, .val (.long (vJ ix [2000000000, 4000000000, 2000000000, 2000000000, 2000000000, 2000000000])), .second, .val (.int (vI ix [2, 4, 8, 16, 32, 60])), .val (.int (0 : Int32)), .unset, .unset, .unset, .unset, .unset, .unset] [(.int (vI ix [2, 4, 8, 16, 32, 60])), (.int (0 : Int32)), (.ref a4)])) rfl rfl (hc hby D40 35 rfl)
  have O110 := Old.wr O0 W108 g_a4
  have K111 : Keep h0 h108 [a2, a4] := (Keep.refl h0 [a2, a4]).wr W108 (Or.inl (List.mem_of_getElem? (i := 1) rfl))
  have N112 := Fr.snoc X108 N0 g_a4
  have F109 : Arv Z h108 a4 k_a4 .int (1 : Int32) [(.int (vI ix [2, 4, 8, 16, 32, 60]))] (.int (0 : Int32)) := Arv.set Ar107 q107 S107 N107 H107 G107 rfl W108 0 rfl (Nat.le_of_ble_eq_true rfl)
  refine Win.to T108 (mkF m 57 #[.val (.ref a1), .val (.int (1000000000 : Int32)), .val (.ref a2), .val (.long (1000000000 : Int64)), .second, .val (.long (vJ ix [2000000000, 4000000000, 2000000000, 2000000000, 2000000000, 2000000000])), .second, .val (.int (vI ix [2, 4, 8, 16, 32, 60])), .val (.int (0 : Int32)), .unset, .unset, .unset, .unset, .unset, .unset] []) (fun _ k => st108 _ k) ?_
  refine W.aloadN X108 hx (hc hby D40 36 rfl) rfl rfl ?_
  refine W.iload X108 hx (hc hby D40 37 rfl) rfl ?_
  refine W.ifYes X108 hx (hc hby D40 38 rfl) ((show ∀ ix : Fin 6, ix.val < 2 → ifCond.holds .ne (vI ix [2, 4, 8, 16, 32, 60]) = true from by decide +kernel) ix hcl) (by decide) (pc' := 67) rfl ?_
  refine W.iconst X108 hx (hc hby D40 39 rfl) (v := 1) rfl ?_
  have F113 := Exa.wr W108 P3
  have F114 := Fld.other W108 P4 (Or.inl (Ne.symm ne106))
  refine W.putF X108 hx hZ hown (host := "") (Or.inl (wk hw 188 rfl)) Via.refl e108 F114 F113 (Or.inl (wk hw 189 rfl)) (wk hw 177 rfl) (ty := .int) (by decide) rfl rfl (hc hby D40 40 rfl) O110 g_a2 K111 (Or.inl (List.mem_of_getElem? (i := 0) rfl)) N112 (fun T115 h115 X115 e115 W115 O115 K115 N115 F115 => ?_)
  refine W.aloadN X115 hx (hc hby D40 41 rfl) rfl rfl ?_
  refine W.iconst X115 hx (hc hby D40 42 rfl) (v := 0) rfl ?_
  have F116 := Exa.wr W115 F113
  have F117 := Fld.other W115 (Fld.other W108 P5 (Or.inl (Ne.symm ne106))) (Or.inr (slot_ne (Or.inl (wk hw 185 rfl)) (Or.inl (wk hw 189 rfl)) (by decide) (t := .int) (t' := .int) (by decide) (by decide)))
  refine W.putF X115 hx hZ hown (host := "") (Or.inl (wk hw 184 rfl)) Via.refl e115 F117 F116 (Or.inl (wk hw 185 rfl)) (wk hw 177 rfl) (ty := .int) (by decide) rfl rfl (hc hby D40 43 rfl) O115 g_a2 K115 (Or.inl (List.mem_of_getElem? (i := 0) rfl)) N115 (fun T118 h118 X118 e118 W118 O118 K118 N118 F118 => ?_)
  refine W.iload X118 hx (hc hby D40 44 rfl) rfl ?_
  have F119 := Fld.other W118 F115 (Or.inr (slot_ne (Or.inl (wk hw 189 rfl)) (Or.inl (wk hw 185 rfl)) (by decide) (t := .int) (t' := .int) (by decide) (by decide)))
  have F120 := Fld.other W118 (Fld.other W115 (Fld.other W108 P6 (Or.inl (Ne.symm ne106))) (Or.inr (slot_ne (Or.inl (wk hw 187 rfl)) (Or.inl (wk hw 189 rfl)) (by decide) (t := (.array .int)) (t' := .int) (by decide) (by decide)))) (Or.inr (slot_ne (Or.inl (wk hw 187 rfl)) (Or.inl (wk hw 185 rfl)) (by decide) (t := (.array .int)) (t' := .int) (by decide) (by decide)))
  have F121 := Exa.wr W118 F116
  have F122 := (F109.other W115 ne106).other W118 ne106
  exact Win.retI X118 hx hlk hret (hc hby D40 45 rfl) (by decide) (by decide) (by (try rw [e118]); exact ⟨rfl, N118, K118, F119, F118, F120, F121, F122⟩)
abbrev R_xMutabl_divideKnuth2 : Room := ⟨2, 2, 4, 26⟩
theorem xMutabl_divideKnuth2 (l : Launch) (Z : State) (a0 : Array Value) (hw : ∀ d ∈ tables_1, d.before a0 Z = true) (SS : Stat Z) (ix : Fin 6) (a1 : Addr) (a2 : Addr) (a3 : Addr) (a4 : Addr) (a5 : Addr) (a6 : Addr) (k_a4 : ClassId) (k_a5 : ClassId) (k_a6 : ClassId) (h0 : Heap) (n0 : Nat) (O0 : Old Z n0 h0) (P0 : Exa Z h0 a1 "java/math/MutableBigInteger") (P1 : Fld Z h0 a1 "java/math/MutableBigInteger" "intLen" "I" (.int (1 : Int32))) (P2 : Fld Z h0 a1 "java/math/MutableBigInteger" "offset" "I" (.int (0 : Int32))) (P3 : Fld Z h0 a1 "java/math/MutableBigInteger" "value" "[I" (.ref a4)) (P4 : Exa Z h0 a2 "java/math/MutableBigInteger") (P5 : Fld Z h0 a2 "java/math/MutableBigInteger" "intLen" "I" (.int (1 : Int32))) (P6 : Fld Z h0 a2 "java/math/MutableBigInteger" "offset" "I" (.int (0 : Int32))) (P7 : Fld Z h0 a2 "java/math/MutableBigInteger" "value" "[I" (.ref a5)) (P8 : Exa Z h0 a3 "java/math/MutableBigInteger") (P9 : Fld Z h0 a3 "java/math/MutableBigInteger" "intLen" "I" (.int (0 : Int32))) (P10 : Fld Z h0 a3 "java/math/MutableBigInteger" "offset" "I" (.int (0 : Int32))) (P11 : Fld Z h0 a3 "java/math/MutableBigInteger" "value" "[I" (.ref a6)) (P12 : Arv Z h0 a4 k_a4 .int (1 : Int32) [(.int (vI ix [2000000000, -294967296, 2000000000, 2000000000, 2000000000, 2000000000]))] (.int (0 : Int32))) (P13 : Arv Z h0 a5 k_a5 .int (1 : Int32) [(.int (1000000000 : Int32))] (.int (0 : Int32))) (P14 : Arv Z h0 a6 k_a6 .int (1 : Int32) [(.int (0 : Int32))] (.int (0 : Int32))) (hcl : ix.val < 2) (ne_a1_a3 : a1 ≠ a3) (ne_a2_a3 : a2 ≠ a3) (ne_a4_a6 : a4 ≠ a6) (ne_a5_a6 : a5 ≠ a6) (g_a3 : n0 ≤ a3) (g_a6 : n0 ≤ a6) :
    MetN l Z (⟨"java/math/MutableBigInteger", "divideKnuth", "(Ljava/math/MutableBigInteger;Ljava/math/MutableBigInteger;Z)Ljava/math/MutableBigInteger;"⟩ : MethodName) jdk_2101_method_57_code 8 (some (.object "java/math/MutableBigInteger")) R_xMutabl_divideKnuth2 [] #[(.ref a1), (.ref a2), (.ref a3), (.int (1 : Int32))] h0 (fun v h L => ∃ (r1 : Addr) (r2 : Addr) (k_r2 : ClassId), v = some (.ref r1) ∧ Fr n0 L ∧ Keep h0 h [a3, a6] ∧ h0.size ≤ r1 ∧ h0.size ≤ r2 ∧ Fld Z h r1 "java/math/MutableBigInteger" "intLen" "I" (.int (0 : Int32)) ∧ Fld Z h r1 "java/math/MutableBigInteger" "offset" "I" (.int (0 : Int32)) ∧ Arv Z h r2 k_r2 .int (1 : Int32) [(.int (0 : Int32))] (.int (0 : Int32)) ∧ Fld Z h r1 "java/math/MutableBigInteger" "value" "[I" (.ref r2) ∧ Exa Z h r1 "java/math/MutableBigInteger" ∧ Fld Z h a3 "java/math/MutableBigInteger" "intLen" "I" (.int (1 : Int32)) ∧ Fld Z h a3 "java/math/MutableBigInteger" "offset" "I" (.int (0 : Int32)) ∧ Fld Z h a3 "java/math/MutableBigInteger" "value" "[I" (.ref a6) ∧ Exa Z h a3 "java/math/MutableBigInteger" ∧ Arv Z h a6 k_a6 .int (1 : Int32) [(.int (vI ix [2, 4, 8, 16, 32, 60]))] (.int (0 : Int32))) := by
  refine MetN.walk (plainFor_of_name pn_37) ?_
  intro p e s m below meth c s₁ hx hZ hby hml hown hnm hret hlk X0 e0
  have N0 := Fr.nil n0
  refine Win.to s₁ (mkF m 0 #[.val (.ref a1), .val (.ref a2), .val (.ref a3), .val (.int (1 : Int32)), .unset, .unset, .unset, .unset] []) (fun _ k => castTop rfl k) ?_
  refine W.aloadN X0 hx (hc hby D37 0 rfl) rfl rfl ?_
  refine W.getF X0 hx hZ hown (host := "") (Or.inl (wk hw 188 rfl)) Via.refl e0 P5 (hc hby D37 1 rfl) (fun T101 X101 e101 => ?_)
  refine W.ifYes X101 hx (hc hby D37 2 rfl) (by decide) (by decide) (pc' := 17) rfl ?_
  refine W.aloadN X101 hx (hc hby D37 3 rfl) rfl rfl ?_
  refine W.getF X101 hx hZ hown (host := "") (Or.inl (wk hw 188 rfl)) Via.refl e101 P1 (hc hby D37 4 rfl) (fun T102 X102 e102 => ?_)
  refine W.ifYes X102 hx (hc hby D37 5 rfl) (by decide) (by decide) (pc' := 50) rfl ?_
  refine W.aloadN X102 hx (hc hby D37 6 rfl) rfl rfl ?_
  refine W.aloadN X102 hx (hc hby D37 7 rfl) rfl rfl ?_
  refine W.virtual X102 hx hZ hown (wk hw 203 rfl) (wk hw 204 rfl) (notFace_of_selects (args := #[]) (mvT hZ (wk hw 206 rfl))) (wk hw 206 rfl) (wk hw 205 rfl) (wk hw 178 rfl) (wk hw 207 rfl) (by decide) (xMutabl_compare1 l Z a0 hw SS ix a1 a2 a4 a5 k_a4 k_a5 h0 n0 O0 P1 P2 P3 P5 P6 P7 P12 P13 hcl) e102 P0 (by rw [hml]; rfl) (argsL := [(.ref a2)]) (rest := []) rfl (lenOf pd__Ljava_math_MutableBigInteger__I rfl) rfl (W := 0) (Nat.le_of_eq rfl) (hc hby D37 8 rfl) (by decide) (by decide) (by decide) (by decide) (fun T103 h103 v103 L103 X103 e103 q103 => ?_)
  obtain ⟨rfl, N103q, r103_0⟩ := q103
  have N104 := Fr.app N0 N103q
  have e103 := e103.trans r103_0
  refine W.istore X103 hx (hc hby D37 9 rfl) (l' := #[.val (.ref a1), .val (.ref a2), .val (.ref a3), .val (.int (1 : Int32)), .val (.int (1 : Int32)), .unset, .unset, .unset]) rfl ?_
  refine W.iload X103 hx (hc hby D37 10 rfl) rfl ?_
  refine W.ifYes X103 hx (hc hby D37 11 rfl) (by decide) (by decide) (pc' := 89) rfl ?_
  refine W.iload X103 hx (hc hby D37 12 rfl) rfl ?_
  refine W.ifYes X103 hx (hc hby D37 13 rfl) (by decide) (by decide) (pc' := 127) rfl ?_
  refine W.aloadN X103 hx (hc hby D37 14 rfl) rfl rfl ?_
  have ne106 : a3 ≠ a4 := (Exa.neArv P8 P12 (wk hw 177 rfl))
  have ne107 : a3 ≠ a5 := (Exa.neArv P8 P13 (wk hw 177 rfl))
  have ne108 : a6 ≠ a1 := (Ne.symm (Exa.neArv P0 P14 (wk hw 177 rfl)))
  have ne109 : a6 ≠ a2 := (Ne.symm (Exa.neArv P4 P14 (wk hw 177 rfl)))
  refine W.virtual X103 hx hZ hown (wk hw 209 rfl) (wk hw 210 rfl) (notFace_of_selects (args := #[]) (mvT hZ (wk hw 212 rfl))) (wk hw 212 rfl) (wk hw 211 rfl) (wk hw 178 rfl) (wk hw 213 rfl) (by decide) (xMutabl_clear1 l Z a0 hw SS a3 a6 k_a6 h0 n0 O0 P8 P9 P10 P11 P14 g_a3 g_a6) e103 P8 (by rw [hml]; rfl) (argsL := []) (rest := []) rfl (lenOf pd___V rfl) rfl (W := 0) (Nat.le_of_eq rfl) (hc hby D37 15 rfl) (by decide) (by decide) (by decide) (by decide) (fun T105 h105 v105 L105 X105 e105 q105 => ?_)
  obtain ⟨rfl, N105q, r105_0, r105_1, r105_2, r105_3, r105_4, r105_5⟩ := q105
  have N110 := Fr.app N104 N105q
  have O111 := Old.keep O0 r105_0 (allS g_a3 (allS g_a6 all0))
  have K112 : Keep h0 h105 [a3, a6] := Keep.trans (Keep.refl h0 [a3, a6]) r105_0 (allS (Or.inl (List.mem_of_getElem? (i := 0) rfl)) (allS (Or.inl (List.mem_of_getElem? (i := 1) rfl)) all0))
  refine W.aloadN X105 hx (hc hby D37 16 rfl) rfl rfl ?_
  have F113 := P5.keep r105_0 (ninS ne_a2_a3 (ninS (Ne.symm ne109) nin0))
  refine W.getF X105 hx hZ hown (host := "") (Or.inl (wk hw 188 rfl)) Via.refl e105 F113 (hc hby D37 17 rfl) (fun T114 X114 e114 => ?_)
  refine W.iconst X114 hx (hc hby D37 18 rfl) (v := 1) rfl ?_
  refine W.icmpNo X114 hx (hc hby D37 19 rfl) (by decide) ?_
  refine W.aloadN X114 hx (hc hby D37 20 rfl) rfl rfl ?_
  refine W.aloadN X114 hx (hc hby D37 21 rfl) rfl rfl ?_
  have F115 := P7.keep r105_0 (ninS ne_a2_a3 (ninS (Ne.symm ne109) nin0))
  refine W.getF X114 hx hZ hown (host := "") (Or.inl (wk hw 186 rfl)) Via.refl e114 F115 (hc hby D37 22 rfl) (fun T116 X116 e116 => ?_)
  refine W.aloadN X116 hx (hc hby D37 23 rfl) rfl rfl ?_
  have F117 := P6.keep r105_0 (ninS ne_a2_a3 (ninS (Ne.symm ne109) nin0))
  refine W.getF X116 hx hZ hown (host := "") (Or.inl (wk hw 184 rfl)) Via.refl e116 F117 (hc hby D37 24 rfl) (fun T118 X118 e118 => ?_)
  have F119 := P13.keep r105_0 (ninS (Ne.symm ne107) (ninS ne_a5_a6 nin0))
  obtain ⟨cl120, Ar120, q120, S120, N120, H120, G120⟩ := id F119
  have hi120 : ¬ ((0 : Int32) < 0 ∨ cl120.slots.size ≤ ((0 : Int32)).toNatClampNeg) := inb_of S120 ⟨by decide, by decide⟩
  refine Win.to T118 (mkF m 149 #[.val (.ref a1), .val (.ref a2), .val (.ref a3), .val (.int (1 : Int32)), .val (.int (1 : Int32)), .unset, .unset, .unset] [(.int (1000000000 : Int32)), (.ref a1)]) (fun _ k => X118.iaload hx (j := (0 : Int32)) (v := (.int (1000000000 : Int32))) (by rw [e118]; exact Ar120.1) (State.isArrayOf_alike hZ.alike Ar120.2.1) Ar120.2.2 hi120 (Has.at H120 hi120 rfl) (g := (mkF m 148 #[.val (.ref a1), .val (.ref a2), .val (.ref a3), .val (.int (1 : Int32)), .val (.int (1 : Int32)), .unset, .unset, .unset] [(.int (0 : Int32)), (.ref a5), (.ref a1)])) rfl rfl (hc hby D37 25 rfl) _ k) ?_
  refine W.aloadN X118 hx (hc hby D37 26 rfl) rfl rfl ?_
  have F121 := P1.keep r105_0 (ninS ne_a1_a3 (ninS (Ne.symm ne108) nin0))
  have F122 := P2.keep r105_0 (ninS ne_a1_a3 (ninS (Ne.symm ne108) nin0))
  have F123 := P3.keep r105_0 (ninS ne_a1_a3 (ninS (Ne.symm ne108) nin0))
  have F124 := P12.keep r105_0 (ninS (Ne.symm ne106) (ninS ne_a4_a6 nin0))
  have F126 := P0.keep r105_0
  refine W.virtual X118 hx hZ hown (wk hw 214 rfl) (wk hw 215 rfl) (notFace_of_selects (args := #[]) (mvT hZ (wk hw 217 rfl))) (wk hw 217 rfl) (wk hw 216 rfl) (wk hw 178 rfl) (wk hw 218 rfl) (by decide) (xMutabl_divideOneWord1 l Z a0 hw SS ix a1 a3 a4 a6 k_a4 k_a6 h105 n0 O111 F121 F122 F123 r105_4 r105_1 r105_2 r105_3 F124 r105_5 hcl ne_a4_a6 g_a3 g_a6) e118 F126 (by rw [hml]; rfl) (argsL := [(.int (1000000000 : Int32)), (.ref a3)]) (rest := []) rfl (lenOf pd__ILjava_math_MutableBigInteger__I rfl) rfl (W := 0) (Nat.le_of_eq rfl) (hc hby D37 27 rfl) (by decide) (by decide) (by decide) (by decide) (fun T125 h125 v125 L125 X125 e125 q125 => ?_)
  obtain ⟨rfl, N125q, r125_0, r125_1, r125_2, r125_3, r125_4, r125_5⟩ := q125
  have N127 := Fr.app N110 N125q
  have O128 := Old.keep O111 r125_0 (allS g_a3 (allS g_a6 all0))
  have K129 : Keep h0 h125 [a3, a6] := Keep.trans K112 r125_0 (allS (Or.inl (List.mem_of_getElem? (i := 0) rfl)) (allS (Or.inl (List.mem_of_getElem? (i := 1) rfl)) all0))
  refine W.istore X125 hx (hc hby D37 28 rfl) (l' := #[.val (.ref a1), .val (.ref a2), .val (.ref a3), .val (.int (1 : Int32)), .val (.int (1 : Int32)), .val (.int (0 : Int32)), .unset, .unset]) rfl ?_
  refine W.iloadN X125 hx (hc hby D37 29 rfl) rfl ?_
  refine W.ifNo X125 hx (hc hby D37 30 rfl) (by decide) ?_
  refine W.iload X125 hx (hc hby D37 31 rfl) rfl ?_
  refine W.ifNo X125 hx (hc hby D37 32 rfl) (by decide) ?_
  obtain ⟨T130, h130, X130, e130, E130, A130, D130, -, st130⟩ := newO X125 hx hZ hown (wk hw 220 rfl) (wk hw 177 rfl) (wk hw 178 rfl) e125 (g := (mkF m 164 #[.val (.ref a1), .val (.ref a2), .val (.ref a3), .val (.int (1 : Int32)), .val (.int (1 : Int32)), .val (.int (0 : Int32)), .unset, .unset] [])) rfl (hc hby D37 33 rfl) (by decide) (by decide)
  obtain ⟨b130, g130⟩ : ∃ z, z = h125.size := ⟨_, rfl⟩
  rw [← g130] at A130 D130 st130
  have ne131 : a3 ≠ b130 := Nat.ne_of_lt (Nat.lt_of_lt_of_le r125_4.lt (Nat.le_of_eq g130.symm))
  have ne132 : a6 ≠ b130 := Nat.ne_of_lt (Nat.lt_of_lt_of_le r125_5.lt (Nat.le_of_eq g130.symm))
  have g133 : n0 ≤ b130 := Nat.le_trans (own_le O128) (Nat.le_of_eq g130.symm)
  have z134 : h0.size ≤ b130 := Nat.le_trans K129.1 (Nat.le_of_eq g130.symm)
  have O135 := Old.ext O128 E130
  have K136 : Keep h0 h130 [a3, a6] := K129.ext E130
  have F137 : Fld Z h130 b130 "java/math/MutableBigInteger" "offset" "I" (.int (0 : Int32)) := D130 (Or.inl (wk hw 185 rfl)) (ty := .int) (by decide)
  have F138 : Fld Z h130 b130 "java/math/MutableBigInteger" "value" "[I" .null := D130 (Or.inl (wk hw 187 rfl)) (ty := (.array .int)) (by decide)
  have F139 : Fld Z h130 b130 "java/math/MutableBigInteger" "intLen" "I" (.int (0 : Int32)) := D130 (Or.inl (wk hw 189 rfl)) (ty := .int) (by decide)
  refine Win.to T130 (mkF m 167 #[.val (.ref a1), .val (.ref a2), .val (.ref a3), .val (.int (1 : Int32)), .val (.int (1 : Int32)), .val (.int (0 : Int32)), .unset, .unset] [(.ref b130)]) (fun _ k => st130 _ k) ?_
  refine W.dup X130 hx (hc hby D37 34 rfl) rfl ?_
  refine W.special X130 hx hZ rfl hown (wk hw 221 rfl) (wk hw 180 rfl) (wk hw 178 rfl) (wk hw 182 rfl) (by decide) (xMutabl_init1 l Z a0 hw SS b130 h130 n0 O135 A130 F139 F137 F138 g133) e130 (by rw [hml]; rfl) (a := b130) (argsL := []) (rest := [(.ref b130)]) rfl (lenOf pd___V rfl) rfl (W := 1) (Nat.le_of_eq rfl) (hc hby D37 35 rfl) (by decide) (by decide) (by decide) (by decide) (fun T140 h140 v140 L140 X140 e140 q140 => ?_)
  obtain ⟨r1_140, k_r1_140, rfl, N140q, r140_0, r140_1, r140_2, r140_3, r140_4, r140_5, r140_6⟩ := q140
  have N141 := Fr.app N127 N140q
  have g142 : n0 ≤ r1_140 := Nat.le_trans (own_le O135) r140_1
  have z143 : h0.size ≤ r1_140 := Nat.le_trans K136.1 r140_1
  have O144 := Old.keep O135 r140_0 (allS g133 all0)
  have K145 : Keep h0 h140 [a3, a6] := Keep.trans K136 r140_0 (allS (Or.inr z134) all0)
  have F146 := (Fld.ext E130 r125_1).keep r140_0 (ninS ne131 nin0)
  have F147 := (Fld.ext E130 r125_2).keep r140_0 (ninS ne131 nin0)
  have F148 := (Fld.ext E130 r125_3).keep r140_0 (ninS ne131 nin0)
  have F149 := (Exa.ext E130 r125_4).keep r140_0
  have F150 := (r125_5.ext E130).keep r140_0 (ninS ne132 nin0)
  exact Win.retA X140 hx hlk hret rfl rfl (hc hby D37 36 rfl) (by decide) (by decide) (by (try rw [e140]); exact ⟨b130, r1_140, k_r1_140, rfl, N141, K145, z134, z143, r140_2, r140_3, r140_4, r140_5, r140_6, F146, F147, F148, F149, F150⟩)
abbrev R_xMutabl_divideKnuth1 : Room := ⟨3, 2, 4, 45⟩
theorem xMutabl_divideKnuth1 (l : Launch) (Z : State) (a0 : Array Value) (hw : ∀ d ∈ tables_1, d.before a0 Z = true) (SS : Stat Z) (ix : Fin 6) (a1 : Addr) (a2 : Addr) (a3 : Addr) (a4 : Addr) (a5 : Addr) (a6 : Addr) (k_a4 : ClassId) (k_a5 : ClassId) (k_a6 : ClassId) (h0 : Heap) (n0 : Nat) (O0 : Old Z n0 h0) (P0 : Exa Z h0 a1 "java/math/MutableBigInteger") (P1 : Fld Z h0 a1 "java/math/MutableBigInteger" "intLen" "I" (.int (1 : Int32))) (P2 : Fld Z h0 a1 "java/math/MutableBigInteger" "offset" "I" (.int (0 : Int32))) (P3 : Fld Z h0 a1 "java/math/MutableBigInteger" "value" "[I" (.ref a4)) (P4 : Exa Z h0 a2 "java/math/MutableBigInteger") (P5 : Fld Z h0 a2 "java/math/MutableBigInteger" "intLen" "I" (.int (1 : Int32))) (P6 : Fld Z h0 a2 "java/math/MutableBigInteger" "offset" "I" (.int (0 : Int32))) (P7 : Fld Z h0 a2 "java/math/MutableBigInteger" "value" "[I" (.ref a5)) (P8 : Exa Z h0 a3 "java/math/MutableBigInteger") (P9 : Fld Z h0 a3 "java/math/MutableBigInteger" "intLen" "I" (.int (0 : Int32))) (P10 : Fld Z h0 a3 "java/math/MutableBigInteger" "offset" "I" (.int (0 : Int32))) (P11 : Fld Z h0 a3 "java/math/MutableBigInteger" "value" "[I" (.ref a6)) (P12 : Arv Z h0 a4 k_a4 .int (1 : Int32) [(.int (vI ix [2000000000, -294967296, 2000000000, 2000000000, 2000000000, 2000000000]))] (.int (0 : Int32))) (P13 : Arv Z h0 a5 k_a5 .int (1 : Int32) [(.int (1000000000 : Int32))] (.int (0 : Int32))) (P14 : Arv Z h0 a6 k_a6 .int (1 : Int32) [(.int (0 : Int32))] (.int (0 : Int32))) (hcl : ix.val < 2) (ne_a1_a3 : a1 ≠ a3) (ne_a2_a3 : a2 ≠ a3) (ne_a4_a6 : a4 ≠ a6) (ne_a5_a6 : a5 ≠ a6) (g_a3 : n0 ≤ a3) (g_a6 : n0 ≤ a6) :
    MetN l Z (⟨"java/math/MutableBigInteger", "divideKnuth", "(Ljava/math/MutableBigInteger;Ljava/math/MutableBigInteger;)Ljava/math/MutableBigInteger;"⟩ : MethodName) jdk_2101_method_56_code 3 (some (.object "java/math/MutableBigInteger")) R_xMutabl_divideKnuth1 [] #[(.ref a1), (.ref a2), (.ref a3)] h0 (fun v h L => ∃ (r1 : Addr) (r2 : Addr) (k_r2 : ClassId), v = some (.ref r1) ∧ Fr n0 L ∧ Keep h0 h [a3, a6] ∧ h0.size ≤ r1 ∧ h0.size ≤ r2 ∧ Fld Z h r1 "java/math/MutableBigInteger" "intLen" "I" (.int (0 : Int32)) ∧ Fld Z h r1 "java/math/MutableBigInteger" "offset" "I" (.int (0 : Int32)) ∧ Arv Z h r2 k_r2 .int (1 : Int32) [(.int (0 : Int32))] (.int (0 : Int32)) ∧ Fld Z h r1 "java/math/MutableBigInteger" "value" "[I" (.ref r2) ∧ Exa Z h r1 "java/math/MutableBigInteger" ∧ Fld Z h a3 "java/math/MutableBigInteger" "intLen" "I" (.int (1 : Int32)) ∧ Fld Z h a3 "java/math/MutableBigInteger" "offset" "I" (.int (0 : Int32)) ∧ Fld Z h a3 "java/math/MutableBigInteger" "value" "[I" (.ref a6) ∧ Exa Z h a3 "java/math/MutableBigInteger" ∧ Arv Z h a6 k_a6 .int (1 : Int32) [(.int (vI ix [2, 4, 8, 16, 32, 60]))] (.int (0 : Int32))) := by
  refine MetN.walk (plainFor_of_name pn_36) ?_
  intro p e s m below meth c s₁ hx hZ hby hml hown hnm hret hlk X0 e0
  have N0 := Fr.nil n0
  refine Win.to s₁ (mkF m 0 #[.val (.ref a1), .val (.ref a2), .val (.ref a3)] []) (fun _ k => castTop rfl k) ?_
  refine W.aloadN X0 hx (hc hby D36 0 rfl) rfl rfl ?_
  refine W.aloadN X0 hx (hc hby D36 1 rfl) rfl rfl ?_
  refine W.aloadN X0 hx (hc hby D36 2 rfl) rfl rfl ?_
  refine W.iconst X0 hx (hc hby D36 3 rfl) (v := 1) rfl ?_
  refine W.virtual X0 hx hZ hown (wk hw 198 rfl) (wk hw 199 rfl) (notFace_of_selects (args := #[]) (mvT hZ (wk hw 201 rfl))) (wk hw 201 rfl) (wk hw 200 rfl) (wk hw 178 rfl) (wk hw 202 rfl) (by decide) (xMutabl_divideKnuth2 l Z a0 hw SS ix a1 a2 a3 a4 a5 a6 k_a4 k_a5 k_a6 h0 n0 O0 P0 P1 P2 P3 P4 P5 P6 P7 P8 P9 P10 P11 P12 P13 P14 hcl ne_a1_a3 ne_a2_a3 ne_a4_a6 ne_a5_a6 g_a3 g_a6) e0 P0 (by rw [hml]; rfl) (argsL := [(.ref a2), (.ref a3), (.int (1 : Int32))]) (rest := []) rfl (lenOf pd__Ljava_math_MutableBigInteger_Ljava_math_MutableBigInteger_Z_Ljava_math_MutableBigInteger_ rfl) rfl (W := 0) (Nat.le_of_eq rfl) (hc hby D36 4 rfl) (by decide) (by decide) (by decide) (by decide) (fun T101 h101 v101 L101 X101 e101 q101 => ?_)
  obtain ⟨r1_101, r2_101, k_r2_101, rfl, N101q, r101_0, r101_1, r101_2, r101_3, r101_4, r101_5, r101_6, r101_7, r101_8, r101_9, r101_10, r101_11, r101_12⟩ := q101
  have N102 := Fr.app N0 N101q
  have g103 : n0 ≤ r1_101 := Nat.le_trans (own_le O0) r101_1
  have z104 : h0.size ≤ r1_101 := r101_1
  have g105 : n0 ≤ r2_101 := Nat.le_trans (own_le O0) r101_2
  have z106 : h0.size ≤ r2_101 := r101_2
  have O107 := Old.keep O0 r101_0 (allS g_a3 (allS g_a6 all0))
  have K108 : Keep h0 h101 [a3, a6] := Keep.trans (Keep.refl h0 [a3, a6]) r101_0 (allS (Or.inl (List.mem_of_getElem? (i := 0) rfl)) (allS (Or.inl (List.mem_of_getElem? (i := 1) rfl)) all0))
  exact Win.retA X101 hx hlk hret rfl rfl (hc hby D36 5 rfl) (by decide) (by decide) (by (try rw [e101]); exact ⟨r1_101, r2_101, k_r2_101, rfl, N102, K108, z104, z106, r101_3, r101_4, r101_5, r101_6, r101_7, r101_8, r101_9, r101_10, r101_11, r101_12⟩)
abbrev R_xMutabl_getMagnitudeArray1 : Room := ⟨0, 0, 0, 0⟩
theorem xMutabl_getMagnitudeArray1 (l : Launch) (Z : State) (a0 : Array Value) (hw : ∀ d ∈ tables_1, d.before a0 Z = true) (SS : Stat Z) (ix : Fin 6) (a1 : Addr) (a2 : Addr) (k_a2 : ClassId) (h0 : Heap) (n0 : Nat) (O0 : Old Z n0 h0) (P0 : Fld Z h0 a1 "java/math/MutableBigInteger" "intLen" "I" (.int (1 : Int32))) (P1 : Fld Z h0 a1 "java/math/MutableBigInteger" "offset" "I" (.int (0 : Int32))) (P2 : Fld Z h0 a1 "java/math/MutableBigInteger" "value" "[I" (.ref a2)) (P3 : Arv Z h0 a2 k_a2 .int (1 : Int32) [(.int (vI ix [2, 4, 8, 16, 32, 60]))] (.int (0 : Int32))) (hcl : ix.val < 2) :
    MetN l Z (⟨"java/math/MutableBigInteger", "getMagnitudeArray", "()[I"⟩ : MethodName) jdk_2101_method_7_code 2 (some (.array .int)) R_xMutabl_getMagnitudeArray1 [] #[(.ref a1)] h0 (fun v h L => v = some (.ref a2) ∧ Fr n0 L ∧ h = h0) := by
  refine MetN.walk (plainFor_of_name pn_42) ?_
  intro p e s m below meth c s₁ hx hZ hby hml hown hnm hret hlk X0 e0
  have N0 := Fr.nil n0
  refine Win.to s₁ (mkF m 0 #[.val (.ref a1), .unset] []) (fun _ k => castTop rfl k) ?_
  refine W.aloadN X0 hx (hc hby D42 0 rfl) rfl rfl ?_
  refine W.getF X0 hx hZ hown (host := "") (Or.inl (wk hw 184 rfl)) Via.refl e0 P1 (hc hby D42 1 rfl) (fun T101 X101 e101 => ?_)
  refine W.ifNo X101 hx (hc hby D42 2 rfl) (by decide) ?_
  refine W.aloadN X101 hx (hc hby D42 3 rfl) rfl rfl ?_
  refine W.getF X101 hx hZ hown (host := "") (Or.inl (wk hw 186 rfl)) Via.refl e101 P2 (hc hby D42 4 rfl) (fun T102 X102 e102 => ?_)
  obtain ⟨cl103, Ar103, -, S103, N103, -, -⟩ := id P3
  refine Win.to T102 (mkF m 12 #[.val (.ref a1), .unset] [(.int (1 : Int32))]) (fun _ k => X102.arraylength hx (by rw [e102]; exact Ar103.1) (State.isArrayOf_alike hZ.alike Ar103.2.1) (g := (mkF m 11 #[.val (.ref a1), .unset] [(.ref a2)])) rfl rfl (hc hby D42 5 rfl) _ (by rw [len_of S103 N103]; exact k)) ?_
  refine W.aloadN X102 hx (hc hby D42 6 rfl) rfl rfl ?_
  refine W.getF X102 hx hZ hown (host := "") (Or.inl (wk hw 188 rfl)) Via.refl e102 P0 (hc hby D42 7 rfl) (fun T104 X104 e104 => ?_)
  refine W.icmpYes X104 hx (hc hby D42 8 rfl) (by decide) (by decide) (pc' := 64) rfl ?_
  refine W.aloadN X104 hx (hc hby D42 9 rfl) rfl rfl ?_
  refine W.getF X104 hx hZ hown (host := "") (Or.inl (wk hw 186 rfl)) Via.refl e104 P2 (hc hby D42 10 rfl) (fun T105 X105 e105 => ?_)
  exact Win.retA X105 hx hlk hret rfl rfl (hc hby D42 11 rfl) (by decide) (by decide) (by (try rw [e105]); exact ⟨rfl, N0, rfl⟩)
abbrev R_xBigInt_init2 : Room := ⟨2, 0, 0, 24⟩
theorem xBigInt_init2 (l : Launch) (Z : State) (a0 : Array Value) (hw : ∀ d ∈ tables_1, d.before a0 Z = true) (SS : Stat Z) (ix : Fin 6) (a1 : Addr) (a2 : Addr) (k_a2 : ClassId) (h0 : Heap) (n0 : Nat) (O0 : Old Z n0 h0) (P0 : Exa Z h0 a1 "java/math/BigInteger") (P1 : Fld Z h0 a1 "java/math/BigInteger" "bitLengthPlusOne" "I" (.int (0 : Int32))) (P2 : Fld Z h0 a1 "java/math/BigInteger" "mag" "[I" .null) (P3 : Fld Z h0 a1 "java/math/BigInteger" "signum" "I" (.int (0 : Int32))) (P4 : Arv Z h0 a2 k_a2 .int (1 : Int32) [(.int (vI ix [2, 4, 8, 16, 32, 60]))] (.int (0 : Int32))) (hcl : ix.val < 2) (g_a1 : n0 ≤ a1) :
    MetN l Z (⟨"java/math/BigInteger", "<init>", "([II)V"⟩ : MethodName) jdk_2097_method_25_code 3 none R_xBigInt_init2 [] #[(.ref a1), (.ref a2), (.int (1 : Int32))] h0 (fun v h L => v = none ∧ Fr n0 L ∧ Keep h0 h [a1] ∧ Fld Z h a1 "java/math/BigInteger" "bitLengthPlusOne" "I" (.int (0 : Int32)) ∧ Fld Z h a1 "java/math/BigInteger" "mag" "[I" (.ref a2) ∧ Fld Z h a1 "java/math/BigInteger" "signum" "I" (.int (1 : Int32)) ∧ Exa Z h a1 "java/math/BigInteger") := by
  refine MetN.walk (plainFor_of_name pn_43) ?_
  intro p e s m below meth c s₁ hx hZ hby hml hown hnm hret hlk X0 e0
  have N0 := Fr.nil n0
  refine Win.to s₁ (mkF m 0 #[.val (.ref a1), .val (.ref a2), .val (.int (1 : Int32))] []) (fun _ k => castTop rfl k) ?_
  refine W.aloadN X0 hx (hc hby D43 0 rfl) rfl rfl ?_
  refine W.special X0 hx hZ rfl hown (wk hw 157 rfl) (wk hw 93 rfl) (wk hw 96 rfl) (wk hw 97 rfl) (by decide) (xNumber_init1 l Z a0 hw SS a1 h0 n0 O0 ) e0 (by rw [hml]; rfl) (a := a1) (argsL := []) (rest := []) rfl (lenOf pd___V rfl) rfl (W := 0) (Nat.le_of_eq rfl) (hc hby D43 1 rfl) (by decide) (by decide) (by decide) (by decide) (fun T101 h101 v101 L101 X101 e101 q101 => ?_)
  obtain ⟨rfl, N101q, r101_0⟩ := q101
  have N102 := Fr.app N0 N101q
  have e101 := e101.trans r101_0
  refine W.aloadN X101 hx (hc hby D43 2 rfl) rfl rfl ?_
  refine W.aloadN X101 hx (hc hby D43 3 rfl) rfl rfl ?_
  obtain ⟨cl103, Ar103, -, S103, N103, -, -⟩ := id P4
  refine Win.to T101 (mkF m 7 #[.val (.ref a1), .val (.ref a2), .val (.int (1 : Int32))] [(.int (1 : Int32)), (.ref a1)]) (fun _ k => X101.arraylength hx (by rw [e101]; exact Ar103.1) (State.isArrayOf_alike hZ.alike Ar103.2.1) (g := (mkF m 6 #[.val (.ref a1), .val (.ref a2), .val (.int (1 : Int32))] [(.ref a2), (.ref a1)])) rfl rfl (hc hby D43 4 rfl) _ (by rw [len_of S103 N103]; exact k)) ?_
  refine W.ifYes X101 hx (hc hby D43 5 rfl) (by decide) (by decide) (pc' := 14) rfl ?_
  refine W.iloadN X101 hx (hc hby D43 6 rfl) rfl ?_
  have ne104 : a1 ≠ a2 := (Exa.neArv P0 P4 (wk hw 152 rfl))
  refine W.putF X101 hx hZ hown (host := "") (Or.inl (wk hw 159 rfl)) Via.refl e101 P3 P0 (Or.inr ⟨(wk hw 160 rfl), rfl, hnm⟩) (wk hw 152 rfl) (ty := .int) (by decide) rfl rfl (hc hby D43 7 rfl) O0 g_a1 (Keep.refl h0 [a1]) (Or.inl (List.mem_of_getElem? (i := 0) rfl)) N102 (fun T105 h105 X105 e105 W105 O105 K105 N105 F105 => ?_)
  refine W.aloadN X105 hx (hc hby D43 8 rfl) rfl rfl ?_
  refine W.aloadN X105 hx (hc hby D43 9 rfl) rfl rfl ?_
  have F106 := Exa.wr W105 P0
  have F107 := Fld.other W105 P2 (Or.inr (slot_ne (Or.inr (wk hw 163 rfl)) (Or.inr (wk hw 160 rfl)) (by decide) (t := (.array .int)) (t' := .int) (by decide) (by decide)))
  refine W.putF X105 hx hZ hown (host := "") (Or.inl (wk hw 162 rfl)) Via.refl e105 F107 F106 (Or.inr ⟨(wk hw 163 rfl), rfl, hnm⟩) (wk hw 152 rfl) (ty := (.array .int)) (by decide) rfl rfl (hc hby D43 10 rfl) O105 g_a1 K105 (Or.inl (List.mem_of_getElem? (i := 0) rfl)) N105 (fun T108 h108 X108 e108 W108 O108 K108 N108 F108 => ?_)
  refine W.aloadN X108 hx (hc hby D43 11 rfl) rfl rfl ?_
  refine W.getF X108 hx hZ hown (host := "") (Or.inl (wk hw 162 rfl)) Via.refl e108 F108 (hc hby D43 12 rfl) (fun T109 X109 e109 => ?_)
  have F110 := (P4.other W105 (Ne.symm ne104)).other W108 (Ne.symm ne104)
  obtain ⟨cl111, Ar111, -, S111, N111, -, -⟩ := id F110
  refine Win.to T109 (mkF m 28 #[.val (.ref a1), .val (.ref a2), .val (.int (1 : Int32))] [(.int (1 : Int32))]) (fun _ k => X109.arraylength hx (by rw [e109]; exact Ar111.1) (State.isArrayOf_alike hZ.alike Ar111.2.1) (g := (mkF m 27 #[.val (.ref a1), .val (.ref a2), .val (.int (1 : Int32))] [(.ref a2)])) rfl rfl (hc hby D43 13 rfl) _ (by rw [len_of S111 N111]; exact k)) ?_
  refine W.ldc1 X109 hx (hc hby D43 14 rfl) hown (mvT hZ (wk hw 236 rfl)) ?_
  refine W.icmpYes X109 hx (hc hby D43 15 rfl) (by decide) (by decide) (pc' := 37) rfl ?_
  have F112 := Fld.other W108 (Fld.other W105 P1 (Or.inr (slot_ne (Or.inl (wk hw 244 rfl)) (Or.inr (wk hw 160 rfl)) (by decide) (t := .int) (t' := .int) (by decide) (by decide)))) (Or.inr (slot_ne (Or.inl (wk hw 244 rfl)) (Or.inr (wk hw 163 rfl)) (by decide) (t := .int) (t' := (.array .int)) (by decide) (by decide)))
  have F113 := Fld.other W108 F105 (Or.inr (slot_ne (Or.inr (wk hw 160 rfl)) (Or.inr (wk hw 163 rfl)) (by decide) (t := .int) (t' := (.array .int)) (by decide) (by decide)))
  have F114 := Exa.wr W108 F106
  exact Win.retV X109 hx hlk hret (hc hby D43 16 rfl) (by decide) (by decide) (by (try rw [e109]); exact ⟨rfl, N108, K108, F112, F108, F113, F114⟩)
abbrev R_xMutabl_toBigInteger1 : Room := ⟨3, 1, 6, 39⟩
theorem xMutabl_toBigInteger1 (l : Launch) (Z : State) (a0 : Array Value) (hw : ∀ d ∈ tables_1, d.before a0 Z = true) (SS : Stat Z) (ix : Fin 6) (a1 : Addr) (a2 : Addr) (k_a2 : ClassId) (h0 : Heap) (n0 : Nat) (O0 : Old Z n0 h0) (P0 : Exa Z h0 a1 "java/math/MutableBigInteger") (P1 : Fld Z h0 a1 "java/math/MutableBigInteger" "intLen" "I" (.int (1 : Int32))) (P2 : Fld Z h0 a1 "java/math/MutableBigInteger" "offset" "I" (.int (0 : Int32))) (P3 : Fld Z h0 a1 "java/math/MutableBigInteger" "value" "[I" (.ref a2)) (P4 : Arv Z h0 a2 k_a2 .int (1 : Int32) [(.int (vI ix [2, 4, 8, 16, 32, 60]))] (.int (0 : Int32))) (hcl : ix.val < 2) :
    MetN l Z (⟨"java/math/MutableBigInteger", "toBigInteger", "(I)Ljava/math/BigInteger;"⟩ : MethodName) jdk_2101_method_9_code 2 (some (.object "java/math/BigInteger")) R_xMutabl_toBigInteger1 [] #[(.ref a1), (.int (1 : Int32))] h0 (fun v h L => ∃ (r1 : Addr), v = some (.ref r1) ∧ Fr n0 L ∧ Keep h0 h [] ∧ h0.size ≤ r1 ∧ Fld Z h r1 "java/math/BigInteger" "bitLengthPlusOne" "I" (.int (0 : Int32)) ∧ Fld Z h r1 "java/math/BigInteger" "mag" "[I" (.ref a2) ∧ Fld Z h r1 "java/math/BigInteger" "signum" "I" (.int (1 : Int32)) ∧ Exa Z h r1 "java/math/BigInteger") := by
  refine MetN.walk (plainFor_of_name pn_41) ?_
  intro p e s m below meth c s₁ hx hZ hby hml hown hnm hret hlk X0 e0
  have N0 := Fr.nil n0
  refine Win.to s₁ (mkF m 0 #[.val (.ref a1), .val (.int (1 : Int32))] []) (fun _ k => castTop rfl k) ?_
  refine W.aloadN X0 hx (hc hby D41 0 rfl) rfl rfl ?_
  refine W.getF X0 hx hZ hown (host := "") (Or.inl (wk hw 188 rfl)) Via.refl e0 P1 (hc hby D41 1 rfl) (fun T101 X101 e101 => ?_)
  refine W.ifNo X101 hx (hc hby D41 2 rfl) (by decide) ?_
  refine W.iloadN X101 hx (hc hby D41 3 rfl) rfl ?_
  refine W.ifYes X101 hx (hc hby D41 4 rfl) (by decide) (by decide) (pc' := 15) rfl ?_
  obtain ⟨T102, h102, X102, e102, E102, A102, D102, -, st102⟩ := newO X101 hx hZ hown (wk hw 227 rfl) (wk hw 152 rfl) (wk hw 148 rfl) e101 (g := (mkF m 15 #[.val (.ref a1), .val (.int (1 : Int32))] [])) rfl (hc hby D41 5 rfl) (by decide) (by decide)
  obtain ⟨b102, g102⟩ : ∃ z, z = h0.size := ⟨_, rfl⟩
  rw [← g102] at A102 D102 st102
  have g103 : n0 ≤ b102 := Nat.le_trans (own_le O0) (Nat.le_of_eq g102.symm)
  have z104 : h0.size ≤ b102 := (Nat.le_of_eq g102.symm)
  have O105 := Old.ext O0 E102
  have K106 : Keep h0 h102 [] := (Keep.refl h0 []).ext E102
  have F107 : Fld Z h102 b102 "java/math/BigInteger" "signum" "I" (.int (0 : Int32)) := D102 (Or.inr (wk hw 160 rfl)) (ty := .int) (by decide)
  have F108 : Fld Z h102 b102 "java/math/BigInteger" "mag" "[I" .null := D102 (Or.inr (wk hw 163 rfl)) (ty := (.array .int)) (by decide)
  have F109 : Fld Z h102 b102 "java/math/BigInteger" "bitLengthPlusOne" "I" (.int (0 : Int32)) := D102 (Or.inl (wk hw 244 rfl)) (ty := .int) (by decide)
  refine Win.to T102 (mkF m 18 #[.val (.ref a1), .val (.int (1 : Int32))] [(.ref b102)]) (fun _ k => st102 _ k) ?_
  refine W.dup X102 hx (hc hby D41 6 rfl) rfl ?_
  refine W.aloadN X102 hx (hc hby D41 7 rfl) rfl rfl ?_
  have F110 := Fld.ext E102 P1
  have F111 := Fld.ext E102 P2
  have F112 := Fld.ext E102 P3
  have F113 := P4.ext E102
  have F115 := Exa.ext E102 P0
  refine W.private X102 hx hZ hown (wk hw 228 rfl) (wk hw 229 rfl) (wk hw 231 rfl) (wk hw 230 rfl) (wk hw 178 rfl) (wk hw 232 rfl) (by decide) (xMutabl_getMagnitudeArray1 l Z a0 hw SS ix a1 a2 k_a2 h102 n0 O105 F110 F111 F112 F113 hcl) e102 F115 (by rw [hml]; rfl) (argsL := []) (rest := [(.ref b102), (.ref b102)]) rfl (lenOf pd____I rfl) rfl (W := 2) (Nat.le_of_eq rfl) (hc hby D41 8 rfl) (by decide) (by decide) (by decide) (by decide) (fun T114 h114 v114 L114 X114 e114 q114 => ?_)
  obtain ⟨rfl, N114q, r114_0⟩ := q114
  have N116 := Fr.app N0 N114q
  have e114 := e114.trans r114_0
  refine W.iloadN X114 hx (hc hby D41 9 rfl) rfl ?_
  refine W.special X114 hx hZ rfl hown (wk hw 233 rfl) (wk hw 234 rfl) (wk hw 148 rfl) (wk hw 235 rfl) (by decide) (xBigInt_init2 l Z a0 hw SS ix b102 a2 k_a2 h102 n0 O105 A102 F109 F108 F107 F113 hcl g103) e114 (by rw [hml]; rfl) (a := b102) (argsL := [(.ref a2), (.int (1 : Int32))]) (rest := [(.ref b102)]) rfl (lenOf pd___II_V rfl) rfl (W := 1) (Nat.le_of_eq rfl) (hc hby D41 10 rfl) (by decide) (by decide) (by decide) (by decide) (fun T117 h117 v117 L117 X117 e117 q117 => ?_)
  obtain ⟨rfl, N117q, r117_0, r117_1, r117_2, r117_3, r117_4⟩ := q117
  have N118 := Fr.app N116 N117q
  have O119 := Old.keep O105 r117_0 (allS g103 all0)
  have K120 : Keep h0 h117 [] := Keep.trans K106 r117_0 (allS (Or.inr z104) all0)
  exact Win.retA X117 hx hlk hret rfl rfl (hc hby D41 11 rfl) (by decide) (by decide) (by (try rw [e117]); exact ⟨b102, rfl, N118, K120, z104, r117_1, r117_2, r117_3, r117_4⟩)
abbrev R_xMutabl_toBigInteger2 : Room := ⟨0, 0, 0, 0⟩
theorem xMutabl_toBigInteger2 (l : Launch) (Z : State) (a0 : Array Value) (hw : ∀ d ∈ tables_1, d.before a0 Z = true) (SS : Stat Z) (a1 : Addr) (h0 : Heap) (n0 : Nat) (O0 : Old Z n0 h0) (P0 : Fld Z h0 a1 "java/math/MutableBigInteger" "intLen" "I" (.int (0 : Int32))) :
    MetN l Z (⟨"java/math/MutableBigInteger", "toBigInteger", "(I)Ljava/math/BigInteger;"⟩ : MethodName) jdk_2101_method_9_code 2 (some (.object "java/math/BigInteger")) R_xMutabl_toBigInteger2 [] #[(.ref a1), (.int (1 : Int32))] h0 (fun v h L => v = some (.ref SS.bz) ∧ Fr n0 L ∧ h = h0) := by
  refine MetN.walk (plainFor_of_name pn_41) ?_
  intro p e s m below meth c s₁ hx hZ hby hml hown hnm hret hlk X0 e0
  have N0 := Fr.nil n0
  refine Win.to s₁ (mkF m 0 #[.val (.ref a1), .val (.int (1 : Int32))] []) (fun _ k => castTop rfl k) ?_
  refine W.aloadN X0 hx (hc hby D41 0 rfl) rfl rfl ?_
  refine W.getF X0 hx hZ hown (host := "") (Or.inl (wk hw 188 rfl)) Via.refl e0 P0 (hc hby D41 1 rfl) (fun T101 X101 e101 => ?_)
  refine W.ifYes X101 hx (hc hby D41 2 rfl) (by decide) (by decide) (pc' := 11) rfl ?_
  obtain ⟨T102, X102, e102, st102⟩ := getS2 X101 hx hZ hown (host := "") (Or.inl (wk hw 237 rfl)) Via.refl e101 (Sta.ext O0.2 SS.S_bz) (g := (mkF m 11 #[.val (.ref a1), .val (.int (1 : Int32))] [])) rfl (hc hby D41 12 rfl)
  refine Win.to T102 (mkF m 14 #[.val (.ref a1), .val (.int (1 : Int32))] [(.ref SS.bz)]) (fun _ k => st102 _ k) ?_
  exact Win.retA X102 hx hlk hret rfl rfl (hc hby D41 13 rfl) (by decide) (by decide) (by (try rw [e102]); exact ⟨rfl, N0, rfl⟩)
abbrev R_xBigInt_divideAndRemainderKnuth1 : Room := ⟨4, 8, 22, 59⟩
theorem xBigInt_divideAndRemainderKnuth1 (l : Launch) (Z : State) (a0 : Array Value) (hw : ∀ d ∈ tables_1, d.before a0 Z = true) (SS : Stat Z) (ix : Fin 6) (a1 : Addr) (a2 : Addr) (a3 : Addr) (a4 : Addr) (k_a3 : ClassId) (k_a4 : ClassId) (h0 : Heap) (n0 : Nat) (O0 : Old Z n0 h0) (P0 : Fld Z h0 a1 "java/math/BigInteger" "mag" "[I" (.ref a3)) (P1 : Fld Z h0 a1 "java/math/BigInteger" "signum" "I" (.int (1 : Int32))) (P2 : Fld Z h0 a2 "java/math/BigInteger" "mag" "[I" (.ref a4)) (P3 : Fld Z h0 a2 "java/math/BigInteger" "signum" "I" (.int (1 : Int32))) (P4 : Arv Z h0 a3 k_a3 .int (1 : Int32) [(.int (vI ix [2000000000, -294967296, 2000000000, 2000000000, 2000000000, 2000000000]))] (.int (0 : Int32))) (P5 : Arv Z h0 a4 k_a4 .int (1 : Int32) [(.int (1000000000 : Int32))] (.int (0 : Int32))) (hcl : ix.val < 2) :
    MetN l Z (⟨"java/math/BigInteger", "divideAndRemainderKnuth", "(Ljava/math/BigInteger;)[Ljava/math/BigInteger;"⟩ : MethodName) jdk_2097_method_64_code 7 (some (.array (.object "java/math/BigInteger"))) R_xBigInt_divideAndRemainderKnuth1 [] #[(.ref a1), (.ref a2)] h0 (fun v h L => ∃ (r1 : Addr) (r2 : Addr) (r3 : Addr) (k_r3 : ClassId) (k_r1 : ClassId), v = some (.ref r1) ∧ Fr n0 L ∧ Keep h0 h [] ∧ h0.size ≤ r1 ∧ h0.size ≤ r2 ∧ h0.size ≤ r3 ∧ Fld Z h r2 "java/math/BigInteger" "bitLengthPlusOne" "I" (.int (0 : Int32)) ∧ Arv Z h r3 k_r3 .int (1 : Int32) [(.int (vI ix [2, 4, 8, 16, 32, 60]))] (.int (0 : Int32)) ∧ Fld Z h r2 "java/math/BigInteger" "mag" "[I" (.ref r3) ∧ Fld Z h r2 "java/math/BigInteger" "signum" "I" (.int (1 : Int32)) ∧ Exa Z h r2 "java/math/BigInteger" ∧ Arv Z h r1 k_r1 (.object "java/math/BigInteger") (2 : Int32) [(.ref r2), (.ref SS.bz)] .null ∧ (r3 ≠ r1)) := by
  refine MetN.walk (plainFor_of_name pn_33) ?_
  intro p e s m below meth c s₁ hx hZ hby hml hown hnm hret hlk X0 e0
  have N0 := Fr.nil n0
  refine Win.to s₁ (mkF m 0 #[.val (.ref a1), .val (.ref a2), .unset, .unset, .unset, .unset, .unset] []) (fun _ k => castTop rfl k) ?_
  refine W.iconst X0 hx (hc hby D33 0 rfl) (v := 2) rfl ?_
  obtain ⟨T101, h101, k101, X101, e101, E101, A101, Ov101, st101⟩ := newR X0 hx hZ hown (wk hw 151 rfl) (wk hw 175 rfl) e0 (g := (mkF m 1 #[.val (.ref a1), .val (.ref a2), .unset, .unset, .unset, .unset, .unset] [(.int (2 : Int32))])) rfl (hc hby D33 1 rfl) rfl (by decide) (cap := 2) (by decide) (by decide) (by decide) (by decide)
  obtain ⟨b101, g101⟩ : ∃ z, z = h0.size := ⟨_, rfl⟩
  rw [← g101] at A101 st101
  have ne102 : a1 ≠ b101 := Nat.ne_of_lt (Nat.lt_of_lt_of_le P0.lt (Nat.le_of_eq g101.symm))
  have g103 : n0 ≤ b101 := Nat.le_trans (own_le O0) (Nat.le_of_eq g101.symm)
  have z104 : h0.size ≤ b101 := (Nat.le_of_eq g101.symm)
  have O105 := Old.ext O0 E101
  have K106 : Keep h0 h101 [] := (Keep.refl h0 []).ext E101
  have F107 : Arv Z h101 b101 k101 (.object "java/math/BigInteger") (2 : Int32) [.null, .null] .null := (Arv.new A101 (by decide)).pad (pad_rep [] .null 2)
  refine Win.to T101 (mkF m 4 #[.val (.ref a1), .val (.ref a2), .unset, .unset, .unset, .unset, .unset] [(.ref b101)]) (fun _ k => st101 _ k) ?_
  refine W.astoreN X101 hx (hc hby D33 2 rfl) rfl (l' := #[.val (.ref a1), .val (.ref a2), .val (.ref b101), .unset, .unset, .unset, .unset]) rfl ?_
  obtain ⟨T108, h108, X108, e108, E108, A108, D108, -, st108⟩ := newO X101 hx hZ hown (wk hw 176 rfl) (wk hw 177 rfl) (wk hw 178 rfl) e101 (g := (mkF m 5 #[.val (.ref a1), .val (.ref a2), .val (.ref b101), .unset, .unset, .unset, .unset] [])) rfl (hc hby D33 3 rfl) (by decide) (by decide)
  obtain ⟨b108, g108⟩ : ∃ z, z = h101.size := ⟨_, rfl⟩
  rw [← g108] at A108 D108 st108
  have F109 := Fld.ext E101 P0
  have ne110 : a1 ≠ b108 := Nat.ne_of_lt (Nat.lt_of_lt_of_le F109.lt (Nat.le_of_eq g108.symm))
  have F111 := Fld.ext E101 P2
  have ne112 : a2 ≠ b108 := Nat.ne_of_lt (Nat.lt_of_lt_of_le F111.lt (Nat.le_of_eq g108.symm))
  have F113 := P4.ext E101
  have ne114 : a3 ≠ b108 := Nat.ne_of_lt (Nat.lt_of_lt_of_le F113.lt (Nat.le_of_eq g108.symm))
  have F115 := P5.ext E101
  have ne116 : a4 ≠ b108 := Nat.ne_of_lt (Nat.lt_of_lt_of_le F115.lt (Nat.le_of_eq g108.symm))
  have ne117 : b101 ≠ b108 := Nat.ne_of_lt (Nat.lt_of_lt_of_le F107.lt (Nat.le_of_eq g108.symm))
  have g118 : n0 ≤ b108 := Nat.le_trans (own_le O105) (Nat.le_of_eq g108.symm)
  have z119 : h0.size ≤ b108 := Nat.le_trans K106.1 (Nat.le_of_eq g108.symm)
  have O120 := Old.ext O105 E108
  have K121 : Keep h0 h108 [] := K106.ext E108
  have F122 : Fld Z h108 b108 "java/math/MutableBigInteger" "offset" "I" (.int (0 : Int32)) := D108 (Or.inl (wk hw 185 rfl)) (ty := .int) (by decide)
  have F123 : Fld Z h108 b108 "java/math/MutableBigInteger" "value" "[I" .null := D108 (Or.inl (wk hw 187 rfl)) (ty := (.array .int)) (by decide)
  have F124 : Fld Z h108 b108 "java/math/MutableBigInteger" "intLen" "I" (.int (0 : Int32)) := D108 (Or.inl (wk hw 189 rfl)) (ty := .int) (by decide)
  refine Win.to T108 (mkF m 8 #[.val (.ref a1), .val (.ref a2), .val (.ref b101), .unset, .unset, .unset, .unset] [(.ref b108)]) (fun _ k => st108 _ k) ?_
  refine W.dup X108 hx (hc hby D33 4 rfl) rfl ?_
  refine W.special X108 hx hZ rfl hown (wk hw 179 rfl) (wk hw 180 rfl) (wk hw 178 rfl) (wk hw 182 rfl) (by decide) (xMutabl_init1 l Z a0 hw SS b108 h108 n0 O120 A108 F124 F122 F123 g118) e108 (by rw [hml]; rfl) (a := b108) (argsL := []) (rest := [(.ref b108)]) rfl (lenOf pd___V rfl) rfl (W := 1) (Nat.le_of_eq rfl) (hc hby D33 5 rfl) (by decide) (by decide) (by decide) (by decide) (fun T125 h125 v125 L125 X125 e125 q125 => ?_)
  obtain ⟨r1_125, k_r1_125, rfl, N125q, r125_0, r125_1, r125_2, r125_3, r125_4, r125_5, r125_6⟩ := q125
  have N126 := Fr.app N0 N125q
  have F127 := Fld.ext E108 F109
  have ne128 : a1 ≠ r1_125 := Nat.ne_of_lt (Nat.lt_of_lt_of_le F127.lt r125_1)
  have F129 := Fld.ext E108 F111
  have ne130 : a2 ≠ r1_125 := Nat.ne_of_lt (Nat.lt_of_lt_of_le F129.lt r125_1)
  have F131 := F113.ext E108
  have ne132 : a3 ≠ r1_125 := Nat.ne_of_lt (Nat.lt_of_lt_of_le F131.lt r125_1)
  have F133 := F115.ext E108
  have ne134 : a4 ≠ r1_125 := Nat.ne_of_lt (Nat.lt_of_lt_of_le F133.lt r125_1)
  have F135 := F107.ext E108
  have ne136 : b101 ≠ r1_125 := Nat.ne_of_lt (Nat.lt_of_lt_of_le F135.lt r125_1)
  have g137 : n0 ≤ r1_125 := Nat.le_trans (own_le O120) r125_1
  have z138 : h0.size ≤ r1_125 := Nat.le_trans K121.1 r125_1
  have O139 := Old.keep O120 r125_0 (allS g118 all0)
  have K140 : Keep h0 h125 [] := Keep.trans K121 r125_0 (allS (Or.inr z119) all0)
  refine W.astoreN X125 hx (hc hby D33 6 rfl) rfl (l' := #[.val (.ref a1), .val (.ref a2), .val (.ref b101), .val (.ref b108), .unset, .unset, .unset]) rfl ?_
  obtain ⟨T141, h141, X141, e141, E141, A141, D141, -, st141⟩ := newO X125 hx hZ hown (wk hw 176 rfl) (wk hw 177 rfl) (wk hw 178 rfl) e125 (g := (mkF m 13 #[.val (.ref a1), .val (.ref a2), .val (.ref b101), .val (.ref b108), .unset, .unset, .unset] [])) rfl (hc hby D33 7 rfl) (by decide) (by decide)
  obtain ⟨b141, g141⟩ : ∃ z, z = h125.size := ⟨_, rfl⟩
  rw [← g141] at A141 D141 st141
  have F142 := F127.keep r125_0 (ninS ne110 nin0)
  have ne143 : a1 ≠ b141 := Nat.ne_of_lt (Nat.lt_of_lt_of_le F142.lt (Nat.le_of_eq g141.symm))
  have F144 := F129.keep r125_0 (ninS ne112 nin0)
  have ne145 : a2 ≠ b141 := Nat.ne_of_lt (Nat.lt_of_lt_of_le F144.lt (Nat.le_of_eq g141.symm))
  have F146 := F131.keep r125_0 (ninS ne114 nin0)
  have ne147 : a3 ≠ b141 := Nat.ne_of_lt (Nat.lt_of_lt_of_le F146.lt (Nat.le_of_eq g141.symm))
  have F148 := F133.keep r125_0 (ninS ne116 nin0)
  have ne149 : a4 ≠ b141 := Nat.ne_of_lt (Nat.lt_of_lt_of_le F148.lt (Nat.le_of_eq g141.symm))
  have F150 := F135.keep r125_0 (ninS ne117 nin0)
  have ne151 : b101 ≠ b141 := Nat.ne_of_lt (Nat.lt_of_lt_of_le F150.lt (Nat.le_of_eq g141.symm))
  have ne152 : b108 ≠ b141 := Nat.ne_of_lt (Nat.lt_of_lt_of_le r125_6.lt (Nat.le_of_eq g141.symm))
  have ne153 : r1_125 ≠ b141 := Nat.ne_of_lt (Nat.lt_of_lt_of_le r125_4.lt (Nat.le_of_eq g141.symm))
  have g154 : n0 ≤ b141 := Nat.le_trans (own_le O139) (Nat.le_of_eq g141.symm)
  have z155 : h0.size ≤ b141 := Nat.le_trans K140.1 (Nat.le_of_eq g141.symm)
  have O156 := Old.ext O139 E141
  have K157 : Keep h0 h141 [] := K140.ext E141
  have F158 : Fld Z h141 b141 "java/math/MutableBigInteger" "offset" "I" (.int (0 : Int32)) := D141 (Or.inl (wk hw 185 rfl)) (ty := .int) (by decide)
  have F159 : Fld Z h141 b141 "java/math/MutableBigInteger" "value" "[I" .null := D141 (Or.inl (wk hw 187 rfl)) (ty := (.array .int)) (by decide)
  have F160 : Fld Z h141 b141 "java/math/MutableBigInteger" "intLen" "I" (.int (0 : Int32)) := D141 (Or.inl (wk hw 189 rfl)) (ty := .int) (by decide)
  refine Win.to T141 (mkF m 16 #[.val (.ref a1), .val (.ref a2), .val (.ref b101), .val (.ref b108), .unset, .unset, .unset] [(.ref b141)]) (fun _ k => st141 _ k) ?_
  refine W.dup X141 hx (hc hby D33 8 rfl) rfl ?_
  refine W.aloadN X141 hx (hc hby D33 9 rfl) rfl rfl ?_
  have F161 := Fld.ext E141 F142
  refine W.getF X141 hx hZ hown (host := "") (Or.inl (wk hw 162 rfl)) Via.refl e141 F161 (hc hby D33 10 rfl) (fun T162 X162 e162 => ?_)
  have F163 := F146.ext E141
  refine W.special X162 hx hZ rfl hown (wk hw 190 rfl) (wk hw 191 rfl) (wk hw 178 rfl) (wk hw 192 rfl) (by decide) (xMutabl_init2 l Z a0 hw SS ix b141 a3 k_a3 h141 n0 O156 A141 F160 F158 F159 F163 hcl g154) e162 (by rw [hml]; rfl) (a := b141) (argsL := [(.ref a3)]) (rest := [(.ref b141)]) rfl (lenOf pd___I_V rfl) rfl (W := 1) (Nat.le_of_eq rfl) (hc hby D33 11 rfl) (by decide) (by decide) (by decide) (by decide) (fun T164 h164 v164 L164 X164 e164 q164 => ?_)
  obtain ⟨rfl, N164q, r164_0, r164_1, r164_2, r164_3, r164_4⟩ := q164
  have N165 := Fr.app N126 N164q
  have O166 := Old.keep O156 r164_0 (allS g154 all0)
  have K167 : Keep h0 h164 [] := Keep.trans K157 r164_0 (allS (Or.inr z155) all0)
  refine W.astore X164 hx (hc hby D33 12 rfl) rfl (l' := #[.val (.ref a1), .val (.ref a2), .val (.ref b101), .val (.ref b108), .val (.ref b141), .unset, .unset]) rfl ?_
  obtain ⟨T168, h168, X168, e168, E168, A168, D168, -, st168⟩ := newO X164 hx hZ hown (wk hw 176 rfl) (wk hw 177 rfl) (wk hw 178 rfl) e164 (g := (mkF m 26 #[.val (.ref a1), .val (.ref a2), .val (.ref b101), .val (.ref b108), .val (.ref b141), .unset, .unset] [])) rfl (hc hby D33 13 rfl) (by decide) (by decide)
  obtain ⟨b168, g168⟩ : ∃ z, z = h164.size := ⟨_, rfl⟩
  rw [← g168] at A168 D168 st168
  have F169 := F161.keep r164_0 (ninS ne143 nin0)
  have ne170 : a1 ≠ b168 := Nat.ne_of_lt (Nat.lt_of_lt_of_le F169.lt (Nat.le_of_eq g168.symm))
  have F171 := (Fld.ext E141 F144).keep r164_0 (ninS ne145 nin0)
  have ne172 : a2 ≠ b168 := Nat.ne_of_lt (Nat.lt_of_lt_of_le F171.lt (Nat.le_of_eq g168.symm))
  have F173 := F163.keep r164_0 (ninS ne147 nin0)
  have ne174 : a3 ≠ b168 := Nat.ne_of_lt (Nat.lt_of_lt_of_le F173.lt (Nat.le_of_eq g168.symm))
  have F175 := (F148.ext E141).keep r164_0 (ninS ne149 nin0)
  have ne176 : a4 ≠ b168 := Nat.ne_of_lt (Nat.lt_of_lt_of_le F175.lt (Nat.le_of_eq g168.symm))
  have F177 := (F150.ext E141).keep r164_0 (ninS ne151 nin0)
  have ne178 : b101 ≠ b168 := Nat.ne_of_lt (Nat.lt_of_lt_of_le F177.lt (Nat.le_of_eq g168.symm))
  have F179 := (Exa.ext E141 r125_6).keep r164_0
  have ne180 : b108 ≠ b168 := Nat.ne_of_lt (Nat.lt_of_lt_of_le F179.lt (Nat.le_of_eq g168.symm))
  have F181 := (r125_4.ext E141).keep r164_0 (ninS ne153 nin0)
  have ne182 : r1_125 ≠ b168 := Nat.ne_of_lt (Nat.lt_of_lt_of_le F181.lt (Nat.le_of_eq g168.symm))
  have ne183 : b141 ≠ b168 := Nat.ne_of_lt (Nat.lt_of_lt_of_le r164_4.lt (Nat.le_of_eq g168.symm))
  have g184 : n0 ≤ b168 := Nat.le_trans (own_le O166) (Nat.le_of_eq g168.symm)
  have z185 : h0.size ≤ b168 := Nat.le_trans K167.1 (Nat.le_of_eq g168.symm)
  have O186 := Old.ext O166 E168
  have K187 : Keep h0 h168 [] := K167.ext E168
  have F188 : Fld Z h168 b168 "java/math/MutableBigInteger" "offset" "I" (.int (0 : Int32)) := D168 (Or.inl (wk hw 185 rfl)) (ty := .int) (by decide)
  have F189 : Fld Z h168 b168 "java/math/MutableBigInteger" "value" "[I" .null := D168 (Or.inl (wk hw 187 rfl)) (ty := (.array .int)) (by decide)
  have F190 : Fld Z h168 b168 "java/math/MutableBigInteger" "intLen" "I" (.int (0 : Int32)) := D168 (Or.inl (wk hw 189 rfl)) (ty := .int) (by decide)
  refine Win.to T168 (mkF m 29 #[.val (.ref a1), .val (.ref a2), .val (.ref b101), .val (.ref b108), .val (.ref b141), .unset, .unset] [(.ref b168)]) (fun _ k => st168 _ k) ?_
  refine W.dup X168 hx (hc hby D33 14 rfl) rfl ?_
  refine W.aloadN X168 hx (hc hby D33 15 rfl) rfl rfl ?_
  have F191 := Fld.ext E168 F171
  refine W.getF X168 hx hZ hown (host := "") (Or.inl (wk hw 162 rfl)) Via.refl e168 F191 (hc hby D33 16 rfl) (fun T192 X192 e192 => ?_)
  have F193 := F175.ext E168
  refine W.special X192 hx hZ rfl hown (wk hw 190 rfl) (wk hw 191 rfl) (wk hw 178 rfl) (wk hw 192 rfl) (by decide) (xMutabl_init3 l Z a0 hw SS b168 a4 k_a4 h168 n0 O186 A168 F190 F188 F189 F193 g184) e192 (by rw [hml]; rfl) (a := b168) (argsL := [(.ref a4)]) (rest := [(.ref b168)]) rfl (lenOf pd___I_V rfl) rfl (W := 1) (Nat.le_of_eq rfl) (hc hby D33 17 rfl) (by decide) (by decide) (by decide) (by decide) (fun T194 h194 v194 L194 X194 e194 q194 => ?_)
  obtain ⟨rfl, N194q, r194_0, r194_1, r194_2, r194_3, r194_4⟩ := q194
  have N195 := Fr.app N165 N194q
  have O196 := Old.keep O186 r194_0 (allS g184 all0)
  have K197 : Keep h0 h194 [] := Keep.trans K187 r194_0 (allS (Or.inr z185) all0)
  refine W.astore X194 hx (hc hby D33 18 rfl) rfl (l' := #[.val (.ref a1), .val (.ref a2), .val (.ref b101), .val (.ref b108), .val (.ref b141), .val (.ref b168), .unset]) rfl ?_
  refine W.aload X194 hx (hc hby D33 19 rfl) rfl rfl ?_
  refine W.aload X194 hx (hc hby D33 20 rfl) rfl rfl ?_
  refine W.aloadN X194 hx (hc hby D33 21 rfl) rfl rfl ?_
  have F198 := (Exa.ext E168 r164_4).keep r194_0
  have F199 := (Fld.ext E168 r164_1).keep r194_0 (ninS ne183 nin0)
  have F200 := (Fld.ext E168 r164_2).keep r194_0 (ninS ne183 nin0)
  have F201 := (Fld.ext E168 r164_3).keep r194_0 (ninS ne183 nin0)
  have F202 := (Exa.ext E168 F179).keep r194_0
  have F203 := (Fld.ext E168 ((Fld.ext E141 r125_2).keep r164_0 (ninS ne152 nin0))).keep r194_0 (ninS ne180 nin0)
  have F204 := (Fld.ext E168 ((Fld.ext E141 r125_3).keep r164_0 (ninS ne152 nin0))).keep r194_0 (ninS ne180 nin0)
  have F205 := (Fld.ext E168 ((Fld.ext E141 r125_5).keep r164_0 (ninS ne152 nin0))).keep r194_0 (ninS ne180 nin0)
  have F206 := (F173.ext E168).keep r194_0 (ninS ne174 nin0)
  have F207 := F193.keep r194_0 (ninS ne176 nin0)
  have F208 := (F181.ext E168).keep r194_0 (ninS ne182 nin0)
  refine W.virtual X194 hx hZ hown (wk hw 193 rfl) (wk hw 194 rfl) (notFace_of_selects (args := #[]) (mvT hZ (wk hw 196 rfl))) (wk hw 196 rfl) (wk hw 195 rfl) (wk hw 178 rfl) (wk hw 197 rfl) (by decide) (xMutabl_divideKnuth1 l Z a0 hw SS ix b141 b168 b108 a3 a4 r1_125 k_a3 k_a4 k_r1_125 h194 n0 O196 F198 F199 F200 F201 r194_4 r194_1 r194_2 r194_3 F202 F203 F204 F205 F206 F207 F208 hcl (Ne.symm ne152) (Ne.symm ne180) ne132 ne134 g118 g137) e194 F198 (by rw [hml]; rfl) (argsL := [(.ref b168), (.ref b108)]) (rest := []) rfl (lenOf pd__Ljava_math_MutableBigInteger_Ljava_math_MutableBigInteger__Ljava_math_MutableBigInteger_ rfl) rfl (W := 0) (Nat.le_of_eq rfl) (hc hby D33 22 rfl) (by decide) (by decide) (by decide) (by decide) (fun T209 h209 v209 L209 X209 e209 q209 => ?_)
  obtain ⟨r1_209, r2_209, k_r2_209, rfl, N209q, r209_0, r209_1, r209_2, r209_3, r209_4, r209_5, r209_6, r209_7, r209_8, r209_9, r209_10, r209_11, r209_12⟩ := q209
  have N210 := Fr.app N195 N209q
  have F211 := (F177.ext E168).keep r194_0 (ninS ne178 nin0)
  have ne212 : b101 ≠ r1_209 := Nat.ne_of_lt (Nat.lt_of_lt_of_le F211.lt r209_1)
  have ne213 : b108 ≠ r1_209 := Nat.ne_of_lt (Nat.lt_of_lt_of_le F202.lt r209_1)
  have ne214 : b141 ≠ r1_209 := Nat.ne_of_lt (Nat.lt_of_lt_of_le F198.lt r209_1)
  have ne215 : b168 ≠ r1_209 := Nat.ne_of_lt (Nat.lt_of_lt_of_le r194_4.lt r209_1)
  have g216 : n0 ≤ r1_209 := Nat.le_trans (own_le O196) r209_1
  have z217 : h0.size ≤ r1_209 := Nat.le_trans K197.1 r209_1
  have ne218 : b101 ≠ r2_209 := Nat.ne_of_lt (Nat.lt_of_lt_of_le F211.lt r209_2)
  have ne219 : r1_125 ≠ r2_209 := Nat.ne_of_lt (Nat.lt_of_lt_of_le F208.lt r209_2)
  have g220 : n0 ≤ r2_209 := Nat.le_trans (own_le O196) r209_2
  have z221 : h0.size ≤ r2_209 := Nat.le_trans K197.1 r209_2
  have O222 := Old.keep O196 r209_0 (allS g118 (allS g137 all0))
  have K223 : Keep h0 h209 [] := Keep.trans K197 r209_0 (allS (Or.inr z119) (allS (Or.inr z138) all0))
  refine W.astore X209 hx (hc hby D33 23 rfl) rfl (l' := #[.val (.ref a1), .val (.ref a2), .val (.ref b101), .val (.ref b108), .val (.ref b141), .val (.ref b168), .val (.ref r1_209)]) rfl ?_
  refine W.aloadN X209 hx (hc hby D33 24 rfl) rfl rfl ?_
  refine W.iconst X209 hx (hc hby D33 25 rfl) (v := 0) rfl ?_
  refine W.aloadN X209 hx (hc hby D33 26 rfl) rfl rfl ?_
  refine W.aloadN X209 hx (hc hby D33 27 rfl) rfl rfl ?_
  have F224 := ((Fld.ext E168 ((Fld.ext E141 ((Fld.ext E108 (Fld.ext E101 P1)).keep r125_0 (ninS ne110 nin0))).keep r164_0 (ninS ne143 nin0))).keep r194_0 (ninS ne170 nin0)).keep r209_0 (ninS ne110 (ninS ne128 nin0))
  refine W.getF X209 hx hZ hown (host := "") (Or.inl (wk hw 159 rfl)) Via.refl e209 F224 (hc hby D33 28 rfl) (fun T225 X225 e225 => ?_)
  refine W.aloadN X225 hx (hc hby D33 29 rfl) rfl rfl ?_
  have F226 := ((Fld.ext E168 ((Fld.ext E141 ((Fld.ext E108 (Fld.ext E101 P3)).keep r125_0 (ninS ne112 nin0))).keep r164_0 (ninS ne145 nin0))).keep r194_0 (ninS ne172 nin0)).keep r209_0 (ninS ne112 (ninS ne130 nin0))
  refine W.getF X225 hx hZ hown (host := "") (Or.inl (wk hw 159 rfl)) Via.refl e225 F226 (hc hby D33 30 rfl) (fun T227 X227 e227 => ?_)
  refine W.icmpNo X227 hx (hc hby D33 31 rfl) (by decide) ?_
  refine W.iconst X227 hx (hc hby D33 32 rfl) (v := 1) rfl ?_
  refine W.goto X227 hx (hc hby D33 33 rfl) (by decide) (pc' := 68) rfl ?_
  refine W.virtual X227 hx hZ hown (wk hw 222 rfl) (wk hw 223 rfl) (notFace_of_selects (args := #[]) (mvT hZ (wk hw 225 rfl))) (wk hw 225 rfl) (wk hw 224 rfl) (wk hw 178 rfl) (wk hw 226 rfl) (by decide) (xMutabl_toBigInteger1 l Z a0 hw SS ix b108 r1_125 k_r1_125 h209 n0 O222 r209_11 r209_8 r209_9 r209_10 r209_12 hcl) e227 r209_11 (by rw [hml]; rfl) (argsL := [(.int (1 : Int32))]) (rest := [(.int (0 : Int32)), (.ref b101)]) rfl (lenOf pd__I_Ljava_math_BigInteger_ rfl) rfl (W := 2) (Nat.le_of_eq rfl) (hc hby D33 34 rfl) (by decide) (by decide) (by decide) (by decide) (fun T228 h228 v228 L228 X228 e228 q228 => ?_)
  obtain ⟨r1_228, rfl, N228q, r228_0, r228_1, r228_2, r228_3, r228_4, r228_5⟩ := q228
  have N229 := Fr.app N210 N228q
  have F230 := F211.keep r209_0 (ninS ne117 (ninS ne136 nin0))
  have ne231 : b101 ≠ r1_228 := Nat.ne_of_lt (Nat.lt_of_lt_of_le F230.lt r228_1)
  have g232 : n0 ≤ r1_228 := Nat.le_trans (own_le O222) r228_1
  have z233 : h0.size ≤ r1_228 := Nat.le_trans K223.1 r228_1
  have O234 := Old.keep O222 r228_0 all0
  have K235 : Keep h0 h228 [] := Keep.trans K223 r228_0 all0
  have F236 := F230.keep r228_0 nin0
  obtain ⟨cl237, Ar237, q237, S237, N237, H237, G237⟩ := id F236
  have hi237 : ¬ ((0 : Int32) < 0 ∨ cl237.slots.size ≤ ((0 : Int32)).toNatClampNeg) := inb_of S237 ⟨by decide, by decide⟩
  obtain ⟨T238, h238, X238, e238, W238, st238⟩ := stR X228 hx hZ e228 Ar237 (j := (0 : Int32)) (v := (.ref r1_228)) hi237 rfl (Sto.of Ar237 (q237.symm ▸ Ov101) (Ins.self r228_5)) (g := (mkF m 71 #[.val (.ref a1), .val (.ref a2), .val (.ref b101), .val (.ref b108), .val (.ref b141), .val (.ref b168), .val (.ref r1_209)] [(.ref r1_228), (.int (0 : Int32)), (.ref b101)])) rfl rfl (hc hby D33 35 rfl)
  have O240 := Old.wr O234 W238 g103
  have K241 : Keep h0 h238 [] := K235.wr W238 (Or.inr z104)
  have N242 := Fr.snoc X238 N229 g103
  have F239 : Arv Z h238 b101 k101 (.object "java/math/BigInteger") (2 : Int32) [(.ref r1_228), .null] .null := Arv.set Ar237 q237 S237 N237 H237 G237 rfl W238 0 rfl (Nat.le_of_ble_eq_true rfl)
  refine Win.to T238 (mkF m 72 #[.val (.ref a1), .val (.ref a2), .val (.ref b101), .val (.ref b108), .val (.ref b141), .val (.ref b168), .val (.ref r1_209)] []) (fun _ k => st238 _ k) ?_
  refine W.aloadN X238 hx (hc hby D33 36 rfl) rfl rfl ?_
  refine W.iconst X238 hx (hc hby D33 37 rfl) (v := 1) rfl ?_
  refine W.aload X238 hx (hc hby D33 38 rfl) rfl rfl ?_
  refine W.aloadN X238 hx (hc hby D33 39 rfl) rfl rfl ?_
  have F243 := Fld.other W238 (F224.keep r228_0 nin0) (Or.inl ne102)
  refine W.getF X238 hx hZ hown (host := "") (Or.inl (wk hw 159 rfl)) Via.refl e238 F243 (hc hby D33 40 rfl) (fun T244 X244 e244 => ?_)
  have F245 := Fld.other W238 (r209_3.keep r228_0 nin0) (Or.inl (Ne.symm ne212))
  have F247 := Exa.wr W238 (r209_7.keep r228_0)
  refine W.virtual X244 hx hZ hown (wk hw 222 rfl) (wk hw 223 rfl) (notFace_of_selects (args := #[]) (mvT hZ (wk hw 225 rfl))) (wk hw 225 rfl) (wk hw 224 rfl) (wk hw 178 rfl) (wk hw 226 rfl) (by decide) (xMutabl_toBigInteger2 l Z a0 hw SS r1_209 h238 n0 O240 F245) e244 F247 (by rw [hml]; rfl) (argsL := [(.int (1 : Int32))]) (rest := [(.int (1 : Int32)), (.ref b101)]) rfl (lenOf pd__I_Ljava_math_BigInteger_ rfl) rfl (W := 2) (Nat.le_of_eq rfl) (hc hby D33 41 rfl) (by decide) (by decide) (by decide) (by decide) (fun T246 h246 v246 L246 X246 e246 q246 => ?_)
  obtain ⟨rfl, N246q, r246_0⟩ := q246
  have N248 := Fr.app N242 N246q
  have e246 := e246.trans r246_0
  have F250 := Exa.ext O240.2 SS.E_bz
  obtain ⟨cl249, Ar249, q249, S249, N249, H249, G249⟩ := id F239
  have hi249 : ¬ ((1 : Int32) < 0 ∨ cl249.slots.size ≤ ((1 : Int32)).toNatClampNeg) := inb_of S249 ⟨by decide, by decide⟩
  obtain ⟨T251, h251, X251, e251, W251, st251⟩ := stR X246 hx hZ e246 Ar249 (j := (1 : Int32)) (v := (.ref SS.bz)) hi249 rfl (Sto.of Ar249 (q249.symm ▸ Ov101) (Ins.self F250)) (g := (mkF m 83 #[.val (.ref a1), .val (.ref a2), .val (.ref b101), .val (.ref b108), .val (.ref b141), .val (.ref b168), .val (.ref r1_209)] [(.ref SS.bz), (.int (1 : Int32)), (.ref b101)])) rfl rfl (hc hby D33 42 rfl)
  have O253 := Old.wr O240 W251 g103
  have K254 : Keep h0 h251 [] := K241.wr W251 (Or.inr z104)
  have N255 := Fr.snoc X251 N248 g103
  have F252 : Arv Z h251 b101 k101 (.object "java/math/BigInteger") (2 : Int32) [(.ref r1_228), (.ref SS.bz)] .null := Arv.set Ar249 q249 S249 N249 H249 G249 rfl W251 1 rfl (Nat.le_of_ble_eq_true rfl)
  refine Win.to T251 (mkF m 84 #[.val (.ref a1), .val (.ref a2), .val (.ref b101), .val (.ref b108), .val (.ref b141), .val (.ref b168), .val (.ref r1_209)] []) (fun _ k => st251 _ k) ?_
  refine W.aloadN X251 hx (hc hby D33 43 rfl) rfl rfl ?_
  have F256 := Fld.other W251 (Fld.other W238 r228_2 (Or.inl (Ne.symm ne231))) (Or.inl (Ne.symm ne231))
  have F257 := ((r209_12.keep r228_0 nin0).other W238 (Ne.symm ne136)).other W251 (Ne.symm ne136)
  have F258 := Fld.other W251 (Fld.other W238 r228_3 (Or.inl (Ne.symm ne231))) (Or.inl (Ne.symm ne231))
  have F259 := Fld.other W251 (Fld.other W238 r228_4 (Or.inl (Ne.symm ne231))) (Or.inl (Ne.symm ne231))
  have F260 := Exa.wr W251 (Exa.wr W238 r228_5)
  exact Win.retA X251 hx hlk hret rfl rfl (hc hby D33 44 rfl) (by decide) (by decide) (by (try rw [e251]); exact ⟨b101, r1_228, r1_125, k_r1_125, k101, rfl, N255, K254, z104, z233, z138, F256, F257, F258, F259, F260, F252, (Ne.symm ne136)⟩)
abbrev R_xBigInt_divideAndRemainder1 : Room := ⟨5, 8, 22, 77⟩
theorem xBigInt_divideAndRemainder1 (l : Launch) (Z : State) (a0 : Array Value) (hw : ∀ d ∈ tables_1, d.before a0 Z = true) (SS : Stat Z) (ix : Fin 6) (a1 : Addr) (a2 : Addr) (a3 : Addr) (a4 : Addr) (k_a3 : ClassId) (k_a4 : ClassId) (h0 : Heap) (n0 : Nat) (O0 : Old Z n0 h0) (P0 : Exa Z h0 a1 "java/math/BigInteger") (P1 : Fld Z h0 a1 "java/math/BigInteger" "mag" "[I" (.ref a3)) (P2 : Fld Z h0 a1 "java/math/BigInteger" "signum" "I" (.int (1 : Int32))) (P3 : Fld Z h0 a2 "java/math/BigInteger" "mag" "[I" (.ref a4)) (P4 : Fld Z h0 a2 "java/math/BigInteger" "signum" "I" (.int (1 : Int32))) (P5 : Arv Z h0 a3 k_a3 .int (1 : Int32) [(.int (vI ix [2000000000, -294967296, 2000000000, 2000000000, 2000000000, 2000000000]))] (.int (0 : Int32))) (P6 : Arv Z h0 a4 k_a4 .int (1 : Int32) [(.int (1000000000 : Int32))] (.int (0 : Int32))) (hcl : ix.val < 2) :
    MetN l Z (⟨"java/math/BigInteger", "divideAndRemainder", "(Ljava/math/BigInteger;)[Ljava/math/BigInteger;"⟩ : MethodName) jdk_2097_method_63_code 2 (some (.array (.object "java/math/BigInteger"))) R_xBigInt_divideAndRemainder1 [] #[(.ref a1), (.ref a2)] h0 (fun v h L => ∃ (r1 : Addr) (r2 : Addr) (r3 : Addr) (k_r3 : ClassId) (k_r1 : ClassId), v = some (.ref r1) ∧ Fr n0 L ∧ Keep h0 h [] ∧ h0.size ≤ r1 ∧ h0.size ≤ r2 ∧ h0.size ≤ r3 ∧ Fld Z h r2 "java/math/BigInteger" "bitLengthPlusOne" "I" (.int (0 : Int32)) ∧ Arv Z h r3 k_r3 .int (1 : Int32) [(.int (vI ix [2, 4, 8, 16, 32, 60]))] (.int (0 : Int32)) ∧ Fld Z h r2 "java/math/BigInteger" "mag" "[I" (.ref r3) ∧ Fld Z h r2 "java/math/BigInteger" "signum" "I" (.int (1 : Int32)) ∧ Exa Z h r2 "java/math/BigInteger" ∧ Arv Z h r1 k_r1 (.object "java/math/BigInteger") (2 : Int32) [(.ref r2), (.ref SS.bz)] .null ∧ (r3 ≠ r1)) := by
  refine MetN.walk (plainFor_of_name pn_32) ?_
  intro p e s m below meth c s₁ hx hZ hby hml hown hnm hret hlk X0 e0
  have N0 := Fr.nil n0
  refine Win.to s₁ (mkF m 0 #[.val (.ref a1), .val (.ref a2)] []) (fun _ k => castTop rfl k) ?_
  refine W.aloadN X0 hx (hc hby D32 0 rfl) rfl rfl ?_
  refine W.getF X0 hx hZ hown (host := "") (Or.inl (wk hw 162 rfl)) Via.refl e0 P3 (hc hby D32 1 rfl) (fun T101 X101 e101 => ?_)
  obtain ⟨cl102, Ar102, -, S102, N102, -, -⟩ := id P6
  refine Win.to T101 (mkF m 5 #[.val (.ref a1), .val (.ref a2)] [(.int (1 : Int32))]) (fun _ k => X101.arraylength hx (by rw [e101]; exact Ar102.1) (State.isArrayOf_alike hZ.alike Ar102.2.1) (g := (mkF m 4 #[.val (.ref a1), .val (.ref a2)] [(.ref a4)])) rfl rfl (hc hby D32 2 rfl) _ (by rw [len_of S102 N102]; exact k)) ?_
  refine W.bipush X101 hx (hc hby D32 3 rfl) (v := 80) rfl ?_
  refine W.icmpYes X101 hx (hc hby D32 4 rfl) (by decide) (by decide) (pc' := 26) rfl ?_
  refine W.aloadN X101 hx (hc hby D32 5 rfl) rfl rfl ?_
  refine W.aloadN X101 hx (hc hby D32 6 rfl) rfl rfl ?_
  refine W.private X101 hx hZ hown (wk hw 170 rfl) (wk hw 171 rfl) (wk hw 173 rfl) (wk hw 172 rfl) (wk hw 148 rfl) (wk hw 174 rfl) (by decide) (xBigInt_divideAndRemainderKnuth1 l Z a0 hw SS ix a1 a2 a3 a4 k_a3 k_a4 h0 n0 O0 P1 P2 P3 P4 P5 P6 hcl) e101 P0 (by rw [hml]; rfl) (argsL := [(.ref a2)]) (rest := []) rfl (lenOf pd__Ljava_math_BigInteger___Ljava_math_BigInteger_ rfl) rfl (W := 0) (Nat.le_of_eq rfl) (hc hby D32 7 rfl) (by decide) (by decide) (by decide) (by decide) (fun T103 h103 v103 L103 X103 e103 q103 => ?_)
  obtain ⟨r1_103, r2_103, r3_103, k_r3_103, k_r1_103, rfl, N103q, r103_0, r103_1, r103_2, r103_3, r103_4, r103_5, r103_6, r103_7, r103_8, r103_9, r103_10⟩ := q103
  have N104 := Fr.app N0 N103q
  have g105 : n0 ≤ r1_103 := Nat.le_trans (own_le O0) r103_1
  have z106 : h0.size ≤ r1_103 := r103_1
  have g107 : n0 ≤ r2_103 := Nat.le_trans (own_le O0) r103_2
  have z108 : h0.size ≤ r2_103 := r103_2
  have g109 : n0 ≤ r3_103 := Nat.le_trans (own_le O0) r103_3
  have z110 : h0.size ≤ r3_103 := r103_3
  have O111 := Old.keep O0 r103_0 all0
  have K112 : Keep h0 h103 [] := Keep.trans (Keep.refl h0 []) r103_0 all0
  exact Win.retA X103 hx hlk hret rfl rfl (hc hby D32 8 rfl) (by decide) (by decide) (by (try rw [e103]); exact ⟨r1_103, r2_103, r3_103, k_r3_103, k_r1_103, rfl, N104, K112, z106, z108, z110, r103_4, r103_5, r103_6, r103_7, r103_8, r103_9, r103_10⟩)
abbrev R_xBigInt_signInt2 : Room := ⟨0, 0, 0, 0⟩
theorem xBigInt_signInt2 (l : Launch) (Z : State) (a0 : Array Value) (hw : ∀ d ∈ tables_1, d.before a0 Z = true) (SS : Stat Z) (a1 : Addr) (h0 : Heap) (n0 : Nat) (O0 : Old Z n0 h0) (P0 : Fld Z h0 a1 "java/math/BigInteger" "signum" "I" (.int (0 : Int32))) :
    MetN l Z (⟨"java/math/BigInteger", "signInt", "()I"⟩ : MethodName) jdk_2097_method_147_code 1 (some .int) R_xBigInt_signInt2 [] #[(.ref a1)] h0 (fun v h L => v = some (.int (0 : Int32)) ∧ Fr n0 L ∧ h = h0) := by
  refine MetN.walk (plainFor_of_name pn_49) ?_
  intro p e s m below meth c s₁ hx hZ hby hml hown hnm hret hlk X0 e0
  have N0 := Fr.nil n0
  refine Win.to s₁ (mkF m 0 #[.val (.ref a1)] []) (fun _ k => castTop rfl k) ?_
  refine W.aloadN X0 hx (hc hby D49 0 rfl) rfl rfl ?_
  refine W.getF X0 hx hZ hown (host := "") (Or.inl (wk hw 159 rfl)) Via.refl e0 P0 (hc hby D49 1 rfl) (fun T101 X101 e101 => ?_)
  refine W.ifYes X101 hx (hc hby D49 2 rfl) (by decide) (by decide) (pc' := 11) rfl ?_
  refine W.iconst X101 hx (hc hby D49 3 rfl) (v := 0) rfl ?_
  exact Win.retI X101 hx hlk hret (hc hby D49 4 rfl) (by decide) (by decide) (by (try rw [e101]); exact ⟨rfl, N0, rfl⟩)
abbrev R_xBigInt_getInt3 : Room := ⟨1, 0, 0, 12⟩
theorem xBigInt_getInt3 (l : Launch) (Z : State) (a0 : Array Value) (hw : ∀ d ∈ tables_1, d.before a0 Z = true) (SS : Stat Z) (a1 : Addr) (a2 : Addr) (k_a2 : ClassId) (h0 : Heap) (n0 : Nat) (O0 : Old Z n0 h0) (P0 : Exa Z h0 a1 "java/math/BigInteger") (P1 : Fld Z h0 a1 "java/math/BigInteger" "mag" "[I" (.ref a2)) (P2 : Fld Z h0 a1 "java/math/BigInteger" "signum" "I" (.int (0 : Int32))) (P3 : Arv Z h0 a2 k_a2 .int (0 : Int32) [] (.int (0 : Int32))) :
    MetN l Z (⟨"java/math/BigInteger", "getInt", "(I)I"⟩ : MethodName) jdk_2097_method_148_code 3 (some .int) R_xBigInt_getInt3 [] #[(.ref a1), (.int (0 : Int32))] h0 (fun v h L => v = some (.int (0 : Int32)) ∧ Fr n0 L ∧ h = h0) := by
  refine MetN.walk (plainFor_of_name pn_48) ?_
  intro p e s m below meth c s₁ hx hZ hby hml hown hnm hret hlk X0 e0
  have N0 := Fr.nil n0
  refine Win.to s₁ (mkF m 0 #[.val (.ref a1), .val (.int (0 : Int32)), .unset] []) (fun _ k => castTop rfl k) ?_
  refine W.iloadN X0 hx (hc hby D48 0 rfl) rfl ?_
  refine W.ifYes X0 hx (hc hby D48 1 rfl) (by decide) (by decide) (pc' := 6) rfl ?_
  refine W.iloadN X0 hx (hc hby D48 2 rfl) rfl ?_
  refine W.aloadN X0 hx (hc hby D48 3 rfl) rfl rfl ?_
  refine W.getF X0 hx hZ hown (host := "") (Or.inl (wk hw 162 rfl)) Via.refl e0 P1 (hc hby D48 4 rfl) (fun T101 X101 e101 => ?_)
  obtain ⟨cl102, Ar102, -, S102, N102, -, -⟩ := id P3
  refine Win.to T101 (mkF m 12 #[.val (.ref a1), .val (.int (0 : Int32)), .unset] [(.int (0 : Int32)), (.int (0 : Int32))]) (fun _ k => X101.arraylength hx (by rw [e101]; exact Ar102.1) (State.isArrayOf_alike hZ.alike Ar102.2.1) (g := (mkF m 11 #[.val (.ref a1), .val (.int (0 : Int32)), .unset] [(.ref a2), (.int (0 : Int32))])) rfl rfl (hc hby D48 5 rfl) _ (by rw [len_of S102 N102]; exact k)) ?_
  refine W.icmpNo X101 hx (hc hby D48 6 rfl) (by decide) ?_
  refine W.aloadN X101 hx (hc hby D48 7 rfl) rfl rfl ?_
  refine W.private X101 hx hZ hown (wk hw 263 rfl) (wk hw 264 rfl) (wk hw 266 rfl) (wk hw 265 rfl) (wk hw 148 rfl) (wk hw 267 rfl) (by decide) (xBigInt_signInt2 l Z a0 hw SS a1 h0 n0 O0 P2) e101 P0 (by rw [hml]; rfl) (argsL := []) (rest := []) rfl (lenOf pd___I rfl) rfl (W := 0) (Nat.le_of_eq rfl) (hc hby D48 8 rfl) (by decide) (by decide) (by decide) (by decide) (fun T103 h103 v103 L103 X103 e103 q103 => ?_)
  obtain ⟨rfl, N103q, r103_0⟩ := q103
  have N104 := Fr.app N0 N103q
  have e103 := e103.trans r103_0
  exact Win.retI X103 hx hlk hret (hc hby D48 9 rfl) (by decide) (by decide) (by (try rw [e103]); exact ⟨rfl, N104, rfl⟩)
abbrev R_xBigInt_intValue1 : Room := ⟨2, 0, 0, 26⟩
theorem xBigInt_intValue1 (l : Launch) (Z : State) (a0 : Array Value) (hw : ∀ d ∈ tables_1, d.before a0 Z = true) (SS : Stat Z) (a1 : Addr) (a2 : Addr) (k_a2 : ClassId) (h0 : Heap) (n0 : Nat) (O0 : Old Z n0 h0) (P0 : Exa Z h0 a1 "java/math/BigInteger") (P1 : Fld Z h0 a1 "java/math/BigInteger" "mag" "[I" (.ref a2)) (P2 : Fld Z h0 a1 "java/math/BigInteger" "signum" "I" (.int (0 : Int32))) (P3 : Arv Z h0 a2 k_a2 .int (0 : Int32) [] (.int (0 : Int32))) :
    MetN l Z (⟨"java/math/BigInteger", "intValue", "()I"⟩ : MethodName) jdk_2097_method_135_code 2 (some .int) R_xBigInt_intValue1 [] #[(.ref a1)] h0 (fun v h L => v = some (.int (0 : Int32)) ∧ Fr n0 L ∧ h = h0) := by
  refine MetN.walk (plainFor_of_name pn_50) ?_
  intro p e s m below meth c s₁ hx hZ hby hml hown hnm hret hlk X0 e0
  have N0 := Fr.nil n0
  refine Win.to s₁ (mkF m 0 #[.val (.ref a1), .unset] []) (fun _ k => castTop rfl k) ?_
  refine W.iconst X0 hx (hc hby D50 0 rfl) (v := 0) rfl ?_
  refine W.istoreN X0 hx (hc hby D50 1 rfl) (l' := #[.val (.ref a1), .val (.int (0 : Int32))]) rfl ?_
  refine W.aloadN X0 hx (hc hby D50 2 rfl) rfl rfl ?_
  refine W.iconst X0 hx (hc hby D50 3 rfl) (v := 0) rfl ?_
  refine W.private X0 hx hZ hown (wk hw 258 rfl) (wk hw 259 rfl) (wk hw 261 rfl) (wk hw 260 rfl) (wk hw 148 rfl) (wk hw 262 rfl) (by decide) (xBigInt_getInt3 l Z a0 hw SS a1 a2 k_a2 h0 n0 O0 P0 P1 P2 P3) e0 P0 (by rw [hml]; rfl) (argsL := [(.int (0 : Int32))]) (rest := []) rfl (lenOf pd__I_I rfl) rfl (W := 0) (Nat.le_of_eq rfl) (hc hby D50 4 rfl) (by decide) (by decide) (by decide) (by decide) (fun T101 h101 v101 L101 X101 e101 q101 => ?_)
  obtain ⟨rfl, N101q, r101_0⟩ := q101
  have N102 := Fr.app N0 N101q
  have e101 := e101.trans r101_0
  refine W.istoreN X101 hx (hc hby D50 5 rfl) (l' := #[.val (.ref a1), .val (.int (0 : Int32))]) rfl ?_
  refine W.iloadN X101 hx (hc hby D50 6 rfl) rfl ?_
  exact Win.retI X101 hx hlk hret (hc hby D50 7 rfl) (by decide) (by decide) (by (try rw [e101]); exact ⟨rfl, N102, rfl⟩)
abbrev R_xBigDec_init6 : Room := ⟨2, 0, 0, 24⟩
theorem xBigDec_init6 (l : Launch) (Z : State) (a0 : Array Value) (hw : ∀ d ∈ tables_1, d.before a0 Z = true) (SS : Stat Z) (ix : Fin 6) (a1 : Addr) (h0 : Heap) (n0 : Nat) (O0 : Old Z n0 h0) (P0 : Exa Z h0 a1 "java/math/BigDecimal") (P1 : Fld Z h0 a1 "java/math/BigDecimal" "intCompact" "J" (.long (0 : Int64))) (P2 : Fld Z h0 a1 "java/math/BigDecimal" "intVal" "Ljava/math/BigInteger;" .null) (P3 : Fld Z h0 a1 "java/math/BigDecimal" "precision" "I" (.int (0 : Int32))) (P4 : Fld Z h0 a1 "java/math/BigDecimal" "scale" "I" (.int (0 : Int32))) (hcl : ¬ ix.val < 2) (g_a1 : n0 ≤ a1) :
    MetN l Z (⟨"java/math/BigDecimal", "<init>", "(Ljava/math/BigInteger;JII)V"⟩ : MethodName) jdk_17_method_1_code 6 none R_xBigDec_init6 [] #[(.ref a1), .null, (.long (vJ ix [2000000000, 4000000000, 8000000000, 16000000000, 32000000000, 60000000000])), (.int (0 : Int32)), (.int (0 : Int32))] h0 (fun v h L => v = none ∧ Fr n0 L ∧ Keep h0 h [a1] ∧ Fld Z h a1 "java/math/BigDecimal" "intCompact" "J" (.long (vJ ix [2000000000, 4000000000, 8000000000, 16000000000, 32000000000, 60000000000])) ∧ Fld Z h a1 "java/math/BigDecimal" "intVal" "Ljava/math/BigInteger;" .null ∧ Fld Z h a1 "java/math/BigDecimal" "precision" "I" (.int (0 : Int32)) ∧ Fld Z h a1 "java/math/BigDecimal" "scale" "I" (.int (0 : Int32)) ∧ Exa Z h a1 "java/math/BigDecimal") := by
  refine MetN.walk (plainFor_of_name pn_18) ?_
  intro p e s m below meth c s₁ hx hZ hby hml hown hnm hret hlk X0 e0
  have N0 := Fr.nil n0
  refine Win.to s₁ (mkF m 0 #[.val (.ref a1), .val .null, .val (.long (vJ ix [2000000000, 4000000000, 8000000000, 16000000000, 32000000000, 60000000000])), .second, .val (.int (0 : Int32)), .val (.int (0 : Int32))] []) (fun _ k => castTop rfl k) ?_
  refine W.aloadN X0 hx (hc hby D18 0 rfl) rfl rfl ?_
  refine W.special X0 hx hZ rfl hown (wk hw 92 rfl) (wk hw 93 rfl) (wk hw 96 rfl) (wk hw 97 rfl) (by decide) (xNumber_init1 l Z a0 hw SS a1 h0 n0 O0 ) e0 (by rw [hml]; rfl) (a := a1) (argsL := []) (rest := []) rfl (lenOf pd___V rfl) rfl (W := 0) (Nat.le_of_eq rfl) (hc hby D18 1 rfl) (by decide) (by decide) (by decide) (by decide) (fun T101 h101 v101 L101 X101 e101 q101 => ?_)
  obtain ⟨rfl, N101q, r101_0⟩ := q101
  have N102 := Fr.app N0 N101q
  have e101 := e101.trans r101_0
  refine W.aloadN X101 hx (hc hby D18 2 rfl) rfl rfl ?_
  refine W.iload X101 hx (hc hby D18 3 rfl) rfl ?_
  refine W.putF X101 hx hZ hown (host := "") (Or.inl (wk hw 66 rfl)) Via.refl e101 P4 P0 (Or.inr ⟨(wk hw 67 rfl), rfl, hnm⟩) (wk hw 87 rfl) (ty := .int) (by decide) rfl rfl (hc hby D18 4 rfl) O0 g_a1 (Keep.refl h0 [a1]) (Or.inl (List.mem_of_getElem? (i := 0) rfl)) N102 (fun T103 h103 X103 e103 W103 O103 K103 N103 F103 => ?_)
  refine W.aloadN X103 hx (hc hby D18 5 rfl) rfl rfl ?_
  refine W.iload X103 hx (hc hby D18 6 rfl) rfl ?_
  have F104 := Exa.wr W103 P0
  have F105 := Fld.other W103 P3 (Or.inr (slot_ne (Or.inl (wk hw 100 rfl)) (Or.inr (wk hw 67 rfl)) (by decide) (t := .int) (t' := .int) (by decide) (by decide)))
  refine W.putF X103 hx hZ hown (host := "") (Or.inl (wk hw 99 rfl)) Via.refl e103 F105 F104 (Or.inl (wk hw 100 rfl)) (wk hw 87 rfl) (ty := .int) (by decide) rfl rfl (hc hby D18 7 rfl) O103 g_a1 K103 (Or.inl (List.mem_of_getElem? (i := 0) rfl)) N103 (fun T106 h106 X106 e106 W106 O106 K106 N106 F106 => ?_)
  refine W.aloadN X106 hx (hc hby D18 8 rfl) rfl rfl ?_
  refine W.lloadN X106 hx (hc hby D18 9 rfl) rfl ?_
  have F107 := Exa.wr W106 F104
  have F108 := Fld.other W106 (Fld.other W103 P1 (Or.inr (slot_ne (Or.inr (wk hw 64 rfl)) (Or.inr (wk hw 67 rfl)) (by decide) (t := .long) (t' := .int) (by decide) (by decide)))) (Or.inr (slot_ne (Or.inr (wk hw 64 rfl)) (Or.inl (wk hw 100 rfl)) (by decide) (t := .long) (t' := .int) (by decide) (by decide)))
  refine W.putF X106 hx hZ hown (host := "") (Or.inl (wk hw 63 rfl)) Via.refl e106 F108 F107 (Or.inr ⟨(wk hw 64 rfl), rfl, hnm⟩) (wk hw 87 rfl) (ty := .long) (by decide) rfl rfl (hc hby D18 10 rfl) O106 g_a1 K106 (Or.inl (List.mem_of_getElem? (i := 0) rfl)) N106 (fun T109 h109 X109 e109 W109 O109 K109 N109 F109 => ?_)
  refine W.aloadN X109 hx (hc hby D18 11 rfl) rfl rfl ?_
  refine W.aloadN X109 hx (hc hby D18 12 rfl) rfl rfl ?_
  have F110 := Exa.wr W109 F107
  have F111 := Fld.other W109 (Fld.other W106 (Fld.other W103 P2 (Or.inr (slot_ne (Or.inr (wk hw 102 rfl)) (Or.inr (wk hw 67 rfl)) (by decide) (t := (.object "java/math/BigInteger")) (t' := .int) (by decide) (by decide)))) (Or.inr (slot_ne (Or.inr (wk hw 102 rfl)) (Or.inl (wk hw 100 rfl)) (by decide) (t := (.object "java/math/BigInteger")) (t' := .int) (by decide) (by decide)))) (Or.inr (slot_ne (Or.inr (wk hw 102 rfl)) (Or.inr (wk hw 64 rfl)) (by decide) (t := (.object "java/math/BigInteger")) (t' := .long) (by decide) (by decide)))
  refine W.putF X109 hx hZ hown (host := "") (Or.inl (wk hw 101 rfl)) Via.refl e109 F111 F110 (Or.inr ⟨(wk hw 102 rfl), rfl, hnm⟩) (wk hw 87 rfl) (ty := (.object "java/math/BigInteger")) (by decide) rfl rfl (hc hby D18 13 rfl) O109 g_a1 K109 (Or.inl (List.mem_of_getElem? (i := 0) rfl)) N109 (fun T112 h112 X112 e112 W112 O112 K112 N112 F112 => ?_)
  have F113 := Fld.other W112 F109 (Or.inr (slot_ne (Or.inr (wk hw 64 rfl)) (Or.inr (wk hw 102 rfl)) (by decide) (t := .long) (t' := (.object "java/math/BigInteger")) (by decide) (by decide)))
  have F114 := Fld.other W112 (Fld.other W109 F106 (Or.inr (slot_ne (Or.inl (wk hw 100 rfl)) (Or.inr (wk hw 64 rfl)) (by decide) (t := .int) (t' := .long) (by decide) (by decide)))) (Or.inr (slot_ne (Or.inl (wk hw 100 rfl)) (Or.inr (wk hw 102 rfl)) (by decide) (t := .int) (t' := (.object "java/math/BigInteger")) (by decide) (by decide)))
  have F115 := Fld.other W112 (Fld.other W109 (Fld.other W106 F103 (Or.inr (slot_ne (Or.inr (wk hw 67 rfl)) (Or.inl (wk hw 100 rfl)) (by decide) (t := .int) (t' := .int) (by decide) (by decide)))) (Or.inr (slot_ne (Or.inr (wk hw 67 rfl)) (Or.inr (wk hw 64 rfl)) (by decide) (t := .int) (t' := .long) (by decide) (by decide)))) (Or.inr (slot_ne (Or.inr (wk hw 67 rfl)) (Or.inr (wk hw 102 rfl)) (by decide) (t := .int) (t' := (.object "java/math/BigInteger")) (by decide) (by decide)))
  have F116 := Exa.wr W112 F110
  exact Win.retV X112 hx hlk hret (hc hby D18 14 rfl) (by decide) (by decide) (by (try rw [e112]); exact ⟨rfl, N112, K112, F113, F112, F114, F115, F116⟩)
abbrev R_xBigDec_movePointRight2 : Room := ⟨3, 1, 5, 42⟩
theorem xBigDec_movePointRight2 (l : Launch) (Z : State) (a0 : Array Value) (hw : ∀ d ∈ tables_1, d.before a0 Z = true) (SS : Stat Z) (ix : Fin 6) (a1 : Addr) (h0 : Heap) (n0 : Nat) (O0 : Old Z n0 h0) (P0 : Exa Z h0 a1 "java/math/BigDecimal") (P1 : Fld Z h0 a1 "java/math/BigDecimal" "intCompact" "J" (.long (vJ ix [2000000000, 4000000000, 8000000000, 16000000000, 32000000000, 60000000000]))) (P2 : Fld Z h0 a1 "java/math/BigDecimal" "intVal" "Ljava/math/BigInteger;" .null) (P3 : Fld Z h0 a1 "java/math/BigDecimal" "scale" "I" (.int (9 : Int32))) (hcl : ¬ ix.val < 2) :
    MetN l Z (⟨"java/math/BigDecimal", "movePointRight", "(I)Ljava/math/BigDecimal;"⟩ : MethodName) jdk_17_method_67_code 4 (some (.object "java/math/BigDecimal")) R_xBigDec_movePointRight2 [] #[(.ref a1), (.int (9 : Int32))] h0 (fun v h L => ∃ (r1 : Addr), v = some (.ref r1) ∧ Fr n0 L ∧ Keep h0 h [] ∧ h0.size ≤ r1 ∧ Fld Z h r1 "java/math/BigDecimal" "intCompact" "J" (.long (vJ ix [2000000000, 4000000000, 8000000000, 16000000000, 32000000000, 60000000000])) ∧ Fld Z h r1 "java/math/BigDecimal" "intVal" "Ljava/math/BigInteger;" .null ∧ Fld Z h r1 "java/math/BigDecimal" "precision" "I" (.int (0 : Int32)) ∧ Fld Z h r1 "java/math/BigDecimal" "scale" "I" (.int (0 : Int32)) ∧ Exa Z h r1 "java/math/BigDecimal") := by
  refine MetN.walk (plainFor_of_name pn_26) ?_
  intro p e s m below meth c s₁ hx hZ hby hml hown hnm hret hlk X0 e0
  have N0 := Fr.nil n0
  refine Win.to s₁ (mkF m 0 #[.val (.ref a1), .val (.int (9 : Int32)), .unset, .unset] []) (fun _ k => castTop rfl k) ?_
  refine W.iloadN X0 hx (hc hby D26 0 rfl) rfl ?_
  refine W.ifYes X0 hx (hc hby D26 1 rfl) (by decide) (by decide) (pc' := 13) rfl ?_
  refine W.aloadN X0 hx (hc hby D26 2 rfl) rfl rfl ?_
  refine W.aloadN X0 hx (hc hby D26 3 rfl) rfl rfl ?_
  refine W.getF X0 hx hZ hown (host := "") (Or.inl (wk hw 66 rfl)) Via.refl e0 P3 (hc hby D26 4 rfl) (fun T101 X101 e101 => ?_)
  refine W.i2l X101 hx (hc hby D26 5 rfl) (v := (9 : Int64)) (by decide) ?_
  refine W.iloadN X101 hx (hc hby D26 6 rfl) rfl ?_
  refine W.i2l X101 hx (hc hby D26 7 rfl) (v := (9 : Int64)) (by decide) ?_
  refine W.lsub X101 hx (hc hby D26 8 rfl) (v := (0 : Int64)) (by decide) ?_
  refine W.private X101 hx hZ hown (wk hw 108 rfl) (wk hw 109 rfl) (wk hw 111 rfl) (wk hw 110 rfl) (wk hw 46 rfl) (wk hw 112 rfl) (by decide) (xBigDec_checkScale3 l Z a0 hw SS (0 : Fin 6) a1 h0 n0 O0 (by decide)) e101 P0 (by rw [hml]; rfl) (argsL := [(.long (0 : Int64))]) (rest := []) rfl (lenOf pd__J_I rfl) rfl (W := 0) (Nat.le_of_eq rfl) (hc hby D26 9 rfl) (by decide) (by decide) (by decide) (by decide) (fun T102 h102 v102 L102 X102 e102 q102 => ?_)
  obtain ⟨rfl, N102q, r102_0⟩ := q102
  have N103 := Fr.app N0 N102q
  have e102 := e102.trans r102_0
  refine W.istoreN X102 hx (hc hby D26 10 rfl) (l' := #[.val (.ref a1), .val (.int (9 : Int32)), .val (.int (0 : Int32)), .unset]) rfl ?_
  obtain ⟨T104, h104, X104, e104, E104, A104, D104, -, st104⟩ := newO X102 hx hZ hown (wk hw 86 rfl) (wk hw 87 rfl) (wk hw 46 rfl) e102 (g := (mkF m 26 #[.val (.ref a1), .val (.int (9 : Int32)), .val (.int (0 : Int32)), .unset] [])) rfl (hc hby D26 11 rfl) (by decide) (by decide)
  obtain ⟨b104, g104⟩ : ∃ z, z = h0.size := ⟨_, rfl⟩
  rw [← g104] at A104 D104 st104
  have g105 : n0 ≤ b104 := Nat.le_trans (own_le O0) (Nat.le_of_eq g104.symm)
  have z106 : h0.size ≤ b104 := (Nat.le_of_eq g104.symm)
  have O107 := Old.ext O0 E104
  have K108 : Keep h0 h104 [] := (Keep.refl h0 []).ext E104
  have F109 : Fld Z h104 b104 "java/math/BigDecimal" "intCompact" "J" (.long (0 : Int64)) := D104 (Or.inr (wk hw 64 rfl)) (ty := .long) (by decide)
  have F110 : Fld Z h104 b104 "java/math/BigDecimal" "scale" "I" (.int (0 : Int32)) := D104 (Or.inr (wk hw 67 rfl)) (ty := .int) (by decide)
  have F111 : Fld Z h104 b104 "java/math/BigDecimal" "precision" "I" (.int (0 : Int32)) := D104 (Or.inl (wk hw 100 rfl)) (ty := .int) (by decide)
  have F112 : Fld Z h104 b104 "java/math/BigDecimal" "intVal" "Ljava/math/BigInteger;" .null := D104 (Or.inr (wk hw 102 rfl)) (ty := (.object "java/math/BigInteger")) (by decide)
  refine Win.to T104 (mkF m 29 #[.val (.ref a1), .val (.int (9 : Int32)), .val (.int (0 : Int32)), .unset] [(.ref b104)]) (fun _ k => st104 _ k) ?_
  refine W.dup X104 hx (hc hby D26 12 rfl) rfl ?_
  refine W.aloadN X104 hx (hc hby D26 13 rfl) rfl rfl ?_
  have F113 := Fld.ext E104 P2
  refine W.getF X104 hx hZ hown (host := "") (Or.inl (wk hw 101 rfl)) Via.refl e104 F113 (hc hby D26 14 rfl) (fun T114 X114 e114 => ?_)
  refine W.aloadN X114 hx (hc hby D26 15 rfl) rfl rfl ?_
  have F115 := Fld.ext E104 P1
  refine W.getF X114 hx hZ hown (host := "") (Or.inl (wk hw 63 rfl)) Via.refl e114 F115 (hc hby D26 16 rfl) (fun T116 X116 e116 => ?_)
  refine W.iloadN X116 hx (hc hby D26 17 rfl) rfl ?_
  refine W.iconst X116 hx (hc hby D26 18 rfl) (v := 0) rfl ?_
  refine W.special X116 hx hZ rfl hown (wk hw 88 rfl) (wk hw 89 rfl) (wk hw 46 rfl) (wk hw 91 rfl) (by decide) (xBigDec_init6 l Z a0 hw SS ix b104 h104 n0 O107 A104 F109 F112 F111 F110 hcl g105) e116 (by rw [hml]; rfl) (a := b104) (argsL := [.null, (.long (vJ ix [2000000000, 4000000000, 8000000000, 16000000000, 32000000000, 60000000000])), (.int (0 : Int32)), (.int (0 : Int32))]) (rest := [(.ref b104)]) rfl (lenOf pd__Ljava_math_BigInteger_JII_V rfl) rfl (W := 1) (Nat.le_of_eq rfl) (hc hby D26 19 rfl) (by decide) (by decide) (by decide) (by decide) (fun T117 h117 v117 L117 X117 e117 q117 => ?_)
  obtain ⟨rfl, N117q, r117_0, r117_1, r117_2, r117_3, r117_4, r117_5⟩ := q117
  have N118 := Fr.app N103 N117q
  have O119 := Old.keep O107 r117_0 (allS g105 all0)
  have K120 : Keep h0 h117 [] := Keep.trans K108 r117_0 (allS (Or.inr z106) all0)
  refine W.astoreN X117 hx (hc hby D26 20 rfl) rfl (l' := #[.val (.ref a1), .val (.int (9 : Int32)), .val (.int (0 : Int32)), .val (.ref b104)]) rfl ?_
  refine W.aloadN X117 hx (hc hby D26 21 rfl) rfl rfl ?_
  refine W.getF X117 hx hZ hown (host := "") (Or.inl (wk hw 66 rfl)) Via.refl e117 r117_4 (hc hby D26 22 rfl) (fun T121 X121 e121 => ?_)
  refine W.ifYes X121 hx (hc hby D26 23 rfl) (by decide) (by decide) (pc' := 61) rfl ?_
  refine W.aloadN X121 hx (hc hby D26 24 rfl) rfl rfl ?_
  exact Win.retA X121 hx hlk hret rfl rfl (hc hby D26 25 rfl) (by decide) (by decide) (by (try rw [e121]); exact ⟨b104, rfl, N118, K120, z106, r117_1, r117_2, r117_3, r117_4, r117_5⟩)
abbrev R_xBigInt_init3 : Room := ⟨2, 1, 2, 24⟩
theorem xBigInt_init3 (l : Launch) (Z : State) (a0 : Array Value) (hw : ∀ d ∈ tables_1, d.before a0 Z = true) (SS : Stat Z) (ix : Fin 6) (a1 : Addr) (h0 : Heap) (n0 : Nat) (O0 : Old Z n0 h0) (P0 : Exa Z h0 a1 "java/math/BigInteger") (P1 : Fld Z h0 a1 "java/math/BigInteger" "bitLengthPlusOne" "I" (.int (0 : Int32))) (P2 : Fld Z h0 a1 "java/math/BigInteger" "mag" "[I" .null) (P3 : Fld Z h0 a1 "java/math/BigInteger" "signum" "I" (.int (0 : Int32))) (hcl : ¬ ix.val < 2) (g_a1 : n0 ≤ a1) :
    MetN l Z (⟨"java/math/BigInteger", "<init>", "(J)V"⟩ : MethodName) jdk_2097_method_30_code 4 none R_xBigInt_init3 [] #[(.ref a1), (.long (vJ ix [2000000000, 4000000000, 8000000000, 16000000000, 32000000000, 60000000000]))] h0 (fun v h L => ∃ (r1 : Addr) (k_r1 : ClassId), v = none ∧ Fr n0 L ∧ Keep h0 h [a1] ∧ h0.size ≤ r1 ∧ Fld Z h a1 "java/math/BigInteger" "bitLengthPlusOne" "I" (.int (0 : Int32)) ∧ Arv Z h r1 k_r1 .int (2 : Int32) [(.int (vI ix [1, 1, 1, 3, 7, 13])), (.int (vI ix [-589934592, -589934592, -589934592, -1179869184, 1935228928, -129542144]))] (.int (0 : Int32)) ∧ Fld Z h a1 "java/math/BigInteger" "mag" "[I" (.ref r1) ∧ Fld Z h a1 "java/math/BigInteger" "signum" "I" (.int (1 : Int32)) ∧ Exa Z h a1 "java/math/BigInteger") := by
  refine MetN.walk (plainFor_of_name pn_31) ?_
  intro p e s m below meth c s₁ hx hZ hby hml hown hnm hret hlk X0 e0
  have N0 := Fr.nil n0
  refine Win.to s₁ (mkF m 0 #[.val (.ref a1), .val (.long (vJ ix [2000000000, 4000000000, 8000000000, 16000000000, 32000000000, 60000000000])), .second, .unset] []) (fun _ k => castTop rfl k) ?_
  refine W.aloadN X0 hx (hc hby D31 0 rfl) rfl rfl ?_
  refine W.special X0 hx hZ rfl hown (wk hw 157 rfl) (wk hw 93 rfl) (wk hw 96 rfl) (wk hw 97 rfl) (by decide) (xNumber_init1 l Z a0 hw SS a1 h0 n0 O0 ) e0 (by rw [hml]; rfl) (a := a1) (argsL := []) (rest := []) rfl (lenOf pd___V rfl) rfl (W := 0) (Nat.le_of_eq rfl) (hc hby D31 1 rfl) (by decide) (by decide) (by decide) (by decide) (fun T101 h101 v101 L101 X101 e101 q101 => ?_)
  obtain ⟨rfl, N101q, r101_0⟩ := q101
  have N102 := Fr.app N0 N101q
  have e101 := e101.trans r101_0
  refine W.lloadN X101 hx (hc hby D31 2 rfl) rfl ?_
  refine W.lconst X101 hx (hc hby D31 3 rfl) (v := 0) rfl ?_
  refine W.lcmp X101 hx (hc hby D31 4 rfl) (v := (1 : Int32)) ((show ∀ ix : Fin 6, ¬ ix.val < 2 → lcmpW (vJ ix [2000000000, 4000000000, 8000000000, 16000000000, 32000000000, 60000000000]) (0 : Int64) = (1 : Int32) from by decide +kernel) ix hcl) ?_
  refine W.ifYes X101 hx (hc hby D31 5 rfl) (by decide) (by decide) (pc' := 21) rfl ?_
  refine W.aloadN X101 hx (hc hby D31 6 rfl) rfl rfl ?_
  refine W.iconst X101 hx (hc hby D31 7 rfl) (v := 1) rfl ?_
  refine W.putF X101 hx hZ hown (host := "") (Or.inl (wk hw 159 rfl)) Via.refl e101 P3 P0 (Or.inr ⟨(wk hw 160 rfl), rfl, hnm⟩) (wk hw 152 rfl) (ty := .int) (by decide) rfl rfl (hc hby D31 8 rfl) O0 g_a1 (Keep.refl h0 [a1]) (Or.inl (List.mem_of_getElem? (i := 0) rfl)) N102 (fun T103 h103 X103 e103 W103 O103 K103 N103 F103 => ?_)
  refine W.lloadN X103 hx (hc hby D31 9 rfl) rfl ?_
  refine W.bipush X103 hx (hc hby D31 10 rfl) (v := 32) rfl ?_
  refine W.lushr X103 hx (hc hby D31 11 rfl) (v := (vJ ix [1, 1, 1, 3, 7, 13])) ((show ∀ ix : Fin 6, ¬ ix.val < 2 → (((vJ ix [2000000000, 4000000000, 8000000000, 16000000000, 32000000000, 60000000000]).toUInt64 >>> ((32 : Int32) &&& 0x3f).toInt64.toUInt64).toInt64) = (vJ ix [1, 1, 1, 3, 7, 13]) from by decide +kernel) ix hcl) ?_
  refine W.l2i X103 hx (hc hby D31 12 rfl) (v := (vI ix [1, 1, 1, 3, 7, 13])) ((show ∀ ix : Fin 6, ¬ ix.val < 2 → (vJ ix [1, 1, 1, 3, 7, 13]).toInt32 = (vI ix [1, 1, 1, 3, 7, 13]) from by decide +kernel) ix hcl) ?_
  refine W.istoreN X103 hx (hc hby D31 13 rfl) (l' := #[.val (.ref a1), .val (.long (vJ ix [2000000000, 4000000000, 8000000000, 16000000000, 32000000000, 60000000000])), .second, .val (.int (vI ix [1, 1, 1, 3, 7, 13]))]) rfl ?_
  refine W.iloadN X103 hx (hc hby D31 14 rfl) rfl ?_
  refine W.ifYes X103 hx (hc hby D31 15 rfl) ((show ∀ ix : Fin 6, ¬ ix.val < 2 → ifCond.holds .ne (vI ix [1, 1, 1, 3, 7, 13]) = true from by decide +kernel) ix hcl) (by decide) (pc' := 54) rfl ?_
  refine W.aloadN X103 hx (hc hby D31 28 rfl) rfl rfl ?_
  refine W.iconst X103 hx (hc hby D31 29 rfl) (v := 2) rfl ?_
  obtain ⟨T104, h104, k104, X104, e104, E104, A104, st104⟩ := newP X103 hx hZ (wk hw 161 rfl) e103 (g := (mkF m 56 #[.val (.ref a1), .val (.long (vJ ix [2000000000, 4000000000, 8000000000, 16000000000, 32000000000, 60000000000])), .second, .val (.int (vI ix [1, 1, 1, 3, 7, 13]))] [(.int (2 : Int32)), (.ref a1)])) rfl (hc hby D31 30 rfl) rfl (by decide) (cap := 2) (by decide) (by decide) (by decide) (by decide)
  obtain ⟨b104, g104⟩ : ∃ z, z = h103.size := ⟨_, rfl⟩
  rw [← g104] at A104 st104
  have F105 := Exa.wr W103 P0
  have ne106 : a1 ≠ b104 := Nat.ne_of_lt (Nat.lt_of_lt_of_le F105.lt (Nat.le_of_eq g104.symm))
  have g107 : n0 ≤ b104 := Nat.le_trans (own_le O103) (Nat.le_of_eq g104.symm)
  have z108 : h0.size ≤ b104 := Nat.le_trans K103.1 (Nat.le_of_eq g104.symm)
  have O109 := Old.ext O103 E104
  have K110 : Keep h0 h104 [a1] := K103.ext E104
  have F111 : Arv Z h104 b104 k104 .int (2 : Int32) [(.int (0 : Int32)), (.int (0 : Int32))] (.int (0 : Int32)) := (Arv.new A104 (by decide)).pad (pad_rep [] (.int (0 : Int32)) 2)
  refine Win.to T104 (mkF m 58 #[.val (.ref a1), .val (.long (vJ ix [2000000000, 4000000000, 8000000000, 16000000000, 32000000000, 60000000000])), .second, .val (.int (vI ix [1, 1, 1, 3, 7, 13]))] [(.ref b104), (.ref a1)]) (fun _ k => st104 _ k) ?_
  have F112 := Exa.ext E104 F105
  have F113 := Fld.ext E104 (Fld.other W103 P2 (Or.inr (slot_ne (Or.inr (wk hw 163 rfl)) (Or.inr (wk hw 160 rfl)) (by decide) (t := (.array .int)) (t' := .int) (by decide) (by decide))))
  refine W.putF X104 hx hZ hown (host := "") (Or.inl (wk hw 162 rfl)) Via.refl e104 F113 F112 (Or.inr ⟨(wk hw 163 rfl), rfl, hnm⟩) (wk hw 152 rfl) (ty := (.array .int)) (by decide) rfl rfl (hc hby D31 31 rfl) O109 g_a1 K110 (Or.inl (List.mem_of_getElem? (i := 0) rfl)) N103 (fun T114 h114 X114 e114 W114 O114 K114 N114 F114 => ?_)
  refine W.aloadN X114 hx (hc hby D31 32 rfl) rfl rfl ?_
  refine W.getF X114 hx hZ hown (host := "") (Or.inl (wk hw 162 rfl)) Via.refl e114 F114 (hc hby D31 33 rfl) (fun T115 X115 e115 => ?_)
  refine W.iconst X115 hx (hc hby D31 34 rfl) (v := 0) rfl ?_
  refine W.iloadN X115 hx (hc hby D31 35 rfl) rfl ?_
  have F116 := F111.other W114 (Ne.symm ne106)
  obtain ⟨cl117, Ar117, q117, S117, N117, H117, G117⟩ := id F116
  have hi117 : ¬ ((0 : Int32) < 0 ∨ cl117.slots.size ≤ ((0 : Int32)).toNatClampNeg) := inb_of S117 ⟨by decide, by decide⟩
  obtain ⟨T118, h118, X118, e118, W118, st118⟩ := stI X115 hx hZ e115 Ar117 (j := (0 : Int32)) hi117 (g := (mkF m 67 #[.val (.ref a1), .val (.long (vJ ix [2000000000, 4000000000, 8000000000, 16000000000, 32000000000, 60000000000])), .second, .val (.int (vI ix [1, 1, 1, 3, 7, 13]))] [(.int (vI ix [1, 1, 1, 3, 7, 13])), (.int (0 : Int32)), (.ref b104)])) rfl rfl (hc hby D31 36 rfl)
  have O120 := Old.wr O114 W118 g107
  have K121 : Keep h0 h118 [a1] := K114.wr W118 (Or.inr z108)
  have N122 := Fr.snoc X118 N114 g107
  have F119 : Arv Z h118 b104 k104 .int (2 : Int32) [(.int (vI ix [1, 1, 1, 3, 7, 13])), (.int (0 : Int32))] (.int (0 : Int32)) := Arv.set Ar117 q117 S117 N117 H117 G117 rfl W118 0 rfl (Nat.le_of_ble_eq_true rfl)
  refine Win.to T118 (mkF m 68 #[.val (.ref a1), .val (.long (vJ ix [2000000000, 4000000000, 8000000000, 16000000000, 32000000000, 60000000000])), .second, .val (.int (vI ix [1, 1, 1, 3, 7, 13]))] []) (fun _ k => st118 _ k) ?_
  refine W.aloadN X118 hx (hc hby D31 37 rfl) rfl rfl ?_
  have F123 := Fld.other W118 F114 (Or.inl ne106)
  refine W.getF X118 hx hZ hown (host := "") (Or.inl (wk hw 162 rfl)) Via.refl e118 F123 (hc hby D31 38 rfl) (fun T124 X124 e124 => ?_)
  refine W.iconst X124 hx (hc hby D31 39 rfl) (v := 1) rfl ?_
  refine W.lloadN X124 hx (hc hby D31 40 rfl) rfl ?_
  refine W.l2i X124 hx (hc hby D31 41 rfl) (v := (vI ix [-589934592, -589934592, -589934592, -1179869184, 1935228928, -129542144])) ((show ∀ ix : Fin 6, ¬ ix.val < 2 → (vJ ix [2000000000, 4000000000, 8000000000, 16000000000, 32000000000, 60000000000]).toInt32 = (vI ix [-589934592, -589934592, -589934592, -1179869184, 1935228928, -129542144]) from by decide +kernel) ix hcl) ?_
  obtain ⟨cl125, Ar125, q125, S125, N125, H125, G125⟩ := id F119
  have hi125 : ¬ ((1 : Int32) < 0 ∨ cl125.slots.size ≤ ((1 : Int32)).toNatClampNeg) := inb_of S125 ⟨by decide, by decide⟩
  obtain ⟨T126, h126, X126, e126, W126, st126⟩ := stI X124 hx hZ e124 Ar125 (j := (1 : Int32)) hi125 (g := (mkF m 75 #[.val (.ref a1), .val (.long (vJ ix [2000000000, 4000000000, 8000000000, 16000000000, 32000000000, 60000000000])), .second, .val (.int (vI ix [1, 1, 1, 3, 7, 13]))] [(.int (vI ix [-589934592, -589934592, -589934592, -1179869184, 1935228928, -129542144])), (.int (1 : Int32)), (.ref b104)])) rfl rfl (hc hby D31 42 rfl)
  have O128 := Old.wr O120 W126 g107
  have K129 : Keep h0 h126 [a1] := K121.wr W126 (Or.inr z108)
  have N130 := Fr.snoc X126 N122 g107
  have F127 : Arv Z h126 b104 k104 .int (2 : Int32) [(.int (vI ix [1, 1, 1, 3, 7, 13])), (.int (vI ix [-589934592, -589934592, -589934592, -1179869184, 1935228928, -129542144]))] (.int (0 : Int32)) := Arv.set Ar125 q125 S125 N125 H125 G125 rfl W126 1 rfl (Nat.le_of_ble_eq_true rfl)
  refine Win.to T126 (mkF m 76 #[.val (.ref a1), .val (.long (vJ ix [2000000000, 4000000000, 8000000000, 16000000000, 32000000000, 60000000000])), .second, .val (.int (vI ix [1, 1, 1, 3, 7, 13]))] []) (fun _ k => st126 _ k) ?_
  have F131 := Fld.other W126 (Fld.other W118 (Fld.other W114 (Fld.ext E104 (Fld.other W103 P1 (Or.inr (slot_ne (Or.inl (wk hw 244 rfl)) (Or.inr (wk hw 160 rfl)) (by decide) (t := .int) (t' := .int) (by decide) (by decide))))) (Or.inr (slot_ne (Or.inl (wk hw 244 rfl)) (Or.inr (wk hw 163 rfl)) (by decide) (t := .int) (t' := (.array .int)) (by decide) (by decide)))) (Or.inl ne106)) (Or.inl ne106)
  have F132 := Fld.other W126 F123 (Or.inl ne106)
  have F133 := Fld.other W126 (Fld.other W118 (Fld.other W114 (Fld.ext E104 F103) (Or.inr (slot_ne (Or.inr (wk hw 160 rfl)) (Or.inr (wk hw 163 rfl)) (by decide) (t := .int) (t' := (.array .int)) (by decide) (by decide)))) (Or.inl ne106)) (Or.inl ne106)
  have F134 := Exa.wr W126 (Exa.wr W118 (Exa.wr W114 F112))
  exact Win.retV X126 hx hlk hret (hc hby D31 27 rfl) (by decide) (by decide) (by (try rw [e126]); exact ⟨b104, k104, rfl, N130, K129, z108, F131, F127, F132, F133, F134⟩)
abbrev R_xBigInt_valueOf2 : Room := ⟨3, 2, 8, 40⟩
theorem xBigInt_valueOf2 (l : Launch) (Z : State) (a0 : Array Value) (hw : ∀ d ∈ tables_1, d.before a0 Z = true) (SS : Stat Z) (ix : Fin 6) (h0 : Heap) (n0 : Nat) (O0 : Old Z n0 h0) (hcl : ¬ ix.val < 2) :
    MetN l Z (⟨"java/math/BigInteger", "valueOf", "(J)Ljava/math/BigInteger;"⟩ : MethodName) jdk_2097_method_29_code 2 (some (.object "java/math/BigInteger")) R_xBigInt_valueOf2 [] #[(.long (vJ ix [2000000000, 4000000000, 8000000000, 16000000000, 32000000000, 60000000000]))] h0 (fun v h L => ∃ (r1 : Addr) (r2 : Addr) (k_r2 : ClassId), v = some (.ref r1) ∧ Fr n0 L ∧ Keep h0 h [] ∧ h0.size ≤ r1 ∧ h0.size ≤ r2 ∧ Fld Z h r1 "java/math/BigInteger" "bitLengthPlusOne" "I" (.int (0 : Int32)) ∧ Arv Z h r2 k_r2 .int (2 : Int32) [(.int (vI ix [1, 1, 1, 3, 7, 13])), (.int (vI ix [-589934592, -589934592, -589934592, -1179869184, 1935228928, -129542144]))] (.int (0 : Int32)) ∧ Fld Z h r1 "java/math/BigInteger" "mag" "[I" (.ref r2) ∧ Fld Z h r1 "java/math/BigInteger" "signum" "I" (.int (1 : Int32)) ∧ Exa Z h r1 "java/math/BigInteger") := by
  refine MetN.walk (plainFor_of_name pn_30) ?_
  intro p e s m below meth c s₁ hx hZ hby hml hown hnm hret hlk X0 e0
  have N0 := Fr.nil n0
  refine Win.to s₁ (mkF m 0 #[.val (.long (vJ ix [2000000000, 4000000000, 8000000000, 16000000000, 32000000000, 60000000000])), .second] []) (fun _ k => castTop rfl k) ?_
  refine W.lloadN X0 hx (hc hby D30 0 rfl) rfl ?_
  refine W.lconst X0 hx (hc hby D30 1 rfl) (v := 0) rfl ?_
  refine W.lcmp X0 hx (hc hby D30 2 rfl) (v := (1 : Int32)) ((show ∀ ix : Fin 6, ¬ ix.val < 2 → lcmpW (vJ ix [2000000000, 4000000000, 8000000000, 16000000000, 32000000000, 60000000000]) (0 : Int64) = (1 : Int32) from by decide +kernel) ix hcl) ?_
  refine W.ifYes X0 hx (hc hby D30 3 rfl) (by decide) (by decide) (pc' := 10) rfl ?_
  refine W.lloadN X0 hx (hc hby D30 4 rfl) rfl ?_
  refine W.lconst X0 hx (hc hby D30 5 rfl) (v := 0) rfl ?_
  refine W.lcmp X0 hx (hc hby D30 6 rfl) (v := (1 : Int32)) ((show ∀ ix : Fin 6, ¬ ix.val < 2 → lcmpW (vJ ix [2000000000, 4000000000, 8000000000, 16000000000, 32000000000, 60000000000]) (0 : Int64) = (1 : Int32) from by decide +kernel) ix hcl) ?_
  refine W.ifNo X0 hx (hc hby D30 7 rfl) (by decide) ?_
  refine W.lloadN X0 hx (hc hby D30 8 rfl) rfl ?_
  refine W.ldc2 X0 hx (hc hby D30 9 rfl) hown (mvT hZ (wk hw 150 rfl)) ?_
  refine W.lcmp X0 hx (hc hby D30 10 rfl) (v := (1 : Int32)) ((show ∀ ix : Fin 6, ¬ ix.val < 2 → lcmpW (vJ ix [2000000000, 4000000000, 8000000000, 16000000000, 32000000000, 60000000000]) (16 : Int64) = (1 : Int32) from by decide +kernel) ix hcl) ?_
  refine W.ifYes X0 hx (hc hby D30 11 rfl) (by decide) (by decide) (pc' := 31) rfl ?_
  refine W.lloadN X0 hx (hc hby D30 12 rfl) rfl ?_
  refine W.lconst X0 hx (hc hby D30 13 rfl) (v := 0) rfl ?_
  refine W.lcmp X0 hx (hc hby D30 14 rfl) (v := (1 : Int32)) ((show ∀ ix : Fin 6, ¬ ix.val < 2 → lcmpW (vJ ix [2000000000, 4000000000, 8000000000, 16000000000, 32000000000, 60000000000]) (0 : Int64) = (1 : Int32) from by decide +kernel) ix hcl) ?_
  refine W.ifYes X0 hx (hc hby D30 15 rfl) (by decide) (by decide) (pc' := 53) rfl ?_
  obtain ⟨T101, h101, X101, e101, E101, A101, D101, -, st101⟩ := newO X0 hx hZ hown (wk hw 151 rfl) (wk hw 152 rfl) (wk hw 148 rfl) e0 (g := (mkF m 53 #[.val (.long (vJ ix [2000000000, 4000000000, 8000000000, 16000000000, 32000000000, 60000000000])), .second] [])) rfl (hc hby D30 16 rfl) (by decide) (by decide)
  obtain ⟨b101, g101⟩ : ∃ z, z = h0.size := ⟨_, rfl⟩
  rw [← g101] at A101 D101 st101
  have g102 : n0 ≤ b101 := Nat.le_trans (own_le O0) (Nat.le_of_eq g101.symm)
  have z103 : h0.size ≤ b101 := (Nat.le_of_eq g101.symm)
  have O104 := Old.ext O0 E101
  have K105 : Keep h0 h101 [] := (Keep.refl h0 []).ext E101
  have F106 : Fld Z h101 b101 "java/math/BigInteger" "signum" "I" (.int (0 : Int32)) := D101 (Or.inr (wk hw 160 rfl)) (ty := .int) (by decide)
  have F107 : Fld Z h101 b101 "java/math/BigInteger" "mag" "[I" .null := D101 (Or.inr (wk hw 163 rfl)) (ty := (.array .int)) (by decide)
  have F108 : Fld Z h101 b101 "java/math/BigInteger" "bitLengthPlusOne" "I" (.int (0 : Int32)) := D101 (Or.inl (wk hw 244 rfl)) (ty := .int) (by decide)
  refine Win.to T101 (mkF m 56 #[.val (.long (vJ ix [2000000000, 4000000000, 8000000000, 16000000000, 32000000000, 60000000000])), .second] [(.ref b101)]) (fun _ k => st101 _ k) ?_
  refine W.dup X101 hx (hc hby D30 17 rfl) rfl ?_
  refine W.lloadN X101 hx (hc hby D30 18 rfl) rfl ?_
  refine W.special X101 hx hZ rfl hown (wk hw 153 rfl) (wk hw 154 rfl) (wk hw 148 rfl) (wk hw 156 rfl) (by decide) (xBigInt_init3 l Z a0 hw SS ix b101 h101 n0 O104 A101 F108 F107 F106 hcl g102) e101 (by rw [hml]; rfl) (a := b101) (argsL := [(.long (vJ ix [2000000000, 4000000000, 8000000000, 16000000000, 32000000000, 60000000000]))]) (rest := [(.ref b101)]) rfl (lenOf pd__J_V rfl) rfl (W := 1) (Nat.le_of_eq rfl) (hc hby D30 19 rfl) (by decide) (by decide) (by decide) (by decide) (fun T109 h109 v109 L109 X109 e109 q109 => ?_)
  obtain ⟨r1_109, k_r1_109, rfl, N109q, r109_0, r109_1, r109_2, r109_3, r109_4, r109_5, r109_6⟩ := q109
  have N110 := Fr.app N0 N109q
  have g111 : n0 ≤ r1_109 := Nat.le_trans (own_le O104) r109_1
  have z112 : h0.size ≤ r1_109 := Nat.le_trans K105.1 r109_1
  have O113 := Old.keep O104 r109_0 (allS g102 all0)
  have K114 : Keep h0 h109 [] := Keep.trans K105 r109_0 (allS (Or.inr z103) all0)
  exact Win.retA X109 hx hlk hret rfl rfl (hc hby D30 20 rfl) (by decide) (by decide) (by (try rw [e109]); exact ⟨b101, r1_109, k_r1_109, rfl, N110, K114, z103, z112, r109_2, r109_3, r109_4, r109_5, r109_6⟩)
abbrev R_xBigDec_inflated2 : Room := ⟨4, 2, 8, 53⟩
theorem xBigDec_inflated2 (l : Launch) (Z : State) (a0 : Array Value) (hw : ∀ d ∈ tables_1, d.before a0 Z = true) (SS : Stat Z) (ix : Fin 6) (a1 : Addr) (h0 : Heap) (n0 : Nat) (O0 : Old Z n0 h0) (P0 : Fld Z h0 a1 "java/math/BigDecimal" "intCompact" "J" (.long (vJ ix [2000000000, 4000000000, 8000000000, 16000000000, 32000000000, 60000000000]))) (P1 : Fld Z h0 a1 "java/math/BigDecimal" "intVal" "Ljava/math/BigInteger;" .null) (hcl : ¬ ix.val < 2) :
    MetN l Z (⟨"java/math/BigDecimal", "inflated", "()Ljava/math/BigInteger;"⟩ : MethodName) jdk_17_method_99_code 1 (some (.object "java/math/BigInteger")) R_xBigDec_inflated2 [] #[(.ref a1)] h0 (fun v h L => ∃ (r1 : Addr) (r2 : Addr) (k_r2 : ClassId), v = some (.ref r1) ∧ Fr n0 L ∧ Keep h0 h [] ∧ h0.size ≤ r1 ∧ h0.size ≤ r2 ∧ Fld Z h r1 "java/math/BigInteger" "bitLengthPlusOne" "I" (.int (0 : Int32)) ∧ Arv Z h r2 k_r2 .int (2 : Int32) [(.int (vI ix [1, 1, 1, 3, 7, 13])), (.int (vI ix [-589934592, -589934592, -589934592, -1179869184, 1935228928, -129542144]))] (.int (0 : Int32)) ∧ Fld Z h r1 "java/math/BigInteger" "mag" "[I" (.ref r2) ∧ Fld Z h r1 "java/math/BigInteger" "signum" "I" (.int (1 : Int32)) ∧ Exa Z h r1 "java/math/BigInteger") := by
  refine MetN.walk (plainFor_of_name pn_29) ?_
  intro p e s m below meth c s₁ hx hZ hby hml hown hnm hret hlk X0 e0
  have N0 := Fr.nil n0
  refine Win.to s₁ (mkF m 0 #[.val (.ref a1)] []) (fun _ k => castTop rfl k) ?_
  refine W.aloadN X0 hx (hc hby D29 0 rfl) rfl rfl ?_
  refine W.getF X0 hx hZ hown (host := "") (Or.inl (wk hw 101 rfl)) Via.refl e0 P1 (hc hby D29 1 rfl) (fun T101 X101 e101 => ?_)
  refine Win.to T101 (mkF m 7 #[.val (.ref a1)] []) (fun _ k => XS.ifnonnullNo X101.here hx rfl (hc hby D29 2 rfl) rfl k) ?_
  refine W.aloadN X101 hx (hc hby D29 3 rfl) rfl rfl ?_
  refine W.getF X101 hx hZ hown (host := "") (Or.inl (wk hw 63 rfl)) Via.refl e101 P0 (hc hby D29 4 rfl) (fun T102 X102 e102 => ?_)
  refine W.static X102 hx hZ hown (wk hw 146 rfl) (wk hw 147 rfl) (wk hw 148 rfl) (wk hw 149 rfl) (by decide) (xBigInt_valueOf2 l Z a0 hw SS ix h0 n0 O0 hcl) e102 (by rw [hml]; rfl) (argsL := [(.long (vJ ix [2000000000, 4000000000, 8000000000, 16000000000, 32000000000, 60000000000]))]) (rest := []) rfl (lenOf pd__J_Ljava_math_BigInteger_ rfl) rfl (W := 0) (Nat.le_of_eq rfl) (hc hby D29 5 rfl) (by decide) (by decide) (by decide) (by decide) (fun T103 h103 v103 L103 X103 e103 q103 => ?_)
  obtain ⟨r1_103, r2_103, k_r2_103, rfl, N103q, r103_0, r103_1, r103_2, r103_3, r103_4, r103_5, r103_6, r103_7⟩ := q103
  have N104 := Fr.app N0 N103q
  have g105 : n0 ≤ r1_103 := Nat.le_trans (own_le O0) r103_1
  have z106 : h0.size ≤ r1_103 := r103_1
  have g107 : n0 ≤ r2_103 := Nat.le_trans (own_le O0) r103_2
  have z108 : h0.size ≤ r2_103 := r103_2
  have O109 := Old.keep O0 r103_0 all0
  have K110 : Keep h0 h103 [] := Keep.trans (Keep.refl h0 []) r103_0 all0
  exact Win.retA X103 hx hlk hret rfl rfl (hc hby D29 6 rfl) (by decide) (by decide) (by (try rw [e103]); exact ⟨r1_103, r2_103, k_r2_103, rfl, N104, K110, z106, z108, r103_3, r103_4, r103_5, r103_6, r103_7⟩)
abbrev R_xBigDec_toBigIntegerExact2 : Room := ⟨5, 2, 8, 65⟩
theorem xBigDec_toBigIntegerExact2 (l : Launch) (Z : State) (a0 : Array Value) (hw : ∀ d ∈ tables_1, d.before a0 Z = true) (SS : Stat Z) (ix : Fin 6) (a1 : Addr) (h0 : Heap) (n0 : Nat) (O0 : Old Z n0 h0) (P0 : Exa Z h0 a1 "java/math/BigDecimal") (P1 : Fld Z h0 a1 "java/math/BigDecimal" "intCompact" "J" (.long (vJ ix [2000000000, 4000000000, 8000000000, 16000000000, 32000000000, 60000000000]))) (P2 : Fld Z h0 a1 "java/math/BigDecimal" "intVal" "Ljava/math/BigInteger;" .null) (P3 : Fld Z h0 a1 "java/math/BigDecimal" "scale" "I" (.int (0 : Int32))) (hcl : ¬ ix.val < 2) :
    MetN l Z (⟨"java/math/BigDecimal", "toBigIntegerExact", "()Ljava/math/BigInteger;"⟩ : MethodName) jdk_17_method_81_code 1 (some (.object "java/math/BigInteger")) R_xBigDec_toBigIntegerExact2 [] #[(.ref a1)] h0 (fun v h L => ∃ (r1 : Addr) (r2 : Addr) (k_r2 : ClassId), v = some (.ref r1) ∧ Fr n0 L ∧ Keep h0 h [] ∧ h0.size ≤ r1 ∧ h0.size ≤ r2 ∧ Fld Z h r1 "java/math/BigInteger" "bitLengthPlusOne" "I" (.int (0 : Int32)) ∧ Arv Z h r2 k_r2 .int (2 : Int32) [(.int (vI ix [1, 1, 1, 3, 7, 13])), (.int (vI ix [-589934592, -589934592, -589934592, -1179869184, 1935228928, -129542144]))] (.int (0 : Int32)) ∧ Fld Z h r1 "java/math/BigInteger" "mag" "[I" (.ref r2) ∧ Fld Z h r1 "java/math/BigInteger" "signum" "I" (.int (1 : Int32)) ∧ Exa Z h r1 "java/math/BigInteger") := by
  refine MetN.walk (plainFor_of_name pn_27) ?_
  intro p e s m below meth c s₁ hx hZ hby hml hown hnm hret hlk X0 e0
  have N0 := Fr.nil n0
  refine Win.to s₁ (mkF m 0 #[.val (.ref a1)] []) (fun _ k => castTop rfl k) ?_
  refine W.aloadN X0 hx (hc hby D27 0 rfl) rfl rfl ?_
  refine W.iconst X0 hx (hc hby D27 1 rfl) (v := 0) rfl ?_
  refine W.bipush X0 hx (hc hby D27 2 rfl) (v := 7) rfl ?_
  refine W.virtual X0 hx hZ hown (wk hw 136 rfl) (wk hw 137 rfl) (notFace_of_selects (args := #[]) (mvT hZ (wk hw 139 rfl))) (wk hw 139 rfl) (wk hw 138 rfl) (wk hw 46 rfl) (wk hw 140 rfl) (by decide) (xBigDec_setScale1 l Z a0 hw SS (0 : Fin 6) a1 h0 n0 O0 P3 (by decide)) e0 P0 (by rw [hml]; rfl) (argsL := [(.int (0 : Int32)), (.int (7 : Int32))]) (rest := []) rfl (lenOf pd__II_Ljava_math_BigDecimal_ rfl) rfl (W := 0) (Nat.le_of_eq rfl) (hc hby D27 3 rfl) (by decide) (by decide) (by decide) (by decide) (fun T101 h101 v101 L101 X101 e101 q101 => ?_)
  obtain ⟨rfl, N101q, r101_0⟩ := q101
  have N102 := Fr.app N0 N101q
  have e101 := e101.trans r101_0
  refine W.private X101 hx hZ hown (wk hw 141 rfl) (wk hw 142 rfl) (wk hw 144 rfl) (wk hw 143 rfl) (wk hw 46 rfl) (wk hw 145 rfl) (by decide) (xBigDec_inflated2 l Z a0 hw SS ix a1 h0 n0 O0 P1 P2 hcl) e101 P0 (by rw [hml]; rfl) (argsL := []) (rest := []) rfl (lenOf pd___Ljava_math_BigInteger_ rfl) rfl (W := 0) (Nat.le_of_eq rfl) (hc hby D27 4 rfl) (by decide) (by decide) (by decide) (by decide) (fun T103 h103 v103 L103 X103 e103 q103 => ?_)
  obtain ⟨r1_103, r2_103, k_r2_103, rfl, N103q, r103_0, r103_1, r103_2, r103_3, r103_4, r103_5, r103_6, r103_7⟩ := q103
  have N104 := Fr.app N102 N103q
  have g105 : n0 ≤ r1_103 := Nat.le_trans (own_le O0) r103_1
  have z106 : h0.size ≤ r1_103 := r103_1
  have g107 : n0 ≤ r2_103 := Nat.le_trans (own_le O0) r103_2
  have z108 : h0.size ≤ r2_103 := r103_2
  have O109 := Old.keep O0 r103_0 all0
  have K110 : Keep h0 h103 [] := Keep.trans (Keep.refl h0 []) r103_0 all0
  exact Win.retA X103 hx hlk hret rfl rfl (hc hby D27 5 rfl) (by decide) (by decide) (by (try rw [e103]); exact ⟨r1_103, r2_103, k_r2_103, rfl, N104, K110, z106, z108, r103_3, r103_4, r103_5, r103_6, r103_7⟩)
abbrev R_xMutabl_init4 : Room := ⟨1, 0, 0, 12⟩
theorem xMutabl_init4 (l : Launch) (Z : State) (a0 : Array Value) (hw : ∀ d ∈ tables_1, d.before a0 Z = true) (SS : Stat Z) (ix : Fin 6) (a1 : Addr) (a2 : Addr) (k_a2 : ClassId) (h0 : Heap) (n0 : Nat) (O0 : Old Z n0 h0) (P0 : Exa Z h0 a1 "java/math/MutableBigInteger") (P1 : Fld Z h0 a1 "java/math/MutableBigInteger" "intLen" "I" (.int (0 : Int32))) (P2 : Fld Z h0 a1 "java/math/MutableBigInteger" "offset" "I" (.int (0 : Int32))) (P3 : Fld Z h0 a1 "java/math/MutableBigInteger" "value" "[I" .null) (P4 : Arv Z h0 a2 k_a2 .int (2 : Int32) [(.int (vI ix [1, 1, 1, 3, 7, 13])), (.int (vI ix [-589934592, -589934592, -589934592, -1179869184, 1935228928, -129542144]))] (.int (0 : Int32))) (hcl : ¬ ix.val < 2) (g_a1 : n0 ≤ a1) :
    MetN l Z (⟨"java/math/MutableBigInteger", "<init>", "([I)V"⟩ : MethodName) jdk_2101_method_3_code 2 none R_xMutabl_init4 [] #[(.ref a1), (.ref a2)] h0 (fun v h L => v = none ∧ Fr n0 L ∧ Keep h0 h [a1] ∧ Fld Z h a1 "java/math/MutableBigInteger" "intLen" "I" (.int (2 : Int32)) ∧ Fld Z h a1 "java/math/MutableBigInteger" "offset" "I" (.int (0 : Int32)) ∧ Fld Z h a1 "java/math/MutableBigInteger" "value" "[I" (.ref a2) ∧ Exa Z h a1 "java/math/MutableBigInteger") := by
  refine MetN.walk (plainFor_of_name pn_35) ?_
  intro p e s m below meth c s₁ hx hZ hby hml hown hnm hret hlk X0 e0
  have N0 := Fr.nil n0
  refine Win.to s₁ (mkF m 0 #[.val (.ref a1), .val (.ref a2)] []) (fun _ k => castTop rfl k) ?_
  refine W.aloadN X0 hx (hc hby D35 0 rfl) rfl rfl ?_
  obtain ⟨T101, X101, e101, st101⟩ := initO X0 hx hZ hown (wk hw 183 rfl) (wk hw 7 rfl) (wk hw 8 rfl) e0 (g := (mkF m 1 #[.val (.ref a1), .val (.ref a2)] [(.ref a1)])) rfl (by rw [hml]; rfl) rfl (hc hby D35 1 rfl) (by decide) (W := 0) (by show 2 * 0 + _ ≤ _; exact Nat.le_of_eq rfl) (by decide)
  refine Win.to T101 (mkF m 4 #[.val (.ref a1), .val (.ref a2)] []) (fun _ k => st101 _ k) ?_
  refine W.aloadN X101 hx (hc hby D35 2 rfl) rfl rfl ?_
  refine W.iconst X101 hx (hc hby D35 3 rfl) (v := 0) rfl ?_
  have ne102 : a1 ≠ a2 := (Exa.neArv P0 P4 (wk hw 177 rfl))
  refine W.putF X101 hx hZ hown (host := "") (Or.inl (wk hw 184 rfl)) Via.refl e101 P2 P0 (Or.inl (wk hw 185 rfl)) (wk hw 177 rfl) (ty := .int) (by decide) rfl rfl (hc hby D35 4 rfl) O0 g_a1 (Keep.refl h0 [a1]) (Or.inl (List.mem_of_getElem? (i := 0) rfl)) N0 (fun T103 h103 X103 e103 W103 O103 K103 N103 F103 => ?_)
  refine W.aloadN X103 hx (hc hby D35 5 rfl) rfl rfl ?_
  refine W.aloadN X103 hx (hc hby D35 6 rfl) rfl rfl ?_
  have F104 := Exa.wr W103 P0
  have F105 := Fld.other W103 P3 (Or.inr (slot_ne (Or.inl (wk hw 187 rfl)) (Or.inl (wk hw 185 rfl)) (by decide) (t := (.array .int)) (t' := .int) (by decide) (by decide)))
  refine W.putF X103 hx hZ hown (host := "") (Or.inl (wk hw 186 rfl)) Via.refl e103 F105 F104 (Or.inl (wk hw 187 rfl)) (wk hw 177 rfl) (ty := (.array .int)) (by decide) rfl rfl (hc hby D35 7 rfl) O103 g_a1 K103 (Or.inl (List.mem_of_getElem? (i := 0) rfl)) N103 (fun T106 h106 X106 e106 W106 O106 K106 N106 F106 => ?_)
  refine W.aloadN X106 hx (hc hby D35 8 rfl) rfl rfl ?_
  refine W.aloadN X106 hx (hc hby D35 9 rfl) rfl rfl ?_
  have F107 := (P4.other W103 (Ne.symm ne102)).other W106 (Ne.symm ne102)
  obtain ⟨cl108, Ar108, -, S108, N108, -, -⟩ := id F107
  refine Win.to T106 (mkF m 17 #[.val (.ref a1), .val (.ref a2)] [(.int (2 : Int32)), (.ref a1)]) (fun _ k => X106.arraylength hx (by rw [e106]; exact Ar108.1) (State.isArrayOf_alike hZ.alike Ar108.2.1) (g := (mkF m 16 #[.val (.ref a1), .val (.ref a2)] [(.ref a2), (.ref a1)])) rfl rfl (hc hby D35 10 rfl) _ (by rw [len_of S108 N108]; exact k)) ?_
  have F109 := Exa.wr W106 F104
  have F110 := Fld.other W106 (Fld.other W103 P1 (Or.inr (slot_ne (Or.inl (wk hw 189 rfl)) (Or.inl (wk hw 185 rfl)) (by decide) (t := .int) (t' := .int) (by decide) (by decide)))) (Or.inr (slot_ne (Or.inl (wk hw 189 rfl)) (Or.inl (wk hw 187 rfl)) (by decide) (t := .int) (t' := (.array .int)) (by decide) (by decide)))
  refine W.putF X106 hx hZ hown (host := "") (Or.inl (wk hw 188 rfl)) Via.refl e106 F110 F109 (Or.inl (wk hw 189 rfl)) (wk hw 177 rfl) (ty := .int) (by decide) rfl rfl (hc hby D35 11 rfl) O106 g_a1 K106 (Or.inl (List.mem_of_getElem? (i := 0) rfl)) N106 (fun T111 h111 X111 e111 W111 O111 K111 N111 F111 => ?_)
  have F112 := Fld.other W111 (Fld.other W106 F103 (Or.inr (slot_ne (Or.inl (wk hw 185 rfl)) (Or.inl (wk hw 187 rfl)) (by decide) (t := .int) (t' := (.array .int)) (by decide) (by decide)))) (Or.inr (slot_ne (Or.inl (wk hw 185 rfl)) (Or.inl (wk hw 189 rfl)) (by decide) (t := .int) (t' := .int) (by decide) (by decide)))
  have F113 := Fld.other W111 F106 (Or.inr (slot_ne (Or.inl (wk hw 187 rfl)) (Or.inl (wk hw 189 rfl)) (by decide) (t := (.array .int)) (t' := .int) (by decide) (by decide)))
  have F114 := Exa.wr W111 F109
  exact Win.retV X111 hx hlk hret (hc hby D35 12 rfl) (by decide) (by decide) (by (try rw [e111]); exact ⟨rfl, N111, K111, F111, F112, F113, F114⟩)
abbrev R_xMutabl_compare2 : Room := ⟨0, 0, 0, 0⟩
theorem xMutabl_compare2 (l : Launch) (Z : State) (a0 : Array Value) (hw : ∀ d ∈ tables_1, d.before a0 Z = true) (SS : Stat Z) (ix : Fin 6) (a1 : Addr) (a2 : Addr) (h0 : Heap) (n0 : Nat) (O0 : Old Z n0 h0) (P0 : Fld Z h0 a1 "java/math/MutableBigInteger" "intLen" "I" (.int (2 : Int32))) (P1 : Fld Z h0 a2 "java/math/MutableBigInteger" "intLen" "I" (.int (1 : Int32))) (hcl : ¬ ix.val < 2) :
    MetN l Z (⟨"java/math/MutableBigInteger", "compare", "(Ljava/math/MutableBigInteger;)I"⟩ : MethodName) jdk_2101_method_15_code 8 (some .int) R_xMutabl_compare2 [] #[(.ref a1), (.ref a2)] h0 (fun v h L => v = some (.int (1 : Int32)) ∧ Fr n0 L ∧ h = h0) := by
  refine MetN.walk (plainFor_of_name pn_38) ?_
  intro p e s m below meth c s₁ hx hZ hby hml hown hnm hret hlk X0 e0
  have N0 := Fr.nil n0
  refine Win.to s₁ (mkF m 0 #[.val (.ref a1), .val (.ref a2), .unset, .unset, .unset, .unset, .unset, .unset] []) (fun _ k => castTop rfl k) ?_
  refine W.aloadN X0 hx (hc hby D38 0 rfl) rfl rfl ?_
  refine W.getF X0 hx hZ hown (host := "") (Or.inl (wk hw 188 rfl)) Via.refl e0 P1 (hc hby D38 1 rfl) (fun T101 X101 e101 => ?_)
  refine W.istoreN X101 hx (hc hby D38 2 rfl) (l' := #[.val (.ref a1), .val (.ref a2), .val (.int (1 : Int32)), .unset, .unset, .unset, .unset, .unset]) rfl ?_
  refine W.aloadN X101 hx (hc hby D38 3 rfl) rfl rfl ?_
  refine W.getF X101 hx hZ hown (host := "") (Or.inl (wk hw 188 rfl)) Via.refl e101 P0 (hc hby D38 4 rfl) (fun T102 X102 e102 => ?_)
  refine W.iloadN X102 hx (hc hby D38 5 rfl) rfl ?_
  refine W.icmpYes X102 hx (hc hby D38 6 rfl) (by decide) (by decide) (pc' := 15) rfl ?_
  refine W.aloadN X102 hx (hc hby D38 7 rfl) rfl rfl ?_
  refine W.getF X102 hx hZ hown (host := "") (Or.inl (wk hw 188 rfl)) Via.refl e102 P0 (hc hby D38 8 rfl) (fun T103 X103 e103 => ?_)
  refine W.iloadN X103 hx (hc hby D38 9 rfl) rfl ?_
  refine W.icmpNo X103 hx (hc hby D38 10 rfl) (by decide) ?_
  refine W.iconst X103 hx (hc hby D38 48 rfl) (v := 1) rfl ?_
  exact Win.retI X103 hx hlk hret (hc hby D38 49 rfl) (by decide) (by decide) (by (try rw [e103]); exact ⟨rfl, N0, rfl⟩)
abbrev R_xIntege_numberOfLeadingZeros2 : Room := ⟨0, 0, 0, 0⟩
theorem xIntege_numberOfLeadingZeros2 (l : Launch) (Z : State) (a0 : Array Value) (hw : ∀ d ∈ tables_1, d.before a0 Z = true) (SS : Stat Z) (h0 : Heap) (n0 : Nat) (O0 : Old Z n0 h0)  :
    MetN l Z (⟨"java/lang/Integer", "numberOfLeadingZeros", "(I)I"⟩ : MethodName) jdk_33_method_47_code 2 (some .int) R_xIntege_numberOfLeadingZeros2 [] #[(.int (1000000000 : Int32))] h0 (fun v h L => v = some (.int (2 : Int32)) ∧ Fr n0 L ∧ h = h0) := by
  refine MetN.walk (plainFor_of_name pn_46) ?_
  intro p e s m below meth c s₁ hx hZ hby hml hown hnm hret hlk X0 e0
  have N0 := Fr.nil n0
  refine Win.to s₁ (mkF m 0 #[.val (.int (1000000000 : Int32)), .unset] []) (fun _ k => castTop rfl k) ?_
  refine W.iloadN X0 hx (hc hby D46 0 rfl) rfl ?_
  refine W.ifYes X0 hx (hc hby D46 1 rfl) (by decide) (by decide) (pc' := 15) rfl ?_
  refine W.bipush X0 hx (hc hby D46 2 rfl) (v := 31) rfl ?_
  refine W.istoreN X0 hx (hc hby D46 3 rfl) (l' := #[.val (.int (1000000000 : Int32)), .val (.int (31 : Int32))]) rfl ?_
  refine W.iloadN X0 hx (hc hby D46 4 rfl) rfl ?_
  refine Win.to s₁ (mkF m 22 #[.val (.int (1000000000 : Int32)), .val (.int (31 : Int32))] [(.int (65536 : Int32)), (.int (1000000000 : Int32))]) (fun _ k => Jvm.Stand.ldcWI X0 hx hown (mvT hZ (wk hw 252 rfl)) rfl (hc hby D46 5 rfl) k) ?_
  refine W.icmpNo X0 hx (hc hby D46 6 rfl) (by decide) ?_
  refine Win.to s₁ (mkF m 28 #[.val (.int (1000000000 : Int32)), .val (.int (15 : Int32))] []) (fun _ k => XS.iinc X0.here hx rfl (hc hby D46 32 rfl) rfl (l' := #[.val (.int (1000000000 : Int32)), .val (.int (15 : Int32))]) rfl k) ?_
  refine W.iloadN X0 hx (hc hby D46 33 rfl) rfl ?_
  refine W.bipush X0 hx (hc hby D46 34 rfl) (v := 16) rfl ?_
  refine W.iushr X0 hx (hc hby D46 35 rfl) (v := (15258 : Int32)) (by decide) ?_
  refine W.istoreN X0 hx (hc hby D46 36 rfl) (l' := #[.val (.int (15258 : Int32)), .val (.int (15 : Int32))]) rfl ?_
  refine W.iloadN X0 hx (hc hby D46 7 rfl) rfl ?_
  refine W.sipush X0 hx (hc hby D46 8 rfl) (v := 256) rfl ?_
  refine W.icmpNo X0 hx (hc hby D46 9 rfl) (by decide) ?_
  refine Win.to s₁ (mkF m 43 #[.val (.int (15258 : Int32)), .val (.int (7 : Int32))] []) (fun _ k => XS.iinc X0.here hx rfl (hc hby D46 37 rfl) rfl (l' := #[.val (.int (15258 : Int32)), .val (.int (7 : Int32))]) rfl k) ?_
  refine W.iloadN X0 hx (hc hby D46 38 rfl) rfl ?_
  refine W.bipush X0 hx (hc hby D46 39 rfl) (v := 8) rfl ?_
  refine W.iushr X0 hx (hc hby D46 40 rfl) (v := (59 : Int32)) (by decide) ?_
  refine W.istoreN X0 hx (hc hby D46 41 rfl) (l' := #[.val (.int (59 : Int32)), .val (.int (7 : Int32))]) rfl ?_
  refine W.iloadN X0 hx (hc hby D46 10 rfl) rfl ?_
  refine W.bipush X0 hx (hc hby D46 11 rfl) (v := 16) rfl ?_
  refine W.icmpNo X0 hx (hc hby D46 12 rfl) (by decide) ?_
  refine Win.to s₁ (mkF m 57 #[.val (.int (59 : Int32)), .val (.int (3 : Int32))] []) (fun _ k => XS.iinc X0.here hx rfl (hc hby D46 27 rfl) rfl (l' := #[.val (.int (59 : Int32)), .val (.int (3 : Int32))]) rfl k) ?_
  refine W.iloadN X0 hx (hc hby D46 28 rfl) rfl ?_
  refine W.iconst X0 hx (hc hby D46 29 rfl) (v := 4) rfl ?_
  refine W.iushr X0 hx (hc hby D46 30 rfl) (v := (3 : Int32)) (by decide) ?_
  refine W.istoreN X0 hx (hc hby D46 31 rfl) (l' := #[.val (.int (3 : Int32)), .val (.int (3 : Int32))]) rfl ?_
  refine W.iloadN X0 hx (hc hby D46 13 rfl) rfl ?_
  refine W.iconst X0 hx (hc hby D46 14 rfl) (v := 4) rfl ?_
  refine W.icmpYes X0 hx (hc hby D46 15 rfl) (by decide) (by decide) (pc' := 73) rfl ?_
  refine W.iloadN X0 hx (hc hby D46 16 rfl) rfl ?_
  refine W.iloadN X0 hx (hc hby D46 17 rfl) rfl ?_
  refine W.iconst X0 hx (hc hby D46 18 rfl) (v := 1) rfl ?_
  refine W.iushr X0 hx (hc hby D46 19 rfl) (v := (1 : Int32)) (by decide) ?_
  refine W.isub X0 hx (hc hby D46 20 rfl) (v := (2 : Int32)) (by decide) ?_
  exact Win.retI X0 hx hlk hret (hc hby D46 21 rfl) (by decide) (by decide) (by (try rw [e0]); exact ⟨rfl, N0, rfl⟩)
abbrev R_xMutabl_normalize1 : Room := ⟨0, 0, 0, 0⟩
theorem xMutabl_normalize1 (l : Launch) (Z : State) (a0 : Array Value) (hw : ∀ d ∈ tables_1, d.before a0 Z = true) (SS : Stat Z) (ix : Fin 6) (a1 : Addr) (a2 : Addr) (k_a2 : ClassId) (h0 : Heap) (n0 : Nat) (O0 : Old Z n0 h0) (P0 : Exa Z h0 a1 "java/math/MutableBigInteger") (P1 : Fld Z h0 a1 "java/math/MutableBigInteger" "intLen" "I" (.int (2 : Int32))) (P2 : Fld Z h0 a1 "java/math/MutableBigInteger" "offset" "I" (.int (0 : Int32))) (P3 : Fld Z h0 a1 "java/math/MutableBigInteger" "value" "[I" (.ref a2)) (P4 : Arv Z h0 a2 k_a2 .int (2 : Int32) [(.int (0 : Int32)), (.int (vI ix [2, 4, 8, 16, 32, 60]))] (.int (0 : Int32))) (hcl : ¬ ix.val < 2) (g_a1 : n0 ≤ a1) :
    MetN l Z (⟨"java/math/MutableBigInteger", "normalize", "()V"⟩ : MethodName) jdk_2101_method_21_code 4 none R_xMutabl_normalize1 [] #[(.ref a1)] h0 (fun v h L => v = none ∧ Fr n0 L ∧ Keep h0 h [a1] ∧ Fld Z h a1 "java/math/MutableBigInteger" "intLen" "I" (.int (1 : Int32)) ∧ Fld Z h a1 "java/math/MutableBigInteger" "offset" "I" (.int (1 : Int32)) ∧ Fld Z h a1 "java/math/MutableBigInteger" "value" "[I" (.ref a2) ∧ Exa Z h a1 "java/math/MutableBigInteger") := by
  refine MetN.walk (plainFor_of_name pn_62) ?_
  intro p e s m below meth c s₁ hx hZ hby hml hown hnm hret hlk X0 e0
  have N0 := Fr.nil n0
  refine Win.to s₁ (mkF m 0 #[.val (.ref a1), .unset, .unset, .unset] []) (fun _ k => castTop rfl k) ?_
  refine W.aloadN X0 hx (hc hby D62 0 rfl) rfl rfl ?_
  refine W.getF X0 hx hZ hown (host := "") (Or.inl (wk hw 188 rfl)) Via.refl e0 P1 (hc hby D62 1 rfl) (fun T101 X101 e101 => ?_)
  refine W.ifYes X101 hx (hc hby D62 2 rfl) (by decide) (by decide) (pc' := 13) rfl ?_
  refine W.aloadN X101 hx (hc hby D62 3 rfl) rfl rfl ?_
  refine W.getF X101 hx hZ hown (host := "") (Or.inl (wk hw 184 rfl)) Via.refl e101 P2 (hc hby D62 4 rfl) (fun T102 X102 e102 => ?_)
  refine W.istoreN X102 hx (hc hby D62 5 rfl) (l' := #[.val (.ref a1), .val (.int (0 : Int32)), .unset, .unset]) rfl ?_
  refine W.aloadN X102 hx (hc hby D62 6 rfl) rfl rfl ?_
  refine W.getF X102 hx hZ hown (host := "") (Or.inl (wk hw 186 rfl)) Via.refl e102 P3 (hc hby D62 7 rfl) (fun T103 X103 e103 => ?_)
  refine W.iloadN X103 hx (hc hby D62 8 rfl) rfl ?_
  obtain ⟨cl104, Ar104, q104, S104, N104, H104, G104⟩ := id P4
  have hi104 : ¬ ((0 : Int32) < 0 ∨ cl104.slots.size ≤ ((0 : Int32)).toNatClampNeg) := inb_of S104 ⟨by decide, by decide⟩
  refine Win.to T103 (mkF m 24 #[.val (.ref a1), .val (.int (0 : Int32)), .unset, .unset] [(.int (0 : Int32))]) (fun _ k => X103.iaload hx (j := (0 : Int32)) (v := (.int (0 : Int32))) (by rw [e103]; exact Ar104.1) (State.isArrayOf_alike hZ.alike Ar104.2.1) Ar104.2.2 hi104 (Has.at H104 hi104 rfl) (g := (mkF m 23 #[.val (.ref a1), .val (.int (0 : Int32)), .unset, .unset] [(.int (0 : Int32)), (.ref a2)])) rfl rfl (hc hby D62 9 rfl) _ k) ?_
  refine W.ifYes X103 hx (hc hby D62 10 rfl) (by decide) (by decide) (pc' := 28) rfl ?_
  refine W.iloadN X103 hx (hc hby D62 11 rfl) rfl ?_
  refine W.aloadN X103 hx (hc hby D62 12 rfl) rfl rfl ?_
  refine W.getF X103 hx hZ hown (host := "") (Or.inl (wk hw 188 rfl)) Via.refl e103 P1 (hc hby D62 13 rfl) (fun T105 X105 e105 => ?_)
  refine W.iadd X105 hx (hc hby D62 14 rfl) (v := (2 : Int32)) (by decide) ?_
  refine W.istoreN X105 hx (hc hby D62 15 rfl) (l' := #[.val (.ref a1), .val (.int (0 : Int32)), .val (.int (2 : Int32)), .unset]) rfl ?_
  refine Win.to T105 (mkF m 38 #[.val (.ref a1), .val (.int (1 : Int32)), .val (.int (2 : Int32)), .unset] []) (fun _ k => XS.iinc X105.here hx rfl (hc hby D62 16 rfl) rfl (l' := #[.val (.ref a1), .val (.int (1 : Int32)), .val (.int (2 : Int32)), .unset]) rfl k) ?_
  refine W.iloadN X105 hx (hc hby D62 17 rfl) rfl ?_
  refine W.iloadN X105 hx (hc hby D62 18 rfl) rfl ?_
  refine W.icmpNo X105 hx (hc hby D62 19 rfl) (by decide) ?_
  refine W.aloadN X105 hx (hc hby D62 20 rfl) rfl rfl ?_
  refine W.getF X105 hx hZ hown (host := "") (Or.inl (wk hw 186 rfl)) Via.refl e105 P3 (hc hby D62 21 rfl) (fun T106 X106 e106 => ?_)
  refine W.iloadN X106 hx (hc hby D62 22 rfl) rfl ?_
  obtain ⟨cl107, Ar107, q107, S107, N107, H107, G107⟩ := id P4
  have hi107 : ¬ ((1 : Int32) < 0 ∨ cl107.slots.size ≤ ((1 : Int32)).toNatClampNeg) := inb_of S107 ⟨by decide, by decide⟩
  refine Win.to T106 (mkF m 49 #[.val (.ref a1), .val (.int (1 : Int32)), .val (.int (2 : Int32)), .unset] [(.int (vI ix [2, 4, 8, 16, 32, 60]))]) (fun _ k => X106.iaload hx (j := (1 : Int32)) (v := (.int (vI ix [2, 4, 8, 16, 32, 60]))) (by rw [e106]; exact Ar107.1) (State.isArrayOf_alike hZ.alike Ar107.2.1) Ar107.2.2 hi107 (Has.at H107 hi107 rfl) (g := (mkF m 48 #[.val (.ref a1), .val (.int (1 : Int32)), .val (.int (2 : Int32)), .unset] [(.int (1 : Int32)), (.ref a2)])) rfl rfl (hc hby D62 23 rfl) _ k) ?_
  refine W.ifNo X106 hx (hc hby D62 24 rfl) ((show ∀ ix : Fin 6, ¬ ix.val < 2 → ifCond.holds .eq (vI ix [2, 4, 8, 16, 32, 60]) = false from by decide +kernel) ix hcl) ?_
  refine W.iloadN X106 hx (hc hby D62 25 rfl) rfl ?_
  refine W.aloadN X106 hx (hc hby D62 26 rfl) rfl rfl ?_
  refine W.getF X106 hx hZ hown (host := "") (Or.inl (wk hw 184 rfl)) Via.refl e106 P2 (hc hby D62 27 rfl) (fun T108 X108 e108 => ?_)
  refine W.isub X108 hx (hc hby D62 28 rfl) (v := (1 : Int32)) (by decide) ?_
  refine W.istoreN X108 hx (hc hby D62 29 rfl) (l' := #[.val (.ref a1), .val (.int (1 : Int32)), .val (.int (2 : Int32)), .val (.int (1 : Int32))]) rfl ?_
  refine W.aloadN X108 hx (hc hby D62 30 rfl) rfl rfl ?_
  refine W.dup X108 hx (hc hby D62 31 rfl) rfl ?_
  refine W.getF X108 hx hZ hown (host := "") (Or.inl (wk hw 188 rfl)) Via.refl e108 P1 (hc hby D62 32 rfl) (fun T109 X109 e109 => ?_)
  refine W.iloadN X109 hx (hc hby D62 33 rfl) rfl ?_
  refine W.isub X109 hx (hc hby D62 34 rfl) (v := (1 : Int32)) (by decide) ?_
  refine W.putF X109 hx hZ hown (host := "") (Or.inl (wk hw 188 rfl)) Via.refl e109 P1 P0 (Or.inl (wk hw 189 rfl)) (wk hw 177 rfl) (ty := .int) (by decide) rfl rfl (hc hby D62 35 rfl) O0 g_a1 (Keep.refl h0 [a1]) (Or.inl (List.mem_of_getElem? (i := 0) rfl)) N0 (fun T110 h110 X110 e110 W110 O110 K110 N110 F110 => ?_)
  refine W.aloadN X110 hx (hc hby D62 36 rfl) rfl rfl ?_
  refine W.aloadN X110 hx (hc hby D62 37 rfl) rfl rfl ?_
  refine W.getF X110 hx hZ hown (host := "") (Or.inl (wk hw 188 rfl)) Via.refl e110 F110 (hc hby D62 38 rfl) (fun T111 X111 e111 => ?_)
  refine W.ifYes X111 hx (hc hby D62 39 rfl) (by decide) (by decide) (pc' := 81) rfl ?_
  refine W.aloadN X111 hx (hc hby D62 40 rfl) rfl rfl ?_
  have F112 := Fld.other W110 P2 (Or.inr (slot_ne (Or.inl (wk hw 185 rfl)) (Or.inl (wk hw 189 rfl)) (by decide) (t := .int) (t' := .int) (by decide) (by decide)))
  refine W.getF X111 hx hZ hown (host := "") (Or.inl (wk hw 184 rfl)) Via.refl e111 F112 (hc hby D62 41 rfl) (fun T113 X113 e113 => ?_)
  refine W.iloadN X113 hx (hc hby D62 42 rfl) rfl ?_
  refine W.iadd X113 hx (hc hby D62 43 rfl) (v := (1 : Int32)) (by decide) ?_
  have F114 := Exa.wr W110 P0
  refine W.putF X113 hx hZ hown (host := "") (Or.inl (wk hw 184 rfl)) Via.refl e113 F112 F114 (Or.inl (wk hw 185 rfl)) (wk hw 177 rfl) (ty := .int) (by decide) rfl rfl (hc hby D62 44 rfl) O110 g_a1 K110 (Or.inl (List.mem_of_getElem? (i := 0) rfl)) N110 (fun T115 h115 X115 e115 W115 O115 K115 N115 F115 => ?_)
  have F116 := Fld.other W115 F110 (Or.inr (slot_ne (Or.inl (wk hw 189 rfl)) (Or.inl (wk hw 185 rfl)) (by decide) (t := .int) (t' := .int) (by decide) (by decide)))
  have F117 := Fld.other W115 (Fld.other W110 P3 (Or.inr (slot_ne (Or.inl (wk hw 187 rfl)) (Or.inl (wk hw 189 rfl)) (by decide) (t := (.array .int)) (t' := .int) (by decide) (by decide)))) (Or.inr (slot_ne (Or.inl (wk hw 187 rfl)) (Or.inl (wk hw 185 rfl)) (by decide) (t := (.array .int)) (t' := .int) (by decide) (by decide)))
  have F118 := Exa.wr W115 F114
  exact Win.retV X115 hx hlk hret (hc hby D62 45 rfl) (by decide) (by decide) (by (try rw [e115]); exact ⟨rfl, N115, K115, F116, F115, F117, F118⟩)
abbrev R_xMutabl_divideOneWord2 : Room := ⟨1, 1, 2, 15⟩
theorem xMutabl_divideOneWord2 (l : Launch) (Z : State) (a0 : Array Value) (hw : ∀ d ∈ tables_1, d.before a0 Z = true) (SS : Stat Z) (ix : Fin 6) (a1 : Addr) (a2 : Addr) (a3 : Addr) (a4 : Addr) (k_a3 : ClassId) (k_a4 : ClassId) (h0 : Heap) (n0 : Nat) (O0 : Old Z n0 h0) (P0 : Fld Z h0 a1 "java/math/MutableBigInteger" "intLen" "I" (.int (2 : Int32))) (P1 : Fld Z h0 a1 "java/math/MutableBigInteger" "offset" "I" (.int (0 : Int32))) (P2 : Fld Z h0 a1 "java/math/MutableBigInteger" "value" "[I" (.ref a3)) (P3 : Exa Z h0 a2 "java/math/MutableBigInteger") (P4 : Fld Z h0 a2 "java/math/MutableBigInteger" "intLen" "I" (.int (0 : Int32))) (P5 : Fld Z h0 a2 "java/math/MutableBigInteger" "offset" "I" (.int (0 : Int32))) (P6 : Fld Z h0 a2 "java/math/MutableBigInteger" "value" "[I" (.ref a4)) (P7 : Arv Z h0 a3 k_a3 .int (2 : Int32) [(.int (vI ix [1, 1, 1, 3, 7, 13])), (.int (vI ix [-589934592, -589934592, -589934592, -1179869184, 1935228928, -129542144]))] (.int (0 : Int32))) (P8 : Arv Z h0 a4 k_a4 .int (1 : Int32) [(.int (0 : Int32))] (.int (0 : Int32))) (hcl : ¬ ix.val < 2) (ne_a1_a2 : a1 ≠ a2) (g_a2 : n0 ≤ a2) :
    MetN l Z (⟨"java/math/MutableBigInteger", "divideOneWord", "(ILjava/math/MutableBigInteger;)I"⟩ : MethodName) jdk_2101_method_53_code 15 (some .int) R_xMutabl_divideOneWord2 [] #[(.ref a1), (.int (1000000000 : Int32)), (.ref a2)] h0 (fun v h L => ∃ (r1 : Addr) (k_r1 : ClassId), v = some (.int (0 : Int32)) ∧ Fr n0 L ∧ Keep h0 h [a2] ∧ h0.size ≤ r1 ∧ Fld Z h a2 "java/math/MutableBigInteger" "intLen" "I" (.int (1 : Int32)) ∧ Fld Z h a2 "java/math/MutableBigInteger" "offset" "I" (.int (1 : Int32)) ∧ Arv Z h r1 k_r1 .int (2 : Int32) [(.int (0 : Int32)), (.int (vI ix [2, 4, 8, 16, 32, 60]))] (.int (0 : Int32)) ∧ Fld Z h a2 "java/math/MutableBigInteger" "value" "[I" (.ref r1) ∧ Exa Z h a2 "java/math/MutableBigInteger") := by
  refine MetN.walk (plainFor_of_name pn_40) ?_
  intro p e s m below meth c s₁ hx hZ hby hml hown hnm hret hlk X0 e0
  have N0 := Fr.nil n0
  refine Win.to s₁ (mkF m 0 #[.val (.ref a1), .val (.int (1000000000 : Int32)), .val (.ref a2), .unset, .unset, .unset, .unset, .unset, .unset, .unset, .unset, .unset, .unset, .unset, .unset] []) (fun _ k => castTop rfl k) ?_
  refine W.iloadN X0 hx (hc hby D40 0 rfl) rfl ?_
  refine W.i2l X0 hx (hc hby D40 1 rfl) (v := (1000000000 : Int64)) (by decide) ?_
  refine W.ldc2 X0 hx (hc hby D40 2 rfl) hown (mvT hZ (wk hw 219 rfl)) ?_
  refine W.land X0 hx (hc hby D40 3 rfl) (v := (1000000000 : Int64)) (by decide) ?_
  refine W.lstoreN X0 hx (hc hby D40 4 rfl) (l' := #[.val (.ref a1), .val (.int (1000000000 : Int32)), .val (.ref a2), .val (.long (1000000000 : Int64)), .second, .unset, .unset, .unset, .unset, .unset, .unset, .unset, .unset, .unset, .unset]) rfl ?_
  refine W.aloadN X0 hx (hc hby D40 5 rfl) rfl rfl ?_
  refine W.getF X0 hx hZ hown (host := "") (Or.inl (wk hw 188 rfl)) Via.refl e0 P0 (hc hby D40 6 rfl) (fun T101 X101 e101 => ?_)
  refine W.iconst X101 hx (hc hby D40 7 rfl) (v := 1) rfl ?_
  refine W.icmpYes X101 hx (hc hby D40 8 rfl) (by decide) (by decide) (pc' := 79) rfl ?_
  refine W.aloadN X101 hx (hc hby D40 46 rfl) rfl rfl ?_
  refine W.getF X101 hx hZ hown (host := "") (Or.inl (wk hw 186 rfl)) Via.refl e101 P6 (hc hby D40 47 rfl) (fun T102 X102 e102 => ?_)
  obtain ⟨cl103, Ar103, -, S103, N103, -, -⟩ := id P8
  refine Win.to T102 (mkF m 84 #[.val (.ref a1), .val (.int (1000000000 : Int32)), .val (.ref a2), .val (.long (1000000000 : Int64)), .second, .unset, .unset, .unset, .unset, .unset, .unset, .unset, .unset, .unset, .unset] [(.int (1 : Int32))]) (fun _ k => X102.arraylength hx (by rw [e102]; exact Ar103.1) (State.isArrayOf_alike hZ.alike Ar103.2.1) (g := (mkF m 83 #[.val (.ref a1), .val (.int (1000000000 : Int32)), .val (.ref a2), .val (.long (1000000000 : Int64)), .second, .unset, .unset, .unset, .unset, .unset, .unset, .unset, .unset, .unset, .unset] [(.ref a4)])) rfl rfl (hc hby D40 48 rfl) _ (by rw [len_of S103 N103]; exact k)) ?_
  refine W.aloadN X102 hx (hc hby D40 49 rfl) rfl rfl ?_
  refine W.getF X102 hx hZ hown (host := "") (Or.inl (wk hw 188 rfl)) Via.refl e102 P0 (hc hby D40 50 rfl) (fun T104 X104 e104 => ?_)
  refine W.icmpNo X104 hx (hc hby D40 51 rfl) (by decide) ?_
  refine W.aloadN X104 hx (hc hby D40 52 rfl) rfl rfl ?_
  refine W.aloadN X104 hx (hc hby D40 53 rfl) rfl rfl ?_
  refine W.getF X104 hx hZ hown (host := "") (Or.inl (wk hw 188 rfl)) Via.refl e104 P0 (hc hby D40 54 rfl) (fun T105 X105 e105 => ?_)
  obtain ⟨T106, h106, k106, X106, e106, E106, A106, st106⟩ := newP X105 hx hZ (wk hw 161 rfl) e105 (g := (mkF m 96 #[.val (.ref a1), .val (.int (1000000000 : Int32)), .val (.ref a2), .val (.long (1000000000 : Int64)), .second, .unset, .unset, .unset, .unset, .unset, .unset, .unset, .unset, .unset, .unset] [(.int (2 : Int32)), (.ref a2)])) rfl (hc hby D40 55 rfl) rfl (by decide) (cap := 2) (by decide) (by decide) (by decide) (by decide)
  obtain ⟨b106, g106⟩ : ∃ z, z = h0.size := ⟨_, rfl⟩
  rw [← g106] at A106 st106
  have ne107 : a1 ≠ b106 := Nat.ne_of_lt (Nat.lt_of_lt_of_le P0.lt (Nat.le_of_eq g106.symm))
  have ne108 : a2 ≠ b106 := Nat.ne_of_lt (Nat.lt_of_lt_of_le P3.lt (Nat.le_of_eq g106.symm))
  have ne109 : a3 ≠ b106 := Nat.ne_of_lt (Nat.lt_of_lt_of_le P7.lt (Nat.le_of_eq g106.symm))
  have g110 : n0 ≤ b106 := Nat.le_trans (own_le O0) (Nat.le_of_eq g106.symm)
  have z111 : h0.size ≤ b106 := (Nat.le_of_eq g106.symm)
  have O112 := Old.ext O0 E106
  have K113 : Keep h0 h106 [a2] := (Keep.refl h0 [a2]).ext E106
  have F114 : Arv Z h106 b106 k106 .int (2 : Int32) [(.int (0 : Int32)), (.int (0 : Int32))] (.int (0 : Int32)) := (Arv.new A106 (by decide)).pad (pad_rep [] (.int (0 : Int32)) 2)
  refine Win.to T106 (mkF m 98 #[.val (.ref a1), .val (.int (1000000000 : Int32)), .val (.ref a2), .val (.long (1000000000 : Int64)), .second, .unset, .unset, .unset, .unset, .unset, .unset, .unset, .unset, .unset, .unset] [(.ref b106), (.ref a2)]) (fun _ k => st106 _ k) ?_
  have F115 := Exa.ext E106 P3
  have F116 := Fld.ext E106 P6
  have F117 := P7.ext E106
  have ne118 : a2 ≠ a3 := (Exa.neArv F115 F117 (wk hw 177 rfl))
  refine W.putF X106 hx hZ hown (host := "") (Or.inl (wk hw 186 rfl)) Via.refl e106 F116 F115 (Or.inl (wk hw 187 rfl)) (wk hw 177 rfl) (ty := (.array .int)) (by decide) rfl rfl (hc hby D40 56 rfl) O112 g_a2 K113 (Or.inl (List.mem_of_getElem? (i := 0) rfl)) N0 (fun T119 h119 X119 e119 W119 O119 K119 N119 F119 => ?_)
  refine W.aloadN X119 hx (hc hby D40 57 rfl) rfl rfl ?_
  refine W.iconst X119 hx (hc hby D40 58 rfl) (v := 0) rfl ?_
  have F120 := Exa.wr W119 F115
  have F121 := Fld.other W119 (Fld.ext E106 P5) (Or.inr (slot_ne (Or.inl (wk hw 185 rfl)) (Or.inl (wk hw 187 rfl)) (by decide) (t := .int) (t' := (.array .int)) (by decide) (by decide)))
  refine W.putF X119 hx hZ hown (host := "") (Or.inl (wk hw 184 rfl)) Via.refl e119 F121 F120 (Or.inl (wk hw 185 rfl)) (wk hw 177 rfl) (ty := .int) (by decide) rfl rfl (hc hby D40 59 rfl) O119 g_a2 K119 (Or.inl (List.mem_of_getElem? (i := 0) rfl)) N119 (fun T122 h122 X122 e122 W122 O122 K122 N122 F122 => ?_)
  refine W.aloadN X122 hx (hc hby D40 60 rfl) rfl rfl ?_
  refine W.aloadN X122 hx (hc hby D40 61 rfl) rfl rfl ?_
  have F123 := Fld.other W122 (Fld.other W119 (Fld.ext E106 P0) (Or.inl ne_a1_a2)) (Or.inl ne_a1_a2)
  refine W.getF X122 hx hZ hown (host := "") (Or.inl (wk hw 188 rfl)) Via.refl e122 F123 (hc hby D40 62 rfl) (fun T124 X124 e124 => ?_)
  have F125 := Exa.wr W122 F120
  have F126 := Fld.other W122 (Fld.other W119 (Fld.ext E106 P4) (Or.inr (slot_ne (Or.inl (wk hw 189 rfl)) (Or.inl (wk hw 187 rfl)) (by decide) (t := .int) (t' := (.array .int)) (by decide) (by decide)))) (Or.inr (slot_ne (Or.inl (wk hw 189 rfl)) (Or.inl (wk hw 185 rfl)) (by decide) (t := .int) (t' := .int) (by decide) (by decide)))
  refine W.putF X124 hx hZ hown (host := "") (Or.inl (wk hw 188 rfl)) Via.refl e124 F126 F125 (Or.inl (wk hw 189 rfl)) (wk hw 177 rfl) (ty := .int) (by decide) rfl rfl (hc hby D40 63 rfl) O122 g_a2 K122 (Or.inl (List.mem_of_getElem? (i := 0) rfl)) N122 (fun T127 h127 X127 e127 W127 O127 K127 N127 F127 => ?_)
  refine W.iloadN X127 hx (hc hby D40 64 rfl) rfl ?_
  refine W.static X127 hx hZ hown (wk hw 323 rfl) (wk hw 249 rfl) (wk hw 250 rfl) (wk hw 251 rfl) (by decide) (xIntege_numberOfLeadingZeros2 l Z a0 hw SS h127 n0 O127 ) e127 (by rw [hml]; rfl) (argsL := [(.int (1000000000 : Int32))]) (rest := []) rfl (lenOf pd__I_I rfl) rfl (W := 0) (Nat.le_of_eq rfl) (hc hby D40 65 rfl) (by decide) (by decide) (by decide) (by decide) (fun T128 h128 v128 L128 X128 e128 q128 => ?_)
  obtain ⟨rfl, N128q, r128_0⟩ := q128
  have N129 := Fr.app N127 N128q
  have e128 := e128.trans r128_0
  refine W.istore X128 hx (hc hby D40 66 rfl) (l' := #[.val (.ref a1), .val (.int (1000000000 : Int32)), .val (.ref a2), .val (.long (1000000000 : Int64)), .second, .val (.int (2 : Int32)), .unset, .unset, .unset, .unset, .unset, .unset, .unset, .unset, .unset]) rfl ?_
  refine W.aloadN X128 hx (hc hby D40 67 rfl) rfl rfl ?_
  have F130 := Fld.other W127 (Fld.other W122 (Fld.other W119 (Fld.ext E106 P2) (Or.inl ne_a1_a2)) (Or.inl ne_a1_a2)) (Or.inl ne_a1_a2)
  refine W.getF X128 hx hZ hown (host := "") (Or.inl (wk hw 186 rfl)) Via.refl e128 F130 (hc hby D40 68 rfl) (fun T131 X131 e131 => ?_)
  refine W.aloadN X131 hx (hc hby D40 69 rfl) rfl rfl ?_
  have F132 := Fld.other W127 (Fld.other W122 (Fld.other W119 (Fld.ext E106 P1) (Or.inl ne_a1_a2)) (Or.inl ne_a1_a2)) (Or.inl ne_a1_a2)
  refine W.getF X131 hx hZ hown (host := "") (Or.inl (wk hw 184 rfl)) Via.refl e131 F132 (hc hby D40 70 rfl) (fun T133 X133 e133 => ?_)
  have F134 := ((F117.other W119 (Ne.symm ne118)).other W122 (Ne.symm ne118)).other W127 (Ne.symm ne118)
  obtain ⟨cl135, Ar135, q135, S135, N135, H135, G135⟩ := id F134
  have hi135 : ¬ ((0 : Int32) < 0 ∨ cl135.slots.size ≤ ((0 : Int32)).toNatClampNeg) := inb_of S135 ⟨by decide, by decide⟩
  refine Win.to T133 (mkF m 129 #[.val (.ref a1), .val (.int (1000000000 : Int32)), .val (.ref a2), .val (.long (1000000000 : Int64)), .second, .val (.int (2 : Int32)), .unset, .unset, .unset, .unset, .unset, .unset, .unset, .unset, .unset] [(.int (vI ix [1, 1, 1, 3, 7, 13]))]) (fun _ k => X133.iaload hx (j := (0 : Int32)) (v := (.int (vI ix [1, 1, 1, 3, 7, 13]))) (by rw [e133]; exact Ar135.1) (State.isArrayOf_alike hZ.alike Ar135.2.1) Ar135.2.2 hi135 (Has.at H135 hi135 rfl) (g := (mkF m 128 #[.val (.ref a1), .val (.int (1000000000 : Int32)), .val (.ref a2), .val (.long (1000000000 : Int64)), .second, .val (.int (2 : Int32)), .unset, .unset, .unset, .unset, .unset, .unset, .unset, .unset, .unset] [(.int (0 : Int32)), (.ref a3)])) rfl rfl (hc hby D40 71 rfl) _ k) ?_
  refine W.istore X133 hx (hc hby D40 72 rfl) (l' := #[.val (.ref a1), .val (.int (1000000000 : Int32)), .val (.ref a2), .val (.long (1000000000 : Int64)), .second, .val (.int (2 : Int32)), .val (.int (vI ix [1, 1, 1, 3, 7, 13])), .unset, .unset, .unset, .unset, .unset, .unset, .unset, .unset]) rfl ?_
  refine W.iload X133 hx (hc hby D40 73 rfl) rfl ?_
  refine W.i2l X133 hx (hc hby D40 74 rfl) (v := (vJ ix [1, 1, 1, 3, 7, 13])) ((show ∀ ix : Fin 6, ¬ ix.val < 2 → (vI ix [1, 1, 1, 3, 7, 13]).toInt64 = (vJ ix [1, 1, 1, 3, 7, 13]) from by decide +kernel) ix hcl) ?_
  refine W.ldc2 X133 hx (hc hby D40 75 rfl) hown (mvT hZ (wk hw 219 rfl)) ?_
  refine W.land X133 hx (hc hby D40 76 rfl) (v := (vJ ix [1, 1, 1, 3, 7, 13])) ((show ∀ ix : Fin 6, ¬ ix.val < 2 → (vJ ix [1, 1, 1, 3, 7, 13]) &&& (4294967295 : Int64) = (vJ ix [1, 1, 1, 3, 7, 13]) from by decide +kernel) ix hcl) ?_
  refine W.lstore X133 hx (hc hby D40 77 rfl) (l' := #[.val (.ref a1), .val (.int (1000000000 : Int32)), .val (.ref a2), .val (.long (1000000000 : Int64)), .second, .val (.int (2 : Int32)), .val (.int (vI ix [1, 1, 1, 3, 7, 13])), .val (.long (vJ ix [1, 1, 1, 3, 7, 13])), .second, .unset, .unset, .unset, .unset, .unset, .unset]) rfl ?_
  refine W.lload X133 hx (hc hby D40 78 rfl) rfl ?_
  refine W.lloadN X133 hx (hc hby D40 79 rfl) rfl ?_
  refine W.lcmp X133 hx (hc hby D40 80 rfl) (v := (-1 : Int32)) ((show ∀ ix : Fin 6, ¬ ix.val < 2 → lcmpW (vJ ix [1, 1, 1, 3, 7, 13]) (1000000000 : Int64) = (-1 : Int32) from by decide +kernel) ix hcl) ?_
  refine W.ifNo X133 hx (hc hby D40 81 rfl) (by decide) ?_
  refine W.aloadN X133 hx (hc hby D40 82 rfl) rfl rfl ?_
  have F136 := Fld.other W127 (Fld.other W122 F119 (Or.inr (slot_ne (Or.inl (wk hw 187 rfl)) (Or.inl (wk hw 185 rfl)) (by decide) (t := (.array .int)) (t' := .int) (by decide) (by decide)))) (Or.inr (slot_ne (Or.inl (wk hw 187 rfl)) (Or.inl (wk hw 189 rfl)) (by decide) (t := (.array .int)) (t' := .int) (by decide) (by decide)))
  refine W.getF X133 hx hZ hown (host := "") (Or.inl (wk hw 186 rfl)) Via.refl e133 F136 (hc hby D40 83 rfl) (fun T137 X137 e137 => ?_)
  refine W.iconst X137 hx (hc hby D40 84 rfl) (v := 0) rfl ?_
  refine W.iconst X137 hx (hc hby D40 85 rfl) (v := 0) rfl ?_
  have F138 := ((F114.other W119 (Ne.symm ne108)).other W122 (Ne.symm ne108)).other W127 (Ne.symm ne108)
  obtain ⟨cl139, Ar139, q139, S139, N139, H139, G139⟩ := id F138
  have hi139 : ¬ ((0 : Int32) < 0 ∨ cl139.slots.size ≤ ((0 : Int32)).toNatClampNeg) := inb_of S139 ⟨by decide, by decide⟩
  obtain ⟨T140, h140, X140, e140, W140, st140⟩ := stI X137 hx hZ e137 Ar139 (j := (0 : Int32)) hi139 (g := (mkF m 153 #[.val (.ref a1), .val (.int (1000000000 : Int32)), .val (.ref a2), .val (.long (1000000000 : Int64)), .second, .val (.int (2 : Int32)), .val (.int (vI ix [1, 1, 1, 3, 7, 13])), .val (.long (vJ ix [1, 1, 1, 3, 7, 13])), .second, .unset, .unset, .unset, .unset, .unset, .unset] [(.int (0 : Int32)), (.int (0 : Int32)), (.ref b106)])) rfl rfl (hc hby D40 86 rfl)
  have O142 := Old.wr O127 W140 g110
  have K143 : Keep h0 h140 [a2] := K127.wr W140 (Or.inr z111)
  have N144 := Fr.snoc X140 N129 g110
  have F141 : Arv Z h140 b106 k106 .int (2 : Int32) [(.int (0 : Int32)), (.int (0 : Int32))] (.int (0 : Int32)) := Arv.set Ar139 q139 S139 N139 H139 G139 rfl W140 0 rfl (Nat.le_of_ble_eq_true rfl)
  refine Win.to T140 (mkF m 154 #[.val (.ref a1), .val (.int (1000000000 : Int32)), .val (.ref a2), .val (.long (1000000000 : Int64)), .second, .val (.int (2 : Int32)), .val (.int (vI ix [1, 1, 1, 3, 7, 13])), .val (.long (vJ ix [1, 1, 1, 3, 7, 13])), .second, .unset, .unset, .unset, .unset, .unset, .unset] []) (fun _ k => st140 _ k) ?_
  refine W.goto X140 hx (hc hby D40 87 rfl) (by decide) (pc' := 192) rfl ?_
  refine W.aloadN X140 hx (hc hby D40 88 rfl) rfl rfl ?_
  have F145 := Fld.other W140 (Fld.other W127 F123 (Or.inl ne_a1_a2)) (Or.inl ne107)
  refine W.getF X140 hx hZ hown (host := "") (Or.inl (wk hw 188 rfl)) Via.refl e140 F145 (hc hby D40 89 rfl) (fun T146 X146 e146 => ?_)
  refine W.istore X146 hx (hc hby D40 90 rfl) (l' := #[.val (.ref a1), .val (.int (1000000000 : Int32)), .val (.ref a2), .val (.long (1000000000 : Int64)), .second, .val (.int (2 : Int32)), .val (.int (vI ix [1, 1, 1, 3, 7, 13])), .val (.long (vJ ix [1, 1, 1, 3, 7, 13])), .second, .val (.int (2 : Int32)), .unset, .unset, .unset, .unset, .unset]) rfl ?_
  refine Win.to T146 (mkF m 201 #[.val (.ref a1), .val (.int (1000000000 : Int32)), .val (.ref a2), .val (.long (1000000000 : Int64)), .second, .val (.int (2 : Int32)), .val (.int (vI ix [1, 1, 1, 3, 7, 13])), .val (.long (vJ ix [1, 1, 1, 3, 7, 13])), .second, .val (.int (1 : Int32)), .unset, .unset, .unset, .unset, .unset] []) (fun _ k => XS.iinc X146.here hx rfl (hc hby D40 91 rfl) rfl (l' := #[.val (.ref a1), .val (.int (1000000000 : Int32)), .val (.ref a2), .val (.long (1000000000 : Int64)), .second, .val (.int (2 : Int32)), .val (.int (vI ix [1, 1, 1, 3, 7, 13])), .val (.long (vJ ix [1, 1, 1, 3, 7, 13])), .second, .val (.int (1 : Int32)), .unset, .unset, .unset, .unset, .unset]) rfl k) ?_
  refine W.iload X146 hx (hc hby D40 92 rfl) rfl ?_
  refine W.ifNo X146 hx (hc hby D40 93 rfl) (by decide) ?_
  refine W.lload X146 hx (hc hby D40 94 rfl) rfl ?_
  refine W.bipush X146 hx (hc hby D40 95 rfl) (v := 32) rfl ?_
  refine W.lshl X146 hx (hc hby D40 96 rfl) (v := (vJ ix [4294967296, 4294967296, 4294967296, 12884901888, 30064771072, 55834574848])) ((show ∀ ix : Fin 6, ¬ ix.val < 2 → ((vJ ix [1, 1, 1, 3, 7, 13]) <<< ((32 : Int32) &&& 0x3f).toInt64) = (vJ ix [4294967296, 4294967296, 4294967296, 12884901888, 30064771072, 55834574848]) from by decide +kernel) ix hcl) ?_
  refine W.aloadN X146 hx (hc hby D40 97 rfl) rfl rfl ?_
  have F147 := Fld.other W140 F130 (Or.inl ne107)
  refine W.getF X146 hx hZ hown (host := "") (Or.inl (wk hw 186 rfl)) Via.refl e146 F147 (hc hby D40 98 rfl) (fun T148 X148 e148 => ?_)
  refine W.aloadN X148 hx (hc hby D40 99 rfl) rfl rfl ?_
  have F149 := Fld.other W140 F132 (Or.inl ne107)
  refine W.getF X148 hx hZ hown (host := "") (Or.inl (wk hw 184 rfl)) Via.refl e148 F149 (hc hby D40 100 rfl) (fun T150 X150 e150 => ?_)
  refine W.aloadN X150 hx (hc hby D40 101 rfl) rfl rfl ?_
  refine W.getF X150 hx hZ hown (host := "") (Or.inl (wk hw 188 rfl)) Via.refl e150 F145 (hc hby D40 102 rfl) (fun T151 X151 e151 => ?_)
  refine W.iadd X151 hx (hc hby D40 103 rfl) (v := (2 : Int32)) (by decide) ?_
  refine W.iload X151 hx (hc hby D40 104 rfl) rfl ?_
  refine W.isub X151 hx (hc hby D40 105 rfl) (v := (1 : Int32)) (by decide) ?_
  have F152 := F134.other W140 ne109
  obtain ⟨cl153, Ar153, q153, S153, N153, H153, G153⟩ := id F152
  have hi153 : ¬ ((1 : Int32) < 0 ∨ cl153.slots.size ≤ ((1 : Int32)).toNatClampNeg) := inb_of S153 ⟨by decide, by decide⟩
  refine Win.to T151 (mkF m 228 #[.val (.ref a1), .val (.int (1000000000 : Int32)), .val (.ref a2), .val (.long (1000000000 : Int64)), .second, .val (.int (2 : Int32)), .val (.int (vI ix [1, 1, 1, 3, 7, 13])), .val (.long (vJ ix [1, 1, 1, 3, 7, 13])), .second, .val (.int (1 : Int32)), .unset, .unset, .unset, .unset, .unset] [(.int (vI ix [-589934592, -589934592, -589934592, -1179869184, 1935228928, -129542144])), (.long (vJ ix [4294967296, 4294967296, 4294967296, 12884901888, 30064771072, 55834574848]))]) (fun _ k => X151.iaload hx (j := (1 : Int32)) (v := (.int (vI ix [-589934592, -589934592, -589934592, -1179869184, 1935228928, -129542144]))) (by rw [e151]; exact Ar153.1) (State.isArrayOf_alike hZ.alike Ar153.2.1) Ar153.2.2 hi153 (Has.at H153 hi153 rfl) (g := (mkF m 227 #[.val (.ref a1), .val (.int (1000000000 : Int32)), .val (.ref a2), .val (.long (1000000000 : Int64)), .second, .val (.int (2 : Int32)), .val (.int (vI ix [1, 1, 1, 3, 7, 13])), .val (.long (vJ ix [1, 1, 1, 3, 7, 13])), .second, .val (.int (1 : Int32)), .unset, .unset, .unset, .unset, .unset] [(.int (1 : Int32)), (.ref a3), (.long (vJ ix [4294967296, 4294967296, 4294967296, 12884901888, 30064771072, 55834574848]))])) rfl rfl (hc hby D40 106 rfl) _ k) ?_
  refine W.i2l X151 hx (hc hby D40 107 rfl) (v := (vJ ix [-589934592, -589934592, -589934592, -1179869184, 1935228928, -129542144])) ((show ∀ ix : Fin 6, ¬ ix.val < 2 → (vI ix [-589934592, -589934592, -589934592, -1179869184, 1935228928, -129542144]).toInt64 = (vJ ix [-589934592, -589934592, -589934592, -1179869184, 1935228928, -129542144]) from by decide +kernel) ix hcl) ?_
  refine W.ldc2 X151 hx (hc hby D40 108 rfl) hown (mvT hZ (wk hw 219 rfl)) ?_
  refine W.land X151 hx (hc hby D40 109 rfl) (v := (vJ ix [3705032704, 3705032704, 3705032704, 3115098112, 1935228928, 4165425152])) ((show ∀ ix : Fin 6, ¬ ix.val < 2 → (vJ ix [-589934592, -589934592, -589934592, -1179869184, 1935228928, -129542144]) &&& (4294967295 : Int64) = (vJ ix [3705032704, 3705032704, 3705032704, 3115098112, 1935228928, 4165425152]) from by decide +kernel) ix hcl) ?_
  refine W.lor X151 hx (hc hby D40 110 rfl) (v := (vJ ix [8000000000, 8000000000, 8000000000, 16000000000, 32000000000, 60000000000])) ((show ∀ ix : Fin 6, ¬ ix.val < 2 → (vJ ix [4294967296, 4294967296, 4294967296, 12884901888, 30064771072, 55834574848]) ||| (vJ ix [3705032704, 3705032704, 3705032704, 3115098112, 1935228928, 4165425152]) = (vJ ix [8000000000, 8000000000, 8000000000, 16000000000, 32000000000, 60000000000]) from by decide +kernel) ix hcl) ?_
  refine W.lstore X151 hx (hc hby D40 111 rfl) (l' := #[.val (.ref a1), .val (.int (1000000000 : Int32)), .val (.ref a2), .val (.long (1000000000 : Int64)), .second, .val (.int (2 : Int32)), .val (.int (vI ix [1, 1, 1, 3, 7, 13])), .val (.long (vJ ix [1, 1, 1, 3, 7, 13])), .second, .val (.int (1 : Int32)), .val (.long (vJ ix [8000000000, 8000000000, 8000000000, 16000000000, 32000000000, 60000000000])), .second, .unset, .unset, .unset]) rfl ?_
  refine W.lload X151 hx (hc hby D40 112 rfl) rfl ?_
  refine W.lconst X151 hx (hc hby D40 113 rfl) (v := 0) rfl ?_
  refine W.lcmp X151 hx (hc hby D40 114 rfl) (v := (1 : Int32)) ((show ∀ ix : Fin 6, ¬ ix.val < 2 → lcmpW (vJ ix [8000000000, 8000000000, 8000000000, 16000000000, 32000000000, 60000000000]) (0 : Int64) = (1 : Int32) from by decide +kernel) ix hcl) ?_
  refine W.ifNo X151 hx (hc hby D40 115 rfl) (by decide) ?_
  refine W.lload X151 hx (hc hby D40 116 rfl) rfl ?_
  refine W.lloadN X151 hx (hc hby D40 117 rfl) rfl ?_
  refine W.ldiv X151 hx (hc hby D40 118 rfl) (by decide) (v := (vJ ix [2, 4, 8, 16, 32, 60])) ((show ∀ ix : Fin 6, ¬ ix.val < 2 → (vJ ix [8000000000, 8000000000, 8000000000, 16000000000, 32000000000, 60000000000]) / (1000000000 : Int64) = (vJ ix [2, 4, 8, 16, 32, 60]) from by decide +kernel) ix hcl) ?_
  refine W.l2i X151 hx (hc hby D40 119 rfl) (v := (vI ix [2, 4, 8, 16, 32, 60])) ((show ∀ ix : Fin 6, ¬ ix.val < 2 → (vJ ix [2, 4, 8, 16, 32, 60]).toInt32 = (vI ix [2, 4, 8, 16, 32, 60]) from by decide +kernel) ix hcl) ?_
  refine W.istore X151 hx (hc hby D40 120 rfl) (l' := #[.val (.ref a1), .val (.int (1000000000 : Int32)), .val (.ref a2), .val (.long (1000000000 : Int64)), .second, .val (.int (2 : Int32)), .val (.int (vI ix [1, 1, 1, 3, 7, 13])), .val (.long (vJ ix [1, 1, 1, 3, 7, 13])), .second, .val (.int (1 : Int32)), .val (.long (vJ ix [8000000000, 8000000000, 8000000000, 16000000000, 32000000000, 60000000000])), .second, .val (.int (vI ix [2, 4, 8, 16, 32, 60])), .unset, .unset]) rfl ?_
  refine W.lload X151 hx (hc hby D40 121 rfl) rfl ?_
  refine W.iload X151 hx (hc hby D40 122 rfl) rfl ?_
  refine W.i2l X151 hx (hc hby D40 123 rfl) (v := (vJ ix [2, 4, 8, 16, 32, 60])) ((show ∀ ix : Fin 6, ¬ ix.val < 2 → (vI ix [2, 4, 8, 16, 32, 60]).toInt64 = (vJ ix [2, 4, 8, 16, 32, 60]) from by decide +kernel) ix hcl) ?_
  refine W.lloadN X151 hx (hc hby D40 124 rfl) rfl ?_
  refine W.lmul X151 hx (hc hby D40 125 rfl) (v := (vJ ix [8000000000, 8000000000, 8000000000, 16000000000, 32000000000, 60000000000])) ((show ∀ ix : Fin 6, ¬ ix.val < 2 → (vJ ix [2, 4, 8, 16, 32, 60]) * (1000000000 : Int64) = (vJ ix [8000000000, 8000000000, 8000000000, 16000000000, 32000000000, 60000000000]) from by decide +kernel) ix hcl) ?_
  refine W.lsub X151 hx (hc hby D40 126 rfl) (v := (0 : Int64)) ((show ∀ ix : Fin 6, ¬ ix.val < 2 → (vJ ix [8000000000, 8000000000, 8000000000, 16000000000, 32000000000, 60000000000]) - (vJ ix [8000000000, 8000000000, 8000000000, 16000000000, 32000000000, 60000000000]) = (0 : Int64) from by decide +kernel) ix hcl) ?_
  refine W.l2i X151 hx (hc hby D40 127 rfl) (v := (0 : Int32)) (by decide) ?_
  refine W.istore X151 hx (hc hby D40 128 rfl) (l' := #[.val (.ref a1), .val (.int (1000000000 : Int32)), .val (.ref a2), .val (.long (1000000000 : Int64)), .second, .val (.int (2 : Int32)), .val (.int (0 : Int32)), .val (.long (vJ ix [1, 1, 1, 3, 7, 13])), .second, .val (.int (1 : Int32)), .val (.long (vJ ix [8000000000, 8000000000, 8000000000, 16000000000, 32000000000, 60000000000])), .second, .val (.int (vI ix [2, 4, 8, 16, 32, 60])), .unset, .unset]) rfl ?_
  refine W.goto X151 hx (hc hby D40 129 rfl) (by decide) (pc' := 289) rfl ?_
  refine W.aloadN X151 hx (hc hby D40 130 rfl) rfl rfl ?_
  have F154 := Fld.other W140 F136 (Or.inl ne108)
  refine W.getF X151 hx hZ hown (host := "") (Or.inl (wk hw 186 rfl)) Via.refl e151 F154 (hc hby D40 131 rfl) (fun T155 X155 e155 => ?_)
  refine W.aloadN X155 hx (hc hby D40 132 rfl) rfl rfl ?_
  refine W.getF X155 hx hZ hown (host := "") (Or.inl (wk hw 188 rfl)) Via.refl e155 F145 (hc hby D40 133 rfl) (fun T156 X156 e156 => ?_)
  refine W.iload X156 hx (hc hby D40 134 rfl) rfl ?_
  refine W.isub X156 hx (hc hby D40 135 rfl) (v := (1 : Int32)) (by decide) ?_
  refine W.iload X156 hx (hc hby D40 136 rfl) rfl ?_
  obtain ⟨cl157, Ar157, q157, S157, N157, H157, G157⟩ := id F141
  have hi157 : ¬ ((1 : Int32) < 0 ∨ cl157.slots.size ≤ ((1 : Int32)).toNatClampNeg) := inb_of S157 ⟨by decide, by decide⟩
  obtain ⟨T158, h158, X158, e158, W158, st158⟩ := stI X156 hx hZ e156 Ar157 (j := (1 : Int32)) hi157 (g := (mkF m 302 #[.val (.ref a1), .val (.int (1000000000 : Int32)), .val (.ref a2), .val (.long (1000000000 : Int64)), .second, .val (.int (2 : Int32)), .val (.int (0 : Int32)), .val (.long (vJ ix [1, 1, 1, 3, 7, 13])), .second, .val (.int (1 : Int32)), .val (.long (vJ ix [8000000000, 8000000000, 8000000000, 16000000000, 32000000000, 60000000000])), .second, .val (.int (vI ix [2, 4, 8, 16, 32, 60])), .unset, .unset] [(.int (vI ix [2, 4, 8, 16, 32, 60])), (.int (1 : Int32)), (.ref b106)])) rfl rfl (hc hby D40 137 rfl)
  have O160 := Old.wr O142 W158 g110
  have K161 : Keep h0 h158 [a2] := K143.wr W158 (Or.inr z111)
  have N162 := Fr.snoc X158 N144 g110
  have F159 : Arv Z h158 b106 k106 .int (2 : Int32) [(.int (0 : Int32)), (.int (vI ix [2, 4, 8, 16, 32, 60]))] (.int (0 : Int32)) := Arv.set Ar157 q157 S157 N157 H157 G157 rfl W158 1 rfl (Nat.le_of_ble_eq_true rfl)
  refine Win.to T158 (mkF m 303 #[.val (.ref a1), .val (.int (1000000000 : Int32)), .val (.ref a2), .val (.long (1000000000 : Int64)), .second, .val (.int (2 : Int32)), .val (.int (0 : Int32)), .val (.long (vJ ix [1, 1, 1, 3, 7, 13])), .second, .val (.int (1 : Int32)), .val (.long (vJ ix [8000000000, 8000000000, 8000000000, 16000000000, 32000000000, 60000000000])), .second, .val (.int (vI ix [2, 4, 8, 16, 32, 60])), .unset, .unset] []) (fun _ k => st158 _ k) ?_
  refine W.iload X158 hx (hc hby D40 138 rfl) rfl ?_
  refine W.i2l X158 hx (hc hby D40 139 rfl) (v := (0 : Int64)) (by decide) ?_
  refine W.ldc2 X158 hx (hc hby D40 140 rfl) hown (mvT hZ (wk hw 219 rfl)) ?_
  refine W.land X158 hx (hc hby D40 141 rfl) (v := (0 : Int64)) (by decide) ?_
  refine W.lstore X158 hx (hc hby D40 142 rfl) (l' := #[.val (.ref a1), .val (.int (1000000000 : Int32)), .val (.ref a2), .val (.long (1000000000 : Int64)), .second, .val (.int (2 : Int32)), .val (.int (0 : Int32)), .val (.long (0 : Int64)), .second, .val (.int (1 : Int32)), .val (.long (vJ ix [8000000000, 8000000000, 8000000000, 16000000000, 32000000000, 60000000000])), .second, .val (.int (vI ix [2, 4, 8, 16, 32, 60])), .unset, .unset]) rfl ?_
  refine W.goto X158 hx (hc hby D40 143 rfl) (by decide) (pc' := 198) rfl ?_
  refine Win.to T158 (mkF m 201 #[.val (.ref a1), .val (.int (1000000000 : Int32)), .val (.ref a2), .val (.long (1000000000 : Int64)), .second, .val (.int (2 : Int32)), .val (.int (0 : Int32)), .val (.long (0 : Int64)), .second, .val (.int (0 : Int32)), .val (.long (vJ ix [8000000000, 8000000000, 8000000000, 16000000000, 32000000000, 60000000000])), .second, .val (.int (vI ix [2, 4, 8, 16, 32, 60])), .unset, .unset] []) (fun _ k => XS.iinc X158.here hx rfl (hc hby D40 91 rfl) rfl (l' := #[.val (.ref a1), .val (.int (1000000000 : Int32)), .val (.ref a2), .val (.long (1000000000 : Int64)), .second, .val (.int (2 : Int32)), .val (.int (0 : Int32)), .val (.long (0 : Int64)), .second, .val (.int (0 : Int32)), .val (.long (vJ ix [8000000000, 8000000000, 8000000000, 16000000000, 32000000000, 60000000000])), .second, .val (.int (vI ix [2, 4, 8, 16, 32, 60])), .unset, .unset]) rfl k) ?_
  refine W.iload X158 hx (hc hby D40 92 rfl) rfl ?_
  refine W.ifYes X158 hx (hc hby D40 93 rfl) (by decide) (by decide) (pc' := 315) rfl ?_
  refine W.aloadN X158 hx (hc hby D40 144 rfl) rfl rfl ?_
  have F163 := Exa.wr W158 (Exa.wr W140 (Exa.wr W127 F125))
  have F164 := Fld.other W158 (Fld.other W140 F127 (Or.inl ne108)) (Or.inl ne108)
  have F165 := Fld.other W158 (Fld.other W140 (Fld.other W127 F122 (Or.inr (slot_ne (Or.inl (wk hw 185 rfl)) (Or.inl (wk hw 189 rfl)) (by decide) (t := .int) (t' := .int) (by decide) (by decide)))) (Or.inl ne108)) (Or.inl ne108)
  have F166 := Fld.other W158 F154 (Or.inl ne108)
  refine W.virtual X158 hx hZ hown (wk hw 324 rfl) (wk hw 325 rfl) (notFace_of_selects (args := #[]) (mvT hZ (wk hw 327 rfl))) (wk hw 327 rfl) (wk hw 326 rfl) (wk hw 178 rfl) (wk hw 328 rfl) (by decide) (xMutabl_normalize1 l Z a0 hw SS ix a2 b106 k106 h158 n0 O160 F163 F164 F165 F166 F159 hcl g_a2) e158 F163 (by rw [hml]; rfl) (argsL := []) (rest := []) rfl (lenOf pd___V rfl) rfl (W := 0) (Nat.le_of_eq rfl) (hc hby D40 145 rfl) (by decide) (by decide) (by decide) (by decide) (fun T167 h167 v167 L167 X167 e167 q167 => ?_)
  obtain ⟨rfl, N167q, r167_0, r167_1, r167_2, r167_3, r167_4⟩ := q167
  have N168 := Fr.app N162 N167q
  have O169 := Old.keep O160 r167_0 (allS g_a2 all0)
  have K170 : Keep h0 h167 [a2] := Keep.trans K161 r167_0 (allS (Or.inl (List.mem_of_getElem? (i := 0) rfl)) all0)
  refine W.iload X167 hx (hc hby D40 146 rfl) rfl ?_
  refine W.ifNo X167 hx (hc hby D40 147 rfl) (by decide) ?_
  refine W.iload X167 hx (hc hby D40 148 rfl) rfl ?_
  refine W.iloadN X167 hx (hc hby D40 149 rfl) rfl ?_
  refine Win.to T167 (mkF m 328 #[.val (.ref a1), .val (.int (1000000000 : Int32)), .val (.ref a2), .val (.long (1000000000 : Int64)), .second, .val (.int (2 : Int32)), .val (.int (0 : Int32)), .val (.long (0 : Int64)), .second, .val (.int (0 : Int32)), .val (.long (vJ ix [8000000000, 8000000000, 8000000000, 16000000000, 32000000000, 60000000000])), .second, .val (.int (vI ix [2, 4, 8, 16, 32, 60])), .unset, .unset] [(.int (0 : Int32))]) (fun _ k => Jvm.RoadKit.iremM X167 hx rfl (hc hby D40 150 rfl) rfl (by decide) (by rw [show ((0 : Int32) % (1000000000 : Int32)) = (0 : Int32) from by decide]; exact k)) ?_
  have F171 := F159.keep r167_0 (ninS (Ne.symm ne108) nin0)
  exact Win.retI X167 hx hlk hret (hc hby D40 151 rfl) (by decide) (by decide) (by (try rw [e167]); exact ⟨b106, k106, rfl, N168, K170, z111, r167_1, r167_2, F171, r167_3, r167_4⟩)
abbrev R_xMutabl_divideKnuth4 : Room := ⟨2, 3, 6, 41⟩
theorem xMutabl_divideKnuth4 (l : Launch) (Z : State) (a0 : Array Value) (hw : ∀ d ∈ tables_1, d.before a0 Z = true) (SS : Stat Z) (ix : Fin 6) (a1 : Addr) (a2 : Addr) (a3 : Addr) (a4 : Addr) (a5 : Addr) (a6 : Addr) (k_a4 : ClassId) (k_a5 : ClassId) (k_a6 : ClassId) (h0 : Heap) (n0 : Nat) (O0 : Old Z n0 h0) (P0 : Exa Z h0 a1 "java/math/MutableBigInteger") (P1 : Fld Z h0 a1 "java/math/MutableBigInteger" "intLen" "I" (.int (2 : Int32))) (P2 : Fld Z h0 a1 "java/math/MutableBigInteger" "offset" "I" (.int (0 : Int32))) (P3 : Fld Z h0 a1 "java/math/MutableBigInteger" "value" "[I" (.ref a4)) (P4 : Exa Z h0 a2 "java/math/MutableBigInteger") (P5 : Fld Z h0 a2 "java/math/MutableBigInteger" "intLen" "I" (.int (1 : Int32))) (P6 : Fld Z h0 a2 "java/math/MutableBigInteger" "offset" "I" (.int (0 : Int32))) (P7 : Fld Z h0 a2 "java/math/MutableBigInteger" "value" "[I" (.ref a5)) (P8 : Exa Z h0 a3 "java/math/MutableBigInteger") (P9 : Fld Z h0 a3 "java/math/MutableBigInteger" "intLen" "I" (.int (0 : Int32))) (P10 : Fld Z h0 a3 "java/math/MutableBigInteger" "offset" "I" (.int (0 : Int32))) (P11 : Fld Z h0 a3 "java/math/MutableBigInteger" "value" "[I" (.ref a6)) (P12 : Arv Z h0 a4 k_a4 .int (2 : Int32) [(.int (vI ix [1, 1, 1, 3, 7, 13])), (.int (vI ix [-589934592, -589934592, -589934592, -1179869184, 1935228928, -129542144]))] (.int (0 : Int32))) (P13 : Arv Z h0 a5 k_a5 .int (1 : Int32) [(.int (1000000000 : Int32))] (.int (0 : Int32))) (P14 : Arv Z h0 a6 k_a6 .int (1 : Int32) [(.int (0 : Int32))] (.int (0 : Int32))) (hcl : ¬ ix.val < 2) (ne_a1_a3 : a1 ≠ a3) (ne_a2_a3 : a2 ≠ a3) (ne_a4_a6 : a4 ≠ a6) (ne_a5_a6 : a5 ≠ a6) (g_a3 : n0 ≤ a3) (g_a6 : n0 ≤ a6) :
    MetN l Z (⟨"java/math/MutableBigInteger", "divideKnuth", "(Ljava/math/MutableBigInteger;Ljava/math/MutableBigInteger;Z)Ljava/math/MutableBigInteger;"⟩ : MethodName) jdk_2101_method_57_code 8 (some (.object "java/math/MutableBigInteger")) R_xMutabl_divideKnuth4 [] #[(.ref a1), (.ref a2), (.ref a3), (.int (1 : Int32))] h0 (fun v h L => ∃ (r1 : Addr) (r2 : Addr) (k_r2 : ClassId) (r3 : Addr) (k_r3 : ClassId), v = some (.ref r1) ∧ Fr n0 L ∧ Keep h0 h [a3, a6] ∧ h0.size ≤ r1 ∧ h0.size ≤ r2 ∧ h0.size ≤ r3 ∧ Fld Z h r1 "java/math/MutableBigInteger" "intLen" "I" (.int (0 : Int32)) ∧ Fld Z h r1 "java/math/MutableBigInteger" "offset" "I" (.int (0 : Int32)) ∧ Arv Z h r2 k_r2 .int (1 : Int32) [(.int (0 : Int32))] (.int (0 : Int32)) ∧ Fld Z h r1 "java/math/MutableBigInteger" "value" "[I" (.ref r2) ∧ Exa Z h r1 "java/math/MutableBigInteger" ∧ Fld Z h a3 "java/math/MutableBigInteger" "intLen" "I" (.int (1 : Int32)) ∧ Fld Z h a3 "java/math/MutableBigInteger" "offset" "I" (.int (1 : Int32)) ∧ Arv Z h r3 k_r3 .int (2 : Int32) [(.int (0 : Int32)), (.int (vI ix [2, 4, 8, 16, 32, 60]))] (.int (0 : Int32)) ∧ Fld Z h a3 "java/math/MutableBigInteger" "value" "[I" (.ref r3) ∧ Exa Z h a3 "java/math/MutableBigInteger" ∧ Arv Z h a6 k_a6 .int (1 : Int32) [(.int (0 : Int32))] (.int (0 : Int32)) ∧ (r2 ≠ r3)) := by
  refine MetN.walk (plainFor_of_name pn_37) ?_
  intro p e s m below meth c s₁ hx hZ hby hml hown hnm hret hlk X0 e0
  have N0 := Fr.nil n0
  refine Win.to s₁ (mkF m 0 #[.val (.ref a1), .val (.ref a2), .val (.ref a3), .val (.int (1 : Int32)), .unset, .unset, .unset, .unset] []) (fun _ k => castTop rfl k) ?_
  refine W.aloadN X0 hx (hc hby D37 0 rfl) rfl rfl ?_
  refine W.getF X0 hx hZ hown (host := "") (Or.inl (wk hw 188 rfl)) Via.refl e0 P5 (hc hby D37 1 rfl) (fun T101 X101 e101 => ?_)
  refine W.ifYes X101 hx (hc hby D37 2 rfl) (by decide) (by decide) (pc' := 17) rfl ?_
  refine W.aloadN X101 hx (hc hby D37 3 rfl) rfl rfl ?_
  refine W.getF X101 hx hZ hown (host := "") (Or.inl (wk hw 188 rfl)) Via.refl e101 P1 (hc hby D37 4 rfl) (fun T102 X102 e102 => ?_)
  refine W.ifYes X102 hx (hc hby D37 5 rfl) (by decide) (by decide) (pc' := 50) rfl ?_
  refine W.aloadN X102 hx (hc hby D37 6 rfl) rfl rfl ?_
  refine W.aloadN X102 hx (hc hby D37 7 rfl) rfl rfl ?_
  refine W.virtual X102 hx hZ hown (wk hw 203 rfl) (wk hw 204 rfl) (notFace_of_selects (args := #[]) (mvT hZ (wk hw 206 rfl))) (wk hw 206 rfl) (wk hw 205 rfl) (wk hw 178 rfl) (wk hw 207 rfl) (by decide) (xMutabl_compare2 l Z a0 hw SS ix a1 a2 h0 n0 O0 P1 P5 hcl) e102 P0 (by rw [hml]; rfl) (argsL := [(.ref a2)]) (rest := []) rfl (lenOf pd__Ljava_math_MutableBigInteger__I rfl) rfl (W := 0) (Nat.le_of_eq rfl) (hc hby D37 8 rfl) (by decide) (by decide) (by decide) (by decide) (fun T103 h103 v103 L103 X103 e103 q103 => ?_)
  obtain ⟨rfl, N103q, r103_0⟩ := q103
  have N104 := Fr.app N0 N103q
  have e103 := e103.trans r103_0
  refine W.istore X103 hx (hc hby D37 9 rfl) (l' := #[.val (.ref a1), .val (.ref a2), .val (.ref a3), .val (.int (1 : Int32)), .val (.int (1 : Int32)), .unset, .unset, .unset]) rfl ?_
  refine W.iload X103 hx (hc hby D37 10 rfl) rfl ?_
  refine W.ifYes X103 hx (hc hby D37 11 rfl) (by decide) (by decide) (pc' := 89) rfl ?_
  refine W.iload X103 hx (hc hby D37 12 rfl) rfl ?_
  refine W.ifYes X103 hx (hc hby D37 13 rfl) (by decide) (by decide) (pc' := 127) rfl ?_
  refine W.aloadN X103 hx (hc hby D37 14 rfl) rfl rfl ?_
  have ne106 : a3 ≠ a4 := (Exa.neArv P8 P12 (wk hw 177 rfl))
  have ne107 : a3 ≠ a5 := (Exa.neArv P8 P13 (wk hw 177 rfl))
  have ne108 : a3 ≠ a6 := (Exa.neArv P8 P14 (wk hw 177 rfl))
  have ne109 : a6 ≠ a1 := (Ne.symm (Exa.neArv P0 P14 (wk hw 177 rfl)))
  have ne110 : a6 ≠ a2 := (Ne.symm (Exa.neArv P4 P14 (wk hw 177 rfl)))
  refine W.virtual X103 hx hZ hown (wk hw 209 rfl) (wk hw 210 rfl) (notFace_of_selects (args := #[]) (mvT hZ (wk hw 212 rfl))) (wk hw 212 rfl) (wk hw 211 rfl) (wk hw 178 rfl) (wk hw 213 rfl) (by decide) (xMutabl_clear1 l Z a0 hw SS a3 a6 k_a6 h0 n0 O0 P8 P9 P10 P11 P14 g_a3 g_a6) e103 P8 (by rw [hml]; rfl) (argsL := []) (rest := []) rfl (lenOf pd___V rfl) rfl (W := 0) (Nat.le_of_eq rfl) (hc hby D37 15 rfl) (by decide) (by decide) (by decide) (by decide) (fun T105 h105 v105 L105 X105 e105 q105 => ?_)
  obtain ⟨rfl, N105q, r105_0, r105_1, r105_2, r105_3, r105_4, r105_5⟩ := q105
  have N111 := Fr.app N104 N105q
  have O112 := Old.keep O0 r105_0 (allS g_a3 (allS g_a6 all0))
  have K113 : Keep h0 h105 [a3, a6] := Keep.trans (Keep.refl h0 [a3, a6]) r105_0 (allS (Or.inl (List.mem_of_getElem? (i := 0) rfl)) (allS (Or.inl (List.mem_of_getElem? (i := 1) rfl)) all0))
  refine W.aloadN X105 hx (hc hby D37 16 rfl) rfl rfl ?_
  have F114 := P5.keep r105_0 (ninS ne_a2_a3 (ninS (Ne.symm ne110) nin0))
  refine W.getF X105 hx hZ hown (host := "") (Or.inl (wk hw 188 rfl)) Via.refl e105 F114 (hc hby D37 17 rfl) (fun T115 X115 e115 => ?_)
  refine W.iconst X115 hx (hc hby D37 18 rfl) (v := 1) rfl ?_
  refine W.icmpNo X115 hx (hc hby D37 19 rfl) (by decide) ?_
  refine W.aloadN X115 hx (hc hby D37 20 rfl) rfl rfl ?_
  refine W.aloadN X115 hx (hc hby D37 21 rfl) rfl rfl ?_
  have F116 := P7.keep r105_0 (ninS ne_a2_a3 (ninS (Ne.symm ne110) nin0))
  refine W.getF X115 hx hZ hown (host := "") (Or.inl (wk hw 186 rfl)) Via.refl e115 F116 (hc hby D37 22 rfl) (fun T117 X117 e117 => ?_)
  refine W.aloadN X117 hx (hc hby D37 23 rfl) rfl rfl ?_
  have F118 := P6.keep r105_0 (ninS ne_a2_a3 (ninS (Ne.symm ne110) nin0))
  refine W.getF X117 hx hZ hown (host := "") (Or.inl (wk hw 184 rfl)) Via.refl e117 F118 (hc hby D37 24 rfl) (fun T119 X119 e119 => ?_)
  have F120 := P13.keep r105_0 (ninS (Ne.symm ne107) (ninS ne_a5_a6 nin0))
  obtain ⟨cl121, Ar121, q121, S121, N121, H121, G121⟩ := id F120
  have hi121 : ¬ ((0 : Int32) < 0 ∨ cl121.slots.size ≤ ((0 : Int32)).toNatClampNeg) := inb_of S121 ⟨by decide, by decide⟩
  refine Win.to T119 (mkF m 149 #[.val (.ref a1), .val (.ref a2), .val (.ref a3), .val (.int (1 : Int32)), .val (.int (1 : Int32)), .unset, .unset, .unset] [(.int (1000000000 : Int32)), (.ref a1)]) (fun _ k => X119.iaload hx (j := (0 : Int32)) (v := (.int (1000000000 : Int32))) (by rw [e119]; exact Ar121.1) (State.isArrayOf_alike hZ.alike Ar121.2.1) Ar121.2.2 hi121 (Has.at H121 hi121 rfl) (g := (mkF m 148 #[.val (.ref a1), .val (.ref a2), .val (.ref a3), .val (.int (1 : Int32)), .val (.int (1 : Int32)), .unset, .unset, .unset] [(.int (0 : Int32)), (.ref a5), (.ref a1)])) rfl rfl (hc hby D37 25 rfl) _ k) ?_
  refine W.aloadN X119 hx (hc hby D37 26 rfl) rfl rfl ?_
  have F122 := P1.keep r105_0 (ninS ne_a1_a3 (ninS (Ne.symm ne109) nin0))
  have F123 := P2.keep r105_0 (ninS ne_a1_a3 (ninS (Ne.symm ne109) nin0))
  have F124 := P3.keep r105_0 (ninS ne_a1_a3 (ninS (Ne.symm ne109) nin0))
  have F125 := P12.keep r105_0 (ninS (Ne.symm ne106) (ninS ne_a4_a6 nin0))
  have F127 := P0.keep r105_0
  refine W.virtual X119 hx hZ hown (wk hw 214 rfl) (wk hw 215 rfl) (notFace_of_selects (args := #[]) (mvT hZ (wk hw 217 rfl))) (wk hw 217 rfl) (wk hw 216 rfl) (wk hw 178 rfl) (wk hw 218 rfl) (by decide) (xMutabl_divideOneWord2 l Z a0 hw SS ix a1 a3 a4 a6 k_a4 k_a6 h105 n0 O112 F122 F123 F124 r105_4 r105_1 r105_2 r105_3 F125 r105_5 hcl ne_a1_a3 g_a3) e119 F127 (by rw [hml]; rfl) (argsL := [(.int (1000000000 : Int32)), (.ref a3)]) (rest := []) rfl (lenOf pd__ILjava_math_MutableBigInteger__I rfl) rfl (W := 0) (Nat.le_of_eq rfl) (hc hby D37 27 rfl) (by decide) (by decide) (by decide) (by decide) (fun T126 h126 v126 L126 X126 e126 q126 => ?_)
  obtain ⟨r1_126, k_r1_126, rfl, N126q, r126_0, r126_1, r126_2, r126_3, r126_4, r126_5, r126_6⟩ := q126
  have N128 := Fr.app N111 N126q
  have g129 : n0 ≤ r1_126 := Nat.le_trans (own_le O112) r126_1
  have z130 : h0.size ≤ r1_126 := Nat.le_trans K113.1 r126_1
  have O131 := Old.keep O112 r126_0 (allS g_a3 all0)
  have K132 : Keep h0 h126 [a3, a6] := Keep.trans K113 r126_0 (allS (Or.inl (List.mem_of_getElem? (i := 0) rfl)) all0)
  refine W.istore X126 hx (hc hby D37 28 rfl) (l' := #[.val (.ref a1), .val (.ref a2), .val (.ref a3), .val (.int (1 : Int32)), .val (.int (1 : Int32)), .val (.int (0 : Int32)), .unset, .unset]) rfl ?_
  refine W.iloadN X126 hx (hc hby D37 29 rfl) rfl ?_
  refine W.ifNo X126 hx (hc hby D37 30 rfl) (by decide) ?_
  refine W.iload X126 hx (hc hby D37 31 rfl) rfl ?_
  refine W.ifNo X126 hx (hc hby D37 32 rfl) (by decide) ?_
  obtain ⟨T133, h133, X133, e133, E133, A133, D133, -, st133⟩ := newO X126 hx hZ hown (wk hw 220 rfl) (wk hw 177 rfl) (wk hw 178 rfl) e126 (g := (mkF m 164 #[.val (.ref a1), .val (.ref a2), .val (.ref a3), .val (.int (1 : Int32)), .val (.int (1 : Int32)), .val (.int (0 : Int32)), .unset, .unset] [])) rfl (hc hby D37 33 rfl) (by decide) (by decide)
  obtain ⟨b133, g133⟩ : ∃ z, z = h126.size := ⟨_, rfl⟩
  rw [← g133] at A133 D133 st133
  have ne134 : a3 ≠ b133 := Nat.ne_of_lt (Nat.lt_of_lt_of_le r126_6.lt (Nat.le_of_eq g133.symm))
  have F135 := r105_5.keep r126_0 (ninS (Ne.symm ne108) nin0)
  have ne136 : a6 ≠ b133 := Nat.ne_of_lt (Nat.lt_of_lt_of_le F135.lt (Nat.le_of_eq g133.symm))
  have ne137 : r1_126 ≠ b133 := Nat.ne_of_lt (Nat.lt_of_lt_of_le r126_4.lt (Nat.le_of_eq g133.symm))
  have g138 : n0 ≤ b133 := Nat.le_trans (own_le O131) (Nat.le_of_eq g133.symm)
  have z139 : h0.size ≤ b133 := Nat.le_trans K132.1 (Nat.le_of_eq g133.symm)
  have O140 := Old.ext O131 E133
  have K141 : Keep h0 h133 [a3, a6] := K132.ext E133
  have F142 : Fld Z h133 b133 "java/math/MutableBigInteger" "offset" "I" (.int (0 : Int32)) := D133 (Or.inl (wk hw 185 rfl)) (ty := .int) (by decide)
  have F143 : Fld Z h133 b133 "java/math/MutableBigInteger" "value" "[I" .null := D133 (Or.inl (wk hw 187 rfl)) (ty := (.array .int)) (by decide)
  have F144 : Fld Z h133 b133 "java/math/MutableBigInteger" "intLen" "I" (.int (0 : Int32)) := D133 (Or.inl (wk hw 189 rfl)) (ty := .int) (by decide)
  refine Win.to T133 (mkF m 167 #[.val (.ref a1), .val (.ref a2), .val (.ref a3), .val (.int (1 : Int32)), .val (.int (1 : Int32)), .val (.int (0 : Int32)), .unset, .unset] [(.ref b133)]) (fun _ k => st133 _ k) ?_
  refine W.dup X133 hx (hc hby D37 34 rfl) rfl ?_
  refine W.special X133 hx hZ rfl hown (wk hw 221 rfl) (wk hw 180 rfl) (wk hw 178 rfl) (wk hw 182 rfl) (by decide) (xMutabl_init1 l Z a0 hw SS b133 h133 n0 O140 A133 F144 F142 F143 g138) e133 (by rw [hml]; rfl) (a := b133) (argsL := []) (rest := [(.ref b133)]) rfl (lenOf pd___V rfl) rfl (W := 1) (Nat.le_of_eq rfl) (hc hby D37 35 rfl) (by decide) (by decide) (by decide) (by decide) (fun T145 h145 v145 L145 X145 e145 q145 => ?_)
  obtain ⟨r1_145, k_r1_145, rfl, N145q, r145_0, r145_1, r145_2, r145_3, r145_4, r145_5, r145_6⟩ := q145
  have N146 := Fr.app N128 N145q
  have F147 := r126_4.ext E133
  have ne148 : r1_126 ≠ r1_145 := Nat.ne_of_lt (Nat.lt_of_lt_of_le F147.lt r145_1)
  have g149 : n0 ≤ r1_145 := Nat.le_trans (own_le O140) r145_1
  have z150 : h0.size ≤ r1_145 := Nat.le_trans K141.1 r145_1
  have O151 := Old.keep O140 r145_0 (allS g138 all0)
  have K152 : Keep h0 h145 [a3, a6] := Keep.trans K141 r145_0 (allS (Or.inr z139) all0)
  have F153 := (Fld.ext E133 r126_2).keep r145_0 (ninS ne134 nin0)
  have F154 := (Fld.ext E133 r126_3).keep r145_0 (ninS ne134 nin0)
  have F155 := F147.keep r145_0 (ninS ne137 nin0)
  have F156 := (Fld.ext E133 r126_5).keep r145_0 (ninS ne134 nin0)
  have F157 := (Exa.ext E133 r126_6).keep r145_0
  have F158 := (F135.ext E133).keep r145_0 (ninS ne136 nin0)
  exact Win.retA X145 hx hlk hret rfl rfl (hc hby D37 36 rfl) (by decide) (by decide) (by (try rw [e145]); exact ⟨b133, r1_145, k_r1_145, r1_126, k_r1_126, rfl, N146, K152, z139, z150, z130, r145_2, r145_3, r145_4, r145_5, r145_6, F153, F154, F155, F156, F157, F158, (Ne.symm ne148)⟩)
abbrev R_xMutabl_divideKnuth3 : Room := ⟨3, 3, 6, 60⟩
theorem xMutabl_divideKnuth3 (l : Launch) (Z : State) (a0 : Array Value) (hw : ∀ d ∈ tables_1, d.before a0 Z = true) (SS : Stat Z) (ix : Fin 6) (a1 : Addr) (a2 : Addr) (a3 : Addr) (a4 : Addr) (a5 : Addr) (a6 : Addr) (k_a4 : ClassId) (k_a5 : ClassId) (k_a6 : ClassId) (h0 : Heap) (n0 : Nat) (O0 : Old Z n0 h0) (P0 : Exa Z h0 a1 "java/math/MutableBigInteger") (P1 : Fld Z h0 a1 "java/math/MutableBigInteger" "intLen" "I" (.int (2 : Int32))) (P2 : Fld Z h0 a1 "java/math/MutableBigInteger" "offset" "I" (.int (0 : Int32))) (P3 : Fld Z h0 a1 "java/math/MutableBigInteger" "value" "[I" (.ref a4)) (P4 : Exa Z h0 a2 "java/math/MutableBigInteger") (P5 : Fld Z h0 a2 "java/math/MutableBigInteger" "intLen" "I" (.int (1 : Int32))) (P6 : Fld Z h0 a2 "java/math/MutableBigInteger" "offset" "I" (.int (0 : Int32))) (P7 : Fld Z h0 a2 "java/math/MutableBigInteger" "value" "[I" (.ref a5)) (P8 : Exa Z h0 a3 "java/math/MutableBigInteger") (P9 : Fld Z h0 a3 "java/math/MutableBigInteger" "intLen" "I" (.int (0 : Int32))) (P10 : Fld Z h0 a3 "java/math/MutableBigInteger" "offset" "I" (.int (0 : Int32))) (P11 : Fld Z h0 a3 "java/math/MutableBigInteger" "value" "[I" (.ref a6)) (P12 : Arv Z h0 a4 k_a4 .int (2 : Int32) [(.int (vI ix [1, 1, 1, 3, 7, 13])), (.int (vI ix [-589934592, -589934592, -589934592, -1179869184, 1935228928, -129542144]))] (.int (0 : Int32))) (P13 : Arv Z h0 a5 k_a5 .int (1 : Int32) [(.int (1000000000 : Int32))] (.int (0 : Int32))) (P14 : Arv Z h0 a6 k_a6 .int (1 : Int32) [(.int (0 : Int32))] (.int (0 : Int32))) (hcl : ¬ ix.val < 2) (ne_a1_a3 : a1 ≠ a3) (ne_a2_a3 : a2 ≠ a3) (ne_a4_a6 : a4 ≠ a6) (ne_a5_a6 : a5 ≠ a6) (g_a3 : n0 ≤ a3) (g_a6 : n0 ≤ a6) :
    MetN l Z (⟨"java/math/MutableBigInteger", "divideKnuth", "(Ljava/math/MutableBigInteger;Ljava/math/MutableBigInteger;)Ljava/math/MutableBigInteger;"⟩ : MethodName) jdk_2101_method_56_code 3 (some (.object "java/math/MutableBigInteger")) R_xMutabl_divideKnuth3 [] #[(.ref a1), (.ref a2), (.ref a3)] h0 (fun v h L => ∃ (r1 : Addr) (r2 : Addr) (k_r2 : ClassId) (r3 : Addr) (k_r3 : ClassId), v = some (.ref r1) ∧ Fr n0 L ∧ Keep h0 h [a3, a6] ∧ h0.size ≤ r1 ∧ h0.size ≤ r2 ∧ h0.size ≤ r3 ∧ Fld Z h r1 "java/math/MutableBigInteger" "intLen" "I" (.int (0 : Int32)) ∧ Fld Z h r1 "java/math/MutableBigInteger" "offset" "I" (.int (0 : Int32)) ∧ Arv Z h r2 k_r2 .int (1 : Int32) [(.int (0 : Int32))] (.int (0 : Int32)) ∧ Fld Z h r1 "java/math/MutableBigInteger" "value" "[I" (.ref r2) ∧ Exa Z h r1 "java/math/MutableBigInteger" ∧ Fld Z h a3 "java/math/MutableBigInteger" "intLen" "I" (.int (1 : Int32)) ∧ Fld Z h a3 "java/math/MutableBigInteger" "offset" "I" (.int (1 : Int32)) ∧ Arv Z h r3 k_r3 .int (2 : Int32) [(.int (0 : Int32)), (.int (vI ix [2, 4, 8, 16, 32, 60]))] (.int (0 : Int32)) ∧ Fld Z h a3 "java/math/MutableBigInteger" "value" "[I" (.ref r3) ∧ Exa Z h a3 "java/math/MutableBigInteger" ∧ Arv Z h a6 k_a6 .int (1 : Int32) [(.int (0 : Int32))] (.int (0 : Int32)) ∧ (r2 ≠ r3)) := by
  refine MetN.walk (plainFor_of_name pn_36) ?_
  intro p e s m below meth c s₁ hx hZ hby hml hown hnm hret hlk X0 e0
  have N0 := Fr.nil n0
  refine Win.to s₁ (mkF m 0 #[.val (.ref a1), .val (.ref a2), .val (.ref a3)] []) (fun _ k => castTop rfl k) ?_
  refine W.aloadN X0 hx (hc hby D36 0 rfl) rfl rfl ?_
  refine W.aloadN X0 hx (hc hby D36 1 rfl) rfl rfl ?_
  refine W.aloadN X0 hx (hc hby D36 2 rfl) rfl rfl ?_
  refine W.iconst X0 hx (hc hby D36 3 rfl) (v := 1) rfl ?_
  refine W.virtual X0 hx hZ hown (wk hw 198 rfl) (wk hw 199 rfl) (notFace_of_selects (args := #[]) (mvT hZ (wk hw 201 rfl))) (wk hw 201 rfl) (wk hw 200 rfl) (wk hw 178 rfl) (wk hw 202 rfl) (by decide) (xMutabl_divideKnuth4 l Z a0 hw SS ix a1 a2 a3 a4 a5 a6 k_a4 k_a5 k_a6 h0 n0 O0 P0 P1 P2 P3 P4 P5 P6 P7 P8 P9 P10 P11 P12 P13 P14 hcl ne_a1_a3 ne_a2_a3 ne_a4_a6 ne_a5_a6 g_a3 g_a6) e0 P0 (by rw [hml]; rfl) (argsL := [(.ref a2), (.ref a3), (.int (1 : Int32))]) (rest := []) rfl (lenOf pd__Ljava_math_MutableBigInteger_Ljava_math_MutableBigInteger_Z_Ljava_math_MutableBigInteger_ rfl) rfl (W := 0) (Nat.le_of_eq rfl) (hc hby D36 4 rfl) (by decide) (by decide) (by decide) (by decide) (fun T101 h101 v101 L101 X101 e101 q101 => ?_)
  obtain ⟨r1_101, r2_101, k_r2_101, r3_101, k_r3_101, rfl, N101q, r101_0, r101_1, r101_2, r101_3, r101_4, r101_5, r101_6, r101_7, r101_8, r101_9, r101_10, r101_11, r101_12, r101_13, r101_14, r101_15⟩ := q101
  have N102 := Fr.app N0 N101q
  have g103 : n0 ≤ r1_101 := Nat.le_trans (own_le O0) r101_1
  have z104 : h0.size ≤ r1_101 := r101_1
  have g105 : n0 ≤ r2_101 := Nat.le_trans (own_le O0) r101_2
  have z106 : h0.size ≤ r2_101 := r101_2
  have g107 : n0 ≤ r3_101 := Nat.le_trans (own_le O0) r101_3
  have z108 : h0.size ≤ r3_101 := r101_3
  have O109 := Old.keep O0 r101_0 (allS g_a3 (allS g_a6 all0))
  have K110 : Keep h0 h101 [a3, a6] := Keep.trans (Keep.refl h0 [a3, a6]) r101_0 (allS (Or.inl (List.mem_of_getElem? (i := 0) rfl)) (allS (Or.inl (List.mem_of_getElem? (i := 1) rfl)) all0))
  exact Win.retA X101 hx hlk hret rfl rfl (hc hby D36 5 rfl) (by decide) (by decide) (by (try rw [e101]); exact ⟨r1_101, r2_101, k_r2_101, r3_101, k_r3_101, rfl, N102, K110, z104, z106, z108, r101_4, r101_5, r101_6, r101_7, r101_8, r101_9, r101_10, r101_11, r101_12, r101_13, r101_14, r101_15⟩)
abbrev R_xArrays_checkLength1 : Room := ⟨0, 0, 0, 0⟩
theorem xArrays_checkLength1 (l : Launch) (Z : State) (a0 : Array Value) (hw : ∀ d ∈ tables_1, d.before a0 Z = true) (SS : Stat Z) (h0 : Heap) (n0 : Nat) (O0 : Old Z n0 h0)  :
    MetN l Z (⟨"java/util/Arrays", "checkLength", "(II)V"⟩ : MethodName) jdk_65_method_131_code 2 none R_xArrays_checkLength1 [] #[(.int (1 : Int32)), (.int (2 : Int32))] h0 (fun v h L => v = none ∧ Fr n0 L ∧ h = h0) := by
  refine MetN.walk (plainFor_of_name pn_65) ?_
  intro p e s m below meth c s₁ hx hZ hby hml hown hnm hret hlk X0 e0
  have N0 := Fr.nil n0
  refine Win.to s₁ (mkF m 0 #[.val (.int (1 : Int32)), .val (.int (2 : Int32))] []) (fun _ k => castTop rfl k) ?_
  refine W.iloadN X0 hx (hc hby D65 0 rfl) rfl ?_
  refine W.iloadN X0 hx (hc hby D65 1 rfl) rfl ?_
  refine W.icmpYes X0 hx (hc hby D65 2 rfl) (by decide) (by decide) (pc' := 37) rfl ?_
  exact Win.retV X0 hx hlk hret (hc hby D65 3 rfl) (by decide) (by decide) (by (try rw [e0]); exact ⟨rfl, N0, rfl⟩)
abbrev R_xMath_min1 : Room := ⟨0, 0, 0, 0⟩
theorem xMath_min1 (l : Launch) (Z : State) (a0 : Array Value) (hw : ∀ d ∈ tables_1, d.before a0 Z = true) (SS : Stat Z) (h0 : Heap) (n0 : Nat) (O0 : Old Z n0 h0)  :
    MetN l Z (⟨"java/lang/Math", "min", "(II)I"⟩ : MethodName) jdk_29_method_69_code 2 (some .int) R_xMath_min1 [] #[(.int (1 : Int32)), (.int (1 : Int32))] h0 (fun v h L => v = some (.int (1 : Int32)) ∧ Fr n0 L ∧ h = h0) := by
  refine MetN.walk (Jvm.Free.JP.mathPlain rfl (by decide +kernel)) ?_
  intro p e s m below meth c s₁ hx hZ hby hml hown hnm hret hlk X0 e0
  have N0 := Fr.nil n0
  refine Win.to s₁ (mkF m 0 #[.val (.int (1 : Int32)), .val (.int (1 : Int32))] []) (fun _ k => castTop rfl k) ?_
  refine W.iloadN X0 hx (hc hby D66 0 rfl) rfl ?_
  refine W.iloadN X0 hx (hc hby D66 1 rfl) rfl ?_
  refine W.icmpNo X0 hx (hc hby D66 2 rfl) (by decide) ?_
  refine W.iloadN X0 hx (hc hby D66 3 rfl) rfl ?_
  refine W.goto X0 hx (hc hby D66 4 rfl) (by decide) (pc' := 10) rfl ?_
  exact Win.retI X0 hx hlk hret (hc hby D66 5 rfl) (by decide) (by decide) (by (try rw [e0]); exact ⟨rfl, N0, rfl⟩)
abbrev R_xArrays_copyOfRangeInt1 : Room := ⟨1, 1, 1, 18⟩
theorem xArrays_copyOfRangeInt1 (l : Launch) (Z : State) (a0 : Array Value) (hw : ∀ d ∈ tables_1, d.before a0 Z = true) (SS : Stat Z) (ix : Fin 6) (a1 : Addr) (k_a1 : ClassId) (h0 : Heap) (n0 : Nat) (O0 : Old Z n0 h0) (P0 : Arv Z h0 a1 k_a1 .int (2 : Int32) [(.int (0 : Int32)), (.int (vI ix [2, 4, 8, 16, 32, 60]))] (.int (0 : Int32))) (hcl : ¬ ix.val < 2) :
    MetN l Z (⟨"java/util/Arrays", "copyOfRangeInt", "([III)[I"⟩ : MethodName) jdk_65_method_137_code 5 (some (.array .int)) R_xArrays_copyOfRangeInt1 [] #[(.ref a1), (.int (1 : Int32)), (.int (2 : Int32))] h0 (fun v h L => ∃ (r1 : Addr) (k_r1 : ClassId), v = some (.ref r1) ∧ Fr n0 L ∧ Keep h0 h [] ∧ h0.size ≤ r1 ∧ Arv Z h r1 k_r1 .int (1 : Int32) [(.int (vI ix [2, 4, 8, 16, 32, 60]))] (.int (0 : Int32))) := by
  refine MetN.walk (plainFor_of_name pn_64) ?_
  intro p e s m below meth c s₁ hx hZ hby hml hown hnm hret hlk X0 e0
  have N0 := Fr.nil n0
  refine Win.to s₁ (mkF m 0 #[.val (.ref a1), .val (.int (1 : Int32)), .val (.int (2 : Int32)), .unset, .unset] []) (fun _ k => castTop rfl k) ?_
  refine W.iloadN X0 hx (hc hby D64 0 rfl) rfl ?_
  refine W.iloadN X0 hx (hc hby D64 1 rfl) rfl ?_
  refine W.static X0 hx hZ hown (wk hw 336 rfl) (wk hw 337 rfl) (wk hw 331 rfl) (wk hw 338 rfl) (by decide) (xArrays_checkLength1 l Z a0 hw SS h0 n0 O0 ) e0 (by rw [hml]; rfl) (argsL := [(.int (1 : Int32)), (.int (2 : Int32))]) (rest := []) rfl (lenOf pd__II_V rfl) rfl (W := 0) (Nat.le_of_eq rfl) (hc hby D64 2 rfl) (by decide) (by decide) (by decide) (by decide) (fun T101 h101 v101 L101 X101 e101 q101 => ?_)
  obtain ⟨rfl, N101q, r101_0⟩ := q101
  have N102 := Fr.app N0 N101q
  have e101 := e101.trans r101_0
  refine W.iloadN X101 hx (hc hby D64 3 rfl) rfl ?_
  refine W.iloadN X101 hx (hc hby D64 4 rfl) rfl ?_
  refine W.isub X101 hx (hc hby D64 5 rfl) (v := (1 : Int32)) (by decide) ?_
  refine W.istoreN X101 hx (hc hby D64 6 rfl) (l' := #[.val (.ref a1), .val (.int (1 : Int32)), .val (.int (2 : Int32)), .val (.int (1 : Int32)), .unset]) rfl ?_
  refine W.iloadN X101 hx (hc hby D64 7 rfl) rfl ?_
  obtain ⟨T103, h103, k103, X103, e103, E103, A103, st103⟩ := newP X101 hx hZ (wk hw 161 rfl) e101 (g := (mkF m 10 #[.val (.ref a1), .val (.int (1 : Int32)), .val (.int (2 : Int32)), .val (.int (1 : Int32)), .unset] [(.int (1 : Int32))])) rfl (hc hby D64 8 rfl) rfl (by decide) (cap := 1) (by decide) (by decide) (by decide) (by decide)
  obtain ⟨b103, g103⟩ : ∃ z, z = h0.size := ⟨_, rfl⟩
  rw [← g103] at A103 st103
  have g104 : n0 ≤ b103 := Nat.le_trans (own_le O0) (Nat.le_of_eq g103.symm)
  have z105 : h0.size ≤ b103 := (Nat.le_of_eq g103.symm)
  have O106 := Old.ext O0 E103
  have K107 : Keep h0 h103 [] := (Keep.refl h0 []).ext E103
  have F108 : Arv Z h103 b103 k103 .int (1 : Int32) [(.int (0 : Int32))] (.int (0 : Int32)) := (Arv.new A103 (by decide)).pad (pad_rep [] (.int (0 : Int32)) 1)
  refine Win.to T103 (mkF m 12 #[.val (.ref a1), .val (.int (1 : Int32)), .val (.int (2 : Int32)), .val (.int (1 : Int32)), .unset] [(.ref b103)]) (fun _ k => st103 _ k) ?_
  refine W.astore X103 hx (hc hby D64 9 rfl) rfl (l' := #[.val (.ref a1), .val (.int (1 : Int32)), .val (.int (2 : Int32)), .val (.int (1 : Int32)), .val (.ref b103)]) rfl ?_
  refine W.aloadN X103 hx (hc hby D64 10 rfl) rfl rfl ?_
  refine W.iloadN X103 hx (hc hby D64 11 rfl) rfl ?_
  refine W.aload X103 hx (hc hby D64 12 rfl) rfl rfl ?_
  refine W.iconst X103 hx (hc hby D64 13 rfl) (v := 0) rfl ?_
  refine W.aloadN X103 hx (hc hby D64 14 rfl) rfl rfl ?_
  have F109 := P0.ext E103
  obtain ⟨cl110, Ar110, -, S110, N110, -, -⟩ := id F109
  refine Win.to T103 (mkF m 21 #[.val (.ref a1), .val (.int (1 : Int32)), .val (.int (2 : Int32)), .val (.int (1 : Int32)), .val (.ref b103)] [(.int (2 : Int32)), (.int (0 : Int32)), (.ref b103), (.int (1 : Int32)), (.ref a1)]) (fun _ k => X103.arraylength hx (by rw [e103]; exact Ar110.1) (State.isArrayOf_alike hZ.alike Ar110.2.1) (g := (mkF m 20 #[.val (.ref a1), .val (.int (1 : Int32)), .val (.int (2 : Int32)), .val (.int (1 : Int32)), .val (.ref b103)] [(.ref a1), (.int (0 : Int32)), (.ref b103), (.int (1 : Int32)), (.ref a1)])) rfl rfl (hc hby D64 15 rfl) _ (by rw [len_of S110 N110]; exact k)) ?_
  refine W.iloadN X103 hx (hc hby D64 16 rfl) rfl ?_
  refine W.isub X103 hx (hc hby D64 17 rfl) (v := (1 : Int32)) (by decide) ?_
  refine W.iloadN X103 hx (hc hby D64 18 rfl) rfl ?_
  refine W.static X103 hx hZ hown (wk hw 339 rfl) (wk hw 340 rfl) (wk hw 121 rfl) (wk hw 341 rfl) (by decide) (xMath_min1 l Z a0 hw SS h103 n0 O106 ) e103 (by rw [hml]; rfl) (argsL := [(.int (1 : Int32)), (.int (1 : Int32))]) (rest := [(.int (0 : Int32)), (.ref b103), (.int (1 : Int32)), (.ref a1)]) rfl (lenOf pd__II_I rfl) rfl (W := 4) (Nat.le_of_eq rfl) (hc hby D64 19 rfl) (by decide) (by decide) (by decide) (by decide) (fun T111 h111 v111 L111 X111 e111 q111 => ?_)
  obtain ⟨rfl, N111q, r111_0⟩ := q111
  have N112 := Fr.app N102 N111q
  have e111 := e111.trans r111_0
  obtain ⟨T113, h113, L113, X113, e113, N113, Kc113, Ac113, st113⟩ := cpA X111 hx hZ hown (wk hw 342 rfl) (wk hw 345 rfl) (wk hw 343 rfl) (wk hw 344 rfl) e111 F109 F108 (Or.inl ⟨rfl, rfl⟩) (sp := (1 : Int32)) (dp := (0 : Int32)) (nn := (1 : Int32)) (by decide) (by decide) (by decide) (by decide) (by decide) rfl (by decide) N112 g104 (g := (mkF m 27 #[.val (.ref a1), .val (.int (1 : Int32)), .val (.int (2 : Int32)), .val (.int (1 : Int32)), .val (.ref b103)] [(.int (1 : Int32)), (.int (0 : Int32)), (.ref b103), (.int (1 : Int32)), (.ref a1)])) rfl (by rw [hml]; rfl) (rest := []) rfl (hc hby D64 20 rfl) (by decide) (W := 0) (by show 2 * 0 + _ ≤ _; exact Nat.le_of_eq rfl) (by decide)
  have O115 := Old.keep O106 Kc113 (allS g104 all0)
  have K116 : Keep h0 h113 [] := Keep.trans K107 Kc113 (allS (Or.inr z105) all0)
  have F114 : Arv Z h113 b103 k103 .int (1 : Int32) [(.int (vI ix [2, 4, 8, 16, 32, 60]))] (.int (0 : Int32)) := Ac113
  refine Win.to T113 (mkF m 30 #[.val (.ref a1), .val (.int (1 : Int32)), .val (.int (2 : Int32)), .val (.int (1 : Int32)), .val (.ref b103)] []) (fun _ k => st113 _ k) ?_
  refine W.aload X113 hx (hc hby D64 21 rfl) rfl rfl ?_
  exact Win.retA X113 hx hlk hret rfl rfl (hc hby D64 22 rfl) (by decide) (by decide) (by (try rw [e113]); exact ⟨b103, k103, rfl, N113, K116, z105, F114⟩)
abbrev R_xArrays_copyOfRange1 : Room := ⟨2, 1, 1, 34⟩
theorem xArrays_copyOfRange1 (l : Launch) (Z : State) (a0 : Array Value) (hw : ∀ d ∈ tables_1, d.before a0 Z = true) (SS : Stat Z) (ix : Fin 6) (a1 : Addr) (k_a1 : ClassId) (h0 : Heap) (n0 : Nat) (O0 : Old Z n0 h0) (P0 : Arv Z h0 a1 k_a1 .int (2 : Int32) [(.int (0 : Int32)), (.int (vI ix [2, 4, 8, 16, 32, 60]))] (.int (0 : Int32))) (hcl : ¬ ix.val < 2) :
    MetN l Z (⟨"java/util/Arrays", "copyOfRange", "([III)[I"⟩ : MethodName) jdk_65_method_136_code 3 (some (.array .int)) R_xArrays_copyOfRange1 [] #[(.ref a1), (.int (1 : Int32)), (.int (2 : Int32))] h0 (fun v h L => ∃ (r1 : Addr) (k_r1 : ClassId), v = some (.ref r1) ∧ Fr n0 L ∧ Keep h0 h [] ∧ h0.size ≤ r1 ∧ Arv Z h r1 k_r1 .int (1 : Int32) [(.int (vI ix [2, 4, 8, 16, 32, 60]))] (.int (0 : Int32))) := by
  refine MetN.walk (plainFor_of_name pn_63) ?_
  intro p e s m below meth c s₁ hx hZ hby hml hown hnm hret hlk X0 e0
  have N0 := Fr.nil n0
  refine Win.to s₁ (mkF m 0 #[.val (.ref a1), .val (.int (1 : Int32)), .val (.int (2 : Int32))] []) (fun _ k => castTop rfl k) ?_
  refine W.iloadN X0 hx (hc hby D63 0 rfl) rfl ?_
  refine W.ifYes X0 hx (hc hby D63 1 rfl) (by decide) (by decide) (pc' := 10) rfl ?_
  refine W.aloadN X0 hx (hc hby D63 2 rfl) rfl rfl ?_
  refine W.iloadN X0 hx (hc hby D63 3 rfl) rfl ?_
  refine W.iloadN X0 hx (hc hby D63 4 rfl) rfl ?_
  refine W.static X0 hx hZ hown (wk hw 333 rfl) (wk hw 334 rfl) (wk hw 331 rfl) (wk hw 335 rfl) (by decide) (xArrays_copyOfRangeInt1 l Z a0 hw SS ix a1 k_a1 h0 n0 O0 P0 hcl) e0 (by rw [hml]; rfl) (argsL := [(.ref a1), (.int (1 : Int32)), (.int (2 : Int32))]) (rest := []) rfl (lenOf pd___III__I rfl) rfl (W := 0) (Nat.le_of_eq rfl) (hc hby D63 5 rfl) (by decide) (by decide) (by decide) (by decide) (fun T101 h101 v101 L101 X101 e101 q101 => ?_)
  obtain ⟨r1_101, k_r1_101, rfl, N101q, r101_0, r101_1, r101_2⟩ := q101
  have N102 := Fr.app N0 N101q
  have g103 : n0 ≤ r1_101 := Nat.le_trans (own_le O0) r101_1
  have z104 : h0.size ≤ r1_101 := r101_1
  have O105 := Old.keep O0 r101_0 all0
  have K106 : Keep h0 h101 [] := Keep.trans (Keep.refl h0 []) r101_0 all0
  exact Win.retA X101 hx hlk hret rfl rfl (hc hby D63 6 rfl) (by decide) (by decide) (by (try rw [e101]); exact ⟨r1_101, k_r1_101, rfl, N102, K106, z104, r101_2⟩)
abbrev R_xArrays_fill1 : Room := ⟨0, 0, 0, 0⟩
theorem xArrays_fill1 (l : Launch) (Z : State) (a0 : Array Value) (hw : ∀ d ∈ tables_1, d.before a0 Z = true) (SS : Stat Z) (ix : Fin 6) (a1 : Addr) (k_a1 : ClassId) (h0 : Heap) (n0 : Nat) (O0 : Old Z n0 h0) (P0 : Arv Z h0 a1 k_a1 .int (2 : Int32) [(.int (0 : Int32)), (.int (vI ix [2, 4, 8, 16, 32, 60]))] (.int (0 : Int32))) (hcl : ¬ ix.val < 2) (g_a1 : n0 ≤ a1) :
    MetN l Z (⟨"java/util/Arrays", "fill", "([II)V"⟩ : MethodName) jdk_65_method_103_code 4 none R_xArrays_fill1 [] #[(.ref a1), (.int (0 : Int32))] h0 (fun v h L => v = none ∧ Fr n0 L ∧ Keep h0 h [a1] ∧ Arv Z h a1 k_a1 .int (2 : Int32) [(.int (0 : Int32)), (.int (0 : Int32))] (.int (0 : Int32))) := by
  refine MetN.walk (plainFor_of_name pn_67) ?_
  intro p e s m below meth c s₁ hx hZ hby hml hown hnm hret hlk X0 e0
  have N0 := Fr.nil n0
  refine Win.to s₁ (mkF m 0 #[.val (.ref a1), .val (.int (0 : Int32)), .unset, .unset] []) (fun _ k => castTop rfl k) ?_
  refine W.iconst X0 hx (hc hby D67 0 rfl) (v := 0) rfl ?_
  refine W.istoreN X0 hx (hc hby D67 1 rfl) (l' := #[.val (.ref a1), .val (.int (0 : Int32)), .val (.int (0 : Int32)), .unset]) rfl ?_
  refine W.aloadN X0 hx (hc hby D67 2 rfl) rfl rfl ?_
  obtain ⟨cl101, Ar101, -, S101, N101, -, -⟩ := id P0
  refine Win.to s₁ (mkF m 4 #[.val (.ref a1), .val (.int (0 : Int32)), .val (.int (0 : Int32)), .unset] [(.int (2 : Int32))]) (fun _ k => X0.arraylength hx (by rw [e0]; exact Ar101.1) (State.isArrayOf_alike hZ.alike Ar101.2.1) (g := (mkF m 3 #[.val (.ref a1), .val (.int (0 : Int32)), .val (.int (0 : Int32)), .unset] [(.ref a1)])) rfl rfl (hc hby D67 3 rfl) _ (by rw [len_of S101 N101]; exact k)) ?_
  refine W.istoreN X0 hx (hc hby D67 4 rfl) (l' := #[.val (.ref a1), .val (.int (0 : Int32)), .val (.int (0 : Int32)), .val (.int (2 : Int32))]) rfl ?_
  refine W.iloadN X0 hx (hc hby D67 5 rfl) rfl ?_
  refine W.iloadN X0 hx (hc hby D67 6 rfl) rfl ?_
  refine W.icmpNo X0 hx (hc hby D67 7 rfl) (by decide) ?_
  refine W.aloadN X0 hx (hc hby D67 8 rfl) rfl rfl ?_
  refine W.iloadN X0 hx (hc hby D67 9 rfl) rfl ?_
  refine W.iloadN X0 hx (hc hby D67 10 rfl) rfl ?_
  obtain ⟨cl102, Ar102, q102, S102, N102, H102, G102⟩ := id P0
  have hi102 : ¬ ((0 : Int32) < 0 ∨ cl102.slots.size ≤ ((0 : Int32)).toNatClampNeg) := inb_of S102 ⟨by decide, by decide⟩
  obtain ⟨T103, h103, X103, e103, W103, st103⟩ := stI X0 hx hZ e0 Ar102 (j := (0 : Int32)) hi102 (g := (mkF m 13 #[.val (.ref a1), .val (.int (0 : Int32)), .val (.int (0 : Int32)), .val (.int (2 : Int32))] [(.int (0 : Int32)), (.int (0 : Int32)), (.ref a1)])) rfl rfl (hc hby D67 11 rfl)
  have O105 := Old.wr O0 W103 g_a1
  have K106 : Keep h0 h103 [a1] := (Keep.refl h0 [a1]).wr W103 (Or.inl (List.mem_of_getElem? (i := 0) rfl))
  have N107 := Fr.snoc X103 N0 g_a1
  have F104 : Arv Z h103 a1 k_a1 .int (2 : Int32) [(.int (0 : Int32)), (.int (vI ix [2, 4, 8, 16, 32, 60]))] (.int (0 : Int32)) := Arv.set Ar102 q102 S102 N102 H102 G102 rfl W103 0 rfl (Nat.le_of_ble_eq_true rfl)
  refine Win.to T103 (mkF m 14 #[.val (.ref a1), .val (.int (0 : Int32)), .val (.int (0 : Int32)), .val (.int (2 : Int32))] []) (fun _ k => st103 _ k) ?_
  refine Win.to T103 (mkF m 17 #[.val (.ref a1), .val (.int (0 : Int32)), .val (.int (1 : Int32)), .val (.int (2 : Int32))] []) (fun _ k => XS.iinc X103.here hx rfl (hc hby D67 12 rfl) rfl (l' := #[.val (.ref a1), .val (.int (0 : Int32)), .val (.int (1 : Int32)), .val (.int (2 : Int32))]) rfl k) ?_
  refine W.goto X103 hx (hc hby D67 13 rfl) (by decide) (pc' := 5) rfl ?_
  refine W.iloadN X103 hx (hc hby D67 5 rfl) rfl ?_
  refine W.iloadN X103 hx (hc hby D67 6 rfl) rfl ?_
  refine W.icmpNo X103 hx (hc hby D67 7 rfl) (by decide) ?_
  refine W.aloadN X103 hx (hc hby D67 8 rfl) rfl rfl ?_
  refine W.iloadN X103 hx (hc hby D67 9 rfl) rfl ?_
  refine W.iloadN X103 hx (hc hby D67 10 rfl) rfl ?_
  obtain ⟨cl108, Ar108, q108, S108, N108, H108, G108⟩ := id F104
  have hi108 : ¬ ((1 : Int32) < 0 ∨ cl108.slots.size ≤ ((1 : Int32)).toNatClampNeg) := inb_of S108 ⟨by decide, by decide⟩
  obtain ⟨T109, h109, X109, e109, W109, st109⟩ := stI X103 hx hZ e103 Ar108 (j := (1 : Int32)) hi108 (g := (mkF m 13 #[.val (.ref a1), .val (.int (0 : Int32)), .val (.int (1 : Int32)), .val (.int (2 : Int32))] [(.int (0 : Int32)), (.int (1 : Int32)), (.ref a1)])) rfl rfl (hc hby D67 11 rfl)
  have O111 := Old.wr O105 W109 g_a1
  have K112 : Keep h0 h109 [a1] := K106.wr W109 (Or.inl (List.mem_of_getElem? (i := 0) rfl))
  have N113 := Fr.snoc X109 N107 g_a1
  have F110 : Arv Z h109 a1 k_a1 .int (2 : Int32) [(.int (0 : Int32)), (.int (0 : Int32))] (.int (0 : Int32)) := Arv.set Ar108 q108 S108 N108 H108 G108 rfl W109 1 rfl (Nat.le_of_ble_eq_true rfl)
  refine Win.to T109 (mkF m 14 #[.val (.ref a1), .val (.int (0 : Int32)), .val (.int (1 : Int32)), .val (.int (2 : Int32))] []) (fun _ k => st109 _ k) ?_
  refine Win.to T109 (mkF m 17 #[.val (.ref a1), .val (.int (0 : Int32)), .val (.int (2 : Int32)), .val (.int (2 : Int32))] []) (fun _ k => XS.iinc X109.here hx rfl (hc hby D67 12 rfl) rfl (l' := #[.val (.ref a1), .val (.int (0 : Int32)), .val (.int (2 : Int32)), .val (.int (2 : Int32))]) rfl k) ?_
  refine W.goto X109 hx (hc hby D67 13 rfl) (by decide) (pc' := 5) rfl ?_
  refine W.iloadN X109 hx (hc hby D67 5 rfl) rfl ?_
  refine W.iloadN X109 hx (hc hby D67 6 rfl) rfl ?_
  refine W.icmpYes X109 hx (hc hby D67 7 rfl) (by decide) (by decide) (pc' := 20) rfl ?_
  exact Win.retV X109 hx hlk hret (hc hby D67 14 rfl) (by decide) (by decide) (by (try rw [e109]); exact ⟨rfl, N113, K112, F110⟩)
abbrev R_xMutabl_getMagnitudeArray2 : Room := ⟨3, 1, 1, 48⟩
theorem xMutabl_getMagnitudeArray2 (l : Launch) (Z : State) (a0 : Array Value) (hw : ∀ d ∈ tables_1, d.before a0 Z = true) (SS : Stat Z) (ix : Fin 6) (a1 : Addr) (a2 : Addr) (k_a2 : ClassId) (h0 : Heap) (n0 : Nat) (O0 : Old Z n0 h0) (P0 : Exa Z h0 a1 "java/math/MutableBigInteger") (P1 : Fld Z h0 a1 "java/math/MutableBigInteger" "intLen" "I" (.int (1 : Int32))) (P2 : Fld Z h0 a1 "java/math/MutableBigInteger" "offset" "I" (.int (1 : Int32))) (P3 : Fld Z h0 a1 "java/math/MutableBigInteger" "value" "[I" (.ref a2)) (P4 : Arv Z h0 a2 k_a2 .int (2 : Int32) [(.int (0 : Int32)), (.int (vI ix [2, 4, 8, 16, 32, 60]))] (.int (0 : Int32))) (hcl : ¬ ix.val < 2) (g_a1 : n0 ≤ a1) (g_a2 : n0 ≤ a2) :
    MetN l Z (⟨"java/math/MutableBigInteger", "getMagnitudeArray", "()[I"⟩ : MethodName) jdk_2101_method_7_code 2 (some (.array .int)) R_xMutabl_getMagnitudeArray2 [] #[(.ref a1)] h0 (fun v h L => ∃ (r1 : Addr) (k_r1 : ClassId), v = some (.ref r1) ∧ Fr n0 L ∧ Keep h0 h [a1, a2] ∧ h0.size ≤ r1 ∧ Arv Z h r1 k_r1 .int (1 : Int32) [(.int (vI ix [2, 4, 8, 16, 32, 60]))] (.int (0 : Int32)) ∧ Fld Z h a1 "java/math/MutableBigInteger" "intLen" "I" (.int (1 : Int32)) ∧ Fld Z h a1 "java/math/MutableBigInteger" "offset" "I" (.int (0 : Int32)) ∧ Fld Z h a1 "java/math/MutableBigInteger" "value" "[I" (.ref r1) ∧ Exa Z h a1 "java/math/MutableBigInteger" ∧ Arv Z h a2 k_a2 .int (2 : Int32) [(.int (0 : Int32)), (.int (0 : Int32))] (.int (0 : Int32))) := by
  refine MetN.walk (plainFor_of_name pn_42) ?_
  intro p e s m below meth c s₁ hx hZ hby hml hown hnm hret hlk X0 e0
  have N0 := Fr.nil n0
  refine Win.to s₁ (mkF m 0 #[.val (.ref a1), .unset] []) (fun _ k => castTop rfl k) ?_
  refine W.aloadN X0 hx (hc hby D42 0 rfl) rfl rfl ?_
  refine W.getF X0 hx hZ hown (host := "") (Or.inl (wk hw 184 rfl)) Via.refl e0 P2 (hc hby D42 1 rfl) (fun T101 X101 e101 => ?_)
  refine W.ifYes X101 hx (hc hby D42 2 rfl) (by decide) (by decide) (pc' := 19) rfl ?_
  refine W.aloadN X101 hx (hc hby D42 12 rfl) rfl rfl ?_
  refine W.getF X101 hx hZ hown (host := "") (Or.inl (wk hw 186 rfl)) Via.refl e101 P3 (hc hby D42 13 rfl) (fun T102 X102 e102 => ?_)
  refine W.aloadN X102 hx (hc hby D42 14 rfl) rfl rfl ?_
  refine W.getF X102 hx hZ hown (host := "") (Or.inl (wk hw 184 rfl)) Via.refl e102 P2 (hc hby D42 15 rfl) (fun T103 X103 e103 => ?_)
  refine W.aloadN X103 hx (hc hby D42 16 rfl) rfl rfl ?_
  refine W.getF X103 hx hZ hown (host := "") (Or.inl (wk hw 184 rfl)) Via.refl e103 P2 (hc hby D42 17 rfl) (fun T104 X104 e104 => ?_)
  refine W.aloadN X104 hx (hc hby D42 18 rfl) rfl rfl ?_
  refine W.getF X104 hx hZ hown (host := "") (Or.inl (wk hw 188 rfl)) Via.refl e104 P1 (hc hby D42 19 rfl) (fun T105 X105 e105 => ?_)
  refine W.iadd X105 hx (hc hby D42 20 rfl) (v := (2 : Int32)) (by decide) ?_
  refine W.static X105 hx hZ hown (wk hw 329 rfl) (wk hw 330 rfl) (wk hw 331 rfl) (wk hw 332 rfl) (by decide) (xArrays_copyOfRange1 l Z a0 hw SS ix a2 k_a2 h0 n0 O0 P4 hcl) e105 (by rw [hml]; rfl) (argsL := [(.ref a2), (.int (1 : Int32)), (.int (2 : Int32))]) (rest := []) rfl (lenOf pd___III__I rfl) rfl (W := 0) (Nat.le_of_eq rfl) (hc hby D42 21 rfl) (by decide) (by decide) (by decide) (by decide) (fun T106 h106 v106 L106 X106 e106 q106 => ?_)
  obtain ⟨r1_106, k_r1_106, rfl, N106q, r106_0, r106_1, r106_2⟩ := q106
  have N107 := Fr.app N0 N106q
  have ne108 : a1 ≠ r1_106 := Nat.ne_of_lt (Nat.lt_of_lt_of_le P0.lt r106_1)
  have ne109 : a2 ≠ r1_106 := Nat.ne_of_lt (Nat.lt_of_lt_of_le P4.lt r106_1)
  have g110 : n0 ≤ r1_106 := Nat.le_trans (own_le O0) r106_1
  have z111 : h0.size ≤ r1_106 := r106_1
  have O112 := Old.keep O0 r106_0 all0
  have K113 : Keep h0 h106 [a1, a2] := Keep.trans (Keep.refl h0 [a1, a2]) r106_0 all0
  refine W.astoreN X106 hx (hc hby D42 22 rfl) rfl (l' := #[.val (.ref a1), .val (.ref r1_106)]) rfl ?_
  refine W.aloadN X106 hx (hc hby D42 23 rfl) rfl rfl ?_
  have F114 := P3.keep r106_0 nin0
  refine W.getF X106 hx hZ hown (host := "") (Or.inl (wk hw 186 rfl)) Via.refl e106 F114 (hc hby D42 24 rfl) (fun T115 X115 e115 => ?_)
  refine W.iconst X115 hx (hc hby D42 25 rfl) (v := 0) rfl ?_
  have F116 := P4.keep r106_0 nin0
  have F118 := P0.keep r106_0
  have ne119 : a2 ≠ a1 := (Ne.symm (Exa.neArv F118 F116 (wk hw 177 rfl)))
  refine W.static X115 hx hZ hown (wk hw 346 rfl) (wk hw 347 rfl) (wk hw 331 rfl) (wk hw 348 rfl) (by decide) (xArrays_fill1 l Z a0 hw SS ix a2 k_a2 h106 n0 O112 F116 hcl g_a2) e115 (by rw [hml]; rfl) (argsL := [(.ref a2), (.int (0 : Int32))]) (rest := []) rfl (lenOf pd___II_V rfl) rfl (W := 0) (Nat.le_of_eq rfl) (hc hby D42 26 rfl) (by decide) (by decide) (by decide) (by decide) (fun T117 h117 v117 L117 X117 e117 q117 => ?_)
  obtain ⟨rfl, N117q, r117_0, r117_1⟩ := q117
  have N120 := Fr.app N107 N117q
  have O121 := Old.keep O112 r117_0 (allS g_a2 all0)
  have K122 : Keep h0 h117 [a1, a2] := Keep.trans K113 r117_0 (allS (Or.inl (List.mem_of_getElem? (i := 1) rfl)) all0)
  refine W.aloadN X117 hx (hc hby D42 27 rfl) rfl rfl ?_
  refine W.iconst X117 hx (hc hby D42 28 rfl) (v := 0) rfl ?_
  have F123 := F118.keep r117_0
  have F124 := (P2.keep r106_0 nin0).keep r117_0 (ninS (Ne.symm ne119) nin0)
  refine W.putF X117 hx hZ hown (host := "") (Or.inl (wk hw 184 rfl)) Via.refl e117 F124 F123 (Or.inl (wk hw 185 rfl)) (wk hw 177 rfl) (ty := .int) (by decide) rfl rfl (hc hby D42 29 rfl) O121 g_a1 K122 (Or.inl (List.mem_of_getElem? (i := 0) rfl)) N120 (fun T125 h125 X125 e125 W125 O125 K125 N125 F125 => ?_)
  refine W.aloadN X125 hx (hc hby D42 30 rfl) rfl rfl ?_
  refine W.aloadN X125 hx (hc hby D42 31 rfl) rfl rfl ?_
  have F126 := (r106_2.keep r117_0 (ninS (Ne.symm ne109) nin0)).other W125 (Ne.symm ne108)
  obtain ⟨cl127, Ar127, -, S127, N127, -, -⟩ := id F126
  refine Win.to T125 (mkF m 56 #[.val (.ref a1), .val (.ref r1_106)] [(.int (1 : Int32)), (.ref a1)]) (fun _ k => X125.arraylength hx (by rw [e125]; exact Ar127.1) (State.isArrayOf_alike hZ.alike Ar127.2.1) (g := (mkF m 55 #[.val (.ref a1), .val (.ref r1_106)] [(.ref r1_106), (.ref a1)])) rfl rfl (hc hby D42 32 rfl) _ (by rw [len_of S127 N127]; exact k)) ?_
  have F128 := Exa.wr W125 F123
  have F129 := Fld.other W125 ((P1.keep r106_0 nin0).keep r117_0 (ninS (Ne.symm ne119) nin0)) (Or.inr (slot_ne (Or.inl (wk hw 189 rfl)) (Or.inl (wk hw 185 rfl)) (by decide) (t := .int) (t' := .int) (by decide) (by decide)))
  refine W.putF X125 hx hZ hown (host := "") (Or.inl (wk hw 188 rfl)) Via.refl e125 F129 F128 (Or.inl (wk hw 189 rfl)) (wk hw 177 rfl) (ty := .int) (by decide) rfl rfl (hc hby D42 33 rfl) O125 g_a1 K125 (Or.inl (List.mem_of_getElem? (i := 0) rfl)) N125 (fun T130 h130 X130 e130 W130 O130 K130 N130 F130 => ?_)
  refine W.aloadN X130 hx (hc hby D42 34 rfl) rfl rfl ?_
  refine W.aloadN X130 hx (hc hby D42 35 rfl) rfl rfl ?_
  have F131 := Exa.wr W130 F128
  have F132 := Fld.other W130 (Fld.other W125 (F114.keep r117_0 (ninS (Ne.symm ne119) nin0)) (Or.inr (slot_ne (Or.inl (wk hw 187 rfl)) (Or.inl (wk hw 185 rfl)) (by decide) (t := (.array .int)) (t' := .int) (by decide) (by decide)))) (Or.inr (slot_ne (Or.inl (wk hw 187 rfl)) (Or.inl (wk hw 189 rfl)) (by decide) (t := (.array .int)) (t' := .int) (by decide) (by decide)))
  refine W.putF X130 hx hZ hown (host := "") (Or.inl (wk hw 186 rfl)) Via.refl e130 F132 F131 (Or.inl (wk hw 187 rfl)) (wk hw 177 rfl) (ty := (.array .int)) (by decide) rfl rfl (hc hby D42 36 rfl) O130 g_a1 K130 (Or.inl (List.mem_of_getElem? (i := 0) rfl)) N130 (fun T133 h133 X133 e133 W133 O133 K133 N133 F133 => ?_)
  refine W.aloadN X133 hx (hc hby D42 9 rfl) rfl rfl ?_
  refine W.getF X133 hx hZ hown (host := "") (Or.inl (wk hw 186 rfl)) Via.refl e133 F133 (hc hby D42 10 rfl) (fun T134 X134 e134 => ?_)
  have F135 := (F126.other W130 (Ne.symm ne108)).other W133 (Ne.symm ne108)
  have F136 := Fld.other W133 F130 (Or.inr (slot_ne (Or.inl (wk hw 189 rfl)) (Or.inl (wk hw 187 rfl)) (by decide) (t := .int) (t' := (.array .int)) (by decide) (by decide)))
  have F137 := Fld.other W133 (Fld.other W130 F125 (Or.inr (slot_ne (Or.inl (wk hw 185 rfl)) (Or.inl (wk hw 189 rfl)) (by decide) (t := .int) (t' := .int) (by decide) (by decide)))) (Or.inr (slot_ne (Or.inl (wk hw 185 rfl)) (Or.inl (wk hw 187 rfl)) (by decide) (t := .int) (t' := (.array .int)) (by decide) (by decide)))
  have F138 := Exa.wr W133 F131
  have F139 := ((r117_1.other W125 ne119).other W130 ne119).other W133 ne119
  exact Win.retA X134 hx hlk hret rfl rfl (hc hby D42 11 rfl) (by decide) (by decide) (by (try rw [e134]); exact ⟨r1_106, k_r1_106, rfl, N133, K133, z111, F135, F136, F137, F133, F138, F139⟩)
abbrev R_xBigInt_init4 : Room := ⟨2, 0, 0, 24⟩
theorem xBigInt_init4 (l : Launch) (Z : State) (a0 : Array Value) (hw : ∀ d ∈ tables_1, d.before a0 Z = true) (SS : Stat Z) (ix : Fin 6) (a1 : Addr) (a2 : Addr) (k_a2 : ClassId) (h0 : Heap) (n0 : Nat) (O0 : Old Z n0 h0) (P0 : Exa Z h0 a1 "java/math/BigInteger") (P1 : Fld Z h0 a1 "java/math/BigInteger" "bitLengthPlusOne" "I" (.int (0 : Int32))) (P2 : Fld Z h0 a1 "java/math/BigInteger" "mag" "[I" .null) (P3 : Fld Z h0 a1 "java/math/BigInteger" "signum" "I" (.int (0 : Int32))) (P4 : Arv Z h0 a2 k_a2 .int (1 : Int32) [(.int (vI ix [2, 4, 8, 16, 32, 60]))] (.int (0 : Int32))) (hcl : ¬ ix.val < 2) (g_a1 : n0 ≤ a1) :
    MetN l Z (⟨"java/math/BigInteger", "<init>", "([II)V"⟩ : MethodName) jdk_2097_method_25_code 3 none R_xBigInt_init4 [] #[(.ref a1), (.ref a2), (.int (1 : Int32))] h0 (fun v h L => v = none ∧ Fr n0 L ∧ Keep h0 h [a1] ∧ Fld Z h a1 "java/math/BigInteger" "bitLengthPlusOne" "I" (.int (0 : Int32)) ∧ Fld Z h a1 "java/math/BigInteger" "mag" "[I" (.ref a2) ∧ Fld Z h a1 "java/math/BigInteger" "signum" "I" (.int (1 : Int32)) ∧ Exa Z h a1 "java/math/BigInteger") := by
  refine MetN.walk (plainFor_of_name pn_43) ?_
  intro p e s m below meth c s₁ hx hZ hby hml hown hnm hret hlk X0 e0
  have N0 := Fr.nil n0
  refine Win.to s₁ (mkF m 0 #[.val (.ref a1), .val (.ref a2), .val (.int (1 : Int32))] []) (fun _ k => castTop rfl k) ?_
  refine W.aloadN X0 hx (hc hby D43 0 rfl) rfl rfl ?_
  refine W.special X0 hx hZ rfl hown (wk hw 157 rfl) (wk hw 93 rfl) (wk hw 96 rfl) (wk hw 97 rfl) (by decide) (xNumber_init1 l Z a0 hw SS a1 h0 n0 O0 ) e0 (by rw [hml]; rfl) (a := a1) (argsL := []) (rest := []) rfl (lenOf pd___V rfl) rfl (W := 0) (Nat.le_of_eq rfl) (hc hby D43 1 rfl) (by decide) (by decide) (by decide) (by decide) (fun T101 h101 v101 L101 X101 e101 q101 => ?_)
  obtain ⟨rfl, N101q, r101_0⟩ := q101
  have N102 := Fr.app N0 N101q
  have e101 := e101.trans r101_0
  refine W.aloadN X101 hx (hc hby D43 2 rfl) rfl rfl ?_
  refine W.aloadN X101 hx (hc hby D43 3 rfl) rfl rfl ?_
  obtain ⟨cl103, Ar103, -, S103, N103, -, -⟩ := id P4
  refine Win.to T101 (mkF m 7 #[.val (.ref a1), .val (.ref a2), .val (.int (1 : Int32))] [(.int (1 : Int32)), (.ref a1)]) (fun _ k => X101.arraylength hx (by rw [e101]; exact Ar103.1) (State.isArrayOf_alike hZ.alike Ar103.2.1) (g := (mkF m 6 #[.val (.ref a1), .val (.ref a2), .val (.int (1 : Int32))] [(.ref a2), (.ref a1)])) rfl rfl (hc hby D43 4 rfl) _ (by rw [len_of S103 N103]; exact k)) ?_
  refine W.ifYes X101 hx (hc hby D43 5 rfl) (by decide) (by decide) (pc' := 14) rfl ?_
  refine W.iloadN X101 hx (hc hby D43 6 rfl) rfl ?_
  have ne104 : a1 ≠ a2 := (Exa.neArv P0 P4 (wk hw 152 rfl))
  refine W.putF X101 hx hZ hown (host := "") (Or.inl (wk hw 159 rfl)) Via.refl e101 P3 P0 (Or.inr ⟨(wk hw 160 rfl), rfl, hnm⟩) (wk hw 152 rfl) (ty := .int) (by decide) rfl rfl (hc hby D43 7 rfl) O0 g_a1 (Keep.refl h0 [a1]) (Or.inl (List.mem_of_getElem? (i := 0) rfl)) N102 (fun T105 h105 X105 e105 W105 O105 K105 N105 F105 => ?_)
  refine W.aloadN X105 hx (hc hby D43 8 rfl) rfl rfl ?_
  refine W.aloadN X105 hx (hc hby D43 9 rfl) rfl rfl ?_
  have F106 := Exa.wr W105 P0
  have F107 := Fld.other W105 P2 (Or.inr (slot_ne (Or.inr (wk hw 163 rfl)) (Or.inr (wk hw 160 rfl)) (by decide) (t := (.array .int)) (t' := .int) (by decide) (by decide)))
  refine W.putF X105 hx hZ hown (host := "") (Or.inl (wk hw 162 rfl)) Via.refl e105 F107 F106 (Or.inr ⟨(wk hw 163 rfl), rfl, hnm⟩) (wk hw 152 rfl) (ty := (.array .int)) (by decide) rfl rfl (hc hby D43 10 rfl) O105 g_a1 K105 (Or.inl (List.mem_of_getElem? (i := 0) rfl)) N105 (fun T108 h108 X108 e108 W108 O108 K108 N108 F108 => ?_)
  refine W.aloadN X108 hx (hc hby D43 11 rfl) rfl rfl ?_
  refine W.getF X108 hx hZ hown (host := "") (Or.inl (wk hw 162 rfl)) Via.refl e108 F108 (hc hby D43 12 rfl) (fun T109 X109 e109 => ?_)
  have F110 := (P4.other W105 (Ne.symm ne104)).other W108 (Ne.symm ne104)
  obtain ⟨cl111, Ar111, -, S111, N111, -, -⟩ := id F110
  refine Win.to T109 (mkF m 28 #[.val (.ref a1), .val (.ref a2), .val (.int (1 : Int32))] [(.int (1 : Int32))]) (fun _ k => X109.arraylength hx (by rw [e109]; exact Ar111.1) (State.isArrayOf_alike hZ.alike Ar111.2.1) (g := (mkF m 27 #[.val (.ref a1), .val (.ref a2), .val (.int (1 : Int32))] [(.ref a2)])) rfl rfl (hc hby D43 13 rfl) _ (by rw [len_of S111 N111]; exact k)) ?_
  refine W.ldc1 X109 hx (hc hby D43 14 rfl) hown (mvT hZ (wk hw 236 rfl)) ?_
  refine W.icmpYes X109 hx (hc hby D43 15 rfl) (by decide) (by decide) (pc' := 37) rfl ?_
  have F112 := Fld.other W108 (Fld.other W105 P1 (Or.inr (slot_ne (Or.inl (wk hw 244 rfl)) (Or.inr (wk hw 160 rfl)) (by decide) (t := .int) (t' := .int) (by decide) (by decide)))) (Or.inr (slot_ne (Or.inl (wk hw 244 rfl)) (Or.inr (wk hw 163 rfl)) (by decide) (t := .int) (t' := (.array .int)) (by decide) (by decide)))
  have F113 := Fld.other W108 F105 (Or.inr (slot_ne (Or.inr (wk hw 160 rfl)) (Or.inr (wk hw 163 rfl)) (by decide) (t := .int) (t' := (.array .int)) (by decide) (by decide)))
  have F114 := Exa.wr W108 F106
  exact Win.retV X109 hx hlk hret (hc hby D43 16 rfl) (by decide) (by decide) (by (try rw [e109]); exact ⟨rfl, N108, K108, F112, F108, F113, F114⟩)
abbrev R_xMutabl_toBigInteger3 : Room := ⟨4, 2, 7, 63⟩
theorem xMutabl_toBigInteger3 (l : Launch) (Z : State) (a0 : Array Value) (hw : ∀ d ∈ tables_1, d.before a0 Z = true) (SS : Stat Z) (ix : Fin 6) (a1 : Addr) (a2 : Addr) (k_a2 : ClassId) (h0 : Heap) (n0 : Nat) (O0 : Old Z n0 h0) (P0 : Exa Z h0 a1 "java/math/MutableBigInteger") (P1 : Fld Z h0 a1 "java/math/MutableBigInteger" "intLen" "I" (.int (1 : Int32))) (P2 : Fld Z h0 a1 "java/math/MutableBigInteger" "offset" "I" (.int (1 : Int32))) (P3 : Fld Z h0 a1 "java/math/MutableBigInteger" "value" "[I" (.ref a2)) (P4 : Arv Z h0 a2 k_a2 .int (2 : Int32) [(.int (0 : Int32)), (.int (vI ix [2, 4, 8, 16, 32, 60]))] (.int (0 : Int32))) (hcl : ¬ ix.val < 2) (g_a1 : n0 ≤ a1) (g_a2 : n0 ≤ a2) :
    MetN l Z (⟨"java/math/MutableBigInteger", "toBigInteger", "(I)Ljava/math/BigInteger;"⟩ : MethodName) jdk_2101_method_9_code 2 (some (.object "java/math/BigInteger")) R_xMutabl_toBigInteger3 [] #[(.ref a1), (.int (1 : Int32))] h0 (fun v h L => ∃ (r1 : Addr) (r2 : Addr) (k_r2 : ClassId), v = some (.ref r1) ∧ Fr n0 L ∧ Keep h0 h [a1, a2] ∧ h0.size ≤ r1 ∧ h0.size ≤ r2 ∧ Fld Z h r1 "java/math/BigInteger" "bitLengthPlusOne" "I" (.int (0 : Int32)) ∧ Arv Z h r2 k_r2 .int (1 : Int32) [(.int (vI ix [2, 4, 8, 16, 32, 60]))] (.int (0 : Int32)) ∧ Fld Z h r1 "java/math/BigInteger" "mag" "[I" (.ref r2) ∧ Fld Z h r1 "java/math/BigInteger" "signum" "I" (.int (1 : Int32)) ∧ Exa Z h r1 "java/math/BigInteger" ∧ Fld Z h a1 "java/math/MutableBigInteger" "intLen" "I" (.int (1 : Int32)) ∧ Fld Z h a1 "java/math/MutableBigInteger" "offset" "I" (.int (0 : Int32)) ∧ Fld Z h a1 "java/math/MutableBigInteger" "value" "[I" (.ref r2) ∧ Exa Z h a1 "java/math/MutableBigInteger" ∧ Arv Z h a2 k_a2 .int (2 : Int32) [(.int (0 : Int32)), (.int (0 : Int32))] (.int (0 : Int32))) := by
  refine MetN.walk (plainFor_of_name pn_41) ?_
  intro p e s m below meth c s₁ hx hZ hby hml hown hnm hret hlk X0 e0
  have N0 := Fr.nil n0
  refine Win.to s₁ (mkF m 0 #[.val (.ref a1), .val (.int (1 : Int32))] []) (fun _ k => castTop rfl k) ?_
  refine W.aloadN X0 hx (hc hby D41 0 rfl) rfl rfl ?_
  refine W.getF X0 hx hZ hown (host := "") (Or.inl (wk hw 188 rfl)) Via.refl e0 P1 (hc hby D41 1 rfl) (fun T101 X101 e101 => ?_)
  refine W.ifNo X101 hx (hc hby D41 2 rfl) (by decide) ?_
  refine W.iloadN X101 hx (hc hby D41 3 rfl) rfl ?_
  refine W.ifYes X101 hx (hc hby D41 4 rfl) (by decide) (by decide) (pc' := 15) rfl ?_
  obtain ⟨T102, h102, X102, e102, E102, A102, D102, -, st102⟩ := newO X101 hx hZ hown (wk hw 227 rfl) (wk hw 152 rfl) (wk hw 148 rfl) e101 (g := (mkF m 15 #[.val (.ref a1), .val (.int (1 : Int32))] [])) rfl (hc hby D41 5 rfl) (by decide) (by decide)
  obtain ⟨b102, g102⟩ : ∃ z, z = h0.size := ⟨_, rfl⟩
  rw [← g102] at A102 D102 st102
  have ne103 : a1 ≠ b102 := Nat.ne_of_lt (Nat.lt_of_lt_of_le P0.lt (Nat.le_of_eq g102.symm))
  have ne104 : a2 ≠ b102 := Nat.ne_of_lt (Nat.lt_of_lt_of_le P4.lt (Nat.le_of_eq g102.symm))
  have g105 : n0 ≤ b102 := Nat.le_trans (own_le O0) (Nat.le_of_eq g102.symm)
  have z106 : h0.size ≤ b102 := (Nat.le_of_eq g102.symm)
  have O107 := Old.ext O0 E102
  have K108 : Keep h0 h102 [a1, a2] := (Keep.refl h0 [a1, a2]).ext E102
  have F109 : Fld Z h102 b102 "java/math/BigInteger" "signum" "I" (.int (0 : Int32)) := D102 (Or.inr (wk hw 160 rfl)) (ty := .int) (by decide)
  have F110 : Fld Z h102 b102 "java/math/BigInteger" "mag" "[I" .null := D102 (Or.inr (wk hw 163 rfl)) (ty := (.array .int)) (by decide)
  have F111 : Fld Z h102 b102 "java/math/BigInteger" "bitLengthPlusOne" "I" (.int (0 : Int32)) := D102 (Or.inl (wk hw 244 rfl)) (ty := .int) (by decide)
  refine Win.to T102 (mkF m 18 #[.val (.ref a1), .val (.int (1 : Int32))] [(.ref b102)]) (fun _ k => st102 _ k) ?_
  refine W.dup X102 hx (hc hby D41 6 rfl) rfl ?_
  refine W.aloadN X102 hx (hc hby D41 7 rfl) rfl rfl ?_
  have F112 := Exa.ext E102 P0
  have F113 := Fld.ext E102 P1
  have F114 := Fld.ext E102 P2
  have F115 := Fld.ext E102 P3
  have F116 := P4.ext E102
  refine W.private X102 hx hZ hown (wk hw 228 rfl) (wk hw 229 rfl) (wk hw 231 rfl) (wk hw 230 rfl) (wk hw 178 rfl) (wk hw 232 rfl) (by decide) (xMutabl_getMagnitudeArray2 l Z a0 hw SS ix a1 a2 k_a2 h102 n0 O107 F112 F113 F114 F115 F116 hcl g_a1 g_a2) e102 F112 (by rw [hml]; rfl) (argsL := []) (rest := [(.ref b102), (.ref b102)]) rfl (lenOf pd____I rfl) rfl (W := 2) (Nat.le_of_eq rfl) (hc hby D41 8 rfl) (by decide) (by decide) (by decide) (by decide) (fun T117 h117 v117 L117 X117 e117 q117 => ?_)
  obtain ⟨r1_117, k_r1_117, rfl, N117q, r117_0, r117_1, r117_2, r117_3, r117_4, r117_5, r117_6, r117_7⟩ := q117
  have N118 := Fr.app N0 N117q
  have ne119 : b102 ≠ r1_117 := Nat.ne_of_lt (Nat.lt_of_lt_of_le A102.lt r117_1)
  have g120 : n0 ≤ r1_117 := Nat.le_trans (own_le O107) r117_1
  have z121 : h0.size ≤ r1_117 := Nat.le_trans K108.1 r117_1
  have O122 := Old.keep O107 r117_0 (allS g_a1 (allS g_a2 all0))
  have K123 : Keep h0 h117 [a1, a2] := Keep.trans K108 r117_0 (allS (Or.inl (List.mem_of_getElem? (i := 0) rfl)) (allS (Or.inl (List.mem_of_getElem? (i := 1) rfl)) all0))
  refine W.iloadN X117 hx (hc hby D41 9 rfl) rfl ?_
  have F124 := A102.keep r117_0
  have F125 := F111.keep r117_0 (ninS (Ne.symm ne103) (ninS (Ne.symm ne104) nin0))
  have F126 := F110.keep r117_0 (ninS (Ne.symm ne103) (ninS (Ne.symm ne104) nin0))
  have F127 := F109.keep r117_0 (ninS (Ne.symm ne103) (ninS (Ne.symm ne104) nin0))
  refine W.special X117 hx hZ rfl hown (wk hw 233 rfl) (wk hw 234 rfl) (wk hw 148 rfl) (wk hw 235 rfl) (by decide) (xBigInt_init4 l Z a0 hw SS ix b102 r1_117 k_r1_117 h117 n0 O122 F124 F125 F126 F127 r117_2 hcl g105) e117 (by rw [hml]; rfl) (a := b102) (argsL := [(.ref r1_117), (.int (1 : Int32))]) (rest := [(.ref b102)]) rfl (lenOf pd___II_V rfl) rfl (W := 1) (Nat.le_of_eq rfl) (hc hby D41 10 rfl) (by decide) (by decide) (by decide) (by decide) (fun T128 h128 v128 L128 X128 e128 q128 => ?_)
  obtain ⟨rfl, N128q, r128_0, r128_1, r128_2, r128_3, r128_4⟩ := q128
  have N129 := Fr.app N118 N128q
  have O130 := Old.keep O122 r128_0 (allS g105 all0)
  have K131 : Keep h0 h128 [a1, a2] := Keep.trans K123 r128_0 (allS (Or.inr z106) all0)
  have F132 := r117_2.keep r128_0 (ninS (Ne.symm ne119) nin0)
  have F133 := r117_3.keep r128_0 (ninS ne103 nin0)
  have F134 := r117_4.keep r128_0 (ninS ne103 nin0)
  have F135 := r117_5.keep r128_0 (ninS ne103 nin0)
  have F136 := r117_6.keep r128_0
  have F137 := r117_7.keep r128_0 (ninS ne104 nin0)
  exact Win.retA X128 hx hlk hret rfl rfl (hc hby D41 11 rfl) (by decide) (by decide) (by (try rw [e128]); exact ⟨b102, r1_117, k_r1_117, rfl, N129, K131, z106, z121, r128_1, F132, r128_2, r128_3, r128_4, F133, F134, F135, F136, F137⟩)
abbrev R_xBigInt_divideAndRemainderKnuth2 : Room := ⟨5, 10, 25, 78⟩
theorem xBigInt_divideAndRemainderKnuth2 (l : Launch) (Z : State) (a0 : Array Value) (hw : ∀ d ∈ tables_1, d.before a0 Z = true) (SS : Stat Z) (ix : Fin 6) (a1 : Addr) (a2 : Addr) (a3 : Addr) (a4 : Addr) (k_a3 : ClassId) (k_a4 : ClassId) (h0 : Heap) (n0 : Nat) (O0 : Old Z n0 h0) (P0 : Fld Z h0 a1 "java/math/BigInteger" "mag" "[I" (.ref a3)) (P1 : Fld Z h0 a1 "java/math/BigInteger" "signum" "I" (.int (1 : Int32))) (P2 : Fld Z h0 a2 "java/math/BigInteger" "mag" "[I" (.ref a4)) (P3 : Fld Z h0 a2 "java/math/BigInteger" "signum" "I" (.int (1 : Int32))) (P4 : Arv Z h0 a3 k_a3 .int (2 : Int32) [(.int (vI ix [1, 1, 1, 3, 7, 13])), (.int (vI ix [-589934592, -589934592, -589934592, -1179869184, 1935228928, -129542144]))] (.int (0 : Int32))) (P5 : Arv Z h0 a4 k_a4 .int (1 : Int32) [(.int (1000000000 : Int32))] (.int (0 : Int32))) (hcl : ¬ ix.val < 2) :
    MetN l Z (⟨"java/math/BigInteger", "divideAndRemainderKnuth", "(Ljava/math/BigInteger;)[Ljava/math/BigInteger;"⟩ : MethodName) jdk_2097_method_64_code 7 (some (.array (.object "java/math/BigInteger"))) R_xBigInt_divideAndRemainderKnuth2 [] #[(.ref a1), (.ref a2)] h0 (fun v h L => ∃ (r1 : Addr) (r2 : Addr) (r3 : Addr) (k_r3 : ClassId) (k_r1 : ClassId), v = some (.ref r1) ∧ Fr n0 L ∧ Keep h0 h [] ∧ h0.size ≤ r1 ∧ h0.size ≤ r2 ∧ h0.size ≤ r3 ∧ Fld Z h r2 "java/math/BigInteger" "bitLengthPlusOne" "I" (.int (0 : Int32)) ∧ Arv Z h r3 k_r3 .int (1 : Int32) [(.int (vI ix [2, 4, 8, 16, 32, 60]))] (.int (0 : Int32)) ∧ Fld Z h r2 "java/math/BigInteger" "mag" "[I" (.ref r3) ∧ Fld Z h r2 "java/math/BigInteger" "signum" "I" (.int (1 : Int32)) ∧ Exa Z h r2 "java/math/BigInteger" ∧ Arv Z h r1 k_r1 (.object "java/math/BigInteger") (2 : Int32) [(.ref r2), (.ref SS.bz)] .null ∧ (r3 ≠ r1)) := by
  refine MetN.walk (plainFor_of_name pn_33) ?_
  intro p e s m below meth c s₁ hx hZ hby hml hown hnm hret hlk X0 e0
  have N0 := Fr.nil n0
  refine Win.to s₁ (mkF m 0 #[.val (.ref a1), .val (.ref a2), .unset, .unset, .unset, .unset, .unset] []) (fun _ k => castTop rfl k) ?_
  refine W.iconst X0 hx (hc hby D33 0 rfl) (v := 2) rfl ?_
  obtain ⟨T101, h101, k101, X101, e101, E101, A101, Ov101, st101⟩ := newR X0 hx hZ hown (wk hw 151 rfl) (wk hw 175 rfl) e0 (g := (mkF m 1 #[.val (.ref a1), .val (.ref a2), .unset, .unset, .unset, .unset, .unset] [(.int (2 : Int32))])) rfl (hc hby D33 1 rfl) rfl (by decide) (cap := 2) (by decide) (by decide) (by decide) (by decide)
  obtain ⟨b101, g101⟩ : ∃ z, z = h0.size := ⟨_, rfl⟩
  rw [← g101] at A101 st101
  have ne102 : a1 ≠ b101 := Nat.ne_of_lt (Nat.lt_of_lt_of_le P0.lt (Nat.le_of_eq g101.symm))
  have g103 : n0 ≤ b101 := Nat.le_trans (own_le O0) (Nat.le_of_eq g101.symm)
  have z104 : h0.size ≤ b101 := (Nat.le_of_eq g101.symm)
  have O105 := Old.ext O0 E101
  have K106 : Keep h0 h101 [] := (Keep.refl h0 []).ext E101
  have F107 : Arv Z h101 b101 k101 (.object "java/math/BigInteger") (2 : Int32) [.null, .null] .null := (Arv.new A101 (by decide)).pad (pad_rep [] .null 2)
  refine Win.to T101 (mkF m 4 #[.val (.ref a1), .val (.ref a2), .unset, .unset, .unset, .unset, .unset] [(.ref b101)]) (fun _ k => st101 _ k) ?_
  refine W.astoreN X101 hx (hc hby D33 2 rfl) rfl (l' := #[.val (.ref a1), .val (.ref a2), .val (.ref b101), .unset, .unset, .unset, .unset]) rfl ?_
  obtain ⟨T108, h108, X108, e108, E108, A108, D108, -, st108⟩ := newO X101 hx hZ hown (wk hw 176 rfl) (wk hw 177 rfl) (wk hw 178 rfl) e101 (g := (mkF m 5 #[.val (.ref a1), .val (.ref a2), .val (.ref b101), .unset, .unset, .unset, .unset] [])) rfl (hc hby D33 3 rfl) (by decide) (by decide)
  obtain ⟨b108, g108⟩ : ∃ z, z = h101.size := ⟨_, rfl⟩
  rw [← g108] at A108 D108 st108
  have F109 := Fld.ext E101 P0
  have ne110 : a1 ≠ b108 := Nat.ne_of_lt (Nat.lt_of_lt_of_le F109.lt (Nat.le_of_eq g108.symm))
  have F111 := Fld.ext E101 P2
  have ne112 : a2 ≠ b108 := Nat.ne_of_lt (Nat.lt_of_lt_of_le F111.lt (Nat.le_of_eq g108.symm))
  have F113 := P4.ext E101
  have ne114 : a3 ≠ b108 := Nat.ne_of_lt (Nat.lt_of_lt_of_le F113.lt (Nat.le_of_eq g108.symm))
  have F115 := P5.ext E101
  have ne116 : a4 ≠ b108 := Nat.ne_of_lt (Nat.lt_of_lt_of_le F115.lt (Nat.le_of_eq g108.symm))
  have ne117 : b101 ≠ b108 := Nat.ne_of_lt (Nat.lt_of_lt_of_le F107.lt (Nat.le_of_eq g108.symm))
  have g118 : n0 ≤ b108 := Nat.le_trans (own_le O105) (Nat.le_of_eq g108.symm)
  have z119 : h0.size ≤ b108 := Nat.le_trans K106.1 (Nat.le_of_eq g108.symm)
  have O120 := Old.ext O105 E108
  have K121 : Keep h0 h108 [] := K106.ext E108
  have F122 : Fld Z h108 b108 "java/math/MutableBigInteger" "offset" "I" (.int (0 : Int32)) := D108 (Or.inl (wk hw 185 rfl)) (ty := .int) (by decide)
  have F123 : Fld Z h108 b108 "java/math/MutableBigInteger" "value" "[I" .null := D108 (Or.inl (wk hw 187 rfl)) (ty := (.array .int)) (by decide)
  have F124 : Fld Z h108 b108 "java/math/MutableBigInteger" "intLen" "I" (.int (0 : Int32)) := D108 (Or.inl (wk hw 189 rfl)) (ty := .int) (by decide)
  refine Win.to T108 (mkF m 8 #[.val (.ref a1), .val (.ref a2), .val (.ref b101), .unset, .unset, .unset, .unset] [(.ref b108)]) (fun _ k => st108 _ k) ?_
  refine W.dup X108 hx (hc hby D33 4 rfl) rfl ?_
  refine W.special X108 hx hZ rfl hown (wk hw 179 rfl) (wk hw 180 rfl) (wk hw 178 rfl) (wk hw 182 rfl) (by decide) (xMutabl_init1 l Z a0 hw SS b108 h108 n0 O120 A108 F124 F122 F123 g118) e108 (by rw [hml]; rfl) (a := b108) (argsL := []) (rest := [(.ref b108)]) rfl (lenOf pd___V rfl) rfl (W := 1) (Nat.le_of_eq rfl) (hc hby D33 5 rfl) (by decide) (by decide) (by decide) (by decide) (fun T125 h125 v125 L125 X125 e125 q125 => ?_)
  obtain ⟨r1_125, k_r1_125, rfl, N125q, r125_0, r125_1, r125_2, r125_3, r125_4, r125_5, r125_6⟩ := q125
  have N126 := Fr.app N0 N125q
  have F127 := Fld.ext E108 F109
  have ne128 : a1 ≠ r1_125 := Nat.ne_of_lt (Nat.lt_of_lt_of_le F127.lt r125_1)
  have F129 := Fld.ext E108 F111
  have ne130 : a2 ≠ r1_125 := Nat.ne_of_lt (Nat.lt_of_lt_of_le F129.lt r125_1)
  have F131 := F113.ext E108
  have ne132 : a3 ≠ r1_125 := Nat.ne_of_lt (Nat.lt_of_lt_of_le F131.lt r125_1)
  have F133 := F115.ext E108
  have ne134 : a4 ≠ r1_125 := Nat.ne_of_lt (Nat.lt_of_lt_of_le F133.lt r125_1)
  have F135 := F107.ext E108
  have ne136 : b101 ≠ r1_125 := Nat.ne_of_lt (Nat.lt_of_lt_of_le F135.lt r125_1)
  have ne137 : b108 ≠ r1_125 := Nat.ne_of_lt (Nat.lt_of_lt_of_le A108.lt r125_1)
  have g138 : n0 ≤ r1_125 := Nat.le_trans (own_le O120) r125_1
  have z139 : h0.size ≤ r1_125 := Nat.le_trans K121.1 r125_1
  have O140 := Old.keep O120 r125_0 (allS g118 all0)
  have K141 : Keep h0 h125 [] := Keep.trans K121 r125_0 (allS (Or.inr z119) all0)
  refine W.astoreN X125 hx (hc hby D33 6 rfl) rfl (l' := #[.val (.ref a1), .val (.ref a2), .val (.ref b101), .val (.ref b108), .unset, .unset, .unset]) rfl ?_
  obtain ⟨T142, h142, X142, e142, E142, A142, D142, -, st142⟩ := newO X125 hx hZ hown (wk hw 176 rfl) (wk hw 177 rfl) (wk hw 178 rfl) e125 (g := (mkF m 13 #[.val (.ref a1), .val (.ref a2), .val (.ref b101), .val (.ref b108), .unset, .unset, .unset] [])) rfl (hc hby D33 7 rfl) (by decide) (by decide)
  obtain ⟨b142, g142⟩ : ∃ z, z = h125.size := ⟨_, rfl⟩
  rw [← g142] at A142 D142 st142
  have F143 := F127.keep r125_0 (ninS ne110 nin0)
  have ne144 : a1 ≠ b142 := Nat.ne_of_lt (Nat.lt_of_lt_of_le F143.lt (Nat.le_of_eq g142.symm))
  have F145 := F129.keep r125_0 (ninS ne112 nin0)
  have ne146 : a2 ≠ b142 := Nat.ne_of_lt (Nat.lt_of_lt_of_le F145.lt (Nat.le_of_eq g142.symm))
  have F147 := F131.keep r125_0 (ninS ne114 nin0)
  have ne148 : a3 ≠ b142 := Nat.ne_of_lt (Nat.lt_of_lt_of_le F147.lt (Nat.le_of_eq g142.symm))
  have F149 := F133.keep r125_0 (ninS ne116 nin0)
  have ne150 : a4 ≠ b142 := Nat.ne_of_lt (Nat.lt_of_lt_of_le F149.lt (Nat.le_of_eq g142.symm))
  have F151 := F135.keep r125_0 (ninS ne117 nin0)
  have ne152 : b101 ≠ b142 := Nat.ne_of_lt (Nat.lt_of_lt_of_le F151.lt (Nat.le_of_eq g142.symm))
  have ne153 : b108 ≠ b142 := Nat.ne_of_lt (Nat.lt_of_lt_of_le r125_6.lt (Nat.le_of_eq g142.symm))
  have ne154 : r1_125 ≠ b142 := Nat.ne_of_lt (Nat.lt_of_lt_of_le r125_4.lt (Nat.le_of_eq g142.symm))
  have g155 : n0 ≤ b142 := Nat.le_trans (own_le O140) (Nat.le_of_eq g142.symm)
  have z156 : h0.size ≤ b142 := Nat.le_trans K141.1 (Nat.le_of_eq g142.symm)
  have O157 := Old.ext O140 E142
  have K158 : Keep h0 h142 [] := K141.ext E142
  have F159 : Fld Z h142 b142 "java/math/MutableBigInteger" "offset" "I" (.int (0 : Int32)) := D142 (Or.inl (wk hw 185 rfl)) (ty := .int) (by decide)
  have F160 : Fld Z h142 b142 "java/math/MutableBigInteger" "value" "[I" .null := D142 (Or.inl (wk hw 187 rfl)) (ty := (.array .int)) (by decide)
  have F161 : Fld Z h142 b142 "java/math/MutableBigInteger" "intLen" "I" (.int (0 : Int32)) := D142 (Or.inl (wk hw 189 rfl)) (ty := .int) (by decide)
  refine Win.to T142 (mkF m 16 #[.val (.ref a1), .val (.ref a2), .val (.ref b101), .val (.ref b108), .unset, .unset, .unset] [(.ref b142)]) (fun _ k => st142 _ k) ?_
  refine W.dup X142 hx (hc hby D33 8 rfl) rfl ?_
  refine W.aloadN X142 hx (hc hby D33 9 rfl) rfl rfl ?_
  have F162 := Fld.ext E142 F143
  refine W.getF X142 hx hZ hown (host := "") (Or.inl (wk hw 162 rfl)) Via.refl e142 F162 (hc hby D33 10 rfl) (fun T163 X163 e163 => ?_)
  have F164 := F147.ext E142
  refine W.special X163 hx hZ rfl hown (wk hw 190 rfl) (wk hw 191 rfl) (wk hw 178 rfl) (wk hw 192 rfl) (by decide) (xMutabl_init4 l Z a0 hw SS ix b142 a3 k_a3 h142 n0 O157 A142 F161 F159 F160 F164 hcl g155) e163 (by rw [hml]; rfl) (a := b142) (argsL := [(.ref a3)]) (rest := [(.ref b142)]) rfl (lenOf pd___I_V rfl) rfl (W := 1) (Nat.le_of_eq rfl) (hc hby D33 11 rfl) (by decide) (by decide) (by decide) (by decide) (fun T165 h165 v165 L165 X165 e165 q165 => ?_)
  obtain ⟨rfl, N165q, r165_0, r165_1, r165_2, r165_3, r165_4⟩ := q165
  have N166 := Fr.app N126 N165q
  have O167 := Old.keep O157 r165_0 (allS g155 all0)
  have K168 : Keep h0 h165 [] := Keep.trans K158 r165_0 (allS (Or.inr z156) all0)
  refine W.astore X165 hx (hc hby D33 12 rfl) rfl (l' := #[.val (.ref a1), .val (.ref a2), .val (.ref b101), .val (.ref b108), .val (.ref b142), .unset, .unset]) rfl ?_
  obtain ⟨T169, h169, X169, e169, E169, A169, D169, -, st169⟩ := newO X165 hx hZ hown (wk hw 176 rfl) (wk hw 177 rfl) (wk hw 178 rfl) e165 (g := (mkF m 26 #[.val (.ref a1), .val (.ref a2), .val (.ref b101), .val (.ref b108), .val (.ref b142), .unset, .unset] [])) rfl (hc hby D33 13 rfl) (by decide) (by decide)
  obtain ⟨b169, g169⟩ : ∃ z, z = h165.size := ⟨_, rfl⟩
  rw [← g169] at A169 D169 st169
  have F170 := F162.keep r165_0 (ninS ne144 nin0)
  have ne171 : a1 ≠ b169 := Nat.ne_of_lt (Nat.lt_of_lt_of_le F170.lt (Nat.le_of_eq g169.symm))
  have F172 := (Fld.ext E142 F145).keep r165_0 (ninS ne146 nin0)
  have ne173 : a2 ≠ b169 := Nat.ne_of_lt (Nat.lt_of_lt_of_le F172.lt (Nat.le_of_eq g169.symm))
  have F174 := F164.keep r165_0 (ninS ne148 nin0)
  have ne175 : a3 ≠ b169 := Nat.ne_of_lt (Nat.lt_of_lt_of_le F174.lt (Nat.le_of_eq g169.symm))
  have F176 := (F149.ext E142).keep r165_0 (ninS ne150 nin0)
  have ne177 : a4 ≠ b169 := Nat.ne_of_lt (Nat.lt_of_lt_of_le F176.lt (Nat.le_of_eq g169.symm))
  have F178 := (F151.ext E142).keep r165_0 (ninS ne152 nin0)
  have ne179 : b101 ≠ b169 := Nat.ne_of_lt (Nat.lt_of_lt_of_le F178.lt (Nat.le_of_eq g169.symm))
  have F180 := (Exa.ext E142 r125_6).keep r165_0
  have ne181 : b108 ≠ b169 := Nat.ne_of_lt (Nat.lt_of_lt_of_le F180.lt (Nat.le_of_eq g169.symm))
  have F182 := (r125_4.ext E142).keep r165_0 (ninS ne154 nin0)
  have ne183 : r1_125 ≠ b169 := Nat.ne_of_lt (Nat.lt_of_lt_of_le F182.lt (Nat.le_of_eq g169.symm))
  have ne184 : b142 ≠ b169 := Nat.ne_of_lt (Nat.lt_of_lt_of_le r165_4.lt (Nat.le_of_eq g169.symm))
  have g185 : n0 ≤ b169 := Nat.le_trans (own_le O167) (Nat.le_of_eq g169.symm)
  have z186 : h0.size ≤ b169 := Nat.le_trans K168.1 (Nat.le_of_eq g169.symm)
  have O187 := Old.ext O167 E169
  have K188 : Keep h0 h169 [] := K168.ext E169
  have F189 : Fld Z h169 b169 "java/math/MutableBigInteger" "offset" "I" (.int (0 : Int32)) := D169 (Or.inl (wk hw 185 rfl)) (ty := .int) (by decide)
  have F190 : Fld Z h169 b169 "java/math/MutableBigInteger" "value" "[I" .null := D169 (Or.inl (wk hw 187 rfl)) (ty := (.array .int)) (by decide)
  have F191 : Fld Z h169 b169 "java/math/MutableBigInteger" "intLen" "I" (.int (0 : Int32)) := D169 (Or.inl (wk hw 189 rfl)) (ty := .int) (by decide)
  refine Win.to T169 (mkF m 29 #[.val (.ref a1), .val (.ref a2), .val (.ref b101), .val (.ref b108), .val (.ref b142), .unset, .unset] [(.ref b169)]) (fun _ k => st169 _ k) ?_
  refine W.dup X169 hx (hc hby D33 14 rfl) rfl ?_
  refine W.aloadN X169 hx (hc hby D33 15 rfl) rfl rfl ?_
  have F192 := Fld.ext E169 F172
  refine W.getF X169 hx hZ hown (host := "") (Or.inl (wk hw 162 rfl)) Via.refl e169 F192 (hc hby D33 16 rfl) (fun T193 X193 e193 => ?_)
  have F194 := F176.ext E169
  refine W.special X193 hx hZ rfl hown (wk hw 190 rfl) (wk hw 191 rfl) (wk hw 178 rfl) (wk hw 192 rfl) (by decide) (xMutabl_init3 l Z a0 hw SS b169 a4 k_a4 h169 n0 O187 A169 F191 F189 F190 F194 g185) e193 (by rw [hml]; rfl) (a := b169) (argsL := [(.ref a4)]) (rest := [(.ref b169)]) rfl (lenOf pd___I_V rfl) rfl (W := 1) (Nat.le_of_eq rfl) (hc hby D33 17 rfl) (by decide) (by decide) (by decide) (by decide) (fun T195 h195 v195 L195 X195 e195 q195 => ?_)
  obtain ⟨rfl, N195q, r195_0, r195_1, r195_2, r195_3, r195_4⟩ := q195
  have N196 := Fr.app N166 N195q
  have O197 := Old.keep O187 r195_0 (allS g185 all0)
  have K198 : Keep h0 h195 [] := Keep.trans K188 r195_0 (allS (Or.inr z186) all0)
  refine W.astore X195 hx (hc hby D33 18 rfl) rfl (l' := #[.val (.ref a1), .val (.ref a2), .val (.ref b101), .val (.ref b108), .val (.ref b142), .val (.ref b169), .unset]) rfl ?_
  refine W.aload X195 hx (hc hby D33 19 rfl) rfl rfl ?_
  refine W.aload X195 hx (hc hby D33 20 rfl) rfl rfl ?_
  refine W.aloadN X195 hx (hc hby D33 21 rfl) rfl rfl ?_
  have F199 := (Exa.ext E169 r165_4).keep r195_0
  have F200 := (Fld.ext E169 r165_1).keep r195_0 (ninS ne184 nin0)
  have F201 := (Fld.ext E169 r165_2).keep r195_0 (ninS ne184 nin0)
  have F202 := (Fld.ext E169 r165_3).keep r195_0 (ninS ne184 nin0)
  have F203 := (Exa.ext E169 F180).keep r195_0
  have F204 := (Fld.ext E169 ((Fld.ext E142 r125_2).keep r165_0 (ninS ne153 nin0))).keep r195_0 (ninS ne181 nin0)
  have F205 := (Fld.ext E169 ((Fld.ext E142 r125_3).keep r165_0 (ninS ne153 nin0))).keep r195_0 (ninS ne181 nin0)
  have F206 := (Fld.ext E169 ((Fld.ext E142 r125_5).keep r165_0 (ninS ne153 nin0))).keep r195_0 (ninS ne181 nin0)
  have F207 := (F174.ext E169).keep r195_0 (ninS ne175 nin0)
  have F208 := F194.keep r195_0 (ninS ne177 nin0)
  have F209 := (F182.ext E169).keep r195_0 (ninS ne183 nin0)
  refine W.virtual X195 hx hZ hown (wk hw 193 rfl) (wk hw 194 rfl) (notFace_of_selects (args := #[]) (mvT hZ (wk hw 196 rfl))) (wk hw 196 rfl) (wk hw 195 rfl) (wk hw 178 rfl) (wk hw 197 rfl) (by decide) (xMutabl_divideKnuth3 l Z a0 hw SS ix b142 b169 b108 a3 a4 r1_125 k_a3 k_a4 k_r1_125 h195 n0 O197 F199 F200 F201 F202 r195_4 r195_1 r195_2 r195_3 F203 F204 F205 F206 F207 F208 F209 hcl (Ne.symm ne153) (Ne.symm ne181) ne132 ne134 g118 g138) e195 F199 (by rw [hml]; rfl) (argsL := [(.ref b169), (.ref b108)]) (rest := []) rfl (lenOf pd__Ljava_math_MutableBigInteger_Ljava_math_MutableBigInteger__Ljava_math_MutableBigInteger_ rfl) rfl (W := 0) (Nat.le_of_eq rfl) (hc hby D33 22 rfl) (by decide) (by decide) (by decide) (by decide) (fun T210 h210 v210 L210 X210 e210 q210 => ?_)
  obtain ⟨r1_210, r2_210, k_r2_210, r3_210, k_r3_210, rfl, N210q, r210_0, r210_1, r210_2, r210_3, r210_4, r210_5, r210_6, r210_7, r210_8, r210_9, r210_10, r210_11, r210_12, r210_13, r210_14, r210_15⟩ := q210
  have N211 := Fr.app N196 N210q
  have F212 := (F178.ext E169).keep r195_0 (ninS ne179 nin0)
  have ne213 : b101 ≠ r1_210 := Nat.ne_of_lt (Nat.lt_of_lt_of_le F212.lt r210_1)
  have ne214 : b108 ≠ r1_210 := Nat.ne_of_lt (Nat.lt_of_lt_of_le F203.lt r210_1)
  have ne215 : b142 ≠ r1_210 := Nat.ne_of_lt (Nat.lt_of_lt_of_le F199.lt r210_1)
  have ne216 : b169 ≠ r1_210 := Nat.ne_of_lt (Nat.lt_of_lt_of_le r195_4.lt r210_1)
  have g217 : n0 ≤ r1_210 := Nat.le_trans (own_le O197) r210_1
  have z218 : h0.size ≤ r1_210 := Nat.le_trans K198.1 r210_1
  have ne219 : b101 ≠ r2_210 := Nat.ne_of_lt (Nat.lt_of_lt_of_le F212.lt r210_2)
  have ne220 : b108 ≠ r2_210 := Nat.ne_of_lt (Nat.lt_of_lt_of_le F203.lt r210_2)
  have ne221 : r1_125 ≠ r2_210 := Nat.ne_of_lt (Nat.lt_of_lt_of_le F209.lt r210_2)
  have g222 : n0 ≤ r2_210 := Nat.le_trans (own_le O197) r210_2
  have z223 : h0.size ≤ r2_210 := Nat.le_trans K198.1 r210_2
  have F224 := (Fld.ext E169 F170).keep r195_0 (ninS ne171 nin0)
  have ne225 : a1 ≠ r3_210 := Nat.ne_of_lt (Nat.lt_of_lt_of_le F224.lt r210_3)
  have ne226 : b101 ≠ r3_210 := Nat.ne_of_lt (Nat.lt_of_lt_of_le F212.lt r210_3)
  have ne227 : r1_125 ≠ r3_210 := Nat.ne_of_lt (Nat.lt_of_lt_of_le F209.lt r210_3)
  have ne228 : b142 ≠ r3_210 := Nat.ne_of_lt (Nat.lt_of_lt_of_le F199.lt r210_3)
  have ne229 : b169 ≠ r3_210 := Nat.ne_of_lt (Nat.lt_of_lt_of_le r195_4.lt r210_3)
  have g230 : n0 ≤ r3_210 := Nat.le_trans (own_le O197) r210_3
  have z231 : h0.size ≤ r3_210 := Nat.le_trans K198.1 r210_3
  have O232 := Old.keep O197 r210_0 (allS g118 (allS g138 all0))
  have K233 : Keep h0 h210 [] := Keep.trans K198 r210_0 (allS (Or.inr z119) (allS (Or.inr z139) all0))
  refine W.astore X210 hx (hc hby D33 23 rfl) rfl (l' := #[.val (.ref a1), .val (.ref a2), .val (.ref b101), .val (.ref b108), .val (.ref b142), .val (.ref b169), .val (.ref r1_210)]) rfl ?_
  refine W.aloadN X210 hx (hc hby D33 24 rfl) rfl rfl ?_
  refine W.iconst X210 hx (hc hby D33 25 rfl) (v := 0) rfl ?_
  refine W.aloadN X210 hx (hc hby D33 26 rfl) rfl rfl ?_
  refine W.aloadN X210 hx (hc hby D33 27 rfl) rfl rfl ?_
  have F234 := ((Fld.ext E169 ((Fld.ext E142 ((Fld.ext E108 (Fld.ext E101 P1)).keep r125_0 (ninS ne110 nin0))).keep r165_0 (ninS ne144 nin0))).keep r195_0 (ninS ne171 nin0)).keep r210_0 (ninS ne110 (ninS ne128 nin0))
  refine W.getF X210 hx hZ hown (host := "") (Or.inl (wk hw 159 rfl)) Via.refl e210 F234 (hc hby D33 28 rfl) (fun T235 X235 e235 => ?_)
  refine W.aloadN X235 hx (hc hby D33 29 rfl) rfl rfl ?_
  have F236 := ((Fld.ext E169 ((Fld.ext E142 ((Fld.ext E108 (Fld.ext E101 P3)).keep r125_0 (ninS ne112 nin0))).keep r165_0 (ninS ne146 nin0))).keep r195_0 (ninS ne173 nin0)).keep r210_0 (ninS ne112 (ninS ne130 nin0))
  refine W.getF X235 hx hZ hown (host := "") (Or.inl (wk hw 159 rfl)) Via.refl e235 F236 (hc hby D33 30 rfl) (fun T237 X237 e237 => ?_)
  refine W.icmpNo X237 hx (hc hby D33 31 rfl) (by decide) ?_
  refine W.iconst X237 hx (hc hby D33 32 rfl) (v := 1) rfl ?_
  refine W.goto X237 hx (hc hby D33 33 rfl) (by decide) (pc' := 68) rfl ?_
  have ne239 : r3_210 ≠ r1_210 := (Ne.symm (Exa.neArv r210_8 r210_11 (wk hw 177 rfl)))
  refine W.virtual X237 hx hZ hown (wk hw 222 rfl) (wk hw 223 rfl) (notFace_of_selects (args := #[]) (mvT hZ (wk hw 225 rfl))) (wk hw 225 rfl) (wk hw 224 rfl) (wk hw 178 rfl) (wk hw 226 rfl) (by decide) (xMutabl_toBigInteger3 l Z a0 hw SS ix b108 r3_210 k_r3_210 h210 n0 O232 r210_13 r210_9 r210_10 r210_12 r210_11 hcl g118 g230) e237 r210_13 (by rw [hml]; rfl) (argsL := [(.int (1 : Int32))]) (rest := [(.int (0 : Int32)), (.ref b101)]) rfl (lenOf pd__I_Ljava_math_BigInteger_ rfl) rfl (W := 2) (Nat.le_of_eq rfl) (hc hby D33 34 rfl) (by decide) (by decide) (by decide) (by decide) (fun T238 h238 v238 L238 X238 e238 q238 => ?_)
  obtain ⟨r1_238, r2_238, k_r2_238, rfl, N238q, r238_0, r238_1, r238_2, r238_3, r238_4, r238_5, r238_6, r238_7, r238_8, r238_9, r238_10, r238_11, r238_12⟩ := q238
  have N240 := Fr.app N211 N238q
  have F241 := F212.keep r210_0 (ninS ne117 (ninS ne136 nin0))
  have ne242 : b101 ≠ r1_238 := Nat.ne_of_lt (Nat.lt_of_lt_of_le F241.lt r238_1)
  have g243 : n0 ≤ r1_238 := Nat.le_trans (own_le O232) r238_1
  have z244 : h0.size ≤ r1_238 := Nat.le_trans K233.1 r238_1
  have ne245 : b101 ≠ r2_238 := Nat.ne_of_lt (Nat.lt_of_lt_of_le F241.lt r238_2)
  have ne246 : r1_125 ≠ r2_238 := Nat.ne_of_lt (Nat.lt_of_lt_of_le r210_14.lt r238_2)
  have ne247 : r2_210 ≠ r2_238 := Nat.ne_of_lt (Nat.lt_of_lt_of_le r210_6.lt r238_2)
  have ne248 : r3_210 ≠ r2_238 := Nat.ne_of_lt (Nat.lt_of_lt_of_le r210_11.lt r238_2)
  have g249 : n0 ≤ r2_238 := Nat.le_trans (own_le O232) r238_2
  have z250 : h0.size ≤ r2_238 := Nat.le_trans K233.1 r238_2
  have O251 := Old.keep O232 r238_0 (allS g118 (allS g230 all0))
  have K252 : Keep h0 h238 [] := Keep.trans K233 r238_0 (allS (Or.inr z119) (allS (Or.inr z231) all0))
  have F253 := F241.keep r238_0 (ninS ne117 (ninS ne226 nin0))
  obtain ⟨cl254, Ar254, q254, S254, N254, H254, G254⟩ := id F253
  have hi254 : ¬ ((0 : Int32) < 0 ∨ cl254.slots.size ≤ ((0 : Int32)).toNatClampNeg) := inb_of S254 ⟨by decide, by decide⟩
  obtain ⟨T255, h255, X255, e255, W255, st255⟩ := stR X238 hx hZ e238 Ar254 (j := (0 : Int32)) (v := (.ref r1_238)) hi254 rfl (Sto.of Ar254 (q254.symm ▸ Ov101) (Ins.self r238_7)) (g := (mkF m 71 #[.val (.ref a1), .val (.ref a2), .val (.ref b101), .val (.ref b108), .val (.ref b142), .val (.ref b169), .val (.ref r1_210)] [(.ref r1_238), (.int (0 : Int32)), (.ref b101)])) rfl rfl (hc hby D33 35 rfl)
  have O257 := Old.wr O251 W255 g103
  have K258 : Keep h0 h255 [] := K252.wr W255 (Or.inr z104)
  have N259 := Fr.snoc X255 N240 g103
  have F256 : Arv Z h255 b101 k101 (.object "java/math/BigInteger") (2 : Int32) [(.ref r1_238), .null] .null := Arv.set Ar254 q254 S254 N254 H254 G254 rfl W255 0 rfl (Nat.le_of_ble_eq_true rfl)
  refine Win.to T255 (mkF m 72 #[.val (.ref a1), .val (.ref a2), .val (.ref b101), .val (.ref b108), .val (.ref b142), .val (.ref b169), .val (.ref r1_210)] []) (fun _ k => st255 _ k) ?_
  refine W.aloadN X255 hx (hc hby D33 36 rfl) rfl rfl ?_
  refine W.iconst X255 hx (hc hby D33 37 rfl) (v := 1) rfl ?_
  refine W.aload X255 hx (hc hby D33 38 rfl) rfl rfl ?_
  refine W.aloadN X255 hx (hc hby D33 39 rfl) rfl rfl ?_
  have F260 := Fld.other W255 (F234.keep r238_0 (ninS ne110 (ninS ne225 nin0))) (Or.inl ne102)
  refine W.getF X255 hx hZ hown (host := "") (Or.inl (wk hw 159 rfl)) Via.refl e255 F260 (hc hby D33 40 rfl) (fun T261 X261 e261 => ?_)
  have F262 := Fld.other W255 (r210_4.keep r238_0 (ninS (Ne.symm ne214) (ninS (Ne.symm ne239) nin0))) (Or.inl (Ne.symm ne213))
  have F264 := Exa.wr W255 (r210_8.keep r238_0)
  refine W.virtual X261 hx hZ hown (wk hw 222 rfl) (wk hw 223 rfl) (notFace_of_selects (args := #[]) (mvT hZ (wk hw 225 rfl))) (wk hw 225 rfl) (wk hw 224 rfl) (wk hw 178 rfl) (wk hw 226 rfl) (by decide) (xMutabl_toBigInteger2 l Z a0 hw SS r1_210 h255 n0 O257 F262) e261 F264 (by rw [hml]; rfl) (argsL := [(.int (1 : Int32))]) (rest := [(.int (1 : Int32)), (.ref b101)]) rfl (lenOf pd__I_Ljava_math_BigInteger_ rfl) rfl (W := 2) (Nat.le_of_eq rfl) (hc hby D33 41 rfl) (by decide) (by decide) (by decide) (by decide) (fun T263 h263 v263 L263 X263 e263 q263 => ?_)
  obtain ⟨rfl, N263q, r263_0⟩ := q263
  have N265 := Fr.app N259 N263q
  have e263 := e263.trans r263_0
  have F267 := Exa.ext O257.2 SS.E_bz
  obtain ⟨cl266, Ar266, q266, S266, N266, H266, G266⟩ := id F256
  have hi266 : ¬ ((1 : Int32) < 0 ∨ cl266.slots.size ≤ ((1 : Int32)).toNatClampNeg) := inb_of S266 ⟨by decide, by decide⟩
  obtain ⟨T268, h268, X268, e268, W268, st268⟩ := stR X263 hx hZ e263 Ar266 (j := (1 : Int32)) (v := (.ref SS.bz)) hi266 rfl (Sto.of Ar266 (q266.symm ▸ Ov101) (Ins.self F267)) (g := (mkF m 83 #[.val (.ref a1), .val (.ref a2), .val (.ref b101), .val (.ref b108), .val (.ref b142), .val (.ref b169), .val (.ref r1_210)] [(.ref SS.bz), (.int (1 : Int32)), (.ref b101)])) rfl rfl (hc hby D33 42 rfl)
  have O270 := Old.wr O257 W268 g103
  have K271 : Keep h0 h268 [] := K258.wr W268 (Or.inr z104)
  have N272 := Fr.snoc X268 N265 g103
  have F269 : Arv Z h268 b101 k101 (.object "java/math/BigInteger") (2 : Int32) [(.ref r1_238), (.ref SS.bz)] .null := Arv.set Ar266 q266 S266 N266 H266 G266 rfl W268 1 rfl (Nat.le_of_ble_eq_true rfl)
  refine Win.to T268 (mkF m 84 #[.val (.ref a1), .val (.ref a2), .val (.ref b101), .val (.ref b108), .val (.ref b142), .val (.ref b169), .val (.ref r1_210)] []) (fun _ k => st268 _ k) ?_
  refine W.aloadN X268 hx (hc hby D33 43 rfl) rfl rfl ?_
  have F273 := Fld.other W268 (Fld.other W255 r238_3 (Or.inl (Ne.symm ne242))) (Or.inl (Ne.symm ne242))
  have F274 := (r238_4.other W255 (Ne.symm ne245)).other W268 (Ne.symm ne245)
  have F275 := Fld.other W268 (Fld.other W255 r238_5 (Or.inl (Ne.symm ne242))) (Or.inl (Ne.symm ne242))
  have F276 := Fld.other W268 (Fld.other W255 r238_6 (Or.inl (Ne.symm ne242))) (Or.inl (Ne.symm ne242))
  have F277 := Exa.wr W268 (Exa.wr W255 r238_7)
  exact Win.retA X268 hx hlk hret rfl rfl (hc hby D33 44 rfl) (by decide) (by decide) (by (try rw [e268]); exact ⟨b101, r1_238, r2_238, k_r2_238, k101, rfl, N272, K271, z104, z244, z250, F273, F274, F275, F276, F277, F269, (Ne.symm ne245)⟩)
abbrev R_xBigInt_divideAndRemainder2 : Room := ⟨6, 10, 25, 96⟩
theorem xBigInt_divideAndRemainder2 (l : Launch) (Z : State) (a0 : Array Value) (hw : ∀ d ∈ tables_1, d.before a0 Z = true) (SS : Stat Z) (ix : Fin 6) (a1 : Addr) (a2 : Addr) (a3 : Addr) (a4 : Addr) (k_a3 : ClassId) (k_a4 : ClassId) (h0 : Heap) (n0 : Nat) (O0 : Old Z n0 h0) (P0 : Exa Z h0 a1 "java/math/BigInteger") (P1 : Fld Z h0 a1 "java/math/BigInteger" "mag" "[I" (.ref a3)) (P2 : Fld Z h0 a1 "java/math/BigInteger" "signum" "I" (.int (1 : Int32))) (P3 : Fld Z h0 a2 "java/math/BigInteger" "mag" "[I" (.ref a4)) (P4 : Fld Z h0 a2 "java/math/BigInteger" "signum" "I" (.int (1 : Int32))) (P5 : Arv Z h0 a3 k_a3 .int (2 : Int32) [(.int (vI ix [1, 1, 1, 3, 7, 13])), (.int (vI ix [-589934592, -589934592, -589934592, -1179869184, 1935228928, -129542144]))] (.int (0 : Int32))) (P6 : Arv Z h0 a4 k_a4 .int (1 : Int32) [(.int (1000000000 : Int32))] (.int (0 : Int32))) (hcl : ¬ ix.val < 2) :
    MetN l Z (⟨"java/math/BigInteger", "divideAndRemainder", "(Ljava/math/BigInteger;)[Ljava/math/BigInteger;"⟩ : MethodName) jdk_2097_method_63_code 2 (some (.array (.object "java/math/BigInteger"))) R_xBigInt_divideAndRemainder2 [] #[(.ref a1), (.ref a2)] h0 (fun v h L => ∃ (r1 : Addr) (r2 : Addr) (r3 : Addr) (k_r3 : ClassId) (k_r1 : ClassId), v = some (.ref r1) ∧ Fr n0 L ∧ Keep h0 h [] ∧ h0.size ≤ r1 ∧ h0.size ≤ r2 ∧ h0.size ≤ r3 ∧ Fld Z h r2 "java/math/BigInteger" "bitLengthPlusOne" "I" (.int (0 : Int32)) ∧ Arv Z h r3 k_r3 .int (1 : Int32) [(.int (vI ix [2, 4, 8, 16, 32, 60]))] (.int (0 : Int32)) ∧ Fld Z h r2 "java/math/BigInteger" "mag" "[I" (.ref r3) ∧ Fld Z h r2 "java/math/BigInteger" "signum" "I" (.int (1 : Int32)) ∧ Exa Z h r2 "java/math/BigInteger" ∧ Arv Z h r1 k_r1 (.object "java/math/BigInteger") (2 : Int32) [(.ref r2), (.ref SS.bz)] .null ∧ (r3 ≠ r1)) := by
  refine MetN.walk (plainFor_of_name pn_32) ?_
  intro p e s m below meth c s₁ hx hZ hby hml hown hnm hret hlk X0 e0
  have N0 := Fr.nil n0
  refine Win.to s₁ (mkF m 0 #[.val (.ref a1), .val (.ref a2)] []) (fun _ k => castTop rfl k) ?_
  refine W.aloadN X0 hx (hc hby D32 0 rfl) rfl rfl ?_
  refine W.getF X0 hx hZ hown (host := "") (Or.inl (wk hw 162 rfl)) Via.refl e0 P3 (hc hby D32 1 rfl) (fun T101 X101 e101 => ?_)
  obtain ⟨cl102, Ar102, -, S102, N102, -, -⟩ := id P6
  refine Win.to T101 (mkF m 5 #[.val (.ref a1), .val (.ref a2)] [(.int (1 : Int32))]) (fun _ k => X101.arraylength hx (by rw [e101]; exact Ar102.1) (State.isArrayOf_alike hZ.alike Ar102.2.1) (g := (mkF m 4 #[.val (.ref a1), .val (.ref a2)] [(.ref a4)])) rfl rfl (hc hby D32 2 rfl) _ (by rw [len_of S102 N102]; exact k)) ?_
  refine W.bipush X101 hx (hc hby D32 3 rfl) (v := 80) rfl ?_
  refine W.icmpYes X101 hx (hc hby D32 4 rfl) (by decide) (by decide) (pc' := 26) rfl ?_
  refine W.aloadN X101 hx (hc hby D32 5 rfl) rfl rfl ?_
  refine W.aloadN X101 hx (hc hby D32 6 rfl) rfl rfl ?_
  refine W.private X101 hx hZ hown (wk hw 170 rfl) (wk hw 171 rfl) (wk hw 173 rfl) (wk hw 172 rfl) (wk hw 148 rfl) (wk hw 174 rfl) (by decide) (xBigInt_divideAndRemainderKnuth2 l Z a0 hw SS ix a1 a2 a3 a4 k_a3 k_a4 h0 n0 O0 P1 P2 P3 P4 P5 P6 hcl) e101 P0 (by rw [hml]; rfl) (argsL := [(.ref a2)]) (rest := []) rfl (lenOf pd__Ljava_math_BigInteger___Ljava_math_BigInteger_ rfl) rfl (W := 0) (Nat.le_of_eq rfl) (hc hby D32 7 rfl) (by decide) (by decide) (by decide) (by decide) (fun T103 h103 v103 L103 X103 e103 q103 => ?_)
  obtain ⟨r1_103, r2_103, r3_103, k_r3_103, k_r1_103, rfl, N103q, r103_0, r103_1, r103_2, r103_3, r103_4, r103_5, r103_6, r103_7, r103_8, r103_9, r103_10⟩ := q103
  have N104 := Fr.app N0 N103q
  have g105 : n0 ≤ r1_103 := Nat.le_trans (own_le O0) r103_1
  have z106 : h0.size ≤ r1_103 := r103_1
  have g107 : n0 ≤ r2_103 := Nat.le_trans (own_le O0) r103_2
  have z108 : h0.size ≤ r2_103 := r103_2
  have g109 : n0 ≤ r3_103 := Nat.le_trans (own_le O0) r103_3
  have z110 : h0.size ≤ r3_103 := r103_3
  have O111 := Old.keep O0 r103_0 all0
  have K112 : Keep h0 h103 [] := Keep.trans (Keep.refl h0 []) r103_0 all0
  exact Win.retA X103 hx hlk hret rfl rfl (hc hby D32 8 rfl) (by decide) (by decide) (by (try rw [e103]); exact ⟨r1_103, r2_103, r3_103, k_r3_103, k_r1_103, rfl, N104, K112, z106, z108, z110, r103_4, r103_5, r103_6, r103_7, r103_8, r103_9, r103_10⟩)
abbrev R_xDurati_create2 : Room := ⟨7, 14, 40, 109⟩
theorem xDurati_create2 (l : Launch) (Z : State) (a0 : Array Value) (hw : ∀ d ∈ tables_1, d.before a0 Z = true) (SS : Stat Z) (ix : Fin 6) (a1 : Addr) (h0 : Heap) (n0 : Nat) (O0 : Old Z n0 h0) (P0 : Exa Z h0 a1 "java/math/BigDecimal") (P1 : Fld Z h0 a1 "java/math/BigDecimal" "intCompact" "J" (.long (vJ ix [2000000000, 4000000000, 8000000000, 16000000000, 32000000000, 60000000000]))) (P2 : Fld Z h0 a1 "java/math/BigDecimal" "intVal" "Ljava/math/BigInteger;" .null) (P3 : Fld Z h0 a1 "java/math/BigDecimal" "scale" "I" (.int (9 : Int32))) :
    MetN l Z (⟨"java/time/Duration", "create", "(Ljava/math/BigDecimal;)Ljava/time/Duration;"⟩ : MethodName) jdk_2316_method_48_code 3 (some (.object "java/time/Duration")) R_xDurati_create2 [] #[(.ref a1)] h0 (fun v h L => ∃ (r1 : Addr), v = some (.ref r1) ∧ Fr n0 L ∧ Keep h0 h [] ∧ h0.size ≤ r1 ∧ Fld Z h r1 "java/time/Duration" "nanos" "I" (.int (0 : Int32)) ∧ Fld Z h r1 "java/time/Duration" "seconds" "J" (.long (vJ ix [2, 4, 8, 16, 32, 60])) ∧ Exa Z h r1 "java/time/Duration") := by
  refine MetN.walk (plainFor_of_name pn_25) ?_
  intro p e s m below meth c s₁ hx hZ hby hml hown hnm hret hlk X0 e0
  have N0 := Fr.nil n0
  refine Win.to s₁ (mkF m 0 #[.val (.ref a1), .unset, .unset] []) (fun _ k => castTop rfl k) ?_
  by_cases hcl : ix.val < 2
  · refine W.aloadN X0 hx (hc hby D25 0 rfl) rfl rfl ?_
    refine W.bipush X0 hx (hc hby D25 1 rfl) (v := 9) rfl ?_
    refine W.virtual X0 hx hZ hown (wk hw 126 rfl) (wk hw 127 rfl) (notFace_of_selects (args := #[]) (mvT hZ (wk hw 129 rfl))) (wk hw 129 rfl) (wk hw 128 rfl) (wk hw 46 rfl) (wk hw 130 rfl) (by decide) (xBigDec_movePointRight1 l Z a0 hw SS ix a1 h0 n0 O0 P0 P1 P2 P3 hcl) e0 P0 (by rw [hml]; rfl) (argsL := [(.int (9 : Int32))]) (rest := []) rfl (lenOf pd__I_Ljava_math_BigDecimal_ rfl) rfl (W := 0) (Nat.le_of_eq rfl) (hc hby D25 2 rfl) (by decide) (by decide) (by decide) (by decide) (fun T101 h101 v101 L101 X101 e101 q101 => ?_)
    obtain ⟨r1_101, rfl, N101q, r101_0, r101_1, r101_2, r101_3, r101_4, r101_5, r101_6⟩ := q101
    have N102 := Fr.app N0 N101q
    have g103 : n0 ≤ r1_101 := Nat.le_trans (own_le O0) r101_1
    have z104 : h0.size ≤ r1_101 := r101_1
    have O105 := Old.keep O0 r101_0 all0
    have K106 : Keep h0 h101 [] := Keep.trans (Keep.refl h0 []) r101_0 all0
    refine W.virtual X101 hx hZ hown (wk hw 131 rfl) (wk hw 132 rfl) (notFace_of_selects (args := #[]) (mvT hZ (wk hw 134 rfl))) (wk hw 134 rfl) (wk hw 133 rfl) (wk hw 46 rfl) (wk hw 135 rfl) (by decide) (xBigDec_toBigIntegerExact1 l Z a0 hw SS ix r1_101 h101 n0 O105 r101_6 r101_2 r101_3 r101_5 hcl) e101 r101_6 (by rw [hml]; rfl) (argsL := []) (rest := []) rfl (lenOf pd___Ljava_math_BigInteger_ rfl) rfl (W := 0) (Nat.le_of_eq rfl) (hc hby D25 3 rfl) (by decide) (by decide) (by decide) (by decide) (fun T107 h107 v107 L107 X107 e107 q107 => ?_)
    obtain ⟨r1_107, r2_107, k_r2_107, rfl, N107q, r107_0, r107_1, r107_2, r107_3, r107_4, r107_5, r107_6, r107_7⟩ := q107
    have N108 := Fr.app N102 N107q
    have g109 : n0 ≤ r1_107 := Nat.le_trans (own_le O105) r107_1
    have z110 : h0.size ≤ r1_107 := Nat.le_trans K106.1 r107_1
    have g111 : n0 ≤ r2_107 := Nat.le_trans (own_le O105) r107_2
    have z112 : h0.size ≤ r2_107 := Nat.le_trans K106.1 r107_2
    have O113 := Old.keep O105 r107_0 all0
    have K114 : Keep h0 h107 [] := Keep.trans K106 r107_0 all0
    refine W.astoreN X107 hx (hc hby D25 4 rfl) rfl (l' := #[.val (.ref a1), .val (.ref r1_107), .unset]) rfl ?_
    refine W.aloadN X107 hx (hc hby D25 5 rfl) rfl rfl ?_
    obtain ⟨T115, X115, e115, st115⟩ := getS2 X107 hx hZ hown (host := "") (Or.inl (wk hw 164 rfl)) Via.refl e107 (Sta.ext O113.2 SS.S_bn) (g := (mkF m 11 #[.val (.ref a1), .val (.ref r1_107), .unset] [(.ref r1_107)])) rfl (hc hby D25 6 rfl)
    refine Win.to T115 (mkF m 14 #[.val (.ref a1), .val (.ref r1_107), .unset] [(.ref SS.bn), (.ref r1_107)]) (fun _ k => st115 _ k) ?_
    have F116 := Fld.ext O113.2 SS.F_bn_mag
    have F117 := Fld.ext O113.2 SS.F_bn_signum
    have F118 := SS.A_bm.ext O113.2
    refine W.virtual X115 hx hZ hown (wk hw 165 rfl) (wk hw 166 rfl) (notFace_of_selects (args := #[]) (mvT hZ (wk hw 168 rfl))) (wk hw 168 rfl) (wk hw 167 rfl) (wk hw 148 rfl) (wk hw 169 rfl) (by decide) (xBigInt_divideAndRemainder1 l Z a0 hw SS ix r1_107 SS.bn r2_107 SS.bm k_r2_107 SS.k_bm h107 n0 O113 r107_7 r107_5 r107_6 F116 F117 r107_4 F118 hcl) e115 r107_7 (by rw [hml]; rfl) (argsL := [(.ref SS.bn)]) (rest := []) rfl (lenOf pd__Ljava_math_BigInteger___Ljava_math_BigInteger_ rfl) rfl (W := 0) (Nat.le_of_eq rfl) (hc hby D25 7 rfl) (by decide) (by decide) (by decide) (by decide) (fun T119 h119 v119 L119 X119 e119 q119 => ?_)
    obtain ⟨r1_119, r2_119, r3_119, k_r3_119, k_r1_119, rfl, N119q, r119_0, r119_1, r119_2, r119_3, r119_4, r119_5, r119_6, r119_7, r119_8, r119_9, r119_10⟩ := q119
    have N120 := Fr.app N108 N119q
    have ne121 : r2_107 ≠ r1_119 := Nat.ne_of_lt (Nat.lt_of_lt_of_le r107_4.lt r119_1)
    have g122 : n0 ≤ r1_119 := Nat.le_trans (own_le O113) r119_1
    have z123 : h0.size ≤ r1_119 := Nat.le_trans K114.1 r119_1
    have F124 := r101_2.keep r107_0 nin0
    have ne125 : r1_101 ≠ r2_119 := Nat.ne_of_lt (Nat.lt_of_lt_of_le F124.lt r119_2)
    have ne126 : r1_107 ≠ r2_119 := Nat.ne_of_lt (Nat.lt_of_lt_of_le r107_3.lt r119_2)
    have ne127 : r2_107 ≠ r2_119 := Nat.ne_of_lt (Nat.lt_of_lt_of_le r107_4.lt r119_2)
    have g128 : n0 ≤ r2_119 := Nat.le_trans (own_le O113) r119_2
    have z129 : h0.size ≤ r2_119 := Nat.le_trans K114.1 r119_2
    have ne130 : r2_107 ≠ r3_119 := Nat.ne_of_lt (Nat.lt_of_lt_of_le r107_4.lt r119_3)
    have g131 : n0 ≤ r3_119 := Nat.le_trans (own_le O113) r119_3
    have z132 : h0.size ≤ r3_119 := Nat.le_trans K114.1 r119_3
    have O133 := Old.keep O113 r119_0 all0
    have K134 : Keep h0 h119 [] := Keep.trans K114 r119_0 all0
    refine W.astoreN X119 hx (hc hby D25 8 rfl) rfl (l' := #[.val (.ref a1), .val (.ref r1_107), .val (.ref r1_119)]) rfl ?_
    refine W.aloadN X119 hx (hc hby D25 9 rfl) rfl rfl ?_
    refine W.iconst X119 hx (hc hby D25 10 rfl) (v := 0) rfl ?_
    obtain ⟨cl135, Ar135, q135, S135, N135, H135, G135⟩ := id r119_9
    have hi135 : ¬ ((0 : Int32) < 0 ∨ cl135.slots.size ≤ ((0 : Int32)).toNatClampNeg) := inb_of S135 ⟨by decide, by decide⟩
    refine Win.to T119 (mkF m 21 #[.val (.ref a1), .val (.ref r1_107), .val (.ref r1_119)] [(.ref r2_119)]) (fun _ k => X119.aaload hx (j := (0 : Int32)) (v := (.ref r2_119)) (by rw [e119]; exact Ar135.1) (State.isArrayOf_alike hZ.alike Ar135.2.1) rfl Ar135.2.2 hi135 (Has.at H135 hi135 rfl) (g := (mkF m 20 #[.val (.ref a1), .val (.ref r1_107), .val (.ref r1_119)] [(.int (0 : Int32)), (.ref r1_119)])) rfl rfl (hc hby D25 11 rfl) _ k) ?_
    have ne137 : r2_119 ≠ r3_119 := (Exa.neArv r119_8 r119_5 (wk hw 152 rfl))
    have ne138 : r2_119 ≠ r1_119 := (Exa.neArv r119_8 r119_9 (wk hw 152 rfl))
    refine W.virtual X119 hx hZ hown (wk hw 238 rfl) (wk hw 239 rfl) (notFace_of_selects (args := #[]) (mvT hZ (wk hw 241 rfl))) (wk hw 241 rfl) (wk hw 240 rfl) (wk hw 148 rfl) (wk hw 242 rfl) (by decide) (xBigInt_bitLength1 l Z a0 hw SS ix r2_119 r3_119 k_r3_119 h119 n0 O133 r119_8 r119_4 r119_6 r119_7 r119_5 g128) e119 r119_8 (by rw [hml]; rfl) (argsL := []) (rest := []) rfl (lenOf pd___I rfl) rfl (W := 0) (Nat.le_of_eq rfl) (hc hby D25 12 rfl) (by decide) (by decide) (by decide) (by decide) (fun T136 h136 v136 L136 X136 e136 q136 => ?_)
    obtain ⟨rfl, N136q, r136_0, r136_1, r136_2, r136_3, r136_4⟩ := q136
    have N139 := Fr.app N120 N136q
    have O140 := Old.keep O133 r136_0 (allS g128 all0)
    have K141 : Keep h0 h136 [] := Keep.trans K134 r136_0 (allS (Or.inr z129) all0)
    refine W.bipush X136 hx (hc hby D25 13 rfl) (v := 63) rfl ?_
    refine W.icmpYes X136 hx (hc hby D25 14 rfl) ((show ∀ ix : Fin 6, ix.val < 2 → if_icmp.holds .le (vI ix [2, 3, 4, 5, 6, 6]) (63 : Int32) = true from by decide +kernel) ix hcl) (by decide) (pc' := 57) rfl ?_
    refine W.aloadN X136 hx (hc hby D25 15 rfl) rfl rfl ?_
    refine W.iconst X136 hx (hc hby D25 16 rfl) (v := 0) rfl ?_
    have F142 := r119_9.keep r136_0 (ninS (Ne.symm ne138) nin0)
    obtain ⟨cl143, Ar143, q143, S143, N143, H143, G143⟩ := id F142
    have hi143 : ¬ ((0 : Int32) < 0 ∨ cl143.slots.size ≤ ((0 : Int32)).toNatClampNeg) := inb_of S143 ⟨by decide, by decide⟩
    refine Win.to T136 (mkF m 60 #[.val (.ref a1), .val (.ref r1_107), .val (.ref r1_119)] [(.ref r2_119)]) (fun _ k => X136.aaload hx (j := (0 : Int32)) (v := (.ref r2_119)) (by rw [e136]; exact Ar143.1) (State.isArrayOf_alike hZ.alike Ar143.2.1) rfl Ar143.2.2 hi143 (Has.at H143 hi143 rfl) (g := (mkF m 59 #[.val (.ref a1), .val (.ref r1_107), .val (.ref r1_119)] [(.int (0 : Int32)), (.ref r1_119)])) rfl rfl (hc hby D25 17 rfl) _ k) ?_
    have F144 := r119_5.keep r136_0 (ninS (Ne.symm ne137) nin0)
    refine W.virtual X136 hx hZ hown (wk hw 253 rfl) (wk hw 254 rfl) (notFace_of_selects (args := #[]) (mvT hZ (wk hw 256 rfl))) (wk hw 256 rfl) (wk hw 255 rfl) (wk hw 148 rfl) (wk hw 257 rfl) (by decide) (xBigInt_longValue1 l Z a0 hw SS ix r2_119 r3_119 k_r3_119 h136 n0 O140 r136_4 r136_2 r136_3 F144) e136 r136_4 (by rw [hml]; rfl) (argsL := []) (rest := []) rfl (lenOf pd___J rfl) rfl (W := 0) (Nat.le_of_eq rfl) (hc hby D25 18 rfl) (by decide) (by decide) (by decide) (by decide) (fun T145 h145 v145 L145 X145 e145 q145 => ?_)
    obtain ⟨rfl, N145q, r145_0⟩ := q145
    have N146 := Fr.app N139 N145q
    have e145 := e145.trans r145_0
    refine W.aloadN X145 hx (hc hby D25 19 rfl) rfl rfl ?_
    refine W.iconst X145 hx (hc hby D25 20 rfl) (v := 1) rfl ?_
    obtain ⟨cl147, Ar147, q147, S147, N147, H147, G147⟩ := id F142
    have hi147 : ¬ ((1 : Int32) < 0 ∨ cl147.slots.size ≤ ((1 : Int32)).toNatClampNeg) := inb_of S147 ⟨by decide, by decide⟩
    refine Win.to T145 (mkF m 66 #[.val (.ref a1), .val (.ref r1_107), .val (.ref r1_119)] [(.ref SS.bz), (.long (vJ ix [2, 4, 8, 16, 32, 60]))]) (fun _ k => X145.aaload hx (j := (1 : Int32)) (v := (.ref SS.bz)) (by rw [e145]; exact Ar147.1) (State.isArrayOf_alike hZ.alike Ar147.2.1) rfl Ar147.2.2 hi147 (Has.at H147 hi147 rfl) (g := (mkF m 65 #[.val (.ref a1), .val (.ref r1_107), .val (.ref r1_119)] [(.int (1 : Int32)), (.ref r1_119), (.long (vJ ix [2, 4, 8, 16, 32, 60]))])) rfl rfl (hc hby D25 21 rfl) _ k) ?_
    have F148 := Exa.ext O140.2 SS.E_bz
    have F149 := Fld.ext O140.2 SS.F_bz_mag
    have F150 := Fld.ext O140.2 SS.F_bz_signum
    have F151 := SS.A_bzm.ext O140.2
    refine W.virtual X145 hx hZ hown (wk hw 269 rfl) (wk hw 270 rfl) (notFace_of_selects (args := #[]) (mvT hZ (wk hw 272 rfl))) (wk hw 272 rfl) (wk hw 271 rfl) (wk hw 148 rfl) (wk hw 273 rfl) (by decide) (xBigInt_intValue1 l Z a0 hw SS SS.bz SS.bzm SS.k_bzm h136 n0 O140 F148 F149 F150 F151) e145 F148 (by rw [hml]; rfl) (argsL := []) (rest := [(.long (vJ ix [2, 4, 8, 16, 32, 60]))]) rfl (lenOf pd___I rfl) rfl (W := 2) (Nat.le_of_eq rfl) (hc hby D25 22 rfl) (by decide) (by decide) (by decide) (by decide) (fun T152 h152 v152 L152 X152 e152 q152 => ?_)
    obtain ⟨rfl, N152q, r152_0⟩ := q152
    have N153 := Fr.app N146 N152q
    have e152 := e152.trans r152_0
    refine W.i2l X152 hx (hc hby D25 23 rfl) (v := (0 : Int64)) (by decide) ?_
    rcases own_fin6 ix with rfl | rfl | rfl | rfl | rfl | rfl
    · refine Win.to T152 (mkF m 70 #[.val (.ref a1), .val (.ref r1_107), .val (.ref r1_119)] [(.long (0 : Int64)), (.long (2 : Int64))]) (fun _ k => k) ?_
      refine W.static X152 hx hZ hown (wk hw 274 rfl) (wk hw 275 rfl) (wk hw 35 rfl) (wk hw 276 rfl) (by decide) (xDurati_ofSeconds1 l Z a0 hw SS (0 : Fin 6) h136 n0 O140 ) e152 (by rw [hml]; rfl) (argsL := [(.long (2 : Int64)), (.long (0 : Int64))]) (rest := []) rfl (lenOf pd__JJ_Ljava_time_Duration_ rfl) rfl (W := 0) (Nat.le_of_eq rfl) (hc hby D25 24 rfl) (by decide) (by decide) (by decide) (by decide) (fun T154 h154 v154 L154 X154 e154 q154 => ?_)
      obtain ⟨r1_154, rfl, N154q, r154_0, r154_1, r154_2, r154_3, r154_4⟩ := q154
      have N155 := Fr.app N153 N154q
      have g156 : n0 ≤ r1_154 := Nat.le_trans (own_le O140) r154_1
      have z157 : h0.size ≤ r1_154 := Nat.le_trans K141.1 r154_1
      have O158 := Old.keep O140 r154_0 all0
      have K159 : Keep h0 h154 [] := Keep.trans K141 r154_0 all0
      exact Win.retA X154 hx hlk hret rfl rfl (hc hby D25 25 rfl) (by decide) (by decide) (by (try rw [e154]); exact ⟨r1_154, rfl, N155, K159, z157, r154_2, r154_3, r154_4⟩)
    · refine Win.to T152 (mkF m 70 #[.val (.ref a1), .val (.ref r1_107), .val (.ref r1_119)] [(.long (0 : Int64)), (.long (4 : Int64))]) (fun _ k => k) ?_
      refine W.static X152 hx hZ hown (wk hw 274 rfl) (wk hw 275 rfl) (wk hw 35 rfl) (wk hw 276 rfl) (by decide) (xDurati_ofSeconds1 l Z a0 hw SS (1 : Fin 6) h136 n0 O140 ) e152 (by rw [hml]; rfl) (argsL := [(.long (4 : Int64)), (.long (0 : Int64))]) (rest := []) rfl (lenOf pd__JJ_Ljava_time_Duration_ rfl) rfl (W := 0) (Nat.le_of_eq rfl) (hc hby D25 24 rfl) (by decide) (by decide) (by decide) (by decide) (fun T160 h160 v160 L160 X160 e160 q160 => ?_)
      obtain ⟨r1_160, rfl, N160q, r160_0, r160_1, r160_2, r160_3, r160_4⟩ := q160
      have N161 := Fr.app N153 N160q
      have g162 : n0 ≤ r1_160 := Nat.le_trans (own_le O140) r160_1
      have z163 : h0.size ≤ r1_160 := Nat.le_trans K141.1 r160_1
      have O164 := Old.keep O140 r160_0 all0
      have K165 : Keep h0 h160 [] := Keep.trans K141 r160_0 all0
      exact Win.retA X160 hx hlk hret rfl rfl (hc hby D25 25 rfl) (by decide) (by decide) (by (try rw [e160]); exact ⟨r1_160, rfl, N161, K165, z163, r160_2, r160_3, r160_4⟩)
    · exact absurd hcl (by decide)
    · exact absurd hcl (by decide)
    · exact absurd hcl (by decide)
    · exact absurd hcl (by decide)
  · refine W.aloadN X0 hx (hc hby D25 0 rfl) rfl rfl ?_
    refine W.bipush X0 hx (hc hby D25 1 rfl) (v := 9) rfl ?_
    refine W.virtual X0 hx hZ hown (wk hw 126 rfl) (wk hw 127 rfl) (notFace_of_selects (args := #[]) (mvT hZ (wk hw 129 rfl))) (wk hw 129 rfl) (wk hw 128 rfl) (wk hw 46 rfl) (wk hw 130 rfl) (by decide) (xBigDec_movePointRight2 l Z a0 hw SS ix a1 h0 n0 O0 P0 P1 P2 P3 hcl) e0 P0 (by rw [hml]; rfl) (argsL := [(.int (9 : Int32))]) (rest := []) rfl (lenOf pd__I_Ljava_math_BigDecimal_ rfl) rfl (W := 0) (Nat.le_of_eq rfl) (hc hby D25 2 rfl) (by decide) (by decide) (by decide) (by decide) (fun T166 h166 v166 L166 X166 e166 q166 => ?_)
    obtain ⟨r1_166, rfl, N166q, r166_0, r166_1, r166_2, r166_3, r166_4, r166_5, r166_6⟩ := q166
    have N167 := Fr.app N0 N166q
    have g168 : n0 ≤ r1_166 := Nat.le_trans (own_le O0) r166_1
    have z169 : h0.size ≤ r1_166 := r166_1
    have O170 := Old.keep O0 r166_0 all0
    have K171 : Keep h0 h166 [] := Keep.trans (Keep.refl h0 []) r166_0 all0
    refine W.virtual X166 hx hZ hown (wk hw 131 rfl) (wk hw 132 rfl) (notFace_of_selects (args := #[]) (mvT hZ (wk hw 134 rfl))) (wk hw 134 rfl) (wk hw 133 rfl) (wk hw 46 rfl) (wk hw 135 rfl) (by decide) (xBigDec_toBigIntegerExact2 l Z a0 hw SS ix r1_166 h166 n0 O170 r166_6 r166_2 r166_3 r166_5 hcl) e166 r166_6 (by rw [hml]; rfl) (argsL := []) (rest := []) rfl (lenOf pd___Ljava_math_BigInteger_ rfl) rfl (W := 0) (Nat.le_of_eq rfl) (hc hby D25 3 rfl) (by decide) (by decide) (by decide) (by decide) (fun T172 h172 v172 L172 X172 e172 q172 => ?_)
    obtain ⟨r1_172, r2_172, k_r2_172, rfl, N172q, r172_0, r172_1, r172_2, r172_3, r172_4, r172_5, r172_6, r172_7⟩ := q172
    have N173 := Fr.app N167 N172q
    have g174 : n0 ≤ r1_172 := Nat.le_trans (own_le O170) r172_1
    have z175 : h0.size ≤ r1_172 := Nat.le_trans K171.1 r172_1
    have g176 : n0 ≤ r2_172 := Nat.le_trans (own_le O170) r172_2
    have z177 : h0.size ≤ r2_172 := Nat.le_trans K171.1 r172_2
    have O178 := Old.keep O170 r172_0 all0
    have K179 : Keep h0 h172 [] := Keep.trans K171 r172_0 all0
    refine W.astoreN X172 hx (hc hby D25 4 rfl) rfl (l' := #[.val (.ref a1), .val (.ref r1_172), .unset]) rfl ?_
    refine W.aloadN X172 hx (hc hby D25 5 rfl) rfl rfl ?_
    obtain ⟨T180, X180, e180, st180⟩ := getS2 X172 hx hZ hown (host := "") (Or.inl (wk hw 164 rfl)) Via.refl e172 (Sta.ext O178.2 SS.S_bn) (g := (mkF m 11 #[.val (.ref a1), .val (.ref r1_172), .unset] [(.ref r1_172)])) rfl (hc hby D25 6 rfl)
    refine Win.to T180 (mkF m 14 #[.val (.ref a1), .val (.ref r1_172), .unset] [(.ref SS.bn), (.ref r1_172)]) (fun _ k => st180 _ k) ?_
    have F181 := Fld.ext O178.2 SS.F_bn_mag
    have F182 := Fld.ext O178.2 SS.F_bn_signum
    have F183 := SS.A_bm.ext O178.2
    refine W.virtual X180 hx hZ hown (wk hw 165 rfl) (wk hw 166 rfl) (notFace_of_selects (args := #[]) (mvT hZ (wk hw 168 rfl))) (wk hw 168 rfl) (wk hw 167 rfl) (wk hw 148 rfl) (wk hw 169 rfl) (by decide) (xBigInt_divideAndRemainder2 l Z a0 hw SS ix r1_172 SS.bn r2_172 SS.bm k_r2_172 SS.k_bm h172 n0 O178 r172_7 r172_5 r172_6 F181 F182 r172_4 F183 hcl) e180 r172_7 (by rw [hml]; rfl) (argsL := [(.ref SS.bn)]) (rest := []) rfl (lenOf pd__Ljava_math_BigInteger___Ljava_math_BigInteger_ rfl) rfl (W := 0) (Nat.le_of_eq rfl) (hc hby D25 7 rfl) (by decide) (by decide) (by decide) (by decide) (fun T184 h184 v184 L184 X184 e184 q184 => ?_)
    obtain ⟨r1_184, r2_184, r3_184, k_r3_184, k_r1_184, rfl, N184q, r184_0, r184_1, r184_2, r184_3, r184_4, r184_5, r184_6, r184_7, r184_8, r184_9, r184_10⟩ := q184
    have N185 := Fr.app N173 N184q
    have ne186 : r2_172 ≠ r1_184 := Nat.ne_of_lt (Nat.lt_of_lt_of_le r172_4.lt r184_1)
    have g187 : n0 ≤ r1_184 := Nat.le_trans (own_le O178) r184_1
    have z188 : h0.size ≤ r1_184 := Nat.le_trans K179.1 r184_1
    have F189 := r166_2.keep r172_0 nin0
    have ne190 : r1_166 ≠ r2_184 := Nat.ne_of_lt (Nat.lt_of_lt_of_le F189.lt r184_2)
    have ne191 : r1_172 ≠ r2_184 := Nat.ne_of_lt (Nat.lt_of_lt_of_le r172_3.lt r184_2)
    have ne192 : r2_172 ≠ r2_184 := Nat.ne_of_lt (Nat.lt_of_lt_of_le r172_4.lt r184_2)
    have g193 : n0 ≤ r2_184 := Nat.le_trans (own_le O178) r184_2
    have z194 : h0.size ≤ r2_184 := Nat.le_trans K179.1 r184_2
    have ne195 : r2_172 ≠ r3_184 := Nat.ne_of_lt (Nat.lt_of_lt_of_le r172_4.lt r184_3)
    have g196 : n0 ≤ r3_184 := Nat.le_trans (own_le O178) r184_3
    have z197 : h0.size ≤ r3_184 := Nat.le_trans K179.1 r184_3
    have O198 := Old.keep O178 r184_0 all0
    have K199 : Keep h0 h184 [] := Keep.trans K179 r184_0 all0
    refine W.astoreN X184 hx (hc hby D25 8 rfl) rfl (l' := #[.val (.ref a1), .val (.ref r1_172), .val (.ref r1_184)]) rfl ?_
    refine W.aloadN X184 hx (hc hby D25 9 rfl) rfl rfl ?_
    refine W.iconst X184 hx (hc hby D25 10 rfl) (v := 0) rfl ?_
    obtain ⟨cl200, Ar200, q200, S200, N200, H200, G200⟩ := id r184_9
    have hi200 : ¬ ((0 : Int32) < 0 ∨ cl200.slots.size ≤ ((0 : Int32)).toNatClampNeg) := inb_of S200 ⟨by decide, by decide⟩
    refine Win.to T184 (mkF m 21 #[.val (.ref a1), .val (.ref r1_172), .val (.ref r1_184)] [(.ref r2_184)]) (fun _ k => X184.aaload hx (j := (0 : Int32)) (v := (.ref r2_184)) (by rw [e184]; exact Ar200.1) (State.isArrayOf_alike hZ.alike Ar200.2.1) rfl Ar200.2.2 hi200 (Has.at H200 hi200 rfl) (g := (mkF m 20 #[.val (.ref a1), .val (.ref r1_172), .val (.ref r1_184)] [(.int (0 : Int32)), (.ref r1_184)])) rfl rfl (hc hby D25 11 rfl) _ k) ?_
    have ne202 : r2_184 ≠ r3_184 := (Exa.neArv r184_8 r184_5 (wk hw 152 rfl))
    have ne203 : r2_184 ≠ r1_184 := (Exa.neArv r184_8 r184_9 (wk hw 152 rfl))
    refine W.virtual X184 hx hZ hown (wk hw 238 rfl) (wk hw 239 rfl) (notFace_of_selects (args := #[]) (mvT hZ (wk hw 241 rfl))) (wk hw 241 rfl) (wk hw 240 rfl) (wk hw 148 rfl) (wk hw 242 rfl) (by decide) (xBigInt_bitLength1 l Z a0 hw SS ix r2_184 r3_184 k_r3_184 h184 n0 O198 r184_8 r184_4 r184_6 r184_7 r184_5 g193) e184 r184_8 (by rw [hml]; rfl) (argsL := []) (rest := []) rfl (lenOf pd___I rfl) rfl (W := 0) (Nat.le_of_eq rfl) (hc hby D25 12 rfl) (by decide) (by decide) (by decide) (by decide) (fun T201 h201 v201 L201 X201 e201 q201 => ?_)
    obtain ⟨rfl, N201q, r201_0, r201_1, r201_2, r201_3, r201_4⟩ := q201
    have N204 := Fr.app N185 N201q
    have O205 := Old.keep O198 r201_0 (allS g193 all0)
    have K206 : Keep h0 h201 [] := Keep.trans K199 r201_0 (allS (Or.inr z194) all0)
    refine W.bipush X201 hx (hc hby D25 13 rfl) (v := 63) rfl ?_
    refine W.icmpYes X201 hx (hc hby D25 14 rfl) ((show ∀ ix : Fin 6, ¬ ix.val < 2 → if_icmp.holds .le (vI ix [2, 3, 4, 5, 6, 6]) (63 : Int32) = true from by decide +kernel) ix hcl) (by decide) (pc' := 57) rfl ?_
    refine W.aloadN X201 hx (hc hby D25 15 rfl) rfl rfl ?_
    refine W.iconst X201 hx (hc hby D25 16 rfl) (v := 0) rfl ?_
    have F207 := r184_9.keep r201_0 (ninS (Ne.symm ne203) nin0)
    obtain ⟨cl208, Ar208, q208, S208, N208, H208, G208⟩ := id F207
    have hi208 : ¬ ((0 : Int32) < 0 ∨ cl208.slots.size ≤ ((0 : Int32)).toNatClampNeg) := inb_of S208 ⟨by decide, by decide⟩
    refine Win.to T201 (mkF m 60 #[.val (.ref a1), .val (.ref r1_172), .val (.ref r1_184)] [(.ref r2_184)]) (fun _ k => X201.aaload hx (j := (0 : Int32)) (v := (.ref r2_184)) (by rw [e201]; exact Ar208.1) (State.isArrayOf_alike hZ.alike Ar208.2.1) rfl Ar208.2.2 hi208 (Has.at H208 hi208 rfl) (g := (mkF m 59 #[.val (.ref a1), .val (.ref r1_172), .val (.ref r1_184)] [(.int (0 : Int32)), (.ref r1_184)])) rfl rfl (hc hby D25 17 rfl) _ k) ?_
    have F209 := r184_5.keep r201_0 (ninS (Ne.symm ne202) nin0)
    refine W.virtual X201 hx hZ hown (wk hw 253 rfl) (wk hw 254 rfl) (notFace_of_selects (args := #[]) (mvT hZ (wk hw 256 rfl))) (wk hw 256 rfl) (wk hw 255 rfl) (wk hw 148 rfl) (wk hw 257 rfl) (by decide) (xBigInt_longValue1 l Z a0 hw SS ix r2_184 r3_184 k_r3_184 h201 n0 O205 r201_4 r201_2 r201_3 F209) e201 r201_4 (by rw [hml]; rfl) (argsL := []) (rest := []) rfl (lenOf pd___J rfl) rfl (W := 0) (Nat.le_of_eq rfl) (hc hby D25 18 rfl) (by decide) (by decide) (by decide) (by decide) (fun T210 h210 v210 L210 X210 e210 q210 => ?_)
    obtain ⟨rfl, N210q, r210_0⟩ := q210
    have N211 := Fr.app N204 N210q
    have e210 := e210.trans r210_0
    refine W.aloadN X210 hx (hc hby D25 19 rfl) rfl rfl ?_
    refine W.iconst X210 hx (hc hby D25 20 rfl) (v := 1) rfl ?_
    obtain ⟨cl212, Ar212, q212, S212, N212, H212, G212⟩ := id F207
    have hi212 : ¬ ((1 : Int32) < 0 ∨ cl212.slots.size ≤ ((1 : Int32)).toNatClampNeg) := inb_of S212 ⟨by decide, by decide⟩
    refine Win.to T210 (mkF m 66 #[.val (.ref a1), .val (.ref r1_172), .val (.ref r1_184)] [(.ref SS.bz), (.long (vJ ix [2, 4, 8, 16, 32, 60]))]) (fun _ k => X210.aaload hx (j := (1 : Int32)) (v := (.ref SS.bz)) (by rw [e210]; exact Ar212.1) (State.isArrayOf_alike hZ.alike Ar212.2.1) rfl Ar212.2.2 hi212 (Has.at H212 hi212 rfl) (g := (mkF m 65 #[.val (.ref a1), .val (.ref r1_172), .val (.ref r1_184)] [(.int (1 : Int32)), (.ref r1_184), (.long (vJ ix [2, 4, 8, 16, 32, 60]))])) rfl rfl (hc hby D25 21 rfl) _ k) ?_
    have F213 := Exa.ext O205.2 SS.E_bz
    have F214 := Fld.ext O205.2 SS.F_bz_mag
    have F215 := Fld.ext O205.2 SS.F_bz_signum
    have F216 := SS.A_bzm.ext O205.2
    refine W.virtual X210 hx hZ hown (wk hw 269 rfl) (wk hw 270 rfl) (notFace_of_selects (args := #[]) (mvT hZ (wk hw 272 rfl))) (wk hw 272 rfl) (wk hw 271 rfl) (wk hw 148 rfl) (wk hw 273 rfl) (by decide) (xBigInt_intValue1 l Z a0 hw SS SS.bz SS.bzm SS.k_bzm h201 n0 O205 F213 F214 F215 F216) e210 F213 (by rw [hml]; rfl) (argsL := []) (rest := [(.long (vJ ix [2, 4, 8, 16, 32, 60]))]) rfl (lenOf pd___I rfl) rfl (W := 2) (Nat.le_of_eq rfl) (hc hby D25 22 rfl) (by decide) (by decide) (by decide) (by decide) (fun T217 h217 v217 L217 X217 e217 q217 => ?_)
    obtain ⟨rfl, N217q, r217_0⟩ := q217
    have N218 := Fr.app N211 N217q
    have e217 := e217.trans r217_0
    refine W.i2l X217 hx (hc hby D25 23 rfl) (v := (0 : Int64)) (by decide) ?_
    rcases own_fin6 ix with rfl | rfl | rfl | rfl | rfl | rfl
    · exact absurd hcl (by decide)
    · exact absurd hcl (by decide)
    · refine Win.to T217 (mkF m 70 #[.val (.ref a1), .val (.ref r1_172), .val (.ref r1_184)] [(.long (0 : Int64)), (.long (8 : Int64))]) (fun _ k => k) ?_
      refine W.static X217 hx hZ hown (wk hw 274 rfl) (wk hw 275 rfl) (wk hw 35 rfl) (wk hw 276 rfl) (by decide) (xDurati_ofSeconds1 l Z a0 hw SS (2 : Fin 6) h201 n0 O205 ) e217 (by rw [hml]; rfl) (argsL := [(.long (8 : Int64)), (.long (0 : Int64))]) (rest := []) rfl (lenOf pd__JJ_Ljava_time_Duration_ rfl) rfl (W := 0) (Nat.le_of_eq rfl) (hc hby D25 24 rfl) (by decide) (by decide) (by decide) (by decide) (fun T219 h219 v219 L219 X219 e219 q219 => ?_)
      obtain ⟨r1_219, rfl, N219q, r219_0, r219_1, r219_2, r219_3, r219_4⟩ := q219
      have N220 := Fr.app N218 N219q
      have g221 : n0 ≤ r1_219 := Nat.le_trans (own_le O205) r219_1
      have z222 : h0.size ≤ r1_219 := Nat.le_trans K206.1 r219_1
      have O223 := Old.keep O205 r219_0 all0
      have K224 : Keep h0 h219 [] := Keep.trans K206 r219_0 all0
      exact Win.retA X219 hx hlk hret rfl rfl (hc hby D25 25 rfl) (by decide) (by decide) (by (try rw [e219]); exact ⟨r1_219, rfl, N220, K224, z222, r219_2, r219_3, r219_4⟩)
    · refine Win.to T217 (mkF m 70 #[.val (.ref a1), .val (.ref r1_172), .val (.ref r1_184)] [(.long (0 : Int64)), (.long (16 : Int64))]) (fun _ k => k) ?_
      refine W.static X217 hx hZ hown (wk hw 274 rfl) (wk hw 275 rfl) (wk hw 35 rfl) (wk hw 276 rfl) (by decide) (xDurati_ofSeconds1 l Z a0 hw SS (3 : Fin 6) h201 n0 O205 ) e217 (by rw [hml]; rfl) (argsL := [(.long (16 : Int64)), (.long (0 : Int64))]) (rest := []) rfl (lenOf pd__JJ_Ljava_time_Duration_ rfl) rfl (W := 0) (Nat.le_of_eq rfl) (hc hby D25 24 rfl) (by decide) (by decide) (by decide) (by decide) (fun T225 h225 v225 L225 X225 e225 q225 => ?_)
      obtain ⟨r1_225, rfl, N225q, r225_0, r225_1, r225_2, r225_3, r225_4⟩ := q225
      have N226 := Fr.app N218 N225q
      have g227 : n0 ≤ r1_225 := Nat.le_trans (own_le O205) r225_1
      have z228 : h0.size ≤ r1_225 := Nat.le_trans K206.1 r225_1
      have O229 := Old.keep O205 r225_0 all0
      have K230 : Keep h0 h225 [] := Keep.trans K206 r225_0 all0
      exact Win.retA X225 hx hlk hret rfl rfl (hc hby D25 25 rfl) (by decide) (by decide) (by (try rw [e225]); exact ⟨r1_225, rfl, N226, K230, z228, r225_2, r225_3, r225_4⟩)
    · refine Win.to T217 (mkF m 70 #[.val (.ref a1), .val (.ref r1_172), .val (.ref r1_184)] [(.long (0 : Int64)), (.long (32 : Int64))]) (fun _ k => k) ?_
      refine W.static X217 hx hZ hown (wk hw 274 rfl) (wk hw 275 rfl) (wk hw 35 rfl) (wk hw 276 rfl) (by decide) (xDurati_ofSeconds1 l Z a0 hw SS (4 : Fin 6) h201 n0 O205 ) e217 (by rw [hml]; rfl) (argsL := [(.long (32 : Int64)), (.long (0 : Int64))]) (rest := []) rfl (lenOf pd__JJ_Ljava_time_Duration_ rfl) rfl (W := 0) (Nat.le_of_eq rfl) (hc hby D25 24 rfl) (by decide) (by decide) (by decide) (by decide) (fun T231 h231 v231 L231 X231 e231 q231 => ?_)
      obtain ⟨r1_231, rfl, N231q, r231_0, r231_1, r231_2, r231_3, r231_4⟩ := q231
      have N232 := Fr.app N218 N231q
      have g233 : n0 ≤ r1_231 := Nat.le_trans (own_le O205) r231_1
      have z234 : h0.size ≤ r1_231 := Nat.le_trans K206.1 r231_1
      have O235 := Old.keep O205 r231_0 all0
      have K236 : Keep h0 h231 [] := Keep.trans K206 r231_0 all0
      exact Win.retA X231 hx hlk hret rfl rfl (hc hby D25 25 rfl) (by decide) (by decide) (by (try rw [e231]); exact ⟨r1_231, rfl, N232, K236, z234, r231_2, r231_3, r231_4⟩)
    · refine Win.to T217 (mkF m 70 #[.val (.ref a1), .val (.ref r1_172), .val (.ref r1_184)] [(.long (0 : Int64)), (.long (60 : Int64))]) (fun _ k => k) ?_
      refine W.static X217 hx hZ hown (wk hw 274 rfl) (wk hw 275 rfl) (wk hw 35 rfl) (wk hw 276 rfl) (by decide) (xDurati_ofSeconds1 l Z a0 hw SS (5 : Fin 6) h201 n0 O205 ) e217 (by rw [hml]; rfl) (argsL := [(.long (60 : Int64)), (.long (0 : Int64))]) (rest := []) rfl (lenOf pd__JJ_Ljava_time_Duration_ rfl) rfl (W := 0) (Nat.le_of_eq rfl) (hc hby D25 24 rfl) (by decide) (by decide) (by decide) (by decide) (fun T237 h237 v237 L237 X237 e237 q237 => ?_)
      obtain ⟨r1_237, rfl, N237q, r237_0, r237_1, r237_2, r237_3, r237_4⟩ := q237
      have N238 := Fr.app N218 N237q
      have g239 : n0 ≤ r1_237 := Nat.le_trans (own_le O205) r237_1
      have z240 : h0.size ≤ r1_237 := Nat.le_trans K206.1 r237_1
      have O241 := Old.keep O205 r237_0 all0
      have K242 : Keep h0 h237 [] := Keep.trans K206 r237_0 all0
      exact Win.retA X237 hx hlk hret rfl rfl (hc hby D25 25 rfl) (by decide) (by decide) (by (try rw [e237]); exact ⟨r1_237, rfl, N238, K242, z240, r237_2, r237_3, r237_4⟩)
abbrev R_xDurati_multipliedBy1 : Room := ⟨8, 18, 60, 123⟩
theorem xDurati_multipliedBy1 (l : Launch) (Z : State) (a0 : Array Value) (hw : ∀ d ∈ tables_1, d.before a0 Z = true) (SS : Stat Z) (ix : Fin 6) (a1 : Addr) (h0 : Heap) (n0 : Nat) (O0 : Old Z n0 h0) (P0 : Exa Z h0 a1 "java/time/Duration") (P1 : Fld Z h0 a1 "java/time/Duration" "nanos" "I" (.int (0 : Int32))) (P2 : Fld Z h0 a1 "java/time/Duration" "seconds" "J" (.long (vJ ix [1, 2, 4, 8, 16, 30]))) :
    MetN l Z (⟨"java/time/Duration", "multipliedBy", "(J)Ljava/time/Duration;"⟩ : MethodName) jdk_2316_method_44_code 3 (some (.object "java/time/Duration")) R_xDurati_multipliedBy1 [] #[(.ref a1), (.long (2 : Int64))] h0 (fun v h L => ∃ (r1 : Addr), v = some (.ref r1) ∧ Fr n0 L ∧ Keep h0 h [] ∧ h0.size ≤ r1 ∧ Fld Z h r1 "java/time/Duration" "nanos" "I" (.int (0 : Int32)) ∧ Fld Z h r1 "java/time/Duration" "seconds" "J" (.long (vJ ix [2, 4, 8, 16, 32, 60])) ∧ Exa Z h r1 "java/time/Duration") := by
  refine MetN.walk (plainFor_of_name pn_7) ?_
  intro p e s m below meth c s₁ hx hZ hby hml hown hnm hret hlk X0 e0
  have N0 := Fr.nil n0
  refine Win.to s₁ (mkF m 0 #[.val (.ref a1), .val (.long (2 : Int64)), .second] []) (fun _ k => castTop rfl k) ?_
  refine W.lloadN X0 hx (hc hby D7 0 rfl) rfl ?_
  refine W.lconst X0 hx (hc hby D7 1 rfl) (v := 0) rfl ?_
  refine W.lcmp X0 hx (hc hby D7 2 rfl) (v := (1 : Int32)) (by decide) ?_
  refine W.ifYes X0 hx (hc hby D7 3 rfl) (by decide) (by decide) (pc' := 10) rfl ?_
  refine W.lloadN X0 hx (hc hby D7 4 rfl) rfl ?_
  refine W.lconst X0 hx (hc hby D7 5 rfl) (v := 1) rfl ?_
  refine W.lcmp X0 hx (hc hby D7 6 rfl) (v := (1 : Int32)) (by decide) ?_
  refine W.ifYes X0 hx (hc hby D7 7 rfl) (by decide) (by decide) (pc' := 18) rfl ?_
  refine W.aloadN X0 hx (hc hby D7 8 rfl) rfl rfl ?_
  refine W.private X0 hx hZ hown (wk hw 37 rfl) (wk hw 38 rfl) (wk hw 40 rfl) (wk hw 39 rfl) (wk hw 35 rfl) (wk hw 41 rfl) (by decide) (xDurati_toBigDecimalSeconds1 l Z a0 hw SS ix a1 h0 n0 O0 P1 P2) e0 P0 (by rw [hml]; rfl) (argsL := []) (rest := []) rfl (lenOf pd___Ljava_math_BigDecimal_ rfl) rfl (W := 0) (Nat.le_of_eq rfl) (hc hby D7 9 rfl) (by decide) (by decide) (by decide) (by decide) (fun T101 h101 v101 L101 X101 e101 q101 => ?_)
  obtain ⟨r1_101, rfl, N101q, r101_0, r101_1, r101_2, r101_3, r101_4, r101_5, r101_6⟩ := q101
  have N102 := Fr.app N0 N101q
  have g103 : n0 ≤ r1_101 := Nat.le_trans (own_le O0) r101_1
  have z104 : h0.size ≤ r1_101 := r101_1
  have O105 := Old.keep O0 r101_0 all0
  have K106 : Keep h0 h101 [] := Keep.trans (Keep.refl h0 []) r101_0 all0
  refine W.lloadN X101 hx (hc hby D7 10 rfl) rfl ?_
  refine W.static X101 hx hZ hown (wk hw 44 rfl) (wk hw 45 rfl) (wk hw 46 rfl) (wk hw 47 rfl) (by decide) (xBigDec_valueOf1 l Z a0 hw SS (1 : Fin 6) h101 n0 O105 ) e101 (by rw [hml]; rfl) (argsL := [(.long (2 : Int64))]) (rest := [(.ref r1_101)]) rfl (lenOf pd__J_Ljava_math_BigDecimal_ rfl) rfl (W := 1) (Nat.le_of_eq rfl) (hc hby D7 11 rfl) (by decide) (by decide) (by decide) (by decide) (fun T107 h107 v107 L107 X107 e107 q107 => ?_)
  obtain ⟨r1_107, rfl, N107q, r107_0, r107_1, r107_2, r107_3⟩ := q107
  have N108 := Fr.app N102 N107q
  have O109 := Old.keep O105 r107_0 all0
  have K110 : Keep h0 h107 [] := Keep.trans K106 r107_0 all0
  have F111 := r101_6.keep r107_0
  have F112 := r101_2.keep r107_0 nin0
  have F113 := r101_5.keep r107_0 nin0
  refine W.virtual X107 hx hZ hown (wk hw 103 rfl) (wk hw 104 rfl) (notFace_of_selects (args := #[]) (mvT hZ (wk hw 106 rfl))) (wk hw 106 rfl) (wk hw 105 rfl) (wk hw 46 rfl) (wk hw 107 rfl) (by decide) (xBigDec_multiply1 l Z a0 hw SS ix r1_101 r1_107 h107 n0 O109 F111 F112 F113 r107_1 r107_2) e107 F111 (by rw [hml]; rfl) (argsL := [(.ref r1_107)]) (rest := []) rfl (lenOf pd__Ljava_math_BigDecimal__Ljava_math_BigDecimal_ rfl) rfl (W := 0) (Nat.le_of_eq rfl) (hc hby D7 12 rfl) (by decide) (by decide) (by decide) (by decide) (fun T114 h114 v114 L114 X114 e114 q114 => ?_)
  obtain ⟨r1_114, rfl, N114q, r114_0, r114_1, r114_2, r114_3, r114_4, r114_5, r114_6⟩ := q114
  have N115 := Fr.app N108 N114q
  have ne116 : r1_101 ≠ r1_114 := Nat.ne_of_lt (Nat.lt_of_lt_of_le F112.lt r114_1)
  have g117 : n0 ≤ r1_114 := Nat.le_trans (own_le O109) r114_1
  have z118 : h0.size ≤ r1_114 := Nat.le_trans K110.1 r114_1
  have O119 := Old.keep O109 r114_0 all0
  have K120 : Keep h0 h114 [] := Keep.trans K110 r114_0 all0
  refine W.static X114 hx hZ hown (wk hw 123 rfl) (wk hw 124 rfl) (wk hw 35 rfl) (wk hw 125 rfl) (by decide) (xDurati_create2 l Z a0 hw SS ix r1_114 h114 n0 O119 r114_6 r114_2 r114_3 r114_5) e114 (by rw [hml]; rfl) (argsL := [(.ref r1_114)]) (rest := []) rfl (lenOf pd__Ljava_math_BigDecimal__Ljava_time_Duration_ rfl) rfl (W := 0) (Nat.le_of_eq rfl) (hc hby D7 13 rfl) (by decide) (by decide) (by decide) (by decide) (fun T121 h121 v121 L121 X121 e121 q121 => ?_)
  obtain ⟨r1_121, rfl, N121q, r121_0, r121_1, r121_2, r121_3, r121_4⟩ := q121
  have N122 := Fr.app N115 N121q
  have g123 : n0 ≤ r1_121 := Nat.le_trans (own_le O119) r121_1
  have z124 : h0.size ≤ r1_121 := Nat.le_trans K120.1 r121_1
  have O125 := Old.keep O119 r121_0 all0
  have K126 : Keep h0 h121 [] := Keep.trans K120 r121_0 all0
  exact Win.retA X121 hx hlk hret rfl rfl (hc hby D7 14 rfl) (by decide) (by decide) (by (try rw [e121]); exact ⟨r1_121, rfl, N122, K126, z124, r121_2, r121_3, r121_4⟩)
abbrev R_xLong_compare1 : Room := ⟨0, 0, 0, 0⟩
theorem xLong_compare1 (l : Launch) (Z : State) (a0 : Array Value) (hw : ∀ d ∈ tables_1, d.before a0 Z = true) (SS : Stat Z) (ix : Fin 6) (h0 : Heap) (n0 : Nat) (O0 : Old Z n0 h0)  :
    MetN l Z (⟨"java/lang/Long", "compare", "(JJ)I"⟩ : MethodName) jdk_35_method_42_code 4 (some .int) R_xLong_compare1 [] #[(.long (vJ ix [2, 4, 8, 16, 32, 60])), (.long (30 : Int64))] h0 (fun v h L => v = some (.int (vI ix [-1, -1, -1, -1, 1, 1])) ∧ Fr n0 L ∧ h = h0) := by
  refine MetN.walk (plainFor_of_name pn_58) ?_
  intro p e s m below meth c s₁ hx hZ hby hml hown hnm hret hlk X0 e0
  have N0 := Fr.nil n0
  refine Win.to s₁ (mkF m 0 #[.val (.long (vJ ix [2, 4, 8, 16, 32, 60])), .second, .val (.long (30 : Int64)), .second] []) (fun _ k => castTop rfl k) ?_
  refine W.lloadN X0 hx (hc hby D58 0 rfl) rfl ?_
  refine W.lloadN X0 hx (hc hby D58 1 rfl) rfl ?_
  refine W.lcmp X0 hx (hc hby D58 2 rfl) (v := (vI ix [-1, -1, -1, -1, 1, 1])) ((show ∀ ix : Fin 6, lcmpW (vJ ix [2, 4, 8, 16, 32, 60]) (30 : Int64) = (vI ix [-1, -1, -1, -1, 1, 1]) from by decide +kernel) ix) ?_
  rcases own_fin6 ix with rfl | rfl | rfl | rfl | rfl | rfl
  · refine Win.to s₁ (mkF m 3 #[.val (.long (2 : Int64)), .second, .val (.long (30 : Int64)), .second] [(.int (-1 : Int32))]) (fun _ k => k) ?_
    refine W.ifNo X0 hx (hc hby D58 3 rfl) (by decide) ?_
    refine W.iconst X0 hx (hc hby D58 4 rfl) (v := (-1)) rfl ?_
    refine W.goto X0 hx (hc hby D58 5 rfl) (by decide) (pc' := 21) rfl ?_
    exact Win.retI X0 hx hlk hret (hc hby D58 6 rfl) (by decide) (by decide) (by (try rw [e0]); exact ⟨rfl, N0, rfl⟩)
  · refine Win.to s₁ (mkF m 3 #[.val (.long (4 : Int64)), .second, .val (.long (30 : Int64)), .second] [(.int (-1 : Int32))]) (fun _ k => k) ?_
    refine W.ifNo X0 hx (hc hby D58 3 rfl) (by decide) ?_
    refine W.iconst X0 hx (hc hby D58 4 rfl) (v := (-1)) rfl ?_
    refine W.goto X0 hx (hc hby D58 5 rfl) (by decide) (pc' := 21) rfl ?_
    exact Win.retI X0 hx hlk hret (hc hby D58 6 rfl) (by decide) (by decide) (by (try rw [e0]); exact ⟨rfl, N0, rfl⟩)
  · refine Win.to s₁ (mkF m 3 #[.val (.long (8 : Int64)), .second, .val (.long (30 : Int64)), .second] [(.int (-1 : Int32))]) (fun _ k => k) ?_
    refine W.ifNo X0 hx (hc hby D58 3 rfl) (by decide) ?_
    refine W.iconst X0 hx (hc hby D58 4 rfl) (v := (-1)) rfl ?_
    refine W.goto X0 hx (hc hby D58 5 rfl) (by decide) (pc' := 21) rfl ?_
    exact Win.retI X0 hx hlk hret (hc hby D58 6 rfl) (by decide) (by decide) (by (try rw [e0]); exact ⟨rfl, N0, rfl⟩)
  · refine Win.to s₁ (mkF m 3 #[.val (.long (16 : Int64)), .second, .val (.long (30 : Int64)), .second] [(.int (-1 : Int32))]) (fun _ k => k) ?_
    refine W.ifNo X0 hx (hc hby D58 3 rfl) (by decide) ?_
    refine W.iconst X0 hx (hc hby D58 4 rfl) (v := (-1)) rfl ?_
    refine W.goto X0 hx (hc hby D58 5 rfl) (by decide) (pc' := 21) rfl ?_
    exact Win.retI X0 hx hlk hret (hc hby D58 6 rfl) (by decide) (by decide) (by (try rw [e0]); exact ⟨rfl, N0, rfl⟩)
  · refine Win.to s₁ (mkF m 3 #[.val (.long (32 : Int64)), .second, .val (.long (30 : Int64)), .second] [(.int (1 : Int32))]) (fun _ k => k) ?_
    refine W.ifYes X0 hx (hc hby D58 3 rfl) (by decide) (by decide) (pc' := 10) rfl ?_
    refine W.lloadN X0 hx (hc hby D58 7 rfl) rfl ?_
    refine W.lloadN X0 hx (hc hby D58 8 rfl) rfl ?_
    refine W.lcmp X0 hx (hc hby D58 9 rfl) (v := (1 : Int32)) (by decide) ?_
    refine W.ifYes X0 hx (hc hby D58 10 rfl) (by decide) (by decide) (pc' := 20) rfl ?_
    refine W.iconst X0 hx (hc hby D58 11 rfl) (v := 1) rfl ?_
    exact Win.retI X0 hx hlk hret (hc hby D58 6 rfl) (by decide) (by decide) (by (try rw [e0]); exact ⟨rfl, N0, rfl⟩)
  · refine Win.to s₁ (mkF m 3 #[.val (.long (60 : Int64)), .second, .val (.long (30 : Int64)), .second] [(.int (1 : Int32))]) (fun _ k => k) ?_
    refine W.ifYes X0 hx (hc hby D58 3 rfl) (by decide) (by decide) (pc' := 10) rfl ?_
    refine W.lloadN X0 hx (hc hby D58 7 rfl) rfl ?_
    refine W.lloadN X0 hx (hc hby D58 8 rfl) rfl ?_
    refine W.lcmp X0 hx (hc hby D58 9 rfl) (v := (1 : Int32)) (by decide) ?_
    refine W.ifYes X0 hx (hc hby D58 10 rfl) (by decide) (by decide) (pc' := 20) rfl ?_
    refine W.iconst X0 hx (hc hby D58 11 rfl) (v := 1) rfl ?_
    exact Win.retI X0 hx hlk hret (hc hby D58 6 rfl) (by decide) (by decide) (by (try rw [e0]); exact ⟨rfl, N0, rfl⟩)
abbrev R_xDurati_compareTo1 : Room := ⟨1, 0, 0, 15⟩
theorem xDurati_compareTo1 (l : Launch) (Z : State) (a0 : Array Value) (hw : ∀ d ∈ tables_1, d.before a0 Z = true) (SS : Stat Z) (ix : Fin 6) (a1 : Addr) (a2 : Addr) (h0 : Heap) (n0 : Nat) (O0 : Old Z n0 h0) (P0 : Fld Z h0 a1 "java/time/Duration" "seconds" "J" (.long (vJ ix [2, 4, 8, 16, 32, 60]))) (P1 : Fld Z h0 a2 "java/time/Duration" "seconds" "J" (.long (30 : Int64))) :
    MetN l Z (⟨"java/time/Duration", "compareTo", "(Ljava/time/Duration;)I"⟩ : MethodName) jdk_2316_method_66_code 3 (some .int) R_xDurati_compareTo1 [] #[(.ref a1), (.ref a2)] h0 (fun v h L => v = some (.int (vI ix [-1, -1, -1, -1, 1, 1])) ∧ Fr n0 L ∧ h = h0) := by
  refine MetN.walk (plainFor_of_name pn_57) ?_
  intro p e s m below meth c s₁ hx hZ hby hml hown hnm hret hlk X0 e0
  have N0 := Fr.nil n0
  refine Win.to s₁ (mkF m 0 #[.val (.ref a1), .val (.ref a2), .unset] []) (fun _ k => castTop rfl k) ?_
  refine W.aloadN X0 hx (hc hby D57 0 rfl) rfl rfl ?_
  refine W.getF X0 hx hZ hown (host := "") (Or.inl (wk hw 42 rfl)) Via.refl e0 P0 (hc hby D57 1 rfl) (fun T101 X101 e101 => ?_)
  refine W.aloadN X101 hx (hc hby D57 2 rfl) rfl rfl ?_
  refine W.getF X101 hx hZ hown (host := "") (Or.inl (wk hw 42 rfl)) Via.refl e101 P1 (hc hby D57 3 rfl) (fun T102 X102 e102 => ?_)
  refine W.static X102 hx hZ hown (wk hw 304 rfl) (wk hw 305 rfl) (wk hw 306 rfl) (wk hw 307 rfl) (by decide) (xLong_compare1 l Z a0 hw SS ix h0 n0 O0 ) e102 (by rw [hml]; rfl) (argsL := [(.long (vJ ix [2, 4, 8, 16, 32, 60])), (.long (30 : Int64))]) (rest := []) rfl (lenOf pd__JJ_I rfl) rfl (W := 0) (Nat.le_of_eq rfl) (hc hby D57 4 rfl) (by decide) (by decide) (by decide) (by decide) (fun T103 h103 v103 L103 X103 e103 q103 => ?_)
  obtain ⟨rfl, N103q, r103_0⟩ := q103
  have N104 := Fr.app N0 N103q
  have e103 := e103.trans r103_0
  refine W.istoreN X103 hx (hc hby D57 5 rfl) (l' := #[.val (.ref a1), .val (.ref a2), .val (.int (vI ix [-1, -1, -1, -1, 1, 1]))]) rfl ?_
  refine W.iloadN X103 hx (hc hby D57 6 rfl) rfl ?_
  refine W.ifNo X103 hx (hc hby D57 7 rfl) ((show ∀ ix : Fin 6, ifCond.holds .eq (vI ix [-1, -1, -1, -1, 1, 1]) = false from by decide +kernel) ix) ?_
  refine W.iloadN X103 hx (hc hby D57 8 rfl) rfl ?_
  exact Win.retI X103 hx hlk hret (hc hby D57 9 rfl) (by decide) (by decide) (by (try rw [e103]); exact ⟨rfl, N104, rfl⟩)
abbrev R_xPause_next1 : Room := ⟨9, 18, 60, 137⟩
theorem xPause_next1 (l : Launch) (Z : State) (a0 : Array Value) (hw : ∀ d ∈ tables_1, d.before a0 Z = true) (SS : Stat Z) (ix : Fin 6) (a1 : Addr) (a2 : Addr) (h0 : Heap) (n0 : Nat) (O0 : Old Z n0 h0) (P0 : Exa Z h0 a1 "com/example/usher/usher/worker/Pause") (P1 : Fld Z h0 a1 "com/example/usher/usher/worker/Pause" "next" "Ljava/time/Duration;" (.ref a2)) (P2 : Exa Z h0 a2 "java/time/Duration") (P3 : Fld Z h0 a2 "java/time/Duration" "nanos" "I" (.int (0 : Int32))) (P4 : Fld Z h0 a2 "java/time/Duration" "seconds" "J" (.long (vJ ix [1, 2, 4, 8, 16, 30]))) (g_a1 : n0 ≤ a1) :
    MetN l Z (⟨"com/example/usher/usher/worker/Pause", "next", "()Ljava/time/Duration;"⟩ : MethodName) prog_45_method_2_code 3 (some (.object "java/time/Duration")) R_xPause_next1 [] #[(.ref a1)] h0 (fun v h L => ∃ (r1 : Addr), v = some (.ref a2) ∧ Fr n0 L ∧ Keep h0 h [a1] ∧ Fld Z h r1 "java/time/Duration" "nanos" "I" (.int (0 : Int32)) ∧ Fld Z h r1 "java/time/Duration" "seconds" "J" (.long (vJ ix [2, 4, 8, 16, 30, 30])) ∧ Exa Z h r1 "java/time/Duration" ∧ Fld Z h a1 "com/example/usher/usher/worker/Pause" "next" "Ljava/time/Duration;" (.ref r1) ∧ Exa Z h a1 "com/example/usher/usher/worker/Pause") := by
  refine MetN.walk (plainFor_of_name pn_6) ?_
  intro p e s m below meth c s₁ hx hZ hby hml hown hnm hret hlk X0 e0
  have N0 := Fr.nil n0
  refine Win.to s₁ (mkF m 0 #[.val (.ref a1), .unset, .unset] []) (fun _ k => castTop rfl k) ?_
  refine W.aloadN X0 hx (hc hby D6 0 rfl) rfl rfl ?_
  refine W.getF X0 hx hZ hown (host := "") (Or.inl (wk hw 11 rfl)) Via.refl e0 P1 (hc hby D6 1 rfl) (fun T101 X101 e101 => ?_)
  refine W.astoreN X101 hx (hc hby D6 2 rfl) rfl (l' := #[.val (.ref a1), .val (.ref a2), .unset]) rfl ?_
  refine W.aloadN X101 hx (hc hby D6 3 rfl) rfl rfl ?_
  refine W.getF X101 hx hZ hown (host := "") (Or.inl (wk hw 11 rfl)) Via.refl e101 P1 (hc hby D6 4 rfl) (fun T102 X102 e102 => ?_)
  refine W.ldc2 X102 hx (hc hby D6 5 rfl) hown (mvT hZ (wk hw 30 rfl)) ?_
  refine W.virtual X102 hx hZ hown (wk hw 31 rfl) (wk hw 32 rfl) (notFace_of_selects (args := #[]) (mvT hZ (wk hw 34 rfl))) (wk hw 34 rfl) (wk hw 33 rfl) (wk hw 35 rfl) (wk hw 36 rfl) (by decide) (xDurati_multipliedBy1 l Z a0 hw SS ix a2 h0 n0 O0 P2 P3 P4) e102 P2 (by rw [hml]; rfl) (argsL := [(.long (2 : Int64))]) (rest := []) rfl (lenOf pd__J_Ljava_time_Duration_ rfl) rfl (W := 0) (Nat.le_of_eq rfl) (hc hby D6 6 rfl) (by decide) (by decide) (by decide) (by decide) (fun T103 h103 v103 L103 X103 e103 q103 => ?_)
  obtain ⟨r1_103, rfl, N103q, r103_0, r103_1, r103_2, r103_3, r103_4⟩ := q103
  have N104 := Fr.app N0 N103q
  have ne105 : a1 ≠ r1_103 := Nat.ne_of_lt (Nat.lt_of_lt_of_le P0.lt r103_1)
  have g106 : n0 ≤ r1_103 := Nat.le_trans (own_le O0) r103_1
  have z107 : h0.size ≤ r1_103 := r103_1
  have O108 := Old.keep O0 r103_0 all0
  have K109 : Keep h0 h103 [a1] := Keep.trans (Keep.refl h0 [a1]) r103_0 all0
  refine W.astoreN X103 hx (hc hby D6 7 rfl) rfl (l' := #[.val (.ref a1), .val (.ref a2), .val (.ref r1_103)]) rfl ?_
  refine W.aloadN X103 hx (hc hby D6 8 rfl) rfl rfl ?_
  refine W.aloadN X103 hx (hc hby D6 9 rfl) rfl rfl ?_
  obtain ⟨T110, X110, e110, st110⟩ := getS2 X103 hx hZ hown (host := "") (Or.inl (wk hw 297 rfl)) Via.refl e103 (Sta.ext O108.2 SS.S_lo) (g := (mkF m 18 #[.val (.ref a1), .val (.ref a2), .val (.ref r1_103)] [(.ref r1_103), (.ref a1)])) rfl (hc hby D6 10 rfl)
  refine Win.to T110 (mkF m 21 #[.val (.ref a1), .val (.ref a2), .val (.ref r1_103)] [(.ref SS.lo), (.ref r1_103), (.ref a1)]) (fun _ k => st110 _ k) ?_
  have F111 := Fld.ext O108.2 SS.F_lo_seconds
  refine W.virtual X110 hx hZ hown (wk hw 299 rfl) (wk hw 300 rfl) (notFace_of_selects (args := #[]) (mvT hZ (wk hw 302 rfl))) (wk hw 302 rfl) (wk hw 301 rfl) (wk hw 35 rfl) (wk hw 303 rfl) (by decide) (xDurati_compareTo1 l Z a0 hw SS ix r1_103 SS.lo h103 n0 O108 r103_3 F111) e110 r103_4 (by rw [hml]; rfl) (argsL := [(.ref SS.lo)]) (rest := [(.ref a1)]) rfl (lenOf pd__Ljava_time_Duration__I rfl) rfl (W := 1) (Nat.le_of_eq rfl) (hc hby D6 11 rfl) (by decide) (by decide) (by decide) (by decide) (fun T112 h112 v112 L112 X112 e112 q112 => ?_)
  obtain ⟨rfl, N112q, r112_0⟩ := q112
  have N113 := Fr.app N104 N112q
  have e112 := e112.trans r112_0
  rcases own_fin6 ix with rfl | rfl | rfl | rfl | rfl | rfl
  · refine Win.to T112 (mkF m 24 #[.val (.ref a1), .val (.ref a2), .val (.ref r1_103)] [(.int (-1 : Int32)), (.ref a1)]) (fun _ k => k) ?_
    refine W.ifNo X112 hx (hc hby D6 12 rfl) (by decide) ?_
    refine W.aloadN X112 hx (hc hby D6 13 rfl) rfl rfl ?_
    refine W.goto X112 hx (hc hby D6 14 rfl) (by decide) (pc' := 34) rfl ?_
    have F114 := P0.keep r103_0
    have F115 := P1.keep r103_0 nin0
    refine W.putF X112 hx hZ hown (host := "") (Or.inl (wk hw 11 rfl)) Via.refl e112 F115 F114 (Or.inl (wk hw 12 rfl)) (wk hw 1 rfl) (ty := (.object "java/time/Duration")) (by decide) rfl rfl (hc hby D6 15 rfl) O108 g_a1 K109 (Or.inl (List.mem_of_getElem? (i := 0) rfl)) N113 (fun T116 h116 X116 e116 W116 O116 K116 N116 F116 => ?_)
    refine W.aloadN X116 hx (hc hby D6 16 rfl) rfl rfl ?_
    have F117 := Fld.other W116 r103_2 (Or.inl (Ne.symm ne105))
    have F118 := Fld.other W116 r103_3 (Or.inl (Ne.symm ne105))
    have F119 := Exa.wr W116 r103_4
    have F120 := Exa.wr W116 F114
    exact Win.retA X116 hx hlk hret rfl rfl (hc hby D6 17 rfl) (by decide) (by decide) (by (try rw [e116]); exact ⟨r1_103, rfl, N116, K116, F117, F118, F119, F116, F120⟩)
  · refine Win.to T112 (mkF m 24 #[.val (.ref a1), .val (.ref a2), .val (.ref r1_103)] [(.int (-1 : Int32)), (.ref a1)]) (fun _ k => k) ?_
    refine W.ifNo X112 hx (hc hby D6 12 rfl) (by decide) ?_
    refine W.aloadN X112 hx (hc hby D6 13 rfl) rfl rfl ?_
    refine W.goto X112 hx (hc hby D6 14 rfl) (by decide) (pc' := 34) rfl ?_
    have F121 := P0.keep r103_0
    have F122 := P1.keep r103_0 nin0
    refine W.putF X112 hx hZ hown (host := "") (Or.inl (wk hw 11 rfl)) Via.refl e112 F122 F121 (Or.inl (wk hw 12 rfl)) (wk hw 1 rfl) (ty := (.object "java/time/Duration")) (by decide) rfl rfl (hc hby D6 15 rfl) O108 g_a1 K109 (Or.inl (List.mem_of_getElem? (i := 0) rfl)) N113 (fun T123 h123 X123 e123 W123 O123 K123 N123 F123 => ?_)
    refine W.aloadN X123 hx (hc hby D6 16 rfl) rfl rfl ?_
    have F124 := Fld.other W123 r103_2 (Or.inl (Ne.symm ne105))
    have F125 := Fld.other W123 r103_3 (Or.inl (Ne.symm ne105))
    have F126 := Exa.wr W123 r103_4
    have F127 := Exa.wr W123 F121
    exact Win.retA X123 hx hlk hret rfl rfl (hc hby D6 17 rfl) (by decide) (by decide) (by (try rw [e123]); exact ⟨r1_103, rfl, N123, K123, F124, F125, F126, F123, F127⟩)
  · refine Win.to T112 (mkF m 24 #[.val (.ref a1), .val (.ref a2), .val (.ref r1_103)] [(.int (-1 : Int32)), (.ref a1)]) (fun _ k => k) ?_
    refine W.ifNo X112 hx (hc hby D6 12 rfl) (by decide) ?_
    refine W.aloadN X112 hx (hc hby D6 13 rfl) rfl rfl ?_
    refine W.goto X112 hx (hc hby D6 14 rfl) (by decide) (pc' := 34) rfl ?_
    have F128 := P0.keep r103_0
    have F129 := P1.keep r103_0 nin0
    refine W.putF X112 hx hZ hown (host := "") (Or.inl (wk hw 11 rfl)) Via.refl e112 F129 F128 (Or.inl (wk hw 12 rfl)) (wk hw 1 rfl) (ty := (.object "java/time/Duration")) (by decide) rfl rfl (hc hby D6 15 rfl) O108 g_a1 K109 (Or.inl (List.mem_of_getElem? (i := 0) rfl)) N113 (fun T130 h130 X130 e130 W130 O130 K130 N130 F130 => ?_)
    refine W.aloadN X130 hx (hc hby D6 16 rfl) rfl rfl ?_
    have F131 := Fld.other W130 r103_2 (Or.inl (Ne.symm ne105))
    have F132 := Fld.other W130 r103_3 (Or.inl (Ne.symm ne105))
    have F133 := Exa.wr W130 r103_4
    have F134 := Exa.wr W130 F128
    exact Win.retA X130 hx hlk hret rfl rfl (hc hby D6 17 rfl) (by decide) (by decide) (by (try rw [e130]); exact ⟨r1_103, rfl, N130, K130, F131, F132, F133, F130, F134⟩)
  · refine Win.to T112 (mkF m 24 #[.val (.ref a1), .val (.ref a2), .val (.ref r1_103)] [(.int (-1 : Int32)), (.ref a1)]) (fun _ k => k) ?_
    refine W.ifNo X112 hx (hc hby D6 12 rfl) (by decide) ?_
    refine W.aloadN X112 hx (hc hby D6 13 rfl) rfl rfl ?_
    refine W.goto X112 hx (hc hby D6 14 rfl) (by decide) (pc' := 34) rfl ?_
    have F135 := P0.keep r103_0
    have F136 := P1.keep r103_0 nin0
    refine W.putF X112 hx hZ hown (host := "") (Or.inl (wk hw 11 rfl)) Via.refl e112 F136 F135 (Or.inl (wk hw 12 rfl)) (wk hw 1 rfl) (ty := (.object "java/time/Duration")) (by decide) rfl rfl (hc hby D6 15 rfl) O108 g_a1 K109 (Or.inl (List.mem_of_getElem? (i := 0) rfl)) N113 (fun T137 h137 X137 e137 W137 O137 K137 N137 F137 => ?_)
    refine W.aloadN X137 hx (hc hby D6 16 rfl) rfl rfl ?_
    have F138 := Fld.other W137 r103_2 (Or.inl (Ne.symm ne105))
    have F139 := Fld.other W137 r103_3 (Or.inl (Ne.symm ne105))
    have F140 := Exa.wr W137 r103_4
    have F141 := Exa.wr W137 F135
    exact Win.retA X137 hx hlk hret rfl rfl (hc hby D6 17 rfl) (by decide) (by decide) (by (try rw [e137]); exact ⟨r1_103, rfl, N137, K137, F138, F139, F140, F137, F141⟩)
  · refine Win.to T112 (mkF m 24 #[.val (.ref a1), .val (.ref a2), .val (.ref r1_103)] [(.int (1 : Int32)), (.ref a1)]) (fun _ k => k) ?_
    refine W.ifYes X112 hx (hc hby D6 12 rfl) (by decide) (by decide) (pc' := 31) rfl ?_
    obtain ⟨T142, X142, e142, st142⟩ := getS2 X112 hx hZ hown (host := "") (Or.inl (wk hw 297 rfl)) Via.refl e112 (Sta.ext O108.2 SS.S_lo) (g := (mkF m 31 #[.val (.ref a1), .val (.ref a2), .val (.ref r1_103)] [(.ref a1)])) rfl (hc hby D6 18 rfl)
    refine Win.to T142 (mkF m 34 #[.val (.ref a1), .val (.ref a2), .val (.ref r1_103)] [(.ref SS.lo), (.ref a1)]) (fun _ k => st142 _ k) ?_
    have F143 := P0.keep r103_0
    have F144 := P1.keep r103_0 nin0
    refine W.putF X142 hx hZ hown (host := "") (Or.inl (wk hw 11 rfl)) Via.refl e142 F144 F143 (Or.inl (wk hw 12 rfl)) (wk hw 1 rfl) (ty := (.object "java/time/Duration")) (by decide) rfl rfl (hc hby D6 15 rfl) O108 g_a1 K109 (Or.inl (List.mem_of_getElem? (i := 0) rfl)) N113 (fun T145 h145 X145 e145 W145 O145 K145 N145 F145 => ?_)
    refine W.aloadN X145 hx (hc hby D6 16 rfl) rfl rfl ?_
    have F146 := Fld.ext O145.2 SS.F_lo_nanos
    have F147 := Fld.ext O145.2 SS.F_lo_seconds
    have F148 := Exa.ext O145.2 SS.E_lo
    have F149 := Exa.wr W145 F143
    exact Win.retA X145 hx hlk hret rfl rfl (hc hby D6 17 rfl) (by decide) (by decide) (by (try rw [e145]); exact ⟨SS.lo, rfl, N145, K145, F146, F147, F148, F145, F149⟩)
  · refine Win.to T112 (mkF m 24 #[.val (.ref a1), .val (.ref a2), .val (.ref r1_103)] [(.int (1 : Int32)), (.ref a1)]) (fun _ k => k) ?_
    refine W.ifYes X112 hx (hc hby D6 12 rfl) (by decide) (by decide) (pc' := 31) rfl ?_
    obtain ⟨T150, X150, e150, st150⟩ := getS2 X112 hx hZ hown (host := "") (Or.inl (wk hw 297 rfl)) Via.refl e112 (Sta.ext O108.2 SS.S_lo) (g := (mkF m 31 #[.val (.ref a1), .val (.ref a2), .val (.ref r1_103)] [(.ref a1)])) rfl (hc hby D6 18 rfl)
    refine Win.to T150 (mkF m 34 #[.val (.ref a1), .val (.ref a2), .val (.ref r1_103)] [(.ref SS.lo), (.ref a1)]) (fun _ k => st150 _ k) ?_
    have F151 := P0.keep r103_0
    have F152 := P1.keep r103_0 nin0
    refine W.putF X150 hx hZ hown (host := "") (Or.inl (wk hw 11 rfl)) Via.refl e150 F152 F151 (Or.inl (wk hw 12 rfl)) (wk hw 1 rfl) (ty := (.object "java/time/Duration")) (by decide) rfl rfl (hc hby D6 15 rfl) O108 g_a1 K109 (Or.inl (List.mem_of_getElem? (i := 0) rfl)) N113 (fun T153 h153 X153 e153 W153 O153 K153 N153 F153 => ?_)
    refine W.aloadN X153 hx (hc hby D6 16 rfl) rfl rfl ?_
    have F154 := Fld.ext O153.2 SS.F_lo_nanos
    have F155 := Fld.ext O153.2 SS.F_lo_seconds
    have F156 := Exa.ext O153.2 SS.E_lo
    have F157 := Exa.wr W153 F151
    exact Win.retA X153 hx hlk hret rfl rfl (hc hby D6 17 rfl) (by decide) (by decide) (by (try rw [e153]); exact ⟨SS.lo, rfl, N153, K153, F154, F155, F156, F153, F157⟩)
abbrev R_xDurati_getSeconds1 : Room := ⟨0, 0, 0, 0⟩
theorem xDurati_getSeconds1 (l : Launch) (Z : State) (a0 : Array Value) (hw : ∀ d ∈ tables_1, d.before a0 Z = true) (SS : Stat Z) (ix : Fin 6) (a1 : Addr) (h0 : Heap) (n0 : Nat) (O0 : Old Z n0 h0) (P0 : Fld Z h0 a1 "java/time/Duration" "seconds" "J" (.long (vJ ix [1, 2, 4, 8, 16, 30]))) :
    MetN l Z (⟨"java/time/Duration", "getSeconds", "()J"⟩ : MethodName) jdk_2316_method_23_code 1 (some .long) R_xDurati_getSeconds1 [] #[(.ref a1)] h0 (fun v h L => v = some (.long (vJ ix [1, 2, 4, 8, 16, 30])) ∧ Fr n0 L ∧ h = h0) := by
  refine MetN.walk (plainFor_of_name pn_59) ?_
  intro p e s m below meth c s₁ hx hZ hby hml hown hnm hret hlk X0 e0
  have N0 := Fr.nil n0
  refine Win.to s₁ (mkF m 0 #[.val (.ref a1)] []) (fun _ k => castTop rfl k) ?_
  refine W.aloadN X0 hx (hc hby D59 0 rfl) rfl rfl ?_
  refine W.getF X0 hx hZ hown (host := "") (Or.inl (wk hw 42 rfl)) Via.refl e0 P0 (hc hby D59 1 rfl) (fun T101 X101 e101 => ?_)
  exact Win.retJ X101 hx hlk hret (hc hby D59 2 rfl) (by decide) (by decide) (by (try rw [e101]); exact ⟨rfl, N0, rfl⟩)
abbrev R_xDurati_getNano1 : Room := ⟨0, 0, 0, 0⟩
theorem xDurati_getNano1 (l : Launch) (Z : State) (a0 : Array Value) (hw : ∀ d ∈ tables_1, d.before a0 Z = true) (SS : Stat Z) (ix : Fin 6) (a1 : Addr) (h0 : Heap) (n0 : Nat) (O0 : Old Z n0 h0) (P0 : Fld Z h0 a1 "java/time/Duration" "nanos" "I" (.int (0 : Int32))) :
    MetN l Z (⟨"java/time/Duration", "getNano", "()I"⟩ : MethodName) jdk_2316_method_24_code 1 (some .int) R_xDurati_getNano1 [] #[(.ref a1)] h0 (fun v h L => v = some (.int (0 : Int32)) ∧ Fr n0 L ∧ h = h0) := by
  refine MetN.walk (plainFor_of_name pn_60) ?_
  intro p e s m below meth c s₁ hx hZ hby hml hown hnm hret hlk X0 e0
  have N0 := Fr.nil n0
  refine Win.to s₁ (mkF m 0 #[.val (.ref a1)] []) (fun _ k => castTop rfl k) ?_
  refine W.aloadN X0 hx (hc hby D60 0 rfl) rfl rfl ?_
  refine W.getF X0 hx hZ hown (host := "") (Or.inl (wk hw 49 rfl)) Via.refl e0 P0 (hc hby D60 1 rfl) (fun T101 X101 e101 => ?_)
  exact Win.retI X101 hx hlk hret (hc hby D60 2 rfl) (by decide) (by decide) (by (try rw [e101]); exact ⟨rfl, N0, rfl⟩)
abbrev R_xMath_min2 : Room := ⟨0, 0, 0, 0⟩
theorem xMath_min2 (l : Launch) (Z : State) (a0 : Array Value) (hw : ∀ d ∈ tables_1, d.before a0 Z = true) (SS : Stat Z) (ix : Fin 6) (h0 : Heap) (n0 : Nat) (O0 : Old Z n0 h0)  :
    MetN l Z (⟨"java/lang/Math", "min", "(JJ)J"⟩ : MethodName) jdk_29_method_70_code 4 (some .long) R_xMath_min2 [] #[(.long (vJ ix [2, 4, 8, 16, 32, 60])), (.long (30 : Int64))] h0 (fun v h L => v = some (.long (vJ ix [2, 4, 8, 16, 30, 30])) ∧ Fr n0 L ∧ h = h0) := by
  refine MetN.walk (Jvm.Free.JP.mathPlain rfl (by decide +kernel)) ?_
  intro p e s m below meth c s₁ hx hZ hby hml hown hnm hret hlk X0 e0
  have N0 := Fr.nil n0
  refine Win.to s₁ (mkF m 0 #[.val (.long (vJ ix [2, 4, 8, 16, 32, 60])), .second, .val (.long (30 : Int64)), .second] []) (fun _ k => castTop rfl k) ?_
  refine W.lloadN X0 hx (hc hby D61 0 rfl) rfl ?_
  refine W.lloadN X0 hx (hc hby D61 1 rfl) rfl ?_
  refine W.lcmp X0 hx (hc hby D61 2 rfl) (v := (vI ix [-1, -1, -1, -1, 1, 1])) ((show ∀ ix : Fin 6, lcmpW (vJ ix [2, 4, 8, 16, 32, 60]) (30 : Int64) = (vI ix [-1, -1, -1, -1, 1, 1]) from by decide +kernel) ix) ?_
  rcases own_fin6 ix with rfl | rfl | rfl | rfl | rfl | rfl
  · refine Win.to s₁ (mkF m 3 #[.val (.long (2 : Int64)), .second, .val (.long (30 : Int64)), .second] [(.int (-1 : Int32))]) (fun _ k => k) ?_
    refine W.ifNo X0 hx (hc hby D61 3 rfl) (by decide) ?_
    refine W.lloadN X0 hx (hc hby D61 4 rfl) rfl ?_
    refine W.goto X0 hx (hc hby D61 5 rfl) (by decide) (pc' := 11) rfl ?_
    exact Win.retJ X0 hx hlk hret (hc hby D61 6 rfl) (by decide) (by decide) (by (try rw [e0]); exact ⟨rfl, N0, rfl⟩)
  · refine Win.to s₁ (mkF m 3 #[.val (.long (4 : Int64)), .second, .val (.long (30 : Int64)), .second] [(.int (-1 : Int32))]) (fun _ k => k) ?_
    refine W.ifNo X0 hx (hc hby D61 3 rfl) (by decide) ?_
    refine W.lloadN X0 hx (hc hby D61 4 rfl) rfl ?_
    refine W.goto X0 hx (hc hby D61 5 rfl) (by decide) (pc' := 11) rfl ?_
    exact Win.retJ X0 hx hlk hret (hc hby D61 6 rfl) (by decide) (by decide) (by (try rw [e0]); exact ⟨rfl, N0, rfl⟩)
  · refine Win.to s₁ (mkF m 3 #[.val (.long (8 : Int64)), .second, .val (.long (30 : Int64)), .second] [(.int (-1 : Int32))]) (fun _ k => k) ?_
    refine W.ifNo X0 hx (hc hby D61 3 rfl) (by decide) ?_
    refine W.lloadN X0 hx (hc hby D61 4 rfl) rfl ?_
    refine W.goto X0 hx (hc hby D61 5 rfl) (by decide) (pc' := 11) rfl ?_
    exact Win.retJ X0 hx hlk hret (hc hby D61 6 rfl) (by decide) (by decide) (by (try rw [e0]); exact ⟨rfl, N0, rfl⟩)
  · refine Win.to s₁ (mkF m 3 #[.val (.long (16 : Int64)), .second, .val (.long (30 : Int64)), .second] [(.int (-1 : Int32))]) (fun _ k => k) ?_
    refine W.ifNo X0 hx (hc hby D61 3 rfl) (by decide) ?_
    refine W.lloadN X0 hx (hc hby D61 4 rfl) rfl ?_
    refine W.goto X0 hx (hc hby D61 5 rfl) (by decide) (pc' := 11) rfl ?_
    exact Win.retJ X0 hx hlk hret (hc hby D61 6 rfl) (by decide) (by decide) (by (try rw [e0]); exact ⟨rfl, N0, rfl⟩)
  · refine Win.to s₁ (mkF m 3 #[.val (.long (32 : Int64)), .second, .val (.long (30 : Int64)), .second] [(.int (1 : Int32))]) (fun _ k => k) ?_
    refine W.ifYes X0 hx (hc hby D61 3 rfl) (by decide) (by decide) (pc' := 10) rfl ?_
    refine W.lloadN X0 hx (hc hby D61 7 rfl) rfl ?_
    exact Win.retJ X0 hx hlk hret (hc hby D61 6 rfl) (by decide) (by decide) (by (try rw [e0]); exact ⟨rfl, N0, rfl⟩)
  · refine Win.to s₁ (mkF m 3 #[.val (.long (60 : Int64)), .second, .val (.long (30 : Int64)), .second] [(.int (1 : Int32))]) (fun _ k => k) ?_
    refine W.ifYes X0 hx (hc hby D61 3 rfl) (by decide) (by decide) (pc' := 10) rfl ?_
    refine W.lloadN X0 hx (hc hby D61 7 rfl) rfl ?_
    exact Win.retJ X0 hx hlk hret (hc hby D61 6 rfl) (by decide) (by decide) (by (try rw [e0]); exact ⟨rfl, N0, rfl⟩)
abbrev R_xPauseN_step1 : Room := ⟨10, 18, 60, 151⟩
theorem xPauseN_step1 (l : Launch) (Z : State) (a0 : Array Value) (hw : ∀ d ∈ tables_1, d.before a0 Z = true) (SS : Stat Z) (ix : Fin 6) (a1 : Addr) (a2 : Addr) (h0 : Heap) (n0 : Nat) (O0 : Old Z n0 h0) (P0 : Exa Z h0 a1 "com/example/usher/usher/worker/Pause") (P1 : Fld Z h0 a1 "com/example/usher/usher/worker/Pause" "next" "Ljava/time/Duration;" (.ref a2)) (P2 : Exa Z h0 a2 "java/time/Duration") (P3 : Fld Z h0 a2 "java/time/Duration" "nanos" "I" (.int (0 : Int32))) (P4 : Fld Z h0 a2 "java/time/Duration" "seconds" "J" (.long (vJ ix [1, 2, 4, 8, 16, 30]))) (g_a1 : n0 ≤ a1) :
    MetN l Z (⟨"com/example/usher/usher/worker/PauseNextPinLaw", "step", "(Lcom/example/usher/usher/worker/Pause;J)J"⟩ : MethodName) method_2_code 4 (some .long) R_xPauseN_step1 [] #[(.ref a1), (.long (vJ ix [1, 2, 4, 8, 16, 30]))] h0 (fun v h L => ∃ (r1 : Addr), v = some (.long (vJ ix [2, 4, 8, 16, 30, 30])) ∧ Fr n0 L ∧ Keep h0 h [a1] ∧ Fld Z h r1 "java/time/Duration" "nanos" "I" (.int (0 : Int32)) ∧ Fld Z h r1 "java/time/Duration" "seconds" "J" (.long (vJ ix [2, 4, 8, 16, 30, 30])) ∧ Exa Z h r1 "java/time/Duration" ∧ Fld Z h a1 "com/example/usher/usher/worker/Pause" "next" "Ljava/time/Duration;" (.ref r1) ∧ Exa Z h a1 "com/example/usher/usher/worker/Pause") := by
  refine MetN.walk (plainFor_of_name pn_5) ?_
  intro p e s m below meth c s₁ hx hZ hby hml hown hnm hret hlk X0 e0
  have N0 := Fr.nil n0
  refine Win.to s₁ (mkF m 0 #[.val (.ref a1), .val (.long (vJ ix [1, 2, 4, 8, 16, 30])), .second, .unset] []) (fun _ k => castTop rfl k) ?_
  refine W.aloadN X0 hx (hc hby D5 0 rfl) rfl rfl ?_
  have ne102 : a1 ≠ a2 := (Exa.ne P0 P2 (by decide))
  refine W.virtual X0 hx hZ hown (wk hw 25 rfl) (wk hw 26 rfl) (notFace_of_selects (args := #[]) (mvT hZ (wk hw 28 rfl))) (wk hw 28 rfl) (wk hw 27 rfl) (wk hw 2 rfl) (wk hw 29 rfl) (by decide) (xPause_next1 l Z a0 hw SS ix a1 a2 h0 n0 O0 P0 P1 P2 P3 P4 g_a1) e0 P0 (by rw [hml]; rfl) (argsL := []) (rest := []) rfl (lenOf pd___Ljava_time_Duration_ rfl) rfl (W := 0) (Nat.le_of_eq rfl) (hc hby D5 1 rfl) (by decide) (by decide) (by decide) (by decide) (fun T101 h101 v101 L101 X101 e101 q101 => ?_)
  obtain ⟨r1_101, rfl, N101q, r101_0, r101_1, r101_2, r101_3, r101_4, r101_5⟩ := q101
  have N103 := Fr.app N0 N101q
  have O104 := Old.keep O0 r101_0 (allS g_a1 all0)
  have K105 : Keep h0 h101 [a1] := Keep.trans (Keep.refl h0 [a1]) r101_0 (allS (Or.inl (List.mem_of_getElem? (i := 0) rfl)) all0)
  refine W.astoreN X101 hx (hc hby D5 2 rfl) rfl (l' := #[.val (.ref a1), .val (.long (vJ ix [1, 2, 4, 8, 16, 30])), .second, .val (.ref a2)]) rfl ?_
  refine W.lloadN X101 hx (hc hby D5 3 rfl) rfl ?_
  refine W.lconst X101 hx (hc hby D5 4 rfl) (v := 0) rfl ?_
  refine W.lcmp X101 hx (hc hby D5 5 rfl) (v := (1 : Int32)) ((show ∀ ix : Fin 6, lcmpW (vJ ix [1, 2, 4, 8, 16, 30]) (0 : Int64) = (1 : Int32) from by decide +kernel) ix) ?_
  refine W.ifYes X101 hx (hc hby D5 6 rfl) (by decide) (by decide) (pc' := 15) rfl ?_
  refine W.aloadN X101 hx (hc hby D5 7 rfl) rfl rfl ?_
  have F106 := P4.keep r101_0 (ninS (Ne.symm ne102) nin0)
  have F108 := P2.keep r101_0
  refine W.virtual X101 hx hZ hown (wk hw 308 rfl) (wk hw 309 rfl) (notFace_of_selects (args := #[]) (mvT hZ (wk hw 311 rfl))) (wk hw 311 rfl) (wk hw 310 rfl) (wk hw 35 rfl) (wk hw 312 rfl) (by decide) (xDurati_getSeconds1 l Z a0 hw SS ix a2 h101 n0 O104 F106) e101 F108 (by rw [hml]; rfl) (argsL := []) (rest := []) rfl (lenOf pd___J rfl) rfl (W := 0) (Nat.le_of_eq rfl) (hc hby D5 8 rfl) (by decide) (by decide) (by decide) (by decide) (fun T107 h107 v107 L107 X107 e107 q107 => ?_)
  obtain ⟨rfl, N107q, r107_0⟩ := q107
  have N109 := Fr.app N103 N107q
  have e107 := e107.trans r107_0
  refine W.lloadN X107 hx (hc hby D5 9 rfl) rfl ?_
  refine W.lcmp X107 hx (hc hby D5 10 rfl) (v := (0 : Int32)) ((show ∀ ix : Fin 6, lcmpW (vJ ix [1, 2, 4, 8, 16, 30]) (vJ ix [1, 2, 4, 8, 16, 30]) = (0 : Int32) from by decide +kernel) ix) ?_
  refine W.ifNo X107 hx (hc hby D5 11 rfl) (by decide) ?_
  refine W.aloadN X107 hx (hc hby D5 12 rfl) rfl rfl ?_
  have F110 := P3.keep r101_0 (ninS (Ne.symm ne102) nin0)
  refine W.virtual X107 hx hZ hown (wk hw 313 rfl) (wk hw 314 rfl) (notFace_of_selects (args := #[]) (mvT hZ (wk hw 316 rfl))) (wk hw 316 rfl) (wk hw 315 rfl) (wk hw 35 rfl) (wk hw 317 rfl) (by decide) (xDurati_getNano1 l Z a0 hw SS ix a2 h101 n0 O104 F110) e107 F108 (by rw [hml]; rfl) (argsL := []) (rest := []) rfl (lenOf pd___I rfl) rfl (W := 0) (Nat.le_of_eq rfl) (hc hby D5 13 rfl) (by decide) (by decide) (by decide) (by decide) (fun T111 h111 v111 L111 X111 e111 q111 => ?_)
  obtain ⟨rfl, N111q, r111_0⟩ := q111
  have N112 := Fr.app N109 N111q
  have e111 := e111.trans r111_0
  refine W.ifYes X111 hx (hc hby D5 14 rfl) (by decide) (by decide) (pc' := 35) rfl ?_
  refine W.ldc2 X111 hx (hc hby D5 15 rfl) hown (mvT hZ (wk hw 318 rfl)) ?_
  refine W.lloadN X111 hx (hc hby D5 16 rfl) rfl ?_
  refine W.lmul X111 hx (hc hby D5 17 rfl) (v := (vJ ix [2, 4, 8, 16, 32, 60])) ((show ∀ ix : Fin 6, (2 : Int64) * (vJ ix [1, 2, 4, 8, 16, 30]) = (vJ ix [2, 4, 8, 16, 32, 60]) from by decide +kernel) ix) ?_
  refine W.ldc2 X111 hx (hc hby D5 18 rfl) hown (mvT hZ (wk hw 319 rfl)) ?_
  refine W.static X111 hx hZ hown (wk hw 320 rfl) (wk hw 321 rfl) (wk hw 121 rfl) (wk hw 322 rfl) (by decide) (xMath_min2 l Z a0 hw SS ix h101 n0 O104 ) e111 (by rw [hml]; rfl) (argsL := [(.long (vJ ix [2, 4, 8, 16, 32, 60])), (.long (30 : Int64))]) (rest := []) rfl (lenOf pd__JJ_J rfl) rfl (W := 0) (Nat.le_of_eq rfl) (hc hby D5 19 rfl) (by decide) (by decide) (by decide) (by decide) (fun T113 h113 v113 L113 X113 e113 q113 => ?_)
  obtain ⟨rfl, N113q, r113_0⟩ := q113
  have N114 := Fr.app N112 N113q
  have e113 := e113.trans r113_0
  exact Win.retJ X113 hx hlk hret (hc hby D5 20 rfl) (by decide) (by decide) (by (try rw [e113]); exact ⟨r1_101, rfl, N114, K105, r101_1, r101_2, r101_3, r101_4, r101_5⟩)
abbrev R_xPauseN_maybeReset1 : Room := ⟨0, 0, 0, 0⟩
theorem xPauseN_maybeReset1 (l : Launch) (Z : State) (a0 : Array Value) (hw : ∀ d ∈ tables_1, d.before a0 Z = true) (SS : Stat Z) (ix : Fin 6) (a1 : Addr) (h0 : Heap) (n0 : Nat) (O0 : Old Z n0 h0)  :
    MetN l Z (⟨"com/example/usher/usher/worker/PauseNextPinLaw", "maybeReset", "(Lcom/example/usher/usher/worker/Pause;JZ)J"⟩ : MethodName) method_3_code 4 (some .long) R_xPauseN_maybeReset1 [] #[(.ref a1), (.long (vJ ix [1, 2, 4, 8, 16, 30])), (.int (0 : Int32))] h0 (fun v h L => v = some (.long (vJ ix [1, 2, 4, 8, 16, 30])) ∧ Fr n0 L ∧ h = h0) := by
  refine MetN.walk (plainFor_of_name pn_3) ?_
  intro p e s m below meth c s₁ hx hZ hby hml hown hnm hret hlk X0 e0
  have N0 := Fr.nil n0
  refine Win.to s₁ (mkF m 0 #[.val (.ref a1), .val (.long (vJ ix [1, 2, 4, 8, 16, 30])), .second, .val (.int (0 : Int32))] []) (fun _ k => castTop rfl k) ?_
  refine W.iloadN X0 hx (hc hby D3 0 rfl) rfl ?_
  refine W.ifNo X0 hx (hc hby D3 1 rfl) (by decide) ?_
  refine W.lloadN X0 hx (hc hby D3 2 rfl) rfl ?_
  exact Win.retJ X0 hx hlk hret (hc hby D3 3 rfl) (by decide) (by decide) (by (try rw [e0]); exact ⟨rfl, N0, rfl⟩)
abbrev R_xPause_reset1 : Room := ⟨0, 0, 0, 0⟩
theorem xPause_reset1 (l : Launch) (Z : State) (a0 : Array Value) (hw : ∀ d ∈ tables_1, d.before a0 Z = true) (SS : Stat Z) (a1 : Addr) (a2 : Addr) (h0 : Heap) (n0 : Nat) (O0 : Old Z n0 h0) (P0 : Exa Z h0 a1 "com/example/usher/usher/worker/Pause") (P1 : Fld Z h0 a1 "com/example/usher/usher/worker/Pause" "next" "Ljava/time/Duration;" (.ref a2)) (g_a1 : n0 ≤ a1) :
    MetN l Z (⟨"com/example/usher/usher/worker/Pause", "reset", "()V"⟩ : MethodName) prog_45_method_3_code 1 none R_xPause_reset1 [] #[(.ref a1)] h0 (fun v h L => v = none ∧ Fr n0 L ∧ Keep h0 h [a1] ∧ Fld Z h a1 "com/example/usher/usher/worker/Pause" "next" "Ljava/time/Duration;" (.ref SS.fi) ∧ Exa Z h a1 "com/example/usher/usher/worker/Pause") := by
  refine MetN.walk (plainFor_of_name pn_4) ?_
  intro p e s m below meth c s₁ hx hZ hby hml hown hnm hret hlk X0 e0
  have N0 := Fr.nil n0
  refine Win.to s₁ (mkF m 0 #[.val (.ref a1)] []) (fun _ k => castTop rfl k) ?_
  refine W.aloadN X0 hx (hc hby D4 0 rfl) rfl rfl ?_
  obtain ⟨T101, X101, e101, st101⟩ := getS2 X0 hx hZ hown (host := "") (Or.inl (wk hw 9 rfl)) Via.refl e0 (Sta.ext O0.2 SS.S_fi) (g := (mkF m 1 #[.val (.ref a1)] [(.ref a1)])) rfl (hc hby D4 1 rfl)
  refine Win.to T101 (mkF m 4 #[.val (.ref a1)] [(.ref SS.fi), (.ref a1)]) (fun _ k => st101 _ k) ?_
  refine W.putF X101 hx hZ hown (host := "") (Or.inl (wk hw 11 rfl)) Via.refl e101 P1 P0 (Or.inl (wk hw 12 rfl)) (wk hw 1 rfl) (ty := (.object "java/time/Duration")) (by decide) rfl rfl (hc hby D4 2 rfl) O0 g_a1 (Keep.refl h0 [a1]) (Or.inl (List.mem_of_getElem? (i := 0) rfl)) N0 (fun T102 h102 X102 e102 W102 O102 K102 N102 F102 => ?_)
  have F103 := Exa.wr W102 P0
  exact Win.retV X102 hx hlk hret (hc hby D4 3 rfl) (by decide) (by decide) (by (try rw [e102]); exact ⟨rfl, N102, K102, F102, F103⟩)
abbrev R_xPauseN_maybeReset2 : Room := ⟨1, 0, 0, 12⟩
theorem xPauseN_maybeReset2 (l : Launch) (Z : State) (a0 : Array Value) (hw : ∀ d ∈ tables_1, d.before a0 Z = true) (SS : Stat Z) (ix : Fin 6) (a1 : Addr) (a2 : Addr) (h0 : Heap) (n0 : Nat) (O0 : Old Z n0 h0) (P0 : Exa Z h0 a1 "com/example/usher/usher/worker/Pause") (P1 : Fld Z h0 a1 "com/example/usher/usher/worker/Pause" "next" "Ljava/time/Duration;" (.ref a2)) (g_a1 : n0 ≤ a1) :
    MetN l Z (⟨"com/example/usher/usher/worker/PauseNextPinLaw", "maybeReset", "(Lcom/example/usher/usher/worker/Pause;JZ)J"⟩ : MethodName) method_3_code 4 (some .long) R_xPauseN_maybeReset2 [] #[(.ref a1), (.long (vJ ix [1, 2, 4, 8, 16, 30])), (.int (1 : Int32))] h0 (fun v h L => v = some (.long (1 : Int64)) ∧ Fr n0 L ∧ Keep h0 h [a1] ∧ Fld Z h a1 "com/example/usher/usher/worker/Pause" "next" "Ljava/time/Duration;" (.ref SS.fi) ∧ Exa Z h a1 "com/example/usher/usher/worker/Pause") := by
  refine MetN.walk (plainFor_of_name pn_3) ?_
  intro p e s m below meth c s₁ hx hZ hby hml hown hnm hret hlk X0 e0
  have N0 := Fr.nil n0
  refine Win.to s₁ (mkF m 0 #[.val (.ref a1), .val (.long (vJ ix [1, 2, 4, 8, 16, 30])), .second, .val (.int (1 : Int32))] []) (fun _ k => castTop rfl k) ?_
  refine W.iloadN X0 hx (hc hby D3 0 rfl) rfl ?_
  refine W.ifYes X0 hx (hc hby D3 1 rfl) (by decide) (by decide) (pc' := 6) rfl ?_
  refine W.aloadN X0 hx (hc hby D3 4 rfl) rfl rfl ?_
  refine W.virtual X0 hx hZ hown (wk hw 17 rfl) (wk hw 18 rfl) (notFace_of_selects (args := #[]) (mvT hZ (wk hw 20 rfl))) (wk hw 20 rfl) (wk hw 19 rfl) (wk hw 2 rfl) (wk hw 21 rfl) (by decide) (xPause_reset1 l Z a0 hw SS a1 a2 h0 n0 O0 P0 P1 g_a1) e0 P0 (by rw [hml]; rfl) (argsL := []) (rest := []) rfl (lenOf pd___V rfl) rfl (W := 0) (Nat.le_of_eq rfl) (hc hby D3 5 rfl) (by decide) (by decide) (by decide) (by decide) (fun T101 h101 v101 L101 X101 e101 q101 => ?_)
  obtain ⟨rfl, N101q, r101_0, r101_1, r101_2⟩ := q101
  have N102 := Fr.app N0 N101q
  have O103 := Old.keep O0 r101_0 (allS g_a1 all0)
  have K104 : Keep h0 h101 [a1] := Keep.trans (Keep.refl h0 [a1]) r101_0 (allS (Or.inl (List.mem_of_getElem? (i := 0) rfl)) all0)
  refine W.lloadN X101 hx (hc hby D3 6 rfl) rfl ?_
  refine W.lconst X101 hx (hc hby D3 7 rfl) (v := 0) rfl ?_
  refine W.lcmp X101 hx (hc hby D3 8 rfl) (v := (1 : Int32)) ((show ∀ ix : Fin 6, lcmpW (vJ ix [1, 2, 4, 8, 16, 30]) (0 : Int64) = (1 : Int32) from by decide +kernel) ix) ?_
  refine W.ifYes X101 hx (hc hby D3 9 rfl) (by decide) (by decide) (pc' := 20) rfl ?_
  refine W.lconst X101 hx (hc hby D3 10 rfl) (v := 1) rfl ?_
  exact Win.retJ X101 hx hlk hret (hc hby D3 11 rfl) (by decide) (by decide) (by (try rw [e101]); exact ⟨rfl, N102, K104, r101_1, r101_2⟩)
abbrev R_xPause_init1 : Room := ⟨1, 0, 0, 12⟩
theorem xPause_init1 (l : Launch) (Z : State) (a0 : Array Value) (hw : ∀ d ∈ tables_1, d.before a0 Z = true) (SS : Stat Z) (a1 : Addr) (h0 : Heap) (n0 : Nat) (O0 : Old Z n0 h0) (P0 : Exa Z h0 a1 "com/example/usher/usher/worker/Pause") (P1 : Fld Z h0 a1 "com/example/usher/usher/worker/Pause" "next" "Ljava/time/Duration;" .null) (g_a1 : n0 ≤ a1) :
    MetN l Z (⟨"com/example/usher/usher/worker/Pause", "<init>", "()V"⟩ : MethodName) prog_45_method_1_code 1 none R_xPause_init1 [] #[(.ref a1)] h0 (fun v h L => v = none ∧ Fr n0 L ∧ Keep h0 h [a1] ∧ Fld Z h a1 "com/example/usher/usher/worker/Pause" "next" "Ljava/time/Duration;" (.ref SS.fi) ∧ Exa Z h a1 "com/example/usher/usher/worker/Pause") := by
  refine MetN.walk (plainFor_of_name pn_1) ?_
  intro p e s m below meth c s₁ hx hZ hby hml hown hnm hret hlk X0 e0
  have N0 := Fr.nil n0
  refine Win.to s₁ (mkF m 0 #[.val (.ref a1)] []) (fun _ k => castTop rfl k) ?_
  refine W.aloadN X0 hx (hc hby D1 0 rfl) rfl rfl ?_
  obtain ⟨T101, X101, e101, st101⟩ := initO X0 hx hZ hown (wk hw 6 rfl) (wk hw 7 rfl) (wk hw 8 rfl) e0 (g := (mkF m 1 #[.val (.ref a1)] [(.ref a1)])) rfl (by rw [hml]; rfl) rfl (hc hby D1 1 rfl) (by decide) (W := 0) (by show 2 * 0 + _ ≤ _; exact Nat.le_of_eq rfl) (by decide)
  refine Win.to T101 (mkF m 4 #[.val (.ref a1)] []) (fun _ k => st101 _ k) ?_
  refine W.aloadN X101 hx (hc hby D1 2 rfl) rfl rfl ?_
  obtain ⟨T102, X102, e102, st102⟩ := getS2 X101 hx hZ hown (host := "") (Or.inl (wk hw 9 rfl)) Via.refl e101 (Sta.ext O0.2 SS.S_fi) (g := (mkF m 5 #[.val (.ref a1)] [(.ref a1)])) rfl (hc hby D1 3 rfl)
  refine Win.to T102 (mkF m 8 #[.val (.ref a1)] [(.ref SS.fi), (.ref a1)]) (fun _ k => st102 _ k) ?_
  refine W.putF X102 hx hZ hown (host := "") (Or.inl (wk hw 11 rfl)) Via.refl e102 P1 P0 (Or.inl (wk hw 12 rfl)) (wk hw 1 rfl) (ty := (.object "java/time/Duration")) (by decide) rfl rfl (hc hby D1 4 rfl) O0 g_a1 (Keep.refl h0 [a1]) (Or.inl (List.mem_of_getElem? (i := 0) rfl)) N0 (fun T103 h103 X103 e103 W103 O103 K103 N103 F103 => ?_)
  have F104 := Exa.wr W103 P0
  exact Win.retV X103 hx hlk hret (hc hby D1 5 rfl) (by decide) (by decide) (by (try rw [e103]); exact ⟨rfl, N103, K103, F103, F104⟩)
theorem rm0 (l : Launch) (Z : State) (a0 : Array Value) (hw : ∀ d ∈ tables_1, d.before a0 Z = true) (ws : List Jvm.Cond) (p1 : Int32) (SS : Stat Z) (h0 : Heap) (n0 : Nat) (O0 : Old Z n0 h0)  :
    MetN l Z x code maxLocals ret room_1 ws #[(.int p1)] h0 (fun v h L => v = some (.int (1 : Int32)) ∧ Fr n0 L ∧ (True)) := by
  refine MetN.walk (plainFor_of_name pn_0) ?_
  intro p e s m below meth c s₁ hx hZ hby hml hown hnm hret hlk X0 e0
  have N0 := Fr.nil n0
  refine Win.to s₁ (mkF m 0 #[.val (.int p1), .unset, .unset, .unset, .unset] []) (fun _ k => castTop (by first | (simp [entryFrame, mkF, argsToLocals, Value.category, maxLocals]; done) | rfl) k) ?_
  refine W.iloadN X0 hx (hb hby at_0) rfl ?_
  refine W.bipush X0 hx (hb hby at_1) (v := 7) rfl ?_
  refine Win.to s₁ (mkF m 4 #[.val (.int p1), .unset, .unset, .unset, .unset] [(.int (p1 &&& (7 : Int32)))]) (fun _ k => XS.iand X0.here hx rfl (hb hby at_3) rfl k) ?_
  refine W.istoreN X0 hx (hb hby at_4) (l' := #[.val (.int p1), .val (.int (p1 &&& (7 : Int32))), .unset, .unset, .unset]) rfl ?_
  obtain ⟨T2195, h2195, X2195, e2195, E2195, A2195, D2195, -, st2195⟩ := newO X0 hx hZ hown (wk hw 0 rfl) (wk hw 1 rfl) (wk hw 2 rfl) e0 (g := (mkF m 5 #[.val (.int p1), .val (.int (p1 &&& (7 : Int32))), .unset, .unset, .unset] [])) rfl (hb hby at_5) (by decide) (by decide)
  obtain ⟨b2195, g2195⟩ : ∃ z, z = h0.size := ⟨_, rfl⟩
  rw [← g2195] at A2195 D2195 st2195
  have g2196 : n0 ≤ b2195 := Nat.le_trans (own_le O0) (Nat.le_of_eq g2195.symm)
  have z2197 : h0.size ≤ b2195 := (Nat.le_of_eq g2195.symm)
  have O2198 := Old.ext O0 E2195
  have K2199 : Keep h0 h2195 [] := (Keep.refl h0 []).ext E2195
  have F2200 : Fld Z h2195 b2195 "com/example/usher/usher/worker/Pause" "next" "Ljava/time/Duration;" .null := D2195 (Or.inl (wk hw 12 rfl)) (ty := (.object "java/time/Duration")) (by decide)
  refine Win.to T2195 (mkF m 8 #[.val (.int p1), .val (.int (p1 &&& (7 : Int32))), .unset, .unset, .unset] [(.ref b2195)]) (fun _ k => st2195 _ k) ?_
  refine W.dup X2195 hx (hb hby at_8) rfl ?_
  refine W.special X2195 hx hZ rfl hown (wk hw 3 rfl) (wk hw 4 rfl) (wk hw 2 rfl) (wk hw 5 rfl) (by decide) (xPause_init1 l Z a0 hw SS b2195 h2195 n0 O2198 A2195 F2200 g2196) e2195 (by rw [hml]; rfl) (a := b2195) (argsL := []) (rest := [(.ref b2195)]) rfl (lenOf pd___V rfl) rfl (W := 1) (Nat.le_of_eq rfl) (hb hby at_9) (by decide) (by decide) (by decide) (by decide) (fun T2205 h2205 v2205 L2205 X2205 e2205 q2205 => ?_)
  obtain ⟨rfl, N2205q, r2205_0, r2205_1, r2205_2⟩ := q2205
  have N2206 := Fr.app N0 N2205q
  have O2207 := Old.keep O2198 r2205_0 (allS g2196 all0)
  have K2208 : Keep h0 h2205 [] := Keep.trans K2199 r2205_0 (allS (Or.inr z2197) all0)
  refine W.astoreN X2205 hx (hb hby at_12) rfl (l' := #[.val (.int p1), .val (.int (p1 &&& (7 : Int32))), .val (.ref b2195), .unset, .unset]) rfl ?_
  refine W.lconst X2205 hx (hb hby at_13) (v := 1) rfl ?_
  refine W.lstoreN X2205 hx (hb hby at_14) (l' := #[.val (.int p1), .val (.int (p1 &&& (7 : Int32))), .val (.ref b2195), .val (.long (1 : Int64)), .second]) rfl ?_
  refine W.aloadN X2205 hx (hb hby at_15) rfl rfl ?_
  refine W.lloadN X2205 hx (hb hby at_16) rfl ?_
  refine W.iloadN X2205 hx (hb hby at_17) rfl ?_
  by_cases hc2209 : (p1 &&& (7 : Int32)) = (0 : Int32)
  · refine W.ifNo X2205 hx (hb hby at_18) ((if0 _ _).trans (teq (hc2209)).2) ?_
    refine W.iconst X2205 hx (hb hby at_21) (v := 1) rfl ?_
    refine W.goto X2205 hx (hb hby at_22) (by decide) (pc' := 26) rfl ?_
    refine W.static X2205 hx hZ hown (wk hw 13 rfl) (wk hw 14 rfl) (wk hw 15 rfl) (wk hw 16 rfl) (by decide) (xPauseN_maybeReset2 l Z a0 hw SS (0 : Fin 6) b2195 SS.fi h2205 n0 O2207 r2205_2 r2205_1 g2196) e2205 (by rw [hml]; rfl) (argsL := [(.ref b2195), (.long (1 : Int64)), (.int (1 : Int32))]) (rest := []) rfl (lenOf pd__Lcom_example_usher_usher_worker_Pause_JZ_J rfl) rfl (W := 0) (Nat.le_of_eq rfl) (hb hby at_26) (by decide) (by decide) (by decide) (by decide) (fun T2210 h2210 v2210 L2210 X2210 e2210 q2210 => ?_)
    obtain ⟨rfl, N2210q, r2210_0, r2210_1, r2210_2⟩ := q2210
    have N2211 := Fr.app N2206 N2210q
    have O2212 := Old.keep O2207 r2210_0 (allS g2196 all0)
    have K2213 : Keep h0 h2210 [] := Keep.trans K2208 r2210_0 (allS (Or.inr z2197) all0)
    refine W.lstoreN X2210 hx (hb hby at_29) (l' := #[.val (.int p1), .val (.int (p1 &&& (7 : Int32))), .val (.ref b2195), .val (.long (1 : Int64)), .second]) rfl ?_
    refine W.aloadN X2210 hx (hb hby at_30) rfl rfl ?_
    refine W.lloadN X2210 hx (hb hby at_31) rfl ?_
    have F2214 := Exa.ext O2212.2 SS.E_fi
    have F2215 := Fld.ext O2212.2 SS.F_fi_nanos
    have F2216 := Fld.ext O2212.2 SS.F_fi_seconds
    refine W.static X2210 hx hZ hown (wk hw 22 rfl) (wk hw 23 rfl) (wk hw 15 rfl) (wk hw 24 rfl) (by decide) (xPauseN_step1 l Z a0 hw SS (0 : Fin 6) b2195 SS.fi h2210 n0 O2212 r2210_2 r2210_1 F2214 F2215 F2216 g2196) e2210 (by rw [hml]; rfl) (argsL := [(.ref b2195), (.long (1 : Int64))]) (rest := []) rfl (lenOf pd__Lcom_example_usher_usher_worker_Pause_J_J rfl) rfl (W := 0) (Nat.le_of_eq rfl) (hb hby at_32) (by decide) (by decide) (by decide) (by decide) (fun T2217 h2217 v2217 L2217 X2217 e2217 q2217 => ?_)
    obtain ⟨r1_2217, rfl, N2217q, r2217_0, r2217_1, r2217_2, r2217_3, r2217_4, r2217_5⟩ := q2217
    have N2218 := Fr.app N2211 N2217q
    have O2219 := Old.keep O2212 r2217_0 (allS g2196 all0)
    have K2220 : Keep h0 h2217 [] := Keep.trans K2213 r2217_0 (allS (Or.inr z2197) all0)
    refine W.lstoreN X2217 hx (hb hby at_35) (l' := #[.val (.int p1), .val (.int (p1 &&& (7 : Int32))), .val (.ref b2195), .val (.long (2 : Int64)), .second]) rfl ?_
    refine W.aloadN X2217 hx (hb hby at_36) rfl rfl ?_
    refine W.lloadN X2217 hx (hb hby at_37) rfl ?_
    refine W.iloadN X2217 hx (hb hby at_38) rfl ?_
    refine W.iconst X2217 hx (hb hby at_39) (v := 1) rfl ?_
    refine W.icmpYes X2217 hx (hb hby at_40) ((feq (fun q => absurd (hc2209.symm.trans q) (by decide))).2) (by decide) (pc' := 47) rfl ?_
    refine W.iconst X2217 hx (hb hby at_47) (v := 0) rfl ?_
    refine W.static X2217 hx hZ hown (wk hw 13 rfl) (wk hw 14 rfl) (wk hw 15 rfl) (wk hw 16 rfl) (by decide) (xPauseN_maybeReset1 l Z a0 hw SS (1 : Fin 6) b2195 h2217 n0 O2219 ) e2217 (by rw [hml]; rfl) (argsL := [(.ref b2195), (.long (2 : Int64)), (.int (0 : Int32))]) (rest := []) rfl (lenOf pd__Lcom_example_usher_usher_worker_Pause_JZ_J rfl) rfl (W := 0) (Nat.le_of_eq rfl) (hb hby at_48) (by decide) (by decide) (by decide) (by decide) (fun T2221 h2221 v2221 L2221 X2221 e2221 q2221 => ?_)
    obtain ⟨rfl, N2221q, r2221_0⟩ := q2221
    have N2222 := Fr.app N2218 N2221q
    have e2221 := e2221.trans r2221_0
    refine W.lstoreN X2221 hx (hb hby at_51) (l' := #[.val (.int p1), .val (.int (p1 &&& (7 : Int32))), .val (.ref b2195), .val (.long (2 : Int64)), .second]) rfl ?_
    refine W.aloadN X2221 hx (hb hby at_52) rfl rfl ?_
    refine W.lloadN X2221 hx (hb hby at_53) rfl ?_
    have ne2224 : b2195 ≠ r1_2217 := (Exa.ne r2217_5 r2217_3 (by decide))
    refine W.static X2221 hx hZ hown (wk hw 22 rfl) (wk hw 23 rfl) (wk hw 15 rfl) (wk hw 24 rfl) (by decide) (xPauseN_step1 l Z a0 hw SS (1 : Fin 6) b2195 r1_2217 h2217 n0 O2219 r2217_5 r2217_4 r2217_3 r2217_1 r2217_2 g2196) e2221 (by rw [hml]; rfl) (argsL := [(.ref b2195), (.long (2 : Int64))]) (rest := []) rfl (lenOf pd__Lcom_example_usher_usher_worker_Pause_J_J rfl) rfl (W := 0) (Nat.le_of_eq rfl) (hb hby at_54) (by decide) (by decide) (by decide) (by decide) (fun T2223 h2223 v2223 L2223 X2223 e2223 q2223 => ?_)
    obtain ⟨r1_2223, rfl, N2223q, r2223_0, r2223_1, r2223_2, r2223_3, r2223_4, r2223_5⟩ := q2223
    have N2225 := Fr.app N2222 N2223q
    have O2226 := Old.keep O2219 r2223_0 (allS g2196 all0)
    have K2227 : Keep h0 h2223 [] := Keep.trans K2220 r2223_0 (allS (Or.inr z2197) all0)
    refine W.lstoreN X2223 hx (hb hby at_57) (l' := #[.val (.int p1), .val (.int (p1 &&& (7 : Int32))), .val (.ref b2195), .val (.long (4 : Int64)), .second]) rfl ?_
    refine W.aloadN X2223 hx (hb hby at_58) rfl rfl ?_
    refine W.lloadN X2223 hx (hb hby at_59) rfl ?_
    refine W.iloadN X2223 hx (hb hby at_60) rfl ?_
    refine W.iconst X2223 hx (hb hby at_61) (v := 2) rfl ?_
    refine W.icmpYes X2223 hx (hb hby at_62) ((feq (fun q => absurd (hc2209.symm.trans q) (by decide))).2) (by decide) (pc' := 69) rfl ?_
    refine W.iconst X2223 hx (hb hby at_69) (v := 0) rfl ?_
    refine W.static X2223 hx hZ hown (wk hw 13 rfl) (wk hw 14 rfl) (wk hw 15 rfl) (wk hw 16 rfl) (by decide) (xPauseN_maybeReset1 l Z a0 hw SS (2 : Fin 6) b2195 h2223 n0 O2226 ) e2223 (by rw [hml]; rfl) (argsL := [(.ref b2195), (.long (4 : Int64)), (.int (0 : Int32))]) (rest := []) rfl (lenOf pd__Lcom_example_usher_usher_worker_Pause_JZ_J rfl) rfl (W := 0) (Nat.le_of_eq rfl) (hb hby at_70) (by decide) (by decide) (by decide) (by decide) (fun T2228 h2228 v2228 L2228 X2228 e2228 q2228 => ?_)
    obtain ⟨rfl, N2228q, r2228_0⟩ := q2228
    have N2229 := Fr.app N2225 N2228q
    have e2228 := e2228.trans r2228_0
    refine W.lstoreN X2228 hx (hb hby at_73) (l' := #[.val (.int p1), .val (.int (p1 &&& (7 : Int32))), .val (.ref b2195), .val (.long (4 : Int64)), .second]) rfl ?_
    refine W.aloadN X2228 hx (hb hby at_74) rfl rfl ?_
    refine W.lloadN X2228 hx (hb hby at_75) rfl ?_
    have ne2231 : b2195 ≠ r1_2223 := (Exa.ne r2223_5 r2223_3 (by decide))
    refine W.static X2228 hx hZ hown (wk hw 22 rfl) (wk hw 23 rfl) (wk hw 15 rfl) (wk hw 24 rfl) (by decide) (xPauseN_step1 l Z a0 hw SS (2 : Fin 6) b2195 r1_2223 h2223 n0 O2226 r2223_5 r2223_4 r2223_3 r2223_1 r2223_2 g2196) e2228 (by rw [hml]; rfl) (argsL := [(.ref b2195), (.long (4 : Int64))]) (rest := []) rfl (lenOf pd__Lcom_example_usher_usher_worker_Pause_J_J rfl) rfl (W := 0) (Nat.le_of_eq rfl) (hb hby at_76) (by decide) (by decide) (by decide) (by decide) (fun T2230 h2230 v2230 L2230 X2230 e2230 q2230 => ?_)
    obtain ⟨r1_2230, rfl, N2230q, r2230_0, r2230_1, r2230_2, r2230_3, r2230_4, r2230_5⟩ := q2230
    have N2232 := Fr.app N2229 N2230q
    have O2233 := Old.keep O2226 r2230_0 (allS g2196 all0)
    have K2234 : Keep h0 h2230 [] := Keep.trans K2227 r2230_0 (allS (Or.inr z2197) all0)
    refine W.lstoreN X2230 hx (hb hby at_79) (l' := #[.val (.int p1), .val (.int (p1 &&& (7 : Int32))), .val (.ref b2195), .val (.long (8 : Int64)), .second]) rfl ?_
    refine W.aloadN X2230 hx (hb hby at_80) rfl rfl ?_
    refine W.lloadN X2230 hx (hb hby at_81) rfl ?_
    refine W.iloadN X2230 hx (hb hby at_82) rfl ?_
    refine W.iconst X2230 hx (hb hby at_83) (v := 3) rfl ?_
    refine W.icmpYes X2230 hx (hb hby at_84) ((feq (fun q => absurd (hc2209.symm.trans q) (by decide))).2) (by decide) (pc' := 91) rfl ?_
    refine W.iconst X2230 hx (hb hby at_91) (v := 0) rfl ?_
    refine W.static X2230 hx hZ hown (wk hw 13 rfl) (wk hw 14 rfl) (wk hw 15 rfl) (wk hw 16 rfl) (by decide) (xPauseN_maybeReset1 l Z a0 hw SS (3 : Fin 6) b2195 h2230 n0 O2233 ) e2230 (by rw [hml]; rfl) (argsL := [(.ref b2195), (.long (8 : Int64)), (.int (0 : Int32))]) (rest := []) rfl (lenOf pd__Lcom_example_usher_usher_worker_Pause_JZ_J rfl) rfl (W := 0) (Nat.le_of_eq rfl) (hb hby at_92) (by decide) (by decide) (by decide) (by decide) (fun T2235 h2235 v2235 L2235 X2235 e2235 q2235 => ?_)
    obtain ⟨rfl, N2235q, r2235_0⟩ := q2235
    have N2236 := Fr.app N2232 N2235q
    have e2235 := e2235.trans r2235_0
    refine W.lstoreN X2235 hx (hb hby at_95) (l' := #[.val (.int p1), .val (.int (p1 &&& (7 : Int32))), .val (.ref b2195), .val (.long (8 : Int64)), .second]) rfl ?_
    refine W.aloadN X2235 hx (hb hby at_96) rfl rfl ?_
    refine W.lloadN X2235 hx (hb hby at_97) rfl ?_
    have ne2238 : b2195 ≠ r1_2230 := (Exa.ne r2230_5 r2230_3 (by decide))
    refine W.static X2235 hx hZ hown (wk hw 22 rfl) (wk hw 23 rfl) (wk hw 15 rfl) (wk hw 24 rfl) (by decide) (xPauseN_step1 l Z a0 hw SS (3 : Fin 6) b2195 r1_2230 h2230 n0 O2233 r2230_5 r2230_4 r2230_3 r2230_1 r2230_2 g2196) e2235 (by rw [hml]; rfl) (argsL := [(.ref b2195), (.long (8 : Int64))]) (rest := []) rfl (lenOf pd__Lcom_example_usher_usher_worker_Pause_J_J rfl) rfl (W := 0) (Nat.le_of_eq rfl) (hb hby at_98) (by decide) (by decide) (by decide) (by decide) (fun T2237 h2237 v2237 L2237 X2237 e2237 q2237 => ?_)
    obtain ⟨r1_2237, rfl, N2237q, r2237_0, r2237_1, r2237_2, r2237_3, r2237_4, r2237_5⟩ := q2237
    have N2239 := Fr.app N2236 N2237q
    have O2240 := Old.keep O2233 r2237_0 (allS g2196 all0)
    have K2241 : Keep h0 h2237 [] := Keep.trans K2234 r2237_0 (allS (Or.inr z2197) all0)
    refine W.lstoreN X2237 hx (hb hby at_101) (l' := #[.val (.int p1), .val (.int (p1 &&& (7 : Int32))), .val (.ref b2195), .val (.long (16 : Int64)), .second]) rfl ?_
    refine W.aloadN X2237 hx (hb hby at_102) rfl rfl ?_
    refine W.lloadN X2237 hx (hb hby at_103) rfl ?_
    refine W.iloadN X2237 hx (hb hby at_104) rfl ?_
    refine W.iconst X2237 hx (hb hby at_105) (v := 4) rfl ?_
    refine W.icmpYes X2237 hx (hb hby at_106) ((feq (fun q => absurd (hc2209.symm.trans q) (by decide))).2) (by decide) (pc' := 113) rfl ?_
    refine W.iconst X2237 hx (hb hby at_113) (v := 0) rfl ?_
    refine W.static X2237 hx hZ hown (wk hw 13 rfl) (wk hw 14 rfl) (wk hw 15 rfl) (wk hw 16 rfl) (by decide) (xPauseN_maybeReset1 l Z a0 hw SS (4 : Fin 6) b2195 h2237 n0 O2240 ) e2237 (by rw [hml]; rfl) (argsL := [(.ref b2195), (.long (16 : Int64)), (.int (0 : Int32))]) (rest := []) rfl (lenOf pd__Lcom_example_usher_usher_worker_Pause_JZ_J rfl) rfl (W := 0) (Nat.le_of_eq rfl) (hb hby at_114) (by decide) (by decide) (by decide) (by decide) (fun T2242 h2242 v2242 L2242 X2242 e2242 q2242 => ?_)
    obtain ⟨rfl, N2242q, r2242_0⟩ := q2242
    have N2243 := Fr.app N2239 N2242q
    have e2242 := e2242.trans r2242_0
    refine W.lstoreN X2242 hx (hb hby at_117) (l' := #[.val (.int p1), .val (.int (p1 &&& (7 : Int32))), .val (.ref b2195), .val (.long (16 : Int64)), .second]) rfl ?_
    refine W.aloadN X2242 hx (hb hby at_118) rfl rfl ?_
    refine W.lloadN X2242 hx (hb hby at_119) rfl ?_
    have ne2245 : b2195 ≠ r1_2237 := (Exa.ne r2237_5 r2237_3 (by decide))
    refine W.static X2242 hx hZ hown (wk hw 22 rfl) (wk hw 23 rfl) (wk hw 15 rfl) (wk hw 24 rfl) (by decide) (xPauseN_step1 l Z a0 hw SS (4 : Fin 6) b2195 r1_2237 h2237 n0 O2240 r2237_5 r2237_4 r2237_3 r2237_1 r2237_2 g2196) e2242 (by rw [hml]; rfl) (argsL := [(.ref b2195), (.long (16 : Int64))]) (rest := []) rfl (lenOf pd__Lcom_example_usher_usher_worker_Pause_J_J rfl) rfl (W := 0) (Nat.le_of_eq rfl) (hb hby at_120) (by decide) (by decide) (by decide) (by decide) (fun T2244 h2244 v2244 L2244 X2244 e2244 q2244 => ?_)
    obtain ⟨r1_2244, rfl, N2244q, r2244_0, r2244_1, r2244_2, r2244_3, r2244_4, r2244_5⟩ := q2244
    have N2246 := Fr.app N2243 N2244q
    have O2247 := Old.keep O2240 r2244_0 (allS g2196 all0)
    have K2248 : Keep h0 h2244 [] := Keep.trans K2241 r2244_0 (allS (Or.inr z2197) all0)
    refine W.lstoreN X2244 hx (hb hby at_123) (l' := #[.val (.int p1), .val (.int (p1 &&& (7 : Int32))), .val (.ref b2195), .val (.long (30 : Int64)), .second]) rfl ?_
    refine W.aloadN X2244 hx (hb hby at_124) rfl rfl ?_
    refine W.lloadN X2244 hx (hb hby at_125) rfl ?_
    refine W.iloadN X2244 hx (hb hby at_126) rfl ?_
    refine W.iconst X2244 hx (hb hby at_127) (v := 5) rfl ?_
    refine W.icmpYes X2244 hx (hb hby at_128) ((feq (fun q => absurd (hc2209.symm.trans q) (by decide))).2) (by decide) (pc' := 135) rfl ?_
    refine W.iconst X2244 hx (hb hby at_135) (v := 0) rfl ?_
    refine W.static X2244 hx hZ hown (wk hw 13 rfl) (wk hw 14 rfl) (wk hw 15 rfl) (wk hw 16 rfl) (by decide) (xPauseN_maybeReset1 l Z a0 hw SS (5 : Fin 6) b2195 h2244 n0 O2247 ) e2244 (by rw [hml]; rfl) (argsL := [(.ref b2195), (.long (30 : Int64)), (.int (0 : Int32))]) (rest := []) rfl (lenOf pd__Lcom_example_usher_usher_worker_Pause_JZ_J rfl) rfl (W := 0) (Nat.le_of_eq rfl) (hb hby at_136) (by decide) (by decide) (by decide) (by decide) (fun T2249 h2249 v2249 L2249 X2249 e2249 q2249 => ?_)
    obtain ⟨rfl, N2249q, r2249_0⟩ := q2249
    have N2250 := Fr.app N2246 N2249q
    have e2249 := e2249.trans r2249_0
    refine W.lstoreN X2249 hx (hb hby at_139) (l' := #[.val (.int p1), .val (.int (p1 &&& (7 : Int32))), .val (.ref b2195), .val (.long (30 : Int64)), .second]) rfl ?_
    refine W.aloadN X2249 hx (hb hby at_140) rfl rfl ?_
    refine W.lloadN X2249 hx (hb hby at_141) rfl ?_
    have ne2252 : b2195 ≠ r1_2244 := (Exa.ne r2244_5 r2244_3 (by decide))
    refine W.static X2249 hx hZ hown (wk hw 22 rfl) (wk hw 23 rfl) (wk hw 15 rfl) (wk hw 24 rfl) (by decide) (xPauseN_step1 l Z a0 hw SS (5 : Fin 6) b2195 r1_2244 h2244 n0 O2247 r2244_5 r2244_4 r2244_3 r2244_1 r2244_2 g2196) e2249 (by rw [hml]; rfl) (argsL := [(.ref b2195), (.long (30 : Int64))]) (rest := []) rfl (lenOf pd__Lcom_example_usher_usher_worker_Pause_J_J rfl) rfl (W := 0) (Nat.le_of_eq rfl) (hb hby at_142) (by decide) (by decide) (by decide) (by decide) (fun T2251 h2251 v2251 L2251 X2251 e2251 q2251 => ?_)
    obtain ⟨r1_2251, rfl, N2251q, r2251_0, r2251_1, r2251_2, r2251_3, r2251_4, r2251_5⟩ := q2251
    have N2253 := Fr.app N2250 N2251q
    have O2254 := Old.keep O2247 r2251_0 (allS g2196 all0)
    have K2255 : Keep h0 h2251 [] := Keep.trans K2248 r2251_0 (allS (Or.inr z2197) all0)
    refine W.lstoreN X2251 hx (hb hby at_145) (l' := #[.val (.int p1), .val (.int (p1 &&& (7 : Int32))), .val (.ref b2195), .val (.long (30 : Int64)), .second]) rfl ?_
    refine W.aloadN X2251 hx (hb hby at_146) rfl rfl ?_
    refine W.lloadN X2251 hx (hb hby at_147) rfl ?_
    refine W.iloadN X2251 hx (hb hby at_148) rfl ?_
    refine W.bipush X2251 hx (hb hby at_149) (v := 6) rfl ?_
    refine W.icmpYes X2251 hx (hb hby at_151) ((feq (fun q => absurd (hc2209.symm.trans q) (by decide))).2) (by decide) (pc' := 158) rfl ?_
    refine W.iconst X2251 hx (hb hby at_158) (v := 0) rfl ?_
    refine W.static X2251 hx hZ hown (wk hw 13 rfl) (wk hw 14 rfl) (wk hw 15 rfl) (wk hw 16 rfl) (by decide) (xPauseN_maybeReset1 l Z a0 hw SS (5 : Fin 6) b2195 h2251 n0 O2254 ) e2251 (by rw [hml]; rfl) (argsL := [(.ref b2195), (.long (30 : Int64)), (.int (0 : Int32))]) (rest := []) rfl (lenOf pd__Lcom_example_usher_usher_worker_Pause_JZ_J rfl) rfl (W := 0) (Nat.le_of_eq rfl) (hb hby at_159) (by decide) (by decide) (by decide) (by decide) (fun T2256 h2256 v2256 L2256 X2256 e2256 q2256 => ?_)
    obtain ⟨rfl, N2256q, r2256_0⟩ := q2256
    have N2257 := Fr.app N2253 N2256q
    have e2256 := e2256.trans r2256_0
    refine W.lstoreN X2256 hx (hb hby at_162) (l' := #[.val (.int p1), .val (.int (p1 &&& (7 : Int32))), .val (.ref b2195), .val (.long (30 : Int64)), .second]) rfl ?_
    refine W.aloadN X2256 hx (hb hby at_163) rfl rfl ?_
    refine W.lloadN X2256 hx (hb hby at_164) rfl ?_
    have ne2259 : b2195 ≠ r1_2251 := (Exa.ne r2251_5 r2251_3 (by decide))
    refine W.static X2256 hx hZ hown (wk hw 22 rfl) (wk hw 23 rfl) (wk hw 15 rfl) (wk hw 24 rfl) (by decide) (xPauseN_step1 l Z a0 hw SS (5 : Fin 6) b2195 r1_2251 h2251 n0 O2254 r2251_5 r2251_4 r2251_3 r2251_1 r2251_2 g2196) e2256 (by rw [hml]; rfl) (argsL := [(.ref b2195), (.long (30 : Int64))]) (rest := []) rfl (lenOf pd__Lcom_example_usher_usher_worker_Pause_J_J rfl) rfl (W := 0) (Nat.le_of_eq rfl) (hb hby at_165) (by decide) (by decide) (by decide) (by decide) (fun T2258 h2258 v2258 L2258 X2258 e2258 q2258 => ?_)
    obtain ⟨r1_2258, rfl, N2258q, r2258_0, r2258_1, r2258_2, r2258_3, r2258_4, r2258_5⟩ := q2258
    have N2260 := Fr.app N2257 N2258q
    have O2261 := Old.keep O2254 r2258_0 (allS g2196 all0)
    have K2262 : Keep h0 h2258 [] := Keep.trans K2255 r2258_0 (allS (Or.inr z2197) all0)
    refine W.lstoreN X2258 hx (hb hby at_168) (l' := #[.val (.int p1), .val (.int (p1 &&& (7 : Int32))), .val (.ref b2195), .val (.long (30 : Int64)), .second]) rfl ?_
    refine W.aloadN X2258 hx (hb hby at_169) rfl rfl ?_
    refine W.lloadN X2258 hx (hb hby at_170) rfl ?_
    refine W.iloadN X2258 hx (hb hby at_171) rfl ?_
    refine W.bipush X2258 hx (hb hby at_172) (v := 7) rfl ?_
    refine W.icmpYes X2258 hx (hb hby at_174) ((feq (fun q => absurd (hc2209.symm.trans q) (by decide))).2) (by decide) (pc' := 181) rfl ?_
    refine W.iconst X2258 hx (hb hby at_181) (v := 0) rfl ?_
    refine W.static X2258 hx hZ hown (wk hw 13 rfl) (wk hw 14 rfl) (wk hw 15 rfl) (wk hw 16 rfl) (by decide) (xPauseN_maybeReset1 l Z a0 hw SS (5 : Fin 6) b2195 h2258 n0 O2261 ) e2258 (by rw [hml]; rfl) (argsL := [(.ref b2195), (.long (30 : Int64)), (.int (0 : Int32))]) (rest := []) rfl (lenOf pd__Lcom_example_usher_usher_worker_Pause_JZ_J rfl) rfl (W := 0) (Nat.le_of_eq rfl) (hb hby at_182) (by decide) (by decide) (by decide) (by decide) (fun T2263 h2263 v2263 L2263 X2263 e2263 q2263 => ?_)
    obtain ⟨rfl, N2263q, r2263_0⟩ := q2263
    have N2264 := Fr.app N2260 N2263q
    have e2263 := e2263.trans r2263_0
    refine W.lstoreN X2263 hx (hb hby at_185) (l' := #[.val (.int p1), .val (.int (p1 &&& (7 : Int32))), .val (.ref b2195), .val (.long (30 : Int64)), .second]) rfl ?_
    refine W.aloadN X2263 hx (hb hby at_186) rfl rfl ?_
    refine W.lloadN X2263 hx (hb hby at_187) rfl ?_
    have ne2266 : b2195 ≠ r1_2258 := (Exa.ne r2258_5 r2258_3 (by decide))
    refine W.static X2263 hx hZ hown (wk hw 22 rfl) (wk hw 23 rfl) (wk hw 15 rfl) (wk hw 24 rfl) (by decide) (xPauseN_step1 l Z a0 hw SS (5 : Fin 6) b2195 r1_2258 h2258 n0 O2261 r2258_5 r2258_4 r2258_3 r2258_1 r2258_2 g2196) e2263 (by rw [hml]; rfl) (argsL := [(.ref b2195), (.long (30 : Int64))]) (rest := []) rfl (lenOf pd__Lcom_example_usher_usher_worker_Pause_J_J rfl) rfl (W := 0) (Nat.le_of_eq rfl) (hb hby at_188) (by decide) (by decide) (by decide) (by decide) (fun T2265 h2265 v2265 L2265 X2265 e2265 q2265 => ?_)
    obtain ⟨r1_2265, rfl, N2265q, r2265_0, r2265_1, r2265_2, r2265_3, r2265_4, r2265_5⟩ := q2265
    have N2267 := Fr.app N2264 N2265q
    have O2268 := Old.keep O2261 r2265_0 (allS g2196 all0)
    have K2269 : Keep h0 h2265 [] := Keep.trans K2262 r2265_0 (allS (Or.inr z2197) all0)
    refine W.lstoreN X2265 hx (hb hby at_191) (l' := #[.val (.int p1), .val (.int (p1 &&& (7 : Int32))), .val (.ref b2195), .val (.long (30 : Int64)), .second]) rfl ?_
    refine W.lloadN X2265 hx (hb hby at_192) rfl ?_
    refine W.lconst X2265 hx (hb hby at_193) (v := 0) rfl ?_
    refine W.lcmp X2265 hx (hb hby at_194) (v := (1 : Int32)) (by decide) ?_
    refine W.ifNo X2265 hx (hb hby at_195) (by decide) ?_
    refine W.iconst X2265 hx (hb hby at_198) (v := 1) rfl ?_
    refine W.goto X2265 hx (hb hby at_199) (by decide) (pc' := 203) rfl ?_
    exact Win.retN X2265 hx hlk (t := .boolean) hret (by simp) rfl (hb hby at_203) (by decide) (by decide) (by (try rw [e2265]); exact ⟨rfl, N2267, trivial⟩)
  · refine W.ifYes X2205 hx (hb hby at_18) ((if0 _ _).trans (feq (hc2209)).2) (by decide) (pc' := 25) rfl ?_
    refine W.iconst X2205 hx (hb hby at_25) (v := 0) rfl ?_
    refine W.static X2205 hx hZ hown (wk hw 13 rfl) (wk hw 14 rfl) (wk hw 15 rfl) (wk hw 16 rfl) (by decide) (xPauseN_maybeReset1 l Z a0 hw SS (0 : Fin 6) b2195 h2205 n0 O2207 ) e2205 (by rw [hml]; rfl) (argsL := [(.ref b2195), (.long (1 : Int64)), (.int (0 : Int32))]) (rest := []) rfl (lenOf pd__Lcom_example_usher_usher_worker_Pause_JZ_J rfl) rfl (W := 0) (Nat.le_of_eq rfl) (hb hby at_26) (by decide) (by decide) (by decide) (by decide) (fun T2270 h2270 v2270 L2270 X2270 e2270 q2270 => ?_)
    obtain ⟨rfl, N2270q, r2270_0⟩ := q2270
    have N2271 := Fr.app N2206 N2270q
    have e2270 := e2270.trans r2270_0
    refine W.lstoreN X2270 hx (hb hby at_29) (l' := #[.val (.int p1), .val (.int (p1 &&& (7 : Int32))), .val (.ref b2195), .val (.long (1 : Int64)), .second]) rfl ?_
    refine W.aloadN X2270 hx (hb hby at_30) rfl rfl ?_
    refine W.lloadN X2270 hx (hb hby at_31) rfl ?_
    have F2272 := Exa.ext O2207.2 SS.E_fi
    have F2273 := Fld.ext O2207.2 SS.F_fi_nanos
    have F2274 := Fld.ext O2207.2 SS.F_fi_seconds
    refine W.static X2270 hx hZ hown (wk hw 22 rfl) (wk hw 23 rfl) (wk hw 15 rfl) (wk hw 24 rfl) (by decide) (xPauseN_step1 l Z a0 hw SS (0 : Fin 6) b2195 SS.fi h2205 n0 O2207 r2205_2 r2205_1 F2272 F2273 F2274 g2196) e2270 (by rw [hml]; rfl) (argsL := [(.ref b2195), (.long (1 : Int64))]) (rest := []) rfl (lenOf pd__Lcom_example_usher_usher_worker_Pause_J_J rfl) rfl (W := 0) (Nat.le_of_eq rfl) (hb hby at_32) (by decide) (by decide) (by decide) (by decide) (fun T2275 h2275 v2275 L2275 X2275 e2275 q2275 => ?_)
    obtain ⟨r1_2275, rfl, N2275q, r2275_0, r2275_1, r2275_2, r2275_3, r2275_4, r2275_5⟩ := q2275
    have N2276 := Fr.app N2271 N2275q
    have O2277 := Old.keep O2207 r2275_0 (allS g2196 all0)
    have K2278 : Keep h0 h2275 [] := Keep.trans K2208 r2275_0 (allS (Or.inr z2197) all0)
    refine W.lstoreN X2275 hx (hb hby at_35) (l' := #[.val (.int p1), .val (.int (p1 &&& (7 : Int32))), .val (.ref b2195), .val (.long (2 : Int64)), .second]) rfl ?_
    refine W.aloadN X2275 hx (hb hby at_36) rfl rfl ?_
    refine W.lloadN X2275 hx (hb hby at_37) rfl ?_
    refine W.iloadN X2275 hx (hb hby at_38) rfl ?_
    refine W.iconst X2275 hx (hb hby at_39) (v := 1) rfl ?_
    by_cases hc2279 : (p1 &&& (7 : Int32)) = (1 : Int32)
    · refine W.icmpNo X2275 hx (hb hby at_40) ((teq (hc2279)).2) ?_
      refine W.iconst X2275 hx (hb hby at_43) (v := 1) rfl ?_
      refine W.goto X2275 hx (hb hby at_44) (by decide) (pc' := 48) rfl ?_
      have ne2281 : b2195 ≠ r1_2275 := (Exa.ne r2275_5 r2275_3 (by decide))
      refine W.static X2275 hx hZ hown (wk hw 13 rfl) (wk hw 14 rfl) (wk hw 15 rfl) (wk hw 16 rfl) (by decide) (xPauseN_maybeReset2 l Z a0 hw SS (1 : Fin 6) b2195 r1_2275 h2275 n0 O2277 r2275_5 r2275_4 g2196) e2275 (by rw [hml]; rfl) (argsL := [(.ref b2195), (.long (2 : Int64)), (.int (1 : Int32))]) (rest := []) rfl (lenOf pd__Lcom_example_usher_usher_worker_Pause_JZ_J rfl) rfl (W := 0) (Nat.le_of_eq rfl) (hb hby at_48) (by decide) (by decide) (by decide) (by decide) (fun T2280 h2280 v2280 L2280 X2280 e2280 q2280 => ?_)
      obtain ⟨rfl, N2280q, r2280_0, r2280_1, r2280_2⟩ := q2280
      have N2282 := Fr.app N2276 N2280q
      have O2283 := Old.keep O2277 r2280_0 (allS g2196 all0)
      have K2284 : Keep h0 h2280 [] := Keep.trans K2278 r2280_0 (allS (Or.inr z2197) all0)
      refine W.lstoreN X2280 hx (hb hby at_51) (l' := #[.val (.int p1), .val (.int (p1 &&& (7 : Int32))), .val (.ref b2195), .val (.long (1 : Int64)), .second]) rfl ?_
      refine W.aloadN X2280 hx (hb hby at_52) rfl rfl ?_
      refine W.lloadN X2280 hx (hb hby at_53) rfl ?_
      have F2285 := Exa.ext O2283.2 SS.E_fi
      have F2286 := Fld.ext O2283.2 SS.F_fi_nanos
      have F2287 := Fld.ext O2283.2 SS.F_fi_seconds
      refine W.static X2280 hx hZ hown (wk hw 22 rfl) (wk hw 23 rfl) (wk hw 15 rfl) (wk hw 24 rfl) (by decide) (xPauseN_step1 l Z a0 hw SS (0 : Fin 6) b2195 SS.fi h2280 n0 O2283 r2280_2 r2280_1 F2285 F2286 F2287 g2196) e2280 (by rw [hml]; rfl) (argsL := [(.ref b2195), (.long (1 : Int64))]) (rest := []) rfl (lenOf pd__Lcom_example_usher_usher_worker_Pause_J_J rfl) rfl (W := 0) (Nat.le_of_eq rfl) (hb hby at_54) (by decide) (by decide) (by decide) (by decide) (fun T2288 h2288 v2288 L2288 X2288 e2288 q2288 => ?_)
      obtain ⟨r1_2288, rfl, N2288q, r2288_0, r2288_1, r2288_2, r2288_3, r2288_4, r2288_5⟩ := q2288
      have N2289 := Fr.app N2282 N2288q
      have O2290 := Old.keep O2283 r2288_0 (allS g2196 all0)
      have K2291 : Keep h0 h2288 [] := Keep.trans K2284 r2288_0 (allS (Or.inr z2197) all0)
      refine W.lstoreN X2288 hx (hb hby at_57) (l' := #[.val (.int p1), .val (.int (p1 &&& (7 : Int32))), .val (.ref b2195), .val (.long (2 : Int64)), .second]) rfl ?_
      refine W.aloadN X2288 hx (hb hby at_58) rfl rfl ?_
      refine W.lloadN X2288 hx (hb hby at_59) rfl ?_
      refine W.iloadN X2288 hx (hb hby at_60) rfl ?_
      refine W.iconst X2288 hx (hb hby at_61) (v := 2) rfl ?_
      refine W.icmpYes X2288 hx (hb hby at_62) ((feq (fun q => absurd (hc2279.symm.trans q) (by decide))).2) (by decide) (pc' := 69) rfl ?_
      refine W.iconst X2288 hx (hb hby at_69) (v := 0) rfl ?_
      refine W.static X2288 hx hZ hown (wk hw 13 rfl) (wk hw 14 rfl) (wk hw 15 rfl) (wk hw 16 rfl) (by decide) (xPauseN_maybeReset1 l Z a0 hw SS (1 : Fin 6) b2195 h2288 n0 O2290 ) e2288 (by rw [hml]; rfl) (argsL := [(.ref b2195), (.long (2 : Int64)), (.int (0 : Int32))]) (rest := []) rfl (lenOf pd__Lcom_example_usher_usher_worker_Pause_JZ_J rfl) rfl (W := 0) (Nat.le_of_eq rfl) (hb hby at_70) (by decide) (by decide) (by decide) (by decide) (fun T2292 h2292 v2292 L2292 X2292 e2292 q2292 => ?_)
      obtain ⟨rfl, N2292q, r2292_0⟩ := q2292
      have N2293 := Fr.app N2289 N2292q
      have e2292 := e2292.trans r2292_0
      refine W.lstoreN X2292 hx (hb hby at_73) (l' := #[.val (.int p1), .val (.int (p1 &&& (7 : Int32))), .val (.ref b2195), .val (.long (2 : Int64)), .second]) rfl ?_
      refine W.aloadN X2292 hx (hb hby at_74) rfl rfl ?_
      refine W.lloadN X2292 hx (hb hby at_75) rfl ?_
      have ne2295 : b2195 ≠ r1_2288 := (Exa.ne r2288_5 r2288_3 (by decide))
      refine W.static X2292 hx hZ hown (wk hw 22 rfl) (wk hw 23 rfl) (wk hw 15 rfl) (wk hw 24 rfl) (by decide) (xPauseN_step1 l Z a0 hw SS (1 : Fin 6) b2195 r1_2288 h2288 n0 O2290 r2288_5 r2288_4 r2288_3 r2288_1 r2288_2 g2196) e2292 (by rw [hml]; rfl) (argsL := [(.ref b2195), (.long (2 : Int64))]) (rest := []) rfl (lenOf pd__Lcom_example_usher_usher_worker_Pause_J_J rfl) rfl (W := 0) (Nat.le_of_eq rfl) (hb hby at_76) (by decide) (by decide) (by decide) (by decide) (fun T2294 h2294 v2294 L2294 X2294 e2294 q2294 => ?_)
      obtain ⟨r1_2294, rfl, N2294q, r2294_0, r2294_1, r2294_2, r2294_3, r2294_4, r2294_5⟩ := q2294
      have N2296 := Fr.app N2293 N2294q
      have O2297 := Old.keep O2290 r2294_0 (allS g2196 all0)
      have K2298 : Keep h0 h2294 [] := Keep.trans K2291 r2294_0 (allS (Or.inr z2197) all0)
      refine W.lstoreN X2294 hx (hb hby at_79) (l' := #[.val (.int p1), .val (.int (p1 &&& (7 : Int32))), .val (.ref b2195), .val (.long (4 : Int64)), .second]) rfl ?_
      refine W.aloadN X2294 hx (hb hby at_80) rfl rfl ?_
      refine W.lloadN X2294 hx (hb hby at_81) rfl ?_
      refine W.iloadN X2294 hx (hb hby at_82) rfl ?_
      refine W.iconst X2294 hx (hb hby at_83) (v := 3) rfl ?_
      refine W.icmpYes X2294 hx (hb hby at_84) ((feq (fun q => absurd (hc2279.symm.trans q) (by decide))).2) (by decide) (pc' := 91) rfl ?_
      refine W.iconst X2294 hx (hb hby at_91) (v := 0) rfl ?_
      refine W.static X2294 hx hZ hown (wk hw 13 rfl) (wk hw 14 rfl) (wk hw 15 rfl) (wk hw 16 rfl) (by decide) (xPauseN_maybeReset1 l Z a0 hw SS (2 : Fin 6) b2195 h2294 n0 O2297 ) e2294 (by rw [hml]; rfl) (argsL := [(.ref b2195), (.long (4 : Int64)), (.int (0 : Int32))]) (rest := []) rfl (lenOf pd__Lcom_example_usher_usher_worker_Pause_JZ_J rfl) rfl (W := 0) (Nat.le_of_eq rfl) (hb hby at_92) (by decide) (by decide) (by decide) (by decide) (fun T2299 h2299 v2299 L2299 X2299 e2299 q2299 => ?_)
      obtain ⟨rfl, N2299q, r2299_0⟩ := q2299
      have N2300 := Fr.app N2296 N2299q
      have e2299 := e2299.trans r2299_0
      refine W.lstoreN X2299 hx (hb hby at_95) (l' := #[.val (.int p1), .val (.int (p1 &&& (7 : Int32))), .val (.ref b2195), .val (.long (4 : Int64)), .second]) rfl ?_
      refine W.aloadN X2299 hx (hb hby at_96) rfl rfl ?_
      refine W.lloadN X2299 hx (hb hby at_97) rfl ?_
      have ne2302 : b2195 ≠ r1_2294 := (Exa.ne r2294_5 r2294_3 (by decide))
      refine W.static X2299 hx hZ hown (wk hw 22 rfl) (wk hw 23 rfl) (wk hw 15 rfl) (wk hw 24 rfl) (by decide) (xPauseN_step1 l Z a0 hw SS (2 : Fin 6) b2195 r1_2294 h2294 n0 O2297 r2294_5 r2294_4 r2294_3 r2294_1 r2294_2 g2196) e2299 (by rw [hml]; rfl) (argsL := [(.ref b2195), (.long (4 : Int64))]) (rest := []) rfl (lenOf pd__Lcom_example_usher_usher_worker_Pause_J_J rfl) rfl (W := 0) (Nat.le_of_eq rfl) (hb hby at_98) (by decide) (by decide) (by decide) (by decide) (fun T2301 h2301 v2301 L2301 X2301 e2301 q2301 => ?_)
      obtain ⟨r1_2301, rfl, N2301q, r2301_0, r2301_1, r2301_2, r2301_3, r2301_4, r2301_5⟩ := q2301
      have N2303 := Fr.app N2300 N2301q
      have O2304 := Old.keep O2297 r2301_0 (allS g2196 all0)
      have K2305 : Keep h0 h2301 [] := Keep.trans K2298 r2301_0 (allS (Or.inr z2197) all0)
      refine W.lstoreN X2301 hx (hb hby at_101) (l' := #[.val (.int p1), .val (.int (p1 &&& (7 : Int32))), .val (.ref b2195), .val (.long (8 : Int64)), .second]) rfl ?_
      refine W.aloadN X2301 hx (hb hby at_102) rfl rfl ?_
      refine W.lloadN X2301 hx (hb hby at_103) rfl ?_
      refine W.iloadN X2301 hx (hb hby at_104) rfl ?_
      refine W.iconst X2301 hx (hb hby at_105) (v := 4) rfl ?_
      refine W.icmpYes X2301 hx (hb hby at_106) ((feq (fun q => absurd (hc2279.symm.trans q) (by decide))).2) (by decide) (pc' := 113) rfl ?_
      refine W.iconst X2301 hx (hb hby at_113) (v := 0) rfl ?_
      refine W.static X2301 hx hZ hown (wk hw 13 rfl) (wk hw 14 rfl) (wk hw 15 rfl) (wk hw 16 rfl) (by decide) (xPauseN_maybeReset1 l Z a0 hw SS (3 : Fin 6) b2195 h2301 n0 O2304 ) e2301 (by rw [hml]; rfl) (argsL := [(.ref b2195), (.long (8 : Int64)), (.int (0 : Int32))]) (rest := []) rfl (lenOf pd__Lcom_example_usher_usher_worker_Pause_JZ_J rfl) rfl (W := 0) (Nat.le_of_eq rfl) (hb hby at_114) (by decide) (by decide) (by decide) (by decide) (fun T2306 h2306 v2306 L2306 X2306 e2306 q2306 => ?_)
      obtain ⟨rfl, N2306q, r2306_0⟩ := q2306
      have N2307 := Fr.app N2303 N2306q
      have e2306 := e2306.trans r2306_0
      refine W.lstoreN X2306 hx (hb hby at_117) (l' := #[.val (.int p1), .val (.int (p1 &&& (7 : Int32))), .val (.ref b2195), .val (.long (8 : Int64)), .second]) rfl ?_
      refine W.aloadN X2306 hx (hb hby at_118) rfl rfl ?_
      refine W.lloadN X2306 hx (hb hby at_119) rfl ?_
      have ne2309 : b2195 ≠ r1_2301 := (Exa.ne r2301_5 r2301_3 (by decide))
      refine W.static X2306 hx hZ hown (wk hw 22 rfl) (wk hw 23 rfl) (wk hw 15 rfl) (wk hw 24 rfl) (by decide) (xPauseN_step1 l Z a0 hw SS (3 : Fin 6) b2195 r1_2301 h2301 n0 O2304 r2301_5 r2301_4 r2301_3 r2301_1 r2301_2 g2196) e2306 (by rw [hml]; rfl) (argsL := [(.ref b2195), (.long (8 : Int64))]) (rest := []) rfl (lenOf pd__Lcom_example_usher_usher_worker_Pause_J_J rfl) rfl (W := 0) (Nat.le_of_eq rfl) (hb hby at_120) (by decide) (by decide) (by decide) (by decide) (fun T2308 h2308 v2308 L2308 X2308 e2308 q2308 => ?_)
      obtain ⟨r1_2308, rfl, N2308q, r2308_0, r2308_1, r2308_2, r2308_3, r2308_4, r2308_5⟩ := q2308
      have N2310 := Fr.app N2307 N2308q
      have O2311 := Old.keep O2304 r2308_0 (allS g2196 all0)
      have K2312 : Keep h0 h2308 [] := Keep.trans K2305 r2308_0 (allS (Or.inr z2197) all0)
      refine W.lstoreN X2308 hx (hb hby at_123) (l' := #[.val (.int p1), .val (.int (p1 &&& (7 : Int32))), .val (.ref b2195), .val (.long (16 : Int64)), .second]) rfl ?_
      refine W.aloadN X2308 hx (hb hby at_124) rfl rfl ?_
      refine W.lloadN X2308 hx (hb hby at_125) rfl ?_
      refine W.iloadN X2308 hx (hb hby at_126) rfl ?_
      refine W.iconst X2308 hx (hb hby at_127) (v := 5) rfl ?_
      refine W.icmpYes X2308 hx (hb hby at_128) ((feq (fun q => absurd (hc2279.symm.trans q) (by decide))).2) (by decide) (pc' := 135) rfl ?_
      refine W.iconst X2308 hx (hb hby at_135) (v := 0) rfl ?_
      refine W.static X2308 hx hZ hown (wk hw 13 rfl) (wk hw 14 rfl) (wk hw 15 rfl) (wk hw 16 rfl) (by decide) (xPauseN_maybeReset1 l Z a0 hw SS (4 : Fin 6) b2195 h2308 n0 O2311 ) e2308 (by rw [hml]; rfl) (argsL := [(.ref b2195), (.long (16 : Int64)), (.int (0 : Int32))]) (rest := []) rfl (lenOf pd__Lcom_example_usher_usher_worker_Pause_JZ_J rfl) rfl (W := 0) (Nat.le_of_eq rfl) (hb hby at_136) (by decide) (by decide) (by decide) (by decide) (fun T2313 h2313 v2313 L2313 X2313 e2313 q2313 => ?_)
      obtain ⟨rfl, N2313q, r2313_0⟩ := q2313
      have N2314 := Fr.app N2310 N2313q
      have e2313 := e2313.trans r2313_0
      refine W.lstoreN X2313 hx (hb hby at_139) (l' := #[.val (.int p1), .val (.int (p1 &&& (7 : Int32))), .val (.ref b2195), .val (.long (16 : Int64)), .second]) rfl ?_
      refine W.aloadN X2313 hx (hb hby at_140) rfl rfl ?_
      refine W.lloadN X2313 hx (hb hby at_141) rfl ?_
      have ne2316 : b2195 ≠ r1_2308 := (Exa.ne r2308_5 r2308_3 (by decide))
      refine W.static X2313 hx hZ hown (wk hw 22 rfl) (wk hw 23 rfl) (wk hw 15 rfl) (wk hw 24 rfl) (by decide) (xPauseN_step1 l Z a0 hw SS (4 : Fin 6) b2195 r1_2308 h2308 n0 O2311 r2308_5 r2308_4 r2308_3 r2308_1 r2308_2 g2196) e2313 (by rw [hml]; rfl) (argsL := [(.ref b2195), (.long (16 : Int64))]) (rest := []) rfl (lenOf pd__Lcom_example_usher_usher_worker_Pause_J_J rfl) rfl (W := 0) (Nat.le_of_eq rfl) (hb hby at_142) (by decide) (by decide) (by decide) (by decide) (fun T2315 h2315 v2315 L2315 X2315 e2315 q2315 => ?_)
      obtain ⟨r1_2315, rfl, N2315q, r2315_0, r2315_1, r2315_2, r2315_3, r2315_4, r2315_5⟩ := q2315
      have N2317 := Fr.app N2314 N2315q
      have O2318 := Old.keep O2311 r2315_0 (allS g2196 all0)
      have K2319 : Keep h0 h2315 [] := Keep.trans K2312 r2315_0 (allS (Or.inr z2197) all0)
      refine W.lstoreN X2315 hx (hb hby at_145) (l' := #[.val (.int p1), .val (.int (p1 &&& (7 : Int32))), .val (.ref b2195), .val (.long (30 : Int64)), .second]) rfl ?_
      refine W.aloadN X2315 hx (hb hby at_146) rfl rfl ?_
      refine W.lloadN X2315 hx (hb hby at_147) rfl ?_
      refine W.iloadN X2315 hx (hb hby at_148) rfl ?_
      refine W.bipush X2315 hx (hb hby at_149) (v := 6) rfl ?_
      refine W.icmpYes X2315 hx (hb hby at_151) ((feq (fun q => absurd (hc2279.symm.trans q) (by decide))).2) (by decide) (pc' := 158) rfl ?_
      refine W.iconst X2315 hx (hb hby at_158) (v := 0) rfl ?_
      refine W.static X2315 hx hZ hown (wk hw 13 rfl) (wk hw 14 rfl) (wk hw 15 rfl) (wk hw 16 rfl) (by decide) (xPauseN_maybeReset1 l Z a0 hw SS (5 : Fin 6) b2195 h2315 n0 O2318 ) e2315 (by rw [hml]; rfl) (argsL := [(.ref b2195), (.long (30 : Int64)), (.int (0 : Int32))]) (rest := []) rfl (lenOf pd__Lcom_example_usher_usher_worker_Pause_JZ_J rfl) rfl (W := 0) (Nat.le_of_eq rfl) (hb hby at_159) (by decide) (by decide) (by decide) (by decide) (fun T2320 h2320 v2320 L2320 X2320 e2320 q2320 => ?_)
      obtain ⟨rfl, N2320q, r2320_0⟩ := q2320
      have N2321 := Fr.app N2317 N2320q
      have e2320 := e2320.trans r2320_0
      refine W.lstoreN X2320 hx (hb hby at_162) (l' := #[.val (.int p1), .val (.int (p1 &&& (7 : Int32))), .val (.ref b2195), .val (.long (30 : Int64)), .second]) rfl ?_
      refine W.aloadN X2320 hx (hb hby at_163) rfl rfl ?_
      refine W.lloadN X2320 hx (hb hby at_164) rfl ?_
      have ne2323 : b2195 ≠ r1_2315 := (Exa.ne r2315_5 r2315_3 (by decide))
      refine W.static X2320 hx hZ hown (wk hw 22 rfl) (wk hw 23 rfl) (wk hw 15 rfl) (wk hw 24 rfl) (by decide) (xPauseN_step1 l Z a0 hw SS (5 : Fin 6) b2195 r1_2315 h2315 n0 O2318 r2315_5 r2315_4 r2315_3 r2315_1 r2315_2 g2196) e2320 (by rw [hml]; rfl) (argsL := [(.ref b2195), (.long (30 : Int64))]) (rest := []) rfl (lenOf pd__Lcom_example_usher_usher_worker_Pause_J_J rfl) rfl (W := 0) (Nat.le_of_eq rfl) (hb hby at_165) (by decide) (by decide) (by decide) (by decide) (fun T2322 h2322 v2322 L2322 X2322 e2322 q2322 => ?_)
      obtain ⟨r1_2322, rfl, N2322q, r2322_0, r2322_1, r2322_2, r2322_3, r2322_4, r2322_5⟩ := q2322
      have N2324 := Fr.app N2321 N2322q
      have O2325 := Old.keep O2318 r2322_0 (allS g2196 all0)
      have K2326 : Keep h0 h2322 [] := Keep.trans K2319 r2322_0 (allS (Or.inr z2197) all0)
      refine W.lstoreN X2322 hx (hb hby at_168) (l' := #[.val (.int p1), .val (.int (p1 &&& (7 : Int32))), .val (.ref b2195), .val (.long (30 : Int64)), .second]) rfl ?_
      refine W.aloadN X2322 hx (hb hby at_169) rfl rfl ?_
      refine W.lloadN X2322 hx (hb hby at_170) rfl ?_
      refine W.iloadN X2322 hx (hb hby at_171) rfl ?_
      refine W.bipush X2322 hx (hb hby at_172) (v := 7) rfl ?_
      refine W.icmpYes X2322 hx (hb hby at_174) ((feq (fun q => absurd (hc2279.symm.trans q) (by decide))).2) (by decide) (pc' := 181) rfl ?_
      refine W.iconst X2322 hx (hb hby at_181) (v := 0) rfl ?_
      refine W.static X2322 hx hZ hown (wk hw 13 rfl) (wk hw 14 rfl) (wk hw 15 rfl) (wk hw 16 rfl) (by decide) (xPauseN_maybeReset1 l Z a0 hw SS (5 : Fin 6) b2195 h2322 n0 O2325 ) e2322 (by rw [hml]; rfl) (argsL := [(.ref b2195), (.long (30 : Int64)), (.int (0 : Int32))]) (rest := []) rfl (lenOf pd__Lcom_example_usher_usher_worker_Pause_JZ_J rfl) rfl (W := 0) (Nat.le_of_eq rfl) (hb hby at_182) (by decide) (by decide) (by decide) (by decide) (fun T2327 h2327 v2327 L2327 X2327 e2327 q2327 => ?_)
      obtain ⟨rfl, N2327q, r2327_0⟩ := q2327
      have N2328 := Fr.app N2324 N2327q
      have e2327 := e2327.trans r2327_0
      refine W.lstoreN X2327 hx (hb hby at_185) (l' := #[.val (.int p1), .val (.int (p1 &&& (7 : Int32))), .val (.ref b2195), .val (.long (30 : Int64)), .second]) rfl ?_
      refine W.aloadN X2327 hx (hb hby at_186) rfl rfl ?_
      refine W.lloadN X2327 hx (hb hby at_187) rfl ?_
      have ne2330 : b2195 ≠ r1_2322 := (Exa.ne r2322_5 r2322_3 (by decide))
      refine W.static X2327 hx hZ hown (wk hw 22 rfl) (wk hw 23 rfl) (wk hw 15 rfl) (wk hw 24 rfl) (by decide) (xPauseN_step1 l Z a0 hw SS (5 : Fin 6) b2195 r1_2322 h2322 n0 O2325 r2322_5 r2322_4 r2322_3 r2322_1 r2322_2 g2196) e2327 (by rw [hml]; rfl) (argsL := [(.ref b2195), (.long (30 : Int64))]) (rest := []) rfl (lenOf pd__Lcom_example_usher_usher_worker_Pause_J_J rfl) rfl (W := 0) (Nat.le_of_eq rfl) (hb hby at_188) (by decide) (by decide) (by decide) (by decide) (fun T2329 h2329 v2329 L2329 X2329 e2329 q2329 => ?_)
      obtain ⟨r1_2329, rfl, N2329q, r2329_0, r2329_1, r2329_2, r2329_3, r2329_4, r2329_5⟩ := q2329
      have N2331 := Fr.app N2328 N2329q
      have O2332 := Old.keep O2325 r2329_0 (allS g2196 all0)
      have K2333 : Keep h0 h2329 [] := Keep.trans K2326 r2329_0 (allS (Or.inr z2197) all0)
      refine W.lstoreN X2329 hx (hb hby at_191) (l' := #[.val (.int p1), .val (.int (p1 &&& (7 : Int32))), .val (.ref b2195), .val (.long (30 : Int64)), .second]) rfl ?_
      refine W.lloadN X2329 hx (hb hby at_192) rfl ?_
      refine W.lconst X2329 hx (hb hby at_193) (v := 0) rfl ?_
      refine W.lcmp X2329 hx (hb hby at_194) (v := (1 : Int32)) (by decide) ?_
      refine W.ifNo X2329 hx (hb hby at_195) (by decide) ?_
      refine W.iconst X2329 hx (hb hby at_198) (v := 1) rfl ?_
      refine W.goto X2329 hx (hb hby at_199) (by decide) (pc' := 203) rfl ?_
      exact Win.retN X2329 hx hlk (t := .boolean) hret (by simp) rfl (hb hby at_203) (by decide) (by decide) (by (try rw [e2329]); exact ⟨rfl, N2331, trivial⟩)
    · refine W.icmpYes X2275 hx (hb hby at_40) ((feq (hc2279)).2) (by decide) (pc' := 47) rfl ?_
      refine W.iconst X2275 hx (hb hby at_47) (v := 0) rfl ?_
      refine W.static X2275 hx hZ hown (wk hw 13 rfl) (wk hw 14 rfl) (wk hw 15 rfl) (wk hw 16 rfl) (by decide) (xPauseN_maybeReset1 l Z a0 hw SS (1 : Fin 6) b2195 h2275 n0 O2277 ) e2275 (by rw [hml]; rfl) (argsL := [(.ref b2195), (.long (2 : Int64)), (.int (0 : Int32))]) (rest := []) rfl (lenOf pd__Lcom_example_usher_usher_worker_Pause_JZ_J rfl) rfl (W := 0) (Nat.le_of_eq rfl) (hb hby at_48) (by decide) (by decide) (by decide) (by decide) (fun T2334 h2334 v2334 L2334 X2334 e2334 q2334 => ?_)
      obtain ⟨rfl, N2334q, r2334_0⟩ := q2334
      have N2335 := Fr.app N2276 N2334q
      have e2334 := e2334.trans r2334_0
      refine W.lstoreN X2334 hx (hb hby at_51) (l' := #[.val (.int p1), .val (.int (p1 &&& (7 : Int32))), .val (.ref b2195), .val (.long (2 : Int64)), .second]) rfl ?_
      refine W.aloadN X2334 hx (hb hby at_52) rfl rfl ?_
      refine W.lloadN X2334 hx (hb hby at_53) rfl ?_
      have ne2337 : b2195 ≠ r1_2275 := (Exa.ne r2275_5 r2275_3 (by decide))
      refine W.static X2334 hx hZ hown (wk hw 22 rfl) (wk hw 23 rfl) (wk hw 15 rfl) (wk hw 24 rfl) (by decide) (xPauseN_step1 l Z a0 hw SS (1 : Fin 6) b2195 r1_2275 h2275 n0 O2277 r2275_5 r2275_4 r2275_3 r2275_1 r2275_2 g2196) e2334 (by rw [hml]; rfl) (argsL := [(.ref b2195), (.long (2 : Int64))]) (rest := []) rfl (lenOf pd__Lcom_example_usher_usher_worker_Pause_J_J rfl) rfl (W := 0) (Nat.le_of_eq rfl) (hb hby at_54) (by decide) (by decide) (by decide) (by decide) (fun T2336 h2336 v2336 L2336 X2336 e2336 q2336 => ?_)
      obtain ⟨r1_2336, rfl, N2336q, r2336_0, r2336_1, r2336_2, r2336_3, r2336_4, r2336_5⟩ := q2336
      have N2338 := Fr.app N2335 N2336q
      have O2339 := Old.keep O2277 r2336_0 (allS g2196 all0)
      have K2340 : Keep h0 h2336 [] := Keep.trans K2278 r2336_0 (allS (Or.inr z2197) all0)
      refine W.lstoreN X2336 hx (hb hby at_57) (l' := #[.val (.int p1), .val (.int (p1 &&& (7 : Int32))), .val (.ref b2195), .val (.long (4 : Int64)), .second]) rfl ?_
      refine W.aloadN X2336 hx (hb hby at_58) rfl rfl ?_
      refine W.lloadN X2336 hx (hb hby at_59) rfl ?_
      refine W.iloadN X2336 hx (hb hby at_60) rfl ?_
      refine W.iconst X2336 hx (hb hby at_61) (v := 2) rfl ?_
      by_cases hc2341 : (p1 &&& (7 : Int32)) = (2 : Int32)
      · refine W.icmpNo X2336 hx (hb hby at_62) ((teq (hc2341)).2) ?_
        refine W.iconst X2336 hx (hb hby at_65) (v := 1) rfl ?_
        refine W.goto X2336 hx (hb hby at_66) (by decide) (pc' := 70) rfl ?_
        have ne2343 : b2195 ≠ r1_2336 := (Exa.ne r2336_5 r2336_3 (by decide))
        refine W.static X2336 hx hZ hown (wk hw 13 rfl) (wk hw 14 rfl) (wk hw 15 rfl) (wk hw 16 rfl) (by decide) (xPauseN_maybeReset2 l Z a0 hw SS (2 : Fin 6) b2195 r1_2336 h2336 n0 O2339 r2336_5 r2336_4 g2196) e2336 (by rw [hml]; rfl) (argsL := [(.ref b2195), (.long (4 : Int64)), (.int (1 : Int32))]) (rest := []) rfl (lenOf pd__Lcom_example_usher_usher_worker_Pause_JZ_J rfl) rfl (W := 0) (Nat.le_of_eq rfl) (hb hby at_70) (by decide) (by decide) (by decide) (by decide) (fun T2342 h2342 v2342 L2342 X2342 e2342 q2342 => ?_)
        obtain ⟨rfl, N2342q, r2342_0, r2342_1, r2342_2⟩ := q2342
        have N2344 := Fr.app N2338 N2342q
        have O2345 := Old.keep O2339 r2342_0 (allS g2196 all0)
        have K2346 : Keep h0 h2342 [] := Keep.trans K2340 r2342_0 (allS (Or.inr z2197) all0)
        refine W.lstoreN X2342 hx (hb hby at_73) (l' := #[.val (.int p1), .val (.int (p1 &&& (7 : Int32))), .val (.ref b2195), .val (.long (1 : Int64)), .second]) rfl ?_
        refine W.aloadN X2342 hx (hb hby at_74) rfl rfl ?_
        refine W.lloadN X2342 hx (hb hby at_75) rfl ?_
        have F2347 := Exa.ext O2345.2 SS.E_fi
        have F2348 := Fld.ext O2345.2 SS.F_fi_nanos
        have F2349 := Fld.ext O2345.2 SS.F_fi_seconds
        refine W.static X2342 hx hZ hown (wk hw 22 rfl) (wk hw 23 rfl) (wk hw 15 rfl) (wk hw 24 rfl) (by decide) (xPauseN_step1 l Z a0 hw SS (0 : Fin 6) b2195 SS.fi h2342 n0 O2345 r2342_2 r2342_1 F2347 F2348 F2349 g2196) e2342 (by rw [hml]; rfl) (argsL := [(.ref b2195), (.long (1 : Int64))]) (rest := []) rfl (lenOf pd__Lcom_example_usher_usher_worker_Pause_J_J rfl) rfl (W := 0) (Nat.le_of_eq rfl) (hb hby at_76) (by decide) (by decide) (by decide) (by decide) (fun T2350 h2350 v2350 L2350 X2350 e2350 q2350 => ?_)
        obtain ⟨r1_2350, rfl, N2350q, r2350_0, r2350_1, r2350_2, r2350_3, r2350_4, r2350_5⟩ := q2350
        have N2351 := Fr.app N2344 N2350q
        have O2352 := Old.keep O2345 r2350_0 (allS g2196 all0)
        have K2353 : Keep h0 h2350 [] := Keep.trans K2346 r2350_0 (allS (Or.inr z2197) all0)
        refine W.lstoreN X2350 hx (hb hby at_79) (l' := #[.val (.int p1), .val (.int (p1 &&& (7 : Int32))), .val (.ref b2195), .val (.long (2 : Int64)), .second]) rfl ?_
        refine W.aloadN X2350 hx (hb hby at_80) rfl rfl ?_
        refine W.lloadN X2350 hx (hb hby at_81) rfl ?_
        refine W.iloadN X2350 hx (hb hby at_82) rfl ?_
        refine W.iconst X2350 hx (hb hby at_83) (v := 3) rfl ?_
        refine W.icmpYes X2350 hx (hb hby at_84) ((feq (fun q => absurd (hc2341.symm.trans q) (by decide))).2) (by decide) (pc' := 91) rfl ?_
        refine W.iconst X2350 hx (hb hby at_91) (v := 0) rfl ?_
        refine W.static X2350 hx hZ hown (wk hw 13 rfl) (wk hw 14 rfl) (wk hw 15 rfl) (wk hw 16 rfl) (by decide) (xPauseN_maybeReset1 l Z a0 hw SS (1 : Fin 6) b2195 h2350 n0 O2352 ) e2350 (by rw [hml]; rfl) (argsL := [(.ref b2195), (.long (2 : Int64)), (.int (0 : Int32))]) (rest := []) rfl (lenOf pd__Lcom_example_usher_usher_worker_Pause_JZ_J rfl) rfl (W := 0) (Nat.le_of_eq rfl) (hb hby at_92) (by decide) (by decide) (by decide) (by decide) (fun T2354 h2354 v2354 L2354 X2354 e2354 q2354 => ?_)
        obtain ⟨rfl, N2354q, r2354_0⟩ := q2354
        have N2355 := Fr.app N2351 N2354q
        have e2354 := e2354.trans r2354_0
        refine W.lstoreN X2354 hx (hb hby at_95) (l' := #[.val (.int p1), .val (.int (p1 &&& (7 : Int32))), .val (.ref b2195), .val (.long (2 : Int64)), .second]) rfl ?_
        refine W.aloadN X2354 hx (hb hby at_96) rfl rfl ?_
        refine W.lloadN X2354 hx (hb hby at_97) rfl ?_
        have ne2357 : b2195 ≠ r1_2350 := (Exa.ne r2350_5 r2350_3 (by decide))
        refine W.static X2354 hx hZ hown (wk hw 22 rfl) (wk hw 23 rfl) (wk hw 15 rfl) (wk hw 24 rfl) (by decide) (xPauseN_step1 l Z a0 hw SS (1 : Fin 6) b2195 r1_2350 h2350 n0 O2352 r2350_5 r2350_4 r2350_3 r2350_1 r2350_2 g2196) e2354 (by rw [hml]; rfl) (argsL := [(.ref b2195), (.long (2 : Int64))]) (rest := []) rfl (lenOf pd__Lcom_example_usher_usher_worker_Pause_J_J rfl) rfl (W := 0) (Nat.le_of_eq rfl) (hb hby at_98) (by decide) (by decide) (by decide) (by decide) (fun T2356 h2356 v2356 L2356 X2356 e2356 q2356 => ?_)
        obtain ⟨r1_2356, rfl, N2356q, r2356_0, r2356_1, r2356_2, r2356_3, r2356_4, r2356_5⟩ := q2356
        have N2358 := Fr.app N2355 N2356q
        have O2359 := Old.keep O2352 r2356_0 (allS g2196 all0)
        have K2360 : Keep h0 h2356 [] := Keep.trans K2353 r2356_0 (allS (Or.inr z2197) all0)
        refine W.lstoreN X2356 hx (hb hby at_101) (l' := #[.val (.int p1), .val (.int (p1 &&& (7 : Int32))), .val (.ref b2195), .val (.long (4 : Int64)), .second]) rfl ?_
        refine W.aloadN X2356 hx (hb hby at_102) rfl rfl ?_
        refine W.lloadN X2356 hx (hb hby at_103) rfl ?_
        refine W.iloadN X2356 hx (hb hby at_104) rfl ?_
        refine W.iconst X2356 hx (hb hby at_105) (v := 4) rfl ?_
        refine W.icmpYes X2356 hx (hb hby at_106) ((feq (fun q => absurd (hc2341.symm.trans q) (by decide))).2) (by decide) (pc' := 113) rfl ?_
        refine W.iconst X2356 hx (hb hby at_113) (v := 0) rfl ?_
        refine W.static X2356 hx hZ hown (wk hw 13 rfl) (wk hw 14 rfl) (wk hw 15 rfl) (wk hw 16 rfl) (by decide) (xPauseN_maybeReset1 l Z a0 hw SS (2 : Fin 6) b2195 h2356 n0 O2359 ) e2356 (by rw [hml]; rfl) (argsL := [(.ref b2195), (.long (4 : Int64)), (.int (0 : Int32))]) (rest := []) rfl (lenOf pd__Lcom_example_usher_usher_worker_Pause_JZ_J rfl) rfl (W := 0) (Nat.le_of_eq rfl) (hb hby at_114) (by decide) (by decide) (by decide) (by decide) (fun T2361 h2361 v2361 L2361 X2361 e2361 q2361 => ?_)
        obtain ⟨rfl, N2361q, r2361_0⟩ := q2361
        have N2362 := Fr.app N2358 N2361q
        have e2361 := e2361.trans r2361_0
        refine W.lstoreN X2361 hx (hb hby at_117) (l' := #[.val (.int p1), .val (.int (p1 &&& (7 : Int32))), .val (.ref b2195), .val (.long (4 : Int64)), .second]) rfl ?_
        refine W.aloadN X2361 hx (hb hby at_118) rfl rfl ?_
        refine W.lloadN X2361 hx (hb hby at_119) rfl ?_
        have ne2364 : b2195 ≠ r1_2356 := (Exa.ne r2356_5 r2356_3 (by decide))
        refine W.static X2361 hx hZ hown (wk hw 22 rfl) (wk hw 23 rfl) (wk hw 15 rfl) (wk hw 24 rfl) (by decide) (xPauseN_step1 l Z a0 hw SS (2 : Fin 6) b2195 r1_2356 h2356 n0 O2359 r2356_5 r2356_4 r2356_3 r2356_1 r2356_2 g2196) e2361 (by rw [hml]; rfl) (argsL := [(.ref b2195), (.long (4 : Int64))]) (rest := []) rfl (lenOf pd__Lcom_example_usher_usher_worker_Pause_J_J rfl) rfl (W := 0) (Nat.le_of_eq rfl) (hb hby at_120) (by decide) (by decide) (by decide) (by decide) (fun T2363 h2363 v2363 L2363 X2363 e2363 q2363 => ?_)
        obtain ⟨r1_2363, rfl, N2363q, r2363_0, r2363_1, r2363_2, r2363_3, r2363_4, r2363_5⟩ := q2363
        have N2365 := Fr.app N2362 N2363q
        have O2366 := Old.keep O2359 r2363_0 (allS g2196 all0)
        have K2367 : Keep h0 h2363 [] := Keep.trans K2360 r2363_0 (allS (Or.inr z2197) all0)
        refine W.lstoreN X2363 hx (hb hby at_123) (l' := #[.val (.int p1), .val (.int (p1 &&& (7 : Int32))), .val (.ref b2195), .val (.long (8 : Int64)), .second]) rfl ?_
        refine W.aloadN X2363 hx (hb hby at_124) rfl rfl ?_
        refine W.lloadN X2363 hx (hb hby at_125) rfl ?_
        refine W.iloadN X2363 hx (hb hby at_126) rfl ?_
        refine W.iconst X2363 hx (hb hby at_127) (v := 5) rfl ?_
        refine W.icmpYes X2363 hx (hb hby at_128) ((feq (fun q => absurd (hc2341.symm.trans q) (by decide))).2) (by decide) (pc' := 135) rfl ?_
        refine W.iconst X2363 hx (hb hby at_135) (v := 0) rfl ?_
        refine W.static X2363 hx hZ hown (wk hw 13 rfl) (wk hw 14 rfl) (wk hw 15 rfl) (wk hw 16 rfl) (by decide) (xPauseN_maybeReset1 l Z a0 hw SS (3 : Fin 6) b2195 h2363 n0 O2366 ) e2363 (by rw [hml]; rfl) (argsL := [(.ref b2195), (.long (8 : Int64)), (.int (0 : Int32))]) (rest := []) rfl (lenOf pd__Lcom_example_usher_usher_worker_Pause_JZ_J rfl) rfl (W := 0) (Nat.le_of_eq rfl) (hb hby at_136) (by decide) (by decide) (by decide) (by decide) (fun T2368 h2368 v2368 L2368 X2368 e2368 q2368 => ?_)
        obtain ⟨rfl, N2368q, r2368_0⟩ := q2368
        have N2369 := Fr.app N2365 N2368q
        have e2368 := e2368.trans r2368_0
        refine W.lstoreN X2368 hx (hb hby at_139) (l' := #[.val (.int p1), .val (.int (p1 &&& (7 : Int32))), .val (.ref b2195), .val (.long (8 : Int64)), .second]) rfl ?_
        refine W.aloadN X2368 hx (hb hby at_140) rfl rfl ?_
        refine W.lloadN X2368 hx (hb hby at_141) rfl ?_
        have ne2371 : b2195 ≠ r1_2363 := (Exa.ne r2363_5 r2363_3 (by decide))
        refine W.static X2368 hx hZ hown (wk hw 22 rfl) (wk hw 23 rfl) (wk hw 15 rfl) (wk hw 24 rfl) (by decide) (xPauseN_step1 l Z a0 hw SS (3 : Fin 6) b2195 r1_2363 h2363 n0 O2366 r2363_5 r2363_4 r2363_3 r2363_1 r2363_2 g2196) e2368 (by rw [hml]; rfl) (argsL := [(.ref b2195), (.long (8 : Int64))]) (rest := []) rfl (lenOf pd__Lcom_example_usher_usher_worker_Pause_J_J rfl) rfl (W := 0) (Nat.le_of_eq rfl) (hb hby at_142) (by decide) (by decide) (by decide) (by decide) (fun T2370 h2370 v2370 L2370 X2370 e2370 q2370 => ?_)
        obtain ⟨r1_2370, rfl, N2370q, r2370_0, r2370_1, r2370_2, r2370_3, r2370_4, r2370_5⟩ := q2370
        have N2372 := Fr.app N2369 N2370q
        have O2373 := Old.keep O2366 r2370_0 (allS g2196 all0)
        have K2374 : Keep h0 h2370 [] := Keep.trans K2367 r2370_0 (allS (Or.inr z2197) all0)
        refine W.lstoreN X2370 hx (hb hby at_145) (l' := #[.val (.int p1), .val (.int (p1 &&& (7 : Int32))), .val (.ref b2195), .val (.long (16 : Int64)), .second]) rfl ?_
        refine W.aloadN X2370 hx (hb hby at_146) rfl rfl ?_
        refine W.lloadN X2370 hx (hb hby at_147) rfl ?_
        refine W.iloadN X2370 hx (hb hby at_148) rfl ?_
        refine W.bipush X2370 hx (hb hby at_149) (v := 6) rfl ?_
        refine W.icmpYes X2370 hx (hb hby at_151) ((feq (fun q => absurd (hc2341.symm.trans q) (by decide))).2) (by decide) (pc' := 158) rfl ?_
        refine W.iconst X2370 hx (hb hby at_158) (v := 0) rfl ?_
        refine W.static X2370 hx hZ hown (wk hw 13 rfl) (wk hw 14 rfl) (wk hw 15 rfl) (wk hw 16 rfl) (by decide) (xPauseN_maybeReset1 l Z a0 hw SS (4 : Fin 6) b2195 h2370 n0 O2373 ) e2370 (by rw [hml]; rfl) (argsL := [(.ref b2195), (.long (16 : Int64)), (.int (0 : Int32))]) (rest := []) rfl (lenOf pd__Lcom_example_usher_usher_worker_Pause_JZ_J rfl) rfl (W := 0) (Nat.le_of_eq rfl) (hb hby at_159) (by decide) (by decide) (by decide) (by decide) (fun T2375 h2375 v2375 L2375 X2375 e2375 q2375 => ?_)
        obtain ⟨rfl, N2375q, r2375_0⟩ := q2375
        have N2376 := Fr.app N2372 N2375q
        have e2375 := e2375.trans r2375_0
        refine W.lstoreN X2375 hx (hb hby at_162) (l' := #[.val (.int p1), .val (.int (p1 &&& (7 : Int32))), .val (.ref b2195), .val (.long (16 : Int64)), .second]) rfl ?_
        refine W.aloadN X2375 hx (hb hby at_163) rfl rfl ?_
        refine W.lloadN X2375 hx (hb hby at_164) rfl ?_
        have ne2378 : b2195 ≠ r1_2370 := (Exa.ne r2370_5 r2370_3 (by decide))
        refine W.static X2375 hx hZ hown (wk hw 22 rfl) (wk hw 23 rfl) (wk hw 15 rfl) (wk hw 24 rfl) (by decide) (xPauseN_step1 l Z a0 hw SS (4 : Fin 6) b2195 r1_2370 h2370 n0 O2373 r2370_5 r2370_4 r2370_3 r2370_1 r2370_2 g2196) e2375 (by rw [hml]; rfl) (argsL := [(.ref b2195), (.long (16 : Int64))]) (rest := []) rfl (lenOf pd__Lcom_example_usher_usher_worker_Pause_J_J rfl) rfl (W := 0) (Nat.le_of_eq rfl) (hb hby at_165) (by decide) (by decide) (by decide) (by decide) (fun T2377 h2377 v2377 L2377 X2377 e2377 q2377 => ?_)
        obtain ⟨r1_2377, rfl, N2377q, r2377_0, r2377_1, r2377_2, r2377_3, r2377_4, r2377_5⟩ := q2377
        have N2379 := Fr.app N2376 N2377q
        have O2380 := Old.keep O2373 r2377_0 (allS g2196 all0)
        have K2381 : Keep h0 h2377 [] := Keep.trans K2374 r2377_0 (allS (Or.inr z2197) all0)
        refine W.lstoreN X2377 hx (hb hby at_168) (l' := #[.val (.int p1), .val (.int (p1 &&& (7 : Int32))), .val (.ref b2195), .val (.long (30 : Int64)), .second]) rfl ?_
        refine W.aloadN X2377 hx (hb hby at_169) rfl rfl ?_
        refine W.lloadN X2377 hx (hb hby at_170) rfl ?_
        refine W.iloadN X2377 hx (hb hby at_171) rfl ?_
        refine W.bipush X2377 hx (hb hby at_172) (v := 7) rfl ?_
        refine W.icmpYes X2377 hx (hb hby at_174) ((feq (fun q => absurd (hc2341.symm.trans q) (by decide))).2) (by decide) (pc' := 181) rfl ?_
        refine W.iconst X2377 hx (hb hby at_181) (v := 0) rfl ?_
        refine W.static X2377 hx hZ hown (wk hw 13 rfl) (wk hw 14 rfl) (wk hw 15 rfl) (wk hw 16 rfl) (by decide) (xPauseN_maybeReset1 l Z a0 hw SS (5 : Fin 6) b2195 h2377 n0 O2380 ) e2377 (by rw [hml]; rfl) (argsL := [(.ref b2195), (.long (30 : Int64)), (.int (0 : Int32))]) (rest := []) rfl (lenOf pd__Lcom_example_usher_usher_worker_Pause_JZ_J rfl) rfl (W := 0) (Nat.le_of_eq rfl) (hb hby at_182) (by decide) (by decide) (by decide) (by decide) (fun T2382 h2382 v2382 L2382 X2382 e2382 q2382 => ?_)
        obtain ⟨rfl, N2382q, r2382_0⟩ := q2382
        have N2383 := Fr.app N2379 N2382q
        have e2382 := e2382.trans r2382_0
        refine W.lstoreN X2382 hx (hb hby at_185) (l' := #[.val (.int p1), .val (.int (p1 &&& (7 : Int32))), .val (.ref b2195), .val (.long (30 : Int64)), .second]) rfl ?_
        refine W.aloadN X2382 hx (hb hby at_186) rfl rfl ?_
        refine W.lloadN X2382 hx (hb hby at_187) rfl ?_
        have ne2385 : b2195 ≠ r1_2377 := (Exa.ne r2377_5 r2377_3 (by decide))
        refine W.static X2382 hx hZ hown (wk hw 22 rfl) (wk hw 23 rfl) (wk hw 15 rfl) (wk hw 24 rfl) (by decide) (xPauseN_step1 l Z a0 hw SS (5 : Fin 6) b2195 r1_2377 h2377 n0 O2380 r2377_5 r2377_4 r2377_3 r2377_1 r2377_2 g2196) e2382 (by rw [hml]; rfl) (argsL := [(.ref b2195), (.long (30 : Int64))]) (rest := []) rfl (lenOf pd__Lcom_example_usher_usher_worker_Pause_J_J rfl) rfl (W := 0) (Nat.le_of_eq rfl) (hb hby at_188) (by decide) (by decide) (by decide) (by decide) (fun T2384 h2384 v2384 L2384 X2384 e2384 q2384 => ?_)
        obtain ⟨r1_2384, rfl, N2384q, r2384_0, r2384_1, r2384_2, r2384_3, r2384_4, r2384_5⟩ := q2384
        have N2386 := Fr.app N2383 N2384q
        have O2387 := Old.keep O2380 r2384_0 (allS g2196 all0)
        have K2388 : Keep h0 h2384 [] := Keep.trans K2381 r2384_0 (allS (Or.inr z2197) all0)
        refine W.lstoreN X2384 hx (hb hby at_191) (l' := #[.val (.int p1), .val (.int (p1 &&& (7 : Int32))), .val (.ref b2195), .val (.long (30 : Int64)), .second]) rfl ?_
        refine W.lloadN X2384 hx (hb hby at_192) rfl ?_
        refine W.lconst X2384 hx (hb hby at_193) (v := 0) rfl ?_
        refine W.lcmp X2384 hx (hb hby at_194) (v := (1 : Int32)) (by decide) ?_
        refine W.ifNo X2384 hx (hb hby at_195) (by decide) ?_
        refine W.iconst X2384 hx (hb hby at_198) (v := 1) rfl ?_
        refine W.goto X2384 hx (hb hby at_199) (by decide) (pc' := 203) rfl ?_
        exact Win.retN X2384 hx hlk (t := .boolean) hret (by simp) rfl (hb hby at_203) (by decide) (by decide) (by (try rw [e2384]); exact ⟨rfl, N2386, trivial⟩)
      · refine W.icmpYes X2336 hx (hb hby at_62) ((feq (hc2341)).2) (by decide) (pc' := 69) rfl ?_
        refine W.iconst X2336 hx (hb hby at_69) (v := 0) rfl ?_
        refine W.static X2336 hx hZ hown (wk hw 13 rfl) (wk hw 14 rfl) (wk hw 15 rfl) (wk hw 16 rfl) (by decide) (xPauseN_maybeReset1 l Z a0 hw SS (2 : Fin 6) b2195 h2336 n0 O2339 ) e2336 (by rw [hml]; rfl) (argsL := [(.ref b2195), (.long (4 : Int64)), (.int (0 : Int32))]) (rest := []) rfl (lenOf pd__Lcom_example_usher_usher_worker_Pause_JZ_J rfl) rfl (W := 0) (Nat.le_of_eq rfl) (hb hby at_70) (by decide) (by decide) (by decide) (by decide) (fun T2389 h2389 v2389 L2389 X2389 e2389 q2389 => ?_)
        obtain ⟨rfl, N2389q, r2389_0⟩ := q2389
        have N2390 := Fr.app N2338 N2389q
        have e2389 := e2389.trans r2389_0
        refine W.lstoreN X2389 hx (hb hby at_73) (l' := #[.val (.int p1), .val (.int (p1 &&& (7 : Int32))), .val (.ref b2195), .val (.long (4 : Int64)), .second]) rfl ?_
        refine W.aloadN X2389 hx (hb hby at_74) rfl rfl ?_
        refine W.lloadN X2389 hx (hb hby at_75) rfl ?_
        have ne2392 : b2195 ≠ r1_2336 := (Exa.ne r2336_5 r2336_3 (by decide))
        refine W.static X2389 hx hZ hown (wk hw 22 rfl) (wk hw 23 rfl) (wk hw 15 rfl) (wk hw 24 rfl) (by decide) (xPauseN_step1 l Z a0 hw SS (2 : Fin 6) b2195 r1_2336 h2336 n0 O2339 r2336_5 r2336_4 r2336_3 r2336_1 r2336_2 g2196) e2389 (by rw [hml]; rfl) (argsL := [(.ref b2195), (.long (4 : Int64))]) (rest := []) rfl (lenOf pd__Lcom_example_usher_usher_worker_Pause_J_J rfl) rfl (W := 0) (Nat.le_of_eq rfl) (hb hby at_76) (by decide) (by decide) (by decide) (by decide) (fun T2391 h2391 v2391 L2391 X2391 e2391 q2391 => ?_)
        obtain ⟨r1_2391, rfl, N2391q, r2391_0, r2391_1, r2391_2, r2391_3, r2391_4, r2391_5⟩ := q2391
        have N2393 := Fr.app N2390 N2391q
        have O2394 := Old.keep O2339 r2391_0 (allS g2196 all0)
        have K2395 : Keep h0 h2391 [] := Keep.trans K2340 r2391_0 (allS (Or.inr z2197) all0)
        refine W.lstoreN X2391 hx (hb hby at_79) (l' := #[.val (.int p1), .val (.int (p1 &&& (7 : Int32))), .val (.ref b2195), .val (.long (8 : Int64)), .second]) rfl ?_
        refine W.aloadN X2391 hx (hb hby at_80) rfl rfl ?_
        refine W.lloadN X2391 hx (hb hby at_81) rfl ?_
        refine W.iloadN X2391 hx (hb hby at_82) rfl ?_
        refine W.iconst X2391 hx (hb hby at_83) (v := 3) rfl ?_
        by_cases hc2396 : (p1 &&& (7 : Int32)) = (3 : Int32)
        · refine W.icmpNo X2391 hx (hb hby at_84) ((teq (hc2396)).2) ?_
          refine W.iconst X2391 hx (hb hby at_87) (v := 1) rfl ?_
          refine W.goto X2391 hx (hb hby at_88) (by decide) (pc' := 92) rfl ?_
          have ne2398 : b2195 ≠ r1_2391 := (Exa.ne r2391_5 r2391_3 (by decide))
          refine W.static X2391 hx hZ hown (wk hw 13 rfl) (wk hw 14 rfl) (wk hw 15 rfl) (wk hw 16 rfl) (by decide) (xPauseN_maybeReset2 l Z a0 hw SS (3 : Fin 6) b2195 r1_2391 h2391 n0 O2394 r2391_5 r2391_4 g2196) e2391 (by rw [hml]; rfl) (argsL := [(.ref b2195), (.long (8 : Int64)), (.int (1 : Int32))]) (rest := []) rfl (lenOf pd__Lcom_example_usher_usher_worker_Pause_JZ_J rfl) rfl (W := 0) (Nat.le_of_eq rfl) (hb hby at_92) (by decide) (by decide) (by decide) (by decide) (fun T2397 h2397 v2397 L2397 X2397 e2397 q2397 => ?_)
          obtain ⟨rfl, N2397q, r2397_0, r2397_1, r2397_2⟩ := q2397
          have N2399 := Fr.app N2393 N2397q
          have O2400 := Old.keep O2394 r2397_0 (allS g2196 all0)
          have K2401 : Keep h0 h2397 [] := Keep.trans K2395 r2397_0 (allS (Or.inr z2197) all0)
          refine W.lstoreN X2397 hx (hb hby at_95) (l' := #[.val (.int p1), .val (.int (p1 &&& (7 : Int32))), .val (.ref b2195), .val (.long (1 : Int64)), .second]) rfl ?_
          refine W.aloadN X2397 hx (hb hby at_96) rfl rfl ?_
          refine W.lloadN X2397 hx (hb hby at_97) rfl ?_
          have F2402 := Exa.ext O2400.2 SS.E_fi
          have F2403 := Fld.ext O2400.2 SS.F_fi_nanos
          have F2404 := Fld.ext O2400.2 SS.F_fi_seconds
          refine W.static X2397 hx hZ hown (wk hw 22 rfl) (wk hw 23 rfl) (wk hw 15 rfl) (wk hw 24 rfl) (by decide) (xPauseN_step1 l Z a0 hw SS (0 : Fin 6) b2195 SS.fi h2397 n0 O2400 r2397_2 r2397_1 F2402 F2403 F2404 g2196) e2397 (by rw [hml]; rfl) (argsL := [(.ref b2195), (.long (1 : Int64))]) (rest := []) rfl (lenOf pd__Lcom_example_usher_usher_worker_Pause_J_J rfl) rfl (W := 0) (Nat.le_of_eq rfl) (hb hby at_98) (by decide) (by decide) (by decide) (by decide) (fun T2405 h2405 v2405 L2405 X2405 e2405 q2405 => ?_)
          obtain ⟨r1_2405, rfl, N2405q, r2405_0, r2405_1, r2405_2, r2405_3, r2405_4, r2405_5⟩ := q2405
          have N2406 := Fr.app N2399 N2405q
          have O2407 := Old.keep O2400 r2405_0 (allS g2196 all0)
          have K2408 : Keep h0 h2405 [] := Keep.trans K2401 r2405_0 (allS (Or.inr z2197) all0)
          refine W.lstoreN X2405 hx (hb hby at_101) (l' := #[.val (.int p1), .val (.int (p1 &&& (7 : Int32))), .val (.ref b2195), .val (.long (2 : Int64)), .second]) rfl ?_
          refine W.aloadN X2405 hx (hb hby at_102) rfl rfl ?_
          refine W.lloadN X2405 hx (hb hby at_103) rfl ?_
          refine W.iloadN X2405 hx (hb hby at_104) rfl ?_
          refine W.iconst X2405 hx (hb hby at_105) (v := 4) rfl ?_
          refine W.icmpYes X2405 hx (hb hby at_106) ((feq (fun q => absurd (hc2396.symm.trans q) (by decide))).2) (by decide) (pc' := 113) rfl ?_
          refine W.iconst X2405 hx (hb hby at_113) (v := 0) rfl ?_
          refine W.static X2405 hx hZ hown (wk hw 13 rfl) (wk hw 14 rfl) (wk hw 15 rfl) (wk hw 16 rfl) (by decide) (xPauseN_maybeReset1 l Z a0 hw SS (1 : Fin 6) b2195 h2405 n0 O2407 ) e2405 (by rw [hml]; rfl) (argsL := [(.ref b2195), (.long (2 : Int64)), (.int (0 : Int32))]) (rest := []) rfl (lenOf pd__Lcom_example_usher_usher_worker_Pause_JZ_J rfl) rfl (W := 0) (Nat.le_of_eq rfl) (hb hby at_114) (by decide) (by decide) (by decide) (by decide) (fun T2409 h2409 v2409 L2409 X2409 e2409 q2409 => ?_)
          obtain ⟨rfl, N2409q, r2409_0⟩ := q2409
          have N2410 := Fr.app N2406 N2409q
          have e2409 := e2409.trans r2409_0
          refine W.lstoreN X2409 hx (hb hby at_117) (l' := #[.val (.int p1), .val (.int (p1 &&& (7 : Int32))), .val (.ref b2195), .val (.long (2 : Int64)), .second]) rfl ?_
          refine W.aloadN X2409 hx (hb hby at_118) rfl rfl ?_
          refine W.lloadN X2409 hx (hb hby at_119) rfl ?_
          have ne2412 : b2195 ≠ r1_2405 := (Exa.ne r2405_5 r2405_3 (by decide))
          refine W.static X2409 hx hZ hown (wk hw 22 rfl) (wk hw 23 rfl) (wk hw 15 rfl) (wk hw 24 rfl) (by decide) (xPauseN_step1 l Z a0 hw SS (1 : Fin 6) b2195 r1_2405 h2405 n0 O2407 r2405_5 r2405_4 r2405_3 r2405_1 r2405_2 g2196) e2409 (by rw [hml]; rfl) (argsL := [(.ref b2195), (.long (2 : Int64))]) (rest := []) rfl (lenOf pd__Lcom_example_usher_usher_worker_Pause_J_J rfl) rfl (W := 0) (Nat.le_of_eq rfl) (hb hby at_120) (by decide) (by decide) (by decide) (by decide) (fun T2411 h2411 v2411 L2411 X2411 e2411 q2411 => ?_)
          obtain ⟨r1_2411, rfl, N2411q, r2411_0, r2411_1, r2411_2, r2411_3, r2411_4, r2411_5⟩ := q2411
          have N2413 := Fr.app N2410 N2411q
          have O2414 := Old.keep O2407 r2411_0 (allS g2196 all0)
          have K2415 : Keep h0 h2411 [] := Keep.trans K2408 r2411_0 (allS (Or.inr z2197) all0)
          refine W.lstoreN X2411 hx (hb hby at_123) (l' := #[.val (.int p1), .val (.int (p1 &&& (7 : Int32))), .val (.ref b2195), .val (.long (4 : Int64)), .second]) rfl ?_
          refine W.aloadN X2411 hx (hb hby at_124) rfl rfl ?_
          refine W.lloadN X2411 hx (hb hby at_125) rfl ?_
          refine W.iloadN X2411 hx (hb hby at_126) rfl ?_
          refine W.iconst X2411 hx (hb hby at_127) (v := 5) rfl ?_
          refine W.icmpYes X2411 hx (hb hby at_128) ((feq (fun q => absurd (hc2396.symm.trans q) (by decide))).2) (by decide) (pc' := 135) rfl ?_
          refine W.iconst X2411 hx (hb hby at_135) (v := 0) rfl ?_
          refine W.static X2411 hx hZ hown (wk hw 13 rfl) (wk hw 14 rfl) (wk hw 15 rfl) (wk hw 16 rfl) (by decide) (xPauseN_maybeReset1 l Z a0 hw SS (2 : Fin 6) b2195 h2411 n0 O2414 ) e2411 (by rw [hml]; rfl) (argsL := [(.ref b2195), (.long (4 : Int64)), (.int (0 : Int32))]) (rest := []) rfl (lenOf pd__Lcom_example_usher_usher_worker_Pause_JZ_J rfl) rfl (W := 0) (Nat.le_of_eq rfl) (hb hby at_136) (by decide) (by decide) (by decide) (by decide) (fun T2416 h2416 v2416 L2416 X2416 e2416 q2416 => ?_)
          obtain ⟨rfl, N2416q, r2416_0⟩ := q2416
          have N2417 := Fr.app N2413 N2416q
          have e2416 := e2416.trans r2416_0
          refine W.lstoreN X2416 hx (hb hby at_139) (l' := #[.val (.int p1), .val (.int (p1 &&& (7 : Int32))), .val (.ref b2195), .val (.long (4 : Int64)), .second]) rfl ?_
          refine W.aloadN X2416 hx (hb hby at_140) rfl rfl ?_
          refine W.lloadN X2416 hx (hb hby at_141) rfl ?_
          have ne2419 : b2195 ≠ r1_2411 := (Exa.ne r2411_5 r2411_3 (by decide))
          refine W.static X2416 hx hZ hown (wk hw 22 rfl) (wk hw 23 rfl) (wk hw 15 rfl) (wk hw 24 rfl) (by decide) (xPauseN_step1 l Z a0 hw SS (2 : Fin 6) b2195 r1_2411 h2411 n0 O2414 r2411_5 r2411_4 r2411_3 r2411_1 r2411_2 g2196) e2416 (by rw [hml]; rfl) (argsL := [(.ref b2195), (.long (4 : Int64))]) (rest := []) rfl (lenOf pd__Lcom_example_usher_usher_worker_Pause_J_J rfl) rfl (W := 0) (Nat.le_of_eq rfl) (hb hby at_142) (by decide) (by decide) (by decide) (by decide) (fun T2418 h2418 v2418 L2418 X2418 e2418 q2418 => ?_)
          obtain ⟨r1_2418, rfl, N2418q, r2418_0, r2418_1, r2418_2, r2418_3, r2418_4, r2418_5⟩ := q2418
          have N2420 := Fr.app N2417 N2418q
          have O2421 := Old.keep O2414 r2418_0 (allS g2196 all0)
          have K2422 : Keep h0 h2418 [] := Keep.trans K2415 r2418_0 (allS (Or.inr z2197) all0)
          refine W.lstoreN X2418 hx (hb hby at_145) (l' := #[.val (.int p1), .val (.int (p1 &&& (7 : Int32))), .val (.ref b2195), .val (.long (8 : Int64)), .second]) rfl ?_
          refine W.aloadN X2418 hx (hb hby at_146) rfl rfl ?_
          refine W.lloadN X2418 hx (hb hby at_147) rfl ?_
          refine W.iloadN X2418 hx (hb hby at_148) rfl ?_
          refine W.bipush X2418 hx (hb hby at_149) (v := 6) rfl ?_
          refine W.icmpYes X2418 hx (hb hby at_151) ((feq (fun q => absurd (hc2396.symm.trans q) (by decide))).2) (by decide) (pc' := 158) rfl ?_
          refine W.iconst X2418 hx (hb hby at_158) (v := 0) rfl ?_
          refine W.static X2418 hx hZ hown (wk hw 13 rfl) (wk hw 14 rfl) (wk hw 15 rfl) (wk hw 16 rfl) (by decide) (xPauseN_maybeReset1 l Z a0 hw SS (3 : Fin 6) b2195 h2418 n0 O2421 ) e2418 (by rw [hml]; rfl) (argsL := [(.ref b2195), (.long (8 : Int64)), (.int (0 : Int32))]) (rest := []) rfl (lenOf pd__Lcom_example_usher_usher_worker_Pause_JZ_J rfl) rfl (W := 0) (Nat.le_of_eq rfl) (hb hby at_159) (by decide) (by decide) (by decide) (by decide) (fun T2423 h2423 v2423 L2423 X2423 e2423 q2423 => ?_)
          obtain ⟨rfl, N2423q, r2423_0⟩ := q2423
          have N2424 := Fr.app N2420 N2423q
          have e2423 := e2423.trans r2423_0
          refine W.lstoreN X2423 hx (hb hby at_162) (l' := #[.val (.int p1), .val (.int (p1 &&& (7 : Int32))), .val (.ref b2195), .val (.long (8 : Int64)), .second]) rfl ?_
          refine W.aloadN X2423 hx (hb hby at_163) rfl rfl ?_
          refine W.lloadN X2423 hx (hb hby at_164) rfl ?_
          have ne2426 : b2195 ≠ r1_2418 := (Exa.ne r2418_5 r2418_3 (by decide))
          refine W.static X2423 hx hZ hown (wk hw 22 rfl) (wk hw 23 rfl) (wk hw 15 rfl) (wk hw 24 rfl) (by decide) (xPauseN_step1 l Z a0 hw SS (3 : Fin 6) b2195 r1_2418 h2418 n0 O2421 r2418_5 r2418_4 r2418_3 r2418_1 r2418_2 g2196) e2423 (by rw [hml]; rfl) (argsL := [(.ref b2195), (.long (8 : Int64))]) (rest := []) rfl (lenOf pd__Lcom_example_usher_usher_worker_Pause_J_J rfl) rfl (W := 0) (Nat.le_of_eq rfl) (hb hby at_165) (by decide) (by decide) (by decide) (by decide) (fun T2425 h2425 v2425 L2425 X2425 e2425 q2425 => ?_)
          obtain ⟨r1_2425, rfl, N2425q, r2425_0, r2425_1, r2425_2, r2425_3, r2425_4, r2425_5⟩ := q2425
          have N2427 := Fr.app N2424 N2425q
          have O2428 := Old.keep O2421 r2425_0 (allS g2196 all0)
          have K2429 : Keep h0 h2425 [] := Keep.trans K2422 r2425_0 (allS (Or.inr z2197) all0)
          refine W.lstoreN X2425 hx (hb hby at_168) (l' := #[.val (.int p1), .val (.int (p1 &&& (7 : Int32))), .val (.ref b2195), .val (.long (16 : Int64)), .second]) rfl ?_
          refine W.aloadN X2425 hx (hb hby at_169) rfl rfl ?_
          refine W.lloadN X2425 hx (hb hby at_170) rfl ?_
          refine W.iloadN X2425 hx (hb hby at_171) rfl ?_
          refine W.bipush X2425 hx (hb hby at_172) (v := 7) rfl ?_
          refine W.icmpYes X2425 hx (hb hby at_174) ((feq (fun q => absurd (hc2396.symm.trans q) (by decide))).2) (by decide) (pc' := 181) rfl ?_
          refine W.iconst X2425 hx (hb hby at_181) (v := 0) rfl ?_
          refine W.static X2425 hx hZ hown (wk hw 13 rfl) (wk hw 14 rfl) (wk hw 15 rfl) (wk hw 16 rfl) (by decide) (xPauseN_maybeReset1 l Z a0 hw SS (4 : Fin 6) b2195 h2425 n0 O2428 ) e2425 (by rw [hml]; rfl) (argsL := [(.ref b2195), (.long (16 : Int64)), (.int (0 : Int32))]) (rest := []) rfl (lenOf pd__Lcom_example_usher_usher_worker_Pause_JZ_J rfl) rfl (W := 0) (Nat.le_of_eq rfl) (hb hby at_182) (by decide) (by decide) (by decide) (by decide) (fun T2430 h2430 v2430 L2430 X2430 e2430 q2430 => ?_)
          obtain ⟨rfl, N2430q, r2430_0⟩ := q2430
          have N2431 := Fr.app N2427 N2430q
          have e2430 := e2430.trans r2430_0
          refine W.lstoreN X2430 hx (hb hby at_185) (l' := #[.val (.int p1), .val (.int (p1 &&& (7 : Int32))), .val (.ref b2195), .val (.long (16 : Int64)), .second]) rfl ?_
          refine W.aloadN X2430 hx (hb hby at_186) rfl rfl ?_
          refine W.lloadN X2430 hx (hb hby at_187) rfl ?_
          have ne2433 : b2195 ≠ r1_2425 := (Exa.ne r2425_5 r2425_3 (by decide))
          refine W.static X2430 hx hZ hown (wk hw 22 rfl) (wk hw 23 rfl) (wk hw 15 rfl) (wk hw 24 rfl) (by decide) (xPauseN_step1 l Z a0 hw SS (4 : Fin 6) b2195 r1_2425 h2425 n0 O2428 r2425_5 r2425_4 r2425_3 r2425_1 r2425_2 g2196) e2430 (by rw [hml]; rfl) (argsL := [(.ref b2195), (.long (16 : Int64))]) (rest := []) rfl (lenOf pd__Lcom_example_usher_usher_worker_Pause_J_J rfl) rfl (W := 0) (Nat.le_of_eq rfl) (hb hby at_188) (by decide) (by decide) (by decide) (by decide) (fun T2432 h2432 v2432 L2432 X2432 e2432 q2432 => ?_)
          obtain ⟨r1_2432, rfl, N2432q, r2432_0, r2432_1, r2432_2, r2432_3, r2432_4, r2432_5⟩ := q2432
          have N2434 := Fr.app N2431 N2432q
          have O2435 := Old.keep O2428 r2432_0 (allS g2196 all0)
          have K2436 : Keep h0 h2432 [] := Keep.trans K2429 r2432_0 (allS (Or.inr z2197) all0)
          refine W.lstoreN X2432 hx (hb hby at_191) (l' := #[.val (.int p1), .val (.int (p1 &&& (7 : Int32))), .val (.ref b2195), .val (.long (30 : Int64)), .second]) rfl ?_
          refine W.lloadN X2432 hx (hb hby at_192) rfl ?_
          refine W.lconst X2432 hx (hb hby at_193) (v := 0) rfl ?_
          refine W.lcmp X2432 hx (hb hby at_194) (v := (1 : Int32)) (by decide) ?_
          refine W.ifNo X2432 hx (hb hby at_195) (by decide) ?_
          refine W.iconst X2432 hx (hb hby at_198) (v := 1) rfl ?_
          refine W.goto X2432 hx (hb hby at_199) (by decide) (pc' := 203) rfl ?_
          exact Win.retN X2432 hx hlk (t := .boolean) hret (by simp) rfl (hb hby at_203) (by decide) (by decide) (by (try rw [e2432]); exact ⟨rfl, N2434, trivial⟩)
        · refine W.icmpYes X2391 hx (hb hby at_84) ((feq (hc2396)).2) (by decide) (pc' := 91) rfl ?_
          refine W.iconst X2391 hx (hb hby at_91) (v := 0) rfl ?_
          refine W.static X2391 hx hZ hown (wk hw 13 rfl) (wk hw 14 rfl) (wk hw 15 rfl) (wk hw 16 rfl) (by decide) (xPauseN_maybeReset1 l Z a0 hw SS (3 : Fin 6) b2195 h2391 n0 O2394 ) e2391 (by rw [hml]; rfl) (argsL := [(.ref b2195), (.long (8 : Int64)), (.int (0 : Int32))]) (rest := []) rfl (lenOf pd__Lcom_example_usher_usher_worker_Pause_JZ_J rfl) rfl (W := 0) (Nat.le_of_eq rfl) (hb hby at_92) (by decide) (by decide) (by decide) (by decide) (fun T2437 h2437 v2437 L2437 X2437 e2437 q2437 => ?_)
          obtain ⟨rfl, N2437q, r2437_0⟩ := q2437
          have N2438 := Fr.app N2393 N2437q
          have e2437 := e2437.trans r2437_0
          refine W.lstoreN X2437 hx (hb hby at_95) (l' := #[.val (.int p1), .val (.int (p1 &&& (7 : Int32))), .val (.ref b2195), .val (.long (8 : Int64)), .second]) rfl ?_
          refine W.aloadN X2437 hx (hb hby at_96) rfl rfl ?_
          refine W.lloadN X2437 hx (hb hby at_97) rfl ?_
          have ne2440 : b2195 ≠ r1_2391 := (Exa.ne r2391_5 r2391_3 (by decide))
          refine W.static X2437 hx hZ hown (wk hw 22 rfl) (wk hw 23 rfl) (wk hw 15 rfl) (wk hw 24 rfl) (by decide) (xPauseN_step1 l Z a0 hw SS (3 : Fin 6) b2195 r1_2391 h2391 n0 O2394 r2391_5 r2391_4 r2391_3 r2391_1 r2391_2 g2196) e2437 (by rw [hml]; rfl) (argsL := [(.ref b2195), (.long (8 : Int64))]) (rest := []) rfl (lenOf pd__Lcom_example_usher_usher_worker_Pause_J_J rfl) rfl (W := 0) (Nat.le_of_eq rfl) (hb hby at_98) (by decide) (by decide) (by decide) (by decide) (fun T2439 h2439 v2439 L2439 X2439 e2439 q2439 => ?_)
          obtain ⟨r1_2439, rfl, N2439q, r2439_0, r2439_1, r2439_2, r2439_3, r2439_4, r2439_5⟩ := q2439
          have N2441 := Fr.app N2438 N2439q
          have O2442 := Old.keep O2394 r2439_0 (allS g2196 all0)
          have K2443 : Keep h0 h2439 [] := Keep.trans K2395 r2439_0 (allS (Or.inr z2197) all0)
          refine W.lstoreN X2439 hx (hb hby at_101) (l' := #[.val (.int p1), .val (.int (p1 &&& (7 : Int32))), .val (.ref b2195), .val (.long (16 : Int64)), .second]) rfl ?_
          refine W.aloadN X2439 hx (hb hby at_102) rfl rfl ?_
          refine W.lloadN X2439 hx (hb hby at_103) rfl ?_
          refine W.iloadN X2439 hx (hb hby at_104) rfl ?_
          refine W.iconst X2439 hx (hb hby at_105) (v := 4) rfl ?_
          by_cases hc2444 : (p1 &&& (7 : Int32)) = (4 : Int32)
          · refine W.icmpNo X2439 hx (hb hby at_106) ((teq (hc2444)).2) ?_
            refine W.iconst X2439 hx (hb hby at_109) (v := 1) rfl ?_
            refine W.goto X2439 hx (hb hby at_110) (by decide) (pc' := 114) rfl ?_
            have ne2446 : b2195 ≠ r1_2439 := (Exa.ne r2439_5 r2439_3 (by decide))
            refine W.static X2439 hx hZ hown (wk hw 13 rfl) (wk hw 14 rfl) (wk hw 15 rfl) (wk hw 16 rfl) (by decide) (xPauseN_maybeReset2 l Z a0 hw SS (4 : Fin 6) b2195 r1_2439 h2439 n0 O2442 r2439_5 r2439_4 g2196) e2439 (by rw [hml]; rfl) (argsL := [(.ref b2195), (.long (16 : Int64)), (.int (1 : Int32))]) (rest := []) rfl (lenOf pd__Lcom_example_usher_usher_worker_Pause_JZ_J rfl) rfl (W := 0) (Nat.le_of_eq rfl) (hb hby at_114) (by decide) (by decide) (by decide) (by decide) (fun T2445 h2445 v2445 L2445 X2445 e2445 q2445 => ?_)
            obtain ⟨rfl, N2445q, r2445_0, r2445_1, r2445_2⟩ := q2445
            have N2447 := Fr.app N2441 N2445q
            have O2448 := Old.keep O2442 r2445_0 (allS g2196 all0)
            have K2449 : Keep h0 h2445 [] := Keep.trans K2443 r2445_0 (allS (Or.inr z2197) all0)
            refine W.lstoreN X2445 hx (hb hby at_117) (l' := #[.val (.int p1), .val (.int (p1 &&& (7 : Int32))), .val (.ref b2195), .val (.long (1 : Int64)), .second]) rfl ?_
            refine W.aloadN X2445 hx (hb hby at_118) rfl rfl ?_
            refine W.lloadN X2445 hx (hb hby at_119) rfl ?_
            have F2450 := Exa.ext O2448.2 SS.E_fi
            have F2451 := Fld.ext O2448.2 SS.F_fi_nanos
            have F2452 := Fld.ext O2448.2 SS.F_fi_seconds
            refine W.static X2445 hx hZ hown (wk hw 22 rfl) (wk hw 23 rfl) (wk hw 15 rfl) (wk hw 24 rfl) (by decide) (xPauseN_step1 l Z a0 hw SS (0 : Fin 6) b2195 SS.fi h2445 n0 O2448 r2445_2 r2445_1 F2450 F2451 F2452 g2196) e2445 (by rw [hml]; rfl) (argsL := [(.ref b2195), (.long (1 : Int64))]) (rest := []) rfl (lenOf pd__Lcom_example_usher_usher_worker_Pause_J_J rfl) rfl (W := 0) (Nat.le_of_eq rfl) (hb hby at_120) (by decide) (by decide) (by decide) (by decide) (fun T2453 h2453 v2453 L2453 X2453 e2453 q2453 => ?_)
            obtain ⟨r1_2453, rfl, N2453q, r2453_0, r2453_1, r2453_2, r2453_3, r2453_4, r2453_5⟩ := q2453
            have N2454 := Fr.app N2447 N2453q
            have O2455 := Old.keep O2448 r2453_0 (allS g2196 all0)
            have K2456 : Keep h0 h2453 [] := Keep.trans K2449 r2453_0 (allS (Or.inr z2197) all0)
            refine W.lstoreN X2453 hx (hb hby at_123) (l' := #[.val (.int p1), .val (.int (p1 &&& (7 : Int32))), .val (.ref b2195), .val (.long (2 : Int64)), .second]) rfl ?_
            refine W.aloadN X2453 hx (hb hby at_124) rfl rfl ?_
            refine W.lloadN X2453 hx (hb hby at_125) rfl ?_
            refine W.iloadN X2453 hx (hb hby at_126) rfl ?_
            refine W.iconst X2453 hx (hb hby at_127) (v := 5) rfl ?_
            refine W.icmpYes X2453 hx (hb hby at_128) ((feq (fun q => absurd (hc2444.symm.trans q) (by decide))).2) (by decide) (pc' := 135) rfl ?_
            refine W.iconst X2453 hx (hb hby at_135) (v := 0) rfl ?_
            refine W.static X2453 hx hZ hown (wk hw 13 rfl) (wk hw 14 rfl) (wk hw 15 rfl) (wk hw 16 rfl) (by decide) (xPauseN_maybeReset1 l Z a0 hw SS (1 : Fin 6) b2195 h2453 n0 O2455 ) e2453 (by rw [hml]; rfl) (argsL := [(.ref b2195), (.long (2 : Int64)), (.int (0 : Int32))]) (rest := []) rfl (lenOf pd__Lcom_example_usher_usher_worker_Pause_JZ_J rfl) rfl (W := 0) (Nat.le_of_eq rfl) (hb hby at_136) (by decide) (by decide) (by decide) (by decide) (fun T2457 h2457 v2457 L2457 X2457 e2457 q2457 => ?_)
            obtain ⟨rfl, N2457q, r2457_0⟩ := q2457
            have N2458 := Fr.app N2454 N2457q
            have e2457 := e2457.trans r2457_0
            refine W.lstoreN X2457 hx (hb hby at_139) (l' := #[.val (.int p1), .val (.int (p1 &&& (7 : Int32))), .val (.ref b2195), .val (.long (2 : Int64)), .second]) rfl ?_
            refine W.aloadN X2457 hx (hb hby at_140) rfl rfl ?_
            refine W.lloadN X2457 hx (hb hby at_141) rfl ?_
            have ne2460 : b2195 ≠ r1_2453 := (Exa.ne r2453_5 r2453_3 (by decide))
            refine W.static X2457 hx hZ hown (wk hw 22 rfl) (wk hw 23 rfl) (wk hw 15 rfl) (wk hw 24 rfl) (by decide) (xPauseN_step1 l Z a0 hw SS (1 : Fin 6) b2195 r1_2453 h2453 n0 O2455 r2453_5 r2453_4 r2453_3 r2453_1 r2453_2 g2196) e2457 (by rw [hml]; rfl) (argsL := [(.ref b2195), (.long (2 : Int64))]) (rest := []) rfl (lenOf pd__Lcom_example_usher_usher_worker_Pause_J_J rfl) rfl (W := 0) (Nat.le_of_eq rfl) (hb hby at_142) (by decide) (by decide) (by decide) (by decide) (fun T2459 h2459 v2459 L2459 X2459 e2459 q2459 => ?_)
            obtain ⟨r1_2459, rfl, N2459q, r2459_0, r2459_1, r2459_2, r2459_3, r2459_4, r2459_5⟩ := q2459
            have N2461 := Fr.app N2458 N2459q
            have O2462 := Old.keep O2455 r2459_0 (allS g2196 all0)
            have K2463 : Keep h0 h2459 [] := Keep.trans K2456 r2459_0 (allS (Or.inr z2197) all0)
            refine W.lstoreN X2459 hx (hb hby at_145) (l' := #[.val (.int p1), .val (.int (p1 &&& (7 : Int32))), .val (.ref b2195), .val (.long (4 : Int64)), .second]) rfl ?_
            refine W.aloadN X2459 hx (hb hby at_146) rfl rfl ?_
            refine W.lloadN X2459 hx (hb hby at_147) rfl ?_
            refine W.iloadN X2459 hx (hb hby at_148) rfl ?_
            refine W.bipush X2459 hx (hb hby at_149) (v := 6) rfl ?_
            refine W.icmpYes X2459 hx (hb hby at_151) ((feq (fun q => absurd (hc2444.symm.trans q) (by decide))).2) (by decide) (pc' := 158) rfl ?_
            refine W.iconst X2459 hx (hb hby at_158) (v := 0) rfl ?_
            refine W.static X2459 hx hZ hown (wk hw 13 rfl) (wk hw 14 rfl) (wk hw 15 rfl) (wk hw 16 rfl) (by decide) (xPauseN_maybeReset1 l Z a0 hw SS (2 : Fin 6) b2195 h2459 n0 O2462 ) e2459 (by rw [hml]; rfl) (argsL := [(.ref b2195), (.long (4 : Int64)), (.int (0 : Int32))]) (rest := []) rfl (lenOf pd__Lcom_example_usher_usher_worker_Pause_JZ_J rfl) rfl (W := 0) (Nat.le_of_eq rfl) (hb hby at_159) (by decide) (by decide) (by decide) (by decide) (fun T2464 h2464 v2464 L2464 X2464 e2464 q2464 => ?_)
            obtain ⟨rfl, N2464q, r2464_0⟩ := q2464
            have N2465 := Fr.app N2461 N2464q
            have e2464 := e2464.trans r2464_0
            refine W.lstoreN X2464 hx (hb hby at_162) (l' := #[.val (.int p1), .val (.int (p1 &&& (7 : Int32))), .val (.ref b2195), .val (.long (4 : Int64)), .second]) rfl ?_
            refine W.aloadN X2464 hx (hb hby at_163) rfl rfl ?_
            refine W.lloadN X2464 hx (hb hby at_164) rfl ?_
            have ne2467 : b2195 ≠ r1_2459 := (Exa.ne r2459_5 r2459_3 (by decide))
            refine W.static X2464 hx hZ hown (wk hw 22 rfl) (wk hw 23 rfl) (wk hw 15 rfl) (wk hw 24 rfl) (by decide) (xPauseN_step1 l Z a0 hw SS (2 : Fin 6) b2195 r1_2459 h2459 n0 O2462 r2459_5 r2459_4 r2459_3 r2459_1 r2459_2 g2196) e2464 (by rw [hml]; rfl) (argsL := [(.ref b2195), (.long (4 : Int64))]) (rest := []) rfl (lenOf pd__Lcom_example_usher_usher_worker_Pause_J_J rfl) rfl (W := 0) (Nat.le_of_eq rfl) (hb hby at_165) (by decide) (by decide) (by decide) (by decide) (fun T2466 h2466 v2466 L2466 X2466 e2466 q2466 => ?_)
            obtain ⟨r1_2466, rfl, N2466q, r2466_0, r2466_1, r2466_2, r2466_3, r2466_4, r2466_5⟩ := q2466
            have N2468 := Fr.app N2465 N2466q
            have O2469 := Old.keep O2462 r2466_0 (allS g2196 all0)
            have K2470 : Keep h0 h2466 [] := Keep.trans K2463 r2466_0 (allS (Or.inr z2197) all0)
            refine W.lstoreN X2466 hx (hb hby at_168) (l' := #[.val (.int p1), .val (.int (p1 &&& (7 : Int32))), .val (.ref b2195), .val (.long (8 : Int64)), .second]) rfl ?_
            refine W.aloadN X2466 hx (hb hby at_169) rfl rfl ?_
            refine W.lloadN X2466 hx (hb hby at_170) rfl ?_
            refine W.iloadN X2466 hx (hb hby at_171) rfl ?_
            refine W.bipush X2466 hx (hb hby at_172) (v := 7) rfl ?_
            refine W.icmpYes X2466 hx (hb hby at_174) ((feq (fun q => absurd (hc2444.symm.trans q) (by decide))).2) (by decide) (pc' := 181) rfl ?_
            refine W.iconst X2466 hx (hb hby at_181) (v := 0) rfl ?_
            refine W.static X2466 hx hZ hown (wk hw 13 rfl) (wk hw 14 rfl) (wk hw 15 rfl) (wk hw 16 rfl) (by decide) (xPauseN_maybeReset1 l Z a0 hw SS (3 : Fin 6) b2195 h2466 n0 O2469 ) e2466 (by rw [hml]; rfl) (argsL := [(.ref b2195), (.long (8 : Int64)), (.int (0 : Int32))]) (rest := []) rfl (lenOf pd__Lcom_example_usher_usher_worker_Pause_JZ_J rfl) rfl (W := 0) (Nat.le_of_eq rfl) (hb hby at_182) (by decide) (by decide) (by decide) (by decide) (fun T2471 h2471 v2471 L2471 X2471 e2471 q2471 => ?_)
            obtain ⟨rfl, N2471q, r2471_0⟩ := q2471
            have N2472 := Fr.app N2468 N2471q
            have e2471 := e2471.trans r2471_0
            refine W.lstoreN X2471 hx (hb hby at_185) (l' := #[.val (.int p1), .val (.int (p1 &&& (7 : Int32))), .val (.ref b2195), .val (.long (8 : Int64)), .second]) rfl ?_
            refine W.aloadN X2471 hx (hb hby at_186) rfl rfl ?_
            refine W.lloadN X2471 hx (hb hby at_187) rfl ?_
            have ne2474 : b2195 ≠ r1_2466 := (Exa.ne r2466_5 r2466_3 (by decide))
            refine W.static X2471 hx hZ hown (wk hw 22 rfl) (wk hw 23 rfl) (wk hw 15 rfl) (wk hw 24 rfl) (by decide) (xPauseN_step1 l Z a0 hw SS (3 : Fin 6) b2195 r1_2466 h2466 n0 O2469 r2466_5 r2466_4 r2466_3 r2466_1 r2466_2 g2196) e2471 (by rw [hml]; rfl) (argsL := [(.ref b2195), (.long (8 : Int64))]) (rest := []) rfl (lenOf pd__Lcom_example_usher_usher_worker_Pause_J_J rfl) rfl (W := 0) (Nat.le_of_eq rfl) (hb hby at_188) (by decide) (by decide) (by decide) (by decide) (fun T2473 h2473 v2473 L2473 X2473 e2473 q2473 => ?_)
            obtain ⟨r1_2473, rfl, N2473q, r2473_0, r2473_1, r2473_2, r2473_3, r2473_4, r2473_5⟩ := q2473
            have N2475 := Fr.app N2472 N2473q
            have O2476 := Old.keep O2469 r2473_0 (allS g2196 all0)
            have K2477 : Keep h0 h2473 [] := Keep.trans K2470 r2473_0 (allS (Or.inr z2197) all0)
            refine W.lstoreN X2473 hx (hb hby at_191) (l' := #[.val (.int p1), .val (.int (p1 &&& (7 : Int32))), .val (.ref b2195), .val (.long (16 : Int64)), .second]) rfl ?_
            refine W.lloadN X2473 hx (hb hby at_192) rfl ?_
            refine W.lconst X2473 hx (hb hby at_193) (v := 0) rfl ?_
            refine W.lcmp X2473 hx (hb hby at_194) (v := (1 : Int32)) (by decide) ?_
            refine W.ifNo X2473 hx (hb hby at_195) (by decide) ?_
            refine W.iconst X2473 hx (hb hby at_198) (v := 1) rfl ?_
            refine W.goto X2473 hx (hb hby at_199) (by decide) (pc' := 203) rfl ?_
            exact Win.retN X2473 hx hlk (t := .boolean) hret (by simp) rfl (hb hby at_203) (by decide) (by decide) (by (try rw [e2473]); exact ⟨rfl, N2475, trivial⟩)
          · refine W.icmpYes X2439 hx (hb hby at_106) ((feq (hc2444)).2) (by decide) (pc' := 113) rfl ?_
            refine W.iconst X2439 hx (hb hby at_113) (v := 0) rfl ?_
            refine W.static X2439 hx hZ hown (wk hw 13 rfl) (wk hw 14 rfl) (wk hw 15 rfl) (wk hw 16 rfl) (by decide) (xPauseN_maybeReset1 l Z a0 hw SS (4 : Fin 6) b2195 h2439 n0 O2442 ) e2439 (by rw [hml]; rfl) (argsL := [(.ref b2195), (.long (16 : Int64)), (.int (0 : Int32))]) (rest := []) rfl (lenOf pd__Lcom_example_usher_usher_worker_Pause_JZ_J rfl) rfl (W := 0) (Nat.le_of_eq rfl) (hb hby at_114) (by decide) (by decide) (by decide) (by decide) (fun T2478 h2478 v2478 L2478 X2478 e2478 q2478 => ?_)
            obtain ⟨rfl, N2478q, r2478_0⟩ := q2478
            have N2479 := Fr.app N2441 N2478q
            have e2478 := e2478.trans r2478_0
            refine W.lstoreN X2478 hx (hb hby at_117) (l' := #[.val (.int p1), .val (.int (p1 &&& (7 : Int32))), .val (.ref b2195), .val (.long (16 : Int64)), .second]) rfl ?_
            refine W.aloadN X2478 hx (hb hby at_118) rfl rfl ?_
            refine W.lloadN X2478 hx (hb hby at_119) rfl ?_
            have ne2481 : b2195 ≠ r1_2439 := (Exa.ne r2439_5 r2439_3 (by decide))
            refine W.static X2478 hx hZ hown (wk hw 22 rfl) (wk hw 23 rfl) (wk hw 15 rfl) (wk hw 24 rfl) (by decide) (xPauseN_step1 l Z a0 hw SS (4 : Fin 6) b2195 r1_2439 h2439 n0 O2442 r2439_5 r2439_4 r2439_3 r2439_1 r2439_2 g2196) e2478 (by rw [hml]; rfl) (argsL := [(.ref b2195), (.long (16 : Int64))]) (rest := []) rfl (lenOf pd__Lcom_example_usher_usher_worker_Pause_J_J rfl) rfl (W := 0) (Nat.le_of_eq rfl) (hb hby at_120) (by decide) (by decide) (by decide) (by decide) (fun T2480 h2480 v2480 L2480 X2480 e2480 q2480 => ?_)
            obtain ⟨r1_2480, rfl, N2480q, r2480_0, r2480_1, r2480_2, r2480_3, r2480_4, r2480_5⟩ := q2480
            have N2482 := Fr.app N2479 N2480q
            have O2483 := Old.keep O2442 r2480_0 (allS g2196 all0)
            have K2484 : Keep h0 h2480 [] := Keep.trans K2443 r2480_0 (allS (Or.inr z2197) all0)
            refine W.lstoreN X2480 hx (hb hby at_123) (l' := #[.val (.int p1), .val (.int (p1 &&& (7 : Int32))), .val (.ref b2195), .val (.long (30 : Int64)), .second]) rfl ?_
            refine W.aloadN X2480 hx (hb hby at_124) rfl rfl ?_
            refine W.lloadN X2480 hx (hb hby at_125) rfl ?_
            refine W.iloadN X2480 hx (hb hby at_126) rfl ?_
            refine W.iconst X2480 hx (hb hby at_127) (v := 5) rfl ?_
            by_cases hc2485 : (p1 &&& (7 : Int32)) = (5 : Int32)
            · refine W.icmpNo X2480 hx (hb hby at_128) ((teq (hc2485)).2) ?_
              refine W.iconst X2480 hx (hb hby at_131) (v := 1) rfl ?_
              refine W.goto X2480 hx (hb hby at_132) (by decide) (pc' := 136) rfl ?_
              have ne2487 : b2195 ≠ r1_2480 := (Exa.ne r2480_5 r2480_3 (by decide))
              refine W.static X2480 hx hZ hown (wk hw 13 rfl) (wk hw 14 rfl) (wk hw 15 rfl) (wk hw 16 rfl) (by decide) (xPauseN_maybeReset2 l Z a0 hw SS (5 : Fin 6) b2195 r1_2480 h2480 n0 O2483 r2480_5 r2480_4 g2196) e2480 (by rw [hml]; rfl) (argsL := [(.ref b2195), (.long (30 : Int64)), (.int (1 : Int32))]) (rest := []) rfl (lenOf pd__Lcom_example_usher_usher_worker_Pause_JZ_J rfl) rfl (W := 0) (Nat.le_of_eq rfl) (hb hby at_136) (by decide) (by decide) (by decide) (by decide) (fun T2486 h2486 v2486 L2486 X2486 e2486 q2486 => ?_)
              obtain ⟨rfl, N2486q, r2486_0, r2486_1, r2486_2⟩ := q2486
              have N2488 := Fr.app N2482 N2486q
              have O2489 := Old.keep O2483 r2486_0 (allS g2196 all0)
              have K2490 : Keep h0 h2486 [] := Keep.trans K2484 r2486_0 (allS (Or.inr z2197) all0)
              refine W.lstoreN X2486 hx (hb hby at_139) (l' := #[.val (.int p1), .val (.int (p1 &&& (7 : Int32))), .val (.ref b2195), .val (.long (1 : Int64)), .second]) rfl ?_
              refine W.aloadN X2486 hx (hb hby at_140) rfl rfl ?_
              refine W.lloadN X2486 hx (hb hby at_141) rfl ?_
              have F2491 := Exa.ext O2489.2 SS.E_fi
              have F2492 := Fld.ext O2489.2 SS.F_fi_nanos
              have F2493 := Fld.ext O2489.2 SS.F_fi_seconds
              refine W.static X2486 hx hZ hown (wk hw 22 rfl) (wk hw 23 rfl) (wk hw 15 rfl) (wk hw 24 rfl) (by decide) (xPauseN_step1 l Z a0 hw SS (0 : Fin 6) b2195 SS.fi h2486 n0 O2489 r2486_2 r2486_1 F2491 F2492 F2493 g2196) e2486 (by rw [hml]; rfl) (argsL := [(.ref b2195), (.long (1 : Int64))]) (rest := []) rfl (lenOf pd__Lcom_example_usher_usher_worker_Pause_J_J rfl) rfl (W := 0) (Nat.le_of_eq rfl) (hb hby at_142) (by decide) (by decide) (by decide) (by decide) (fun T2494 h2494 v2494 L2494 X2494 e2494 q2494 => ?_)
              obtain ⟨r1_2494, rfl, N2494q, r2494_0, r2494_1, r2494_2, r2494_3, r2494_4, r2494_5⟩ := q2494
              have N2495 := Fr.app N2488 N2494q
              have O2496 := Old.keep O2489 r2494_0 (allS g2196 all0)
              have K2497 : Keep h0 h2494 [] := Keep.trans K2490 r2494_0 (allS (Or.inr z2197) all0)
              refine W.lstoreN X2494 hx (hb hby at_145) (l' := #[.val (.int p1), .val (.int (p1 &&& (7 : Int32))), .val (.ref b2195), .val (.long (2 : Int64)), .second]) rfl ?_
              refine W.aloadN X2494 hx (hb hby at_146) rfl rfl ?_
              refine W.lloadN X2494 hx (hb hby at_147) rfl ?_
              refine W.iloadN X2494 hx (hb hby at_148) rfl ?_
              refine W.bipush X2494 hx (hb hby at_149) (v := 6) rfl ?_
              refine W.icmpYes X2494 hx (hb hby at_151) ((feq (fun q => absurd (hc2485.symm.trans q) (by decide))).2) (by decide) (pc' := 158) rfl ?_
              refine W.iconst X2494 hx (hb hby at_158) (v := 0) rfl ?_
              refine W.static X2494 hx hZ hown (wk hw 13 rfl) (wk hw 14 rfl) (wk hw 15 rfl) (wk hw 16 rfl) (by decide) (xPauseN_maybeReset1 l Z a0 hw SS (1 : Fin 6) b2195 h2494 n0 O2496 ) e2494 (by rw [hml]; rfl) (argsL := [(.ref b2195), (.long (2 : Int64)), (.int (0 : Int32))]) (rest := []) rfl (lenOf pd__Lcom_example_usher_usher_worker_Pause_JZ_J rfl) rfl (W := 0) (Nat.le_of_eq rfl) (hb hby at_159) (by decide) (by decide) (by decide) (by decide) (fun T2498 h2498 v2498 L2498 X2498 e2498 q2498 => ?_)
              obtain ⟨rfl, N2498q, r2498_0⟩ := q2498
              have N2499 := Fr.app N2495 N2498q
              have e2498 := e2498.trans r2498_0
              refine W.lstoreN X2498 hx (hb hby at_162) (l' := #[.val (.int p1), .val (.int (p1 &&& (7 : Int32))), .val (.ref b2195), .val (.long (2 : Int64)), .second]) rfl ?_
              refine W.aloadN X2498 hx (hb hby at_163) rfl rfl ?_
              refine W.lloadN X2498 hx (hb hby at_164) rfl ?_
              have ne2501 : b2195 ≠ r1_2494 := (Exa.ne r2494_5 r2494_3 (by decide))
              refine W.static X2498 hx hZ hown (wk hw 22 rfl) (wk hw 23 rfl) (wk hw 15 rfl) (wk hw 24 rfl) (by decide) (xPauseN_step1 l Z a0 hw SS (1 : Fin 6) b2195 r1_2494 h2494 n0 O2496 r2494_5 r2494_4 r2494_3 r2494_1 r2494_2 g2196) e2498 (by rw [hml]; rfl) (argsL := [(.ref b2195), (.long (2 : Int64))]) (rest := []) rfl (lenOf pd__Lcom_example_usher_usher_worker_Pause_J_J rfl) rfl (W := 0) (Nat.le_of_eq rfl) (hb hby at_165) (by decide) (by decide) (by decide) (by decide) (fun T2500 h2500 v2500 L2500 X2500 e2500 q2500 => ?_)
              obtain ⟨r1_2500, rfl, N2500q, r2500_0, r2500_1, r2500_2, r2500_3, r2500_4, r2500_5⟩ := q2500
              have N2502 := Fr.app N2499 N2500q
              have O2503 := Old.keep O2496 r2500_0 (allS g2196 all0)
              have K2504 : Keep h0 h2500 [] := Keep.trans K2497 r2500_0 (allS (Or.inr z2197) all0)
              refine W.lstoreN X2500 hx (hb hby at_168) (l' := #[.val (.int p1), .val (.int (p1 &&& (7 : Int32))), .val (.ref b2195), .val (.long (4 : Int64)), .second]) rfl ?_
              refine W.aloadN X2500 hx (hb hby at_169) rfl rfl ?_
              refine W.lloadN X2500 hx (hb hby at_170) rfl ?_
              refine W.iloadN X2500 hx (hb hby at_171) rfl ?_
              refine W.bipush X2500 hx (hb hby at_172) (v := 7) rfl ?_
              refine W.icmpYes X2500 hx (hb hby at_174) ((feq (fun q => absurd (hc2485.symm.trans q) (by decide))).2) (by decide) (pc' := 181) rfl ?_
              refine W.iconst X2500 hx (hb hby at_181) (v := 0) rfl ?_
              refine W.static X2500 hx hZ hown (wk hw 13 rfl) (wk hw 14 rfl) (wk hw 15 rfl) (wk hw 16 rfl) (by decide) (xPauseN_maybeReset1 l Z a0 hw SS (2 : Fin 6) b2195 h2500 n0 O2503 ) e2500 (by rw [hml]; rfl) (argsL := [(.ref b2195), (.long (4 : Int64)), (.int (0 : Int32))]) (rest := []) rfl (lenOf pd__Lcom_example_usher_usher_worker_Pause_JZ_J rfl) rfl (W := 0) (Nat.le_of_eq rfl) (hb hby at_182) (by decide) (by decide) (by decide) (by decide) (fun T2505 h2505 v2505 L2505 X2505 e2505 q2505 => ?_)
              obtain ⟨rfl, N2505q, r2505_0⟩ := q2505
              have N2506 := Fr.app N2502 N2505q
              have e2505 := e2505.trans r2505_0
              refine W.lstoreN X2505 hx (hb hby at_185) (l' := #[.val (.int p1), .val (.int (p1 &&& (7 : Int32))), .val (.ref b2195), .val (.long (4 : Int64)), .second]) rfl ?_
              refine W.aloadN X2505 hx (hb hby at_186) rfl rfl ?_
              refine W.lloadN X2505 hx (hb hby at_187) rfl ?_
              have ne2508 : b2195 ≠ r1_2500 := (Exa.ne r2500_5 r2500_3 (by decide))
              refine W.static X2505 hx hZ hown (wk hw 22 rfl) (wk hw 23 rfl) (wk hw 15 rfl) (wk hw 24 rfl) (by decide) (xPauseN_step1 l Z a0 hw SS (2 : Fin 6) b2195 r1_2500 h2500 n0 O2503 r2500_5 r2500_4 r2500_3 r2500_1 r2500_2 g2196) e2505 (by rw [hml]; rfl) (argsL := [(.ref b2195), (.long (4 : Int64))]) (rest := []) rfl (lenOf pd__Lcom_example_usher_usher_worker_Pause_J_J rfl) rfl (W := 0) (Nat.le_of_eq rfl) (hb hby at_188) (by decide) (by decide) (by decide) (by decide) (fun T2507 h2507 v2507 L2507 X2507 e2507 q2507 => ?_)
              obtain ⟨r1_2507, rfl, N2507q, r2507_0, r2507_1, r2507_2, r2507_3, r2507_4, r2507_5⟩ := q2507
              have N2509 := Fr.app N2506 N2507q
              have O2510 := Old.keep O2503 r2507_0 (allS g2196 all0)
              have K2511 : Keep h0 h2507 [] := Keep.trans K2504 r2507_0 (allS (Or.inr z2197) all0)
              refine W.lstoreN X2507 hx (hb hby at_191) (l' := #[.val (.int p1), .val (.int (p1 &&& (7 : Int32))), .val (.ref b2195), .val (.long (8 : Int64)), .second]) rfl ?_
              refine W.lloadN X2507 hx (hb hby at_192) rfl ?_
              refine W.lconst X2507 hx (hb hby at_193) (v := 0) rfl ?_
              refine W.lcmp X2507 hx (hb hby at_194) (v := (1 : Int32)) (by decide) ?_
              refine W.ifNo X2507 hx (hb hby at_195) (by decide) ?_
              refine W.iconst X2507 hx (hb hby at_198) (v := 1) rfl ?_
              refine W.goto X2507 hx (hb hby at_199) (by decide) (pc' := 203) rfl ?_
              exact Win.retN X2507 hx hlk (t := .boolean) hret (by simp) rfl (hb hby at_203) (by decide) (by decide) (by (try rw [e2507]); exact ⟨rfl, N2509, trivial⟩)
            · refine W.icmpYes X2480 hx (hb hby at_128) ((feq (hc2485)).2) (by decide) (pc' := 135) rfl ?_
              refine W.iconst X2480 hx (hb hby at_135) (v := 0) rfl ?_
              refine W.static X2480 hx hZ hown (wk hw 13 rfl) (wk hw 14 rfl) (wk hw 15 rfl) (wk hw 16 rfl) (by decide) (xPauseN_maybeReset1 l Z a0 hw SS (5 : Fin 6) b2195 h2480 n0 O2483 ) e2480 (by rw [hml]; rfl) (argsL := [(.ref b2195), (.long (30 : Int64)), (.int (0 : Int32))]) (rest := []) rfl (lenOf pd__Lcom_example_usher_usher_worker_Pause_JZ_J rfl) rfl (W := 0) (Nat.le_of_eq rfl) (hb hby at_136) (by decide) (by decide) (by decide) (by decide) (fun T2512 h2512 v2512 L2512 X2512 e2512 q2512 => ?_)
              obtain ⟨rfl, N2512q, r2512_0⟩ := q2512
              have N2513 := Fr.app N2482 N2512q
              have e2512 := e2512.trans r2512_0
              refine W.lstoreN X2512 hx (hb hby at_139) (l' := #[.val (.int p1), .val (.int (p1 &&& (7 : Int32))), .val (.ref b2195), .val (.long (30 : Int64)), .second]) rfl ?_
              refine W.aloadN X2512 hx (hb hby at_140) rfl rfl ?_
              refine W.lloadN X2512 hx (hb hby at_141) rfl ?_
              have ne2515 : b2195 ≠ r1_2480 := (Exa.ne r2480_5 r2480_3 (by decide))
              refine W.static X2512 hx hZ hown (wk hw 22 rfl) (wk hw 23 rfl) (wk hw 15 rfl) (wk hw 24 rfl) (by decide) (xPauseN_step1 l Z a0 hw SS (5 : Fin 6) b2195 r1_2480 h2480 n0 O2483 r2480_5 r2480_4 r2480_3 r2480_1 r2480_2 g2196) e2512 (by rw [hml]; rfl) (argsL := [(.ref b2195), (.long (30 : Int64))]) (rest := []) rfl (lenOf pd__Lcom_example_usher_usher_worker_Pause_J_J rfl) rfl (W := 0) (Nat.le_of_eq rfl) (hb hby at_142) (by decide) (by decide) (by decide) (by decide) (fun T2514 h2514 v2514 L2514 X2514 e2514 q2514 => ?_)
              obtain ⟨r1_2514, rfl, N2514q, r2514_0, r2514_1, r2514_2, r2514_3, r2514_4, r2514_5⟩ := q2514
              have N2516 := Fr.app N2513 N2514q
              have O2517 := Old.keep O2483 r2514_0 (allS g2196 all0)
              have K2518 : Keep h0 h2514 [] := Keep.trans K2484 r2514_0 (allS (Or.inr z2197) all0)
              refine W.lstoreN X2514 hx (hb hby at_145) (l' := #[.val (.int p1), .val (.int (p1 &&& (7 : Int32))), .val (.ref b2195), .val (.long (30 : Int64)), .second]) rfl ?_
              refine W.aloadN X2514 hx (hb hby at_146) rfl rfl ?_
              refine W.lloadN X2514 hx (hb hby at_147) rfl ?_
              refine W.iloadN X2514 hx (hb hby at_148) rfl ?_
              refine W.bipush X2514 hx (hb hby at_149) (v := 6) rfl ?_
              by_cases hc2519 : (p1 &&& (7 : Int32)) = (6 : Int32)
              · refine W.icmpNo X2514 hx (hb hby at_151) ((teq (hc2519)).2) ?_
                refine W.iconst X2514 hx (hb hby at_154) (v := 1) rfl ?_
                refine W.goto X2514 hx (hb hby at_155) (by decide) (pc' := 159) rfl ?_
                have ne2521 : b2195 ≠ r1_2514 := (Exa.ne r2514_5 r2514_3 (by decide))
                refine W.static X2514 hx hZ hown (wk hw 13 rfl) (wk hw 14 rfl) (wk hw 15 rfl) (wk hw 16 rfl) (by decide) (xPauseN_maybeReset2 l Z a0 hw SS (5 : Fin 6) b2195 r1_2514 h2514 n0 O2517 r2514_5 r2514_4 g2196) e2514 (by rw [hml]; rfl) (argsL := [(.ref b2195), (.long (30 : Int64)), (.int (1 : Int32))]) (rest := []) rfl (lenOf pd__Lcom_example_usher_usher_worker_Pause_JZ_J rfl) rfl (W := 0) (Nat.le_of_eq rfl) (hb hby at_159) (by decide) (by decide) (by decide) (by decide) (fun T2520 h2520 v2520 L2520 X2520 e2520 q2520 => ?_)
                obtain ⟨rfl, N2520q, r2520_0, r2520_1, r2520_2⟩ := q2520
                have N2522 := Fr.app N2516 N2520q
                have O2523 := Old.keep O2517 r2520_0 (allS g2196 all0)
                have K2524 : Keep h0 h2520 [] := Keep.trans K2518 r2520_0 (allS (Or.inr z2197) all0)
                refine W.lstoreN X2520 hx (hb hby at_162) (l' := #[.val (.int p1), .val (.int (p1 &&& (7 : Int32))), .val (.ref b2195), .val (.long (1 : Int64)), .second]) rfl ?_
                refine W.aloadN X2520 hx (hb hby at_163) rfl rfl ?_
                refine W.lloadN X2520 hx (hb hby at_164) rfl ?_
                have F2525 := Exa.ext O2523.2 SS.E_fi
                have F2526 := Fld.ext O2523.2 SS.F_fi_nanos
                have F2527 := Fld.ext O2523.2 SS.F_fi_seconds
                refine W.static X2520 hx hZ hown (wk hw 22 rfl) (wk hw 23 rfl) (wk hw 15 rfl) (wk hw 24 rfl) (by decide) (xPauseN_step1 l Z a0 hw SS (0 : Fin 6) b2195 SS.fi h2520 n0 O2523 r2520_2 r2520_1 F2525 F2526 F2527 g2196) e2520 (by rw [hml]; rfl) (argsL := [(.ref b2195), (.long (1 : Int64))]) (rest := []) rfl (lenOf pd__Lcom_example_usher_usher_worker_Pause_J_J rfl) rfl (W := 0) (Nat.le_of_eq rfl) (hb hby at_165) (by decide) (by decide) (by decide) (by decide) (fun T2528 h2528 v2528 L2528 X2528 e2528 q2528 => ?_)
                obtain ⟨r1_2528, rfl, N2528q, r2528_0, r2528_1, r2528_2, r2528_3, r2528_4, r2528_5⟩ := q2528
                have N2529 := Fr.app N2522 N2528q
                have O2530 := Old.keep O2523 r2528_0 (allS g2196 all0)
                have K2531 : Keep h0 h2528 [] := Keep.trans K2524 r2528_0 (allS (Or.inr z2197) all0)
                refine W.lstoreN X2528 hx (hb hby at_168) (l' := #[.val (.int p1), .val (.int (p1 &&& (7 : Int32))), .val (.ref b2195), .val (.long (2 : Int64)), .second]) rfl ?_
                refine W.aloadN X2528 hx (hb hby at_169) rfl rfl ?_
                refine W.lloadN X2528 hx (hb hby at_170) rfl ?_
                refine W.iloadN X2528 hx (hb hby at_171) rfl ?_
                refine W.bipush X2528 hx (hb hby at_172) (v := 7) rfl ?_
                refine W.icmpYes X2528 hx (hb hby at_174) ((feq (fun q => absurd (hc2519.symm.trans q) (by decide))).2) (by decide) (pc' := 181) rfl ?_
                refine W.iconst X2528 hx (hb hby at_181) (v := 0) rfl ?_
                refine W.static X2528 hx hZ hown (wk hw 13 rfl) (wk hw 14 rfl) (wk hw 15 rfl) (wk hw 16 rfl) (by decide) (xPauseN_maybeReset1 l Z a0 hw SS (1 : Fin 6) b2195 h2528 n0 O2530 ) e2528 (by rw [hml]; rfl) (argsL := [(.ref b2195), (.long (2 : Int64)), (.int (0 : Int32))]) (rest := []) rfl (lenOf pd__Lcom_example_usher_usher_worker_Pause_JZ_J rfl) rfl (W := 0) (Nat.le_of_eq rfl) (hb hby at_182) (by decide) (by decide) (by decide) (by decide) (fun T2532 h2532 v2532 L2532 X2532 e2532 q2532 => ?_)
                obtain ⟨rfl, N2532q, r2532_0⟩ := q2532
                have N2533 := Fr.app N2529 N2532q
                have e2532 := e2532.trans r2532_0
                refine W.lstoreN X2532 hx (hb hby at_185) (l' := #[.val (.int p1), .val (.int (p1 &&& (7 : Int32))), .val (.ref b2195), .val (.long (2 : Int64)), .second]) rfl ?_
                refine W.aloadN X2532 hx (hb hby at_186) rfl rfl ?_
                refine W.lloadN X2532 hx (hb hby at_187) rfl ?_
                have ne2535 : b2195 ≠ r1_2528 := (Exa.ne r2528_5 r2528_3 (by decide))
                refine W.static X2532 hx hZ hown (wk hw 22 rfl) (wk hw 23 rfl) (wk hw 15 rfl) (wk hw 24 rfl) (by decide) (xPauseN_step1 l Z a0 hw SS (1 : Fin 6) b2195 r1_2528 h2528 n0 O2530 r2528_5 r2528_4 r2528_3 r2528_1 r2528_2 g2196) e2532 (by rw [hml]; rfl) (argsL := [(.ref b2195), (.long (2 : Int64))]) (rest := []) rfl (lenOf pd__Lcom_example_usher_usher_worker_Pause_J_J rfl) rfl (W := 0) (Nat.le_of_eq rfl) (hb hby at_188) (by decide) (by decide) (by decide) (by decide) (fun T2534 h2534 v2534 L2534 X2534 e2534 q2534 => ?_)
                obtain ⟨r1_2534, rfl, N2534q, r2534_0, r2534_1, r2534_2, r2534_3, r2534_4, r2534_5⟩ := q2534
                have N2536 := Fr.app N2533 N2534q
                have O2537 := Old.keep O2530 r2534_0 (allS g2196 all0)
                have K2538 : Keep h0 h2534 [] := Keep.trans K2531 r2534_0 (allS (Or.inr z2197) all0)
                refine W.lstoreN X2534 hx (hb hby at_191) (l' := #[.val (.int p1), .val (.int (p1 &&& (7 : Int32))), .val (.ref b2195), .val (.long (4 : Int64)), .second]) rfl ?_
                refine W.lloadN X2534 hx (hb hby at_192) rfl ?_
                refine W.lconst X2534 hx (hb hby at_193) (v := 0) rfl ?_
                refine W.lcmp X2534 hx (hb hby at_194) (v := (1 : Int32)) (by decide) ?_
                refine W.ifNo X2534 hx (hb hby at_195) (by decide) ?_
                refine W.iconst X2534 hx (hb hby at_198) (v := 1) rfl ?_
                refine W.goto X2534 hx (hb hby at_199) (by decide) (pc' := 203) rfl ?_
                exact Win.retN X2534 hx hlk (t := .boolean) hret (by simp) rfl (hb hby at_203) (by decide) (by decide) (by (try rw [e2534]); exact ⟨rfl, N2536, trivial⟩)
              · refine W.icmpYes X2514 hx (hb hby at_151) ((feq (hc2519)).2) (by decide) (pc' := 158) rfl ?_
                refine W.iconst X2514 hx (hb hby at_158) (v := 0) rfl ?_
                refine W.static X2514 hx hZ hown (wk hw 13 rfl) (wk hw 14 rfl) (wk hw 15 rfl) (wk hw 16 rfl) (by decide) (xPauseN_maybeReset1 l Z a0 hw SS (5 : Fin 6) b2195 h2514 n0 O2517 ) e2514 (by rw [hml]; rfl) (argsL := [(.ref b2195), (.long (30 : Int64)), (.int (0 : Int32))]) (rest := []) rfl (lenOf pd__Lcom_example_usher_usher_worker_Pause_JZ_J rfl) rfl (W := 0) (Nat.le_of_eq rfl) (hb hby at_159) (by decide) (by decide) (by decide) (by decide) (fun T2539 h2539 v2539 L2539 X2539 e2539 q2539 => ?_)
                obtain ⟨rfl, N2539q, r2539_0⟩ := q2539
                have N2540 := Fr.app N2516 N2539q
                have e2539 := e2539.trans r2539_0
                refine W.lstoreN X2539 hx (hb hby at_162) (l' := #[.val (.int p1), .val (.int (p1 &&& (7 : Int32))), .val (.ref b2195), .val (.long (30 : Int64)), .second]) rfl ?_
                refine W.aloadN X2539 hx (hb hby at_163) rfl rfl ?_
                refine W.lloadN X2539 hx (hb hby at_164) rfl ?_
                have ne2542 : b2195 ≠ r1_2514 := (Exa.ne r2514_5 r2514_3 (by decide))
                refine W.static X2539 hx hZ hown (wk hw 22 rfl) (wk hw 23 rfl) (wk hw 15 rfl) (wk hw 24 rfl) (by decide) (xPauseN_step1 l Z a0 hw SS (5 : Fin 6) b2195 r1_2514 h2514 n0 O2517 r2514_5 r2514_4 r2514_3 r2514_1 r2514_2 g2196) e2539 (by rw [hml]; rfl) (argsL := [(.ref b2195), (.long (30 : Int64))]) (rest := []) rfl (lenOf pd__Lcom_example_usher_usher_worker_Pause_J_J rfl) rfl (W := 0) (Nat.le_of_eq rfl) (hb hby at_165) (by decide) (by decide) (by decide) (by decide) (fun T2541 h2541 v2541 L2541 X2541 e2541 q2541 => ?_)
                obtain ⟨r1_2541, rfl, N2541q, r2541_0, r2541_1, r2541_2, r2541_3, r2541_4, r2541_5⟩ := q2541
                have N2543 := Fr.app N2540 N2541q
                have O2544 := Old.keep O2517 r2541_0 (allS g2196 all0)
                have K2545 : Keep h0 h2541 [] := Keep.trans K2518 r2541_0 (allS (Or.inr z2197) all0)
                refine W.lstoreN X2541 hx (hb hby at_168) (l' := #[.val (.int p1), .val (.int (p1 &&& (7 : Int32))), .val (.ref b2195), .val (.long (30 : Int64)), .second]) rfl ?_
                refine W.aloadN X2541 hx (hb hby at_169) rfl rfl ?_
                refine W.lloadN X2541 hx (hb hby at_170) rfl ?_
                refine W.iloadN X2541 hx (hb hby at_171) rfl ?_
                refine W.bipush X2541 hx (hb hby at_172) (v := 7) rfl ?_
                by_cases hc2546 : (p1 &&& (7 : Int32)) = (7 : Int32)
                · refine W.icmpNo X2541 hx (hb hby at_174) ((teq (hc2546)).2) ?_
                  refine W.iconst X2541 hx (hb hby at_177) (v := 1) rfl ?_
                  refine W.goto X2541 hx (hb hby at_178) (by decide) (pc' := 182) rfl ?_
                  have ne2548 : b2195 ≠ r1_2541 := (Exa.ne r2541_5 r2541_3 (by decide))
                  refine W.static X2541 hx hZ hown (wk hw 13 rfl) (wk hw 14 rfl) (wk hw 15 rfl) (wk hw 16 rfl) (by decide) (xPauseN_maybeReset2 l Z a0 hw SS (5 : Fin 6) b2195 r1_2541 h2541 n0 O2544 r2541_5 r2541_4 g2196) e2541 (by rw [hml]; rfl) (argsL := [(.ref b2195), (.long (30 : Int64)), (.int (1 : Int32))]) (rest := []) rfl (lenOf pd__Lcom_example_usher_usher_worker_Pause_JZ_J rfl) rfl (W := 0) (Nat.le_of_eq rfl) (hb hby at_182) (by decide) (by decide) (by decide) (by decide) (fun T2547 h2547 v2547 L2547 X2547 e2547 q2547 => ?_)
                  obtain ⟨rfl, N2547q, r2547_0, r2547_1, r2547_2⟩ := q2547
                  have N2549 := Fr.app N2543 N2547q
                  have O2550 := Old.keep O2544 r2547_0 (allS g2196 all0)
                  have K2551 : Keep h0 h2547 [] := Keep.trans K2545 r2547_0 (allS (Or.inr z2197) all0)
                  refine W.lstoreN X2547 hx (hb hby at_185) (l' := #[.val (.int p1), .val (.int (p1 &&& (7 : Int32))), .val (.ref b2195), .val (.long (1 : Int64)), .second]) rfl ?_
                  refine W.aloadN X2547 hx (hb hby at_186) rfl rfl ?_
                  refine W.lloadN X2547 hx (hb hby at_187) rfl ?_
                  have F2552 := Exa.ext O2550.2 SS.E_fi
                  have F2553 := Fld.ext O2550.2 SS.F_fi_nanos
                  have F2554 := Fld.ext O2550.2 SS.F_fi_seconds
                  refine W.static X2547 hx hZ hown (wk hw 22 rfl) (wk hw 23 rfl) (wk hw 15 rfl) (wk hw 24 rfl) (by decide) (xPauseN_step1 l Z a0 hw SS (0 : Fin 6) b2195 SS.fi h2547 n0 O2550 r2547_2 r2547_1 F2552 F2553 F2554 g2196) e2547 (by rw [hml]; rfl) (argsL := [(.ref b2195), (.long (1 : Int64))]) (rest := []) rfl (lenOf pd__Lcom_example_usher_usher_worker_Pause_J_J rfl) rfl (W := 0) (Nat.le_of_eq rfl) (hb hby at_188) (by decide) (by decide) (by decide) (by decide) (fun T2555 h2555 v2555 L2555 X2555 e2555 q2555 => ?_)
                  obtain ⟨r1_2555, rfl, N2555q, r2555_0, r2555_1, r2555_2, r2555_3, r2555_4, r2555_5⟩ := q2555
                  have N2556 := Fr.app N2549 N2555q
                  have O2557 := Old.keep O2550 r2555_0 (allS g2196 all0)
                  have K2558 : Keep h0 h2555 [] := Keep.trans K2551 r2555_0 (allS (Or.inr z2197) all0)
                  refine W.lstoreN X2555 hx (hb hby at_191) (l' := #[.val (.int p1), .val (.int (p1 &&& (7 : Int32))), .val (.ref b2195), .val (.long (2 : Int64)), .second]) rfl ?_
                  refine W.lloadN X2555 hx (hb hby at_192) rfl ?_
                  refine W.lconst X2555 hx (hb hby at_193) (v := 0) rfl ?_
                  refine W.lcmp X2555 hx (hb hby at_194) (v := (1 : Int32)) (by decide) ?_
                  refine W.ifNo X2555 hx (hb hby at_195) (by decide) ?_
                  refine W.iconst X2555 hx (hb hby at_198) (v := 1) rfl ?_
                  refine W.goto X2555 hx (hb hby at_199) (by decide) (pc' := 203) rfl ?_
                  exact Win.retN X2555 hx hlk (t := .boolean) hret (by simp) rfl (hb hby at_203) (by decide) (by decide) (by (try rw [e2555]); exact ⟨rfl, N2556, trivial⟩)
                · refine W.icmpYes X2541 hx (hb hby at_174) ((feq (hc2546)).2) (by decide) (pc' := 181) rfl ?_
                  refine W.iconst X2541 hx (hb hby at_181) (v := 0) rfl ?_
                  refine W.static X2541 hx hZ hown (wk hw 13 rfl) (wk hw 14 rfl) (wk hw 15 rfl) (wk hw 16 rfl) (by decide) (xPauseN_maybeReset1 l Z a0 hw SS (5 : Fin 6) b2195 h2541 n0 O2544 ) e2541 (by rw [hml]; rfl) (argsL := [(.ref b2195), (.long (30 : Int64)), (.int (0 : Int32))]) (rest := []) rfl (lenOf pd__Lcom_example_usher_usher_worker_Pause_JZ_J rfl) rfl (W := 0) (Nat.le_of_eq rfl) (hb hby at_182) (by decide) (by decide) (by decide) (by decide) (fun T2559 h2559 v2559 L2559 X2559 e2559 q2559 => ?_)
                  obtain ⟨rfl, N2559q, r2559_0⟩ := q2559
                  have N2560 := Fr.app N2543 N2559q
                  have e2559 := e2559.trans r2559_0
                  refine W.lstoreN X2559 hx (hb hby at_185) (l' := #[.val (.int p1), .val (.int (p1 &&& (7 : Int32))), .val (.ref b2195), .val (.long (30 : Int64)), .second]) rfl ?_
                  refine W.aloadN X2559 hx (hb hby at_186) rfl rfl ?_
                  refine W.lloadN X2559 hx (hb hby at_187) rfl ?_
                  have ne2562 : b2195 ≠ r1_2541 := (Exa.ne r2541_5 r2541_3 (by decide))
                  refine W.static X2559 hx hZ hown (wk hw 22 rfl) (wk hw 23 rfl) (wk hw 15 rfl) (wk hw 24 rfl) (by decide) (xPauseN_step1 l Z a0 hw SS (5 : Fin 6) b2195 r1_2541 h2541 n0 O2544 r2541_5 r2541_4 r2541_3 r2541_1 r2541_2 g2196) e2559 (by rw [hml]; rfl) (argsL := [(.ref b2195), (.long (30 : Int64))]) (rest := []) rfl (lenOf pd__Lcom_example_usher_usher_worker_Pause_J_J rfl) rfl (W := 0) (Nat.le_of_eq rfl) (hb hby at_188) (by decide) (by decide) (by decide) (by decide) (fun T2561 h2561 v2561 L2561 X2561 e2561 q2561 => ?_)
                  obtain ⟨r1_2561, rfl, N2561q, r2561_0, r2561_1, r2561_2, r2561_3, r2561_4, r2561_5⟩ := q2561
                  have N2563 := Fr.app N2560 N2561q
                  have O2564 := Old.keep O2544 r2561_0 (allS g2196 all0)
                  have K2565 : Keep h0 h2561 [] := Keep.trans K2545 r2561_0 (allS (Or.inr z2197) all0)
                  refine W.lstoreN X2561 hx (hb hby at_191) (l' := #[.val (.int p1), .val (.int (p1 &&& (7 : Int32))), .val (.ref b2195), .val (.long (30 : Int64)), .second]) rfl ?_
                  refine W.lloadN X2561 hx (hb hby at_192) rfl ?_
                  refine W.lconst X2561 hx (hb hby at_193) (v := 0) rfl ?_
                  refine W.lcmp X2561 hx (hb hby at_194) (v := (1 : Int32)) (by decide) ?_
                  refine W.ifNo X2561 hx (hb hby at_195) (by decide) ?_
                  refine W.iconst X2561 hx (hb hby at_198) (v := 1) rfl ?_
                  refine W.goto X2561 hx (hb hby at_199) (by decide) (pc' := 203) rfl ?_
                  exact Win.retN X2561 hx hlk (t := .boolean) hret (by simp) rfl (hb hby at_203) (by decide) (by decide) (by (try rw [e2561]); exact ⟨rfl, N2563, trivial⟩)
theorem comes_1 {Post : Tables → Env → Array Value → State → Outcome → State → Prop} (hpost : ∀ tb e args s v u, (limb_1_1.after args s (.returned v) u = true ∧ limb_1_2.after args s (.returned v) u = true ∧ True) → FrameEnd s (.returned v) u (Jvm.fieldLocs frame_1_writes args s ++ Jvm.arrayLocs frame_1_arrays args s ++ Jvm.staticLocs frame_1_statics s) 272 896 → Post tb e args s (.returned v) u) :
    ArmFor flags0 classFile x code maxLocals ret World_1 tables_1 room_1 Calls_1 rest_1 Pre_1 Post := by
  intro l hfl _ hworld p e ha hc hk s m args below hf hA hF happ hP
  obtain ⟨hcalls, hrest, hpre⟩ := hP
  obtain ⟨-, -, -, hnamed, -, -, -, hat⟩ := (Spec.applies_iff hf).mp happ
  obtain ⟨hg, hn⟩ := and_e (Cond.before_iff.mp (show (Jvm.Cond.and given_1 narrow_1).before args s = true from hpre))
  obtain ⟨gc, hg⟩ := and_e hg
  obtain ⟨w0, rfl⟩ : ∃ w0 : Value, args = #[w0] := by
    have hs : args.size = 1 := by simpa [Cond.value, given_1] using gc
    obtain ⟨L⟩ := args
    match L, hs with
    | [w0], _ => exact ⟨w0, rfl⟩
  have hw := fun d (hd : d ∈ tables_1) => atoms_spec (ws := Jvm.Cond.code x code maxLocals ret :: tables_1) hat d (List.mem_cons_of_mem _ hd)
  have hfit : Fit s := fun {y c} hc i hi => by
    obtain ⟨ha, rfl⟩ := Array.getElem?_eq_some_iff.mp hc
    have q := List.all_eq_true.mp ((Array.all_eq_true_iff_forall_mem.mp hF) _ (Array.getElem_mem ha)) i (List.mem_range.mpr hi)
    simpa [Array.getElem?_eq_getElem hi] using q
  obtain ⟨hsets, hown0⟩ := atoms_of _ (rest_1_c_eq ▸ (show rest_1_c.before _ s = true from hrest))
  have hr0 := Cond.before_iff.mp hown0
  obtain ⟨i0, ei0⟩ := is_v hg
  obtain rfl : w0 = (.int i0) := Option.some.inj ei0
  obtain ⟨c0, hn⟩ := and_e hn
  obtain ⟨c1, hn⟩ := and_e hn
  obtain ⟨c2, hn⟩ := and_e hn
  obtain ⟨c3, hn⟩ := and_e hn
  obtain ⟨c4, hn⟩ := and_e hn
  have c5 := hn
  obtain ⟨w_FIRST, ev_FIRST⟩ := exa_v c0
  have E_FIRST : Exa s s.heap w_FIRST "java/time/Duration" := Exa.start ev_FIRST c0
  have S_FIRST : Sta s s.heap "com/example/usher/usher/worker/Pause" "FIRST" "Ljava/time/Duration;" (.ref w_FIRST) := Sta.start ev_FIRST (Or.inr ⟨(wk hw 2 rfl), (wk hw 10 rfl)⟩)
  obtain ⟨w_LONGEST, ev_LONGEST⟩ := exa_v c3
  have E_LONGEST : Exa s s.heap w_LONGEST "java/time/Duration" := Exa.start ev_LONGEST c3
  have S_LONGEST : Sta s s.heap "com/example/usher/usher/worker/Pause" "LONGEST" "Ljava/time/Duration;" (.ref w_LONGEST) := Sta.start ev_LONGEST (Or.inr ⟨(wk hw 2 rfl), (wk hw 298 rfl)⟩)
  have F_FIRST_seconds : Fld s s.heap w_FIRST "java/time/Duration" "seconds" "J" (.long (1 : Int64)) := Fld.start ((fld_at ev_FIRST).symm.trans (own_eq_long c1 rfl))
  have F_FIRST_nanos : Fld s s.heap w_FIRST "java/time/Duration" "nanos" "I" (.int (0 : Int32)) := Fld.start ((fld_at ev_FIRST).symm.trans (Cond.eq_int (Cond.before_iff.mpr c2) rfl))
  have F_LONGEST_seconds : Fld s s.heap w_LONGEST "java/time/Duration" "seconds" "J" (.long (30 : Int64)) := Fld.start ((fld_at ev_LONGEST).symm.trans (own_eq_long c4 rfl))
  have F_LONGEST_nanos : Fld s s.heap w_LONGEST "java/time/Duration" "nanos" "I" (.int (0 : Int32)) := Fld.start ((fld_at ev_LONGEST).symm.trans (Cond.eq_int (Cond.before_iff.mpr c5) rfl))
  have hs := fun i (d : Jvm.Cond) (hd : jdkStatics_1[i]? = some d) => hsets d (List.mem_of_getElem? hd)
  obtain ⟨zt, ev_zt⟩ := arr_v (Cond.before_iff.mp (hs 18 _ rfl))
  have S_zt : Sta s s.heap "java/math/BigDecimal" "ZERO_THROUGH_TEN" "[Ljava/math/BigDecimal;" (.ref zt) := Sta.start ev_zt (Or.inl (hs 1 _ rfl))
  obtain ⟨c_zt, A_zt⟩ := Arr.start ev_zt (Cond.before_iff.mp (hs 18 _ rfl))
  have L_zt : c_zt.slots.size = 11 := own_len A_zt ev_zt (Cond.eq_int (hs 20 _ rfl) rfl) (by decide)
  obtain ⟨d1, ev_d1⟩ := exa_v (Cond.before_iff.mp (hs 32 _ rfl))
  have e_zt_1 : c_zt.slots[1]? = some (.ref d1) := (elem_f ev_zt (Term.int_eval 1) (A_zt.fin (Vm.Alike.refl _)) (by decide)).symm.trans ev_d1
  have E_d1 : Exa s s.heap d1 "java/math/BigDecimal" := Exa.start ev_d1 (Cond.before_iff.mp (hs 32 _ rfl))
  have F_d1_scale : Fld s s.heap d1 "java/math/BigDecimal" "scale" "I" (.int 0) := Fld.start ((fld_at ev_d1).symm.trans (Cond.eq_int (hs 33 _ rfl) rfl))
  have F_d1_intCompact : Fld s s.heap d1 "java/math/BigDecimal" "intCompact" "J" (.long 1) := Fld.start ((fld_at ev_d1).symm.trans (Cond.eq_long (hs 34 _ rfl) rfl))
  obtain ⟨d2, ev_d2⟩ := exa_v (Cond.before_iff.mp (hs 42 _ rfl))
  have e_zt_2 : c_zt.slots[2]? = some (.ref d2) := (elem_f ev_zt (Term.int_eval 2) (A_zt.fin (Vm.Alike.refl _)) (by decide)).symm.trans ev_d2
  have E_d2 : Exa s s.heap d2 "java/math/BigDecimal" := Exa.start ev_d2 (Cond.before_iff.mp (hs 42 _ rfl))
  have F_d2_scale : Fld s s.heap d2 "java/math/BigDecimal" "scale" "I" (.int 0) := Fld.start ((fld_at ev_d2).symm.trans (Cond.eq_int (hs 43 _ rfl) rfl))
  have F_d2_intCompact : Fld s s.heap d2 "java/math/BigDecimal" "intCompact" "J" (.long 2) := Fld.start ((fld_at ev_d2).symm.trans (Cond.eq_long (hs 44 _ rfl) rfl))
  obtain ⟨d4, ev_d4⟩ := exa_v (Cond.before_iff.mp (hs 59 _ rfl))
  have e_zt_4 : c_zt.slots[4]? = some (.ref d4) := (elem_f ev_zt (Term.int_eval 4) (A_zt.fin (Vm.Alike.refl _)) (by decide)).symm.trans ev_d4
  have E_d4 : Exa s s.heap d4 "java/math/BigDecimal" := Exa.start ev_d4 (Cond.before_iff.mp (hs 59 _ rfl))
  have F_d4_scale : Fld s s.heap d4 "java/math/BigDecimal" "scale" "I" (.int 0) := Fld.start ((fld_at ev_d4).symm.trans (Cond.eq_int (hs 60 _ rfl) rfl))
  have F_d4_intCompact : Fld s s.heap d4 "java/math/BigDecimal" "intCompact" "J" (.long 4) := Fld.start ((fld_at ev_d4).symm.trans (Cond.eq_long (hs 61 _ rfl) rfl))
  obtain ⟨d8, ev_d8⟩ := exa_v (Cond.before_iff.mp (hs 91 _ rfl))
  have e_zt_8 : c_zt.slots[8]? = some (.ref d8) := (elem_f ev_zt (Term.int_eval 8) (A_zt.fin (Vm.Alike.refl _)) (by decide)).symm.trans ev_d8
  have E_d8 : Exa s s.heap d8 "java/math/BigDecimal" := Exa.start ev_d8 (Cond.before_iff.mp (hs 91 _ rfl))
  have F_d8_scale : Fld s s.heap d8 "java/math/BigDecimal" "scale" "I" (.int 0) := Fld.start ((fld_at ev_d8).symm.trans (Cond.eq_int (hs 92 _ rfl) rfl))
  have F_d8_intCompact : Fld s s.heap d8 "java/math/BigDecimal" "intCompact" "J" (.long 8) := Fld.start ((fld_at ev_d8).symm.trans (Cond.eq_long (hs 93 _ rfl) rfl))
  obtain ⟨zs, ev_zs⟩ := arr_v (Cond.before_iff.mp (hs 123 _ rfl))
  have S_zs : Sta s s.heap "java/math/BigDecimal" "ZERO_SCALED_BY" "[Ljava/math/BigDecimal;" (.ref zs) := Sta.start ev_zs (Or.inl (hs 118 _ rfl))
  obtain ⟨c_zs, A_zs⟩ := Arr.start ev_zs (Cond.before_iff.mp (hs 123 _ rfl))
  have L_zs : c_zs.slots.size = 16 := own_len A_zs ev_zs (Cond.eq_int (hs 125 _ rfl) rfl) (by decide)
  obtain ⟨z9, ev_z9⟩ := exa_v (Cond.before_iff.mp (hs 208 _ rfl))
  have e_zs_9 : c_zs.slots[9]? = some (.ref z9) := (elem_f ev_zs (Term.int_eval 9) (A_zs.fin (Vm.Alike.refl _)) (by decide)).symm.trans ev_z9
  have E_z9 : Exa s s.heap z9 "java/math/BigDecimal" := Exa.start ev_z9 (Cond.before_iff.mp (hs 208 _ rfl))
  have F_z9_scale : Fld s s.heap z9 "java/math/BigDecimal" "scale" "I" (.int 9) := Fld.start ((fld_at ev_z9).symm.trans (Cond.eq_int (hs 209 _ rfl) rfl))
  have F_z9_intCompact : Fld s s.heap z9 "java/math/BigDecimal" "intCompact" "J" (.long 0) := Fld.start ((fld_at ev_z9).symm.trans (Cond.eq_long (hs 210 _ rfl) rfl))
  obtain ⟨lt, ev_lt⟩ := arr_v (Cond.before_iff.mp (hs 273 _ rfl))
  have S_lt : Sta s s.heap "java/math/BigDecimal" "LONG_TEN_POWERS_TABLE" "[J" (.ref lt) := Sta.start ev_lt (Or.inl (hs 272 _ rfl))
  obtain ⟨c_lt, A_lt⟩ := Arr.start ev_lt (Cond.before_iff.mp (hs 273 _ rfl))
  have L_lt : c_lt.slots.size = 19 := own_len A_lt ev_lt (Cond.eq_int (hs 275 _ rfl) rfl) (by decide)
  have e_lt_9 : c_lt.slots[9]? = some (.long 1000000000) := (elem_f ev_lt (Term.int_eval 9) (A_lt.fin (Vm.Alike.refl _)) (by decide)).symm.trans (Cond.eq_long (hs 285 _ rfl) rfl)
  obtain ⟨th, ev_th⟩ := arr_v (Cond.before_iff.mp (hs 297 _ rfl))
  have S_th : Sta s s.heap "java/math/BigDecimal" "THRESHOLDS_TABLE" "[J" (.ref th) := Sta.start ev_th (Or.inl (hs 296 _ rfl))
  obtain ⟨c_th, A_th⟩ := Arr.start ev_th (Cond.before_iff.mp (hs 297 _ rfl))
  have L_th : c_th.slots.size = 19 := own_len A_th ev_th (Cond.eq_int (hs 299 _ rfl) rfl) (by decide)
  have e_th_9 : c_th.slots[9]? = some (.long 9223372036) := (elem_f ev_th (Term.int_eval 9) (A_th.fin (Vm.Alike.refl _)) (by decide)).symm.trans (Cond.eq_long (hs 309 _ rfl) rfl)
  obtain ⟨bn, ev_bn⟩ := exa_v (Cond.before_iff.mp (hs 321 _ rfl))
  have S_bn : Sta s s.heap "java/time/Duration" "BI_NANOS_PER_SECOND" "Ljava/math/BigInteger;" (.ref bn) := Sta.start ev_bn (Or.inl (hs 320 _ rfl))
  have E_bn : Exa s s.heap bn "java/math/BigInteger" := Exa.start ev_bn (Cond.before_iff.mp (hs 321 _ rfl))
  have F_bn_signum : Fld s s.heap bn "java/math/BigInteger" "signum" "I" (.int 1) := Fld.start ((fld_at ev_bn).symm.trans (Cond.eq_int (hs 322 _ rfl) rfl))
  obtain ⟨bm, ev_bm⟩ := arr_v (Cond.before_iff.mp (hs 323 _ rfl))
  have F_bn_mag : Fld s s.heap bn "java/math/BigInteger" "mag" "[I" (.ref bm) := Fld.start ((fld_at ev_bn).symm.trans ev_bm)
  obtain ⟨c_bm, Ar_bm⟩ := Arr.start ev_bm (Cond.before_iff.mp (hs 323 _ rfl))
  have L_bm : c_bm.slots.size = 1 := own_len Ar_bm ev_bm (Cond.eq_int (hs 325 _ rfl) rfl) (by decide)
  have A_bm : Arv s s.heap bm c_bm.cls .int (1 : Int32) [(.int 1000000000)] (.int (0 : Int32)) := Arv.start hfit Ar_bm (by rw [L_bm]; decide) (by rw [L_bm]; rfl) (by decide) rfl ⟨(elem_f ev_bm (Term.int_eval 0) (Ar_bm.fin (Vm.Alike.refl _)) (by decide)).symm.trans (Cond.eq_int (hs 326 _ rfl) rfl), trivial⟩
  obtain ⟨bz, ev_bz⟩ := exa_v (Cond.before_iff.mp (hs 329 _ rfl))
  have S_bz : Sta s s.heap "java/math/BigInteger" "ZERO" "Ljava/math/BigInteger;" (.ref bz) := Sta.start ev_bz (Or.inl (hs 5 _ rfl))
  have E_bz : Exa s s.heap bz "java/math/BigInteger" := Exa.start ev_bz (Cond.before_iff.mp (hs 329 _ rfl))
  have F_bz_signum : Fld s s.heap bz "java/math/BigInteger" "signum" "I" (.int 0) := Fld.start ((fld_at ev_bz).symm.trans (Cond.eq_int (hs 330 _ rfl) rfl))
  obtain ⟨bzm, ev_bzm⟩ := arr_v (Cond.before_iff.mp (hs 331 _ rfl))
  have F_bz_mag : Fld s s.heap bz "java/math/BigInteger" "mag" "[I" (.ref bzm) := Fld.start ((fld_at ev_bz).symm.trans ev_bzm)
  obtain ⟨c_bzm, Ar_bzm⟩ := Arr.start ev_bzm (Cond.before_iff.mp (hs 331 _ rfl))
  have L_bzm : c_bzm.slots.size = 0 := own_len Ar_bzm ev_bzm (Cond.eq_int (hs 333 _ rfl) rfl) (by decide)
  have A_bzm : Arv s s.heap bzm c_bzm.cls .int (0 : Int32) [] (.int (0 : Int32)) := Arv.start hfit Ar_bzm (by rw [L_bzm]; decide) (by rw [L_bzm]; rfl) (by decide) rfl trivial
  have SS : Stat s := ⟨(fun i => [d1, d2, d4, d8, z9, zt, zs, lt, th, bn, bm, bz, bzm, w_FIRST, w_LONGEST].getD i 0, fun i => [c_zt, c_zs, c_lt, c_th].getD i c_zt, fun i => [c_bm.cls, c_bzm.cls].getD i c_bm.cls), ⟨S_zt, A_zt, L_zt, e_zt_1, e_zt_2, e_zt_4, e_zt_8, E_d1, F_d1_scale, F_d1_intCompact, E_d2, F_d2_scale, F_d2_intCompact, E_d4, F_d4_scale, F_d4_intCompact, E_d8, F_d8_scale, F_d8_intCompact, S_zs, A_zs, L_zs, e_zs_9, E_z9, F_z9_scale, F_z9_intCompact, S_lt, A_lt, L_lt, e_lt_9, S_th, A_th, L_th, e_th_9, S_bn, E_bn, F_bn_signum, F_bn_mag, A_bm, S_bz, E_bz, F_bz_signum, F_bz_mag, A_bzm, S_FIRST, E_FIRST, F_FIRST_seconds, F_FIRST_nanos, S_LONGEST, E_LONGEST, F_LONGEST_seconds, F_LONGEST_nanos⟩⟩
  obtain ⟨n, o, h1, h2, h3, v, L, rfl, hQ, hq⟩ := rm0 l s _ hw tables_1 i0 SS s.heap s.heap.size (Old.start s)  p e ha hc hk s m _ below hf ((Spec.applies_iff_loose hf).mp happ).1 ⟨rfl, State.Warmed39.refl s, rfl⟩ trivial
  obtain ⟨rfl, N, -⟩ := hQ
  refine ⟨n, _, h1, h2, h3, hpost _ _ _ _ _ _ ⟨Cond.after_iff.mpr rfl, Cond.after_iff.mpr (eq_i res_at (Term.int_eval (1)) rfl), trivial⟩ ⟨hq.1, hq.2.1, (hq.2.2.sift fun y hy => Or.inr (N y hy)).mono (by decide) (by decide)⟩⟩
theorem main_1_1 : Claimed_1_1 := comes_1 fun _ _ _ _ _ _ h hF => ⟨h.1, hF⟩
theorem main_1_2 : Claimed_1_2 := comes_1 fun _ _ _ _ _ _ h hF => ⟨h.2.1, hF⟩
end Jvm.Pilot.@@N@@
namespace Jvm.Pilot.@@N@@
open Jvm Jvm.ClassFile Sem Op Lib Jvm.Free Jvm.Stand Jvm.Pilot.@@N@@.Jvm.D
/-! MADE BY PROGRAM (witnessworld.py) out of the Statement's table words and the real class files: 27 classes; the members and pool entries that the words name. The judged class is class 1, her method 3. -/
namespace start1
open Jvm.ClassFile
def u (s : String) : CpInfo := .utf8 (stringToUtf16 s)
/-- a pool by its gaps: so many unusable entries, then the entry; so many at the end -/
def gap : Nat → List CpInfo → List CpInfo
  | 0, r => r
  | n + 1, r => .unusable :: gap n r
def poolList (es : List (Nat × CpInfo)) (last : Nat) : List CpInfo := es.foldr (fun e r => gap e.1 (e.2 :: r)) (gap last [])
def pool (es : List (Nat × CpInfo)) (last : Nat) : Array CpInfo := ⟨poolList es last⟩
def fileOf (pool : Array CpInfo) (this : Nat) (attrs : Array Attribute := #[]) (ms : Array MethodInfo := #[]) (fl : Nat := 33) (sup : Nat := 0) (ifs : Array Nat := #[]) (fds : Array FieldInfo := #[]) : ClassFile where
  minorVersion := 0
  majorVersion := 65
  constantPool := pool
  accessFlags := fl
  thisClass := this
  superClass := sup
  interfaces := ifs
  fields := fds
  methods := ms
  attributes := attrs
def plain (name : String) (sup : Option ClassId) : Class where
  name := name
  kind := .ordinary
  loader := none
  accessFlags := 33
  super := sup
  interfaces := #[]
  cf := none
  fields := #[]
  methods := #[]
  instanceTypes := #[]
  staticTypes := #[]
  resolved := #[]
  callSites := []
  init := .initialized
  statics := none
  mirror := none

def pool0 : Array CpInfo := pool [(5, u "<init>"), (0, u "()V"), (1, .class_ 10), (1, u "java/lang/Object")] 113

def k0c0 : Code := { maxStack := 0, maxLocals := 1, code := object_method_1_code, exceptionTable := #[], attributes := #[] }
def k0m0 : Method := { name := "<init>", desc := "()V", sig := { parameters := [], returnType := none }, accessFlags := 1, code := some k0c0 }
/-- java/lang/Object -/
def k0 : Class := { plain "java/lang/Object" none with
  accessFlags := 33
  interfaces := #[]
  cf := some (fileOf pool0 8 #[] #[{ accessFlags := 1, nameIndex := 5, descriptorIndex := 6, attributes := #[] }] 33 0 #[] #[])
  fields := #[]
  methods := #[k0m0]
  instanceTypes := #[]
  staticTypes := #[]
  resolved := Array.replicate 124 none
  statics := none }

def pool1 : Array CpInfo := pool [(2, .class_ 4), (0, .nameAndType 5 6), (0, u "java/lang/Object"), (0, u "<init>"), (0, u "()V"), (0, .methodref 8 9), (0, .class_ 10), (0, .nameAndType 11 12), (0, u "com/example/usher/usher/worker/Pause"), (0, u "next"), (0, u "()Ljava/time/Duration;"), (0, .long 18446744073709551615), (1, .methodref 16 17), (0, .class_ 18), (0, .nameAndType 19 20), (0, u "java/time/Duration"), (0, u "getSeconds"), (0, u "()J"), (0, .methodref 16 22), (0, .nameAndType 23 24), (0, u "getNano"), (0, u "()I"), (0, .long 2), (1, .long 30), (1, .methodref 30 31), (0, .class_ 32), (0, .nameAndType 33 34), (0, u "java/lang/Math"), (0, u "min"), (0, u "(JJ)J"), (0, .methodref 8 36), (0, .nameAndType 37 6), (0, u "reset"), (0, .methodref 8 3), (0, .methodref 40 41), (0, .class_ 42), (0, .nameAndType 43 44), (0, u "com/example/usher/usher/worker/PauseNextPinLaw"), (0, u "maybeReset"), (0, u "(Lcom/example/usher/usher/worker/Pause;JZ)J"), (0, .methodref 40 46), (0, .nameAndType 47 48), (0, u "step"), (0, u "(Lcom/example/usher/usher/worker/Pause;J)J"), (3, u "law"), (0, u "(I)Z")] 2

def k1m0 : Method := { name := "<init>", desc := "()V", sig := { parameters := [], returnType := none }, accessFlags := 2, code := none }
def k1c1 : Code := { maxStack := 4, maxLocals := 4, code := method_2_code, exceptionTable := #[], attributes := #[] }
def k1m1 : Method := { name := "step", desc := "(Lcom/example/usher/usher/worker/Pause;J)J", sig := { parameters := [(.object "com/example/usher/usher/worker/Pause"), .long], returnType := some .long }, accessFlags := 10, code := some k1c1 }
def k1c2 : Code := { maxStack := 4, maxLocals := 4, code := method_3_code, exceptionTable := #[], attributes := #[] }
def k1m2 : Method := { name := "maybeReset", desc := "(Lcom/example/usher/usher/worker/Pause;JZ)J", sig := { parameters := [(.object "com/example/usher/usher/worker/Pause"), .long, .boolean], returnType := some .long }, accessFlags := 10, code := some k1c2 }
def k1c3 : Code := { maxStack := 5, maxLocals := 5, code := code, exceptionTable := #[], attributes := #[] }
def k1m3 : Method := { name := "law", desc := "(I)Z", sig := { parameters := [.int], returnType := some .boolean }, accessFlags := 9, code := some k1c3 }
/-- com/example/usher/usher/worker/PauseNextPinLaw -/
def k1 : Class := { plain "com/example/usher/usher/worker/PauseNextPinLaw" (some 0) with
  accessFlags := 49
  interfaces := #[]
  cf := some (fileOf pool1 40 #[] #[{ accessFlags := 2, nameIndex := 5, descriptorIndex := 6, attributes := #[] }, { accessFlags := 10, nameIndex := 47, descriptorIndex := 48, attributes := #[] }, { accessFlags := 10, nameIndex := 43, descriptorIndex := 44, attributes := #[] }, { accessFlags := 9, nameIndex := 52, descriptorIndex := 53, attributes := #[] }] 49 2 #[] #[])
  fields := #[]
  methods := #[k1m0, k1m1, k1m2, k1m3]
  instanceTypes := #[]
  staticTypes := #[]
  resolved := Array.replicate 56 none
  statics := none }

def pool2 : Array CpInfo := pool [(1, .methodref 2 3), (0, .class_ 4), (0, .nameAndType 5 6), (0, u "java/lang/Object"), (0, u "<init>"), (0, u "()V"), (0, .fieldref 8 9), (0, .class_ 10), (0, .nameAndType 11 12), (0, u "com/example/usher/usher/worker/Pause"), (0, u "FIRST"), (0, u "Ljava/time/Duration;"), (0, .fieldref 8 14), (0, .nameAndType 15 12), (0, u "next"), (0, .long 2), (1, .methodref 19 20), (0, .class_ 21), (0, .nameAndType 22 23), (0, u "java/time/Duration"), (0, u "multipliedBy"), (0, u "(J)Ljava/time/Duration;"), (0, .fieldref 8 25), (0, .nameAndType 26 12), (0, u "LONGEST"), (0, .methodref 19 28), (0, .nameAndType 29 30), (0, u "compareTo"), (0, u "(Ljava/time/Duration;)I"), (7, u "()Ljava/time/Duration;"), (1, u "reset")] 3

def k2c0 : Code := { maxStack := 2, maxLocals := 1, code := prog_45_method_1_code, exceptionTable := #[], attributes := #[] }
def k2m0 : Method := { name := "<init>", desc := "()V", sig := { parameters := [], returnType := none }, accessFlags := 0, code := some k2c0 }
def k2c1 : Code := { maxStack := 3, maxLocals := 3, code := prog_45_method_2_code, exceptionTable := #[], attributes := #[] }
def k2m1 : Method := { name := "next", desc := "()Ljava/time/Duration;", sig := { parameters := [], returnType := some (.object "java/time/Duration") }, accessFlags := 0, code := some k2c1 }
def k2c2 : Code := { maxStack := 2, maxLocals := 1, code := prog_45_method_3_code, exceptionTable := #[], attributes := #[] }
def k2m2 : Method := { name := "reset", desc := "()V", sig := { parameters := [], returnType := none }, accessFlags := 0, code := some k2c2 }
/-- com/example/usher/usher/worker/Pause -/
def k2 : Class := { plain "com/example/usher/usher/worker/Pause" (some 0) with
  accessFlags := 32
  interfaces := #[]
  cf := some (fileOf pool2 8 #[] #[{ accessFlags := 0, nameIndex := 5, descriptorIndex := 6, attributes := #[] }, { accessFlags := 0, nameIndex := 15, descriptorIndex := 38, attributes := #[] }, { accessFlags := 0, nameIndex := 40, descriptorIndex := 6, attributes := #[] }] 32 2 #[] #[{ accessFlags := 26, nameIndex := 11, descriptorIndex := 12, attributes := #[] }, { accessFlags := 26, nameIndex := 26, descriptorIndex := 12, attributes := #[] }, { accessFlags := 2, nameIndex := 15, descriptorIndex := 12, attributes := #[] }])
  fields := #[{ name := "FIRST", type := (.object "java/time/Duration"), accessFlags := 26, slot := 0, constantValue := 0 }, { name := "LONGEST", type := (.object "java/time/Duration"), accessFlags := 26, slot := 1, constantValue := 0 }, { name := "next", type := (.object "java/time/Duration"), accessFlags := 2, slot := 0, constantValue := 0 }]
  methods := #[k2m0, k2m1, k2m2]
  instanceTypes := #[(.object "java/time/Duration")]
  staticTypes := #[(.object "java/time/Duration"), (.object "java/time/Duration")]
  resolved := Array.replicate 44 none
  statics := some 0 }

def pool3 : Array CpInfo := pool [(1, .class_ 2), (0, u "java/time/temporal/TemporalAmount"), (0, .class_ 4), (0, u "java/lang/Object")] 11

/-- java/time/temporal/TemporalAmount -/
def k3 : Class := { plain "java/time/temporal/TemporalAmount" (some 0) with
  accessFlags := 1537
  interfaces := #[]
  cf := some (fileOf pool3 1 #[] #[] 1537 3 #[] #[])
  fields := #[]
  methods := #[]
  instanceTypes := #[]
  staticTypes := #[]
  resolved := Array.replicate 16 none
  statics := none }

def pool4 : Array CpInfo := pool [(1, .class_ 2), (0, u "java/lang/Comparable"), (0, .class_ 4), (0, u "java/lang/Object")] 7

/-- java/lang/Comparable -/
def k4 : Class := { plain "java/lang/Comparable" (some 0) with
  accessFlags := 1537
  interfaces := #[]
  cf := some (fileOf pool4 1 #[] #[] 1537 3 #[] #[])
  fields := #[]
  methods := #[]
  instanceTypes := #[]
  staticTypes := #[]
  resolved := Array.replicate 12 none
  statics := none }

def pool5 : Array CpInfo := pool [(1, .class_ 2), (0, u "java/io/Serializable"), (0, .class_ 4), (0, u "java/lang/Object")] 2

/-- java/io/Serializable -/
def k5 : Class := { plain "java/io/Serializable" (some 0) with
  accessFlags := 1537
  interfaces := #[]
  cf := some (fileOf pool5 1 #[] #[] 1537 3 #[] #[])
  fields := #[]
  methods := #[]
  instanceTypes := #[]
  staticTypes := #[]
  resolved := Array.replicate 7 none
  statics := none }

def pool6 : Array CpInfo := pool [(5, .class_ 7), (1, u "java/lang/Math"), (2, .methodref 11 12), (0, .class_ 13), (0, .nameAndType 14 15), (0, u "java/time/Duration"), (0, u "create"), (0, u "(JI)Ljava/time/Duration;"), (0, .long 1000000000), (1, .methodref 5 19), (0, .nameAndType 20 21), (0, u "floorDiv"), (0, u "(JJ)J"), (0, .methodref 5 23), (0, .nameAndType 24 21), (0, u "addExact"), (0, .methodref 5 26), (0, .nameAndType 27 21), (0, u "floorMod"), (6, u "ZERO"), (0, u "Ljava/time/Duration;"), (13, .class_ 51), (1, u "java/time/temporal/TemporalAmount"), (27, .class_ 81), (1, u "java/time/Duration$Lazy"), (35, u "seconds"), (21, u "<init>"), (7, .class_ 149), (1, u "java/lang/Long"), (7, .nameAndType 139 158), (0, u "()V"), (17, .methodref 11 177), (0, .nameAndType 178 179), (0, u "ofSeconds"), (0, u "(JJ)Ljava/time/Duration;"), (19, u "(J)Ljava/time/Duration;"), (15, .methodref 11 216), (0, .nameAndType 139 217), (0, u "(JI)V"), (0, .methodref 219 157), (0, .class_ 220), (0, u "java/lang/Object"), (0, .fieldref 11 222), (0, .nameAndType 117 223), (0, u "J"), (0, .fieldref 11 225), (0, .nameAndType 226 227), (0, u "nanos"), (0, u "I"), (11, .class_ 241), (1, u "java/time/Duration$DurationUnits"), (8, u "getSeconds"), (0, u "()J"), (2, u "getNano"), (0, u "()I"), (13, .class_ 271), (1, u "java/time/Duration$1"), (21, u "multipliedBy"), (15, .methodref 11 310), (0, .nameAndType 311 312), (0, u "toBigDecimalSeconds"), (0, u "()Ljava/math/BigDecimal;"), (0, .methodref 314 315), (0, .class_ 316), (0, .nameAndType 317 318), (0, u "java/math/BigDecimal"), (0, u "valueOf"), (0, u "(J)Ljava/math/BigDecimal;"), (0, .methodref 314 320), (0, .nameAndType 321 322), (0, u "multiply"), (0, u "(Ljava/math/BigDecimal;)Ljava/math/BigDecimal;"), (0, .methodref 11 324), (0, .nameAndType 14 325), (0, u "(Ljava/math/BigDecimal;)Ljava/time/Duration;"), (21, .methodref 314 348), (0, .nameAndType 317 349), (0, u "(JI)Ljava/math/BigDecimal;"), (0, .methodref 314 351), (0, .nameAndType 352 322), (0, u "add"), (0, .methodref 314 354), (0, .nameAndType 355 356), (0, u "movePointRight"), (0, u "(I)Ljava/math/BigDecimal;"), (0, .methodref 314 358), (0, .nameAndType 359 360), (0, u "toBigIntegerExact"), (0, u "()Ljava/math/BigInteger;"), (0, .fieldref 11 362), (0, .nameAndType 363 364), (0, u "BI_NANOS_PER_SECOND"), (0, u "Ljava/math/BigInteger;"), (0, .methodref 366 367), (0, .class_ 368), (0, .nameAndType 369 370), (0, u "java/math/BigInteger"), (0, u "divideAndRemainder"), (0, u "(Ljava/math/BigInteger;)[Ljava/math/BigInteger;"), (0, .methodref 366 372), (0, .nameAndType 373 255), (0, u "bitLength"), (2, .methodref 366 377), (0, .nameAndType 378 251), (0, u "longValue"), (0, .methodref 366 380), (0, .nameAndType 381 255), (0, u "intValue"), (34, .methodref 147 417), (0, .nameAndType 418 419), (0, u "compare"), (0, u "(JJ)I"), (60, u "compareTo"), (0, u "(Ljava/time/Duration;)I"), (3, .class_ 486), (0, u "java/lang/Comparable"), (0, .class_ 488), (0, u "java/io/Serializable"), (0, u "serialVersionUID")] 166

def k6c0 : Code := { maxStack := 6, maxLocals := 7, code := jdk_2316_method_5_code, exceptionTable := #[], attributes := #[] }
def k6m0 : Method := { name := "ofSeconds", desc := "(JJ)Ljava/time/Duration;", sig := { parameters := [.long, .long], returnType := some (.object "java/time/Duration") }, accessFlags := 9, code := some k6c0 }
def k6c1 : Code := { maxStack := 5, maxLocals := 3, code := jdk_2316_method_16_code, exceptionTable := #[], attributes := #[] }
def k6m1 : Method := { name := "create", desc := "(JI)Ljava/time/Duration;", sig := { parameters := [.long, .int], returnType := some (.object "java/time/Duration") }, accessFlags := 10, code := some k6c1 }
def k6c2 : Code := { maxStack := 3, maxLocals := 4, code := jdk_2316_method_17_code, exceptionTable := #[], attributes := #[] }
def k6m2 : Method := { name := "<init>", desc := "(JI)V", sig := { parameters := [.long, .int], returnType := none }, accessFlags := 2, code := some k6c2 }
def k6c3 : Code := { maxStack := 2, maxLocals := 1, code := jdk_2316_method_23_code, exceptionTable := #[], attributes := #[] }
def k6m3 : Method := { name := "getSeconds", desc := "()J", sig := { parameters := [], returnType := some .long }, accessFlags := 1, code := some k6c3 }
def k6c4 : Code := { maxStack := 1, maxLocals := 1, code := jdk_2316_method_24_code, exceptionTable := #[], attributes := #[] }
def k6m4 : Method := { name := "getNano", desc := "()I", sig := { parameters := [], returnType := some .int }, accessFlags := 1, code := some k6c4 }
def k6c5 : Code := { maxStack := 4, maxLocals := 3, code := jdk_2316_method_44_code, exceptionTable := #[], attributes := #[] }
def k6m5 : Method := { name := "multipliedBy", desc := "(J)Ljava/time/Duration;", sig := { parameters := [.long], returnType := some (.object "java/time/Duration") }, accessFlags := 1, code := some k6c5 }
def k6c6 : Code := { maxStack := 4, maxLocals := 1, code := jdk_2316_method_47_code, exceptionTable := #[], attributes := #[] }
def k6m6 : Method := { name := "toBigDecimalSeconds", desc := "()Ljava/math/BigDecimal;", sig := { parameters := [], returnType := some (.object "java/math/BigDecimal") }, accessFlags := 2, code := some k6c6 }
def k6c7 : Code := { maxStack := 4, maxLocals := 3, code := jdk_2316_method_48_code, exceptionTable := #[], attributes := #[] }
def k6m7 : Method := { name := "create", desc := "(Ljava/math/BigDecimal;)Ljava/time/Duration;", sig := { parameters := [(.object "java/math/BigDecimal")], returnType := some (.object "java/time/Duration") }, accessFlags := 10, code := some k6c7 }
def k6c8 : Code := { maxStack := 4, maxLocals := 3, code := jdk_2316_method_66_code, exceptionTable := #[], attributes := #[] }
def k6m8 : Method := { name := "compareTo", desc := "(Ljava/time/Duration;)I", sig := { parameters := [(.object "java/time/Duration")], returnType := some .int }, accessFlags := 1, code := some k6c8 }
/-- java/time/Duration -/
def k6 : Class := { plain "java/time/Duration" (some 0) with
  accessFlags := 49
  interfaces := #[3, 4, 5]
  cf := some (fileOf pool6 11 #[.nestMembers #[269, 239, 79]] #[{ accessFlags := 9, nameIndex := 178, descriptorIndex := 179, attributes := #[] }, { accessFlags := 10, nameIndex := 14, descriptorIndex := 15, attributes := #[] }, { accessFlags := 2, nameIndex := 139, descriptorIndex := 217, attributes := #[] }, { accessFlags := 1, nameIndex := 250, descriptorIndex := 251, attributes := #[] }, { accessFlags := 1, nameIndex := 254, descriptorIndex := 255, attributes := #[] }, { accessFlags := 1, nameIndex := 293, descriptorIndex := 199, attributes := #[] }, { accessFlags := 2, nameIndex := 311, descriptorIndex := 312, attributes := #[] }, { accessFlags := 10, nameIndex := 14, descriptorIndex := 325, attributes := #[] }, { accessFlags := 1, nameIndex := 480, descriptorIndex := 481, attributes := #[] }] 49 219 #[49, 485, 487] #[{ accessFlags := 25, nameIndex := 34, descriptorIndex := 35, attributes := #[] }, { accessFlags := 26, nameIndex := 489, descriptorIndex := 223, attributes := #[] }, { accessFlags := 26, nameIndex := 363, descriptorIndex := 364, attributes := #[] }, { accessFlags := 18, nameIndex := 117, descriptorIndex := 223, attributes := #[] }, { accessFlags := 18, nameIndex := 226, descriptorIndex := 227, attributes := #[] }])
  fields := #[{ name := "ZERO", type := (.object "java/time/Duration"), accessFlags := 25, slot := 0, constantValue := 0 }, { name := "serialVersionUID", type := .long, accessFlags := 26, slot := 1, constantValue := 0 }, { name := "BI_NANOS_PER_SECOND", type := (.object "java/math/BigInteger"), accessFlags := 26, slot := 2, constantValue := 0 }, { name := "seconds", type := .long, accessFlags := 18, slot := 0, constantValue := 0 }, { name := "nanos", type := .int, accessFlags := 18, slot := 1, constantValue := 0 }]
  methods := #[k6m0, k6m1, k6m2, k6m3, k6m4, k6m5, k6m6, k6m7, k6m8]
  instanceTypes := #[.long, .int]
  staticTypes := #[(.object "java/time/Duration"), .long, (.object "java/math/BigInteger")]
  resolved := Array.replicate 656 none
  statics := some 1 }

def pool7 : Array CpInfo := pool [(1, .methodref 2 3), (0, .class_ 4), (0, .nameAndType 5 6), (0, u "java/lang/Object"), (0, u "<init>"), (0, u "()V"), (1, .class_ 10), (1, u "java/lang/Number"), (2, .class_ 14), (0, u "java/io/Serializable"), (0, u "serialVersionUID"), (0, u "J")] 20

def k7c0 : Code := { maxStack := 1, maxLocals := 1, code := jdk_18_method_1_code, exceptionTable := #[], attributes := #[] }
def k7m0 : Method := { name := "<init>", desc := "()V", sig := { parameters := [], returnType := none }, accessFlags := 1, code := some k7c0 }
/-- java/lang/Number -/
def k7 : Class := { plain "java/lang/Number" (some 0) with
  accessFlags := 1057
  interfaces := #[5]
  cf := some (fileOf pool7 8 #[] #[{ accessFlags := 1, nameIndex := 5, descriptorIndex := 6, attributes := #[] }] 1057 2 #[13] #[{ accessFlags := 26, nameIndex := 15, descriptorIndex := 16, attributes := #[] }])
  fields := #[{ name := "serialVersionUID", type := .long, accessFlags := 26, slot := 0, constantValue := 0 }]
  methods := #[k7m0]
  instanceTypes := #[]
  staticTypes := #[.long]
  resolved := Array.replicate 37 none
  statics := none }

def pool8 : Array CpInfo := pool [(3, .class_ 4), (0, u "java/math/BigDecimal"), (4, .class_ 10), (0, u "java/math/BigInteger"), (0, .methodref 12 13), (0, .class_ 14), (0, .nameAndType 15 16), (0, u "java/lang/Number"), (0, u "<init>"), (0, u "()V"), (0, .fieldref 3 18), (0, .nameAndType 19 20), (0, u "scale"), (0, u "I"), (0, .fieldref 3 22), (0, .nameAndType 23 20), (0, u "precision"), (0, .fieldref 3 25), (0, .nameAndType 26 27), (0, u "intCompact"), (0, u "J"), (0, .fieldref 3 29), (0, .nameAndType 30 31), (0, u "intVal"), (0, u "Ljava/math/BigInteger;"), (63, .fieldref 3 96), (0, .nameAndType 97 98), (0, u "LONG_TEN_POWERS_TABLE"), (0, u "[J"), (16, u "(J)I"), (9, .long 9223372036854775808), (61, u "ZERO"), (2, u "INFLATED_BIGINT"), (2, .methodref 9 194), (0, .nameAndType 195 196), (0, u "valueOf"), (0, u "(J)Ljava/math/BigInteger;"), (6, u "multiply"), (2, u "TWO"), (31, u "(J)Ljava/math/BigDecimal;"), (0, .methodref 3 240), (0, .nameAndType 241 242), (0, u "zeroValueOf"), (0, u "(I)Ljava/math/BigDecimal;"), (0, .methodref 3 244), (0, .nameAndType 15 245), (0, u "(Ljava/math/BigInteger;JII)V"), (0, .fieldref 3 247), (0, .nameAndType 248 249), (0, u "ZERO_THROUGH_TEN"), (0, u "[Ljava/math/BigDecimal;"), (0, .fieldref 3 251), (0, .nameAndType 252 249), (0, u "ZERO_SCALED_BY"), (4, .methodref 3 258), (0, .nameAndType 259 260), (0, u "add"), (0, u "(JIJI)Ljava/math/BigDecimal;"), (8, u "(Ljava/math/BigDecimal;)Ljava/math/BigDecimal;"), (6, .class_ 278), (1, u "java/lang/Math"), (14, u "setScale"), (8, .methodref 3 303), (0, .nameAndType 304 305), (0, u "inflated"), (0, u "()Ljava/math/BigInteger;"), (7, u "$assertionsDisabled"), (0, u "Z"), (7, u "(JJ)J"), (2, .methodref 3 326), (0, .nameAndType 327 115), (0, u "checkScale"), (0, .methodref 3 329), (0, .nameAndType 195 330), (0, u "(JI)Ljava/math/BigDecimal;"), (11, .methodref 3 343), (0, .nameAndType 203 344), (0, u "(JJI)Ljava/math/BigDecimal;"), (74, .methodref 3 420), (0, .nameAndType 293 421), (0, u "(II)Ljava/math/BigDecimal;"), (18, .methodref 276 441), (0, .nameAndType 442 443), (0, u "abs"), (0, u "(J)J"), (34, u "ONE_TENTH"), (0, u "Ljava/math/BigDecimal;"), (5, u "TEN"), (14, .class_ 502), (1, u "java/math/BigDecimal$1"), (15, u "ONE_HALF"), (16, u "ONE"), (63, .methodref 3 600), (0, .nameAndType 601 602), (0, u "longMultiplyPowerTen"), (0, u "(JI)J"), (32, u "(JJ)I"), (7, u "stringCache"), (0, u "Ljava/lang/String;"), (52, .class_ 699), (1, u "java/math/BigDecimal$LongOverflow"), (8, u "FLOAT_10_POW"), (0, u "[F"), (39, u "DOUBLE_10_POW"), (0, u "[D"), (19, .class_ 772), (1, u "java/math/BigDecimal$StringBuilderHelper"), (35, u "BIG_TEN_POWERS_TABLE_MAX"), (2, u "BIG_TEN_POWERS_TABLE"), (0, u "[Ljava/math/BigInteger;"), (12, .fieldref 3 826), (0, .nameAndType 827 98), (0, u "THRESHOLDS_TABLE"), (23, .class_ 853), (1, u "java/math/BigDecimal$UnsafeHolder"), (140, .methodref 3 995), (0, .nameAndType 327 635), (0, .methodref 3 997), (0, .nameAndType 259 322), (2, .methodref 3 1001), (0, .nameAndType 259 344), (53, .methodref 3 1056), (0, .nameAndType 203 322), (11, u "LONGLONG_TEN_POWERS_TABLE"), (0, u "[[J"), (112, u "BIG_TEN_POWERS_TABLE_INITLEN"), (113, .class_ 1297), (0, u "java/lang/Comparable"), (0, u "L"), (0, u "D"), (1, u "P_F"), (1, u "Q_MIN_F"), (1, u "Q_MAX_F"), (1, u "P_D"), (1, u "Q_MIN_D"), (1, u "Q_MAX_D"), (1, u "INFLATED"), (0, u "MAX_COMPACT_DIGITS"), (1, u "serialVersionUID"), (2, u "HALF_LONG_MAX_VALUE"), (0, u "HALF_LONG_MIN_VALUE"), (0, u "ROUND_UP"), (6, u "ROUND_DOWN"), (1, u "ROUND_CEILING"), (1, u "ROUND_FLOOR"), (1, u "ROUND_HALF_UP"), (1, u "ROUND_HALF_DOWN"), (1, u "ROUND_HALF_EVEN"), (1, u "ROUND_UNNECESSARY"), (1, u "DIV_NUM_BASE"), (116, u "movePointRight"), (22, u "toBigIntegerExact")] 154

def k8c0 : Code := { maxStack := 3, maxLocals := 6, code := jdk_17_method_1_code, exceptionTable := #[], attributes := #[] }
def k8m0 : Method := { name := "<init>", desc := "(Ljava/math/BigInteger;JII)V", sig := { parameters := [(.object "java/math/BigInteger"), .long, .int, .int], returnType := none }, accessFlags := 0, code := some k8c0 }
def k8c1 : Code := { maxStack := 7, maxLocals := 3, code := jdk_17_method_20_code, exceptionTable := #[], attributes := #[] }
def k8m1 : Method := { name := "valueOf", desc := "(JI)Ljava/math/BigDecimal;", sig := { parameters := [.long, .int], returnType := some (.object "java/math/BigDecimal") }, accessFlags := 9, code := some k8c1 }
def k8c2 : Code := { maxStack := 7, maxLocals := 2, code := jdk_17_method_21_code, exceptionTable := #[], attributes := #[] }
def k8m2 : Method := { name := "valueOf", desc := "(J)Ljava/math/BigDecimal;", sig := { parameters := [.long], returnType := some (.object "java/math/BigDecimal") }, accessFlags := 9, code := some k8c2 }
def k8c3 : Code := { maxStack := 7, maxLocals := 1, code := jdk_17_method_24_code, exceptionTable := #[], attributes := #[] }
def k8m3 : Method := { name := "zeroValueOf", desc := "(I)Ljava/math/BigDecimal;", sig := { parameters := [.int], returnType := some (.object "java/math/BigDecimal") }, accessFlags := 8, code := some k8c3 }
def k8c4 : Code := { maxStack := 6, maxLocals := 2, code := jdk_17_method_26_code, exceptionTable := #[], attributes := #[] }
def k8m4 : Method := { name := "add", desc := "(Ljava/math/BigDecimal;)Ljava/math/BigDecimal;", sig := { parameters := [(.object "java/math/BigDecimal")], returnType := some (.object "java/math/BigDecimal") }, accessFlags := 1, code := some k8c4 }
def k8c5 : Code := { maxStack := 5, maxLocals := 3, code := jdk_17_method_31_code, exceptionTable := #[], attributes := #[] }
def k8m5 : Method := { name := "multiply", desc := "(Ljava/math/BigDecimal;)Ljava/math/BigDecimal;", sig := { parameters := [(.object "java/math/BigDecimal")], returnType := some (.object "java/math/BigDecimal") }, accessFlags := 1, code := some k8c5 }
def k8c6 : Code := { maxStack := 8, maxLocals := 8, code := jdk_17_method_64_code, exceptionTable := #[], attributes := #[] }
def k8m6 : Method := { name := "setScale", desc := "(II)Ljava/math/BigDecimal;", sig := { parameters := [.int, .int], returnType := some (.object "java/math/BigDecimal") }, accessFlags := 1, code := some k8c6 }
def k8c7 : Code := { maxStack := 7, maxLocals := 4, code := jdk_17_method_67_code, exceptionTable := #[], attributes := #[] }
def k8m7 : Method := { name := "movePointRight", desc := "(I)Ljava/math/BigDecimal;", sig := { parameters := [.int], returnType := some (.object "java/math/BigDecimal") }, accessFlags := 1, code := some k8c7 }
def k8c8 : Code := { maxStack := 3, maxLocals := 1, code := jdk_17_method_81_code, exceptionTable := #[], attributes := #[] }
def k8m8 : Method := { name := "toBigIntegerExact", desc := "()Ljava/math/BigInteger;", sig := { parameters := [], returnType := some (.object "java/math/BigInteger") }, accessFlags := 1, code := some k8c8 }
def k8c9 : Code := { maxStack := 4, maxLocals := 7, code := jdk_17_method_97_code, exceptionTable := #[], attributes := #[] }
def k8m9 : Method := { name := "longMultiplyPowerTen", desc := "(JI)J", sig := { parameters := [.long, .int], returnType := some .long }, accessFlags := 10, code := some k8c9 }
def k8c10 : Code := { maxStack := 2, maxLocals := 1, code := jdk_17_method_99_code, exceptionTable := #[], attributes := #[] }
def k8m10 : Method := { name := "inflated", desc := "()Ljava/math/BigInteger;", sig := { parameters := [], returnType := some (.object "java/math/BigInteger") }, accessFlags := 2, code := some k8c10 }
def k8c11 : Code := { maxStack := 4, maxLocals := 5, code := jdk_17_method_106_code, exceptionTable := #[], attributes := #[] }
def k8m11 : Method := { name := "checkScale", desc := "(J)I", sig := { parameters := [.long], returnType := some .int }, accessFlags := 2, code := some k8c11 }
def k8c12 : Code := { maxStack := 4, maxLocals := 5, code := jdk_17_method_113_code, exceptionTable := #[], attributes := #[] }
def k8m12 : Method := { name := "checkScale", desc := "(JJ)I", sig := { parameters := [.long, .long], returnType := some .int }, accessFlags := 10, code := some k8c12 }
def k8c13 : Code := { maxStack := 6, maxLocals := 6, code := jdk_17_method_132_code, exceptionTable := #[], attributes := #[] }
def k8m13 : Method := { name := "add", desc := "(JJ)J", sig := { parameters := [.long, .long], returnType := some .long }, accessFlags := 10, code := some k8c13 }
def k8c14 : Code := { maxStack := 5, maxLocals := 7, code := jdk_17_method_133_code, exceptionTable := #[], attributes := #[] }
def k8m14 : Method := { name := "add", desc := "(JJI)Ljava/math/BigDecimal;", sig := { parameters := [.long, .long, .int], returnType := some (.object "java/math/BigDecimal") }, accessFlags := 10, code := some k8c14 }
def k8c15 : Code := { maxStack := 7, maxLocals := 12, code := jdk_17_method_134_code, exceptionTable := #[], attributes := #[] }
def k8m15 : Method := { name := "add", desc := "(JIJI)Ljava/math/BigDecimal;", sig := { parameters := [.long, .int, .long, .int], returnType := some (.object "java/math/BigDecimal") }, accessFlags := 10, code := some k8c15 }
def k8c16 : Code := { maxStack := 4, maxLocals := 10, code := jdk_17_method_156_code, exceptionTable := #[], attributes := #[] }
def k8m16 : Method := { name := "multiply", desc := "(JJ)J", sig := { parameters := [.long, .long], returnType := some .long }, accessFlags := 10, code := some k8c16 }
def k8c17 : Code := { maxStack := 7, maxLocals := 7, code := jdk_17_method_157_code, exceptionTable := #[], attributes := #[] }
def k8m17 : Method := { name := "multiply", desc := "(JJI)Ljava/math/BigDecimal;", sig := { parameters := [.long, .long, .int], returnType := some (.object "java/math/BigDecimal") }, accessFlags := 10, code := some k8c17 }
/-- java/math/BigDecimal -/
def k8 : Class := { plain "java/math/BigDecimal" (some 7) with
  accessFlags := 33
  interfaces := #[4]
  cf := some (fileOf pool8 3 #[.nestMembers #[500, 851, 770, 697]] #[{ accessFlags := 0, nameIndex := 15, descriptorIndex := 245, attributes := #[] }, { accessFlags := 9, nameIndex := 195, descriptorIndex := 330, attributes := #[] }, { accessFlags := 9, nameIndex := 195, descriptorIndex := 238, attributes := #[] }, { accessFlags := 8, nameIndex := 241, descriptorIndex := 242, attributes := #[] }, { accessFlags := 1, nameIndex := 259, descriptorIndex := 269, attributes := #[] }, { accessFlags := 1, nameIndex := 203, descriptorIndex := 269, attributes := #[] }, { accessFlags := 1, nameIndex := 293, descriptorIndex := 421, attributes := #[] }, { accessFlags := 1, nameIndex := 1459, descriptorIndex := 242, attributes := #[] }, { accessFlags := 1, nameIndex := 1482, descriptorIndex := 305, attributes := #[] }, { accessFlags := 10, nameIndex := 601, descriptorIndex := 602, attributes := #[] }, { accessFlags := 2, nameIndex := 304, descriptorIndex := 305, attributes := #[] }, { accessFlags := 2, nameIndex := 327, descriptorIndex := 115, attributes := #[] }, { accessFlags := 10, nameIndex := 327, descriptorIndex := 635, attributes := #[] }, { accessFlags := 10, nameIndex := 259, descriptorIndex := 322, attributes := #[] }, { accessFlags := 10, nameIndex := 259, descriptorIndex := 344, attributes := #[] }, { accessFlags := 10, nameIndex := 259, descriptorIndex := 260, attributes := #[] }, { accessFlags := 10, nameIndex := 203, descriptorIndex := 322, attributes := #[] }, { accessFlags := 10, nameIndex := 203, descriptorIndex := 344, attributes := #[] }] 33 12 #[1296] #[{ accessFlags := 26, nameIndex := 1298, descriptorIndex := 1299, attributes := #[] }, { accessFlags := 26, nameIndex := 1301, descriptorIndex := 20, attributes := #[] }, { accessFlags := 26, nameIndex := 1303, descriptorIndex := 20, attributes := #[] }, { accessFlags := 26, nameIndex := 1305, descriptorIndex := 20, attributes := #[] }, { accessFlags := 26, nameIndex := 1307, descriptorIndex := 20, attributes := #[] }, { accessFlags := 26, nameIndex := 1309, descriptorIndex := 20, attributes := #[] }, { accessFlags := 26, nameIndex := 1311, descriptorIndex := 20, attributes := #[] }, { accessFlags := 18, nameIndex := 30, descriptorIndex := 31, attributes := #[] }, { accessFlags := 18, nameIndex := 19, descriptorIndex := 20, attributes := #[] }, { accessFlags := 130, nameIndex := 23, descriptorIndex := 20, attributes := #[] }, { accessFlags := 130, nameIndex := 643, descriptorIndex := 644, attributes := #[] }, { accessFlags := 24, nameIndex := 1313, descriptorIndex := 27, attributes := #[] }, { accessFlags := 26, nameIndex := 190, descriptorIndex := 31, attributes := #[] }, { accessFlags := 146, nameIndex := 26, descriptorIndex := 27, attributes := #[] }, { accessFlags := 26, nameIndex := 1314, descriptorIndex := 20, attributes := #[] }, { accessFlags := 26, nameIndex := 1316, descriptorIndex := 27, attributes := #[] }, { accessFlags := 26, nameIndex := 248, descriptorIndex := 249, attributes := #[] }, { accessFlags := 26, nameIndex := 252, descriptorIndex := 249, attributes := #[] }, { accessFlags := 26, nameIndex := 1319, descriptorIndex := 27, attributes := #[] }, { accessFlags := 26, nameIndex := 1320, descriptorIndex := 27, attributes := #[] }, { accessFlags := 25, nameIndex := 187, descriptorIndex := 479, attributes := #[] }, { accessFlags := 25, nameIndex := 535, descriptorIndex := 479, attributes := #[] }, { accessFlags := 25, nameIndex := 206, descriptorIndex := 479, attributes := #[] }, { accessFlags := 25, nameIndex := 485, descriptorIndex := 479, attributes := #[] }, { accessFlags := 26, nameIndex := 478, descriptorIndex := 479, attributes := #[] }, { accessFlags := 26, nameIndex := 518, descriptorIndex := 479, attributes := #[] }, { accessFlags := 25, nameIndex := 1321, descriptorIndex := 20, attributes := #[] }, { accessFlags := 25, nameIndex := 1328, descriptorIndex := 20, attributes := #[] }, { accessFlags := 25, nameIndex := 1330, descriptorIndex := 20, attributes := #[] }, { accessFlags := 25, nameIndex := 1332, descriptorIndex := 20, attributes := #[] }, { accessFlags := 25, nameIndex := 1334, descriptorIndex := 20, attributes := #[] }, { accessFlags := 25, nameIndex := 1336, descriptorIndex := 20, attributes := #[] }, { accessFlags := 25, nameIndex := 1338, descriptorIndex := 20, attributes := #[] }, { accessFlags := 25, nameIndex := 1340, descriptorIndex := 20, attributes := #[] }, { accessFlags := 26, nameIndex := 749, descriptorIndex := 750, attributes := #[] }, { accessFlags := 26, nameIndex := 708, descriptorIndex := 709, attributes := #[] }, { accessFlags := 26, nameIndex := 97, descriptorIndex := 98, attributes := #[] }, { accessFlags := 74, nameIndex := 811, descriptorIndex := 812, attributes := #[] }, { accessFlags := 26, nameIndex := 1182, descriptorIndex := 20, attributes := #[] }, { accessFlags := 26, nameIndex := 808, descriptorIndex := 20, attributes := #[] }, { accessFlags := 26, nameIndex := 827, descriptorIndex := 98, attributes := #[] }, { accessFlags := 26, nameIndex := 1342, descriptorIndex := 27, attributes := #[] }, { accessFlags := 26, nameIndex := 1068, descriptorIndex := 1069, attributes := #[] }, { accessFlags := 4120, nameIndex := 313, descriptorIndex := 314, attributes := #[] }])
  fields := #[{ name := "L", type := .double, accessFlags := 26, slot := 0, constantValue := 0 }, { name := "P_F", type := .int, accessFlags := 26, slot := 1, constantValue := 0 }, { name := "Q_MIN_F", type := .int, accessFlags := 26, slot := 2, constantValue := 0 }, { name := "Q_MAX_F", type := .int, accessFlags := 26, slot := 3, constantValue := 0 }, { name := "P_D", type := .int, accessFlags := 26, slot := 4, constantValue := 0 }, { name := "Q_MIN_D", type := .int, accessFlags := 26, slot := 5, constantValue := 0 }, { name := "Q_MAX_D", type := .int, accessFlags := 26, slot := 6, constantValue := 0 }, { name := "intVal", type := (.object "java/math/BigInteger"), accessFlags := 18, slot := 0, constantValue := 0 }, { name := "scale", type := .int, accessFlags := 18, slot := 1, constantValue := 0 }, { name := "precision", type := .int, accessFlags := 130, slot := 2, constantValue := 0 }, { name := "stringCache", type := (.object "java/lang/String"), accessFlags := 130, slot := 3, constantValue := 0 }, { name := "INFLATED", type := .long, accessFlags := 24, slot := 7, constantValue := 0 }, { name := "INFLATED_BIGINT", type := (.object "java/math/BigInteger"), accessFlags := 26, slot := 8, constantValue := 0 }, { name := "intCompact", type := .long, accessFlags := 146, slot := 4, constantValue := 0 }, { name := "MAX_COMPACT_DIGITS", type := .int, accessFlags := 26, slot := 9, constantValue := 0 }, { name := "serialVersionUID", type := .long, accessFlags := 26, slot := 10, constantValue := 0 }, { name := "ZERO_THROUGH_TEN", type := (.array (.object "java/math/BigDecimal")), accessFlags := 26, slot := 11, constantValue := 0 }, { name := "ZERO_SCALED_BY", type := (.array (.object "java/math/BigDecimal")), accessFlags := 26, slot := 12, constantValue := 0 }, { name := "HALF_LONG_MAX_VALUE", type := .long, accessFlags := 26, slot := 13, constantValue := 0 }, { name := "HALF_LONG_MIN_VALUE", type := .long, accessFlags := 26, slot := 14, constantValue := 0 }, { name := "ZERO", type := (.object "java/math/BigDecimal"), accessFlags := 25, slot := 15, constantValue := 0 }, { name := "ONE", type := (.object "java/math/BigDecimal"), accessFlags := 25, slot := 16, constantValue := 0 }, { name := "TWO", type := (.object "java/math/BigDecimal"), accessFlags := 25, slot := 17, constantValue := 0 }, { name := "TEN", type := (.object "java/math/BigDecimal"), accessFlags := 25, slot := 18, constantValue := 0 }, { name := "ONE_TENTH", type := (.object "java/math/BigDecimal"), accessFlags := 26, slot := 19, constantValue := 0 }, { name := "ONE_HALF", type := (.object "java/math/BigDecimal"), accessFlags := 26, slot := 20, constantValue := 0 }, { name := "ROUND_UP", type := .int, accessFlags := 25, slot := 21, constantValue := 0 }, { name := "ROUND_DOWN", type := .int, accessFlags := 25, slot := 22, constantValue := 0 }, { name := "ROUND_CEILING", type := .int, accessFlags := 25, slot := 23, constantValue := 0 }, { name := "ROUND_FLOOR", type := .int, accessFlags := 25, slot := 24, constantValue := 0 }, { name := "ROUND_HALF_UP", type := .int, accessFlags := 25, slot := 25, constantValue := 0 }, { name := "ROUND_HALF_DOWN", type := .int, accessFlags := 25, slot := 26, constantValue := 0 }, { name := "ROUND_HALF_EVEN", type := .int, accessFlags := 25, slot := 27, constantValue := 0 }, { name := "ROUND_UNNECESSARY", type := .int, accessFlags := 25, slot := 28, constantValue := 0 }, { name := "DOUBLE_10_POW", type := (.array .double), accessFlags := 26, slot := 29, constantValue := 0 }, { name := "FLOAT_10_POW", type := (.array .float), accessFlags := 26, slot := 30, constantValue := 0 }, { name := "LONG_TEN_POWERS_TABLE", type := (.array .long), accessFlags := 26, slot := 31, constantValue := 0 }, { name := "BIG_TEN_POWERS_TABLE", type := (.array (.object "java/math/BigInteger")), accessFlags := 74, slot := 32, constantValue := 0 }, { name := "BIG_TEN_POWERS_TABLE_INITLEN", type := .int, accessFlags := 26, slot := 33, constantValue := 0 }, { name := "BIG_TEN_POWERS_TABLE_MAX", type := .int, accessFlags := 26, slot := 34, constantValue := 0 }, { name := "THRESHOLDS_TABLE", type := (.array .long), accessFlags := 26, slot := 35, constantValue := 0 }, { name := "DIV_NUM_BASE", type := .long, accessFlags := 26, slot := 36, constantValue := 0 }, { name := "LONGLONG_TEN_POWERS_TABLE", type := (.array (.array .long)), accessFlags := 26, slot := 37, constantValue := 0 }, { name := "$assertionsDisabled", type := .boolean, accessFlags := 4120, slot := 38, constantValue := 0 }]
  methods := #[k8m0, k8m1, k8m2, k8m3, k8m4, k8m5, k8m6, k8m7, k8m8, k8m9, k8m10, k8m11, k8m12, k8m13, k8m14, k8m15, k8m16, k8m17]
  instanceTypes := #[(.object "java/math/BigInteger"), .int, .int, (.object "java/lang/String"), .long]
  staticTypes := #[.double, .int, .int, .int, .int, .int, .int, .long, (.object "java/math/BigInteger"), .int, .long, (.array (.object "java/math/BigDecimal")), (.array (.object "java/math/BigDecimal")), .long, .long, (.object "java/math/BigDecimal"), (.object "java/math/BigDecimal"), (.object "java/math/BigDecimal"), (.object "java/math/BigDecimal"), (.object "java/math/BigDecimal"), (.object "java/math/BigDecimal"), .int, .int, .int, .int, .int, .int, .int, .int, (.array .double), (.array .float), (.array .long), (.array (.object "java/math/BigInteger")), .int, .int, (.array .long), .long, (.array (.array .long)), .boolean]
  resolved := Array.replicate 1637 none
  statics := some 2 }

def pool9 : Array CpInfo := pool [(1, .class_ 2), (0, u "java/lang/Math"), (1, .class_ 6), (1, u "java/lang/Object"), (0, u "<init>"), (0, u "()V"), (89, .class_ 100), (1, u "java/lang/Math$RandomNumberGeneratorHolder"), (20, u "(JJ)J"), (2, u "abs"), (0, u "(J)J"), (19, u "floorDiv"), (2, u "floorMod"), (23, u "negativeZeroFloatBits"), (0, u "J"), (2, u "negativeZeroDoubleBits"), (24, u "min"), (43, u "$assertionsDisabled"), (0, u "Z"), (88, u "(II)I"), (2, u "twoToTheDoubleScaleDown"), (0, u "D"), (4, u "twoToTheDoubleScaleUp"), (9, u "E"), (3, u "PI"), (2, u "TAU"), (2, u "DEGREES_TO_RADIANS"), (0, u "RADIANS_TO_DEGREES"), (27, u "addExact")] 66

def k9m0 : Method := { name := "<init>", desc := "()V", sig := { parameters := [], returnType := none }, accessFlags := 2, code := none }
def k9c1 : Code := { maxStack := 6, maxLocals := 6, code := jdk_29_method_25_code, exceptionTable := #[], attributes := #[] }
def k9m1 : Method := { name := "addExact", desc := "(JJ)J", sig := { parameters := [.long, .long], returnType := some .long }, accessFlags := 9, code := some k9c1 }
def k9c2 : Code := { maxStack := 4, maxLocals := 6, code := jdk_29_method_49_code, exceptionTable := #[], attributes := #[] }
def k9m2 : Method := { name := "floorDiv", desc := "(JJ)J", sig := { parameters := [.long, .long], returnType := some .long }, accessFlags := 9, code := some k9c2 }
def k9c3 : Code := { maxStack := 4, maxLocals := 6, code := jdk_29_method_52_code, exceptionTable := #[], attributes := #[] }
def k9m3 : Method := { name := "floorMod", desc := "(JJ)J", sig := { parameters := [.long, .long], returnType := some .long }, accessFlags := 9, code := some k9c3 }
def k9c4 : Code := { maxStack := 4, maxLocals := 2, code := jdk_29_method_61_code, exceptionTable := #[], attributes := #[] }
def k9m4 : Method := { name := "abs", desc := "(J)J", sig := { parameters := [.long], returnType := some .long }, accessFlags := 9, code := some k9c4 }
def k9c5 : Code := { maxStack := 2, maxLocals := 2, code := jdk_29_method_69_code, exceptionTable := #[], attributes := #[] }
def k9m5 : Method := { name := "min", desc := "(II)I", sig := { parameters := [.int, .int], returnType := some .int }, accessFlags := 9, code := some k9c5 }
def k9c6 : Code := { maxStack := 4, maxLocals := 4, code := jdk_29_method_70_code, exceptionTable := #[], attributes := #[] }
def k9m6 : Method := { name := "min", desc := "(JJ)J", sig := { parameters := [.long, .long], returnType := some .long }, accessFlags := 9, code := some k9c6 }
/-- java/lang/Math -/
def k9 : Class := { plain "java/lang/Math" (some 0) with
  accessFlags := 49
  interfaces := #[]
  cf := some (fileOf pool9 1 #[.nestMembers #[98]] #[{ accessFlags := 2, nameIndex := 7, descriptorIndex := 8, attributes := #[] }, { accessFlags := 9, nameIndex := 393, descriptorIndex := 121, attributes := #[] }, { accessFlags := 9, nameIndex := 145, descriptorIndex := 121, attributes := #[] }, { accessFlags := 9, nameIndex := 148, descriptorIndex := 121, attributes := #[] }, { accessFlags := 9, nameIndex := 124, descriptorIndex := 125, attributes := #[] }, { accessFlags := 9, nameIndex := 201, descriptorIndex := 335, attributes := #[] }, { accessFlags := 9, nameIndex := 201, descriptorIndex := 121, attributes := #[] }] 49 4 #[] #[{ accessFlags := 25, nameIndex := 354, descriptorIndex := 339, attributes := #[] }, { accessFlags := 25, nameIndex := 358, descriptorIndex := 339, attributes := #[] }, { accessFlags := 25, nameIndex := 361, descriptorIndex := 339, attributes := #[] }, { accessFlags := 26, nameIndex := 364, descriptorIndex := 339, attributes := #[] }, { accessFlags := 26, nameIndex := 365, descriptorIndex := 339, attributes := #[] }, { accessFlags := 26, nameIndex := 172, descriptorIndex := 173, attributes := #[] }, { accessFlags := 26, nameIndex := 176, descriptorIndex := 173, attributes := #[] }, { accessFlags := 8, nameIndex := 344, descriptorIndex := 339, attributes := #[] }, { accessFlags := 8, nameIndex := 338, descriptorIndex := 339, attributes := #[] }, { accessFlags := 4120, nameIndex := 245, descriptorIndex := 246, attributes := #[] }])
  fields := #[{ name := "E", type := .double, accessFlags := 25, slot := 0, constantValue := 0 }, { name := "PI", type := .double, accessFlags := 25, slot := 1, constantValue := 0 }, { name := "TAU", type := .double, accessFlags := 25, slot := 2, constantValue := 0 }, { name := "DEGREES_TO_RADIANS", type := .double, accessFlags := 26, slot := 3, constantValue := 0 }, { name := "RADIANS_TO_DEGREES", type := .double, accessFlags := 26, slot := 4, constantValue := 0 }, { name := "negativeZeroFloatBits", type := .long, accessFlags := 26, slot := 5, constantValue := 0 }, { name := "negativeZeroDoubleBits", type := .long, accessFlags := 26, slot := 6, constantValue := 0 }, { name := "twoToTheDoubleScaleUp", type := .double, accessFlags := 8, slot := 7, constantValue := 0 }, { name := "twoToTheDoubleScaleDown", type := .double, accessFlags := 8, slot := 8, constantValue := 0 }, { name := "$assertionsDisabled", type := .boolean, accessFlags := 4120, slot := 9, constantValue := 0 }]
  methods := #[k9m0, k9m1, k9m2, k9m3, k9m4, k9m5, k9m6]
  instanceTypes := #[]
  staticTypes := #[.double, .double, .double, .double, .double, .long, .long, .double, .double, .boolean]
  resolved := Array.replicate 460 none
  statics := none }

def pool10 : Array CpInfo := pool [(1, .class_ 2), (0, u "java/lang/Integer"), (0, .methodref 4 5), (0, .class_ 6), (0, .nameAndType 7 8), (0, u "java/lang/Number"), (0, u "<init>"), (0, u "()V"), (14, .class_ 25), (1, u "java/math/BigInteger"), (0, u "ZERO"), (0, u "Ljava/math/BigInteger;"), (0, .fieldref 23 29), (0, .nameAndType 30 31), (0, u "mag"), (0, u "[I"), (0, .fieldref 23 33), (0, .nameAndType 34 35), (0, u "signum"), (0, u "I"), (7, .integer 67108864), (30, u "()I"), (7, u "(I)I"), (12, u "bitsPerDigit"), (0, u "[J"), (9, u "digitsPerInt"), (12, u "intRadix"), (10, .long 4294967295), (46, u "([II)V"), (2, u "SMALL_PRIME_PRODUCT"), (6, u "longValue"), (0, u "()J"), (30, u "(I)Ljava/math/BigInteger;"), (14, u "bitLength"), (2, u "valueOf"), (0, u "(J)Ljava/math/BigInteger;"), (21, u "ONE"), (6, u "TWO"), (40, u "intValue"), (2, u "$assertionsDisabled"), (0, u "Z"), (32, .long 16), (3, u "posConst"), (0, u "[Ljava/math/BigInteger;"), (4, u "negConst"), (0, .methodref 23 357), (0, .nameAndType 7 358), (0, u "(J)V"), (1, .nameAndType 7 361), (0, u "([I)V"), (110, .class_ 474), (1, u "java/math/BigInteger$RecursiveOp"), (62, u "divideKnuth"), (3, .class_ 542), (0, u "java/math/MutableBigInteger"), (0, .methodref 541 5), (0, .methodref 541 360), (3, .methodref 541 549), (0, .nameAndType 550 219), (0, u "toBigInteger"), (0, .methodref 23 552), (0, .nameAndType 553 554), (0, u "divideAndRemainderKnuth"), (0, u "(Ljava/math/BigInteger;)[Ljava/math/BigInteger;"), (3, .methodref 541 559), (0, .nameAndType 537 560), (0, u "(Ljava/math/MutableBigInteger;Ljava/math/MutableBigInteger;)Ljava/math/MutableBigInteger;"), (20, u "NEGATIVE_ONE"), (20, .methodref 1 603), (0, .nameAndType 604 82), (0, u "numberOfLeadingZeros"), (0, .methodref 23 606), (0, .nameAndType 607 82), (0, u "bitLengthForInt"), (65, u "bnExpModThreshTable"), (62, .methodref 23 737), (0, .nameAndType 738 82), (0, u "getInt"), (7, u "lowestSetBitPlusTwo"), (0, .fieldref 23 748), (0, .nameAndType 749 35), (0, u "bitLengthPlusOne"), (2, u "bitCountPlusOne"), (6, u "LOG_TWO"), (0, u "D"), (2, u "logCache"), (0, u "[D"), (13, u "NUM_ZEROS"), (2, u "ZEROS"), (0, u "Ljava/lang/String;"), (9, u "longRadix"), (5, u "digitsPerLong"), (19, u "divideAndRemainder"), (2, u "powerCache"), (0, u "[[Ljava/math/BigInteger;"), (37, .methodref 23 861), (0, .nameAndType 862 74), (0, u "signInt"), (5, u "firstNonzeroIntNumPlusTwo"), (38, .class_ 909), (1, u "java/math/BigInteger$UnsafeHolder"), (141, u "TEN"), (106, u "serialPersistentFields"), (0, u "[Ljava/io/ObjectStreamField;"), (0, .class_ 1161), (0, u "java/lang/Comparable"), (0, u "LONG_MASK"), (0, u "J"), (1, u "MAX_MAG_LENGTH"), (0, u "PRIME_SEARCH_BIT_LENGTH_LIMIT"), (1, u "KARATSUBA_THRESHOLD"), (1, u "TOOM_COOK_THRESHOLD"), (1, u "KARATSUBA_SQUARE_THRESHOLD"), (1, u "TOOM_COOK_SQUARE_THRESHOLD"), (1, u "BURNIKEL_ZIEGLER_THRESHOLD"), (0, u "BURNIKEL_ZIEGLER_OFFSET"), (1, u "SCHOENHAGE_BASE_CONVERSION_THRESHOLD"), (1, u "MULTIPLY_SQUARE_THRESHOLD"), (0, u "MONTGOMERY_INTRINSIC_THRESHOLD"), (1, u "SMALL_PRIME_THRESHOLD"), (1, u "DEFAULT_PRIME_CERTAINTY"), (1, u "MAX_CONSTANT"), (3, u "serialVersionUID"), (338, .class_ 1532), (0, u "java/math/BigInteger$RecursiveOp$RecursiveSquare"), (0, .class_ 1534), (0, u "java/math/BigInteger$RecursiveOp$RecursiveMultiply")] 7

def k10c0 : Code := { maxStack := 2, maxLocals := 3, code := jdk_2097_method_25_code, exceptionTable := #[], attributes := #[] }
def k10m0 : Method := { name := "<init>", desc := "([II)V", sig := { parameters := [(.array .int), .int], returnType := none }, accessFlags := 0, code := some k10c0 }
def k10c1 : Code := { maxStack := 4, maxLocals := 2, code := jdk_2097_method_29_code, exceptionTable := #[], attributes := #[] }
def k10m1 : Method := { name := "valueOf", desc := "(J)Ljava/math/BigInteger;", sig := { parameters := [.long], returnType := some (.object "java/math/BigInteger") }, accessFlags := 9, code := some k10c1 }
def k10c2 : Code := { maxStack := 4, maxLocals := 4, code := jdk_2097_method_30_code, exceptionTable := #[], attributes := #[] }
def k10m2 : Method := { name := "<init>", desc := "(J)V", sig := { parameters := [.long], returnType := none }, accessFlags := 2, code := some k10c2 }
def k10c3 : Code := { maxStack := 2, maxLocals := 2, code := jdk_2097_method_63_code, exceptionTable := #[], attributes := #[] }
def k10m3 : Method := { name := "divideAndRemainder", desc := "(Ljava/math/BigInteger;)[Ljava/math/BigInteger;", sig := { parameters := [(.object "java/math/BigInteger")], returnType := some (.array (.object "java/math/BigInteger")) }, accessFlags := 1, code := some k10c3 }
def k10c4 : Code := { maxStack := 5, maxLocals := 7, code := jdk_2097_method_64_code, exceptionTable := #[], attributes := #[] }
def k10m4 : Method := { name := "divideAndRemainderKnuth", desc := "(Ljava/math/BigInteger;)[Ljava/math/BigInteger;", sig := { parameters := [(.object "java/math/BigInteger")], returnType := some (.array (.object "java/math/BigInteger")) }, accessFlags := 2, code := some k10c4 }
def k10c5 : Code := { maxStack := 2, maxLocals := 1, code := jdk_2097_method_74_code, exceptionTable := #[], attributes := #[] }
def k10m5 : Method := { name := "bitLengthForInt", desc := "(I)I", sig := { parameters := [.int], returnType := some .int }, accessFlags := 8, code := some k10c5 }
def k10c6 : Code := { maxStack := 3, maxLocals := 7, code := jdk_2097_method_118_code, exceptionTable := #[], attributes := #[] }
def k10m6 : Method := { name := "bitLength", desc := "()I", sig := { parameters := [], returnType := some .int }, accessFlags := 1, code := some k10c6 }
def k10c7 : Code := { maxStack := 2, maxLocals := 2, code := jdk_2097_method_135_code, exceptionTable := #[], attributes := #[] }
def k10m7 : Method := { name := "intValue", desc := "()I", sig := { parameters := [], returnType := some .int }, accessFlags := 1, code := some k10c7 }
def k10c8 : Code := { maxStack := 6, maxLocals := 4, code := jdk_2097_method_136_code, exceptionTable := #[], attributes := #[] }
def k10m8 : Method := { name := "longValue", desc := "()J", sig := { parameters := [], returnType := some .long }, accessFlags := 1, code := some k10c8 }
def k10c9 : Code := { maxStack := 1, maxLocals := 1, code := jdk_2097_method_147_code, exceptionTable := #[], attributes := #[] }
def k10m9 : Method := { name := "signInt", desc := "()I", sig := { parameters := [], returnType := some .int }, accessFlags := 2, code := some k10c9 }
def k10c10 : Code := { maxStack := 3, maxLocals := 3, code := jdk_2097_method_148_code, exceptionTable := #[], attributes := #[] }
def k10m10 : Method := { name := "getInt", desc := "(I)I", sig := { parameters := [.int], returnType := some .int }, accessFlags := 2, code := some k10c10 }
/-- java/math/BigInteger -/
def k10 : Class := { plain "java/math/BigInteger" (some 7) with
  accessFlags := 33
  interfaces := #[4]
  cf := some (fileOf pool10 23 #[.nestMembers #[907, 472, 1531, 1533]] #[{ accessFlags := 0, nameIndex := 7, descriptorIndex := 177, attributes := #[] }, { accessFlags := 9, nameIndex := 237, descriptorIndex := 238, attributes := #[] }, { accessFlags := 2, nameIndex := 7, descriptorIndex := 358, attributes := #[] }, { accessFlags := 1, nameIndex := 818, descriptorIndex := 554, attributes := #[] }, { accessFlags := 2, nameIndex := 553, descriptorIndex := 554, attributes := #[] }, { accessFlags := 8, nameIndex := 607, descriptorIndex := 82, attributes := #[] }, { accessFlags := 1, nameIndex := 234, descriptorIndex := 74, attributes := #[] }, { accessFlags := 1, nameIndex := 308, descriptorIndex := 74, attributes := #[] }, { accessFlags := 1, nameIndex := 187, descriptorIndex := 188, attributes := #[] }, { accessFlags := 2, nameIndex := 862, descriptorIndex := 74, attributes := #[] }, { accessFlags := 2, nameIndex := 738, descriptorIndex := 82, attributes := #[] }] 33 4 #[1160] #[{ accessFlags := 16, nameIndex := 34, descriptorIndex := 35, attributes := #[] }, { accessFlags := 16, nameIndex := 30, descriptorIndex := 31, attributes := #[] }, { accessFlags := 2, nameIndex := 752, descriptorIndex := 35, attributes := #[] }, { accessFlags := 2, nameIndex := 749, descriptorIndex := 35, attributes := #[] }, { accessFlags := 2, nameIndex := 746, descriptorIndex := 35, attributes := #[] }, { accessFlags := 2, nameIndex := 868, descriptorIndex := 35, attributes := #[] }, { accessFlags := 24, nameIndex := 1162, descriptorIndex := 1163, attributes := #[] }, { accessFlags := 26, nameIndex := 1165, descriptorIndex := 35, attributes := #[] }, { accessFlags := 26, nameIndex := 1166, descriptorIndex := 35, attributes := #[] }, { accessFlags := 26, nameIndex := 1168, descriptorIndex := 35, attributes := #[] }, { accessFlags := 26, nameIndex := 1170, descriptorIndex := 35, attributes := #[] }, { accessFlags := 26, nameIndex := 1172, descriptorIndex := 35, attributes := #[] }, { accessFlags := 26, nameIndex := 1174, descriptorIndex := 35, attributes := #[] }, { accessFlags := 24, nameIndex := 1176, descriptorIndex := 35, attributes := #[] }, { accessFlags := 24, nameIndex := 1177, descriptorIndex := 35, attributes := #[] }, { accessFlags := 26, nameIndex := 1179, descriptorIndex := 35, attributes := #[] }, { accessFlags := 26, nameIndex := 1181, descriptorIndex := 35, attributes := #[] }, { accessFlags := 26, nameIndex := 1182, descriptorIndex := 35, attributes := #[] }, { accessFlags := 10, nameIndex := 95, descriptorIndex := 96, attributes := #[] }, { accessFlags := 26, nameIndex := 1184, descriptorIndex := 35, attributes := #[] }, { accessFlags := 26, nameIndex := 1186, descriptorIndex := 35, attributes := #[] }, { accessFlags := 26, nameIndex := 180, descriptorIndex := 27, attributes := #[] }, { accessFlags := 26, nameIndex := 1188, descriptorIndex := 35, attributes := #[] }, { accessFlags := 26, nameIndex := 349, descriptorIndex := 350, attributes := #[] }, { accessFlags := 26, nameIndex := 355, descriptorIndex := 350, attributes := #[] }, { accessFlags := 74, nameIndex := 821, descriptorIndex := 822, attributes := #[] }, { accessFlags := 26, nameIndex := 763, descriptorIndex := 764, attributes := #[] }, { accessFlags := 26, nameIndex := 759, descriptorIndex := 760, attributes := #[] }, { accessFlags := 25, nameIndex := 26, descriptorIndex := 27, attributes := #[] }, { accessFlags := 25, nameIndex := 260, descriptorIndex := 27, attributes := #[] }, { accessFlags := 25, nameIndex := 267, descriptorIndex := 27, attributes := #[] }, { accessFlags := 26, nameIndex := 581, descriptorIndex := 27, attributes := #[] }, { accessFlags := 25, nameIndex := 1051, descriptorIndex := 27, attributes := #[] }, { accessFlags := 8, nameIndex := 673, descriptorIndex := 31, attributes := #[] }, { accessFlags := 10, nameIndex := 778, descriptorIndex := 35, attributes := #[] }, { accessFlags := 26, nameIndex := 781, descriptorIndex := 782, attributes := #[] }, { accessFlags := 10, nameIndex := 798, descriptorIndex := 31, attributes := #[] }, { accessFlags := 10, nameIndex := 792, descriptorIndex := 350, attributes := #[] }, { accessFlags := 10, nameIndex := 106, descriptorIndex := 31, attributes := #[] }, { accessFlags := 10, nameIndex := 119, descriptorIndex := 31, attributes := #[] }, { accessFlags := 26, nameIndex := 1192, descriptorIndex := 1163, attributes := #[] }, { accessFlags := 26, nameIndex := 1158, descriptorIndex := 1159, attributes := #[] }, { accessFlags := 4120, nameIndex := 311, descriptorIndex := 312, attributes := #[] }])
  fields := #[{ name := "signum", type := .int, accessFlags := 16, slot := 0, constantValue := 0 }, { name := "mag", type := (.array .int), accessFlags := 16, slot := 1, constantValue := 0 }, { name := "bitCountPlusOne", type := .int, accessFlags := 2, slot := 2, constantValue := 0 }, { name := "bitLengthPlusOne", type := .int, accessFlags := 2, slot := 3, constantValue := 0 }, { name := "lowestSetBitPlusTwo", type := .int, accessFlags := 2, slot := 4, constantValue := 0 }, { name := "firstNonzeroIntNumPlusTwo", type := .int, accessFlags := 2, slot := 5, constantValue := 0 }, { name := "LONG_MASK", type := .long, accessFlags := 24, slot := 0, constantValue := 0 }, { name := "MAX_MAG_LENGTH", type := .int, accessFlags := 26, slot := 1, constantValue := 0 }, { name := "PRIME_SEARCH_BIT_LENGTH_LIMIT", type := .int, accessFlags := 26, slot := 2, constantValue := 0 }, { name := "KARATSUBA_THRESHOLD", type := .int, accessFlags := 26, slot := 3, constantValue := 0 }, { name := "TOOM_COOK_THRESHOLD", type := .int, accessFlags := 26, slot := 4, constantValue := 0 }, { name := "KARATSUBA_SQUARE_THRESHOLD", type := .int, accessFlags := 26, slot := 5, constantValue := 0 }, { name := "TOOM_COOK_SQUARE_THRESHOLD", type := .int, accessFlags := 26, slot := 6, constantValue := 0 }, { name := "BURNIKEL_ZIEGLER_THRESHOLD", type := .int, accessFlags := 24, slot := 7, constantValue := 0 }, { name := "BURNIKEL_ZIEGLER_OFFSET", type := .int, accessFlags := 24, slot := 8, constantValue := 0 }, { name := "SCHOENHAGE_BASE_CONVERSION_THRESHOLD", type := .int, accessFlags := 26, slot := 9, constantValue := 0 }, { name := "MULTIPLY_SQUARE_THRESHOLD", type := .int, accessFlags := 26, slot := 10, constantValue := 0 }, { name := "MONTGOMERY_INTRINSIC_THRESHOLD", type := .int, accessFlags := 26, slot := 11, constantValue := 0 }, { name := "bitsPerDigit", type := (.array .long), accessFlags := 10, slot := 12, constantValue := 0 }, { name := "SMALL_PRIME_THRESHOLD", type := .int, accessFlags := 26, slot := 13, constantValue := 0 }, { name := "DEFAULT_PRIME_CERTAINTY", type := .int, accessFlags := 26, slot := 14, constantValue := 0 }, { name := "SMALL_PRIME_PRODUCT", type := (.object "java/math/BigInteger"), accessFlags := 26, slot := 15, constantValue := 0 }, { name := "MAX_CONSTANT", type := .int, accessFlags := 26, slot := 16, constantValue := 0 }, { name := "posConst", type := (.array (.object "java/math/BigInteger")), accessFlags := 26, slot := 17, constantValue := 0 }, { name := "negConst", type := (.array (.object "java/math/BigInteger")), accessFlags := 26, slot := 18, constantValue := 0 }, { name := "powerCache", type := (.array (.array (.object "java/math/BigInteger"))), accessFlags := 74, slot := 19, constantValue := 0 }, { name := "logCache", type := (.array .double), accessFlags := 26, slot := 20, constantValue := 0 }, { name := "LOG_TWO", type := .double, accessFlags := 26, slot := 21, constantValue := 0 }, { name := "ZERO", type := (.object "java/math/BigInteger"), accessFlags := 25, slot := 22, constantValue := 0 }, { name := "ONE", type := (.object "java/math/BigInteger"), accessFlags := 25, slot := 23, constantValue := 0 }, { name := "TWO", type := (.object "java/math/BigInteger"), accessFlags := 25, slot := 24, constantValue := 0 }, { name := "NEGATIVE_ONE", type := (.object "java/math/BigInteger"), accessFlags := 26, slot := 25, constantValue := 0 }, { name := "TEN", type := (.object "java/math/BigInteger"), accessFlags := 25, slot := 26, constantValue := 0 }, { name := "bnExpModThreshTable", type := (.array .int), accessFlags := 8, slot := 27, constantValue := 0 }, { name := "NUM_ZEROS", type := .int, accessFlags := 10, slot := 28, constantValue := 0 }, { name := "ZEROS", type := (.object "java/lang/String"), accessFlags := 26, slot := 29, constantValue := 0 }, { name := "digitsPerLong", type := (.array .int), accessFlags := 10, slot := 30, constantValue := 0 }, { name := "longRadix", type := (.array (.object "java/math/BigInteger")), accessFlags := 10, slot := 31, constantValue := 0 }, { name := "digitsPerInt", type := (.array .int), accessFlags := 10, slot := 32, constantValue := 0 }, { name := "intRadix", type := (.array .int), accessFlags := 10, slot := 33, constantValue := 0 }, { name := "serialVersionUID", type := .long, accessFlags := 26, slot := 34, constantValue := 0 }, { name := "serialPersistentFields", type := (.array (.object "java/io/ObjectStreamField")), accessFlags := 26, slot := 35, constantValue := 0 }, { name := "$assertionsDisabled", type := .boolean, accessFlags := 4120, slot := 36, constantValue := 0 }]
  methods := #[k10m0, k10m1, k10m2, k10m3, k10m4, k10m5, k10m6, k10m7, k10m8, k10m9, k10m10]
  instanceTypes := #[.int, (.array .int), .int, .int, .int, .int]
  staticTypes := #[.long, .int, .int, .int, .int, .int, .int, .int, .int, .int, .int, .int, (.array .long), .int, .int, (.object "java/math/BigInteger"), .int, (.array (.object "java/math/BigInteger")), (.array (.object "java/math/BigInteger")), (.array (.array (.object "java/math/BigInteger"))), (.array .double), .double, (.object "java/math/BigInteger"), (.object "java/math/BigInteger"), (.object "java/math/BigInteger"), (.object "java/math/BigInteger"), (.object "java/math/BigInteger"), (.array .int), .int, (.object "java/lang/String"), (.array .int), (.array (.object "java/math/BigInteger")), (.array .int), (.array .int), .long, (.array (.object "java/io/ObjectStreamField")), .boolean]
  resolved := Array.replicate 1542 none
  statics := some 3 }

def pool11 : Array CpInfo := pool [(1, .class_ 2), (0, u "java/math/BigInteger"), (2, .methodref 6 7), (0, .class_ 8), (0, .nameAndType 9 10), (0, u "java/lang/Object"), (0, u "<init>"), (0, u "()V"), (0, .fieldref 12 13), (0, .class_ 14), (0, .nameAndType 15 16), (0, u "java/math/MutableBigInteger"), (0, u "offset"), (0, u "I"), (0, .fieldref 12 18), (0, .nameAndType 19 20), (0, u "value"), (0, u "[I"), (0, .fieldref 12 22), (0, .nameAndType 23 16), (0, u "intLen"), (4, .class_ 30), (1, u "java/util/Arrays"), (2, .methodref 28 34), (0, .nameAndType 35 36), (0, u "copyOfRange"), (0, u "([III)[I"), (0, .methodref 28 38), (0, .nameAndType 39 40), (0, u "fill"), (0, u "([II)V"), (2, u "$assertionsDisabled"), (0, u "Z"), (7, .long 4294967295), (1, .fieldref 1 55), (0, .nameAndType 56 57), (0, u "ZERO"), (0, u "Ljava/math/BigInteger;"), (0, .methodref 12 59), (0, .nameAndType 60 61), (0, u "getMagnitudeArray"), (0, u "()[I"), (0, .methodref 1 63), (0, .nameAndType 9 40), (0, .methodref 12 65), (0, .nameAndType 66 10), (0, u "normalize"), (6, u "toBigInteger"), (0, u "(I)Ljava/math/BigInteger;"), (13, .integer 2147483648), (1, .class_ 92), (1, u "java/lang/Integer"), (1, u "(I)I"), (47, .methodref 12 143), (0, .nameAndType 144 145), (0, u "compare"), (0, u "(Ljava/math/MutableBigInteger;)I"), (3, .methodref 12 150), (0, .nameAndType 151 10), (0, u "clear"), (0, .methodref 90 153), (0, .nameAndType 154 94), (0, u "numberOfLeadingZeros"), (7, u "(Ljava/math/MutableBigInteger;Ljava/math/MutableBigInteger;Z)Ljava/math/MutableBigInteger;"), (0, .methodref 12 164), (0, .nameAndType 165 162), (0, u "divideKnuth"), (3, u "(Ljava/math/MutableBigInteger;Ljava/math/MutableBigInteger;)Ljava/math/MutableBigInteger;"), (7, .methodref 12 7), (0, .methodref 12 179), (0, .nameAndType 180 181), (0, u "divideOneWord"), (0, u "(ILjava/math/MutableBigInteger;)I"), (75, u "ONE"), (0, u "Ljava/math/MutableBigInteger;"), (2, u "([I)V"), (149, u "KNUTH_POW2_THRESH_LEN"), (2, u "KNUTH_POW2_THRESH_ZEROS")] 175

def k11c0 : Code := { maxStack := 2, maxLocals := 1, code := jdk_2101_method_1_code, exceptionTable := #[], attributes := #[] }
def k11m0 : Method := { name := "<init>", desc := "()V", sig := { parameters := [], returnType := none }, accessFlags := 0, code := some k11c0 }
def k11c1 : Code := { maxStack := 2, maxLocals := 2, code := jdk_2101_method_3_code, exceptionTable := #[], attributes := #[] }
def k11m1 : Method := { name := "<init>", desc := "([I)V", sig := { parameters := [(.array .int)], returnType := none }, accessFlags := 0, code := some k11c1 }
def k11c2 : Code := { maxStack := 4, maxLocals := 2, code := jdk_2101_method_7_code, exceptionTable := #[], attributes := #[] }
def k11m2 : Method := { name := "getMagnitudeArray", desc := "()[I", sig := { parameters := [], returnType := some (.array .int) }, accessFlags := 2, code := some k11c2 }
def k11c3 : Code := { maxStack := 4, maxLocals := 2, code := jdk_2101_method_9_code, exceptionTable := #[], attributes := #[] }
def k11m3 : Method := { name := "toBigInteger", desc := "(I)Ljava/math/BigInteger;", sig := { parameters := [.int], returnType := some (.object "java/math/BigInteger") }, accessFlags := 0, code := some k11c3 }
def k11c4 : Code := { maxStack := 4, maxLocals := 3, code := jdk_2101_method_13_code, exceptionTable := #[], attributes := #[] }
def k11m4 : Method := { name := "clear", desc := "()V", sig := { parameters := [], returnType := none }, accessFlags := 0, code := some k11c4 }
def k11c5 : Code := { maxStack := 3, maxLocals := 8, code := jdk_2101_method_15_code, exceptionTable := #[], attributes := #[] }
def k11m5 : Method := { name := "compare", desc := "(Ljava/math/MutableBigInteger;)I", sig := { parameters := [(.object "java/math/MutableBigInteger")], returnType := some .int }, accessFlags := 16, code := some k11c5 }
def k11c6 : Code := { maxStack := 3, maxLocals := 4, code := jdk_2101_method_21_code, exceptionTable := #[], attributes := #[] }
def k11m6 : Method := { name := "normalize", desc := "()V", sig := { parameters := [], returnType := none }, accessFlags := 16, code := some k11c6 }
def k11c7 : Code := { maxStack := 6, maxLocals := 15, code := jdk_2101_method_53_code, exceptionTable := #[], attributes := #[] }
def k11m7 : Method := { name := "divideOneWord", desc := "(ILjava/math/MutableBigInteger;)I", sig := { parameters := [.int, (.object "java/math/MutableBigInteger")], returnType := some .int }, accessFlags := 0, code := some k11c7 }
def k11c8 : Code := { maxStack := 4, maxLocals := 3, code := jdk_2101_method_56_code, exceptionTable := #[], attributes := #[] }
def k11m8 : Method := { name := "divideKnuth", desc := "(Ljava/math/MutableBigInteger;Ljava/math/MutableBigInteger;)Ljava/math/MutableBigInteger;", sig := { parameters := [(.object "java/math/MutableBigInteger"), (.object "java/math/MutableBigInteger")], returnType := some (.object "java/math/MutableBigInteger") }, accessFlags := 0, code := some k11c8 }
def k11c9 : Code := { maxStack := 5, maxLocals := 8, code := jdk_2101_method_57_code, exceptionTable := #[], attributes := #[] }
def k11m9 : Method := { name := "divideKnuth", desc := "(Ljava/math/MutableBigInteger;Ljava/math/MutableBigInteger;Z)Ljava/math/MutableBigInteger;", sig := { parameters := [(.object "java/math/MutableBigInteger"), (.object "java/math/MutableBigInteger"), .boolean], returnType := some (.object "java/math/MutableBigInteger") }, accessFlags := 0, code := some k11c9 }
/-- java/math/MutableBigInteger -/
def k11 : Class := { plain "java/math/MutableBigInteger" (some 0) with
  accessFlags := 32
  interfaces := #[]
  cf := some (fileOf pool11 12 #[] #[{ accessFlags := 0, nameIndex := 9, descriptorIndex := 10, attributes := #[] }, { accessFlags := 0, nameIndex := 9, descriptorIndex := 261, attributes := #[] }, { accessFlags := 2, nameIndex := 60, descriptorIndex := 61, attributes := #[] }, { accessFlags := 0, nameIndex := 73, descriptorIndex := 74, attributes := #[] }, { accessFlags := 0, nameIndex := 151, descriptorIndex := 10, attributes := #[] }, { accessFlags := 16, nameIndex := 144, descriptorIndex := 145, attributes := #[] }, { accessFlags := 16, nameIndex := 66, descriptorIndex := 10, attributes := #[] }, { accessFlags := 0, nameIndex := 180, descriptorIndex := 181, attributes := #[] }, { accessFlags := 0, nameIndex := 165, descriptorIndex := 169, attributes := #[] }, { accessFlags := 0, nameIndex := 165, descriptorIndex := 162, attributes := #[] }] 32 6 #[] #[{ accessFlags := 0, nameIndex := 19, descriptorIndex := 20, attributes := #[] }, { accessFlags := 0, nameIndex := 23, descriptorIndex := 16, attributes := #[] }, { accessFlags := 0, nameIndex := 15, descriptorIndex := 16, attributes := #[] }, { accessFlags := 24, nameIndex := 257, descriptorIndex := 258, attributes := #[] }, { accessFlags := 24, nameIndex := 411, descriptorIndex := 16, attributes := #[] }, { accessFlags := 24, nameIndex := 414, descriptorIndex := 16, attributes := #[] }, { accessFlags := 4120, nameIndex := 43, descriptorIndex := 44, attributes := #[] }])
  fields := #[{ name := "value", type := (.array .int), accessFlags := 0, slot := 0, constantValue := 0 }, { name := "intLen", type := .int, accessFlags := 0, slot := 1, constantValue := 0 }, { name := "offset", type := .int, accessFlags := 0, slot := 2, constantValue := 0 }, { name := "ONE", type := (.object "java/math/MutableBigInteger"), accessFlags := 24, slot := 0, constantValue := 0 }, { name := "KNUTH_POW2_THRESH_LEN", type := .int, accessFlags := 24, slot := 1, constantValue := 0 }, { name := "KNUTH_POW2_THRESH_ZEROS", type := .int, accessFlags := 24, slot := 2, constantValue := 0 }, { name := "$assertionsDisabled", type := .boolean, accessFlags := 4120, slot := 3, constantValue := 0 }]
  methods := #[k11m0, k11m1, k11m2, k11m3, k11m4, k11m5, k11m6, k11m7, k11m8, k11m9]
  instanceTypes := #[(.array .int), .int, .int]
  staticTypes := #[(.object "java/math/MutableBigInteger"), .int, .int, .boolean]
  resolved := Array.replicate 590 none
  statics := none }

def pool12 : Array CpInfo := pool [(1, .class_ 2), (0, u "java/lang/constant/Constable"), (0, .class_ 4), (0, u "java/lang/Object")] 6

/-- java/lang/constant/Constable -/
def k12 : Class := { plain "java/lang/constant/Constable" (some 0) with
  accessFlags := 1537
  interfaces := #[]
  cf := some (fileOf pool12 1 #[] #[] 1537 3 #[] #[])
  fields := #[]
  methods := #[]
  instanceTypes := #[]
  staticTypes := #[]
  resolved := Array.replicate 11 none
  statics := none }

def pool13 : Array CpInfo := pool [(1, .class_ 2), (0, u "java/lang/constant/ConstantDesc"), (0, .class_ 4), (0, u "java/lang/Object")] 32

/-- java/lang/constant/ConstantDesc -/
def k13 : Class := { plain "java/lang/constant/ConstantDesc" (some 0) with
  accessFlags := 1537
  interfaces := #[]
  cf := some (fileOf pool13 1 #[] #[] 1537 3 #[] #[])
  fields := #[]
  methods := #[]
  instanceTypes := #[]
  staticTypes := #[]
  resolved := Array.replicate 37 none
  statics := none }

def pool14 : Array CpInfo := pool [(1, .class_ 2), (0, u "java/lang/Integer"), (16, u "digits"), (0, u "[C"), (32, u "numberOfLeadingZeros"), (0, u "(I)I"), (30, u "DigitOnes"), (0, u "[B"), (2, u "DigitTens"), (99, .class_ 190), (0, u "java/lang/Integer$IntegerCache"), (3, u "I"), (8, .class_ 204), (0, u "java/lang/Number"), (2, u "value"), (56, .integer 65536), (37, u "TYPE"), (0, u "Ljava/lang/Class;"), (0, .class_ 305), (0, u "java/lang/Comparable"), (0, .class_ 307), (0, u "java/lang/constant/Constable"), (0, .class_ 309), (0, u "java/lang/constant/ConstantDesc"), (0, u "MIN_VALUE"), (1, u "MAX_VALUE"), (3, u "SIZE"), (1, u "BYTES"), (1, u "serialVersionUID"), (0, u "J")] 131

def k14c0 : Code := { maxStack := 3, maxLocals := 2, code := jdk_33_method_47_code, exceptionTable := #[], attributes := #[] }
def k14m0 : Method := { name := "numberOfLeadingZeros", desc := "(I)I", sig := { parameters := [.int], returnType := some .int }, accessFlags := 9, code := some k14c0 }
/-- java/lang/Integer -/
def k14 : Class := { plain "java/lang/Integer" (some 7) with
  accessFlags := 49
  interfaces := #[4, 12, 13]
  cf := some (fileOf pool14 1 #[.nestMembers #[189]] #[{ accessFlags := 9, nameIndex := 53, descriptorIndex := 54, attributes := #[] }] 49 203 #[304, 306, 308] #[{ accessFlags := 25, nameIndex := 310, descriptorIndex := 194, attributes := #[] }, { accessFlags := 25, nameIndex := 312, descriptorIndex := 194, attributes := #[] }, { accessFlags := 25, nameIndex := 302, descriptorIndex := 303, attributes := #[] }, { accessFlags := 24, nameIndex := 19, descriptorIndex := 20, attributes := #[] }, { accessFlags := 24, nameIndex := 89, descriptorIndex := 86, attributes := #[] }, { accessFlags := 24, nameIndex := 85, descriptorIndex := 86, attributes := #[] }, { accessFlags := 18, nameIndex := 207, descriptorIndex := 194, attributes := #[] }, { accessFlags := 25, nameIndex := 316, descriptorIndex := 194, attributes := #[] }, { accessFlags := 25, nameIndex := 318, descriptorIndex := 194, attributes := #[] }, { accessFlags := 26, nameIndex := 320, descriptorIndex := 321, attributes := #[] }])
  fields := #[{ name := "MIN_VALUE", type := .int, accessFlags := 25, slot := 0, constantValue := 0 }, { name := "MAX_VALUE", type := .int, accessFlags := 25, slot := 1, constantValue := 0 }, { name := "TYPE", type := (.object "java/lang/Class"), accessFlags := 25, slot := 2, constantValue := 0 }, { name := "digits", type := (.array .char), accessFlags := 24, slot := 3, constantValue := 0 }, { name := "DigitTens", type := (.array .byte), accessFlags := 24, slot := 4, constantValue := 0 }, { name := "DigitOnes", type := (.array .byte), accessFlags := 24, slot := 5, constantValue := 0 }, { name := "value", type := .int, accessFlags := 18, slot := 0, constantValue := 0 }, { name := "SIZE", type := .int, accessFlags := 25, slot := 6, constantValue := 0 }, { name := "BYTES", type := .int, accessFlags := 25, slot := 7, constantValue := 0 }, { name := "serialVersionUID", type := .long, accessFlags := 26, slot := 8, constantValue := 0 }]
  methods := #[k14m0]
  instanceTypes := #[.int]
  staticTypes := #[.int, .int, (.object "java/lang/Class"), (.array .char), (.array .byte), (.array .byte), .int, .int, .long]
  resolved := Array.replicate 453 none
  statics := none }

def pool15 : Array CpInfo := pool [(1, .class_ 2), (0, u "java/lang/Long"), (232, .class_ 237), (1, u "java/lang/Long$LongCache"), (33, .class_ 272), (0, u "java/lang/Number"), (2, u "value"), (0, u "J"), (27, u "compare"), (0, u "(JJ)I"), (55, u "TYPE"), (0, u "Ljava/lang/Class;"), (0, .class_ 364), (0, u "java/lang/Comparable"), (0, .class_ 366), (0, u "java/lang/constant/Constable"), (0, .class_ 368), (0, u "java/lang/constant/ConstantDesc"), (0, u "MIN_VALUE"), (1, u "MAX_VALUE"), (4, u "SIZE"), (0, u "I"), (1, u "BYTES"), (1, u "serialVersionUID")] 142

def k15c0 : Code := { maxStack := 4, maxLocals := 4, code := jdk_35_method_42_code, exceptionTable := #[], attributes := #[] }
def k15m0 : Method := { name := "compare", desc := "(JJ)I", sig := { parameters := [.long, .long], returnType := some .int }, accessFlags := 9, code := some k15c0 }
/-- java/lang/Long -/
def k15 : Class := { plain "java/lang/Long" (some 7) with
  accessFlags := 49
  interfaces := #[4, 12, 13]
  cf := some (fileOf pool15 1 #[.nestMembers #[235]] #[{ accessFlags := 9, nameIndex := 304, descriptorIndex := 305, attributes := #[] }] 49 271 #[363, 365, 367] #[{ accessFlags := 25, nameIndex := 369, descriptorIndex := 276, attributes := #[] }, { accessFlags := 25, nameIndex := 371, descriptorIndex := 276, attributes := #[] }, { accessFlags := 25, nameIndex := 361, descriptorIndex := 362, attributes := #[] }, { accessFlags := 18, nameIndex := 275, descriptorIndex := 276, attributes := #[] }, { accessFlags := 25, nameIndex := 376, descriptorIndex := 377, attributes := #[] }, { accessFlags := 25, nameIndex := 379, descriptorIndex := 377, attributes := #[] }, { accessFlags := 26, nameIndex := 381, descriptorIndex := 276, attributes := #[] }])
  fields := #[{ name := "MIN_VALUE", type := .long, accessFlags := 25, slot := 0, constantValue := 0 }, { name := "MAX_VALUE", type := .long, accessFlags := 25, slot := 1, constantValue := 0 }, { name := "TYPE", type := (.object "java/lang/Class"), accessFlags := 25, slot := 2, constantValue := 0 }, { name := "value", type := .long, accessFlags := 18, slot := 0, constantValue := 0 }, { name := "SIZE", type := .int, accessFlags := 25, slot := 3, constantValue := 0 }, { name := "BYTES", type := .int, accessFlags := 25, slot := 4, constantValue := 0 }, { name := "serialVersionUID", type := .long, accessFlags := 26, slot := 5, constantValue := 0 }]
  methods := #[k15m0]
  instanceTypes := #[.long]
  staticTypes := #[.long, .long, (.object "java/lang/Class"), .int, .int, .long]
  resolved := Array.replicate 524 none
  statics := none }

def pool16 : Array CpInfo := pool [(2, .class_ 4), (1, u "java/lang/Object"), (0, u "<init>"), (0, u "()V"), (7, .class_ 16), (1, u "java/util/Arrays"), (57, .class_ 76), (1, u "java/util/Arrays$NaturalOrder"), (36, .class_ 115), (1, u "java/util/Arrays$LegacyMergeSort"), (1, u "Z"), (21, u "copyOfRange"), (10, .methodref 151 152), (0, .class_ 153), (0, .nameAndType 154 155), (0, u "java/lang/System"), (0, u "arraycopy"), (0, u "(Ljava/lang/Object;ILjava/lang/Object;II)V"), (148, .methodref 305 306), (0, .class_ 307), (0, .nameAndType 308 309), (0, u "java/lang/Math"), (0, u "min"), (0, u "(II)I"), (33, .methodref 14 344), (0, .nameAndType 345 346), (0, u "checkLength"), (0, u "(II)V"), (4, .methodref 14 352), (0, .nameAndType 353 354), (0, u "copyOfRangeInt"), (0, u "([III)[I"), (20, .class_ 376), (0, u "java/util/Arrays$ArrayList"), (68, u "$assertionsDisabled"), (269, u "MIN_ARRAY_SORT_GRAN"), (0, u "I"), (2, u "INSERTIONSORT_THRESHOLD"), (120, u "fill"), (4, u "([II)V"), (129, .class_ 976), (0, u "java/util/Arrays$ArrayItr")] 52

def k16m0 : Method := { name := "<init>", desc := "()V", sig := { parameters := [], returnType := none }, accessFlags := 2, code := none }
def k16c1 : Code := { maxStack := 3, maxLocals := 4, code := jdk_65_method_103_code, exceptionTable := #[], attributes := #[] }
def k16m1 : Method := { name := "fill", desc := "([II)V", sig := { parameters := [(.array .int), .int], returnType := none }, accessFlags := 9, code := some k16c1 }
def k16c2 : Code := { maxStack := 4, maxLocals := 2, code := jdk_65_method_131_code, exceptionTable := #[], attributes := #[] }
def k16m2 : Method := { name := "checkLength", desc := "(II)V", sig := { parameters := [.int, .int], returnType := none }, accessFlags := 10, code := some k16c2 }
def k16c3 : Code := { maxStack := 3, maxLocals := 3, code := jdk_65_method_136_code, exceptionTable := #[], attributes := #[] }
def k16m3 : Method := { name := "copyOfRange", desc := "([III)[I", sig := { parameters := [(.array .int), .int, .int], returnType := some (.array .int) }, accessFlags := 9, code := some k16c3 }
def k16c4 : Code := { maxStack := 6, maxLocals := 5, code := jdk_65_method_137_code, exceptionTable := #[], attributes := #[] }
def k16m4 : Method := { name := "copyOfRangeInt", desc := "([III)[I", sig := { parameters := [(.array .int), .int, .int], returnType := some (.array .int) }, accessFlags := 10, code := some k16c4 }
/-- java/util/Arrays -/
def k16 : Class := { plain "java/util/Arrays" (some 0) with
  accessFlags := 49
  interfaces := #[]
  cf := some (fileOf pool16 14 #[.nestMembers #[975, 375, 113, 74]] #[{ accessFlags := 2, nameIndex := 5, descriptorIndex := 6, attributes := #[] }, { accessFlags := 9, nameIndex := 840, descriptorIndex := 845, attributes := #[] }, { accessFlags := 10, nameIndex := 345, descriptorIndex := 346, attributes := #[] }, { accessFlags := 9, nameIndex := 139, descriptorIndex := 354, attributes := #[] }, { accessFlags := 10, nameIndex := 353, descriptorIndex := 354, attributes := #[] }] 49 2 #[] #[{ accessFlags := 26, nameIndex := 715, descriptorIndex := 716, attributes := #[] }, { accessFlags := 26, nameIndex := 719, descriptorIndex := 716, attributes := #[] }, { accessFlags := 4120, nameIndex := 445, descriptorIndex := 117, attributes := #[] }])
  fields := #[{ name := "MIN_ARRAY_SORT_GRAN", type := .int, accessFlags := 26, slot := 0, constantValue := 0 }, { name := "INSERTIONSORT_THRESHOLD", type := .int, accessFlags := 26, slot := 1, constantValue := 0 }, { name := "$assertionsDisabled", type := .boolean, accessFlags := 4120, slot := 2, constantValue := 0 }]
  methods := #[k16m0, k16m1, k16m2, k16m3, k16m4]
  instanceTypes := #[]
  staticTypes := #[.int, .int, .boolean]
  resolved := Array.replicate 1029 none
  statics := none }

def pool17 : Array CpInfo := pool [(2, .class_ 4), (1, u "java/lang/Object"), (0, u "<init>"), (0, u "()V"), (1, .class_ 10), (1, u "java/lang/System"), (0, u "allowSecurityManager"), (0, u "I"), (16, u "cons"), (0, u "Ljava/io/Console;"), (77, .class_ 110), (1, u "java/lang/System$CallersHolder"), (43, u "initialErrStream"), (0, u "Ljava/io/PrintStream;"), (19, u "security"), (0, u "Ljava/lang/SecurityManager;"), (31, .class_ 209), (0, u "java/lang/System$1"), (7, u "props"), (0, u "Ljava/util/Properties;"), (2, u "lineSeparator"), (0, u "Ljava/lang/String;"), (96, .class_ 321), (1, u "java/lang/System$LoggerFinder"), (5, .class_ 328), (0, u "java/lang/System$Logger"), (67, u "err"), (2, u "out"), (91, u "notSupportedJnuEncoding"), (15, u "in"), (17, u "initialIn"), (0, u "Ljava/io/InputStream;"), (35, u "bootLayer"), (0, u "Ljava/lang/ModuleLayer;"), (99, .class_ 664), (0, u "java/lang/System$2"), (9, u "NEVER"), (2, u "MAYBE"), (49, u "arraycopy"), (0, u "(Ljava/lang/Object;ILjava/lang/Object;II)V"), (72, .class_ 802), (0, u "java/lang/System$Logger$Level")] 31

def k17m0 : Method := { name := "<init>", desc := "()V", sig := { parameters := [], returnType := none }, accessFlags := 2, code := none }
def k17m1 : Method := { name := "arraycopy", desc := "(Ljava/lang/Object;ILjava/lang/Object;II)V", sig := { parameters := [(.object "java/lang/Object"), .int, (.object "java/lang/Object"), .int, .int], returnType := none }, accessFlags := 265, code := none }
/-- java/lang/System -/
def k17 : Class := { plain "java/lang/System" (some 0) with
  accessFlags := 49
  interfaces := #[]
  cf := some (fileOf pool17 8 #[.nestMembers #[319, 327, 801, 108, 663, 208]] #[{ accessFlags := 2, nameIndex := 5, descriptorIndex := 6, attributes := #[] }, { accessFlags := 265, nameIndex := 727, descriptorIndex := 728, attributes := #[] }] 49 2 #[] #[{ accessFlags := 25, nameIndex := 507, descriptorIndex := 526, attributes := #[] }, { accessFlags := 25, nameIndex := 399, descriptorIndex := 155, attributes := #[] }, { accessFlags := 25, nameIndex := 396, descriptorIndex := 155, attributes := #[] }, { accessFlags := 10, nameIndex := 525, descriptorIndex := 526, attributes := #[] }, { accessFlags := 26, nameIndex := 674, descriptorIndex := 12, attributes := #[] }, { accessFlags := 26, nameIndex := 677, descriptorIndex := 12, attributes := #[] }, { accessFlags := 10, nameIndex := 11, descriptorIndex := 12, attributes := #[] }, { accessFlags := 74, nameIndex := 175, descriptorIndex := 176, attributes := #[] }, { accessFlags := 10, nameIndex := 491, descriptorIndex := 222, attributes := #[] }, { accessFlags := 74, nameIndex := 29, descriptorIndex := 30, attributes := #[] }, { accessFlags := 74, nameIndex := 154, descriptorIndex := 155, attributes := #[] }, { accessFlags := 10, nameIndex := 217, descriptorIndex := 218, attributes := #[] }, { accessFlags := 10, nameIndex := 221, descriptorIndex := 222, attributes := #[] }, { accessFlags := 8, nameIndex := 562, descriptorIndex := 563, attributes := #[] }])
  fields := #[{ name := "in", type := (.object "java/io/InputStream"), accessFlags := 25, slot := 0, constantValue := 0 }, { name := "out", type := (.object "java/io/PrintStream"), accessFlags := 25, slot := 1, constantValue := 0 }, { name := "err", type := (.object "java/io/PrintStream"), accessFlags := 25, slot := 2, constantValue := 0 }, { name := "initialIn", type := (.object "java/io/InputStream"), accessFlags := 10, slot := 3, constantValue := 0 }, { name := "NEVER", type := .int, accessFlags := 26, slot := 4, constantValue := 0 }, { name := "MAYBE", type := .int, accessFlags := 26, slot := 5, constantValue := 0 }, { name := "allowSecurityManager", type := .int, accessFlags := 10, slot := 6, constantValue := 0 }, { name := "security", type := (.object "java/lang/SecurityManager"), accessFlags := 74, slot := 7, constantValue := 0 }, { name := "notSupportedJnuEncoding", type := (.object "java/lang/String"), accessFlags := 10, slot := 8, constantValue := 0 }, { name := "cons", type := (.object "java/io/Console"), accessFlags := 74, slot := 9, constantValue := 0 }, { name := "initialErrStream", type := (.object "java/io/PrintStream"), accessFlags := 74, slot := 10, constantValue := 0 }, { name := "props", type := (.object "java/util/Properties"), accessFlags := 10, slot := 11, constantValue := 0 }, { name := "lineSeparator", type := (.object "java/lang/String"), accessFlags := 10, slot := 12, constantValue := 0 }, { name := "bootLayer", type := (.object "java/lang/ModuleLayer"), accessFlags := 8, slot := 13, constantValue := 0 }]
  methods := #[k17m0, k17m1]
  instanceTypes := #[]
  staticTypes := #[(.object "java/io/InputStream"), (.object "java/io/PrintStream"), (.object "java/io/PrintStream"), (.object "java/io/InputStream"), .int, .int, .int, (.object "java/lang/SecurityManager"), (.object "java/lang/String"), (.object "java/io/Console"), (.object "java/io/PrintStream"), (.object "java/util/Properties"), (.object "java/lang/String"), (.object "java/lang/ModuleLayer")]
  resolved := Array.replicate 834 none
  statics := none }

def pool18 : Array CpInfo := pool [(1, u "java/lang/Cloneable"), (0, .class_ 1), (0, u "java/lang/Object"), (0, .class_ 3)] 3

/-- java/lang/Cloneable -/
def k18 : Class := { plain "java/lang/Cloneable" (some 0) with
  accessFlags := 1537
  interfaces := #[]
  cf := some (fileOf pool18 2 #[] #[] 1537 4 #[] #[])
  fields := #[]
  methods := #[]
  instanceTypes := #[]
  staticTypes := #[]
  resolved := Array.replicate 8 none
  statics := none }

/-- the primitive byte -/
def k19 : Class := { plain "byte" none with kind := .primitive 'B', accessFlags := 0x411 }
/-- [B -/
def k20 : Class := { plain "[B" (some 0) with kind := .array 19 .byte, interfaces := #[18, 5], accessFlags := 1041 }

/-- the primitive int -/
def k21 : Class := { plain "int" none with kind := .primitive 'I', accessFlags := 0x411 }
/-- [I -/
def k22 : Class := { plain "[I" (some 0) with kind := .array 21 .int, interfaces := #[18, 5], accessFlags := 1041 }

/-- the primitive long -/
def k23 : Class := { plain "long" none with kind := .primitive 'J', accessFlags := 0x411 }
/-- [J -/
def k24 : Class := { plain "[J" (some 0) with kind := .array 23 .long, interfaces := #[18, 5], accessFlags := 1041 }

/-- [Ljava/math/BigDecimal; -/
def k25 : Class := { plain "[Ljava/math/BigDecimal;" (some 0) with kind := .array 8 (.object "java/math/BigDecimal"), interfaces := #[18, 5], accessFlags := 1041 }

/-- [Ljava/math/BigInteger; -/
def k26 : Class := { plain "[Ljava/math/BigInteger;" (some 0) with kind := .array 10 (.object "java/math/BigInteger"), interfaces := #[18, 5], accessFlags := 1041 }

def heap : Heap := #[{ cls := 2, slots := #[.ref 56, .ref 57], vm := .statics 2 },
  { cls := 6, slots := #[.null, .long 0, .ref 54], vm := .statics 6 },
  { cls := 8, slots := #[.double 0, .int 0, .int 0, .int 0, .int 0, .int 0, .int 0, .long 0, .null, .int 0, .long 0, .ref 4, .ref 5, .long 0, .long 0, .ref 6, .ref 7, .ref 8, .ref 16, .null, .null, .int 0, .int 0, .int 0, .int 0, .int 0, .int 0, .int 0, .int 0, .null, .null, .ref 58, .null, .int 0, .int 0, .ref 59, .long 0, .null, .int 0], vm := .statics 8 },
  { cls := 10, slots := #[.long 0, .int 0, .int 0, .int 0, .int 0, .int 0, .int 0, .int 0, .int 0, .int 0, .int 0, .int 0, .null, .int 0, .int 0, .null, .int 0, .null, .null, .null, .null, .double 0, .ref 17, .ref 18, .ref 19, .null, .ref 27, .null, .int 0, .null, .null, .null, .null, .null, .long 0, .null, .int 0], vm := .statics 10 },
  { cls := 25, slots := #[.ref 6, .ref 7, .ref 8, .ref 9, .ref 10, .ref 11, .ref 12, .ref 13, .ref 14, .ref 15, .ref 16], vm := .none },
  { cls := 25, slots := #[.ref 6, .ref 39, .ref 40, .ref 41, .ref 42, .ref 43, .ref 44, .ref 45, .ref 46, .ref 47, .ref 48, .ref 49, .ref 50, .ref 51, .ref 52, .ref 53], vm := .none },
  { cls := 8, slots := #[.ref 17, .int 0, .int 0, .null, .long 0], vm := .none },
  { cls := 8, slots := #[.ref 18, .int 0, .int 0, .null, .long 1], vm := .none },
  { cls := 8, slots := #[.ref 19, .int 0, .int 0, .null, .long 2], vm := .none },
  { cls := 8, slots := #[.ref 20, .int 0, .int 0, .null, .long 3], vm := .none },
  { cls := 8, slots := #[.ref 21, .int 0, .int 0, .null, .long 4], vm := .none },
  { cls := 8, slots := #[.ref 22, .int 0, .int 0, .null, .long 5], vm := .none },
  { cls := 8, slots := #[.ref 23, .int 0, .int 0, .null, .long 6], vm := .none },
  { cls := 8, slots := #[.ref 24, .int 0, .int 0, .null, .long 7], vm := .none },
  { cls := 8, slots := #[.ref 25, .int 0, .int 0, .null, .long 8], vm := .none },
  { cls := 8, slots := #[.ref 26, .int 0, .int 0, .null, .long 9], vm := .none },
  { cls := 8, slots := #[.ref 27, .int 0, .int 0, .null, .long 10], vm := .none },
  { cls := 10, slots := #[.int 0, .ref 28, .int 0, .int 0, .int 0, .int 0], vm := .none },
  { cls := 10, slots := #[.int 1, .ref 29, .int 0, .int 0, .int 0, .int 0], vm := .none },
  { cls := 10, slots := #[.int 1, .ref 30, .int 0, .int 0, .int 0, .int 0], vm := .none },
  { cls := 10, slots := #[.int 1, .ref 31, .int 0, .int 0, .int 0, .int 0], vm := .none },
  { cls := 10, slots := #[.int 1, .ref 32, .int 0, .int 0, .int 0, .int 0], vm := .none },
  { cls := 10, slots := #[.int 1, .ref 33, .int 0, .int 0, .int 0, .int 0], vm := .none },
  { cls := 10, slots := #[.int 1, .ref 34, .int 0, .int 0, .int 0, .int 0], vm := .none },
  { cls := 10, slots := #[.int 1, .ref 35, .int 0, .int 0, .int 0, .int 0], vm := .none },
  { cls := 10, slots := #[.int 1, .ref 36, .int 0, .int 0, .int 0, .int 0], vm := .none },
  { cls := 10, slots := #[.int 1, .ref 37, .int 0, .int 0, .int 0, .int 0], vm := .none },
  { cls := 10, slots := #[.int 1, .ref 38, .int 0, .int 0, .int 0, .int 0], vm := .none },
  { cls := 22, slots := #[], vm := .none },
  { cls := 22, slots := #[.int 1], vm := .none },
  { cls := 22, slots := #[.int 2], vm := .none },
  { cls := 22, slots := #[.int 3], vm := .none },
  { cls := 22, slots := #[.int 4], vm := .none },
  { cls := 22, slots := #[.int 5], vm := .none },
  { cls := 22, slots := #[.int 6], vm := .none },
  { cls := 22, slots := #[.int 7], vm := .none },
  { cls := 22, slots := #[.int 8], vm := .none },
  { cls := 22, slots := #[.int 9], vm := .none },
  { cls := 22, slots := #[.int 10], vm := .none },
  { cls := 8, slots := #[.ref 17, .int 1, .int 0, .null, .long 0], vm := .none },
  { cls := 8, slots := #[.ref 17, .int 2, .int 0, .null, .long 0], vm := .none },
  { cls := 8, slots := #[.ref 17, .int 3, .int 0, .null, .long 0], vm := .none },
  { cls := 8, slots := #[.ref 17, .int 4, .int 0, .null, .long 0], vm := .none },
  { cls := 8, slots := #[.ref 17, .int 5, .int 0, .null, .long 0], vm := .none },
  { cls := 8, slots := #[.ref 17, .int 6, .int 0, .null, .long 0], vm := .none },
  { cls := 8, slots := #[.ref 17, .int 7, .int 0, .null, .long 0], vm := .none },
  { cls := 8, slots := #[.ref 17, .int 8, .int 0, .null, .long 0], vm := .none },
  { cls := 8, slots := #[.ref 17, .int 9, .int 0, .null, .long 0], vm := .none },
  { cls := 8, slots := #[.ref 17, .int 10, .int 0, .null, .long 0], vm := .none },
  { cls := 8, slots := #[.ref 17, .int 11, .int 0, .null, .long 0], vm := .none },
  { cls := 8, slots := #[.ref 17, .int 12, .int 0, .null, .long 0], vm := .none },
  { cls := 8, slots := #[.ref 17, .int 13, .int 0, .null, .long 0], vm := .none },
  { cls := 8, slots := #[.ref 17, .int 14, .int 0, .null, .long 0], vm := .none },
  { cls := 8, slots := #[.ref 17, .int 15, .int 0, .null, .long 0], vm := .none },
  { cls := 10, slots := #[.int 1, .ref 55, .int 0, .int 0, .int 0, .int 0], vm := .none },
  { cls := 22, slots := #[.int 1000000000], vm := .none },
  { cls := 6, slots := #[.long 1, .int 0], vm := .none },
  { cls := 6, slots := #[.long 30, .int 0], vm := .none },
  { cls := 24, slots := #[.long 1, .long 10, .long 100, .long 1000, .long 10000, .long 100000, .long 1000000, .long 10000000, .long 100000000, .long 1000000000, .long 10000000000, .long 100000000000, .long 1000000000000, .long 10000000000000, .long 100000000000000, .long 1000000000000000, .long 10000000000000000, .long 100000000000000000, .long 1000000000000000000], vm := .none },
  { cls := 24, slots := #[.long 9223372036854775807, .long 922337203685477580, .long 92233720368547758, .long 9223372036854775, .long 922337203685477, .long 92233720368547, .long 9223372036854, .long 922337203685, .long 92233720368, .long 9223372036, .long 922337203, .long 92233720, .long 9223372, .long 922337, .long 92233, .long 9223, .long 922, .long 92, .long 9], vm := .none }]
def classes : Array Class := #[k0, k1, k2, k3, k4, k5, k6, k7, k8, k9, k10, k11, k12, k13, k14, k15, k16, k17, k18, k19, k20, k21, k22, k23, k24, k25, k26]
def interned : List (Array UInt16 × Addr) := []
def slotsUsed : Nat := 363
def theMethod : MethodId := ⟨1, 3⟩
def args0 : Array Value := #[.int 5]
def aboutOver (below : List Frame) : State where
  vm := { classes := classes, interned := interned.toArray }
  heap := heap
  slotsUsed := slotsUsed
  threads := #[{ frames := .invoking theMethod args0 :: below }]
def below0 : List Frame := [.native { method := ⟨0, 0⟩, args := #[] }]
def about1 : State := aboutOver below0
def p0 : Program := .bare "" "" ""
def e0 : Env := launch0.env 0 0 0
theorem w_frames : about1.frames = Frame.invoking theMethod args0 :: below0 := rfl
set_option maxRecDepth 65536 in
theorem w_args : argsFit about1.vm theMethod args0 = true := by decide +kernel
set_option maxRecDepth 65536 in
theorem w_heap : heapFits about1 = true := by decide +kernel
set_option maxRecDepth 65536 in
theorem w_runnable : about1.curStatus? = some .runnable := by decide +kernel
set_option maxRecDepth 65536 in
theorem w_alone : about1.alone = true := by decide +kernel
set_option maxRecDepth 65536 in
theorem w_named : about1.methodNamed? x = some theMethod := by decide +kernel
set_option maxRecDepth 65536 in
theorem w_hears : about1.hears theMethod below0 = true := by decide +kernel
set_option maxRecDepth 65536 in
theorem w_ripe : about1.ripe theMethod args0 below0 = true := by decide +kernel
theorem w_running : about1.status = .running := rfl
set_option maxRecDepth 65536 in
theorem w_room : about1.hasRoom e0.platform room_1 = true :=
  launch0.hasRoom_least _ room_1 (by decide +kernel) (by decide +kernel) (by decide +kernel) (by decide +kernel) (by decide +kernel) (by decide +kernel)
theorem allAtoms_all (ts : List Jvm.Cond) (a : Array Jvm.Value) (st : Jvm.State) : (allAtoms ts).before a st = ts.all (fun c => c.before a st) := by
  induction ts with
  | nil => rfl
  | cons c t ih =>
    show (Jvm.Cond.and c (allAtoms t)).before a st = _
    rw [Jvm.Cond.before_and, ih, List.all_cons]
def words1 : List Jvm.Cond := Jvm.Cond.code x code maxLocals ret :: tables_1
/-- a 'code' word, met by the world's own term for the bytes: nothing is compared byte by byte -/
theorem code_word {y : MethodName} {bytes : ByteArray} {mx : Nat} {rt : Option FieldType} {a : Array Value} {s : State} {m : MethodId} {meth : Method} {c : Code} (h1 : s.methodNamed? y = some m) (h2 : s.vm.method? m = some meth) (h3 : meth.code = some c) (h4 : c.code = bytes)
    (h5 : (c.maxLocals == mx && c.exceptionTable.isEmpty && decide (c.maxStack ≤ mostOperands) && decide (meth.sig.returnType = rt) && !meth.locks && decide (parseMethodDescriptor y.desc = some meth.sig)) = true) : (Jvm.Cond.code y bytes mx rt).before a s = true := by
  simp only [Bool.and_eq_true, beq_iff_eq, Bool.not_eq_true', decide_eq_true_eq] at h5
  obtain ⟨⟨⟨⟨⟨g1, g2⟩, g3⟩, g4⟩, g5⟩, g6⟩ := h5
  simp [Cond.before, Cond.holds, Cond.value, h1, h2, h3, h4, g1, g2, g3, g4, g5, g6]
def isCode : Jvm.Cond → Bool
  | .code _ _ _ _ => true
  | _ => false
theorem all_split {L : List Jvm.Cond} {P : Jvm.Cond → Bool} (h1 : L.all (fun c => isCode c || P c) = true) (h2 : ∀ c ∈ L.filter isCode, P c = true) : L.all P = true := by
  refine List.all_eq_true.mpr fun c hc => ?_
  have h := List.all_eq_true.mp h1 c hc
  rcases Bool.eq_false_or_eq_true (isCode c) with hi | hi
  · exact h2 c (List.mem_filter.mpr ⟨hc, hi⟩)
  · simpa [hi] using h
set_option maxRecDepth 65536 in
theorem w_c0 : (Jvm.Cond.code x code maxLocals ret).before args0 about1 = true := code_word (m := ⟨1, 3⟩) (meth := k1m3) (c := k1c3) (by decide +kernel) rfl rfl rfl (by decide +kernel)
set_option maxRecDepth 65536 in
theorem w_c1 : (Jvm.Cond.code ({ cls := "com/example/usher/usher/worker/Pause", name := "<init>", desc := "()V" } : Jvm.MethodName) prog_45_method_1_code (1 : Nat) (Option.none : Option Jvm.ClassFile.FieldType)).before args0 about1 = true := code_word (m := ⟨2, 0⟩) (meth := k2m0) (c := k2c0) (by decide +kernel) rfl rfl rfl (by decide +kernel)
set_option maxRecDepth 65536 in
theorem w_c2 : (Jvm.Cond.code ({ cls := "java/lang/Object", name := "<init>", desc := "()V" } : Jvm.MethodName) object_method_1_code (1 : Nat) (Option.none : Option Jvm.ClassFile.FieldType)).before args0 about1 = true := code_word (m := ⟨0, 0⟩) (meth := k0m0) (c := k0c0) (by decide +kernel) rfl rfl rfl (by decide +kernel)
set_option maxRecDepth 65536 in
theorem w_c3 : (Jvm.Cond.code ({ cls := "com/example/usher/usher/worker/PauseNextPinLaw", name := "maybeReset", desc := "(Lcom/example/usher/usher/worker/Pause;JZ)J" } : Jvm.MethodName) method_3_code (4 : Nat) (Option.some Jvm.ClassFile.FieldType.long)).before args0 about1 = true := code_word (m := ⟨1, 2⟩) (meth := k1m2) (c := k1c2) (by decide +kernel) rfl rfl rfl (by decide +kernel)
set_option maxRecDepth 65536 in
theorem w_c4 : (Jvm.Cond.code ({ cls := "com/example/usher/usher/worker/Pause", name := "reset", desc := "()V" } : Jvm.MethodName) prog_45_method_3_code (1 : Nat) (Option.none : Option Jvm.ClassFile.FieldType)).before args0 about1 = true := code_word (m := ⟨2, 2⟩) (meth := k2m2) (c := k2c2) (by decide +kernel) rfl rfl rfl (by decide +kernel)
set_option maxRecDepth 65536 in
theorem w_c5 : (Jvm.Cond.code ({ cls := "com/example/usher/usher/worker/PauseNextPinLaw", name := "step", desc := "(Lcom/example/usher/usher/worker/Pause;J)J" } : Jvm.MethodName) method_2_code (4 : Nat) (Option.some Jvm.ClassFile.FieldType.long)).before args0 about1 = true := code_word (m := ⟨1, 1⟩) (meth := k1m1) (c := k1c1) (by decide +kernel) rfl rfl rfl (by decide +kernel)
set_option maxRecDepth 65536 in
theorem w_c6 : (Jvm.Cond.code ({ cls := "com/example/usher/usher/worker/Pause", name := "next", desc := "()Ljava/time/Duration;" } : Jvm.MethodName) prog_45_method_2_code (3 : Nat) (Option.some (Jvm.ClassFile.FieldType.object "java/time/Duration"))).before args0 about1 = true := code_word (m := ⟨2, 1⟩) (meth := k2m1) (c := k2c1) (by decide +kernel) rfl rfl rfl (by decide +kernel)
set_option maxRecDepth 65536 in
theorem w_c7 : (Jvm.Cond.code ({ cls := "java/time/Duration", name := "multipliedBy", desc := "(J)Ljava/time/Duration;" } : Jvm.MethodName) jdk_2316_method_44_code (3 : Nat) (Option.some (Jvm.ClassFile.FieldType.object "java/time/Duration"))).before args0 about1 = true := code_word (m := ⟨6, 5⟩) (meth := k6m5) (c := k6c5) (by decide +kernel) rfl rfl rfl (by decide +kernel)
set_option maxRecDepth 65536 in
theorem w_c8 : (Jvm.Cond.code ({ cls := "java/time/Duration", name := "toBigDecimalSeconds", desc := "()Ljava/math/BigDecimal;" } : Jvm.MethodName) jdk_2316_method_47_code (1 : Nat) (Option.some (Jvm.ClassFile.FieldType.object "java/math/BigDecimal"))).before args0 about1 = true := code_word (m := ⟨6, 6⟩) (meth := k6m6) (c := k6c6) (by decide +kernel) rfl rfl rfl (by decide +kernel)
set_option maxRecDepth 65536 in
theorem w_c9 : (Jvm.Cond.code ({ cls := "java/math/BigDecimal", name := "valueOf", desc := "(J)Ljava/math/BigDecimal;" } : Jvm.MethodName) jdk_17_method_21_code (2 : Nat) (Option.some (Jvm.ClassFile.FieldType.object "java/math/BigDecimal"))).before args0 about1 = true := code_word (m := ⟨8, 2⟩) (meth := k8m2) (c := k8c2) (by decide +kernel) rfl rfl rfl (by decide +kernel)
set_option maxRecDepth 65536 in
theorem w_c10 : (Jvm.Cond.code ({ cls := "java/math/BigDecimal", name := "valueOf", desc := "(JI)Ljava/math/BigDecimal;" } : Jvm.MethodName) jdk_17_method_20_code (3 : Nat) (Option.some (Jvm.ClassFile.FieldType.object "java/math/BigDecimal"))).before args0 about1 = true := code_word (m := ⟨8, 1⟩) (meth := k8m1) (c := k8c1) (by decide +kernel) rfl rfl rfl (by decide +kernel)
set_option maxRecDepth 65536 in
theorem w_c11 : (Jvm.Cond.code ({ cls := "java/math/BigDecimal", name := "zeroValueOf", desc := "(I)Ljava/math/BigDecimal;" } : Jvm.MethodName) jdk_17_method_24_code (1 : Nat) (Option.some (Jvm.ClassFile.FieldType.object "java/math/BigDecimal"))).before args0 about1 = true := code_word (m := ⟨8, 3⟩) (meth := k8m3) (c := k8c3) (by decide +kernel) rfl rfl rfl (by decide +kernel)
set_option maxRecDepth 65536 in
theorem w_c12 : (Jvm.Cond.code ({ cls := "java/math/BigDecimal", name := "add", desc := "(Ljava/math/BigDecimal;)Ljava/math/BigDecimal;" } : Jvm.MethodName) jdk_17_method_26_code (2 : Nat) (Option.some (Jvm.ClassFile.FieldType.object "java/math/BigDecimal"))).before args0 about1 = true := code_word (m := ⟨8, 4⟩) (meth := k8m4) (c := k8c4) (by decide +kernel) rfl rfl rfl (by decide +kernel)
set_option maxRecDepth 65536 in
theorem w_c13 : (Jvm.Cond.code ({ cls := "java/math/BigDecimal", name := "add", desc := "(JIJI)Ljava/math/BigDecimal;" } : Jvm.MethodName) jdk_17_method_134_code (12 : Nat) (Option.some (Jvm.ClassFile.FieldType.object "java/math/BigDecimal"))).before args0 about1 = true := code_word (m := ⟨8, 15⟩) (meth := k8m15) (c := k8c15) (by decide +kernel) rfl rfl rfl (by decide +kernel)
set_option maxRecDepth 65536 in
theorem w_c14 : (Jvm.Cond.code ({ cls := "java/math/BigDecimal", name := "checkScale", desc := "(JJ)I" } : Jvm.MethodName) jdk_17_method_113_code (5 : Nat) (Option.some Jvm.ClassFile.FieldType.int)).before args0 about1 = true := code_word (m := ⟨8, 12⟩) (meth := k8m12) (c := k8c12) (by decide +kernel) rfl rfl rfl (by decide +kernel)
set_option maxRecDepth 65536 in
theorem w_c15 : (Jvm.Cond.code ({ cls := "java/math/BigDecimal", name := "longMultiplyPowerTen", desc := "(JI)J" } : Jvm.MethodName) jdk_17_method_97_code (7 : Nat) (Option.some Jvm.ClassFile.FieldType.long)).before args0 about1 = true := code_word (m := ⟨8, 9⟩) (meth := k8m9) (c := k8c9) (by decide +kernel) rfl rfl rfl (by decide +kernel)
set_option maxRecDepth 65536 in
theorem w_c16 : (Jvm.Cond.code ({ cls := "java/math/BigDecimal", name := "add", desc := "(JJI)Ljava/math/BigDecimal;" } : Jvm.MethodName) jdk_17_method_133_code (7 : Nat) (Option.some (Jvm.ClassFile.FieldType.object "java/math/BigDecimal"))).before args0 about1 = true := code_word (m := ⟨8, 14⟩) (meth := k8m14) (c := k8c14) (by decide +kernel) rfl rfl rfl (by decide +kernel)
set_option maxRecDepth 65536 in
theorem w_c17 : (Jvm.Cond.code ({ cls := "java/math/BigDecimal", name := "add", desc := "(JJ)J" } : Jvm.MethodName) jdk_17_method_132_code (6 : Nat) (Option.some Jvm.ClassFile.FieldType.long)).before args0 about1 = true := code_word (m := ⟨8, 13⟩) (meth := k8m13) (c := k8c13) (by decide +kernel) rfl rfl rfl (by decide +kernel)
set_option maxRecDepth 65536 in
theorem w_c18 : (Jvm.Cond.code ({ cls := "java/math/BigDecimal", name := "<init>", desc := "(Ljava/math/BigInteger;JII)V" } : Jvm.MethodName) jdk_17_method_1_code (6 : Nat) (Option.none : Option Jvm.ClassFile.FieldType)).before args0 about1 = true := code_word (m := ⟨8, 0⟩) (meth := k8m0) (c := k8c0) (by decide +kernel) rfl rfl rfl (by decide +kernel)
set_option maxRecDepth 65536 in
theorem w_c19 : (Jvm.Cond.code ({ cls := "java/lang/Number", name := "<init>", desc := "()V" } : Jvm.MethodName) jdk_18_method_1_code (1 : Nat) (Option.none : Option Jvm.ClassFile.FieldType)).before args0 about1 = true := code_word (m := ⟨7, 0⟩) (meth := k7m0) (c := k7c0) (by decide +kernel) rfl rfl rfl (by decide +kernel)
set_option maxRecDepth 65536 in
theorem w_c20 : (Jvm.Cond.code ({ cls := "java/math/BigDecimal", name := "multiply", desc := "(Ljava/math/BigDecimal;)Ljava/math/BigDecimal;" } : Jvm.MethodName) jdk_17_method_31_code (3 : Nat) (Option.some (Jvm.ClassFile.FieldType.object "java/math/BigDecimal"))).before args0 about1 = true := code_word (m := ⟨8, 5⟩) (meth := k8m5) (c := k8c5) (by decide +kernel) rfl rfl rfl (by decide +kernel)
set_option maxRecDepth 65536 in
theorem w_c21 : (Jvm.Cond.code ({ cls := "java/math/BigDecimal", name := "checkScale", desc := "(J)I" } : Jvm.MethodName) jdk_17_method_106_code (5 : Nat) (Option.some Jvm.ClassFile.FieldType.int)).before args0 about1 = true := code_word (m := ⟨8, 11⟩) (meth := k8m11) (c := k8c11) (by decide +kernel) rfl rfl rfl (by decide +kernel)
set_option maxRecDepth 65536 in
theorem w_c22 : (Jvm.Cond.code ({ cls := "java/math/BigDecimal", name := "multiply", desc := "(JJI)Ljava/math/BigDecimal;" } : Jvm.MethodName) jdk_17_method_157_code (7 : Nat) (Option.some (Jvm.ClassFile.FieldType.object "java/math/BigDecimal"))).before args0 about1 = true := code_word (m := ⟨8, 17⟩) (meth := k8m17) (c := k8c17) (by decide +kernel) rfl rfl rfl (by decide +kernel)
set_option maxRecDepth 65536 in
theorem w_c23 : (Jvm.Cond.code ({ cls := "java/math/BigDecimal", name := "multiply", desc := "(JJ)J" } : Jvm.MethodName) jdk_17_method_156_code (10 : Nat) (Option.some Jvm.ClassFile.FieldType.long)).before args0 about1 = true := code_word (m := ⟨8, 16⟩) (meth := k8m16) (c := k8c16) (by decide +kernel) rfl rfl rfl (by decide +kernel)
set_option maxRecDepth 65536 in
theorem w_c24 : (Jvm.Cond.code ({ cls := "java/lang/Math", name := "abs", desc := "(J)J" } : Jvm.MethodName) jdk_29_method_61_code (2 : Nat) (Option.some Jvm.ClassFile.FieldType.long)).before args0 about1 = true := code_word (m := ⟨9, 4⟩) (meth := k9m4) (c := k9c4) (by decide +kernel) rfl rfl rfl (by decide +kernel)
set_option maxRecDepth 65536 in
theorem w_c25 : (Jvm.Cond.code ({ cls := "java/time/Duration", name := "create", desc := "(Ljava/math/BigDecimal;)Ljava/time/Duration;" } : Jvm.MethodName) jdk_2316_method_48_code (3 : Nat) (Option.some (Jvm.ClassFile.FieldType.object "java/time/Duration"))).before args0 about1 = true := code_word (m := ⟨6, 7⟩) (meth := k6m7) (c := k6c7) (by decide +kernel) rfl rfl rfl (by decide +kernel)
set_option maxRecDepth 65536 in
theorem w_c26 : (Jvm.Cond.code ({ cls := "java/math/BigDecimal", name := "movePointRight", desc := "(I)Ljava/math/BigDecimal;" } : Jvm.MethodName) jdk_17_method_67_code (4 : Nat) (Option.some (Jvm.ClassFile.FieldType.object "java/math/BigDecimal"))).before args0 about1 = true := code_word (m := ⟨8, 7⟩) (meth := k8m7) (c := k8c7) (by decide +kernel) rfl rfl rfl (by decide +kernel)
set_option maxRecDepth 65536 in
theorem w_c27 : (Jvm.Cond.code ({ cls := "java/math/BigDecimal", name := "toBigIntegerExact", desc := "()Ljava/math/BigInteger;" } : Jvm.MethodName) jdk_17_method_81_code (1 : Nat) (Option.some (Jvm.ClassFile.FieldType.object "java/math/BigInteger"))).before args0 about1 = true := code_word (m := ⟨8, 8⟩) (meth := k8m8) (c := k8c8) (by decide +kernel) rfl rfl rfl (by decide +kernel)
set_option maxRecDepth 65536 in
theorem w_c28 : (Jvm.Cond.code ({ cls := "java/math/BigDecimal", name := "setScale", desc := "(II)Ljava/math/BigDecimal;" } : Jvm.MethodName) jdk_17_method_64_code (8 : Nat) (Option.some (Jvm.ClassFile.FieldType.object "java/math/BigDecimal"))).before args0 about1 = true := code_word (m := ⟨8, 6⟩) (meth := k8m6) (c := k8c6) (by decide +kernel) rfl rfl rfl (by decide +kernel)
set_option maxRecDepth 65536 in
theorem w_c29 : (Jvm.Cond.code ({ cls := "java/math/BigDecimal", name := "inflated", desc := "()Ljava/math/BigInteger;" } : Jvm.MethodName) jdk_17_method_99_code (1 : Nat) (Option.some (Jvm.ClassFile.FieldType.object "java/math/BigInteger"))).before args0 about1 = true := code_word (m := ⟨8, 10⟩) (meth := k8m10) (c := k8c10) (by decide +kernel) rfl rfl rfl (by decide +kernel)
set_option maxRecDepth 65536 in
theorem w_c30 : (Jvm.Cond.code ({ cls := "java/math/BigInteger", name := "valueOf", desc := "(J)Ljava/math/BigInteger;" } : Jvm.MethodName) jdk_2097_method_29_code (2 : Nat) (Option.some (Jvm.ClassFile.FieldType.object "java/math/BigInteger"))).before args0 about1 = true := code_word (m := ⟨10, 1⟩) (meth := k10m1) (c := k10c1) (by decide +kernel) rfl rfl rfl (by decide +kernel)
set_option maxRecDepth 65536 in
theorem w_c31 : (Jvm.Cond.code ({ cls := "java/math/BigInteger", name := "<init>", desc := "(J)V" } : Jvm.MethodName) jdk_2097_method_30_code (4 : Nat) (Option.none : Option Jvm.ClassFile.FieldType)).before args0 about1 = true := code_word (m := ⟨10, 2⟩) (meth := k10m2) (c := k10c2) (by decide +kernel) rfl rfl rfl (by decide +kernel)
set_option maxRecDepth 65536 in
theorem w_c32 : (Jvm.Cond.code ({ cls := "java/math/BigInteger", name := "divideAndRemainder", desc := "(Ljava/math/BigInteger;)[Ljava/math/BigInteger;" } : Jvm.MethodName) jdk_2097_method_63_code (2 : Nat) (Option.some (Jvm.ClassFile.FieldType.array (Jvm.ClassFile.FieldType.object "java/math/BigInteger")))).before args0 about1 = true := code_word (m := ⟨10, 3⟩) (meth := k10m3) (c := k10c3) (by decide +kernel) rfl rfl rfl (by decide +kernel)
set_option maxRecDepth 65536 in
theorem w_c33 : (Jvm.Cond.code ({ cls := "java/math/BigInteger", name := "divideAndRemainderKnuth", desc := "(Ljava/math/BigInteger;)[Ljava/math/BigInteger;" } : Jvm.MethodName) jdk_2097_method_64_code (7 : Nat) (Option.some (Jvm.ClassFile.FieldType.array (Jvm.ClassFile.FieldType.object "java/math/BigInteger")))).before args0 about1 = true := code_word (m := ⟨10, 4⟩) (meth := k10m4) (c := k10c4) (by decide +kernel) rfl rfl rfl (by decide +kernel)
set_option maxRecDepth 65536 in
theorem w_c34 : (Jvm.Cond.code ({ cls := "java/math/MutableBigInteger", name := "<init>", desc := "()V" } : Jvm.MethodName) jdk_2101_method_1_code (1 : Nat) (Option.none : Option Jvm.ClassFile.FieldType)).before args0 about1 = true := code_word (m := ⟨11, 0⟩) (meth := k11m0) (c := k11c0) (by decide +kernel) rfl rfl rfl (by decide +kernel)
set_option maxRecDepth 65536 in
theorem w_c35 : (Jvm.Cond.code ({ cls := "java/math/MutableBigInteger", name := "<init>", desc := "([I)V" } : Jvm.MethodName) jdk_2101_method_3_code (2 : Nat) (Option.none : Option Jvm.ClassFile.FieldType)).before args0 about1 = true := code_word (m := ⟨11, 1⟩) (meth := k11m1) (c := k11c1) (by decide +kernel) rfl rfl rfl (by decide +kernel)
set_option maxRecDepth 65536 in
theorem w_c36 : (Jvm.Cond.code ({ cls := "java/math/MutableBigInteger", name := "divideKnuth", desc := "(Ljava/math/MutableBigInteger;Ljava/math/MutableBigInteger;)Ljava/math/MutableBigInteger;" } : Jvm.MethodName) jdk_2101_method_56_code (3 : Nat) (Option.some (Jvm.ClassFile.FieldType.object "java/math/MutableBigInteger"))).before args0 about1 = true := code_word (m := ⟨11, 8⟩) (meth := k11m8) (c := k11c8) (by decide +kernel) rfl rfl rfl (by decide +kernel)
set_option maxRecDepth 65536 in
theorem w_c37 : (Jvm.Cond.code ({ cls := "java/math/MutableBigInteger", name := "divideKnuth", desc := "(Ljava/math/MutableBigInteger;Ljava/math/MutableBigInteger;Z)Ljava/math/MutableBigInteger;" } : Jvm.MethodName) jdk_2101_method_57_code (8 : Nat) (Option.some (Jvm.ClassFile.FieldType.object "java/math/MutableBigInteger"))).before args0 about1 = true := code_word (m := ⟨11, 9⟩) (meth := k11m9) (c := k11c9) (by decide +kernel) rfl rfl rfl (by decide +kernel)
set_option maxRecDepth 65536 in
theorem w_c38 : (Jvm.Cond.code ({ cls := "java/math/MutableBigInteger", name := "compare", desc := "(Ljava/math/MutableBigInteger;)I" } : Jvm.MethodName) jdk_2101_method_15_code (8 : Nat) (Option.some Jvm.ClassFile.FieldType.int)).before args0 about1 = true := code_word (m := ⟨11, 5⟩) (meth := k11m5) (c := k11c5) (by decide +kernel) rfl rfl rfl (by decide +kernel)
set_option maxRecDepth 65536 in
theorem w_c39 : (Jvm.Cond.code ({ cls := "java/math/MutableBigInteger", name := "clear", desc := "()V" } : Jvm.MethodName) jdk_2101_method_13_code (3 : Nat) (Option.none : Option Jvm.ClassFile.FieldType)).before args0 about1 = true := code_word (m := ⟨11, 4⟩) (meth := k11m4) (c := k11c4) (by decide +kernel) rfl rfl rfl (by decide +kernel)
set_option maxRecDepth 65536 in
theorem w_c40 : (Jvm.Cond.code ({ cls := "java/math/MutableBigInteger", name := "divideOneWord", desc := "(ILjava/math/MutableBigInteger;)I" } : Jvm.MethodName) jdk_2101_method_53_code (15 : Nat) (Option.some Jvm.ClassFile.FieldType.int)).before args0 about1 = true := code_word (m := ⟨11, 7⟩) (meth := k11m7) (c := k11c7) (by decide +kernel) rfl rfl rfl (by decide +kernel)
set_option maxRecDepth 65536 in
theorem w_c41 : (Jvm.Cond.code ({ cls := "java/math/MutableBigInteger", name := "toBigInteger", desc := "(I)Ljava/math/BigInteger;" } : Jvm.MethodName) jdk_2101_method_9_code (2 : Nat) (Option.some (Jvm.ClassFile.FieldType.object "java/math/BigInteger"))).before args0 about1 = true := code_word (m := ⟨11, 3⟩) (meth := k11m3) (c := k11c3) (by decide +kernel) rfl rfl rfl (by decide +kernel)
set_option maxRecDepth 65536 in
theorem w_c42 : (Jvm.Cond.code ({ cls := "java/math/MutableBigInteger", name := "getMagnitudeArray", desc := "()[I" } : Jvm.MethodName) jdk_2101_method_7_code (2 : Nat) (Option.some (Jvm.ClassFile.FieldType.array Jvm.ClassFile.FieldType.int))).before args0 about1 = true := code_word (m := ⟨11, 2⟩) (meth := k11m2) (c := k11c2) (by decide +kernel) rfl rfl rfl (by decide +kernel)
set_option maxRecDepth 65536 in
theorem w_c43 : (Jvm.Cond.code ({ cls := "java/math/BigInteger", name := "<init>", desc := "([II)V" } : Jvm.MethodName) jdk_2097_method_25_code (3 : Nat) (Option.none : Option Jvm.ClassFile.FieldType)).before args0 about1 = true := code_word (m := ⟨10, 0⟩) (meth := k10m0) (c := k10c0) (by decide +kernel) rfl rfl rfl (by decide +kernel)
set_option maxRecDepth 65536 in
theorem w_c44 : (Jvm.Cond.code ({ cls := "java/math/BigInteger", name := "bitLength", desc := "()I" } : Jvm.MethodName) jdk_2097_method_118_code (7 : Nat) (Option.some Jvm.ClassFile.FieldType.int)).before args0 about1 = true := code_word (m := ⟨10, 6⟩) (meth := k10m6) (c := k10c6) (by decide +kernel) rfl rfl rfl (by decide +kernel)
set_option maxRecDepth 65536 in
theorem w_c45 : (Jvm.Cond.code ({ cls := "java/math/BigInteger", name := "bitLengthForInt", desc := "(I)I" } : Jvm.MethodName) jdk_2097_method_74_code (1 : Nat) (Option.some Jvm.ClassFile.FieldType.int)).before args0 about1 = true := code_word (m := ⟨10, 5⟩) (meth := k10m5) (c := k10c5) (by decide +kernel) rfl rfl rfl (by decide +kernel)
set_option maxRecDepth 65536 in
theorem w_c46 : (Jvm.Cond.code ({ cls := "java/lang/Integer", name := "numberOfLeadingZeros", desc := "(I)I" } : Jvm.MethodName) jdk_33_method_47_code (2 : Nat) (Option.some Jvm.ClassFile.FieldType.int)).before args0 about1 = true := code_word (m := ⟨14, 0⟩) (meth := k14m0) (c := k14c0) (by decide +kernel) rfl rfl rfl (by decide +kernel)
set_option maxRecDepth 65536 in
theorem w_c47 : (Jvm.Cond.code ({ cls := "java/math/BigInteger", name := "longValue", desc := "()J" } : Jvm.MethodName) jdk_2097_method_136_code (4 : Nat) (Option.some Jvm.ClassFile.FieldType.long)).before args0 about1 = true := code_word (m := ⟨10, 8⟩) (meth := k10m8) (c := k10c8) (by decide +kernel) rfl rfl rfl (by decide +kernel)
set_option maxRecDepth 65536 in
theorem w_c48 : (Jvm.Cond.code ({ cls := "java/math/BigInteger", name := "getInt", desc := "(I)I" } : Jvm.MethodName) jdk_2097_method_148_code (3 : Nat) (Option.some Jvm.ClassFile.FieldType.int)).before args0 about1 = true := code_word (m := ⟨10, 10⟩) (meth := k10m10) (c := k10c10) (by decide +kernel) rfl rfl rfl (by decide +kernel)
set_option maxRecDepth 65536 in
theorem w_c49 : (Jvm.Cond.code ({ cls := "java/math/BigInteger", name := "signInt", desc := "()I" } : Jvm.MethodName) jdk_2097_method_147_code (1 : Nat) (Option.some Jvm.ClassFile.FieldType.int)).before args0 about1 = true := code_word (m := ⟨10, 9⟩) (meth := k10m9) (c := k10c9) (by decide +kernel) rfl rfl rfl (by decide +kernel)
set_option maxRecDepth 65536 in
theorem w_c50 : (Jvm.Cond.code ({ cls := "java/math/BigInteger", name := "intValue", desc := "()I" } : Jvm.MethodName) jdk_2097_method_135_code (2 : Nat) (Option.some Jvm.ClassFile.FieldType.int)).before args0 about1 = true := code_word (m := ⟨10, 7⟩) (meth := k10m7) (c := k10c7) (by decide +kernel) rfl rfl rfl (by decide +kernel)
set_option maxRecDepth 65536 in
theorem w_c51 : (Jvm.Cond.code ({ cls := "java/time/Duration", name := "ofSeconds", desc := "(JJ)Ljava/time/Duration;" } : Jvm.MethodName) jdk_2316_method_5_code (7 : Nat) (Option.some (Jvm.ClassFile.FieldType.object "java/time/Duration"))).before args0 about1 = true := code_word (m := ⟨6, 0⟩) (meth := k6m0) (c := k6c0) (by decide +kernel) rfl rfl rfl (by decide +kernel)
set_option maxRecDepth 65536 in
theorem w_c52 : (Jvm.Cond.code ({ cls := "java/lang/Math", name := "floorDiv", desc := "(JJ)J" } : Jvm.MethodName) jdk_29_method_49_code (6 : Nat) (Option.some Jvm.ClassFile.FieldType.long)).before args0 about1 = true := code_word (m := ⟨9, 2⟩) (meth := k9m2) (c := k9c2) (by decide +kernel) rfl rfl rfl (by decide +kernel)
set_option maxRecDepth 65536 in
theorem w_c53 : (Jvm.Cond.code ({ cls := "java/lang/Math", name := "addExact", desc := "(JJ)J" } : Jvm.MethodName) jdk_29_method_25_code (6 : Nat) (Option.some Jvm.ClassFile.FieldType.long)).before args0 about1 = true := code_word (m := ⟨9, 1⟩) (meth := k9m1) (c := k9c1) (by decide +kernel) rfl rfl rfl (by decide +kernel)
set_option maxRecDepth 65536 in
theorem w_c54 : (Jvm.Cond.code ({ cls := "java/lang/Math", name := "floorMod", desc := "(JJ)J" } : Jvm.MethodName) jdk_29_method_52_code (6 : Nat) (Option.some Jvm.ClassFile.FieldType.long)).before args0 about1 = true := code_word (m := ⟨9, 3⟩) (meth := k9m3) (c := k9c3) (by decide +kernel) rfl rfl rfl (by decide +kernel)
set_option maxRecDepth 65536 in
theorem w_c55 : (Jvm.Cond.code ({ cls := "java/time/Duration", name := "create", desc := "(JI)Ljava/time/Duration;" } : Jvm.MethodName) jdk_2316_method_16_code (3 : Nat) (Option.some (Jvm.ClassFile.FieldType.object "java/time/Duration"))).before args0 about1 = true := code_word (m := ⟨6, 1⟩) (meth := k6m1) (c := k6c1) (by decide +kernel) rfl rfl rfl (by decide +kernel)
set_option maxRecDepth 65536 in
theorem w_c56 : (Jvm.Cond.code ({ cls := "java/time/Duration", name := "<init>", desc := "(JI)V" } : Jvm.MethodName) jdk_2316_method_17_code (4 : Nat) (Option.none : Option Jvm.ClassFile.FieldType)).before args0 about1 = true := code_word (m := ⟨6, 2⟩) (meth := k6m2) (c := k6c2) (by decide +kernel) rfl rfl rfl (by decide +kernel)
set_option maxRecDepth 65536 in
theorem w_c57 : (Jvm.Cond.code ({ cls := "java/time/Duration", name := "compareTo", desc := "(Ljava/time/Duration;)I" } : Jvm.MethodName) jdk_2316_method_66_code (3 : Nat) (Option.some Jvm.ClassFile.FieldType.int)).before args0 about1 = true := code_word (m := ⟨6, 8⟩) (meth := k6m8) (c := k6c8) (by decide +kernel) rfl rfl rfl (by decide +kernel)
set_option maxRecDepth 65536 in
theorem w_c58 : (Jvm.Cond.code ({ cls := "java/lang/Long", name := "compare", desc := "(JJ)I" } : Jvm.MethodName) jdk_35_method_42_code (4 : Nat) (Option.some Jvm.ClassFile.FieldType.int)).before args0 about1 = true := code_word (m := ⟨15, 0⟩) (meth := k15m0) (c := k15c0) (by decide +kernel) rfl rfl rfl (by decide +kernel)
set_option maxRecDepth 65536 in
theorem w_c59 : (Jvm.Cond.code ({ cls := "java/time/Duration", name := "getSeconds", desc := "()J" } : Jvm.MethodName) jdk_2316_method_23_code (1 : Nat) (Option.some Jvm.ClassFile.FieldType.long)).before args0 about1 = true := code_word (m := ⟨6, 3⟩) (meth := k6m3) (c := k6c3) (by decide +kernel) rfl rfl rfl (by decide +kernel)
set_option maxRecDepth 65536 in
theorem w_c60 : (Jvm.Cond.code ({ cls := "java/time/Duration", name := "getNano", desc := "()I" } : Jvm.MethodName) jdk_2316_method_24_code (1 : Nat) (Option.some Jvm.ClassFile.FieldType.int)).before args0 about1 = true := code_word (m := ⟨6, 4⟩) (meth := k6m4) (c := k6c4) (by decide +kernel) rfl rfl rfl (by decide +kernel)
set_option maxRecDepth 65536 in
theorem w_c61 : (Jvm.Cond.code ({ cls := "java/lang/Math", name := "min", desc := "(JJ)J" } : Jvm.MethodName) jdk_29_method_70_code (4 : Nat) (Option.some Jvm.ClassFile.FieldType.long)).before args0 about1 = true := code_word (m := ⟨9, 6⟩) (meth := k9m6) (c := k9c6) (by decide +kernel) rfl rfl rfl (by decide +kernel)
set_option maxRecDepth 65536 in
theorem w_c62 : (Jvm.Cond.code ({ cls := "java/math/MutableBigInteger", name := "normalize", desc := "()V" } : Jvm.MethodName) jdk_2101_method_21_code (4 : Nat) (Option.none : Option Jvm.ClassFile.FieldType)).before args0 about1 = true := code_word (m := ⟨11, 6⟩) (meth := k11m6) (c := k11c6) (by decide +kernel) rfl rfl rfl (by decide +kernel)
set_option maxRecDepth 65536 in
theorem w_c63 : (Jvm.Cond.code ({ cls := "java/util/Arrays", name := "copyOfRange", desc := "([III)[I" } : Jvm.MethodName) jdk_65_method_136_code (3 : Nat) (Option.some (Jvm.ClassFile.FieldType.array Jvm.ClassFile.FieldType.int))).before args0 about1 = true := code_word (m := ⟨16, 3⟩) (meth := k16m3) (c := k16c3) (by decide +kernel) rfl rfl rfl (by decide +kernel)
set_option maxRecDepth 65536 in
theorem w_c64 : (Jvm.Cond.code ({ cls := "java/util/Arrays", name := "copyOfRangeInt", desc := "([III)[I" } : Jvm.MethodName) jdk_65_method_137_code (5 : Nat) (Option.some (Jvm.ClassFile.FieldType.array Jvm.ClassFile.FieldType.int))).before args0 about1 = true := code_word (m := ⟨16, 4⟩) (meth := k16m4) (c := k16c4) (by decide +kernel) rfl rfl rfl (by decide +kernel)
set_option maxRecDepth 65536 in
theorem w_c65 : (Jvm.Cond.code ({ cls := "java/util/Arrays", name := "checkLength", desc := "(II)V" } : Jvm.MethodName) jdk_65_method_131_code (2 : Nat) (Option.none : Option Jvm.ClassFile.FieldType)).before args0 about1 = true := code_word (m := ⟨16, 2⟩) (meth := k16m2) (c := k16c2) (by decide +kernel) rfl rfl rfl (by decide +kernel)
set_option maxRecDepth 65536 in
theorem w_c66 : (Jvm.Cond.code ({ cls := "java/lang/Math", name := "min", desc := "(II)I" } : Jvm.MethodName) jdk_29_method_69_code (2 : Nat) (Option.some Jvm.ClassFile.FieldType.int)).before args0 about1 = true := code_word (m := ⟨9, 5⟩) (meth := k9m5) (c := k9c5) (by decide +kernel) rfl rfl rfl (by decide +kernel)
set_option maxRecDepth 65536 in
theorem w_c67 : (Jvm.Cond.code ({ cls := "java/util/Arrays", name := "fill", desc := "([II)V" } : Jvm.MethodName) jdk_65_method_103_code (4 : Nat) (Option.none : Option Jvm.ClassFile.FieldType)).before args0 about1 = true := code_word (m := ⟨16, 1⟩) (meth := k16m1) (c := k16c1) (by decide +kernel) rfl rfl rfl (by decide +kernel)
def codes1 : List Jvm.Cond := [Jvm.Cond.code x code maxLocals ret, Jvm.Cond.code ({ cls := "com/example/usher/usher/worker/Pause", name := "<init>", desc := "()V" } : Jvm.MethodName) prog_45_method_1_code (1 : Nat) (Option.none : Option Jvm.ClassFile.FieldType), Jvm.Cond.code ({ cls := "java/lang/Object", name := "<init>", desc := "()V" } : Jvm.MethodName) object_method_1_code (1 : Nat) (Option.none : Option Jvm.ClassFile.FieldType), Jvm.Cond.code ({ cls := "com/example/usher/usher/worker/PauseNextPinLaw", name := "maybeReset", desc := "(Lcom/example/usher/usher/worker/Pause;JZ)J" } : Jvm.MethodName) method_3_code (4 : Nat) (Option.some Jvm.ClassFile.FieldType.long), Jvm.Cond.code ({ cls := "com/example/usher/usher/worker/Pause", name := "reset", desc := "()V" } : Jvm.MethodName) prog_45_method_3_code (1 : Nat) (Option.none : Option Jvm.ClassFile.FieldType), Jvm.Cond.code ({ cls := "com/example/usher/usher/worker/PauseNextPinLaw", name := "step", desc := "(Lcom/example/usher/usher/worker/Pause;J)J" } : Jvm.MethodName) method_2_code (4 : Nat) (Option.some Jvm.ClassFile.FieldType.long), Jvm.Cond.code ({ cls := "com/example/usher/usher/worker/Pause", name := "next", desc := "()Ljava/time/Duration;" } : Jvm.MethodName) prog_45_method_2_code (3 : Nat) (Option.some (Jvm.ClassFile.FieldType.object "java/time/Duration")), Jvm.Cond.code ({ cls := "java/time/Duration", name := "multipliedBy", desc := "(J)Ljava/time/Duration;" } : Jvm.MethodName) jdk_2316_method_44_code (3 : Nat) (Option.some (Jvm.ClassFile.FieldType.object "java/time/Duration")), Jvm.Cond.code ({ cls := "java/time/Duration", name := "toBigDecimalSeconds", desc := "()Ljava/math/BigDecimal;" } : Jvm.MethodName) jdk_2316_method_47_code (1 : Nat) (Option.some (Jvm.ClassFile.FieldType.object "java/math/BigDecimal")), Jvm.Cond.code ({ cls := "java/math/BigDecimal", name := "valueOf", desc := "(J)Ljava/math/BigDecimal;" } : Jvm.MethodName) jdk_17_method_21_code (2 : Nat) (Option.some (Jvm.ClassFile.FieldType.object "java/math/BigDecimal")), Jvm.Cond.code ({ cls := "java/math/BigDecimal", name := "valueOf", desc := "(JI)Ljava/math/BigDecimal;" } : Jvm.MethodName) jdk_17_method_20_code (3 : Nat) (Option.some (Jvm.ClassFile.FieldType.object "java/math/BigDecimal")), Jvm.Cond.code ({ cls := "java/math/BigDecimal", name := "zeroValueOf", desc := "(I)Ljava/math/BigDecimal;" } : Jvm.MethodName) jdk_17_method_24_code (1 : Nat) (Option.some (Jvm.ClassFile.FieldType.object "java/math/BigDecimal")), Jvm.Cond.code ({ cls := "java/math/BigDecimal", name := "add", desc := "(Ljava/math/BigDecimal;)Ljava/math/BigDecimal;" } : Jvm.MethodName) jdk_17_method_26_code (2 : Nat) (Option.some (Jvm.ClassFile.FieldType.object "java/math/BigDecimal")), Jvm.Cond.code ({ cls := "java/math/BigDecimal", name := "add", desc := "(JIJI)Ljava/math/BigDecimal;" } : Jvm.MethodName) jdk_17_method_134_code (12 : Nat) (Option.some (Jvm.ClassFile.FieldType.object "java/math/BigDecimal")), Jvm.Cond.code ({ cls := "java/math/BigDecimal", name := "checkScale", desc := "(JJ)I" } : Jvm.MethodName) jdk_17_method_113_code (5 : Nat) (Option.some Jvm.ClassFile.FieldType.int), Jvm.Cond.code ({ cls := "java/math/BigDecimal", name := "longMultiplyPowerTen", desc := "(JI)J" } : Jvm.MethodName) jdk_17_method_97_code (7 : Nat) (Option.some Jvm.ClassFile.FieldType.long), Jvm.Cond.code ({ cls := "java/math/BigDecimal", name := "add", desc := "(JJI)Ljava/math/BigDecimal;" } : Jvm.MethodName) jdk_17_method_133_code (7 : Nat) (Option.some (Jvm.ClassFile.FieldType.object "java/math/BigDecimal")), Jvm.Cond.code ({ cls := "java/math/BigDecimal", name := "add", desc := "(JJ)J" } : Jvm.MethodName) jdk_17_method_132_code (6 : Nat) (Option.some Jvm.ClassFile.FieldType.long), Jvm.Cond.code ({ cls := "java/math/BigDecimal", name := "<init>", desc := "(Ljava/math/BigInteger;JII)V" } : Jvm.MethodName) jdk_17_method_1_code (6 : Nat) (Option.none : Option Jvm.ClassFile.FieldType), Jvm.Cond.code ({ cls := "java/lang/Number", name := "<init>", desc := "()V" } : Jvm.MethodName) jdk_18_method_1_code (1 : Nat) (Option.none : Option Jvm.ClassFile.FieldType), Jvm.Cond.code ({ cls := "java/math/BigDecimal", name := "multiply", desc := "(Ljava/math/BigDecimal;)Ljava/math/BigDecimal;" } : Jvm.MethodName) jdk_17_method_31_code (3 : Nat) (Option.some (Jvm.ClassFile.FieldType.object "java/math/BigDecimal")), Jvm.Cond.code ({ cls := "java/math/BigDecimal", name := "checkScale", desc := "(J)I" } : Jvm.MethodName) jdk_17_method_106_code (5 : Nat) (Option.some Jvm.ClassFile.FieldType.int), Jvm.Cond.code ({ cls := "java/math/BigDecimal", name := "multiply", desc := "(JJI)Ljava/math/BigDecimal;" } : Jvm.MethodName) jdk_17_method_157_code (7 : Nat) (Option.some (Jvm.ClassFile.FieldType.object "java/math/BigDecimal")), Jvm.Cond.code ({ cls := "java/math/BigDecimal", name := "multiply", desc := "(JJ)J" } : Jvm.MethodName) jdk_17_method_156_code (10 : Nat) (Option.some Jvm.ClassFile.FieldType.long), Jvm.Cond.code ({ cls := "java/lang/Math", name := "abs", desc := "(J)J" } : Jvm.MethodName) jdk_29_method_61_code (2 : Nat) (Option.some Jvm.ClassFile.FieldType.long), Jvm.Cond.code ({ cls := "java/time/Duration", name := "create", desc := "(Ljava/math/BigDecimal;)Ljava/time/Duration;" } : Jvm.MethodName) jdk_2316_method_48_code (3 : Nat) (Option.some (Jvm.ClassFile.FieldType.object "java/time/Duration")), Jvm.Cond.code ({ cls := "java/math/BigDecimal", name := "movePointRight", desc := "(I)Ljava/math/BigDecimal;" } : Jvm.MethodName) jdk_17_method_67_code (4 : Nat) (Option.some (Jvm.ClassFile.FieldType.object "java/math/BigDecimal")), Jvm.Cond.code ({ cls := "java/math/BigDecimal", name := "toBigIntegerExact", desc := "()Ljava/math/BigInteger;" } : Jvm.MethodName) jdk_17_method_81_code (1 : Nat) (Option.some (Jvm.ClassFile.FieldType.object "java/math/BigInteger")), Jvm.Cond.code ({ cls := "java/math/BigDecimal", name := "setScale", desc := "(II)Ljava/math/BigDecimal;" } : Jvm.MethodName) jdk_17_method_64_code (8 : Nat) (Option.some (Jvm.ClassFile.FieldType.object "java/math/BigDecimal")), Jvm.Cond.code ({ cls := "java/math/BigDecimal", name := "inflated", desc := "()Ljava/math/BigInteger;" } : Jvm.MethodName) jdk_17_method_99_code (1 : Nat) (Option.some (Jvm.ClassFile.FieldType.object "java/math/BigInteger")), Jvm.Cond.code ({ cls := "java/math/BigInteger", name := "valueOf", desc := "(J)Ljava/math/BigInteger;" } : Jvm.MethodName) jdk_2097_method_29_code (2 : Nat) (Option.some (Jvm.ClassFile.FieldType.object "java/math/BigInteger")), Jvm.Cond.code ({ cls := "java/math/BigInteger", name := "<init>", desc := "(J)V" } : Jvm.MethodName) jdk_2097_method_30_code (4 : Nat) (Option.none : Option Jvm.ClassFile.FieldType), Jvm.Cond.code ({ cls := "java/math/BigInteger", name := "divideAndRemainder", desc := "(Ljava/math/BigInteger;)[Ljava/math/BigInteger;" } : Jvm.MethodName) jdk_2097_method_63_code (2 : Nat) (Option.some (Jvm.ClassFile.FieldType.array (Jvm.ClassFile.FieldType.object "java/math/BigInteger"))), Jvm.Cond.code ({ cls := "java/math/BigInteger", name := "divideAndRemainderKnuth", desc := "(Ljava/math/BigInteger;)[Ljava/math/BigInteger;" } : Jvm.MethodName) jdk_2097_method_64_code (7 : Nat) (Option.some (Jvm.ClassFile.FieldType.array (Jvm.ClassFile.FieldType.object "java/math/BigInteger"))), Jvm.Cond.code ({ cls := "java/math/MutableBigInteger", name := "<init>", desc := "()V" } : Jvm.MethodName) jdk_2101_method_1_code (1 : Nat) (Option.none : Option Jvm.ClassFile.FieldType), Jvm.Cond.code ({ cls := "java/math/MutableBigInteger", name := "<init>", desc := "([I)V" } : Jvm.MethodName) jdk_2101_method_3_code (2 : Nat) (Option.none : Option Jvm.ClassFile.FieldType), Jvm.Cond.code ({ cls := "java/math/MutableBigInteger", name := "divideKnuth", desc := "(Ljava/math/MutableBigInteger;Ljava/math/MutableBigInteger;)Ljava/math/MutableBigInteger;" } : Jvm.MethodName) jdk_2101_method_56_code (3 : Nat) (Option.some (Jvm.ClassFile.FieldType.object "java/math/MutableBigInteger")), Jvm.Cond.code ({ cls := "java/math/MutableBigInteger", name := "divideKnuth", desc := "(Ljava/math/MutableBigInteger;Ljava/math/MutableBigInteger;Z)Ljava/math/MutableBigInteger;" } : Jvm.MethodName) jdk_2101_method_57_code (8 : Nat) (Option.some (Jvm.ClassFile.FieldType.object "java/math/MutableBigInteger")), Jvm.Cond.code ({ cls := "java/math/MutableBigInteger", name := "compare", desc := "(Ljava/math/MutableBigInteger;)I" } : Jvm.MethodName) jdk_2101_method_15_code (8 : Nat) (Option.some Jvm.ClassFile.FieldType.int), Jvm.Cond.code ({ cls := "java/math/MutableBigInteger", name := "clear", desc := "()V" } : Jvm.MethodName) jdk_2101_method_13_code (3 : Nat) (Option.none : Option Jvm.ClassFile.FieldType), Jvm.Cond.code ({ cls := "java/math/MutableBigInteger", name := "divideOneWord", desc := "(ILjava/math/MutableBigInteger;)I" } : Jvm.MethodName) jdk_2101_method_53_code (15 : Nat) (Option.some Jvm.ClassFile.FieldType.int), Jvm.Cond.code ({ cls := "java/math/MutableBigInteger", name := "toBigInteger", desc := "(I)Ljava/math/BigInteger;" } : Jvm.MethodName) jdk_2101_method_9_code (2 : Nat) (Option.some (Jvm.ClassFile.FieldType.object "java/math/BigInteger")), Jvm.Cond.code ({ cls := "java/math/MutableBigInteger", name := "getMagnitudeArray", desc := "()[I" } : Jvm.MethodName) jdk_2101_method_7_code (2 : Nat) (Option.some (Jvm.ClassFile.FieldType.array Jvm.ClassFile.FieldType.int)), Jvm.Cond.code ({ cls := "java/math/BigInteger", name := "<init>", desc := "([II)V" } : Jvm.MethodName) jdk_2097_method_25_code (3 : Nat) (Option.none : Option Jvm.ClassFile.FieldType), Jvm.Cond.code ({ cls := "java/math/BigInteger", name := "bitLength", desc := "()I" } : Jvm.MethodName) jdk_2097_method_118_code (7 : Nat) (Option.some Jvm.ClassFile.FieldType.int), Jvm.Cond.code ({ cls := "java/math/BigInteger", name := "bitLengthForInt", desc := "(I)I" } : Jvm.MethodName) jdk_2097_method_74_code (1 : Nat) (Option.some Jvm.ClassFile.FieldType.int), Jvm.Cond.code ({ cls := "java/lang/Integer", name := "numberOfLeadingZeros", desc := "(I)I" } : Jvm.MethodName) jdk_33_method_47_code (2 : Nat) (Option.some Jvm.ClassFile.FieldType.int), Jvm.Cond.code ({ cls := "java/math/BigInteger", name := "longValue", desc := "()J" } : Jvm.MethodName) jdk_2097_method_136_code (4 : Nat) (Option.some Jvm.ClassFile.FieldType.long), Jvm.Cond.code ({ cls := "java/math/BigInteger", name := "getInt", desc := "(I)I" } : Jvm.MethodName) jdk_2097_method_148_code (3 : Nat) (Option.some Jvm.ClassFile.FieldType.int), Jvm.Cond.code ({ cls := "java/math/BigInteger", name := "signInt", desc := "()I" } : Jvm.MethodName) jdk_2097_method_147_code (1 : Nat) (Option.some Jvm.ClassFile.FieldType.int), Jvm.Cond.code ({ cls := "java/math/BigInteger", name := "intValue", desc := "()I" } : Jvm.MethodName) jdk_2097_method_135_code (2 : Nat) (Option.some Jvm.ClassFile.FieldType.int), Jvm.Cond.code ({ cls := "java/time/Duration", name := "ofSeconds", desc := "(JJ)Ljava/time/Duration;" } : Jvm.MethodName) jdk_2316_method_5_code (7 : Nat) (Option.some (Jvm.ClassFile.FieldType.object "java/time/Duration")), Jvm.Cond.code ({ cls := "java/lang/Math", name := "floorDiv", desc := "(JJ)J" } : Jvm.MethodName) jdk_29_method_49_code (6 : Nat) (Option.some Jvm.ClassFile.FieldType.long), Jvm.Cond.code ({ cls := "java/lang/Math", name := "addExact", desc := "(JJ)J" } : Jvm.MethodName) jdk_29_method_25_code (6 : Nat) (Option.some Jvm.ClassFile.FieldType.long), Jvm.Cond.code ({ cls := "java/lang/Math", name := "floorMod", desc := "(JJ)J" } : Jvm.MethodName) jdk_29_method_52_code (6 : Nat) (Option.some Jvm.ClassFile.FieldType.long), Jvm.Cond.code ({ cls := "java/time/Duration", name := "create", desc := "(JI)Ljava/time/Duration;" } : Jvm.MethodName) jdk_2316_method_16_code (3 : Nat) (Option.some (Jvm.ClassFile.FieldType.object "java/time/Duration")), Jvm.Cond.code ({ cls := "java/time/Duration", name := "<init>", desc := "(JI)V" } : Jvm.MethodName) jdk_2316_method_17_code (4 : Nat) (Option.none : Option Jvm.ClassFile.FieldType), Jvm.Cond.code ({ cls := "java/time/Duration", name := "compareTo", desc := "(Ljava/time/Duration;)I" } : Jvm.MethodName) jdk_2316_method_66_code (3 : Nat) (Option.some Jvm.ClassFile.FieldType.int), Jvm.Cond.code ({ cls := "java/lang/Long", name := "compare", desc := "(JJ)I" } : Jvm.MethodName) jdk_35_method_42_code (4 : Nat) (Option.some Jvm.ClassFile.FieldType.int), Jvm.Cond.code ({ cls := "java/time/Duration", name := "getSeconds", desc := "()J" } : Jvm.MethodName) jdk_2316_method_23_code (1 : Nat) (Option.some Jvm.ClassFile.FieldType.long), Jvm.Cond.code ({ cls := "java/time/Duration", name := "getNano", desc := "()I" } : Jvm.MethodName) jdk_2316_method_24_code (1 : Nat) (Option.some Jvm.ClassFile.FieldType.int), Jvm.Cond.code ({ cls := "java/lang/Math", name := "min", desc := "(JJ)J" } : Jvm.MethodName) jdk_29_method_70_code (4 : Nat) (Option.some Jvm.ClassFile.FieldType.long), Jvm.Cond.code ({ cls := "java/math/MutableBigInteger", name := "normalize", desc := "()V" } : Jvm.MethodName) jdk_2101_method_21_code (4 : Nat) (Option.none : Option Jvm.ClassFile.FieldType), Jvm.Cond.code ({ cls := "java/util/Arrays", name := "copyOfRange", desc := "([III)[I" } : Jvm.MethodName) jdk_65_method_136_code (3 : Nat) (Option.some (Jvm.ClassFile.FieldType.array Jvm.ClassFile.FieldType.int)), Jvm.Cond.code ({ cls := "java/util/Arrays", name := "copyOfRangeInt", desc := "([III)[I" } : Jvm.MethodName) jdk_65_method_137_code (5 : Nat) (Option.some (Jvm.ClassFile.FieldType.array Jvm.ClassFile.FieldType.int)), Jvm.Cond.code ({ cls := "java/util/Arrays", name := "checkLength", desc := "(II)V" } : Jvm.MethodName) jdk_65_method_131_code (2 : Nat) (Option.none : Option Jvm.ClassFile.FieldType), Jvm.Cond.code ({ cls := "java/lang/Math", name := "min", desc := "(II)I" } : Jvm.MethodName) jdk_29_method_69_code (2 : Nat) (Option.some Jvm.ClassFile.FieldType.int), Jvm.Cond.code ({ cls := "java/util/Arrays", name := "fill", desc := "([II)V" } : Jvm.MethodName) jdk_65_method_103_code (4 : Nat) (Option.none : Option Jvm.ClassFile.FieldType)]
set_option maxRecDepth 65536 in
theorem codes_eq : words1.filter isCode = codes1 := rfl
theorem w_codes : ∀ c ∈ words1.filter isCode, c.before args0 about1 = true := by
  rw [codes_eq]
  intro c hc
  simp only [codes1, List.mem_cons, List.not_mem_nil, or_false] at hc
  rcases hc with rfl | rfl | rfl | rfl | rfl | rfl | rfl | rfl | rfl | rfl | rfl | rfl | rfl | rfl | rfl | rfl | rfl | rfl | rfl | rfl | rfl | rfl | rfl | rfl | rfl | rfl | rfl | rfl | rfl | rfl | rfl | rfl | rfl | rfl | rfl | rfl | rfl | rfl | rfl | rfl | rfl | rfl | rfl | rfl | rfl | rfl | rfl | rfl | rfl | rfl | rfl | rfl | rfl | rfl | rfl | rfl | rfl | rfl | rfl | rfl | rfl | rfl | rfl | rfl | rfl | rfl | rfl | rfl
  · exact w_c0
  · exact w_c1
  · exact w_c2
  · exact w_c3
  · exact w_c4
  · exact w_c5
  · exact w_c6
  · exact w_c7
  · exact w_c8
  · exact w_c9
  · exact w_c10
  · exact w_c11
  · exact w_c12
  · exact w_c13
  · exact w_c14
  · exact w_c15
  · exact w_c16
  · exact w_c17
  · exact w_c18
  · exact w_c19
  · exact w_c20
  · exact w_c21
  · exact w_c22
  · exact w_c23
  · exact w_c24
  · exact w_c25
  · exact w_c26
  · exact w_c27
  · exact w_c28
  · exact w_c29
  · exact w_c30
  · exact w_c31
  · exact w_c32
  · exact w_c33
  · exact w_c34
  · exact w_c35
  · exact w_c36
  · exact w_c37
  · exact w_c38
  · exact w_c39
  · exact w_c40
  · exact w_c41
  · exact w_c42
  · exact w_c43
  · exact w_c44
  · exact w_c45
  · exact w_c46
  · exact w_c47
  · exact w_c48
  · exact w_c49
  · exact w_c50
  · exact w_c51
  · exact w_c52
  · exact w_c53
  · exact w_c54
  · exact w_c55
  · exact w_c56
  · exact w_c57
  · exact w_c58
  · exact w_c59
  · exact w_c60
  · exact w_c61
  · exact w_c62
  · exact w_c63
  · exact w_c64
  · exact w_c65
  · exact w_c66
  · exact w_c67
set_option maxRecDepth 65536 in
theorem w_t1 : (words1.take 24).all (fun c => isCode c || c.before args0 about1) = true := by decide +kernel
set_option maxRecDepth 65536 in
theorem w_t2 : ((words1.drop 24).take 24).all (fun c => isCode c || c.before args0 about1) = true := by decide +kernel
set_option maxRecDepth 65536 in
theorem w_t3 : (((words1.drop 24).drop 24).take 24).all (fun c => isCode c || c.before args0 about1) = true := by decide +kernel
set_option maxRecDepth 65536 in
theorem w_t4 : ((((words1.drop 24).drop 24).drop 24).take 24).all (fun c => isCode c || c.before args0 about1) = true := by decide +kernel
set_option maxRecDepth 65536 in
theorem w_t5 : (((((words1.drop 24).drop 24).drop 24).drop 24).take 24).all (fun c => isCode c || c.before args0 about1) = true := by decide +kernel
set_option maxRecDepth 65536 in
theorem w_t6 : ((((((words1.drop 24).drop 24).drop 24).drop 24).drop 24).take 24).all (fun c => isCode c || c.before args0 about1) = true := by decide +kernel
set_option maxRecDepth 65536 in
theorem w_t7 : (((((((words1.drop 24).drop 24).drop 24).drop 24).drop 24).drop 24).take 24).all (fun c => isCode c || c.before args0 about1) = true := by decide +kernel
set_option maxRecDepth 65536 in
theorem w_t8 : ((((((((words1.drop 24).drop 24).drop 24).drop 24).drop 24).drop 24).drop 24).take 24).all (fun c => isCode c || c.before args0 about1) = true := by decide +kernel
set_option maxRecDepth 65536 in
theorem w_t9 : (((((((((words1.drop 24).drop 24).drop 24).drop 24).drop 24).drop 24).drop 24).drop 24).take 24).all (fun c => isCode c || c.before args0 about1) = true := by decide +kernel
set_option maxRecDepth 65536 in
theorem w_t10 : ((((((((((words1.drop 24).drop 24).drop 24).drop 24).drop 24).drop 24).drop 24).drop 24).drop 24).take 24).all (fun c => isCode c || c.before args0 about1) = true := by decide +kernel
set_option maxRecDepth 65536 in
theorem w_t11 : (((((((((((words1.drop 24).drop 24).drop 24).drop 24).drop 24).drop 24).drop 24).drop 24).drop 24).drop 24).take 24).all (fun c => isCode c || c.before args0 about1) = true := by decide +kernel
set_option maxRecDepth 65536 in
theorem w_t12 : ((((((((((((words1.drop 24).drop 24).drop 24).drop 24).drop 24).drop 24).drop 24).drop 24).drop 24).drop 24).drop 24).take 24).all (fun c => isCode c || c.before args0 about1) = true := by decide +kernel
set_option maxRecDepth 65536 in
theorem w_t13 : (((((((((((((words1.drop 24).drop 24).drop 24).drop 24).drop 24).drop 24).drop 24).drop 24).drop 24).drop 24).drop 24).drop 24).take 24).all (fun c => isCode c || c.before args0 about1) = true := by decide +kernel
set_option maxRecDepth 65536 in
theorem w_t14 : ((((((((((((((words1.drop 24).drop 24).drop 24).drop 24).drop 24).drop 24).drop 24).drop 24).drop 24).drop 24).drop 24).drop 24).drop 24).take 24).all (fun c => isCode c || c.before args0 about1) = true := by decide +kernel
set_option maxRecDepth 65536 in
theorem w_t15 : ((((((((((((((words1.drop 24).drop 24).drop 24).drop 24).drop 24).drop 24).drop 24).drop 24).drop 24).drop 24).drop 24).drop 24).drop 24).drop 24).all (fun c => isCode c || c.before args0 about1) = true := by decide +kernel
theorem w_tables : (allAtoms (Jvm.Cond.code x code maxLocals ret :: tables_1)).before args0 about1 = true := by
  rw [allAtoms_all]
  show words1.all (fun c => c.before args0 about1) = true
  refine all_split ?_ w_codes
  rw [← List.take_append_drop 24 words1, List.all_append, w_t1, ← List.take_append_drop 24 (words1.drop 24), List.all_append, w_t2, ← List.take_append_drop 24 ((words1.drop 24).drop 24), List.all_append, w_t3, ← List.take_append_drop 24 (((words1.drop 24).drop 24).drop 24), List.all_append, w_t4, ← List.take_append_drop 24 ((((words1.drop 24).drop 24).drop 24).drop 24), List.all_append, w_t5, ← List.take_append_drop 24 (((((words1.drop 24).drop 24).drop 24).drop 24).drop 24), List.all_append, w_t6, ← List.take_append_drop 24 ((((((words1.drop 24).drop 24).drop 24).drop 24).drop 24).drop 24), List.all_append, w_t7, ← List.take_append_drop 24 (((((((words1.drop 24).drop 24).drop 24).drop 24).drop 24).drop 24).drop 24), List.all_append, w_t8, ← List.take_append_drop 24 ((((((((words1.drop 24).drop 24).drop 24).drop 24).drop 24).drop 24).drop 24).drop 24), List.all_append, w_t9, ← List.take_append_drop 24 (((((((((words1.drop 24).drop 24).drop 24).drop 24).drop 24).drop 24).drop 24).drop 24).drop 24), List.all_append, w_t10, ← List.take_append_drop 24 ((((((((((words1.drop 24).drop 24).drop 24).drop 24).drop 24).drop 24).drop 24).drop 24).drop 24).drop 24), List.all_append, w_t11, ← List.take_append_drop 24 (((((((((((words1.drop 24).drop 24).drop 24).drop 24).drop 24).drop 24).drop 24).drop 24).drop 24).drop 24).drop 24), List.all_append, w_t12, ← List.take_append_drop 24 ((((((((((((words1.drop 24).drop 24).drop 24).drop 24).drop 24).drop 24).drop 24).drop 24).drop 24).drop 24).drop 24).drop 24), List.all_append, w_t13, ← List.take_append_drop 24 (((((((((((((words1.drop 24).drop 24).drop 24).drop 24).drop 24).drop 24).drop 24).drop 24).drop 24).drop 24).drop 24).drop 24).drop 24), List.all_append, w_t14, w_t15]
  rfl
set_option maxRecDepth 65536 in
theorem w_rest : rest_1_c.before args0 about1 = true := by decide +kernel
set_option maxRecDepth 65536 in
theorem w_case : (Jvm.Cond.and given_1 narrow_1).before args0 about1 = true := by decide +kernel
theorem w_applies : (headSpec (Jvm.Cond.code x code maxLocals ret :: tables_1) room_1).applies x e0.platform about1 = true :=
  (Spec.applies_iff w_frames).mpr ⟨w_running, w_runnable, w_alone, w_named, w_hears, w_ripe, w_room, w_tables⟩
theorem atStart : AtStart classFile x code maxLocals ret World_1 tables_1 room_1 Calls_1 rest_1 Pre_1 launch0 p0 e0 about1 theMethod args0 below0 :=
  ⟨lists_1, trivial, launch0.admits_env _ _ _, launch0.least_env, fairChoices_fair.cas, fairChoices_fair.clock, w_frames, w_args, w_heap, w_applies, trivial, w_rest, w_case⟩
end start1
theorem witness_1 : WitnessClaimed_1 := ⟨start1.p0, start1.e0, start1.about1, start1.theMethod, start1.args0, start1.below0, start1.atStart⟩
end Jvm.Pilot.@@N@@
