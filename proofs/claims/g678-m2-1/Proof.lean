import JvmDerived
import JvmDerived.Pilot.@@N@@Statement
import JvmDerived.Pilot.@@N@@Code
set_option linter.unusedVariables false
set_option linter.unusedSimpArgs false
namespace Jvm.Pilot.@@N@@
open Jvm Jvm.ClassFile Sem Op Lib Jvm.Free Jvm.Stand Jvm.LawKit Jvm.RoadKit Bundle Jvm.Pilot.@@N@@.Jvm.D
theorem wk {Z : State} {a0 : Array Value} {d : Jvm.Cond} (hw : ∀ d ∈ tables_1, d.before a0 Z = true) (i : Nat) (h : tables_1[i]? = some d) : d.before a0 Z = true := hw _ (List.mem_of_getElem? h)
/-! a thin layer of one form a step, over the library's road laws -/
def MetN (l : Launch) (Z : State) (y : MethodName) (bytes : ByteArray) (maxL : Nat) (ret : Option FieldType) (rm : Room) (ws : List Jvm.Cond) (as' : Array Value) (h : Heap) (Q : Option Value → Heap → List Loc → Prop) : Prop :=
  MetFree l y (head1 (Jvm.Cond.code y bytes maxL ret :: ws) rm) (fun a U => a = as' ∧ Z.Warmed39 U.vm ∧ U.heap = h) (fun _ _ _ _ _ => True) (fun _ U o U' => ∃ v L, o = .returned v ∧ Q v U'.heap L ∧ FrameEnd U o U' L rm.cells rm.slots)
def Win (p : Program) (e : Env) (below : List Frame) (s : State) (rm : Room) (Q : Option Value → Heap → List Loc → Prop) (st : State) : Prop :=
  ∃ s₂ o, Steps p.tables e below st s₂ ∧ s₂.status = .running ∧ Ended s₂ below o ∧ ∃ v L, o = .returned v ∧ Q v s₂.heap L ∧ FrameEnd s o s₂ L rm.cells rm.slots
section Own
variable {p : Program} {l : Launch} {e : Env} {R rm : Room} {s : State} {m : MethodId} {args : Array Value} {below : List Frame} {meth : Method} {c : Code} {T : State} {locs : List Loc} {cells slots : Nat} {Z : State} {a0 : Array Value} {h : Heap} {Q : Option Value → Heap → List Loc → Prop}
theorem Win.to {A : State} (T : State) (g : JFrame) (k : ∀ t, Steps p.tables e below (T.setTop g) t → Steps p.tables e below A t) (w : Win p e below s rm Q (T.setTop g)) : Win p e below s rm Q A := by
  obtain ⟨s₂, o, h1, r⟩ := w
  exact ⟨s₂, o, k _ h1, r⟩
theorem Win.out (X : Stand p l e R s m args below meth c T locs cells slots) {A : State} {v : Option Value} (hlk : meth.locks = false) (hv : meth.sig.returnType = none → v = none)
    (hst : ∀ fs, (∀ (f : JFrame) (acts : List Action), f.method = m → f.locked = none → f.entered = [] → (doReturn e (T.setTop f) acts v).1 = T.setFrames fs) → Steps p.tables e below A (T.setFrames fs))
    (hc : cells ≤ rm.cells) (hs : slots ≤ rm.slots) (hq : Q v T.heap locs) : Win p e below s rm Q A := by
  obtain ⟨fs, hr, hrun, hended, hW, hsame⟩ := X.leave (v := v) hv
  exact ⟨_, _, hst fs hr, hrun, hended, _, _, rfl, hq, ⟨_, rfl⟩, hW, hsame.mono hc hs⟩
theorem Win.retN (X : Stand p l e R s m args below meth c T locs cells slots) (hx : p.tables.exec = Jvm.exec) (hlk : meth.locks = false) {pc : Nat} {Ls : Array Slot} {z z' : Int32} {t : FieldType} {rest : List Value} (hret : meth.sig.returnType = some t) (ht : t = .boolean ∨ t = .byte ∨ t = .char ∨ t = .short) (hz : nar t z = z')
    (hd : decode c.code pc = .ok (.ireturn, 1)) (hc : cells ≤ rm.cells) (hs : slots ≤ rm.slots) (hq : Q (some (.int z')) T.heap locs) : Win p e below s rm Q (T.setTop (mkF m pc Ls (.int z :: rest))) := by
  subst hz
  exact Win.out X (v := some (.int (nar t z))) hlk (fun q => by rw [hret] at q; cases q) (fun fs hr => Jvm.RoadKit.retN X hx (t := t) hret ht hd hr) hc hs hq
theorem Win.retI (X : Stand p l e R s m args below meth c T locs cells slots) (hx : p.tables.exec = Jvm.exec) (hlk : meth.locks = false) {pc : Nat} {Ls : Array Slot} {z : Int32} {rest : List Value} (hret : meth.sig.returnType = some .int)
    (hd : decode c.code pc = .ok (.ireturn, 1)) (hc : cells ≤ rm.cells) (hs : slots ≤ rm.slots) (hq : Q (some (.int z)) T.heap locs) : Win p e below s rm Q (T.setTop (mkF m pc Ls (.int z :: rest))) :=
  Win.out X (v := some (.int z)) hlk (fun q => by rw [hret] at q; cases q) (fun fs hr => retOut X hx hret rfl (Or.inl ⟨rfl, Or.inl rfl, z, rfl⟩) hd hr) hc hs hq
theorem Win.retJ (X : Stand p l e R s m args below meth c T locs cells slots) (hx : p.tables.exec = Jvm.exec) (hlk : meth.locks = false) {pc : Nat} {Ls : Array Slot} {z : Int64} {rest : List Value} (hret : meth.sig.returnType = some .long)
    (hd : decode c.code pc = .ok (.lreturn, 1)) (hc : cells ≤ rm.cells) (hs : slots ≤ rm.slots) (hq : Q (some (.long z)) T.heap locs) : Win p e below s rm Q (T.setTop (mkF m pc Ls (.long z :: rest))) :=
  Win.out X (v := some (.long z)) hlk (fun q => by rw [hret] at q; cases q) (fun fs hr => retOut X hx hret rfl (Or.inr (Or.inl ⟨rfl, rfl, z, rfl⟩)) hd hr) hc hs hq
theorem Win.retD (X : Stand p l e R s m args below meth c T locs cells slots) (hx : p.tables.exec = Jvm.exec) (hlk : meth.locks = false) {pc : Nat} {Ls : Array Slot} {z : UInt64} {rest : List Value} (hret : meth.sig.returnType = some .double)
    (hd : decode c.code pc = .ok (.dreturn, 1)) (hc : cells ≤ rm.cells) (hs : slots ≤ rm.slots) (hq : Q (some (.double z)) T.heap locs) : Win p e below s rm Q (T.setTop (mkF m pc Ls (.double z :: rest))) :=
  Win.out X (v := some (.double z)) hlk (fun q => by rw [hret] at q; cases q) (fun fs hr => retOut X hx hret rfl (Or.inr (Or.inr (Or.inl ⟨rfl, rfl, z, rfl⟩))) hd hr) hc hs hq
theorem Win.retA (X : Stand p l e R s m args below meth c T locs cells slots) (hx : p.tables.exec = Jvm.exec) (hlk : meth.locks = false) {pc : Nat} {Ls : Array Slot} {w : Value} {t : FieldType} {rest : List Value} (hret : meth.sig.returnType = some t) (ht : t.isReference = true) (hw : w.isRef = true)
    (hd : decode c.code pc = .ok (.areturn, 1)) (hc : cells ≤ rm.cells) (hs : slots ≤ rm.slots) (hq : Q (some w) T.heap locs) : Win p e below s rm Q (T.setTop (mkF m pc Ls (w :: rest))) :=
  Win.out X (v := some w) hlk (fun q => by rw [hret] at q; cases q) (fun fs hr => retOut X hx hret (by rcases ref_cases hw with rfl | ⟨_, rfl⟩ <;> cases t <;> first | rfl | cases ht) (Or.inr (Or.inr (Or.inr (Or.inr ⟨rfl, ht, hw⟩)))) hd hr) hc hs hq
theorem Win.retV (X : Stand p l e R s m args below meth c T locs cells slots) (hx : p.tables.exec = Jvm.exec) (hlk : meth.locks = false) {pc : Nat} {Ls : Array Slot} (hret : meth.sig.returnType = none)
    (hd : decode c.code pc = .ok (.return_, 1)) (hc : cells ≤ rm.cells) (hs : slots ≤ rm.slots) (hq : Q none T.heap locs) : Win p e below s rm Q (T.setTop (mkF m pc Ls [])) :=
  Win.out X (v := none) hlk (fun _ => rfl) (fun fs hr => X.returnOut hx hret hd hr) hc hs hq
theorem MetN.walk {y : MethodName} {bytes : ByteArray} {maxL : Nat} {ret : Option FieldType} {ws : List Jvm.Cond} {as' : Array Value} (hp : plainFor y = true)
    (b : ∀ (p : Program) (e : Env) (s : State) (m : MethodId) (below : List Frame) (meth : Method) (c : Code) (s₁ : State), p.tables.exec = Jvm.exec → Z.Warmed39 s.vm → c.code = bytes → c.maxLocals = maxL → s.vm.findClass y.cls = some m.cls → meth.name = y.name → meth.sig.returnType = ret → meth.locks = false →
      Stand p l e rm s m as' below meth c s₁ [] 0 0 → s₁.heap = h → Win p e below s rm Q (s₁.setTop (entryFrame m as' maxL))) : MetN l Z y bytes maxL ret rm ws as' h Q := by
  refine MetFree.of_bodySF hp hisR ?_
  intro p e s m args below meth c s₁ Bd hml0 hP hK
  obtain ⟨rfl, hZ, hh⟩ := hP
  exact b p e s m below meth c s₁ Bd.exec hZ Bd.bytes hml0 (findClass_of_methodNamed Bd.named) (name_of_methodNamed Bd.named Bd.method).1 Bd.returns Bd.notSynchronized (Stand.of_body Bd) (by rw [← hh, Bd.state]; rfl)
theorem N.static (X : Stand p l e R s m args below meth c T locs cells slots) (hx : p.tables.exec = Jvm.exec) (hZ : Z.Warmed39 s.vm) {own : String} {index : Nat} {y : MethodName} {bytes : ByteArray} {maxL : Nat} {ret : Option FieldType} {as' : Array Value}
    (hown : s.vm.findClass own = some m.cls) (w1 : (Jvm.Cond.methodLink own index y).before a0 Z = true) (w2 : (Jvm.Cond.static y).before a0 Z = true) (w3 : (Jvm.Cond.initialized y.cls).before a0 Z = true) (w4 : (Jvm.Cond.code y bytes maxL ret).before a0 Z = true)
    (hy : y.cls ≠ "java/lang/invoke/MethodHandle" ∧ y.cls ≠ "java/lang/invoke/VarHandle") (M : MetN l Z y bytes maxL ret rm [] as' h Q) (eT : T.heap = h) {g : JFrame} (hg : g.method = m) (hsize : g.locals.size = c.maxLocals) {argsL rest : List Value} (has : argsL.toArray = as')
    (hlen : ∀ sig, parseMethodDescriptor y.desc = some sig → argsL.length = sig.parameters.length) (hstack : g.stack = argsL.reverse ++ rest) {W : Nat} (hW : 2 * g.monitorRoom + (rest.map fun v => v.category).sum ≤ W) (hd : decode c.code g.pc = .ok (.invokestatic index, 3))
    (hf : rm.frames + 1 ≤ R.frames) (hl : W + (maxL + 11) + rm.locals ≤ R.locals) (hc : cells + rm.cells ≤ R.cells) (hs : slots + rm.slots ≤ R.slots) :
    ∃ (T' : State) (h' : Heap) (v : Option Value) (L : List Loc), Stand p l e R s m args below meth c T' (locs ++ L) (cells + rm.cells) (slots + rm.slots) ∧ T'.heap = h' ∧ Q v h' L ∧ ∀ t, Steps p.tables e below (T'.setTop { g with pc := g.pc + 3, stack := v.toList ++ rest }) t → Steps p.tables e below (T.setTop g) t := by
  obtain ⟨v, _, ⟨T', L', k', n'⟩, -, X', ⟨Lc, hQ, l', y', z'⟩, st⟩ := Jvm.LawKit.callS X hx hown (mvT hZ w1) (mvT hZ w2) (mvT hZ w3) (mvT hZ w4) hy (backOf (W := W) M hZ w4 w3 hf hl) hg hsize hlen hstack hW hd (fun _ _ => ⟨has, eT, hc, hs⟩)
  dsimp only [Pt.U, Pt.locs, Pt.cells, Pt.slots] at X' l' y' z' st hQ
  subst l' y' z'
  exact ⟨T', _, v, Lc, X', rfl, hQ, st⟩
theorem N.special (X : Stand p l e R s m args below meth c T locs cells slots) (hx : p.tables.exec = Jvm.exec) (hZ : Z.Warmed39 s.vm) {own : String} {index : Nat} {y : MethodName} {bytes : ByteArray} {maxL : Nat} {as' : Array Value} (hy1 : y.name = "<init>")
    (hown : s.vm.findClass own = some m.cls) (w1 : (Jvm.Cond.methodLink own index y).before a0 Z = true) (w2 : (Jvm.Cond.instanceMethod y).before a0 Z = true) (w3 : (Jvm.Cond.initialized y.cls).before a0 Z = true) (w4 : (Jvm.Cond.code y bytes maxL none).before a0 Z = true)
    (hy : y.cls ≠ "java/lang/invoke/MethodHandle" ∧ y.cls ≠ "java/lang/invoke/VarHandle") (M : MetN l Z y bytes maxL none rm [] as' h Q) (eT : T.heap = h) {g : JFrame} (hg : g.method = m) (hsize : g.locals.size = c.maxLocals) {a : Addr} {argsL rest : List Value} (has : (Value.ref a :: argsL).toArray = as')
    (hlen : ∀ sig, parseMethodDescriptor y.desc = some sig → argsL.length = sig.parameters.length) (hstack : g.stack = argsL.reverse ++ .ref a :: rest) {W : Nat} (hW : 2 * g.monitorRoom + (rest.map fun v => v.category).sum ≤ W) (hd : decode c.code g.pc = .ok (.invokespecial index, 3))
    (hf : rm.frames + 1 ≤ R.frames) (hl : W + (maxL + 11) + rm.locals ≤ R.locals) (hc : cells + rm.cells ≤ R.cells) (hs : slots + rm.slots ≤ R.slots) :
    ∃ (T' : State) (h' : Heap) (v : Option Value) (L : List Loc), Stand p l e R s m args below meth c T' (locs ++ L) (cells + rm.cells) (slots + rm.slots) ∧ T'.heap = h' ∧ Q v h' L ∧ ∀ t, Steps p.tables e below (T'.setTop { g with pc := g.pc + 3, stack := v.toList ++ rest }) t → Steps p.tables e below (T.setTop g) t := by
  obtain ⟨v, _, ⟨T', L', k', n'⟩, -, X', ⟨Lc, hQ, l', y', z'⟩, st⟩ := X.specialBack hx hy1 hown (mvT hZ w1) (mvT hZ w2) (mvT hZ w4) hy (backOf (W := W) M hZ w4 w3 hf hl) hg hsize (Steps.refl _) (a := a) hlen hstack hW hd (fun _ _ => ⟨has, eT, hc, hs⟩)
  dsimp only [Pt.U, Pt.locs, Pt.cells, Pt.slots] at X' l' y' z' st hQ
  subst l' y' z'
  exact ⟨T', _, v, Lc, X', rfl, hQ, fun t k => st.trans k⟩
theorem N.virtual (X : Stand p l e R s m args below meth c T locs cells slots) (hx : p.tables.exec = Jvm.exec) (hZ : Z.Warmed39 s.vm) {own C : String} {index : Nat} {y z : MethodName} {bytes : ByteArray} {maxL : Nat} {ret : Option FieldType} {as' : Array Value}
    (hown : s.vm.findClass own = some m.cls) (w1 : (Jvm.Cond.methodLink own index y).before a0 Z = true) (w5 : (Jvm.Cond.declares y).before a0 Z = true) (nf : NotFace s y) (w6 : (Jvm.Cond.selects C y z).before a0 Z = true) (w2 : (Jvm.Cond.instanceMethod z).before a0 Z = true) (w3 : (Jvm.Cond.initialized z.cls).before a0 Z = true) (w4 : (Jvm.Cond.code z bytes maxL ret).before a0 Z = true)
    (hy : y.cls ≠ "java/lang/invoke/MethodHandle" ∧ y.cls ≠ "java/lang/invoke/VarHandle") (M : MetN l Z z bytes maxL ret rm [] as' h Q) (eT : T.heap = h) {a : Addr} (E : Exa Z h a C) {g : JFrame} (hg : g.method = m) (hsize : g.locals.size = c.maxLocals) {argsL rest : List Value} (has : (Value.ref a :: argsL).toArray = as')
    (hlen : ∀ sig, parseMethodDescriptor y.desc = some sig → argsL.length = sig.parameters.length) (hstack : g.stack = argsL.reverse ++ .ref a :: rest) {W : Nat} (hW : 2 * g.monitorRoom + (rest.map fun v => v.category).sum ≤ W) (hd : decode c.code g.pc = .ok (.invokevirtual index, 3))
    (hf : rm.frames + 1 ≤ R.frames) (hl : W + (maxL + 11) + rm.locals ≤ R.locals) (hc : cells + rm.cells ≤ R.cells) (hs : slots + rm.slots ≤ R.slots) :
    ∃ (T' : State) (h' : Heap) (v : Option Value) (L : List Loc), Stand p l e R s m args below meth c T' (locs ++ L) (cells + rm.cells) (slots + rm.slots) ∧ T'.heap = h' ∧ Q v h' L ∧ ∀ t, Steps p.tables e below (T'.setTop { g with pc := g.pc + 3, stack := v.toList ++ rest }) t → Steps p.tables e below (T.setTop g) t := by
  obtain ⟨cq, kq, qa, qb, qc⟩ := isOf hZ eT E
  obtain ⟨v, _, ⟨T', L', k', n'⟩, -, X', ⟨Lc, hQ, l', y', z'⟩, st⟩ := X.virtualBack hx (y := y) (z := z) hown (mvT hZ w1) (mvT hZ w5) nf (mvT hZ w6) (mvT hZ w2) hy (backOf (W := W) M hZ w4 w3 hf hl) qa qc hg hsize (Steps.refl _) (argsL := argsL) hlen hstack hW hd (fun _ _ => ⟨has, eT, hc, hs⟩)
  dsimp only [Pt.U, Pt.locs, Pt.cells, Pt.slots] at X' l' y' z' st hQ
  subst l' y' z'
  exact ⟨T', _, v, Lc, X', rfl, hQ, fun t k => st.trans k⟩
theorem N.private (X : Stand p l e R s m args below meth c T locs cells slots) (hx : p.tables.exec = Jvm.exec) (hZ : Z.Warmed39 s.vm) {own C : String} {index : Nat} {y : MethodName} {bytes : ByteArray} {maxL : Nat} {ret : Option FieldType} {as' : Array Value}
    (hown : s.vm.findClass own = some m.cls) (w1 : (Jvm.Cond.methodLink own index y).before a0 Z = true) (w2 : (Jvm.Cond.instanceMethod y).before a0 Z = true) (w6 : (Jvm.Cond.selects y.cls y y).before a0 Z = true) (w5 : (Jvm.Cond.privateMethod y).before a0 Z = true) (w3 : (Jvm.Cond.initialized y.cls).before a0 Z = true) (w4 : (Jvm.Cond.code y bytes maxL ret).before a0 Z = true)
    (hy : y.cls ≠ "java/lang/invoke/MethodHandle" ∧ y.cls ≠ "java/lang/invoke/VarHandle") (M : MetN l Z y bytes maxL ret rm [] as' h Q) (eT : T.heap = h) {a : Addr} (E : Exa Z h a C) {g : JFrame} (hg : g.method = m) (hsize : g.locals.size = c.maxLocals) {argsL rest : List Value} (has : (Value.ref a :: argsL).toArray = as')
    (hlen : ∀ sig, parseMethodDescriptor y.desc = some sig → argsL.length = sig.parameters.length) (hstack : g.stack = argsL.reverse ++ .ref a :: rest) {W : Nat} (hW : 2 * g.monitorRoom + (rest.map fun v => v.category).sum ≤ W) (hd : decode c.code g.pc = .ok (.invokevirtual index, 3))
    (hf : rm.frames + 1 ≤ R.frames) (hl : W + (maxL + 11) + rm.locals ≤ R.locals) (hc : cells + rm.cells ≤ R.cells) (hs : slots + rm.slots ≤ R.slots) :
    ∃ (T' : State) (h' : Heap) (v : Option Value) (L : List Loc), Stand p l e R s m args below meth c T' (locs ++ L) (cells + rm.cells) (slots + rm.slots) ∧ T'.heap = h' ∧ Q v h' L ∧ ∀ t, Steps p.tables e below (T'.setTop { g with pc := g.pc + 3, stack := v.toList ++ rest }) t → Steps p.tables e below (T.setTop g) t := by
  obtain ⟨cq, kq, qa, qb, cell, qc, -, qd⟩ := isOf hZ eT E
  obtain ⟨v, _, ⟨T', L', k', n'⟩, -, X', ⟨Lc, hQ, l', y', z'⟩, st⟩ := X.privateBack hx (y := y) hown (mvT hZ w1) (mvT hZ w2) (mvT hZ w6) (Cond.privateMethod_at (args := #[]) (mvT hZ w5)) (mvT hZ w4) hy (backOf (W := W) M hZ w4 w3 hf hl) hg hsize (Steps.refl _) qc (fun q z => by rw [z] at qd; cases qd) (argsL := argsL) hlen hstack hW hd (fun _ _ => ⟨has, eT, hc, hs⟩)
  dsimp only [Pt.U, Pt.locs, Pt.cells, Pt.slots] at X' l' y' z' st hQ
  subst l' y' z'
  exact ⟨T', _, v, Lc, X', rfl, hQ, fun t k => st.trans k⟩
theorem N.iface (X : Stand p l e R s m args below meth c T locs cells slots) (hx : p.tables.exec = Jvm.exec) (hZ : Z.Warmed39 s.vm) {own C : String} {index count : Nat} {y z : MethodName} {bytes : ByteArray} {maxL : Nat} {ret : Option FieldType} {as' : Array Value}
    (hown : s.vm.findClass own = some m.cls) (w1 : (Jvm.Cond.methodLink own index y).before a0 Z = true) (w5 : (Jvm.Cond.declares y).before a0 Z = true) (w6 : (Jvm.Cond.selects C y z).before a0 Z = true) (w7 : (Jvm.Cond.interfaceMethod y.cls y.cls y.name y.desc).before args s = true) (w8 : (Jvm.Cond.publicMethod z).before a0 Z = true) (w9 : (Jvm.Cond.unhidden C y.name y.desc).before a0 Z = true) (w10 : (Jvm.Cond.castable C y.cls).before a0 Z = true) (w2 : (Jvm.Cond.instanceMethod z).before a0 Z = true) (w3 : (Jvm.Cond.initialized z.cls).before a0 Z = true) (w4 : (Jvm.Cond.code z bytes maxL ret).before a0 Z = true)
    (hy : y.cls ≠ "java/lang/invoke/MethodHandle" ∧ y.cls ≠ "java/lang/invoke/VarHandle") (M : MetN l Z z bytes maxL ret rm [] as' h Q) (eT : T.heap = h) {a : Addr} (E : Exa Z h a C) {g : JFrame} (hg : g.method = m) (hsize : g.locals.size = c.maxLocals) {argsL rest : List Value} (has : (Value.ref a :: argsL).toArray = as')
    (hlen : ∀ sig, parseMethodDescriptor y.desc = some sig → argsL.length = sig.parameters.length) (hstack : g.stack = argsL.reverse ++ .ref a :: rest) {W : Nat} (hW : 2 * g.monitorRoom + (rest.map fun v => v.category).sum ≤ W) (hd : decode c.code g.pc = .ok (.invokeinterface index count, 5))
    (hf : rm.frames + 1 ≤ R.frames) (hl : W + (maxL + 11) + rm.locals ≤ R.locals) (hc : cells + rm.cells ≤ R.cells) (hs : slots + rm.slots ≤ R.slots) :
    ∃ (T' : State) (h' : Heap) (v : Option Value) (L : List Loc), Stand p l e R s m args below meth c T' (locs ++ L) (cells + rm.cells) (slots + rm.slots) ∧ T'.heap = h' ∧ Q v h' L ∧ ∀ t, Steps p.tables e below (T'.setTop { g with pc := g.pc + 5, stack := v.toList ++ rest }) t → Steps p.tables e below (T.setTop g) t := by
  obtain ⟨cq, kq, qa, qb, qc⟩ := isOf hZ eT E
  obtain ⟨v, _, ⟨T', L', k', n'⟩, -, X', ⟨Lc, hQ, l', y', z'⟩, st⟩ := X.interfaceBack hx (xi := y) (y := z) hown (mvT hZ w1) (mvT hZ w5) w7 (mvT hZ w6) (mvT hZ w2) (mvT hZ w8) (mvT hZ w9) (mvT hZ w10) hy (backOf (W := W) M hZ w4 w3 hf hl) qa qb qc hg hsize (Steps.refl _) (argsL := argsL) hlen hstack hW hd (fun _ _ => ⟨has, eT, hc, hs⟩)
  dsimp only [Pt.U, Pt.locs, Pt.cells, Pt.slots] at X' l' y' z' st hQ
  subst l' y' z'
  exact ⟨T', _, v, Lc, X', rfl, hQ, fun t k => st.trans k⟩
theorem own_cat {v : Value} (q : v.isRef = true) : v.category = 1 := by rcases ref_cases q with rfl | ⟨_, rfl⟩ <;> rfl
theorem own_eqi {a b : Int32} (q : a = b) : (some (Value.int b) : Option Value) = some (Value.int a) := by rw [q]
theorem own_le {n0 : Nat} (X : Old Z n0 h) : n0 ≤ h.size := X.1 ▸ X.2.1
end Own
/-! the same layer for walks that may load String constants -/
def MetW (l : Launch) (Z : State) (y : MethodName) (bytes : ByteArray) (maxL : Nat) (ret : Option FieldType) (rm : Room) (ws : List Jvm.Cond) (as' : Array Value) (h : Heap) (EL : List (String × Nat)) (Q : Option Value → Heap → List Loc → Prop) : Prop :=
  MetFree l y (head1 (Jvm.Cond.code y bytes maxL ret :: ws) rm) (fun a U => a = as' ∧ Z.Warmed39 U.vm ∧ U.heap = h ∧ CHv Z EL U.vm h) (fun _ _ _ _ _ => True) (fun _ U o U' => ∃ v L, o = .returned v ∧ Q v U'.heap L ∧ CHr Z EL U.vm U.heap U'.vm U'.heap ∧ ReturnedEndW U o U' L rm.cells rm.slots)
def WinW (p : Program) (e : Env) (below : List Frame) (s : State) (rm : Room) (Z : State) (EL : List (String × Nat)) (Q : Option Value → Heap → List Loc → Prop) (st : State) : Prop :=
  ∃ s₂ o, Steps p.tables e below st s₂ ∧ s₂.status = .running ∧ Ended s₂ below o ∧ ∃ v L, o = .returned v ∧ Q v s₂.heap L ∧ CHr Z EL s.vm s.heap s₂.vm s₂.heap ∧ ReturnedEndW s o s₂ L rm.cells rm.slots
section OwnW
variable {p : Program} {l : Launch} {e : Env} {R rm : Room} {s : State} {m : MethodId} {args : Array Value} {below : List Frame} {meth : Method} {c : Code} {T : State} {locs : List Loc} {cells slots : Nat} {Z : State} {a0 : Array Value} {h : Heap} {Q : Option Value → Heap → List Loc → Prop} {EL : List (String × Nat)} {vm0 : Vm}
theorem WinW.to {A : State} (T : State) (g : JFrame) (k : ∀ t, Steps p.tables e below (T.setTop g) t → Steps p.tables e below A t) (w : WinW p e below s rm Z EL Q (T.setTop g)) : WinW p e below s rm Z EL Q A := by
  obtain ⟨s₂, o, h1, r⟩ := w
  exact ⟨s₂, o, k _ h1, r⟩
theorem WinW.out (X : Stand p l e R (s.setVm vm0) m args below meth c T locs cells slots) {n : Nat} (hS : s.Since vm0 n) (hn : n ≤ T.heap.size) {A : State} {v : Option Value} (hlk : meth.locks = false) (hv : meth.sig.returnType = none → v = none)
    (hst : ∀ fs, (∀ (f : JFrame) (acts : List Action), f.method = m → f.locked = none → f.entered = [] → (doReturn e (T.setTop f) acts v).1 = T.setFrames fs) → Steps p.tables e below A (T.setFrames fs))
    (hZ : Z.Warmed39 (s.setVm vm0).vm) (hE : EW Z a0 EL) (hC : CHr Z EL s.vm s.heap vm0 T.heap) (hc : cells ≤ rm.cells) (hs : slots ≤ rm.slots) (hq : Q v T.heap locs) : WinW p e below s rm Z EL Q A := by
  obtain ⟨fs, hr, hrun, hended, h1, h2, h3, h4⟩ := X.leaveW hS hn (v := v) hv
  exact ⟨_, _, hst fs hr, hrun, hended, _, _, rfl, hq, (show CHr Z EL s.vm s.heap T.vm T.heap from hC.trans (CHv.at X hZ hE hC.1)), h1, h2, h3, h4.mono hc hs⟩
theorem WinW.retN (X : Stand p l e R (s.setVm vm0) m args below meth c T locs cells slots) {n : Nat} (hS : s.Since vm0 n) (hn : n ≤ T.heap.size) (hx : p.tables.exec = Jvm.exec) (hlk : meth.locks = false) {pc : Nat} {Ls : Array Slot} {z z' : Int32} {t : FieldType} {rest : List Value} (hret : meth.sig.returnType = some t) (ht : t = .boolean ∨ t = .byte ∨ t = .char ∨ t = .short) (hz : nar t z = z')
    (hd : decode c.code pc = .ok (.ireturn, 1)) (hZ : Z.Warmed39 (s.setVm vm0).vm) (hE : EW Z a0 EL) (hC : CHr Z EL s.vm s.heap vm0 T.heap) (hc : cells ≤ rm.cells) (hs : slots ≤ rm.slots) (hq : Q (some (.int z')) T.heap locs) : WinW p e below s rm Z EL Q (T.setTop (mkF m pc Ls (.int z :: rest))) := by
  subst hz
  exact WinW.out X hS hn (v := some (.int (nar t z))) hlk (fun q => by rw [hret] at q; cases q) (fun fs hr => Jvm.RoadKit.retN X hx (t := t) hret ht hd hr) hZ hE hC hc hs hq
theorem WinW.retI (X : Stand p l e R (s.setVm vm0) m args below meth c T locs cells slots) {n : Nat} (hS : s.Since vm0 n) (hn : n ≤ T.heap.size) (hx : p.tables.exec = Jvm.exec) (hlk : meth.locks = false) {pc : Nat} {Ls : Array Slot} {z : Int32} {rest : List Value} (hret : meth.sig.returnType = some .int)
    (hd : decode c.code pc = .ok (.ireturn, 1)) (hZ : Z.Warmed39 (s.setVm vm0).vm) (hE : EW Z a0 EL) (hC : CHr Z EL s.vm s.heap vm0 T.heap) (hc : cells ≤ rm.cells) (hs : slots ≤ rm.slots) (hq : Q (some (.int z)) T.heap locs) : WinW p e below s rm Z EL Q (T.setTop (mkF m pc Ls (.int z :: rest))) :=
  WinW.out X hS hn (v := some (.int z)) hlk (fun q => by rw [hret] at q; cases q) (fun fs hr => retOut X hx hret rfl (Or.inl ⟨rfl, Or.inl rfl, z, rfl⟩) hd hr) hZ hE hC hc hs hq
theorem WinW.retA (X : Stand p l e R (s.setVm vm0) m args below meth c T locs cells slots) {n : Nat} (hS : s.Since vm0 n) (hn : n ≤ T.heap.size) (hx : p.tables.exec = Jvm.exec) (hlk : meth.locks = false) {pc : Nat} {Ls : Array Slot} {w : Value} {t : FieldType} {rest : List Value} (hret : meth.sig.returnType = some t) (ht : t.isReference = true) (hw : w.isRef = true)
    (hd : decode c.code pc = .ok (.areturn, 1)) (hZ : Z.Warmed39 (s.setVm vm0).vm) (hE : EW Z a0 EL) (hC : CHr Z EL s.vm s.heap vm0 T.heap) (hc : cells ≤ rm.cells) (hs : slots ≤ rm.slots) (hq : Q (some w) T.heap locs) : WinW p e below s rm Z EL Q (T.setTop (mkF m pc Ls (w :: rest))) :=
  WinW.out X hS hn (v := some w) hlk (fun q => by rw [hret] at q; cases q) (fun fs hr => retOut X hx hret (by rcases ref_cases hw with rfl | ⟨_, rfl⟩ <;> cases t <;> first | rfl | cases ht) (Or.inr (Or.inr (Or.inr (Or.inr ⟨rfl, ht, hw⟩)))) hd hr) hZ hE hC hc hs hq
theorem WinW.retV (X : Stand p l e R (s.setVm vm0) m args below meth c T locs cells slots) {n : Nat} (hS : s.Since vm0 n) (hn : n ≤ T.heap.size) (hx : p.tables.exec = Jvm.exec) (hlk : meth.locks = false) {pc : Nat} {Ls : Array Slot} (hret : meth.sig.returnType = none)
    (hd : decode c.code pc = .ok (.return_, 1)) (hZ : Z.Warmed39 (s.setVm vm0).vm) (hE : EW Z a0 EL) (hC : CHr Z EL s.vm s.heap vm0 T.heap) (hc : cells ≤ rm.cells) (hs : slots ≤ rm.slots) (hq : Q none T.heap locs) : WinW p e below s rm Z EL Q (T.setTop (mkF m pc Ls [])) :=
  WinW.out X hS hn (v := none) hlk (fun _ => rfl) (fun fs hr => X.returnOut hx hret hd hr) hZ hE hC hc hs hq
theorem MetW.walk {y : MethodName} {bytes : ByteArray} {maxL : Nat} {ret : Option FieldType} {ws : List Jvm.Cond} {as' : Array Value} (hp : plainFor y = true)
    (b : ∀ (p : Program) (e : Env) (s : State) (m : MethodId) (below : List Frame) (meth : Method) (c : Code) (s₁ : State), p.tables.exec = Jvm.exec → Z.Warmed39 (s.setVm s.vm).vm → c.code = bytes → c.maxLocals = maxL → (s.setVm s.vm).vm.findClass y.cls = some m.cls → meth.name = y.name → meth.sig.returnType = ret → meth.locks = false → CHr Z EL s.vm s.heap s.vm h → s.Since s.vm 0 →
      Stand p l e rm (s.setVm s.vm) m as' below meth c s₁ [] 0 0 → s₁.heap = h → WinW p e below s rm Z EL Q (s₁.setTop (entryFrame m as' maxL))) : MetW l Z y bytes maxL ret rm ws as' h EL Q := by
  refine MetFree.of_bodySF hp hisR ?_
  intro p e s m args below meth c s₁ Bd hml0 hP hK
  obtain ⟨rfl, hZ, hh, hV⟩ := hP
  exact b p e s m below meth c s₁ Bd.exec hZ Bd.bytes hml0 (findClass_of_methodNamed Bd.named) (name_of_methodNamed Bd.named Bd.method).1 Bd.returns Bd.notSynchronized (hh ▸ CHr.refl (hh ▸ hV)) ((State.WarmedH.refl s).since 0) (Stand.of_body Bd) (by rw [← hh, Bd.state]; rfl)
theorem W.static (X : Stand p l e R (s.setVm vm0) m args below meth c T locs cells slots) {k0 : Nat} (hS : s.Since vm0 k0) (hk : k0 ≤ h.size) (hx : p.tables.exec = Jvm.exec) (hZ : Z.Warmed39 (s.setVm vm0).vm) {own : String} {index : Nat} {y : MethodName} {bytes : ByteArray} {maxL : Nat} {ret : Option FieldType} {as' : Array Value}
    (hown : (s.setVm vm0).vm.findClass own = some m.cls) (w1 : (Jvm.Cond.methodLink own index y).before a0 Z = true) (w2 : (Jvm.Cond.static y).before a0 Z = true) (w3 : (Jvm.Cond.initialized y.cls).before a0 Z = true) (w4 : (Jvm.Cond.code y bytes maxL ret).before a0 Z = true)
    (hy : y.cls ≠ "java/lang/invoke/MethodHandle" ∧ y.cls ≠ "java/lang/invoke/VarHandle") (M : MetW l Z y bytes maxL ret rm [] as' h EL Q) (hE : EW Z a0 EL) (hC : CHv Z EL vm0 h) (eT : T.heap = h) {g : JFrame} (hg : g.method = m) (hsize : g.locals.size = c.maxLocals) {argsL rest : List Value} (has : argsL.toArray = as')
    (hlen : ∀ sig, parseMethodDescriptor y.desc = some sig → argsL.length = sig.parameters.length) (hstack : g.stack = argsL.reverse ++ rest) {W : Nat} (hW : 2 * g.monitorRoom + (rest.map fun v => v.category).sum ≤ W) (hd : decode c.code g.pc = .ok (.invokestatic index, 3))
    (hf : rm.frames + 1 ≤ R.frames) (hl : W + (maxL + 11) + rm.locals ≤ R.locals) (hc : cells + rm.cells ≤ R.cells) (hs : slots + rm.slots ≤ R.slots) :
    ∃ (T' : State) (h' : Heap) (v : Option Value) (L : List Loc) (k1 : Nat), Stand p l e R (s.setVm T'.vm) m args below meth c T' (locs ++ L) (cells + rm.cells) (slots + rm.slots) ∧ T'.heap = h' ∧ s.Since T'.vm k1 ∧ k1 ≤ h'.size ∧ Z.Warmed39 (s.setVm T'.vm).vm ∧ (s.setVm T'.vm).vm.findClass own = some m.cls ∧ Q v h' L ∧ CHr Z EL vm0 h T'.vm h' ∧
      ∀ t, Steps p.tables e below (T'.setTop { g with pc := g.pc + 3, stack := v.toList ++ rest }) t → Steps p.tables e below (T.setTop g) t := by
  obtain ⟨v, _, ⟨T', L', k', n'⟩, -, X', hS', hgr, ⟨Lc, hQ, l', y', z', hC2⟩, st⟩ := callSS X hx hown (mvT hZ w1) (mvT hZ w2) (mvT hZ w3) (mvT hZ w4) hy (backOfSH (W := W) M hZ w4 w3 hf hl hE hC) hg hsize hlen hstack hW hd (fun _ _ => ⟨has, eT, hc, hs⟩)
  dsimp only [Pt.U, Pt.locs, Pt.cells, Pt.slots] at X' l' y' z' st hQ hS' hgr hC2
  subst l' y' z'
  obtain ⟨X2, hS2, hZ2, hown2⟩ := rebS hS hk X' hS' (by rw [← eT]; exact hgr) hZ hown
  exact ⟨T', _, v, Lc, _, X2, rfl, hS2, Nat.le_refl _, hZ2, hown2, hQ, hC2, fun t k => st.trans k⟩
theorem W.special (X : Stand p l e R (s.setVm vm0) m args below meth c T locs cells slots) {k0 : Nat} (hS : s.Since vm0 k0) (hk : k0 ≤ h.size) (hx : p.tables.exec = Jvm.exec) (hZ : Z.Warmed39 (s.setVm vm0).vm) {own : String} {index : Nat} {y : MethodName} {bytes : ByteArray} {maxL : Nat} {as' : Array Value} (hy1 : y.name = "<init>")
    (hown : (s.setVm vm0).vm.findClass own = some m.cls) (w1 : (Jvm.Cond.methodLink own index y).before a0 Z = true) (w2 : (Jvm.Cond.instanceMethod y).before a0 Z = true) (w3 : (Jvm.Cond.initialized y.cls).before a0 Z = true) (w4 : (Jvm.Cond.code y bytes maxL none).before a0 Z = true)
    (hy : y.cls ≠ "java/lang/invoke/MethodHandle" ∧ y.cls ≠ "java/lang/invoke/VarHandle") (M : MetW l Z y bytes maxL none rm [] as' h EL Q) (hE : EW Z a0 EL) (hC : CHv Z EL vm0 h) (eT : T.heap = h) {g : JFrame} (hg : g.method = m) (hsize : g.locals.size = c.maxLocals) {a : Addr} {argsL rest : List Value} (has : (Value.ref a :: argsL).toArray = as')
    (hlen : ∀ sig, parseMethodDescriptor y.desc = some sig → argsL.length = sig.parameters.length) (hstack : g.stack = argsL.reverse ++ .ref a :: rest) {W : Nat} (hW : 2 * g.monitorRoom + (rest.map fun v => v.category).sum ≤ W) (hd : decode c.code g.pc = .ok (.invokespecial index, 3))
    (hf : rm.frames + 1 ≤ R.frames) (hl : W + (maxL + 11) + rm.locals ≤ R.locals) (hc : cells + rm.cells ≤ R.cells) (hs : slots + rm.slots ≤ R.slots) :
    ∃ (T' : State) (h' : Heap) (v : Option Value) (L : List Loc) (k1 : Nat), Stand p l e R (s.setVm T'.vm) m args below meth c T' (locs ++ L) (cells + rm.cells) (slots + rm.slots) ∧ T'.heap = h' ∧ s.Since T'.vm k1 ∧ k1 ≤ h'.size ∧ Z.Warmed39 (s.setVm T'.vm).vm ∧ (s.setVm T'.vm).vm.findClass own = some m.cls ∧ Q v h' L ∧ CHr Z EL vm0 h T'.vm h' ∧
      ∀ t, Steps p.tables e below (T'.setTop { g with pc := g.pc + 3, stack := v.toList ++ rest }) t → Steps p.tables e below (T.setTop g) t := by
  obtain ⟨v, _, ⟨T', L', k', n'⟩, -, X', hS', hgr, ⟨Lc, hQ, l', y', z', hC2⟩, st⟩ := X.specialBackS hx hy1 hown (mvT hZ w1) (mvT hZ w2) (mvT hZ w4) hy (backOfSH (W := W) M hZ w4 w3 hf hl hE hC) hg hsize (Steps.refl _) (a := a) hlen hstack hW hd (fun _ _ => ⟨has, eT, hc, hs⟩)
  dsimp only [Pt.U, Pt.locs, Pt.cells, Pt.slots] at X' l' y' z' st hQ hS' hgr hC2
  subst l' y' z'
  obtain ⟨X2, hS2, hZ2, hown2⟩ := rebS hS hk X' hS' (by rw [← eT]; exact hgr) hZ hown
  exact ⟨T', _, v, Lc, _, X2, rfl, hS2, Nat.le_refl _, hZ2, hown2, hQ, hC2, fun t k => st.trans k⟩
theorem W.virtual (X : Stand p l e R (s.setVm vm0) m args below meth c T locs cells slots) {k0 : Nat} (hS : s.Since vm0 k0) (hk : k0 ≤ h.size) (hx : p.tables.exec = Jvm.exec) (hZ : Z.Warmed39 (s.setVm vm0).vm) {own C : String} {index : Nat} {y z : MethodName} {bytes : ByteArray} {maxL : Nat} {ret : Option FieldType} {as' : Array Value}
    (hown : (s.setVm vm0).vm.findClass own = some m.cls) (w1 : (Jvm.Cond.methodLink own index y).before a0 Z = true) (w5 : (Jvm.Cond.declares y).before a0 Z = true) (nf : NotFace (s.setVm vm0) y) (w6 : (Jvm.Cond.selects C y z).before a0 Z = true) (w2 : (Jvm.Cond.instanceMethod z).before a0 Z = true) (w3 : (Jvm.Cond.initialized z.cls).before a0 Z = true) (w4 : (Jvm.Cond.code z bytes maxL ret).before a0 Z = true)
    (hy : y.cls ≠ "java/lang/invoke/MethodHandle" ∧ y.cls ≠ "java/lang/invoke/VarHandle") (M : MetW l Z z bytes maxL ret rm [] as' h EL Q) (hE : EW Z a0 EL) (hC : CHv Z EL vm0 h) (eT : T.heap = h) {a : Addr} (E : Exa Z h a C) {g : JFrame} (hg : g.method = m) (hsize : g.locals.size = c.maxLocals) {argsL rest : List Value} (has : (Value.ref a :: argsL).toArray = as')
    (hlen : ∀ sig, parseMethodDescriptor y.desc = some sig → argsL.length = sig.parameters.length) (hstack : g.stack = argsL.reverse ++ .ref a :: rest) {W : Nat} (hW : 2 * g.monitorRoom + (rest.map fun v => v.category).sum ≤ W) (hd : decode c.code g.pc = .ok (.invokevirtual index, 3))
    (hf : rm.frames + 1 ≤ R.frames) (hl : W + (maxL + 11) + rm.locals ≤ R.locals) (hc : cells + rm.cells ≤ R.cells) (hs : slots + rm.slots ≤ R.slots) :
    ∃ (T' : State) (h' : Heap) (v : Option Value) (L : List Loc) (k1 : Nat), Stand p l e R (s.setVm T'.vm) m args below meth c T' (locs ++ L) (cells + rm.cells) (slots + rm.slots) ∧ T'.heap = h' ∧ s.Since T'.vm k1 ∧ k1 ≤ h'.size ∧ Z.Warmed39 (s.setVm T'.vm).vm ∧ (s.setVm T'.vm).vm.findClass own = some m.cls ∧ Q v h' L ∧ CHr Z EL vm0 h T'.vm h' ∧
      ∀ t, Steps p.tables e below (T'.setTop { g with pc := g.pc + 3, stack := v.toList ++ rest }) t → Steps p.tables e below (T.setTop g) t := by
  obtain ⟨cq, kq, qa, qb, qc⟩ := isOf hZ eT E
  obtain ⟨v, _, ⟨T', L', k', n'⟩, -, X', hS', hgr, ⟨Lc, hQ, l', y', z', hC2⟩, st⟩ := X.virtualBackS hx (y := y) (z := z) hown (mvT hZ w1) (mvT hZ w5) nf (mvT hZ w6) (mvT hZ w2) hy (backOfSH (W := W) M hZ w4 w3 hf hl hE hC) qa qc hg hsize (Steps.refl _) (argsL := argsL) hlen hstack hW hd (fun _ _ => ⟨has, eT, hc, hs⟩)
  dsimp only [Pt.U, Pt.locs, Pt.cells, Pt.slots] at X' l' y' z' st hQ hS' hgr hC2
  subst l' y' z'
  obtain ⟨X2, hS2, hZ2, hown2⟩ := rebS hS hk X' hS' (by rw [← eT]; exact hgr) hZ hown
  exact ⟨T', _, v, Lc, _, X2, rfl, hS2, Nat.le_refl _, hZ2, hown2, hQ, hC2, fun t k => st.trans k⟩
theorem own_safe {x : Addr} {n : Nat} {vm : Vm} (hal : Z.vm.Alike vm) (E : Exa Z h x "java/lang/String") (F : Fld Z h x "java/lang/String" "value" "[B" .null) (wi : (Jvm.Cond.instantiable "java/lang/String" n).before a0 Z = true) : Safe Z EL vm h x := fun B => by
  obtain ⟨cell, cf, k, i, f, f1, f2, f3, f4, f5, f6, f7⟩ := F
  obtain ⟨p, -, u, a, -, q, -, ⟨cS, ⟨⟨s1, s2, s3, ⟨cv, kv, iv, s4, s4'⟩, -, s6, s7, s8, s9, s10, s11, s12, s13, s14, s15, s16⟩, hfS, hcS⟩, -, hB, -⟩, hy⟩ := B
  rcases hy with rfl | rfl
  · obtain ⟨kv', z4⟩ := ff_back (U := Wst Z vm h) hal s4
    cases f1.symm.trans s1
    cases f2.symm.trans z4
    cases f7.symm.trans s8
  · have A : Arr Z h q.sd q.SA .byte := by
      have hB : vm.findClass "[B" = some q.SA.cls := hB
      have hBZ : Z.vm.findClass "[B" = some q.SA.cls := by rw [← hal.findClass]; exact hB
      obtain ⟨kb, hkb, -⟩ := Vm.findClass_spec hBZ
      obtain ⟨kb', hkb', ekb⟩ := hal.2.2 _ _ hkb
      obtain ⟨hst, k9, hk9, comp, hkind9⟩ := s11
      have hk9 : vm.classes[q.SA.cls]? = some k9 := hk9
      have ek9 : k9 = kb' := Option.some.inj (hk9.symm.trans hkb')
      exact ⟨s10, ⟨hst, kb, hkb, comp, by rw [ek9, ekb] at hkind9; exact hkind9⟩, s12⟩
    exact ne_arr E wi A rfl
end OwnW
/-! arrays of ints as functions -/
def upd (f : Nat → Int32) (i : Nat) (v : Int32) : Nat → Int32 := fun x => if x = i then v else f x
def ArF (Z : State) (h : Heap) (a : Addr) (k : ClassId) (ty : FieldType) (n : Nat) (f : Nat → Int32) : Prop := ∃ c : Cell, Arr Z h a c ty ∧ c.cls = k ∧ c.slots.size = n ∧ n < 2 ^ 31 ∧ (∀ i, i < n → c.slots[i]? = some (.int (f i))) ∧ ∀ i, i < n → fits ty (.int (f i)) = true
section OwnS
variable {Z : State} {h h' : Heap} {a b : Addr} {k : ClassId} {ty : FieldType} {n : Nat} {f : Nat → Int32} {sl : Nat} {v : Value} {ws : List Addr}
theorem ArF.lt (F : ArF Z h a k ty n f) : a < h.size := by obtain ⟨c, A, -⟩ := F; exact A.lt
theorem ArF.ext (F : ArF Z h a k ty n f) (E : Ext h h') : ArF Z h' a k ty n f := by obtain ⟨c, A, r⟩ := F; exact ⟨c, A.ext E, r⟩
theorem ArF.other (F : ArF Z h b k ty n f) (W : Wr h h' a sl v) (q : b ≠ a) : ArF Z h' b k ty n f := by obtain ⟨c, A, r⟩ := F; exact ⟨c, A.other W q, r⟩
theorem ArF.keep (F : ArF Z h a k ty n f) (K : Keep h h' ws) (q : a ∉ ws) : ArF Z h' a k ty n f := by obtain ⟨c, A, r⟩ := F; exact ⟨c, ⟨K.2.1 a c A.1 q, A.2⟩, r⟩
theorem ArF.big (F : ArF Z h a k ty n f) : n < 2 ^ 31 := by obtain ⟨c, -, -, -, q, -, -⟩ := F; exact q
theorem ArF.cong (F : ArF Z h a k ty n f) {g : Nat → Int32} (q : ∀ i, i < n → f i = g i) : ArF Z h a k ty n g := by
  obtain ⟨c, A, r1, r2, r3, r4, r5⟩ := F
  exact ⟨c, A, r1, r2, r3, fun i hi => by rw [← q i hi]; exact r4 i hi, fun i hi => by rw [← q i hi]; exact r5 i hi⟩
theorem ArF.at (F : ArF Z h a k ty n f) {j : Int32} {i : Nat} (hj : j.toNatClampNeg = i) (h0 : ¬ j < 0) (hi : i < n) : ∃ cl : Cell, Arr Z h a cl ty ∧ ¬ (j < 0 ∨ cl.slots.size ≤ j.toNatClampNeg) ∧ cl.slots[j.toNatClampNeg]? = some (.int (f i)) := by
  obtain ⟨c, A, -, r2, -, r4, -⟩ := F
  refine ⟨c, A, ?_, ?_⟩
  · rintro (q | q)
    · exact h0 q
    · omega
  · rw [hj]; exact r4 i hi
theorem ArF.len (F : ArF Z h a k ty n f) : ∃ cl : Cell, Arr Z h a cl ty ∧ cl.slots.size.toInt32 = n.toInt32 := by
  obtain ⟨c, A, -, r2, -, -, -⟩ := F
  exact ⟨c, A, by rw [r2]⟩
theorem ArF.set {i : Nat} {x : Int32} (F : ArF Z h a k ty n f) (W : Wr h h' a sl (.int x)) (hs : sl = i) (hi : i < n) (hf : fits ty (.int x) = true) : ArF Z h' a k ty n (upd f i x) := by
  subst hs
  obtain ⟨c, A, r1, r2, r3, r4, r5⟩ := F
  obtain ⟨c', e1, e2, e3, e4, -, e6, e7⟩ := wr_at W A.1
  have A' := A.same W
  obtain ⟨q1, q2, -⟩ := e7 rfl
  subst q1
  refine ⟨_, A', by rw [e2]; exact r1, by rw [e4]; exact r2, r3, fun j hj => ?_, fun j hj => ?_⟩
  · by_cases q : j = sl
    · subst q; simp only [upd, if_pos]; exact q2
    · rw [e6 j q]; simp only [upd, if_neg q]; exact r4 j hj
  · by_cases q : j = sl
    · subst q; simp only [upd, if_pos]; exact hf
    · simp only [upd, if_neg q]; exact r5 j hj
theorem ArF.new {z : Int32} (A : Arr Z h a (newA k ty z) ty) (q : ¬ z < 0) (hd : defaultValue ty = .int 0) : ArF Z h a k ty z.toNatClampNeg (fun _ => 0) :=
  ⟨_, A, rfl, sz_new _ _ _, (back32 q).2, fun i hi => by simp [newA, hi, hd], fun i hi => by cases ty <;> simp [defaultValue] at hd <;> rfl⟩
theorem own_arfL {z : Int32} {vs : List Value} {dv : Value} (F : Arv Z h a k ty z vs dv) (hn : z.toNatClampNeg = n) (hv : ∀ i, i < n → vs.getD i dv = .int (f i)) : ArF Z h a k ty n f := by
  obtain ⟨c, A, r1, r2, r3, H, G⟩ := F
  refine ⟨c, A, r1, by rw [r2, hn], hn ▸ (back32 r3).2, fun i hi => ?_, fun i hi => ?_⟩
  · rw [H i (by rw [r2, hn]; exact hi), hv i hi]
  · rw [← hv i hi]; exact G i (by rw [r2, hn]; exact hi)
theorem own_arf {z : Int32} {d : Int32} (cs : List Int32) (F : Arv Z h a k ty z (cs.map Value.int) (.int d)) (hn : z.toNatClampNeg = n) : ArF Z h a k ty n (fun i => cs.getD i d) :=
  own_arfL F hn fun i _ => by
    simp only [List.getD_eq_getElem?_getD, List.getElem?_map]
    cases cs[i]? <;> rfl
theorem own_arv (F : ArF Z h a k ty n f) : Arv Z h a k ty n.toInt32 ((List.range n).map fun i => Value.int (f i)) (.int 0) := by
  obtain ⟨c, A, r1, r2, r3, r4, r5⟩ := F
  have q := len_toInt r3
  have e : n.toInt32.toNatClampNeg = n := by show n.toInt32.toInt.toNat = n; rw [q]; rfl
  have g : ∀ i, i < n → ((List.range n).map fun i => Value.int (f i)).getD i (.int 0) = .int (f i) := fun i hi => by simp [hi]
  refine ⟨c, A, r1, by rw [r2, e], ?_, fun i hi => ?_, fun i hi => ?_⟩
  · rw [Int32.lt_iff_toInt_lt, q]
    have : (0 : Int32).toInt = 0 := rfl
    omega
  · rw [g i (by omega)]; exact r4 i (by omega)
  · rw [g i (by omega)]; exact r5 i (by omega)
theorem own_neF {C : String} {m : Nat} {a0 : Array Value} (E : Exa Z h a C) (F : ArF Z h b k ty n f) (w : (Jvm.Cond.instantiable C m).before a0 Z = true) : a ≠ b := by
  obtain ⟨c, A, -⟩ := F
  exact ne_arr E w A
theorem own_tn {j : Nat} (hj : j < 2 ^ 31) : j.toInt32.toNatClampNeg = j ∧ ¬ j.toInt32 < 0 ∧ j.toInt32.toInt = j := by
  have q := len_toInt hj
  refine ⟨?_, ?_, q⟩
  · show j.toInt32.toInt.toNat = j
    rw [q]; rfl
  · rw [Int32.lt_iff_toInt_lt, q]
    have : (0 : Int32).toInt = 0 := rfl
    omega
theorem own_lt {j n : Nat} (hj : j < 2 ^ 31) (hn : n < 2 ^ 31) : j.toInt32 < n.toInt32 ↔ j < n := by
  rw [Int32.lt_iff_toInt_lt, len_toInt hj, len_toInt hn]; omega
theorem own_succ (j : Nat) : j.toInt32 + (1 : Int32) = (j + 1).toInt32 := (Int32.ofNat_add j 1).symm
end OwnS
def EL1 : List (String × Nat) := [("java/lang/String", 7)]
theorem own_wS {Z : State} {a0 : Array Value} (hw : ∀ d ∈ tables_1, d.before a0 Z = true) : ∀ a ∈ Bundle.stringAtoms, a.before a0 Z = true := by
  intro a ha
  simp only [Bundle.stringAtoms, List.mem_cons, List.not_mem_nil, or_false] at ha
  rcases ha with rfl | rfl | rfl | rfl | rfl | rfl | rfl
  · exact (wk hw 8 rfl)
  · exact (wk hw 7 rfl)
  · exact (wk hw 20 rfl)
  · exact (wk hw 21 rfl)
  · exact (wk hw 22 rfl)
  · exact (wk hw 23 rfl)
  · exact (wk hw 24 rfl)
theorem own_EW {Z : State} {a0 : Array Value} (hw : ∀ d ∈ tables_1, d.before a0 Z = true) : EW Z a0 EL1 := (EW.cons (wk hw 19 rfl) (by decide) EW.nil)
theorem own_b8 (x : Int32) : nar .byte x.toInt8.toInt32 = x.toInt8.toInt32 := by
  show x.toInt8.toInt32.toInt8.toInt32 = x.toInt8.toInt32
  rw [Int8.toInt8_toInt32]
theorem own_nz {n : Nat} (hn : n < 2 ^ 31) (hp : 0 < n) : ¬ (n.toInt32 = (0 : Int32)) := fun q => by
  have e := congrArg Int32.toInt q
  rw [len_toInt hn] at e
  have : (0 : Int32).toInt = 0 := rfl
  omega
theorem own_zero {n : Nat} (hn : n < 2 ^ 31) (q : n.toInt32 = (0 : Int32)) : n = 0 := by
  have e := congrArg Int32.toInt q
  rw [len_toInt hn] at e
  have : (0 : Int32).toInt = 0 := rfl
  omega
theorem own_inj {n m : Nat} (hn : n < 2 ^ 31) (hm : m < 2 ^ 31) (q : n.toInt32 = m.toInt32) : n = m := by
  have e := congrArg Int32.toInt q
  rw [len_toInt hn, len_toInt hm] at e
  omega
theorem own_same {Z : State} {h : Heap} {a1 a2 t1 t2 : Addr} {k1 k2 : ClassId} {ty : FieldType} {n1 n2 : Nat} {f1 f2 : Nat → Int32} {C n d : String} (q : a1 = a2) (F : Fld Z h a1 C n d (.ref t1)) (G : Fld Z h a2 C n d (.ref t2)) (A : ArF Z h t1 k1 ty n1 f1) (B : ArF Z h t2 k2 ty n2 f2) : n1 = n2 ∧ ∀ i, i < n1 → f1 i = f2 i := by
  subst q
  obtain ⟨c1, cf, kk, j, fd, g1, g2, -, -, -, -, g7⟩ := F
  obtain ⟨c2, cf', kk', j', fd', e1, e2, -, -, -, -, e7⟩ := G
  cases g1.symm.trans e1
  cases g2.symm.trans e2
  cases g7.symm.trans e7
  obtain ⟨c3, A1, -, r2, -, r4, -⟩ := A
  obtain ⟨c4, B1, -, s2, -, s4, -⟩ := B
  cases A1.1.symm.trans B1.1
  have hn : n1 = n2 := r2.symm.trans s2
  exact ⟨hn, fun i hi => Value.int.inj (Option.some.inj ((r4 i hi).symm.trans (s4 i (hn ▸ hi))))⟩
theorem own_shr0 (x : Int32) : (x >>> ((0 : Int32) &&& 31)) = x := by
  rw [show ((0 : Int32) &&& 31) = 0 from rfl]
  exact Int32.shiftRight_zero
theorem own_sub {b e : Nat} (hb : b < 2 ^ 31) (he : e < 2 ^ 31) (q : b ≤ e) : e.toInt32 - b.toInt32 = (e - b).toInt32 := by
  apply Int32.toInt_inj.mp
  have a := c_isub e.toInt32 b.toInt32
  have r := rng32 (e.toInt32 - b.toInt32)
  rw [len_toInt hb, len_toInt he] at a
  rw [len_toInt (show e - b < 2 ^ 31 by omega)]
  omega
theorem own_add {b m : Nat} (q : b + m < 2 ^ 31) : b.toInt32 + m.toInt32 = (b + m).toInt32 := (Int32.ofNat_add b m).symm
theorem own_min {a m : Nat} (ha : a < 2 ^ 31) (hm : m < 2 ^ 31) (q : m ≤ a) (h : ¬ m.toInt32 < a.toInt32) : m.toInt32 = a.toInt32 := by
  rw [show m = a from Nat.le_antisymm q (Nat.le_of_not_lt fun z => h ((own_lt hm ha).mpr z))]
theorem own_cp {b m n i : Nat} {f : Nat → Int32} (hi : i < m) (hb : b + m ≤ n) :
    ((((List.range m).map fun i => Value.int ((fun _ => (0 : Int32)) i)).take (0 : Int32).toNatClampNeg) ++ ((List.range m).map fun i => ((List.range n).map fun i => Value.int (f i)).getD (b + i) (.int 0)) ++ (((List.range m).map fun i => Value.int ((fun _ => (0 : Int32)) i)).drop ((0 : Int32).toNatClampNeg + m))).getD i (.int 0) = .int (f (b + i)) := by
  have z : (0 : Int32).toNatClampNeg = 0 := rfl
  rw [z, List.take_zero, List.nil_append, List.getD_eq_getElem?_getD, List.getElem?_append_left (by simpa using hi)]
  simp [hi, show b + i < n by omega]
theorem own_pre {j : Nat} (hj : j < 2 ^ 31) (hp : 0 < j) : (j.toInt32 - (1 : Int32)).toNatClampNeg = j - 1 ∧ ¬ (j.toInt32 - (1 : Int32)) < (0 : Int32) ∧ True := by
  have a := own_sub (b := 1) (by omega) hj hp
  have b : ((1 : Nat).toInt32) = (1 : Int32) := rfl
  rw [b] at a
  rw [a]
  have c := own_tn (j := j - 1) (by omega)
  exact ⟨c.1, c.2.1, trivial⟩
theorem own_dec (i : Nat) : ((i + 1).toInt32 - (1 : Int32)) + (-1 : Int32) = i.toInt32 - (1 : Int32) := by
  rw [← own_succ i, Int32.add_sub_cancel, Int32.sub_eq_add_neg]
theorem own_255 (x : Int32) : ¬ (255 : Int32) < (x &&& (255 : Int32)) := by
  have h := (c_and x (255 : Int32) (by decide)).2
  rw [Int32.lt_iff_toInt_lt]
  omega
theorem own_rng {q : Int32} (h : ¬ (255 : Int32) < q) (hc : nar .char q = q) : 0 ≤ q.toInt ∧ q.toInt ≤ 255 := by
  have b := c_i2c q
  have e : q.toUInt32.toUInt16.toUInt32.toInt32 = q := hc
  rw [e] at b
  rw [Int32.lt_iff_toInt_lt] at h
  have e1 : (255 : Int32).toInt = 255 := by decide
  omega
theorem own_sp2 {q : Int32} (h : ¬ (255 : Int32) < q) (hc : nar .char q = q) (hn : ¬ q = (32 : Int32)) : ¬ q.toInt8.toInt32 = (32 : Int32) := fun z => hn (by
  have a := own_rng h hc
  have b := c_i2b q
  rw [z] at b
  have e2 : (32 : Int32).toInt = 32 := by decide
  apply Int32.toInt_inj.mp
  omega)
theorem own_b255 {q : Int32} (h : ¬ (255 : Int32) < q) (hc : nar .char q = q) : (q.toInt8.toInt32 &&& (255 : Int32)) = q := by
  have a := own_rng h hc
  have b := c_i2b q
  have m : (q.toInt8.toInt32 &&& (255 : Int32)).toInt = q.toInt8.toInt32.toInt % (2 ^ 8 : Nat) := c_mask q.toInt8.toInt32 (255 : Int32) 8 (by decide) (by decide)
  have e : ((2 ^ 8 : Nat) : Int) = 256 := by decide
  apply Int32.toInt_inj.mp
  rw [m, e]
  omega
def u16 (f : Nat → Int32) (i : Nat) : Int32 := if i % 2 = 0 then (f (i / 2) >>> ((0 : Int32) &&& 31)).toInt8.toInt32 else (f (i / 2) >>> ((8 : Int32) &&& 31)).toInt8.toInt32
def own_gc (a b : Int32) : Int32 := (((a &&& (255 : Int32)) <<< ((0 : Int32) &&& 31)) ||| ((b &&& (255 : Int32)) <<< ((8 : Int32) &&& 31))).toUInt32.toUInt16.toUInt32.toInt32
theorem own_shl1 {n : Nat} (h : 2 * n < 2 ^ 31) : (n.toInt32 <<< ((1 : Int32) &&& 31)) = (2 * n).toInt32 := by
  apply Int32.toInt_inj.mp
  have a := c_ishl n.toInt32 (1 : Int32) 1 (by decide)
  have r := rng32 (n.toInt32 <<< ((1 : Int32) &&& 31))
  rw [len_toInt (show n < 2 ^ 31 by omega)] at a
  rw [len_toInt h]
  omega
theorem own_shr1 {n : Nat} (h : 2 * n < 2 ^ 31) : ((2 * n).toInt32 >>> ((1 : Int32) &&& 31)) = n.toInt32 := by
  apply Int32.toInt_inj.mp
  have a := c_ishr (2 * n).toInt32 (1 : Int32) 1 (by decide)
  rw [len_toInt h] at a
  rw [len_toInt (show n < 2 ^ 31 by omega)]
  omega
theorem own_neg31 {n : Nat} (hp : 0 < n) (h : 2 * n < 2 ^ 31) : (((n.toInt32 - (2 * n).toInt32).toUInt32 >>> ((31 : Int32) &&& 31).toUInt32).toInt32) = (1 : Int32) := by
  apply Int32.toInt_inj.mp
  have a := c_isub n.toInt32 (2 * n).toInt32
  have r := rng32 (n.toInt32 - (2 * n).toInt32)
  have b := c_iushr (n.toInt32 - (2 * n).toInt32) (31 : Int32) 31 (by decide) (by decide)
  rw [len_toInt h, len_toInt (show n < 2 ^ 31 by omega)] at a
  have e : (1 : Int32).toInt = 1 := by decide
  rw [e, b]
  omega
theorem own_c16 (x : Int32) : nar .char (x.toUInt32.toUInt16.toUInt32.toInt32) = x.toUInt32.toUInt16.toUInt32.toInt32 := by
  apply Int32.toInt_inj.mp
  have a := c_i2c x
  have b := c_i2c (x.toUInt32.toUInt16.toUInt32.toInt32)
  show (x.toUInt32.toUInt16.toUInt32.toInt32.toUInt32.toUInt16.toUInt32.toInt32).toInt = _
  omega
theorem own_nc16 {x : Int32} (h1 : 0 ≤ x.toInt) (h2 : x.toInt < 65536) : nar .char x = x := by
  apply Int32.toInt_inj.mp
  have a := c_i2c x
  show (x.toUInt32.toUInt16.toUInt32.toInt32).toInt = _
  omega
theorem own_fr {Z : State} {h : Heap} {a : Addr} {k : ClassId} {n : Nat} {f : Nat → Int32} (F : ArF Z h a k .char n f) : ∀ i, i < n → 0 ≤ (f i).toInt ∧ (f i).toInt < 65536 := fun i hi => by
  obtain ⟨c, -, -, -, -, -, r⟩ := F
  obtain ⟨w, e, h1, h2⟩ := fits_char (r i hi)
  cases e
  rw [Int32.le_iff_toInt_le] at h1 h2
  have e1 : (0 : Int32).toInt = 0 := rfl
  have e2 : (65535 : Int32).toInt = 65535 := by decide
  omega
theorem own_gcu {f : Nat → Int32} {i : Nat} (h1 : 0 ≤ (f i).toInt) (h2 : (f i).toInt < 65536) : own_gc (u16 f (2 * i)) (u16 f (2 * i + 1)) = f i := by
  have e0 : u16 f (2 * i) = (f i >>> ((0 : Int32) &&& 31)).toInt8.toInt32 := by
    simp only [u16]
    rw [if_pos (by omega), show 2 * i / 2 = i by omega]
  have e1 : u16 f (2 * i + 1) = (f i >>> ((8 : Int32) &&& 31)).toInt8.toInt32 := by
    simp only [u16]
    rw [if_neg (by omega), show (2 * i + 1) / 2 = i by omega]
  rw [e0, e1]
  generalize f i = x at h1 h2
  apply Int32.toInt_inj.mp
  have s0 := c_ishr x (0 : Int32) 0 (by decide)
  have s8 := c_ishr x (8 : Int32) 8 (by decide)
  generalize (x >>> ((0 : Int32) &&& 31)) = y0 at s0
  generalize (x >>> ((8 : Int32) &&& 31)) = y8 at s8
  have b0 := c_i2b y0
  have b8 := c_i2b y8
  generalize y0.toInt8.toInt32 = z0 at b0
  generalize y8.toInt8.toInt32 = z8 at b8
  have m0 : (z0 &&& (255 : Int32)).toInt = z0.toInt % (2 ^ 8 : Nat) := c_mask z0 (255 : Int32) 8 (by decide) (by decide)
  have m8 : (z8 &&& (255 : Int32)).toInt = z8.toInt % (2 ^ 8 : Nat) := c_mask z8 (255 : Int32) 8 (by decide) (by decide)
  simp only [own_gc]
  generalize (z0 &&& (255 : Int32)) = v0 at m0
  generalize (z8 &&& (255 : Int32)) = v8 at m8
  have l0 := c_ishl v0 (0 : Int32) 0 (by decide)
  have l8 := c_ishl v8 (8 : Int32) 8 (by decide)
  have r0 := rng32 (v0 <<< ((0 : Int32) &&& 31))
  have r8 := rng32 (v8 <<< ((8 : Int32) &&& 31))
  generalize (v0 <<< ((0 : Int32) &&& 31)) = t0 at l0 r0
  generalize (v8 <<< ((8 : Int32) &&& 31)) = t8 at l8 r8
  have e2 : ((2 ^ 8 : Nat) : Int) = 256 := by decide
  have e3 : ((2 ^ 0 : Nat) : Int) = 1 := by decide
  rw [e2] at m0 m8 l8 s8
  rw [e3] at l0 s0
  have o := c_or' t0 t8 8 (by decide) 256 (by decide) (by omega) (by omega) (by omega)
  have r := rng32 (t0 ||| t8)
  generalize (t0 ||| t8) = w at o r
  have q := c_i2c w
  omega
theorem own_u16s (f : Nat → Int32) (j i : Nat) : upd (upd (fun i => if i < 2 * j then u16 f i else 0) (2 * j) ((f j >>> ((0 : Int32) &&& 31)).toInt8.toInt32)) (2 * j + 1) ((f j >>> ((8 : Int32) &&& 31)).toInt8.toInt32) i = if i < 2 * (j + 1) then u16 f i else 0 := by
  simp only [upd]
  by_cases q1 : i = 2 * j + 1
  · subst q1
    rw [if_pos rfl, if_pos (by omega)]
    simp only [u16]
    rw [if_neg (by omega), show (2 * j + 1) / 2 = j by omega]
  · rw [if_neg q1]
    by_cases q2 : i = 2 * j
    · subst q2
      rw [if_pos rfl, if_pos (by omega)]
      simp only [u16]
      rw [if_pos (by omega), show 2 * j / 2 = j by omega]
    · rw [if_neg q2]
      by_cases q3 : i < 2 * j
      · rw [if_pos q3, if_pos (by omega)]
      · rw [if_neg q3, if_neg (by omega)]
def hsur (c : Int32) : Prop := ¬ c < (55296 : Int32) ∧ c < (56320 : Int32)
def lsur (c : Int32) : Prop := ¬ c < (56320 : Int32) ∧ c < (57344 : Int32)
instance (c : Int32) : Decidable (hsur c) := by unfold hsur; infer_instance
instance (c : Int32) : Decidable (lsur c) := by unfold lsur; infer_instance
def cp (f : Nat → Int32) (n : Nat) : Nat → Nat → Nat
  | 0, _ => 0
  | q + 1, i => if i + 1 < n then (if hsur (f i) ∧ lsur (f (i + 1)) then 1 + cp f n q (i + 2) else cp f n q (i + 1)) else 0
theorem cp_end {f : Nat → Int32} {n q i : Nat} (h : ¬ i + 1 < n) : cp f n q i = 0 := by
  cases q with
  | zero => rfl
  | succ q => simp only [cp]; rw [if_neg h]
theorem cp_no {f : Nat → Int32} {n q i : Nat} (h : ¬ (hsur (f i) ∧ lsur (f (i + 1)))) : cp f n (q + 1) i = cp f n q (i + 1) := by
  by_cases hi : i + 1 < n
  · simp only [cp]; rw [if_pos hi, if_neg h]
  · rw [cp_end hi, cp_end (by omega)]
theorem cp_yes {f : Nat → Int32} {n q i : Nat} (hi : i + 1 < n) (h : hsur (f i) ∧ lsur (f (i + 1))) : cp f n (q + 1) i = 1 + cp f n q (i + 2) := by
  simp only [cp]; rw [if_pos hi, if_pos h]
theorem cp_skip {f : Nat → Int32} {n q : Nat} : ∀ (d i : Nat), (∀ x, i ≤ x → x < i + d → ¬ (hsur (f x) ∧ lsur (f (x + 1)))) → cp f n (q + d) i = cp f n q (i + d) := by
  intro d
  induction d with
  | zero => intro i _; rfl
  | succ d ih =>
    intro i h
    rw [show q + (d + 1) = (q + d) + 1 by omega, cp_no (h i (Nat.le_refl _) (by omega)), ih (i + 1) (fun x h1 h2 => h x (by omega) (by omega)), show i + 1 + d = i + (d + 1) by omega]
theorem cp_two {f : Nat → Int32} {n : Nat} (h5 : 5 ≤ n) (hm : ∀ x, 1 ≤ x → x < n - 2 → ¬ (hsur (f x) ∧ lsur (f (x + 1)))) :
    cp f n n 0 = (if hsur (f 0) ∧ lsur (f 1) then 1 else 0) + (if hsur (f (n - 2)) ∧ lsur (f (n - 1)) then 1 else 0) := by
  have e : n - 2 + 1 = n - 1 := by omega
  have last : ∀ q, 1 ≤ q → cp f n (q + 1) (n - 2) = (if hsur (f (n - 2)) ∧ lsur (f (n - 1)) then 1 else 0) := fun q hq => by
    by_cases h : hsur (f (n - 2)) ∧ lsur (f (n - 1))
    · rw [cp_yes (by omega) (by rw [e]; exact h), if_pos h, cp_end (by omega)]
    · rw [cp_no (by rw [e]; exact h), if_neg h, cp_end (by omega)]
  obtain ⟨k, rfl⟩ : ∃ k, n = k + 5 := ⟨n - 5, by omega⟩
  by_cases h : hsur (f 0) ∧ lsur (f 1)
  · have s := cp_skip (f := f) (n := k + 5) (q := 3) (k + 1) 2 (fun x h1 h2 => hm x (by omega) (by omega))
    rw [show k + 5 = (3 + (k + 1)) + 1 by omega] at *
    rw [cp_yes (by omega) h, s, if_pos h]
    have l := last 2 (by omega)
    rw [show 3 + (k + 1) + 1 - 2 = 2 + (k + 1) by omega] at *
    rw [l]
  · have s := cp_skip (f := f) (n := k + 5) (q := 2) (k + 2) 1 (fun x h1 h2 => hm x (by omega) (by omega))
    rw [show k + 5 = (2 + (k + 2)) + 1 by omega] at *
    rw [cp_no h, s, if_neg h]
    have l := last 1 (by omega)
    rw [show 2 + (k + 2) + 1 - 2 = 1 + (k + 2) by omega] at *
    rw [l, Nat.zero_add]
theorem cp_one {f : Nat → Int32} {n : Nat} (h2 : 2 ≤ n) (hm : ∀ x, 1 ≤ x → ¬ (hsur (f x) ∧ lsur (f (x + 1)))) :
    cp f n n 0 = (if hsur (f 0) ∧ lsur (f 1) then 1 else 0) := by
  have z : ∀ q i, 1 ≤ i → cp f n q i = 0 := by
    intro q
    induction q with
    | zero => intro i _; rfl
    | succ q ih => intro i hi; rw [cp_no (hm i hi), ih (i + 1) (by omega)]
  obtain ⟨k, rfl⟩ : ∃ k, n = k + 1 := ⟨n - 1, by omega⟩
  by_cases h : hsur (f 0) ∧ lsur (f 1)
  · rw [cp_yes (by omega) h, z _ _ (by omega), if_pos h]
  · rw [cp_no h, z _ _ (by omega), if_neg h]
theorem own_z0 : ¬ hsur (0 : Int32) ∧ ¬ lsur (0 : Int32) := by decide
def F2 (a b : Int32) : Nat → Int32 := upd (upd (fun _ => 0) 0 a) 1 b
def F3 (n : Nat) (a b c d : Int32) : Nat → Int32 := upd (upd (upd (upd (fun _ => 0) 0 a) 1 b) (n - 2) c) (n - 1) d
theorem own_cp2 {n : Nat} {a b : Int32} (h2 : 2 ≤ n) : cp (upd (upd (fun _ => 0) 0 a) 1 b) n n 0 = (if hsur a ∧ lsur b then 1 else 0) := by
  rw [cp_one h2]
  · rfl
  · intro x hx q
    have e : upd (upd (fun _ => 0) 0 a) 1 b (x + 1) = 0 := by simp only [upd]; rw [if_neg (by omega), if_neg (by omega)]
    rw [e] at q
    exact own_z0.2 q.2
theorem own_F3a {n : Nat} {a b c d : Int32} (h5 : 5 ≤ n) : F3 n a b c d 0 = a ∧ F3 n a b c d 1 = b ∧ F3 n a b c d (n - 2) = c ∧ F3 n a b c d (n - 1) = d ∧ ∀ x, 2 ≤ x → x < n - 2 → F3 n a b c d x = 0 := by
  refine ⟨?_, ?_, ?_, ?_, fun x h1 h2 => ?_⟩ <;> simp only [F3, upd]
  · rw [if_neg (by omega), if_neg (by omega), if_neg (by omega), if_pos trivial]
  · rw [if_neg (by omega), if_neg (by omega), if_pos trivial]
  · rw [if_neg (by omega), if_pos trivial]
  · rw [if_pos trivial]
  · rw [if_neg (by omega), if_neg (by omega), if_neg (by omega), if_neg (by omega)]
theorem own_cp3 {n : Nat} {a b c d : Int32} (h5 : 5 ≤ n) : cp (upd (upd (upd (upd (fun _ => 0) 0 a) 1 b) (n - 2) c) (n - 1) d) n n 0 = (if hsur a ∧ lsur b then 1 else 0) + (if hsur c ∧ lsur d then 1 else 0) := by
  obtain ⟨e0, e1, e2, e3, ez⟩ := own_F3a (a := a) (b := b) (c := c) (d := d) h5
  show cp (F3 n a b c d) n n 0 = _
  rw [cp_two h5, e0, e1, e2, e3]
  intro x h1 h2 q
  by_cases hx : x = 1
  · subst hx
    rw [ez 2 (by omega) (by omega)] at q
    exact own_z0.2 q.2
  · rw [ez x (by omega) h2] at q
    exact own_z0.1 q.1
theorem own_hs {c : Int32} (h : hsur c) : (255 : Int32) < c := by
  have h1 := h.1
  rw [Int32.lt_iff_toInt_lt] at *
  have e1 : (55296 : Int32).toInt = 55296 := by decide
  have e2 : (255 : Int32).toInt = 255 := by decide
  omega
theorem own_h1 {c : Int32} (h : c < (56320 : Int32)) : ¬ (56319 : Int32) < c := by
  rw [Int32.lt_iff_toInt_lt] at *
  have e1 : (56320 : Int32).toInt = 56320 := by decide
  have e2 : (56319 : Int32).toInt = 56319 := by decide
  omega
theorem own_h2 {c : Int32} (h : ¬ c < (56320 : Int32)) : (56319 : Int32) < c := by
  rw [Int32.lt_iff_toInt_lt] at *
  have e1 : (56320 : Int32).toInt = 56320 := by decide
  have e2 : (56319 : Int32).toInt = 56319 := by decide
  omega
theorem own_l1 {c : Int32} (h : c < (57344 : Int32)) : ¬ (57343 : Int32) < c := by
  rw [Int32.lt_iff_toInt_lt] at *
  have e1 : (57344 : Int32).toInt = 57344 := by decide
  have e2 : (57343 : Int32).toInt = 57343 := by decide
  omega
theorem own_l2 {c : Int32} (h : ¬ c < (57344 : Int32)) : (57343 : Int32) < c := by
  rw [Int32.lt_iff_toInt_lt] at *
  have e1 : (57344 : Int32).toInt = 57344 := by decide
  have e2 : (57343 : Int32).toInt = 57343 := by decide
  omega
theorem own_1023 (x : Int32) : ∃ n : Nat, (x &&& (1023 : Int32)) = n.toInt32 ∧ n ≤ 1023 := by
  have a := c_and x (1023 : Int32) (by decide)
  have e : (1023 : Int32).toInt = 1023 := by decide
  refine ⟨(x &&& (1023 : Int32)).toInt.toNat, ?_, by omega⟩
  apply Int32.toInt_inj.mp
  rw [len_toInt (by omega)]
  omega
theorem own_dec1 {a : Nat} (h1 : 0 < a) (h2 : a < 2 ^ 31) : a.toInt32 + (-1 : Int32) = (a - 1).toInt32 := by
  obtain ⟨k, rfl⟩ : ∃ k, a = k + 1 := ⟨a - 1, by omega⟩
  rw [← own_succ k, Nat.add_sub_cancel]
  show k.toInt32 + 1 + (-1 : Int32) = k.toInt32
  rw [Int32.add_assoc]
  show k.toInt32 + (0 : Int32) = _
  rw [Int32.add_zero]
theorem own_four (n : Nat) : n = 0 ∨ n = 1 ∨ (2 ≤ n ∧ n < 5) ∨ 5 ≤ n := by omega
theorem cp_le {f : Nat → Int32} {n : Nat} : ∀ q i, i ≤ n → cp f n q i ≤ n - i := by
  intro q
  induction q with
  | zero => intro i _; exact Nat.zero_le _
  | succ q ih =>
    intro i hi
    by_cases h : i + 1 < n
    · by_cases h2 : hsur (f i) ∧ lsur (f (i + 1))
      · rw [cp_yes h h2]; have := ih (i + 2) (by omega); omega
      · rw [cp_no h2]; have := ih (i + 1) (by omega); omega
    · rw [cp_end h]; exact Nat.zero_le _
theorem own_F3x {n : Nat} {a b c d : Int32} (h5 : 5 ≤ n) (h : hsur a) : (255 : Int32) < (upd (upd (upd (upd (fun _ => 0) 0 a) 1 b) (n - 2) c) (n - 1) d) 0 := by
  show (255 : Int32) < F3 n a b c d 0
  rw [(own_F3a h5).1]; exact own_hs h
theorem own_F3y {n : Nat} {a b c d : Int32} (h5 : 5 ≤ n) (h : hsur c) : (255 : Int32) < (upd (upd (upd (upd (fun _ => 0) 0 a) 1 b) (n - 2) c) (n - 1) d) (n - 2) := by
  show (255 : Int32) < F3 n a b c d (n - 2)
  rw [(own_F3a h5).2.2.1]; exact own_hs h
theorem pn_9 : plainName "java/lang/StringUTF16" = true := by first | (simp [plainName, overriddenIn]; done) | decide +kernel
theorem d9_0 : decode jdk_52_method_21_code 0 = .ok (.iconst 0, 1) := by decide +kernel
theorem d9_1 : decode jdk_52_method_21_code 1 = .ok (.istore 5, 2) := by decide +kernel
theorem d9_3 : decode jdk_52_method_21_code 3 = .ok (.iload 5, 2) := by decide +kernel
theorem d9_5 : decode jdk_52_method_21_code 5 = .ok (.iload 4, 2) := by decide +kernel
theorem d9_7 : decode jdk_52_method_21_code 7 = .ok (.if_icmp .ge 37, 3) := by decide +kernel
theorem d9_44 : decode jdk_52_method_21_code 44 = .ok (.iload 4, 2) := by decide +kernel
theorem d9_46 : decode jdk_52_method_21_code 46 = .ok (.ireturn, 1) := by decide +kernel
theorem d9_10 : decode jdk_52_method_21_code 10 = .ok (.aload_n 0, 1) := by decide +kernel
theorem d9_11 : decode jdk_52_method_21_code 11 = .ok (.iload_n 1, 1) := by decide +kernel
theorem d9_12 : decode jdk_52_method_21_code 12 = .ok (.caload, 1) := by decide +kernel
theorem d9_13 : decode jdk_52_method_21_code 13 = .ok (.istore 6, 2) := by decide +kernel
theorem d9_15 : decode jdk_52_method_21_code 15 = .ok (.iload 6, 2) := by decide +kernel
theorem d9_17 : decode jdk_52_method_21_code 17 = .ok (.sipush 255, 3) := by decide +kernel
theorem d9_20 : decode jdk_52_method_21_code 20 = .ok (.if_icmp .le 6, 3) := by decide +kernel
theorem d9_23 : decode jdk_52_method_21_code 23 = .ok (.iload 5, 2) := by decide +kernel
theorem d9_25 : decode jdk_52_method_21_code 25 = .ok (.ireturn, 1) := by decide +kernel
theorem d9_26 : decode jdk_52_method_21_code 26 = .ok (.aload_n 2, 1) := by decide +kernel
theorem d9_27 : decode jdk_52_method_21_code 27 = .ok (.iload_n 3, 1) := by decide +kernel
theorem d9_28 : decode jdk_52_method_21_code 28 = .ok (.iload 6, 2) := by decide +kernel
theorem d9_30 : decode jdk_52_method_21_code 30 = .ok (.i2b, 1) := by decide +kernel
theorem d9_31 : decode jdk_52_method_21_code 31 = .ok (.bastore, 1) := by decide +kernel
theorem d9_32 : decode jdk_52_method_21_code 32 = .ok (.iinc 1 1, 3) := by decide +kernel
theorem d9_35 : decode jdk_52_method_21_code 35 = .ok (.iinc 3 1, 3) := by decide +kernel
theorem d9_38 : decode jdk_52_method_21_code 38 = .ok (.iinc 5 1, 3) := by decide +kernel
theorem d9_41 : decode jdk_52_method_21_code 41 = .ok (.goto (-38), 3) := by decide +kernel
theorem pn_8 : plainName "java/lang/StringUTF16" = true := by first | (simp [plainName, overriddenIn]; done) | decide +kernel
theorem d8_0 : decode jdk_52_method_16_code 0 = .ok (.iload_n 2, 1) := by decide +kernel
theorem d8_1 : decode jdk_52_method_16_code 1 = .ok (.newarray .byte, 2) := by decide +kernel
theorem d8_3 : decode jdk_52_method_16_code 3 = .ok (.astore_n 3, 1) := by decide +kernel
theorem d8_4 : decode jdk_52_method_16_code 4 = .ok (.aload_n 0, 1) := by decide +kernel
theorem d8_5 : decode jdk_52_method_16_code 5 = .ok (.iload_n 1, 1) := by decide +kernel
theorem d8_6 : decode jdk_52_method_16_code 6 = .ok (.aload_n 3, 1) := by decide +kernel
theorem d8_7 : decode jdk_52_method_16_code 7 = .ok (.iconst 0, 1) := by decide +kernel
theorem d8_8 : decode jdk_52_method_16_code 8 = .ok (.iload_n 2, 1) := by decide +kernel
theorem d8_9 : decode jdk_52_method_16_code 9 = .ok (.invokestatic 115, 3) := by decide +kernel
theorem pd___CI_BII_I : parseMethodDescriptor "([CI[BII)I" = some ⟨[(.array .char), .int, (.array .byte), .int, .int], some .int⟩ := by decide +kernel
theorem d8_12 : decode jdk_52_method_16_code 12 = .ok (.istore 4, 2) := by decide +kernel
theorem d8_14 : decode jdk_52_method_16_code 14 = .ok (.iload 4, 2) := by decide +kernel
theorem d8_16 : decode jdk_52_method_16_code 16 = .ok (.iload_n 2, 1) := by decide +kernel
theorem d8_17 : decode jdk_52_method_16_code 17 = .ok (.if_icmp .eq 40, 3) := by decide +kernel
theorem d8_57 : decode jdk_52_method_16_code 57 = .ok (.aload_n 3, 1) := by decide +kernel
theorem d8_58 : decode jdk_52_method_16_code 58 = .ok (.areturn, 1) := by decide +kernel
theorem pn_10 : plainName "java/lang/StringUTF16" = true := by first | (simp [plainName, overriddenIn]; done) | decide +kernel
theorem d10_0 : decode jdk_52_method_15_code 0 = .ok (.iload_n 1, 1) := by decide +kernel
theorem d10_1 : decode jdk_52_method_15_code 1 = .ok (.aload_n 0, 1) := by decide +kernel
theorem d10_2 : decode jdk_52_method_15_code 2 = .ok (.arraylength, 1) := by decide +kernel
theorem d10_3 : decode jdk_52_method_15_code 3 = .ok (.isub, 1) := by decide +kernel
theorem d10_4 : decode jdk_52_method_15_code 4 = .ok (.bipush 31, 2) := by decide +kernel
theorem d10_6 : decode jdk_52_method_15_code 6 = .ok (.iushr, 1) := by decide +kernel
theorem d10_7 : decode jdk_52_method_15_code 7 = .ok (.i2b, 1) := by decide +kernel
theorem d10_8 : decode jdk_52_method_15_code 8 = .ok (.ireturn, 1) := by decide +kernel
theorem pn_3 : plainName "java/lang/String" = true := by first | (simp [plainName, overriddenIn]; done) | decide +kernel
theorem d3_0 : decode jdk_42_method_149_code 0 = .ok (.aload_n 0, 1) := by decide +kernel
theorem d3_1 : decode jdk_42_method_149_code 1 = .ok (.invokespecial 1, 3) := by decide +kernel
theorem d3_4 : decode jdk_42_method_149_code 4 = .ok (.iload_n 3, 1) := by decide +kernel
theorem d3_5 : decode jdk_42_method_149_code 5 = .ok (.ifCond .ne 22, 3) := by decide +kernel
theorem d3_8 : decode jdk_42_method_149_code 8 = .ok (.aload_n 0, 1) := by decide +kernel
theorem d3_9 : decode jdk_42_method_149_code 9 = .ok (.ldc 7, 2) := by decide +kernel
theorem d3_11 : decode jdk_42_method_149_code 11 = .ok (.getfield 9, 3) := by decide +kernel
theorem d3_14 : decode jdk_42_method_149_code 14 = .ok (.putfield 9, 3) := by decide +kernel
theorem d3_17 : decode jdk_42_method_149_code 17 = .ok (.aload_n 0, 1) := by decide +kernel
theorem d3_18 : decode jdk_42_method_149_code 18 = .ok (.ldc 7, 2) := by decide +kernel
theorem d3_20 : decode jdk_42_method_149_code 20 = .ok (.getfield 15, 3) := by decide +kernel
theorem d3_23 : decode jdk_42_method_149_code 23 = .ok (.putfield 15, 3) := by decide +kernel
theorem d3_26 : decode jdk_42_method_149_code 26 = .ok (.return_, 1) := by decide +kernel
theorem d3_27 : decode jdk_42_method_149_code 27 = .ok (.getstatic 38, 3) := by decide +kernel
theorem d3_30 : decode jdk_42_method_149_code 30 = .ok (.ifCond .eq 28, 3) := by decide +kernel
theorem d3_33 : decode jdk_42_method_149_code 33 = .ok (.aload_n 1, 1) := by decide +kernel
theorem d3_34 : decode jdk_42_method_149_code 34 = .ok (.iload_n 2, 1) := by decide +kernel
theorem d3_35 : decode jdk_42_method_149_code 35 = .ok (.iload_n 3, 1) := by decide +kernel
theorem d3_36 : decode jdk_42_method_149_code 36 = .ok (.invokestatic 177, 3) := by decide +kernel
theorem pd___CII__B : parseMethodDescriptor "([CII)[B" = some ⟨[(.array .char), .int, .int], some (.array .byte)⟩ := by decide +kernel
theorem d3_39 : decode jdk_42_method_149_code 39 = .ok (.astore 5, 2) := by decide +kernel
theorem d3_41 : decode jdk_42_method_149_code 41 = .ok (.aload_n 0, 1) := by decide +kernel
theorem d3_42 : decode jdk_42_method_149_code 42 = .ok (.aload 5, 2) := by decide +kernel
theorem d3_44 : decode jdk_42_method_149_code 44 = .ok (.iload_n 3, 1) := by decide +kernel
theorem d3_45 : decode jdk_42_method_149_code 45 = .ok (.invokestatic 47, 3) := by decide +kernel
theorem pd___BI_B : parseMethodDescriptor "([BI)B" = some ⟨[(.array .byte), .int], some .byte⟩ := by decide +kernel
theorem d3_48 : decode jdk_42_method_149_code 48 = .ok (.putfield 15, 3) := by decide +kernel
theorem d3_51 : decode jdk_42_method_149_code 51 = .ok (.aload_n 0, 1) := by decide +kernel
theorem d3_52 : decode jdk_42_method_149_code 52 = .ok (.aload 5, 2) := by decide +kernel
theorem d3_54 : decode jdk_42_method_149_code 54 = .ok (.putfield 9, 3) := by decide +kernel
theorem d3_57 : decode jdk_42_method_149_code 57 = .ok (.return_, 1) := by decide +kernel
theorem pn_2 : plainName "java/lang/String" = true := by first | (simp [plainName, overriddenIn]; done) | decide +kernel
theorem d2_0 : decode jdk_42_method_3_code 0 = .ok (.aload_n 0, 1) := by decide +kernel
theorem d2_1 : decode jdk_42_method_3_code 1 = .ok (.aload_n 1, 1) := by decide +kernel
theorem d2_2 : decode jdk_42_method_3_code 2 = .ok (.iconst 0, 1) := by decide +kernel
theorem d2_3 : decode jdk_42_method_3_code 3 = .ok (.aload_n 1, 1) := by decide +kernel
theorem d2_4 : decode jdk_42_method_3_code 4 = .ok (.arraylength, 1) := by decide +kernel
theorem d2_5 : decode jdk_42_method_3_code 5 = .ok (.aconst_null, 1) := by decide +kernel
theorem d2_6 : decode jdk_42_method_3_code 6 = .ok (.invokespecial 27, 3) := by decide +kernel
theorem pd___CIILjava_lang_Void__V : parseMethodDescriptor "([CIILjava/lang/Void;)V" = some ⟨[(.array .char), .int, .int, (.object "java/lang/Void")], none⟩ := by decide +kernel
theorem d2_9 : decode jdk_42_method_3_code 9 = .ok (.return_, 1) := by decide +kernel
theorem pn_19 : plainName "java/lang/StringUTF16" = true := by first | (simp [plainName, overriddenIn]; done) | decide +kernel
theorem d19_0 : decode jdk_52_method_3_code 0 = .ok (.iload_n 0, 1) := by decide +kernel
theorem d19_1 : decode jdk_52_method_3_code 1 = .ok (.ifCond .ge 11, 3) := by decide +kernel
theorem d19_12 : decode jdk_52_method_3_code 12 = .ok (.iload_n 0, 1) := by decide +kernel
theorem d19_13 : decode jdk_52_method_3_code 13 = .ok (.ldc 20, 2) := by decide +kernel
theorem d19_15 : decode jdk_52_method_3_code 15 = .ok (.if_icmp .lt 40, 3) := by decide +kernel
theorem d19_55 : decode jdk_52_method_3_code 55 = .ok (.iload_n 0, 1) := by decide +kernel
theorem d19_56 : decode jdk_52_method_3_code 56 = .ok (.iconst 1, 1) := by decide +kernel
theorem d19_57 : decode jdk_52_method_3_code 57 = .ok (.ishl, 1) := by decide +kernel
theorem d19_58 : decode jdk_52_method_3_code 58 = .ok (.ireturn, 1) := by decide +kernel
theorem pn_18 : plainName "java/lang/StringUTF16" = true := by first | (simp [plainName, overriddenIn]; done) | decide +kernel
theorem d18_0 : decode jdk_52_method_2_code 0 = .ok (.iload_n 0, 1) := by decide +kernel
theorem d18_1 : decode jdk_52_method_2_code 1 = .ok (.invokestatic 11, 3) := by decide +kernel
theorem pd__I_I : parseMethodDescriptor "(I)I" = some ⟨[.int], some .int⟩ := by decide +kernel
theorem d18_4 : decode jdk_52_method_2_code 4 = .ok (.newarray .byte, 2) := by decide +kernel
theorem d18_6 : decode jdk_52_method_2_code 6 = .ok (.areturn, 1) := by decide +kernel
theorem pn_20 : plainName "java/lang/StringUTF16" = true := by first | (simp [plainName, overriddenIn]; done) | decide +kernel
theorem d20_0 : decode jdk_52_method_4_code 0 = .ok (.getstatic 44, 3) := by decide +kernel
theorem d20_3 : decode jdk_52_method_4_code 3 = .ok (.ifCond .ne 25, 3) := by decide +kernel
theorem d20_28 : decode jdk_52_method_4_code 28 = .ok (.iload_n 1, 1) := by decide +kernel
theorem d20_29 : decode jdk_52_method_4_code 29 = .ok (.iconst 1, 1) := by decide +kernel
theorem d20_30 : decode jdk_52_method_4_code 30 = .ok (.ishl, 1) := by decide +kernel
theorem d20_31 : decode jdk_52_method_4_code 31 = .ok (.istore_n 1, 1) := by decide +kernel
theorem d20_32 : decode jdk_52_method_4_code 32 = .ok (.aload_n 0, 1) := by decide +kernel
theorem d20_33 : decode jdk_52_method_4_code 33 = .ok (.iload_n 1, 1) := by decide +kernel
theorem d20_34 : decode jdk_52_method_4_code 34 = .ok (.iinc 1 1, 3) := by decide +kernel
theorem d20_37 : decode jdk_52_method_4_code 37 = .ok (.iload_n 2, 1) := by decide +kernel
theorem d20_38 : decode jdk_52_method_4_code 38 = .ok (.getstatic 59, 3) := by decide +kernel
theorem d20_41 : decode jdk_52_method_4_code 41 = .ok (.ishr, 1) := by decide +kernel
theorem d20_42 : decode jdk_52_method_4_code 42 = .ok (.i2b, 1) := by decide +kernel
theorem d20_43 : decode jdk_52_method_4_code 43 = .ok (.bastore, 1) := by decide +kernel
theorem d20_44 : decode jdk_52_method_4_code 44 = .ok (.aload_n 0, 1) := by decide +kernel
theorem d20_45 : decode jdk_52_method_4_code 45 = .ok (.iload_n 1, 1) := by decide +kernel
theorem d20_46 : decode jdk_52_method_4_code 46 = .ok (.iload_n 2, 1) := by decide +kernel
theorem d20_47 : decode jdk_52_method_4_code 47 = .ok (.getstatic 63, 3) := by decide +kernel
theorem d20_50 : decode jdk_52_method_4_code 50 = .ok (.ishr, 1) := by decide +kernel
theorem d20_51 : decode jdk_52_method_4_code 51 = .ok (.i2b, 1) := by decide +kernel
theorem d20_52 : decode jdk_52_method_4_code 52 = .ok (.bastore, 1) := by decide +kernel
theorem d20_53 : decode jdk_52_method_4_code 53 = .ok (.return_, 1) := by decide +kernel
theorem pn_21 : plainName "java/lang/StringUTF16" = true := by first | (simp [plainName, overriddenIn]; done) | decide +kernel
theorem d21_0 : decode jdk_52_method_5_code 0 = .ok (.getstatic 44, 3) := by decide +kernel
theorem d21_3 : decode jdk_52_method_5_code 3 = .ok (.ifCond .ne 25, 3) := by decide +kernel
theorem d21_28 : decode jdk_52_method_5_code 28 = .ok (.iload_n 1, 1) := by decide +kernel
theorem d21_29 : decode jdk_52_method_5_code 29 = .ok (.iconst 1, 1) := by decide +kernel
theorem d21_30 : decode jdk_52_method_5_code 30 = .ok (.ishl, 1) := by decide +kernel
theorem d21_31 : decode jdk_52_method_5_code 31 = .ok (.istore_n 1, 1) := by decide +kernel
theorem d21_32 : decode jdk_52_method_5_code 32 = .ok (.aload_n 0, 1) := by decide +kernel
theorem d21_33 : decode jdk_52_method_5_code 33 = .ok (.iload_n 1, 1) := by decide +kernel
theorem d21_34 : decode jdk_52_method_5_code 34 = .ok (.iinc 1 1, 3) := by decide +kernel
theorem d21_37 : decode jdk_52_method_5_code 37 = .ok (.baload, 1) := by decide +kernel
theorem d21_38 : decode jdk_52_method_5_code 38 = .ok (.sipush 255, 3) := by decide +kernel
theorem d21_41 : decode jdk_52_method_5_code 41 = .ok (.iand, 1) := by decide +kernel
theorem d21_42 : decode jdk_52_method_5_code 42 = .ok (.getstatic 59, 3) := by decide +kernel
theorem d21_45 : decode jdk_52_method_5_code 45 = .ok (.ishl, 1) := by decide +kernel
theorem d21_46 : decode jdk_52_method_5_code 46 = .ok (.aload_n 0, 1) := by decide +kernel
theorem d21_47 : decode jdk_52_method_5_code 47 = .ok (.iload_n 1, 1) := by decide +kernel
theorem d21_48 : decode jdk_52_method_5_code 48 = .ok (.baload, 1) := by decide +kernel
theorem d21_49 : decode jdk_52_method_5_code 49 = .ok (.sipush 255, 3) := by decide +kernel
theorem d21_52 : decode jdk_52_method_5_code 52 = .ok (.iand, 1) := by decide +kernel
theorem d21_53 : decode jdk_52_method_5_code 53 = .ok (.getstatic 63, 3) := by decide +kernel
theorem d21_56 : decode jdk_52_method_5_code 56 = .ok (.ishl, 1) := by decide +kernel
theorem d21_57 : decode jdk_52_method_5_code 57 = .ok (.ior, 1) := by decide +kernel
theorem d21_58 : decode jdk_52_method_5_code 58 = .ok (.i2c, 1) := by decide +kernel
theorem d21_59 : decode jdk_52_method_5_code 59 = .ok (.ireturn, 1) := by decide +kernel
theorem pn_17 : plainName "java/lang/StringUTF16" = true := by first | (simp [plainName, overriddenIn]; done) | decide +kernel
theorem d17_0 : decode jdk_52_method_14_code 0 = .ok (.iload_n 2, 1) := by decide +kernel
theorem d17_1 : decode jdk_52_method_14_code 1 = .ok (.invokestatic 107, 3) := by decide +kernel
theorem pd__I__B : parseMethodDescriptor "(I)[B" = some ⟨[.int], some (.array .byte)⟩ := by decide +kernel
theorem d17_4 : decode jdk_52_method_14_code 4 = .ok (.astore_n 3, 1) := by decide +kernel
theorem d17_5 : decode jdk_52_method_14_code 5 = .ok (.iconst 0, 1) := by decide +kernel
theorem d17_6 : decode jdk_52_method_14_code 6 = .ok (.istore 4, 2) := by decide +kernel
theorem d17_8 : decode jdk_52_method_14_code 8 = .ok (.iload 4, 2) := by decide +kernel
theorem d17_10 : decode jdk_52_method_14_code 10 = .ok (.iload_n 2, 1) := by decide +kernel
theorem d17_11 : decode jdk_52_method_14_code 11 = .ok (.if_icmp .ge 21, 3) := by decide +kernel
theorem d17_32 : decode jdk_52_method_14_code 32 = .ok (.aload_n 3, 1) := by decide +kernel
theorem d17_33 : decode jdk_52_method_14_code 33 = .ok (.areturn, 1) := by decide +kernel
theorem d17_14 : decode jdk_52_method_14_code 14 = .ok (.aload_n 3, 1) := by decide +kernel
theorem d17_15 : decode jdk_52_method_14_code 15 = .ok (.iload 4, 2) := by decide +kernel
theorem d17_17 : decode jdk_52_method_14_code 17 = .ok (.aload_n 0, 1) := by decide +kernel
theorem d17_18 : decode jdk_52_method_14_code 18 = .ok (.iload_n 1, 1) := by decide +kernel
theorem d17_19 : decode jdk_52_method_14_code 19 = .ok (.caload, 1) := by decide +kernel
theorem d17_20 : decode jdk_52_method_14_code 20 = .ok (.invokestatic 111, 3) := by decide +kernel
theorem pd___BII_V : parseMethodDescriptor "([BII)V" = some ⟨[(.array .byte), .int, .int], none⟩ := by decide +kernel
theorem d17_23 : decode jdk_52_method_14_code 23 = .ok (.iinc 1 1, 3) := by decide +kernel
theorem d17_26 : decode jdk_52_method_14_code 26 = .ok (.iinc 4 1, 3) := by decide +kernel
theorem d17_29 : decode jdk_52_method_14_code 29 = .ok (.goto (-21), 3) := by decide +kernel
theorem d8_20 : decode jdk_52_method_16_code 20 = .ok (.aload_n 0, 1) := by decide +kernel
theorem d8_21 : decode jdk_52_method_16_code 21 = .ok (.iload_n 1, 1) := by decide +kernel
theorem d8_22 : decode jdk_52_method_16_code 22 = .ok (.iload_n 2, 1) := by decide +kernel
theorem d8_23 : decode jdk_52_method_16_code 23 = .ok (.invokestatic 119, 3) := by decide +kernel
theorem d8_26 : decode jdk_52_method_16_code 26 = .ok (.astore 5, 2) := by decide +kernel
theorem d8_28 : decode jdk_52_method_16_code 28 = .ok (.aload 5, 2) := by decide +kernel
theorem d8_30 : decode jdk_52_method_16_code 30 = .ok (.iload 4, 2) := by decide +kernel
theorem d8_32 : decode jdk_52_method_16_code 32 = .ok (.invokestatic 71, 3) := by decide +kernel
theorem pd___BI_C : parseMethodDescriptor "([BI)C" = some ⟨[(.array .byte), .int], some .char⟩ := by decide +kernel
theorem d8_35 : decode jdk_52_method_16_code 35 = .ok (.sipush 255, 3) := by decide +kernel
theorem d8_38 : decode jdk_52_method_16_code 38 = .ok (.if_icmp .gt 16, 3) := by decide +kernel
theorem d8_54 : decode jdk_52_method_16_code 54 = .ok (.aload 5, 2) := by decide +kernel
theorem d8_56 : decode jdk_52_method_16_code 56 = .ok (.areturn, 1) := by decide +kernel
theorem pn_12 : plainName "java/lang/String" = true := by first | (simp [plainName, overriddenIn]; done) | decide +kernel
theorem d12_0 : decode jdk_42_method_152_code 0 = .ok (.getstatic 38, 3) := by decide +kernel
theorem d12_3 : decode jdk_42_method_152_code 3 = .ok (.ifCond .eq 10, 3) := by decide +kernel
theorem d12_6 : decode jdk_42_method_152_code 6 = .ok (.aload_n 0, 1) := by decide +kernel
theorem d12_7 : decode jdk_42_method_152_code 7 = .ok (.getfield 15, 3) := by decide +kernel
theorem d12_10 : decode jdk_42_method_152_code 10 = .ok (.goto 4, 3) := by decide +kernel
theorem d12_14 : decode jdk_42_method_152_code 14 = .ok (.ireturn, 1) := by decide +kernel
theorem pn_11 : plainName "java/lang/String" = true := by first | (simp [plainName, overriddenIn]; done) | decide +kernel
theorem d11_0 : decode jdk_42_method_54_code 0 = .ok (.aload_n 0, 1) := by decide +kernel
theorem d11_1 : decode jdk_42_method_54_code 1 = .ok (.getfield 9, 3) := by decide +kernel
theorem d11_4 : decode jdk_42_method_54_code 4 = .ok (.arraylength, 1) := by decide +kernel
theorem d11_5 : decode jdk_42_method_54_code 5 = .ok (.aload_n 0, 1) := by decide +kernel
theorem d11_6 : decode jdk_42_method_54_code 6 = .ok (.invokevirtual 335, 3) := by decide +kernel
theorem pd___B : parseMethodDescriptor "()B" = some ⟨[], some .byte⟩ := by decide +kernel
theorem d11_9 : decode jdk_42_method_54_code 9 = .ok (.ishr, 1) := by decide +kernel
theorem d11_10 : decode jdk_42_method_54_code 10 = .ok (.ireturn, 1) := by decide +kernel
theorem pn_16 : plainName "java/lang/String" = true := by first | (simp [plainName, overriddenIn]; done) | decide +kernel
theorem d16_0 : decode jdk_42_method_154_code 0 = .ok (.getstatic 38, 3) := by decide +kernel
theorem d16_3 : decode jdk_42_method_154_code 3 = .ok (.ifCond .eq 14, 3) := by decide +kernel
theorem d16_6 : decode jdk_42_method_154_code 6 = .ok (.aload_n 0, 1) := by decide +kernel
theorem d16_7 : decode jdk_42_method_154_code 7 = .ok (.getfield 15, 3) := by decide +kernel
theorem d16_10 : decode jdk_42_method_154_code 10 = .ok (.ifCond .ne 7, 3) := by decide +kernel
theorem d16_13 : decode jdk_42_method_154_code 13 = .ok (.iconst 1, 1) := by decide +kernel
theorem d16_14 : decode jdk_42_method_154_code 14 = .ok (.goto 4, 3) := by decide +kernel
theorem d16_18 : decode jdk_42_method_154_code 18 = .ok (.ireturn, 1) := by decide +kernel
theorem d16_17 : decode jdk_42_method_154_code 17 = .ok (.iconst 0, 1) := by decide +kernel
theorem pn_15 : plainName "jdk/internal/util/Preconditions" = true := by first | (simp [plainName, overriddenIn]; done) | decide +kernel
theorem d15_0 : decode jdk_41_method_12_code 0 = .ok (.iload_n 0, 1) := by decide +kernel
theorem d15_1 : decode jdk_41_method_12_code 1 = .ok (.ifCond .lt 13, 3) := by decide +kernel
theorem d15_4 : decode jdk_41_method_12_code 4 = .ok (.iload_n 0, 1) := by decide +kernel
theorem d15_5 : decode jdk_41_method_12_code 5 = .ok (.iload_n 1, 1) := by decide +kernel
theorem d15_6 : decode jdk_41_method_12_code 6 = .ok (.if_icmp .gt 8, 3) := by decide +kernel
theorem d15_9 : decode jdk_41_method_12_code 9 = .ok (.iload_n 1, 1) := by decide +kernel
theorem d15_10 : decode jdk_41_method_12_code 10 = .ok (.iload_n 2, 1) := by decide +kernel
theorem d15_11 : decode jdk_41_method_12_code 11 = .ok (.if_icmp .le 11, 3) := by decide +kernel
theorem d15_22 : decode jdk_41_method_12_code 22 = .ok (.iload_n 0, 1) := by decide +kernel
theorem d15_23 : decode jdk_41_method_12_code 23 = .ok (.ireturn, 1) := by decide +kernel
theorem pn_14 : plainName "java/util/Objects" = true := by first | (simp [plainName, overriddenIn]; done) | decide +kernel
theorem d14_0 : decode jdk_31_method_18_code 0 = .ok (.iload_n 0, 1) := by decide +kernel
theorem d14_1 : decode jdk_31_method_18_code 1 = .ok (.iload_n 1, 1) := by decide +kernel
theorem d14_2 : decode jdk_31_method_18_code 2 = .ok (.iload_n 2, 1) := by decide +kernel
theorem d14_3 : decode jdk_31_method_18_code 3 = .ok (.aconst_null, 1) := by decide +kernel
theorem d14_4 : decode jdk_31_method_18_code 4 = .ok (.invokestatic 111, 3) := by decide +kernel
theorem pd__IIILjava_util_function_BiFunction__I : parseMethodDescriptor "(IIILjava/util/function/BiFunction;)I" = some ⟨[.int, .int, .int, (.object "java/util/function/BiFunction")], some .int⟩ := by decide +kernel
theorem d14_7 : decode jdk_31_method_18_code 7 = .ok (.ireturn, 1) := by decide +kernel
theorem pn_7 : plainName "com/example/usher/usher/lifecycle/ExecutionKeyFitsPinLaw" = true := by first | (simp [plainName, overriddenIn]; done) | decide +kernel
theorem d7_0 : decode method_3_code 0 = .ok (.iload_n 0, 1) := by decide +kernel
theorem d7_1 : decode method_3_code 1 = .ok (.ldc 7, 2) := by decide +kernel
theorem d7_3 : decode method_3_code 3 = .ok (.if_icmp .lt 13, 3) := by decide +kernel
theorem d7_16 : decode method_3_code 16 = .ok (.iconst 0, 1) := by decide +kernel
theorem d7_17 : decode method_3_code 17 = .ok (.ireturn, 1) := by decide +kernel
theorem d7_6 : decode method_3_code 6 = .ok (.iload_n 0, 1) := by decide +kernel
theorem d7_7 : decode method_3_code 7 = .ok (.ldc 9, 2) := by decide +kernel
theorem d7_9 : decode method_3_code 9 = .ok (.if_icmp .gt 7, 3) := by decide +kernel
theorem d7_12 : decode method_3_code 12 = .ok (.iconst 1, 1) := by decide +kernel
theorem d7_13 : decode method_3_code 13 = .ok (.goto 4, 3) := by decide +kernel
theorem pn_26 : plainName "com/example/usher/usher/lifecycle/ExecutionKeyFitsPinLaw" = true := by first | (simp [plainName, overriddenIn]; done) | decide +kernel
theorem d26_0 : decode method_4_code 0 = .ok (.iload_n 0, 1) := by decide +kernel
theorem d26_1 : decode method_4_code 1 = .ok (.ldc 10, 2) := by decide +kernel
theorem d26_3 : decode method_4_code 3 = .ok (.if_icmp .lt 13, 3) := by decide +kernel
theorem d26_16 : decode method_4_code 16 = .ok (.iconst 0, 1) := by decide +kernel
theorem d26_17 : decode method_4_code 17 = .ok (.ireturn, 1) := by decide +kernel
theorem d26_6 : decode method_4_code 6 = .ok (.iload_n 0, 1) := by decide +kernel
theorem d26_7 : decode method_4_code 7 = .ok (.ldc 11, 2) := by decide +kernel
theorem d26_9 : decode method_4_code 9 = .ok (.if_icmp .gt 7, 3) := by decide +kernel
theorem d26_12 : decode method_4_code 12 = .ok (.iconst 1, 1) := by decide +kernel
theorem d26_13 : decode method_4_code 13 = .ok (.goto 4, 3) := by decide +kernel
theorem pn_24 : plainName "java/lang/Character" = true := by first | (simp [plainName, overriddenIn]; done) | decide +kernel
theorem d24_0 : decode jdk_89_method_14_code 0 = .ok (.iload_n 0, 1) := by decide +kernel
theorem d24_1 : decode jdk_89_method_14_code 1 = .ok (.ldc 75, 2) := by decide +kernel
theorem d24_3 : decode jdk_89_method_14_code 3 = .ok (.if_icmp .lt 13, 3) := by decide +kernel
theorem d24_16 : decode jdk_89_method_14_code 16 = .ok (.iconst 0, 1) := by decide +kernel
theorem d24_17 : decode jdk_89_method_14_code 17 = .ok (.ireturn, 1) := by decide +kernel
theorem d24_6 : decode jdk_89_method_14_code 6 = .ok (.iload_n 0, 1) := by decide +kernel
theorem d24_7 : decode jdk_89_method_14_code 7 = .ok (.ldc 76, 2) := by decide +kernel
theorem d24_9 : decode jdk_89_method_14_code 9 = .ok (.if_icmp .ge 7, 3) := by decide +kernel
theorem d24_12 : decode jdk_89_method_14_code 12 = .ok (.iconst 1, 1) := by decide +kernel
theorem d24_13 : decode jdk_89_method_14_code 13 = .ok (.goto 4, 3) := by decide +kernel
theorem pn_25 : plainName "java/lang/Character" = true := by first | (simp [plainName, overriddenIn]; done) | decide +kernel
theorem d25_0 : decode jdk_89_method_15_code 0 = .ok (.iload_n 0, 1) := by decide +kernel
theorem d25_1 : decode jdk_89_method_15_code 1 = .ok (.ldc 76, 2) := by decide +kernel
theorem d25_3 : decode jdk_89_method_15_code 3 = .ok (.if_icmp .lt 13, 3) := by decide +kernel
theorem d25_16 : decode jdk_89_method_15_code 16 = .ok (.iconst 0, 1) := by decide +kernel
theorem d25_17 : decode jdk_89_method_15_code 17 = .ok (.ireturn, 1) := by decide +kernel
theorem d25_6 : decode jdk_89_method_15_code 6 = .ok (.iload_n 0, 1) := by decide +kernel
theorem d25_7 : decode jdk_89_method_15_code 7 = .ok (.ldc 77, 2) := by decide +kernel
theorem d25_9 : decode jdk_89_method_15_code 9 = .ok (.if_icmp .ge 7, 3) := by decide +kernel
theorem d25_12 : decode jdk_89_method_15_code 12 = .ok (.iconst 1, 1) := by decide +kernel
theorem d25_13 : decode jdk_89_method_15_code 13 = .ok (.goto 4, 3) := by decide +kernel
theorem pn_23 : plainName "java/lang/StringUTF16" = true := by first | (simp [plainName, overriddenIn]; done) | decide +kernel
theorem d23_0 : decode jdk_52_method_11_code 0 = .ok (.getstatic 44, 3) := by decide +kernel
theorem d23_3 : decode jdk_52_method_11_code 3 = .ok (.ifCond .ne 16, 3) := by decide +kernel
theorem d23_19 : decode jdk_52_method_11_code 19 = .ok (.iload_n 2, 1) := by decide +kernel
theorem d23_20 : decode jdk_52_method_11_code 20 = .ok (.iload_n 1, 1) := by decide +kernel
theorem d23_21 : decode jdk_52_method_11_code 21 = .ok (.isub, 1) := by decide +kernel
theorem d23_22 : decode jdk_52_method_11_code 22 = .ok (.istore 4, 2) := by decide +kernel
theorem d23_24 : decode jdk_52_method_11_code 24 = .ok (.iload_n 1, 1) := by decide +kernel
theorem d23_25 : decode jdk_52_method_11_code 25 = .ok (.istore 5, 2) := by decide +kernel
theorem d23_27 : decode jdk_52_method_11_code 27 = .ok (.iload_n 3, 1) := by decide +kernel
theorem d23_28 : decode jdk_52_method_11_code 28 = .ok (.ifCond .eq 16, 3) := by decide +kernel
theorem d23_44 : decode jdk_52_method_11_code 44 = .ok (.iload 5, 2) := by decide +kernel
theorem d23_46 : decode jdk_52_method_11_code 46 = .ok (.iload_n 2, 1) := by decide +kernel
theorem d23_47 : decode jdk_52_method_11_code 47 = .ok (.iconst 1, 1) := by decide +kernel
theorem d23_48 : decode jdk_52_method_11_code 48 = .ok (.isub, 1) := by decide +kernel
theorem d23_49 : decode jdk_52_method_11_code 49 = .ok (.if_icmp .ge 39, 3) := by decide +kernel
theorem d23_88 : decode jdk_52_method_11_code 88 = .ok (.iload 4, 2) := by decide +kernel
theorem d23_90 : decode jdk_52_method_11_code 90 = .ok (.ireturn, 1) := by decide +kernel
theorem d23_52 : decode jdk_52_method_11_code 52 = .ok (.aload_n 0, 1) := by decide +kernel
theorem d23_53 : decode jdk_52_method_11_code 53 = .ok (.iload 5, 2) := by decide +kernel
theorem d23_55 : decode jdk_52_method_11_code 55 = .ok (.iinc 5 1, 3) := by decide +kernel
theorem d23_58 : decode jdk_52_method_11_code 58 = .ok (.invokestatic 71, 3) := by decide +kernel
theorem d23_61 : decode jdk_52_method_11_code 61 = .ok (.invokestatic 75, 3) := by decide +kernel
theorem pd__C_Z : parseMethodDescriptor "(C)Z" = some ⟨[.char], some .boolean⟩ := by decide +kernel
theorem d23_64 : decode jdk_52_method_11_code 64 = .ok (.ifCond .eq (-20), 3) := by decide +kernel
theorem d23_67 : decode jdk_52_method_11_code 67 = .ok (.aload_n 0, 1) := by decide +kernel
theorem d23_68 : decode jdk_52_method_11_code 68 = .ok (.iload 5, 2) := by decide +kernel
theorem d23_70 : decode jdk_52_method_11_code 70 = .ok (.invokestatic 71, 3) := by decide +kernel
theorem d23_73 : decode jdk_52_method_11_code 73 = .ok (.invokestatic 81, 3) := by decide +kernel
theorem d23_76 : decode jdk_52_method_11_code 76 = .ok (.ifCond .eq (-32), 3) := by decide +kernel
theorem d23_79 : decode jdk_52_method_11_code 79 = .ok (.iinc 4 (-1), 3) := by decide +kernel
theorem d23_82 : decode jdk_52_method_11_code 82 = .ok (.iinc 5 1, 3) := by decide +kernel
theorem d23_85 : decode jdk_52_method_11_code 85 = .ok (.goto (-41), 3) := by decide +kernel
theorem pn_22 : plainName "java/lang/StringUTF16" = true := by first | (simp [plainName, overriddenIn]; done) | decide +kernel
theorem d22_0 : decode jdk_52_method_12_code 0 = .ok (.aload_n 0, 1) := by decide +kernel
theorem d22_1 : decode jdk_52_method_12_code 1 = .ok (.iload_n 1, 1) := by decide +kernel
theorem d22_2 : decode jdk_52_method_12_code 2 = .ok (.iload_n 2, 1) := by decide +kernel
theorem d22_3 : decode jdk_52_method_12_code 3 = .ok (.iconst 0, 1) := by decide +kernel
theorem d22_4 : decode jdk_52_method_12_code 4 = .ok (.invokestatic 100, 3) := by decide +kernel
theorem pd___BIIZ_I : parseMethodDescriptor "([BIIZ)I" = some ⟨[(.array .byte), .int, .int, .boolean], some .int⟩ := by decide +kernel
theorem d22_7 : decode jdk_52_method_12_code 7 = .ok (.ireturn, 1) := by decide +kernel
theorem pn_13 : plainName "java/lang/String" = true := by first | (simp [plainName, overriddenIn]; done) | decide +kernel
theorem d13_0 : decode jdk_42_method_59_code 0 = .ok (.iload_n 1, 1) := by decide +kernel
theorem d13_1 : decode jdk_42_method_59_code 1 = .ok (.iload_n 2, 1) := by decide +kernel
theorem d13_2 : decode jdk_42_method_59_code 2 = .ok (.aload_n 0, 1) := by decide +kernel
theorem d13_3 : decode jdk_42_method_59_code 3 = .ok (.invokevirtual 505, 3) := by decide +kernel
theorem pd___I : parseMethodDescriptor "()I" = some ⟨[], some .int⟩ := by decide +kernel
theorem d13_6 : decode jdk_42_method_59_code 6 = .ok (.invokestatic 511, 3) := by decide +kernel
theorem pd__III_I : parseMethodDescriptor "(III)I" = some ⟨[.int, .int, .int], some .int⟩ := by decide +kernel
theorem d13_9 : decode jdk_42_method_59_code 9 = .ok (.pop, 1) := by decide +kernel
theorem d13_10 : decode jdk_42_method_59_code 10 = .ok (.aload_n 0, 1) := by decide +kernel
theorem d13_11 : decode jdk_42_method_59_code 11 = .ok (.invokevirtual 492, 3) := by decide +kernel
theorem pd___Z : parseMethodDescriptor "()Z" = some ⟨[], some .boolean⟩ := by decide +kernel
theorem d13_14 : decode jdk_42_method_59_code 14 = .ok (.ifCond .eq 7, 3) := by decide +kernel
theorem d13_21 : decode jdk_42_method_59_code 21 = .ok (.aload_n 0, 1) := by decide +kernel
theorem d13_22 : decode jdk_42_method_59_code 22 = .ok (.getfield 9, 3) := by decide +kernel
theorem d13_25 : decode jdk_42_method_59_code 25 = .ok (.iload_n 1, 1) := by decide +kernel
theorem d13_26 : decode jdk_42_method_59_code 26 = .ok (.iload_n 2, 1) := by decide +kernel
theorem d13_27 : decode jdk_42_method_59_code 27 = .ok (.invokestatic 514, 3) := by decide +kernel
theorem pd___BII_I : parseMethodDescriptor "([BII)I" = some ⟨[(.array .byte), .int, .int], some .int⟩ := by decide +kernel
theorem d13_30 : decode jdk_42_method_59_code 30 = .ok (.ireturn, 1) := by decide +kernel
theorem d13_17 : decode jdk_42_method_59_code 17 = .ok (.iload_n 2, 1) := by decide +kernel
theorem d13_18 : decode jdk_42_method_59_code 18 = .ok (.iload_n 1, 1) := by decide +kernel
theorem d13_19 : decode jdk_42_method_59_code 19 = .ok (.isub, 1) := by decide +kernel
theorem d13_20 : decode jdk_42_method_59_code 20 = .ok (.ireturn, 1) := by decide +kernel
theorem pn_6 : plainName "java/lang/String" = true := by first | (simp [plainName, overriddenIn]; done) | decide +kernel
theorem d6_0 : decode jdk_42_method_55_code 0 = .ok (.aload_n 0, 1) := by decide +kernel
theorem d6_1 : decode jdk_42_method_55_code 1 = .ok (.getfield 9, 3) := by decide +kernel
theorem d6_4 : decode jdk_42_method_55_code 4 = .ok (.arraylength, 1) := by decide +kernel
theorem d6_5 : decode jdk_42_method_55_code 5 = .ok (.ifCond .ne 7, 3) := by decide +kernel
theorem d6_12 : decode jdk_42_method_55_code 12 = .ok (.iconst 0, 1) := by decide +kernel
theorem d6_13 : decode jdk_42_method_55_code 13 = .ok (.ireturn, 1) := by decide +kernel
theorem d6_8 : decode jdk_42_method_55_code 8 = .ok (.iconst 1, 1) := by decide +kernel
theorem d6_9 : decode jdk_42_method_55_code 9 = .ok (.goto 4, 3) := by decide +kernel
theorem pn_5 : plainName "com/example/usher/usher/lifecycle/ExecutionKey" = true := by first | (simp [plainName, overriddenIn]; done) | decide +kernel
theorem d5_0 : decode prog_33_method_2_code 0 = .ok (.aload_n 0, 1) := by decide +kernel
theorem d5_1 : decode prog_33_method_2_code 1 = .ok (.invokevirtual 42, 3) := by decide +kernel
theorem d5_4 : decode prog_33_method_2_code 4 = .ok (.ifCond .ne 22, 3) := by decide +kernel
theorem d5_26 : decode prog_33_method_2_code 26 = .ok (.iconst 0, 1) := by decide +kernel
theorem d5_27 : decode prog_33_method_2_code 27 = .ok (.ireturn, 1) := by decide +kernel
theorem d5_7 : decode prog_33_method_2_code 7 = .ok (.aload_n 0, 1) := by decide +kernel
theorem d5_8 : decode prog_33_method_2_code 8 = .ok (.iconst 0, 1) := by decide +kernel
theorem d5_9 : decode prog_33_method_2_code 9 = .ok (.aload_n 0, 1) := by decide +kernel
theorem d5_10 : decode prog_33_method_2_code 10 = .ok (.invokevirtual 46, 3) := by decide +kernel
theorem d5_13 : decode prog_33_method_2_code 13 = .ok (.invokevirtual 50, 3) := by decide +kernel
theorem pd__II_I : parseMethodDescriptor "(II)I" = some ⟨[.int, .int], some .int⟩ := by decide +kernel
theorem d5_16 : decode prog_33_method_2_code 16 = .ok (.sipush 512, 3) := by decide +kernel
theorem d5_19 : decode prog_33_method_2_code 19 = .ok (.if_icmp .gt 7, 3) := by decide +kernel
theorem d5_22 : decode prog_33_method_2_code 22 = .ok (.iconst 1, 1) := by decide +kernel
theorem d5_23 : decode prog_33_method_2_code 23 = .ok (.goto 4, 3) := by decide +kernel
theorem pn_1 : plainName "com/example/usher/usher/lifecycle/ExecutionKeyFitsPinLaw" = true := by first | (simp [plainName, overriddenIn]; done) | decide +kernel
theorem d1_0 : decode method_2_code 0 = .ok (.iload_n 0, 1) := by decide +kernel
theorem d1_1 : decode method_2_code 1 = .ok (.bipush 16, 2) := by decide +kernel
theorem d1_3 : decode method_2_code 3 = .ok (.iushr, 1) := by decide +kernel
theorem d1_4 : decode method_2_code 4 = .ok (.iconst 1, 1) := by decide +kernel
theorem d1_5 : decode method_2_code 5 = .ok (.iand, 1) := by decide +kernel
theorem d1_6 : decode method_2_code 6 = .ok (.ifCond .eq 13, 3) := by decide +kernel
theorem d1_19 : decode method_2_code 19 = .ok (.iload_n 0, 1) := by decide +kernel
theorem d1_20 : decode method_2_code 20 = .ok (.ldc 8, 2) := by decide +kernel
theorem d1_22 : decode method_2_code 22 = .ok (.iand, 1) := by decide +kernel
theorem d1_23 : decode method_2_code 23 = .ok (.i2c, 1) := by decide +kernel
theorem d1_24 : decode method_2_code 24 = .ok (.ireturn, 1) := by decide +kernel
theorem d1_9 : decode method_2_code 9 = .ok (.ldc 7, 2) := by decide +kernel
theorem d1_11 : decode method_2_code 11 = .ok (.iload_n 0, 1) := by decide +kernel
theorem d1_12 : decode method_2_code 12 = .ok (.sipush 2047, 3) := by decide +kernel
theorem d1_15 : decode method_2_code 15 = .ok (.iand, 1) := by decide +kernel
theorem d1_16 : decode method_2_code 16 = .ok (.iadd, 1) := by decide +kernel
theorem d1_17 : decode method_2_code 17 = .ok (.i2c, 1) := by decide +kernel
theorem d1_18 : decode method_2_code 18 = .ok (.ireturn, 1) := by decide +kernel
theorem pn_0 : plainName "com/example/usher/usher/lifecycle/ExecutionKeyFitsPinLaw" = true := by first | (simp [plainName, overriddenIn]; done) | decide +kernel
theorem pd__I_C : parseMethodDescriptor "(I)C" = some ⟨[.int], some .char⟩ := by decide +kernel
theorem pd___C_V : parseMethodDescriptor "([C)V" = some ⟨[(.array .char)], none⟩ := by decide +kernel
theorem pd__Ljava_lang_String__Z : parseMethodDescriptor "(Ljava/lang/String;)Z" = some ⟨[(.object "java/lang/String")], some .boolean⟩ := by decide +kernel
abbrev R_cLoop : Room := ⟨0, 0, 0, 0⟩
set_option maxRecDepth 65536 in
set_option maxHeartbeats 40000000 in
theorem cLoop (l : Launch) (Z : State) (a0 : Array Value) (hw : ∀ d ∈ tables_1, d.before a0 Z = true) (c1 : Addr) (d1 : Addr) (kc : ClassId) (kb : ClassId) (n : Nat) (f : Nat → Int32) (h0 : Heap) (n0 : Nat) (O0 : Old Z n0 h0) (Fc : ArF Z h0 c1 kc .char n f) (Fd : ArF Z h0 d1 kb .byte n (fun _ => 0)) (ne1 : c1 ≠ d1) (g1 : n0 ≤ d1) :
    MetN l Z (⟨"java/lang/StringUTF16", "compress", "([CI[BII)I"⟩ : MethodName) jdk_52_method_21_code 7 (some .int) R_cLoop [] #[(.ref c1), (.int (0 : Int32)), (.ref d1), (.int (0 : Int32)), (.int n.toInt32)] h0 (fun v h L => ∃ (r : Nat), v = some (.int r.toInt32) ∧ Fr n0 L ∧ Keep h0 h [d1] ∧ ArF Z h d1 kb .byte n (fun i => if i < r then (f i).toInt8.toInt32 else 0) ∧ (r ≤ n) ∧ (∀ i, i < r → ¬ (255 : Int32) < f i) ∧ (r < n → (255 : Int32) < f r)) := by
  refine MetN.walk (plainFor_of_name pn_9) ?_
  intro p e s m below meth c s₁ hx hZ hby hml hown hnm hret hlk X0 e0
  have N0 := Fr.nil n0
  refine Win.to s₁ (mkF m 0 #[.val (.ref c1), .val (.int (0 : Int32)), .val (.ref d1), .val (.int (0 : Int32)), .val (.int n.toInt32), .unset, .unset] []) (fun _ k => castTop (by first | (simp [entryFrame, mkF, argsToLocals, Value.category]; done) | rfl) k) ?_
  refine Win.to s₁ (mkF m 1 #[.val (.ref c1), .val (.int (0 : Int32)), .val (.ref d1), .val (.int (0 : Int32)), .val (.int n.toInt32), .unset, .unset] [(.int (0 : Int32))]) (fun _ k => XS.iconst X0.here hx rfl (hb hby d9_0) k) ?_
  refine Win.to s₁ (mkF m 3 #[.val (.ref c1), .val (.int (0 : Int32)), .val (.ref d1), .val (.int (0 : Int32)), .val (.int n.toInt32), .val (.int (0 : Int32)), .unset] []) (fun _ k => XS.istore X0.here hx rfl (hb hby d9_1) rfl (l' := #[.val (.ref c1), .val (.int (0 : Int32)), .val (.ref d1), .val (.int (0 : Int32)), .val (.int n.toInt32), .val (.int (0 : Int32)), .unset]) rfl k) ?_
  have hn := Fc.big
  have loop : ∀ (q j : Nat), j + q = n → (∀ i, i < j → ¬ (255 : Int32) < f i) → ∀ (T : State) (locs : List Loc) (h : Heap) (X : Stand p l e R_cLoop s m #[(.ref c1), (.int (0 : Int32)), (.ref d1), (.int (0 : Int32)), (.int n.toInt32)] below meth c T locs 0 0) (Nq : Fr n0 locs) (eT : T.heap = h) (O : Old Z n0 h) (K : Keep h0 h [d1]) (Gd : ArF Z h d1 kb .byte n (fun i => if i < j then (f i).toInt8.toInt32 else 0)) (s6 : Slot) (h6 : One s6), Win p e below s R_cLoop (fun v h L => ∃ (r : Nat), v = some (.int r.toInt32) ∧ Fr n0 L ∧ Keep h0 h [d1] ∧ ArF Z h d1 kb .byte n (fun i => if i < r then (f i).toInt8.toInt32 else 0) ∧ (r ≤ n) ∧ (∀ i, i < r → ¬ (255 : Int32) < f i) ∧ (r < n → (255 : Int32) < f r)) (T.setTop (mkF m 3 #[.val (.ref c1), .val (.int j.toInt32), .val (.ref d1), .val (.int j.toInt32), .val (.int n.toInt32), .val (.int j.toInt32), s6] [])) := by
    intro q
    induction q with
    | zero =>
      intro j hj hall T locs h X Nq eT O K Gd s6 h6
      obtain rfl : j = n := by omega
      refine Win.to T (mkF m 5 #[.val (.ref c1), .val (.int j.toInt32), .val (.ref d1), .val (.int j.toInt32), .val (.int j.toInt32), .val (.int j.toInt32), s6] [(.int j.toInt32)]) (fun _ k => XS.iload X.here hx rfl (hb hby d9_3) rfl k) ?_
      refine Win.to T (mkF m 7 #[.val (.ref c1), .val (.int j.toInt32), .val (.ref d1), .val (.int j.toInt32), .val (.int j.toInt32), .val (.int j.toInt32), s6] [(.int j.toInt32), (.int j.toInt32)]) (fun _ k => XS.iload X.here hx rfl (hb hby d9_5) rfl k) ?_
      refine Win.to T (mkF m 44 #[.val (.ref c1), .val (.int j.toInt32), .val (.ref d1), .val (.int j.toInt32), .val (.int j.toInt32), .val (.int j.toInt32), s6] []) (fun _ k => XS.icmpYes X.here hx rfl (pc0 := 7) (pc' := 44) rfl (hb hby d9_7) rfl (flt (show ¬ (j.toInt32 < j.toInt32) from Int32.lt_irrefl)).2.1 (by decide) (by decide) k) ?_
      refine Win.to T (mkF m 46 #[.val (.ref c1), .val (.int j.toInt32), .val (.ref d1), .val (.int j.toInt32), .val (.int j.toInt32), .val (.int j.toInt32), s6] [(.int j.toInt32)]) (fun _ k => XS.iload X.here hx rfl (hb hby d9_44) rfl k) ?_
      exact Win.retI X hx hlk hret (hb hby d9_46) (by decide) (by decide) (by (try rw [eT]); exact ⟨j, rfl, Nq, K, Gd, (Nat.le_refl _), hall, (fun q => absurd q (Nat.lt_irrefl _))⟩)
    | succ q ih =>
      intro j hj hall T locs h X Nq eT O K Gd s6 h6
      have hj1 : j < n := by omega
      have hj2 : j < 2 ^ 31 := by omega
      have Gc : ArF Z h c1 kc .char n f := Fc.keep K (ninS ne1 nin0)
      refine Win.to T (mkF m 5 #[.val (.ref c1), .val (.int j.toInt32), .val (.ref d1), .val (.int j.toInt32), .val (.int n.toInt32), .val (.int j.toInt32), s6] [(.int j.toInt32)]) (fun _ k => XS.iload X.here hx rfl (hb hby d9_3) rfl k) ?_
      refine Win.to T (mkF m 7 #[.val (.ref c1), .val (.int j.toInt32), .val (.ref d1), .val (.int j.toInt32), .val (.int n.toInt32), .val (.int j.toInt32), s6] [(.int n.toInt32), (.int j.toInt32)]) (fun _ k => XS.iload X.here hx rfl (hb hby d9_5) rfl k) ?_
      refine Win.to T (mkF m 10 #[.val (.ref c1), .val (.int j.toInt32), .val (.ref d1), .val (.int j.toInt32), .val (.int n.toInt32), .val (.int j.toInt32), s6] []) (fun _ k => XS.icmpNo X.here hx rfl (hb hby d9_7) rfl (tlt (show j.toInt32 < n.toInt32 from ((own_lt hj2 hn).mpr hj1))).2.1 k) ?_
      refine Win.to T (mkF m 11 #[.val (.ref c1), .val (.int j.toInt32), .val (.ref d1), .val (.int j.toInt32), .val (.int n.toInt32), .val (.int j.toInt32), s6] [(.ref c1)]) (fun _ k => XS.aloadN X.here hx rfl (hb hby d9_10) rfl rfl k) ?_
      refine Win.to T (mkF m 12 #[.val (.ref c1), .val (.int j.toInt32), .val (.ref d1), .val (.int j.toInt32), .val (.int n.toInt32), .val (.int j.toInt32), s6] [(.int j.toInt32), (.ref c1)]) (fun _ k => XS.iloadN X.here hx rfl (hb hby d9_11) rfl k) ?_
      obtain ⟨cl101, Ar101, hi101, ha101⟩ := ArF.at Gc (j := j.toInt32) (i := j) (own_tn hj2).1 (own_tn hj2).2.1 hj1
      refine Win.to T (mkF m 13 #[.val (.ref c1), .val (.int j.toInt32), .val (.ref d1), .val (.int j.toInt32), .val (.int n.toInt32), .val (.int j.toInt32), s6] [(.int (f j))]) (fun _ k => X.caload hx (j := j.toInt32) (v := (.int (f j))) (by rw [eT]; exact Ar101.1) (State.isArrayOf_alike hZ.alike Ar101.2.1) Ar101.2.2 hi101 ha101 (g := (mkF m 12 #[.val (.ref c1), .val (.int j.toInt32), .val (.ref d1), .val (.int j.toInt32), .val (.int n.toInt32), .val (.int j.toInt32), s6] [(.int j.toInt32), (.ref c1)])) rfl rfl (hb hby d9_12) _ k) ?_
      refine Win.to T (mkF m 15 #[.val (.ref c1), .val (.int j.toInt32), .val (.ref d1), .val (.int j.toInt32), .val (.int n.toInt32), .val (.int j.toInt32), .val (.int (f j))] []) (fun _ k => XS.istoreS X.here hx rfl (hb hby d9_13) rfl rfl h6 k) ?_
      refine Win.to T (mkF m 17 #[.val (.ref c1), .val (.int j.toInt32), .val (.ref d1), .val (.int j.toInt32), .val (.int n.toInt32), .val (.int j.toInt32), .val (.int (f j))] [(.int (f j))]) (fun _ k => XS.iload X.here hx rfl (hb hby d9_15) rfl k) ?_
      refine Win.to T (mkF m 20 #[.val (.ref c1), .val (.int j.toInt32), .val (.ref d1), .val (.int j.toInt32), .val (.int n.toInt32), .val (.int j.toInt32), .val (.int (f j))] [(.int (255 : Int32)), (.int (f j))]) (fun _ k => XS.sipush X.here hx rfl (hb hby d9_17) k) ?_
      by_cases hc102 : (255 : Int32) < (f j)
      · refine Win.to T (mkF m 23 #[.val (.ref c1), .val (.int j.toInt32), .val (.ref d1), .val (.int j.toInt32), .val (.int n.toInt32), .val (.int j.toInt32), .val (.int (f j))] []) (fun _ k => XS.icmpNo X.here hx rfl (hb hby d9_20) rfl (tlt hc102).2.2.2 k) ?_
        refine Win.to T (mkF m 25 #[.val (.ref c1), .val (.int j.toInt32), .val (.ref d1), .val (.int j.toInt32), .val (.int n.toInt32), .val (.int j.toInt32), .val (.int (f j))] [(.int j.toInt32)]) (fun _ k => XS.iload X.here hx rfl (hb hby d9_23) rfl k) ?_
        exact Win.retI X hx hlk hret (hb hby d9_25) (by decide) (by decide) (by (try rw [eT]); exact ⟨j, rfl, Nq, K, Gd, (Nat.le_of_lt hj1), hall, (fun _ => hc102)⟩)
      · refine Win.to T (mkF m 26 #[.val (.ref c1), .val (.int j.toInt32), .val (.ref d1), .val (.int j.toInt32), .val (.int n.toInt32), .val (.int j.toInt32), .val (.int (f j))] []) (fun _ k => XS.icmpYes X.here hx rfl (pc0 := 20) (pc' := 26) rfl (hb hby d9_20) rfl (flt hc102).2.2.2 (by decide) (by decide) k) ?_
        refine Win.to T (mkF m 27 #[.val (.ref c1), .val (.int j.toInt32), .val (.ref d1), .val (.int j.toInt32), .val (.int n.toInt32), .val (.int j.toInt32), .val (.int (f j))] [(.ref d1)]) (fun _ k => XS.aloadN X.here hx rfl (hb hby d9_26) rfl rfl k) ?_
        refine Win.to T (mkF m 28 #[.val (.ref c1), .val (.int j.toInt32), .val (.ref d1), .val (.int j.toInt32), .val (.int n.toInt32), .val (.int j.toInt32), .val (.int (f j))] [(.int j.toInt32), (.ref d1)]) (fun _ k => XS.iloadN X.here hx rfl (hb hby d9_27) rfl k) ?_
        refine Win.to T (mkF m 30 #[.val (.ref c1), .val (.int j.toInt32), .val (.ref d1), .val (.int j.toInt32), .val (.int n.toInt32), .val (.int j.toInt32), .val (.int (f j))] [(.int (f j)), (.int j.toInt32), (.ref d1)]) (fun _ k => XS.iload X.here hx rfl (hb hby d9_28) rfl k) ?_
        refine Win.to T (mkF m 31 #[.val (.ref c1), .val (.int j.toInt32), .val (.ref d1), .val (.int j.toInt32), .val (.int n.toInt32), .val (.int j.toInt32), .val (.int (f j))] [(.int ((f j).toInt8.toInt32)), (.int j.toInt32), (.ref d1)]) (fun _ k => XS.i2b X.here hx rfl (hb hby d9_30) rfl k) ?_
        obtain ⟨cl103, Ar103, hi103, -⟩ := ArF.at Gd (j := j.toInt32) (i := j) (own_tn hj2).1 (own_tn hj2).2.1 hj1
        obtain ⟨T104, h104, X104, e104, W104, st104⟩ := stB X hx hZ eT Ar103 (j := j.toInt32) hi103 (g := (mkF m 31 #[.val (.ref c1), .val (.int j.toInt32), .val (.ref d1), .val (.int j.toInt32), .val (.int n.toInt32), .val (.int j.toInt32), .val (.int (f j))] [(.int ((f j).toInt8.toInt32)), (.int j.toInt32), (.ref d1)])) rfl rfl (hb hby d9_31)
        have O105 := Old.wr O W104 g1
        have K106 : Keep h0 h104 [d1] := K.wr W104 (Or.inl (List.mem_of_getElem? (i := 0) rfl))
        have N107 := Fr.snoc X104 Nq g1
        have eq104 : nar .byte ((f j).toInt8.toInt32) = ((f j).toInt8.toInt32) := (own_b8 (f j))
        have W104 := eq104 ▸ W104
        have F108 : ArF Z h104 d1 kb .byte n (upd (fun i => if i < j then (f i).toInt8.toInt32 else 0) j ((f j).toInt8.toInt32)) := ArF.set Gd W104 (own_tn hj2).1 hj1 (eq104 ▸ (fits_nar_byte _))
        refine Win.to T104 (mkF m 32 #[.val (.ref c1), .val (.int j.toInt32), .val (.ref d1), .val (.int j.toInt32), .val (.int n.toInt32), .val (.int j.toInt32), .val (.int (f j))] []) (fun _ k => st104 _ k) ?_
        refine Win.to T104 (mkF m 35 #[.val (.ref c1), .val (.int (j.toInt32 + (1 : Int32))), .val (.ref d1), .val (.int j.toInt32), .val (.int n.toInt32), .val (.int j.toInt32), .val (.int (f j))] []) (fun _ k => XS.iinc X104.here hx rfl (hb hby d9_32) rfl (l' := #[.val (.ref c1), .val (.int (j.toInt32 + (1 : Int32))), .val (.ref d1), .val (.int j.toInt32), .val (.int n.toInt32), .val (.int j.toInt32), .val (.int (f j))]) rfl k) ?_
        refine Win.to T104 (mkF m 38 #[.val (.ref c1), .val (.int (j.toInt32 + (1 : Int32))), .val (.ref d1), .val (.int (j.toInt32 + (1 : Int32))), .val (.int n.toInt32), .val (.int j.toInt32), .val (.int (f j))] []) (fun _ k => XS.iinc X104.here hx rfl (hb hby d9_35) rfl (l' := #[.val (.ref c1), .val (.int (j.toInt32 + (1 : Int32))), .val (.ref d1), .val (.int (j.toInt32 + (1 : Int32))), .val (.int n.toInt32), .val (.int j.toInt32), .val (.int (f j))]) rfl k) ?_
        refine Win.to T104 (mkF m 41 #[.val (.ref c1), .val (.int (j.toInt32 + (1 : Int32))), .val (.ref d1), .val (.int (j.toInt32 + (1 : Int32))), .val (.int n.toInt32), .val (.int (j.toInt32 + (1 : Int32))), .val (.int (f j))] []) (fun _ k => XS.iinc X104.here hx rfl (hb hby d9_38) rfl (l' := #[.val (.ref c1), .val (.int (j.toInt32 + (1 : Int32))), .val (.ref d1), .val (.int (j.toInt32 + (1 : Int32))), .val (.int n.toInt32), .val (.int (j.toInt32 + (1 : Int32))), .val (.int (f j))]) rfl k) ?_
        refine Win.to T104 (mkF m 3 #[.val (.ref c1), .val (.int (j.toInt32 + (1 : Int32))), .val (.ref d1), .val (.int (j.toInt32 + (1 : Int32))), .val (.int n.toInt32), .val (.int (j.toInt32 + (1 : Int32))), .val (.int (f j))] []) (fun _ k => XS.goto X104.here hx rfl (pc0 := 41) (pc' := 3) rfl (hb hby d9_41) (by decide) (by decide) k) ?_
        rw [own_succ j]
        refine ih (j + 1) (by omega) (fun i hi => ?_) T104 _ h104 X104 N107 e104 O105 K106 (ArF.cong F108 fun i hi => ?_) _ (One.val rfl)
        · rcases Nat.lt_succ_iff_lt_or_eq.mp hi with q | q
          · exact hall i q
          · rw [q]; exact hc102
        · simp only [upd]
          by_cases q : i = j
          · simp [q]
          · have q2 : i < j + 1 ↔ i < j := by omega
            simp [q, q2]
  exact loop n 0 (by omega) (fun i hi => absurd hi (Nat.not_lt_zero _)) s₁ [] h0 X0 N0 e0 O0 (Keep.refl _ _) (ArF.cong Fd fun i hi => by simp) _ One.u
abbrev R_comp : Room := ⟨1, 1, 1023, 18⟩
set_option maxRecDepth 65536 in
set_option maxHeartbeats 40000000 in
theorem comp (l : Launch) (Z : State) (a0 : Array Value) (hw : ∀ d ∈ tables_1, d.before a0 Z = true) (c1 : Addr) (kc : ClassId) (n : Nat) (f : Nat → Int32) (h0 : Heap) (n0 : Nat) (O0 : Old Z n0 h0) (Fc : ArF Z h0 c1 kc .char n f) (hp : ∀ i, i < n → ¬ (255 : Int32) < f i) (hcap : n ≤ 1023) :
    MetN l Z (⟨"java/lang/StringUTF16", "compress", "([CII)[B"⟩ : MethodName) jdk_52_method_16_code 6 (some (.array .byte)) R_comp [] #[(.ref c1), (.int (0 : Int32)), (.int n.toInt32)] h0 (fun v h L => ∃ (t : Addr) (kb : ClassId), v = some (.ref t) ∧ Fr n0 L ∧ Keep h0 h [] ∧ h0.size ≤ t ∧ ArF Z h t kb .byte n (fun i => (f i).toInt8.toInt32)) := by
  refine MetN.walk (plainFor_of_name pn_8) ?_
  intro p e s m below meth c s₁ hx hZ hby hml hown hnm hret hlk X0 e0
  have N0 := Fr.nil n0
  refine Win.to s₁ (mkF m 0 #[.val (.ref c1), .val (.int (0 : Int32)), .val (.int n.toInt32), .unset, .unset, .unset] []) (fun _ k => castTop (by first | (simp [entryFrame, mkF, argsToLocals, Value.category]; done) | rfl) k) ?_
  have hn := Fc.big
  refine Win.to s₁ (mkF m 1 #[.val (.ref c1), .val (.int (0 : Int32)), .val (.int n.toInt32), .unset, .unset, .unset] [(.int n.toInt32)]) (fun _ k => XS.iloadN X0.here hx rfl (hb hby d8_0) rfl k) ?_
  obtain ⟨T109, h109, k109, X109, e109, E109, A109, st109⟩ := newP X0 hx hZ (wk hw 20 rfl) e0 (g := (mkF m 1 #[.val (.ref c1), .val (.int (0 : Int32)), .val (.int n.toInt32), .unset, .unset, .unset] [(.int n.toInt32)])) rfl (hb hby d8_1) rfl (own_tn hn).2.1 (cap := 1023) (by rw [(own_tn hn).1]; exact hcap) (by decide) (by decide) (by decide)
  obtain ⟨b109, g109⟩ : ∃ z, z = h0.size := ⟨_, rfl⟩
  rw [← g109] at A109 st109
  have ne110 : c1 ≠ b109 := Nat.ne_of_lt (Nat.lt_of_lt_of_le Fc.lt (Nat.le_of_eq g109.symm))
  have g111 : n0 ≤ b109 := Nat.le_trans (own_le O0) (Nat.le_of_eq g109.symm)
  have z112 : h0.size ≤ b109 := (Nat.le_of_eq g109.symm)
  have O113 := Old.ext O0 E109
  have K114 : Keep h0 h109 [] := (Keep.refl h0 []).ext E109
  have F115 : ArF Z h109 b109 k109 .byte n (fun _ => 0) := (own_tn hn).1 ▸ ArF.new A109 (own_tn hn).2.1 rfl
  refine Win.to T109 (mkF m 3 #[.val (.ref c1), .val (.int (0 : Int32)), .val (.int n.toInt32), .unset, .unset, .unset] [(.ref b109)]) (fun _ k => st109 _ k) ?_
  refine Win.to T109 (mkF m 4 #[.val (.ref c1), .val (.int (0 : Int32)), .val (.int n.toInt32), .val (.ref b109), .unset, .unset] []) (fun _ k => XS.astoreN X109.here hx rfl (hb hby d8_3) rfl rfl (l' := #[.val (.ref c1), .val (.int (0 : Int32)), .val (.int n.toInt32), .val (.ref b109), .unset, .unset]) rfl k) ?_
  refine Win.to T109 (mkF m 5 #[.val (.ref c1), .val (.int (0 : Int32)), .val (.int n.toInt32), .val (.ref b109), .unset, .unset] [(.ref c1)]) (fun _ k => XS.aloadN X109.here hx rfl (hb hby d8_4) rfl rfl k) ?_
  refine Win.to T109 (mkF m 6 #[.val (.ref c1), .val (.int (0 : Int32)), .val (.int n.toInt32), .val (.ref b109), .unset, .unset] [(.int (0 : Int32)), (.ref c1)]) (fun _ k => XS.iloadN X109.here hx rfl (hb hby d8_5) rfl k) ?_
  refine Win.to T109 (mkF m 7 #[.val (.ref c1), .val (.int (0 : Int32)), .val (.int n.toInt32), .val (.ref b109), .unset, .unset] [(.ref b109), (.int (0 : Int32)), (.ref c1)]) (fun _ k => XS.aloadN X109.here hx rfl (hb hby d8_6) rfl rfl k) ?_
  refine Win.to T109 (mkF m 8 #[.val (.ref c1), .val (.int (0 : Int32)), .val (.int n.toInt32), .val (.ref b109), .unset, .unset] [(.int (0 : Int32)), (.ref b109), (.int (0 : Int32)), (.ref c1)]) (fun _ k => XS.iconst X109.here hx rfl (hb hby d8_7) k) ?_
  refine Win.to T109 (mkF m 9 #[.val (.ref c1), .val (.int (0 : Int32)), .val (.int n.toInt32), .val (.ref b109), .unset, .unset] [(.int n.toInt32), (.int (0 : Int32)), (.ref b109), (.int (0 : Int32)), (.ref c1)]) (fun _ k => XS.iloadN X109.here hx rfl (hb hby d8_8) rfl k) ?_
  have F116 : ArF Z h109 c1 kc .char n f := (Fc.ext E109)
  obtain ⟨T117, h117, v117, L117, X117, e117, ⟨r_117, rfl, N117q, r117_0, r117_1, r117_2, r117_3, r117_4⟩, st117⟩ := N.static X109 hx hZ (y := (⟨"java/lang/StringUTF16", "compress", "([CI[BII)I"⟩ : MethodName)) hown (wk hw 45 rfl) (wk hw 46 rfl) (wk hw 43 rfl) (wk hw 47 rfl) (by decide) (cLoop l Z a0 hw c1 b109 kc k109 n f h109 n0 O113 F116 F115 ne110 g111) e109 (g := (mkF m 9 #[.val (.ref c1), .val (.int (0 : Int32)), .val (.int n.toInt32), .val (.ref b109), .unset, .unset] [(.int n.toInt32), (.int (0 : Int32)), (.ref b109), (.int (0 : Int32)), (.ref c1)])) rfl (by rw [hml]; rfl) (argsL := [(.ref c1), (.int (0 : Int32)), (.ref b109), (.int (0 : Int32)), (.int n.toInt32)]) (rest := []) rfl (lenOf pd___CI_BII_I rfl) rfl (W := 0) (by show 2 * 0 + _ ≤ _; exact Nat.le_of_eq rfl) (hb hby d8_9) (by decide) (by decide) (by decide) (by decide)
  have N118 := Fr.app N0 N117q
  have O119 := Old.keep O113 r117_0 (allS g111 all0)
  have K120 : Keep h0 h117 [] := Keep.trans K114 r117_0 (allS (Or.inr z112) all0)
  refine Win.to T117 (mkF m 12 #[.val (.ref c1), .val (.int (0 : Int32)), .val (.int n.toInt32), .val (.ref b109), .unset, .unset] [(.int r_117.toInt32)]) (fun _ k => st117 _ k) ?_
  have hr : r_117 = n := by
    rcases Nat.lt_or_ge r_117 n with q | q
    · exact absurd (r117_4 q) (hp _ q)
    · have := r117_2; omega
  have F121 : ArF Z h117 b109 k109 .byte n (fun i => (f i).toInt8.toInt32) := ArF.cong r117_1 fun i hi => by simp [hr, hi]
  refine Win.to T117 (mkF m 14 #[.val (.ref c1), .val (.int (0 : Int32)), .val (.int n.toInt32), .val (.ref b109), .val (.int r_117.toInt32), .unset] []) (fun _ k => XS.istore X117.here hx rfl (hb hby d8_12) rfl (l' := #[.val (.ref c1), .val (.int (0 : Int32)), .val (.int n.toInt32), .val (.ref b109), .val (.int r_117.toInt32), .unset]) rfl k) ?_
  refine Win.to T117 (mkF m 16 #[.val (.ref c1), .val (.int (0 : Int32)), .val (.int n.toInt32), .val (.ref b109), .val (.int r_117.toInt32), .unset] [(.int r_117.toInt32)]) (fun _ k => XS.iload X117.here hx rfl (hb hby d8_14) rfl k) ?_
  refine Win.to T117 (mkF m 17 #[.val (.ref c1), .val (.int (0 : Int32)), .val (.int n.toInt32), .val (.ref b109), .val (.int r_117.toInt32), .unset] [(.int n.toInt32), (.int r_117.toInt32)]) (fun _ k => XS.iloadN X117.here hx rfl (hb hby d8_16) rfl k) ?_
  refine Win.to T117 (mkF m 57 #[.val (.ref c1), .val (.int (0 : Int32)), .val (.int n.toInt32), .val (.ref b109), .val (.int r_117.toInt32), .unset] []) (fun _ k => XS.icmpYes X117.here hx rfl (pc0 := 17) (pc' := 57) rfl (hb hby d8_17) rfl (teq (show r_117.toInt32 = n.toInt32 from (by rw [hr]))).1 (by decide) (by decide) k) ?_
  refine Win.to T117 (mkF m 58 #[.val (.ref c1), .val (.int (0 : Int32)), .val (.int n.toInt32), .val (.ref b109), .val (.int r_117.toInt32), .unset] [(.ref b109)]) (fun _ k => XS.aloadN X117.here hx rfl (hb hby d8_57) rfl rfl k) ?_
  exact Win.retA X117 hx hlk hret rfl rfl (hb hby d8_58) (by decide) (by decide) (by (try rw [e117]); exact ⟨b109, k109, rfl, N118, K120, z112, F121⟩)
abbrev R_coder0 : Room := ⟨0, 0, 0, 0⟩
set_option maxRecDepth 65536 in
set_option maxHeartbeats 40000000 in
theorem coder0 (l : Launch) (Z : State) (a0 : Array Value) (hw : ∀ d ∈ tables_1, d.before a0 Z = true) (b1 : Addr) (kb : ClassId) (n : Nat) (f : Nat → Int32) (h0 : Heap) (n0 : Nat) (O0 : Old Z n0 h0) (Fb : ArF Z h0 b1 kb .byte n f) :
    MetN l Z (⟨"java/lang/StringUTF16", "coderFromArrayLen", "([BI)B"⟩ : MethodName) jdk_52_method_15_code 2 (some .byte) R_coder0 [] #[(.ref b1), (.int n.toInt32)] h0 (fun v h L => v = some (.int (0 : Int32)) ∧ Fr n0 L ∧ h = h0) := by
  refine MetN.walk (plainFor_of_name pn_10) ?_
  intro p e s m below meth c s₁ hx hZ hby hml hown hnm hret hlk X0 e0
  have N0 := Fr.nil n0
  refine Win.to s₁ (mkF m 0 #[.val (.ref b1), .val (.int n.toInt32)] []) (fun _ k => castTop (by first | (simp [entryFrame, mkF, argsToLocals, Value.category]; done) | rfl) k) ?_
  refine Win.to s₁ (mkF m 1 #[.val (.ref b1), .val (.int n.toInt32)] [(.int n.toInt32)]) (fun _ k => XS.iloadN X0.here hx rfl (hb hby d10_0) rfl k) ?_
  refine Win.to s₁ (mkF m 2 #[.val (.ref b1), .val (.int n.toInt32)] [(.ref b1), (.int n.toInt32)]) (fun _ k => XS.aloadN X0.here hx rfl (hb hby d10_1) rfl rfl k) ?_
  obtain ⟨cl122, Ar122, hl122⟩ := ArF.len Fb
  refine Win.to s₁ (mkF m 3 #[.val (.ref b1), .val (.int n.toInt32)] [(.int n.toInt32), (.int n.toInt32)]) (fun _ k => X0.arraylength hx (by rw [e0]; exact Ar122.1) (State.isArrayOf_alike hZ.alike Ar122.2.1) (g := (mkF m 2 #[.val (.ref b1), .val (.int n.toInt32)] [(.ref b1), (.int n.toInt32)])) rfl rfl (hb hby d10_2) _ (by rw [hl122]; exact k)) ?_
  refine Win.to s₁ (mkF m 4 #[.val (.ref b1), .val (.int n.toInt32)] [(.int (0 : Int32))]) (fun _ k => XS.isub X0.here hx rfl (hb hby d10_3) rfl (by rw [show (n.toInt32 - n.toInt32) = (0 : Int32) from Int32.sub_self _]; exact k)) ?_
  refine Win.to s₁ (mkF m 6 #[.val (.ref b1), .val (.int n.toInt32)] [(.int (31 : Int32)), (.int (0 : Int32))]) (fun _ k => XS.bipush X0.here hx rfl (hb hby d10_4) k) ?_
  refine Win.to s₁ (mkF m 7 #[.val (.ref b1), .val (.int n.toInt32)] [(.int (0 : Int32))]) (fun _ k => XS.iushr X0.here hx rfl (hb hby d10_6) rfl (by rw [show (((0 : Int32).toUInt32 >>> ((31 : Int32) &&& 31).toUInt32).toInt32) = (0 : Int32) from by decide]; exact k)) ?_
  refine Win.to s₁ (mkF m 8 #[.val (.ref b1), .val (.int n.toInt32)] [(.int (0 : Int32))]) (fun _ k => XS.i2b X0.here hx rfl (hb hby d10_7) rfl (by rw [show ((0 : Int32).toInt8.toInt32) = (0 : Int32) from by decide]; exact k)) ?_
  exact Win.retN X0 hx hlk (t := .byte) hret (by simp) rfl (hb hby d10_8) (by decide) (by decide) (by (try rw [e0]); exact ⟨rfl, N0, rfl⟩)
abbrev R_ctor4 : Room := ⟨2, 4, 1023, 35⟩
set_option maxRecDepth 65536 in
set_option maxHeartbeats 40000000 in
theorem ctor4 (l : Launch) (Z : State) (a0 : Array Value) (hw : ∀ d ∈ tables_1, d.before a0 Z = true) (a1 : Addr) (c1 : Addr) (kc : ClassId) (n : Nat) (f : Nat → Int32) (cs : Int32) (h0 : Heap) (n0 : Nat) (O0 : Old Z n0 h0) (E1 : Exa Z h0 a1 "java/lang/String") (F1 : Fld Z h0 a1 "java/lang/String" "value" "[B" .null) (F2 : Fld Z h0 a1 "java/lang/String" "coder" "B" (.int (0 : Int32))) (Fc : ArF Z h0 c1 kc .char n f) (hp : ∀ i, i < n → ¬ (255 : Int32) < f i) (hcap : n ≤ 1023) (g1 : n0 ≤ a1) (S_CS : Sta Z Z.heap "java/lang/String" "COMPACT_STRINGS" "Z" (.int cs)) (hcs : ¬ (cs = (0 : Int32))) :
    MetW l Z (⟨"java/lang/String", "<init>", "([CIILjava/lang/Void;)V"⟩ : MethodName) jdk_42_method_149_code 6 none R_ctor4 [] #[(.ref a1), (.ref c1), (.int (0 : Int32)), (.int n.toInt32), .null] h0 EL1 (fun v h L => ∃ (t : Addr) (kb : ClassId), v = none ∧ Fr n0 L ∧ Keep h0 h [a1] ∧ Fld Z h a1 "java/lang/String" "value" "[B" (.ref t) ∧ Fld Z h a1 "java/lang/String" "coder" "B" (.int (0 : Int32)) ∧ ArF Z h t kb .byte n (fun i => (f i).toInt8.toInt32)) := by
  refine MetW.walk (plainFor_of_name pn_3) ?_
  intro p e s m below meth c s₁ hx hZ hby hml hown hnm hret hlk C0 hS0 X0 e0
  have N0 := Fr.nil n0
  refine WinW.to s₁ (mkF m 0 #[.val (.ref a1), .val (.ref c1), .val (.int (0 : Int32)), .val (.int n.toInt32), .val .null, .unset] []) (fun _ k => castTop (by first | (simp [entryFrame, mkF, argsToLocals, Value.category]; done) | rfl) k) ?_
  have hn := Fc.big
  refine WinW.to s₁ (mkF m 1 #[.val (.ref a1), .val (.ref c1), .val (.int (0 : Int32)), .val (.int n.toInt32), .val .null, .unset] [(.ref a1)]) (fun _ k => XS.aloadN X0.here hx rfl (hb hby d3_0) rfl rfl k) ?_
  obtain ⟨T123, X123, e123, st123⟩ := initO X0 hx hZ hown (wk hw 16 rfl) (wk hw 17 rfl) (wk hw 18 rfl) e0 (g := (mkF m 1 #[.val (.ref a1), .val (.ref c1), .val (.int (0 : Int32)), .val (.int n.toInt32), .val .null, .unset] [(.ref a1)])) rfl (by rw [hml]; rfl) rfl (hb hby d3_1) (by decide) (W := 0) (by show 2 * 0 + _ ≤ _; exact Nat.le_of_eq rfl) (by decide)
  refine WinW.to T123 (mkF m 4 #[.val (.ref a1), .val (.ref c1), .val (.int (0 : Int32)), .val (.int n.toInt32), .val .null, .unset] []) (fun _ k => st123 _ k) ?_
  refine WinW.to T123 (mkF m 5 #[.val (.ref a1), .val (.ref c1), .val (.int (0 : Int32)), .val (.int n.toInt32), .val .null, .unset] [(.int n.toInt32)]) (fun _ k => XS.iloadN X123.here hx rfl (hb hby d3_4) rfl k) ?_
  by_cases hc124 : n.toInt32 = (0 : Int32)
  · refine WinW.to T123 (mkF m 8 #[.val (.ref a1), .val (.ref c1), .val (.int (0 : Int32)), .val (.int n.toInt32), .val .null, .unset] []) (fun _ k => XS.ifNo X123.here hx rfl (hb hby d3_5) rfl ((if0 _ _).trans (teq hc124).2) k) ?_
    have hz : n = 0 := own_zero hn hc124
    have S125 : Safe Z EL1 (s.setVm s.vm).vm h0 a1 := own_safe hZ.alike E1 F1 (wk hw 7 rfl)
    refine WinW.to T123 (mkF m 9 #[.val (.ref a1), .val (.ref c1), .val (.int (0 : Int32)), .val (.int n.toInt32), .val .null, .unset] [(.ref a1)]) (fun _ k => XS.aloadN X123.here hx rfl (hb hby d3_8) rfl rfl k) ?_
    obtain ⟨b126, T126, h126, k126, d126, kk126, X126, e126, E126, hS126, hk126, hZ126, hown126, Fe126, Fc126, Fv126, Fa126, -, -, c126, -, Sf126, st126⟩ := ldcCH X123 hx hZ hown (wk hw 19 rfl) (own_wS hw) e123 hS0 (Nat.zero_le _) (own_EW hw) (by decide) C0.1 (vs := []) (z := (0 : Int32)) (by decide) (by decide) rfl (g := (mkF m 9 #[.val (.ref a1), .val (.ref c1), .val (.int (0 : Int32)), .val (.int n.toInt32), .val .null, .unset] [(.ref a1)])) rfl (hb hby d3_9) (n := 0) (by decide) (by decide) (by decide) (by decide)
    have O127 := Old.ext O0 E126
    have K128 : Keep h0 h126 [a1] := (Keep.refl h0 [a1]).ext E126
    have c129 := c126
    have C130 := CHr.trans C0 c129
    have S131 := CHr.safe c129 E1.lt S125
    have q126_a1 := Sf126 _ S131
    refine WinW.to T126 (mkF m 11 #[.val (.ref a1), .val (.ref c1), .val (.int (0 : Int32)), .val (.int n.toInt32), .val .null, .unset] [(.ref b126), (.ref a1)]) (fun _ k => st126 _ k) ?_
    obtain ⟨T132, X132, e132, st132⟩ := getF X126 hx hZ126 hown126 (host := "") (Or.inl (wk hw 25 rfl)) Via.refl e126 Fv126 (g := (mkF m 11 #[.val (.ref a1), .val (.ref c1), .val (.int (0 : Int32)), .val (.int n.toInt32), .val .null, .unset] [(.ref b126), (.ref a1)])) rfl rfl (hb hby d3_11)
    refine WinW.to T132 (mkF m 14 #[.val (.ref a1), .val (.ref c1), .val (.int (0 : Int32)), .val (.int n.toInt32), .val .null, .unset] [(.ref d126), (.ref a1)]) (fun _ k => st132 _ k) ?_
    have F133 : Exa Z h126 a1 "java/lang/String" := (Exa.ext E126 E1)
    have F134 : Fld Z h126 a1 "java/lang/String" "value" "[B" .null := (Fld.ext E126 F1)
    have F135 : ArF Z h126 c1 kc .char n f := (Fc.ext E126)
    have ne136 : a1 ≠ c1 := own_neF F133 F135 (wk hw 7 rfl)
    obtain ⟨T137, h137, X137, e137, W137, st137⟩ := putF X132 hx hZ126 hown126 (host := "") (Or.inl (wk hw 25 rfl)) Via.refl e132 F134 F133 (Or.inr ⟨(wk hw 21 rfl), rfl, hnm⟩) (wk hw 7 rfl) (ty := (.array .byte)) (by decide) rfl rfl (g := (mkF m 14 #[.val (.ref a1), .val (.ref c1), .val (.int (0 : Int32)), .val (.int n.toInt32), .val .null, .unset] [(.ref d126), (.ref a1)])) rfl rfl (hb hby d3_14)
    have O139 := Old.wr O127 W137 g1
    have hk140 := Nat.le_trans hk126 (Nat.le_of_eq (Wr.size W137).symm)
    have K141 : Keep h0 h137 [a1] := K128.wr W137 (Or.inl (List.mem_of_getElem? (i := 0) rfl))
    have N142 := Fr.snoc X137 N0 g1
    have c143 := CHr.wr W137 S131 C130.1
    have C144 := CHr.trans C130 c143
    have S145 := CHr.safe c143 F133.lt S131
    have F138 : Fld Z h137 a1 "java/lang/String" "value" "[B" (.ref d126) := Fld.same W137 F134
    refine WinW.to T137 (mkF m 17 #[.val (.ref a1), .val (.ref c1), .val (.int (0 : Int32)), .val (.int n.toInt32), .val .null, .unset] []) (fun _ k => st137 _ k) ?_
    refine WinW.to T137 (mkF m 18 #[.val (.ref a1), .val (.ref c1), .val (.int (0 : Int32)), .val (.int n.toInt32), .val .null, .unset] [(.ref a1)]) (fun _ k => XS.aloadN X137.here hx rfl (hb hby d3_17) rfl rfl k) ?_
    have F147 : Exa Z h137 a1 "java/lang/String" := (Exa.wr W137 F133)
    obtain ⟨b146, T146, h146, k146, d146, kk146, X146, e146, E146, hS146, hk146, hZ146, hown146, Fe146, Fc146, Fv146, Fa146, -, -, c146, -, Sf146, st146⟩ := ldcCH X137 hx hZ126 hown126 (wk hw 19 rfl) (own_wS hw) e137 hS126 hk140 (own_EW hw) (by decide) C144.1 (vs := []) (z := (0 : Int32)) (by decide) (by decide) rfl (g := (mkF m 18 #[.val (.ref a1), .val (.ref c1), .val (.int (0 : Int32)), .val (.int n.toInt32), .val .null, .unset] [(.ref a1)])) rfl (hb hby d3_18) (n := 0) (by decide) (by decide) (by decide) (by decide)
    have O148 := Old.ext O139 E146
    have K149 : Keep h0 h146 [a1] := K141.ext E146
    have c150 := c146
    have C151 := CHr.trans C144 c150
    have S152 := CHr.safe c150 F147.lt S145
    have q146_a1 := Sf146 _ S152
    refine WinW.to T146 (mkF m 20 #[.val (.ref a1), .val (.ref c1), .val (.int (0 : Int32)), .val (.int n.toInt32), .val .null, .unset] [(.ref b146), (.ref a1)]) (fun _ k => st146 _ k) ?_
    obtain ⟨T153, X153, e153, st153⟩ := getF X146 hx hZ146 hown146 (host := "") (Or.inl (wk hw 26 rfl)) Via.refl e146 Fc146 (g := (mkF m 20 #[.val (.ref a1), .val (.ref c1), .val (.int (0 : Int32)), .val (.int n.toInt32), .val .null, .unset] [(.ref b146), (.ref a1)])) rfl rfl (hb hby d3_20)
    refine WinW.to T153 (mkF m 23 #[.val (.ref a1), .val (.ref c1), .val (.int (0 : Int32)), .val (.int n.toInt32), .val .null, .unset] [(.int (0 : Int32)), (.ref a1)]) (fun _ k => st153 _ k) ?_
    have F154 : Exa Z h146 a1 "java/lang/String" := (Exa.ext E146 F147)
    have F155 : Fld Z h146 a1 "java/lang/String" "coder" "B" (.int (0 : Int32)) := (Fld.ext E146 (Fld.other W137 (Fld.ext E126 F2) (Or.inr (slot_ne (Or.inr (wk hw 22 rfl)) (Or.inr (wk hw 21 rfl)) (by decide) (t := .byte) (t' := (.array .byte)) (by decide) (by decide)))))
    obtain ⟨T156, h156, X156, e156, W156, st156⟩ := putFN X153 hx hZ146 hown146 (wk hw 26 rfl) Via.refl e153 F155 F154 (Or.inr ⟨(wk hw 22 rfl), rfl, hnm⟩) (wk hw 7 rfl) (ty := .byte) (v' := (.int (0 : Int32))) (by decide) rfl rfl (g := (mkF m 23 #[.val (.ref a1), .val (.ref c1), .val (.int (0 : Int32)), .val (.int n.toInt32), .val .null, .unset] [(.int (0 : Int32)), (.ref a1)])) rfl rfl (hb hby d3_23)
    have O158 := Old.wr O148 W156 g1
    have hk159 := Nat.le_trans hk146 (Nat.le_of_eq (Wr.size W156).symm)
    have K160 : Keep h0 h156 [a1] := K149.wr W156 (Or.inl (List.mem_of_getElem? (i := 0) rfl))
    have N161 := Fr.snoc X156 N142 g1
    have c162 := CHr.wr W156 S152 C151.1
    have C163 := CHr.trans C151 c162
    have S164 := CHr.safe c162 F154.lt S152
    have F157 : Fld Z h156 a1 "java/lang/String" "coder" "B" (.int (0 : Int32)) := Fld.same W156 F155
    refine WinW.to T156 (mkF m 26 #[.val (.ref a1), .val (.ref c1), .val (.int (0 : Int32)), .val (.int n.toInt32), .val .null, .unset] []) (fun _ k => st156 _ k) ?_
    have F165 : Fld Z h156 a1 "java/lang/String" "value" "[B" (.ref d126) := (Fld.other W156 (Fld.ext E146 F138) (Or.inr (slot_ne (Or.inr (wk hw 21 rfl)) (Or.inr (wk hw 22 rfl)) (by decide) (t := (.array .byte)) (t' := .byte) (by decide) (by decide))))
    have F166 : Arv Z h156 d126 kk126 .byte (0 : Int32) [] (.int 0) := (((Fa126.other W137 (Ne.symm q126_a1.2)).ext E146).other W156 (Ne.symm q126_a1.2))
    have F167 : ArF Z h156 d126 kk126 .byte 0 (fun i => ([] : List Int32).getD i 0) := own_arf [] F166 rfl
    have F168 : ArF Z h156 d126 kk126 .byte n (fun i => (f i).toInt8.toInt32) := by rw [hz]; exact ArF.cong F167 fun i hi => absurd hi (Nat.not_lt_zero _)
    exact WinW.retV X156 hS146 (by rw [e156]; exact hk159) hx hlk hret (hb hby d3_26) hZ146 (own_EW hw) (by rw [e156]; exact C163) (by decide) (by decide) (by (try rw [e156]); exact ⟨d126, kk126, rfl, N161, K160, F165, F157, F168⟩)
  · refine WinW.to T123 (mkF m 27 #[.val (.ref a1), .val (.ref c1), .val (.int (0 : Int32)), .val (.int n.toInt32), .val .null, .unset] []) (fun _ k => XS.ifYes X123.here hx rfl (pc0 := 5) (pc' := 27) rfl (hb hby d3_5) rfl ((if0 _ _).trans (feq hc124).2) (by decide) (by decide) k) ?_
    obtain ⟨T169, X169, e169, st169⟩ := getS2 X123 hx hZ hown (host := "") (Or.inl (wk hw 40 rfl)) Via.refl e123 (Sta.ext O0.2 S_CS) (g := (mkF m 27 #[.val (.ref a1), .val (.ref c1), .val (.int (0 : Int32)), .val (.int n.toInt32), .val .null, .unset] [])) rfl (hb hby d3_27)
    refine WinW.to T169 (mkF m 30 #[.val (.ref a1), .val (.ref c1), .val (.int (0 : Int32)), .val (.int n.toInt32), .val .null, .unset] [(.int cs)]) (fun _ k => st169 _ k) ?_
    refine WinW.to T169 (mkF m 33 #[.val (.ref a1), .val (.ref c1), .val (.int (0 : Int32)), .val (.int n.toInt32), .val .null, .unset] []) (fun _ k => XS.ifNo X169.here hx rfl (hb hby d3_30) rfl ((if0 _ _).trans (feq (show ¬ (cs = (0 : Int32)) from hcs)).1) k) ?_
    refine WinW.to T169 (mkF m 34 #[.val (.ref a1), .val (.ref c1), .val (.int (0 : Int32)), .val (.int n.toInt32), .val .null, .unset] [(.ref c1)]) (fun _ k => XS.aloadN X169.here hx rfl (hb hby d3_33) rfl rfl k) ?_
    refine WinW.to T169 (mkF m 35 #[.val (.ref a1), .val (.ref c1), .val (.int (0 : Int32)), .val (.int n.toInt32), .val .null, .unset] [(.int (0 : Int32)), (.ref c1)]) (fun _ k => XS.iloadN X169.here hx rfl (hb hby d3_34) rfl k) ?_
    refine WinW.to T169 (mkF m 36 #[.val (.ref a1), .val (.ref c1), .val (.int (0 : Int32)), .val (.int n.toInt32), .val .null, .unset] [(.int n.toInt32), (.int (0 : Int32)), (.ref c1)]) (fun _ k => XS.iloadN X169.here hx rfl (hb hby d3_35) rfl k) ?_
    obtain ⟨T170, h170, v170, L170, X170, e170, ⟨t_170, kb_170, rfl, N170q, r170_0, r170_1, r170_2⟩, st170⟩ := N.static X169 hx hZ (y := (⟨"java/lang/StringUTF16", "compress", "([CII)[B"⟩ : MethodName)) hown (wk hw 41 rfl) (wk hw 42 rfl) (wk hw 43 rfl) (wk hw 44 rfl) (by decide) (comp l Z a0 hw c1 kc n f h0 n0 O0 Fc hp hcap) e169 (g := (mkF m 36 #[.val (.ref a1), .val (.ref c1), .val (.int (0 : Int32)), .val (.int n.toInt32), .val .null, .unset] [(.int n.toInt32), (.int (0 : Int32)), (.ref c1)])) rfl (by rw [hml]; rfl) (argsL := [(.ref c1), (.int (0 : Int32)), (.int n.toInt32)]) (rest := []) rfl (lenOf pd___CII__B rfl) rfl (W := 0) (by show 2 * 0 + _ ≤ _; exact Nat.le_of_eq rfl) (hb hby d3_36) (by decide) (by decide) (by decide) (by decide)
    have N171 := Fr.app N0 N170q
    have ne172 : a1 ≠ t_170 := Nat.ne_of_lt (Nat.lt_of_lt_of_le E1.lt r170_1)
    have ne173 : c1 ≠ t_170 := Nat.ne_of_lt (Nat.lt_of_lt_of_le Fc.lt r170_1)
    have g174 : n0 ≤ t_170 := Nat.le_trans (own_le O0) r170_1
    have z175 : h0.size ≤ t_170 := r170_1
    have O176 := Old.keep O0 r170_0 all0
    have K177 : Keep h0 h170 [a1] := Keep.trans (Keep.refl h0 [a1]) r170_0 all0
    have c178 := CHr.keep r170_0 sf0 C0.1
    have C179 := CHr.trans C0 c178
    refine WinW.to T170 (mkF m 39 #[.val (.ref a1), .val (.ref c1), .val (.int (0 : Int32)), .val (.int n.toInt32), .val .null, .unset] [(.ref t_170)]) (fun _ k => st170 _ k) ?_
    refine WinW.to T170 (mkF m 41 #[.val (.ref a1), .val (.ref c1), .val (.int (0 : Int32)), .val (.int n.toInt32), .val .null, .val (.ref t_170)] []) (fun _ k => XS.astore X170.here hx rfl (hb hby d3_39) rfl rfl (l' := #[.val (.ref a1), .val (.ref c1), .val (.int (0 : Int32)), .val (.int n.toInt32), .val .null, .val (.ref t_170)]) rfl k) ?_
    refine WinW.to T170 (mkF m 42 #[.val (.ref a1), .val (.ref c1), .val (.int (0 : Int32)), .val (.int n.toInt32), .val .null, .val (.ref t_170)] [(.ref a1)]) (fun _ k => XS.aloadN X170.here hx rfl (hb hby d3_41) rfl rfl k) ?_
    refine WinW.to T170 (mkF m 44 #[.val (.ref a1), .val (.ref c1), .val (.int (0 : Int32)), .val (.int n.toInt32), .val .null, .val (.ref t_170)] [(.ref t_170), (.ref a1)]) (fun _ k => XS.aload X170.here hx rfl (hb hby d3_42) rfl rfl k) ?_
    refine WinW.to T170 (mkF m 45 #[.val (.ref a1), .val (.ref c1), .val (.int (0 : Int32)), .val (.int n.toInt32), .val .null, .val (.ref t_170)] [(.int n.toInt32), (.ref t_170), (.ref a1)]) (fun _ k => XS.iloadN X170.here hx rfl (hb hby d3_44) rfl k) ?_
    obtain ⟨T180, h180, v180, L180, X180, e180, ⟨rfl, N180q, r180_0⟩, st180⟩ := N.static X170 hx hZ (y := (⟨"java/lang/StringUTF16", "coderFromArrayLen", "([BI)B"⟩ : MethodName)) hown (wk hw 48 rfl) (wk hw 49 rfl) (wk hw 43 rfl) (wk hw 50 rfl) (by decide) (coder0 l Z a0 hw t_170 kb_170 n (fun i => (f i).toInt8.toInt32) h170 n0 O176 r170_2) e170 (g := (mkF m 45 #[.val (.ref a1), .val (.ref c1), .val (.int (0 : Int32)), .val (.int n.toInt32), .val .null, .val (.ref t_170)] [(.int n.toInt32), (.ref t_170), (.ref a1)])) rfl (by rw [hml]; rfl) (argsL := [(.ref t_170), (.int n.toInt32)]) (rest := [(.ref a1)]) rfl (lenOf pd___BI_B rfl) rfl (W := 1) (by show 2 * 0 + _ ≤ _; exact Nat.le_of_eq rfl) (hb hby d3_45) (by decide) (by decide) (by decide) (by decide)
    have N181 := Fr.app N171 N180q
    have e180 := e180.trans r180_0
    refine WinW.to T180 (mkF m 48 #[.val (.ref a1), .val (.ref c1), .val (.int (0 : Int32)), .val (.int n.toInt32), .val .null, .val (.ref t_170)] [(.int (0 : Int32)), (.ref a1)]) (fun _ k => st180 _ k) ?_
    have F182 : Exa Z h170 a1 "java/lang/String" := (E1.keep r170_0)
    have F183 : Fld Z h170 a1 "java/lang/String" "coder" "B" (.int (0 : Int32)) := (F2.keep r170_0 nin0)
    have F184 : ArF Z h170 c1 kc .char n f := (Fc.keep r170_0 nin0)
    have ne185 : a1 ≠ c1 := own_neF F182 F184 (wk hw 7 rfl)
    have F186 : Fld Z h170 a1 "java/lang/String" "value" "[B" .null := (F1.keep r170_0 nin0)
    have S187 : Safe Z EL1 (s.setVm s.vm).vm h170 a1 := own_safe hZ.alike F182 F186 (wk hw 7 rfl)
    obtain ⟨T188, h188, X188, e188, W188, st188⟩ := putFN X180 hx hZ hown (wk hw 26 rfl) Via.refl e180 F183 F182 (Or.inr ⟨(wk hw 22 rfl), rfl, hnm⟩) (wk hw 7 rfl) (ty := .byte) (v' := (.int (0 : Int32))) (by decide) rfl rfl (g := (mkF m 48 #[.val (.ref a1), .val (.ref c1), .val (.int (0 : Int32)), .val (.int n.toInt32), .val .null, .val (.ref t_170)] [(.int (0 : Int32)), (.ref a1)])) rfl rfl (hb hby d3_48)
    have O190 := Old.wr O176 W188 g1
    have K191 : Keep h0 h188 [a1] := K177.wr W188 (Or.inl (List.mem_of_getElem? (i := 0) rfl))
    have N192 := Fr.snoc X188 N181 g1
    have c193 := CHr.wr W188 S187 C179.1
    have C194 := CHr.trans C179 c193
    have S195 := CHr.safe c193 F182.lt S187
    have F189 : Fld Z h188 a1 "java/lang/String" "coder" "B" (.int (0 : Int32)) := Fld.same W188 F183
    refine WinW.to T188 (mkF m 51 #[.val (.ref a1), .val (.ref c1), .val (.int (0 : Int32)), .val (.int n.toInt32), .val .null, .val (.ref t_170)] []) (fun _ k => st188 _ k) ?_
    refine WinW.to T188 (mkF m 52 #[.val (.ref a1), .val (.ref c1), .val (.int (0 : Int32)), .val (.int n.toInt32), .val .null, .val (.ref t_170)] [(.ref a1)]) (fun _ k => XS.aloadN X188.here hx rfl (hb hby d3_51) rfl rfl k) ?_
    refine WinW.to T188 (mkF m 54 #[.val (.ref a1), .val (.ref c1), .val (.int (0 : Int32)), .val (.int n.toInt32), .val .null, .val (.ref t_170)] [(.ref t_170), (.ref a1)]) (fun _ k => XS.aload X188.here hx rfl (hb hby d3_52) rfl rfl k) ?_
    have F196 : Exa Z h188 a1 "java/lang/String" := (Exa.wr W188 F182)
    have F197 : Fld Z h188 a1 "java/lang/String" "value" "[B" .null := (Fld.other W188 F186 (Or.inr (slot_ne (Or.inr (wk hw 21 rfl)) (Or.inr (wk hw 22 rfl)) (by decide) (t := (.array .byte)) (t' := .byte) (by decide) (by decide))))
    obtain ⟨T198, h198, X198, e198, W198, st198⟩ := putF X188 hx hZ hown (host := "") (Or.inl (wk hw 25 rfl)) Via.refl e188 F197 F196 (Or.inr ⟨(wk hw 21 rfl), rfl, hnm⟩) (wk hw 7 rfl) (ty := (.array .byte)) (by decide) rfl rfl (g := (mkF m 54 #[.val (.ref a1), .val (.ref c1), .val (.int (0 : Int32)), .val (.int n.toInt32), .val .null, .val (.ref t_170)] [(.ref t_170), (.ref a1)])) rfl rfl (hb hby d3_54)
    have O200 := Old.wr O190 W198 g1
    have K201 : Keep h0 h198 [a1] := K191.wr W198 (Or.inl (List.mem_of_getElem? (i := 0) rfl))
    have N202 := Fr.snoc X198 N192 g1
    have c203 := CHr.wr W198 S195 C194.1
    have C204 := CHr.trans C194 c203
    have S205 := CHr.safe c203 F196.lt S195
    have F199 : Fld Z h198 a1 "java/lang/String" "value" "[B" (.ref t_170) := Fld.same W198 F197
    refine WinW.to T198 (mkF m 57 #[.val (.ref a1), .val (.ref c1), .val (.int (0 : Int32)), .val (.int n.toInt32), .val .null, .val (.ref t_170)] []) (fun _ k => st198 _ k) ?_
    have F206 : Fld Z h198 a1 "java/lang/String" "coder" "B" (.int (0 : Int32)) := (Fld.other W198 F189 (Or.inr (slot_ne (Or.inr (wk hw 22 rfl)) (Or.inr (wk hw 21 rfl)) (by decide) (t := .byte) (t' := (.array .byte)) (by decide) (by decide))))
    have F207 : ArF Z h198 t_170 kb_170 .byte n (fun i => (f i).toInt8.toInt32) := ((r170_2.other W188 (Ne.symm ne172)).other W198 (Ne.symm ne172))
    exact WinW.retV X198 hS0 (by rw [e198]; exact (Nat.zero_le _)) hx hlk hret (hb hby d3_57) hZ (own_EW hw) (by rw [e198]; exact C204) (by decide) (by decide) (by (try rw [e198]); exact ⟨t_170, kb_170, rfl, N202, K201, F199, F206, F207⟩)
abbrev R_ctor1 : Room := ⟨3, 4, 1023, 52⟩
set_option maxRecDepth 65536 in
set_option maxHeartbeats 40000000 in
theorem ctor1 (l : Launch) (Z : State) (a0 : Array Value) (hw : ∀ d ∈ tables_1, d.before a0 Z = true) (a1 : Addr) (c1 : Addr) (kc : ClassId) (n : Nat) (f : Nat → Int32) (cs : Int32) (h0 : Heap) (n0 : Nat) (O0 : Old Z n0 h0) (E1 : Exa Z h0 a1 "java/lang/String") (F1 : Fld Z h0 a1 "java/lang/String" "value" "[B" .null) (F2 : Fld Z h0 a1 "java/lang/String" "coder" "B" (.int (0 : Int32))) (Fc : ArF Z h0 c1 kc .char n f) (hp : ∀ i, i < n → ¬ (255 : Int32) < f i) (hcap : n ≤ 1023) (g1 : n0 ≤ a1) (S_CS : Sta Z Z.heap "java/lang/String" "COMPACT_STRINGS" "Z" (.int cs)) (hcs : ¬ (cs = (0 : Int32))) :
    MetW l Z (⟨"java/lang/String", "<init>", "([C)V"⟩ : MethodName) jdk_42_method_3_code 2 none R_ctor1 [] #[(.ref a1), (.ref c1)] h0 EL1 (fun v h L => ∃ (t : Addr) (kb : ClassId), v = none ∧ Fr n0 L ∧ Keep h0 h [a1] ∧ Fld Z h a1 "java/lang/String" "value" "[B" (.ref t) ∧ Fld Z h a1 "java/lang/String" "coder" "B" (.int (0 : Int32)) ∧ ArF Z h t kb .byte n (fun i => (f i).toInt8.toInt32)) := by
  refine MetW.walk (plainFor_of_name pn_2) ?_
  intro p e s m below meth c s₁ hx hZ hby hml hown hnm hret hlk C0 hS0 X0 e0
  have N0 := Fr.nil n0
  refine WinW.to s₁ (mkF m 0 #[.val (.ref a1), .val (.ref c1)] []) (fun _ k => castTop (by first | (simp [entryFrame, mkF, argsToLocals, Value.category]; done) | rfl) k) ?_
  refine WinW.to s₁ (mkF m 1 #[.val (.ref a1), .val (.ref c1)] [(.ref a1)]) (fun _ k => XS.aloadN X0.here hx rfl (hb hby d2_0) rfl rfl k) ?_
  refine WinW.to s₁ (mkF m 2 #[.val (.ref a1), .val (.ref c1)] [(.ref c1), (.ref a1)]) (fun _ k => XS.aloadN X0.here hx rfl (hb hby d2_1) rfl rfl k) ?_
  refine WinW.to s₁ (mkF m 3 #[.val (.ref a1), .val (.ref c1)] [(.int (0 : Int32)), (.ref c1), (.ref a1)]) (fun _ k => XS.iconst X0.here hx rfl (hb hby d2_2) k) ?_
  refine WinW.to s₁ (mkF m 4 #[.val (.ref a1), .val (.ref c1)] [(.ref c1), (.int (0 : Int32)), (.ref c1), (.ref a1)]) (fun _ k => XS.aloadN X0.here hx rfl (hb hby d2_3) rfl rfl k) ?_
  obtain ⟨cl208, Ar208, hl208⟩ := ArF.len Fc
  refine WinW.to s₁ (mkF m 5 #[.val (.ref a1), .val (.ref c1)] [(.int n.toInt32), (.int (0 : Int32)), (.ref c1), (.ref a1)]) (fun _ k => X0.arraylength hx (by rw [e0]; exact Ar208.1) (State.isArrayOf_alike hZ.alike Ar208.2.1) (g := (mkF m 4 #[.val (.ref a1), .val (.ref c1)] [(.ref c1), (.int (0 : Int32)), (.ref c1), (.ref a1)])) rfl rfl (hb hby d2_4) _ (by rw [hl208]; exact k)) ?_
  refine WinW.to s₁ (mkF m 6 #[.val (.ref a1), .val (.ref c1)] [.null, (.int n.toInt32), (.int (0 : Int32)), (.ref c1), (.ref a1)]) (fun _ k => XS.aconstNull X0.here hx rfl (hb hby d2_5) k) ?_
  obtain ⟨T209, h209, v209, L209, k209, X209, e209, hS209, hk209, hZ209, hown209, ⟨t_209, kb_209, rfl, N209q, r209_0, r209_1, r209_2, r209_3⟩, c209, st209⟩ := W.special X0 hS0 (Nat.zero_le _) hx hZ (y := (⟨"java/lang/String", "<init>", "([CIILjava/lang/Void;)V"⟩ : MethodName)) rfl hown (wk hw 12 rfl) (wk hw 13 rfl) (wk hw 8 rfl) (wk hw 15 rfl) (by decide) (ctor4 l Z a0 hw a1 c1 kc n f cs h0 n0 O0 E1 F1 F2 Fc hp hcap g1 S_CS hcs) (own_EW hw) C0.1 e0 (g := (mkF m 6 #[.val (.ref a1), .val (.ref c1)] [.null, (.int n.toInt32), (.int (0 : Int32)), (.ref c1), (.ref a1)])) rfl (by rw [hml]; rfl) (a := a1) (argsL := [(.ref c1), (.int (0 : Int32)), (.int n.toInt32), .null]) (rest := []) rfl (lenOf pd___CIILjava_lang_Void__V rfl) rfl (W := 0) (by show 2 * 0 + _ ≤ _; exact Nat.le_of_eq rfl) (hb hby d2_6) (by decide) (by decide) (by decide) (by decide)
  have N210 := Fr.app N0 N209q
  have O211 := Old.keep O0 r209_0 (allS g1 all0)
  have K212 : Keep h0 h209 [a1] := Keep.trans (Keep.refl h0 [a1]) r209_0 (allS (Or.inl (List.mem_of_getElem? (i := 0) rfl)) all0)
  have c213 := c209
  have C214 := CHr.trans C0 c213
  refine WinW.to T209 (mkF m 9 #[.val (.ref a1), .val (.ref c1)] []) (fun _ k => st209 _ k) ?_
  exact WinW.retV X209 hS209 (by rw [e209]; exact hk209) hx hlk hret (hb hby d2_9) hZ209 (own_EW hw) (by rw [e209]; exact C214) (by decide) (by decide) (by (try rw [e209]); exact ⟨t_209, kb_209, rfl, N210, K212, r209_1, r209_2, r209_3⟩)
abbrev R_newLen : Room := ⟨0, 0, 0, 0⟩
set_option maxRecDepth 65536 in
set_option maxHeartbeats 40000000 in
theorem newLen (l : Launch) (Z : State) (a0 : Array Value) (hw : ∀ d ∈ tables_1, d.before a0 Z = true) (n : Nat) (h0 : Heap) (n0 : Nat) (O0 : Old Z n0 h0) (hcap : n ≤ 1023) :
    MetN l Z (⟨"java/lang/StringUTF16", "newBytesLength", "(I)I"⟩ : MethodName) jdk_52_method_3_code 1 (some .int) R_newLen [] #[(.int n.toInt32)] h0 (fun v h L => v = some (.int (2 * n).toInt32) ∧ Fr n0 L ∧ h = h0) := by
  refine MetN.walk (plainFor_of_name pn_19) ?_
  intro p e s m below meth c s₁ hx hZ hby hml hown hnm hret hlk X0 e0
  have N0 := Fr.nil n0
  refine Win.to s₁ (mkF m 0 #[.val (.int n.toInt32)] []) (fun _ k => castTop (by first | (simp [entryFrame, mkF, argsToLocals, Value.category]; done) | rfl) k) ?_
  have h1 : n < 2 ^ 31 := by omega
  refine Win.to s₁ (mkF m 1 #[.val (.int n.toInt32)] [(.int n.toInt32)]) (fun _ k => XS.iloadN X0.here hx rfl (hb hby d19_0) rfl k) ?_
  refine Win.to s₁ (mkF m 12 #[.val (.int n.toInt32)] []) (fun _ k => XS.ifYes X0.here hx rfl (pc0 := 1) (pc' := 12) rfl (hb hby d19_1) rfl ((if0 _ _).trans (flt (show ¬ (n.toInt32 < (0 : Int32)) from (own_tn h1).2.1)).2.1) (by decide) (by decide) k) ?_
  refine Win.to s₁ (mkF m 13 #[.val (.int n.toInt32)] [(.int n.toInt32)]) (fun _ k => XS.iloadN X0.here hx rfl (hb hby d19_12) rfl k) ?_
  refine Win.to s₁ (mkF m 15 #[.val (.int n.toInt32)] [(.int (1073741823 : Int32)), (.int n.toInt32)]) (fun _ k => X0.ldcInt hx hown (mvT hZ (wk hw 90 rfl)) (g := (mkF m 13 #[.val (.int n.toInt32)] [(.int n.toInt32)])) rfl (hb hby d19_13) _ k) ?_
  refine Win.to s₁ (mkF m 55 #[.val (.int n.toInt32)] []) (fun _ k => XS.icmpYes X0.here hx rfl (pc0 := 15) (pc' := 55) rfl (hb hby d19_15) rfl (tlt (show n.toInt32 < (1073741823 : Int32) from ((own_lt (n := 1073741823) h1 (by decide)).mpr (by omega)))).1 (by decide) (by decide) k) ?_
  refine Win.to s₁ (mkF m 56 #[.val (.int n.toInt32)] [(.int n.toInt32)]) (fun _ k => XS.iloadN X0.here hx rfl (hb hby d19_55) rfl k) ?_
  refine Win.to s₁ (mkF m 57 #[.val (.int n.toInt32)] [(.int (1 : Int32)), (.int n.toInt32)]) (fun _ k => XS.iconst X0.here hx rfl (hb hby d19_56) k) ?_
  refine Win.to s₁ (mkF m 58 #[.val (.int n.toInt32)] [(.int (2 * n).toInt32)]) (fun _ k => XS.ishl X0.here hx rfl (hb hby d19_57) rfl (by rw [show (n.toInt32 <<< ((1 : Int32) &&& 31)) = (2 * n).toInt32 from own_shl1 (by omega)]; exact k)) ?_
  exact Win.retI X0 hx hlk hret (hb hby d19_58) (by decide) (by decide) (by (try rw [e0]); exact ⟨rfl, N0, rfl⟩)
abbrev R_newFor : Room := ⟨1, 1, 2046, 12⟩
set_option maxRecDepth 65536 in
set_option maxHeartbeats 40000000 in
theorem newFor (l : Launch) (Z : State) (a0 : Array Value) (hw : ∀ d ∈ tables_1, d.before a0 Z = true) (n : Nat) (h0 : Heap) (n0 : Nat) (O0 : Old Z n0 h0) (hcap : n ≤ 1023) :
    MetN l Z (⟨"java/lang/StringUTF16", "newBytesFor", "(I)[B"⟩ : MethodName) jdk_52_method_2_code 1 (some (.array .byte)) R_newFor [] #[(.int n.toInt32)] h0 (fun v h L => ∃ (t : Addr) (kb : ClassId), v = some (.ref t) ∧ Fr n0 L ∧ Keep h0 h [] ∧ h0.size ≤ t ∧ ArF Z h t kb .byte (2 * n) (fun _ => 0)) := by
  refine MetN.walk (plainFor_of_name pn_18) ?_
  intro p e s m below meth c s₁ hx hZ hby hml hown hnm hret hlk X0 e0
  have N0 := Fr.nil n0
  refine Win.to s₁ (mkF m 0 #[.val (.int n.toInt32)] []) (fun _ k => castTop (by first | (simp [entryFrame, mkF, argsToLocals, Value.category]; done) | rfl) k) ?_
  have h2 : 2 * n < 2 ^ 31 := by omega
  refine Win.to s₁ (mkF m 1 #[.val (.int n.toInt32)] [(.int n.toInt32)]) (fun _ k => XS.iloadN X0.here hx rfl (hb hby d18_0) rfl k) ?_
  obtain ⟨T215, h215, v215, L215, X215, e215, ⟨rfl, N215q, r215_0⟩, st215⟩ := N.static X0 hx hZ (y := (⟨"java/lang/StringUTF16", "newBytesLength", "(I)I"⟩ : MethodName)) hown (wk hw 87 rfl) (wk hw 88 rfl) (wk hw 43 rfl) (wk hw 89 rfl) (by decide) (newLen l Z a0 hw n h0 n0 O0 hcap) e0 (g := (mkF m 1 #[.val (.int n.toInt32)] [(.int n.toInt32)])) rfl (by rw [hml]; rfl) (argsL := [(.int n.toInt32)]) (rest := []) rfl (lenOf pd__I_I rfl) rfl (W := 0) (by show 2 * 0 + _ ≤ _; exact Nat.le_of_eq rfl) (hb hby d18_1) (by decide) (by decide) (by decide) (by decide)
  have N216 := Fr.app N0 N215q
  have e215 := e215.trans r215_0
  refine Win.to T215 (mkF m 4 #[.val (.int n.toInt32)] [(.int (2 * n).toInt32)]) (fun _ k => st215 _ k) ?_
  obtain ⟨T217, h217, k217, X217, e217, E217, A217, st217⟩ := newP X215 hx hZ (wk hw 20 rfl) e215 (g := (mkF m 4 #[.val (.int n.toInt32)] [(.int (2 * n).toInt32)])) rfl (hb hby d18_4) rfl (own_tn h2).2.1 (cap := 2046) (by rw [(own_tn h2).1]; omega) (by decide) (by decide) (by decide)
  obtain ⟨b217, g217⟩ : ∃ z, z = h0.size := ⟨_, rfl⟩
  rw [← g217] at A217 st217
  have g218 : n0 ≤ b217 := Nat.le_trans (own_le O0) (Nat.le_of_eq g217.symm)
  have z219 : h0.size ≤ b217 := (Nat.le_of_eq g217.symm)
  have O220 := Old.ext O0 E217
  have K221 : Keep h0 h217 [] := (Keep.refl h0 []).ext E217
  have F222 : ArF Z h217 b217 k217 .byte (2 * n) (fun _ => 0) := (own_tn h2).1 ▸ ArF.new A217 (own_tn h2).2.1 rfl
  refine Win.to T217 (mkF m 6 #[.val (.int n.toInt32)] [(.ref b217)]) (fun _ k => st217 _ k) ?_
  exact Win.retA X217 hx hlk hret rfl rfl (hb hby d18_6) (by decide) (by decide) (by (try rw [e217]); exact ⟨b217, k217, rfl, N216, K221, z219, F222⟩)
abbrev R_putCh : Room := ⟨0, 0, 0, 0⟩
set_option maxRecDepth 65536 in
set_option maxHeartbeats 40000000 in
theorem putCh (l : Launch) (Z : State) (a0 : Array Value) (hw : ∀ d ∈ tables_1, d.before a0 Z = true) (b1 : Addr) (kb : ClassId) (nn : Nat) (gf : Nat → Int32) (i : Nat) (ch : Int32) (h0 : Heap) (n0 : Nat) (O0 : Old Z n0 h0) (Fb : ArF Z h0 b1 kb .byte nn gf) (hi : 2 * i + 1 < nn) (g1 : n0 ≤ b1) (S_AD : Sta Z Z.heap "java/lang/StringUTF16" "$assertionsDisabled" "Z" (.int (1 : Int32))) (S_HI : Sta Z Z.heap "java/lang/StringUTF16" "HI_BYTE_SHIFT" "I" (.int (0 : Int32))) (S_LO : Sta Z Z.heap "java/lang/StringUTF16" "LO_BYTE_SHIFT" "I" (.int (8 : Int32))) :
    MetN l Z (⟨"java/lang/StringUTF16", "putChar", "([BII)V"⟩ : MethodName) jdk_52_method_4_code 3 none R_putCh [] #[(.ref b1), (.int i.toInt32), (.int ch)] h0 (fun v h L => v = none ∧ Fr n0 L ∧ Keep h0 h [b1] ∧ ArF Z h b1 kb .byte nn (upd (upd gf (2 * i) ((ch >>> ((0 : Int32) &&& 31)).toInt8.toInt32)) (2 * i + 1) ((ch >>> ((8 : Int32) &&& 31)).toInt8.toInt32))) := by
  refine MetN.walk (plainFor_of_name pn_20) ?_
  intro p e s m below meth c s₁ hx hZ hby hml hown hnm hret hlk X0 e0
  have N0 := Fr.nil n0
  refine Win.to s₁ (mkF m 0 #[.val (.ref b1), .val (.int i.toInt32), .val (.int ch)] []) (fun _ k => castTop (by first | (simp [entryFrame, mkF, argsToLocals, Value.category]; done) | rfl) k) ?_
  have hn := Fb.big
  have h2 : 2 * i < 2 ^ 31 := by omega
  have h3 : 2 * i + 1 < 2 ^ 31 := by omega
  obtain ⟨T223, X223, e223, st223⟩ := getS2 X0 hx hZ hown (host := "") (Or.inl (wk hw 94 rfl)) Via.refl e0 (Sta.ext O0.2 S_AD) (g := (mkF m 0 #[.val (.ref b1), .val (.int i.toInt32), .val (.int ch)] [])) rfl (hb hby d20_0)
  refine Win.to T223 (mkF m 3 #[.val (.ref b1), .val (.int i.toInt32), .val (.int ch)] [(.int (1 : Int32))]) (fun _ k => st223 _ k) ?_
  refine Win.to T223 (mkF m 28 #[.val (.ref b1), .val (.int i.toInt32), .val (.int ch)] []) (fun _ k => XS.ifYes X223.here hx rfl (pc0 := 3) (pc' := 28) rfl (hb hby d20_3) rfl ((if0 _ _).trans (feq (show ¬ ((1 : Int32) = (0 : Int32)) from by decide)).2) (by decide) (by decide) k) ?_
  refine Win.to T223 (mkF m 29 #[.val (.ref b1), .val (.int i.toInt32), .val (.int ch)] [(.int i.toInt32)]) (fun _ k => XS.iloadN X223.here hx rfl (hb hby d20_28) rfl k) ?_
  refine Win.to T223 (mkF m 30 #[.val (.ref b1), .val (.int i.toInt32), .val (.int ch)] [(.int (1 : Int32)), (.int i.toInt32)]) (fun _ k => XS.iconst X223.here hx rfl (hb hby d20_29) k) ?_
  refine Win.to T223 (mkF m 31 #[.val (.ref b1), .val (.int i.toInt32), .val (.int ch)] [(.int (2 * i).toInt32)]) (fun _ k => XS.ishl X223.here hx rfl (hb hby d20_30) rfl (by rw [show (i.toInt32 <<< ((1 : Int32) &&& 31)) = (2 * i).toInt32 from own_shl1 (by omega)]; exact k)) ?_
  refine Win.to T223 (mkF m 32 #[.val (.ref b1), .val (.int (2 * i).toInt32), .val (.int ch)] []) (fun _ k => XS.istoreN X223.here hx rfl (hb hby d20_31) rfl (l' := #[.val (.ref b1), .val (.int (2 * i).toInt32), .val (.int ch)]) rfl k) ?_
  refine Win.to T223 (mkF m 33 #[.val (.ref b1), .val (.int (2 * i).toInt32), .val (.int ch)] [(.ref b1)]) (fun _ k => XS.aloadN X223.here hx rfl (hb hby d20_32) rfl rfl k) ?_
  refine Win.to T223 (mkF m 34 #[.val (.ref b1), .val (.int (2 * i).toInt32), .val (.int ch)] [(.int (2 * i).toInt32), (.ref b1)]) (fun _ k => XS.iloadN X223.here hx rfl (hb hby d20_33) rfl k) ?_
  refine Win.to T223 (mkF m 37 #[.val (.ref b1), .val (.int ((2 * i).toInt32 + (1 : Int32))), .val (.int ch)] [(.int (2 * i).toInt32), (.ref b1)]) (fun _ k => XS.iinc X223.here hx rfl (hb hby d20_34) rfl (l' := #[.val (.ref b1), .val (.int ((2 * i).toInt32 + (1 : Int32))), .val (.int ch)]) rfl k) ?_
  refine Win.to T223 (mkF m 38 #[.val (.ref b1), .val (.int ((2 * i).toInt32 + (1 : Int32))), .val (.int ch)] [(.int ch), (.int (2 * i).toInt32), (.ref b1)]) (fun _ k => XS.iloadN X223.here hx rfl (hb hby d20_37) rfl k) ?_
  obtain ⟨T224, X224, e224, st224⟩ := getS2 X223 hx hZ hown (host := "") (Or.inl (wk hw 95 rfl)) Via.refl e223 (Sta.ext O0.2 S_HI) (g := (mkF m 38 #[.val (.ref b1), .val (.int ((2 * i).toInt32 + (1 : Int32))), .val (.int ch)] [(.int ch), (.int (2 * i).toInt32), (.ref b1)])) rfl (hb hby d20_38)
  refine Win.to T224 (mkF m 41 #[.val (.ref b1), .val (.int ((2 * i).toInt32 + (1 : Int32))), .val (.int ch)] [(.int (0 : Int32)), (.int ch), (.int (2 * i).toInt32), (.ref b1)]) (fun _ k => st224 _ k) ?_
  refine Win.to T224 (mkF m 42 #[.val (.ref b1), .val (.int ((2 * i).toInt32 + (1 : Int32))), .val (.int ch)] [(.int (ch >>> ((0 : Int32) &&& 31))), (.int (2 * i).toInt32), (.ref b1)]) (fun _ k => XS.ishr X224.here hx rfl (hb hby d20_41) rfl k) ?_
  refine Win.to T224 (mkF m 43 #[.val (.ref b1), .val (.int ((2 * i).toInt32 + (1 : Int32))), .val (.int ch)] [(.int ((ch >>> ((0 : Int32) &&& 31)).toInt8.toInt32)), (.int (2 * i).toInt32), (.ref b1)]) (fun _ k => XS.i2b X224.here hx rfl (hb hby d20_42) rfl k) ?_
  obtain ⟨cl225, Ar225, hi225, -⟩ := ArF.at Fb (j := (2 * i).toInt32) (i := (2 * i)) (own_tn h2).1 (own_tn h2).2.1 (by omega)
  obtain ⟨T226, h226, X226, e226, W226, st226⟩ := stB X224 hx hZ e224 Ar225 (j := (2 * i).toInt32) hi225 (g := (mkF m 43 #[.val (.ref b1), .val (.int ((2 * i).toInt32 + (1 : Int32))), .val (.int ch)] [(.int ((ch >>> ((0 : Int32) &&& 31)).toInt8.toInt32)), (.int (2 * i).toInt32), (.ref b1)])) rfl rfl (hb hby d20_43)
  have O227 := Old.wr O0 W226 g1
  have K228 : Keep h0 h226 [b1] := (Keep.refl h0 [b1]).wr W226 (Or.inl (List.mem_of_getElem? (i := 0) rfl))
  have N229 := Fr.snoc X226 N0 g1
  have eq226 : nar .byte ((ch >>> ((0 : Int32) &&& 31)).toInt8.toInt32) = ((ch >>> ((0 : Int32) &&& 31)).toInt8.toInt32) := (own_b8 (ch >>> ((0 : Int32) &&& 31)))
  have W226 := eq226 ▸ W226
  have F230 : ArF Z h226 b1 kb .byte nn (upd gf (2 * i) ((ch >>> ((0 : Int32) &&& 31)).toInt8.toInt32)) := ArF.set Fb W226 (own_tn h2).1 (by omega) (eq226 ▸ (fits_nar_byte _))
  refine Win.to T226 (mkF m 44 #[.val (.ref b1), .val (.int ((2 * i).toInt32 + (1 : Int32))), .val (.int ch)] []) (fun _ k => st226 _ k) ?_
  refine Win.to T226 (mkF m 45 #[.val (.ref b1), .val (.int ((2 * i).toInt32 + (1 : Int32))), .val (.int ch)] [(.ref b1)]) (fun _ k => XS.aloadN X226.here hx rfl (hb hby d20_44) rfl rfl k) ?_
  refine Win.to T226 (mkF m 46 #[.val (.ref b1), .val (.int ((2 * i).toInt32 + (1 : Int32))), .val (.int ch)] [(.int ((2 * i).toInt32 + (1 : Int32))), (.ref b1)]) (fun _ k => XS.iloadN X226.here hx rfl (hb hby d20_45) rfl k) ?_
  refine Win.to T226 (mkF m 47 #[.val (.ref b1), .val (.int ((2 * i).toInt32 + (1 : Int32))), .val (.int ch)] [(.int ch), (.int ((2 * i).toInt32 + (1 : Int32))), (.ref b1)]) (fun _ k => XS.iloadN X226.here hx rfl (hb hby d20_46) rfl k) ?_
  obtain ⟨T231, X231, e231, st231⟩ := getS2 X226 hx hZ hown (host := "") (Or.inl (wk hw 96 rfl)) Via.refl e226 (Sta.ext O227.2 S_LO) (g := (mkF m 47 #[.val (.ref b1), .val (.int ((2 * i).toInt32 + (1 : Int32))), .val (.int ch)] [(.int ch), (.int ((2 * i).toInt32 + (1 : Int32))), (.ref b1)])) rfl (hb hby d20_47)
  refine Win.to T231 (mkF m 50 #[.val (.ref b1), .val (.int ((2 * i).toInt32 + (1 : Int32))), .val (.int ch)] [(.int (8 : Int32)), (.int ch), (.int ((2 * i).toInt32 + (1 : Int32))), (.ref b1)]) (fun _ k => st231 _ k) ?_
  refine Win.to T231 (mkF m 51 #[.val (.ref b1), .val (.int ((2 * i).toInt32 + (1 : Int32))), .val (.int ch)] [(.int (ch >>> ((8 : Int32) &&& 31))), (.int ((2 * i).toInt32 + (1 : Int32))), (.ref b1)]) (fun _ k => XS.ishr X231.here hx rfl (hb hby d20_50) rfl k) ?_
  refine Win.to T231 (mkF m 52 #[.val (.ref b1), .val (.int ((2 * i).toInt32 + (1 : Int32))), .val (.int ch)] [(.int ((ch >>> ((8 : Int32) &&& 31)).toInt8.toInt32)), (.int ((2 * i).toInt32 + (1 : Int32))), (.ref b1)]) (fun _ k => XS.i2b X231.here hx rfl (hb hby d20_51) rfl k) ?_
  obtain ⟨cl232, Ar232, hi232, -⟩ := ArF.at F230 (j := ((2 * i).toInt32 + (1 : Int32))) (i := (2 * i + 1)) (by rw [own_succ]; exact (own_tn h3).1) (by rw [own_succ]; exact (own_tn h3).2.1) hi
  obtain ⟨T233, h233, X233, e233, W233, st233⟩ := stB X231 hx hZ e231 Ar232 (j := ((2 * i).toInt32 + (1 : Int32))) hi232 (g := (mkF m 52 #[.val (.ref b1), .val (.int ((2 * i).toInt32 + (1 : Int32))), .val (.int ch)] [(.int ((ch >>> ((8 : Int32) &&& 31)).toInt8.toInt32)), (.int ((2 * i).toInt32 + (1 : Int32))), (.ref b1)])) rfl rfl (hb hby d20_52)
  have O234 := Old.wr O227 W233 g1
  have K235 : Keep h0 h233 [b1] := K228.wr W233 (Or.inl (List.mem_of_getElem? (i := 0) rfl))
  have N236 := Fr.snoc X233 N229 g1
  have eq233 : nar .byte ((ch >>> ((8 : Int32) &&& 31)).toInt8.toInt32) = ((ch >>> ((8 : Int32) &&& 31)).toInt8.toInt32) := (own_b8 (ch >>> ((8 : Int32) &&& 31)))
  have W233 := eq233 ▸ W233
  have F237 : ArF Z h233 b1 kb .byte nn (upd (upd gf (2 * i) ((ch >>> ((0 : Int32) &&& 31)).toInt8.toInt32)) (2 * i + 1) ((ch >>> ((8 : Int32) &&& 31)).toInt8.toInt32)) := ArF.set F230 W233 (by rw [own_succ]; exact (own_tn h3).1) hi (eq233 ▸ (fits_nar_byte _))
  refine Win.to T233 (mkF m 53 #[.val (.ref b1), .val (.int ((2 * i).toInt32 + (1 : Int32))), .val (.int ch)] []) (fun _ k => st233 _ k) ?_
  exact Win.retV X233 hx hlk hret (hb hby d20_53) (by decide) (by decide) (by (try rw [e233]); exact ⟨rfl, N236, K235, F237⟩)
abbrev R_getCh : Room := ⟨0, 0, 0, 0⟩
set_option maxRecDepth 65536 in
set_option maxHeartbeats 40000000 in
theorem getCh (l : Launch) (Z : State) (a0 : Array Value) (hw : ∀ d ∈ tables_1, d.before a0 Z = true) (b1 : Addr) (kb : ClassId) (nn : Nat) (gf : Nat → Int32) (i : Nat) (ch : Int32) (h0 : Heap) (n0 : Nat) (O0 : Old Z n0 h0) (Fb : ArF Z h0 b1 kb .byte nn gf) (hi : 2 * i + 1 < nn) (hv : own_gc (gf (2 * i)) (gf (2 * i + 1)) = ch) (S_AD : Sta Z Z.heap "java/lang/StringUTF16" "$assertionsDisabled" "Z" (.int (1 : Int32))) (S_HI : Sta Z Z.heap "java/lang/StringUTF16" "HI_BYTE_SHIFT" "I" (.int (0 : Int32))) (S_LO : Sta Z Z.heap "java/lang/StringUTF16" "LO_BYTE_SHIFT" "I" (.int (8 : Int32))) :
    MetN l Z (⟨"java/lang/StringUTF16", "getChar", "([BI)C"⟩ : MethodName) jdk_52_method_5_code 2 (some .char) R_getCh [] #[(.ref b1), (.int i.toInt32)] h0 (fun v h L => v = some (.int ch) ∧ Fr n0 L ∧ h = h0) := by
  refine MetN.walk (plainFor_of_name pn_21) ?_
  intro p e s m below meth c s₁ hx hZ hby hml hown hnm hret hlk X0 e0
  have N0 := Fr.nil n0
  refine Win.to s₁ (mkF m 0 #[.val (.ref b1), .val (.int i.toInt32)] []) (fun _ k => castTop (by first | (simp [entryFrame, mkF, argsToLocals, Value.category]; done) | rfl) k) ?_
  have hn := Fb.big
  have h2 : 2 * i < 2 ^ 31 := by omega
  have h3 : 2 * i + 1 < 2 ^ 31 := by omega
  obtain ⟨T238, X238, e238, st238⟩ := getS2 X0 hx hZ hown (host := "") (Or.inl (wk hw 94 rfl)) Via.refl e0 (Sta.ext O0.2 S_AD) (g := (mkF m 0 #[.val (.ref b1), .val (.int i.toInt32)] [])) rfl (hb hby d21_0)
  refine Win.to T238 (mkF m 3 #[.val (.ref b1), .val (.int i.toInt32)] [(.int (1 : Int32))]) (fun _ k => st238 _ k) ?_
  refine Win.to T238 (mkF m 28 #[.val (.ref b1), .val (.int i.toInt32)] []) (fun _ k => XS.ifYes X238.here hx rfl (pc0 := 3) (pc' := 28) rfl (hb hby d21_3) rfl ((if0 _ _).trans (feq (show ¬ ((1 : Int32) = (0 : Int32)) from by decide)).2) (by decide) (by decide) k) ?_
  refine Win.to T238 (mkF m 29 #[.val (.ref b1), .val (.int i.toInt32)] [(.int i.toInt32)]) (fun _ k => XS.iloadN X238.here hx rfl (hb hby d21_28) rfl k) ?_
  refine Win.to T238 (mkF m 30 #[.val (.ref b1), .val (.int i.toInt32)] [(.int (1 : Int32)), (.int i.toInt32)]) (fun _ k => XS.iconst X238.here hx rfl (hb hby d21_29) k) ?_
  refine Win.to T238 (mkF m 31 #[.val (.ref b1), .val (.int i.toInt32)] [(.int (2 * i).toInt32)]) (fun _ k => XS.ishl X238.here hx rfl (hb hby d21_30) rfl (by rw [show (i.toInt32 <<< ((1 : Int32) &&& 31)) = (2 * i).toInt32 from own_shl1 (by omega)]; exact k)) ?_
  refine Win.to T238 (mkF m 32 #[.val (.ref b1), .val (.int (2 * i).toInt32)] []) (fun _ k => XS.istoreN X238.here hx rfl (hb hby d21_31) rfl (l' := #[.val (.ref b1), .val (.int (2 * i).toInt32)]) rfl k) ?_
  refine Win.to T238 (mkF m 33 #[.val (.ref b1), .val (.int (2 * i).toInt32)] [(.ref b1)]) (fun _ k => XS.aloadN X238.here hx rfl (hb hby d21_32) rfl rfl k) ?_
  refine Win.to T238 (mkF m 34 #[.val (.ref b1), .val (.int (2 * i).toInt32)] [(.int (2 * i).toInt32), (.ref b1)]) (fun _ k => XS.iloadN X238.here hx rfl (hb hby d21_33) rfl k) ?_
  refine Win.to T238 (mkF m 37 #[.val (.ref b1), .val (.int ((2 * i).toInt32 + (1 : Int32)))] [(.int (2 * i).toInt32), (.ref b1)]) (fun _ k => XS.iinc X238.here hx rfl (hb hby d21_34) rfl (l' := #[.val (.ref b1), .val (.int ((2 * i).toInt32 + (1 : Int32)))]) rfl k) ?_
  obtain ⟨cl239, Ar239, hi239, ha239⟩ := ArF.at Fb (j := (2 * i).toInt32) (i := (2 * i)) (own_tn h2).1 (own_tn h2).2.1 (by omega)
  refine Win.to T238 (mkF m 38 #[.val (.ref b1), .val (.int ((2 * i).toInt32 + (1 : Int32)))] [(.int (gf (2 * i)))]) (fun _ k => X238.baloadBytes hx (j := (2 * i).toInt32) (v := (.int (gf (2 * i)))) (by rw [e238]; exact Ar239.1) (State.isArrayOf_alike hZ.alike Ar239.2.1) Ar239.2.2 hi239 ha239 (g := (mkF m 37 #[.val (.ref b1), .val (.int ((2 * i).toInt32 + (1 : Int32)))] [(.int (2 * i).toInt32), (.ref b1)])) rfl rfl (hb hby d21_37) _ k) ?_
  refine Win.to T238 (mkF m 41 #[.val (.ref b1), .val (.int ((2 * i).toInt32 + (1 : Int32)))] [(.int (255 : Int32)), (.int (gf (2 * i)))]) (fun _ k => XS.sipush X238.here hx rfl (hb hby d21_38) k) ?_
  refine Win.to T238 (mkF m 42 #[.val (.ref b1), .val (.int ((2 * i).toInt32 + (1 : Int32)))] [(.int ((gf (2 * i)) &&& (255 : Int32)))]) (fun _ k => XS.iand X238.here hx rfl (hb hby d21_41) rfl k) ?_
  obtain ⟨T240, X240, e240, st240⟩ := getS2 X238 hx hZ hown (host := "") (Or.inl (wk hw 95 rfl)) Via.refl e238 (Sta.ext O0.2 S_HI) (g := (mkF m 42 #[.val (.ref b1), .val (.int ((2 * i).toInt32 + (1 : Int32)))] [(.int ((gf (2 * i)) &&& (255 : Int32)))])) rfl (hb hby d21_42)
  refine Win.to T240 (mkF m 45 #[.val (.ref b1), .val (.int ((2 * i).toInt32 + (1 : Int32)))] [(.int (0 : Int32)), (.int ((gf (2 * i)) &&& (255 : Int32)))]) (fun _ k => st240 _ k) ?_
  refine Win.to T240 (mkF m 46 #[.val (.ref b1), .val (.int ((2 * i).toInt32 + (1 : Int32)))] [(.int (((gf (2 * i)) &&& (255 : Int32)) <<< ((0 : Int32) &&& 31)))]) (fun _ k => XS.ishl X240.here hx rfl (hb hby d21_45) rfl k) ?_
  refine Win.to T240 (mkF m 47 #[.val (.ref b1), .val (.int ((2 * i).toInt32 + (1 : Int32)))] [(.ref b1), (.int (((gf (2 * i)) &&& (255 : Int32)) <<< ((0 : Int32) &&& 31)))]) (fun _ k => XS.aloadN X240.here hx rfl (hb hby d21_46) rfl rfl k) ?_
  refine Win.to T240 (mkF m 48 #[.val (.ref b1), .val (.int ((2 * i).toInt32 + (1 : Int32)))] [(.int ((2 * i).toInt32 + (1 : Int32))), (.ref b1), (.int (((gf (2 * i)) &&& (255 : Int32)) <<< ((0 : Int32) &&& 31)))]) (fun _ k => XS.iloadN X240.here hx rfl (hb hby d21_47) rfl k) ?_
  obtain ⟨cl241, Ar241, hi241, ha241⟩ := ArF.at Fb (j := ((2 * i).toInt32 + (1 : Int32))) (i := (2 * i + 1)) (by rw [own_succ]; exact (own_tn h3).1) (by rw [own_succ]; exact (own_tn h3).2.1) hi
  refine Win.to T240 (mkF m 49 #[.val (.ref b1), .val (.int ((2 * i).toInt32 + (1 : Int32)))] [(.int (gf (2 * i + 1))), (.int (((gf (2 * i)) &&& (255 : Int32)) <<< ((0 : Int32) &&& 31)))]) (fun _ k => X240.baloadBytes hx (j := ((2 * i).toInt32 + (1 : Int32))) (v := (.int (gf (2 * i + 1)))) (by rw [e240]; exact Ar241.1) (State.isArrayOf_alike hZ.alike Ar241.2.1) Ar241.2.2 hi241 ha241 (g := (mkF m 48 #[.val (.ref b1), .val (.int ((2 * i).toInt32 + (1 : Int32)))] [(.int ((2 * i).toInt32 + (1 : Int32))), (.ref b1), (.int (((gf (2 * i)) &&& (255 : Int32)) <<< ((0 : Int32) &&& 31)))])) rfl rfl (hb hby d21_48) _ k) ?_
  refine Win.to T240 (mkF m 52 #[.val (.ref b1), .val (.int ((2 * i).toInt32 + (1 : Int32)))] [(.int (255 : Int32)), (.int (gf (2 * i + 1))), (.int (((gf (2 * i)) &&& (255 : Int32)) <<< ((0 : Int32) &&& 31)))]) (fun _ k => XS.sipush X240.here hx rfl (hb hby d21_49) k) ?_
  refine Win.to T240 (mkF m 53 #[.val (.ref b1), .val (.int ((2 * i).toInt32 + (1 : Int32)))] [(.int ((gf (2 * i + 1)) &&& (255 : Int32))), (.int (((gf (2 * i)) &&& (255 : Int32)) <<< ((0 : Int32) &&& 31)))]) (fun _ k => XS.iand X240.here hx rfl (hb hby d21_52) rfl k) ?_
  obtain ⟨T242, X242, e242, st242⟩ := getS2 X240 hx hZ hown (host := "") (Or.inl (wk hw 96 rfl)) Via.refl e240 (Sta.ext O0.2 S_LO) (g := (mkF m 53 #[.val (.ref b1), .val (.int ((2 * i).toInt32 + (1 : Int32)))] [(.int ((gf (2 * i + 1)) &&& (255 : Int32))), (.int (((gf (2 * i)) &&& (255 : Int32)) <<< ((0 : Int32) &&& 31)))])) rfl (hb hby d21_53)
  refine Win.to T242 (mkF m 56 #[.val (.ref b1), .val (.int ((2 * i).toInt32 + (1 : Int32)))] [(.int (8 : Int32)), (.int ((gf (2 * i + 1)) &&& (255 : Int32))), (.int (((gf (2 * i)) &&& (255 : Int32)) <<< ((0 : Int32) &&& 31)))]) (fun _ k => st242 _ k) ?_
  refine Win.to T242 (mkF m 57 #[.val (.ref b1), .val (.int ((2 * i).toInt32 + (1 : Int32)))] [(.int (((gf (2 * i + 1)) &&& (255 : Int32)) <<< ((8 : Int32) &&& 31))), (.int (((gf (2 * i)) &&& (255 : Int32)) <<< ((0 : Int32) &&& 31)))]) (fun _ k => XS.ishl X242.here hx rfl (hb hby d21_56) rfl k) ?_
  refine Win.to T242 (mkF m 58 #[.val (.ref b1), .val (.int ((2 * i).toInt32 + (1 : Int32)))] [(.int ((((gf (2 * i)) &&& (255 : Int32)) <<< ((0 : Int32) &&& 31)) ||| (((gf (2 * i + 1)) &&& (255 : Int32)) <<< ((8 : Int32) &&& 31))))]) (fun _ k => XS.ior X242.here hx rfl (hb hby d21_57) rfl k) ?_
  refine Win.to T242 (mkF m 59 #[.val (.ref b1), .val (.int ((2 * i).toInt32 + (1 : Int32)))] [(.int (((((gf (2 * i)) &&& (255 : Int32)) <<< ((0 : Int32) &&& 31)) ||| (((gf (2 * i + 1)) &&& (255 : Int32)) <<< ((8 : Int32) &&& 31))).toUInt32.toUInt16.toUInt32.toInt32))]) (fun _ k => XS.i2c X242.here hx rfl (hb hby d21_58) rfl k) ?_
  exact Win.retN X242 hx hlk (t := .char) hret (by simp) (show nar .char (((((gf (2 * i)) &&& (255 : Int32)) <<< ((0 : Int32) &&& 31)) ||| (((gf (2 * i + 1)) &&& (255 : Int32)) <<< ((8 : Int32) &&& 31))).toUInt32.toUInt16.toUInt32.toInt32) = (((((gf (2 * i)) &&& (255 : Int32)) <<< ((0 : Int32) &&& 31)) ||| (((gf (2 * i + 1)) &&& (255 : Int32)) <<< ((8 : Int32) &&& 31))).toUInt32.toUInt16.toUInt32.toInt32) from (own_c16 ((((gf (2 * i)) &&& (255 : Int32)) <<< ((0 : Int32) &&& 31)) ||| (((gf (2 * i + 1)) &&& (255 : Int32)) <<< ((8 : Int32) &&& 31))))) (hb hby d21_59) (by decide) (by decide) (by (try rw [e242]); exact ⟨(own_eqi hv.symm), N0, rfl⟩)
abbrev R_toB16 : Room := ⟨2, 1, 2046, 24⟩
set_option maxRecDepth 65536 in
set_option maxHeartbeats 40000000 in
theorem toB16 (l : Launch) (Z : State) (a0 : Array Value) (hw : ∀ d ∈ tables_1, d.before a0 Z = true) (c1 : Addr) (kc : ClassId) (n : Nat) (f : Nat → Int32) (h0 : Heap) (n0 : Nat) (O0 : Old Z n0 h0) (Fc : ArF Z h0 c1 kc .char n f) (hcap : n ≤ 1023) (S_AD : Sta Z Z.heap "java/lang/StringUTF16" "$assertionsDisabled" "Z" (.int (1 : Int32))) (S_HI : Sta Z Z.heap "java/lang/StringUTF16" "HI_BYTE_SHIFT" "I" (.int (0 : Int32))) (S_LO : Sta Z Z.heap "java/lang/StringUTF16" "LO_BYTE_SHIFT" "I" (.int (8 : Int32))) :
    MetN l Z (⟨"java/lang/StringUTF16", "toBytes", "([CII)[B"⟩ : MethodName) jdk_52_method_14_code 5 (some (.array .byte)) R_toB16 [] #[(.ref c1), (.int (0 : Int32)), (.int n.toInt32)] h0 (fun v h L => ∃ (t : Addr) (kb : ClassId), v = some (.ref t) ∧ Fr n0 L ∧ Keep h0 h [] ∧ h0.size ≤ t ∧ ArF Z h t kb .byte (2 * n) (u16 f)) := by
  refine MetN.walk (plainFor_of_name pn_17) ?_
  intro p e s m below meth c s₁ hx hZ hby hml hown hnm hret hlk X0 e0
  have N0 := Fr.nil n0
  refine Win.to s₁ (mkF m 0 #[.val (.ref c1), .val (.int (0 : Int32)), .val (.int n.toInt32), .unset, .unset] []) (fun _ k => castTop (by first | (simp [entryFrame, mkF, argsToLocals, Value.category]; done) | rfl) k) ?_
  have hn := Fc.big
  refine Win.to s₁ (mkF m 1 #[.val (.ref c1), .val (.int (0 : Int32)), .val (.int n.toInt32), .unset, .unset] [(.int n.toInt32)]) (fun _ k => XS.iloadN X0.here hx rfl (hb hby d17_0) rfl k) ?_
  obtain ⟨T243, h243, v243, L243, X243, e243, ⟨t_243, kb_243, rfl, N243q, r243_0, r243_1, r243_2⟩, st243⟩ := N.static X0 hx hZ (y := (⟨"java/lang/StringUTF16", "newBytesFor", "(I)[B"⟩ : MethodName)) hown (wk hw 84 rfl) (wk hw 85 rfl) (wk hw 43 rfl) (wk hw 86 rfl) (by decide) (newFor l Z a0 hw n h0 n0 O0 hcap) e0 (g := (mkF m 1 #[.val (.ref c1), .val (.int (0 : Int32)), .val (.int n.toInt32), .unset, .unset] [(.int n.toInt32)])) rfl (by rw [hml]; rfl) (argsL := [(.int n.toInt32)]) (rest := []) rfl (lenOf pd__I__B rfl) rfl (W := 0) (by show 2 * 0 + _ ≤ _; exact Nat.le_of_eq rfl) (hb hby d17_1) (by decide) (by decide) (by decide) (by decide)
  have N244 := Fr.app N0 N243q
  have ne245 : c1 ≠ t_243 := Nat.ne_of_lt (Nat.lt_of_lt_of_le Fc.lt r243_1)
  have g246 : n0 ≤ t_243 := Nat.le_trans (own_le O0) r243_1
  have z247 : h0.size ≤ t_243 := r243_1
  have O248 := Old.keep O0 r243_0 all0
  have K249 : Keep h0 h243 [] := Keep.trans (Keep.refl h0 []) r243_0 all0
  refine Win.to T243 (mkF m 4 #[.val (.ref c1), .val (.int (0 : Int32)), .val (.int n.toInt32), .unset, .unset] [(.ref t_243)]) (fun _ k => st243 _ k) ?_
  refine Win.to T243 (mkF m 5 #[.val (.ref c1), .val (.int (0 : Int32)), .val (.int n.toInt32), .val (.ref t_243), .unset] []) (fun _ k => XS.astoreN X243.here hx rfl (hb hby d17_4) rfl rfl (l' := #[.val (.ref c1), .val (.int (0 : Int32)), .val (.int n.toInt32), .val (.ref t_243), .unset]) rfl k) ?_
  refine Win.to T243 (mkF m 6 #[.val (.ref c1), .val (.int (0 : Int32)), .val (.int n.toInt32), .val (.ref t_243), .unset] [(.int (0 : Int32))]) (fun _ k => XS.iconst X243.here hx rfl (hb hby d17_5) k) ?_
  refine Win.to T243 (mkF m 8 #[.val (.ref c1), .val (.int (0 : Int32)), .val (.int n.toInt32), .val (.ref t_243), .val (.int (0 : Int32))] []) (fun _ k => XS.istore X243.here hx rfl (hb hby d17_6) rfl (l' := #[.val (.ref c1), .val (.int (0 : Int32)), .val (.int n.toInt32), .val (.ref t_243), .val (.int (0 : Int32))]) rfl k) ?_
  have loop : ∀ (q j : Nat), j + q = n → ∀ (T : State) (locs : List Loc) (h : Heap) (X : Stand p l e R_toB16 s m #[(.ref c1), (.int (0 : Int32)), (.int n.toInt32)] below meth c T locs 1 2046) (Nq : Fr n0 locs) (eT : T.heap = h) (O : Old Z n0 h) (K : Keep h0 h []) (Gd : ArF Z h t_243 kb_243 .byte (2 * n) (fun i => if i < 2 * j then u16 f i else 0)) (Gc : ArF Z h c1 kc .char n f), Win p e below s R_toB16 (fun v h L => ∃ (t : Addr) (kb : ClassId), v = some (.ref t) ∧ Fr n0 L ∧ Keep h0 h [] ∧ h0.size ≤ t ∧ ArF Z h t kb .byte (2 * n) (u16 f)) (T.setTop (mkF m 8 #[.val (.ref c1), .val (.int j.toInt32), .val (.int n.toInt32), .val (.ref t_243), .val (.int j.toInt32)] [])) := by
    intro q
    induction q with
    | zero =>
      intro j hj T locs h X Nq eT O K Gd Gc
      have hj0 : j = n := by omega
      have Ge : ArF Z h t_243 kb_243 .byte (2 * n) (u16 f) := ArF.cong Gd fun i hi => by rw [if_pos (by omega)]
      refine Win.to T (mkF m 10 #[.val (.ref c1), .val (.int j.toInt32), .val (.int n.toInt32), .val (.ref t_243), .val (.int j.toInt32)] [(.int j.toInt32)]) (fun _ k => XS.iload X.here hx rfl (hb hby d17_8) rfl k) ?_
      refine Win.to T (mkF m 11 #[.val (.ref c1), .val (.int j.toInt32), .val (.int n.toInt32), .val (.ref t_243), .val (.int j.toInt32)] [(.int n.toInt32), (.int j.toInt32)]) (fun _ k => XS.iloadN X.here hx rfl (hb hby d17_10) rfl k) ?_
      refine Win.to T (mkF m 32 #[.val (.ref c1), .val (.int j.toInt32), .val (.int n.toInt32), .val (.ref t_243), .val (.int j.toInt32)] []) (fun _ k => XS.icmpYes X.here hx rfl (pc0 := 11) (pc' := 32) rfl (hb hby d17_11) rfl (flt (show ¬ (j.toInt32 < n.toInt32) from (by rw [hj0]; exact Int32.lt_irrefl))).2.1 (by decide) (by decide) k) ?_
      refine Win.to T (mkF m 33 #[.val (.ref c1), .val (.int j.toInt32), .val (.int n.toInt32), .val (.ref t_243), .val (.int j.toInt32)] [(.ref t_243)]) (fun _ k => XS.aloadN X.here hx rfl (hb hby d17_32) rfl rfl k) ?_
      exact Win.retA X hx hlk hret rfl rfl (hb hby d17_33) (by decide) (by decide) (by (try rw [eT]); exact ⟨t_243, kb_243, rfl, Nq, K, z247, Ge⟩)
    | succ q ih =>
      intro j hj T locs h X Nq eT O K Gd Gc
      have hj1 : j < n := by omega
      have hj2 : j < 2 ^ 31 := by omega
      refine Win.to T (mkF m 10 #[.val (.ref c1), .val (.int j.toInt32), .val (.int n.toInt32), .val (.ref t_243), .val (.int j.toInt32)] [(.int j.toInt32)]) (fun _ k => XS.iload X.here hx rfl (hb hby d17_8) rfl k) ?_
      refine Win.to T (mkF m 11 #[.val (.ref c1), .val (.int j.toInt32), .val (.int n.toInt32), .val (.ref t_243), .val (.int j.toInt32)] [(.int n.toInt32), (.int j.toInt32)]) (fun _ k => XS.iloadN X.here hx rfl (hb hby d17_10) rfl k) ?_
      refine Win.to T (mkF m 14 #[.val (.ref c1), .val (.int j.toInt32), .val (.int n.toInt32), .val (.ref t_243), .val (.int j.toInt32)] []) (fun _ k => XS.icmpNo X.here hx rfl (hb hby d17_11) rfl (tlt (show j.toInt32 < n.toInt32 from ((own_lt hj2 hn).mpr hj1))).2.1 k) ?_
      refine Win.to T (mkF m 15 #[.val (.ref c1), .val (.int j.toInt32), .val (.int n.toInt32), .val (.ref t_243), .val (.int j.toInt32)] [(.ref t_243)]) (fun _ k => XS.aloadN X.here hx rfl (hb hby d17_14) rfl rfl k) ?_
      refine Win.to T (mkF m 17 #[.val (.ref c1), .val (.int j.toInt32), .val (.int n.toInt32), .val (.ref t_243), .val (.int j.toInt32)] [(.int j.toInt32), (.ref t_243)]) (fun _ k => XS.iload X.here hx rfl (hb hby d17_15) rfl k) ?_
      refine Win.to T (mkF m 18 #[.val (.ref c1), .val (.int j.toInt32), .val (.int n.toInt32), .val (.ref t_243), .val (.int j.toInt32)] [(.ref c1), (.int j.toInt32), (.ref t_243)]) (fun _ k => XS.aloadN X.here hx rfl (hb hby d17_17) rfl rfl k) ?_
      refine Win.to T (mkF m 19 #[.val (.ref c1), .val (.int j.toInt32), .val (.int n.toInt32), .val (.ref t_243), .val (.int j.toInt32)] [(.int j.toInt32), (.ref c1), (.int j.toInt32), (.ref t_243)]) (fun _ k => XS.iloadN X.here hx rfl (hb hby d17_18) rfl k) ?_
      obtain ⟨cl250, Ar250, hi250, ha250⟩ := ArF.at Gc (j := j.toInt32) (i := j) (own_tn hj2).1 (own_tn hj2).2.1 hj1
      refine Win.to T (mkF m 20 #[.val (.ref c1), .val (.int j.toInt32), .val (.int n.toInt32), .val (.ref t_243), .val (.int j.toInt32)] [(.int (f j)), (.int j.toInt32), (.ref t_243)]) (fun _ k => X.caload hx (j := j.toInt32) (v := (.int (f j))) (by rw [eT]; exact Ar250.1) (State.isArrayOf_alike hZ.alike Ar250.2.1) Ar250.2.2 hi250 ha250 (g := (mkF m 19 #[.val (.ref c1), .val (.int j.toInt32), .val (.int n.toInt32), .val (.ref t_243), .val (.int j.toInt32)] [(.int j.toInt32), (.ref c1), (.int j.toInt32), (.ref t_243)])) rfl rfl (hb hby d17_19) _ k) ?_
      obtain ⟨T251, h251, v251, L251, X251, e251, ⟨rfl, N251q, r251_0, r251_1⟩, st251⟩ := N.static X hx hZ (y := (⟨"java/lang/StringUTF16", "putChar", "([BII)V"⟩ : MethodName)) hown (wk hw 91 rfl) (wk hw 92 rfl) (wk hw 43 rfl) (wk hw 93 rfl) (by decide) (putCh l Z a0 hw t_243 kb_243 (2 * n) (fun i => if i < 2 * j then u16 f i else 0) j (f j) h n0 O Gd (by first | assumption | decide | omega) g246 S_AD S_HI S_LO) eT (g := (mkF m 20 #[.val (.ref c1), .val (.int j.toInt32), .val (.int n.toInt32), .val (.ref t_243), .val (.int j.toInt32)] [(.int (f j)), (.int j.toInt32), (.ref t_243)])) rfl (by rw [hml]; rfl) (argsL := [(.ref t_243), (.int j.toInt32), (.int (f j))]) (rest := []) rfl (lenOf pd___BII_V rfl) rfl (W := 0) (by show 2 * 0 + _ ≤ _; exact Nat.le_of_eq rfl) (hb hby d17_20) (by decide) (by decide) (by decide) (by decide)
      have N252 := Fr.app Nq N251q
      have O253 := Old.keep O r251_0 (allS g246 all0)
      have K254 : Keep h0 h251 [] := Keep.trans K r251_0 (allS (Or.inr z247) all0)
      refine Win.to T251 (mkF m 23 #[.val (.ref c1), .val (.int j.toInt32), .val (.int n.toInt32), .val (.ref t_243), .val (.int j.toInt32)] []) (fun _ k => st251 _ k) ?_
      refine Win.to T251 (mkF m 26 #[.val (.ref c1), .val (.int (j.toInt32 + (1 : Int32))), .val (.int n.toInt32), .val (.ref t_243), .val (.int j.toInt32)] []) (fun _ k => XS.iinc X251.here hx rfl (hb hby d17_23) rfl (l' := #[.val (.ref c1), .val (.int (j.toInt32 + (1 : Int32))), .val (.int n.toInt32), .val (.ref t_243), .val (.int j.toInt32)]) rfl k) ?_
      refine Win.to T251 (mkF m 29 #[.val (.ref c1), .val (.int (j.toInt32 + (1 : Int32))), .val (.int n.toInt32), .val (.ref t_243), .val (.int (j.toInt32 + (1 : Int32)))] []) (fun _ k => XS.iinc X251.here hx rfl (hb hby d17_26) rfl (l' := #[.val (.ref c1), .val (.int (j.toInt32 + (1 : Int32))), .val (.int n.toInt32), .val (.ref t_243), .val (.int (j.toInt32 + (1 : Int32)))]) rfl k) ?_
      refine Win.to T251 (mkF m 8 #[.val (.ref c1), .val (.int (j.toInt32 + (1 : Int32))), .val (.int n.toInt32), .val (.ref t_243), .val (.int (j.toInt32 + (1 : Int32)))] []) (fun _ k => XS.goto X251.here hx rfl (pc0 := 29) (pc' := 8) rfl (hb hby d17_29) (by decide) (by decide) k) ?_
      rw [own_succ j]
      have F255 : ArF Z h251 c1 kc .char n f := (Gc.keep r251_0 (ninS ne245 nin0))
      exact ih (j + 1) (by omega) T251 _ h251 X251 N252 e251 O253 K254 (ArF.cong r251_1 fun i _ => own_u16s f j i) F255
  have F256 : ArF Z h243 c1 kc .char n f := (Fc.keep r243_0 nin0)
  exact loop n 0 (by omega) T243 _ h243 X243 N244 e243 O248 K249 (ArF.cong r243_2 fun i hi => by simp) F256
abbrev R_comp16 : Room := ⟨3, 2, 3069, 40⟩
set_option maxRecDepth 65536 in
set_option maxHeartbeats 40000000 in
theorem comp16 (l : Launch) (Z : State) (a0 : Array Value) (hw : ∀ d ∈ tables_1, d.before a0 Z = true) (c1 : Addr) (kc : ClassId) (n : Nat) (f : Nat → Int32) (h0 : Heap) (n0 : Nat) (O0 : Old Z n0 h0) (Fc : ArF Z h0 c1 kc .char n f) (hcap : n ≤ 1023) (hne : ∃ i, i < n ∧ (255 : Int32) < f i) (S_AD : Sta Z Z.heap "java/lang/StringUTF16" "$assertionsDisabled" "Z" (.int (1 : Int32))) (S_HI : Sta Z Z.heap "java/lang/StringUTF16" "HI_BYTE_SHIFT" "I" (.int (0 : Int32))) (S_LO : Sta Z Z.heap "java/lang/StringUTF16" "LO_BYTE_SHIFT" "I" (.int (8 : Int32))) :
    MetN l Z (⟨"java/lang/StringUTF16", "compress", "([CII)[B"⟩ : MethodName) jdk_52_method_16_code 6 (some (.array .byte)) R_comp16 [] #[(.ref c1), (.int (0 : Int32)), (.int n.toInt32)] h0 (fun v h L => ∃ (t : Addr) (kb : ClassId), v = some (.ref t) ∧ Fr n0 L ∧ Keep h0 h [] ∧ h0.size ≤ t ∧ ArF Z h t kb .byte (2 * n) (u16 f)) := by
  refine MetN.walk (plainFor_of_name pn_8) ?_
  intro p e s m below meth c s₁ hx hZ hby hml hown hnm hret hlk X0 e0
  have N0 := Fr.nil n0
  refine Win.to s₁ (mkF m 0 #[.val (.ref c1), .val (.int (0 : Int32)), .val (.int n.toInt32), .unset, .unset, .unset] []) (fun _ k => castTop (by first | (simp [entryFrame, mkF, argsToLocals, Value.category]; done) | rfl) k) ?_
  have hn := Fc.big
  refine Win.to s₁ (mkF m 1 #[.val (.ref c1), .val (.int (0 : Int32)), .val (.int n.toInt32), .unset, .unset, .unset] [(.int n.toInt32)]) (fun _ k => XS.iloadN X0.here hx rfl (hb hby d8_0) rfl k) ?_
  obtain ⟨T257, h257, k257, X257, e257, E257, A257, st257⟩ := newP X0 hx hZ (wk hw 20 rfl) e0 (g := (mkF m 1 #[.val (.ref c1), .val (.int (0 : Int32)), .val (.int n.toInt32), .unset, .unset, .unset] [(.int n.toInt32)])) rfl (hb hby d8_1) rfl (own_tn hn).2.1 (cap := 1023) (by rw [(own_tn hn).1]; exact hcap) (by decide) (by decide) (by decide)
  obtain ⟨b257, g257⟩ : ∃ z, z = h0.size := ⟨_, rfl⟩
  rw [← g257] at A257 st257
  have ne258 : c1 ≠ b257 := Nat.ne_of_lt (Nat.lt_of_lt_of_le Fc.lt (Nat.le_of_eq g257.symm))
  have g259 : n0 ≤ b257 := Nat.le_trans (own_le O0) (Nat.le_of_eq g257.symm)
  have z260 : h0.size ≤ b257 := (Nat.le_of_eq g257.symm)
  have O261 := Old.ext O0 E257
  have K262 : Keep h0 h257 [] := (Keep.refl h0 []).ext E257
  have F263 : ArF Z h257 b257 k257 .byte n (fun _ => 0) := (own_tn hn).1 ▸ ArF.new A257 (own_tn hn).2.1 rfl
  refine Win.to T257 (mkF m 3 #[.val (.ref c1), .val (.int (0 : Int32)), .val (.int n.toInt32), .unset, .unset, .unset] [(.ref b257)]) (fun _ k => st257 _ k) ?_
  refine Win.to T257 (mkF m 4 #[.val (.ref c1), .val (.int (0 : Int32)), .val (.int n.toInt32), .val (.ref b257), .unset, .unset] []) (fun _ k => XS.astoreN X257.here hx rfl (hb hby d8_3) rfl rfl (l' := #[.val (.ref c1), .val (.int (0 : Int32)), .val (.int n.toInt32), .val (.ref b257), .unset, .unset]) rfl k) ?_
  refine Win.to T257 (mkF m 5 #[.val (.ref c1), .val (.int (0 : Int32)), .val (.int n.toInt32), .val (.ref b257), .unset, .unset] [(.ref c1)]) (fun _ k => XS.aloadN X257.here hx rfl (hb hby d8_4) rfl rfl k) ?_
  refine Win.to T257 (mkF m 6 #[.val (.ref c1), .val (.int (0 : Int32)), .val (.int n.toInt32), .val (.ref b257), .unset, .unset] [(.int (0 : Int32)), (.ref c1)]) (fun _ k => XS.iloadN X257.here hx rfl (hb hby d8_5) rfl k) ?_
  refine Win.to T257 (mkF m 7 #[.val (.ref c1), .val (.int (0 : Int32)), .val (.int n.toInt32), .val (.ref b257), .unset, .unset] [(.ref b257), (.int (0 : Int32)), (.ref c1)]) (fun _ k => XS.aloadN X257.here hx rfl (hb hby d8_6) rfl rfl k) ?_
  refine Win.to T257 (mkF m 8 #[.val (.ref c1), .val (.int (0 : Int32)), .val (.int n.toInt32), .val (.ref b257), .unset, .unset] [(.int (0 : Int32)), (.ref b257), (.int (0 : Int32)), (.ref c1)]) (fun _ k => XS.iconst X257.here hx rfl (hb hby d8_7) k) ?_
  refine Win.to T257 (mkF m 9 #[.val (.ref c1), .val (.int (0 : Int32)), .val (.int n.toInt32), .val (.ref b257), .unset, .unset] [(.int n.toInt32), (.int (0 : Int32)), (.ref b257), (.int (0 : Int32)), (.ref c1)]) (fun _ k => XS.iloadN X257.here hx rfl (hb hby d8_8) rfl k) ?_
  have F264 : ArF Z h257 c1 kc .char n f := (Fc.ext E257)
  obtain ⟨T265, h265, v265, L265, X265, e265, ⟨r_265, rfl, N265q, r265_0, r265_1, r265_2, r265_3, r265_4⟩, st265⟩ := N.static X257 hx hZ (y := (⟨"java/lang/StringUTF16", "compress", "([CI[BII)I"⟩ : MethodName)) hown (wk hw 45 rfl) (wk hw 46 rfl) (wk hw 43 rfl) (wk hw 47 rfl) (by decide) (cLoop l Z a0 hw c1 b257 kc k257 n f h257 n0 O261 F264 F263 ne258 g259) e257 (g := (mkF m 9 #[.val (.ref c1), .val (.int (0 : Int32)), .val (.int n.toInt32), .val (.ref b257), .unset, .unset] [(.int n.toInt32), (.int (0 : Int32)), (.ref b257), (.int (0 : Int32)), (.ref c1)])) rfl (by rw [hml]; rfl) (argsL := [(.ref c1), (.int (0 : Int32)), (.ref b257), (.int (0 : Int32)), (.int n.toInt32)]) (rest := []) rfl (lenOf pd___CI_BII_I rfl) rfl (W := 0) (by show 2 * 0 + _ ≤ _; exact Nat.le_of_eq rfl) (hb hby d8_9) (by decide) (by decide) (by decide) (by decide)
  have N266 := Fr.app N0 N265q
  have O267 := Old.keep O261 r265_0 (allS g259 all0)
  have K268 : Keep h0 h265 [] := Keep.trans K262 r265_0 (allS (Or.inr z260) all0)
  refine Win.to T265 (mkF m 12 #[.val (.ref c1), .val (.int (0 : Int32)), .val (.int n.toInt32), .val (.ref b257), .unset, .unset] [(.int r_265.toInt32)]) (fun _ k => st265 _ k) ?_
  have hr : r_265 < n := by
    obtain ⟨i, hi, hq⟩ := hne
    rcases Nat.lt_or_ge r_265 n with q | q
    · exact q
    · exact absurd hq (r265_3 i (by omega))
  refine Win.to T265 (mkF m 14 #[.val (.ref c1), .val (.int (0 : Int32)), .val (.int n.toInt32), .val (.ref b257), .val (.int r_265.toInt32), .unset] []) (fun _ k => XS.istore X265.here hx rfl (hb hby d8_12) rfl (l' := #[.val (.ref c1), .val (.int (0 : Int32)), .val (.int n.toInt32), .val (.ref b257), .val (.int r_265.toInt32), .unset]) rfl k) ?_
  refine Win.to T265 (mkF m 16 #[.val (.ref c1), .val (.int (0 : Int32)), .val (.int n.toInt32), .val (.ref b257), .val (.int r_265.toInt32), .unset] [(.int r_265.toInt32)]) (fun _ k => XS.iload X265.here hx rfl (hb hby d8_14) rfl k) ?_
  refine Win.to T265 (mkF m 17 #[.val (.ref c1), .val (.int (0 : Int32)), .val (.int n.toInt32), .val (.ref b257), .val (.int r_265.toInt32), .unset] [(.int n.toInt32), (.int r_265.toInt32)]) (fun _ k => XS.iloadN X265.here hx rfl (hb hby d8_16) rfl k) ?_
  refine Win.to T265 (mkF m 20 #[.val (.ref c1), .val (.int (0 : Int32)), .val (.int n.toInt32), .val (.ref b257), .val (.int r_265.toInt32), .unset] []) (fun _ k => XS.icmpNo X265.here hx rfl (hb hby d8_17) rfl (feq (show ¬ (r_265.toInt32 = n.toInt32) from (fun q => absurd (own_inj (by omega) hn q) (by omega)))).1 k) ?_
  refine Win.to T265 (mkF m 21 #[.val (.ref c1), .val (.int (0 : Int32)), .val (.int n.toInt32), .val (.ref b257), .val (.int r_265.toInt32), .unset] [(.ref c1)]) (fun _ k => XS.aloadN X265.here hx rfl (hb hby d8_20) rfl rfl k) ?_
  refine Win.to T265 (mkF m 22 #[.val (.ref c1), .val (.int (0 : Int32)), .val (.int n.toInt32), .val (.ref b257), .val (.int r_265.toInt32), .unset] [(.int (0 : Int32)), (.ref c1)]) (fun _ k => XS.iloadN X265.here hx rfl (hb hby d8_21) rfl k) ?_
  refine Win.to T265 (mkF m 23 #[.val (.ref c1), .val (.int (0 : Int32)), .val (.int n.toInt32), .val (.ref b257), .val (.int r_265.toInt32), .unset] [(.int n.toInt32), (.int (0 : Int32)), (.ref c1)]) (fun _ k => XS.iloadN X265.here hx rfl (hb hby d8_22) rfl k) ?_
  have F269 : ArF Z h265 c1 kc .char n f := (F264.keep r265_0 (ninS ne258 nin0))
  obtain ⟨T270, h270, v270, L270, X270, e270, ⟨t_270, kb_270, rfl, N270q, r270_0, r270_1, r270_2⟩, st270⟩ := N.static X265 hx hZ (y := (⟨"java/lang/StringUTF16", "toBytes", "([CII)[B"⟩ : MethodName)) hown (wk hw 81 rfl) (wk hw 82 rfl) (wk hw 43 rfl) (wk hw 83 rfl) (by decide) (toB16 l Z a0 hw c1 kc n f h265 n0 O267 F269 hcap S_AD S_HI S_LO) e265 (g := (mkF m 23 #[.val (.ref c1), .val (.int (0 : Int32)), .val (.int n.toInt32), .val (.ref b257), .val (.int r_265.toInt32), .unset] [(.int n.toInt32), (.int (0 : Int32)), (.ref c1)])) rfl (by rw [hml]; rfl) (argsL := [(.ref c1), (.int (0 : Int32)), (.int n.toInt32)]) (rest := []) rfl (lenOf pd___CII__B rfl) rfl (W := 0) (by show 2 * 0 + _ ≤ _; exact Nat.le_of_eq rfl) (hb hby d8_23) (by decide) (by decide) (by decide) (by decide)
  have N271 := Fr.app N266 N270q
  have ne272 : c1 ≠ t_270 := Nat.ne_of_lt (Nat.lt_of_lt_of_le F269.lt r270_1)
  have ne273 : b257 ≠ t_270 := Nat.ne_of_lt (Nat.lt_of_lt_of_le r265_1.lt r270_1)
  have g274 : n0 ≤ t_270 := Nat.le_trans (own_le O267) r270_1
  have z275 : h0.size ≤ t_270 := Nat.le_trans K268.1 r270_1
  have O276 := Old.keep O267 r270_0 all0
  have K277 : Keep h0 h270 [] := Keep.trans K268 r270_0 all0
  refine Win.to T270 (mkF m 26 #[.val (.ref c1), .val (.int (0 : Int32)), .val (.int n.toInt32), .val (.ref b257), .val (.int r_265.toInt32), .unset] [(.ref t_270)]) (fun _ k => st270 _ k) ?_
  refine Win.to T270 (mkF m 28 #[.val (.ref c1), .val (.int (0 : Int32)), .val (.int n.toInt32), .val (.ref b257), .val (.int r_265.toInt32), .val (.ref t_270)] []) (fun _ k => XS.astore X270.here hx rfl (hb hby d8_26) rfl rfl (l' := #[.val (.ref c1), .val (.int (0 : Int32)), .val (.int n.toInt32), .val (.ref b257), .val (.int r_265.toInt32), .val (.ref t_270)]) rfl k) ?_
  refine Win.to T270 (mkF m 30 #[.val (.ref c1), .val (.int (0 : Int32)), .val (.int n.toInt32), .val (.ref b257), .val (.int r_265.toInt32), .val (.ref t_270)] [(.ref t_270)]) (fun _ k => XS.aload X270.here hx rfl (hb hby d8_28) rfl rfl k) ?_
  refine Win.to T270 (mkF m 32 #[.val (.ref c1), .val (.int (0 : Int32)), .val (.int n.toInt32), .val (.ref b257), .val (.int r_265.toInt32), .val (.ref t_270)] [(.int r_265.toInt32), (.ref t_270)]) (fun _ k => XS.iload X270.here hx rfl (hb hby d8_30) rfl k) ?_
  obtain ⟨T278, h278, v278, L278, X278, e278, ⟨rfl, N278q, r278_0⟩, st278⟩ := N.static X270 hx hZ (y := (⟨"java/lang/StringUTF16", "getChar", "([BI)C"⟩ : MethodName)) hown (wk hw 97 rfl) (wk hw 98 rfl) (wk hw 43 rfl) (wk hw 99 rfl) (by decide) (getCh l Z a0 hw t_270 kb_270 (2 * n) (u16 f) r_265 (f r_265) h270 n0 O276 r270_2 (by omega) (own_gcu (own_fr Fc _ hr).1 (own_fr Fc _ hr).2) S_AD S_HI S_LO) e270 (g := (mkF m 32 #[.val (.ref c1), .val (.int (0 : Int32)), .val (.int n.toInt32), .val (.ref b257), .val (.int r_265.toInt32), .val (.ref t_270)] [(.int r_265.toInt32), (.ref t_270)])) rfl (by rw [hml]; rfl) (argsL := [(.ref t_270), (.int r_265.toInt32)]) (rest := []) rfl (lenOf pd___BI_C rfl) rfl (W := 0) (by show 2 * 0 + _ ≤ _; exact Nat.le_of_eq rfl) (hb hby d8_32) (by decide) (by decide) (by decide) (by decide)
  have N279 := Fr.app N271 N278q
  have e278 := e278.trans r278_0
  refine Win.to T278 (mkF m 35 #[.val (.ref c1), .val (.int (0 : Int32)), .val (.int n.toInt32), .val (.ref b257), .val (.int r_265.toInt32), .val (.ref t_270)] [(.int (f r_265))]) (fun _ k => st278 _ k) ?_
  refine Win.to T278 (mkF m 38 #[.val (.ref c1), .val (.int (0 : Int32)), .val (.int n.toInt32), .val (.ref b257), .val (.int r_265.toInt32), .val (.ref t_270)] [(.int (255 : Int32)), (.int (f r_265))]) (fun _ k => XS.sipush X278.here hx rfl (hb hby d8_35) k) ?_
  refine Win.to T278 (mkF m 54 #[.val (.ref c1), .val (.int (0 : Int32)), .val (.int n.toInt32), .val (.ref b257), .val (.int r_265.toInt32), .val (.ref t_270)] []) (fun _ k => XS.icmpYes X278.here hx rfl (pc0 := 38) (pc' := 54) rfl (hb hby d8_38) rfl (tlt (show (255 : Int32) < (f r_265) from (r265_4 hr))).2.2.1 (by decide) (by decide) k) ?_
  refine Win.to T278 (mkF m 56 #[.val (.ref c1), .val (.int (0 : Int32)), .val (.int n.toInt32), .val (.ref b257), .val (.int r_265.toInt32), .val (.ref t_270)] [(.ref t_270)]) (fun _ k => XS.aload X278.here hx rfl (hb hby d8_54) rfl rfl k) ?_
  exact Win.retA X278 hx hlk hret rfl rfl (hb hby d8_56) (by decide) (by decide) (by (try rw [e278]); exact ⟨t_270, kb_270, rfl, N279, K277, z275, r270_2⟩)
abbrev R_coder1 : Room := ⟨0, 0, 0, 0⟩
set_option maxRecDepth 65536 in
set_option maxHeartbeats 40000000 in
theorem coder1 (l : Launch) (Z : State) (a0 : Array Value) (hw : ∀ d ∈ tables_1, d.before a0 Z = true) (b1 : Addr) (kb : ClassId) (n : Nat) (gf : Nat → Int32) (h0 : Heap) (n0 : Nat) (O0 : Old Z n0 h0) (Fb : ArF Z h0 b1 kb .byte (2 * n) gf) (hpos : 0 < n) :
    MetN l Z (⟨"java/lang/StringUTF16", "coderFromArrayLen", "([BI)B"⟩ : MethodName) jdk_52_method_15_code 2 (some .byte) R_coder1 [] #[(.ref b1), (.int n.toInt32)] h0 (fun v h L => v = some (.int (1 : Int32)) ∧ Fr n0 L ∧ h = h0) := by
  refine MetN.walk (plainFor_of_name pn_10) ?_
  intro p e s m below meth c s₁ hx hZ hby hml hown hnm hret hlk X0 e0
  have N0 := Fr.nil n0
  refine Win.to s₁ (mkF m 0 #[.val (.ref b1), .val (.int n.toInt32)] []) (fun _ k => castTop (by first | (simp [entryFrame, mkF, argsToLocals, Value.category]; done) | rfl) k) ?_
  refine Win.to s₁ (mkF m 1 #[.val (.ref b1), .val (.int n.toInt32)] [(.int n.toInt32)]) (fun _ k => XS.iloadN X0.here hx rfl (hb hby d10_0) rfl k) ?_
  refine Win.to s₁ (mkF m 2 #[.val (.ref b1), .val (.int n.toInt32)] [(.ref b1), (.int n.toInt32)]) (fun _ k => XS.aloadN X0.here hx rfl (hb hby d10_1) rfl rfl k) ?_
  obtain ⟨cl280, Ar280, hl280⟩ := ArF.len Fb
  refine Win.to s₁ (mkF m 3 #[.val (.ref b1), .val (.int n.toInt32)] [(.int (2 * n).toInt32), (.int n.toInt32)]) (fun _ k => X0.arraylength hx (by rw [e0]; exact Ar280.1) (State.isArrayOf_alike hZ.alike Ar280.2.1) (g := (mkF m 2 #[.val (.ref b1), .val (.int n.toInt32)] [(.ref b1), (.int n.toInt32)])) rfl rfl (hb hby d10_2) _ (by rw [hl280]; exact k)) ?_
  refine Win.to s₁ (mkF m 4 #[.val (.ref b1), .val (.int n.toInt32)] [(.int (n.toInt32 - (2 * n).toInt32))]) (fun _ k => XS.isub X0.here hx rfl (hb hby d10_3) rfl k) ?_
  refine Win.to s₁ (mkF m 6 #[.val (.ref b1), .val (.int n.toInt32)] [(.int (31 : Int32)), (.int (n.toInt32 - (2 * n).toInt32))]) (fun _ k => XS.bipush X0.here hx rfl (hb hby d10_4) k) ?_
  refine Win.to s₁ (mkF m 7 #[.val (.ref b1), .val (.int n.toInt32)] [(.int (1 : Int32))]) (fun _ k => XS.iushr X0.here hx rfl (hb hby d10_6) rfl (by rw [show (((n.toInt32 - (2 * n).toInt32).toUInt32 >>> ((31 : Int32) &&& 31).toUInt32).toInt32) = (1 : Int32) from own_neg31 hpos Fb.big]; exact k)) ?_
  refine Win.to s₁ (mkF m 8 #[.val (.ref b1), .val (.int n.toInt32)] [(.int (1 : Int32))]) (fun _ k => XS.i2b X0.here hx rfl (hb hby d10_7) rfl (by rw [show ((1 : Int32).toInt8.toInt32) = (1 : Int32) from by decide]; exact k)) ?_
  exact Win.retN X0 hx hlk (t := .byte) hret (by simp) rfl (hb hby d10_8) (by decide) (by decide) (by (try rw [e0]); exact ⟨rfl, N0, rfl⟩)
abbrev R_ctor4u : Room := ⟨4, 2, 3069, 57⟩
set_option maxRecDepth 65536 in
set_option maxHeartbeats 40000000 in
theorem ctor4u (l : Launch) (Z : State) (a0 : Array Value) (hw : ∀ d ∈ tables_1, d.before a0 Z = true) (a1 : Addr) (c1 : Addr) (kc : ClassId) (n : Nat) (f : Nat → Int32) (cs : Int32) (h0 : Heap) (n0 : Nat) (O0 : Old Z n0 h0) (E1 : Exa Z h0 a1 "java/lang/String") (F1 : Fld Z h0 a1 "java/lang/String" "value" "[B" .null) (F2 : Fld Z h0 a1 "java/lang/String" "coder" "B" (.int (0 : Int32))) (Fc : ArF Z h0 c1 kc .char n f) (hcap : n ≤ 1023) (hne : ∃ i, i < n ∧ (255 : Int32) < f i) (g1 : n0 ≤ a1) (S_AD : Sta Z Z.heap "java/lang/StringUTF16" "$assertionsDisabled" "Z" (.int (1 : Int32))) (S_HI : Sta Z Z.heap "java/lang/StringUTF16" "HI_BYTE_SHIFT" "I" (.int (0 : Int32))) (S_LO : Sta Z Z.heap "java/lang/StringUTF16" "LO_BYTE_SHIFT" "I" (.int (8 : Int32))) (S_CS : Sta Z Z.heap "java/lang/String" "COMPACT_STRINGS" "Z" (.int cs)) (hcs : ¬ (cs = (0 : Int32))) :
    MetN l Z (⟨"java/lang/String", "<init>", "([CIILjava/lang/Void;)V"⟩ : MethodName) jdk_42_method_149_code 6 none R_ctor4u [] #[(.ref a1), (.ref c1), (.int (0 : Int32)), (.int n.toInt32), .null] h0 (fun v h L => ∃ (t : Addr) (kb : ClassId), v = none ∧ Fr n0 L ∧ Keep h0 h [a1] ∧ h0.size ≤ t ∧ Fld Z h a1 "java/lang/String" "value" "[B" (.ref t) ∧ Fld Z h a1 "java/lang/String" "coder" "B" (.int (1 : Int32)) ∧ ArF Z h t kb .byte (2 * n) (u16 f)) := by
  refine MetN.walk (plainFor_of_name pn_3) ?_
  intro p e s m below meth c s₁ hx hZ hby hml hown hnm hret hlk X0 e0
  have N0 := Fr.nil n0
  refine Win.to s₁ (mkF m 0 #[.val (.ref a1), .val (.ref c1), .val (.int (0 : Int32)), .val (.int n.toInt32), .val .null, .unset] []) (fun _ k => castTop (by first | (simp [entryFrame, mkF, argsToLocals, Value.category]; done) | rfl) k) ?_
  have hn := Fc.big
  have hpos : 0 < n := by obtain ⟨i, hi, -⟩ := hne; omega
  have hnz : ¬ (n.toInt32 = (0 : Int32)) := own_nz hn hpos
  refine Win.to s₁ (mkF m 1 #[.val (.ref a1), .val (.ref c1), .val (.int (0 : Int32)), .val (.int n.toInt32), .val .null, .unset] [(.ref a1)]) (fun _ k => XS.aloadN X0.here hx rfl (hb hby d3_0) rfl rfl k) ?_
  obtain ⟨T281, X281, e281, st281⟩ := initO X0 hx hZ hown (wk hw 16 rfl) (wk hw 17 rfl) (wk hw 18 rfl) e0 (g := (mkF m 1 #[.val (.ref a1), .val (.ref c1), .val (.int (0 : Int32)), .val (.int n.toInt32), .val .null, .unset] [(.ref a1)])) rfl (by rw [hml]; rfl) rfl (hb hby d3_1) (by decide) (W := 0) (by show 2 * 0 + _ ≤ _; exact Nat.le_of_eq rfl) (by decide)
  refine Win.to T281 (mkF m 4 #[.val (.ref a1), .val (.ref c1), .val (.int (0 : Int32)), .val (.int n.toInt32), .val .null, .unset] []) (fun _ k => st281 _ k) ?_
  refine Win.to T281 (mkF m 5 #[.val (.ref a1), .val (.ref c1), .val (.int (0 : Int32)), .val (.int n.toInt32), .val .null, .unset] [(.int n.toInt32)]) (fun _ k => XS.iloadN X281.here hx rfl (hb hby d3_4) rfl k) ?_
  refine Win.to T281 (mkF m 27 #[.val (.ref a1), .val (.ref c1), .val (.int (0 : Int32)), .val (.int n.toInt32), .val .null, .unset] []) (fun _ k => XS.ifYes X281.here hx rfl (pc0 := 5) (pc' := 27) rfl (hb hby d3_5) rfl ((if0 _ _).trans (feq (show ¬ (n.toInt32 = (0 : Int32)) from hnz)).2) (by decide) (by decide) k) ?_
  obtain ⟨T282, X282, e282, st282⟩ := getS2 X281 hx hZ hown (host := "") (Or.inl (wk hw 40 rfl)) Via.refl e281 (Sta.ext O0.2 S_CS) (g := (mkF m 27 #[.val (.ref a1), .val (.ref c1), .val (.int (0 : Int32)), .val (.int n.toInt32), .val .null, .unset] [])) rfl (hb hby d3_27)
  refine Win.to T282 (mkF m 30 #[.val (.ref a1), .val (.ref c1), .val (.int (0 : Int32)), .val (.int n.toInt32), .val .null, .unset] [(.int cs)]) (fun _ k => st282 _ k) ?_
  refine Win.to T282 (mkF m 33 #[.val (.ref a1), .val (.ref c1), .val (.int (0 : Int32)), .val (.int n.toInt32), .val .null, .unset] []) (fun _ k => XS.ifNo X282.here hx rfl (hb hby d3_30) rfl ((if0 _ _).trans (feq (show ¬ (cs = (0 : Int32)) from hcs)).1) k) ?_
  refine Win.to T282 (mkF m 34 #[.val (.ref a1), .val (.ref c1), .val (.int (0 : Int32)), .val (.int n.toInt32), .val .null, .unset] [(.ref c1)]) (fun _ k => XS.aloadN X282.here hx rfl (hb hby d3_33) rfl rfl k) ?_
  refine Win.to T282 (mkF m 35 #[.val (.ref a1), .val (.ref c1), .val (.int (0 : Int32)), .val (.int n.toInt32), .val .null, .unset] [(.int (0 : Int32)), (.ref c1)]) (fun _ k => XS.iloadN X282.here hx rfl (hb hby d3_34) rfl k) ?_
  refine Win.to T282 (mkF m 36 #[.val (.ref a1), .val (.ref c1), .val (.int (0 : Int32)), .val (.int n.toInt32), .val .null, .unset] [(.int n.toInt32), (.int (0 : Int32)), (.ref c1)]) (fun _ k => XS.iloadN X282.here hx rfl (hb hby d3_35) rfl k) ?_
  obtain ⟨T283, h283, v283, L283, X283, e283, ⟨t_283, kb_283, rfl, N283q, r283_0, r283_1, r283_2⟩, st283⟩ := N.static X282 hx hZ (y := (⟨"java/lang/StringUTF16", "compress", "([CII)[B"⟩ : MethodName)) hown (wk hw 41 rfl) (wk hw 42 rfl) (wk hw 43 rfl) (wk hw 44 rfl) (by decide) (comp16 l Z a0 hw c1 kc n f h0 n0 O0 Fc hcap hne S_AD S_HI S_LO) e282 (g := (mkF m 36 #[.val (.ref a1), .val (.ref c1), .val (.int (0 : Int32)), .val (.int n.toInt32), .val .null, .unset] [(.int n.toInt32), (.int (0 : Int32)), (.ref c1)])) rfl (by rw [hml]; rfl) (argsL := [(.ref c1), (.int (0 : Int32)), (.int n.toInt32)]) (rest := []) rfl (lenOf pd___CII__B rfl) rfl (W := 0) (by show 2 * 0 + _ ≤ _; exact Nat.le_of_eq rfl) (hb hby d3_36) (by decide) (by decide) (by decide) (by decide)
  have N284 := Fr.app N0 N283q
  have ne285 : a1 ≠ t_283 := Nat.ne_of_lt (Nat.lt_of_lt_of_le E1.lt r283_1)
  have ne286 : c1 ≠ t_283 := Nat.ne_of_lt (Nat.lt_of_lt_of_le Fc.lt r283_1)
  have g287 : n0 ≤ t_283 := Nat.le_trans (own_le O0) r283_1
  have z288 : h0.size ≤ t_283 := r283_1
  have O289 := Old.keep O0 r283_0 all0
  have K290 : Keep h0 h283 [a1] := Keep.trans (Keep.refl h0 [a1]) r283_0 all0
  refine Win.to T283 (mkF m 39 #[.val (.ref a1), .val (.ref c1), .val (.int (0 : Int32)), .val (.int n.toInt32), .val .null, .unset] [(.ref t_283)]) (fun _ k => st283 _ k) ?_
  refine Win.to T283 (mkF m 41 #[.val (.ref a1), .val (.ref c1), .val (.int (0 : Int32)), .val (.int n.toInt32), .val .null, .val (.ref t_283)] []) (fun _ k => XS.astore X283.here hx rfl (hb hby d3_39) rfl rfl (l' := #[.val (.ref a1), .val (.ref c1), .val (.int (0 : Int32)), .val (.int n.toInt32), .val .null, .val (.ref t_283)]) rfl k) ?_
  refine Win.to T283 (mkF m 42 #[.val (.ref a1), .val (.ref c1), .val (.int (0 : Int32)), .val (.int n.toInt32), .val .null, .val (.ref t_283)] [(.ref a1)]) (fun _ k => XS.aloadN X283.here hx rfl (hb hby d3_41) rfl rfl k) ?_
  refine Win.to T283 (mkF m 44 #[.val (.ref a1), .val (.ref c1), .val (.int (0 : Int32)), .val (.int n.toInt32), .val .null, .val (.ref t_283)] [(.ref t_283), (.ref a1)]) (fun _ k => XS.aload X283.here hx rfl (hb hby d3_42) rfl rfl k) ?_
  refine Win.to T283 (mkF m 45 #[.val (.ref a1), .val (.ref c1), .val (.int (0 : Int32)), .val (.int n.toInt32), .val .null, .val (.ref t_283)] [(.int n.toInt32), (.ref t_283), (.ref a1)]) (fun _ k => XS.iloadN X283.here hx rfl (hb hby d3_44) rfl k) ?_
  obtain ⟨T291, h291, v291, L291, X291, e291, ⟨rfl, N291q, r291_0⟩, st291⟩ := N.static X283 hx hZ (y := (⟨"java/lang/StringUTF16", "coderFromArrayLen", "([BI)B"⟩ : MethodName)) hown (wk hw 48 rfl) (wk hw 49 rfl) (wk hw 43 rfl) (wk hw 50 rfl) (by decide) (coder1 l Z a0 hw t_283 kb_283 n (u16 f) h283 n0 O289 r283_2 (by first | assumption | decide | omega)) e283 (g := (mkF m 45 #[.val (.ref a1), .val (.ref c1), .val (.int (0 : Int32)), .val (.int n.toInt32), .val .null, .val (.ref t_283)] [(.int n.toInt32), (.ref t_283), (.ref a1)])) rfl (by rw [hml]; rfl) (argsL := [(.ref t_283), (.int n.toInt32)]) (rest := [(.ref a1)]) rfl (lenOf pd___BI_B rfl) rfl (W := 1) (by show 2 * 0 + _ ≤ _; exact Nat.le_of_eq rfl) (hb hby d3_45) (by decide) (by decide) (by decide) (by decide)
  have N292 := Fr.app N284 N291q
  have e291 := e291.trans r291_0
  refine Win.to T291 (mkF m 48 #[.val (.ref a1), .val (.ref c1), .val (.int (0 : Int32)), .val (.int n.toInt32), .val .null, .val (.ref t_283)] [(.int (1 : Int32)), (.ref a1)]) (fun _ k => st291 _ k) ?_
  have F293 : Exa Z h283 a1 "java/lang/String" := (E1.keep r283_0)
  have F294 : Fld Z h283 a1 "java/lang/String" "coder" "B" (.int (0 : Int32)) := (F2.keep r283_0 nin0)
  have F295 : ArF Z h283 c1 kc .char n f := (Fc.keep r283_0 nin0)
  have ne296 : a1 ≠ c1 := own_neF F293 F295 (wk hw 7 rfl)
  obtain ⟨T297, h297, X297, e297, W297, st297⟩ := putFN X291 hx hZ hown (wk hw 26 rfl) Via.refl e291 F294 F293 (Or.inr ⟨(wk hw 22 rfl), rfl, hnm⟩) (wk hw 7 rfl) (ty := .byte) (v' := (.int (1 : Int32))) (by decide) rfl rfl (g := (mkF m 48 #[.val (.ref a1), .val (.ref c1), .val (.int (0 : Int32)), .val (.int n.toInt32), .val .null, .val (.ref t_283)] [(.int (1 : Int32)), (.ref a1)])) rfl rfl (hb hby d3_48)
  have O299 := Old.wr O289 W297 g1
  have K300 : Keep h0 h297 [a1] := K290.wr W297 (Or.inl (List.mem_of_getElem? (i := 0) rfl))
  have N301 := Fr.snoc X297 N292 g1
  have F298 : Fld Z h297 a1 "java/lang/String" "coder" "B" (.int (1 : Int32)) := Fld.same W297 F294
  refine Win.to T297 (mkF m 51 #[.val (.ref a1), .val (.ref c1), .val (.int (0 : Int32)), .val (.int n.toInt32), .val .null, .val (.ref t_283)] []) (fun _ k => st297 _ k) ?_
  refine Win.to T297 (mkF m 52 #[.val (.ref a1), .val (.ref c1), .val (.int (0 : Int32)), .val (.int n.toInt32), .val .null, .val (.ref t_283)] [(.ref a1)]) (fun _ k => XS.aloadN X297.here hx rfl (hb hby d3_51) rfl rfl k) ?_
  refine Win.to T297 (mkF m 54 #[.val (.ref a1), .val (.ref c1), .val (.int (0 : Int32)), .val (.int n.toInt32), .val .null, .val (.ref t_283)] [(.ref t_283), (.ref a1)]) (fun _ k => XS.aload X297.here hx rfl (hb hby d3_52) rfl rfl k) ?_
  have F302 : Exa Z h297 a1 "java/lang/String" := (Exa.wr W297 F293)
  have F303 : Fld Z h297 a1 "java/lang/String" "value" "[B" .null := (Fld.other W297 (F1.keep r283_0 nin0) (Or.inr (slot_ne (Or.inr (wk hw 21 rfl)) (Or.inr (wk hw 22 rfl)) (by decide) (t := (.array .byte)) (t' := .byte) (by decide) (by decide))))
  obtain ⟨T304, h304, X304, e304, W304, st304⟩ := putF X297 hx hZ hown (host := "") (Or.inl (wk hw 25 rfl)) Via.refl e297 F303 F302 (Or.inr ⟨(wk hw 21 rfl), rfl, hnm⟩) (wk hw 7 rfl) (ty := (.array .byte)) (by decide) rfl rfl (g := (mkF m 54 #[.val (.ref a1), .val (.ref c1), .val (.int (0 : Int32)), .val (.int n.toInt32), .val .null, .val (.ref t_283)] [(.ref t_283), (.ref a1)])) rfl rfl (hb hby d3_54)
  have O306 := Old.wr O299 W304 g1
  have K307 : Keep h0 h304 [a1] := K300.wr W304 (Or.inl (List.mem_of_getElem? (i := 0) rfl))
  have N308 := Fr.snoc X304 N301 g1
  have F305 : Fld Z h304 a1 "java/lang/String" "value" "[B" (.ref t_283) := Fld.same W304 F303
  refine Win.to T304 (mkF m 57 #[.val (.ref a1), .val (.ref c1), .val (.int (0 : Int32)), .val (.int n.toInt32), .val .null, .val (.ref t_283)] []) (fun _ k => st304 _ k) ?_
  have F309 : Fld Z h304 a1 "java/lang/String" "coder" "B" (.int (1 : Int32)) := (Fld.other W304 F298 (Or.inr (slot_ne (Or.inr (wk hw 22 rfl)) (Or.inr (wk hw 21 rfl)) (by decide) (t := .byte) (t' := (.array .byte)) (by decide) (by decide))))
  have F310 : ArF Z h304 t_283 kb_283 .byte (2 * n) (u16 f) := ((r283_2.other W297 (Ne.symm ne285)).other W304 (Ne.symm ne285))
  exact Win.retV X304 hx hlk hret (hb hby d3_57) (by decide) (by decide) (by (try rw [e304]); exact ⟨t_283, kb_283, rfl, N308, K307, z288, F305, F309, F310⟩)
abbrev R_ctor1u : Room := ⟨5, 2, 3069, 74⟩
set_option maxRecDepth 65536 in
set_option maxHeartbeats 40000000 in
theorem ctor1u (l : Launch) (Z : State) (a0 : Array Value) (hw : ∀ d ∈ tables_1, d.before a0 Z = true) (a1 : Addr) (c1 : Addr) (kc : ClassId) (n : Nat) (f : Nat → Int32) (cs : Int32) (h0 : Heap) (n0 : Nat) (O0 : Old Z n0 h0) (E1 : Exa Z h0 a1 "java/lang/String") (F1 : Fld Z h0 a1 "java/lang/String" "value" "[B" .null) (F2 : Fld Z h0 a1 "java/lang/String" "coder" "B" (.int (0 : Int32))) (Fc : ArF Z h0 c1 kc .char n f) (hcap : n ≤ 1023) (hne : ∃ i, i < n ∧ (255 : Int32) < f i) (g1 : n0 ≤ a1) (S_AD : Sta Z Z.heap "java/lang/StringUTF16" "$assertionsDisabled" "Z" (.int (1 : Int32))) (S_HI : Sta Z Z.heap "java/lang/StringUTF16" "HI_BYTE_SHIFT" "I" (.int (0 : Int32))) (S_LO : Sta Z Z.heap "java/lang/StringUTF16" "LO_BYTE_SHIFT" "I" (.int (8 : Int32))) (S_CS : Sta Z Z.heap "java/lang/String" "COMPACT_STRINGS" "Z" (.int cs)) (hcs : ¬ (cs = (0 : Int32))) :
    MetN l Z (⟨"java/lang/String", "<init>", "([C)V"⟩ : MethodName) jdk_42_method_3_code 2 none R_ctor1u [] #[(.ref a1), (.ref c1)] h0 (fun v h L => ∃ (t : Addr) (kb : ClassId), v = none ∧ Fr n0 L ∧ Keep h0 h [a1] ∧ h0.size ≤ t ∧ Fld Z h a1 "java/lang/String" "value" "[B" (.ref t) ∧ Fld Z h a1 "java/lang/String" "coder" "B" (.int (1 : Int32)) ∧ ArF Z h t kb .byte (2 * n) (u16 f)) := by
  refine MetN.walk (plainFor_of_name pn_2) ?_
  intro p e s m below meth c s₁ hx hZ hby hml hown hnm hret hlk X0 e0
  have N0 := Fr.nil n0
  refine Win.to s₁ (mkF m 0 #[.val (.ref a1), .val (.ref c1)] []) (fun _ k => castTop (by first | (simp [entryFrame, mkF, argsToLocals, Value.category]; done) | rfl) k) ?_
  refine Win.to s₁ (mkF m 1 #[.val (.ref a1), .val (.ref c1)] [(.ref a1)]) (fun _ k => XS.aloadN X0.here hx rfl (hb hby d2_0) rfl rfl k) ?_
  refine Win.to s₁ (mkF m 2 #[.val (.ref a1), .val (.ref c1)] [(.ref c1), (.ref a1)]) (fun _ k => XS.aloadN X0.here hx rfl (hb hby d2_1) rfl rfl k) ?_
  refine Win.to s₁ (mkF m 3 #[.val (.ref a1), .val (.ref c1)] [(.int (0 : Int32)), (.ref c1), (.ref a1)]) (fun _ k => XS.iconst X0.here hx rfl (hb hby d2_2) k) ?_
  refine Win.to s₁ (mkF m 4 #[.val (.ref a1), .val (.ref c1)] [(.ref c1), (.int (0 : Int32)), (.ref c1), (.ref a1)]) (fun _ k => XS.aloadN X0.here hx rfl (hb hby d2_3) rfl rfl k) ?_
  obtain ⟨cl311, Ar311, hl311⟩ := ArF.len Fc
  refine Win.to s₁ (mkF m 5 #[.val (.ref a1), .val (.ref c1)] [(.int n.toInt32), (.int (0 : Int32)), (.ref c1), (.ref a1)]) (fun _ k => X0.arraylength hx (by rw [e0]; exact Ar311.1) (State.isArrayOf_alike hZ.alike Ar311.2.1) (g := (mkF m 4 #[.val (.ref a1), .val (.ref c1)] [(.ref c1), (.int (0 : Int32)), (.ref c1), (.ref a1)])) rfl rfl (hb hby d2_4) _ (by rw [hl311]; exact k)) ?_
  refine Win.to s₁ (mkF m 6 #[.val (.ref a1), .val (.ref c1)] [.null, (.int n.toInt32), (.int (0 : Int32)), (.ref c1), (.ref a1)]) (fun _ k => XS.aconstNull X0.here hx rfl (hb hby d2_5) k) ?_
  have ne313 : a1 ≠ c1 := own_neF E1 Fc (wk hw 7 rfl)
  obtain ⟨T312, h312, v312, L312, X312, e312, ⟨t_312, kb_312, rfl, N312q, r312_0, r312_1, r312_2, r312_3, r312_4⟩, st312⟩ := N.special X0 hx hZ (y := (⟨"java/lang/String", "<init>", "([CIILjava/lang/Void;)V"⟩ : MethodName)) rfl hown (wk hw 12 rfl) (wk hw 13 rfl) (wk hw 8 rfl) (wk hw 15 rfl) (by decide) (ctor4u l Z a0 hw a1 c1 kc n f cs h0 n0 O0 E1 F1 F2 Fc hcap hne g1 S_AD S_HI S_LO S_CS hcs) e0 (g := (mkF m 6 #[.val (.ref a1), .val (.ref c1)] [.null, (.int n.toInt32), (.int (0 : Int32)), (.ref c1), (.ref a1)])) rfl (by rw [hml]; rfl) (a := a1) (argsL := [(.ref c1), (.int (0 : Int32)), (.int n.toInt32), .null]) (rest := []) rfl (lenOf pd___CIILjava_lang_Void__V rfl) rfl (W := 0) (by show 2 * 0 + _ ≤ _; exact Nat.le_of_eq rfl) (hb hby d2_6) (by decide) (by decide) (by decide) (by decide)
  have N314 := Fr.app N0 N312q
  have ne315 : a1 ≠ t_312 := Nat.ne_of_lt (Nat.lt_of_lt_of_le E1.lt r312_1)
  have ne316 : c1 ≠ t_312 := Nat.ne_of_lt (Nat.lt_of_lt_of_le Fc.lt r312_1)
  have g317 : n0 ≤ t_312 := Nat.le_trans (own_le O0) r312_1
  have z318 : h0.size ≤ t_312 := r312_1
  have O319 := Old.keep O0 r312_0 (allS g1 all0)
  have K320 : Keep h0 h312 [a1] := Keep.trans (Keep.refl h0 [a1]) r312_0 (allS (Or.inl (List.mem_of_getElem? (i := 0) rfl)) all0)
  refine Win.to T312 (mkF m 9 #[.val (.ref a1), .val (.ref c1)] []) (fun _ k => st312 _ k) ?_
  exact Win.retV X312 hx hlk hret (hb hby d2_9) (by decide) (by decide) (by (try rw [e312]); exact ⟨t_312, kb_312, rfl, N314, K320, z318, r312_2, r312_3, r312_4⟩)
abbrev R_coderM : Room := ⟨0, 0, 0, 0⟩
set_option maxRecDepth 65536 in
set_option maxHeartbeats 40000000 in
theorem coderM (l : Launch) (Z : State) (a0 : Array Value) (hw : ∀ d ∈ tables_1, d.before a0 Z = true) (a1 : Addr) (cs : Int32) (h0 : Heap) (n0 : Nat) (O0 : Old Z n0 h0) (F2 : Fld Z h0 a1 "java/lang/String" "coder" "B" (.int (0 : Int32))) (S_CS : Sta Z Z.heap "java/lang/String" "COMPACT_STRINGS" "Z" (.int cs)) (hcs : ¬ (cs = (0 : Int32))) :
    MetN l Z (⟨"java/lang/String", "coder", "()B"⟩ : MethodName) jdk_42_method_152_code 1 (some .byte) R_coderM [] #[(.ref a1)] h0 (fun v h L => v = some (.int (0 : Int32)) ∧ Fr n0 L ∧ h = h0) := by
  refine MetN.walk (plainFor_of_name pn_12) ?_
  intro p e s m below meth c s₁ hx hZ hby hml hown hnm hret hlk X0 e0
  have N0 := Fr.nil n0
  refine Win.to s₁ (mkF m 0 #[.val (.ref a1)] []) (fun _ k => castTop (by first | (simp [entryFrame, mkF, argsToLocals, Value.category]; done) | rfl) k) ?_
  obtain ⟨T321, X321, e321, st321⟩ := getS2 X0 hx hZ hown (host := "") (Or.inl (wk hw 40 rfl)) Via.refl e0 (Sta.ext O0.2 S_CS) (g := (mkF m 0 #[.val (.ref a1)] [])) rfl (hb hby d12_0)
  refine Win.to T321 (mkF m 3 #[.val (.ref a1)] [(.int cs)]) (fun _ k => st321 _ k) ?_
  refine Win.to T321 (mkF m 6 #[.val (.ref a1)] []) (fun _ k => XS.ifNo X321.here hx rfl (hb hby d12_3) rfl ((if0 _ _).trans (feq (show ¬ (cs = (0 : Int32)) from hcs)).1) k) ?_
  refine Win.to T321 (mkF m 7 #[.val (.ref a1)] [(.ref a1)]) (fun _ k => XS.aloadN X321.here hx rfl (hb hby d12_6) rfl rfl k) ?_
  obtain ⟨T322, X322, e322, st322⟩ := getF X321 hx hZ hown (host := "") (Or.inl (wk hw 26 rfl)) Via.refl e321 F2 (g := (mkF m 7 #[.val (.ref a1)] [(.ref a1)])) rfl rfl (hb hby d12_7)
  refine Win.to T322 (mkF m 10 #[.val (.ref a1)] [(.int (0 : Int32))]) (fun _ k => st322 _ k) ?_
  refine Win.to T322 (mkF m 14 #[.val (.ref a1)] [(.int (0 : Int32))]) (fun _ k => XS.goto X322.here hx rfl (pc0 := 10) (pc' := 14) rfl (hb hby d12_10) (by decide) (by decide) k) ?_
  exact Win.retN X322 hx hlk (t := .byte) hret (by simp) rfl (hb hby d12_14) (by decide) (by decide) (by (try rw [e322]); exact ⟨rfl, N0, rfl⟩)
abbrev R_strLen : Room := ⟨1, 0, 0, 13⟩
set_option maxRecDepth 65536 in
set_option maxHeartbeats 40000000 in
theorem strLen (l : Launch) (Z : State) (a0 : Array Value) (hw : ∀ d ∈ tables_1, d.before a0 Z = true) (a1 : Addr) (t1 : Addr) (k1 : ClassId) (n : Nat) (f : Nat → Int32) (cs : Int32) (h0 : Heap) (n0 : Nat) (O0 : Old Z n0 h0) (E1 : Exa Z h0 a1 "java/lang/String") (F1 : Fld Z h0 a1 "java/lang/String" "value" "[B" (.ref t1)) (F2 : Fld Z h0 a1 "java/lang/String" "coder" "B" (.int (0 : Int32))) (Fa : ArF Z h0 t1 k1 .byte n f) (S_CS : Sta Z Z.heap "java/lang/String" "COMPACT_STRINGS" "Z" (.int cs)) (hcs : ¬ (cs = (0 : Int32))) :
    MetN l Z (⟨"java/lang/String", "length", "()I"⟩ : MethodName) jdk_42_method_54_code 1 (some .int) R_strLen [] #[(.ref a1)] h0 (fun v h L => v = some (.int n.toInt32) ∧ Fr n0 L ∧ h = h0) := by
  refine MetN.walk (plainFor_of_name pn_11) ?_
  intro p e s m below meth c s₁ hx hZ hby hml hown hnm hret hlk X0 e0
  have N0 := Fr.nil n0
  refine Win.to s₁ (mkF m 0 #[.val (.ref a1)] []) (fun _ k => castTop (by first | (simp [entryFrame, mkF, argsToLocals, Value.category]; done) | rfl) k) ?_
  refine Win.to s₁ (mkF m 1 #[.val (.ref a1)] [(.ref a1)]) (fun _ k => XS.aloadN X0.here hx rfl (hb hby d11_0) rfl rfl k) ?_
  obtain ⟨T323, X323, e323, st323⟩ := getF X0 hx hZ hown (host := "") (Or.inl (wk hw 25 rfl)) Via.refl e0 F1 (g := (mkF m 1 #[.val (.ref a1)] [(.ref a1)])) rfl rfl (hb hby d11_1)
  refine Win.to T323 (mkF m 4 #[.val (.ref a1)] [(.ref t1)]) (fun _ k => st323 _ k) ?_
  obtain ⟨cl324, Ar324, hl324⟩ := ArF.len Fa
  refine Win.to T323 (mkF m 5 #[.val (.ref a1)] [(.int n.toInt32)]) (fun _ k => X323.arraylength hx (by rw [e323]; exact Ar324.1) (State.isArrayOf_alike hZ.alike Ar324.2.1) (g := (mkF m 4 #[.val (.ref a1)] [(.ref t1)])) rfl rfl (hb hby d11_4) _ (by rw [hl324]; exact k)) ?_
  refine Win.to T323 (mkF m 6 #[.val (.ref a1)] [(.ref a1), (.int n.toInt32)]) (fun _ k => XS.aloadN X323.here hx rfl (hb hby d11_5) rfl rfl k) ?_
  obtain ⟨T325, h325, v325, L325, X325, e325, ⟨rfl, N325q, r325_0⟩, st325⟩ := N.virtual X323 hx hZ (y := (⟨"java/lang/String", "coder", "()B"⟩ : MethodName)) (z := (⟨"java/lang/String", "coder", "()B"⟩ : MethodName)) hown (wk hw 56 rfl) (wk hw 57 rfl) (notFace_of_selects (args := #[]) (mvT hZ (wk hw 59 rfl))) (wk hw 59 rfl) (wk hw 58 rfl) (wk hw 8 rfl) (wk hw 60 rfl) (by decide) (coderM l Z a0 hw a1 cs h0 n0 O0 F2 S_CS hcs) e323 E1 (g := (mkF m 6 #[.val (.ref a1)] [(.ref a1), (.int n.toInt32)])) rfl (by rw [hml]; rfl) (argsL := []) (rest := [(.int n.toInt32)]) rfl (lenOf pd___B rfl) rfl (W := 1) (by show 2 * 0 + _ ≤ _; exact Nat.le_of_eq rfl) (hb hby d11_6) (by decide) (by decide) (by decide) (by decide)
  have N326 := Fr.app N0 N325q
  have e325 := e325.trans r325_0
  refine Win.to T325 (mkF m 9 #[.val (.ref a1)] [(.int (0 : Int32)), (.int n.toInt32)]) (fun _ k => st325 _ k) ?_
  refine Win.to T325 (mkF m 10 #[.val (.ref a1)] [(.int n.toInt32)]) (fun _ k => XS.ishr X325.here hx rfl (hb hby d11_9) rfl (by rw [show (n.toInt32 >>> ((0 : Int32) &&& 31)) = n.toInt32 from own_shr0 _]; exact k)) ?_
  exact Win.retI X325 hx hlk hret (hb hby d11_10) (by decide) (by decide) (by (try rw [e325]); exact ⟨rfl, N326, rfl⟩)
abbrev R_isLat : Room := ⟨0, 0, 0, 0⟩
set_option maxRecDepth 65536 in
set_option maxHeartbeats 40000000 in
theorem isLat (l : Launch) (Z : State) (a0 : Array Value) (hw : ∀ d ∈ tables_1, d.before a0 Z = true) (a1 : Addr) (cs : Int32) (h0 : Heap) (n0 : Nat) (O0 : Old Z n0 h0) (F2 : Fld Z h0 a1 "java/lang/String" "coder" "B" (.int (0 : Int32))) (S_CS : Sta Z Z.heap "java/lang/String" "COMPACT_STRINGS" "Z" (.int cs)) (hcs : ¬ (cs = (0 : Int32))) :
    MetN l Z (⟨"java/lang/String", "isLatin1", "()Z"⟩ : MethodName) jdk_42_method_154_code 1 (some .boolean) R_isLat [] #[(.ref a1)] h0 (fun v h L => v = some (.int (1 : Int32)) ∧ Fr n0 L ∧ h = h0) := by
  refine MetN.walk (plainFor_of_name pn_16) ?_
  intro p e s m below meth c s₁ hx hZ hby hml hown hnm hret hlk X0 e0
  have N0 := Fr.nil n0
  refine Win.to s₁ (mkF m 0 #[.val (.ref a1)] []) (fun _ k => castTop (by first | (simp [entryFrame, mkF, argsToLocals, Value.category]; done) | rfl) k) ?_
  obtain ⟨T327, X327, e327, st327⟩ := getS2 X0 hx hZ hown (host := "") (Or.inl (wk hw 40 rfl)) Via.refl e0 (Sta.ext O0.2 S_CS) (g := (mkF m 0 #[.val (.ref a1)] [])) rfl (hb hby d16_0)
  refine Win.to T327 (mkF m 3 #[.val (.ref a1)] [(.int cs)]) (fun _ k => st327 _ k) ?_
  refine Win.to T327 (mkF m 6 #[.val (.ref a1)] []) (fun _ k => XS.ifNo X327.here hx rfl (hb hby d16_3) rfl ((if0 _ _).trans (feq (show ¬ (cs = (0 : Int32)) from hcs)).1) k) ?_
  refine Win.to T327 (mkF m 7 #[.val (.ref a1)] [(.ref a1)]) (fun _ k => XS.aloadN X327.here hx rfl (hb hby d16_6) rfl rfl k) ?_
  obtain ⟨T328, X328, e328, st328⟩ := getF X327 hx hZ hown (host := "") (Or.inl (wk hw 26 rfl)) Via.refl e327 F2 (g := (mkF m 7 #[.val (.ref a1)] [(.ref a1)])) rfl rfl (hb hby d16_7)
  refine Win.to T328 (mkF m 10 #[.val (.ref a1)] [(.int (0 : Int32))]) (fun _ k => st328 _ k) ?_
  refine Win.to T328 (mkF m 13 #[.val (.ref a1)] []) (fun _ k => XS.ifNo X328.here hx rfl (hb hby d16_10) rfl ((if0 _ _).trans (teq (show (0 : Int32) = (0 : Int32) from by decide)).2) k) ?_
  refine Win.to T328 (mkF m 14 #[.val (.ref a1)] [(.int (1 : Int32))]) (fun _ k => XS.iconst X328.here hx rfl (hb hby d16_13) k) ?_
  refine Win.to T328 (mkF m 18 #[.val (.ref a1)] [(.int (1 : Int32))]) (fun _ k => XS.goto X328.here hx rfl (pc0 := 14) (pc' := 18) rfl (hb hby d16_14) (by decide) (by decide) k) ?_
  exact Win.retN X328 hx hlk (t := .boolean) hret (by simp) rfl (hb hby d16_18) (by decide) (by decide) (by (try rw [e328]); exact ⟨rfl, N0, rfl⟩)
abbrev R_coderM1 : Room := ⟨0, 0, 0, 0⟩
set_option maxRecDepth 65536 in
set_option maxHeartbeats 40000000 in
theorem coderM1 (l : Launch) (Z : State) (a0 : Array Value) (hw : ∀ d ∈ tables_1, d.before a0 Z = true) (a1 : Addr) (cs : Int32) (h0 : Heap) (n0 : Nat) (O0 : Old Z n0 h0) (F2 : Fld Z h0 a1 "java/lang/String" "coder" "B" (.int (1 : Int32))) (S_CS : Sta Z Z.heap "java/lang/String" "COMPACT_STRINGS" "Z" (.int cs)) (hcs : ¬ (cs = (0 : Int32))) :
    MetN l Z (⟨"java/lang/String", "coder", "()B"⟩ : MethodName) jdk_42_method_152_code 1 (some .byte) R_coderM1 [] #[(.ref a1)] h0 (fun v h L => v = some (.int (1 : Int32)) ∧ Fr n0 L ∧ h = h0) := by
  refine MetN.walk (plainFor_of_name pn_12) ?_
  intro p e s m below meth c s₁ hx hZ hby hml hown hnm hret hlk X0 e0
  have N0 := Fr.nil n0
  refine Win.to s₁ (mkF m 0 #[.val (.ref a1)] []) (fun _ k => castTop (by first | (simp [entryFrame, mkF, argsToLocals, Value.category]; done) | rfl) k) ?_
  obtain ⟨T329, X329, e329, st329⟩ := getS2 X0 hx hZ hown (host := "") (Or.inl (wk hw 40 rfl)) Via.refl e0 (Sta.ext O0.2 S_CS) (g := (mkF m 0 #[.val (.ref a1)] [])) rfl (hb hby d12_0)
  refine Win.to T329 (mkF m 3 #[.val (.ref a1)] [(.int cs)]) (fun _ k => st329 _ k) ?_
  refine Win.to T329 (mkF m 6 #[.val (.ref a1)] []) (fun _ k => XS.ifNo X329.here hx rfl (hb hby d12_3) rfl ((if0 _ _).trans (feq (show ¬ (cs = (0 : Int32)) from hcs)).1) k) ?_
  refine Win.to T329 (mkF m 7 #[.val (.ref a1)] [(.ref a1)]) (fun _ k => XS.aloadN X329.here hx rfl (hb hby d12_6) rfl rfl k) ?_
  obtain ⟨T330, X330, e330, st330⟩ := getF X329 hx hZ hown (host := "") (Or.inl (wk hw 26 rfl)) Via.refl e329 F2 (g := (mkF m 7 #[.val (.ref a1)] [(.ref a1)])) rfl rfl (hb hby d12_7)
  refine Win.to T330 (mkF m 10 #[.val (.ref a1)] [(.int (1 : Int32))]) (fun _ k => st330 _ k) ?_
  refine Win.to T330 (mkF m 14 #[.val (.ref a1)] [(.int (1 : Int32))]) (fun _ k => XS.goto X330.here hx rfl (pc0 := 10) (pc' := 14) rfl (hb hby d12_10) (by decide) (by decide) k) ?_
  exact Win.retN X330 hx hlk (t := .byte) hret (by simp) rfl (hb hby d12_14) (by decide) (by decide) (by (try rw [e330]); exact ⟨rfl, N0, rfl⟩)
abbrev R_strLen1 : Room := ⟨1, 0, 0, 13⟩
set_option maxRecDepth 65536 in
set_option maxHeartbeats 40000000 in
theorem strLen1 (l : Launch) (Z : State) (a0 : Array Value) (hw : ∀ d ∈ tables_1, d.before a0 Z = true) (a1 : Addr) (t1 : Addr) (k1 : ClassId) (n : Nat) (f : Nat → Int32) (cs : Int32) (h0 : Heap) (n0 : Nat) (O0 : Old Z n0 h0) (E1 : Exa Z h0 a1 "java/lang/String") (F1 : Fld Z h0 a1 "java/lang/String" "value" "[B" (.ref t1)) (F2 : Fld Z h0 a1 "java/lang/String" "coder" "B" (.int (1 : Int32))) (Fa : ArF Z h0 t1 k1 .byte (2 * n) (u16 f)) (S_CS : Sta Z Z.heap "java/lang/String" "COMPACT_STRINGS" "Z" (.int cs)) (hcs : ¬ (cs = (0 : Int32))) :
    MetN l Z (⟨"java/lang/String", "length", "()I"⟩ : MethodName) jdk_42_method_54_code 1 (some .int) R_strLen1 [] #[(.ref a1)] h0 (fun v h L => v = some (.int n.toInt32) ∧ Fr n0 L ∧ h = h0) := by
  refine MetN.walk (plainFor_of_name pn_11) ?_
  intro p e s m below meth c s₁ hx hZ hby hml hown hnm hret hlk X0 e0
  have N0 := Fr.nil n0
  refine Win.to s₁ (mkF m 0 #[.val (.ref a1)] []) (fun _ k => castTop (by first | (simp [entryFrame, mkF, argsToLocals, Value.category]; done) | rfl) k) ?_
  refine Win.to s₁ (mkF m 1 #[.val (.ref a1)] [(.ref a1)]) (fun _ k => XS.aloadN X0.here hx rfl (hb hby d11_0) rfl rfl k) ?_
  obtain ⟨T331, X331, e331, st331⟩ := getF X0 hx hZ hown (host := "") (Or.inl (wk hw 25 rfl)) Via.refl e0 F1 (g := (mkF m 1 #[.val (.ref a1)] [(.ref a1)])) rfl rfl (hb hby d11_1)
  refine Win.to T331 (mkF m 4 #[.val (.ref a1)] [(.ref t1)]) (fun _ k => st331 _ k) ?_
  obtain ⟨cl332, Ar332, hl332⟩ := ArF.len Fa
  refine Win.to T331 (mkF m 5 #[.val (.ref a1)] [(.int (2 * n).toInt32)]) (fun _ k => X331.arraylength hx (by rw [e331]; exact Ar332.1) (State.isArrayOf_alike hZ.alike Ar332.2.1) (g := (mkF m 4 #[.val (.ref a1)] [(.ref t1)])) rfl rfl (hb hby d11_4) _ (by rw [hl332]; exact k)) ?_
  refine Win.to T331 (mkF m 6 #[.val (.ref a1)] [(.ref a1), (.int (2 * n).toInt32)]) (fun _ k => XS.aloadN X331.here hx rfl (hb hby d11_5) rfl rfl k) ?_
  obtain ⟨T333, h333, v333, L333, X333, e333, ⟨rfl, N333q, r333_0⟩, st333⟩ := N.virtual X331 hx hZ (y := (⟨"java/lang/String", "coder", "()B"⟩ : MethodName)) (z := (⟨"java/lang/String", "coder", "()B"⟩ : MethodName)) hown (wk hw 56 rfl) (wk hw 57 rfl) (notFace_of_selects (args := #[]) (mvT hZ (wk hw 59 rfl))) (wk hw 59 rfl) (wk hw 58 rfl) (wk hw 8 rfl) (wk hw 60 rfl) (by decide) (coderM1 l Z a0 hw a1 cs h0 n0 O0 F2 S_CS hcs) e331 E1 (g := (mkF m 6 #[.val (.ref a1)] [(.ref a1), (.int (2 * n).toInt32)])) rfl (by rw [hml]; rfl) (argsL := []) (rest := [(.int (2 * n).toInt32)]) rfl (lenOf pd___B rfl) rfl (W := 1) (by show 2 * 0 + _ ≤ _; exact Nat.le_of_eq rfl) (hb hby d11_6) (by decide) (by decide) (by decide) (by decide)
  have N334 := Fr.app N0 N333q
  have e333 := e333.trans r333_0
  refine Win.to T333 (mkF m 9 #[.val (.ref a1)] [(.int (1 : Int32)), (.int (2 * n).toInt32)]) (fun _ k => st333 _ k) ?_
  refine Win.to T333 (mkF m 10 #[.val (.ref a1)] [(.int n.toInt32)]) (fun _ k => XS.ishr X333.here hx rfl (hb hby d11_9) rfl (by rw [show ((2 * n).toInt32 >>> ((1 : Int32) &&& 31)) = n.toInt32 from own_shr1 Fa.big]; exact k)) ?_
  exact Win.retI X333 hx hlk hret (hb hby d11_10) (by decide) (by decide) (by (try rw [e333]); exact ⟨rfl, N334, rfl⟩)
abbrev R_isLat0 : Room := ⟨0, 0, 0, 0⟩
set_option maxRecDepth 65536 in
set_option maxHeartbeats 40000000 in
theorem isLat0 (l : Launch) (Z : State) (a0 : Array Value) (hw : ∀ d ∈ tables_1, d.before a0 Z = true) (a1 : Addr) (cs : Int32) (h0 : Heap) (n0 : Nat) (O0 : Old Z n0 h0) (F2 : Fld Z h0 a1 "java/lang/String" "coder" "B" (.int (1 : Int32))) (S_CS : Sta Z Z.heap "java/lang/String" "COMPACT_STRINGS" "Z" (.int cs)) (hcs : ¬ (cs = (0 : Int32))) :
    MetN l Z (⟨"java/lang/String", "isLatin1", "()Z"⟩ : MethodName) jdk_42_method_154_code 1 (some .boolean) R_isLat0 [] #[(.ref a1)] h0 (fun v h L => v = some (.int (0 : Int32)) ∧ Fr n0 L ∧ h = h0) := by
  refine MetN.walk (plainFor_of_name pn_16) ?_
  intro p e s m below meth c s₁ hx hZ hby hml hown hnm hret hlk X0 e0
  have N0 := Fr.nil n0
  refine Win.to s₁ (mkF m 0 #[.val (.ref a1)] []) (fun _ k => castTop (by first | (simp [entryFrame, mkF, argsToLocals, Value.category]; done) | rfl) k) ?_
  obtain ⟨T335, X335, e335, st335⟩ := getS2 X0 hx hZ hown (host := "") (Or.inl (wk hw 40 rfl)) Via.refl e0 (Sta.ext O0.2 S_CS) (g := (mkF m 0 #[.val (.ref a1)] [])) rfl (hb hby d16_0)
  refine Win.to T335 (mkF m 3 #[.val (.ref a1)] [(.int cs)]) (fun _ k => st335 _ k) ?_
  refine Win.to T335 (mkF m 6 #[.val (.ref a1)] []) (fun _ k => XS.ifNo X335.here hx rfl (hb hby d16_3) rfl ((if0 _ _).trans (feq (show ¬ (cs = (0 : Int32)) from hcs)).1) k) ?_
  refine Win.to T335 (mkF m 7 #[.val (.ref a1)] [(.ref a1)]) (fun _ k => XS.aloadN X335.here hx rfl (hb hby d16_6) rfl rfl k) ?_
  obtain ⟨T336, X336, e336, st336⟩ := getF X335 hx hZ hown (host := "") (Or.inl (wk hw 26 rfl)) Via.refl e335 F2 (g := (mkF m 7 #[.val (.ref a1)] [(.ref a1)])) rfl rfl (hb hby d16_7)
  refine Win.to T336 (mkF m 10 #[.val (.ref a1)] [(.int (1 : Int32))]) (fun _ k => st336 _ k) ?_
  refine Win.to T336 (mkF m 17 #[.val (.ref a1)] []) (fun _ k => XS.ifYes X336.here hx rfl (pc0 := 10) (pc' := 17) rfl (hb hby d16_10) rfl ((if0 _ _).trans (feq (show ¬ ((1 : Int32) = (0 : Int32)) from by decide)).2) (by decide) (by decide) k) ?_
  refine Win.to T336 (mkF m 18 #[.val (.ref a1)] [(.int (0 : Int32))]) (fun _ k => XS.iconst X336.here hx rfl (hb hby d16_17) k) ?_
  exact Win.retN X336 hx hlk (t := .boolean) hret (by simp) rfl (hb hby d16_18) (by decide) (by decide) (by (try rw [e336]); exact ⟨rfl, N0, rfl⟩)
abbrev R_chkFT : Room := ⟨0, 0, 0, 0⟩
set_option maxRecDepth 65536 in
set_option maxHeartbeats 40000000 in
theorem chkFT (l : Launch) (Z : State) (a0 : Array Value) (hw : ∀ d ∈ tables_1, d.before a0 Z = true) (n : Nat) (h0 : Heap) (n0 : Nat) (O0 : Old Z n0 h0) (hn : n < 2 ^ 31) :
    MetN l Z (⟨"jdk/internal/util/Preconditions", "checkFromToIndex", "(IIILjava/util/function/BiFunction;)I"⟩ : MethodName) jdk_41_method_12_code 4 (some .int) R_chkFT [] #[(.int (0 : Int32)), (.int n.toInt32), (.int n.toInt32), .null] h0 (fun v h L => v = some (.int (0 : Int32)) ∧ Fr n0 L ∧ h = h0) := by
  refine MetN.walk (plainFor_of_name pn_15) ?_
  intro p e s m below meth c s₁ hx hZ hby hml hown hnm hret hlk X0 e0
  have N0 := Fr.nil n0
  refine Win.to s₁ (mkF m 0 #[.val (.int (0 : Int32)), .val (.int n.toInt32), .val (.int n.toInt32), .val .null] []) (fun _ k => castTop (by first | (simp [entryFrame, mkF, argsToLocals, Value.category]; done) | rfl) k) ?_
  refine Win.to s₁ (mkF m 1 #[.val (.int (0 : Int32)), .val (.int n.toInt32), .val (.int n.toInt32), .val .null] [(.int (0 : Int32))]) (fun _ k => XS.iloadN X0.here hx rfl (hb hby d15_0) rfl k) ?_
  refine Win.to s₁ (mkF m 4 #[.val (.int (0 : Int32)), .val (.int n.toInt32), .val (.int n.toInt32), .val .null] []) (fun _ k => XS.ifNo X0.here hx rfl (hb hby d15_1) rfl ((if0 _ _).trans (flt (show ¬ ((0 : Int32) < (0 : Int32)) from by decide)).1) k) ?_
  refine Win.to s₁ (mkF m 5 #[.val (.int (0 : Int32)), .val (.int n.toInt32), .val (.int n.toInt32), .val .null] [(.int (0 : Int32))]) (fun _ k => XS.iloadN X0.here hx rfl (hb hby d15_4) rfl k) ?_
  refine Win.to s₁ (mkF m 6 #[.val (.int (0 : Int32)), .val (.int n.toInt32), .val (.int n.toInt32), .val .null] [(.int n.toInt32), (.int (0 : Int32))]) (fun _ k => XS.iloadN X0.here hx rfl (hb hby d15_5) rfl k) ?_
  refine Win.to s₁ (mkF m 9 #[.val (.int (0 : Int32)), .val (.int n.toInt32), .val (.int n.toInt32), .val .null] []) (fun _ k => XS.icmpNo X0.here hx rfl (hb hby d15_6) rfl (flt (show ¬ (n.toInt32 < (0 : Int32)) from (own_tn hn).2.1)).2.2.1 k) ?_
  refine Win.to s₁ (mkF m 10 #[.val (.int (0 : Int32)), .val (.int n.toInt32), .val (.int n.toInt32), .val .null] [(.int n.toInt32)]) (fun _ k => XS.iloadN X0.here hx rfl (hb hby d15_9) rfl k) ?_
  refine Win.to s₁ (mkF m 11 #[.val (.int (0 : Int32)), .val (.int n.toInt32), .val (.int n.toInt32), .val .null] [(.int n.toInt32), (.int n.toInt32)]) (fun _ k => XS.iloadN X0.here hx rfl (hb hby d15_10) rfl k) ?_
  refine Win.to s₁ (mkF m 22 #[.val (.int (0 : Int32)), .val (.int n.toInt32), .val (.int n.toInt32), .val .null] []) (fun _ k => XS.icmpYes X0.here hx rfl (pc0 := 11) (pc' := 22) rfl (hb hby d15_11) rfl (flt (show ¬ (n.toInt32 < n.toInt32) from Int32.lt_irrefl)).2.2.2 (by decide) (by decide) k) ?_
  refine Win.to s₁ (mkF m 23 #[.val (.int (0 : Int32)), .val (.int n.toInt32), .val (.int n.toInt32), .val .null] [(.int (0 : Int32))]) (fun _ k => XS.iloadN X0.here hx rfl (hb hby d15_22) rfl k) ?_
  exact Win.retI X0 hx hlk hret (hb hby d15_23) (by decide) (by decide) (by (try rw [e0]); exact ⟨rfl, N0, rfl⟩)
abbrev R_objFT : Room := ⟨1, 0, 0, 15⟩
set_option maxRecDepth 65536 in
set_option maxHeartbeats 40000000 in
theorem objFT (l : Launch) (Z : State) (a0 : Array Value) (hw : ∀ d ∈ tables_1, d.before a0 Z = true) (n : Nat) (h0 : Heap) (n0 : Nat) (O0 : Old Z n0 h0) (hn : n < 2 ^ 31) :
    MetN l Z (⟨"java/util/Objects", "checkFromToIndex", "(III)I"⟩ : MethodName) jdk_31_method_18_code 3 (some .int) R_objFT [] #[(.int (0 : Int32)), (.int n.toInt32), (.int n.toInt32)] h0 (fun v h L => v = some (.int (0 : Int32)) ∧ Fr n0 L ∧ h = h0) := by
  refine MetN.walk (plainFor_of_name pn_14) ?_
  intro p e s m below meth c s₁ hx hZ hby hml hown hnm hret hlk X0 e0
  have N0 := Fr.nil n0
  refine Win.to s₁ (mkF m 0 #[.val (.int (0 : Int32)), .val (.int n.toInt32), .val (.int n.toInt32)] []) (fun _ k => castTop (by first | (simp [entryFrame, mkF, argsToLocals, Value.category]; done) | rfl) k) ?_
  refine Win.to s₁ (mkF m 1 #[.val (.int (0 : Int32)), .val (.int n.toInt32), .val (.int n.toInt32)] [(.int (0 : Int32))]) (fun _ k => XS.iloadN X0.here hx rfl (hb hby d14_0) rfl k) ?_
  refine Win.to s₁ (mkF m 2 #[.val (.int (0 : Int32)), .val (.int n.toInt32), .val (.int n.toInt32)] [(.int n.toInt32), (.int (0 : Int32))]) (fun _ k => XS.iloadN X0.here hx rfl (hb hby d14_1) rfl k) ?_
  refine Win.to s₁ (mkF m 3 #[.val (.int (0 : Int32)), .val (.int n.toInt32), .val (.int n.toInt32)] [(.int n.toInt32), (.int n.toInt32), (.int (0 : Int32))]) (fun _ k => XS.iloadN X0.here hx rfl (hb hby d14_2) rfl k) ?_
  refine Win.to s₁ (mkF m 4 #[.val (.int (0 : Int32)), .val (.int n.toInt32), .val (.int n.toInt32)] [.null, (.int n.toInt32), (.int n.toInt32), (.int (0 : Int32))]) (fun _ k => XS.aconstNull X0.here hx rfl (hb hby d14_3) k) ?_
  obtain ⟨T337, h337, v337, L337, X337, e337, ⟨rfl, N337q, r337_0⟩, st337⟩ := N.static X0 hx hZ (y := (⟨"jdk/internal/util/Preconditions", "checkFromToIndex", "(IIILjava/util/function/BiFunction;)I"⟩ : MethodName)) hown (wk hw 71 rfl) (wk hw 72 rfl) (wk hw 73 rfl) (wk hw 74 rfl) (by decide) (chkFT l Z a0 hw n h0 n0 O0 hn) e0 (g := (mkF m 4 #[.val (.int (0 : Int32)), .val (.int n.toInt32), .val (.int n.toInt32)] [.null, (.int n.toInt32), (.int n.toInt32), (.int (0 : Int32))])) rfl (by rw [hml]; rfl) (argsL := [(.int (0 : Int32)), (.int n.toInt32), (.int n.toInt32), .null]) (rest := []) rfl (lenOf pd__IIILjava_util_function_BiFunction__I rfl) rfl (W := 0) (by show 2 * 0 + _ ≤ _; exact Nat.le_of_eq rfl) (hb hby d14_4) (by decide) (by decide) (by decide) (by decide)
  have N338 := Fr.app N0 N337q
  have e337 := e337.trans r337_0
  refine Win.to T337 (mkF m 7 #[.val (.int (0 : Int32)), .val (.int n.toInt32), .val (.int n.toInt32)] [(.int (0 : Int32))]) (fun _ k => st337 _ k) ?_
  exact Win.retI X337 hx hlk hret (hb hby d14_7) (by decide) (by decide) (by (try rw [e337]); exact ⟨rfl, N338, rfl⟩)
abbrev R_lh0 : Room := ⟨0, 0, 0, 0⟩
set_option maxRecDepth 65536 in
set_option maxHeartbeats 40000000 in
theorem lh0 (l : Launch) (Z : State) (a0 : Array Value) (hw : ∀ d ∈ tables_1, d.before a0 Z = true) (p1 : Int32) (h0 : Heap) (n0 : Nat) (O0 : Old Z n0 h0) (hq : ¬ hsur p1) :
    MetN l Z (⟨"com/example/usher/usher/lifecycle/ExecutionKeyFitsPinLaw", "isHigh", "(C)Z"⟩ : MethodName) method_3_code 1 (some .boolean) R_lh0 [] #[(.int p1)] h0 (fun v h L => v = some (.int (0 : Int32)) ∧ Fr n0 L ∧ h = h0) := by
  refine MetN.walk (plainFor_of_name pn_7) ?_
  intro p e s m below meth c s₁ hx hZ hby hml hown hnm hret hlk X0 e0
  have N0 := Fr.nil n0
  refine Win.to s₁ (mkF m 0 #[.val (.int p1)] []) (fun _ k => castTop (by first | (simp [entryFrame, mkF, argsToLocals, Value.category]; done) | rfl) k) ?_
  refine Win.to s₁ (mkF m 1 #[.val (.int p1)] [(.int p1)]) (fun _ k => XS.iloadN X0.here hx rfl (hb hby d7_0) rfl k) ?_
  refine Win.to s₁ (mkF m 3 #[.val (.int p1)] [(.int (55296 : Int32)), (.int p1)]) (fun _ k => X0.ldcInt hx hown (mvT hZ (wk hw 39 rfl)) (g := (mkF m 1 #[.val (.int p1)] [(.int p1)])) rfl (hb hby d7_1) _ k) ?_
  by_cases hc339 : p1 < (55296 : Int32)
  · refine Win.to s₁ (mkF m 16 #[.val (.int p1)] []) (fun _ k => XS.icmpYes X0.here hx rfl (pc0 := 3) (pc' := 16) rfl (hb hby d7_3) rfl (tlt hc339).1 (by decide) (by decide) k) ?_
    refine Win.to s₁ (mkF m 17 #[.val (.int p1)] [(.int (0 : Int32))]) (fun _ k => XS.iconst X0.here hx rfl (hb hby d7_16) k) ?_
    exact Win.retN X0 hx hlk (t := .boolean) hret (by simp) rfl (hb hby d7_17) (by decide) (by decide) (by (try rw [e0]); exact ⟨rfl, N0, rfl⟩)
  · refine Win.to s₁ (mkF m 6 #[.val (.int p1)] []) (fun _ k => XS.icmpNo X0.here hx rfl (hb hby d7_3) rfl (flt hc339).1 k) ?_
    refine Win.to s₁ (mkF m 7 #[.val (.int p1)] [(.int p1)]) (fun _ k => XS.iloadN X0.here hx rfl (hb hby d7_6) rfl k) ?_
    refine Win.to s₁ (mkF m 9 #[.val (.int p1)] [(.int (56319 : Int32)), (.int p1)]) (fun _ k => X0.ldcInt hx hown (mvT hZ (wk hw 80 rfl)) (g := (mkF m 7 #[.val (.int p1)] [(.int p1)])) rfl (hb hby d7_7) _ k) ?_
    refine Win.to s₁ (mkF m 16 #[.val (.int p1)] []) (fun _ k => XS.icmpYes X0.here hx rfl (pc0 := 9) (pc' := 16) rfl (hb hby d7_9) rfl (tlt (show (56319 : Int32) < p1 from (own_h2 (fun q => hq ⟨hc339, q⟩)))).2.2.1 (by decide) (by decide) k) ?_
    refine Win.to s₁ (mkF m 17 #[.val (.int p1)] [(.int (0 : Int32))]) (fun _ k => XS.iconst X0.here hx rfl (hb hby d7_16) k) ?_
    exact Win.retN X0 hx hlk (t := .boolean) hret (by simp) rfl (hb hby d7_17) (by decide) (by decide) (by (try rw [e0]); exact ⟨rfl, N0, rfl⟩)
abbrev R_lh1 : Room := ⟨0, 0, 0, 0⟩
set_option maxRecDepth 65536 in
set_option maxHeartbeats 40000000 in
theorem lh1 (l : Launch) (Z : State) (a0 : Array Value) (hw : ∀ d ∈ tables_1, d.before a0 Z = true) (p1 : Int32) (h0 : Heap) (n0 : Nat) (O0 : Old Z n0 h0) (hq : hsur p1) :
    MetN l Z (⟨"com/example/usher/usher/lifecycle/ExecutionKeyFitsPinLaw", "isHigh", "(C)Z"⟩ : MethodName) method_3_code 1 (some .boolean) R_lh1 [] #[(.int p1)] h0 (fun v h L => v = some (.int (1 : Int32)) ∧ Fr n0 L ∧ h = h0) := by
  refine MetN.walk (plainFor_of_name pn_7) ?_
  intro p e s m below meth c s₁ hx hZ hby hml hown hnm hret hlk X0 e0
  have N0 := Fr.nil n0
  refine Win.to s₁ (mkF m 0 #[.val (.int p1)] []) (fun _ k => castTop (by first | (simp [entryFrame, mkF, argsToLocals, Value.category]; done) | rfl) k) ?_
  refine Win.to s₁ (mkF m 1 #[.val (.int p1)] [(.int p1)]) (fun _ k => XS.iloadN X0.here hx rfl (hb hby d7_0) rfl k) ?_
  refine Win.to s₁ (mkF m 3 #[.val (.int p1)] [(.int (55296 : Int32)), (.int p1)]) (fun _ k => X0.ldcInt hx hown (mvT hZ (wk hw 39 rfl)) (g := (mkF m 1 #[.val (.int p1)] [(.int p1)])) rfl (hb hby d7_1) _ k) ?_
  refine Win.to s₁ (mkF m 6 #[.val (.int p1)] []) (fun _ k => XS.icmpNo X0.here hx rfl (hb hby d7_3) rfl (flt (show ¬ (p1 < (55296 : Int32)) from hq.1)).1 k) ?_
  refine Win.to s₁ (mkF m 7 #[.val (.int p1)] [(.int p1)]) (fun _ k => XS.iloadN X0.here hx rfl (hb hby d7_6) rfl k) ?_
  refine Win.to s₁ (mkF m 9 #[.val (.int p1)] [(.int (56319 : Int32)), (.int p1)]) (fun _ k => X0.ldcInt hx hown (mvT hZ (wk hw 80 rfl)) (g := (mkF m 7 #[.val (.int p1)] [(.int p1)])) rfl (hb hby d7_7) _ k) ?_
  refine Win.to s₁ (mkF m 12 #[.val (.int p1)] []) (fun _ k => XS.icmpNo X0.here hx rfl (hb hby d7_9) rfl (flt (show ¬ ((56319 : Int32) < p1) from (own_h1 hq.2))).2.2.1 k) ?_
  refine Win.to s₁ (mkF m 13 #[.val (.int p1)] [(.int (1 : Int32))]) (fun _ k => XS.iconst X0.here hx rfl (hb hby d7_12) k) ?_
  refine Win.to s₁ (mkF m 17 #[.val (.int p1)] [(.int (1 : Int32))]) (fun _ k => XS.goto X0.here hx rfl (pc0 := 13) (pc' := 17) rfl (hb hby d7_13) (by decide) (by decide) k) ?_
  exact Win.retN X0 hx hlk (t := .boolean) hret (by simp) rfl (hb hby d7_17) (by decide) (by decide) (by (try rw [e0]); exact ⟨rfl, N0, rfl⟩)
abbrev R_ll0 : Room := ⟨0, 0, 0, 0⟩
set_option maxRecDepth 65536 in
set_option maxHeartbeats 40000000 in
theorem ll0 (l : Launch) (Z : State) (a0 : Array Value) (hw : ∀ d ∈ tables_1, d.before a0 Z = true) (p1 : Int32) (h0 : Heap) (n0 : Nat) (O0 : Old Z n0 h0) (hq : ¬ lsur p1) :
    MetN l Z (⟨"com/example/usher/usher/lifecycle/ExecutionKeyFitsPinLaw", "isLow", "(C)Z"⟩ : MethodName) method_4_code 1 (some .boolean) R_ll0 [] #[(.int p1)] h0 (fun v h L => v = some (.int (0 : Int32)) ∧ Fr n0 L ∧ h = h0) := by
  refine MetN.walk (plainFor_of_name pn_26) ?_
  intro p e s m below meth c s₁ hx hZ hby hml hown hnm hret hlk X0 e0
  have N0 := Fr.nil n0
  refine Win.to s₁ (mkF m 0 #[.val (.int p1)] []) (fun _ k => castTop (by first | (simp [entryFrame, mkF, argsToLocals, Value.category]; done) | rfl) k) ?_
  refine Win.to s₁ (mkF m 1 #[.val (.int p1)] [(.int p1)]) (fun _ k => XS.iloadN X0.here hx rfl (hb hby d26_0) rfl k) ?_
  refine Win.to s₁ (mkF m 3 #[.val (.int p1)] [(.int (56320 : Int32)), (.int p1)]) (fun _ k => X0.ldcInt hx hown (mvT hZ (wk hw 118 rfl)) (g := (mkF m 1 #[.val (.int p1)] [(.int p1)])) rfl (hb hby d26_1) _ k) ?_
  by_cases hc340 : p1 < (56320 : Int32)
  · refine Win.to s₁ (mkF m 16 #[.val (.int p1)] []) (fun _ k => XS.icmpYes X0.here hx rfl (pc0 := 3) (pc' := 16) rfl (hb hby d26_3) rfl (tlt hc340).1 (by decide) (by decide) k) ?_
    refine Win.to s₁ (mkF m 17 #[.val (.int p1)] [(.int (0 : Int32))]) (fun _ k => XS.iconst X0.here hx rfl (hb hby d26_16) k) ?_
    exact Win.retN X0 hx hlk (t := .boolean) hret (by simp) rfl (hb hby d26_17) (by decide) (by decide) (by (try rw [e0]); exact ⟨rfl, N0, rfl⟩)
  · refine Win.to s₁ (mkF m 6 #[.val (.int p1)] []) (fun _ k => XS.icmpNo X0.here hx rfl (hb hby d26_3) rfl (flt hc340).1 k) ?_
    refine Win.to s₁ (mkF m 7 #[.val (.int p1)] [(.int p1)]) (fun _ k => XS.iloadN X0.here hx rfl (hb hby d26_6) rfl k) ?_
    refine Win.to s₁ (mkF m 9 #[.val (.int p1)] [(.int (57343 : Int32)), (.int p1)]) (fun _ k => X0.ldcInt hx hown (mvT hZ (wk hw 119 rfl)) (g := (mkF m 7 #[.val (.int p1)] [(.int p1)])) rfl (hb hby d26_7) _ k) ?_
    refine Win.to s₁ (mkF m 16 #[.val (.int p1)] []) (fun _ k => XS.icmpYes X0.here hx rfl (pc0 := 9) (pc' := 16) rfl (hb hby d26_9) rfl (tlt (show (57343 : Int32) < p1 from (own_l2 (fun q => hq ⟨hc340, q⟩)))).2.2.1 (by decide) (by decide) k) ?_
    refine Win.to s₁ (mkF m 17 #[.val (.int p1)] [(.int (0 : Int32))]) (fun _ k => XS.iconst X0.here hx rfl (hb hby d26_16) k) ?_
    exact Win.retN X0 hx hlk (t := .boolean) hret (by simp) rfl (hb hby d26_17) (by decide) (by decide) (by (try rw [e0]); exact ⟨rfl, N0, rfl⟩)
abbrev R_ll1 : Room := ⟨0, 0, 0, 0⟩
set_option maxRecDepth 65536 in
set_option maxHeartbeats 40000000 in
theorem ll1 (l : Launch) (Z : State) (a0 : Array Value) (hw : ∀ d ∈ tables_1, d.before a0 Z = true) (p1 : Int32) (h0 : Heap) (n0 : Nat) (O0 : Old Z n0 h0) (hq : lsur p1) :
    MetN l Z (⟨"com/example/usher/usher/lifecycle/ExecutionKeyFitsPinLaw", "isLow", "(C)Z"⟩ : MethodName) method_4_code 1 (some .boolean) R_ll1 [] #[(.int p1)] h0 (fun v h L => v = some (.int (1 : Int32)) ∧ Fr n0 L ∧ h = h0) := by
  refine MetN.walk (plainFor_of_name pn_26) ?_
  intro p e s m below meth c s₁ hx hZ hby hml hown hnm hret hlk X0 e0
  have N0 := Fr.nil n0
  refine Win.to s₁ (mkF m 0 #[.val (.int p1)] []) (fun _ k => castTop (by first | (simp [entryFrame, mkF, argsToLocals, Value.category]; done) | rfl) k) ?_
  refine Win.to s₁ (mkF m 1 #[.val (.int p1)] [(.int p1)]) (fun _ k => XS.iloadN X0.here hx rfl (hb hby d26_0) rfl k) ?_
  refine Win.to s₁ (mkF m 3 #[.val (.int p1)] [(.int (56320 : Int32)), (.int p1)]) (fun _ k => X0.ldcInt hx hown (mvT hZ (wk hw 118 rfl)) (g := (mkF m 1 #[.val (.int p1)] [(.int p1)])) rfl (hb hby d26_1) _ k) ?_
  refine Win.to s₁ (mkF m 6 #[.val (.int p1)] []) (fun _ k => XS.icmpNo X0.here hx rfl (hb hby d26_3) rfl (flt (show ¬ (p1 < (56320 : Int32)) from hq.1)).1 k) ?_
  refine Win.to s₁ (mkF m 7 #[.val (.int p1)] [(.int p1)]) (fun _ k => XS.iloadN X0.here hx rfl (hb hby d26_6) rfl k) ?_
  refine Win.to s₁ (mkF m 9 #[.val (.int p1)] [(.int (57343 : Int32)), (.int p1)]) (fun _ k => X0.ldcInt hx hown (mvT hZ (wk hw 119 rfl)) (g := (mkF m 7 #[.val (.int p1)] [(.int p1)])) rfl (hb hby d26_7) _ k) ?_
  refine Win.to s₁ (mkF m 12 #[.val (.int p1)] []) (fun _ k => XS.icmpNo X0.here hx rfl (hb hby d26_9) rfl (flt (show ¬ ((57343 : Int32) < p1) from (own_l1 hq.2))).2.2.1 k) ?_
  refine Win.to s₁ (mkF m 13 #[.val (.int p1)] [(.int (1 : Int32))]) (fun _ k => XS.iconst X0.here hx rfl (hb hby d26_12) k) ?_
  refine Win.to s₁ (mkF m 17 #[.val (.int p1)] [(.int (1 : Int32))]) (fun _ k => XS.goto X0.here hx rfl (pc0 := 13) (pc' := 17) rfl (hb hby d26_13) (by decide) (by decide) k) ?_
  exact Win.retN X0 hx hlk (t := .boolean) hret (by simp) rfl (hb hby d26_17) (by decide) (by decide) (by (try rw [e0]); exact ⟨rfl, N0, rfl⟩)
abbrev R_ch0 : Room := ⟨0, 0, 0, 0⟩
set_option maxRecDepth 65536 in
set_option maxHeartbeats 40000000 in
theorem ch0 (l : Launch) (Z : State) (a0 : Array Value) (hw : ∀ d ∈ tables_1, d.before a0 Z = true) (p1 : Int32) (h0 : Heap) (n0 : Nat) (O0 : Old Z n0 h0) (hq : ¬ hsur p1) :
    MetN l Z (⟨"java/lang/Character", "isHighSurrogate", "(C)Z"⟩ : MethodName) jdk_89_method_14_code 1 (some .boolean) R_ch0 [] #[(.int p1)] h0 (fun v h L => v = some (.int (0 : Int32)) ∧ Fr n0 L ∧ h = h0) := by
  refine MetN.walk (plainFor_of_name pn_24) ?_
  intro p e s m below meth c s₁ hx hZ hby hml hown hnm hret hlk X0 e0
  have N0 := Fr.nil n0
  refine Win.to s₁ (mkF m 0 #[.val (.int p1)] []) (fun _ k => castTop (by first | (simp [entryFrame, mkF, argsToLocals, Value.category]; done) | rfl) k) ?_
  refine Win.to s₁ (mkF m 1 #[.val (.int p1)] [(.int p1)]) (fun _ k => XS.iloadN X0.here hx rfl (hb hby d24_0) rfl k) ?_
  refine Win.to s₁ (mkF m 3 #[.val (.int p1)] [(.int (55296 : Int32)), (.int p1)]) (fun _ k => X0.ldcInt hx hown (mvT hZ (wk hw 110 rfl)) (g := (mkF m 1 #[.val (.int p1)] [(.int p1)])) rfl (hb hby d24_1) _ k) ?_
  by_cases hc341 : p1 < (55296 : Int32)
  · refine Win.to s₁ (mkF m 16 #[.val (.int p1)] []) (fun _ k => XS.icmpYes X0.here hx rfl (pc0 := 3) (pc' := 16) rfl (hb hby d24_3) rfl (tlt hc341).1 (by decide) (by decide) k) ?_
    refine Win.to s₁ (mkF m 17 #[.val (.int p1)] [(.int (0 : Int32))]) (fun _ k => XS.iconst X0.here hx rfl (hb hby d24_16) k) ?_
    exact Win.retN X0 hx hlk (t := .boolean) hret (by simp) rfl (hb hby d24_17) (by decide) (by decide) (by (try rw [e0]); exact ⟨rfl, N0, rfl⟩)
  · refine Win.to s₁ (mkF m 6 #[.val (.int p1)] []) (fun _ k => XS.icmpNo X0.here hx rfl (hb hby d24_3) rfl (flt hc341).1 k) ?_
    refine Win.to s₁ (mkF m 7 #[.val (.int p1)] [(.int p1)]) (fun _ k => XS.iloadN X0.here hx rfl (hb hby d24_6) rfl k) ?_
    refine Win.to s₁ (mkF m 9 #[.val (.int p1)] [(.int (56320 : Int32)), (.int p1)]) (fun _ k => X0.ldcInt hx hown (mvT hZ (wk hw 111 rfl)) (g := (mkF m 7 #[.val (.int p1)] [(.int p1)])) rfl (hb hby d24_7) _ k) ?_
    refine Win.to s₁ (mkF m 16 #[.val (.int p1)] []) (fun _ k => XS.icmpYes X0.here hx rfl (pc0 := 9) (pc' := 16) rfl (hb hby d24_9) rfl (flt (show ¬ (p1 < (56320 : Int32)) from (fun q => hq ⟨hc341, q⟩))).2.1 (by decide) (by decide) k) ?_
    refine Win.to s₁ (mkF m 17 #[.val (.int p1)] [(.int (0 : Int32))]) (fun _ k => XS.iconst X0.here hx rfl (hb hby d24_16) k) ?_
    exact Win.retN X0 hx hlk (t := .boolean) hret (by simp) rfl (hb hby d24_17) (by decide) (by decide) (by (try rw [e0]); exact ⟨rfl, N0, rfl⟩)
abbrev R_ch1 : Room := ⟨0, 0, 0, 0⟩
set_option maxRecDepth 65536 in
set_option maxHeartbeats 40000000 in
theorem ch1 (l : Launch) (Z : State) (a0 : Array Value) (hw : ∀ d ∈ tables_1, d.before a0 Z = true) (p1 : Int32) (h0 : Heap) (n0 : Nat) (O0 : Old Z n0 h0) (hq : hsur p1) :
    MetN l Z (⟨"java/lang/Character", "isHighSurrogate", "(C)Z"⟩ : MethodName) jdk_89_method_14_code 1 (some .boolean) R_ch1 [] #[(.int p1)] h0 (fun v h L => v = some (.int (1 : Int32)) ∧ Fr n0 L ∧ h = h0) := by
  refine MetN.walk (plainFor_of_name pn_24) ?_
  intro p e s m below meth c s₁ hx hZ hby hml hown hnm hret hlk X0 e0
  have N0 := Fr.nil n0
  refine Win.to s₁ (mkF m 0 #[.val (.int p1)] []) (fun _ k => castTop (by first | (simp [entryFrame, mkF, argsToLocals, Value.category]; done) | rfl) k) ?_
  refine Win.to s₁ (mkF m 1 #[.val (.int p1)] [(.int p1)]) (fun _ k => XS.iloadN X0.here hx rfl (hb hby d24_0) rfl k) ?_
  refine Win.to s₁ (mkF m 3 #[.val (.int p1)] [(.int (55296 : Int32)), (.int p1)]) (fun _ k => X0.ldcInt hx hown (mvT hZ (wk hw 110 rfl)) (g := (mkF m 1 #[.val (.int p1)] [(.int p1)])) rfl (hb hby d24_1) _ k) ?_
  refine Win.to s₁ (mkF m 6 #[.val (.int p1)] []) (fun _ k => XS.icmpNo X0.here hx rfl (hb hby d24_3) rfl (flt (show ¬ (p1 < (55296 : Int32)) from hq.1)).1 k) ?_
  refine Win.to s₁ (mkF m 7 #[.val (.int p1)] [(.int p1)]) (fun _ k => XS.iloadN X0.here hx rfl (hb hby d24_6) rfl k) ?_
  refine Win.to s₁ (mkF m 9 #[.val (.int p1)] [(.int (56320 : Int32)), (.int p1)]) (fun _ k => X0.ldcInt hx hown (mvT hZ (wk hw 111 rfl)) (g := (mkF m 7 #[.val (.int p1)] [(.int p1)])) rfl (hb hby d24_7) _ k) ?_
  refine Win.to s₁ (mkF m 12 #[.val (.int p1)] []) (fun _ k => XS.icmpNo X0.here hx rfl (hb hby d24_9) rfl (tlt (show p1 < (56320 : Int32) from hq.2)).2.1 k) ?_
  refine Win.to s₁ (mkF m 13 #[.val (.int p1)] [(.int (1 : Int32))]) (fun _ k => XS.iconst X0.here hx rfl (hb hby d24_12) k) ?_
  refine Win.to s₁ (mkF m 17 #[.val (.int p1)] [(.int (1 : Int32))]) (fun _ k => XS.goto X0.here hx rfl (pc0 := 13) (pc' := 17) rfl (hb hby d24_13) (by decide) (by decide) k) ?_
  exact Win.retN X0 hx hlk (t := .boolean) hret (by simp) rfl (hb hby d24_17) (by decide) (by decide) (by (try rw [e0]); exact ⟨rfl, N0, rfl⟩)
abbrev R_cl0 : Room := ⟨0, 0, 0, 0⟩
set_option maxRecDepth 65536 in
set_option maxHeartbeats 40000000 in
theorem cl0 (l : Launch) (Z : State) (a0 : Array Value) (hw : ∀ d ∈ tables_1, d.before a0 Z = true) (p1 : Int32) (h0 : Heap) (n0 : Nat) (O0 : Old Z n0 h0) (hq : ¬ lsur p1) :
    MetN l Z (⟨"java/lang/Character", "isLowSurrogate", "(C)Z"⟩ : MethodName) jdk_89_method_15_code 1 (some .boolean) R_cl0 [] #[(.int p1)] h0 (fun v h L => v = some (.int (0 : Int32)) ∧ Fr n0 L ∧ h = h0) := by
  refine MetN.walk (plainFor_of_name pn_25) ?_
  intro p e s m below meth c s₁ hx hZ hby hml hown hnm hret hlk X0 e0
  have N0 := Fr.nil n0
  refine Win.to s₁ (mkF m 0 #[.val (.int p1)] []) (fun _ k => castTop (by first | (simp [entryFrame, mkF, argsToLocals, Value.category]; done) | rfl) k) ?_
  refine Win.to s₁ (mkF m 1 #[.val (.int p1)] [(.int p1)]) (fun _ k => XS.iloadN X0.here hx rfl (hb hby d25_0) rfl k) ?_
  refine Win.to s₁ (mkF m 3 #[.val (.int p1)] [(.int (56320 : Int32)), (.int p1)]) (fun _ k => X0.ldcInt hx hown (mvT hZ (wk hw 111 rfl)) (g := (mkF m 1 #[.val (.int p1)] [(.int p1)])) rfl (hb hby d25_1) _ k) ?_
  by_cases hc342 : p1 < (56320 : Int32)
  · refine Win.to s₁ (mkF m 16 #[.val (.int p1)] []) (fun _ k => XS.icmpYes X0.here hx rfl (pc0 := 3) (pc' := 16) rfl (hb hby d25_3) rfl (tlt hc342).1 (by decide) (by decide) k) ?_
    refine Win.to s₁ (mkF m 17 #[.val (.int p1)] [(.int (0 : Int32))]) (fun _ k => XS.iconst X0.here hx rfl (hb hby d25_16) k) ?_
    exact Win.retN X0 hx hlk (t := .boolean) hret (by simp) rfl (hb hby d25_17) (by decide) (by decide) (by (try rw [e0]); exact ⟨rfl, N0, rfl⟩)
  · refine Win.to s₁ (mkF m 6 #[.val (.int p1)] []) (fun _ k => XS.icmpNo X0.here hx rfl (hb hby d25_3) rfl (flt hc342).1 k) ?_
    refine Win.to s₁ (mkF m 7 #[.val (.int p1)] [(.int p1)]) (fun _ k => XS.iloadN X0.here hx rfl (hb hby d25_6) rfl k) ?_
    refine Win.to s₁ (mkF m 9 #[.val (.int p1)] [(.int (57344 : Int32)), (.int p1)]) (fun _ k => X0.ldcInt hx hown (mvT hZ (wk hw 120 rfl)) (g := (mkF m 7 #[.val (.int p1)] [(.int p1)])) rfl (hb hby d25_7) _ k) ?_
    refine Win.to s₁ (mkF m 16 #[.val (.int p1)] []) (fun _ k => XS.icmpYes X0.here hx rfl (pc0 := 9) (pc' := 16) rfl (hb hby d25_9) rfl (flt (show ¬ (p1 < (57344 : Int32)) from (fun q => hq ⟨hc342, q⟩))).2.1 (by decide) (by decide) k) ?_
    refine Win.to s₁ (mkF m 17 #[.val (.int p1)] [(.int (0 : Int32))]) (fun _ k => XS.iconst X0.here hx rfl (hb hby d25_16) k) ?_
    exact Win.retN X0 hx hlk (t := .boolean) hret (by simp) rfl (hb hby d25_17) (by decide) (by decide) (by (try rw [e0]); exact ⟨rfl, N0, rfl⟩)
abbrev R_cl1 : Room := ⟨0, 0, 0, 0⟩
set_option maxRecDepth 65536 in
set_option maxHeartbeats 40000000 in
theorem cl1 (l : Launch) (Z : State) (a0 : Array Value) (hw : ∀ d ∈ tables_1, d.before a0 Z = true) (p1 : Int32) (h0 : Heap) (n0 : Nat) (O0 : Old Z n0 h0) (hq : lsur p1) :
    MetN l Z (⟨"java/lang/Character", "isLowSurrogate", "(C)Z"⟩ : MethodName) jdk_89_method_15_code 1 (some .boolean) R_cl1 [] #[(.int p1)] h0 (fun v h L => v = some (.int (1 : Int32)) ∧ Fr n0 L ∧ h = h0) := by
  refine MetN.walk (plainFor_of_name pn_25) ?_
  intro p e s m below meth c s₁ hx hZ hby hml hown hnm hret hlk X0 e0
  have N0 := Fr.nil n0
  refine Win.to s₁ (mkF m 0 #[.val (.int p1)] []) (fun _ k => castTop (by first | (simp [entryFrame, mkF, argsToLocals, Value.category]; done) | rfl) k) ?_
  refine Win.to s₁ (mkF m 1 #[.val (.int p1)] [(.int p1)]) (fun _ k => XS.iloadN X0.here hx rfl (hb hby d25_0) rfl k) ?_
  refine Win.to s₁ (mkF m 3 #[.val (.int p1)] [(.int (56320 : Int32)), (.int p1)]) (fun _ k => X0.ldcInt hx hown (mvT hZ (wk hw 111 rfl)) (g := (mkF m 1 #[.val (.int p1)] [(.int p1)])) rfl (hb hby d25_1) _ k) ?_
  refine Win.to s₁ (mkF m 6 #[.val (.int p1)] []) (fun _ k => XS.icmpNo X0.here hx rfl (hb hby d25_3) rfl (flt (show ¬ (p1 < (56320 : Int32)) from hq.1)).1 k) ?_
  refine Win.to s₁ (mkF m 7 #[.val (.int p1)] [(.int p1)]) (fun _ k => XS.iloadN X0.here hx rfl (hb hby d25_6) rfl k) ?_
  refine Win.to s₁ (mkF m 9 #[.val (.int p1)] [(.int (57344 : Int32)), (.int p1)]) (fun _ k => X0.ldcInt hx hown (mvT hZ (wk hw 120 rfl)) (g := (mkF m 7 #[.val (.int p1)] [(.int p1)])) rfl (hb hby d25_7) _ k) ?_
  refine Win.to s₁ (mkF m 12 #[.val (.int p1)] []) (fun _ k => XS.icmpNo X0.here hx rfl (hb hby d25_9) rfl (tlt (show p1 < (57344 : Int32) from hq.2)).2.1 k) ?_
  refine Win.to s₁ (mkF m 13 #[.val (.int p1)] [(.int (1 : Int32))]) (fun _ k => XS.iconst X0.here hx rfl (hb hby d25_12) k) ?_
  refine Win.to s₁ (mkF m 17 #[.val (.int p1)] [(.int (1 : Int32))]) (fun _ k => XS.goto X0.here hx rfl (pc0 := 13) (pc' := 17) rfl (hb hby d25_13) (by decide) (by decide) k) ?_
  exact Win.retN X0 hx hlk (t := .boolean) hret (by simp) rfl (hb hby d25_17) (by decide) (by decide) (by (try rw [e0]); exact ⟨rfl, N0, rfl⟩)
abbrev R_cpc4 : Room := ⟨1, 0, 0, 13⟩
set_option maxRecDepth 65536 in
set_option maxHeartbeats 40000000 in
theorem cpc4 (l : Launch) (Z : State) (a0 : Array Value) (hw : ∀ d ∈ tables_1, d.before a0 Z = true) (t1 : Addr) (k1 : ClassId) (n : Nat) (f : Nat → Int32) (kp : Nat) (h0 : Heap) (n0 : Nat) (O0 : Old Z n0 h0) (Fa : ArF Z h0 t1 k1 .byte (2 * n) (u16 f)) (hrng : ∀ i, i < n → 0 ≤ (f i).toInt ∧ (f i).toInt < 65536) (hpos : 0 < n) (hk : cp f n n 0 = kp) (S_AD : Sta Z Z.heap "java/lang/StringUTF16" "$assertionsDisabled" "Z" (.int (1 : Int32))) (S_HI : Sta Z Z.heap "java/lang/StringUTF16" "HI_BYTE_SHIFT" "I" (.int (0 : Int32))) (S_LO : Sta Z Z.heap "java/lang/StringUTF16" "LO_BYTE_SHIFT" "I" (.int (8 : Int32))) :
    MetN l Z (⟨"java/lang/StringUTF16", "codePointCount", "([BIIZ)I"⟩ : MethodName) jdk_52_method_11_code 6 (some .int) R_cpc4 [] #[(.ref t1), (.int (0 : Int32)), (.int n.toInt32), (.int (0 : Int32))] h0 (fun v h L => v = some (.int (n - kp).toInt32) ∧ Fr n0 L ∧ h = h0) := by
  refine MetN.walk (plainFor_of_name pn_23) ?_
  intro p e s m below meth c s₁ hx hZ hby hml hown hnm hret hlk X0 e0
  have N0 := Fr.nil n0
  refine Win.to s₁ (mkF m 0 #[.val (.ref t1), .val (.int (0 : Int32)), .val (.int n.toInt32), .val (.int (0 : Int32)), .unset, .unset] []) (fun _ k => castTop (by first | (simp [entryFrame, mkF, argsToLocals, Value.category]; done) | rfl) k) ?_
  have hnb := Fa.big
  have hn : n < 2 ^ 31 := by omega
  obtain ⟨T343, X343, e343, st343⟩ := getS2 X0 hx hZ hown (host := "") (Or.inl (wk hw 94 rfl)) Via.refl e0 (Sta.ext O0.2 S_AD) (g := (mkF m 0 #[.val (.ref t1), .val (.int (0 : Int32)), .val (.int n.toInt32), .val (.int (0 : Int32)), .unset, .unset] [])) rfl (hb hby d23_0)
  refine Win.to T343 (mkF m 3 #[.val (.ref t1), .val (.int (0 : Int32)), .val (.int n.toInt32), .val (.int (0 : Int32)), .unset, .unset] [(.int (1 : Int32))]) (fun _ k => st343 _ k) ?_
  refine Win.to T343 (mkF m 19 #[.val (.ref t1), .val (.int (0 : Int32)), .val (.int n.toInt32), .val (.int (0 : Int32)), .unset, .unset] []) (fun _ k => XS.ifYes X343.here hx rfl (pc0 := 3) (pc' := 19) rfl (hb hby d23_3) rfl ((if0 _ _).trans (feq (show ¬ ((1 : Int32) = (0 : Int32)) from by decide)).2) (by decide) (by decide) k) ?_
  refine Win.to T343 (mkF m 20 #[.val (.ref t1), .val (.int (0 : Int32)), .val (.int n.toInt32), .val (.int (0 : Int32)), .unset, .unset] [(.int n.toInt32)]) (fun _ k => XS.iloadN X343.here hx rfl (hb hby d23_19) rfl k) ?_
  refine Win.to T343 (mkF m 21 #[.val (.ref t1), .val (.int (0 : Int32)), .val (.int n.toInt32), .val (.int (0 : Int32)), .unset, .unset] [(.int (0 : Int32)), (.int n.toInt32)]) (fun _ k => XS.iloadN X343.here hx rfl (hb hby d23_20) rfl k) ?_
  refine Win.to T343 (mkF m 22 #[.val (.ref t1), .val (.int (0 : Int32)), .val (.int n.toInt32), .val (.int (0 : Int32)), .unset, .unset] [(.int n.toInt32)]) (fun _ k => XS.isub X343.here hx rfl (hb hby d23_21) rfl (by rw [show (n.toInt32 - (0 : Int32)) = n.toInt32 from Int32.sub_zero _]; exact k)) ?_
  refine Win.to T343 (mkF m 24 #[.val (.ref t1), .val (.int (0 : Int32)), .val (.int n.toInt32), .val (.int (0 : Int32)), .val (.int n.toInt32), .unset] []) (fun _ k => XS.istore X343.here hx rfl (hb hby d23_22) rfl (l' := #[.val (.ref t1), .val (.int (0 : Int32)), .val (.int n.toInt32), .val (.int (0 : Int32)), .val (.int n.toInt32), .unset]) rfl k) ?_
  refine Win.to T343 (mkF m 25 #[.val (.ref t1), .val (.int (0 : Int32)), .val (.int n.toInt32), .val (.int (0 : Int32)), .val (.int n.toInt32), .unset] [(.int (0 : Int32))]) (fun _ k => XS.iloadN X343.here hx rfl (hb hby d23_24) rfl k) ?_
  refine Win.to T343 (mkF m 27 #[.val (.ref t1), .val (.int (0 : Int32)), .val (.int n.toInt32), .val (.int (0 : Int32)), .val (.int n.toInt32), .val (.int (0 : Int32))] []) (fun _ k => XS.istore X343.here hx rfl (hb hby d23_25) rfl (l' := #[.val (.ref t1), .val (.int (0 : Int32)), .val (.int n.toInt32), .val (.int (0 : Int32)), .val (.int n.toInt32), .val (.int (0 : Int32))]) rfl k) ?_
  refine Win.to T343 (mkF m 28 #[.val (.ref t1), .val (.int (0 : Int32)), .val (.int n.toInt32), .val (.int (0 : Int32)), .val (.int n.toInt32), .val (.int (0 : Int32))] [(.int (0 : Int32))]) (fun _ k => XS.iloadN X343.here hx rfl (hb hby d23_27) rfl k) ?_
  refine Win.to T343 (mkF m 44 #[.val (.ref t1), .val (.int (0 : Int32)), .val (.int n.toInt32), .val (.int (0 : Int32)), .val (.int n.toInt32), .val (.int (0 : Int32))] []) (fun _ k => XS.ifYes X343.here hx rfl (pc0 := 28) (pc' := 44) rfl (hb hby d23_28) rfl ((if0 _ _).trans (teq (show (0 : Int32) = (0 : Int32) from by decide)).1) (by decide) (by decide) k) ?_
  have loop : ∀ (q j r : Nat), n ≤ j + q → j ≤ n → r + cp f n q j = kp → r ≤ j → ∀ (T : State) (locs : List Loc) (X : Stand p l e R_cpc4 s m #[(.ref t1), (.int (0 : Int32)), (.int n.toInt32), (.int (0 : Int32))] below meth c T locs 0 0) (Nq : Fr n0 locs) (eT : T.heap = h0), Win p e below s R_cpc4 (fun v h L => v = some (.int (n - kp).toInt32) ∧ Fr n0 L ∧ h = h0) (T.setTop (mkF m 44 #[.val (.ref t1), .val (.int (0 : Int32)), .val (.int n.toInt32), .val (.int (0 : Int32)), .val (.int (n - r).toInt32), .val (.int j.toInt32)] [])) := by
    intro q
    induction q with
    | zero =>
      intro j r hj hjn hr hrj T locs X Nq eT
      have hrk : r = kp := by simpa [cp] using hr
      have hj2 : j < 2 ^ 31 := by omega
      refine Win.to T (mkF m 46 #[.val (.ref t1), .val (.int (0 : Int32)), .val (.int n.toInt32), .val (.int (0 : Int32)), .val (.int (n - r).toInt32), .val (.int j.toInt32)] [(.int j.toInt32)]) (fun _ k => XS.iload X.here hx rfl (hb hby d23_44) rfl k) ?_
      refine Win.to T (mkF m 47 #[.val (.ref t1), .val (.int (0 : Int32)), .val (.int n.toInt32), .val (.int (0 : Int32)), .val (.int (n - r).toInt32), .val (.int j.toInt32)] [(.int n.toInt32), (.int j.toInt32)]) (fun _ k => XS.iloadN X.here hx rfl (hb hby d23_46) rfl k) ?_
      refine Win.to T (mkF m 48 #[.val (.ref t1), .val (.int (0 : Int32)), .val (.int n.toInt32), .val (.int (0 : Int32)), .val (.int (n - r).toInt32), .val (.int j.toInt32)] [(.int (1 : Int32)), (.int n.toInt32), (.int j.toInt32)]) (fun _ k => XS.iconst X.here hx rfl (hb hby d23_47) k) ?_
      refine Win.to T (mkF m 49 #[.val (.ref t1), .val (.int (0 : Int32)), .val (.int n.toInt32), .val (.int (0 : Int32)), .val (.int (n - r).toInt32), .val (.int j.toInt32)] [(.int (n - 1).toInt32), (.int j.toInt32)]) (fun _ k => XS.isub X.here hx rfl (hb hby d23_48) rfl (by rw [show (n.toInt32 - (1 : Int32)) = (n - 1).toInt32 from own_sub (b := 1) (by omega) hn hpos]; exact k)) ?_
      refine Win.to T (mkF m 88 #[.val (.ref t1), .val (.int (0 : Int32)), .val (.int n.toInt32), .val (.int (0 : Int32)), .val (.int (n - r).toInt32), .val (.int j.toInt32)] []) (fun _ k => XS.icmpYes X.here hx rfl (pc0 := 49) (pc' := 88) rfl (hb hby d23_49) rfl (flt (show ¬ (j.toInt32 < (n - 1).toInt32) from (fun z => absurd ((own_lt hj2 (by omega)).mp z) (by omega)))).2.1 (by decide) (by decide) k) ?_
      refine Win.to T (mkF m 90 #[.val (.ref t1), .val (.int (0 : Int32)), .val (.int n.toInt32), .val (.int (0 : Int32)), .val (.int (n - r).toInt32), .val (.int j.toInt32)] [(.int (n - r).toInt32)]) (fun _ k => XS.iload X.here hx rfl (hb hby d23_88) rfl k) ?_
      exact Win.retI X hx hlk hret (hb hby d23_90) (by decide) (by decide) (by (try rw [eT]); exact ⟨(by rw [hrk]), Nq, rfl⟩)
    | succ q ih =>
      intro j r hj hjn hr hrj T locs X Nq eT
      have hj2 : j < 2 ^ 31 := by omega
      by_cases hlt : j + 1 < n
      · have hj1 : j < n := by omega
        refine Win.to T (mkF m 46 #[.val (.ref t1), .val (.int (0 : Int32)), .val (.int n.toInt32), .val (.int (0 : Int32)), .val (.int (n - r).toInt32), .val (.int j.toInt32)] [(.int j.toInt32)]) (fun _ k => XS.iload X.here hx rfl (hb hby d23_44) rfl k) ?_
        refine Win.to T (mkF m 47 #[.val (.ref t1), .val (.int (0 : Int32)), .val (.int n.toInt32), .val (.int (0 : Int32)), .val (.int (n - r).toInt32), .val (.int j.toInt32)] [(.int n.toInt32), (.int j.toInt32)]) (fun _ k => XS.iloadN X.here hx rfl (hb hby d23_46) rfl k) ?_
        refine Win.to T (mkF m 48 #[.val (.ref t1), .val (.int (0 : Int32)), .val (.int n.toInt32), .val (.int (0 : Int32)), .val (.int (n - r).toInt32), .val (.int j.toInt32)] [(.int (1 : Int32)), (.int n.toInt32), (.int j.toInt32)]) (fun _ k => XS.iconst X.here hx rfl (hb hby d23_47) k) ?_
        refine Win.to T (mkF m 49 #[.val (.ref t1), .val (.int (0 : Int32)), .val (.int n.toInt32), .val (.int (0 : Int32)), .val (.int (n - r).toInt32), .val (.int j.toInt32)] [(.int (n - 1).toInt32), (.int j.toInt32)]) (fun _ k => XS.isub X.here hx rfl (hb hby d23_48) rfl (by rw [show (n.toInt32 - (1 : Int32)) = (n - 1).toInt32 from own_sub (b := 1) (by omega) hn hpos]; exact k)) ?_
        refine Win.to T (mkF m 52 #[.val (.ref t1), .val (.int (0 : Int32)), .val (.int n.toInt32), .val (.int (0 : Int32)), .val (.int (n - r).toInt32), .val (.int j.toInt32)] []) (fun _ k => XS.icmpNo X.here hx rfl (hb hby d23_49) rfl (tlt (show j.toInt32 < (n - 1).toInt32 from ((own_lt hj2 (by omega)).mpr (by omega)))).2.1 k) ?_
        refine Win.to T (mkF m 53 #[.val (.ref t1), .val (.int (0 : Int32)), .val (.int n.toInt32), .val (.int (0 : Int32)), .val (.int (n - r).toInt32), .val (.int j.toInt32)] [(.ref t1)]) (fun _ k => XS.aloadN X.here hx rfl (hb hby d23_52) rfl rfl k) ?_
        refine Win.to T (mkF m 55 #[.val (.ref t1), .val (.int (0 : Int32)), .val (.int n.toInt32), .val (.int (0 : Int32)), .val (.int (n - r).toInt32), .val (.int j.toInt32)] [(.int j.toInt32), (.ref t1)]) (fun _ k => XS.iload X.here hx rfl (hb hby d23_53) rfl k) ?_
        refine Win.to T (mkF m 58 #[.val (.ref t1), .val (.int (0 : Int32)), .val (.int n.toInt32), .val (.int (0 : Int32)), .val (.int (n - r).toInt32), .val (.int (j.toInt32 + (1 : Int32)))] [(.int j.toInt32), (.ref t1)]) (fun _ k => XS.iinc X.here hx rfl (hb hby d23_55) rfl (l' := #[.val (.ref t1), .val (.int (0 : Int32)), .val (.int n.toInt32), .val (.int (0 : Int32)), .val (.int (n - r).toInt32), .val (.int (j.toInt32 + (1 : Int32)))]) rfl k) ?_
        obtain ⟨T344, h344, v344, L344, X344, e344, ⟨rfl, N344q, r344_0⟩, st344⟩ := N.static X hx hZ (y := (⟨"java/lang/StringUTF16", "getChar", "([BI)C"⟩ : MethodName)) hown (wk hw 97 rfl) (wk hw 98 rfl) (wk hw 43 rfl) (wk hw 99 rfl) (by decide) (getCh l Z a0 hw t1 k1 (2 * n) (u16 f) j (f j) h0 n0 O0 Fa (by omega) (own_gcu (hrng _ hj1).1 (hrng _ hj1).2) S_AD S_HI S_LO) eT (g := (mkF m 58 #[.val (.ref t1), .val (.int (0 : Int32)), .val (.int n.toInt32), .val (.int (0 : Int32)), .val (.int (n - r).toInt32), .val (.int (j.toInt32 + (1 : Int32)))] [(.int j.toInt32), (.ref t1)])) rfl (by rw [hml]; rfl) (argsL := [(.ref t1), (.int j.toInt32)]) (rest := []) rfl (lenOf pd___BI_C rfl) rfl (W := 0) (by show 2 * 0 + _ ≤ _; exact Nat.le_of_eq rfl) (hb hby d23_58) (by decide) (by decide) (by decide) (by decide)
        have N345 := Fr.app Nq N344q
        have e344 := e344.trans r344_0
        refine Win.to T344 (mkF m 61 #[.val (.ref t1), .val (.int (0 : Int32)), .val (.int n.toInt32), .val (.int (0 : Int32)), .val (.int (n - r).toInt32), .val (.int (j.toInt32 + (1 : Int32)))] [(.int (f j))]) (fun _ k => st344 _ k) ?_
        by_cases hhs : hsur (f j)
        · obtain ⟨T346, h346, v346, L346, X346, e346, ⟨rfl, N346q, r346_0⟩, st346⟩ := N.static X344 hx hZ (y := (⟨"java/lang/Character", "isHighSurrogate", "(C)Z"⟩ : MethodName)) hown (wk hw 106 rfl) (wk hw 107 rfl) (wk hw 108 rfl) (wk hw 109 rfl) (by decide) (ch1 l Z a0 hw (f j) h0 n0 O0 hhs) e344 (g := (mkF m 61 #[.val (.ref t1), .val (.int (0 : Int32)), .val (.int n.toInt32), .val (.int (0 : Int32)), .val (.int (n - r).toInt32), .val (.int (j.toInt32 + (1 : Int32)))] [(.int (f j))])) rfl (by rw [hml]; rfl) (argsL := [(.int (f j))]) (rest := []) rfl (lenOf pd__C_Z rfl) rfl (W := 0) (by show 2 * 0 + _ ≤ _; exact Nat.le_of_eq rfl) (hb hby d23_61) (by decide) (by decide) (by decide) (by decide)
          have N347 := Fr.app N345 N346q
          have e346 := e346.trans r346_0
          refine Win.to T346 (mkF m 64 #[.val (.ref t1), .val (.int (0 : Int32)), .val (.int n.toInt32), .val (.int (0 : Int32)), .val (.int (n - r).toInt32), .val (.int (j.toInt32 + (1 : Int32)))] [(.int (1 : Int32))]) (fun _ k => st346 _ k) ?_
          refine Win.to T346 (mkF m 67 #[.val (.ref t1), .val (.int (0 : Int32)), .val (.int n.toInt32), .val (.int (0 : Int32)), .val (.int (n - r).toInt32), .val (.int (j.toInt32 + (1 : Int32)))] []) (fun _ k => XS.ifNo X346.here hx rfl (hb hby d23_64) rfl ((if0 _ _).trans (feq (show ¬ ((1 : Int32) = (0 : Int32)) from by decide)).1) k) ?_
          rw [own_succ j]
          refine Win.to T346 (mkF m 68 #[.val (.ref t1), .val (.int (0 : Int32)), .val (.int n.toInt32), .val (.int (0 : Int32)), .val (.int (n - r).toInt32), .val (.int (j + 1).toInt32)] [(.ref t1)]) (fun _ k => XS.aloadN X346.here hx rfl (hb hby d23_67) rfl rfl k) ?_
          refine Win.to T346 (mkF m 70 #[.val (.ref t1), .val (.int (0 : Int32)), .val (.int n.toInt32), .val (.int (0 : Int32)), .val (.int (n - r).toInt32), .val (.int (j + 1).toInt32)] [(.int (j + 1).toInt32), (.ref t1)]) (fun _ k => XS.iload X346.here hx rfl (hb hby d23_68) rfl k) ?_
          obtain ⟨T348, h348, v348, L348, X348, e348, ⟨rfl, N348q, r348_0⟩, st348⟩ := N.static X346 hx hZ (y := (⟨"java/lang/StringUTF16", "getChar", "([BI)C"⟩ : MethodName)) hown (wk hw 97 rfl) (wk hw 98 rfl) (wk hw 43 rfl) (wk hw 99 rfl) (by decide) (getCh l Z a0 hw t1 k1 (2 * n) (u16 f) (j + 1) (f (j + 1)) h0 n0 O0 Fa (by omega) (own_gcu (hrng _ hlt).1 (hrng _ hlt).2) S_AD S_HI S_LO) e346 (g := (mkF m 70 #[.val (.ref t1), .val (.int (0 : Int32)), .val (.int n.toInt32), .val (.int (0 : Int32)), .val (.int (n - r).toInt32), .val (.int (j + 1).toInt32)] [(.int (j + 1).toInt32), (.ref t1)])) rfl (by rw [hml]; rfl) (argsL := [(.ref t1), (.int (j + 1).toInt32)]) (rest := []) rfl (lenOf pd___BI_C rfl) rfl (W := 0) (by show 2 * 0 + _ ≤ _; exact Nat.le_of_eq rfl) (hb hby d23_70) (by decide) (by decide) (by decide) (by decide)
          have N349 := Fr.app N347 N348q
          have e348 := e348.trans r348_0
          refine Win.to T348 (mkF m 73 #[.val (.ref t1), .val (.int (0 : Int32)), .val (.int n.toInt32), .val (.int (0 : Int32)), .val (.int (n - r).toInt32), .val (.int (j + 1).toInt32)] [(.int (f (j + 1)))]) (fun _ k => st348 _ k) ?_
          by_cases hls : lsur (f (j + 1))
          · obtain ⟨T350, h350, v350, L350, X350, e350, ⟨rfl, N350q, r350_0⟩, st350⟩ := N.static X348 hx hZ (y := (⟨"java/lang/Character", "isLowSurrogate", "(C)Z"⟩ : MethodName)) hown (wk hw 112 rfl) (wk hw 113 rfl) (wk hw 108 rfl) (wk hw 114 rfl) (by decide) (cl1 l Z a0 hw (f (j + 1)) h0 n0 O0 hls) e348 (g := (mkF m 73 #[.val (.ref t1), .val (.int (0 : Int32)), .val (.int n.toInt32), .val (.int (0 : Int32)), .val (.int (n - r).toInt32), .val (.int (j + 1).toInt32)] [(.int (f (j + 1)))])) rfl (by rw [hml]; rfl) (argsL := [(.int (f (j + 1)))]) (rest := []) rfl (lenOf pd__C_Z rfl) rfl (W := 0) (by show 2 * 0 + _ ≤ _; exact Nat.le_of_eq rfl) (hb hby d23_73) (by decide) (by decide) (by decide) (by decide)
            have N351 := Fr.app N349 N350q
            have e350 := e350.trans r350_0
            refine Win.to T350 (mkF m 76 #[.val (.ref t1), .val (.int (0 : Int32)), .val (.int n.toInt32), .val (.int (0 : Int32)), .val (.int (n - r).toInt32), .val (.int (j + 1).toInt32)] [(.int (1 : Int32))]) (fun _ k => st350 _ k) ?_
            refine Win.to T350 (mkF m 79 #[.val (.ref t1), .val (.int (0 : Int32)), .val (.int n.toInt32), .val (.int (0 : Int32)), .val (.int (n - r).toInt32), .val (.int (j + 1).toInt32)] []) (fun _ k => XS.ifNo X350.here hx rfl (hb hby d23_76) rfl ((if0 _ _).trans (feq (show ¬ ((1 : Int32) = (0 : Int32)) from by decide)).1) k) ?_
            refine Win.to T350 (mkF m 82 #[.val (.ref t1), .val (.int (0 : Int32)), .val (.int n.toInt32), .val (.int (0 : Int32)), .val (.int ((n - r).toInt32 + (-1 : Int32))), .val (.int (j + 1).toInt32)] []) (fun _ k => XS.iinc X350.here hx rfl (hb hby d23_79) rfl (l' := #[.val (.ref t1), .val (.int (0 : Int32)), .val (.int n.toInt32), .val (.int (0 : Int32)), .val (.int ((n - r).toInt32 + (-1 : Int32))), .val (.int (j + 1).toInt32)]) rfl k) ?_
            refine Win.to T350 (mkF m 85 #[.val (.ref t1), .val (.int (0 : Int32)), .val (.int n.toInt32), .val (.int (0 : Int32)), .val (.int ((n - r).toInt32 + (-1 : Int32))), .val (.int ((j + 1).toInt32 + (1 : Int32)))] []) (fun _ k => XS.iinc X350.here hx rfl (hb hby d23_82) rfl (l' := #[.val (.ref t1), .val (.int (0 : Int32)), .val (.int n.toInt32), .val (.int (0 : Int32)), .val (.int ((n - r).toInt32 + (-1 : Int32))), .val (.int ((j + 1).toInt32 + (1 : Int32)))]) rfl k) ?_
            refine Win.to T350 (mkF m 44 #[.val (.ref t1), .val (.int (0 : Int32)), .val (.int n.toInt32), .val (.int (0 : Int32)), .val (.int ((n - r).toInt32 + (-1 : Int32))), .val (.int ((j + 1).toInt32 + (1 : Int32)))] []) (fun _ k => XS.goto X350.here hx rfl (pc0 := 85) (pc' := 44) rfl (hb hby d23_85) (by decide) (by decide) k) ?_
            rw [cp_yes hlt ⟨hhs, hls⟩] at hr
            have hnr : 0 < n - r := by omega
            rw [own_succ (j + 1), own_dec1 hnr (by omega), show n - r - 1 = n - (r + 1) by omega]
            exact ih (j + 2) (r + 1) (by omega) (by omega) (by omega) (by omega) T350 _ X350 N351 e350
          · obtain ⟨T352, h352, v352, L352, X352, e352, ⟨rfl, N352q, r352_0⟩, st352⟩ := N.static X348 hx hZ (y := (⟨"java/lang/Character", "isLowSurrogate", "(C)Z"⟩ : MethodName)) hown (wk hw 112 rfl) (wk hw 113 rfl) (wk hw 108 rfl) (wk hw 114 rfl) (by decide) (cl0 l Z a0 hw (f (j + 1)) h0 n0 O0 hls) e348 (g := (mkF m 73 #[.val (.ref t1), .val (.int (0 : Int32)), .val (.int n.toInt32), .val (.int (0 : Int32)), .val (.int (n - r).toInt32), .val (.int (j + 1).toInt32)] [(.int (f (j + 1)))])) rfl (by rw [hml]; rfl) (argsL := [(.int (f (j + 1)))]) (rest := []) rfl (lenOf pd__C_Z rfl) rfl (W := 0) (by show 2 * 0 + _ ≤ _; exact Nat.le_of_eq rfl) (hb hby d23_73) (by decide) (by decide) (by decide) (by decide)
            have N353 := Fr.app N349 N352q
            have e352 := e352.trans r352_0
            refine Win.to T352 (mkF m 76 #[.val (.ref t1), .val (.int (0 : Int32)), .val (.int n.toInt32), .val (.int (0 : Int32)), .val (.int (n - r).toInt32), .val (.int (j + 1).toInt32)] [(.int (0 : Int32))]) (fun _ k => st352 _ k) ?_
            refine Win.to T352 (mkF m 44 #[.val (.ref t1), .val (.int (0 : Int32)), .val (.int n.toInt32), .val (.int (0 : Int32)), .val (.int (n - r).toInt32), .val (.int (j + 1).toInt32)] []) (fun _ k => XS.ifYes X352.here hx rfl (pc0 := 76) (pc' := 44) rfl (hb hby d23_76) rfl ((if0 _ _).trans (teq (show (0 : Int32) = (0 : Int32) from by decide)).1) (by decide) (by decide) k) ?_
            rw [cp_no (fun q => hls q.2)] at hr
            exact ih (j + 1) r (by omega) (by omega) hr (by omega) T352 _ X352 N353 e352
        · obtain ⟨T354, h354, v354, L354, X354, e354, ⟨rfl, N354q, r354_0⟩, st354⟩ := N.static X344 hx hZ (y := (⟨"java/lang/Character", "isHighSurrogate", "(C)Z"⟩ : MethodName)) hown (wk hw 106 rfl) (wk hw 107 rfl) (wk hw 108 rfl) (wk hw 109 rfl) (by decide) (ch0 l Z a0 hw (f j) h0 n0 O0 hhs) e344 (g := (mkF m 61 #[.val (.ref t1), .val (.int (0 : Int32)), .val (.int n.toInt32), .val (.int (0 : Int32)), .val (.int (n - r).toInt32), .val (.int (j.toInt32 + (1 : Int32)))] [(.int (f j))])) rfl (by rw [hml]; rfl) (argsL := [(.int (f j))]) (rest := []) rfl (lenOf pd__C_Z rfl) rfl (W := 0) (by show 2 * 0 + _ ≤ _; exact Nat.le_of_eq rfl) (hb hby d23_61) (by decide) (by decide) (by decide) (by decide)
          have N355 := Fr.app N345 N354q
          have e354 := e354.trans r354_0
          refine Win.to T354 (mkF m 64 #[.val (.ref t1), .val (.int (0 : Int32)), .val (.int n.toInt32), .val (.int (0 : Int32)), .val (.int (n - r).toInt32), .val (.int (j.toInt32 + (1 : Int32)))] [(.int (0 : Int32))]) (fun _ k => st354 _ k) ?_
          refine Win.to T354 (mkF m 44 #[.val (.ref t1), .val (.int (0 : Int32)), .val (.int n.toInt32), .val (.int (0 : Int32)), .val (.int (n - r).toInt32), .val (.int (j.toInt32 + (1 : Int32)))] []) (fun _ k => XS.ifYes X354.here hx rfl (pc0 := 64) (pc' := 44) rfl (hb hby d23_64) rfl ((if0 _ _).trans (teq (show (0 : Int32) = (0 : Int32) from by decide)).1) (by decide) (by decide) k) ?_
          rw [cp_no (fun q => hhs q.1)] at hr
          rw [own_succ j]
          exact ih (j + 1) r (by omega) (by omega) hr (by omega) T354 _ X354 N355 e354
      · rw [cp_end hlt] at hr
        have hrk : r = kp := by omega
        refine Win.to T (mkF m 46 #[.val (.ref t1), .val (.int (0 : Int32)), .val (.int n.toInt32), .val (.int (0 : Int32)), .val (.int (n - r).toInt32), .val (.int j.toInt32)] [(.int j.toInt32)]) (fun _ k => XS.iload X.here hx rfl (hb hby d23_44) rfl k) ?_
        refine Win.to T (mkF m 47 #[.val (.ref t1), .val (.int (0 : Int32)), .val (.int n.toInt32), .val (.int (0 : Int32)), .val (.int (n - r).toInt32), .val (.int j.toInt32)] [(.int n.toInt32), (.int j.toInt32)]) (fun _ k => XS.iloadN X.here hx rfl (hb hby d23_46) rfl k) ?_
        refine Win.to T (mkF m 48 #[.val (.ref t1), .val (.int (0 : Int32)), .val (.int n.toInt32), .val (.int (0 : Int32)), .val (.int (n - r).toInt32), .val (.int j.toInt32)] [(.int (1 : Int32)), (.int n.toInt32), (.int j.toInt32)]) (fun _ k => XS.iconst X.here hx rfl (hb hby d23_47) k) ?_
        refine Win.to T (mkF m 49 #[.val (.ref t1), .val (.int (0 : Int32)), .val (.int n.toInt32), .val (.int (0 : Int32)), .val (.int (n - r).toInt32), .val (.int j.toInt32)] [(.int (n - 1).toInt32), (.int j.toInt32)]) (fun _ k => XS.isub X.here hx rfl (hb hby d23_48) rfl (by rw [show (n.toInt32 - (1 : Int32)) = (n - 1).toInt32 from own_sub (b := 1) (by omega) hn hpos]; exact k)) ?_
        refine Win.to T (mkF m 88 #[.val (.ref t1), .val (.int (0 : Int32)), .val (.int n.toInt32), .val (.int (0 : Int32)), .val (.int (n - r).toInt32), .val (.int j.toInt32)] []) (fun _ k => XS.icmpYes X.here hx rfl (pc0 := 49) (pc' := 88) rfl (hb hby d23_49) rfl (flt (show ¬ (j.toInt32 < (n - 1).toInt32) from (fun z => absurd ((own_lt hj2 (by omega)).mp z) (by omega)))).2.1 (by decide) (by decide) k) ?_
        refine Win.to T (mkF m 90 #[.val (.ref t1), .val (.int (0 : Int32)), .val (.int n.toInt32), .val (.int (0 : Int32)), .val (.int (n - r).toInt32), .val (.int j.toInt32)] [(.int (n - r).toInt32)]) (fun _ k => XS.iload X.here hx rfl (hb hby d23_88) rfl k) ?_
        exact Win.retI X hx hlk hret (hb hby d23_90) (by decide) (by decide) (by (try rw [eT]); exact ⟨(by rw [hrk]), Nq, rfl⟩)
  exact loop n 0 0 (by omega) (by omega) (by omega) (Nat.le_refl _) T343 _ X343 N0 e343
abbrev R_cpc3 : Room := ⟨2, 0, 0, 30⟩
set_option maxRecDepth 65536 in
set_option maxHeartbeats 40000000 in
theorem cpc3 (l : Launch) (Z : State) (a0 : Array Value) (hw : ∀ d ∈ tables_1, d.before a0 Z = true) (t1 : Addr) (k1 : ClassId) (n : Nat) (f : Nat → Int32) (kp : Nat) (h0 : Heap) (n0 : Nat) (O0 : Old Z n0 h0) (Fa : ArF Z h0 t1 k1 .byte (2 * n) (u16 f)) (hrng : ∀ i, i < n → 0 ≤ (f i).toInt ∧ (f i).toInt < 65536) (hpos : 0 < n) (hk : cp f n n 0 = kp) (S_AD : Sta Z Z.heap "java/lang/StringUTF16" "$assertionsDisabled" "Z" (.int (1 : Int32))) (S_HI : Sta Z Z.heap "java/lang/StringUTF16" "HI_BYTE_SHIFT" "I" (.int (0 : Int32))) (S_LO : Sta Z Z.heap "java/lang/StringUTF16" "LO_BYTE_SHIFT" "I" (.int (8 : Int32))) :
    MetN l Z (⟨"java/lang/StringUTF16", "codePointCount", "([BII)I"⟩ : MethodName) jdk_52_method_12_code 3 (some .int) R_cpc3 [] #[(.ref t1), (.int (0 : Int32)), (.int n.toInt32)] h0 (fun v h L => v = some (.int (n - kp).toInt32) ∧ Fr n0 L ∧ h = h0) := by
  refine MetN.walk (plainFor_of_name pn_22) ?_
  intro p e s m below meth c s₁ hx hZ hby hml hown hnm hret hlk X0 e0
  have N0 := Fr.nil n0
  refine Win.to s₁ (mkF m 0 #[.val (.ref t1), .val (.int (0 : Int32)), .val (.int n.toInt32)] []) (fun _ k => castTop (by first | (simp [entryFrame, mkF, argsToLocals, Value.category]; done) | rfl) k) ?_
  refine Win.to s₁ (mkF m 1 #[.val (.ref t1), .val (.int (0 : Int32)), .val (.int n.toInt32)] [(.ref t1)]) (fun _ k => XS.aloadN X0.here hx rfl (hb hby d22_0) rfl rfl k) ?_
  refine Win.to s₁ (mkF m 2 #[.val (.ref t1), .val (.int (0 : Int32)), .val (.int n.toInt32)] [(.int (0 : Int32)), (.ref t1)]) (fun _ k => XS.iloadN X0.here hx rfl (hb hby d22_1) rfl k) ?_
  refine Win.to s₁ (mkF m 3 #[.val (.ref t1), .val (.int (0 : Int32)), .val (.int n.toInt32)] [(.int n.toInt32), (.int (0 : Int32)), (.ref t1)]) (fun _ k => XS.iloadN X0.here hx rfl (hb hby d22_2) rfl k) ?_
  refine Win.to s₁ (mkF m 4 #[.val (.ref t1), .val (.int (0 : Int32)), .val (.int n.toInt32)] [(.int (0 : Int32)), (.int n.toInt32), (.int (0 : Int32)), (.ref t1)]) (fun _ k => XS.iconst X0.here hx rfl (hb hby d22_3) k) ?_
  obtain ⟨T356, h356, v356, L356, X356, e356, ⟨rfl, N356q, r356_0⟩, st356⟩ := N.static X0 hx hZ (y := (⟨"java/lang/StringUTF16", "codePointCount", "([BIIZ)I"⟩ : MethodName)) hown (wk hw 103 rfl) (wk hw 104 rfl) (wk hw 43 rfl) (wk hw 105 rfl) (by decide) (cpc4 l Z a0 hw t1 k1 n f kp h0 n0 O0 Fa hrng hpos hk S_AD S_HI S_LO) e0 (g := (mkF m 4 #[.val (.ref t1), .val (.int (0 : Int32)), .val (.int n.toInt32)] [(.int (0 : Int32)), (.int n.toInt32), (.int (0 : Int32)), (.ref t1)])) rfl (by rw [hml]; rfl) (argsL := [(.ref t1), (.int (0 : Int32)), (.int n.toInt32), (.int (0 : Int32))]) (rest := []) rfl (lenOf pd___BIIZ_I rfl) rfl (W := 0) (by show 2 * 0 + _ ≤ _; exact Nat.le_of_eq rfl) (hb hby d22_4) (by decide) (by decide) (by decide) (by decide)
  have N357 := Fr.app N0 N356q
  have e356 := e356.trans r356_0
  refine Win.to T356 (mkF m 7 #[.val (.ref t1), .val (.int (0 : Int32)), .val (.int n.toInt32)] [(.int (n - kp).toInt32)]) (fun _ k => st356 _ k) ?_
  exact Win.retI X356 hx hlk hret (hb hby d22_7) (by decide) (by decide) (by (try rw [e356]); exact ⟨rfl, N357, rfl⟩)
abbrev R_cpcU : Room := ⟨3, 0, 0, 44⟩
set_option maxRecDepth 65536 in
set_option maxHeartbeats 40000000 in
theorem cpcU (l : Launch) (Z : State) (a0 : Array Value) (hw : ∀ d ∈ tables_1, d.before a0 Z = true) (a1 : Addr) (t1 : Addr) (k1 : ClassId) (n : Nat) (f : Nat → Int32) (kp : Nat) (cs : Int32) (h0 : Heap) (n0 : Nat) (O0 : Old Z n0 h0) (E1 : Exa Z h0 a1 "java/lang/String") (F1 : Fld Z h0 a1 "java/lang/String" "value" "[B" (.ref t1)) (F2 : Fld Z h0 a1 "java/lang/String" "coder" "B" (.int (1 : Int32))) (Fa : ArF Z h0 t1 k1 .byte (2 * n) (u16 f)) (hrng : ∀ i, i < n → 0 ≤ (f i).toInt ∧ (f i).toInt < 65536) (hpos : 0 < n) (hk : cp f n n 0 = kp) (S_AD : Sta Z Z.heap "java/lang/StringUTF16" "$assertionsDisabled" "Z" (.int (1 : Int32))) (S_HI : Sta Z Z.heap "java/lang/StringUTF16" "HI_BYTE_SHIFT" "I" (.int (0 : Int32))) (S_LO : Sta Z Z.heap "java/lang/StringUTF16" "LO_BYTE_SHIFT" "I" (.int (8 : Int32))) (S_CS : Sta Z Z.heap "java/lang/String" "COMPACT_STRINGS" "Z" (.int cs)) (hcs : ¬ (cs = (0 : Int32))) :
    MetN l Z (⟨"java/lang/String", "codePointCount", "(II)I"⟩ : MethodName) jdk_42_method_59_code 3 (some .int) R_cpcU [] #[(.ref a1), (.int (0 : Int32)), (.int n.toInt32)] h0 (fun v h L => v = some (.int (n - kp).toInt32) ∧ Fr n0 L ∧ h = h0) := by
  refine MetN.walk (plainFor_of_name pn_13) ?_
  intro p e s m below meth c s₁ hx hZ hby hml hown hnm hret hlk X0 e0
  have N0 := Fr.nil n0
  refine Win.to s₁ (mkF m 0 #[.val (.ref a1), .val (.int (0 : Int32)), .val (.int n.toInt32)] []) (fun _ k => castTop (by first | (simp [entryFrame, mkF, argsToLocals, Value.category]; done) | rfl) k) ?_
  have hnb := Fa.big
  have hn : n < 2 ^ 31 := by omega
  refine Win.to s₁ (mkF m 1 #[.val (.ref a1), .val (.int (0 : Int32)), .val (.int n.toInt32)] [(.int (0 : Int32))]) (fun _ k => XS.iloadN X0.here hx rfl (hb hby d13_0) rfl k) ?_
  refine Win.to s₁ (mkF m 2 #[.val (.ref a1), .val (.int (0 : Int32)), .val (.int n.toInt32)] [(.int n.toInt32), (.int (0 : Int32))]) (fun _ k => XS.iloadN X0.here hx rfl (hb hby d13_1) rfl k) ?_
  refine Win.to s₁ (mkF m 3 #[.val (.ref a1), .val (.int (0 : Int32)), .val (.int n.toInt32)] [(.ref a1), (.int n.toInt32), (.int (0 : Int32))]) (fun _ k => XS.aloadN X0.here hx rfl (hb hby d13_2) rfl rfl k) ?_
  obtain ⟨T358, h358, v358, L358, X358, e358, ⟨rfl, N358q, r358_0⟩, st358⟩ := N.virtual X0 hx hZ (y := (⟨"java/lang/String", "length", "()I"⟩ : MethodName)) (z := (⟨"java/lang/String", "length", "()I"⟩ : MethodName)) hown (wk hw 66 rfl) (wk hw 52 rfl) (notFace_of_selects (args := #[]) (mvT hZ (wk hw 54 rfl))) (wk hw 54 rfl) (wk hw 53 rfl) (wk hw 8 rfl) (wk hw 55 rfl) (by decide) (strLen1 l Z a0 hw a1 t1 k1 n f cs h0 n0 O0 E1 F1 F2 Fa S_CS hcs) e0 E1 (g := (mkF m 3 #[.val (.ref a1), .val (.int (0 : Int32)), .val (.int n.toInt32)] [(.ref a1), (.int n.toInt32), (.int (0 : Int32))])) rfl (by rw [hml]; rfl) (argsL := []) (rest := [(.int n.toInt32), (.int (0 : Int32))]) rfl (lenOf pd___I rfl) rfl (W := 2) (by show 2 * 0 + _ ≤ _; exact Nat.le_of_eq rfl) (hb hby d13_3) (by decide) (by decide) (by decide) (by decide)
  have N359 := Fr.app N0 N358q
  have e358 := e358.trans r358_0
  refine Win.to T358 (mkF m 6 #[.val (.ref a1), .val (.int (0 : Int32)), .val (.int n.toInt32)] [(.int n.toInt32), (.int n.toInt32), (.int (0 : Int32))]) (fun _ k => st358 _ k) ?_
  obtain ⟨T360, h360, v360, L360, X360, e360, ⟨rfl, N360q, r360_0⟩, st360⟩ := N.static X358 hx hZ (y := (⟨"java/util/Objects", "checkFromToIndex", "(III)I"⟩ : MethodName)) hown (wk hw 67 rfl) (wk hw 68 rfl) (wk hw 69 rfl) (wk hw 70 rfl) (by decide) (objFT l Z a0 hw n h0 n0 O0 (by first | assumption | decide | omega)) e358 (g := (mkF m 6 #[.val (.ref a1), .val (.int (0 : Int32)), .val (.int n.toInt32)] [(.int n.toInt32), (.int n.toInt32), (.int (0 : Int32))])) rfl (by rw [hml]; rfl) (argsL := [(.int (0 : Int32)), (.int n.toInt32), (.int n.toInt32)]) (rest := []) rfl (lenOf pd__III_I rfl) rfl (W := 0) (by show 2 * 0 + _ ≤ _; exact Nat.le_of_eq rfl) (hb hby d13_6) (by decide) (by decide) (by decide) (by decide)
  have N361 := Fr.app N359 N360q
  have e360 := e360.trans r360_0
  refine Win.to T360 (mkF m 9 #[.val (.ref a1), .val (.int (0 : Int32)), .val (.int n.toInt32)] [(.int (0 : Int32))]) (fun _ k => st360 _ k) ?_
  refine Win.to T360 (mkF m 10 #[.val (.ref a1), .val (.int (0 : Int32)), .val (.int n.toInt32)] []) (fun _ k => XS.pop X360.here hx rfl (hb hby d13_9) rfl rfl k) ?_
  refine Win.to T360 (mkF m 11 #[.val (.ref a1), .val (.int (0 : Int32)), .val (.int n.toInt32)] [(.ref a1)]) (fun _ k => XS.aloadN X360.here hx rfl (hb hby d13_10) rfl rfl k) ?_
  obtain ⟨T362, h362, v362, L362, X362, e362, ⟨rfl, N362q, r362_0⟩, st362⟩ := N.virtual X360 hx hZ (y := (⟨"java/lang/String", "isLatin1", "()Z"⟩ : MethodName)) (z := (⟨"java/lang/String", "isLatin1", "()Z"⟩ : MethodName)) hown (wk hw 75 rfl) (wk hw 76 rfl) (notFace_of_selects (args := #[]) (mvT hZ (wk hw 78 rfl))) (wk hw 78 rfl) (wk hw 77 rfl) (wk hw 8 rfl) (wk hw 79 rfl) (by decide) (isLat0 l Z a0 hw a1 cs h0 n0 O0 F2 S_CS hcs) e360 E1 (g := (mkF m 11 #[.val (.ref a1), .val (.int (0 : Int32)), .val (.int n.toInt32)] [(.ref a1)])) rfl (by rw [hml]; rfl) (argsL := []) (rest := []) rfl (lenOf pd___Z rfl) rfl (W := 0) (by show 2 * 0 + _ ≤ _; exact Nat.le_of_eq rfl) (hb hby d13_11) (by decide) (by decide) (by decide) (by decide)
  have N363 := Fr.app N361 N362q
  have e362 := e362.trans r362_0
  refine Win.to T362 (mkF m 14 #[.val (.ref a1), .val (.int (0 : Int32)), .val (.int n.toInt32)] [(.int (0 : Int32))]) (fun _ k => st362 _ k) ?_
  refine Win.to T362 (mkF m 21 #[.val (.ref a1), .val (.int (0 : Int32)), .val (.int n.toInt32)] []) (fun _ k => XS.ifYes X362.here hx rfl (pc0 := 14) (pc' := 21) rfl (hb hby d13_14) rfl ((if0 _ _).trans (teq (show (0 : Int32) = (0 : Int32) from by decide)).1) (by decide) (by decide) k) ?_
  refine Win.to T362 (mkF m 22 #[.val (.ref a1), .val (.int (0 : Int32)), .val (.int n.toInt32)] [(.ref a1)]) (fun _ k => XS.aloadN X362.here hx rfl (hb hby d13_21) rfl rfl k) ?_
  obtain ⟨T364, X364, e364, st364⟩ := getF X362 hx hZ hown (host := "") (Or.inl (wk hw 25 rfl)) Via.refl e362 F1 (g := (mkF m 22 #[.val (.ref a1), .val (.int (0 : Int32)), .val (.int n.toInt32)] [(.ref a1)])) rfl rfl (hb hby d13_22)
  refine Win.to T364 (mkF m 25 #[.val (.ref a1), .val (.int (0 : Int32)), .val (.int n.toInt32)] [(.ref t1)]) (fun _ k => st364 _ k) ?_
  refine Win.to T364 (mkF m 26 #[.val (.ref a1), .val (.int (0 : Int32)), .val (.int n.toInt32)] [(.int (0 : Int32)), (.ref t1)]) (fun _ k => XS.iloadN X364.here hx rfl (hb hby d13_25) rfl k) ?_
  refine Win.to T364 (mkF m 27 #[.val (.ref a1), .val (.int (0 : Int32)), .val (.int n.toInt32)] [(.int n.toInt32), (.int (0 : Int32)), (.ref t1)]) (fun _ k => XS.iloadN X364.here hx rfl (hb hby d13_26) rfl k) ?_
  obtain ⟨T365, h365, v365, L365, X365, e365, ⟨rfl, N365q, r365_0⟩, st365⟩ := N.static X364 hx hZ (y := (⟨"java/lang/StringUTF16", "codePointCount", "([BII)I"⟩ : MethodName)) hown (wk hw 100 rfl) (wk hw 101 rfl) (wk hw 43 rfl) (wk hw 102 rfl) (by decide) (cpc3 l Z a0 hw t1 k1 n f kp h0 n0 O0 Fa hrng hpos hk S_AD S_HI S_LO) e364 (g := (mkF m 27 #[.val (.ref a1), .val (.int (0 : Int32)), .val (.int n.toInt32)] [(.int n.toInt32), (.int (0 : Int32)), (.ref t1)])) rfl (by rw [hml]; rfl) (argsL := [(.ref t1), (.int (0 : Int32)), (.int n.toInt32)]) (rest := []) rfl (lenOf pd___BII_I rfl) rfl (W := 0) (by show 2 * 0 + _ ≤ _; exact Nat.le_of_eq rfl) (hb hby d13_27) (by decide) (by decide) (by decide) (by decide)
  have N366 := Fr.app N363 N365q
  have e365 := e365.trans r365_0
  refine Win.to T365 (mkF m 30 #[.val (.ref a1), .val (.int (0 : Int32)), .val (.int n.toInt32)] [(.int (n - kp).toInt32)]) (fun _ k => st365 _ k) ?_
  exact Win.retI X365 hx hlk hret (hb hby d13_30) (by decide) (by decide) (by (try rw [e365]); exact ⟨rfl, N366, rfl⟩)
abbrev R_cpcL : Room := ⟨2, 0, 0, 29⟩
set_option maxRecDepth 65536 in
set_option maxHeartbeats 40000000 in
theorem cpcL (l : Launch) (Z : State) (a0 : Array Value) (hw : ∀ d ∈ tables_1, d.before a0 Z = true) (a1 : Addr) (t1 : Addr) (k1 : ClassId) (n : Nat) (f : Nat → Int32) (cs : Int32) (h0 : Heap) (n0 : Nat) (O0 : Old Z n0 h0) (E1 : Exa Z h0 a1 "java/lang/String") (F1 : Fld Z h0 a1 "java/lang/String" "value" "[B" (.ref t1)) (F2 : Fld Z h0 a1 "java/lang/String" "coder" "B" (.int (0 : Int32))) (Fa : ArF Z h0 t1 k1 .byte n f) (S_CS : Sta Z Z.heap "java/lang/String" "COMPACT_STRINGS" "Z" (.int cs)) (hcs : ¬ (cs = (0 : Int32))) :
    MetN l Z (⟨"java/lang/String", "codePointCount", "(II)I"⟩ : MethodName) jdk_42_method_59_code 3 (some .int) R_cpcL [] #[(.ref a1), (.int (0 : Int32)), (.int n.toInt32)] h0 (fun v h L => v = some (.int n.toInt32) ∧ Fr n0 L ∧ h = h0) := by
  refine MetN.walk (plainFor_of_name pn_13) ?_
  intro p e s m below meth c s₁ hx hZ hby hml hown hnm hret hlk X0 e0
  have N0 := Fr.nil n0
  refine Win.to s₁ (mkF m 0 #[.val (.ref a1), .val (.int (0 : Int32)), .val (.int n.toInt32)] []) (fun _ k => castTop (by first | (simp [entryFrame, mkF, argsToLocals, Value.category]; done) | rfl) k) ?_
  have hn := Fa.big
  refine Win.to s₁ (mkF m 1 #[.val (.ref a1), .val (.int (0 : Int32)), .val (.int n.toInt32)] [(.int (0 : Int32))]) (fun _ k => XS.iloadN X0.here hx rfl (hb hby d13_0) rfl k) ?_
  refine Win.to s₁ (mkF m 2 #[.val (.ref a1), .val (.int (0 : Int32)), .val (.int n.toInt32)] [(.int n.toInt32), (.int (0 : Int32))]) (fun _ k => XS.iloadN X0.here hx rfl (hb hby d13_1) rfl k) ?_
  refine Win.to s₁ (mkF m 3 #[.val (.ref a1), .val (.int (0 : Int32)), .val (.int n.toInt32)] [(.ref a1), (.int n.toInt32), (.int (0 : Int32))]) (fun _ k => XS.aloadN X0.here hx rfl (hb hby d13_2) rfl rfl k) ?_
  obtain ⟨T367, h367, v367, L367, X367, e367, ⟨rfl, N367q, r367_0⟩, st367⟩ := N.virtual X0 hx hZ (y := (⟨"java/lang/String", "length", "()I"⟩ : MethodName)) (z := (⟨"java/lang/String", "length", "()I"⟩ : MethodName)) hown (wk hw 66 rfl) (wk hw 52 rfl) (notFace_of_selects (args := #[]) (mvT hZ (wk hw 54 rfl))) (wk hw 54 rfl) (wk hw 53 rfl) (wk hw 8 rfl) (wk hw 55 rfl) (by decide) (strLen l Z a0 hw a1 t1 k1 n f cs h0 n0 O0 E1 F1 F2 Fa S_CS hcs) e0 E1 (g := (mkF m 3 #[.val (.ref a1), .val (.int (0 : Int32)), .val (.int n.toInt32)] [(.ref a1), (.int n.toInt32), (.int (0 : Int32))])) rfl (by rw [hml]; rfl) (argsL := []) (rest := [(.int n.toInt32), (.int (0 : Int32))]) rfl (lenOf pd___I rfl) rfl (W := 2) (by show 2 * 0 + _ ≤ _; exact Nat.le_of_eq rfl) (hb hby d13_3) (by decide) (by decide) (by decide) (by decide)
  have N368 := Fr.app N0 N367q
  have e367 := e367.trans r367_0
  refine Win.to T367 (mkF m 6 #[.val (.ref a1), .val (.int (0 : Int32)), .val (.int n.toInt32)] [(.int n.toInt32), (.int n.toInt32), (.int (0 : Int32))]) (fun _ k => st367 _ k) ?_
  obtain ⟨T369, h369, v369, L369, X369, e369, ⟨rfl, N369q, r369_0⟩, st369⟩ := N.static X367 hx hZ (y := (⟨"java/util/Objects", "checkFromToIndex", "(III)I"⟩ : MethodName)) hown (wk hw 67 rfl) (wk hw 68 rfl) (wk hw 69 rfl) (wk hw 70 rfl) (by decide) (objFT l Z a0 hw n h0 n0 O0 (by first | assumption | decide | omega)) e367 (g := (mkF m 6 #[.val (.ref a1), .val (.int (0 : Int32)), .val (.int n.toInt32)] [(.int n.toInt32), (.int n.toInt32), (.int (0 : Int32))])) rfl (by rw [hml]; rfl) (argsL := [(.int (0 : Int32)), (.int n.toInt32), (.int n.toInt32)]) (rest := []) rfl (lenOf pd__III_I rfl) rfl (W := 0) (by show 2 * 0 + _ ≤ _; exact Nat.le_of_eq rfl) (hb hby d13_6) (by decide) (by decide) (by decide) (by decide)
  have N370 := Fr.app N368 N369q
  have e369 := e369.trans r369_0
  refine Win.to T369 (mkF m 9 #[.val (.ref a1), .val (.int (0 : Int32)), .val (.int n.toInt32)] [(.int (0 : Int32))]) (fun _ k => st369 _ k) ?_
  refine Win.to T369 (mkF m 10 #[.val (.ref a1), .val (.int (0 : Int32)), .val (.int n.toInt32)] []) (fun _ k => XS.pop X369.here hx rfl (hb hby d13_9) rfl rfl k) ?_
  refine Win.to T369 (mkF m 11 #[.val (.ref a1), .val (.int (0 : Int32)), .val (.int n.toInt32)] [(.ref a1)]) (fun _ k => XS.aloadN X369.here hx rfl (hb hby d13_10) rfl rfl k) ?_
  obtain ⟨T371, h371, v371, L371, X371, e371, ⟨rfl, N371q, r371_0⟩, st371⟩ := N.virtual X369 hx hZ (y := (⟨"java/lang/String", "isLatin1", "()Z"⟩ : MethodName)) (z := (⟨"java/lang/String", "isLatin1", "()Z"⟩ : MethodName)) hown (wk hw 75 rfl) (wk hw 76 rfl) (notFace_of_selects (args := #[]) (mvT hZ (wk hw 78 rfl))) (wk hw 78 rfl) (wk hw 77 rfl) (wk hw 8 rfl) (wk hw 79 rfl) (by decide) (isLat l Z a0 hw a1 cs h0 n0 O0 F2 S_CS hcs) e369 E1 (g := (mkF m 11 #[.val (.ref a1), .val (.int (0 : Int32)), .val (.int n.toInt32)] [(.ref a1)])) rfl (by rw [hml]; rfl) (argsL := []) (rest := []) rfl (lenOf pd___Z rfl) rfl (W := 0) (by show 2 * 0 + _ ≤ _; exact Nat.le_of_eq rfl) (hb hby d13_11) (by decide) (by decide) (by decide) (by decide)
  have N372 := Fr.app N370 N371q
  have e371 := e371.trans r371_0
  refine Win.to T371 (mkF m 14 #[.val (.ref a1), .val (.int (0 : Int32)), .val (.int n.toInt32)] [(.int (1 : Int32))]) (fun _ k => st371 _ k) ?_
  refine Win.to T371 (mkF m 17 #[.val (.ref a1), .val (.int (0 : Int32)), .val (.int n.toInt32)] []) (fun _ k => XS.ifNo X371.here hx rfl (hb hby d13_14) rfl ((if0 _ _).trans (feq (show ¬ ((1 : Int32) = (0 : Int32)) from by decide)).1) k) ?_
  refine Win.to T371 (mkF m 18 #[.val (.ref a1), .val (.int (0 : Int32)), .val (.int n.toInt32)] [(.int n.toInt32)]) (fun _ k => XS.iloadN X371.here hx rfl (hb hby d13_17) rfl k) ?_
  refine Win.to T371 (mkF m 19 #[.val (.ref a1), .val (.int (0 : Int32)), .val (.int n.toInt32)] [(.int (0 : Int32)), (.int n.toInt32)]) (fun _ k => XS.iloadN X371.here hx rfl (hb hby d13_18) rfl k) ?_
  refine Win.to T371 (mkF m 20 #[.val (.ref a1), .val (.int (0 : Int32)), .val (.int n.toInt32)] [(.int n.toInt32)]) (fun _ k => XS.isub X371.here hx rfl (hb hby d13_19) rfl (by rw [show (n.toInt32 - (0 : Int32)) = n.toInt32 from Int32.sub_zero _]; exact k)) ?_
  exact Win.retI X371 hx hlk hret (hb hby d13_20) (by decide) (by decide) (by (try rw [e371]); exact ⟨rfl, N372, rfl⟩)
abbrev R_empU : Room := ⟨0, 0, 0, 0⟩
set_option maxRecDepth 65536 in
set_option maxHeartbeats 40000000 in
theorem empU (l : Launch) (Z : State) (a0 : Array Value) (hw : ∀ d ∈ tables_1, d.before a0 Z = true) (a1 : Addr) (t1 : Addr) (k1 : ClassId) (n : Nat) (f : Nat → Int32) (h0 : Heap) (n0 : Nat) (O0 : Old Z n0 h0) (E1 : Exa Z h0 a1 "java/lang/String") (F1 : Fld Z h0 a1 "java/lang/String" "value" "[B" (.ref t1)) (F2 : Fld Z h0 a1 "java/lang/String" "coder" "B" (.int (1 : Int32))) (Fa : ArF Z h0 t1 k1 .byte (2 * n) (u16 f)) (hpos : 0 < n) :
    MetN l Z (⟨"java/lang/String", "isEmpty", "()Z"⟩ : MethodName) jdk_42_method_55_code 1 (some .boolean) R_empU [] #[(.ref a1)] h0 (fun v h L => v = some (.int (0 : Int32)) ∧ Fr n0 L ∧ h = h0) := by
  refine MetN.walk (plainFor_of_name pn_6) ?_
  intro p e s m below meth c s₁ hx hZ hby hml hown hnm hret hlk X0 e0
  have N0 := Fr.nil n0
  refine Win.to s₁ (mkF m 0 #[.val (.ref a1)] []) (fun _ k => castTop (by first | (simp [entryFrame, mkF, argsToLocals, Value.category]; done) | rfl) k) ?_
  refine Win.to s₁ (mkF m 1 #[.val (.ref a1)] [(.ref a1)]) (fun _ k => XS.aloadN X0.here hx rfl (hb hby d6_0) rfl rfl k) ?_
  obtain ⟨T373, X373, e373, st373⟩ := getF X0 hx hZ hown (host := "") (Or.inl (wk hw 25 rfl)) Via.refl e0 F1 (g := (mkF m 1 #[.val (.ref a1)] [(.ref a1)])) rfl rfl (hb hby d6_1)
  refine Win.to T373 (mkF m 4 #[.val (.ref a1)] [(.ref t1)]) (fun _ k => st373 _ k) ?_
  obtain ⟨cl374, Ar374, hl374⟩ := ArF.len Fa
  refine Win.to T373 (mkF m 5 #[.val (.ref a1)] [(.int (2 * n).toInt32)]) (fun _ k => X373.arraylength hx (by rw [e373]; exact Ar374.1) (State.isArrayOf_alike hZ.alike Ar374.2.1) (g := (mkF m 4 #[.val (.ref a1)] [(.ref t1)])) rfl rfl (hb hby d6_4) _ (by rw [hl374]; exact k)) ?_
  refine Win.to T373 (mkF m 12 #[.val (.ref a1)] []) (fun _ k => XS.ifYes X373.here hx rfl (pc0 := 5) (pc' := 12) rfl (hb hby d6_5) rfl ((if0 _ _).trans (feq (show ¬ ((2 * n).toInt32 = (0 : Int32)) from (own_nz Fa.big (by omega)))).2) (by decide) (by decide) k) ?_
  refine Win.to T373 (mkF m 13 #[.val (.ref a1)] [(.int (0 : Int32))]) (fun _ k => XS.iconst X373.here hx rfl (hb hby d6_12) k) ?_
  exact Win.retN X373 hx hlk (t := .boolean) hret (by simp) rfl (hb hby d6_13) (by decide) (by decide) (by (try rw [e373]); exact ⟨rfl, N0, rfl⟩)
abbrev R_empL0 : Room := ⟨0, 0, 0, 0⟩
set_option maxRecDepth 65536 in
set_option maxHeartbeats 40000000 in
theorem empL0 (l : Launch) (Z : State) (a0 : Array Value) (hw : ∀ d ∈ tables_1, d.before a0 Z = true) (a1 : Addr) (t1 : Addr) (k1 : ClassId) (n : Nat) (f : Nat → Int32) (h0 : Heap) (n0 : Nat) (O0 : Old Z n0 h0) (E1 : Exa Z h0 a1 "java/lang/String") (F1 : Fld Z h0 a1 "java/lang/String" "value" "[B" (.ref t1)) (F2 : Fld Z h0 a1 "java/lang/String" "coder" "B" (.int (0 : Int32))) (Fa : ArF Z h0 t1 k1 .byte n f) (hpos : 0 < n) :
    MetN l Z (⟨"java/lang/String", "isEmpty", "()Z"⟩ : MethodName) jdk_42_method_55_code 1 (some .boolean) R_empL0 [] #[(.ref a1)] h0 (fun v h L => v = some (.int (0 : Int32)) ∧ Fr n0 L ∧ h = h0) := by
  refine MetN.walk (plainFor_of_name pn_6) ?_
  intro p e s m below meth c s₁ hx hZ hby hml hown hnm hret hlk X0 e0
  have N0 := Fr.nil n0
  refine Win.to s₁ (mkF m 0 #[.val (.ref a1)] []) (fun _ k => castTop (by first | (simp [entryFrame, mkF, argsToLocals, Value.category]; done) | rfl) k) ?_
  refine Win.to s₁ (mkF m 1 #[.val (.ref a1)] [(.ref a1)]) (fun _ k => XS.aloadN X0.here hx rfl (hb hby d6_0) rfl rfl k) ?_
  obtain ⟨T375, X375, e375, st375⟩ := getF X0 hx hZ hown (host := "") (Or.inl (wk hw 25 rfl)) Via.refl e0 F1 (g := (mkF m 1 #[.val (.ref a1)] [(.ref a1)])) rfl rfl (hb hby d6_1)
  refine Win.to T375 (mkF m 4 #[.val (.ref a1)] [(.ref t1)]) (fun _ k => st375 _ k) ?_
  obtain ⟨cl376, Ar376, hl376⟩ := ArF.len Fa
  refine Win.to T375 (mkF m 5 #[.val (.ref a1)] [(.int n.toInt32)]) (fun _ k => X375.arraylength hx (by rw [e375]; exact Ar376.1) (State.isArrayOf_alike hZ.alike Ar376.2.1) (g := (mkF m 4 #[.val (.ref a1)] [(.ref t1)])) rfl rfl (hb hby d6_4) _ (by rw [hl376]; exact k)) ?_
  refine Win.to T375 (mkF m 12 #[.val (.ref a1)] []) (fun _ k => XS.ifYes X375.here hx rfl (pc0 := 5) (pc' := 12) rfl (hb hby d6_5) rfl ((if0 _ _).trans (feq (show ¬ (n.toInt32 = (0 : Int32)) from (own_nz Fa.big hpos))).2) (by decide) (by decide) k) ?_
  refine Win.to T375 (mkF m 13 #[.val (.ref a1)] [(.int (0 : Int32))]) (fun _ k => XS.iconst X375.here hx rfl (hb hby d6_12) k) ?_
  exact Win.retN X375 hx hlk (t := .boolean) hret (by simp) rfl (hb hby d6_13) (by decide) (by decide) (by (try rw [e375]); exact ⟨rfl, N0, rfl⟩)
abbrev R_empL1 : Room := ⟨0, 0, 0, 0⟩
set_option maxRecDepth 65536 in
set_option maxHeartbeats 40000000 in
theorem empL1 (l : Launch) (Z : State) (a0 : Array Value) (hw : ∀ d ∈ tables_1, d.before a0 Z = true) (a1 : Addr) (t1 : Addr) (k1 : ClassId) (n : Nat) (f : Nat → Int32) (h0 : Heap) (n0 : Nat) (O0 : Old Z n0 h0) (E1 : Exa Z h0 a1 "java/lang/String") (F1 : Fld Z h0 a1 "java/lang/String" "value" "[B" (.ref t1)) (F2 : Fld Z h0 a1 "java/lang/String" "coder" "B" (.int (0 : Int32))) (Fa : ArF Z h0 t1 k1 .byte n f) (hz : n = 0) :
    MetN l Z (⟨"java/lang/String", "isEmpty", "()Z"⟩ : MethodName) jdk_42_method_55_code 1 (some .boolean) R_empL1 [] #[(.ref a1)] h0 (fun v h L => v = some (.int (1 : Int32)) ∧ Fr n0 L ∧ h = h0) := by
  refine MetN.walk (plainFor_of_name pn_6) ?_
  intro p e s m below meth c s₁ hx hZ hby hml hown hnm hret hlk X0 e0
  have N0 := Fr.nil n0
  refine Win.to s₁ (mkF m 0 #[.val (.ref a1)] []) (fun _ k => castTop (by first | (simp [entryFrame, mkF, argsToLocals, Value.category]; done) | rfl) k) ?_
  refine Win.to s₁ (mkF m 1 #[.val (.ref a1)] [(.ref a1)]) (fun _ k => XS.aloadN X0.here hx rfl (hb hby d6_0) rfl rfl k) ?_
  obtain ⟨T377, X377, e377, st377⟩ := getF X0 hx hZ hown (host := "") (Or.inl (wk hw 25 rfl)) Via.refl e0 F1 (g := (mkF m 1 #[.val (.ref a1)] [(.ref a1)])) rfl rfl (hb hby d6_1)
  refine Win.to T377 (mkF m 4 #[.val (.ref a1)] [(.ref t1)]) (fun _ k => st377 _ k) ?_
  obtain ⟨cl378, Ar378, hl378⟩ := ArF.len Fa
  refine Win.to T377 (mkF m 5 #[.val (.ref a1)] [(.int n.toInt32)]) (fun _ k => X377.arraylength hx (by rw [e377]; exact Ar378.1) (State.isArrayOf_alike hZ.alike Ar378.2.1) (g := (mkF m 4 #[.val (.ref a1)] [(.ref t1)])) rfl rfl (hb hby d6_4) _ (by rw [hl378]; exact k)) ?_
  refine Win.to T377 (mkF m 8 #[.val (.ref a1)] []) (fun _ k => XS.ifNo X377.here hx rfl (hb hby d6_5) rfl ((if0 _ _).trans (teq (show n.toInt32 = (0 : Int32) from (by rw [hz]; rfl))).2) k) ?_
  refine Win.to T377 (mkF m 9 #[.val (.ref a1)] [(.int (1 : Int32))]) (fun _ k => XS.iconst X377.here hx rfl (hb hby d6_8) k) ?_
  refine Win.to T377 (mkF m 13 #[.val (.ref a1)] [(.int (1 : Int32))]) (fun _ k => XS.goto X377.here hx rfl (pc0 := 9) (pc' := 13) rfl (hb hby d6_9) (by decide) (by decide) k) ?_
  exact Win.retN X377 hx hlk (t := .boolean) hret (by simp) rfl (hb hby d6_13) (by decide) (by decide) (by (try rw [e377]); exact ⟨rfl, N0, rfl⟩)
abbrev R_fitE : Room := ⟨1, 0, 0, 12⟩
set_option maxRecDepth 65536 in
set_option maxHeartbeats 40000000 in
theorem fitE (l : Launch) (Z : State) (a0 : Array Value) (hw : ∀ d ∈ tables_1, d.before a0 Z = true) (a1 : Addr) (t1 : Addr) (k1 : ClassId) (n : Nat) (f : Nat → Int32) (cs : Int32) (h0 : Heap) (n0 : Nat) (O0 : Old Z n0 h0) (E1 : Exa Z h0 a1 "java/lang/String") (F1 : Fld Z h0 a1 "java/lang/String" "value" "[B" (.ref t1)) (F2 : Fld Z h0 a1 "java/lang/String" "coder" "B" (.int (0 : Int32))) (Fa : ArF Z h0 t1 k1 .byte n f) (hz : n = 0) (S_CS : Sta Z Z.heap "java/lang/String" "COMPACT_STRINGS" "Z" (.int cs)) (hcs : ¬ (cs = (0 : Int32))) :
    MetN l Z (⟨"com/example/usher/usher/lifecycle/ExecutionKey", "fits", "(Ljava/lang/String;)Z"⟩ : MethodName) prog_33_method_2_code 1 (some .boolean) R_fitE [] #[(.ref a1)] h0 (fun v h L => v = some (.int (0 : Int32)) ∧ Fr n0 L ∧ h = h0) := by
  refine MetN.walk (plainFor_of_name pn_5) ?_
  intro p e s m below meth c s₁ hx hZ hby hml hown hnm hret hlk X0 e0
  have N0 := Fr.nil n0
  refine Win.to s₁ (mkF m 0 #[.val (.ref a1)] []) (fun _ k => castTop (by first | (simp [entryFrame, mkF, argsToLocals, Value.category]; done) | rfl) k) ?_
  refine Win.to s₁ (mkF m 1 #[.val (.ref a1)] [(.ref a1)]) (fun _ k => XS.aloadN X0.here hx rfl (hb hby d5_0) rfl rfl k) ?_
  obtain ⟨T379, h379, v379, L379, X379, e379, ⟨rfl, N379q, r379_0⟩, st379⟩ := N.virtual X0 hx hZ (y := (⟨"java/lang/String", "isEmpty", "()Z"⟩ : MethodName)) (z := (⟨"java/lang/String", "isEmpty", "()Z"⟩ : MethodName)) hown (wk hw 31 rfl) (wk hw 32 rfl) (notFace_of_selects (args := #[]) (mvT hZ (wk hw 34 rfl))) (wk hw 34 rfl) (wk hw 33 rfl) (wk hw 8 rfl) (wk hw 35 rfl) (by decide) (empL1 l Z a0 hw a1 t1 k1 n f h0 n0 O0 E1 F1 F2 Fa hz) e0 E1 (g := (mkF m 1 #[.val (.ref a1)] [(.ref a1)])) rfl (by rw [hml]; rfl) (argsL := []) (rest := []) rfl (lenOf pd___Z rfl) rfl (W := 0) (by show 2 * 0 + _ ≤ _; exact Nat.le_of_eq rfl) (hb hby d5_1) (by decide) (by decide) (by decide) (by decide)
  have N380 := Fr.app N0 N379q
  have e379 := e379.trans r379_0
  refine Win.to T379 (mkF m 4 #[.val (.ref a1)] [(.int (1 : Int32))]) (fun _ k => st379 _ k) ?_
  refine Win.to T379 (mkF m 26 #[.val (.ref a1)] []) (fun _ k => XS.ifYes X379.here hx rfl (pc0 := 4) (pc' := 26) rfl (hb hby d5_4) rfl ((if0 _ _).trans (feq (show ¬ ((1 : Int32) = (0 : Int32)) from by decide)).2) (by decide) (by decide) k) ?_
  refine Win.to T379 (mkF m 27 #[.val (.ref a1)] [(.int (0 : Int32))]) (fun _ k => XS.iconst X379.here hx rfl (hb hby d5_26) k) ?_
  exact Win.retN X379 hx hlk (t := .boolean) hret (by simp) rfl (hb hby d5_27) (by decide) (by decide) (by (try rw [e379]); exact ⟨rfl, N380, rfl⟩)
abbrev R_fitL0 : Room := ⟨3, 0, 0, 43⟩
set_option maxRecDepth 65536 in
set_option maxHeartbeats 40000000 in
theorem fitL0 (l : Launch) (Z : State) (a0 : Array Value) (hw : ∀ d ∈ tables_1, d.before a0 Z = true) (a1 : Addr) (t1 : Addr) (k1 : ClassId) (n : Nat) (f : Nat → Int32) (cs : Int32) (h0 : Heap) (n0 : Nat) (O0 : Old Z n0 h0) (E1 : Exa Z h0 a1 "java/lang/String") (F1 : Fld Z h0 a1 "java/lang/String" "value" "[B" (.ref t1)) (F2 : Fld Z h0 a1 "java/lang/String" "coder" "B" (.int (0 : Int32))) (Fa : ArF Z h0 t1 k1 .byte n f) (hpos : 0 < n) (h512 : 512 < n) (S_CS : Sta Z Z.heap "java/lang/String" "COMPACT_STRINGS" "Z" (.int cs)) (hcs : ¬ (cs = (0 : Int32))) :
    MetN l Z (⟨"com/example/usher/usher/lifecycle/ExecutionKey", "fits", "(Ljava/lang/String;)Z"⟩ : MethodName) prog_33_method_2_code 1 (some .boolean) R_fitL0 [] #[(.ref a1)] h0 (fun v h L => v = some (.int (0 : Int32)) ∧ Fr n0 L ∧ h = h0) := by
  refine MetN.walk (plainFor_of_name pn_5) ?_
  intro p e s m below meth c s₁ hx hZ hby hml hown hnm hret hlk X0 e0
  have N0 := Fr.nil n0
  refine Win.to s₁ (mkF m 0 #[.val (.ref a1)] []) (fun _ k => castTop (by first | (simp [entryFrame, mkF, argsToLocals, Value.category]; done) | rfl) k) ?_
  have hn := Fa.big
  refine Win.to s₁ (mkF m 1 #[.val (.ref a1)] [(.ref a1)]) (fun _ k => XS.aloadN X0.here hx rfl (hb hby d5_0) rfl rfl k) ?_
  obtain ⟨T381, h381, v381, L381, X381, e381, ⟨rfl, N381q, r381_0⟩, st381⟩ := N.virtual X0 hx hZ (y := (⟨"java/lang/String", "isEmpty", "()Z"⟩ : MethodName)) (z := (⟨"java/lang/String", "isEmpty", "()Z"⟩ : MethodName)) hown (wk hw 31 rfl) (wk hw 32 rfl) (notFace_of_selects (args := #[]) (mvT hZ (wk hw 34 rfl))) (wk hw 34 rfl) (wk hw 33 rfl) (wk hw 8 rfl) (wk hw 35 rfl) (by decide) (empL0 l Z a0 hw a1 t1 k1 n f h0 n0 O0 E1 F1 F2 Fa hpos) e0 E1 (g := (mkF m 1 #[.val (.ref a1)] [(.ref a1)])) rfl (by rw [hml]; rfl) (argsL := []) (rest := []) rfl (lenOf pd___Z rfl) rfl (W := 0) (by show 2 * 0 + _ ≤ _; exact Nat.le_of_eq rfl) (hb hby d5_1) (by decide) (by decide) (by decide) (by decide)
  have N382 := Fr.app N0 N381q
  have e381 := e381.trans r381_0
  refine Win.to T381 (mkF m 4 #[.val (.ref a1)] [(.int (0 : Int32))]) (fun _ k => st381 _ k) ?_
  refine Win.to T381 (mkF m 7 #[.val (.ref a1)] []) (fun _ k => XS.ifNo X381.here hx rfl (hb hby d5_4) rfl ((if0 _ _).trans (teq (show (0 : Int32) = (0 : Int32) from by decide)).2) k) ?_
  refine Win.to T381 (mkF m 8 #[.val (.ref a1)] [(.ref a1)]) (fun _ k => XS.aloadN X381.here hx rfl (hb hby d5_7) rfl rfl k) ?_
  refine Win.to T381 (mkF m 9 #[.val (.ref a1)] [(.int (0 : Int32)), (.ref a1)]) (fun _ k => XS.iconst X381.here hx rfl (hb hby d5_8) k) ?_
  refine Win.to T381 (mkF m 10 #[.val (.ref a1)] [(.ref a1), (.int (0 : Int32)), (.ref a1)]) (fun _ k => XS.aloadN X381.here hx rfl (hb hby d5_9) rfl rfl k) ?_
  obtain ⟨T383, h383, v383, L383, X383, e383, ⟨rfl, N383q, r383_0⟩, st383⟩ := N.virtual X381 hx hZ (y := (⟨"java/lang/String", "length", "()I"⟩ : MethodName)) (z := (⟨"java/lang/String", "length", "()I"⟩ : MethodName)) hown (wk hw 51 rfl) (wk hw 52 rfl) (notFace_of_selects (args := #[]) (mvT hZ (wk hw 54 rfl))) (wk hw 54 rfl) (wk hw 53 rfl) (wk hw 8 rfl) (wk hw 55 rfl) (by decide) (strLen l Z a0 hw a1 t1 k1 n f cs h0 n0 O0 E1 F1 F2 Fa S_CS hcs) e381 E1 (g := (mkF m 10 #[.val (.ref a1)] [(.ref a1), (.int (0 : Int32)), (.ref a1)])) rfl (by rw [hml]; rfl) (argsL := []) (rest := [(.int (0 : Int32)), (.ref a1)]) rfl (lenOf pd___I rfl) rfl (W := 2) (by show 2 * 0 + _ ≤ _; exact Nat.le_of_eq rfl) (hb hby d5_10) (by decide) (by decide) (by decide) (by decide)
  have N384 := Fr.app N382 N383q
  have e383 := e383.trans r383_0
  refine Win.to T383 (mkF m 13 #[.val (.ref a1)] [(.int n.toInt32), (.int (0 : Int32)), (.ref a1)]) (fun _ k => st383 _ k) ?_
  obtain ⟨T385, h385, v385, L385, X385, e385, ⟨rfl, N385q, r385_0⟩, st385⟩ := N.virtual X383 hx hZ (y := (⟨"java/lang/String", "codePointCount", "(II)I"⟩ : MethodName)) (z := (⟨"java/lang/String", "codePointCount", "(II)I"⟩ : MethodName)) hown (wk hw 61 rfl) (wk hw 62 rfl) (notFace_of_selects (args := #[]) (mvT hZ (wk hw 64 rfl))) (wk hw 64 rfl) (wk hw 63 rfl) (wk hw 8 rfl) (wk hw 65 rfl) (by decide) (cpcL l Z a0 hw a1 t1 k1 n f cs h0 n0 O0 E1 F1 F2 Fa S_CS hcs) e383 E1 (g := (mkF m 13 #[.val (.ref a1)] [(.int n.toInt32), (.int (0 : Int32)), (.ref a1)])) rfl (by rw [hml]; rfl) (argsL := [(.int (0 : Int32)), (.int n.toInt32)]) (rest := []) rfl (lenOf pd__II_I rfl) rfl (W := 0) (by show 2 * 0 + _ ≤ _; exact Nat.le_of_eq rfl) (hb hby d5_13) (by decide) (by decide) (by decide) (by decide)
  have N386 := Fr.app N384 N385q
  have e385 := e385.trans r385_0
  refine Win.to T385 (mkF m 16 #[.val (.ref a1)] [(.int n.toInt32)]) (fun _ k => st385 _ k) ?_
  refine Win.to T385 (mkF m 19 #[.val (.ref a1)] [(.int (512 : Int32)), (.int n.toInt32)]) (fun _ k => XS.sipush X385.here hx rfl (hb hby d5_16) k) ?_
  refine Win.to T385 (mkF m 26 #[.val (.ref a1)] []) (fun _ k => XS.icmpYes X385.here hx rfl (pc0 := 19) (pc' := 26) rfl (hb hby d5_19) rfl (tlt (show (512 : Int32) < n.toInt32 from ((own_lt (j := 512) (by decide) hn).mpr h512))).2.2.1 (by decide) (by decide) k) ?_
  refine Win.to T385 (mkF m 27 #[.val (.ref a1)] [(.int (0 : Int32))]) (fun _ k => XS.iconst X385.here hx rfl (hb hby d5_26) k) ?_
  exact Win.retN X385 hx hlk (t := .boolean) hret (by simp) rfl (hb hby d5_27) (by decide) (by decide) (by (try rw [e385]); exact ⟨rfl, N386, rfl⟩)
abbrev R_fitU0 : Room := ⟨4, 0, 0, 58⟩
set_option maxRecDepth 65536 in
set_option maxHeartbeats 40000000 in
theorem fitU0 (l : Launch) (Z : State) (a0 : Array Value) (hw : ∀ d ∈ tables_1, d.before a0 Z = true) (a1 : Addr) (t1 : Addr) (k1 : ClassId) (n : Nat) (f : Nat → Int32) (kp : Nat) (cs : Int32) (h0 : Heap) (n0 : Nat) (O0 : Old Z n0 h0) (E1 : Exa Z h0 a1 "java/lang/String") (F1 : Fld Z h0 a1 "java/lang/String" "value" "[B" (.ref t1)) (F2 : Fld Z h0 a1 "java/lang/String" "coder" "B" (.int (1 : Int32))) (Fa : ArF Z h0 t1 k1 .byte (2 * n) (u16 f)) (hrng : ∀ i, i < n → 0 ≤ (f i).toInt ∧ (f i).toInt < 65536) (hpos : 0 < n) (hk : cp f n n 0 = kp) (h512 : 512 < n - kp) (S_AD : Sta Z Z.heap "java/lang/StringUTF16" "$assertionsDisabled" "Z" (.int (1 : Int32))) (S_HI : Sta Z Z.heap "java/lang/StringUTF16" "HI_BYTE_SHIFT" "I" (.int (0 : Int32))) (S_LO : Sta Z Z.heap "java/lang/StringUTF16" "LO_BYTE_SHIFT" "I" (.int (8 : Int32))) (S_CS : Sta Z Z.heap "java/lang/String" "COMPACT_STRINGS" "Z" (.int cs)) (hcs : ¬ (cs = (0 : Int32))) :
    MetN l Z (⟨"com/example/usher/usher/lifecycle/ExecutionKey", "fits", "(Ljava/lang/String;)Z"⟩ : MethodName) prog_33_method_2_code 1 (some .boolean) R_fitU0 [] #[(.ref a1)] h0 (fun v h L => v = some (.int (0 : Int32)) ∧ Fr n0 L ∧ h = h0) := by
  refine MetN.walk (plainFor_of_name pn_5) ?_
  intro p e s m below meth c s₁ hx hZ hby hml hown hnm hret hlk X0 e0
  have N0 := Fr.nil n0
  refine Win.to s₁ (mkF m 0 #[.val (.ref a1)] []) (fun _ k => castTop (by first | (simp [entryFrame, mkF, argsToLocals, Value.category]; done) | rfl) k) ?_
  have hnb := Fa.big
  have hn : n - kp < 2 ^ 31 := by omega
  refine Win.to s₁ (mkF m 1 #[.val (.ref a1)] [(.ref a1)]) (fun _ k => XS.aloadN X0.here hx rfl (hb hby d5_0) rfl rfl k) ?_
  obtain ⟨T387, h387, v387, L387, X387, e387, ⟨rfl, N387q, r387_0⟩, st387⟩ := N.virtual X0 hx hZ (y := (⟨"java/lang/String", "isEmpty", "()Z"⟩ : MethodName)) (z := (⟨"java/lang/String", "isEmpty", "()Z"⟩ : MethodName)) hown (wk hw 31 rfl) (wk hw 32 rfl) (notFace_of_selects (args := #[]) (mvT hZ (wk hw 34 rfl))) (wk hw 34 rfl) (wk hw 33 rfl) (wk hw 8 rfl) (wk hw 35 rfl) (by decide) (empU l Z a0 hw a1 t1 k1 n f h0 n0 O0 E1 F1 F2 Fa hpos) e0 E1 (g := (mkF m 1 #[.val (.ref a1)] [(.ref a1)])) rfl (by rw [hml]; rfl) (argsL := []) (rest := []) rfl (lenOf pd___Z rfl) rfl (W := 0) (by show 2 * 0 + _ ≤ _; exact Nat.le_of_eq rfl) (hb hby d5_1) (by decide) (by decide) (by decide) (by decide)
  have N388 := Fr.app N0 N387q
  have e387 := e387.trans r387_0
  refine Win.to T387 (mkF m 4 #[.val (.ref a1)] [(.int (0 : Int32))]) (fun _ k => st387 _ k) ?_
  refine Win.to T387 (mkF m 7 #[.val (.ref a1)] []) (fun _ k => XS.ifNo X387.here hx rfl (hb hby d5_4) rfl ((if0 _ _).trans (teq (show (0 : Int32) = (0 : Int32) from by decide)).2) k) ?_
  refine Win.to T387 (mkF m 8 #[.val (.ref a1)] [(.ref a1)]) (fun _ k => XS.aloadN X387.here hx rfl (hb hby d5_7) rfl rfl k) ?_
  refine Win.to T387 (mkF m 9 #[.val (.ref a1)] [(.int (0 : Int32)), (.ref a1)]) (fun _ k => XS.iconst X387.here hx rfl (hb hby d5_8) k) ?_
  refine Win.to T387 (mkF m 10 #[.val (.ref a1)] [(.ref a1), (.int (0 : Int32)), (.ref a1)]) (fun _ k => XS.aloadN X387.here hx rfl (hb hby d5_9) rfl rfl k) ?_
  obtain ⟨T389, h389, v389, L389, X389, e389, ⟨rfl, N389q, r389_0⟩, st389⟩ := N.virtual X387 hx hZ (y := (⟨"java/lang/String", "length", "()I"⟩ : MethodName)) (z := (⟨"java/lang/String", "length", "()I"⟩ : MethodName)) hown (wk hw 51 rfl) (wk hw 52 rfl) (notFace_of_selects (args := #[]) (mvT hZ (wk hw 54 rfl))) (wk hw 54 rfl) (wk hw 53 rfl) (wk hw 8 rfl) (wk hw 55 rfl) (by decide) (strLen1 l Z a0 hw a1 t1 k1 n f cs h0 n0 O0 E1 F1 F2 Fa S_CS hcs) e387 E1 (g := (mkF m 10 #[.val (.ref a1)] [(.ref a1), (.int (0 : Int32)), (.ref a1)])) rfl (by rw [hml]; rfl) (argsL := []) (rest := [(.int (0 : Int32)), (.ref a1)]) rfl (lenOf pd___I rfl) rfl (W := 2) (by show 2 * 0 + _ ≤ _; exact Nat.le_of_eq rfl) (hb hby d5_10) (by decide) (by decide) (by decide) (by decide)
  have N390 := Fr.app N388 N389q
  have e389 := e389.trans r389_0
  refine Win.to T389 (mkF m 13 #[.val (.ref a1)] [(.int n.toInt32), (.int (0 : Int32)), (.ref a1)]) (fun _ k => st389 _ k) ?_
  obtain ⟨T391, h391, v391, L391, X391, e391, ⟨rfl, N391q, r391_0⟩, st391⟩ := N.virtual X389 hx hZ (y := (⟨"java/lang/String", "codePointCount", "(II)I"⟩ : MethodName)) (z := (⟨"java/lang/String", "codePointCount", "(II)I"⟩ : MethodName)) hown (wk hw 61 rfl) (wk hw 62 rfl) (notFace_of_selects (args := #[]) (mvT hZ (wk hw 64 rfl))) (wk hw 64 rfl) (wk hw 63 rfl) (wk hw 8 rfl) (wk hw 65 rfl) (by decide) (cpcU l Z a0 hw a1 t1 k1 n f kp cs h0 n0 O0 E1 F1 F2 Fa hrng hpos hk S_AD S_HI S_LO S_CS hcs) e389 E1 (g := (mkF m 13 #[.val (.ref a1)] [(.int n.toInt32), (.int (0 : Int32)), (.ref a1)])) rfl (by rw [hml]; rfl) (argsL := [(.int (0 : Int32)), (.int n.toInt32)]) (rest := []) rfl (lenOf pd__II_I rfl) rfl (W := 0) (by show 2 * 0 + _ ≤ _; exact Nat.le_of_eq rfl) (hb hby d5_13) (by decide) (by decide) (by decide) (by decide)
  have N392 := Fr.app N390 N391q
  have e391 := e391.trans r391_0
  refine Win.to T391 (mkF m 16 #[.val (.ref a1)] [(.int (n - kp).toInt32)]) (fun _ k => st391 _ k) ?_
  refine Win.to T391 (mkF m 19 #[.val (.ref a1)] [(.int (512 : Int32)), (.int (n - kp).toInt32)]) (fun _ k => XS.sipush X391.here hx rfl (hb hby d5_16) k) ?_
  refine Win.to T391 (mkF m 26 #[.val (.ref a1)] []) (fun _ k => XS.icmpYes X391.here hx rfl (pc0 := 19) (pc' := 26) rfl (hb hby d5_19) rfl (tlt (show (512 : Int32) < (n - kp).toInt32 from ((own_lt (j := 512) (by decide) hn).mpr h512))).2.2.1 (by decide) (by decide) k) ?_
  refine Win.to T391 (mkF m 27 #[.val (.ref a1)] [(.int (0 : Int32))]) (fun _ k => XS.iconst X391.here hx rfl (hb hby d5_26) k) ?_
  exact Win.retN X391 hx hlk (t := .boolean) hret (by simp) rfl (hb hby d5_27) (by decide) (by decide) (by (try rw [e391]); exact ⟨rfl, N392, rfl⟩)
abbrev R_fitL1 : Room := ⟨3, 0, 0, 43⟩
set_option maxRecDepth 65536 in
set_option maxHeartbeats 40000000 in
theorem fitL1 (l : Launch) (Z : State) (a0 : Array Value) (hw : ∀ d ∈ tables_1, d.before a0 Z = true) (a1 : Addr) (t1 : Addr) (k1 : ClassId) (n : Nat) (f : Nat → Int32) (cs : Int32) (h0 : Heap) (n0 : Nat) (O0 : Old Z n0 h0) (E1 : Exa Z h0 a1 "java/lang/String") (F1 : Fld Z h0 a1 "java/lang/String" "value" "[B" (.ref t1)) (F2 : Fld Z h0 a1 "java/lang/String" "coder" "B" (.int (0 : Int32))) (Fa : ArF Z h0 t1 k1 .byte n f) (hpos : 0 < n) (h512 : ¬ 512 < n) (S_CS : Sta Z Z.heap "java/lang/String" "COMPACT_STRINGS" "Z" (.int cs)) (hcs : ¬ (cs = (0 : Int32))) :
    MetN l Z (⟨"com/example/usher/usher/lifecycle/ExecutionKey", "fits", "(Ljava/lang/String;)Z"⟩ : MethodName) prog_33_method_2_code 1 (some .boolean) R_fitL1 [] #[(.ref a1)] h0 (fun v h L => v = some (.int (1 : Int32)) ∧ Fr n0 L ∧ h = h0) := by
  refine MetN.walk (plainFor_of_name pn_5) ?_
  intro p e s m below meth c s₁ hx hZ hby hml hown hnm hret hlk X0 e0
  have N0 := Fr.nil n0
  refine Win.to s₁ (mkF m 0 #[.val (.ref a1)] []) (fun _ k => castTop (by first | (simp [entryFrame, mkF, argsToLocals, Value.category]; done) | rfl) k) ?_
  have hn := Fa.big
  refine Win.to s₁ (mkF m 1 #[.val (.ref a1)] [(.ref a1)]) (fun _ k => XS.aloadN X0.here hx rfl (hb hby d5_0) rfl rfl k) ?_
  obtain ⟨T393, h393, v393, L393, X393, e393, ⟨rfl, N393q, r393_0⟩, st393⟩ := N.virtual X0 hx hZ (y := (⟨"java/lang/String", "isEmpty", "()Z"⟩ : MethodName)) (z := (⟨"java/lang/String", "isEmpty", "()Z"⟩ : MethodName)) hown (wk hw 31 rfl) (wk hw 32 rfl) (notFace_of_selects (args := #[]) (mvT hZ (wk hw 34 rfl))) (wk hw 34 rfl) (wk hw 33 rfl) (wk hw 8 rfl) (wk hw 35 rfl) (by decide) (empL0 l Z a0 hw a1 t1 k1 n f h0 n0 O0 E1 F1 F2 Fa hpos) e0 E1 (g := (mkF m 1 #[.val (.ref a1)] [(.ref a1)])) rfl (by rw [hml]; rfl) (argsL := []) (rest := []) rfl (lenOf pd___Z rfl) rfl (W := 0) (by show 2 * 0 + _ ≤ _; exact Nat.le_of_eq rfl) (hb hby d5_1) (by decide) (by decide) (by decide) (by decide)
  have N394 := Fr.app N0 N393q
  have e393 := e393.trans r393_0
  refine Win.to T393 (mkF m 4 #[.val (.ref a1)] [(.int (0 : Int32))]) (fun _ k => st393 _ k) ?_
  refine Win.to T393 (mkF m 7 #[.val (.ref a1)] []) (fun _ k => XS.ifNo X393.here hx rfl (hb hby d5_4) rfl ((if0 _ _).trans (teq (show (0 : Int32) = (0 : Int32) from by decide)).2) k) ?_
  refine Win.to T393 (mkF m 8 #[.val (.ref a1)] [(.ref a1)]) (fun _ k => XS.aloadN X393.here hx rfl (hb hby d5_7) rfl rfl k) ?_
  refine Win.to T393 (mkF m 9 #[.val (.ref a1)] [(.int (0 : Int32)), (.ref a1)]) (fun _ k => XS.iconst X393.here hx rfl (hb hby d5_8) k) ?_
  refine Win.to T393 (mkF m 10 #[.val (.ref a1)] [(.ref a1), (.int (0 : Int32)), (.ref a1)]) (fun _ k => XS.aloadN X393.here hx rfl (hb hby d5_9) rfl rfl k) ?_
  obtain ⟨T395, h395, v395, L395, X395, e395, ⟨rfl, N395q, r395_0⟩, st395⟩ := N.virtual X393 hx hZ (y := (⟨"java/lang/String", "length", "()I"⟩ : MethodName)) (z := (⟨"java/lang/String", "length", "()I"⟩ : MethodName)) hown (wk hw 51 rfl) (wk hw 52 rfl) (notFace_of_selects (args := #[]) (mvT hZ (wk hw 54 rfl))) (wk hw 54 rfl) (wk hw 53 rfl) (wk hw 8 rfl) (wk hw 55 rfl) (by decide) (strLen l Z a0 hw a1 t1 k1 n f cs h0 n0 O0 E1 F1 F2 Fa S_CS hcs) e393 E1 (g := (mkF m 10 #[.val (.ref a1)] [(.ref a1), (.int (0 : Int32)), (.ref a1)])) rfl (by rw [hml]; rfl) (argsL := []) (rest := [(.int (0 : Int32)), (.ref a1)]) rfl (lenOf pd___I rfl) rfl (W := 2) (by show 2 * 0 + _ ≤ _; exact Nat.le_of_eq rfl) (hb hby d5_10) (by decide) (by decide) (by decide) (by decide)
  have N396 := Fr.app N394 N395q
  have e395 := e395.trans r395_0
  refine Win.to T395 (mkF m 13 #[.val (.ref a1)] [(.int n.toInt32), (.int (0 : Int32)), (.ref a1)]) (fun _ k => st395 _ k) ?_
  obtain ⟨T397, h397, v397, L397, X397, e397, ⟨rfl, N397q, r397_0⟩, st397⟩ := N.virtual X395 hx hZ (y := (⟨"java/lang/String", "codePointCount", "(II)I"⟩ : MethodName)) (z := (⟨"java/lang/String", "codePointCount", "(II)I"⟩ : MethodName)) hown (wk hw 61 rfl) (wk hw 62 rfl) (notFace_of_selects (args := #[]) (mvT hZ (wk hw 64 rfl))) (wk hw 64 rfl) (wk hw 63 rfl) (wk hw 8 rfl) (wk hw 65 rfl) (by decide) (cpcL l Z a0 hw a1 t1 k1 n f cs h0 n0 O0 E1 F1 F2 Fa S_CS hcs) e395 E1 (g := (mkF m 13 #[.val (.ref a1)] [(.int n.toInt32), (.int (0 : Int32)), (.ref a1)])) rfl (by rw [hml]; rfl) (argsL := [(.int (0 : Int32)), (.int n.toInt32)]) (rest := []) rfl (lenOf pd__II_I rfl) rfl (W := 0) (by show 2 * 0 + _ ≤ _; exact Nat.le_of_eq rfl) (hb hby d5_13) (by decide) (by decide) (by decide) (by decide)
  have N398 := Fr.app N396 N397q
  have e397 := e397.trans r397_0
  refine Win.to T397 (mkF m 16 #[.val (.ref a1)] [(.int n.toInt32)]) (fun _ k => st397 _ k) ?_
  refine Win.to T397 (mkF m 19 #[.val (.ref a1)] [(.int (512 : Int32)), (.int n.toInt32)]) (fun _ k => XS.sipush X397.here hx rfl (hb hby d5_16) k) ?_
  refine Win.to T397 (mkF m 22 #[.val (.ref a1)] []) (fun _ k => XS.icmpNo X397.here hx rfl (hb hby d5_19) rfl (flt (show ¬ ((512 : Int32) < n.toInt32) from (fun q => h512 ((own_lt (j := 512) (by decide) hn).mp q)))).2.2.1 k) ?_
  refine Win.to T397 (mkF m 23 #[.val (.ref a1)] [(.int (1 : Int32))]) (fun _ k => XS.iconst X397.here hx rfl (hb hby d5_22) k) ?_
  refine Win.to T397 (mkF m 27 #[.val (.ref a1)] [(.int (1 : Int32))]) (fun _ k => XS.goto X397.here hx rfl (pc0 := 23) (pc' := 27) rfl (hb hby d5_23) (by decide) (by decide) k) ?_
  exact Win.retN X397 hx hlk (t := .boolean) hret (by simp) rfl (hb hby d5_27) (by decide) (by decide) (by (try rw [e397]); exact ⟨rfl, N398, rfl⟩)
abbrev R_fitU1 : Room := ⟨4, 0, 0, 58⟩
set_option maxRecDepth 65536 in
set_option maxHeartbeats 40000000 in
theorem fitU1 (l : Launch) (Z : State) (a0 : Array Value) (hw : ∀ d ∈ tables_1, d.before a0 Z = true) (a1 : Addr) (t1 : Addr) (k1 : ClassId) (n : Nat) (f : Nat → Int32) (kp : Nat) (cs : Int32) (h0 : Heap) (n0 : Nat) (O0 : Old Z n0 h0) (E1 : Exa Z h0 a1 "java/lang/String") (F1 : Fld Z h0 a1 "java/lang/String" "value" "[B" (.ref t1)) (F2 : Fld Z h0 a1 "java/lang/String" "coder" "B" (.int (1 : Int32))) (Fa : ArF Z h0 t1 k1 .byte (2 * n) (u16 f)) (hrng : ∀ i, i < n → 0 ≤ (f i).toInt ∧ (f i).toInt < 65536) (hpos : 0 < n) (hk : cp f n n 0 = kp) (h512 : ¬ 512 < n - kp) (S_AD : Sta Z Z.heap "java/lang/StringUTF16" "$assertionsDisabled" "Z" (.int (1 : Int32))) (S_HI : Sta Z Z.heap "java/lang/StringUTF16" "HI_BYTE_SHIFT" "I" (.int (0 : Int32))) (S_LO : Sta Z Z.heap "java/lang/StringUTF16" "LO_BYTE_SHIFT" "I" (.int (8 : Int32))) (S_CS : Sta Z Z.heap "java/lang/String" "COMPACT_STRINGS" "Z" (.int cs)) (hcs : ¬ (cs = (0 : Int32))) :
    MetN l Z (⟨"com/example/usher/usher/lifecycle/ExecutionKey", "fits", "(Ljava/lang/String;)Z"⟩ : MethodName) prog_33_method_2_code 1 (some .boolean) R_fitU1 [] #[(.ref a1)] h0 (fun v h L => v = some (.int (1 : Int32)) ∧ Fr n0 L ∧ h = h0) := by
  refine MetN.walk (plainFor_of_name pn_5) ?_
  intro p e s m below meth c s₁ hx hZ hby hml hown hnm hret hlk X0 e0
  have N0 := Fr.nil n0
  refine Win.to s₁ (mkF m 0 #[.val (.ref a1)] []) (fun _ k => castTop (by first | (simp [entryFrame, mkF, argsToLocals, Value.category]; done) | rfl) k) ?_
  have hnb := Fa.big
  have hn : n - kp < 2 ^ 31 := by omega
  refine Win.to s₁ (mkF m 1 #[.val (.ref a1)] [(.ref a1)]) (fun _ k => XS.aloadN X0.here hx rfl (hb hby d5_0) rfl rfl k) ?_
  obtain ⟨T399, h399, v399, L399, X399, e399, ⟨rfl, N399q, r399_0⟩, st399⟩ := N.virtual X0 hx hZ (y := (⟨"java/lang/String", "isEmpty", "()Z"⟩ : MethodName)) (z := (⟨"java/lang/String", "isEmpty", "()Z"⟩ : MethodName)) hown (wk hw 31 rfl) (wk hw 32 rfl) (notFace_of_selects (args := #[]) (mvT hZ (wk hw 34 rfl))) (wk hw 34 rfl) (wk hw 33 rfl) (wk hw 8 rfl) (wk hw 35 rfl) (by decide) (empU l Z a0 hw a1 t1 k1 n f h0 n0 O0 E1 F1 F2 Fa hpos) e0 E1 (g := (mkF m 1 #[.val (.ref a1)] [(.ref a1)])) rfl (by rw [hml]; rfl) (argsL := []) (rest := []) rfl (lenOf pd___Z rfl) rfl (W := 0) (by show 2 * 0 + _ ≤ _; exact Nat.le_of_eq rfl) (hb hby d5_1) (by decide) (by decide) (by decide) (by decide)
  have N400 := Fr.app N0 N399q
  have e399 := e399.trans r399_0
  refine Win.to T399 (mkF m 4 #[.val (.ref a1)] [(.int (0 : Int32))]) (fun _ k => st399 _ k) ?_
  refine Win.to T399 (mkF m 7 #[.val (.ref a1)] []) (fun _ k => XS.ifNo X399.here hx rfl (hb hby d5_4) rfl ((if0 _ _).trans (teq (show (0 : Int32) = (0 : Int32) from by decide)).2) k) ?_
  refine Win.to T399 (mkF m 8 #[.val (.ref a1)] [(.ref a1)]) (fun _ k => XS.aloadN X399.here hx rfl (hb hby d5_7) rfl rfl k) ?_
  refine Win.to T399 (mkF m 9 #[.val (.ref a1)] [(.int (0 : Int32)), (.ref a1)]) (fun _ k => XS.iconst X399.here hx rfl (hb hby d5_8) k) ?_
  refine Win.to T399 (mkF m 10 #[.val (.ref a1)] [(.ref a1), (.int (0 : Int32)), (.ref a1)]) (fun _ k => XS.aloadN X399.here hx rfl (hb hby d5_9) rfl rfl k) ?_
  obtain ⟨T401, h401, v401, L401, X401, e401, ⟨rfl, N401q, r401_0⟩, st401⟩ := N.virtual X399 hx hZ (y := (⟨"java/lang/String", "length", "()I"⟩ : MethodName)) (z := (⟨"java/lang/String", "length", "()I"⟩ : MethodName)) hown (wk hw 51 rfl) (wk hw 52 rfl) (notFace_of_selects (args := #[]) (mvT hZ (wk hw 54 rfl))) (wk hw 54 rfl) (wk hw 53 rfl) (wk hw 8 rfl) (wk hw 55 rfl) (by decide) (strLen1 l Z a0 hw a1 t1 k1 n f cs h0 n0 O0 E1 F1 F2 Fa S_CS hcs) e399 E1 (g := (mkF m 10 #[.val (.ref a1)] [(.ref a1), (.int (0 : Int32)), (.ref a1)])) rfl (by rw [hml]; rfl) (argsL := []) (rest := [(.int (0 : Int32)), (.ref a1)]) rfl (lenOf pd___I rfl) rfl (W := 2) (by show 2 * 0 + _ ≤ _; exact Nat.le_of_eq rfl) (hb hby d5_10) (by decide) (by decide) (by decide) (by decide)
  have N402 := Fr.app N400 N401q
  have e401 := e401.trans r401_0
  refine Win.to T401 (mkF m 13 #[.val (.ref a1)] [(.int n.toInt32), (.int (0 : Int32)), (.ref a1)]) (fun _ k => st401 _ k) ?_
  obtain ⟨T403, h403, v403, L403, X403, e403, ⟨rfl, N403q, r403_0⟩, st403⟩ := N.virtual X401 hx hZ (y := (⟨"java/lang/String", "codePointCount", "(II)I"⟩ : MethodName)) (z := (⟨"java/lang/String", "codePointCount", "(II)I"⟩ : MethodName)) hown (wk hw 61 rfl) (wk hw 62 rfl) (notFace_of_selects (args := #[]) (mvT hZ (wk hw 64 rfl))) (wk hw 64 rfl) (wk hw 63 rfl) (wk hw 8 rfl) (wk hw 65 rfl) (by decide) (cpcU l Z a0 hw a1 t1 k1 n f kp cs h0 n0 O0 E1 F1 F2 Fa hrng hpos hk S_AD S_HI S_LO S_CS hcs) e401 E1 (g := (mkF m 13 #[.val (.ref a1)] [(.int n.toInt32), (.int (0 : Int32)), (.ref a1)])) rfl (by rw [hml]; rfl) (argsL := [(.int (0 : Int32)), (.int n.toInt32)]) (rest := []) rfl (lenOf pd__II_I rfl) rfl (W := 0) (by show 2 * 0 + _ ≤ _; exact Nat.le_of_eq rfl) (hb hby d5_13) (by decide) (by decide) (by decide) (by decide)
  have N404 := Fr.app N402 N403q
  have e403 := e403.trans r403_0
  refine Win.to T403 (mkF m 16 #[.val (.ref a1)] [(.int (n - kp).toInt32)]) (fun _ k => st403 _ k) ?_
  refine Win.to T403 (mkF m 19 #[.val (.ref a1)] [(.int (512 : Int32)), (.int (n - kp).toInt32)]) (fun _ k => XS.sipush X403.here hx rfl (hb hby d5_16) k) ?_
  refine Win.to T403 (mkF m 22 #[.val (.ref a1)] []) (fun _ k => XS.icmpNo X403.here hx rfl (hb hby d5_19) rfl (flt (show ¬ ((512 : Int32) < (n - kp).toInt32) from (fun q => h512 ((own_lt (j := 512) (by decide) hn).mp q)))).2.2.1 k) ?_
  refine Win.to T403 (mkF m 23 #[.val (.ref a1)] [(.int (1 : Int32))]) (fun _ k => XS.iconst X403.here hx rfl (hb hby d5_22) k) ?_
  refine Win.to T403 (mkF m 27 #[.val (.ref a1)] [(.int (1 : Int32))]) (fun _ k => XS.goto X403.here hx rfl (pc0 := 23) (pc' := 27) rfl (hb hby d5_23) (by decide) (by decide) k) ?_
  exact Win.retN X403 hx hlk (t := .boolean) hret (by simp) rfl (hb hby d5_27) (by decide) (by decide) (by (try rw [e403]); exact ⟨rfl, N404, rfl⟩)
abbrev R_draw : Room := ⟨0, 0, 0, 0⟩
set_option maxRecDepth 65536 in
set_option maxHeartbeats 40000000 in
theorem draw (l : Launch) (Z : State) (a0 : Array Value) (hw : ∀ d ∈ tables_1, d.before a0 Z = true) (p1 : Int32) (h0 : Heap) (n0 : Nat) (O0 : Old Z n0 h0)  :
    MetN l Z (⟨"com/example/usher/usher/lifecycle/ExecutionKeyFitsPinLaw", "draw", "(I)C"⟩ : MethodName) method_2_code 1 (some .char) R_draw [] #[(.int p1)] h0 (fun v h L => ∃ (c : Int32), v = some (.int c) ∧ Fr n0 L ∧ h = h0 ∧ (nar .char c = c)) := by
  refine MetN.walk (plainFor_of_name pn_1) ?_
  intro p e s m below meth c s₁ hx hZ hby hml hown hnm hret hlk X0 e0
  have N0 := Fr.nil n0
  refine Win.to s₁ (mkF m 0 #[.val (.int p1)] []) (fun _ k => castTop (by first | (simp [entryFrame, mkF, argsToLocals, Value.category]; done) | rfl) k) ?_
  refine Win.to s₁ (mkF m 1 #[.val (.int p1)] [(.int p1)]) (fun _ k => XS.iloadN X0.here hx rfl (hb hby d1_0) rfl k) ?_
  refine Win.to s₁ (mkF m 3 #[.val (.int p1)] [(.int (16 : Int32)), (.int p1)]) (fun _ k => XS.bipush X0.here hx rfl (hb hby d1_1) k) ?_
  refine Win.to s₁ (mkF m 4 #[.val (.int p1)] [(.int ((p1.toUInt32 >>> ((16 : Int32) &&& 31).toUInt32).toInt32))]) (fun _ k => XS.iushr X0.here hx rfl (hb hby d1_3) rfl k) ?_
  refine Win.to s₁ (mkF m 5 #[.val (.int p1)] [(.int (1 : Int32)), (.int ((p1.toUInt32 >>> ((16 : Int32) &&& 31).toUInt32).toInt32))]) (fun _ k => XS.iconst X0.here hx rfl (hb hby d1_4) k) ?_
  refine Win.to s₁ (mkF m 6 #[.val (.int p1)] [(.int (((p1.toUInt32 >>> ((16 : Int32) &&& 31).toUInt32).toInt32) &&& (1 : Int32)))]) (fun _ k => XS.iand X0.here hx rfl (hb hby d1_5) rfl k) ?_
  by_cases hc405 : (((p1.toUInt32 >>> ((16 : Int32) &&& 31).toUInt32).toInt32) &&& (1 : Int32)) = (0 : Int32)
  · refine Win.to s₁ (mkF m 19 #[.val (.int p1)] []) (fun _ k => XS.ifYes X0.here hx rfl (pc0 := 6) (pc' := 19) rfl (hb hby d1_6) rfl ((if0 _ _).trans (teq hc405).1) (by decide) (by decide) k) ?_
    refine Win.to s₁ (mkF m 20 #[.val (.int p1)] [(.int p1)]) (fun _ k => XS.iloadN X0.here hx rfl (hb hby d1_19) rfl k) ?_
    refine Win.to s₁ (mkF m 22 #[.val (.int p1)] [(.int (65535 : Int32)), (.int p1)]) (fun _ k => X0.ldcInt hx hown (mvT hZ (wk hw 4 rfl)) (g := (mkF m 20 #[.val (.int p1)] [(.int p1)])) rfl (hb hby d1_20) _ k) ?_
    refine Win.to s₁ (mkF m 23 #[.val (.int p1)] [(.int (p1 &&& (65535 : Int32)))]) (fun _ k => XS.iand X0.here hx rfl (hb hby d1_22) rfl k) ?_
    refine Win.to s₁ (mkF m 24 #[.val (.int p1)] [(.int ((p1 &&& (65535 : Int32)).toUInt32.toUInt16.toUInt32.toInt32))]) (fun _ k => XS.i2c X0.here hx rfl (hb hby d1_23) rfl k) ?_
    exact Win.retN X0 hx hlk (t := .char) hret (by simp) (show nar .char ((p1 &&& (65535 : Int32)).toUInt32.toUInt16.toUInt32.toInt32) = ((p1 &&& (65535 : Int32)).toUInt32.toUInt16.toUInt32.toInt32) from (own_c16 (p1 &&& (65535 : Int32)))) (hb hby d1_24) (by decide) (by decide) (by (try rw [e0]); exact ⟨((p1 &&& (65535 : Int32)).toUInt32.toUInt16.toUInt32.toInt32), rfl, N0, rfl, (own_c16 (p1 &&& (65535 : Int32)))⟩)
  · refine Win.to s₁ (mkF m 9 #[.val (.int p1)] []) (fun _ k => XS.ifNo X0.here hx rfl (hb hby d1_6) rfl ((if0 _ _).trans (feq hc405).1) k) ?_
    refine Win.to s₁ (mkF m 11 #[.val (.int p1)] [(.int (55296 : Int32))]) (fun _ k => X0.ldcInt hx hown (mvT hZ (wk hw 39 rfl)) (g := (mkF m 9 #[.val (.int p1)] [])) rfl (hb hby d1_9) _ k) ?_
    refine Win.to s₁ (mkF m 12 #[.val (.int p1)] [(.int p1), (.int (55296 : Int32))]) (fun _ k => XS.iloadN X0.here hx rfl (hb hby d1_11) rfl k) ?_
    refine Win.to s₁ (mkF m 15 #[.val (.int p1)] [(.int (2047 : Int32)), (.int p1), (.int (55296 : Int32))]) (fun _ k => XS.sipush X0.here hx rfl (hb hby d1_12) k) ?_
    refine Win.to s₁ (mkF m 16 #[.val (.int p1)] [(.int (p1 &&& (2047 : Int32))), (.int (55296 : Int32))]) (fun _ k => XS.iand X0.here hx rfl (hb hby d1_15) rfl k) ?_
    refine Win.to s₁ (mkF m 17 #[.val (.int p1)] [(.int ((55296 : Int32) + (p1 &&& (2047 : Int32))))]) (fun _ k => XS.iadd X0.here hx rfl (hb hby d1_16) rfl k) ?_
    refine Win.to s₁ (mkF m 18 #[.val (.int p1)] [(.int (((55296 : Int32) + (p1 &&& (2047 : Int32))).toUInt32.toUInt16.toUInt32.toInt32))]) (fun _ k => XS.i2c X0.here hx rfl (hb hby d1_17) rfl k) ?_
    exact Win.retN X0 hx hlk (t := .char) hret (by simp) (show nar .char (((55296 : Int32) + (p1 &&& (2047 : Int32))).toUInt32.toUInt16.toUInt32.toInt32) = (((55296 : Int32) + (p1 &&& (2047 : Int32))).toUInt32.toUInt16.toUInt32.toInt32) from (own_c16 ((55296 : Int32) + (p1 &&& (2047 : Int32))))) (hb hby d1_18) (by decide) (by decide) (by (try rw [e0]); exact ⟨(((55296 : Int32) + (p1 &&& (2047 : Int32))).toUInt32.toUInt16.toUInt32.toInt32), rfl, N0, rfl, (own_c16 ((55296 : Int32) + (p1 &&& (2047 : Int32))))⟩)
set_option maxRecDepth 65536 in
set_option maxHeartbeats 40000000 in
theorem rm0 (l : Launch) (Z : State) (a0 : Array Value) (hw : ∀ d ∈ tables_1, d.before a0 Z = true) (ws : List Jvm.Cond) (p0 : Int32) (p1 : Int32) (p2 : Int32) (p3 : Int32) (p4 : Int32) (cs : Int32) (h0 : Heap) (n0 : Nat) (O0 : Old Z n0 h0) (S_CS : Sta Z Z.heap "java/lang/String" "COMPACT_STRINGS" "Z" (.int cs)) (hcs : ¬ (cs = (0 : Int32))) (S_AD : Sta Z Z.heap "java/lang/StringUTF16" "$assertionsDisabled" "Z" (.int (1 : Int32))) (S_HI : Sta Z Z.heap "java/lang/StringUTF16" "HI_BYTE_SHIFT" "I" (.int (0 : Int32))) (S_LO : Sta Z Z.heap "java/lang/StringUTF16" "LO_BYTE_SHIFT" "I" (.int (8 : Int32))) :
    MetW l Z x code maxLocals ret room_1 ws #[(.int p0), (.int p1), (.int p2), (.int p3), (.int p4)] h0 EL1 (fun v h L => v = some (.int (1 : Int32)) ∧ Fr n0 L ∧ (True)) := by
  refine MetW.walk (plainFor_of_name pn_0) ?_
  intro p e s m below meth c s₁ hx hZ hby hml hown hnm hret hlk C0 hS0 X0 e0
  have N0 := Fr.nil n0
  refine WinW.to s₁ (mkF m 0 #[.val (.int p0), .val (.int p1), .val (.int p2), .val (.int p3), .val (.int p4), .unset, .unset, .unset, .unset, .unset, .unset, .unset, .unset] []) (fun _ k => castTop (by first | (simp [entryFrame, mkF, argsToLocals, Value.category, maxLocals]; done) | rfl) k) ?_
  refine WinW.to s₁ (mkF m 1 #[.val (.int p0), .val (.int p1), .val (.int p2), .val (.int p3), .val (.int p4), .unset, .unset, .unset, .unset, .unset, .unset, .unset, .unset] [(.int p0)]) (fun _ k => XS.iloadN X0.here hx rfl (hb hby at_0) rfl k) ?_
  refine WinW.to s₁ (mkF m 4 #[.val (.int p0), .val (.int p1), .val (.int p2), .val (.int p3), .val (.int p4), .unset, .unset, .unset, .unset, .unset, .unset, .unset, .unset] [(.int (1023 : Int32)), (.int p0)]) (fun _ k => XS.sipush X0.here hx rfl (hb hby at_1) k) ?_
  refine WinW.to s₁ (mkF m 5 #[.val (.int p0), .val (.int p1), .val (.int p2), .val (.int p3), .val (.int p4), .unset, .unset, .unset, .unset, .unset, .unset, .unset, .unset] [(.int (p0 &&& (1023 : Int32)))]) (fun _ k => XS.iand X0.here hx rfl (hb hby at_4) rfl k) ?_
  refine WinW.to s₁ (mkF m 7 #[.val (.int p0), .val (.int p1), .val (.int p2), .val (.int p3), .val (.int p4), .val (.int (p0 &&& (1023 : Int32))), .unset, .unset, .unset, .unset, .unset, .unset, .unset] []) (fun _ k => XS.istore X0.here hx rfl (hb hby at_5) rfl (l' := #[.val (.int p0), .val (.int p1), .val (.int p2), .val (.int p3), .val (.int p4), .val (.int (p0 &&& (1023 : Int32))), .unset, .unset, .unset, .unset, .unset, .unset, .unset]) rfl k) ?_
  obtain ⟨nn, hN, hle⟩ := own_1023 p0
  rw [hN]
  have hbn : nn < 2 ^ 31 := by omega
  refine WinW.to s₁ (mkF m 8 #[.val (.int p0), .val (.int p1), .val (.int p2), .val (.int p3), .val (.int p4), .val (.int nn.toInt32), .unset, .unset, .unset, .unset, .unset, .unset, .unset] [(.int p1)]) (fun _ k => XS.iloadN X0.here hx rfl (hb hby at_7) rfl k) ?_
  obtain ⟨T406, h406, v406, L406, X406, e406, ⟨c_406, rfl, N406q, r406_0, r406_1⟩, st406⟩ := N.static X0 hx hZ (y := (⟨"com/example/usher/usher/lifecycle/ExecutionKeyFitsPinLaw", "draw", "(I)C"⟩ : MethodName)) hown (wk hw 0 rfl) (wk hw 1 rfl) (wk hw 2 rfl) (wk hw 3 rfl) (by decide) (draw l Z a0 hw p1 h0 n0 O0 ) e0 (g := (mkF m 8 #[.val (.int p0), .val (.int p1), .val (.int p2), .val (.int p3), .val (.int p4), .val (.int nn.toInt32), .unset, .unset, .unset, .unset, .unset, .unset, .unset] [(.int p1)])) rfl (by rw [hml]; rfl) (argsL := [(.int p1)]) (rest := []) rfl (lenOf pd__I_C rfl) rfl (W := 0) (by show 2 * 0 + _ ≤ _; exact Nat.le_of_eq rfl) (hb hby at_8) (by decide) (by decide) (by decide) (by decide)
  have N407 := Fr.app N0 N406q
  have e406 := e406.trans r406_0
  refine WinW.to T406 (mkF m 11 #[.val (.int p0), .val (.int p1), .val (.int p2), .val (.int p3), .val (.int p4), .val (.int nn.toInt32), .unset, .unset, .unset, .unset, .unset, .unset, .unset] [(.int c_406)]) (fun _ k => st406 _ k) ?_
  refine WinW.to T406 (mkF m 13 #[.val (.int p0), .val (.int p1), .val (.int p2), .val (.int p3), .val (.int p4), .val (.int nn.toInt32), .val (.int c_406), .unset, .unset, .unset, .unset, .unset, .unset] []) (fun _ k => XS.istore X406.here hx rfl (hb hby at_11) rfl (l' := #[.val (.int p0), .val (.int p1), .val (.int p2), .val (.int p3), .val (.int p4), .val (.int nn.toInt32), .val (.int c_406), .unset, .unset, .unset, .unset, .unset, .unset]) rfl k) ?_
  refine WinW.to T406 (mkF m 14 #[.val (.int p0), .val (.int p1), .val (.int p2), .val (.int p3), .val (.int p4), .val (.int nn.toInt32), .val (.int c_406), .unset, .unset, .unset, .unset, .unset, .unset] [(.int p2)]) (fun _ k => XS.iloadN X406.here hx rfl (hb hby at_13) rfl k) ?_
  obtain ⟨T408, h408, v408, L408, X408, e408, ⟨c_408, rfl, N408q, r408_0, r408_1⟩, st408⟩ := N.static X406 hx hZ (y := (⟨"com/example/usher/usher/lifecycle/ExecutionKeyFitsPinLaw", "draw", "(I)C"⟩ : MethodName)) hown (wk hw 0 rfl) (wk hw 1 rfl) (wk hw 2 rfl) (wk hw 3 rfl) (by decide) (draw l Z a0 hw p2 h0 n0 O0 ) e406 (g := (mkF m 14 #[.val (.int p0), .val (.int p1), .val (.int p2), .val (.int p3), .val (.int p4), .val (.int nn.toInt32), .val (.int c_406), .unset, .unset, .unset, .unset, .unset, .unset] [(.int p2)])) rfl (by rw [hml]; rfl) (argsL := [(.int p2)]) (rest := []) rfl (lenOf pd__I_C rfl) rfl (W := 0) (by show 2 * 0 + _ ≤ _; exact Nat.le_of_eq rfl) (hb hby at_14) (by decide) (by decide) (by decide) (by decide)
  have N409 := Fr.app N407 N408q
  have e408 := e408.trans r408_0
  refine WinW.to T408 (mkF m 17 #[.val (.int p0), .val (.int p1), .val (.int p2), .val (.int p3), .val (.int p4), .val (.int nn.toInt32), .val (.int c_406), .unset, .unset, .unset, .unset, .unset, .unset] [(.int c_408)]) (fun _ k => st408 _ k) ?_
  refine WinW.to T408 (mkF m 19 #[.val (.int p0), .val (.int p1), .val (.int p2), .val (.int p3), .val (.int p4), .val (.int nn.toInt32), .val (.int c_406), .val (.int c_408), .unset, .unset, .unset, .unset, .unset] []) (fun _ k => XS.istore X408.here hx rfl (hb hby at_17) rfl (l' := #[.val (.int p0), .val (.int p1), .val (.int p2), .val (.int p3), .val (.int p4), .val (.int nn.toInt32), .val (.int c_406), .val (.int c_408), .unset, .unset, .unset, .unset, .unset]) rfl k) ?_
  refine WinW.to T408 (mkF m 20 #[.val (.int p0), .val (.int p1), .val (.int p2), .val (.int p3), .val (.int p4), .val (.int nn.toInt32), .val (.int c_406), .val (.int c_408), .unset, .unset, .unset, .unset, .unset] [(.int p3)]) (fun _ k => XS.iloadN X408.here hx rfl (hb hby at_19) rfl k) ?_
  obtain ⟨T410, h410, v410, L410, X410, e410, ⟨c_410, rfl, N410q, r410_0, r410_1⟩, st410⟩ := N.static X408 hx hZ (y := (⟨"com/example/usher/usher/lifecycle/ExecutionKeyFitsPinLaw", "draw", "(I)C"⟩ : MethodName)) hown (wk hw 0 rfl) (wk hw 1 rfl) (wk hw 2 rfl) (wk hw 3 rfl) (by decide) (draw l Z a0 hw p3 h0 n0 O0 ) e408 (g := (mkF m 20 #[.val (.int p0), .val (.int p1), .val (.int p2), .val (.int p3), .val (.int p4), .val (.int nn.toInt32), .val (.int c_406), .val (.int c_408), .unset, .unset, .unset, .unset, .unset] [(.int p3)])) rfl (by rw [hml]; rfl) (argsL := [(.int p3)]) (rest := []) rfl (lenOf pd__I_C rfl) rfl (W := 0) (by show 2 * 0 + _ ≤ _; exact Nat.le_of_eq rfl) (hb hby at_20) (by decide) (by decide) (by decide) (by decide)
  have N411 := Fr.app N409 N410q
  have e410 := e410.trans r410_0
  refine WinW.to T410 (mkF m 23 #[.val (.int p0), .val (.int p1), .val (.int p2), .val (.int p3), .val (.int p4), .val (.int nn.toInt32), .val (.int c_406), .val (.int c_408), .unset, .unset, .unset, .unset, .unset] [(.int c_410)]) (fun _ k => st410 _ k) ?_
  refine WinW.to T410 (mkF m 25 #[.val (.int p0), .val (.int p1), .val (.int p2), .val (.int p3), .val (.int p4), .val (.int nn.toInt32), .val (.int c_406), .val (.int c_408), .val (.int c_410), .unset, .unset, .unset, .unset] []) (fun _ k => XS.istore X410.here hx rfl (hb hby at_23) rfl (l' := #[.val (.int p0), .val (.int p1), .val (.int p2), .val (.int p3), .val (.int p4), .val (.int nn.toInt32), .val (.int c_406), .val (.int c_408), .val (.int c_410), .unset, .unset, .unset, .unset]) rfl k) ?_
  refine WinW.to T410 (mkF m 27 #[.val (.int p0), .val (.int p1), .val (.int p2), .val (.int p3), .val (.int p4), .val (.int nn.toInt32), .val (.int c_406), .val (.int c_408), .val (.int c_410), .unset, .unset, .unset, .unset] [(.int p4)]) (fun _ k => XS.iload X410.here hx rfl (hb hby at_25) rfl k) ?_
  obtain ⟨T412, h412, v412, L412, X412, e412, ⟨c_412, rfl, N412q, r412_0, r412_1⟩, st412⟩ := N.static X410 hx hZ (y := (⟨"com/example/usher/usher/lifecycle/ExecutionKeyFitsPinLaw", "draw", "(I)C"⟩ : MethodName)) hown (wk hw 0 rfl) (wk hw 1 rfl) (wk hw 2 rfl) (wk hw 3 rfl) (by decide) (draw l Z a0 hw p4 h0 n0 O0 ) e410 (g := (mkF m 27 #[.val (.int p0), .val (.int p1), .val (.int p2), .val (.int p3), .val (.int p4), .val (.int nn.toInt32), .val (.int c_406), .val (.int c_408), .val (.int c_410), .unset, .unset, .unset, .unset] [(.int p4)])) rfl (by rw [hml]; rfl) (argsL := [(.int p4)]) (rest := []) rfl (lenOf pd__I_C rfl) rfl (W := 0) (by show 2 * 0 + _ ≤ _; exact Nat.le_of_eq rfl) (hb hby at_27) (by decide) (by decide) (by decide) (by decide)
  have N413 := Fr.app N411 N412q
  have e412 := e412.trans r412_0
  refine WinW.to T412 (mkF m 30 #[.val (.int p0), .val (.int p1), .val (.int p2), .val (.int p3), .val (.int p4), .val (.int nn.toInt32), .val (.int c_406), .val (.int c_408), .val (.int c_410), .unset, .unset, .unset, .unset] [(.int c_412)]) (fun _ k => st412 _ k) ?_
  refine WinW.to T412 (mkF m 32 #[.val (.int p0), .val (.int p1), .val (.int p2), .val (.int p3), .val (.int p4), .val (.int nn.toInt32), .val (.int c_406), .val (.int c_408), .val (.int c_410), .val (.int c_412), .unset, .unset, .unset] []) (fun _ k => XS.istore X412.here hx rfl (hb hby at_30) rfl (l' := #[.val (.int p0), .val (.int p1), .val (.int p2), .val (.int p3), .val (.int p4), .val (.int nn.toInt32), .val (.int c_406), .val (.int c_408), .val (.int c_410), .val (.int c_412), .unset, .unset, .unset]) rfl k) ?_
  refine WinW.to T412 (mkF m 34 #[.val (.int p0), .val (.int p1), .val (.int p2), .val (.int p3), .val (.int p4), .val (.int nn.toInt32), .val (.int c_406), .val (.int c_408), .val (.int c_410), .val (.int c_412), .unset, .unset, .unset] [(.int nn.toInt32)]) (fun _ k => XS.iload X412.here hx rfl (hb hby at_32) rfl k) ?_
  obtain ⟨T414, h414, k414, X414, e414, E414, A414, st414⟩ := newP X412 hx hZ (wk hw 5 rfl) e412 (g := (mkF m 34 #[.val (.int p0), .val (.int p1), .val (.int p2), .val (.int p3), .val (.int p4), .val (.int nn.toInt32), .val (.int c_406), .val (.int c_408), .val (.int c_410), .val (.int c_412), .unset, .unset, .unset] [(.int nn.toInt32)])) rfl (hb hby at_34) rfl (own_tn hbn).2.1 (cap := 1023) (by rw [(own_tn hbn).1]; exact hle) (by decide) (by decide) (by decide)
  obtain ⟨b414, g414⟩ : ∃ z, z = h0.size := ⟨_, rfl⟩
  rw [← g414] at A414 st414
  have g415 : n0 ≤ b414 := Nat.le_trans (own_le O0) (Nat.le_of_eq g414.symm)
  have z416 : h0.size ≤ b414 := (Nat.le_of_eq g414.symm)
  have O417 := Old.ext O0 E414
  have K418 : Keep h0 h414 [] := (Keep.refl h0 []).ext E414
  have c419 := CHr.ext E414 C0.1
  have C420 := CHr.trans C0 c419
  have F421 : ArF Z h414 b414 k414 .char nn (fun _ => 0) := (own_tn hbn).1 ▸ ArF.new A414 (own_tn hbn).2.1 rfl
  refine WinW.to T414 (mkF m 36 #[.val (.int p0), .val (.int p1), .val (.int p2), .val (.int p3), .val (.int p4), .val (.int nn.toInt32), .val (.int c_406), .val (.int c_408), .val (.int c_410), .val (.int c_412), .unset, .unset, .unset] [(.ref b414)]) (fun _ k => st414 _ k) ?_
  refine WinW.to T414 (mkF m 38 #[.val (.int p0), .val (.int p1), .val (.int p2), .val (.int p3), .val (.int p4), .val (.int nn.toInt32), .val (.int c_406), .val (.int c_408), .val (.int c_410), .val (.int c_412), .val (.ref b414), .unset, .unset] []) (fun _ k => XS.astore X414.here hx rfl (hb hby at_36) rfl rfl (l' := #[.val (.int p0), .val (.int p1), .val (.int p2), .val (.int p3), .val (.int p4), .val (.int nn.toInt32), .val (.int c_406), .val (.int c_408), .val (.int c_410), .val (.int c_412), .val (.ref b414), .unset, .unset]) rfl k) ?_
  rcases own_four nn with hc | hc | hc | hc
  · have hc' := hc
    refine WinW.to T414 (mkF m 40 #[.val (.int p0), .val (.int p1), .val (.int p2), .val (.int p3), .val (.int p4), .val (.int nn.toInt32), .val (.int c_406), .val (.int c_408), .val (.int c_410), .val (.int c_412), .val (.ref b414), .unset, .unset] [(.int nn.toInt32)]) (fun _ k => XS.iload X414.here hx rfl (hb hby at_38) rfl k) ?_
    refine WinW.to T414 (mkF m 41 #[.val (.int p0), .val (.int p1), .val (.int p2), .val (.int p3), .val (.int p4), .val (.int nn.toInt32), .val (.int c_406), .val (.int c_408), .val (.int c_410), .val (.int c_412), .val (.ref b414), .unset, .unset] [(.int (1 : Int32)), (.int nn.toInt32)]) (fun _ k => XS.iconst X414.here hx rfl (hb hby at_40) k) ?_
    refine WinW.to T414 (mkF m 50 #[.val (.int p0), .val (.int p1), .val (.int p2), .val (.int p3), .val (.int p4), .val (.int nn.toInt32), .val (.int c_406), .val (.int c_408), .val (.int c_410), .val (.int c_412), .val (.ref b414), .unset, .unset] []) (fun _ k => XS.icmpYes X414.here hx rfl (pc0 := 41) (pc' := 50) rfl (hb hby at_41) rfl (tlt (show nn.toInt32 < (1 : Int32) from ((own_lt (n := 1) hbn (by decide)).mpr (by omega)))).1 (by decide) (by decide) k) ?_
    refine WinW.to T414 (mkF m 52 #[.val (.int p0), .val (.int p1), .val (.int p2), .val (.int p3), .val (.int p4), .val (.int nn.toInt32), .val (.int c_406), .val (.int c_408), .val (.int c_410), .val (.int c_412), .val (.ref b414), .unset, .unset] [(.int nn.toInt32)]) (fun _ k => XS.iload X414.here hx rfl (hb hby at_50) rfl k) ?_
    refine WinW.to T414 (mkF m 53 #[.val (.int p0), .val (.int p1), .val (.int p2), .val (.int p3), .val (.int p4), .val (.int nn.toInt32), .val (.int c_406), .val (.int c_408), .val (.int c_410), .val (.int c_412), .val (.ref b414), .unset, .unset] [(.int (2 : Int32)), (.int nn.toInt32)]) (fun _ k => XS.iconst X414.here hx rfl (hb hby at_52) k) ?_
    refine WinW.to T414 (mkF m 62 #[.val (.int p0), .val (.int p1), .val (.int p2), .val (.int p3), .val (.int p4), .val (.int nn.toInt32), .val (.int c_406), .val (.int c_408), .val (.int c_410), .val (.int c_412), .val (.ref b414), .unset, .unset] []) (fun _ k => XS.icmpYes X414.here hx rfl (pc0 := 53) (pc' := 62) rfl (hb hby at_53) rfl (tlt (show nn.toInt32 < (2 : Int32) from ((own_lt (n := 2) hbn (by decide)).mpr (by omega)))).1 (by decide) (by decide) k) ?_
    refine WinW.to T414 (mkF m 64 #[.val (.int p0), .val (.int p1), .val (.int p2), .val (.int p3), .val (.int p4), .val (.int nn.toInt32), .val (.int c_406), .val (.int c_408), .val (.int c_410), .val (.int c_412), .val (.ref b414), .unset, .unset] [(.int nn.toInt32)]) (fun _ k => XS.iload X414.here hx rfl (hb hby at_62) rfl k) ?_
    refine WinW.to T414 (mkF m 65 #[.val (.int p0), .val (.int p1), .val (.int p2), .val (.int p3), .val (.int p4), .val (.int nn.toInt32), .val (.int c_406), .val (.int c_408), .val (.int c_410), .val (.int c_412), .val (.ref b414), .unset, .unset] [(.int (5 : Int32)), (.int nn.toInt32)]) (fun _ k => XS.iconst X414.here hx rfl (hb hby at_64) k) ?_
    refine WinW.to T414 (mkF m 86 #[.val (.int p0), .val (.int p1), .val (.int p2), .val (.int p3), .val (.int p4), .val (.int nn.toInt32), .val (.int c_406), .val (.int c_408), .val (.int c_410), .val (.int c_412), .val (.ref b414), .unset, .unset] []) (fun _ k => XS.icmpYes X414.here hx rfl (pc0 := 65) (pc' := 86) rfl (hb hby at_65) rfl (tlt (show nn.toInt32 < (5 : Int32) from ((own_lt (n := 5) hbn (by decide)).mpr (by omega)))).1 (by decide) (by decide) k) ?_
    refine WinW.to T414 (mkF m 87 #[.val (.int p0), .val (.int p1), .val (.int p2), .val (.int p3), .val (.int p4), .val (.int nn.toInt32), .val (.int c_406), .val (.int c_408), .val (.int c_410), .val (.int c_412), .val (.ref b414), .unset, .unset] [(.int (0 : Int32))]) (fun _ k => XS.iconst X414.here hx rfl (hb hby at_86) k) ?_
    refine WinW.to T414 (mkF m 89 #[.val (.int p0), .val (.int p1), .val (.int p2), .val (.int p3), .val (.int p4), .val (.int nn.toInt32), .val (.int c_406), .val (.int c_408), .val (.int c_410), .val (.int c_412), .val (.ref b414), .val (.int (0 : Int32)), .unset] []) (fun _ k => XS.istore X414.here hx rfl (hb hby at_87) rfl (l' := #[.val (.int p0), .val (.int p1), .val (.int p2), .val (.int p3), .val (.int p4), .val (.int nn.toInt32), .val (.int c_406), .val (.int c_408), .val (.int c_410), .val (.int c_412), .val (.ref b414), .val (.int (0 : Int32)), .unset]) rfl k) ?_
    refine WinW.to T414 (mkF m 91 #[.val (.int p0), .val (.int p1), .val (.int p2), .val (.int p3), .val (.int p4), .val (.int nn.toInt32), .val (.int c_406), .val (.int c_408), .val (.int c_410), .val (.int c_412), .val (.ref b414), .val (.int (0 : Int32)), .unset] [(.int nn.toInt32)]) (fun _ k => XS.iload X414.here hx rfl (hb hby at_89) rfl k) ?_
    refine WinW.to T414 (mkF m 92 #[.val (.int p0), .val (.int p1), .val (.int p2), .val (.int p3), .val (.int p4), .val (.int nn.toInt32), .val (.int c_406), .val (.int c_408), .val (.int c_410), .val (.int c_412), .val (.ref b414), .val (.int (0 : Int32)), .unset] [(.int (2 : Int32)), (.int nn.toInt32)]) (fun _ k => XS.iconst X414.here hx rfl (hb hby at_91) k) ?_
    refine WinW.to T414 (mkF m 117 #[.val (.int p0), .val (.int p1), .val (.int p2), .val (.int p3), .val (.int p4), .val (.int nn.toInt32), .val (.int c_406), .val (.int c_408), .val (.int c_410), .val (.int c_412), .val (.ref b414), .val (.int (0 : Int32)), .unset] []) (fun _ k => XS.icmpYes X414.here hx rfl (pc0 := 92) (pc' := 117) rfl (hb hby at_92) rfl (tlt (show nn.toInt32 < (2 : Int32) from ((own_lt (n := 2) hbn (by decide)).mpr (by omega)))).1 (by decide) (by decide) k) ?_
    refine WinW.to T414 (mkF m 119 #[.val (.int p0), .val (.int p1), .val (.int p2), .val (.int p3), .val (.int p4), .val (.int nn.toInt32), .val (.int c_406), .val (.int c_408), .val (.int c_410), .val (.int c_412), .val (.ref b414), .val (.int (0 : Int32)), .unset] [(.int nn.toInt32)]) (fun _ k => XS.iload X414.here hx rfl (hb hby at_117) rfl k) ?_
    refine WinW.to T414 (mkF m 120 #[.val (.int p0), .val (.int p1), .val (.int p2), .val (.int p3), .val (.int p4), .val (.int nn.toInt32), .val (.int c_406), .val (.int c_408), .val (.int c_410), .val (.int c_412), .val (.ref b414), .val (.int (0 : Int32)), .unset] [(.int (5 : Int32)), (.int nn.toInt32)]) (fun _ k => XS.iconst X414.here hx rfl (hb hby at_119) k) ?_
    refine WinW.to T414 (mkF m 145 #[.val (.int p0), .val (.int p1), .val (.int p2), .val (.int p3), .val (.int p4), .val (.int nn.toInt32), .val (.int c_406), .val (.int c_408), .val (.int c_410), .val (.int c_412), .val (.ref b414), .val (.int (0 : Int32)), .unset] []) (fun _ k => XS.icmpYes X414.here hx rfl (pc0 := 120) (pc' := 145) rfl (hb hby at_120) rfl (tlt (show nn.toInt32 < (5 : Int32) from ((own_lt (n := 5) hbn (by decide)).mpr (by omega)))).1 (by decide) (by decide) k) ?_
    refine WinW.to T414 (mkF m 147 #[.val (.int p0), .val (.int p1), .val (.int p2), .val (.int p3), .val (.int p4), .val (.int nn.toInt32), .val (.int c_406), .val (.int c_408), .val (.int c_410), .val (.int c_412), .val (.ref b414), .val (.int (0 : Int32)), .unset] [(.int nn.toInt32)]) (fun _ k => XS.iload X414.here hx rfl (hb hby at_145) rfl k) ?_
    refine WinW.to T414 (mkF m 148 #[.val (.int p0), .val (.int p1), .val (.int p2), .val (.int p3), .val (.int p4), .val (.int nn.toInt32), .val (.int c_406), .val (.int c_408), .val (.int c_410), .val (.int c_412), .val (.ref b414), .val (.int (0 : Int32)), .unset] [(.int (1 : Int32)), (.int nn.toInt32)]) (fun _ k => XS.iconst X414.here hx rfl (hb hby at_147) k) ?_
    refine WinW.to T414 (mkF m 166 #[.val (.int p0), .val (.int p1), .val (.int p2), .val (.int p3), .val (.int p4), .val (.int nn.toInt32), .val (.int c_406), .val (.int c_408), .val (.int c_410), .val (.int c_412), .val (.ref b414), .val (.int (0 : Int32)), .unset] []) (fun _ k => XS.icmpYes X414.here hx rfl (pc0 := 148) (pc' := 166) rfl (hb hby at_148) rfl (tlt (show nn.toInt32 < (1 : Int32) from ((own_lt (n := 1) hbn (by decide)).mpr (by omega)))).1 (by decide) (by decide) k) ?_
    refine WinW.to T414 (mkF m 167 #[.val (.int p0), .val (.int p1), .val (.int p2), .val (.int p3), .val (.int p4), .val (.int nn.toInt32), .val (.int c_406), .val (.int c_408), .val (.int c_410), .val (.int c_412), .val (.ref b414), .val (.int (0 : Int32)), .unset] [(.int (0 : Int32))]) (fun _ k => XS.iconst X414.here hx rfl (hb hby at_166) k) ?_
    refine WinW.to T414 (mkF m 169 #[.val (.int p0), .val (.int p1), .val (.int p2), .val (.int p3), .val (.int p4), .val (.int nn.toInt32), .val (.int c_406), .val (.int c_408), .val (.int c_410), .val (.int c_412), .val (.ref b414), .val (.int (0 : Int32)), .val (.int (0 : Int32))] []) (fun _ k => XS.istore X414.here hx rfl (hb hby at_167) rfl (l' := #[.val (.int p0), .val (.int p1), .val (.int p2), .val (.int p3), .val (.int p4), .val (.int nn.toInt32), .val (.int c_406), .val (.int c_408), .val (.int c_410), .val (.int c_412), .val (.ref b414), .val (.int (0 : Int32)), .val (.int (0 : Int32))]) rfl k) ?_
    obtain ⟨T422, h422, X422, e422, E422, A422, D422, -, st422⟩ := newO X414 hx hZ hown (wk hw 6 rfl) (wk hw 7 rfl) (wk hw 8 rfl) e414 (g := (mkF m 169 #[.val (.int p0), .val (.int p1), .val (.int p2), .val (.int p3), .val (.int p4), .val (.int nn.toInt32), .val (.int c_406), .val (.int c_408), .val (.int c_410), .val (.int c_412), .val (.ref b414), .val (.int (0 : Int32)), .val (.int (0 : Int32))] [])) rfl (hb hby at_169) (by decide) (by decide)
    obtain ⟨b422, g422⟩ : ∃ z, z = h414.size := ⟨_, rfl⟩
    rw [← g422] at A422 D422 st422
    have ne423 : b414 ≠ b422 := Nat.ne_of_lt (Nat.lt_of_lt_of_le F421.lt (Nat.le_of_eq g422.symm))
    have g424 : n0 ≤ b422 := Nat.le_trans (own_le O417) (Nat.le_of_eq g422.symm)
    have z425 : h0.size ≤ b422 := Nat.le_trans K418.1 (Nat.le_of_eq g422.symm)
    have O426 := Old.ext O417 E422
    have K427 : Keep h0 h422 [] := K418.ext E422
    have c428 := CHr.ext E422 C420.1
    have C429 := CHr.trans C420 c428
    have F430 : Fld Z h422 b422 "java/lang/String" "value" "[B" .null := D422 (Or.inr (wk hw 21 rfl)) (ty := (.array .byte)) (by decide)
    have F431 : Fld Z h422 b422 "java/lang/String" "coder" "B" (.int (0 : Int32)) := D422 (Or.inr (wk hw 22 rfl)) (ty := .byte) (by decide)
    refine WinW.to T422 (mkF m 172 #[.val (.int p0), .val (.int p1), .val (.int p2), .val (.int p3), .val (.int p4), .val (.int nn.toInt32), .val (.int c_406), .val (.int c_408), .val (.int c_410), .val (.int c_412), .val (.ref b414), .val (.int (0 : Int32)), .val (.int (0 : Int32))] [(.ref b422)]) (fun _ k => st422 _ k) ?_
    refine WinW.to T422 (mkF m 173 #[.val (.int p0), .val (.int p1), .val (.int p2), .val (.int p3), .val (.int p4), .val (.int nn.toInt32), .val (.int c_406), .val (.int c_408), .val (.int c_410), .val (.int c_412), .val (.ref b414), .val (.int (0 : Int32)), .val (.int (0 : Int32))] [(.ref b422), (.ref b422)]) (fun _ k => XS.dup X422.here hx rfl (hb hby at_172) rfl rfl k) ?_
    refine WinW.to T422 (mkF m 175 #[.val (.int p0), .val (.int p1), .val (.int p2), .val (.int p3), .val (.int p4), .val (.int nn.toInt32), .val (.int c_406), .val (.int c_408), .val (.int c_410), .val (.int c_412), .val (.ref b414), .val (.int (0 : Int32)), .val (.int (0 : Int32))] [(.ref b414), (.ref b422), (.ref b422)]) (fun _ k => XS.aload X422.here hx rfl (hb hby at_173) rfl rfl k) ?_
    have F432 : ArF Z h422 b414 k414 .char nn (fun _ => 0) := (F421.ext E422)
    obtain ⟨T433, h433, v433, L433, k433, X433, e433, hS433, hk433, hZ433, hown433, ⟨t_433, kb_433, rfl, N433q, r433_0, r433_1, r433_2, r433_3⟩, c433, st433⟩ := W.special X422 hS0 (Nat.zero_le _) hx hZ (y := (⟨"java/lang/String", "<init>", "([C)V"⟩ : MethodName)) rfl hown (wk hw 9 rfl) (wk hw 10 rfl) (wk hw 8 rfl) (wk hw 11 rfl) (by decide) (ctor1 l Z a0 hw b422 b414 k414 nn (fun _ => 0) cs h422 n0 O426 A422 F430 F431 F432 (fun i hi => absurd hi (by omega)) hle g424 S_CS hcs) (own_EW hw) C429.1 e422 (g := (mkF m 175 #[.val (.int p0), .val (.int p1), .val (.int p2), .val (.int p3), .val (.int p4), .val (.int nn.toInt32), .val (.int c_406), .val (.int c_408), .val (.int c_410), .val (.int c_412), .val (.ref b414), .val (.int (0 : Int32)), .val (.int (0 : Int32))] [(.ref b414), (.ref b422), (.ref b422)])) rfl (by rw [hml]; rfl) (a := b422) (argsL := [(.ref b414)]) (rest := [(.ref b422)]) rfl (lenOf pd___C_V rfl) rfl (W := 1) (by show 2 * 0 + _ ≤ _; exact Nat.le_of_eq rfl) (hb hby at_175) (by decide) (by decide) (by decide) (by decide)
    have N434 := Fr.app N413 N433q
    have O435 := Old.keep O426 r433_0 (allS g424 all0)
    have K436 : Keep h0 h433 [] := Keep.trans K427 r433_0 (allS (Or.inr z425) all0)
    have c437 := c433
    have C438 := CHr.trans C429 c437
    refine WinW.to T433 (mkF m 178 #[.val (.int p0), .val (.int p1), .val (.int p2), .val (.int p3), .val (.int p4), .val (.int nn.toInt32), .val (.int c_406), .val (.int c_408), .val (.int c_410), .val (.int c_412), .val (.ref b414), .val (.int (0 : Int32)), .val (.int (0 : Int32))] [(.ref b422)]) (fun _ k => st433 _ k) ?_
    have F439 : Exa Z h433 b422 "java/lang/String" := (A422.keep r433_0)
    obtain ⟨T440, h440, v440, L440, X440, e440, ⟨rfl, N440q, r440_0⟩, st440⟩ := N.static X433 hx hZ433 (y := (⟨"com/example/usher/usher/lifecycle/ExecutionKey", "fits", "(Ljava/lang/String;)Z"⟩ : MethodName)) hown433 (wk hw 27 rfl) (wk hw 28 rfl) (wk hw 29 rfl) (wk hw 30 rfl) (by decide) (fitE l Z a0 hw b422 t_433 kb_433 nn (fun i => ((fun _ => 0) i).toInt8.toInt32) cs h433 n0 O435 F439 r433_1 r433_2 r433_3 (by omega) S_CS hcs) e433 (g := (mkF m 178 #[.val (.int p0), .val (.int p1), .val (.int p2), .val (.int p3), .val (.int p4), .val (.int nn.toInt32), .val (.int c_406), .val (.int c_408), .val (.int c_410), .val (.int c_412), .val (.ref b414), .val (.int (0 : Int32)), .val (.int (0 : Int32))] [(.ref b422)])) rfl (by rw [hml]; rfl) (argsL := [(.ref b422)]) (rest := []) rfl (lenOf pd__Ljava_lang_String__Z rfl) rfl (W := 0) (by show 2 * 0 + _ ≤ _; exact Nat.le_of_eq rfl) (hb hby at_178) (by decide) (by decide) (by decide) (by decide)
    have N441 := Fr.app N434 N440q
    have e440 := e440.trans r440_0
    refine WinW.to T440 (mkF m 181 #[.val (.int p0), .val (.int p1), .val (.int p2), .val (.int p3), .val (.int p4), .val (.int nn.toInt32), .val (.int c_406), .val (.int c_408), .val (.int c_410), .val (.int c_412), .val (.ref b414), .val (.int (0 : Int32)), .val (.int (0 : Int32))] [(.int (0 : Int32))]) (fun _ k => st440 _ k) ?_
    refine WinW.to T440 (mkF m 183 #[.val (.int p0), .val (.int p1), .val (.int p2), .val (.int p3), .val (.int p4), .val (.int nn.toInt32), .val (.int c_406), .val (.int c_408), .val (.int c_410), .val (.int c_412), .val (.ref b414), .val (.int (0 : Int32)), .val (.int (0 : Int32))] [(.int (0 : Int32)), (.int (0 : Int32))]) (fun _ k => XS.iload X440.here hx rfl (hb hby at_181) rfl k) ?_
    refine WinW.to T440 (mkF m 186 #[.val (.int p0), .val (.int p1), .val (.int p2), .val (.int p3), .val (.int p4), .val (.int nn.toInt32), .val (.int c_406), .val (.int c_408), .val (.int c_410), .val (.int c_412), .val (.ref b414), .val (.int (0 : Int32)), .val (.int (0 : Int32))] []) (fun _ k => XS.icmpNo X440.here hx rfl (hb hby at_183) rfl (teq (show (0 : Int32) = (0 : Int32) from by decide)).2 k) ?_
    refine WinW.to T440 (mkF m 187 #[.val (.int p0), .val (.int p1), .val (.int p2), .val (.int p3), .val (.int p4), .val (.int nn.toInt32), .val (.int c_406), .val (.int c_408), .val (.int c_410), .val (.int c_412), .val (.ref b414), .val (.int (0 : Int32)), .val (.int (0 : Int32))] [(.int (1 : Int32))]) (fun _ k => XS.iconst X440.here hx rfl (hb hby at_186) k) ?_
    refine WinW.to T440 (mkF m 191 #[.val (.int p0), .val (.int p1), .val (.int p2), .val (.int p3), .val (.int p4), .val (.int nn.toInt32), .val (.int c_406), .val (.int c_408), .val (.int c_410), .val (.int c_412), .val (.ref b414), .val (.int (0 : Int32)), .val (.int (0 : Int32))] [(.int (1 : Int32))]) (fun _ k => XS.goto X440.here hx rfl (pc0 := 187) (pc' := 191) rfl (hb hby at_187) (by decide) (by decide) k) ?_
    exact WinW.retN X440 hS433 (by rw [e440]; exact hk433) hx hlk (t := .boolean) hret (by simp) rfl (hb hby at_191) hZ433 (own_EW hw) (by rw [e440]; exact C438) (by decide) (by decide) (by (try rw [e440]); exact ⟨rfl, N441, trivial⟩)
  · have hc' := hc
    refine WinW.to T414 (mkF m 40 #[.val (.int p0), .val (.int p1), .val (.int p2), .val (.int p3), .val (.int p4), .val (.int nn.toInt32), .val (.int c_406), .val (.int c_408), .val (.int c_410), .val (.int c_412), .val (.ref b414), .unset, .unset] [(.int nn.toInt32)]) (fun _ k => XS.iload X414.here hx rfl (hb hby at_38) rfl k) ?_
    refine WinW.to T414 (mkF m 41 #[.val (.int p0), .val (.int p1), .val (.int p2), .val (.int p3), .val (.int p4), .val (.int nn.toInt32), .val (.int c_406), .val (.int c_408), .val (.int c_410), .val (.int c_412), .val (.ref b414), .unset, .unset] [(.int (1 : Int32)), (.int nn.toInt32)]) (fun _ k => XS.iconst X414.here hx rfl (hb hby at_40) k) ?_
    refine WinW.to T414 (mkF m 44 #[.val (.int p0), .val (.int p1), .val (.int p2), .val (.int p3), .val (.int p4), .val (.int nn.toInt32), .val (.int c_406), .val (.int c_408), .val (.int c_410), .val (.int c_412), .val (.ref b414), .unset, .unset] []) (fun _ k => XS.icmpNo X414.here hx rfl (hb hby at_41) rfl (flt (show ¬ (nn.toInt32 < (1 : Int32)) from (fun q => absurd ((own_lt (n := 1) hbn (by decide)).mp q) (by omega)))).1 k) ?_
    refine WinW.to T414 (mkF m 46 #[.val (.int p0), .val (.int p1), .val (.int p2), .val (.int p3), .val (.int p4), .val (.int nn.toInt32), .val (.int c_406), .val (.int c_408), .val (.int c_410), .val (.int c_412), .val (.ref b414), .unset, .unset] [(.ref b414)]) (fun _ k => XS.aload X414.here hx rfl (hb hby at_44) rfl rfl k) ?_
    refine WinW.to T414 (mkF m 47 #[.val (.int p0), .val (.int p1), .val (.int p2), .val (.int p3), .val (.int p4), .val (.int nn.toInt32), .val (.int c_406), .val (.int c_408), .val (.int c_410), .val (.int c_412), .val (.ref b414), .unset, .unset] [(.int (0 : Int32)), (.ref b414)]) (fun _ k => XS.iconst X414.here hx rfl (hb hby at_46) k) ?_
    refine WinW.to T414 (mkF m 49 #[.val (.int p0), .val (.int p1), .val (.int p2), .val (.int p3), .val (.int p4), .val (.int nn.toInt32), .val (.int c_406), .val (.int c_408), .val (.int c_410), .val (.int c_412), .val (.ref b414), .unset, .unset] [(.int c_406), (.int (0 : Int32)), (.ref b414)]) (fun _ k => XS.iload X414.here hx rfl (hb hby at_47) rfl k) ?_
    obtain ⟨cl442, Ar442, hi442, -⟩ := ArF.at F421 (j := (0 : Int32)) (i := 0) rfl (by decide) (by omega)
    obtain ⟨T443, h443, X443, e443, W443, st443⟩ := stC X414 hx hZ e414 Ar442 (j := (0 : Int32)) hi442 (g := (mkF m 49 #[.val (.int p0), .val (.int p1), .val (.int p2), .val (.int p3), .val (.int p4), .val (.int nn.toInt32), .val (.int c_406), .val (.int c_408), .val (.int c_410), .val (.int c_412), .val (.ref b414), .unset, .unset] [(.int c_406), (.int (0 : Int32)), (.ref b414)])) rfl rfl (hb hby at_49)
    have O444 := Old.wr O417 W443 g415
    have K445 : Keep h0 h443 [] := K418.wr W443 (Or.inr z416)
    have N446 := Fr.snoc X443 N413 g415
    have c447 := CHr.wr W443 (Safe.arv hZ.alike (own_arv F421) (by decide)) C420.1
    have C448 := CHr.trans C420 c447
    have eq443 : nar .char c_406 = c_406 := r406_1
    have W443 := eq443 ▸ W443
    have F449 : ArF Z h443 b414 k414 .char nn (upd (fun _ => 0) 0 c_406) := ArF.set F421 W443 rfl (by omega) (eq443 ▸ (fits_nar_char _))
    refine WinW.to T443 (mkF m 50 #[.val (.int p0), .val (.int p1), .val (.int p2), .val (.int p3), .val (.int p4), .val (.int nn.toInt32), .val (.int c_406), .val (.int c_408), .val (.int c_410), .val (.int c_412), .val (.ref b414), .unset, .unset] []) (fun _ k => st443 _ k) ?_
    refine WinW.to T443 (mkF m 52 #[.val (.int p0), .val (.int p1), .val (.int p2), .val (.int p3), .val (.int p4), .val (.int nn.toInt32), .val (.int c_406), .val (.int c_408), .val (.int c_410), .val (.int c_412), .val (.ref b414), .unset, .unset] [(.int nn.toInt32)]) (fun _ k => XS.iload X443.here hx rfl (hb hby at_50) rfl k) ?_
    refine WinW.to T443 (mkF m 53 #[.val (.int p0), .val (.int p1), .val (.int p2), .val (.int p3), .val (.int p4), .val (.int nn.toInt32), .val (.int c_406), .val (.int c_408), .val (.int c_410), .val (.int c_412), .val (.ref b414), .unset, .unset] [(.int (2 : Int32)), (.int nn.toInt32)]) (fun _ k => XS.iconst X443.here hx rfl (hb hby at_52) k) ?_
    refine WinW.to T443 (mkF m 62 #[.val (.int p0), .val (.int p1), .val (.int p2), .val (.int p3), .val (.int p4), .val (.int nn.toInt32), .val (.int c_406), .val (.int c_408), .val (.int c_410), .val (.int c_412), .val (.ref b414), .unset, .unset] []) (fun _ k => XS.icmpYes X443.here hx rfl (pc0 := 53) (pc' := 62) rfl (hb hby at_53) rfl (tlt (show nn.toInt32 < (2 : Int32) from ((own_lt (n := 2) hbn (by decide)).mpr (by omega)))).1 (by decide) (by decide) k) ?_
    refine WinW.to T443 (mkF m 64 #[.val (.int p0), .val (.int p1), .val (.int p2), .val (.int p3), .val (.int p4), .val (.int nn.toInt32), .val (.int c_406), .val (.int c_408), .val (.int c_410), .val (.int c_412), .val (.ref b414), .unset, .unset] [(.int nn.toInt32)]) (fun _ k => XS.iload X443.here hx rfl (hb hby at_62) rfl k) ?_
    refine WinW.to T443 (mkF m 65 #[.val (.int p0), .val (.int p1), .val (.int p2), .val (.int p3), .val (.int p4), .val (.int nn.toInt32), .val (.int c_406), .val (.int c_408), .val (.int c_410), .val (.int c_412), .val (.ref b414), .unset, .unset] [(.int (5 : Int32)), (.int nn.toInt32)]) (fun _ k => XS.iconst X443.here hx rfl (hb hby at_64) k) ?_
    refine WinW.to T443 (mkF m 86 #[.val (.int p0), .val (.int p1), .val (.int p2), .val (.int p3), .val (.int p4), .val (.int nn.toInt32), .val (.int c_406), .val (.int c_408), .val (.int c_410), .val (.int c_412), .val (.ref b414), .unset, .unset] []) (fun _ k => XS.icmpYes X443.here hx rfl (pc0 := 65) (pc' := 86) rfl (hb hby at_65) rfl (tlt (show nn.toInt32 < (5 : Int32) from ((own_lt (n := 5) hbn (by decide)).mpr (by omega)))).1 (by decide) (by decide) k) ?_
    refine WinW.to T443 (mkF m 87 #[.val (.int p0), .val (.int p1), .val (.int p2), .val (.int p3), .val (.int p4), .val (.int nn.toInt32), .val (.int c_406), .val (.int c_408), .val (.int c_410), .val (.int c_412), .val (.ref b414), .unset, .unset] [(.int (0 : Int32))]) (fun _ k => XS.iconst X443.here hx rfl (hb hby at_86) k) ?_
    refine WinW.to T443 (mkF m 89 #[.val (.int p0), .val (.int p1), .val (.int p2), .val (.int p3), .val (.int p4), .val (.int nn.toInt32), .val (.int c_406), .val (.int c_408), .val (.int c_410), .val (.int c_412), .val (.ref b414), .val (.int (0 : Int32)), .unset] []) (fun _ k => XS.istore X443.here hx rfl (hb hby at_87) rfl (l' := #[.val (.int p0), .val (.int p1), .val (.int p2), .val (.int p3), .val (.int p4), .val (.int nn.toInt32), .val (.int c_406), .val (.int c_408), .val (.int c_410), .val (.int c_412), .val (.ref b414), .val (.int (0 : Int32)), .unset]) rfl k) ?_
    refine WinW.to T443 (mkF m 91 #[.val (.int p0), .val (.int p1), .val (.int p2), .val (.int p3), .val (.int p4), .val (.int nn.toInt32), .val (.int c_406), .val (.int c_408), .val (.int c_410), .val (.int c_412), .val (.ref b414), .val (.int (0 : Int32)), .unset] [(.int nn.toInt32)]) (fun _ k => XS.iload X443.here hx rfl (hb hby at_89) rfl k) ?_
    refine WinW.to T443 (mkF m 92 #[.val (.int p0), .val (.int p1), .val (.int p2), .val (.int p3), .val (.int p4), .val (.int nn.toInt32), .val (.int c_406), .val (.int c_408), .val (.int c_410), .val (.int c_412), .val (.ref b414), .val (.int (0 : Int32)), .unset] [(.int (2 : Int32)), (.int nn.toInt32)]) (fun _ k => XS.iconst X443.here hx rfl (hb hby at_91) k) ?_
    refine WinW.to T443 (mkF m 117 #[.val (.int p0), .val (.int p1), .val (.int p2), .val (.int p3), .val (.int p4), .val (.int nn.toInt32), .val (.int c_406), .val (.int c_408), .val (.int c_410), .val (.int c_412), .val (.ref b414), .val (.int (0 : Int32)), .unset] []) (fun _ k => XS.icmpYes X443.here hx rfl (pc0 := 92) (pc' := 117) rfl (hb hby at_92) rfl (tlt (show nn.toInt32 < (2 : Int32) from ((own_lt (n := 2) hbn (by decide)).mpr (by omega)))).1 (by decide) (by decide) k) ?_
    refine WinW.to T443 (mkF m 119 #[.val (.int p0), .val (.int p1), .val (.int p2), .val (.int p3), .val (.int p4), .val (.int nn.toInt32), .val (.int c_406), .val (.int c_408), .val (.int c_410), .val (.int c_412), .val (.ref b414), .val (.int (0 : Int32)), .unset] [(.int nn.toInt32)]) (fun _ k => XS.iload X443.here hx rfl (hb hby at_117) rfl k) ?_
    refine WinW.to T443 (mkF m 120 #[.val (.int p0), .val (.int p1), .val (.int p2), .val (.int p3), .val (.int p4), .val (.int nn.toInt32), .val (.int c_406), .val (.int c_408), .val (.int c_410), .val (.int c_412), .val (.ref b414), .val (.int (0 : Int32)), .unset] [(.int (5 : Int32)), (.int nn.toInt32)]) (fun _ k => XS.iconst X443.here hx rfl (hb hby at_119) k) ?_
    refine WinW.to T443 (mkF m 145 #[.val (.int p0), .val (.int p1), .val (.int p2), .val (.int p3), .val (.int p4), .val (.int nn.toInt32), .val (.int c_406), .val (.int c_408), .val (.int c_410), .val (.int c_412), .val (.ref b414), .val (.int (0 : Int32)), .unset] []) (fun _ k => XS.icmpYes X443.here hx rfl (pc0 := 120) (pc' := 145) rfl (hb hby at_120) rfl (tlt (show nn.toInt32 < (5 : Int32) from ((own_lt (n := 5) hbn (by decide)).mpr (by omega)))).1 (by decide) (by decide) k) ?_
    refine WinW.to T443 (mkF m 147 #[.val (.int p0), .val (.int p1), .val (.int p2), .val (.int p3), .val (.int p4), .val (.int nn.toInt32), .val (.int c_406), .val (.int c_408), .val (.int c_410), .val (.int c_412), .val (.ref b414), .val (.int (0 : Int32)), .unset] [(.int nn.toInt32)]) (fun _ k => XS.iload X443.here hx rfl (hb hby at_145) rfl k) ?_
    refine WinW.to T443 (mkF m 148 #[.val (.int p0), .val (.int p1), .val (.int p2), .val (.int p3), .val (.int p4), .val (.int nn.toInt32), .val (.int c_406), .val (.int c_408), .val (.int c_410), .val (.int c_412), .val (.ref b414), .val (.int (0 : Int32)), .unset] [(.int (1 : Int32)), (.int nn.toInt32)]) (fun _ k => XS.iconst X443.here hx rfl (hb hby at_147) k) ?_
    refine WinW.to T443 (mkF m 151 #[.val (.int p0), .val (.int p1), .val (.int p2), .val (.int p3), .val (.int p4), .val (.int nn.toInt32), .val (.int c_406), .val (.int c_408), .val (.int c_410), .val (.int c_412), .val (.ref b414), .val (.int (0 : Int32)), .unset] []) (fun _ k => XS.icmpNo X443.here hx rfl (hb hby at_148) rfl (flt (show ¬ (nn.toInt32 < (1 : Int32)) from (fun q => absurd ((own_lt (n := 1) hbn (by decide)).mp q) (by omega)))).1 k) ?_
    refine WinW.to T443 (mkF m 153 #[.val (.int p0), .val (.int p1), .val (.int p2), .val (.int p3), .val (.int p4), .val (.int nn.toInt32), .val (.int c_406), .val (.int c_408), .val (.int c_410), .val (.int c_412), .val (.ref b414), .val (.int (0 : Int32)), .unset] [(.int nn.toInt32)]) (fun _ k => XS.iload X443.here hx rfl (hb hby at_151) rfl k) ?_
    refine WinW.to T443 (mkF m 155 #[.val (.int p0), .val (.int p1), .val (.int p2), .val (.int p3), .val (.int p4), .val (.int nn.toInt32), .val (.int c_406), .val (.int c_408), .val (.int c_410), .val (.int c_412), .val (.ref b414), .val (.int (0 : Int32)), .unset] [(.int (0 : Int32)), (.int nn.toInt32)]) (fun _ k => XS.iload X443.here hx rfl (hb hby at_153) rfl k) ?_
    refine WinW.to T443 (mkF m 156 #[.val (.int p0), .val (.int p1), .val (.int p2), .val (.int p3), .val (.int p4), .val (.int nn.toInt32), .val (.int c_406), .val (.int c_408), .val (.int c_410), .val (.int c_412), .val (.ref b414), .val (.int (0 : Int32)), .unset] [(.int nn.toInt32)]) (fun _ k => XS.isub X443.here hx rfl (hb hby at_155) rfl (by rw [show (nn.toInt32 - (0 : Int32)) = nn.toInt32 from Int32.sub_zero _]; exact k)) ?_
    refine WinW.to T443 (mkF m 159 #[.val (.int p0), .val (.int p1), .val (.int p2), .val (.int p3), .val (.int p4), .val (.int nn.toInt32), .val (.int c_406), .val (.int c_408), .val (.int c_410), .val (.int c_412), .val (.ref b414), .val (.int (0 : Int32)), .unset] [(.int (512 : Int32)), (.int nn.toInt32)]) (fun _ k => XS.sipush X443.here hx rfl (hb hby at_156) k) ?_
    have h512 : ¬ 512 < nn := by omega
    refine WinW.to T443 (mkF m 162 #[.val (.int p0), .val (.int p1), .val (.int p2), .val (.int p3), .val (.int p4), .val (.int nn.toInt32), .val (.int c_406), .val (.int c_408), .val (.int c_410), .val (.int c_412), .val (.ref b414), .val (.int (0 : Int32)), .unset] []) (fun _ k => XS.icmpNo X443.here hx rfl (hb hby at_159) rfl (flt (show ¬ ((512 : Int32) < nn.toInt32) from (fun q => h512 ((own_lt (j := 512) (by decide) (by omega)).mp q)))).2.2.1 k) ?_
    refine WinW.to T443 (mkF m 163 #[.val (.int p0), .val (.int p1), .val (.int p2), .val (.int p3), .val (.int p4), .val (.int nn.toInt32), .val (.int c_406), .val (.int c_408), .val (.int c_410), .val (.int c_412), .val (.ref b414), .val (.int (0 : Int32)), .unset] [(.int (1 : Int32))]) (fun _ k => XS.iconst X443.here hx rfl (hb hby at_162) k) ?_
    refine WinW.to T443 (mkF m 167 #[.val (.int p0), .val (.int p1), .val (.int p2), .val (.int p3), .val (.int p4), .val (.int nn.toInt32), .val (.int c_406), .val (.int c_408), .val (.int c_410), .val (.int c_412), .val (.ref b414), .val (.int (0 : Int32)), .unset] [(.int (1 : Int32))]) (fun _ k => XS.goto X443.here hx rfl (pc0 := 163) (pc' := 167) rfl (hb hby at_163) (by decide) (by decide) k) ?_
    refine WinW.to T443 (mkF m 169 #[.val (.int p0), .val (.int p1), .val (.int p2), .val (.int p3), .val (.int p4), .val (.int nn.toInt32), .val (.int c_406), .val (.int c_408), .val (.int c_410), .val (.int c_412), .val (.ref b414), .val (.int (0 : Int32)), .val (.int (1 : Int32))] []) (fun _ k => XS.istore X443.here hx rfl (hb hby at_167) rfl (l' := #[.val (.int p0), .val (.int p1), .val (.int p2), .val (.int p3), .val (.int p4), .val (.int nn.toInt32), .val (.int c_406), .val (.int c_408), .val (.int c_410), .val (.int c_412), .val (.ref b414), .val (.int (0 : Int32)), .val (.int (1 : Int32))]) rfl k) ?_
    obtain ⟨T450, h450, X450, e450, E450, A450, D450, -, st450⟩ := newO X443 hx hZ hown (wk hw 6 rfl) (wk hw 7 rfl) (wk hw 8 rfl) e443 (g := (mkF m 169 #[.val (.int p0), .val (.int p1), .val (.int p2), .val (.int p3), .val (.int p4), .val (.int nn.toInt32), .val (.int c_406), .val (.int c_408), .val (.int c_410), .val (.int c_412), .val (.ref b414), .val (.int (0 : Int32)), .val (.int (1 : Int32))] [])) rfl (hb hby at_169) (by decide) (by decide)
    obtain ⟨b450, g450⟩ : ∃ z, z = h443.size := ⟨_, rfl⟩
    rw [← g450] at A450 D450 st450
    have ne451 : b414 ≠ b450 := Nat.ne_of_lt (Nat.lt_of_lt_of_le F449.lt (Nat.le_of_eq g450.symm))
    have g452 : n0 ≤ b450 := Nat.le_trans (own_le O444) (Nat.le_of_eq g450.symm)
    have z453 : h0.size ≤ b450 := Nat.le_trans K445.1 (Nat.le_of_eq g450.symm)
    have O454 := Old.ext O444 E450
    have K455 : Keep h0 h450 [] := K445.ext E450
    have c456 := CHr.ext E450 C448.1
    have C457 := CHr.trans C448 c456
    have F458 : Fld Z h450 b450 "java/lang/String" "value" "[B" .null := D450 (Or.inr (wk hw 21 rfl)) (ty := (.array .byte)) (by decide)
    have F459 : Fld Z h450 b450 "java/lang/String" "coder" "B" (.int (0 : Int32)) := D450 (Or.inr (wk hw 22 rfl)) (ty := .byte) (by decide)
    refine WinW.to T450 (mkF m 172 #[.val (.int p0), .val (.int p1), .val (.int p2), .val (.int p3), .val (.int p4), .val (.int nn.toInt32), .val (.int c_406), .val (.int c_408), .val (.int c_410), .val (.int c_412), .val (.ref b414), .val (.int (0 : Int32)), .val (.int (1 : Int32))] [(.ref b450)]) (fun _ k => st450 _ k) ?_
    refine WinW.to T450 (mkF m 173 #[.val (.int p0), .val (.int p1), .val (.int p2), .val (.int p3), .val (.int p4), .val (.int nn.toInt32), .val (.int c_406), .val (.int c_408), .val (.int c_410), .val (.int c_412), .val (.ref b414), .val (.int (0 : Int32)), .val (.int (1 : Int32))] [(.ref b450), (.ref b450)]) (fun _ k => XS.dup X450.here hx rfl (hb hby at_172) rfl rfl k) ?_
    refine WinW.to T450 (mkF m 175 #[.val (.int p0), .val (.int p1), .val (.int p2), .val (.int p3), .val (.int p4), .val (.int nn.toInt32), .val (.int c_406), .val (.int c_408), .val (.int c_410), .val (.int c_412), .val (.ref b414), .val (.int (0 : Int32)), .val (.int (1 : Int32))] [(.ref b414), (.ref b450), (.ref b450)]) (fun _ k => XS.aload X450.here hx rfl (hb hby at_173) rfl rfl k) ?_
    have F460 : ArF Z h450 b414 k414 .char nn (upd (fun _ => 0) 0 c_406) := (F449.ext E450)
    by_cases hl : ∀ i, i < nn → ¬ (255 : Int32) < ((upd (fun _ => 0) 0 c_406) : Nat → Int32) i
    · obtain ⟨T461, h461, v461, L461, k461, X461, e461, hS461, hk461, hZ461, hown461, ⟨t_461, kb_461, rfl, N461q, r461_0, r461_1, r461_2, r461_3⟩, c461, st461⟩ := W.special X450 hS0 (Nat.zero_le _) hx hZ (y := (⟨"java/lang/String", "<init>", "([C)V"⟩ : MethodName)) rfl hown (wk hw 9 rfl) (wk hw 10 rfl) (wk hw 8 rfl) (wk hw 11 rfl) (by decide) (ctor1 l Z a0 hw b450 b414 k414 nn (upd (fun _ => 0) 0 c_406) cs h450 n0 O454 A450 F458 F459 F460 hl hle g452 S_CS hcs) (own_EW hw) C457.1 e450 (g := (mkF m 175 #[.val (.int p0), .val (.int p1), .val (.int p2), .val (.int p3), .val (.int p4), .val (.int nn.toInt32), .val (.int c_406), .val (.int c_408), .val (.int c_410), .val (.int c_412), .val (.ref b414), .val (.int (0 : Int32)), .val (.int (1 : Int32))] [(.ref b414), (.ref b450), (.ref b450)])) rfl (by rw [hml]; rfl) (a := b450) (argsL := [(.ref b414)]) (rest := [(.ref b450)]) rfl (lenOf pd___C_V rfl) rfl (W := 1) (by show 2 * 0 + _ ≤ _; exact Nat.le_of_eq rfl) (hb hby at_175) (by decide) (by decide) (by decide) (by decide)
      have N462 := Fr.app N446 N461q
      have O463 := Old.keep O454 r461_0 (allS g452 all0)
      have K464 : Keep h0 h461 [] := Keep.trans K455 r461_0 (allS (Or.inr z453) all0)
      have c465 := c461
      have C466 := CHr.trans C457 c465
      refine WinW.to T461 (mkF m 178 #[.val (.int p0), .val (.int p1), .val (.int p2), .val (.int p3), .val (.int p4), .val (.int nn.toInt32), .val (.int c_406), .val (.int c_408), .val (.int c_410), .val (.int c_412), .val (.ref b414), .val (.int (0 : Int32)), .val (.int (1 : Int32))] [(.ref b450)]) (fun _ k => st461 _ k) ?_
      have F467 : Exa Z h461 b450 "java/lang/String" := (A450.keep r461_0)
      obtain ⟨T468, h468, v468, L468, X468, e468, ⟨rfl, N468q, r468_0⟩, st468⟩ := N.static X461 hx hZ461 (y := (⟨"com/example/usher/usher/lifecycle/ExecutionKey", "fits", "(Ljava/lang/String;)Z"⟩ : MethodName)) hown461 (wk hw 27 rfl) (wk hw 28 rfl) (wk hw 29 rfl) (wk hw 30 rfl) (by decide) (fitL1 l Z a0 hw b450 t_461 kb_461 nn (fun i => ((upd (fun _ => 0) 0 c_406) i).toInt8.toInt32) cs h461 n0 O463 F467 r461_1 r461_2 r461_3 (by omega) h512 S_CS hcs) e461 (g := (mkF m 178 #[.val (.int p0), .val (.int p1), .val (.int p2), .val (.int p3), .val (.int p4), .val (.int nn.toInt32), .val (.int c_406), .val (.int c_408), .val (.int c_410), .val (.int c_412), .val (.ref b414), .val (.int (0 : Int32)), .val (.int (1 : Int32))] [(.ref b450)])) rfl (by rw [hml]; rfl) (argsL := [(.ref b450)]) (rest := []) rfl (lenOf pd__Ljava_lang_String__Z rfl) rfl (W := 0) (by show 2 * 0 + _ ≤ _; exact Nat.le_of_eq rfl) (hb hby at_178) (by decide) (by decide) (by decide) (by decide)
      have N469 := Fr.app N462 N468q
      have e468 := e468.trans r468_0
      refine WinW.to T468 (mkF m 181 #[.val (.int p0), .val (.int p1), .val (.int p2), .val (.int p3), .val (.int p4), .val (.int nn.toInt32), .val (.int c_406), .val (.int c_408), .val (.int c_410), .val (.int c_412), .val (.ref b414), .val (.int (0 : Int32)), .val (.int (1 : Int32))] [(.int (1 : Int32))]) (fun _ k => st468 _ k) ?_
      refine WinW.to T468 (mkF m 183 #[.val (.int p0), .val (.int p1), .val (.int p2), .val (.int p3), .val (.int p4), .val (.int nn.toInt32), .val (.int c_406), .val (.int c_408), .val (.int c_410), .val (.int c_412), .val (.ref b414), .val (.int (0 : Int32)), .val (.int (1 : Int32))] [(.int (1 : Int32)), (.int (1 : Int32))]) (fun _ k => XS.iload X468.here hx rfl (hb hby at_181) rfl k) ?_
      refine WinW.to T468 (mkF m 186 #[.val (.int p0), .val (.int p1), .val (.int p2), .val (.int p3), .val (.int p4), .val (.int nn.toInt32), .val (.int c_406), .val (.int c_408), .val (.int c_410), .val (.int c_412), .val (.ref b414), .val (.int (0 : Int32)), .val (.int (1 : Int32))] []) (fun _ k => XS.icmpNo X468.here hx rfl (hb hby at_183) rfl (teq (show (1 : Int32) = (1 : Int32) from by decide)).2 k) ?_
      refine WinW.to T468 (mkF m 187 #[.val (.int p0), .val (.int p1), .val (.int p2), .val (.int p3), .val (.int p4), .val (.int nn.toInt32), .val (.int c_406), .val (.int c_408), .val (.int c_410), .val (.int c_412), .val (.ref b414), .val (.int (0 : Int32)), .val (.int (1 : Int32))] [(.int (1 : Int32))]) (fun _ k => XS.iconst X468.here hx rfl (hb hby at_186) k) ?_
      refine WinW.to T468 (mkF m 191 #[.val (.int p0), .val (.int p1), .val (.int p2), .val (.int p3), .val (.int p4), .val (.int nn.toInt32), .val (.int c_406), .val (.int c_408), .val (.int c_410), .val (.int c_412), .val (.ref b414), .val (.int (0 : Int32)), .val (.int (1 : Int32))] [(.int (1 : Int32))]) (fun _ k => XS.goto X468.here hx rfl (pc0 := 187) (pc' := 191) rfl (hb hby at_187) (by decide) (by decide) k) ?_
      exact WinW.retN X468 hS461 (by rw [e468]; exact hk461) hx hlk (t := .boolean) hret (by simp) rfl (hb hby at_191) hZ461 (own_EW hw) (by rw [e468]; exact C466) (by decide) (by decide) (by (try rw [e468]); exact ⟨rfl, N469, trivial⟩)
    · have S471 : Safe Z EL1 (s.setVm s.vm).vm h450 b450 := own_safe hZ.alike A450 F458 (wk hw 7 rfl)
      obtain ⟨T470, h470, v470, L470, X470, e470, ⟨t_470, kb_470, rfl, N470q, r470_0, r470_1, r470_2, r470_3, r470_4⟩, st470⟩ := N.special X450 hx hZ (y := (⟨"java/lang/String", "<init>", "([C)V"⟩ : MethodName)) rfl hown (wk hw 9 rfl) (wk hw 10 rfl) (wk hw 8 rfl) (wk hw 11 rfl) (by decide) (ctor1u l Z a0 hw b450 b414 k414 nn (upd (fun _ => 0) 0 c_406) cs h450 n0 O454 A450 F458 F459 F460 hle (Classical.byContradiction fun q => hl fun i hi hp => q ⟨i, hi, hp⟩) g452 S_AD S_HI S_LO S_CS hcs) e450 (g := (mkF m 175 #[.val (.int p0), .val (.int p1), .val (.int p2), .val (.int p3), .val (.int p4), .val (.int nn.toInt32), .val (.int c_406), .val (.int c_408), .val (.int c_410), .val (.int c_412), .val (.ref b414), .val (.int (0 : Int32)), .val (.int (1 : Int32))] [(.ref b414), (.ref b450), (.ref b450)])) rfl (by rw [hml]; rfl) (a := b450) (argsL := [(.ref b414)]) (rest := [(.ref b450)]) rfl (lenOf pd___C_V rfl) rfl (W := 1) (by show 2 * 0 + _ ≤ _; exact Nat.le_of_eq rfl) (hb hby at_175) (by decide) (by decide) (by decide) (by decide)
      have N472 := Fr.app N446 N470q
      have ne473 : b414 ≠ t_470 := Nat.ne_of_lt (Nat.lt_of_lt_of_le F460.lt r470_1)
      have ne474 : b450 ≠ t_470 := Nat.ne_of_lt (Nat.lt_of_lt_of_le A450.lt r470_1)
      have g475 : n0 ≤ t_470 := Nat.le_trans (own_le O454) r470_1
      have z476 : h0.size ≤ t_470 := Nat.le_trans K455.1 r470_1
      have O477 := Old.keep O454 r470_0 (allS g452 all0)
      have K478 : Keep h0 h470 [] := Keep.trans K455 r470_0 (allS (Or.inr z453) all0)
      have c479 := CHr.keep r470_0 (sfS S471 sf0) C457.1
      have C480 := CHr.trans C457 c479
      have S481 := CHr.safe c479 A450.lt S471
      refine WinW.to T470 (mkF m 178 #[.val (.int p0), .val (.int p1), .val (.int p2), .val (.int p3), .val (.int p4), .val (.int nn.toInt32), .val (.int c_406), .val (.int c_408), .val (.int c_410), .val (.int c_412), .val (.ref b414), .val (.int (0 : Int32)), .val (.int (1 : Int32))] [(.ref b450)]) (fun _ k => st470 _ k) ?_
      have F482 : Exa Z h470 b450 "java/lang/String" := (A450.keep r470_0)
      have F483 : ArF Z h470 b414 k414 .char nn (upd (fun _ => 0) 0 c_406) := (F460.keep r470_0 (ninS ne451 nin0))
      obtain ⟨T484, h484, v484, L484, X484, e484, ⟨rfl, N484q, r484_0⟩, st484⟩ := N.static X470 hx hZ (y := (⟨"com/example/usher/usher/lifecycle/ExecutionKey", "fits", "(Ljava/lang/String;)Z"⟩ : MethodName)) hown (wk hw 27 rfl) (wk hw 28 rfl) (wk hw 29 rfl) (wk hw 30 rfl) (by decide) (fitU1 l Z a0 hw b450 t_470 kb_470 nn (upd (fun _ => 0) 0 c_406) 0 cs h470 n0 O477 F482 r470_2 r470_3 r470_4 (own_fr F483) (by omega) (cp_end (by omega)) h512 S_AD S_HI S_LO S_CS hcs) e470 (g := (mkF m 178 #[.val (.int p0), .val (.int p1), .val (.int p2), .val (.int p3), .val (.int p4), .val (.int nn.toInt32), .val (.int c_406), .val (.int c_408), .val (.int c_410), .val (.int c_412), .val (.ref b414), .val (.int (0 : Int32)), .val (.int (1 : Int32))] [(.ref b450)])) rfl (by rw [hml]; rfl) (argsL := [(.ref b450)]) (rest := []) rfl (lenOf pd__Ljava_lang_String__Z rfl) rfl (W := 0) (by show 2 * 0 + _ ≤ _; exact Nat.le_of_eq rfl) (hb hby at_178) (by decide) (by decide) (by decide) (by decide)
      have N485 := Fr.app N472 N484q
      have e484 := e484.trans r484_0
      refine WinW.to T484 (mkF m 181 #[.val (.int p0), .val (.int p1), .val (.int p2), .val (.int p3), .val (.int p4), .val (.int nn.toInt32), .val (.int c_406), .val (.int c_408), .val (.int c_410), .val (.int c_412), .val (.ref b414), .val (.int (0 : Int32)), .val (.int (1 : Int32))] [(.int (1 : Int32))]) (fun _ k => st484 _ k) ?_
      refine WinW.to T484 (mkF m 183 #[.val (.int p0), .val (.int p1), .val (.int p2), .val (.int p3), .val (.int p4), .val (.int nn.toInt32), .val (.int c_406), .val (.int c_408), .val (.int c_410), .val (.int c_412), .val (.ref b414), .val (.int (0 : Int32)), .val (.int (1 : Int32))] [(.int (1 : Int32)), (.int (1 : Int32))]) (fun _ k => XS.iload X484.here hx rfl (hb hby at_181) rfl k) ?_
      refine WinW.to T484 (mkF m 186 #[.val (.int p0), .val (.int p1), .val (.int p2), .val (.int p3), .val (.int p4), .val (.int nn.toInt32), .val (.int c_406), .val (.int c_408), .val (.int c_410), .val (.int c_412), .val (.ref b414), .val (.int (0 : Int32)), .val (.int (1 : Int32))] []) (fun _ k => XS.icmpNo X484.here hx rfl (hb hby at_183) rfl (teq (show (1 : Int32) = (1 : Int32) from by decide)).2 k) ?_
      refine WinW.to T484 (mkF m 187 #[.val (.int p0), .val (.int p1), .val (.int p2), .val (.int p3), .val (.int p4), .val (.int nn.toInt32), .val (.int c_406), .val (.int c_408), .val (.int c_410), .val (.int c_412), .val (.ref b414), .val (.int (0 : Int32)), .val (.int (1 : Int32))] [(.int (1 : Int32))]) (fun _ k => XS.iconst X484.here hx rfl (hb hby at_186) k) ?_
      refine WinW.to T484 (mkF m 191 #[.val (.int p0), .val (.int p1), .val (.int p2), .val (.int p3), .val (.int p4), .val (.int nn.toInt32), .val (.int c_406), .val (.int c_408), .val (.int c_410), .val (.int c_412), .val (.ref b414), .val (.int (0 : Int32)), .val (.int (1 : Int32))] [(.int (1 : Int32))]) (fun _ k => XS.goto X484.here hx rfl (pc0 := 187) (pc' := 191) rfl (hb hby at_187) (by decide) (by decide) k) ?_
      exact WinW.retN X484 hS0 (by rw [e484]; exact (Nat.zero_le _)) hx hlk (t := .boolean) hret (by simp) rfl (hb hby at_191) hZ (own_EW hw) (by rw [e484]; exact C480) (by decide) (by decide) (by (try rw [e484]); exact ⟨rfl, N485, trivial⟩)
  · have hc' := hc
    refine WinW.to T414 (mkF m 40 #[.val (.int p0), .val (.int p1), .val (.int p2), .val (.int p3), .val (.int p4), .val (.int nn.toInt32), .val (.int c_406), .val (.int c_408), .val (.int c_410), .val (.int c_412), .val (.ref b414), .unset, .unset] [(.int nn.toInt32)]) (fun _ k => XS.iload X414.here hx rfl (hb hby at_38) rfl k) ?_
    refine WinW.to T414 (mkF m 41 #[.val (.int p0), .val (.int p1), .val (.int p2), .val (.int p3), .val (.int p4), .val (.int nn.toInt32), .val (.int c_406), .val (.int c_408), .val (.int c_410), .val (.int c_412), .val (.ref b414), .unset, .unset] [(.int (1 : Int32)), (.int nn.toInt32)]) (fun _ k => XS.iconst X414.here hx rfl (hb hby at_40) k) ?_
    refine WinW.to T414 (mkF m 44 #[.val (.int p0), .val (.int p1), .val (.int p2), .val (.int p3), .val (.int p4), .val (.int nn.toInt32), .val (.int c_406), .val (.int c_408), .val (.int c_410), .val (.int c_412), .val (.ref b414), .unset, .unset] []) (fun _ k => XS.icmpNo X414.here hx rfl (hb hby at_41) rfl (flt (show ¬ (nn.toInt32 < (1 : Int32)) from (fun q => absurd ((own_lt (n := 1) hbn (by decide)).mp q) (by omega)))).1 k) ?_
    refine WinW.to T414 (mkF m 46 #[.val (.int p0), .val (.int p1), .val (.int p2), .val (.int p3), .val (.int p4), .val (.int nn.toInt32), .val (.int c_406), .val (.int c_408), .val (.int c_410), .val (.int c_412), .val (.ref b414), .unset, .unset] [(.ref b414)]) (fun _ k => XS.aload X414.here hx rfl (hb hby at_44) rfl rfl k) ?_
    refine WinW.to T414 (mkF m 47 #[.val (.int p0), .val (.int p1), .val (.int p2), .val (.int p3), .val (.int p4), .val (.int nn.toInt32), .val (.int c_406), .val (.int c_408), .val (.int c_410), .val (.int c_412), .val (.ref b414), .unset, .unset] [(.int (0 : Int32)), (.ref b414)]) (fun _ k => XS.iconst X414.here hx rfl (hb hby at_46) k) ?_
    refine WinW.to T414 (mkF m 49 #[.val (.int p0), .val (.int p1), .val (.int p2), .val (.int p3), .val (.int p4), .val (.int nn.toInt32), .val (.int c_406), .val (.int c_408), .val (.int c_410), .val (.int c_412), .val (.ref b414), .unset, .unset] [(.int c_406), (.int (0 : Int32)), (.ref b414)]) (fun _ k => XS.iload X414.here hx rfl (hb hby at_47) rfl k) ?_
    obtain ⟨cl486, Ar486, hi486, -⟩ := ArF.at F421 (j := (0 : Int32)) (i := 0) rfl (by decide) (by omega)
    obtain ⟨T487, h487, X487, e487, W487, st487⟩ := stC X414 hx hZ e414 Ar486 (j := (0 : Int32)) hi486 (g := (mkF m 49 #[.val (.int p0), .val (.int p1), .val (.int p2), .val (.int p3), .val (.int p4), .val (.int nn.toInt32), .val (.int c_406), .val (.int c_408), .val (.int c_410), .val (.int c_412), .val (.ref b414), .unset, .unset] [(.int c_406), (.int (0 : Int32)), (.ref b414)])) rfl rfl (hb hby at_49)
    have O488 := Old.wr O417 W487 g415
    have K489 : Keep h0 h487 [] := K418.wr W487 (Or.inr z416)
    have N490 := Fr.snoc X487 N413 g415
    have c491 := CHr.wr W487 (Safe.arv hZ.alike (own_arv F421) (by decide)) C420.1
    have C492 := CHr.trans C420 c491
    have eq487 : nar .char c_406 = c_406 := r406_1
    have W487 := eq487 ▸ W487
    have F493 : ArF Z h487 b414 k414 .char nn (upd (fun _ => 0) 0 c_406) := ArF.set F421 W487 rfl (by omega) (eq487 ▸ (fits_nar_char _))
    refine WinW.to T487 (mkF m 50 #[.val (.int p0), .val (.int p1), .val (.int p2), .val (.int p3), .val (.int p4), .val (.int nn.toInt32), .val (.int c_406), .val (.int c_408), .val (.int c_410), .val (.int c_412), .val (.ref b414), .unset, .unset] []) (fun _ k => st487 _ k) ?_
    refine WinW.to T487 (mkF m 52 #[.val (.int p0), .val (.int p1), .val (.int p2), .val (.int p3), .val (.int p4), .val (.int nn.toInt32), .val (.int c_406), .val (.int c_408), .val (.int c_410), .val (.int c_412), .val (.ref b414), .unset, .unset] [(.int nn.toInt32)]) (fun _ k => XS.iload X487.here hx rfl (hb hby at_50) rfl k) ?_
    refine WinW.to T487 (mkF m 53 #[.val (.int p0), .val (.int p1), .val (.int p2), .val (.int p3), .val (.int p4), .val (.int nn.toInt32), .val (.int c_406), .val (.int c_408), .val (.int c_410), .val (.int c_412), .val (.ref b414), .unset, .unset] [(.int (2 : Int32)), (.int nn.toInt32)]) (fun _ k => XS.iconst X487.here hx rfl (hb hby at_52) k) ?_
    refine WinW.to T487 (mkF m 56 #[.val (.int p0), .val (.int p1), .val (.int p2), .val (.int p3), .val (.int p4), .val (.int nn.toInt32), .val (.int c_406), .val (.int c_408), .val (.int c_410), .val (.int c_412), .val (.ref b414), .unset, .unset] []) (fun _ k => XS.icmpNo X487.here hx rfl (hb hby at_53) rfl (flt (show ¬ (nn.toInt32 < (2 : Int32)) from (fun q => absurd ((own_lt (n := 2) hbn (by decide)).mp q) (by omega)))).1 k) ?_
    refine WinW.to T487 (mkF m 58 #[.val (.int p0), .val (.int p1), .val (.int p2), .val (.int p3), .val (.int p4), .val (.int nn.toInt32), .val (.int c_406), .val (.int c_408), .val (.int c_410), .val (.int c_412), .val (.ref b414), .unset, .unset] [(.ref b414)]) (fun _ k => XS.aload X487.here hx rfl (hb hby at_56) rfl rfl k) ?_
    refine WinW.to T487 (mkF m 59 #[.val (.int p0), .val (.int p1), .val (.int p2), .val (.int p3), .val (.int p4), .val (.int nn.toInt32), .val (.int c_406), .val (.int c_408), .val (.int c_410), .val (.int c_412), .val (.ref b414), .unset, .unset] [(.int (1 : Int32)), (.ref b414)]) (fun _ k => XS.iconst X487.here hx rfl (hb hby at_58) k) ?_
    refine WinW.to T487 (mkF m 61 #[.val (.int p0), .val (.int p1), .val (.int p2), .val (.int p3), .val (.int p4), .val (.int nn.toInt32), .val (.int c_406), .val (.int c_408), .val (.int c_410), .val (.int c_412), .val (.ref b414), .unset, .unset] [(.int c_408), (.int (1 : Int32)), (.ref b414)]) (fun _ k => XS.iload X487.here hx rfl (hb hby at_59) rfl k) ?_
    obtain ⟨cl494, Ar494, hi494, -⟩ := ArF.at F493 (j := (1 : Int32)) (i := 1) rfl (by decide) (by omega)
    obtain ⟨T495, h495, X495, e495, W495, st495⟩ := stC X487 hx hZ e487 Ar494 (j := (1 : Int32)) hi494 (g := (mkF m 61 #[.val (.int p0), .val (.int p1), .val (.int p2), .val (.int p3), .val (.int p4), .val (.int nn.toInt32), .val (.int c_406), .val (.int c_408), .val (.int c_410), .val (.int c_412), .val (.ref b414), .unset, .unset] [(.int c_408), (.int (1 : Int32)), (.ref b414)])) rfl rfl (hb hby at_61)
    have O496 := Old.wr O488 W495 g415
    have K497 : Keep h0 h495 [] := K489.wr W495 (Or.inr z416)
    have N498 := Fr.snoc X495 N490 g415
    have c499 := CHr.wr W495 (Safe.arv hZ.alike (own_arv F493) (by decide)) C492.1
    have C500 := CHr.trans C492 c499
    have eq495 : nar .char c_408 = c_408 := r408_1
    have W495 := eq495 ▸ W495
    have F501 : ArF Z h495 b414 k414 .char nn (upd (upd (fun _ => 0) 0 c_406) 1 c_408) := ArF.set F493 W495 rfl (by omega) (eq495 ▸ (fits_nar_char _))
    refine WinW.to T495 (mkF m 62 #[.val (.int p0), .val (.int p1), .val (.int p2), .val (.int p3), .val (.int p4), .val (.int nn.toInt32), .val (.int c_406), .val (.int c_408), .val (.int c_410), .val (.int c_412), .val (.ref b414), .unset, .unset] []) (fun _ k => st495 _ k) ?_
    refine WinW.to T495 (mkF m 64 #[.val (.int p0), .val (.int p1), .val (.int p2), .val (.int p3), .val (.int p4), .val (.int nn.toInt32), .val (.int c_406), .val (.int c_408), .val (.int c_410), .val (.int c_412), .val (.ref b414), .unset, .unset] [(.int nn.toInt32)]) (fun _ k => XS.iload X495.here hx rfl (hb hby at_62) rfl k) ?_
    refine WinW.to T495 (mkF m 65 #[.val (.int p0), .val (.int p1), .val (.int p2), .val (.int p3), .val (.int p4), .val (.int nn.toInt32), .val (.int c_406), .val (.int c_408), .val (.int c_410), .val (.int c_412), .val (.ref b414), .unset, .unset] [(.int (5 : Int32)), (.int nn.toInt32)]) (fun _ k => XS.iconst X495.here hx rfl (hb hby at_64) k) ?_
    refine WinW.to T495 (mkF m 86 #[.val (.int p0), .val (.int p1), .val (.int p2), .val (.int p3), .val (.int p4), .val (.int nn.toInt32), .val (.int c_406), .val (.int c_408), .val (.int c_410), .val (.int c_412), .val (.ref b414), .unset, .unset] []) (fun _ k => XS.icmpYes X495.here hx rfl (pc0 := 65) (pc' := 86) rfl (hb hby at_65) rfl (tlt (show nn.toInt32 < (5 : Int32) from ((own_lt (n := 5) hbn (by decide)).mpr (by omega)))).1 (by decide) (by decide) k) ?_
    refine WinW.to T495 (mkF m 87 #[.val (.int p0), .val (.int p1), .val (.int p2), .val (.int p3), .val (.int p4), .val (.int nn.toInt32), .val (.int c_406), .val (.int c_408), .val (.int c_410), .val (.int c_412), .val (.ref b414), .unset, .unset] [(.int (0 : Int32))]) (fun _ k => XS.iconst X495.here hx rfl (hb hby at_86) k) ?_
    refine WinW.to T495 (mkF m 89 #[.val (.int p0), .val (.int p1), .val (.int p2), .val (.int p3), .val (.int p4), .val (.int nn.toInt32), .val (.int c_406), .val (.int c_408), .val (.int c_410), .val (.int c_412), .val (.ref b414), .val (.int (0 : Int32)), .unset] []) (fun _ k => XS.istore X495.here hx rfl (hb hby at_87) rfl (l' := #[.val (.int p0), .val (.int p1), .val (.int p2), .val (.int p3), .val (.int p4), .val (.int nn.toInt32), .val (.int c_406), .val (.int c_408), .val (.int c_410), .val (.int c_412), .val (.ref b414), .val (.int (0 : Int32)), .unset]) rfl k) ?_
    refine WinW.to T495 (mkF m 91 #[.val (.int p0), .val (.int p1), .val (.int p2), .val (.int p3), .val (.int p4), .val (.int nn.toInt32), .val (.int c_406), .val (.int c_408), .val (.int c_410), .val (.int c_412), .val (.ref b414), .val (.int (0 : Int32)), .unset] [(.int nn.toInt32)]) (fun _ k => XS.iload X495.here hx rfl (hb hby at_89) rfl k) ?_
    refine WinW.to T495 (mkF m 92 #[.val (.int p0), .val (.int p1), .val (.int p2), .val (.int p3), .val (.int p4), .val (.int nn.toInt32), .val (.int c_406), .val (.int c_408), .val (.int c_410), .val (.int c_412), .val (.ref b414), .val (.int (0 : Int32)), .unset] [(.int (2 : Int32)), (.int nn.toInt32)]) (fun _ k => XS.iconst X495.here hx rfl (hb hby at_91) k) ?_
    refine WinW.to T495 (mkF m 95 #[.val (.int p0), .val (.int p1), .val (.int p2), .val (.int p3), .val (.int p4), .val (.int nn.toInt32), .val (.int c_406), .val (.int c_408), .val (.int c_410), .val (.int c_412), .val (.ref b414), .val (.int (0 : Int32)), .unset] []) (fun _ k => XS.icmpNo X495.here hx rfl (hb hby at_92) rfl (flt (show ¬ (nn.toInt32 < (2 : Int32)) from (fun q => absurd ((own_lt (n := 2) hbn (by decide)).mp q) (by omega)))).1 k) ?_
    refine WinW.to T495 (mkF m 97 #[.val (.int p0), .val (.int p1), .val (.int p2), .val (.int p3), .val (.int p4), .val (.int nn.toInt32), .val (.int c_406), .val (.int c_408), .val (.int c_410), .val (.int c_412), .val (.ref b414), .val (.int (0 : Int32)), .unset] [(.int c_406)]) (fun _ k => XS.iload X495.here hx rfl (hb hby at_95) rfl k) ?_
    by_cases hsu502 : hsur c_406
    · obtain ⟨T503, h503, v503, L503, X503, e503, ⟨rfl, N503q, r503_0⟩, st503⟩ := N.static X495 hx hZ (y := (⟨"com/example/usher/usher/lifecycle/ExecutionKeyFitsPinLaw", "isHigh", "(C)Z"⟩ : MethodName)) hown (wk hw 36 rfl) (wk hw 37 rfl) (wk hw 2 rfl) (wk hw 38 rfl) (by decide) (lh1 l Z a0 hw c_406 h495 n0 O496 hsu502) e495 (g := (mkF m 97 #[.val (.int p0), .val (.int p1), .val (.int p2), .val (.int p3), .val (.int p4), .val (.int nn.toInt32), .val (.int c_406), .val (.int c_408), .val (.int c_410), .val (.int c_412), .val (.ref b414), .val (.int (0 : Int32)), .unset] [(.int c_406)])) rfl (by rw [hml]; rfl) (argsL := [(.int c_406)]) (rest := []) rfl (lenOf pd__C_Z rfl) rfl (W := 0) (by show 2 * 0 + _ ≤ _; exact Nat.le_of_eq rfl) (hb hby at_97) (by decide) (by decide) (by decide) (by decide)
      have N504 := Fr.app N498 N503q
      have e503 := e503.trans r503_0
      refine WinW.to T503 (mkF m 100 #[.val (.int p0), .val (.int p1), .val (.int p2), .val (.int p3), .val (.int p4), .val (.int nn.toInt32), .val (.int c_406), .val (.int c_408), .val (.int c_410), .val (.int c_412), .val (.ref b414), .val (.int (0 : Int32)), .unset] [(.int (1 : Int32))]) (fun _ k => st503 _ k) ?_
      refine WinW.to T503 (mkF m 103 #[.val (.int p0), .val (.int p1), .val (.int p2), .val (.int p3), .val (.int p4), .val (.int nn.toInt32), .val (.int c_406), .val (.int c_408), .val (.int c_410), .val (.int c_412), .val (.ref b414), .val (.int (0 : Int32)), .unset] []) (fun _ k => XS.ifNo X503.here hx rfl (hb hby at_100) rfl ((if0 _ _).trans (feq (show ¬ ((1 : Int32) = (0 : Int32)) from by decide)).1) k) ?_
      refine WinW.to T503 (mkF m 105 #[.val (.int p0), .val (.int p1), .val (.int p2), .val (.int p3), .val (.int p4), .val (.int nn.toInt32), .val (.int c_406), .val (.int c_408), .val (.int c_410), .val (.int c_412), .val (.ref b414), .val (.int (0 : Int32)), .unset] [(.int c_408)]) (fun _ k => XS.iload X503.here hx rfl (hb hby at_103) rfl k) ?_
      by_cases hsu505 : lsur c_408
      · obtain ⟨T506, h506, v506, L506, X506, e506, ⟨rfl, N506q, r506_0⟩, st506⟩ := N.static X503 hx hZ (y := (⟨"com/example/usher/usher/lifecycle/ExecutionKeyFitsPinLaw", "isLow", "(C)Z"⟩ : MethodName)) hown (wk hw 115 rfl) (wk hw 116 rfl) (wk hw 2 rfl) (wk hw 117 rfl) (by decide) (ll1 l Z a0 hw c_408 h495 n0 O496 hsu505) e503 (g := (mkF m 105 #[.val (.int p0), .val (.int p1), .val (.int p2), .val (.int p3), .val (.int p4), .val (.int nn.toInt32), .val (.int c_406), .val (.int c_408), .val (.int c_410), .val (.int c_412), .val (.ref b414), .val (.int (0 : Int32)), .unset] [(.int c_408)])) rfl (by rw [hml]; rfl) (argsL := [(.int c_408)]) (rest := []) rfl (lenOf pd__C_Z rfl) rfl (W := 0) (by show 2 * 0 + _ ≤ _; exact Nat.le_of_eq rfl) (hb hby at_105) (by decide) (by decide) (by decide) (by decide)
        have N507 := Fr.app N504 N506q
        have e506 := e506.trans r506_0
        refine WinW.to T506 (mkF m 108 #[.val (.int p0), .val (.int p1), .val (.int p2), .val (.int p3), .val (.int p4), .val (.int nn.toInt32), .val (.int c_406), .val (.int c_408), .val (.int c_410), .val (.int c_412), .val (.ref b414), .val (.int (0 : Int32)), .unset] [(.int (1 : Int32))]) (fun _ k => st506 _ k) ?_
        refine WinW.to T506 (mkF m 111 #[.val (.int p0), .val (.int p1), .val (.int p2), .val (.int p3), .val (.int p4), .val (.int nn.toInt32), .val (.int c_406), .val (.int c_408), .val (.int c_410), .val (.int c_412), .val (.ref b414), .val (.int (0 : Int32)), .unset] []) (fun _ k => XS.ifNo X506.here hx rfl (hb hby at_108) rfl ((if0 _ _).trans (feq (show ¬ ((1 : Int32) = (0 : Int32)) from by decide)).1) k) ?_
        refine WinW.to T506 (mkF m 113 #[.val (.int p0), .val (.int p1), .val (.int p2), .val (.int p3), .val (.int p4), .val (.int nn.toInt32), .val (.int c_406), .val (.int c_408), .val (.int c_410), .val (.int c_412), .val (.ref b414), .val (.int (0 : Int32)), .unset] [(.int (0 : Int32))]) (fun _ k => XS.iload X506.here hx rfl (hb hby at_111) rfl k) ?_
        refine WinW.to T506 (mkF m 114 #[.val (.int p0), .val (.int p1), .val (.int p2), .val (.int p3), .val (.int p4), .val (.int nn.toInt32), .val (.int c_406), .val (.int c_408), .val (.int c_410), .val (.int c_412), .val (.ref b414), .val (.int (0 : Int32)), .unset] [(.int (1 : Int32)), (.int (0 : Int32))]) (fun _ k => XS.iconst X506.here hx rfl (hb hby at_113) k) ?_
        refine WinW.to T506 (mkF m 115 #[.val (.int p0), .val (.int p1), .val (.int p2), .val (.int p3), .val (.int p4), .val (.int nn.toInt32), .val (.int c_406), .val (.int c_408), .val (.int c_410), .val (.int c_412), .val (.ref b414), .val (.int (0 : Int32)), .unset] [(.int (1 : Int32))]) (fun _ k => XS.iadd X506.here hx rfl (hb hby at_114) rfl (by rw [show ((0 : Int32) + (1 : Int32)) = (1 : Int32) from by decide]; exact k)) ?_
        refine WinW.to T506 (mkF m 117 #[.val (.int p0), .val (.int p1), .val (.int p2), .val (.int p3), .val (.int p4), .val (.int nn.toInt32), .val (.int c_406), .val (.int c_408), .val (.int c_410), .val (.int c_412), .val (.ref b414), .val (.int (1 : Int32)), .unset] []) (fun _ k => XS.istore X506.here hx rfl (hb hby at_115) rfl (l' := #[.val (.int p0), .val (.int p1), .val (.int p2), .val (.int p3), .val (.int p4), .val (.int nn.toInt32), .val (.int c_406), .val (.int c_408), .val (.int c_410), .val (.int c_412), .val (.ref b414), .val (.int (1 : Int32)), .unset]) rfl k) ?_
        refine WinW.to T506 (mkF m 119 #[.val (.int p0), .val (.int p1), .val (.int p2), .val (.int p3), .val (.int p4), .val (.int nn.toInt32), .val (.int c_406), .val (.int c_408), .val (.int c_410), .val (.int c_412), .val (.ref b414), .val (.int (1 : Int32)), .unset] [(.int nn.toInt32)]) (fun _ k => XS.iload X506.here hx rfl (hb hby at_117) rfl k) ?_
        refine WinW.to T506 (mkF m 120 #[.val (.int p0), .val (.int p1), .val (.int p2), .val (.int p3), .val (.int p4), .val (.int nn.toInt32), .val (.int c_406), .val (.int c_408), .val (.int c_410), .val (.int c_412), .val (.ref b414), .val (.int (1 : Int32)), .unset] [(.int (5 : Int32)), (.int nn.toInt32)]) (fun _ k => XS.iconst X506.here hx rfl (hb hby at_119) k) ?_
        refine WinW.to T506 (mkF m 145 #[.val (.int p0), .val (.int p1), .val (.int p2), .val (.int p3), .val (.int p4), .val (.int nn.toInt32), .val (.int c_406), .val (.int c_408), .val (.int c_410), .val (.int c_412), .val (.ref b414), .val (.int (1 : Int32)), .unset] []) (fun _ k => XS.icmpYes X506.here hx rfl (pc0 := 120) (pc' := 145) rfl (hb hby at_120) rfl (tlt (show nn.toInt32 < (5 : Int32) from ((own_lt (n := 5) hbn (by decide)).mpr (by omega)))).1 (by decide) (by decide) k) ?_
        refine WinW.to T506 (mkF m 147 #[.val (.int p0), .val (.int p1), .val (.int p2), .val (.int p3), .val (.int p4), .val (.int nn.toInt32), .val (.int c_406), .val (.int c_408), .val (.int c_410), .val (.int c_412), .val (.ref b414), .val (.int (1 : Int32)), .unset] [(.int nn.toInt32)]) (fun _ k => XS.iload X506.here hx rfl (hb hby at_145) rfl k) ?_
        refine WinW.to T506 (mkF m 148 #[.val (.int p0), .val (.int p1), .val (.int p2), .val (.int p3), .val (.int p4), .val (.int nn.toInt32), .val (.int c_406), .val (.int c_408), .val (.int c_410), .val (.int c_412), .val (.ref b414), .val (.int (1 : Int32)), .unset] [(.int (1 : Int32)), (.int nn.toInt32)]) (fun _ k => XS.iconst X506.here hx rfl (hb hby at_147) k) ?_
        refine WinW.to T506 (mkF m 151 #[.val (.int p0), .val (.int p1), .val (.int p2), .val (.int p3), .val (.int p4), .val (.int nn.toInt32), .val (.int c_406), .val (.int c_408), .val (.int c_410), .val (.int c_412), .val (.ref b414), .val (.int (1 : Int32)), .unset] []) (fun _ k => XS.icmpNo X506.here hx rfl (hb hby at_148) rfl (flt (show ¬ (nn.toInt32 < (1 : Int32)) from (fun q => absurd ((own_lt (n := 1) hbn (by decide)).mp q) (by omega)))).1 k) ?_
        refine WinW.to T506 (mkF m 153 #[.val (.int p0), .val (.int p1), .val (.int p2), .val (.int p3), .val (.int p4), .val (.int nn.toInt32), .val (.int c_406), .val (.int c_408), .val (.int c_410), .val (.int c_412), .val (.ref b414), .val (.int (1 : Int32)), .unset] [(.int nn.toInt32)]) (fun _ k => XS.iload X506.here hx rfl (hb hby at_151) rfl k) ?_
        refine WinW.to T506 (mkF m 155 #[.val (.int p0), .val (.int p1), .val (.int p2), .val (.int p3), .val (.int p4), .val (.int nn.toInt32), .val (.int c_406), .val (.int c_408), .val (.int c_410), .val (.int c_412), .val (.ref b414), .val (.int (1 : Int32)), .unset] [(.int (1 : Int32)), (.int nn.toInt32)]) (fun _ k => XS.iload X506.here hx rfl (hb hby at_153) rfl k) ?_
        refine WinW.to T506 (mkF m 156 #[.val (.int p0), .val (.int p1), .val (.int p2), .val (.int p3), .val (.int p4), .val (.int nn.toInt32), .val (.int c_406), .val (.int c_408), .val (.int c_410), .val (.int c_412), .val (.ref b414), .val (.int (1 : Int32)), .unset] [(.int (nn - 1).toInt32)]) (fun _ k => XS.isub X506.here hx rfl (hb hby at_155) rfl (by rw [show (nn.toInt32 - (1 : Int32)) = (nn - 1).toInt32 from own_sub (b := 1) (by decide) hbn (by omega)]; exact k)) ?_
        refine WinW.to T506 (mkF m 159 #[.val (.int p0), .val (.int p1), .val (.int p2), .val (.int p3), .val (.int p4), .val (.int nn.toInt32), .val (.int c_406), .val (.int c_408), .val (.int c_410), .val (.int c_412), .val (.ref b414), .val (.int (1 : Int32)), .unset] [(.int (512 : Int32)), (.int (nn - 1).toInt32)]) (fun _ k => XS.sipush X506.here hx rfl (hb hby at_156) k) ?_
        have h512 : ¬ 512 < (nn - 1) := by omega
        refine WinW.to T506 (mkF m 162 #[.val (.int p0), .val (.int p1), .val (.int p2), .val (.int p3), .val (.int p4), .val (.int nn.toInt32), .val (.int c_406), .val (.int c_408), .val (.int c_410), .val (.int c_412), .val (.ref b414), .val (.int (1 : Int32)), .unset] []) (fun _ k => XS.icmpNo X506.here hx rfl (hb hby at_159) rfl (flt (show ¬ ((512 : Int32) < (nn - 1).toInt32) from (fun q => h512 ((own_lt (j := 512) (by decide) (by omega)).mp q)))).2.2.1 k) ?_
        refine WinW.to T506 (mkF m 163 #[.val (.int p0), .val (.int p1), .val (.int p2), .val (.int p3), .val (.int p4), .val (.int nn.toInt32), .val (.int c_406), .val (.int c_408), .val (.int c_410), .val (.int c_412), .val (.ref b414), .val (.int (1 : Int32)), .unset] [(.int (1 : Int32))]) (fun _ k => XS.iconst X506.here hx rfl (hb hby at_162) k) ?_
        refine WinW.to T506 (mkF m 167 #[.val (.int p0), .val (.int p1), .val (.int p2), .val (.int p3), .val (.int p4), .val (.int nn.toInt32), .val (.int c_406), .val (.int c_408), .val (.int c_410), .val (.int c_412), .val (.ref b414), .val (.int (1 : Int32)), .unset] [(.int (1 : Int32))]) (fun _ k => XS.goto X506.here hx rfl (pc0 := 163) (pc' := 167) rfl (hb hby at_163) (by decide) (by decide) k) ?_
        refine WinW.to T506 (mkF m 169 #[.val (.int p0), .val (.int p1), .val (.int p2), .val (.int p3), .val (.int p4), .val (.int nn.toInt32), .val (.int c_406), .val (.int c_408), .val (.int c_410), .val (.int c_412), .val (.ref b414), .val (.int (1 : Int32)), .val (.int (1 : Int32))] []) (fun _ k => XS.istore X506.here hx rfl (hb hby at_167) rfl (l' := #[.val (.int p0), .val (.int p1), .val (.int p2), .val (.int p3), .val (.int p4), .val (.int nn.toInt32), .val (.int c_406), .val (.int c_408), .val (.int c_410), .val (.int c_412), .val (.ref b414), .val (.int (1 : Int32)), .val (.int (1 : Int32))]) rfl k) ?_
        obtain ⟨T508, h508, X508, e508, E508, A508, D508, -, st508⟩ := newO X506 hx hZ hown (wk hw 6 rfl) (wk hw 7 rfl) (wk hw 8 rfl) e506 (g := (mkF m 169 #[.val (.int p0), .val (.int p1), .val (.int p2), .val (.int p3), .val (.int p4), .val (.int nn.toInt32), .val (.int c_406), .val (.int c_408), .val (.int c_410), .val (.int c_412), .val (.ref b414), .val (.int (1 : Int32)), .val (.int (1 : Int32))] [])) rfl (hb hby at_169) (by decide) (by decide)
        obtain ⟨b508, g508⟩ : ∃ z, z = h495.size := ⟨_, rfl⟩
        rw [← g508] at A508 D508 st508
        have ne509 : b414 ≠ b508 := Nat.ne_of_lt (Nat.lt_of_lt_of_le F501.lt (Nat.le_of_eq g508.symm))
        have g510 : n0 ≤ b508 := Nat.le_trans (own_le O496) (Nat.le_of_eq g508.symm)
        have z511 : h0.size ≤ b508 := Nat.le_trans K497.1 (Nat.le_of_eq g508.symm)
        have O512 := Old.ext O496 E508
        have K513 : Keep h0 h508 [] := K497.ext E508
        have c514 := CHr.ext E508 C500.1
        have C515 := CHr.trans C500 c514
        have F516 : Fld Z h508 b508 "java/lang/String" "value" "[B" .null := D508 (Or.inr (wk hw 21 rfl)) (ty := (.array .byte)) (by decide)
        have F517 : Fld Z h508 b508 "java/lang/String" "coder" "B" (.int (0 : Int32)) := D508 (Or.inr (wk hw 22 rfl)) (ty := .byte) (by decide)
        refine WinW.to T508 (mkF m 172 #[.val (.int p0), .val (.int p1), .val (.int p2), .val (.int p3), .val (.int p4), .val (.int nn.toInt32), .val (.int c_406), .val (.int c_408), .val (.int c_410), .val (.int c_412), .val (.ref b414), .val (.int (1 : Int32)), .val (.int (1 : Int32))] [(.ref b508)]) (fun _ k => st508 _ k) ?_
        refine WinW.to T508 (mkF m 173 #[.val (.int p0), .val (.int p1), .val (.int p2), .val (.int p3), .val (.int p4), .val (.int nn.toInt32), .val (.int c_406), .val (.int c_408), .val (.int c_410), .val (.int c_412), .val (.ref b414), .val (.int (1 : Int32)), .val (.int (1 : Int32))] [(.ref b508), (.ref b508)]) (fun _ k => XS.dup X508.here hx rfl (hb hby at_172) rfl rfl k) ?_
        refine WinW.to T508 (mkF m 175 #[.val (.int p0), .val (.int p1), .val (.int p2), .val (.int p3), .val (.int p4), .val (.int nn.toInt32), .val (.int c_406), .val (.int c_408), .val (.int c_410), .val (.int c_412), .val (.ref b414), .val (.int (1 : Int32)), .val (.int (1 : Int32))] [(.ref b414), (.ref b508), (.ref b508)]) (fun _ k => XS.aload X508.here hx rfl (hb hby at_173) rfl rfl k) ?_
        have F518 : ArF Z h508 b414 k414 .char nn (upd (upd (fun _ => 0) 0 c_406) 1 c_408) := (F501.ext E508)
        have S520 : Safe Z EL1 (s.setVm s.vm).vm h508 b508 := own_safe hZ.alike A508 F516 (wk hw 7 rfl)
        obtain ⟨T519, h519, v519, L519, X519, e519, ⟨t_519, kb_519, rfl, N519q, r519_0, r519_1, r519_2, r519_3, r519_4⟩, st519⟩ := N.special X508 hx hZ (y := (⟨"java/lang/String", "<init>", "([C)V"⟩ : MethodName)) rfl hown (wk hw 9 rfl) (wk hw 10 rfl) (wk hw 8 rfl) (wk hw 11 rfl) (by decide) (ctor1u l Z a0 hw b508 b414 k414 nn (upd (upd (fun _ => 0) 0 c_406) 1 c_408) cs h508 n0 O512 A508 F516 F517 F518 hle (⟨0, by omega, own_hs (show hsur _ from by have := hsu502; exact this)⟩) g510 S_AD S_HI S_LO S_CS hcs) e508 (g := (mkF m 175 #[.val (.int p0), .val (.int p1), .val (.int p2), .val (.int p3), .val (.int p4), .val (.int nn.toInt32), .val (.int c_406), .val (.int c_408), .val (.int c_410), .val (.int c_412), .val (.ref b414), .val (.int (1 : Int32)), .val (.int (1 : Int32))] [(.ref b414), (.ref b508), (.ref b508)])) rfl (by rw [hml]; rfl) (a := b508) (argsL := [(.ref b414)]) (rest := [(.ref b508)]) rfl (lenOf pd___C_V rfl) rfl (W := 1) (by show 2 * 0 + _ ≤ _; exact Nat.le_of_eq rfl) (hb hby at_175) (by decide) (by decide) (by decide) (by decide)
        have N521 := Fr.app N507 N519q
        have ne522 : b414 ≠ t_519 := Nat.ne_of_lt (Nat.lt_of_lt_of_le F518.lt r519_1)
        have ne523 : b508 ≠ t_519 := Nat.ne_of_lt (Nat.lt_of_lt_of_le A508.lt r519_1)
        have g524 : n0 ≤ t_519 := Nat.le_trans (own_le O512) r519_1
        have z525 : h0.size ≤ t_519 := Nat.le_trans K513.1 r519_1
        have O526 := Old.keep O512 r519_0 (allS g510 all0)
        have K527 : Keep h0 h519 [] := Keep.trans K513 r519_0 (allS (Or.inr z511) all0)
        have c528 := CHr.keep r519_0 (sfS S520 sf0) C515.1
        have C529 := CHr.trans C515 c528
        have S530 := CHr.safe c528 A508.lt S520
        refine WinW.to T519 (mkF m 178 #[.val (.int p0), .val (.int p1), .val (.int p2), .val (.int p3), .val (.int p4), .val (.int nn.toInt32), .val (.int c_406), .val (.int c_408), .val (.int c_410), .val (.int c_412), .val (.ref b414), .val (.int (1 : Int32)), .val (.int (1 : Int32))] [(.ref b508)]) (fun _ k => st519 _ k) ?_
        have F531 : Exa Z h519 b508 "java/lang/String" := (A508.keep r519_0)
        have F532 : ArF Z h519 b414 k414 .char nn (upd (upd (fun _ => 0) 0 c_406) 1 c_408) := (F518.keep r519_0 (ninS ne509 nin0))
        obtain ⟨T533, h533, v533, L533, X533, e533, ⟨rfl, N533q, r533_0⟩, st533⟩ := N.static X519 hx hZ (y := (⟨"com/example/usher/usher/lifecycle/ExecutionKey", "fits", "(Ljava/lang/String;)Z"⟩ : MethodName)) hown (wk hw 27 rfl) (wk hw 28 rfl) (wk hw 29 rfl) (wk hw 30 rfl) (by decide) (fitU1 l Z a0 hw b508 t_519 kb_519 nn (upd (upd (fun _ => 0) 0 c_406) 1 c_408) 1 cs h519 n0 O526 F531 r519_2 r519_3 r519_4 (own_fr F532) (by omega) ((own_cp2 (by omega)).trans (if_pos ⟨hsu502, hsu505⟩)) h512 S_AD S_HI S_LO S_CS hcs) e519 (g := (mkF m 178 #[.val (.int p0), .val (.int p1), .val (.int p2), .val (.int p3), .val (.int p4), .val (.int nn.toInt32), .val (.int c_406), .val (.int c_408), .val (.int c_410), .val (.int c_412), .val (.ref b414), .val (.int (1 : Int32)), .val (.int (1 : Int32))] [(.ref b508)])) rfl (by rw [hml]; rfl) (argsL := [(.ref b508)]) (rest := []) rfl (lenOf pd__Ljava_lang_String__Z rfl) rfl (W := 0) (by show 2 * 0 + _ ≤ _; exact Nat.le_of_eq rfl) (hb hby at_178) (by decide) (by decide) (by decide) (by decide)
        have N534 := Fr.app N521 N533q
        have e533 := e533.trans r533_0
        refine WinW.to T533 (mkF m 181 #[.val (.int p0), .val (.int p1), .val (.int p2), .val (.int p3), .val (.int p4), .val (.int nn.toInt32), .val (.int c_406), .val (.int c_408), .val (.int c_410), .val (.int c_412), .val (.ref b414), .val (.int (1 : Int32)), .val (.int (1 : Int32))] [(.int (1 : Int32))]) (fun _ k => st533 _ k) ?_
        refine WinW.to T533 (mkF m 183 #[.val (.int p0), .val (.int p1), .val (.int p2), .val (.int p3), .val (.int p4), .val (.int nn.toInt32), .val (.int c_406), .val (.int c_408), .val (.int c_410), .val (.int c_412), .val (.ref b414), .val (.int (1 : Int32)), .val (.int (1 : Int32))] [(.int (1 : Int32)), (.int (1 : Int32))]) (fun _ k => XS.iload X533.here hx rfl (hb hby at_181) rfl k) ?_
        refine WinW.to T533 (mkF m 186 #[.val (.int p0), .val (.int p1), .val (.int p2), .val (.int p3), .val (.int p4), .val (.int nn.toInt32), .val (.int c_406), .val (.int c_408), .val (.int c_410), .val (.int c_412), .val (.ref b414), .val (.int (1 : Int32)), .val (.int (1 : Int32))] []) (fun _ k => XS.icmpNo X533.here hx rfl (hb hby at_183) rfl (teq (show (1 : Int32) = (1 : Int32) from by decide)).2 k) ?_
        refine WinW.to T533 (mkF m 187 #[.val (.int p0), .val (.int p1), .val (.int p2), .val (.int p3), .val (.int p4), .val (.int nn.toInt32), .val (.int c_406), .val (.int c_408), .val (.int c_410), .val (.int c_412), .val (.ref b414), .val (.int (1 : Int32)), .val (.int (1 : Int32))] [(.int (1 : Int32))]) (fun _ k => XS.iconst X533.here hx rfl (hb hby at_186) k) ?_
        refine WinW.to T533 (mkF m 191 #[.val (.int p0), .val (.int p1), .val (.int p2), .val (.int p3), .val (.int p4), .val (.int nn.toInt32), .val (.int c_406), .val (.int c_408), .val (.int c_410), .val (.int c_412), .val (.ref b414), .val (.int (1 : Int32)), .val (.int (1 : Int32))] [(.int (1 : Int32))]) (fun _ k => XS.goto X533.here hx rfl (pc0 := 187) (pc' := 191) rfl (hb hby at_187) (by decide) (by decide) k) ?_
        exact WinW.retN X533 hS0 (by rw [e533]; exact (Nat.zero_le _)) hx hlk (t := .boolean) hret (by simp) rfl (hb hby at_191) hZ (own_EW hw) (by rw [e533]; exact C529) (by decide) (by decide) (by (try rw [e533]); exact ⟨rfl, N534, trivial⟩)
      · obtain ⟨T535, h535, v535, L535, X535, e535, ⟨rfl, N535q, r535_0⟩, st535⟩ := N.static X503 hx hZ (y := (⟨"com/example/usher/usher/lifecycle/ExecutionKeyFitsPinLaw", "isLow", "(C)Z"⟩ : MethodName)) hown (wk hw 115 rfl) (wk hw 116 rfl) (wk hw 2 rfl) (wk hw 117 rfl) (by decide) (ll0 l Z a0 hw c_408 h495 n0 O496 hsu505) e503 (g := (mkF m 105 #[.val (.int p0), .val (.int p1), .val (.int p2), .val (.int p3), .val (.int p4), .val (.int nn.toInt32), .val (.int c_406), .val (.int c_408), .val (.int c_410), .val (.int c_412), .val (.ref b414), .val (.int (0 : Int32)), .unset] [(.int c_408)])) rfl (by rw [hml]; rfl) (argsL := [(.int c_408)]) (rest := []) rfl (lenOf pd__C_Z rfl) rfl (W := 0) (by show 2 * 0 + _ ≤ _; exact Nat.le_of_eq rfl) (hb hby at_105) (by decide) (by decide) (by decide) (by decide)
        have N536 := Fr.app N504 N535q
        have e535 := e535.trans r535_0
        refine WinW.to T535 (mkF m 108 #[.val (.int p0), .val (.int p1), .val (.int p2), .val (.int p3), .val (.int p4), .val (.int nn.toInt32), .val (.int c_406), .val (.int c_408), .val (.int c_410), .val (.int c_412), .val (.ref b414), .val (.int (0 : Int32)), .unset] [(.int (0 : Int32))]) (fun _ k => st535 _ k) ?_
        refine WinW.to T535 (mkF m 117 #[.val (.int p0), .val (.int p1), .val (.int p2), .val (.int p3), .val (.int p4), .val (.int nn.toInt32), .val (.int c_406), .val (.int c_408), .val (.int c_410), .val (.int c_412), .val (.ref b414), .val (.int (0 : Int32)), .unset] []) (fun _ k => XS.ifYes X535.here hx rfl (pc0 := 108) (pc' := 117) rfl (hb hby at_108) rfl ((if0 _ _).trans (teq (show (0 : Int32) = (0 : Int32) from by decide)).1) (by decide) (by decide) k) ?_
        refine WinW.to T535 (mkF m 119 #[.val (.int p0), .val (.int p1), .val (.int p2), .val (.int p3), .val (.int p4), .val (.int nn.toInt32), .val (.int c_406), .val (.int c_408), .val (.int c_410), .val (.int c_412), .val (.ref b414), .val (.int (0 : Int32)), .unset] [(.int nn.toInt32)]) (fun _ k => XS.iload X535.here hx rfl (hb hby at_117) rfl k) ?_
        refine WinW.to T535 (mkF m 120 #[.val (.int p0), .val (.int p1), .val (.int p2), .val (.int p3), .val (.int p4), .val (.int nn.toInt32), .val (.int c_406), .val (.int c_408), .val (.int c_410), .val (.int c_412), .val (.ref b414), .val (.int (0 : Int32)), .unset] [(.int (5 : Int32)), (.int nn.toInt32)]) (fun _ k => XS.iconst X535.here hx rfl (hb hby at_119) k) ?_
        refine WinW.to T535 (mkF m 145 #[.val (.int p0), .val (.int p1), .val (.int p2), .val (.int p3), .val (.int p4), .val (.int nn.toInt32), .val (.int c_406), .val (.int c_408), .val (.int c_410), .val (.int c_412), .val (.ref b414), .val (.int (0 : Int32)), .unset] []) (fun _ k => XS.icmpYes X535.here hx rfl (pc0 := 120) (pc' := 145) rfl (hb hby at_120) rfl (tlt (show nn.toInt32 < (5 : Int32) from ((own_lt (n := 5) hbn (by decide)).mpr (by omega)))).1 (by decide) (by decide) k) ?_
        refine WinW.to T535 (mkF m 147 #[.val (.int p0), .val (.int p1), .val (.int p2), .val (.int p3), .val (.int p4), .val (.int nn.toInt32), .val (.int c_406), .val (.int c_408), .val (.int c_410), .val (.int c_412), .val (.ref b414), .val (.int (0 : Int32)), .unset] [(.int nn.toInt32)]) (fun _ k => XS.iload X535.here hx rfl (hb hby at_145) rfl k) ?_
        refine WinW.to T535 (mkF m 148 #[.val (.int p0), .val (.int p1), .val (.int p2), .val (.int p3), .val (.int p4), .val (.int nn.toInt32), .val (.int c_406), .val (.int c_408), .val (.int c_410), .val (.int c_412), .val (.ref b414), .val (.int (0 : Int32)), .unset] [(.int (1 : Int32)), (.int nn.toInt32)]) (fun _ k => XS.iconst X535.here hx rfl (hb hby at_147) k) ?_
        refine WinW.to T535 (mkF m 151 #[.val (.int p0), .val (.int p1), .val (.int p2), .val (.int p3), .val (.int p4), .val (.int nn.toInt32), .val (.int c_406), .val (.int c_408), .val (.int c_410), .val (.int c_412), .val (.ref b414), .val (.int (0 : Int32)), .unset] []) (fun _ k => XS.icmpNo X535.here hx rfl (hb hby at_148) rfl (flt (show ¬ (nn.toInt32 < (1 : Int32)) from (fun q => absurd ((own_lt (n := 1) hbn (by decide)).mp q) (by omega)))).1 k) ?_
        refine WinW.to T535 (mkF m 153 #[.val (.int p0), .val (.int p1), .val (.int p2), .val (.int p3), .val (.int p4), .val (.int nn.toInt32), .val (.int c_406), .val (.int c_408), .val (.int c_410), .val (.int c_412), .val (.ref b414), .val (.int (0 : Int32)), .unset] [(.int nn.toInt32)]) (fun _ k => XS.iload X535.here hx rfl (hb hby at_151) rfl k) ?_
        refine WinW.to T535 (mkF m 155 #[.val (.int p0), .val (.int p1), .val (.int p2), .val (.int p3), .val (.int p4), .val (.int nn.toInt32), .val (.int c_406), .val (.int c_408), .val (.int c_410), .val (.int c_412), .val (.ref b414), .val (.int (0 : Int32)), .unset] [(.int (0 : Int32)), (.int nn.toInt32)]) (fun _ k => XS.iload X535.here hx rfl (hb hby at_153) rfl k) ?_
        refine WinW.to T535 (mkF m 156 #[.val (.int p0), .val (.int p1), .val (.int p2), .val (.int p3), .val (.int p4), .val (.int nn.toInt32), .val (.int c_406), .val (.int c_408), .val (.int c_410), .val (.int c_412), .val (.ref b414), .val (.int (0 : Int32)), .unset] [(.int nn.toInt32)]) (fun _ k => XS.isub X535.here hx rfl (hb hby at_155) rfl (by rw [show (nn.toInt32 - (0 : Int32)) = nn.toInt32 from Int32.sub_zero _]; exact k)) ?_
        refine WinW.to T535 (mkF m 159 #[.val (.int p0), .val (.int p1), .val (.int p2), .val (.int p3), .val (.int p4), .val (.int nn.toInt32), .val (.int c_406), .val (.int c_408), .val (.int c_410), .val (.int c_412), .val (.ref b414), .val (.int (0 : Int32)), .unset] [(.int (512 : Int32)), (.int nn.toInt32)]) (fun _ k => XS.sipush X535.here hx rfl (hb hby at_156) k) ?_
        have h512 : ¬ 512 < nn := by omega
        refine WinW.to T535 (mkF m 162 #[.val (.int p0), .val (.int p1), .val (.int p2), .val (.int p3), .val (.int p4), .val (.int nn.toInt32), .val (.int c_406), .val (.int c_408), .val (.int c_410), .val (.int c_412), .val (.ref b414), .val (.int (0 : Int32)), .unset] []) (fun _ k => XS.icmpNo X535.here hx rfl (hb hby at_159) rfl (flt (show ¬ ((512 : Int32) < nn.toInt32) from (fun q => h512 ((own_lt (j := 512) (by decide) (by omega)).mp q)))).2.2.1 k) ?_
        refine WinW.to T535 (mkF m 163 #[.val (.int p0), .val (.int p1), .val (.int p2), .val (.int p3), .val (.int p4), .val (.int nn.toInt32), .val (.int c_406), .val (.int c_408), .val (.int c_410), .val (.int c_412), .val (.ref b414), .val (.int (0 : Int32)), .unset] [(.int (1 : Int32))]) (fun _ k => XS.iconst X535.here hx rfl (hb hby at_162) k) ?_
        refine WinW.to T535 (mkF m 167 #[.val (.int p0), .val (.int p1), .val (.int p2), .val (.int p3), .val (.int p4), .val (.int nn.toInt32), .val (.int c_406), .val (.int c_408), .val (.int c_410), .val (.int c_412), .val (.ref b414), .val (.int (0 : Int32)), .unset] [(.int (1 : Int32))]) (fun _ k => XS.goto X535.here hx rfl (pc0 := 163) (pc' := 167) rfl (hb hby at_163) (by decide) (by decide) k) ?_
        refine WinW.to T535 (mkF m 169 #[.val (.int p0), .val (.int p1), .val (.int p2), .val (.int p3), .val (.int p4), .val (.int nn.toInt32), .val (.int c_406), .val (.int c_408), .val (.int c_410), .val (.int c_412), .val (.ref b414), .val (.int (0 : Int32)), .val (.int (1 : Int32))] []) (fun _ k => XS.istore X535.here hx rfl (hb hby at_167) rfl (l' := #[.val (.int p0), .val (.int p1), .val (.int p2), .val (.int p3), .val (.int p4), .val (.int nn.toInt32), .val (.int c_406), .val (.int c_408), .val (.int c_410), .val (.int c_412), .val (.ref b414), .val (.int (0 : Int32)), .val (.int (1 : Int32))]) rfl k) ?_
        obtain ⟨T537, h537, X537, e537, E537, A537, D537, -, st537⟩ := newO X535 hx hZ hown (wk hw 6 rfl) (wk hw 7 rfl) (wk hw 8 rfl) e535 (g := (mkF m 169 #[.val (.int p0), .val (.int p1), .val (.int p2), .val (.int p3), .val (.int p4), .val (.int nn.toInt32), .val (.int c_406), .val (.int c_408), .val (.int c_410), .val (.int c_412), .val (.ref b414), .val (.int (0 : Int32)), .val (.int (1 : Int32))] [])) rfl (hb hby at_169) (by decide) (by decide)
        obtain ⟨b537, g537⟩ : ∃ z, z = h495.size := ⟨_, rfl⟩
        rw [← g537] at A537 D537 st537
        have ne538 : b414 ≠ b537 := Nat.ne_of_lt (Nat.lt_of_lt_of_le F501.lt (Nat.le_of_eq g537.symm))
        have g539 : n0 ≤ b537 := Nat.le_trans (own_le O496) (Nat.le_of_eq g537.symm)
        have z540 : h0.size ≤ b537 := Nat.le_trans K497.1 (Nat.le_of_eq g537.symm)
        have O541 := Old.ext O496 E537
        have K542 : Keep h0 h537 [] := K497.ext E537
        have c543 := CHr.ext E537 C500.1
        have C544 := CHr.trans C500 c543
        have F545 : Fld Z h537 b537 "java/lang/String" "value" "[B" .null := D537 (Or.inr (wk hw 21 rfl)) (ty := (.array .byte)) (by decide)
        have F546 : Fld Z h537 b537 "java/lang/String" "coder" "B" (.int (0 : Int32)) := D537 (Or.inr (wk hw 22 rfl)) (ty := .byte) (by decide)
        refine WinW.to T537 (mkF m 172 #[.val (.int p0), .val (.int p1), .val (.int p2), .val (.int p3), .val (.int p4), .val (.int nn.toInt32), .val (.int c_406), .val (.int c_408), .val (.int c_410), .val (.int c_412), .val (.ref b414), .val (.int (0 : Int32)), .val (.int (1 : Int32))] [(.ref b537)]) (fun _ k => st537 _ k) ?_
        refine WinW.to T537 (mkF m 173 #[.val (.int p0), .val (.int p1), .val (.int p2), .val (.int p3), .val (.int p4), .val (.int nn.toInt32), .val (.int c_406), .val (.int c_408), .val (.int c_410), .val (.int c_412), .val (.ref b414), .val (.int (0 : Int32)), .val (.int (1 : Int32))] [(.ref b537), (.ref b537)]) (fun _ k => XS.dup X537.here hx rfl (hb hby at_172) rfl rfl k) ?_
        refine WinW.to T537 (mkF m 175 #[.val (.int p0), .val (.int p1), .val (.int p2), .val (.int p3), .val (.int p4), .val (.int nn.toInt32), .val (.int c_406), .val (.int c_408), .val (.int c_410), .val (.int c_412), .val (.ref b414), .val (.int (0 : Int32)), .val (.int (1 : Int32))] [(.ref b414), (.ref b537), (.ref b537)]) (fun _ k => XS.aload X537.here hx rfl (hb hby at_173) rfl rfl k) ?_
        have F547 : ArF Z h537 b414 k414 .char nn (upd (upd (fun _ => 0) 0 c_406) 1 c_408) := (F501.ext E537)
        by_cases hl : ∀ i, i < nn → ¬ (255 : Int32) < ((upd (upd (fun _ => 0) 0 c_406) 1 c_408) : Nat → Int32) i
        · obtain ⟨T548, h548, v548, L548, k548, X548, e548, hS548, hk548, hZ548, hown548, ⟨t_548, kb_548, rfl, N548q, r548_0, r548_1, r548_2, r548_3⟩, c548, st548⟩ := W.special X537 hS0 (Nat.zero_le _) hx hZ (y := (⟨"java/lang/String", "<init>", "([C)V"⟩ : MethodName)) rfl hown (wk hw 9 rfl) (wk hw 10 rfl) (wk hw 8 rfl) (wk hw 11 rfl) (by decide) (ctor1 l Z a0 hw b537 b414 k414 nn (upd (upd (fun _ => 0) 0 c_406) 1 c_408) cs h537 n0 O541 A537 F545 F546 F547 hl hle g539 S_CS hcs) (own_EW hw) C544.1 e537 (g := (mkF m 175 #[.val (.int p0), .val (.int p1), .val (.int p2), .val (.int p3), .val (.int p4), .val (.int nn.toInt32), .val (.int c_406), .val (.int c_408), .val (.int c_410), .val (.int c_412), .val (.ref b414), .val (.int (0 : Int32)), .val (.int (1 : Int32))] [(.ref b414), (.ref b537), (.ref b537)])) rfl (by rw [hml]; rfl) (a := b537) (argsL := [(.ref b414)]) (rest := [(.ref b537)]) rfl (lenOf pd___C_V rfl) rfl (W := 1) (by show 2 * 0 + _ ≤ _; exact Nat.le_of_eq rfl) (hb hby at_175) (by decide) (by decide) (by decide) (by decide)
          have N549 := Fr.app N536 N548q
          have O550 := Old.keep O541 r548_0 (allS g539 all0)
          have K551 : Keep h0 h548 [] := Keep.trans K542 r548_0 (allS (Or.inr z540) all0)
          have c552 := c548
          have C553 := CHr.trans C544 c552
          refine WinW.to T548 (mkF m 178 #[.val (.int p0), .val (.int p1), .val (.int p2), .val (.int p3), .val (.int p4), .val (.int nn.toInt32), .val (.int c_406), .val (.int c_408), .val (.int c_410), .val (.int c_412), .val (.ref b414), .val (.int (0 : Int32)), .val (.int (1 : Int32))] [(.ref b537)]) (fun _ k => st548 _ k) ?_
          have F554 : Exa Z h548 b537 "java/lang/String" := (A537.keep r548_0)
          obtain ⟨T555, h555, v555, L555, X555, e555, ⟨rfl, N555q, r555_0⟩, st555⟩ := N.static X548 hx hZ548 (y := (⟨"com/example/usher/usher/lifecycle/ExecutionKey", "fits", "(Ljava/lang/String;)Z"⟩ : MethodName)) hown548 (wk hw 27 rfl) (wk hw 28 rfl) (wk hw 29 rfl) (wk hw 30 rfl) (by decide) (fitL1 l Z a0 hw b537 t_548 kb_548 nn (fun i => ((upd (upd (fun _ => 0) 0 c_406) 1 c_408) i).toInt8.toInt32) cs h548 n0 O550 F554 r548_1 r548_2 r548_3 (by omega) h512 S_CS hcs) e548 (g := (mkF m 178 #[.val (.int p0), .val (.int p1), .val (.int p2), .val (.int p3), .val (.int p4), .val (.int nn.toInt32), .val (.int c_406), .val (.int c_408), .val (.int c_410), .val (.int c_412), .val (.ref b414), .val (.int (0 : Int32)), .val (.int (1 : Int32))] [(.ref b537)])) rfl (by rw [hml]; rfl) (argsL := [(.ref b537)]) (rest := []) rfl (lenOf pd__Ljava_lang_String__Z rfl) rfl (W := 0) (by show 2 * 0 + _ ≤ _; exact Nat.le_of_eq rfl) (hb hby at_178) (by decide) (by decide) (by decide) (by decide)
          have N556 := Fr.app N549 N555q
          have e555 := e555.trans r555_0
          refine WinW.to T555 (mkF m 181 #[.val (.int p0), .val (.int p1), .val (.int p2), .val (.int p3), .val (.int p4), .val (.int nn.toInt32), .val (.int c_406), .val (.int c_408), .val (.int c_410), .val (.int c_412), .val (.ref b414), .val (.int (0 : Int32)), .val (.int (1 : Int32))] [(.int (1 : Int32))]) (fun _ k => st555 _ k) ?_
          refine WinW.to T555 (mkF m 183 #[.val (.int p0), .val (.int p1), .val (.int p2), .val (.int p3), .val (.int p4), .val (.int nn.toInt32), .val (.int c_406), .val (.int c_408), .val (.int c_410), .val (.int c_412), .val (.ref b414), .val (.int (0 : Int32)), .val (.int (1 : Int32))] [(.int (1 : Int32)), (.int (1 : Int32))]) (fun _ k => XS.iload X555.here hx rfl (hb hby at_181) rfl k) ?_
          refine WinW.to T555 (mkF m 186 #[.val (.int p0), .val (.int p1), .val (.int p2), .val (.int p3), .val (.int p4), .val (.int nn.toInt32), .val (.int c_406), .val (.int c_408), .val (.int c_410), .val (.int c_412), .val (.ref b414), .val (.int (0 : Int32)), .val (.int (1 : Int32))] []) (fun _ k => XS.icmpNo X555.here hx rfl (hb hby at_183) rfl (teq (show (1 : Int32) = (1 : Int32) from by decide)).2 k) ?_
          refine WinW.to T555 (mkF m 187 #[.val (.int p0), .val (.int p1), .val (.int p2), .val (.int p3), .val (.int p4), .val (.int nn.toInt32), .val (.int c_406), .val (.int c_408), .val (.int c_410), .val (.int c_412), .val (.ref b414), .val (.int (0 : Int32)), .val (.int (1 : Int32))] [(.int (1 : Int32))]) (fun _ k => XS.iconst X555.here hx rfl (hb hby at_186) k) ?_
          refine WinW.to T555 (mkF m 191 #[.val (.int p0), .val (.int p1), .val (.int p2), .val (.int p3), .val (.int p4), .val (.int nn.toInt32), .val (.int c_406), .val (.int c_408), .val (.int c_410), .val (.int c_412), .val (.ref b414), .val (.int (0 : Int32)), .val (.int (1 : Int32))] [(.int (1 : Int32))]) (fun _ k => XS.goto X555.here hx rfl (pc0 := 187) (pc' := 191) rfl (hb hby at_187) (by decide) (by decide) k) ?_
          exact WinW.retN X555 hS548 (by rw [e555]; exact hk548) hx hlk (t := .boolean) hret (by simp) rfl (hb hby at_191) hZ548 (own_EW hw) (by rw [e555]; exact C553) (by decide) (by decide) (by (try rw [e555]); exact ⟨rfl, N556, trivial⟩)
        · have S558 : Safe Z EL1 (s.setVm s.vm).vm h537 b537 := own_safe hZ.alike A537 F545 (wk hw 7 rfl)
          obtain ⟨T557, h557, v557, L557, X557, e557, ⟨t_557, kb_557, rfl, N557q, r557_0, r557_1, r557_2, r557_3, r557_4⟩, st557⟩ := N.special X537 hx hZ (y := (⟨"java/lang/String", "<init>", "([C)V"⟩ : MethodName)) rfl hown (wk hw 9 rfl) (wk hw 10 rfl) (wk hw 8 rfl) (wk hw 11 rfl) (by decide) (ctor1u l Z a0 hw b537 b414 k414 nn (upd (upd (fun _ => 0) 0 c_406) 1 c_408) cs h537 n0 O541 A537 F545 F546 F547 hle (Classical.byContradiction fun q => hl fun i hi hp => q ⟨i, hi, hp⟩) g539 S_AD S_HI S_LO S_CS hcs) e537 (g := (mkF m 175 #[.val (.int p0), .val (.int p1), .val (.int p2), .val (.int p3), .val (.int p4), .val (.int nn.toInt32), .val (.int c_406), .val (.int c_408), .val (.int c_410), .val (.int c_412), .val (.ref b414), .val (.int (0 : Int32)), .val (.int (1 : Int32))] [(.ref b414), (.ref b537), (.ref b537)])) rfl (by rw [hml]; rfl) (a := b537) (argsL := [(.ref b414)]) (rest := [(.ref b537)]) rfl (lenOf pd___C_V rfl) rfl (W := 1) (by show 2 * 0 + _ ≤ _; exact Nat.le_of_eq rfl) (hb hby at_175) (by decide) (by decide) (by decide) (by decide)
          have N559 := Fr.app N536 N557q
          have ne560 : b414 ≠ t_557 := Nat.ne_of_lt (Nat.lt_of_lt_of_le F547.lt r557_1)
          have ne561 : b537 ≠ t_557 := Nat.ne_of_lt (Nat.lt_of_lt_of_le A537.lt r557_1)
          have g562 : n0 ≤ t_557 := Nat.le_trans (own_le O541) r557_1
          have z563 : h0.size ≤ t_557 := Nat.le_trans K542.1 r557_1
          have O564 := Old.keep O541 r557_0 (allS g539 all0)
          have K565 : Keep h0 h557 [] := Keep.trans K542 r557_0 (allS (Or.inr z540) all0)
          have c566 := CHr.keep r557_0 (sfS S558 sf0) C544.1
          have C567 := CHr.trans C544 c566
          have S568 := CHr.safe c566 A537.lt S558
          refine WinW.to T557 (mkF m 178 #[.val (.int p0), .val (.int p1), .val (.int p2), .val (.int p3), .val (.int p4), .val (.int nn.toInt32), .val (.int c_406), .val (.int c_408), .val (.int c_410), .val (.int c_412), .val (.ref b414), .val (.int (0 : Int32)), .val (.int (1 : Int32))] [(.ref b537)]) (fun _ k => st557 _ k) ?_
          have F569 : Exa Z h557 b537 "java/lang/String" := (A537.keep r557_0)
          have F570 : ArF Z h557 b414 k414 .char nn (upd (upd (fun _ => 0) 0 c_406) 1 c_408) := (F547.keep r557_0 (ninS ne538 nin0))
          obtain ⟨T571, h571, v571, L571, X571, e571, ⟨rfl, N571q, r571_0⟩, st571⟩ := N.static X557 hx hZ (y := (⟨"com/example/usher/usher/lifecycle/ExecutionKey", "fits", "(Ljava/lang/String;)Z"⟩ : MethodName)) hown (wk hw 27 rfl) (wk hw 28 rfl) (wk hw 29 rfl) (wk hw 30 rfl) (by decide) (fitU1 l Z a0 hw b537 t_557 kb_557 nn (upd (upd (fun _ => 0) 0 c_406) 1 c_408) 0 cs h557 n0 O564 F569 r557_2 r557_3 r557_4 (own_fr F570) (by omega) ((own_cp2 (by omega)).trans (if_neg (fun q => hsu505 q.2))) h512 S_AD S_HI S_LO S_CS hcs) e557 (g := (mkF m 178 #[.val (.int p0), .val (.int p1), .val (.int p2), .val (.int p3), .val (.int p4), .val (.int nn.toInt32), .val (.int c_406), .val (.int c_408), .val (.int c_410), .val (.int c_412), .val (.ref b414), .val (.int (0 : Int32)), .val (.int (1 : Int32))] [(.ref b537)])) rfl (by rw [hml]; rfl) (argsL := [(.ref b537)]) (rest := []) rfl (lenOf pd__Ljava_lang_String__Z rfl) rfl (W := 0) (by show 2 * 0 + _ ≤ _; exact Nat.le_of_eq rfl) (hb hby at_178) (by decide) (by decide) (by decide) (by decide)
          have N572 := Fr.app N559 N571q
          have e571 := e571.trans r571_0
          refine WinW.to T571 (mkF m 181 #[.val (.int p0), .val (.int p1), .val (.int p2), .val (.int p3), .val (.int p4), .val (.int nn.toInt32), .val (.int c_406), .val (.int c_408), .val (.int c_410), .val (.int c_412), .val (.ref b414), .val (.int (0 : Int32)), .val (.int (1 : Int32))] [(.int (1 : Int32))]) (fun _ k => st571 _ k) ?_
          refine WinW.to T571 (mkF m 183 #[.val (.int p0), .val (.int p1), .val (.int p2), .val (.int p3), .val (.int p4), .val (.int nn.toInt32), .val (.int c_406), .val (.int c_408), .val (.int c_410), .val (.int c_412), .val (.ref b414), .val (.int (0 : Int32)), .val (.int (1 : Int32))] [(.int (1 : Int32)), (.int (1 : Int32))]) (fun _ k => XS.iload X571.here hx rfl (hb hby at_181) rfl k) ?_
          refine WinW.to T571 (mkF m 186 #[.val (.int p0), .val (.int p1), .val (.int p2), .val (.int p3), .val (.int p4), .val (.int nn.toInt32), .val (.int c_406), .val (.int c_408), .val (.int c_410), .val (.int c_412), .val (.ref b414), .val (.int (0 : Int32)), .val (.int (1 : Int32))] []) (fun _ k => XS.icmpNo X571.here hx rfl (hb hby at_183) rfl (teq (show (1 : Int32) = (1 : Int32) from by decide)).2 k) ?_
          refine WinW.to T571 (mkF m 187 #[.val (.int p0), .val (.int p1), .val (.int p2), .val (.int p3), .val (.int p4), .val (.int nn.toInt32), .val (.int c_406), .val (.int c_408), .val (.int c_410), .val (.int c_412), .val (.ref b414), .val (.int (0 : Int32)), .val (.int (1 : Int32))] [(.int (1 : Int32))]) (fun _ k => XS.iconst X571.here hx rfl (hb hby at_186) k) ?_
          refine WinW.to T571 (mkF m 191 #[.val (.int p0), .val (.int p1), .val (.int p2), .val (.int p3), .val (.int p4), .val (.int nn.toInt32), .val (.int c_406), .val (.int c_408), .val (.int c_410), .val (.int c_412), .val (.ref b414), .val (.int (0 : Int32)), .val (.int (1 : Int32))] [(.int (1 : Int32))]) (fun _ k => XS.goto X571.here hx rfl (pc0 := 187) (pc' := 191) rfl (hb hby at_187) (by decide) (by decide) k) ?_
          exact WinW.retN X571 hS0 (by rw [e571]; exact (Nat.zero_le _)) hx hlk (t := .boolean) hret (by simp) rfl (hb hby at_191) hZ (own_EW hw) (by rw [e571]; exact C567) (by decide) (by decide) (by (try rw [e571]); exact ⟨rfl, N572, trivial⟩)
    · obtain ⟨T573, h573, v573, L573, X573, e573, ⟨rfl, N573q, r573_0⟩, st573⟩ := N.static X495 hx hZ (y := (⟨"com/example/usher/usher/lifecycle/ExecutionKeyFitsPinLaw", "isHigh", "(C)Z"⟩ : MethodName)) hown (wk hw 36 rfl) (wk hw 37 rfl) (wk hw 2 rfl) (wk hw 38 rfl) (by decide) (lh0 l Z a0 hw c_406 h495 n0 O496 hsu502) e495 (g := (mkF m 97 #[.val (.int p0), .val (.int p1), .val (.int p2), .val (.int p3), .val (.int p4), .val (.int nn.toInt32), .val (.int c_406), .val (.int c_408), .val (.int c_410), .val (.int c_412), .val (.ref b414), .val (.int (0 : Int32)), .unset] [(.int c_406)])) rfl (by rw [hml]; rfl) (argsL := [(.int c_406)]) (rest := []) rfl (lenOf pd__C_Z rfl) rfl (W := 0) (by show 2 * 0 + _ ≤ _; exact Nat.le_of_eq rfl) (hb hby at_97) (by decide) (by decide) (by decide) (by decide)
      have N574 := Fr.app N498 N573q
      have e573 := e573.trans r573_0
      refine WinW.to T573 (mkF m 100 #[.val (.int p0), .val (.int p1), .val (.int p2), .val (.int p3), .val (.int p4), .val (.int nn.toInt32), .val (.int c_406), .val (.int c_408), .val (.int c_410), .val (.int c_412), .val (.ref b414), .val (.int (0 : Int32)), .unset] [(.int (0 : Int32))]) (fun _ k => st573 _ k) ?_
      refine WinW.to T573 (mkF m 117 #[.val (.int p0), .val (.int p1), .val (.int p2), .val (.int p3), .val (.int p4), .val (.int nn.toInt32), .val (.int c_406), .val (.int c_408), .val (.int c_410), .val (.int c_412), .val (.ref b414), .val (.int (0 : Int32)), .unset] []) (fun _ k => XS.ifYes X573.here hx rfl (pc0 := 100) (pc' := 117) rfl (hb hby at_100) rfl ((if0 _ _).trans (teq (show (0 : Int32) = (0 : Int32) from by decide)).1) (by decide) (by decide) k) ?_
      refine WinW.to T573 (mkF m 119 #[.val (.int p0), .val (.int p1), .val (.int p2), .val (.int p3), .val (.int p4), .val (.int nn.toInt32), .val (.int c_406), .val (.int c_408), .val (.int c_410), .val (.int c_412), .val (.ref b414), .val (.int (0 : Int32)), .unset] [(.int nn.toInt32)]) (fun _ k => XS.iload X573.here hx rfl (hb hby at_117) rfl k) ?_
      refine WinW.to T573 (mkF m 120 #[.val (.int p0), .val (.int p1), .val (.int p2), .val (.int p3), .val (.int p4), .val (.int nn.toInt32), .val (.int c_406), .val (.int c_408), .val (.int c_410), .val (.int c_412), .val (.ref b414), .val (.int (0 : Int32)), .unset] [(.int (5 : Int32)), (.int nn.toInt32)]) (fun _ k => XS.iconst X573.here hx rfl (hb hby at_119) k) ?_
      refine WinW.to T573 (mkF m 145 #[.val (.int p0), .val (.int p1), .val (.int p2), .val (.int p3), .val (.int p4), .val (.int nn.toInt32), .val (.int c_406), .val (.int c_408), .val (.int c_410), .val (.int c_412), .val (.ref b414), .val (.int (0 : Int32)), .unset] []) (fun _ k => XS.icmpYes X573.here hx rfl (pc0 := 120) (pc' := 145) rfl (hb hby at_120) rfl (tlt (show nn.toInt32 < (5 : Int32) from ((own_lt (n := 5) hbn (by decide)).mpr (by omega)))).1 (by decide) (by decide) k) ?_
      refine WinW.to T573 (mkF m 147 #[.val (.int p0), .val (.int p1), .val (.int p2), .val (.int p3), .val (.int p4), .val (.int nn.toInt32), .val (.int c_406), .val (.int c_408), .val (.int c_410), .val (.int c_412), .val (.ref b414), .val (.int (0 : Int32)), .unset] [(.int nn.toInt32)]) (fun _ k => XS.iload X573.here hx rfl (hb hby at_145) rfl k) ?_
      refine WinW.to T573 (mkF m 148 #[.val (.int p0), .val (.int p1), .val (.int p2), .val (.int p3), .val (.int p4), .val (.int nn.toInt32), .val (.int c_406), .val (.int c_408), .val (.int c_410), .val (.int c_412), .val (.ref b414), .val (.int (0 : Int32)), .unset] [(.int (1 : Int32)), (.int nn.toInt32)]) (fun _ k => XS.iconst X573.here hx rfl (hb hby at_147) k) ?_
      refine WinW.to T573 (mkF m 151 #[.val (.int p0), .val (.int p1), .val (.int p2), .val (.int p3), .val (.int p4), .val (.int nn.toInt32), .val (.int c_406), .val (.int c_408), .val (.int c_410), .val (.int c_412), .val (.ref b414), .val (.int (0 : Int32)), .unset] []) (fun _ k => XS.icmpNo X573.here hx rfl (hb hby at_148) rfl (flt (show ¬ (nn.toInt32 < (1 : Int32)) from (fun q => absurd ((own_lt (n := 1) hbn (by decide)).mp q) (by omega)))).1 k) ?_
      refine WinW.to T573 (mkF m 153 #[.val (.int p0), .val (.int p1), .val (.int p2), .val (.int p3), .val (.int p4), .val (.int nn.toInt32), .val (.int c_406), .val (.int c_408), .val (.int c_410), .val (.int c_412), .val (.ref b414), .val (.int (0 : Int32)), .unset] [(.int nn.toInt32)]) (fun _ k => XS.iload X573.here hx rfl (hb hby at_151) rfl k) ?_
      refine WinW.to T573 (mkF m 155 #[.val (.int p0), .val (.int p1), .val (.int p2), .val (.int p3), .val (.int p4), .val (.int nn.toInt32), .val (.int c_406), .val (.int c_408), .val (.int c_410), .val (.int c_412), .val (.ref b414), .val (.int (0 : Int32)), .unset] [(.int (0 : Int32)), (.int nn.toInt32)]) (fun _ k => XS.iload X573.here hx rfl (hb hby at_153) rfl k) ?_
      refine WinW.to T573 (mkF m 156 #[.val (.int p0), .val (.int p1), .val (.int p2), .val (.int p3), .val (.int p4), .val (.int nn.toInt32), .val (.int c_406), .val (.int c_408), .val (.int c_410), .val (.int c_412), .val (.ref b414), .val (.int (0 : Int32)), .unset] [(.int nn.toInt32)]) (fun _ k => XS.isub X573.here hx rfl (hb hby at_155) rfl (by rw [show (nn.toInt32 - (0 : Int32)) = nn.toInt32 from Int32.sub_zero _]; exact k)) ?_
      refine WinW.to T573 (mkF m 159 #[.val (.int p0), .val (.int p1), .val (.int p2), .val (.int p3), .val (.int p4), .val (.int nn.toInt32), .val (.int c_406), .val (.int c_408), .val (.int c_410), .val (.int c_412), .val (.ref b414), .val (.int (0 : Int32)), .unset] [(.int (512 : Int32)), (.int nn.toInt32)]) (fun _ k => XS.sipush X573.here hx rfl (hb hby at_156) k) ?_
      have h512 : ¬ 512 < nn := by omega
      refine WinW.to T573 (mkF m 162 #[.val (.int p0), .val (.int p1), .val (.int p2), .val (.int p3), .val (.int p4), .val (.int nn.toInt32), .val (.int c_406), .val (.int c_408), .val (.int c_410), .val (.int c_412), .val (.ref b414), .val (.int (0 : Int32)), .unset] []) (fun _ k => XS.icmpNo X573.here hx rfl (hb hby at_159) rfl (flt (show ¬ ((512 : Int32) < nn.toInt32) from (fun q => h512 ((own_lt (j := 512) (by decide) (by omega)).mp q)))).2.2.1 k) ?_
      refine WinW.to T573 (mkF m 163 #[.val (.int p0), .val (.int p1), .val (.int p2), .val (.int p3), .val (.int p4), .val (.int nn.toInt32), .val (.int c_406), .val (.int c_408), .val (.int c_410), .val (.int c_412), .val (.ref b414), .val (.int (0 : Int32)), .unset] [(.int (1 : Int32))]) (fun _ k => XS.iconst X573.here hx rfl (hb hby at_162) k) ?_
      refine WinW.to T573 (mkF m 167 #[.val (.int p0), .val (.int p1), .val (.int p2), .val (.int p3), .val (.int p4), .val (.int nn.toInt32), .val (.int c_406), .val (.int c_408), .val (.int c_410), .val (.int c_412), .val (.ref b414), .val (.int (0 : Int32)), .unset] [(.int (1 : Int32))]) (fun _ k => XS.goto X573.here hx rfl (pc0 := 163) (pc' := 167) rfl (hb hby at_163) (by decide) (by decide) k) ?_
      refine WinW.to T573 (mkF m 169 #[.val (.int p0), .val (.int p1), .val (.int p2), .val (.int p3), .val (.int p4), .val (.int nn.toInt32), .val (.int c_406), .val (.int c_408), .val (.int c_410), .val (.int c_412), .val (.ref b414), .val (.int (0 : Int32)), .val (.int (1 : Int32))] []) (fun _ k => XS.istore X573.here hx rfl (hb hby at_167) rfl (l' := #[.val (.int p0), .val (.int p1), .val (.int p2), .val (.int p3), .val (.int p4), .val (.int nn.toInt32), .val (.int c_406), .val (.int c_408), .val (.int c_410), .val (.int c_412), .val (.ref b414), .val (.int (0 : Int32)), .val (.int (1 : Int32))]) rfl k) ?_
      obtain ⟨T575, h575, X575, e575, E575, A575, D575, -, st575⟩ := newO X573 hx hZ hown (wk hw 6 rfl) (wk hw 7 rfl) (wk hw 8 rfl) e573 (g := (mkF m 169 #[.val (.int p0), .val (.int p1), .val (.int p2), .val (.int p3), .val (.int p4), .val (.int nn.toInt32), .val (.int c_406), .val (.int c_408), .val (.int c_410), .val (.int c_412), .val (.ref b414), .val (.int (0 : Int32)), .val (.int (1 : Int32))] [])) rfl (hb hby at_169) (by decide) (by decide)
      obtain ⟨b575, g575⟩ : ∃ z, z = h495.size := ⟨_, rfl⟩
      rw [← g575] at A575 D575 st575
      have ne576 : b414 ≠ b575 := Nat.ne_of_lt (Nat.lt_of_lt_of_le F501.lt (Nat.le_of_eq g575.symm))
      have g577 : n0 ≤ b575 := Nat.le_trans (own_le O496) (Nat.le_of_eq g575.symm)
      have z578 : h0.size ≤ b575 := Nat.le_trans K497.1 (Nat.le_of_eq g575.symm)
      have O579 := Old.ext O496 E575
      have K580 : Keep h0 h575 [] := K497.ext E575
      have c581 := CHr.ext E575 C500.1
      have C582 := CHr.trans C500 c581
      have F583 : Fld Z h575 b575 "java/lang/String" "value" "[B" .null := D575 (Or.inr (wk hw 21 rfl)) (ty := (.array .byte)) (by decide)
      have F584 : Fld Z h575 b575 "java/lang/String" "coder" "B" (.int (0 : Int32)) := D575 (Or.inr (wk hw 22 rfl)) (ty := .byte) (by decide)
      refine WinW.to T575 (mkF m 172 #[.val (.int p0), .val (.int p1), .val (.int p2), .val (.int p3), .val (.int p4), .val (.int nn.toInt32), .val (.int c_406), .val (.int c_408), .val (.int c_410), .val (.int c_412), .val (.ref b414), .val (.int (0 : Int32)), .val (.int (1 : Int32))] [(.ref b575)]) (fun _ k => st575 _ k) ?_
      refine WinW.to T575 (mkF m 173 #[.val (.int p0), .val (.int p1), .val (.int p2), .val (.int p3), .val (.int p4), .val (.int nn.toInt32), .val (.int c_406), .val (.int c_408), .val (.int c_410), .val (.int c_412), .val (.ref b414), .val (.int (0 : Int32)), .val (.int (1 : Int32))] [(.ref b575), (.ref b575)]) (fun _ k => XS.dup X575.here hx rfl (hb hby at_172) rfl rfl k) ?_
      refine WinW.to T575 (mkF m 175 #[.val (.int p0), .val (.int p1), .val (.int p2), .val (.int p3), .val (.int p4), .val (.int nn.toInt32), .val (.int c_406), .val (.int c_408), .val (.int c_410), .val (.int c_412), .val (.ref b414), .val (.int (0 : Int32)), .val (.int (1 : Int32))] [(.ref b414), (.ref b575), (.ref b575)]) (fun _ k => XS.aload X575.here hx rfl (hb hby at_173) rfl rfl k) ?_
      have F585 : ArF Z h575 b414 k414 .char nn (upd (upd (fun _ => 0) 0 c_406) 1 c_408) := (F501.ext E575)
      by_cases hl : ∀ i, i < nn → ¬ (255 : Int32) < ((upd (upd (fun _ => 0) 0 c_406) 1 c_408) : Nat → Int32) i
      · obtain ⟨T586, h586, v586, L586, k586, X586, e586, hS586, hk586, hZ586, hown586, ⟨t_586, kb_586, rfl, N586q, r586_0, r586_1, r586_2, r586_3⟩, c586, st586⟩ := W.special X575 hS0 (Nat.zero_le _) hx hZ (y := (⟨"java/lang/String", "<init>", "([C)V"⟩ : MethodName)) rfl hown (wk hw 9 rfl) (wk hw 10 rfl) (wk hw 8 rfl) (wk hw 11 rfl) (by decide) (ctor1 l Z a0 hw b575 b414 k414 nn (upd (upd (fun _ => 0) 0 c_406) 1 c_408) cs h575 n0 O579 A575 F583 F584 F585 hl hle g577 S_CS hcs) (own_EW hw) C582.1 e575 (g := (mkF m 175 #[.val (.int p0), .val (.int p1), .val (.int p2), .val (.int p3), .val (.int p4), .val (.int nn.toInt32), .val (.int c_406), .val (.int c_408), .val (.int c_410), .val (.int c_412), .val (.ref b414), .val (.int (0 : Int32)), .val (.int (1 : Int32))] [(.ref b414), (.ref b575), (.ref b575)])) rfl (by rw [hml]; rfl) (a := b575) (argsL := [(.ref b414)]) (rest := [(.ref b575)]) rfl (lenOf pd___C_V rfl) rfl (W := 1) (by show 2 * 0 + _ ≤ _; exact Nat.le_of_eq rfl) (hb hby at_175) (by decide) (by decide) (by decide) (by decide)
        have N587 := Fr.app N574 N586q
        have O588 := Old.keep O579 r586_0 (allS g577 all0)
        have K589 : Keep h0 h586 [] := Keep.trans K580 r586_0 (allS (Or.inr z578) all0)
        have c590 := c586
        have C591 := CHr.trans C582 c590
        refine WinW.to T586 (mkF m 178 #[.val (.int p0), .val (.int p1), .val (.int p2), .val (.int p3), .val (.int p4), .val (.int nn.toInt32), .val (.int c_406), .val (.int c_408), .val (.int c_410), .val (.int c_412), .val (.ref b414), .val (.int (0 : Int32)), .val (.int (1 : Int32))] [(.ref b575)]) (fun _ k => st586 _ k) ?_
        have F592 : Exa Z h586 b575 "java/lang/String" := (A575.keep r586_0)
        obtain ⟨T593, h593, v593, L593, X593, e593, ⟨rfl, N593q, r593_0⟩, st593⟩ := N.static X586 hx hZ586 (y := (⟨"com/example/usher/usher/lifecycle/ExecutionKey", "fits", "(Ljava/lang/String;)Z"⟩ : MethodName)) hown586 (wk hw 27 rfl) (wk hw 28 rfl) (wk hw 29 rfl) (wk hw 30 rfl) (by decide) (fitL1 l Z a0 hw b575 t_586 kb_586 nn (fun i => ((upd (upd (fun _ => 0) 0 c_406) 1 c_408) i).toInt8.toInt32) cs h586 n0 O588 F592 r586_1 r586_2 r586_3 (by omega) h512 S_CS hcs) e586 (g := (mkF m 178 #[.val (.int p0), .val (.int p1), .val (.int p2), .val (.int p3), .val (.int p4), .val (.int nn.toInt32), .val (.int c_406), .val (.int c_408), .val (.int c_410), .val (.int c_412), .val (.ref b414), .val (.int (0 : Int32)), .val (.int (1 : Int32))] [(.ref b575)])) rfl (by rw [hml]; rfl) (argsL := [(.ref b575)]) (rest := []) rfl (lenOf pd__Ljava_lang_String__Z rfl) rfl (W := 0) (by show 2 * 0 + _ ≤ _; exact Nat.le_of_eq rfl) (hb hby at_178) (by decide) (by decide) (by decide) (by decide)
        have N594 := Fr.app N587 N593q
        have e593 := e593.trans r593_0
        refine WinW.to T593 (mkF m 181 #[.val (.int p0), .val (.int p1), .val (.int p2), .val (.int p3), .val (.int p4), .val (.int nn.toInt32), .val (.int c_406), .val (.int c_408), .val (.int c_410), .val (.int c_412), .val (.ref b414), .val (.int (0 : Int32)), .val (.int (1 : Int32))] [(.int (1 : Int32))]) (fun _ k => st593 _ k) ?_
        refine WinW.to T593 (mkF m 183 #[.val (.int p0), .val (.int p1), .val (.int p2), .val (.int p3), .val (.int p4), .val (.int nn.toInt32), .val (.int c_406), .val (.int c_408), .val (.int c_410), .val (.int c_412), .val (.ref b414), .val (.int (0 : Int32)), .val (.int (1 : Int32))] [(.int (1 : Int32)), (.int (1 : Int32))]) (fun _ k => XS.iload X593.here hx rfl (hb hby at_181) rfl k) ?_
        refine WinW.to T593 (mkF m 186 #[.val (.int p0), .val (.int p1), .val (.int p2), .val (.int p3), .val (.int p4), .val (.int nn.toInt32), .val (.int c_406), .val (.int c_408), .val (.int c_410), .val (.int c_412), .val (.ref b414), .val (.int (0 : Int32)), .val (.int (1 : Int32))] []) (fun _ k => XS.icmpNo X593.here hx rfl (hb hby at_183) rfl (teq (show (1 : Int32) = (1 : Int32) from by decide)).2 k) ?_
        refine WinW.to T593 (mkF m 187 #[.val (.int p0), .val (.int p1), .val (.int p2), .val (.int p3), .val (.int p4), .val (.int nn.toInt32), .val (.int c_406), .val (.int c_408), .val (.int c_410), .val (.int c_412), .val (.ref b414), .val (.int (0 : Int32)), .val (.int (1 : Int32))] [(.int (1 : Int32))]) (fun _ k => XS.iconst X593.here hx rfl (hb hby at_186) k) ?_
        refine WinW.to T593 (mkF m 191 #[.val (.int p0), .val (.int p1), .val (.int p2), .val (.int p3), .val (.int p4), .val (.int nn.toInt32), .val (.int c_406), .val (.int c_408), .val (.int c_410), .val (.int c_412), .val (.ref b414), .val (.int (0 : Int32)), .val (.int (1 : Int32))] [(.int (1 : Int32))]) (fun _ k => XS.goto X593.here hx rfl (pc0 := 187) (pc' := 191) rfl (hb hby at_187) (by decide) (by decide) k) ?_
        exact WinW.retN X593 hS586 (by rw [e593]; exact hk586) hx hlk (t := .boolean) hret (by simp) rfl (hb hby at_191) hZ586 (own_EW hw) (by rw [e593]; exact C591) (by decide) (by decide) (by (try rw [e593]); exact ⟨rfl, N594, trivial⟩)
      · have S596 : Safe Z EL1 (s.setVm s.vm).vm h575 b575 := own_safe hZ.alike A575 F583 (wk hw 7 rfl)
        obtain ⟨T595, h595, v595, L595, X595, e595, ⟨t_595, kb_595, rfl, N595q, r595_0, r595_1, r595_2, r595_3, r595_4⟩, st595⟩ := N.special X575 hx hZ (y := (⟨"java/lang/String", "<init>", "([C)V"⟩ : MethodName)) rfl hown (wk hw 9 rfl) (wk hw 10 rfl) (wk hw 8 rfl) (wk hw 11 rfl) (by decide) (ctor1u l Z a0 hw b575 b414 k414 nn (upd (upd (fun _ => 0) 0 c_406) 1 c_408) cs h575 n0 O579 A575 F583 F584 F585 hle (Classical.byContradiction fun q => hl fun i hi hp => q ⟨i, hi, hp⟩) g577 S_AD S_HI S_LO S_CS hcs) e575 (g := (mkF m 175 #[.val (.int p0), .val (.int p1), .val (.int p2), .val (.int p3), .val (.int p4), .val (.int nn.toInt32), .val (.int c_406), .val (.int c_408), .val (.int c_410), .val (.int c_412), .val (.ref b414), .val (.int (0 : Int32)), .val (.int (1 : Int32))] [(.ref b414), (.ref b575), (.ref b575)])) rfl (by rw [hml]; rfl) (a := b575) (argsL := [(.ref b414)]) (rest := [(.ref b575)]) rfl (lenOf pd___C_V rfl) rfl (W := 1) (by show 2 * 0 + _ ≤ _; exact Nat.le_of_eq rfl) (hb hby at_175) (by decide) (by decide) (by decide) (by decide)
        have N597 := Fr.app N574 N595q
        have ne598 : b414 ≠ t_595 := Nat.ne_of_lt (Nat.lt_of_lt_of_le F585.lt r595_1)
        have ne599 : b575 ≠ t_595 := Nat.ne_of_lt (Nat.lt_of_lt_of_le A575.lt r595_1)
        have g600 : n0 ≤ t_595 := Nat.le_trans (own_le O579) r595_1
        have z601 : h0.size ≤ t_595 := Nat.le_trans K580.1 r595_1
        have O602 := Old.keep O579 r595_0 (allS g577 all0)
        have K603 : Keep h0 h595 [] := Keep.trans K580 r595_0 (allS (Or.inr z578) all0)
        have c604 := CHr.keep r595_0 (sfS S596 sf0) C582.1
        have C605 := CHr.trans C582 c604
        have S606 := CHr.safe c604 A575.lt S596
        refine WinW.to T595 (mkF m 178 #[.val (.int p0), .val (.int p1), .val (.int p2), .val (.int p3), .val (.int p4), .val (.int nn.toInt32), .val (.int c_406), .val (.int c_408), .val (.int c_410), .val (.int c_412), .val (.ref b414), .val (.int (0 : Int32)), .val (.int (1 : Int32))] [(.ref b575)]) (fun _ k => st595 _ k) ?_
        have F607 : Exa Z h595 b575 "java/lang/String" := (A575.keep r595_0)
        have F608 : ArF Z h595 b414 k414 .char nn (upd (upd (fun _ => 0) 0 c_406) 1 c_408) := (F585.keep r595_0 (ninS ne576 nin0))
        obtain ⟨T609, h609, v609, L609, X609, e609, ⟨rfl, N609q, r609_0⟩, st609⟩ := N.static X595 hx hZ (y := (⟨"com/example/usher/usher/lifecycle/ExecutionKey", "fits", "(Ljava/lang/String;)Z"⟩ : MethodName)) hown (wk hw 27 rfl) (wk hw 28 rfl) (wk hw 29 rfl) (wk hw 30 rfl) (by decide) (fitU1 l Z a0 hw b575 t_595 kb_595 nn (upd (upd (fun _ => 0) 0 c_406) 1 c_408) 0 cs h595 n0 O602 F607 r595_2 r595_3 r595_4 (own_fr F608) (by omega) ((own_cp2 (by omega)).trans (if_neg (fun q => hsu502 q.1))) h512 S_AD S_HI S_LO S_CS hcs) e595 (g := (mkF m 178 #[.val (.int p0), .val (.int p1), .val (.int p2), .val (.int p3), .val (.int p4), .val (.int nn.toInt32), .val (.int c_406), .val (.int c_408), .val (.int c_410), .val (.int c_412), .val (.ref b414), .val (.int (0 : Int32)), .val (.int (1 : Int32))] [(.ref b575)])) rfl (by rw [hml]; rfl) (argsL := [(.ref b575)]) (rest := []) rfl (lenOf pd__Ljava_lang_String__Z rfl) rfl (W := 0) (by show 2 * 0 + _ ≤ _; exact Nat.le_of_eq rfl) (hb hby at_178) (by decide) (by decide) (by decide) (by decide)
        have N610 := Fr.app N597 N609q
        have e609 := e609.trans r609_0
        refine WinW.to T609 (mkF m 181 #[.val (.int p0), .val (.int p1), .val (.int p2), .val (.int p3), .val (.int p4), .val (.int nn.toInt32), .val (.int c_406), .val (.int c_408), .val (.int c_410), .val (.int c_412), .val (.ref b414), .val (.int (0 : Int32)), .val (.int (1 : Int32))] [(.int (1 : Int32))]) (fun _ k => st609 _ k) ?_
        refine WinW.to T609 (mkF m 183 #[.val (.int p0), .val (.int p1), .val (.int p2), .val (.int p3), .val (.int p4), .val (.int nn.toInt32), .val (.int c_406), .val (.int c_408), .val (.int c_410), .val (.int c_412), .val (.ref b414), .val (.int (0 : Int32)), .val (.int (1 : Int32))] [(.int (1 : Int32)), (.int (1 : Int32))]) (fun _ k => XS.iload X609.here hx rfl (hb hby at_181) rfl k) ?_
        refine WinW.to T609 (mkF m 186 #[.val (.int p0), .val (.int p1), .val (.int p2), .val (.int p3), .val (.int p4), .val (.int nn.toInt32), .val (.int c_406), .val (.int c_408), .val (.int c_410), .val (.int c_412), .val (.ref b414), .val (.int (0 : Int32)), .val (.int (1 : Int32))] []) (fun _ k => XS.icmpNo X609.here hx rfl (hb hby at_183) rfl (teq (show (1 : Int32) = (1 : Int32) from by decide)).2 k) ?_
        refine WinW.to T609 (mkF m 187 #[.val (.int p0), .val (.int p1), .val (.int p2), .val (.int p3), .val (.int p4), .val (.int nn.toInt32), .val (.int c_406), .val (.int c_408), .val (.int c_410), .val (.int c_412), .val (.ref b414), .val (.int (0 : Int32)), .val (.int (1 : Int32))] [(.int (1 : Int32))]) (fun _ k => XS.iconst X609.here hx rfl (hb hby at_186) k) ?_
        refine WinW.to T609 (mkF m 191 #[.val (.int p0), .val (.int p1), .val (.int p2), .val (.int p3), .val (.int p4), .val (.int nn.toInt32), .val (.int c_406), .val (.int c_408), .val (.int c_410), .val (.int c_412), .val (.ref b414), .val (.int (0 : Int32)), .val (.int (1 : Int32))] [(.int (1 : Int32))]) (fun _ k => XS.goto X609.here hx rfl (pc0 := 187) (pc' := 191) rfl (hb hby at_187) (by decide) (by decide) k) ?_
        exact WinW.retN X609 hS0 (by rw [e609]; exact (Nat.zero_le _)) hx hlk (t := .boolean) hret (by simp) rfl (hb hby at_191) hZ (own_EW hw) (by rw [e609]; exact C605) (by decide) (by decide) (by (try rw [e609]); exact ⟨rfl, N610, trivial⟩)
  · have hc' := hc
    refine WinW.to T414 (mkF m 40 #[.val (.int p0), .val (.int p1), .val (.int p2), .val (.int p3), .val (.int p4), .val (.int nn.toInt32), .val (.int c_406), .val (.int c_408), .val (.int c_410), .val (.int c_412), .val (.ref b414), .unset, .unset] [(.int nn.toInt32)]) (fun _ k => XS.iload X414.here hx rfl (hb hby at_38) rfl k) ?_
    refine WinW.to T414 (mkF m 41 #[.val (.int p0), .val (.int p1), .val (.int p2), .val (.int p3), .val (.int p4), .val (.int nn.toInt32), .val (.int c_406), .val (.int c_408), .val (.int c_410), .val (.int c_412), .val (.ref b414), .unset, .unset] [(.int (1 : Int32)), (.int nn.toInt32)]) (fun _ k => XS.iconst X414.here hx rfl (hb hby at_40) k) ?_
    refine WinW.to T414 (mkF m 44 #[.val (.int p0), .val (.int p1), .val (.int p2), .val (.int p3), .val (.int p4), .val (.int nn.toInt32), .val (.int c_406), .val (.int c_408), .val (.int c_410), .val (.int c_412), .val (.ref b414), .unset, .unset] []) (fun _ k => XS.icmpNo X414.here hx rfl (hb hby at_41) rfl (flt (show ¬ (nn.toInt32 < (1 : Int32)) from (fun q => absurd ((own_lt (n := 1) hbn (by decide)).mp q) (by omega)))).1 k) ?_
    refine WinW.to T414 (mkF m 46 #[.val (.int p0), .val (.int p1), .val (.int p2), .val (.int p3), .val (.int p4), .val (.int nn.toInt32), .val (.int c_406), .val (.int c_408), .val (.int c_410), .val (.int c_412), .val (.ref b414), .unset, .unset] [(.ref b414)]) (fun _ k => XS.aload X414.here hx rfl (hb hby at_44) rfl rfl k) ?_
    refine WinW.to T414 (mkF m 47 #[.val (.int p0), .val (.int p1), .val (.int p2), .val (.int p3), .val (.int p4), .val (.int nn.toInt32), .val (.int c_406), .val (.int c_408), .val (.int c_410), .val (.int c_412), .val (.ref b414), .unset, .unset] [(.int (0 : Int32)), (.ref b414)]) (fun _ k => XS.iconst X414.here hx rfl (hb hby at_46) k) ?_
    refine WinW.to T414 (mkF m 49 #[.val (.int p0), .val (.int p1), .val (.int p2), .val (.int p3), .val (.int p4), .val (.int nn.toInt32), .val (.int c_406), .val (.int c_408), .val (.int c_410), .val (.int c_412), .val (.ref b414), .unset, .unset] [(.int c_406), (.int (0 : Int32)), (.ref b414)]) (fun _ k => XS.iload X414.here hx rfl (hb hby at_47) rfl k) ?_
    obtain ⟨cl611, Ar611, hi611, -⟩ := ArF.at F421 (j := (0 : Int32)) (i := 0) rfl (by decide) (by omega)
    obtain ⟨T612, h612, X612, e612, W612, st612⟩ := stC X414 hx hZ e414 Ar611 (j := (0 : Int32)) hi611 (g := (mkF m 49 #[.val (.int p0), .val (.int p1), .val (.int p2), .val (.int p3), .val (.int p4), .val (.int nn.toInt32), .val (.int c_406), .val (.int c_408), .val (.int c_410), .val (.int c_412), .val (.ref b414), .unset, .unset] [(.int c_406), (.int (0 : Int32)), (.ref b414)])) rfl rfl (hb hby at_49)
    have O613 := Old.wr O417 W612 g415
    have K614 : Keep h0 h612 [] := K418.wr W612 (Or.inr z416)
    have N615 := Fr.snoc X612 N413 g415
    have c616 := CHr.wr W612 (Safe.arv hZ.alike (own_arv F421) (by decide)) C420.1
    have C617 := CHr.trans C420 c616
    have eq612 : nar .char c_406 = c_406 := r406_1
    have W612 := eq612 ▸ W612
    have F618 : ArF Z h612 b414 k414 .char nn (upd (fun _ => 0) 0 c_406) := ArF.set F421 W612 rfl (by omega) (eq612 ▸ (fits_nar_char _))
    refine WinW.to T612 (mkF m 50 #[.val (.int p0), .val (.int p1), .val (.int p2), .val (.int p3), .val (.int p4), .val (.int nn.toInt32), .val (.int c_406), .val (.int c_408), .val (.int c_410), .val (.int c_412), .val (.ref b414), .unset, .unset] []) (fun _ k => st612 _ k) ?_
    refine WinW.to T612 (mkF m 52 #[.val (.int p0), .val (.int p1), .val (.int p2), .val (.int p3), .val (.int p4), .val (.int nn.toInt32), .val (.int c_406), .val (.int c_408), .val (.int c_410), .val (.int c_412), .val (.ref b414), .unset, .unset] [(.int nn.toInt32)]) (fun _ k => XS.iload X612.here hx rfl (hb hby at_50) rfl k) ?_
    refine WinW.to T612 (mkF m 53 #[.val (.int p0), .val (.int p1), .val (.int p2), .val (.int p3), .val (.int p4), .val (.int nn.toInt32), .val (.int c_406), .val (.int c_408), .val (.int c_410), .val (.int c_412), .val (.ref b414), .unset, .unset] [(.int (2 : Int32)), (.int nn.toInt32)]) (fun _ k => XS.iconst X612.here hx rfl (hb hby at_52) k) ?_
    refine WinW.to T612 (mkF m 56 #[.val (.int p0), .val (.int p1), .val (.int p2), .val (.int p3), .val (.int p4), .val (.int nn.toInt32), .val (.int c_406), .val (.int c_408), .val (.int c_410), .val (.int c_412), .val (.ref b414), .unset, .unset] []) (fun _ k => XS.icmpNo X612.here hx rfl (hb hby at_53) rfl (flt (show ¬ (nn.toInt32 < (2 : Int32)) from (fun q => absurd ((own_lt (n := 2) hbn (by decide)).mp q) (by omega)))).1 k) ?_
    refine WinW.to T612 (mkF m 58 #[.val (.int p0), .val (.int p1), .val (.int p2), .val (.int p3), .val (.int p4), .val (.int nn.toInt32), .val (.int c_406), .val (.int c_408), .val (.int c_410), .val (.int c_412), .val (.ref b414), .unset, .unset] [(.ref b414)]) (fun _ k => XS.aload X612.here hx rfl (hb hby at_56) rfl rfl k) ?_
    refine WinW.to T612 (mkF m 59 #[.val (.int p0), .val (.int p1), .val (.int p2), .val (.int p3), .val (.int p4), .val (.int nn.toInt32), .val (.int c_406), .val (.int c_408), .val (.int c_410), .val (.int c_412), .val (.ref b414), .unset, .unset] [(.int (1 : Int32)), (.ref b414)]) (fun _ k => XS.iconst X612.here hx rfl (hb hby at_58) k) ?_
    refine WinW.to T612 (mkF m 61 #[.val (.int p0), .val (.int p1), .val (.int p2), .val (.int p3), .val (.int p4), .val (.int nn.toInt32), .val (.int c_406), .val (.int c_408), .val (.int c_410), .val (.int c_412), .val (.ref b414), .unset, .unset] [(.int c_408), (.int (1 : Int32)), (.ref b414)]) (fun _ k => XS.iload X612.here hx rfl (hb hby at_59) rfl k) ?_
    obtain ⟨cl619, Ar619, hi619, -⟩ := ArF.at F618 (j := (1 : Int32)) (i := 1) rfl (by decide) (by omega)
    obtain ⟨T620, h620, X620, e620, W620, st620⟩ := stC X612 hx hZ e612 Ar619 (j := (1 : Int32)) hi619 (g := (mkF m 61 #[.val (.int p0), .val (.int p1), .val (.int p2), .val (.int p3), .val (.int p4), .val (.int nn.toInt32), .val (.int c_406), .val (.int c_408), .val (.int c_410), .val (.int c_412), .val (.ref b414), .unset, .unset] [(.int c_408), (.int (1 : Int32)), (.ref b414)])) rfl rfl (hb hby at_61)
    have O621 := Old.wr O613 W620 g415
    have K622 : Keep h0 h620 [] := K614.wr W620 (Or.inr z416)
    have N623 := Fr.snoc X620 N615 g415
    have c624 := CHr.wr W620 (Safe.arv hZ.alike (own_arv F618) (by decide)) C617.1
    have C625 := CHr.trans C617 c624
    have eq620 : nar .char c_408 = c_408 := r408_1
    have W620 := eq620 ▸ W620
    have F626 : ArF Z h620 b414 k414 .char nn (upd (upd (fun _ => 0) 0 c_406) 1 c_408) := ArF.set F618 W620 rfl (by omega) (eq620 ▸ (fits_nar_char _))
    refine WinW.to T620 (mkF m 62 #[.val (.int p0), .val (.int p1), .val (.int p2), .val (.int p3), .val (.int p4), .val (.int nn.toInt32), .val (.int c_406), .val (.int c_408), .val (.int c_410), .val (.int c_412), .val (.ref b414), .unset, .unset] []) (fun _ k => st620 _ k) ?_
    refine WinW.to T620 (mkF m 64 #[.val (.int p0), .val (.int p1), .val (.int p2), .val (.int p3), .val (.int p4), .val (.int nn.toInt32), .val (.int c_406), .val (.int c_408), .val (.int c_410), .val (.int c_412), .val (.ref b414), .unset, .unset] [(.int nn.toInt32)]) (fun _ k => XS.iload X620.here hx rfl (hb hby at_62) rfl k) ?_
    refine WinW.to T620 (mkF m 65 #[.val (.int p0), .val (.int p1), .val (.int p2), .val (.int p3), .val (.int p4), .val (.int nn.toInt32), .val (.int c_406), .val (.int c_408), .val (.int c_410), .val (.int c_412), .val (.ref b414), .unset, .unset] [(.int (5 : Int32)), (.int nn.toInt32)]) (fun _ k => XS.iconst X620.here hx rfl (hb hby at_64) k) ?_
    refine WinW.to T620 (mkF m 68 #[.val (.int p0), .val (.int p1), .val (.int p2), .val (.int p3), .val (.int p4), .val (.int nn.toInt32), .val (.int c_406), .val (.int c_408), .val (.int c_410), .val (.int c_412), .val (.ref b414), .unset, .unset] []) (fun _ k => XS.icmpNo X620.here hx rfl (hb hby at_65) rfl (flt (show ¬ (nn.toInt32 < (5 : Int32)) from (fun q => absurd ((own_lt (n := 5) hbn (by decide)).mp q) (by omega)))).1 k) ?_
    refine WinW.to T620 (mkF m 70 #[.val (.int p0), .val (.int p1), .val (.int p2), .val (.int p3), .val (.int p4), .val (.int nn.toInt32), .val (.int c_406), .val (.int c_408), .val (.int c_410), .val (.int c_412), .val (.ref b414), .unset, .unset] [(.ref b414)]) (fun _ k => XS.aload X620.here hx rfl (hb hby at_68) rfl rfl k) ?_
    refine WinW.to T620 (mkF m 72 #[.val (.int p0), .val (.int p1), .val (.int p2), .val (.int p3), .val (.int p4), .val (.int nn.toInt32), .val (.int c_406), .val (.int c_408), .val (.int c_410), .val (.int c_412), .val (.ref b414), .unset, .unset] [(.int nn.toInt32), (.ref b414)]) (fun _ k => XS.iload X620.here hx rfl (hb hby at_70) rfl k) ?_
    refine WinW.to T620 (mkF m 73 #[.val (.int p0), .val (.int p1), .val (.int p2), .val (.int p3), .val (.int p4), .val (.int nn.toInt32), .val (.int c_406), .val (.int c_408), .val (.int c_410), .val (.int c_412), .val (.ref b414), .unset, .unset] [(.int (2 : Int32)), (.int nn.toInt32), (.ref b414)]) (fun _ k => XS.iconst X620.here hx rfl (hb hby at_72) k) ?_
    refine WinW.to T620 (mkF m 74 #[.val (.int p0), .val (.int p1), .val (.int p2), .val (.int p3), .val (.int p4), .val (.int nn.toInt32), .val (.int c_406), .val (.int c_408), .val (.int c_410), .val (.int c_412), .val (.ref b414), .unset, .unset] [(.int (nn - 2).toInt32), (.ref b414)]) (fun _ k => XS.isub X620.here hx rfl (hb hby at_73) rfl (by rw [show (nn.toInt32 - (2 : Int32)) = (nn - 2).toInt32 from own_sub (b := 2) (by decide) hbn (by omega)]; exact k)) ?_
    refine WinW.to T620 (mkF m 76 #[.val (.int p0), .val (.int p1), .val (.int p2), .val (.int p3), .val (.int p4), .val (.int nn.toInt32), .val (.int c_406), .val (.int c_408), .val (.int c_410), .val (.int c_412), .val (.ref b414), .unset, .unset] [(.int c_410), (.int (nn - 2).toInt32), (.ref b414)]) (fun _ k => XS.iload X620.here hx rfl (hb hby at_74) rfl k) ?_
    obtain ⟨cl627, Ar627, hi627, -⟩ := ArF.at F626 (j := (nn - 2).toInt32) (i := (nn - 2)) (own_tn (by omega)).1 (own_tn (by omega)).2.1 (by omega)
    obtain ⟨T628, h628, X628, e628, W628, st628⟩ := stC X620 hx hZ e620 Ar627 (j := (nn - 2).toInt32) hi627 (g := (mkF m 76 #[.val (.int p0), .val (.int p1), .val (.int p2), .val (.int p3), .val (.int p4), .val (.int nn.toInt32), .val (.int c_406), .val (.int c_408), .val (.int c_410), .val (.int c_412), .val (.ref b414), .unset, .unset] [(.int c_410), (.int (nn - 2).toInt32), (.ref b414)])) rfl rfl (hb hby at_76)
    have O629 := Old.wr O621 W628 g415
    have K630 : Keep h0 h628 [] := K622.wr W628 (Or.inr z416)
    have N631 := Fr.snoc X628 N623 g415
    have c632 := CHr.wr W628 (Safe.arv hZ.alike (own_arv F626) (by decide)) C625.1
    have C633 := CHr.trans C625 c632
    have eq628 : nar .char c_410 = c_410 := r410_1
    have W628 := eq628 ▸ W628
    have F634 : ArF Z h628 b414 k414 .char nn (upd (upd (upd (fun _ => 0) 0 c_406) 1 c_408) (nn - 2) c_410) := ArF.set F626 W628 (own_tn (by omega)).1 (by omega) (eq628 ▸ (fits_nar_char _))
    refine WinW.to T628 (mkF m 77 #[.val (.int p0), .val (.int p1), .val (.int p2), .val (.int p3), .val (.int p4), .val (.int nn.toInt32), .val (.int c_406), .val (.int c_408), .val (.int c_410), .val (.int c_412), .val (.ref b414), .unset, .unset] []) (fun _ k => st628 _ k) ?_
    refine WinW.to T628 (mkF m 79 #[.val (.int p0), .val (.int p1), .val (.int p2), .val (.int p3), .val (.int p4), .val (.int nn.toInt32), .val (.int c_406), .val (.int c_408), .val (.int c_410), .val (.int c_412), .val (.ref b414), .unset, .unset] [(.ref b414)]) (fun _ k => XS.aload X628.here hx rfl (hb hby at_77) rfl rfl k) ?_
    refine WinW.to T628 (mkF m 81 #[.val (.int p0), .val (.int p1), .val (.int p2), .val (.int p3), .val (.int p4), .val (.int nn.toInt32), .val (.int c_406), .val (.int c_408), .val (.int c_410), .val (.int c_412), .val (.ref b414), .unset, .unset] [(.int nn.toInt32), (.ref b414)]) (fun _ k => XS.iload X628.here hx rfl (hb hby at_79) rfl k) ?_
    refine WinW.to T628 (mkF m 82 #[.val (.int p0), .val (.int p1), .val (.int p2), .val (.int p3), .val (.int p4), .val (.int nn.toInt32), .val (.int c_406), .val (.int c_408), .val (.int c_410), .val (.int c_412), .val (.ref b414), .unset, .unset] [(.int (1 : Int32)), (.int nn.toInt32), (.ref b414)]) (fun _ k => XS.iconst X628.here hx rfl (hb hby at_81) k) ?_
    refine WinW.to T628 (mkF m 83 #[.val (.int p0), .val (.int p1), .val (.int p2), .val (.int p3), .val (.int p4), .val (.int nn.toInt32), .val (.int c_406), .val (.int c_408), .val (.int c_410), .val (.int c_412), .val (.ref b414), .unset, .unset] [(.int (nn - 1).toInt32), (.ref b414)]) (fun _ k => XS.isub X628.here hx rfl (hb hby at_82) rfl (by rw [show (nn.toInt32 - (1 : Int32)) = (nn - 1).toInt32 from own_sub (b := 1) (by decide) hbn (by omega)]; exact k)) ?_
    refine WinW.to T628 (mkF m 85 #[.val (.int p0), .val (.int p1), .val (.int p2), .val (.int p3), .val (.int p4), .val (.int nn.toInt32), .val (.int c_406), .val (.int c_408), .val (.int c_410), .val (.int c_412), .val (.ref b414), .unset, .unset] [(.int c_412), (.int (nn - 1).toInt32), (.ref b414)]) (fun _ k => XS.iload X628.here hx rfl (hb hby at_83) rfl k) ?_
    obtain ⟨cl635, Ar635, hi635, -⟩ := ArF.at F634 (j := (nn - 1).toInt32) (i := (nn - 1)) (own_tn (by omega)).1 (own_tn (by omega)).2.1 (by omega)
    obtain ⟨T636, h636, X636, e636, W636, st636⟩ := stC X628 hx hZ e628 Ar635 (j := (nn - 1).toInt32) hi635 (g := (mkF m 85 #[.val (.int p0), .val (.int p1), .val (.int p2), .val (.int p3), .val (.int p4), .val (.int nn.toInt32), .val (.int c_406), .val (.int c_408), .val (.int c_410), .val (.int c_412), .val (.ref b414), .unset, .unset] [(.int c_412), (.int (nn - 1).toInt32), (.ref b414)])) rfl rfl (hb hby at_85)
    have O637 := Old.wr O629 W636 g415
    have K638 : Keep h0 h636 [] := K630.wr W636 (Or.inr z416)
    have N639 := Fr.snoc X636 N631 g415
    have c640 := CHr.wr W636 (Safe.arv hZ.alike (own_arv F634) (by decide)) C633.1
    have C641 := CHr.trans C633 c640
    have eq636 : nar .char c_412 = c_412 := r412_1
    have W636 := eq636 ▸ W636
    have F642 : ArF Z h636 b414 k414 .char nn (upd (upd (upd (upd (fun _ => 0) 0 c_406) 1 c_408) (nn - 2) c_410) (nn - 1) c_412) := ArF.set F634 W636 (own_tn (by omega)).1 (by omega) (eq636 ▸ (fits_nar_char _))
    refine WinW.to T636 (mkF m 86 #[.val (.int p0), .val (.int p1), .val (.int p2), .val (.int p3), .val (.int p4), .val (.int nn.toInt32), .val (.int c_406), .val (.int c_408), .val (.int c_410), .val (.int c_412), .val (.ref b414), .unset, .unset] []) (fun _ k => st636 _ k) ?_
    refine WinW.to T636 (mkF m 87 #[.val (.int p0), .val (.int p1), .val (.int p2), .val (.int p3), .val (.int p4), .val (.int nn.toInt32), .val (.int c_406), .val (.int c_408), .val (.int c_410), .val (.int c_412), .val (.ref b414), .unset, .unset] [(.int (0 : Int32))]) (fun _ k => XS.iconst X636.here hx rfl (hb hby at_86) k) ?_
    refine WinW.to T636 (mkF m 89 #[.val (.int p0), .val (.int p1), .val (.int p2), .val (.int p3), .val (.int p4), .val (.int nn.toInt32), .val (.int c_406), .val (.int c_408), .val (.int c_410), .val (.int c_412), .val (.ref b414), .val (.int (0 : Int32)), .unset] []) (fun _ k => XS.istore X636.here hx rfl (hb hby at_87) rfl (l' := #[.val (.int p0), .val (.int p1), .val (.int p2), .val (.int p3), .val (.int p4), .val (.int nn.toInt32), .val (.int c_406), .val (.int c_408), .val (.int c_410), .val (.int c_412), .val (.ref b414), .val (.int (0 : Int32)), .unset]) rfl k) ?_
    refine WinW.to T636 (mkF m 91 #[.val (.int p0), .val (.int p1), .val (.int p2), .val (.int p3), .val (.int p4), .val (.int nn.toInt32), .val (.int c_406), .val (.int c_408), .val (.int c_410), .val (.int c_412), .val (.ref b414), .val (.int (0 : Int32)), .unset] [(.int nn.toInt32)]) (fun _ k => XS.iload X636.here hx rfl (hb hby at_89) rfl k) ?_
    refine WinW.to T636 (mkF m 92 #[.val (.int p0), .val (.int p1), .val (.int p2), .val (.int p3), .val (.int p4), .val (.int nn.toInt32), .val (.int c_406), .val (.int c_408), .val (.int c_410), .val (.int c_412), .val (.ref b414), .val (.int (0 : Int32)), .unset] [(.int (2 : Int32)), (.int nn.toInt32)]) (fun _ k => XS.iconst X636.here hx rfl (hb hby at_91) k) ?_
    refine WinW.to T636 (mkF m 95 #[.val (.int p0), .val (.int p1), .val (.int p2), .val (.int p3), .val (.int p4), .val (.int nn.toInt32), .val (.int c_406), .val (.int c_408), .val (.int c_410), .val (.int c_412), .val (.ref b414), .val (.int (0 : Int32)), .unset] []) (fun _ k => XS.icmpNo X636.here hx rfl (hb hby at_92) rfl (flt (show ¬ (nn.toInt32 < (2 : Int32)) from (fun q => absurd ((own_lt (n := 2) hbn (by decide)).mp q) (by omega)))).1 k) ?_
    refine WinW.to T636 (mkF m 97 #[.val (.int p0), .val (.int p1), .val (.int p2), .val (.int p3), .val (.int p4), .val (.int nn.toInt32), .val (.int c_406), .val (.int c_408), .val (.int c_410), .val (.int c_412), .val (.ref b414), .val (.int (0 : Int32)), .unset] [(.int c_406)]) (fun _ k => XS.iload X636.here hx rfl (hb hby at_95) rfl k) ?_
    by_cases hsu643 : hsur c_406
    · obtain ⟨T644, h644, v644, L644, X644, e644, ⟨rfl, N644q, r644_0⟩, st644⟩ := N.static X636 hx hZ (y := (⟨"com/example/usher/usher/lifecycle/ExecutionKeyFitsPinLaw", "isHigh", "(C)Z"⟩ : MethodName)) hown (wk hw 36 rfl) (wk hw 37 rfl) (wk hw 2 rfl) (wk hw 38 rfl) (by decide) (lh1 l Z a0 hw c_406 h636 n0 O637 hsu643) e636 (g := (mkF m 97 #[.val (.int p0), .val (.int p1), .val (.int p2), .val (.int p3), .val (.int p4), .val (.int nn.toInt32), .val (.int c_406), .val (.int c_408), .val (.int c_410), .val (.int c_412), .val (.ref b414), .val (.int (0 : Int32)), .unset] [(.int c_406)])) rfl (by rw [hml]; rfl) (argsL := [(.int c_406)]) (rest := []) rfl (lenOf pd__C_Z rfl) rfl (W := 0) (by show 2 * 0 + _ ≤ _; exact Nat.le_of_eq rfl) (hb hby at_97) (by decide) (by decide) (by decide) (by decide)
      have N645 := Fr.app N639 N644q
      have e644 := e644.trans r644_0
      refine WinW.to T644 (mkF m 100 #[.val (.int p0), .val (.int p1), .val (.int p2), .val (.int p3), .val (.int p4), .val (.int nn.toInt32), .val (.int c_406), .val (.int c_408), .val (.int c_410), .val (.int c_412), .val (.ref b414), .val (.int (0 : Int32)), .unset] [(.int (1 : Int32))]) (fun _ k => st644 _ k) ?_
      refine WinW.to T644 (mkF m 103 #[.val (.int p0), .val (.int p1), .val (.int p2), .val (.int p3), .val (.int p4), .val (.int nn.toInt32), .val (.int c_406), .val (.int c_408), .val (.int c_410), .val (.int c_412), .val (.ref b414), .val (.int (0 : Int32)), .unset] []) (fun _ k => XS.ifNo X644.here hx rfl (hb hby at_100) rfl ((if0 _ _).trans (feq (show ¬ ((1 : Int32) = (0 : Int32)) from by decide)).1) k) ?_
      refine WinW.to T644 (mkF m 105 #[.val (.int p0), .val (.int p1), .val (.int p2), .val (.int p3), .val (.int p4), .val (.int nn.toInt32), .val (.int c_406), .val (.int c_408), .val (.int c_410), .val (.int c_412), .val (.ref b414), .val (.int (0 : Int32)), .unset] [(.int c_408)]) (fun _ k => XS.iload X644.here hx rfl (hb hby at_103) rfl k) ?_
      by_cases hsu646 : lsur c_408
      · obtain ⟨T647, h647, v647, L647, X647, e647, ⟨rfl, N647q, r647_0⟩, st647⟩ := N.static X644 hx hZ (y := (⟨"com/example/usher/usher/lifecycle/ExecutionKeyFitsPinLaw", "isLow", "(C)Z"⟩ : MethodName)) hown (wk hw 115 rfl) (wk hw 116 rfl) (wk hw 2 rfl) (wk hw 117 rfl) (by decide) (ll1 l Z a0 hw c_408 h636 n0 O637 hsu646) e644 (g := (mkF m 105 #[.val (.int p0), .val (.int p1), .val (.int p2), .val (.int p3), .val (.int p4), .val (.int nn.toInt32), .val (.int c_406), .val (.int c_408), .val (.int c_410), .val (.int c_412), .val (.ref b414), .val (.int (0 : Int32)), .unset] [(.int c_408)])) rfl (by rw [hml]; rfl) (argsL := [(.int c_408)]) (rest := []) rfl (lenOf pd__C_Z rfl) rfl (W := 0) (by show 2 * 0 + _ ≤ _; exact Nat.le_of_eq rfl) (hb hby at_105) (by decide) (by decide) (by decide) (by decide)
        have N648 := Fr.app N645 N647q
        have e647 := e647.trans r647_0
        refine WinW.to T647 (mkF m 108 #[.val (.int p0), .val (.int p1), .val (.int p2), .val (.int p3), .val (.int p4), .val (.int nn.toInt32), .val (.int c_406), .val (.int c_408), .val (.int c_410), .val (.int c_412), .val (.ref b414), .val (.int (0 : Int32)), .unset] [(.int (1 : Int32))]) (fun _ k => st647 _ k) ?_
        refine WinW.to T647 (mkF m 111 #[.val (.int p0), .val (.int p1), .val (.int p2), .val (.int p3), .val (.int p4), .val (.int nn.toInt32), .val (.int c_406), .val (.int c_408), .val (.int c_410), .val (.int c_412), .val (.ref b414), .val (.int (0 : Int32)), .unset] []) (fun _ k => XS.ifNo X647.here hx rfl (hb hby at_108) rfl ((if0 _ _).trans (feq (show ¬ ((1 : Int32) = (0 : Int32)) from by decide)).1) k) ?_
        refine WinW.to T647 (mkF m 113 #[.val (.int p0), .val (.int p1), .val (.int p2), .val (.int p3), .val (.int p4), .val (.int nn.toInt32), .val (.int c_406), .val (.int c_408), .val (.int c_410), .val (.int c_412), .val (.ref b414), .val (.int (0 : Int32)), .unset] [(.int (0 : Int32))]) (fun _ k => XS.iload X647.here hx rfl (hb hby at_111) rfl k) ?_
        refine WinW.to T647 (mkF m 114 #[.val (.int p0), .val (.int p1), .val (.int p2), .val (.int p3), .val (.int p4), .val (.int nn.toInt32), .val (.int c_406), .val (.int c_408), .val (.int c_410), .val (.int c_412), .val (.ref b414), .val (.int (0 : Int32)), .unset] [(.int (1 : Int32)), (.int (0 : Int32))]) (fun _ k => XS.iconst X647.here hx rfl (hb hby at_113) k) ?_
        refine WinW.to T647 (mkF m 115 #[.val (.int p0), .val (.int p1), .val (.int p2), .val (.int p3), .val (.int p4), .val (.int nn.toInt32), .val (.int c_406), .val (.int c_408), .val (.int c_410), .val (.int c_412), .val (.ref b414), .val (.int (0 : Int32)), .unset] [(.int (1 : Int32))]) (fun _ k => XS.iadd X647.here hx rfl (hb hby at_114) rfl (by rw [show ((0 : Int32) + (1 : Int32)) = (1 : Int32) from by decide]; exact k)) ?_
        refine WinW.to T647 (mkF m 117 #[.val (.int p0), .val (.int p1), .val (.int p2), .val (.int p3), .val (.int p4), .val (.int nn.toInt32), .val (.int c_406), .val (.int c_408), .val (.int c_410), .val (.int c_412), .val (.ref b414), .val (.int (1 : Int32)), .unset] []) (fun _ k => XS.istore X647.here hx rfl (hb hby at_115) rfl (l' := #[.val (.int p0), .val (.int p1), .val (.int p2), .val (.int p3), .val (.int p4), .val (.int nn.toInt32), .val (.int c_406), .val (.int c_408), .val (.int c_410), .val (.int c_412), .val (.ref b414), .val (.int (1 : Int32)), .unset]) rfl k) ?_
        refine WinW.to T647 (mkF m 119 #[.val (.int p0), .val (.int p1), .val (.int p2), .val (.int p3), .val (.int p4), .val (.int nn.toInt32), .val (.int c_406), .val (.int c_408), .val (.int c_410), .val (.int c_412), .val (.ref b414), .val (.int (1 : Int32)), .unset] [(.int nn.toInt32)]) (fun _ k => XS.iload X647.here hx rfl (hb hby at_117) rfl k) ?_
        refine WinW.to T647 (mkF m 120 #[.val (.int p0), .val (.int p1), .val (.int p2), .val (.int p3), .val (.int p4), .val (.int nn.toInt32), .val (.int c_406), .val (.int c_408), .val (.int c_410), .val (.int c_412), .val (.ref b414), .val (.int (1 : Int32)), .unset] [(.int (5 : Int32)), (.int nn.toInt32)]) (fun _ k => XS.iconst X647.here hx rfl (hb hby at_119) k) ?_
        refine WinW.to T647 (mkF m 123 #[.val (.int p0), .val (.int p1), .val (.int p2), .val (.int p3), .val (.int p4), .val (.int nn.toInt32), .val (.int c_406), .val (.int c_408), .val (.int c_410), .val (.int c_412), .val (.ref b414), .val (.int (1 : Int32)), .unset] []) (fun _ k => XS.icmpNo X647.here hx rfl (hb hby at_120) rfl (flt (show ¬ (nn.toInt32 < (5 : Int32)) from (fun q => absurd ((own_lt (n := 5) hbn (by decide)).mp q) (by omega)))).1 k) ?_
        refine WinW.to T647 (mkF m 125 #[.val (.int p0), .val (.int p1), .val (.int p2), .val (.int p3), .val (.int p4), .val (.int nn.toInt32), .val (.int c_406), .val (.int c_408), .val (.int c_410), .val (.int c_412), .val (.ref b414), .val (.int (1 : Int32)), .unset] [(.int c_410)]) (fun _ k => XS.iload X647.here hx rfl (hb hby at_123) rfl k) ?_
        by_cases hsu649 : hsur c_410
        · obtain ⟨T650, h650, v650, L650, X650, e650, ⟨rfl, N650q, r650_0⟩, st650⟩ := N.static X647 hx hZ (y := (⟨"com/example/usher/usher/lifecycle/ExecutionKeyFitsPinLaw", "isHigh", "(C)Z"⟩ : MethodName)) hown (wk hw 36 rfl) (wk hw 37 rfl) (wk hw 2 rfl) (wk hw 38 rfl) (by decide) (lh1 l Z a0 hw c_410 h636 n0 O637 hsu649) e647 (g := (mkF m 125 #[.val (.int p0), .val (.int p1), .val (.int p2), .val (.int p3), .val (.int p4), .val (.int nn.toInt32), .val (.int c_406), .val (.int c_408), .val (.int c_410), .val (.int c_412), .val (.ref b414), .val (.int (1 : Int32)), .unset] [(.int c_410)])) rfl (by rw [hml]; rfl) (argsL := [(.int c_410)]) (rest := []) rfl (lenOf pd__C_Z rfl) rfl (W := 0) (by show 2 * 0 + _ ≤ _; exact Nat.le_of_eq rfl) (hb hby at_125) (by decide) (by decide) (by decide) (by decide)
          have N651 := Fr.app N648 N650q
          have e650 := e650.trans r650_0
          refine WinW.to T650 (mkF m 128 #[.val (.int p0), .val (.int p1), .val (.int p2), .val (.int p3), .val (.int p4), .val (.int nn.toInt32), .val (.int c_406), .val (.int c_408), .val (.int c_410), .val (.int c_412), .val (.ref b414), .val (.int (1 : Int32)), .unset] [(.int (1 : Int32))]) (fun _ k => st650 _ k) ?_
          refine WinW.to T650 (mkF m 131 #[.val (.int p0), .val (.int p1), .val (.int p2), .val (.int p3), .val (.int p4), .val (.int nn.toInt32), .val (.int c_406), .val (.int c_408), .val (.int c_410), .val (.int c_412), .val (.ref b414), .val (.int (1 : Int32)), .unset] []) (fun _ k => XS.ifNo X650.here hx rfl (hb hby at_128) rfl ((if0 _ _).trans (feq (show ¬ ((1 : Int32) = (0 : Int32)) from by decide)).1) k) ?_
          refine WinW.to T650 (mkF m 133 #[.val (.int p0), .val (.int p1), .val (.int p2), .val (.int p3), .val (.int p4), .val (.int nn.toInt32), .val (.int c_406), .val (.int c_408), .val (.int c_410), .val (.int c_412), .val (.ref b414), .val (.int (1 : Int32)), .unset] [(.int c_412)]) (fun _ k => XS.iload X650.here hx rfl (hb hby at_131) rfl k) ?_
          by_cases hsu652 : lsur c_412
          · obtain ⟨T653, h653, v653, L653, X653, e653, ⟨rfl, N653q, r653_0⟩, st653⟩ := N.static X650 hx hZ (y := (⟨"com/example/usher/usher/lifecycle/ExecutionKeyFitsPinLaw", "isLow", "(C)Z"⟩ : MethodName)) hown (wk hw 115 rfl) (wk hw 116 rfl) (wk hw 2 rfl) (wk hw 117 rfl) (by decide) (ll1 l Z a0 hw c_412 h636 n0 O637 hsu652) e650 (g := (mkF m 133 #[.val (.int p0), .val (.int p1), .val (.int p2), .val (.int p3), .val (.int p4), .val (.int nn.toInt32), .val (.int c_406), .val (.int c_408), .val (.int c_410), .val (.int c_412), .val (.ref b414), .val (.int (1 : Int32)), .unset] [(.int c_412)])) rfl (by rw [hml]; rfl) (argsL := [(.int c_412)]) (rest := []) rfl (lenOf pd__C_Z rfl) rfl (W := 0) (by show 2 * 0 + _ ≤ _; exact Nat.le_of_eq rfl) (hb hby at_133) (by decide) (by decide) (by decide) (by decide)
            have N654 := Fr.app N651 N653q
            have e653 := e653.trans r653_0
            refine WinW.to T653 (mkF m 136 #[.val (.int p0), .val (.int p1), .val (.int p2), .val (.int p3), .val (.int p4), .val (.int nn.toInt32), .val (.int c_406), .val (.int c_408), .val (.int c_410), .val (.int c_412), .val (.ref b414), .val (.int (1 : Int32)), .unset] [(.int (1 : Int32))]) (fun _ k => st653 _ k) ?_
            refine WinW.to T653 (mkF m 139 #[.val (.int p0), .val (.int p1), .val (.int p2), .val (.int p3), .val (.int p4), .val (.int nn.toInt32), .val (.int c_406), .val (.int c_408), .val (.int c_410), .val (.int c_412), .val (.ref b414), .val (.int (1 : Int32)), .unset] []) (fun _ k => XS.ifNo X653.here hx rfl (hb hby at_136) rfl ((if0 _ _).trans (feq (show ¬ ((1 : Int32) = (0 : Int32)) from by decide)).1) k) ?_
            refine WinW.to T653 (mkF m 141 #[.val (.int p0), .val (.int p1), .val (.int p2), .val (.int p3), .val (.int p4), .val (.int nn.toInt32), .val (.int c_406), .val (.int c_408), .val (.int c_410), .val (.int c_412), .val (.ref b414), .val (.int (1 : Int32)), .unset] [(.int (1 : Int32))]) (fun _ k => XS.iload X653.here hx rfl (hb hby at_139) rfl k) ?_
            refine WinW.to T653 (mkF m 142 #[.val (.int p0), .val (.int p1), .val (.int p2), .val (.int p3), .val (.int p4), .val (.int nn.toInt32), .val (.int c_406), .val (.int c_408), .val (.int c_410), .val (.int c_412), .val (.ref b414), .val (.int (1 : Int32)), .unset] [(.int (1 : Int32)), (.int (1 : Int32))]) (fun _ k => XS.iconst X653.here hx rfl (hb hby at_141) k) ?_
            refine WinW.to T653 (mkF m 143 #[.val (.int p0), .val (.int p1), .val (.int p2), .val (.int p3), .val (.int p4), .val (.int nn.toInt32), .val (.int c_406), .val (.int c_408), .val (.int c_410), .val (.int c_412), .val (.ref b414), .val (.int (1 : Int32)), .unset] [(.int (2 : Int32))]) (fun _ k => XS.iadd X653.here hx rfl (hb hby at_142) rfl (by rw [show ((1 : Int32) + (1 : Int32)) = (2 : Int32) from by decide]; exact k)) ?_
            refine WinW.to T653 (mkF m 145 #[.val (.int p0), .val (.int p1), .val (.int p2), .val (.int p3), .val (.int p4), .val (.int nn.toInt32), .val (.int c_406), .val (.int c_408), .val (.int c_410), .val (.int c_412), .val (.ref b414), .val (.int (2 : Int32)), .unset] []) (fun _ k => XS.istore X653.here hx rfl (hb hby at_143) rfl (l' := #[.val (.int p0), .val (.int p1), .val (.int p2), .val (.int p3), .val (.int p4), .val (.int nn.toInt32), .val (.int c_406), .val (.int c_408), .val (.int c_410), .val (.int c_412), .val (.ref b414), .val (.int (2 : Int32)), .unset]) rfl k) ?_
            refine WinW.to T653 (mkF m 147 #[.val (.int p0), .val (.int p1), .val (.int p2), .val (.int p3), .val (.int p4), .val (.int nn.toInt32), .val (.int c_406), .val (.int c_408), .val (.int c_410), .val (.int c_412), .val (.ref b414), .val (.int (2 : Int32)), .unset] [(.int nn.toInt32)]) (fun _ k => XS.iload X653.here hx rfl (hb hby at_145) rfl k) ?_
            refine WinW.to T653 (mkF m 148 #[.val (.int p0), .val (.int p1), .val (.int p2), .val (.int p3), .val (.int p4), .val (.int nn.toInt32), .val (.int c_406), .val (.int c_408), .val (.int c_410), .val (.int c_412), .val (.ref b414), .val (.int (2 : Int32)), .unset] [(.int (1 : Int32)), (.int nn.toInt32)]) (fun _ k => XS.iconst X653.here hx rfl (hb hby at_147) k) ?_
            refine WinW.to T653 (mkF m 151 #[.val (.int p0), .val (.int p1), .val (.int p2), .val (.int p3), .val (.int p4), .val (.int nn.toInt32), .val (.int c_406), .val (.int c_408), .val (.int c_410), .val (.int c_412), .val (.ref b414), .val (.int (2 : Int32)), .unset] []) (fun _ k => XS.icmpNo X653.here hx rfl (hb hby at_148) rfl (flt (show ¬ (nn.toInt32 < (1 : Int32)) from (fun q => absurd ((own_lt (n := 1) hbn (by decide)).mp q) (by omega)))).1 k) ?_
            refine WinW.to T653 (mkF m 153 #[.val (.int p0), .val (.int p1), .val (.int p2), .val (.int p3), .val (.int p4), .val (.int nn.toInt32), .val (.int c_406), .val (.int c_408), .val (.int c_410), .val (.int c_412), .val (.ref b414), .val (.int (2 : Int32)), .unset] [(.int nn.toInt32)]) (fun _ k => XS.iload X653.here hx rfl (hb hby at_151) rfl k) ?_
            refine WinW.to T653 (mkF m 155 #[.val (.int p0), .val (.int p1), .val (.int p2), .val (.int p3), .val (.int p4), .val (.int nn.toInt32), .val (.int c_406), .val (.int c_408), .val (.int c_410), .val (.int c_412), .val (.ref b414), .val (.int (2 : Int32)), .unset] [(.int (2 : Int32)), (.int nn.toInt32)]) (fun _ k => XS.iload X653.here hx rfl (hb hby at_153) rfl k) ?_
            refine WinW.to T653 (mkF m 156 #[.val (.int p0), .val (.int p1), .val (.int p2), .val (.int p3), .val (.int p4), .val (.int nn.toInt32), .val (.int c_406), .val (.int c_408), .val (.int c_410), .val (.int c_412), .val (.ref b414), .val (.int (2 : Int32)), .unset] [(.int (nn - 2).toInt32)]) (fun _ k => XS.isub X653.here hx rfl (hb hby at_155) rfl (by rw [show (nn.toInt32 - (2 : Int32)) = (nn - 2).toInt32 from own_sub (b := 2) (by decide) hbn (by omega)]; exact k)) ?_
            refine WinW.to T653 (mkF m 159 #[.val (.int p0), .val (.int p1), .val (.int p2), .val (.int p3), .val (.int p4), .val (.int nn.toInt32), .val (.int c_406), .val (.int c_408), .val (.int c_410), .val (.int c_412), .val (.ref b414), .val (.int (2 : Int32)), .unset] [(.int (512 : Int32)), (.int (nn - 2).toInt32)]) (fun _ k => XS.sipush X653.here hx rfl (hb hby at_156) k) ?_
            by_cases h512 : 512 < (nn - 2)
            · refine WinW.to T653 (mkF m 166 #[.val (.int p0), .val (.int p1), .val (.int p2), .val (.int p3), .val (.int p4), .val (.int nn.toInt32), .val (.int c_406), .val (.int c_408), .val (.int c_410), .val (.int c_412), .val (.ref b414), .val (.int (2 : Int32)), .unset] []) (fun _ k => XS.icmpYes X653.here hx rfl (pc0 := 159) (pc' := 166) rfl (hb hby at_159) rfl (tlt (show (512 : Int32) < (nn - 2).toInt32 from ((own_lt (j := 512) (by decide) (by omega)).mpr h512))).2.2.1 (by decide) (by decide) k) ?_
              refine WinW.to T653 (mkF m 167 #[.val (.int p0), .val (.int p1), .val (.int p2), .val (.int p3), .val (.int p4), .val (.int nn.toInt32), .val (.int c_406), .val (.int c_408), .val (.int c_410), .val (.int c_412), .val (.ref b414), .val (.int (2 : Int32)), .unset] [(.int (0 : Int32))]) (fun _ k => XS.iconst X653.here hx rfl (hb hby at_166) k) ?_
              refine WinW.to T653 (mkF m 169 #[.val (.int p0), .val (.int p1), .val (.int p2), .val (.int p3), .val (.int p4), .val (.int nn.toInt32), .val (.int c_406), .val (.int c_408), .val (.int c_410), .val (.int c_412), .val (.ref b414), .val (.int (2 : Int32)), .val (.int (0 : Int32))] []) (fun _ k => XS.istore X653.here hx rfl (hb hby at_167) rfl (l' := #[.val (.int p0), .val (.int p1), .val (.int p2), .val (.int p3), .val (.int p4), .val (.int nn.toInt32), .val (.int c_406), .val (.int c_408), .val (.int c_410), .val (.int c_412), .val (.ref b414), .val (.int (2 : Int32)), .val (.int (0 : Int32))]) rfl k) ?_
              obtain ⟨T655, h655, X655, e655, E655, A655, D655, -, st655⟩ := newO X653 hx hZ hown (wk hw 6 rfl) (wk hw 7 rfl) (wk hw 8 rfl) e653 (g := (mkF m 169 #[.val (.int p0), .val (.int p1), .val (.int p2), .val (.int p3), .val (.int p4), .val (.int nn.toInt32), .val (.int c_406), .val (.int c_408), .val (.int c_410), .val (.int c_412), .val (.ref b414), .val (.int (2 : Int32)), .val (.int (0 : Int32))] [])) rfl (hb hby at_169) (by decide) (by decide)
              obtain ⟨b655, g655⟩ : ∃ z, z = h636.size := ⟨_, rfl⟩
              rw [← g655] at A655 D655 st655
              have ne656 : b414 ≠ b655 := Nat.ne_of_lt (Nat.lt_of_lt_of_le F642.lt (Nat.le_of_eq g655.symm))
              have g657 : n0 ≤ b655 := Nat.le_trans (own_le O637) (Nat.le_of_eq g655.symm)
              have z658 : h0.size ≤ b655 := Nat.le_trans K638.1 (Nat.le_of_eq g655.symm)
              have O659 := Old.ext O637 E655
              have K660 : Keep h0 h655 [] := K638.ext E655
              have c661 := CHr.ext E655 C641.1
              have C662 := CHr.trans C641 c661
              have F663 : Fld Z h655 b655 "java/lang/String" "value" "[B" .null := D655 (Or.inr (wk hw 21 rfl)) (ty := (.array .byte)) (by decide)
              have F664 : Fld Z h655 b655 "java/lang/String" "coder" "B" (.int (0 : Int32)) := D655 (Or.inr (wk hw 22 rfl)) (ty := .byte) (by decide)
              refine WinW.to T655 (mkF m 172 #[.val (.int p0), .val (.int p1), .val (.int p2), .val (.int p3), .val (.int p4), .val (.int nn.toInt32), .val (.int c_406), .val (.int c_408), .val (.int c_410), .val (.int c_412), .val (.ref b414), .val (.int (2 : Int32)), .val (.int (0 : Int32))] [(.ref b655)]) (fun _ k => st655 _ k) ?_
              refine WinW.to T655 (mkF m 173 #[.val (.int p0), .val (.int p1), .val (.int p2), .val (.int p3), .val (.int p4), .val (.int nn.toInt32), .val (.int c_406), .val (.int c_408), .val (.int c_410), .val (.int c_412), .val (.ref b414), .val (.int (2 : Int32)), .val (.int (0 : Int32))] [(.ref b655), (.ref b655)]) (fun _ k => XS.dup X655.here hx rfl (hb hby at_172) rfl rfl k) ?_
              refine WinW.to T655 (mkF m 175 #[.val (.int p0), .val (.int p1), .val (.int p2), .val (.int p3), .val (.int p4), .val (.int nn.toInt32), .val (.int c_406), .val (.int c_408), .val (.int c_410), .val (.int c_412), .val (.ref b414), .val (.int (2 : Int32)), .val (.int (0 : Int32))] [(.ref b414), (.ref b655), (.ref b655)]) (fun _ k => XS.aload X655.here hx rfl (hb hby at_173) rfl rfl k) ?_
              have F665 : ArF Z h655 b414 k414 .char nn (upd (upd (upd (upd (fun _ => 0) 0 c_406) 1 c_408) (nn - 2) c_410) (nn - 1) c_412) := (F642.ext E655)
              have S667 : Safe Z EL1 (s.setVm s.vm).vm h655 b655 := own_safe hZ.alike A655 F663 (wk hw 7 rfl)
              obtain ⟨T666, h666, v666, L666, X666, e666, ⟨t_666, kb_666, rfl, N666q, r666_0, r666_1, r666_2, r666_3, r666_4⟩, st666⟩ := N.special X655 hx hZ (y := (⟨"java/lang/String", "<init>", "([C)V"⟩ : MethodName)) rfl hown (wk hw 9 rfl) (wk hw 10 rfl) (wk hw 8 rfl) (wk hw 11 rfl) (by decide) (ctor1u l Z a0 hw b655 b414 k414 nn (upd (upd (upd (upd (fun _ => 0) 0 c_406) 1 c_408) (nn - 2) c_410) (nn - 1) c_412) cs h655 n0 O659 A655 F663 F664 F665 hle (⟨0, by omega, own_F3x (by omega) hsu643⟩) g657 S_AD S_HI S_LO S_CS hcs) e655 (g := (mkF m 175 #[.val (.int p0), .val (.int p1), .val (.int p2), .val (.int p3), .val (.int p4), .val (.int nn.toInt32), .val (.int c_406), .val (.int c_408), .val (.int c_410), .val (.int c_412), .val (.ref b414), .val (.int (2 : Int32)), .val (.int (0 : Int32))] [(.ref b414), (.ref b655), (.ref b655)])) rfl (by rw [hml]; rfl) (a := b655) (argsL := [(.ref b414)]) (rest := [(.ref b655)]) rfl (lenOf pd___C_V rfl) rfl (W := 1) (by show 2 * 0 + _ ≤ _; exact Nat.le_of_eq rfl) (hb hby at_175) (by decide) (by decide) (by decide) (by decide)
              have N668 := Fr.app N654 N666q
              have ne669 : b414 ≠ t_666 := Nat.ne_of_lt (Nat.lt_of_lt_of_le F665.lt r666_1)
              have ne670 : b655 ≠ t_666 := Nat.ne_of_lt (Nat.lt_of_lt_of_le A655.lt r666_1)
              have g671 : n0 ≤ t_666 := Nat.le_trans (own_le O659) r666_1
              have z672 : h0.size ≤ t_666 := Nat.le_trans K660.1 r666_1
              have O673 := Old.keep O659 r666_0 (allS g657 all0)
              have K674 : Keep h0 h666 [] := Keep.trans K660 r666_0 (allS (Or.inr z658) all0)
              have c675 := CHr.keep r666_0 (sfS S667 sf0) C662.1
              have C676 := CHr.trans C662 c675
              have S677 := CHr.safe c675 A655.lt S667
              refine WinW.to T666 (mkF m 178 #[.val (.int p0), .val (.int p1), .val (.int p2), .val (.int p3), .val (.int p4), .val (.int nn.toInt32), .val (.int c_406), .val (.int c_408), .val (.int c_410), .val (.int c_412), .val (.ref b414), .val (.int (2 : Int32)), .val (.int (0 : Int32))] [(.ref b655)]) (fun _ k => st666 _ k) ?_
              have F678 : Exa Z h666 b655 "java/lang/String" := (A655.keep r666_0)
              have F679 : ArF Z h666 b414 k414 .char nn (upd (upd (upd (upd (fun _ => 0) 0 c_406) 1 c_408) (nn - 2) c_410) (nn - 1) c_412) := (F665.keep r666_0 (ninS ne656 nin0))
              obtain ⟨T680, h680, v680, L680, X680, e680, ⟨rfl, N680q, r680_0⟩, st680⟩ := N.static X666 hx hZ (y := (⟨"com/example/usher/usher/lifecycle/ExecutionKey", "fits", "(Ljava/lang/String;)Z"⟩ : MethodName)) hown (wk hw 27 rfl) (wk hw 28 rfl) (wk hw 29 rfl) (wk hw 30 rfl) (by decide) (fitU0 l Z a0 hw b655 t_666 kb_666 nn (upd (upd (upd (upd (fun _ => 0) 0 c_406) 1 c_408) (nn - 2) c_410) (nn - 1) c_412) 2 cs h666 n0 O673 F678 r666_2 r666_3 r666_4 (own_fr F679) (by omega) ((own_cp3 (by omega)).trans (by rw [if_pos ⟨hsu643, hsu646⟩, if_pos ⟨hsu649, hsu652⟩])) h512 S_AD S_HI S_LO S_CS hcs) e666 (g := (mkF m 178 #[.val (.int p0), .val (.int p1), .val (.int p2), .val (.int p3), .val (.int p4), .val (.int nn.toInt32), .val (.int c_406), .val (.int c_408), .val (.int c_410), .val (.int c_412), .val (.ref b414), .val (.int (2 : Int32)), .val (.int (0 : Int32))] [(.ref b655)])) rfl (by rw [hml]; rfl) (argsL := [(.ref b655)]) (rest := []) rfl (lenOf pd__Ljava_lang_String__Z rfl) rfl (W := 0) (by show 2 * 0 + _ ≤ _; exact Nat.le_of_eq rfl) (hb hby at_178) (by decide) (by decide) (by decide) (by decide)
              have N681 := Fr.app N668 N680q
              have e680 := e680.trans r680_0
              refine WinW.to T680 (mkF m 181 #[.val (.int p0), .val (.int p1), .val (.int p2), .val (.int p3), .val (.int p4), .val (.int nn.toInt32), .val (.int c_406), .val (.int c_408), .val (.int c_410), .val (.int c_412), .val (.ref b414), .val (.int (2 : Int32)), .val (.int (0 : Int32))] [(.int (0 : Int32))]) (fun _ k => st680 _ k) ?_
              refine WinW.to T680 (mkF m 183 #[.val (.int p0), .val (.int p1), .val (.int p2), .val (.int p3), .val (.int p4), .val (.int nn.toInt32), .val (.int c_406), .val (.int c_408), .val (.int c_410), .val (.int c_412), .val (.ref b414), .val (.int (2 : Int32)), .val (.int (0 : Int32))] [(.int (0 : Int32)), (.int (0 : Int32))]) (fun _ k => XS.iload X680.here hx rfl (hb hby at_181) rfl k) ?_
              refine WinW.to T680 (mkF m 186 #[.val (.int p0), .val (.int p1), .val (.int p2), .val (.int p3), .val (.int p4), .val (.int nn.toInt32), .val (.int c_406), .val (.int c_408), .val (.int c_410), .val (.int c_412), .val (.ref b414), .val (.int (2 : Int32)), .val (.int (0 : Int32))] []) (fun _ k => XS.icmpNo X680.here hx rfl (hb hby at_183) rfl (teq (show (0 : Int32) = (0 : Int32) from by decide)).2 k) ?_
              refine WinW.to T680 (mkF m 187 #[.val (.int p0), .val (.int p1), .val (.int p2), .val (.int p3), .val (.int p4), .val (.int nn.toInt32), .val (.int c_406), .val (.int c_408), .val (.int c_410), .val (.int c_412), .val (.ref b414), .val (.int (2 : Int32)), .val (.int (0 : Int32))] [(.int (1 : Int32))]) (fun _ k => XS.iconst X680.here hx rfl (hb hby at_186) k) ?_
              refine WinW.to T680 (mkF m 191 #[.val (.int p0), .val (.int p1), .val (.int p2), .val (.int p3), .val (.int p4), .val (.int nn.toInt32), .val (.int c_406), .val (.int c_408), .val (.int c_410), .val (.int c_412), .val (.ref b414), .val (.int (2 : Int32)), .val (.int (0 : Int32))] [(.int (1 : Int32))]) (fun _ k => XS.goto X680.here hx rfl (pc0 := 187) (pc' := 191) rfl (hb hby at_187) (by decide) (by decide) k) ?_
              exact WinW.retN X680 hS0 (by rw [e680]; exact (Nat.zero_le _)) hx hlk (t := .boolean) hret (by simp) rfl (hb hby at_191) hZ (own_EW hw) (by rw [e680]; exact C676) (by decide) (by decide) (by (try rw [e680]); exact ⟨rfl, N681, trivial⟩)
            · refine WinW.to T653 (mkF m 162 #[.val (.int p0), .val (.int p1), .val (.int p2), .val (.int p3), .val (.int p4), .val (.int nn.toInt32), .val (.int c_406), .val (.int c_408), .val (.int c_410), .val (.int c_412), .val (.ref b414), .val (.int (2 : Int32)), .unset] []) (fun _ k => XS.icmpNo X653.here hx rfl (hb hby at_159) rfl (flt (show ¬ ((512 : Int32) < (nn - 2).toInt32) from (fun q => h512 ((own_lt (j := 512) (by decide) (by omega)).mp q)))).2.2.1 k) ?_
              refine WinW.to T653 (mkF m 163 #[.val (.int p0), .val (.int p1), .val (.int p2), .val (.int p3), .val (.int p4), .val (.int nn.toInt32), .val (.int c_406), .val (.int c_408), .val (.int c_410), .val (.int c_412), .val (.ref b414), .val (.int (2 : Int32)), .unset] [(.int (1 : Int32))]) (fun _ k => XS.iconst X653.here hx rfl (hb hby at_162) k) ?_
              refine WinW.to T653 (mkF m 167 #[.val (.int p0), .val (.int p1), .val (.int p2), .val (.int p3), .val (.int p4), .val (.int nn.toInt32), .val (.int c_406), .val (.int c_408), .val (.int c_410), .val (.int c_412), .val (.ref b414), .val (.int (2 : Int32)), .unset] [(.int (1 : Int32))]) (fun _ k => XS.goto X653.here hx rfl (pc0 := 163) (pc' := 167) rfl (hb hby at_163) (by decide) (by decide) k) ?_
              refine WinW.to T653 (mkF m 169 #[.val (.int p0), .val (.int p1), .val (.int p2), .val (.int p3), .val (.int p4), .val (.int nn.toInt32), .val (.int c_406), .val (.int c_408), .val (.int c_410), .val (.int c_412), .val (.ref b414), .val (.int (2 : Int32)), .val (.int (1 : Int32))] []) (fun _ k => XS.istore X653.here hx rfl (hb hby at_167) rfl (l' := #[.val (.int p0), .val (.int p1), .val (.int p2), .val (.int p3), .val (.int p4), .val (.int nn.toInt32), .val (.int c_406), .val (.int c_408), .val (.int c_410), .val (.int c_412), .val (.ref b414), .val (.int (2 : Int32)), .val (.int (1 : Int32))]) rfl k) ?_
              obtain ⟨T682, h682, X682, e682, E682, A682, D682, -, st682⟩ := newO X653 hx hZ hown (wk hw 6 rfl) (wk hw 7 rfl) (wk hw 8 rfl) e653 (g := (mkF m 169 #[.val (.int p0), .val (.int p1), .val (.int p2), .val (.int p3), .val (.int p4), .val (.int nn.toInt32), .val (.int c_406), .val (.int c_408), .val (.int c_410), .val (.int c_412), .val (.ref b414), .val (.int (2 : Int32)), .val (.int (1 : Int32))] [])) rfl (hb hby at_169) (by decide) (by decide)
              obtain ⟨b682, g682⟩ : ∃ z, z = h636.size := ⟨_, rfl⟩
              rw [← g682] at A682 D682 st682
              have ne683 : b414 ≠ b682 := Nat.ne_of_lt (Nat.lt_of_lt_of_le F642.lt (Nat.le_of_eq g682.symm))
              have g684 : n0 ≤ b682 := Nat.le_trans (own_le O637) (Nat.le_of_eq g682.symm)
              have z685 : h0.size ≤ b682 := Nat.le_trans K638.1 (Nat.le_of_eq g682.symm)
              have O686 := Old.ext O637 E682
              have K687 : Keep h0 h682 [] := K638.ext E682
              have c688 := CHr.ext E682 C641.1
              have C689 := CHr.trans C641 c688
              have F690 : Fld Z h682 b682 "java/lang/String" "value" "[B" .null := D682 (Or.inr (wk hw 21 rfl)) (ty := (.array .byte)) (by decide)
              have F691 : Fld Z h682 b682 "java/lang/String" "coder" "B" (.int (0 : Int32)) := D682 (Or.inr (wk hw 22 rfl)) (ty := .byte) (by decide)
              refine WinW.to T682 (mkF m 172 #[.val (.int p0), .val (.int p1), .val (.int p2), .val (.int p3), .val (.int p4), .val (.int nn.toInt32), .val (.int c_406), .val (.int c_408), .val (.int c_410), .val (.int c_412), .val (.ref b414), .val (.int (2 : Int32)), .val (.int (1 : Int32))] [(.ref b682)]) (fun _ k => st682 _ k) ?_
              refine WinW.to T682 (mkF m 173 #[.val (.int p0), .val (.int p1), .val (.int p2), .val (.int p3), .val (.int p4), .val (.int nn.toInt32), .val (.int c_406), .val (.int c_408), .val (.int c_410), .val (.int c_412), .val (.ref b414), .val (.int (2 : Int32)), .val (.int (1 : Int32))] [(.ref b682), (.ref b682)]) (fun _ k => XS.dup X682.here hx rfl (hb hby at_172) rfl rfl k) ?_
              refine WinW.to T682 (mkF m 175 #[.val (.int p0), .val (.int p1), .val (.int p2), .val (.int p3), .val (.int p4), .val (.int nn.toInt32), .val (.int c_406), .val (.int c_408), .val (.int c_410), .val (.int c_412), .val (.ref b414), .val (.int (2 : Int32)), .val (.int (1 : Int32))] [(.ref b414), (.ref b682), (.ref b682)]) (fun _ k => XS.aload X682.here hx rfl (hb hby at_173) rfl rfl k) ?_
              have F692 : ArF Z h682 b414 k414 .char nn (upd (upd (upd (upd (fun _ => 0) 0 c_406) 1 c_408) (nn - 2) c_410) (nn - 1) c_412) := (F642.ext E682)
              have S694 : Safe Z EL1 (s.setVm s.vm).vm h682 b682 := own_safe hZ.alike A682 F690 (wk hw 7 rfl)
              obtain ⟨T693, h693, v693, L693, X693, e693, ⟨t_693, kb_693, rfl, N693q, r693_0, r693_1, r693_2, r693_3, r693_4⟩, st693⟩ := N.special X682 hx hZ (y := (⟨"java/lang/String", "<init>", "([C)V"⟩ : MethodName)) rfl hown (wk hw 9 rfl) (wk hw 10 rfl) (wk hw 8 rfl) (wk hw 11 rfl) (by decide) (ctor1u l Z a0 hw b682 b414 k414 nn (upd (upd (upd (upd (fun _ => 0) 0 c_406) 1 c_408) (nn - 2) c_410) (nn - 1) c_412) cs h682 n0 O686 A682 F690 F691 F692 hle (⟨0, by omega, own_F3x (by omega) hsu643⟩) g684 S_AD S_HI S_LO S_CS hcs) e682 (g := (mkF m 175 #[.val (.int p0), .val (.int p1), .val (.int p2), .val (.int p3), .val (.int p4), .val (.int nn.toInt32), .val (.int c_406), .val (.int c_408), .val (.int c_410), .val (.int c_412), .val (.ref b414), .val (.int (2 : Int32)), .val (.int (1 : Int32))] [(.ref b414), (.ref b682), (.ref b682)])) rfl (by rw [hml]; rfl) (a := b682) (argsL := [(.ref b414)]) (rest := [(.ref b682)]) rfl (lenOf pd___C_V rfl) rfl (W := 1) (by show 2 * 0 + _ ≤ _; exact Nat.le_of_eq rfl) (hb hby at_175) (by decide) (by decide) (by decide) (by decide)
              have N695 := Fr.app N654 N693q
              have ne696 : b414 ≠ t_693 := Nat.ne_of_lt (Nat.lt_of_lt_of_le F692.lt r693_1)
              have ne697 : b682 ≠ t_693 := Nat.ne_of_lt (Nat.lt_of_lt_of_le A682.lt r693_1)
              have g698 : n0 ≤ t_693 := Nat.le_trans (own_le O686) r693_1
              have z699 : h0.size ≤ t_693 := Nat.le_trans K687.1 r693_1
              have O700 := Old.keep O686 r693_0 (allS g684 all0)
              have K701 : Keep h0 h693 [] := Keep.trans K687 r693_0 (allS (Or.inr z685) all0)
              have c702 := CHr.keep r693_0 (sfS S694 sf0) C689.1
              have C703 := CHr.trans C689 c702
              have S704 := CHr.safe c702 A682.lt S694
              refine WinW.to T693 (mkF m 178 #[.val (.int p0), .val (.int p1), .val (.int p2), .val (.int p3), .val (.int p4), .val (.int nn.toInt32), .val (.int c_406), .val (.int c_408), .val (.int c_410), .val (.int c_412), .val (.ref b414), .val (.int (2 : Int32)), .val (.int (1 : Int32))] [(.ref b682)]) (fun _ k => st693 _ k) ?_
              have F705 : Exa Z h693 b682 "java/lang/String" := (A682.keep r693_0)
              have F706 : ArF Z h693 b414 k414 .char nn (upd (upd (upd (upd (fun _ => 0) 0 c_406) 1 c_408) (nn - 2) c_410) (nn - 1) c_412) := (F692.keep r693_0 (ninS ne683 nin0))
              obtain ⟨T707, h707, v707, L707, X707, e707, ⟨rfl, N707q, r707_0⟩, st707⟩ := N.static X693 hx hZ (y := (⟨"com/example/usher/usher/lifecycle/ExecutionKey", "fits", "(Ljava/lang/String;)Z"⟩ : MethodName)) hown (wk hw 27 rfl) (wk hw 28 rfl) (wk hw 29 rfl) (wk hw 30 rfl) (by decide) (fitU1 l Z a0 hw b682 t_693 kb_693 nn (upd (upd (upd (upd (fun _ => 0) 0 c_406) 1 c_408) (nn - 2) c_410) (nn - 1) c_412) 2 cs h693 n0 O700 F705 r693_2 r693_3 r693_4 (own_fr F706) (by omega) ((own_cp3 (by omega)).trans (by rw [if_pos ⟨hsu643, hsu646⟩, if_pos ⟨hsu649, hsu652⟩])) h512 S_AD S_HI S_LO S_CS hcs) e693 (g := (mkF m 178 #[.val (.int p0), .val (.int p1), .val (.int p2), .val (.int p3), .val (.int p4), .val (.int nn.toInt32), .val (.int c_406), .val (.int c_408), .val (.int c_410), .val (.int c_412), .val (.ref b414), .val (.int (2 : Int32)), .val (.int (1 : Int32))] [(.ref b682)])) rfl (by rw [hml]; rfl) (argsL := [(.ref b682)]) (rest := []) rfl (lenOf pd__Ljava_lang_String__Z rfl) rfl (W := 0) (by show 2 * 0 + _ ≤ _; exact Nat.le_of_eq rfl) (hb hby at_178) (by decide) (by decide) (by decide) (by decide)
              have N708 := Fr.app N695 N707q
              have e707 := e707.trans r707_0
              refine WinW.to T707 (mkF m 181 #[.val (.int p0), .val (.int p1), .val (.int p2), .val (.int p3), .val (.int p4), .val (.int nn.toInt32), .val (.int c_406), .val (.int c_408), .val (.int c_410), .val (.int c_412), .val (.ref b414), .val (.int (2 : Int32)), .val (.int (1 : Int32))] [(.int (1 : Int32))]) (fun _ k => st707 _ k) ?_
              refine WinW.to T707 (mkF m 183 #[.val (.int p0), .val (.int p1), .val (.int p2), .val (.int p3), .val (.int p4), .val (.int nn.toInt32), .val (.int c_406), .val (.int c_408), .val (.int c_410), .val (.int c_412), .val (.ref b414), .val (.int (2 : Int32)), .val (.int (1 : Int32))] [(.int (1 : Int32)), (.int (1 : Int32))]) (fun _ k => XS.iload X707.here hx rfl (hb hby at_181) rfl k) ?_
              refine WinW.to T707 (mkF m 186 #[.val (.int p0), .val (.int p1), .val (.int p2), .val (.int p3), .val (.int p4), .val (.int nn.toInt32), .val (.int c_406), .val (.int c_408), .val (.int c_410), .val (.int c_412), .val (.ref b414), .val (.int (2 : Int32)), .val (.int (1 : Int32))] []) (fun _ k => XS.icmpNo X707.here hx rfl (hb hby at_183) rfl (teq (show (1 : Int32) = (1 : Int32) from by decide)).2 k) ?_
              refine WinW.to T707 (mkF m 187 #[.val (.int p0), .val (.int p1), .val (.int p2), .val (.int p3), .val (.int p4), .val (.int nn.toInt32), .val (.int c_406), .val (.int c_408), .val (.int c_410), .val (.int c_412), .val (.ref b414), .val (.int (2 : Int32)), .val (.int (1 : Int32))] [(.int (1 : Int32))]) (fun _ k => XS.iconst X707.here hx rfl (hb hby at_186) k) ?_
              refine WinW.to T707 (mkF m 191 #[.val (.int p0), .val (.int p1), .val (.int p2), .val (.int p3), .val (.int p4), .val (.int nn.toInt32), .val (.int c_406), .val (.int c_408), .val (.int c_410), .val (.int c_412), .val (.ref b414), .val (.int (2 : Int32)), .val (.int (1 : Int32))] [(.int (1 : Int32))]) (fun _ k => XS.goto X707.here hx rfl (pc0 := 187) (pc' := 191) rfl (hb hby at_187) (by decide) (by decide) k) ?_
              exact WinW.retN X707 hS0 (by rw [e707]; exact (Nat.zero_le _)) hx hlk (t := .boolean) hret (by simp) rfl (hb hby at_191) hZ (own_EW hw) (by rw [e707]; exact C703) (by decide) (by decide) (by (try rw [e707]); exact ⟨rfl, N708, trivial⟩)
          · obtain ⟨T709, h709, v709, L709, X709, e709, ⟨rfl, N709q, r709_0⟩, st709⟩ := N.static X650 hx hZ (y := (⟨"com/example/usher/usher/lifecycle/ExecutionKeyFitsPinLaw", "isLow", "(C)Z"⟩ : MethodName)) hown (wk hw 115 rfl) (wk hw 116 rfl) (wk hw 2 rfl) (wk hw 117 rfl) (by decide) (ll0 l Z a0 hw c_412 h636 n0 O637 hsu652) e650 (g := (mkF m 133 #[.val (.int p0), .val (.int p1), .val (.int p2), .val (.int p3), .val (.int p4), .val (.int nn.toInt32), .val (.int c_406), .val (.int c_408), .val (.int c_410), .val (.int c_412), .val (.ref b414), .val (.int (1 : Int32)), .unset] [(.int c_412)])) rfl (by rw [hml]; rfl) (argsL := [(.int c_412)]) (rest := []) rfl (lenOf pd__C_Z rfl) rfl (W := 0) (by show 2 * 0 + _ ≤ _; exact Nat.le_of_eq rfl) (hb hby at_133) (by decide) (by decide) (by decide) (by decide)
            have N710 := Fr.app N651 N709q
            have e709 := e709.trans r709_0
            refine WinW.to T709 (mkF m 136 #[.val (.int p0), .val (.int p1), .val (.int p2), .val (.int p3), .val (.int p4), .val (.int nn.toInt32), .val (.int c_406), .val (.int c_408), .val (.int c_410), .val (.int c_412), .val (.ref b414), .val (.int (1 : Int32)), .unset] [(.int (0 : Int32))]) (fun _ k => st709 _ k) ?_
            refine WinW.to T709 (mkF m 145 #[.val (.int p0), .val (.int p1), .val (.int p2), .val (.int p3), .val (.int p4), .val (.int nn.toInt32), .val (.int c_406), .val (.int c_408), .val (.int c_410), .val (.int c_412), .val (.ref b414), .val (.int (1 : Int32)), .unset] []) (fun _ k => XS.ifYes X709.here hx rfl (pc0 := 136) (pc' := 145) rfl (hb hby at_136) rfl ((if0 _ _).trans (teq (show (0 : Int32) = (0 : Int32) from by decide)).1) (by decide) (by decide) k) ?_
            refine WinW.to T709 (mkF m 147 #[.val (.int p0), .val (.int p1), .val (.int p2), .val (.int p3), .val (.int p4), .val (.int nn.toInt32), .val (.int c_406), .val (.int c_408), .val (.int c_410), .val (.int c_412), .val (.ref b414), .val (.int (1 : Int32)), .unset] [(.int nn.toInt32)]) (fun _ k => XS.iload X709.here hx rfl (hb hby at_145) rfl k) ?_
            refine WinW.to T709 (mkF m 148 #[.val (.int p0), .val (.int p1), .val (.int p2), .val (.int p3), .val (.int p4), .val (.int nn.toInt32), .val (.int c_406), .val (.int c_408), .val (.int c_410), .val (.int c_412), .val (.ref b414), .val (.int (1 : Int32)), .unset] [(.int (1 : Int32)), (.int nn.toInt32)]) (fun _ k => XS.iconst X709.here hx rfl (hb hby at_147) k) ?_
            refine WinW.to T709 (mkF m 151 #[.val (.int p0), .val (.int p1), .val (.int p2), .val (.int p3), .val (.int p4), .val (.int nn.toInt32), .val (.int c_406), .val (.int c_408), .val (.int c_410), .val (.int c_412), .val (.ref b414), .val (.int (1 : Int32)), .unset] []) (fun _ k => XS.icmpNo X709.here hx rfl (hb hby at_148) rfl (flt (show ¬ (nn.toInt32 < (1 : Int32)) from (fun q => absurd ((own_lt (n := 1) hbn (by decide)).mp q) (by omega)))).1 k) ?_
            refine WinW.to T709 (mkF m 153 #[.val (.int p0), .val (.int p1), .val (.int p2), .val (.int p3), .val (.int p4), .val (.int nn.toInt32), .val (.int c_406), .val (.int c_408), .val (.int c_410), .val (.int c_412), .val (.ref b414), .val (.int (1 : Int32)), .unset] [(.int nn.toInt32)]) (fun _ k => XS.iload X709.here hx rfl (hb hby at_151) rfl k) ?_
            refine WinW.to T709 (mkF m 155 #[.val (.int p0), .val (.int p1), .val (.int p2), .val (.int p3), .val (.int p4), .val (.int nn.toInt32), .val (.int c_406), .val (.int c_408), .val (.int c_410), .val (.int c_412), .val (.ref b414), .val (.int (1 : Int32)), .unset] [(.int (1 : Int32)), (.int nn.toInt32)]) (fun _ k => XS.iload X709.here hx rfl (hb hby at_153) rfl k) ?_
            refine WinW.to T709 (mkF m 156 #[.val (.int p0), .val (.int p1), .val (.int p2), .val (.int p3), .val (.int p4), .val (.int nn.toInt32), .val (.int c_406), .val (.int c_408), .val (.int c_410), .val (.int c_412), .val (.ref b414), .val (.int (1 : Int32)), .unset] [(.int (nn - 1).toInt32)]) (fun _ k => XS.isub X709.here hx rfl (hb hby at_155) rfl (by rw [show (nn.toInt32 - (1 : Int32)) = (nn - 1).toInt32 from own_sub (b := 1) (by decide) hbn (by omega)]; exact k)) ?_
            refine WinW.to T709 (mkF m 159 #[.val (.int p0), .val (.int p1), .val (.int p2), .val (.int p3), .val (.int p4), .val (.int nn.toInt32), .val (.int c_406), .val (.int c_408), .val (.int c_410), .val (.int c_412), .val (.ref b414), .val (.int (1 : Int32)), .unset] [(.int (512 : Int32)), (.int (nn - 1).toInt32)]) (fun _ k => XS.sipush X709.here hx rfl (hb hby at_156) k) ?_
            by_cases h512 : 512 < (nn - 1)
            · refine WinW.to T709 (mkF m 166 #[.val (.int p0), .val (.int p1), .val (.int p2), .val (.int p3), .val (.int p4), .val (.int nn.toInt32), .val (.int c_406), .val (.int c_408), .val (.int c_410), .val (.int c_412), .val (.ref b414), .val (.int (1 : Int32)), .unset] []) (fun _ k => XS.icmpYes X709.here hx rfl (pc0 := 159) (pc' := 166) rfl (hb hby at_159) rfl (tlt (show (512 : Int32) < (nn - 1).toInt32 from ((own_lt (j := 512) (by decide) (by omega)).mpr h512))).2.2.1 (by decide) (by decide) k) ?_
              refine WinW.to T709 (mkF m 167 #[.val (.int p0), .val (.int p1), .val (.int p2), .val (.int p3), .val (.int p4), .val (.int nn.toInt32), .val (.int c_406), .val (.int c_408), .val (.int c_410), .val (.int c_412), .val (.ref b414), .val (.int (1 : Int32)), .unset] [(.int (0 : Int32))]) (fun _ k => XS.iconst X709.here hx rfl (hb hby at_166) k) ?_
              refine WinW.to T709 (mkF m 169 #[.val (.int p0), .val (.int p1), .val (.int p2), .val (.int p3), .val (.int p4), .val (.int nn.toInt32), .val (.int c_406), .val (.int c_408), .val (.int c_410), .val (.int c_412), .val (.ref b414), .val (.int (1 : Int32)), .val (.int (0 : Int32))] []) (fun _ k => XS.istore X709.here hx rfl (hb hby at_167) rfl (l' := #[.val (.int p0), .val (.int p1), .val (.int p2), .val (.int p3), .val (.int p4), .val (.int nn.toInt32), .val (.int c_406), .val (.int c_408), .val (.int c_410), .val (.int c_412), .val (.ref b414), .val (.int (1 : Int32)), .val (.int (0 : Int32))]) rfl k) ?_
              obtain ⟨T711, h711, X711, e711, E711, A711, D711, -, st711⟩ := newO X709 hx hZ hown (wk hw 6 rfl) (wk hw 7 rfl) (wk hw 8 rfl) e709 (g := (mkF m 169 #[.val (.int p0), .val (.int p1), .val (.int p2), .val (.int p3), .val (.int p4), .val (.int nn.toInt32), .val (.int c_406), .val (.int c_408), .val (.int c_410), .val (.int c_412), .val (.ref b414), .val (.int (1 : Int32)), .val (.int (0 : Int32))] [])) rfl (hb hby at_169) (by decide) (by decide)
              obtain ⟨b711, g711⟩ : ∃ z, z = h636.size := ⟨_, rfl⟩
              rw [← g711] at A711 D711 st711
              have ne712 : b414 ≠ b711 := Nat.ne_of_lt (Nat.lt_of_lt_of_le F642.lt (Nat.le_of_eq g711.symm))
              have g713 : n0 ≤ b711 := Nat.le_trans (own_le O637) (Nat.le_of_eq g711.symm)
              have z714 : h0.size ≤ b711 := Nat.le_trans K638.1 (Nat.le_of_eq g711.symm)
              have O715 := Old.ext O637 E711
              have K716 : Keep h0 h711 [] := K638.ext E711
              have c717 := CHr.ext E711 C641.1
              have C718 := CHr.trans C641 c717
              have F719 : Fld Z h711 b711 "java/lang/String" "value" "[B" .null := D711 (Or.inr (wk hw 21 rfl)) (ty := (.array .byte)) (by decide)
              have F720 : Fld Z h711 b711 "java/lang/String" "coder" "B" (.int (0 : Int32)) := D711 (Or.inr (wk hw 22 rfl)) (ty := .byte) (by decide)
              refine WinW.to T711 (mkF m 172 #[.val (.int p0), .val (.int p1), .val (.int p2), .val (.int p3), .val (.int p4), .val (.int nn.toInt32), .val (.int c_406), .val (.int c_408), .val (.int c_410), .val (.int c_412), .val (.ref b414), .val (.int (1 : Int32)), .val (.int (0 : Int32))] [(.ref b711)]) (fun _ k => st711 _ k) ?_
              refine WinW.to T711 (mkF m 173 #[.val (.int p0), .val (.int p1), .val (.int p2), .val (.int p3), .val (.int p4), .val (.int nn.toInt32), .val (.int c_406), .val (.int c_408), .val (.int c_410), .val (.int c_412), .val (.ref b414), .val (.int (1 : Int32)), .val (.int (0 : Int32))] [(.ref b711), (.ref b711)]) (fun _ k => XS.dup X711.here hx rfl (hb hby at_172) rfl rfl k) ?_
              refine WinW.to T711 (mkF m 175 #[.val (.int p0), .val (.int p1), .val (.int p2), .val (.int p3), .val (.int p4), .val (.int nn.toInt32), .val (.int c_406), .val (.int c_408), .val (.int c_410), .val (.int c_412), .val (.ref b414), .val (.int (1 : Int32)), .val (.int (0 : Int32))] [(.ref b414), (.ref b711), (.ref b711)]) (fun _ k => XS.aload X711.here hx rfl (hb hby at_173) rfl rfl k) ?_
              have F721 : ArF Z h711 b414 k414 .char nn (upd (upd (upd (upd (fun _ => 0) 0 c_406) 1 c_408) (nn - 2) c_410) (nn - 1) c_412) := (F642.ext E711)
              have S723 : Safe Z EL1 (s.setVm s.vm).vm h711 b711 := own_safe hZ.alike A711 F719 (wk hw 7 rfl)
              obtain ⟨T722, h722, v722, L722, X722, e722, ⟨t_722, kb_722, rfl, N722q, r722_0, r722_1, r722_2, r722_3, r722_4⟩, st722⟩ := N.special X711 hx hZ (y := (⟨"java/lang/String", "<init>", "([C)V"⟩ : MethodName)) rfl hown (wk hw 9 rfl) (wk hw 10 rfl) (wk hw 8 rfl) (wk hw 11 rfl) (by decide) (ctor1u l Z a0 hw b711 b414 k414 nn (upd (upd (upd (upd (fun _ => 0) 0 c_406) 1 c_408) (nn - 2) c_410) (nn - 1) c_412) cs h711 n0 O715 A711 F719 F720 F721 hle (⟨0, by omega, own_F3x (by omega) hsu643⟩) g713 S_AD S_HI S_LO S_CS hcs) e711 (g := (mkF m 175 #[.val (.int p0), .val (.int p1), .val (.int p2), .val (.int p3), .val (.int p4), .val (.int nn.toInt32), .val (.int c_406), .val (.int c_408), .val (.int c_410), .val (.int c_412), .val (.ref b414), .val (.int (1 : Int32)), .val (.int (0 : Int32))] [(.ref b414), (.ref b711), (.ref b711)])) rfl (by rw [hml]; rfl) (a := b711) (argsL := [(.ref b414)]) (rest := [(.ref b711)]) rfl (lenOf pd___C_V rfl) rfl (W := 1) (by show 2 * 0 + _ ≤ _; exact Nat.le_of_eq rfl) (hb hby at_175) (by decide) (by decide) (by decide) (by decide)
              have N724 := Fr.app N710 N722q
              have ne725 : b414 ≠ t_722 := Nat.ne_of_lt (Nat.lt_of_lt_of_le F721.lt r722_1)
              have ne726 : b711 ≠ t_722 := Nat.ne_of_lt (Nat.lt_of_lt_of_le A711.lt r722_1)
              have g727 : n0 ≤ t_722 := Nat.le_trans (own_le O715) r722_1
              have z728 : h0.size ≤ t_722 := Nat.le_trans K716.1 r722_1
              have O729 := Old.keep O715 r722_0 (allS g713 all0)
              have K730 : Keep h0 h722 [] := Keep.trans K716 r722_0 (allS (Or.inr z714) all0)
              have c731 := CHr.keep r722_0 (sfS S723 sf0) C718.1
              have C732 := CHr.trans C718 c731
              have S733 := CHr.safe c731 A711.lt S723
              refine WinW.to T722 (mkF m 178 #[.val (.int p0), .val (.int p1), .val (.int p2), .val (.int p3), .val (.int p4), .val (.int nn.toInt32), .val (.int c_406), .val (.int c_408), .val (.int c_410), .val (.int c_412), .val (.ref b414), .val (.int (1 : Int32)), .val (.int (0 : Int32))] [(.ref b711)]) (fun _ k => st722 _ k) ?_
              have F734 : Exa Z h722 b711 "java/lang/String" := (A711.keep r722_0)
              have F735 : ArF Z h722 b414 k414 .char nn (upd (upd (upd (upd (fun _ => 0) 0 c_406) 1 c_408) (nn - 2) c_410) (nn - 1) c_412) := (F721.keep r722_0 (ninS ne712 nin0))
              obtain ⟨T736, h736, v736, L736, X736, e736, ⟨rfl, N736q, r736_0⟩, st736⟩ := N.static X722 hx hZ (y := (⟨"com/example/usher/usher/lifecycle/ExecutionKey", "fits", "(Ljava/lang/String;)Z"⟩ : MethodName)) hown (wk hw 27 rfl) (wk hw 28 rfl) (wk hw 29 rfl) (wk hw 30 rfl) (by decide) (fitU0 l Z a0 hw b711 t_722 kb_722 nn (upd (upd (upd (upd (fun _ => 0) 0 c_406) 1 c_408) (nn - 2) c_410) (nn - 1) c_412) 1 cs h722 n0 O729 F734 r722_2 r722_3 r722_4 (own_fr F735) (by omega) ((own_cp3 (by omega)).trans (by rw [if_pos ⟨hsu643, hsu646⟩, if_neg (fun q => hsu652 q.2)])) h512 S_AD S_HI S_LO S_CS hcs) e722 (g := (mkF m 178 #[.val (.int p0), .val (.int p1), .val (.int p2), .val (.int p3), .val (.int p4), .val (.int nn.toInt32), .val (.int c_406), .val (.int c_408), .val (.int c_410), .val (.int c_412), .val (.ref b414), .val (.int (1 : Int32)), .val (.int (0 : Int32))] [(.ref b711)])) rfl (by rw [hml]; rfl) (argsL := [(.ref b711)]) (rest := []) rfl (lenOf pd__Ljava_lang_String__Z rfl) rfl (W := 0) (by show 2 * 0 + _ ≤ _; exact Nat.le_of_eq rfl) (hb hby at_178) (by decide) (by decide) (by decide) (by decide)
              have N737 := Fr.app N724 N736q
              have e736 := e736.trans r736_0
              refine WinW.to T736 (mkF m 181 #[.val (.int p0), .val (.int p1), .val (.int p2), .val (.int p3), .val (.int p4), .val (.int nn.toInt32), .val (.int c_406), .val (.int c_408), .val (.int c_410), .val (.int c_412), .val (.ref b414), .val (.int (1 : Int32)), .val (.int (0 : Int32))] [(.int (0 : Int32))]) (fun _ k => st736 _ k) ?_
              refine WinW.to T736 (mkF m 183 #[.val (.int p0), .val (.int p1), .val (.int p2), .val (.int p3), .val (.int p4), .val (.int nn.toInt32), .val (.int c_406), .val (.int c_408), .val (.int c_410), .val (.int c_412), .val (.ref b414), .val (.int (1 : Int32)), .val (.int (0 : Int32))] [(.int (0 : Int32)), (.int (0 : Int32))]) (fun _ k => XS.iload X736.here hx rfl (hb hby at_181) rfl k) ?_
              refine WinW.to T736 (mkF m 186 #[.val (.int p0), .val (.int p1), .val (.int p2), .val (.int p3), .val (.int p4), .val (.int nn.toInt32), .val (.int c_406), .val (.int c_408), .val (.int c_410), .val (.int c_412), .val (.ref b414), .val (.int (1 : Int32)), .val (.int (0 : Int32))] []) (fun _ k => XS.icmpNo X736.here hx rfl (hb hby at_183) rfl (teq (show (0 : Int32) = (0 : Int32) from by decide)).2 k) ?_
              refine WinW.to T736 (mkF m 187 #[.val (.int p0), .val (.int p1), .val (.int p2), .val (.int p3), .val (.int p4), .val (.int nn.toInt32), .val (.int c_406), .val (.int c_408), .val (.int c_410), .val (.int c_412), .val (.ref b414), .val (.int (1 : Int32)), .val (.int (0 : Int32))] [(.int (1 : Int32))]) (fun _ k => XS.iconst X736.here hx rfl (hb hby at_186) k) ?_
              refine WinW.to T736 (mkF m 191 #[.val (.int p0), .val (.int p1), .val (.int p2), .val (.int p3), .val (.int p4), .val (.int nn.toInt32), .val (.int c_406), .val (.int c_408), .val (.int c_410), .val (.int c_412), .val (.ref b414), .val (.int (1 : Int32)), .val (.int (0 : Int32))] [(.int (1 : Int32))]) (fun _ k => XS.goto X736.here hx rfl (pc0 := 187) (pc' := 191) rfl (hb hby at_187) (by decide) (by decide) k) ?_
              exact WinW.retN X736 hS0 (by rw [e736]; exact (Nat.zero_le _)) hx hlk (t := .boolean) hret (by simp) rfl (hb hby at_191) hZ (own_EW hw) (by rw [e736]; exact C732) (by decide) (by decide) (by (try rw [e736]); exact ⟨rfl, N737, trivial⟩)
            · refine WinW.to T709 (mkF m 162 #[.val (.int p0), .val (.int p1), .val (.int p2), .val (.int p3), .val (.int p4), .val (.int nn.toInt32), .val (.int c_406), .val (.int c_408), .val (.int c_410), .val (.int c_412), .val (.ref b414), .val (.int (1 : Int32)), .unset] []) (fun _ k => XS.icmpNo X709.here hx rfl (hb hby at_159) rfl (flt (show ¬ ((512 : Int32) < (nn - 1).toInt32) from (fun q => h512 ((own_lt (j := 512) (by decide) (by omega)).mp q)))).2.2.1 k) ?_
              refine WinW.to T709 (mkF m 163 #[.val (.int p0), .val (.int p1), .val (.int p2), .val (.int p3), .val (.int p4), .val (.int nn.toInt32), .val (.int c_406), .val (.int c_408), .val (.int c_410), .val (.int c_412), .val (.ref b414), .val (.int (1 : Int32)), .unset] [(.int (1 : Int32))]) (fun _ k => XS.iconst X709.here hx rfl (hb hby at_162) k) ?_
              refine WinW.to T709 (mkF m 167 #[.val (.int p0), .val (.int p1), .val (.int p2), .val (.int p3), .val (.int p4), .val (.int nn.toInt32), .val (.int c_406), .val (.int c_408), .val (.int c_410), .val (.int c_412), .val (.ref b414), .val (.int (1 : Int32)), .unset] [(.int (1 : Int32))]) (fun _ k => XS.goto X709.here hx rfl (pc0 := 163) (pc' := 167) rfl (hb hby at_163) (by decide) (by decide) k) ?_
              refine WinW.to T709 (mkF m 169 #[.val (.int p0), .val (.int p1), .val (.int p2), .val (.int p3), .val (.int p4), .val (.int nn.toInt32), .val (.int c_406), .val (.int c_408), .val (.int c_410), .val (.int c_412), .val (.ref b414), .val (.int (1 : Int32)), .val (.int (1 : Int32))] []) (fun _ k => XS.istore X709.here hx rfl (hb hby at_167) rfl (l' := #[.val (.int p0), .val (.int p1), .val (.int p2), .val (.int p3), .val (.int p4), .val (.int nn.toInt32), .val (.int c_406), .val (.int c_408), .val (.int c_410), .val (.int c_412), .val (.ref b414), .val (.int (1 : Int32)), .val (.int (1 : Int32))]) rfl k) ?_
              obtain ⟨T738, h738, X738, e738, E738, A738, D738, -, st738⟩ := newO X709 hx hZ hown (wk hw 6 rfl) (wk hw 7 rfl) (wk hw 8 rfl) e709 (g := (mkF m 169 #[.val (.int p0), .val (.int p1), .val (.int p2), .val (.int p3), .val (.int p4), .val (.int nn.toInt32), .val (.int c_406), .val (.int c_408), .val (.int c_410), .val (.int c_412), .val (.ref b414), .val (.int (1 : Int32)), .val (.int (1 : Int32))] [])) rfl (hb hby at_169) (by decide) (by decide)
              obtain ⟨b738, g738⟩ : ∃ z, z = h636.size := ⟨_, rfl⟩
              rw [← g738] at A738 D738 st738
              have ne739 : b414 ≠ b738 := Nat.ne_of_lt (Nat.lt_of_lt_of_le F642.lt (Nat.le_of_eq g738.symm))
              have g740 : n0 ≤ b738 := Nat.le_trans (own_le O637) (Nat.le_of_eq g738.symm)
              have z741 : h0.size ≤ b738 := Nat.le_trans K638.1 (Nat.le_of_eq g738.symm)
              have O742 := Old.ext O637 E738
              have K743 : Keep h0 h738 [] := K638.ext E738
              have c744 := CHr.ext E738 C641.1
              have C745 := CHr.trans C641 c744
              have F746 : Fld Z h738 b738 "java/lang/String" "value" "[B" .null := D738 (Or.inr (wk hw 21 rfl)) (ty := (.array .byte)) (by decide)
              have F747 : Fld Z h738 b738 "java/lang/String" "coder" "B" (.int (0 : Int32)) := D738 (Or.inr (wk hw 22 rfl)) (ty := .byte) (by decide)
              refine WinW.to T738 (mkF m 172 #[.val (.int p0), .val (.int p1), .val (.int p2), .val (.int p3), .val (.int p4), .val (.int nn.toInt32), .val (.int c_406), .val (.int c_408), .val (.int c_410), .val (.int c_412), .val (.ref b414), .val (.int (1 : Int32)), .val (.int (1 : Int32))] [(.ref b738)]) (fun _ k => st738 _ k) ?_
              refine WinW.to T738 (mkF m 173 #[.val (.int p0), .val (.int p1), .val (.int p2), .val (.int p3), .val (.int p4), .val (.int nn.toInt32), .val (.int c_406), .val (.int c_408), .val (.int c_410), .val (.int c_412), .val (.ref b414), .val (.int (1 : Int32)), .val (.int (1 : Int32))] [(.ref b738), (.ref b738)]) (fun _ k => XS.dup X738.here hx rfl (hb hby at_172) rfl rfl k) ?_
              refine WinW.to T738 (mkF m 175 #[.val (.int p0), .val (.int p1), .val (.int p2), .val (.int p3), .val (.int p4), .val (.int nn.toInt32), .val (.int c_406), .val (.int c_408), .val (.int c_410), .val (.int c_412), .val (.ref b414), .val (.int (1 : Int32)), .val (.int (1 : Int32))] [(.ref b414), (.ref b738), (.ref b738)]) (fun _ k => XS.aload X738.here hx rfl (hb hby at_173) rfl rfl k) ?_
              have F748 : ArF Z h738 b414 k414 .char nn (upd (upd (upd (upd (fun _ => 0) 0 c_406) 1 c_408) (nn - 2) c_410) (nn - 1) c_412) := (F642.ext E738)
              have S750 : Safe Z EL1 (s.setVm s.vm).vm h738 b738 := own_safe hZ.alike A738 F746 (wk hw 7 rfl)
              obtain ⟨T749, h749, v749, L749, X749, e749, ⟨t_749, kb_749, rfl, N749q, r749_0, r749_1, r749_2, r749_3, r749_4⟩, st749⟩ := N.special X738 hx hZ (y := (⟨"java/lang/String", "<init>", "([C)V"⟩ : MethodName)) rfl hown (wk hw 9 rfl) (wk hw 10 rfl) (wk hw 8 rfl) (wk hw 11 rfl) (by decide) (ctor1u l Z a0 hw b738 b414 k414 nn (upd (upd (upd (upd (fun _ => 0) 0 c_406) 1 c_408) (nn - 2) c_410) (nn - 1) c_412) cs h738 n0 O742 A738 F746 F747 F748 hle (⟨0, by omega, own_F3x (by omega) hsu643⟩) g740 S_AD S_HI S_LO S_CS hcs) e738 (g := (mkF m 175 #[.val (.int p0), .val (.int p1), .val (.int p2), .val (.int p3), .val (.int p4), .val (.int nn.toInt32), .val (.int c_406), .val (.int c_408), .val (.int c_410), .val (.int c_412), .val (.ref b414), .val (.int (1 : Int32)), .val (.int (1 : Int32))] [(.ref b414), (.ref b738), (.ref b738)])) rfl (by rw [hml]; rfl) (a := b738) (argsL := [(.ref b414)]) (rest := [(.ref b738)]) rfl (lenOf pd___C_V rfl) rfl (W := 1) (by show 2 * 0 + _ ≤ _; exact Nat.le_of_eq rfl) (hb hby at_175) (by decide) (by decide) (by decide) (by decide)
              have N751 := Fr.app N710 N749q
              have ne752 : b414 ≠ t_749 := Nat.ne_of_lt (Nat.lt_of_lt_of_le F748.lt r749_1)
              have ne753 : b738 ≠ t_749 := Nat.ne_of_lt (Nat.lt_of_lt_of_le A738.lt r749_1)
              have g754 : n0 ≤ t_749 := Nat.le_trans (own_le O742) r749_1
              have z755 : h0.size ≤ t_749 := Nat.le_trans K743.1 r749_1
              have O756 := Old.keep O742 r749_0 (allS g740 all0)
              have K757 : Keep h0 h749 [] := Keep.trans K743 r749_0 (allS (Or.inr z741) all0)
              have c758 := CHr.keep r749_0 (sfS S750 sf0) C745.1
              have C759 := CHr.trans C745 c758
              have S760 := CHr.safe c758 A738.lt S750
              refine WinW.to T749 (mkF m 178 #[.val (.int p0), .val (.int p1), .val (.int p2), .val (.int p3), .val (.int p4), .val (.int nn.toInt32), .val (.int c_406), .val (.int c_408), .val (.int c_410), .val (.int c_412), .val (.ref b414), .val (.int (1 : Int32)), .val (.int (1 : Int32))] [(.ref b738)]) (fun _ k => st749 _ k) ?_
              have F761 : Exa Z h749 b738 "java/lang/String" := (A738.keep r749_0)
              have F762 : ArF Z h749 b414 k414 .char nn (upd (upd (upd (upd (fun _ => 0) 0 c_406) 1 c_408) (nn - 2) c_410) (nn - 1) c_412) := (F748.keep r749_0 (ninS ne739 nin0))
              obtain ⟨T763, h763, v763, L763, X763, e763, ⟨rfl, N763q, r763_0⟩, st763⟩ := N.static X749 hx hZ (y := (⟨"com/example/usher/usher/lifecycle/ExecutionKey", "fits", "(Ljava/lang/String;)Z"⟩ : MethodName)) hown (wk hw 27 rfl) (wk hw 28 rfl) (wk hw 29 rfl) (wk hw 30 rfl) (by decide) (fitU1 l Z a0 hw b738 t_749 kb_749 nn (upd (upd (upd (upd (fun _ => 0) 0 c_406) 1 c_408) (nn - 2) c_410) (nn - 1) c_412) 1 cs h749 n0 O756 F761 r749_2 r749_3 r749_4 (own_fr F762) (by omega) ((own_cp3 (by omega)).trans (by rw [if_pos ⟨hsu643, hsu646⟩, if_neg (fun q => hsu652 q.2)])) h512 S_AD S_HI S_LO S_CS hcs) e749 (g := (mkF m 178 #[.val (.int p0), .val (.int p1), .val (.int p2), .val (.int p3), .val (.int p4), .val (.int nn.toInt32), .val (.int c_406), .val (.int c_408), .val (.int c_410), .val (.int c_412), .val (.ref b414), .val (.int (1 : Int32)), .val (.int (1 : Int32))] [(.ref b738)])) rfl (by rw [hml]; rfl) (argsL := [(.ref b738)]) (rest := []) rfl (lenOf pd__Ljava_lang_String__Z rfl) rfl (W := 0) (by show 2 * 0 + _ ≤ _; exact Nat.le_of_eq rfl) (hb hby at_178) (by decide) (by decide) (by decide) (by decide)
              have N764 := Fr.app N751 N763q
              have e763 := e763.trans r763_0
              refine WinW.to T763 (mkF m 181 #[.val (.int p0), .val (.int p1), .val (.int p2), .val (.int p3), .val (.int p4), .val (.int nn.toInt32), .val (.int c_406), .val (.int c_408), .val (.int c_410), .val (.int c_412), .val (.ref b414), .val (.int (1 : Int32)), .val (.int (1 : Int32))] [(.int (1 : Int32))]) (fun _ k => st763 _ k) ?_
              refine WinW.to T763 (mkF m 183 #[.val (.int p0), .val (.int p1), .val (.int p2), .val (.int p3), .val (.int p4), .val (.int nn.toInt32), .val (.int c_406), .val (.int c_408), .val (.int c_410), .val (.int c_412), .val (.ref b414), .val (.int (1 : Int32)), .val (.int (1 : Int32))] [(.int (1 : Int32)), (.int (1 : Int32))]) (fun _ k => XS.iload X763.here hx rfl (hb hby at_181) rfl k) ?_
              refine WinW.to T763 (mkF m 186 #[.val (.int p0), .val (.int p1), .val (.int p2), .val (.int p3), .val (.int p4), .val (.int nn.toInt32), .val (.int c_406), .val (.int c_408), .val (.int c_410), .val (.int c_412), .val (.ref b414), .val (.int (1 : Int32)), .val (.int (1 : Int32))] []) (fun _ k => XS.icmpNo X763.here hx rfl (hb hby at_183) rfl (teq (show (1 : Int32) = (1 : Int32) from by decide)).2 k) ?_
              refine WinW.to T763 (mkF m 187 #[.val (.int p0), .val (.int p1), .val (.int p2), .val (.int p3), .val (.int p4), .val (.int nn.toInt32), .val (.int c_406), .val (.int c_408), .val (.int c_410), .val (.int c_412), .val (.ref b414), .val (.int (1 : Int32)), .val (.int (1 : Int32))] [(.int (1 : Int32))]) (fun _ k => XS.iconst X763.here hx rfl (hb hby at_186) k) ?_
              refine WinW.to T763 (mkF m 191 #[.val (.int p0), .val (.int p1), .val (.int p2), .val (.int p3), .val (.int p4), .val (.int nn.toInt32), .val (.int c_406), .val (.int c_408), .val (.int c_410), .val (.int c_412), .val (.ref b414), .val (.int (1 : Int32)), .val (.int (1 : Int32))] [(.int (1 : Int32))]) (fun _ k => XS.goto X763.here hx rfl (pc0 := 187) (pc' := 191) rfl (hb hby at_187) (by decide) (by decide) k) ?_
              exact WinW.retN X763 hS0 (by rw [e763]; exact (Nat.zero_le _)) hx hlk (t := .boolean) hret (by simp) rfl (hb hby at_191) hZ (own_EW hw) (by rw [e763]; exact C759) (by decide) (by decide) (by (try rw [e763]); exact ⟨rfl, N764, trivial⟩)
        · obtain ⟨T765, h765, v765, L765, X765, e765, ⟨rfl, N765q, r765_0⟩, st765⟩ := N.static X647 hx hZ (y := (⟨"com/example/usher/usher/lifecycle/ExecutionKeyFitsPinLaw", "isHigh", "(C)Z"⟩ : MethodName)) hown (wk hw 36 rfl) (wk hw 37 rfl) (wk hw 2 rfl) (wk hw 38 rfl) (by decide) (lh0 l Z a0 hw c_410 h636 n0 O637 hsu649) e647 (g := (mkF m 125 #[.val (.int p0), .val (.int p1), .val (.int p2), .val (.int p3), .val (.int p4), .val (.int nn.toInt32), .val (.int c_406), .val (.int c_408), .val (.int c_410), .val (.int c_412), .val (.ref b414), .val (.int (1 : Int32)), .unset] [(.int c_410)])) rfl (by rw [hml]; rfl) (argsL := [(.int c_410)]) (rest := []) rfl (lenOf pd__C_Z rfl) rfl (W := 0) (by show 2 * 0 + _ ≤ _; exact Nat.le_of_eq rfl) (hb hby at_125) (by decide) (by decide) (by decide) (by decide)
          have N766 := Fr.app N648 N765q
          have e765 := e765.trans r765_0
          refine WinW.to T765 (mkF m 128 #[.val (.int p0), .val (.int p1), .val (.int p2), .val (.int p3), .val (.int p4), .val (.int nn.toInt32), .val (.int c_406), .val (.int c_408), .val (.int c_410), .val (.int c_412), .val (.ref b414), .val (.int (1 : Int32)), .unset] [(.int (0 : Int32))]) (fun _ k => st765 _ k) ?_
          refine WinW.to T765 (mkF m 145 #[.val (.int p0), .val (.int p1), .val (.int p2), .val (.int p3), .val (.int p4), .val (.int nn.toInt32), .val (.int c_406), .val (.int c_408), .val (.int c_410), .val (.int c_412), .val (.ref b414), .val (.int (1 : Int32)), .unset] []) (fun _ k => XS.ifYes X765.here hx rfl (pc0 := 128) (pc' := 145) rfl (hb hby at_128) rfl ((if0 _ _).trans (teq (show (0 : Int32) = (0 : Int32) from by decide)).1) (by decide) (by decide) k) ?_
          refine WinW.to T765 (mkF m 147 #[.val (.int p0), .val (.int p1), .val (.int p2), .val (.int p3), .val (.int p4), .val (.int nn.toInt32), .val (.int c_406), .val (.int c_408), .val (.int c_410), .val (.int c_412), .val (.ref b414), .val (.int (1 : Int32)), .unset] [(.int nn.toInt32)]) (fun _ k => XS.iload X765.here hx rfl (hb hby at_145) rfl k) ?_
          refine WinW.to T765 (mkF m 148 #[.val (.int p0), .val (.int p1), .val (.int p2), .val (.int p3), .val (.int p4), .val (.int nn.toInt32), .val (.int c_406), .val (.int c_408), .val (.int c_410), .val (.int c_412), .val (.ref b414), .val (.int (1 : Int32)), .unset] [(.int (1 : Int32)), (.int nn.toInt32)]) (fun _ k => XS.iconst X765.here hx rfl (hb hby at_147) k) ?_
          refine WinW.to T765 (mkF m 151 #[.val (.int p0), .val (.int p1), .val (.int p2), .val (.int p3), .val (.int p4), .val (.int nn.toInt32), .val (.int c_406), .val (.int c_408), .val (.int c_410), .val (.int c_412), .val (.ref b414), .val (.int (1 : Int32)), .unset] []) (fun _ k => XS.icmpNo X765.here hx rfl (hb hby at_148) rfl (flt (show ¬ (nn.toInt32 < (1 : Int32)) from (fun q => absurd ((own_lt (n := 1) hbn (by decide)).mp q) (by omega)))).1 k) ?_
          refine WinW.to T765 (mkF m 153 #[.val (.int p0), .val (.int p1), .val (.int p2), .val (.int p3), .val (.int p4), .val (.int nn.toInt32), .val (.int c_406), .val (.int c_408), .val (.int c_410), .val (.int c_412), .val (.ref b414), .val (.int (1 : Int32)), .unset] [(.int nn.toInt32)]) (fun _ k => XS.iload X765.here hx rfl (hb hby at_151) rfl k) ?_
          refine WinW.to T765 (mkF m 155 #[.val (.int p0), .val (.int p1), .val (.int p2), .val (.int p3), .val (.int p4), .val (.int nn.toInt32), .val (.int c_406), .val (.int c_408), .val (.int c_410), .val (.int c_412), .val (.ref b414), .val (.int (1 : Int32)), .unset] [(.int (1 : Int32)), (.int nn.toInt32)]) (fun _ k => XS.iload X765.here hx rfl (hb hby at_153) rfl k) ?_
          refine WinW.to T765 (mkF m 156 #[.val (.int p0), .val (.int p1), .val (.int p2), .val (.int p3), .val (.int p4), .val (.int nn.toInt32), .val (.int c_406), .val (.int c_408), .val (.int c_410), .val (.int c_412), .val (.ref b414), .val (.int (1 : Int32)), .unset] [(.int (nn - 1).toInt32)]) (fun _ k => XS.isub X765.here hx rfl (hb hby at_155) rfl (by rw [show (nn.toInt32 - (1 : Int32)) = (nn - 1).toInt32 from own_sub (b := 1) (by decide) hbn (by omega)]; exact k)) ?_
          refine WinW.to T765 (mkF m 159 #[.val (.int p0), .val (.int p1), .val (.int p2), .val (.int p3), .val (.int p4), .val (.int nn.toInt32), .val (.int c_406), .val (.int c_408), .val (.int c_410), .val (.int c_412), .val (.ref b414), .val (.int (1 : Int32)), .unset] [(.int (512 : Int32)), (.int (nn - 1).toInt32)]) (fun _ k => XS.sipush X765.here hx rfl (hb hby at_156) k) ?_
          by_cases h512 : 512 < (nn - 1)
          · refine WinW.to T765 (mkF m 166 #[.val (.int p0), .val (.int p1), .val (.int p2), .val (.int p3), .val (.int p4), .val (.int nn.toInt32), .val (.int c_406), .val (.int c_408), .val (.int c_410), .val (.int c_412), .val (.ref b414), .val (.int (1 : Int32)), .unset] []) (fun _ k => XS.icmpYes X765.here hx rfl (pc0 := 159) (pc' := 166) rfl (hb hby at_159) rfl (tlt (show (512 : Int32) < (nn - 1).toInt32 from ((own_lt (j := 512) (by decide) (by omega)).mpr h512))).2.2.1 (by decide) (by decide) k) ?_
            refine WinW.to T765 (mkF m 167 #[.val (.int p0), .val (.int p1), .val (.int p2), .val (.int p3), .val (.int p4), .val (.int nn.toInt32), .val (.int c_406), .val (.int c_408), .val (.int c_410), .val (.int c_412), .val (.ref b414), .val (.int (1 : Int32)), .unset] [(.int (0 : Int32))]) (fun _ k => XS.iconst X765.here hx rfl (hb hby at_166) k) ?_
            refine WinW.to T765 (mkF m 169 #[.val (.int p0), .val (.int p1), .val (.int p2), .val (.int p3), .val (.int p4), .val (.int nn.toInt32), .val (.int c_406), .val (.int c_408), .val (.int c_410), .val (.int c_412), .val (.ref b414), .val (.int (1 : Int32)), .val (.int (0 : Int32))] []) (fun _ k => XS.istore X765.here hx rfl (hb hby at_167) rfl (l' := #[.val (.int p0), .val (.int p1), .val (.int p2), .val (.int p3), .val (.int p4), .val (.int nn.toInt32), .val (.int c_406), .val (.int c_408), .val (.int c_410), .val (.int c_412), .val (.ref b414), .val (.int (1 : Int32)), .val (.int (0 : Int32))]) rfl k) ?_
            obtain ⟨T767, h767, X767, e767, E767, A767, D767, -, st767⟩ := newO X765 hx hZ hown (wk hw 6 rfl) (wk hw 7 rfl) (wk hw 8 rfl) e765 (g := (mkF m 169 #[.val (.int p0), .val (.int p1), .val (.int p2), .val (.int p3), .val (.int p4), .val (.int nn.toInt32), .val (.int c_406), .val (.int c_408), .val (.int c_410), .val (.int c_412), .val (.ref b414), .val (.int (1 : Int32)), .val (.int (0 : Int32))] [])) rfl (hb hby at_169) (by decide) (by decide)
            obtain ⟨b767, g767⟩ : ∃ z, z = h636.size := ⟨_, rfl⟩
            rw [← g767] at A767 D767 st767
            have ne768 : b414 ≠ b767 := Nat.ne_of_lt (Nat.lt_of_lt_of_le F642.lt (Nat.le_of_eq g767.symm))
            have g769 : n0 ≤ b767 := Nat.le_trans (own_le O637) (Nat.le_of_eq g767.symm)
            have z770 : h0.size ≤ b767 := Nat.le_trans K638.1 (Nat.le_of_eq g767.symm)
            have O771 := Old.ext O637 E767
            have K772 : Keep h0 h767 [] := K638.ext E767
            have c773 := CHr.ext E767 C641.1
            have C774 := CHr.trans C641 c773
            have F775 : Fld Z h767 b767 "java/lang/String" "value" "[B" .null := D767 (Or.inr (wk hw 21 rfl)) (ty := (.array .byte)) (by decide)
            have F776 : Fld Z h767 b767 "java/lang/String" "coder" "B" (.int (0 : Int32)) := D767 (Or.inr (wk hw 22 rfl)) (ty := .byte) (by decide)
            refine WinW.to T767 (mkF m 172 #[.val (.int p0), .val (.int p1), .val (.int p2), .val (.int p3), .val (.int p4), .val (.int nn.toInt32), .val (.int c_406), .val (.int c_408), .val (.int c_410), .val (.int c_412), .val (.ref b414), .val (.int (1 : Int32)), .val (.int (0 : Int32))] [(.ref b767)]) (fun _ k => st767 _ k) ?_
            refine WinW.to T767 (mkF m 173 #[.val (.int p0), .val (.int p1), .val (.int p2), .val (.int p3), .val (.int p4), .val (.int nn.toInt32), .val (.int c_406), .val (.int c_408), .val (.int c_410), .val (.int c_412), .val (.ref b414), .val (.int (1 : Int32)), .val (.int (0 : Int32))] [(.ref b767), (.ref b767)]) (fun _ k => XS.dup X767.here hx rfl (hb hby at_172) rfl rfl k) ?_
            refine WinW.to T767 (mkF m 175 #[.val (.int p0), .val (.int p1), .val (.int p2), .val (.int p3), .val (.int p4), .val (.int nn.toInt32), .val (.int c_406), .val (.int c_408), .val (.int c_410), .val (.int c_412), .val (.ref b414), .val (.int (1 : Int32)), .val (.int (0 : Int32))] [(.ref b414), (.ref b767), (.ref b767)]) (fun _ k => XS.aload X767.here hx rfl (hb hby at_173) rfl rfl k) ?_
            have F777 : ArF Z h767 b414 k414 .char nn (upd (upd (upd (upd (fun _ => 0) 0 c_406) 1 c_408) (nn - 2) c_410) (nn - 1) c_412) := (F642.ext E767)
            have S779 : Safe Z EL1 (s.setVm s.vm).vm h767 b767 := own_safe hZ.alike A767 F775 (wk hw 7 rfl)
            obtain ⟨T778, h778, v778, L778, X778, e778, ⟨t_778, kb_778, rfl, N778q, r778_0, r778_1, r778_2, r778_3, r778_4⟩, st778⟩ := N.special X767 hx hZ (y := (⟨"java/lang/String", "<init>", "([C)V"⟩ : MethodName)) rfl hown (wk hw 9 rfl) (wk hw 10 rfl) (wk hw 8 rfl) (wk hw 11 rfl) (by decide) (ctor1u l Z a0 hw b767 b414 k414 nn (upd (upd (upd (upd (fun _ => 0) 0 c_406) 1 c_408) (nn - 2) c_410) (nn - 1) c_412) cs h767 n0 O771 A767 F775 F776 F777 hle (⟨0, by omega, own_F3x (by omega) hsu643⟩) g769 S_AD S_HI S_LO S_CS hcs) e767 (g := (mkF m 175 #[.val (.int p0), .val (.int p1), .val (.int p2), .val (.int p3), .val (.int p4), .val (.int nn.toInt32), .val (.int c_406), .val (.int c_408), .val (.int c_410), .val (.int c_412), .val (.ref b414), .val (.int (1 : Int32)), .val (.int (0 : Int32))] [(.ref b414), (.ref b767), (.ref b767)])) rfl (by rw [hml]; rfl) (a := b767) (argsL := [(.ref b414)]) (rest := [(.ref b767)]) rfl (lenOf pd___C_V rfl) rfl (W := 1) (by show 2 * 0 + _ ≤ _; exact Nat.le_of_eq rfl) (hb hby at_175) (by decide) (by decide) (by decide) (by decide)
            have N780 := Fr.app N766 N778q
            have ne781 : b414 ≠ t_778 := Nat.ne_of_lt (Nat.lt_of_lt_of_le F777.lt r778_1)
            have ne782 : b767 ≠ t_778 := Nat.ne_of_lt (Nat.lt_of_lt_of_le A767.lt r778_1)
            have g783 : n0 ≤ t_778 := Nat.le_trans (own_le O771) r778_1
            have z784 : h0.size ≤ t_778 := Nat.le_trans K772.1 r778_1
            have O785 := Old.keep O771 r778_0 (allS g769 all0)
            have K786 : Keep h0 h778 [] := Keep.trans K772 r778_0 (allS (Or.inr z770) all0)
            have c787 := CHr.keep r778_0 (sfS S779 sf0) C774.1
            have C788 := CHr.trans C774 c787
            have S789 := CHr.safe c787 A767.lt S779
            refine WinW.to T778 (mkF m 178 #[.val (.int p0), .val (.int p1), .val (.int p2), .val (.int p3), .val (.int p4), .val (.int nn.toInt32), .val (.int c_406), .val (.int c_408), .val (.int c_410), .val (.int c_412), .val (.ref b414), .val (.int (1 : Int32)), .val (.int (0 : Int32))] [(.ref b767)]) (fun _ k => st778 _ k) ?_
            have F790 : Exa Z h778 b767 "java/lang/String" := (A767.keep r778_0)
            have F791 : ArF Z h778 b414 k414 .char nn (upd (upd (upd (upd (fun _ => 0) 0 c_406) 1 c_408) (nn - 2) c_410) (nn - 1) c_412) := (F777.keep r778_0 (ninS ne768 nin0))
            obtain ⟨T792, h792, v792, L792, X792, e792, ⟨rfl, N792q, r792_0⟩, st792⟩ := N.static X778 hx hZ (y := (⟨"com/example/usher/usher/lifecycle/ExecutionKey", "fits", "(Ljava/lang/String;)Z"⟩ : MethodName)) hown (wk hw 27 rfl) (wk hw 28 rfl) (wk hw 29 rfl) (wk hw 30 rfl) (by decide) (fitU0 l Z a0 hw b767 t_778 kb_778 nn (upd (upd (upd (upd (fun _ => 0) 0 c_406) 1 c_408) (nn - 2) c_410) (nn - 1) c_412) 1 cs h778 n0 O785 F790 r778_2 r778_3 r778_4 (own_fr F791) (by omega) ((own_cp3 (by omega)).trans (by rw [if_pos ⟨hsu643, hsu646⟩, if_neg (fun q => hsu649 q.1)])) h512 S_AD S_HI S_LO S_CS hcs) e778 (g := (mkF m 178 #[.val (.int p0), .val (.int p1), .val (.int p2), .val (.int p3), .val (.int p4), .val (.int nn.toInt32), .val (.int c_406), .val (.int c_408), .val (.int c_410), .val (.int c_412), .val (.ref b414), .val (.int (1 : Int32)), .val (.int (0 : Int32))] [(.ref b767)])) rfl (by rw [hml]; rfl) (argsL := [(.ref b767)]) (rest := []) rfl (lenOf pd__Ljava_lang_String__Z rfl) rfl (W := 0) (by show 2 * 0 + _ ≤ _; exact Nat.le_of_eq rfl) (hb hby at_178) (by decide) (by decide) (by decide) (by decide)
            have N793 := Fr.app N780 N792q
            have e792 := e792.trans r792_0
            refine WinW.to T792 (mkF m 181 #[.val (.int p0), .val (.int p1), .val (.int p2), .val (.int p3), .val (.int p4), .val (.int nn.toInt32), .val (.int c_406), .val (.int c_408), .val (.int c_410), .val (.int c_412), .val (.ref b414), .val (.int (1 : Int32)), .val (.int (0 : Int32))] [(.int (0 : Int32))]) (fun _ k => st792 _ k) ?_
            refine WinW.to T792 (mkF m 183 #[.val (.int p0), .val (.int p1), .val (.int p2), .val (.int p3), .val (.int p4), .val (.int nn.toInt32), .val (.int c_406), .val (.int c_408), .val (.int c_410), .val (.int c_412), .val (.ref b414), .val (.int (1 : Int32)), .val (.int (0 : Int32))] [(.int (0 : Int32)), (.int (0 : Int32))]) (fun _ k => XS.iload X792.here hx rfl (hb hby at_181) rfl k) ?_
            refine WinW.to T792 (mkF m 186 #[.val (.int p0), .val (.int p1), .val (.int p2), .val (.int p3), .val (.int p4), .val (.int nn.toInt32), .val (.int c_406), .val (.int c_408), .val (.int c_410), .val (.int c_412), .val (.ref b414), .val (.int (1 : Int32)), .val (.int (0 : Int32))] []) (fun _ k => XS.icmpNo X792.here hx rfl (hb hby at_183) rfl (teq (show (0 : Int32) = (0 : Int32) from by decide)).2 k) ?_
            refine WinW.to T792 (mkF m 187 #[.val (.int p0), .val (.int p1), .val (.int p2), .val (.int p3), .val (.int p4), .val (.int nn.toInt32), .val (.int c_406), .val (.int c_408), .val (.int c_410), .val (.int c_412), .val (.ref b414), .val (.int (1 : Int32)), .val (.int (0 : Int32))] [(.int (1 : Int32))]) (fun _ k => XS.iconst X792.here hx rfl (hb hby at_186) k) ?_
            refine WinW.to T792 (mkF m 191 #[.val (.int p0), .val (.int p1), .val (.int p2), .val (.int p3), .val (.int p4), .val (.int nn.toInt32), .val (.int c_406), .val (.int c_408), .val (.int c_410), .val (.int c_412), .val (.ref b414), .val (.int (1 : Int32)), .val (.int (0 : Int32))] [(.int (1 : Int32))]) (fun _ k => XS.goto X792.here hx rfl (pc0 := 187) (pc' := 191) rfl (hb hby at_187) (by decide) (by decide) k) ?_
            exact WinW.retN X792 hS0 (by rw [e792]; exact (Nat.zero_le _)) hx hlk (t := .boolean) hret (by simp) rfl (hb hby at_191) hZ (own_EW hw) (by rw [e792]; exact C788) (by decide) (by decide) (by (try rw [e792]); exact ⟨rfl, N793, trivial⟩)
          · refine WinW.to T765 (mkF m 162 #[.val (.int p0), .val (.int p1), .val (.int p2), .val (.int p3), .val (.int p4), .val (.int nn.toInt32), .val (.int c_406), .val (.int c_408), .val (.int c_410), .val (.int c_412), .val (.ref b414), .val (.int (1 : Int32)), .unset] []) (fun _ k => XS.icmpNo X765.here hx rfl (hb hby at_159) rfl (flt (show ¬ ((512 : Int32) < (nn - 1).toInt32) from (fun q => h512 ((own_lt (j := 512) (by decide) (by omega)).mp q)))).2.2.1 k) ?_
            refine WinW.to T765 (mkF m 163 #[.val (.int p0), .val (.int p1), .val (.int p2), .val (.int p3), .val (.int p4), .val (.int nn.toInt32), .val (.int c_406), .val (.int c_408), .val (.int c_410), .val (.int c_412), .val (.ref b414), .val (.int (1 : Int32)), .unset] [(.int (1 : Int32))]) (fun _ k => XS.iconst X765.here hx rfl (hb hby at_162) k) ?_
            refine WinW.to T765 (mkF m 167 #[.val (.int p0), .val (.int p1), .val (.int p2), .val (.int p3), .val (.int p4), .val (.int nn.toInt32), .val (.int c_406), .val (.int c_408), .val (.int c_410), .val (.int c_412), .val (.ref b414), .val (.int (1 : Int32)), .unset] [(.int (1 : Int32))]) (fun _ k => XS.goto X765.here hx rfl (pc0 := 163) (pc' := 167) rfl (hb hby at_163) (by decide) (by decide) k) ?_
            refine WinW.to T765 (mkF m 169 #[.val (.int p0), .val (.int p1), .val (.int p2), .val (.int p3), .val (.int p4), .val (.int nn.toInt32), .val (.int c_406), .val (.int c_408), .val (.int c_410), .val (.int c_412), .val (.ref b414), .val (.int (1 : Int32)), .val (.int (1 : Int32))] []) (fun _ k => XS.istore X765.here hx rfl (hb hby at_167) rfl (l' := #[.val (.int p0), .val (.int p1), .val (.int p2), .val (.int p3), .val (.int p4), .val (.int nn.toInt32), .val (.int c_406), .val (.int c_408), .val (.int c_410), .val (.int c_412), .val (.ref b414), .val (.int (1 : Int32)), .val (.int (1 : Int32))]) rfl k) ?_
            obtain ⟨T794, h794, X794, e794, E794, A794, D794, -, st794⟩ := newO X765 hx hZ hown (wk hw 6 rfl) (wk hw 7 rfl) (wk hw 8 rfl) e765 (g := (mkF m 169 #[.val (.int p0), .val (.int p1), .val (.int p2), .val (.int p3), .val (.int p4), .val (.int nn.toInt32), .val (.int c_406), .val (.int c_408), .val (.int c_410), .val (.int c_412), .val (.ref b414), .val (.int (1 : Int32)), .val (.int (1 : Int32))] [])) rfl (hb hby at_169) (by decide) (by decide)
            obtain ⟨b794, g794⟩ : ∃ z, z = h636.size := ⟨_, rfl⟩
            rw [← g794] at A794 D794 st794
            have ne795 : b414 ≠ b794 := Nat.ne_of_lt (Nat.lt_of_lt_of_le F642.lt (Nat.le_of_eq g794.symm))
            have g796 : n0 ≤ b794 := Nat.le_trans (own_le O637) (Nat.le_of_eq g794.symm)
            have z797 : h0.size ≤ b794 := Nat.le_trans K638.1 (Nat.le_of_eq g794.symm)
            have O798 := Old.ext O637 E794
            have K799 : Keep h0 h794 [] := K638.ext E794
            have c800 := CHr.ext E794 C641.1
            have C801 := CHr.trans C641 c800
            have F802 : Fld Z h794 b794 "java/lang/String" "value" "[B" .null := D794 (Or.inr (wk hw 21 rfl)) (ty := (.array .byte)) (by decide)
            have F803 : Fld Z h794 b794 "java/lang/String" "coder" "B" (.int (0 : Int32)) := D794 (Or.inr (wk hw 22 rfl)) (ty := .byte) (by decide)
            refine WinW.to T794 (mkF m 172 #[.val (.int p0), .val (.int p1), .val (.int p2), .val (.int p3), .val (.int p4), .val (.int nn.toInt32), .val (.int c_406), .val (.int c_408), .val (.int c_410), .val (.int c_412), .val (.ref b414), .val (.int (1 : Int32)), .val (.int (1 : Int32))] [(.ref b794)]) (fun _ k => st794 _ k) ?_
            refine WinW.to T794 (mkF m 173 #[.val (.int p0), .val (.int p1), .val (.int p2), .val (.int p3), .val (.int p4), .val (.int nn.toInt32), .val (.int c_406), .val (.int c_408), .val (.int c_410), .val (.int c_412), .val (.ref b414), .val (.int (1 : Int32)), .val (.int (1 : Int32))] [(.ref b794), (.ref b794)]) (fun _ k => XS.dup X794.here hx rfl (hb hby at_172) rfl rfl k) ?_
            refine WinW.to T794 (mkF m 175 #[.val (.int p0), .val (.int p1), .val (.int p2), .val (.int p3), .val (.int p4), .val (.int nn.toInt32), .val (.int c_406), .val (.int c_408), .val (.int c_410), .val (.int c_412), .val (.ref b414), .val (.int (1 : Int32)), .val (.int (1 : Int32))] [(.ref b414), (.ref b794), (.ref b794)]) (fun _ k => XS.aload X794.here hx rfl (hb hby at_173) rfl rfl k) ?_
            have F804 : ArF Z h794 b414 k414 .char nn (upd (upd (upd (upd (fun _ => 0) 0 c_406) 1 c_408) (nn - 2) c_410) (nn - 1) c_412) := (F642.ext E794)
            have S806 : Safe Z EL1 (s.setVm s.vm).vm h794 b794 := own_safe hZ.alike A794 F802 (wk hw 7 rfl)
            obtain ⟨T805, h805, v805, L805, X805, e805, ⟨t_805, kb_805, rfl, N805q, r805_0, r805_1, r805_2, r805_3, r805_4⟩, st805⟩ := N.special X794 hx hZ (y := (⟨"java/lang/String", "<init>", "([C)V"⟩ : MethodName)) rfl hown (wk hw 9 rfl) (wk hw 10 rfl) (wk hw 8 rfl) (wk hw 11 rfl) (by decide) (ctor1u l Z a0 hw b794 b414 k414 nn (upd (upd (upd (upd (fun _ => 0) 0 c_406) 1 c_408) (nn - 2) c_410) (nn - 1) c_412) cs h794 n0 O798 A794 F802 F803 F804 hle (⟨0, by omega, own_F3x (by omega) hsu643⟩) g796 S_AD S_HI S_LO S_CS hcs) e794 (g := (mkF m 175 #[.val (.int p0), .val (.int p1), .val (.int p2), .val (.int p3), .val (.int p4), .val (.int nn.toInt32), .val (.int c_406), .val (.int c_408), .val (.int c_410), .val (.int c_412), .val (.ref b414), .val (.int (1 : Int32)), .val (.int (1 : Int32))] [(.ref b414), (.ref b794), (.ref b794)])) rfl (by rw [hml]; rfl) (a := b794) (argsL := [(.ref b414)]) (rest := [(.ref b794)]) rfl (lenOf pd___C_V rfl) rfl (W := 1) (by show 2 * 0 + _ ≤ _; exact Nat.le_of_eq rfl) (hb hby at_175) (by decide) (by decide) (by decide) (by decide)
            have N807 := Fr.app N766 N805q
            have ne808 : b414 ≠ t_805 := Nat.ne_of_lt (Nat.lt_of_lt_of_le F804.lt r805_1)
            have ne809 : b794 ≠ t_805 := Nat.ne_of_lt (Nat.lt_of_lt_of_le A794.lt r805_1)
            have g810 : n0 ≤ t_805 := Nat.le_trans (own_le O798) r805_1
            have z811 : h0.size ≤ t_805 := Nat.le_trans K799.1 r805_1
            have O812 := Old.keep O798 r805_0 (allS g796 all0)
            have K813 : Keep h0 h805 [] := Keep.trans K799 r805_0 (allS (Or.inr z797) all0)
            have c814 := CHr.keep r805_0 (sfS S806 sf0) C801.1
            have C815 := CHr.trans C801 c814
            have S816 := CHr.safe c814 A794.lt S806
            refine WinW.to T805 (mkF m 178 #[.val (.int p0), .val (.int p1), .val (.int p2), .val (.int p3), .val (.int p4), .val (.int nn.toInt32), .val (.int c_406), .val (.int c_408), .val (.int c_410), .val (.int c_412), .val (.ref b414), .val (.int (1 : Int32)), .val (.int (1 : Int32))] [(.ref b794)]) (fun _ k => st805 _ k) ?_
            have F817 : Exa Z h805 b794 "java/lang/String" := (A794.keep r805_0)
            have F818 : ArF Z h805 b414 k414 .char nn (upd (upd (upd (upd (fun _ => 0) 0 c_406) 1 c_408) (nn - 2) c_410) (nn - 1) c_412) := (F804.keep r805_0 (ninS ne795 nin0))
            obtain ⟨T819, h819, v819, L819, X819, e819, ⟨rfl, N819q, r819_0⟩, st819⟩ := N.static X805 hx hZ (y := (⟨"com/example/usher/usher/lifecycle/ExecutionKey", "fits", "(Ljava/lang/String;)Z"⟩ : MethodName)) hown (wk hw 27 rfl) (wk hw 28 rfl) (wk hw 29 rfl) (wk hw 30 rfl) (by decide) (fitU1 l Z a0 hw b794 t_805 kb_805 nn (upd (upd (upd (upd (fun _ => 0) 0 c_406) 1 c_408) (nn - 2) c_410) (nn - 1) c_412) 1 cs h805 n0 O812 F817 r805_2 r805_3 r805_4 (own_fr F818) (by omega) ((own_cp3 (by omega)).trans (by rw [if_pos ⟨hsu643, hsu646⟩, if_neg (fun q => hsu649 q.1)])) h512 S_AD S_HI S_LO S_CS hcs) e805 (g := (mkF m 178 #[.val (.int p0), .val (.int p1), .val (.int p2), .val (.int p3), .val (.int p4), .val (.int nn.toInt32), .val (.int c_406), .val (.int c_408), .val (.int c_410), .val (.int c_412), .val (.ref b414), .val (.int (1 : Int32)), .val (.int (1 : Int32))] [(.ref b794)])) rfl (by rw [hml]; rfl) (argsL := [(.ref b794)]) (rest := []) rfl (lenOf pd__Ljava_lang_String__Z rfl) rfl (W := 0) (by show 2 * 0 + _ ≤ _; exact Nat.le_of_eq rfl) (hb hby at_178) (by decide) (by decide) (by decide) (by decide)
            have N820 := Fr.app N807 N819q
            have e819 := e819.trans r819_0
            refine WinW.to T819 (mkF m 181 #[.val (.int p0), .val (.int p1), .val (.int p2), .val (.int p3), .val (.int p4), .val (.int nn.toInt32), .val (.int c_406), .val (.int c_408), .val (.int c_410), .val (.int c_412), .val (.ref b414), .val (.int (1 : Int32)), .val (.int (1 : Int32))] [(.int (1 : Int32))]) (fun _ k => st819 _ k) ?_
            refine WinW.to T819 (mkF m 183 #[.val (.int p0), .val (.int p1), .val (.int p2), .val (.int p3), .val (.int p4), .val (.int nn.toInt32), .val (.int c_406), .val (.int c_408), .val (.int c_410), .val (.int c_412), .val (.ref b414), .val (.int (1 : Int32)), .val (.int (1 : Int32))] [(.int (1 : Int32)), (.int (1 : Int32))]) (fun _ k => XS.iload X819.here hx rfl (hb hby at_181) rfl k) ?_
            refine WinW.to T819 (mkF m 186 #[.val (.int p0), .val (.int p1), .val (.int p2), .val (.int p3), .val (.int p4), .val (.int nn.toInt32), .val (.int c_406), .val (.int c_408), .val (.int c_410), .val (.int c_412), .val (.ref b414), .val (.int (1 : Int32)), .val (.int (1 : Int32))] []) (fun _ k => XS.icmpNo X819.here hx rfl (hb hby at_183) rfl (teq (show (1 : Int32) = (1 : Int32) from by decide)).2 k) ?_
            refine WinW.to T819 (mkF m 187 #[.val (.int p0), .val (.int p1), .val (.int p2), .val (.int p3), .val (.int p4), .val (.int nn.toInt32), .val (.int c_406), .val (.int c_408), .val (.int c_410), .val (.int c_412), .val (.ref b414), .val (.int (1 : Int32)), .val (.int (1 : Int32))] [(.int (1 : Int32))]) (fun _ k => XS.iconst X819.here hx rfl (hb hby at_186) k) ?_
            refine WinW.to T819 (mkF m 191 #[.val (.int p0), .val (.int p1), .val (.int p2), .val (.int p3), .val (.int p4), .val (.int nn.toInt32), .val (.int c_406), .val (.int c_408), .val (.int c_410), .val (.int c_412), .val (.ref b414), .val (.int (1 : Int32)), .val (.int (1 : Int32))] [(.int (1 : Int32))]) (fun _ k => XS.goto X819.here hx rfl (pc0 := 187) (pc' := 191) rfl (hb hby at_187) (by decide) (by decide) k) ?_
            exact WinW.retN X819 hS0 (by rw [e819]; exact (Nat.zero_le _)) hx hlk (t := .boolean) hret (by simp) rfl (hb hby at_191) hZ (own_EW hw) (by rw [e819]; exact C815) (by decide) (by decide) (by (try rw [e819]); exact ⟨rfl, N820, trivial⟩)
      · obtain ⟨T821, h821, v821, L821, X821, e821, ⟨rfl, N821q, r821_0⟩, st821⟩ := N.static X644 hx hZ (y := (⟨"com/example/usher/usher/lifecycle/ExecutionKeyFitsPinLaw", "isLow", "(C)Z"⟩ : MethodName)) hown (wk hw 115 rfl) (wk hw 116 rfl) (wk hw 2 rfl) (wk hw 117 rfl) (by decide) (ll0 l Z a0 hw c_408 h636 n0 O637 hsu646) e644 (g := (mkF m 105 #[.val (.int p0), .val (.int p1), .val (.int p2), .val (.int p3), .val (.int p4), .val (.int nn.toInt32), .val (.int c_406), .val (.int c_408), .val (.int c_410), .val (.int c_412), .val (.ref b414), .val (.int (0 : Int32)), .unset] [(.int c_408)])) rfl (by rw [hml]; rfl) (argsL := [(.int c_408)]) (rest := []) rfl (lenOf pd__C_Z rfl) rfl (W := 0) (by show 2 * 0 + _ ≤ _; exact Nat.le_of_eq rfl) (hb hby at_105) (by decide) (by decide) (by decide) (by decide)
        have N822 := Fr.app N645 N821q
        have e821 := e821.trans r821_0
        refine WinW.to T821 (mkF m 108 #[.val (.int p0), .val (.int p1), .val (.int p2), .val (.int p3), .val (.int p4), .val (.int nn.toInt32), .val (.int c_406), .val (.int c_408), .val (.int c_410), .val (.int c_412), .val (.ref b414), .val (.int (0 : Int32)), .unset] [(.int (0 : Int32))]) (fun _ k => st821 _ k) ?_
        refine WinW.to T821 (mkF m 117 #[.val (.int p0), .val (.int p1), .val (.int p2), .val (.int p3), .val (.int p4), .val (.int nn.toInt32), .val (.int c_406), .val (.int c_408), .val (.int c_410), .val (.int c_412), .val (.ref b414), .val (.int (0 : Int32)), .unset] []) (fun _ k => XS.ifYes X821.here hx rfl (pc0 := 108) (pc' := 117) rfl (hb hby at_108) rfl ((if0 _ _).trans (teq (show (0 : Int32) = (0 : Int32) from by decide)).1) (by decide) (by decide) k) ?_
        refine WinW.to T821 (mkF m 119 #[.val (.int p0), .val (.int p1), .val (.int p2), .val (.int p3), .val (.int p4), .val (.int nn.toInt32), .val (.int c_406), .val (.int c_408), .val (.int c_410), .val (.int c_412), .val (.ref b414), .val (.int (0 : Int32)), .unset] [(.int nn.toInt32)]) (fun _ k => XS.iload X821.here hx rfl (hb hby at_117) rfl k) ?_
        refine WinW.to T821 (mkF m 120 #[.val (.int p0), .val (.int p1), .val (.int p2), .val (.int p3), .val (.int p4), .val (.int nn.toInt32), .val (.int c_406), .val (.int c_408), .val (.int c_410), .val (.int c_412), .val (.ref b414), .val (.int (0 : Int32)), .unset] [(.int (5 : Int32)), (.int nn.toInt32)]) (fun _ k => XS.iconst X821.here hx rfl (hb hby at_119) k) ?_
        refine WinW.to T821 (mkF m 123 #[.val (.int p0), .val (.int p1), .val (.int p2), .val (.int p3), .val (.int p4), .val (.int nn.toInt32), .val (.int c_406), .val (.int c_408), .val (.int c_410), .val (.int c_412), .val (.ref b414), .val (.int (0 : Int32)), .unset] []) (fun _ k => XS.icmpNo X821.here hx rfl (hb hby at_120) rfl (flt (show ¬ (nn.toInt32 < (5 : Int32)) from (fun q => absurd ((own_lt (n := 5) hbn (by decide)).mp q) (by omega)))).1 k) ?_
        refine WinW.to T821 (mkF m 125 #[.val (.int p0), .val (.int p1), .val (.int p2), .val (.int p3), .val (.int p4), .val (.int nn.toInt32), .val (.int c_406), .val (.int c_408), .val (.int c_410), .val (.int c_412), .val (.ref b414), .val (.int (0 : Int32)), .unset] [(.int c_410)]) (fun _ k => XS.iload X821.here hx rfl (hb hby at_123) rfl k) ?_
        by_cases hsu823 : hsur c_410
        · obtain ⟨T824, h824, v824, L824, X824, e824, ⟨rfl, N824q, r824_0⟩, st824⟩ := N.static X821 hx hZ (y := (⟨"com/example/usher/usher/lifecycle/ExecutionKeyFitsPinLaw", "isHigh", "(C)Z"⟩ : MethodName)) hown (wk hw 36 rfl) (wk hw 37 rfl) (wk hw 2 rfl) (wk hw 38 rfl) (by decide) (lh1 l Z a0 hw c_410 h636 n0 O637 hsu823) e821 (g := (mkF m 125 #[.val (.int p0), .val (.int p1), .val (.int p2), .val (.int p3), .val (.int p4), .val (.int nn.toInt32), .val (.int c_406), .val (.int c_408), .val (.int c_410), .val (.int c_412), .val (.ref b414), .val (.int (0 : Int32)), .unset] [(.int c_410)])) rfl (by rw [hml]; rfl) (argsL := [(.int c_410)]) (rest := []) rfl (lenOf pd__C_Z rfl) rfl (W := 0) (by show 2 * 0 + _ ≤ _; exact Nat.le_of_eq rfl) (hb hby at_125) (by decide) (by decide) (by decide) (by decide)
          have N825 := Fr.app N822 N824q
          have e824 := e824.trans r824_0
          refine WinW.to T824 (mkF m 128 #[.val (.int p0), .val (.int p1), .val (.int p2), .val (.int p3), .val (.int p4), .val (.int nn.toInt32), .val (.int c_406), .val (.int c_408), .val (.int c_410), .val (.int c_412), .val (.ref b414), .val (.int (0 : Int32)), .unset] [(.int (1 : Int32))]) (fun _ k => st824 _ k) ?_
          refine WinW.to T824 (mkF m 131 #[.val (.int p0), .val (.int p1), .val (.int p2), .val (.int p3), .val (.int p4), .val (.int nn.toInt32), .val (.int c_406), .val (.int c_408), .val (.int c_410), .val (.int c_412), .val (.ref b414), .val (.int (0 : Int32)), .unset] []) (fun _ k => XS.ifNo X824.here hx rfl (hb hby at_128) rfl ((if0 _ _).trans (feq (show ¬ ((1 : Int32) = (0 : Int32)) from by decide)).1) k) ?_
          refine WinW.to T824 (mkF m 133 #[.val (.int p0), .val (.int p1), .val (.int p2), .val (.int p3), .val (.int p4), .val (.int nn.toInt32), .val (.int c_406), .val (.int c_408), .val (.int c_410), .val (.int c_412), .val (.ref b414), .val (.int (0 : Int32)), .unset] [(.int c_412)]) (fun _ k => XS.iload X824.here hx rfl (hb hby at_131) rfl k) ?_
          by_cases hsu826 : lsur c_412
          · obtain ⟨T827, h827, v827, L827, X827, e827, ⟨rfl, N827q, r827_0⟩, st827⟩ := N.static X824 hx hZ (y := (⟨"com/example/usher/usher/lifecycle/ExecutionKeyFitsPinLaw", "isLow", "(C)Z"⟩ : MethodName)) hown (wk hw 115 rfl) (wk hw 116 rfl) (wk hw 2 rfl) (wk hw 117 rfl) (by decide) (ll1 l Z a0 hw c_412 h636 n0 O637 hsu826) e824 (g := (mkF m 133 #[.val (.int p0), .val (.int p1), .val (.int p2), .val (.int p3), .val (.int p4), .val (.int nn.toInt32), .val (.int c_406), .val (.int c_408), .val (.int c_410), .val (.int c_412), .val (.ref b414), .val (.int (0 : Int32)), .unset] [(.int c_412)])) rfl (by rw [hml]; rfl) (argsL := [(.int c_412)]) (rest := []) rfl (lenOf pd__C_Z rfl) rfl (W := 0) (by show 2 * 0 + _ ≤ _; exact Nat.le_of_eq rfl) (hb hby at_133) (by decide) (by decide) (by decide) (by decide)
            have N828 := Fr.app N825 N827q
            have e827 := e827.trans r827_0
            refine WinW.to T827 (mkF m 136 #[.val (.int p0), .val (.int p1), .val (.int p2), .val (.int p3), .val (.int p4), .val (.int nn.toInt32), .val (.int c_406), .val (.int c_408), .val (.int c_410), .val (.int c_412), .val (.ref b414), .val (.int (0 : Int32)), .unset] [(.int (1 : Int32))]) (fun _ k => st827 _ k) ?_
            refine WinW.to T827 (mkF m 139 #[.val (.int p0), .val (.int p1), .val (.int p2), .val (.int p3), .val (.int p4), .val (.int nn.toInt32), .val (.int c_406), .val (.int c_408), .val (.int c_410), .val (.int c_412), .val (.ref b414), .val (.int (0 : Int32)), .unset] []) (fun _ k => XS.ifNo X827.here hx rfl (hb hby at_136) rfl ((if0 _ _).trans (feq (show ¬ ((1 : Int32) = (0 : Int32)) from by decide)).1) k) ?_
            refine WinW.to T827 (mkF m 141 #[.val (.int p0), .val (.int p1), .val (.int p2), .val (.int p3), .val (.int p4), .val (.int nn.toInt32), .val (.int c_406), .val (.int c_408), .val (.int c_410), .val (.int c_412), .val (.ref b414), .val (.int (0 : Int32)), .unset] [(.int (0 : Int32))]) (fun _ k => XS.iload X827.here hx rfl (hb hby at_139) rfl k) ?_
            refine WinW.to T827 (mkF m 142 #[.val (.int p0), .val (.int p1), .val (.int p2), .val (.int p3), .val (.int p4), .val (.int nn.toInt32), .val (.int c_406), .val (.int c_408), .val (.int c_410), .val (.int c_412), .val (.ref b414), .val (.int (0 : Int32)), .unset] [(.int (1 : Int32)), (.int (0 : Int32))]) (fun _ k => XS.iconst X827.here hx rfl (hb hby at_141) k) ?_
            refine WinW.to T827 (mkF m 143 #[.val (.int p0), .val (.int p1), .val (.int p2), .val (.int p3), .val (.int p4), .val (.int nn.toInt32), .val (.int c_406), .val (.int c_408), .val (.int c_410), .val (.int c_412), .val (.ref b414), .val (.int (0 : Int32)), .unset] [(.int (1 : Int32))]) (fun _ k => XS.iadd X827.here hx rfl (hb hby at_142) rfl (by rw [show ((0 : Int32) + (1 : Int32)) = (1 : Int32) from by decide]; exact k)) ?_
            refine WinW.to T827 (mkF m 145 #[.val (.int p0), .val (.int p1), .val (.int p2), .val (.int p3), .val (.int p4), .val (.int nn.toInt32), .val (.int c_406), .val (.int c_408), .val (.int c_410), .val (.int c_412), .val (.ref b414), .val (.int (1 : Int32)), .unset] []) (fun _ k => XS.istore X827.here hx rfl (hb hby at_143) rfl (l' := #[.val (.int p0), .val (.int p1), .val (.int p2), .val (.int p3), .val (.int p4), .val (.int nn.toInt32), .val (.int c_406), .val (.int c_408), .val (.int c_410), .val (.int c_412), .val (.ref b414), .val (.int (1 : Int32)), .unset]) rfl k) ?_
            refine WinW.to T827 (mkF m 147 #[.val (.int p0), .val (.int p1), .val (.int p2), .val (.int p3), .val (.int p4), .val (.int nn.toInt32), .val (.int c_406), .val (.int c_408), .val (.int c_410), .val (.int c_412), .val (.ref b414), .val (.int (1 : Int32)), .unset] [(.int nn.toInt32)]) (fun _ k => XS.iload X827.here hx rfl (hb hby at_145) rfl k) ?_
            refine WinW.to T827 (mkF m 148 #[.val (.int p0), .val (.int p1), .val (.int p2), .val (.int p3), .val (.int p4), .val (.int nn.toInt32), .val (.int c_406), .val (.int c_408), .val (.int c_410), .val (.int c_412), .val (.ref b414), .val (.int (1 : Int32)), .unset] [(.int (1 : Int32)), (.int nn.toInt32)]) (fun _ k => XS.iconst X827.here hx rfl (hb hby at_147) k) ?_
            refine WinW.to T827 (mkF m 151 #[.val (.int p0), .val (.int p1), .val (.int p2), .val (.int p3), .val (.int p4), .val (.int nn.toInt32), .val (.int c_406), .val (.int c_408), .val (.int c_410), .val (.int c_412), .val (.ref b414), .val (.int (1 : Int32)), .unset] []) (fun _ k => XS.icmpNo X827.here hx rfl (hb hby at_148) rfl (flt (show ¬ (nn.toInt32 < (1 : Int32)) from (fun q => absurd ((own_lt (n := 1) hbn (by decide)).mp q) (by omega)))).1 k) ?_
            refine WinW.to T827 (mkF m 153 #[.val (.int p0), .val (.int p1), .val (.int p2), .val (.int p3), .val (.int p4), .val (.int nn.toInt32), .val (.int c_406), .val (.int c_408), .val (.int c_410), .val (.int c_412), .val (.ref b414), .val (.int (1 : Int32)), .unset] [(.int nn.toInt32)]) (fun _ k => XS.iload X827.here hx rfl (hb hby at_151) rfl k) ?_
            refine WinW.to T827 (mkF m 155 #[.val (.int p0), .val (.int p1), .val (.int p2), .val (.int p3), .val (.int p4), .val (.int nn.toInt32), .val (.int c_406), .val (.int c_408), .val (.int c_410), .val (.int c_412), .val (.ref b414), .val (.int (1 : Int32)), .unset] [(.int (1 : Int32)), (.int nn.toInt32)]) (fun _ k => XS.iload X827.here hx rfl (hb hby at_153) rfl k) ?_
            refine WinW.to T827 (mkF m 156 #[.val (.int p0), .val (.int p1), .val (.int p2), .val (.int p3), .val (.int p4), .val (.int nn.toInt32), .val (.int c_406), .val (.int c_408), .val (.int c_410), .val (.int c_412), .val (.ref b414), .val (.int (1 : Int32)), .unset] [(.int (nn - 1).toInt32)]) (fun _ k => XS.isub X827.here hx rfl (hb hby at_155) rfl (by rw [show (nn.toInt32 - (1 : Int32)) = (nn - 1).toInt32 from own_sub (b := 1) (by decide) hbn (by omega)]; exact k)) ?_
            refine WinW.to T827 (mkF m 159 #[.val (.int p0), .val (.int p1), .val (.int p2), .val (.int p3), .val (.int p4), .val (.int nn.toInt32), .val (.int c_406), .val (.int c_408), .val (.int c_410), .val (.int c_412), .val (.ref b414), .val (.int (1 : Int32)), .unset] [(.int (512 : Int32)), (.int (nn - 1).toInt32)]) (fun _ k => XS.sipush X827.here hx rfl (hb hby at_156) k) ?_
            by_cases h512 : 512 < (nn - 1)
            · refine WinW.to T827 (mkF m 166 #[.val (.int p0), .val (.int p1), .val (.int p2), .val (.int p3), .val (.int p4), .val (.int nn.toInt32), .val (.int c_406), .val (.int c_408), .val (.int c_410), .val (.int c_412), .val (.ref b414), .val (.int (1 : Int32)), .unset] []) (fun _ k => XS.icmpYes X827.here hx rfl (pc0 := 159) (pc' := 166) rfl (hb hby at_159) rfl (tlt (show (512 : Int32) < (nn - 1).toInt32 from ((own_lt (j := 512) (by decide) (by omega)).mpr h512))).2.2.1 (by decide) (by decide) k) ?_
              refine WinW.to T827 (mkF m 167 #[.val (.int p0), .val (.int p1), .val (.int p2), .val (.int p3), .val (.int p4), .val (.int nn.toInt32), .val (.int c_406), .val (.int c_408), .val (.int c_410), .val (.int c_412), .val (.ref b414), .val (.int (1 : Int32)), .unset] [(.int (0 : Int32))]) (fun _ k => XS.iconst X827.here hx rfl (hb hby at_166) k) ?_
              refine WinW.to T827 (mkF m 169 #[.val (.int p0), .val (.int p1), .val (.int p2), .val (.int p3), .val (.int p4), .val (.int nn.toInt32), .val (.int c_406), .val (.int c_408), .val (.int c_410), .val (.int c_412), .val (.ref b414), .val (.int (1 : Int32)), .val (.int (0 : Int32))] []) (fun _ k => XS.istore X827.here hx rfl (hb hby at_167) rfl (l' := #[.val (.int p0), .val (.int p1), .val (.int p2), .val (.int p3), .val (.int p4), .val (.int nn.toInt32), .val (.int c_406), .val (.int c_408), .val (.int c_410), .val (.int c_412), .val (.ref b414), .val (.int (1 : Int32)), .val (.int (0 : Int32))]) rfl k) ?_
              obtain ⟨T829, h829, X829, e829, E829, A829, D829, -, st829⟩ := newO X827 hx hZ hown (wk hw 6 rfl) (wk hw 7 rfl) (wk hw 8 rfl) e827 (g := (mkF m 169 #[.val (.int p0), .val (.int p1), .val (.int p2), .val (.int p3), .val (.int p4), .val (.int nn.toInt32), .val (.int c_406), .val (.int c_408), .val (.int c_410), .val (.int c_412), .val (.ref b414), .val (.int (1 : Int32)), .val (.int (0 : Int32))] [])) rfl (hb hby at_169) (by decide) (by decide)
              obtain ⟨b829, g829⟩ : ∃ z, z = h636.size := ⟨_, rfl⟩
              rw [← g829] at A829 D829 st829
              have ne830 : b414 ≠ b829 := Nat.ne_of_lt (Nat.lt_of_lt_of_le F642.lt (Nat.le_of_eq g829.symm))
              have g831 : n0 ≤ b829 := Nat.le_trans (own_le O637) (Nat.le_of_eq g829.symm)
              have z832 : h0.size ≤ b829 := Nat.le_trans K638.1 (Nat.le_of_eq g829.symm)
              have O833 := Old.ext O637 E829
              have K834 : Keep h0 h829 [] := K638.ext E829
              have c835 := CHr.ext E829 C641.1
              have C836 := CHr.trans C641 c835
              have F837 : Fld Z h829 b829 "java/lang/String" "value" "[B" .null := D829 (Or.inr (wk hw 21 rfl)) (ty := (.array .byte)) (by decide)
              have F838 : Fld Z h829 b829 "java/lang/String" "coder" "B" (.int (0 : Int32)) := D829 (Or.inr (wk hw 22 rfl)) (ty := .byte) (by decide)
              refine WinW.to T829 (mkF m 172 #[.val (.int p0), .val (.int p1), .val (.int p2), .val (.int p3), .val (.int p4), .val (.int nn.toInt32), .val (.int c_406), .val (.int c_408), .val (.int c_410), .val (.int c_412), .val (.ref b414), .val (.int (1 : Int32)), .val (.int (0 : Int32))] [(.ref b829)]) (fun _ k => st829 _ k) ?_
              refine WinW.to T829 (mkF m 173 #[.val (.int p0), .val (.int p1), .val (.int p2), .val (.int p3), .val (.int p4), .val (.int nn.toInt32), .val (.int c_406), .val (.int c_408), .val (.int c_410), .val (.int c_412), .val (.ref b414), .val (.int (1 : Int32)), .val (.int (0 : Int32))] [(.ref b829), (.ref b829)]) (fun _ k => XS.dup X829.here hx rfl (hb hby at_172) rfl rfl k) ?_
              refine WinW.to T829 (mkF m 175 #[.val (.int p0), .val (.int p1), .val (.int p2), .val (.int p3), .val (.int p4), .val (.int nn.toInt32), .val (.int c_406), .val (.int c_408), .val (.int c_410), .val (.int c_412), .val (.ref b414), .val (.int (1 : Int32)), .val (.int (0 : Int32))] [(.ref b414), (.ref b829), (.ref b829)]) (fun _ k => XS.aload X829.here hx rfl (hb hby at_173) rfl rfl k) ?_
              have F839 : ArF Z h829 b414 k414 .char nn (upd (upd (upd (upd (fun _ => 0) 0 c_406) 1 c_408) (nn - 2) c_410) (nn - 1) c_412) := (F642.ext E829)
              have S841 : Safe Z EL1 (s.setVm s.vm).vm h829 b829 := own_safe hZ.alike A829 F837 (wk hw 7 rfl)
              obtain ⟨T840, h840, v840, L840, X840, e840, ⟨t_840, kb_840, rfl, N840q, r840_0, r840_1, r840_2, r840_3, r840_4⟩, st840⟩ := N.special X829 hx hZ (y := (⟨"java/lang/String", "<init>", "([C)V"⟩ : MethodName)) rfl hown (wk hw 9 rfl) (wk hw 10 rfl) (wk hw 8 rfl) (wk hw 11 rfl) (by decide) (ctor1u l Z a0 hw b829 b414 k414 nn (upd (upd (upd (upd (fun _ => 0) 0 c_406) 1 c_408) (nn - 2) c_410) (nn - 1) c_412) cs h829 n0 O833 A829 F837 F838 F839 hle (⟨nn - 2, by omega, own_F3y (by omega) hsu823⟩) g831 S_AD S_HI S_LO S_CS hcs) e829 (g := (mkF m 175 #[.val (.int p0), .val (.int p1), .val (.int p2), .val (.int p3), .val (.int p4), .val (.int nn.toInt32), .val (.int c_406), .val (.int c_408), .val (.int c_410), .val (.int c_412), .val (.ref b414), .val (.int (1 : Int32)), .val (.int (0 : Int32))] [(.ref b414), (.ref b829), (.ref b829)])) rfl (by rw [hml]; rfl) (a := b829) (argsL := [(.ref b414)]) (rest := [(.ref b829)]) rfl (lenOf pd___C_V rfl) rfl (W := 1) (by show 2 * 0 + _ ≤ _; exact Nat.le_of_eq rfl) (hb hby at_175) (by decide) (by decide) (by decide) (by decide)
              have N842 := Fr.app N828 N840q
              have ne843 : b414 ≠ t_840 := Nat.ne_of_lt (Nat.lt_of_lt_of_le F839.lt r840_1)
              have ne844 : b829 ≠ t_840 := Nat.ne_of_lt (Nat.lt_of_lt_of_le A829.lt r840_1)
              have g845 : n0 ≤ t_840 := Nat.le_trans (own_le O833) r840_1
              have z846 : h0.size ≤ t_840 := Nat.le_trans K834.1 r840_1
              have O847 := Old.keep O833 r840_0 (allS g831 all0)
              have K848 : Keep h0 h840 [] := Keep.trans K834 r840_0 (allS (Or.inr z832) all0)
              have c849 := CHr.keep r840_0 (sfS S841 sf0) C836.1
              have C850 := CHr.trans C836 c849
              have S851 := CHr.safe c849 A829.lt S841
              refine WinW.to T840 (mkF m 178 #[.val (.int p0), .val (.int p1), .val (.int p2), .val (.int p3), .val (.int p4), .val (.int nn.toInt32), .val (.int c_406), .val (.int c_408), .val (.int c_410), .val (.int c_412), .val (.ref b414), .val (.int (1 : Int32)), .val (.int (0 : Int32))] [(.ref b829)]) (fun _ k => st840 _ k) ?_
              have F852 : Exa Z h840 b829 "java/lang/String" := (A829.keep r840_0)
              have F853 : ArF Z h840 b414 k414 .char nn (upd (upd (upd (upd (fun _ => 0) 0 c_406) 1 c_408) (nn - 2) c_410) (nn - 1) c_412) := (F839.keep r840_0 (ninS ne830 nin0))
              obtain ⟨T854, h854, v854, L854, X854, e854, ⟨rfl, N854q, r854_0⟩, st854⟩ := N.static X840 hx hZ (y := (⟨"com/example/usher/usher/lifecycle/ExecutionKey", "fits", "(Ljava/lang/String;)Z"⟩ : MethodName)) hown (wk hw 27 rfl) (wk hw 28 rfl) (wk hw 29 rfl) (wk hw 30 rfl) (by decide) (fitU0 l Z a0 hw b829 t_840 kb_840 nn (upd (upd (upd (upd (fun _ => 0) 0 c_406) 1 c_408) (nn - 2) c_410) (nn - 1) c_412) 1 cs h840 n0 O847 F852 r840_2 r840_3 r840_4 (own_fr F853) (by omega) ((own_cp3 (by omega)).trans (by rw [if_neg (fun q => hsu646 q.2), if_pos ⟨hsu823, hsu826⟩])) h512 S_AD S_HI S_LO S_CS hcs) e840 (g := (mkF m 178 #[.val (.int p0), .val (.int p1), .val (.int p2), .val (.int p3), .val (.int p4), .val (.int nn.toInt32), .val (.int c_406), .val (.int c_408), .val (.int c_410), .val (.int c_412), .val (.ref b414), .val (.int (1 : Int32)), .val (.int (0 : Int32))] [(.ref b829)])) rfl (by rw [hml]; rfl) (argsL := [(.ref b829)]) (rest := []) rfl (lenOf pd__Ljava_lang_String__Z rfl) rfl (W := 0) (by show 2 * 0 + _ ≤ _; exact Nat.le_of_eq rfl) (hb hby at_178) (by decide) (by decide) (by decide) (by decide)
              have N855 := Fr.app N842 N854q
              have e854 := e854.trans r854_0
              refine WinW.to T854 (mkF m 181 #[.val (.int p0), .val (.int p1), .val (.int p2), .val (.int p3), .val (.int p4), .val (.int nn.toInt32), .val (.int c_406), .val (.int c_408), .val (.int c_410), .val (.int c_412), .val (.ref b414), .val (.int (1 : Int32)), .val (.int (0 : Int32))] [(.int (0 : Int32))]) (fun _ k => st854 _ k) ?_
              refine WinW.to T854 (mkF m 183 #[.val (.int p0), .val (.int p1), .val (.int p2), .val (.int p3), .val (.int p4), .val (.int nn.toInt32), .val (.int c_406), .val (.int c_408), .val (.int c_410), .val (.int c_412), .val (.ref b414), .val (.int (1 : Int32)), .val (.int (0 : Int32))] [(.int (0 : Int32)), (.int (0 : Int32))]) (fun _ k => XS.iload X854.here hx rfl (hb hby at_181) rfl k) ?_
              refine WinW.to T854 (mkF m 186 #[.val (.int p0), .val (.int p1), .val (.int p2), .val (.int p3), .val (.int p4), .val (.int nn.toInt32), .val (.int c_406), .val (.int c_408), .val (.int c_410), .val (.int c_412), .val (.ref b414), .val (.int (1 : Int32)), .val (.int (0 : Int32))] []) (fun _ k => XS.icmpNo X854.here hx rfl (hb hby at_183) rfl (teq (show (0 : Int32) = (0 : Int32) from by decide)).2 k) ?_
              refine WinW.to T854 (mkF m 187 #[.val (.int p0), .val (.int p1), .val (.int p2), .val (.int p3), .val (.int p4), .val (.int nn.toInt32), .val (.int c_406), .val (.int c_408), .val (.int c_410), .val (.int c_412), .val (.ref b414), .val (.int (1 : Int32)), .val (.int (0 : Int32))] [(.int (1 : Int32))]) (fun _ k => XS.iconst X854.here hx rfl (hb hby at_186) k) ?_
              refine WinW.to T854 (mkF m 191 #[.val (.int p0), .val (.int p1), .val (.int p2), .val (.int p3), .val (.int p4), .val (.int nn.toInt32), .val (.int c_406), .val (.int c_408), .val (.int c_410), .val (.int c_412), .val (.ref b414), .val (.int (1 : Int32)), .val (.int (0 : Int32))] [(.int (1 : Int32))]) (fun _ k => XS.goto X854.here hx rfl (pc0 := 187) (pc' := 191) rfl (hb hby at_187) (by decide) (by decide) k) ?_
              exact WinW.retN X854 hS0 (by rw [e854]; exact (Nat.zero_le _)) hx hlk (t := .boolean) hret (by simp) rfl (hb hby at_191) hZ (own_EW hw) (by rw [e854]; exact C850) (by decide) (by decide) (by (try rw [e854]); exact ⟨rfl, N855, trivial⟩)
            · refine WinW.to T827 (mkF m 162 #[.val (.int p0), .val (.int p1), .val (.int p2), .val (.int p3), .val (.int p4), .val (.int nn.toInt32), .val (.int c_406), .val (.int c_408), .val (.int c_410), .val (.int c_412), .val (.ref b414), .val (.int (1 : Int32)), .unset] []) (fun _ k => XS.icmpNo X827.here hx rfl (hb hby at_159) rfl (flt (show ¬ ((512 : Int32) < (nn - 1).toInt32) from (fun q => h512 ((own_lt (j := 512) (by decide) (by omega)).mp q)))).2.2.1 k) ?_
              refine WinW.to T827 (mkF m 163 #[.val (.int p0), .val (.int p1), .val (.int p2), .val (.int p3), .val (.int p4), .val (.int nn.toInt32), .val (.int c_406), .val (.int c_408), .val (.int c_410), .val (.int c_412), .val (.ref b414), .val (.int (1 : Int32)), .unset] [(.int (1 : Int32))]) (fun _ k => XS.iconst X827.here hx rfl (hb hby at_162) k) ?_
              refine WinW.to T827 (mkF m 167 #[.val (.int p0), .val (.int p1), .val (.int p2), .val (.int p3), .val (.int p4), .val (.int nn.toInt32), .val (.int c_406), .val (.int c_408), .val (.int c_410), .val (.int c_412), .val (.ref b414), .val (.int (1 : Int32)), .unset] [(.int (1 : Int32))]) (fun _ k => XS.goto X827.here hx rfl (pc0 := 163) (pc' := 167) rfl (hb hby at_163) (by decide) (by decide) k) ?_
              refine WinW.to T827 (mkF m 169 #[.val (.int p0), .val (.int p1), .val (.int p2), .val (.int p3), .val (.int p4), .val (.int nn.toInt32), .val (.int c_406), .val (.int c_408), .val (.int c_410), .val (.int c_412), .val (.ref b414), .val (.int (1 : Int32)), .val (.int (1 : Int32))] []) (fun _ k => XS.istore X827.here hx rfl (hb hby at_167) rfl (l' := #[.val (.int p0), .val (.int p1), .val (.int p2), .val (.int p3), .val (.int p4), .val (.int nn.toInt32), .val (.int c_406), .val (.int c_408), .val (.int c_410), .val (.int c_412), .val (.ref b414), .val (.int (1 : Int32)), .val (.int (1 : Int32))]) rfl k) ?_
              obtain ⟨T856, h856, X856, e856, E856, A856, D856, -, st856⟩ := newO X827 hx hZ hown (wk hw 6 rfl) (wk hw 7 rfl) (wk hw 8 rfl) e827 (g := (mkF m 169 #[.val (.int p0), .val (.int p1), .val (.int p2), .val (.int p3), .val (.int p4), .val (.int nn.toInt32), .val (.int c_406), .val (.int c_408), .val (.int c_410), .val (.int c_412), .val (.ref b414), .val (.int (1 : Int32)), .val (.int (1 : Int32))] [])) rfl (hb hby at_169) (by decide) (by decide)
              obtain ⟨b856, g856⟩ : ∃ z, z = h636.size := ⟨_, rfl⟩
              rw [← g856] at A856 D856 st856
              have ne857 : b414 ≠ b856 := Nat.ne_of_lt (Nat.lt_of_lt_of_le F642.lt (Nat.le_of_eq g856.symm))
              have g858 : n0 ≤ b856 := Nat.le_trans (own_le O637) (Nat.le_of_eq g856.symm)
              have z859 : h0.size ≤ b856 := Nat.le_trans K638.1 (Nat.le_of_eq g856.symm)
              have O860 := Old.ext O637 E856
              have K861 : Keep h0 h856 [] := K638.ext E856
              have c862 := CHr.ext E856 C641.1
              have C863 := CHr.trans C641 c862
              have F864 : Fld Z h856 b856 "java/lang/String" "value" "[B" .null := D856 (Or.inr (wk hw 21 rfl)) (ty := (.array .byte)) (by decide)
              have F865 : Fld Z h856 b856 "java/lang/String" "coder" "B" (.int (0 : Int32)) := D856 (Or.inr (wk hw 22 rfl)) (ty := .byte) (by decide)
              refine WinW.to T856 (mkF m 172 #[.val (.int p0), .val (.int p1), .val (.int p2), .val (.int p3), .val (.int p4), .val (.int nn.toInt32), .val (.int c_406), .val (.int c_408), .val (.int c_410), .val (.int c_412), .val (.ref b414), .val (.int (1 : Int32)), .val (.int (1 : Int32))] [(.ref b856)]) (fun _ k => st856 _ k) ?_
              refine WinW.to T856 (mkF m 173 #[.val (.int p0), .val (.int p1), .val (.int p2), .val (.int p3), .val (.int p4), .val (.int nn.toInt32), .val (.int c_406), .val (.int c_408), .val (.int c_410), .val (.int c_412), .val (.ref b414), .val (.int (1 : Int32)), .val (.int (1 : Int32))] [(.ref b856), (.ref b856)]) (fun _ k => XS.dup X856.here hx rfl (hb hby at_172) rfl rfl k) ?_
              refine WinW.to T856 (mkF m 175 #[.val (.int p0), .val (.int p1), .val (.int p2), .val (.int p3), .val (.int p4), .val (.int nn.toInt32), .val (.int c_406), .val (.int c_408), .val (.int c_410), .val (.int c_412), .val (.ref b414), .val (.int (1 : Int32)), .val (.int (1 : Int32))] [(.ref b414), (.ref b856), (.ref b856)]) (fun _ k => XS.aload X856.here hx rfl (hb hby at_173) rfl rfl k) ?_
              have F866 : ArF Z h856 b414 k414 .char nn (upd (upd (upd (upd (fun _ => 0) 0 c_406) 1 c_408) (nn - 2) c_410) (nn - 1) c_412) := (F642.ext E856)
              have S868 : Safe Z EL1 (s.setVm s.vm).vm h856 b856 := own_safe hZ.alike A856 F864 (wk hw 7 rfl)
              obtain ⟨T867, h867, v867, L867, X867, e867, ⟨t_867, kb_867, rfl, N867q, r867_0, r867_1, r867_2, r867_3, r867_4⟩, st867⟩ := N.special X856 hx hZ (y := (⟨"java/lang/String", "<init>", "([C)V"⟩ : MethodName)) rfl hown (wk hw 9 rfl) (wk hw 10 rfl) (wk hw 8 rfl) (wk hw 11 rfl) (by decide) (ctor1u l Z a0 hw b856 b414 k414 nn (upd (upd (upd (upd (fun _ => 0) 0 c_406) 1 c_408) (nn - 2) c_410) (nn - 1) c_412) cs h856 n0 O860 A856 F864 F865 F866 hle (⟨nn - 2, by omega, own_F3y (by omega) hsu823⟩) g858 S_AD S_HI S_LO S_CS hcs) e856 (g := (mkF m 175 #[.val (.int p0), .val (.int p1), .val (.int p2), .val (.int p3), .val (.int p4), .val (.int nn.toInt32), .val (.int c_406), .val (.int c_408), .val (.int c_410), .val (.int c_412), .val (.ref b414), .val (.int (1 : Int32)), .val (.int (1 : Int32))] [(.ref b414), (.ref b856), (.ref b856)])) rfl (by rw [hml]; rfl) (a := b856) (argsL := [(.ref b414)]) (rest := [(.ref b856)]) rfl (lenOf pd___C_V rfl) rfl (W := 1) (by show 2 * 0 + _ ≤ _; exact Nat.le_of_eq rfl) (hb hby at_175) (by decide) (by decide) (by decide) (by decide)
              have N869 := Fr.app N828 N867q
              have ne870 : b414 ≠ t_867 := Nat.ne_of_lt (Nat.lt_of_lt_of_le F866.lt r867_1)
              have ne871 : b856 ≠ t_867 := Nat.ne_of_lt (Nat.lt_of_lt_of_le A856.lt r867_1)
              have g872 : n0 ≤ t_867 := Nat.le_trans (own_le O860) r867_1
              have z873 : h0.size ≤ t_867 := Nat.le_trans K861.1 r867_1
              have O874 := Old.keep O860 r867_0 (allS g858 all0)
              have K875 : Keep h0 h867 [] := Keep.trans K861 r867_0 (allS (Or.inr z859) all0)
              have c876 := CHr.keep r867_0 (sfS S868 sf0) C863.1
              have C877 := CHr.trans C863 c876
              have S878 := CHr.safe c876 A856.lt S868
              refine WinW.to T867 (mkF m 178 #[.val (.int p0), .val (.int p1), .val (.int p2), .val (.int p3), .val (.int p4), .val (.int nn.toInt32), .val (.int c_406), .val (.int c_408), .val (.int c_410), .val (.int c_412), .val (.ref b414), .val (.int (1 : Int32)), .val (.int (1 : Int32))] [(.ref b856)]) (fun _ k => st867 _ k) ?_
              have F879 : Exa Z h867 b856 "java/lang/String" := (A856.keep r867_0)
              have F880 : ArF Z h867 b414 k414 .char nn (upd (upd (upd (upd (fun _ => 0) 0 c_406) 1 c_408) (nn - 2) c_410) (nn - 1) c_412) := (F866.keep r867_0 (ninS ne857 nin0))
              obtain ⟨T881, h881, v881, L881, X881, e881, ⟨rfl, N881q, r881_0⟩, st881⟩ := N.static X867 hx hZ (y := (⟨"com/example/usher/usher/lifecycle/ExecutionKey", "fits", "(Ljava/lang/String;)Z"⟩ : MethodName)) hown (wk hw 27 rfl) (wk hw 28 rfl) (wk hw 29 rfl) (wk hw 30 rfl) (by decide) (fitU1 l Z a0 hw b856 t_867 kb_867 nn (upd (upd (upd (upd (fun _ => 0) 0 c_406) 1 c_408) (nn - 2) c_410) (nn - 1) c_412) 1 cs h867 n0 O874 F879 r867_2 r867_3 r867_4 (own_fr F880) (by omega) ((own_cp3 (by omega)).trans (by rw [if_neg (fun q => hsu646 q.2), if_pos ⟨hsu823, hsu826⟩])) h512 S_AD S_HI S_LO S_CS hcs) e867 (g := (mkF m 178 #[.val (.int p0), .val (.int p1), .val (.int p2), .val (.int p3), .val (.int p4), .val (.int nn.toInt32), .val (.int c_406), .val (.int c_408), .val (.int c_410), .val (.int c_412), .val (.ref b414), .val (.int (1 : Int32)), .val (.int (1 : Int32))] [(.ref b856)])) rfl (by rw [hml]; rfl) (argsL := [(.ref b856)]) (rest := []) rfl (lenOf pd__Ljava_lang_String__Z rfl) rfl (W := 0) (by show 2 * 0 + _ ≤ _; exact Nat.le_of_eq rfl) (hb hby at_178) (by decide) (by decide) (by decide) (by decide)
              have N882 := Fr.app N869 N881q
              have e881 := e881.trans r881_0
              refine WinW.to T881 (mkF m 181 #[.val (.int p0), .val (.int p1), .val (.int p2), .val (.int p3), .val (.int p4), .val (.int nn.toInt32), .val (.int c_406), .val (.int c_408), .val (.int c_410), .val (.int c_412), .val (.ref b414), .val (.int (1 : Int32)), .val (.int (1 : Int32))] [(.int (1 : Int32))]) (fun _ k => st881 _ k) ?_
              refine WinW.to T881 (mkF m 183 #[.val (.int p0), .val (.int p1), .val (.int p2), .val (.int p3), .val (.int p4), .val (.int nn.toInt32), .val (.int c_406), .val (.int c_408), .val (.int c_410), .val (.int c_412), .val (.ref b414), .val (.int (1 : Int32)), .val (.int (1 : Int32))] [(.int (1 : Int32)), (.int (1 : Int32))]) (fun _ k => XS.iload X881.here hx rfl (hb hby at_181) rfl k) ?_
              refine WinW.to T881 (mkF m 186 #[.val (.int p0), .val (.int p1), .val (.int p2), .val (.int p3), .val (.int p4), .val (.int nn.toInt32), .val (.int c_406), .val (.int c_408), .val (.int c_410), .val (.int c_412), .val (.ref b414), .val (.int (1 : Int32)), .val (.int (1 : Int32))] []) (fun _ k => XS.icmpNo X881.here hx rfl (hb hby at_183) rfl (teq (show (1 : Int32) = (1 : Int32) from by decide)).2 k) ?_
              refine WinW.to T881 (mkF m 187 #[.val (.int p0), .val (.int p1), .val (.int p2), .val (.int p3), .val (.int p4), .val (.int nn.toInt32), .val (.int c_406), .val (.int c_408), .val (.int c_410), .val (.int c_412), .val (.ref b414), .val (.int (1 : Int32)), .val (.int (1 : Int32))] [(.int (1 : Int32))]) (fun _ k => XS.iconst X881.here hx rfl (hb hby at_186) k) ?_
              refine WinW.to T881 (mkF m 191 #[.val (.int p0), .val (.int p1), .val (.int p2), .val (.int p3), .val (.int p4), .val (.int nn.toInt32), .val (.int c_406), .val (.int c_408), .val (.int c_410), .val (.int c_412), .val (.ref b414), .val (.int (1 : Int32)), .val (.int (1 : Int32))] [(.int (1 : Int32))]) (fun _ k => XS.goto X881.here hx rfl (pc0 := 187) (pc' := 191) rfl (hb hby at_187) (by decide) (by decide) k) ?_
              exact WinW.retN X881 hS0 (by rw [e881]; exact (Nat.zero_le _)) hx hlk (t := .boolean) hret (by simp) rfl (hb hby at_191) hZ (own_EW hw) (by rw [e881]; exact C877) (by decide) (by decide) (by (try rw [e881]); exact ⟨rfl, N882, trivial⟩)
          · obtain ⟨T883, h883, v883, L883, X883, e883, ⟨rfl, N883q, r883_0⟩, st883⟩ := N.static X824 hx hZ (y := (⟨"com/example/usher/usher/lifecycle/ExecutionKeyFitsPinLaw", "isLow", "(C)Z"⟩ : MethodName)) hown (wk hw 115 rfl) (wk hw 116 rfl) (wk hw 2 rfl) (wk hw 117 rfl) (by decide) (ll0 l Z a0 hw c_412 h636 n0 O637 hsu826) e824 (g := (mkF m 133 #[.val (.int p0), .val (.int p1), .val (.int p2), .val (.int p3), .val (.int p4), .val (.int nn.toInt32), .val (.int c_406), .val (.int c_408), .val (.int c_410), .val (.int c_412), .val (.ref b414), .val (.int (0 : Int32)), .unset] [(.int c_412)])) rfl (by rw [hml]; rfl) (argsL := [(.int c_412)]) (rest := []) rfl (lenOf pd__C_Z rfl) rfl (W := 0) (by show 2 * 0 + _ ≤ _; exact Nat.le_of_eq rfl) (hb hby at_133) (by decide) (by decide) (by decide) (by decide)
            have N884 := Fr.app N825 N883q
            have e883 := e883.trans r883_0
            refine WinW.to T883 (mkF m 136 #[.val (.int p0), .val (.int p1), .val (.int p2), .val (.int p3), .val (.int p4), .val (.int nn.toInt32), .val (.int c_406), .val (.int c_408), .val (.int c_410), .val (.int c_412), .val (.ref b414), .val (.int (0 : Int32)), .unset] [(.int (0 : Int32))]) (fun _ k => st883 _ k) ?_
            refine WinW.to T883 (mkF m 145 #[.val (.int p0), .val (.int p1), .val (.int p2), .val (.int p3), .val (.int p4), .val (.int nn.toInt32), .val (.int c_406), .val (.int c_408), .val (.int c_410), .val (.int c_412), .val (.ref b414), .val (.int (0 : Int32)), .unset] []) (fun _ k => XS.ifYes X883.here hx rfl (pc0 := 136) (pc' := 145) rfl (hb hby at_136) rfl ((if0 _ _).trans (teq (show (0 : Int32) = (0 : Int32) from by decide)).1) (by decide) (by decide) k) ?_
            refine WinW.to T883 (mkF m 147 #[.val (.int p0), .val (.int p1), .val (.int p2), .val (.int p3), .val (.int p4), .val (.int nn.toInt32), .val (.int c_406), .val (.int c_408), .val (.int c_410), .val (.int c_412), .val (.ref b414), .val (.int (0 : Int32)), .unset] [(.int nn.toInt32)]) (fun _ k => XS.iload X883.here hx rfl (hb hby at_145) rfl k) ?_
            refine WinW.to T883 (mkF m 148 #[.val (.int p0), .val (.int p1), .val (.int p2), .val (.int p3), .val (.int p4), .val (.int nn.toInt32), .val (.int c_406), .val (.int c_408), .val (.int c_410), .val (.int c_412), .val (.ref b414), .val (.int (0 : Int32)), .unset] [(.int (1 : Int32)), (.int nn.toInt32)]) (fun _ k => XS.iconst X883.here hx rfl (hb hby at_147) k) ?_
            refine WinW.to T883 (mkF m 151 #[.val (.int p0), .val (.int p1), .val (.int p2), .val (.int p3), .val (.int p4), .val (.int nn.toInt32), .val (.int c_406), .val (.int c_408), .val (.int c_410), .val (.int c_412), .val (.ref b414), .val (.int (0 : Int32)), .unset] []) (fun _ k => XS.icmpNo X883.here hx rfl (hb hby at_148) rfl (flt (show ¬ (nn.toInt32 < (1 : Int32)) from (fun q => absurd ((own_lt (n := 1) hbn (by decide)).mp q) (by omega)))).1 k) ?_
            refine WinW.to T883 (mkF m 153 #[.val (.int p0), .val (.int p1), .val (.int p2), .val (.int p3), .val (.int p4), .val (.int nn.toInt32), .val (.int c_406), .val (.int c_408), .val (.int c_410), .val (.int c_412), .val (.ref b414), .val (.int (0 : Int32)), .unset] [(.int nn.toInt32)]) (fun _ k => XS.iload X883.here hx rfl (hb hby at_151) rfl k) ?_
            refine WinW.to T883 (mkF m 155 #[.val (.int p0), .val (.int p1), .val (.int p2), .val (.int p3), .val (.int p4), .val (.int nn.toInt32), .val (.int c_406), .val (.int c_408), .val (.int c_410), .val (.int c_412), .val (.ref b414), .val (.int (0 : Int32)), .unset] [(.int (0 : Int32)), (.int nn.toInt32)]) (fun _ k => XS.iload X883.here hx rfl (hb hby at_153) rfl k) ?_
            refine WinW.to T883 (mkF m 156 #[.val (.int p0), .val (.int p1), .val (.int p2), .val (.int p3), .val (.int p4), .val (.int nn.toInt32), .val (.int c_406), .val (.int c_408), .val (.int c_410), .val (.int c_412), .val (.ref b414), .val (.int (0 : Int32)), .unset] [(.int nn.toInt32)]) (fun _ k => XS.isub X883.here hx rfl (hb hby at_155) rfl (by rw [show (nn.toInt32 - (0 : Int32)) = nn.toInt32 from Int32.sub_zero _]; exact k)) ?_
            refine WinW.to T883 (mkF m 159 #[.val (.int p0), .val (.int p1), .val (.int p2), .val (.int p3), .val (.int p4), .val (.int nn.toInt32), .val (.int c_406), .val (.int c_408), .val (.int c_410), .val (.int c_412), .val (.ref b414), .val (.int (0 : Int32)), .unset] [(.int (512 : Int32)), (.int nn.toInt32)]) (fun _ k => XS.sipush X883.here hx rfl (hb hby at_156) k) ?_
            by_cases h512 : 512 < nn
            · refine WinW.to T883 (mkF m 166 #[.val (.int p0), .val (.int p1), .val (.int p2), .val (.int p3), .val (.int p4), .val (.int nn.toInt32), .val (.int c_406), .val (.int c_408), .val (.int c_410), .val (.int c_412), .val (.ref b414), .val (.int (0 : Int32)), .unset] []) (fun _ k => XS.icmpYes X883.here hx rfl (pc0 := 159) (pc' := 166) rfl (hb hby at_159) rfl (tlt (show (512 : Int32) < nn.toInt32 from ((own_lt (j := 512) (by decide) (by omega)).mpr h512))).2.2.1 (by decide) (by decide) k) ?_
              refine WinW.to T883 (mkF m 167 #[.val (.int p0), .val (.int p1), .val (.int p2), .val (.int p3), .val (.int p4), .val (.int nn.toInt32), .val (.int c_406), .val (.int c_408), .val (.int c_410), .val (.int c_412), .val (.ref b414), .val (.int (0 : Int32)), .unset] [(.int (0 : Int32))]) (fun _ k => XS.iconst X883.here hx rfl (hb hby at_166) k) ?_
              refine WinW.to T883 (mkF m 169 #[.val (.int p0), .val (.int p1), .val (.int p2), .val (.int p3), .val (.int p4), .val (.int nn.toInt32), .val (.int c_406), .val (.int c_408), .val (.int c_410), .val (.int c_412), .val (.ref b414), .val (.int (0 : Int32)), .val (.int (0 : Int32))] []) (fun _ k => XS.istore X883.here hx rfl (hb hby at_167) rfl (l' := #[.val (.int p0), .val (.int p1), .val (.int p2), .val (.int p3), .val (.int p4), .val (.int nn.toInt32), .val (.int c_406), .val (.int c_408), .val (.int c_410), .val (.int c_412), .val (.ref b414), .val (.int (0 : Int32)), .val (.int (0 : Int32))]) rfl k) ?_
              obtain ⟨T885, h885, X885, e885, E885, A885, D885, -, st885⟩ := newO X883 hx hZ hown (wk hw 6 rfl) (wk hw 7 rfl) (wk hw 8 rfl) e883 (g := (mkF m 169 #[.val (.int p0), .val (.int p1), .val (.int p2), .val (.int p3), .val (.int p4), .val (.int nn.toInt32), .val (.int c_406), .val (.int c_408), .val (.int c_410), .val (.int c_412), .val (.ref b414), .val (.int (0 : Int32)), .val (.int (0 : Int32))] [])) rfl (hb hby at_169) (by decide) (by decide)
              obtain ⟨b885, g885⟩ : ∃ z, z = h636.size := ⟨_, rfl⟩
              rw [← g885] at A885 D885 st885
              have ne886 : b414 ≠ b885 := Nat.ne_of_lt (Nat.lt_of_lt_of_le F642.lt (Nat.le_of_eq g885.symm))
              have g887 : n0 ≤ b885 := Nat.le_trans (own_le O637) (Nat.le_of_eq g885.symm)
              have z888 : h0.size ≤ b885 := Nat.le_trans K638.1 (Nat.le_of_eq g885.symm)
              have O889 := Old.ext O637 E885
              have K890 : Keep h0 h885 [] := K638.ext E885
              have c891 := CHr.ext E885 C641.1
              have C892 := CHr.trans C641 c891
              have F893 : Fld Z h885 b885 "java/lang/String" "value" "[B" .null := D885 (Or.inr (wk hw 21 rfl)) (ty := (.array .byte)) (by decide)
              have F894 : Fld Z h885 b885 "java/lang/String" "coder" "B" (.int (0 : Int32)) := D885 (Or.inr (wk hw 22 rfl)) (ty := .byte) (by decide)
              refine WinW.to T885 (mkF m 172 #[.val (.int p0), .val (.int p1), .val (.int p2), .val (.int p3), .val (.int p4), .val (.int nn.toInt32), .val (.int c_406), .val (.int c_408), .val (.int c_410), .val (.int c_412), .val (.ref b414), .val (.int (0 : Int32)), .val (.int (0 : Int32))] [(.ref b885)]) (fun _ k => st885 _ k) ?_
              refine WinW.to T885 (mkF m 173 #[.val (.int p0), .val (.int p1), .val (.int p2), .val (.int p3), .val (.int p4), .val (.int nn.toInt32), .val (.int c_406), .val (.int c_408), .val (.int c_410), .val (.int c_412), .val (.ref b414), .val (.int (0 : Int32)), .val (.int (0 : Int32))] [(.ref b885), (.ref b885)]) (fun _ k => XS.dup X885.here hx rfl (hb hby at_172) rfl rfl k) ?_
              refine WinW.to T885 (mkF m 175 #[.val (.int p0), .val (.int p1), .val (.int p2), .val (.int p3), .val (.int p4), .val (.int nn.toInt32), .val (.int c_406), .val (.int c_408), .val (.int c_410), .val (.int c_412), .val (.ref b414), .val (.int (0 : Int32)), .val (.int (0 : Int32))] [(.ref b414), (.ref b885), (.ref b885)]) (fun _ k => XS.aload X885.here hx rfl (hb hby at_173) rfl rfl k) ?_
              have F895 : ArF Z h885 b414 k414 .char nn (upd (upd (upd (upd (fun _ => 0) 0 c_406) 1 c_408) (nn - 2) c_410) (nn - 1) c_412) := (F642.ext E885)
              by_cases hl : ∀ i, i < nn → ¬ (255 : Int32) < ((upd (upd (upd (upd (fun _ => 0) 0 c_406) 1 c_408) (nn - 2) c_410) (nn - 1) c_412) : Nat → Int32) i
              · obtain ⟨T896, h896, v896, L896, k896, X896, e896, hS896, hk896, hZ896, hown896, ⟨t_896, kb_896, rfl, N896q, r896_0, r896_1, r896_2, r896_3⟩, c896, st896⟩ := W.special X885 hS0 (Nat.zero_le _) hx hZ (y := (⟨"java/lang/String", "<init>", "([C)V"⟩ : MethodName)) rfl hown (wk hw 9 rfl) (wk hw 10 rfl) (wk hw 8 rfl) (wk hw 11 rfl) (by decide) (ctor1 l Z a0 hw b885 b414 k414 nn (upd (upd (upd (upd (fun _ => 0) 0 c_406) 1 c_408) (nn - 2) c_410) (nn - 1) c_412) cs h885 n0 O889 A885 F893 F894 F895 hl hle g887 S_CS hcs) (own_EW hw) C892.1 e885 (g := (mkF m 175 #[.val (.int p0), .val (.int p1), .val (.int p2), .val (.int p3), .val (.int p4), .val (.int nn.toInt32), .val (.int c_406), .val (.int c_408), .val (.int c_410), .val (.int c_412), .val (.ref b414), .val (.int (0 : Int32)), .val (.int (0 : Int32))] [(.ref b414), (.ref b885), (.ref b885)])) rfl (by rw [hml]; rfl) (a := b885) (argsL := [(.ref b414)]) (rest := [(.ref b885)]) rfl (lenOf pd___C_V rfl) rfl (W := 1) (by show 2 * 0 + _ ≤ _; exact Nat.le_of_eq rfl) (hb hby at_175) (by decide) (by decide) (by decide) (by decide)
                have N897 := Fr.app N884 N896q
                have O898 := Old.keep O889 r896_0 (allS g887 all0)
                have K899 : Keep h0 h896 [] := Keep.trans K890 r896_0 (allS (Or.inr z888) all0)
                have c900 := c896
                have C901 := CHr.trans C892 c900
                refine WinW.to T896 (mkF m 178 #[.val (.int p0), .val (.int p1), .val (.int p2), .val (.int p3), .val (.int p4), .val (.int nn.toInt32), .val (.int c_406), .val (.int c_408), .val (.int c_410), .val (.int c_412), .val (.ref b414), .val (.int (0 : Int32)), .val (.int (0 : Int32))] [(.ref b885)]) (fun _ k => st896 _ k) ?_
                have F902 : Exa Z h896 b885 "java/lang/String" := (A885.keep r896_0)
                obtain ⟨T903, h903, v903, L903, X903, e903, ⟨rfl, N903q, r903_0⟩, st903⟩ := N.static X896 hx hZ896 (y := (⟨"com/example/usher/usher/lifecycle/ExecutionKey", "fits", "(Ljava/lang/String;)Z"⟩ : MethodName)) hown896 (wk hw 27 rfl) (wk hw 28 rfl) (wk hw 29 rfl) (wk hw 30 rfl) (by decide) (fitL0 l Z a0 hw b885 t_896 kb_896 nn (fun i => ((upd (upd (upd (upd (fun _ => 0) 0 c_406) 1 c_408) (nn - 2) c_410) (nn - 1) c_412) i).toInt8.toInt32) cs h896 n0 O898 F902 r896_1 r896_2 r896_3 (by omega) h512 S_CS hcs) e896 (g := (mkF m 178 #[.val (.int p0), .val (.int p1), .val (.int p2), .val (.int p3), .val (.int p4), .val (.int nn.toInt32), .val (.int c_406), .val (.int c_408), .val (.int c_410), .val (.int c_412), .val (.ref b414), .val (.int (0 : Int32)), .val (.int (0 : Int32))] [(.ref b885)])) rfl (by rw [hml]; rfl) (argsL := [(.ref b885)]) (rest := []) rfl (lenOf pd__Ljava_lang_String__Z rfl) rfl (W := 0) (by show 2 * 0 + _ ≤ _; exact Nat.le_of_eq rfl) (hb hby at_178) (by decide) (by decide) (by decide) (by decide)
                have N904 := Fr.app N897 N903q
                have e903 := e903.trans r903_0
                refine WinW.to T903 (mkF m 181 #[.val (.int p0), .val (.int p1), .val (.int p2), .val (.int p3), .val (.int p4), .val (.int nn.toInt32), .val (.int c_406), .val (.int c_408), .val (.int c_410), .val (.int c_412), .val (.ref b414), .val (.int (0 : Int32)), .val (.int (0 : Int32))] [(.int (0 : Int32))]) (fun _ k => st903 _ k) ?_
                refine WinW.to T903 (mkF m 183 #[.val (.int p0), .val (.int p1), .val (.int p2), .val (.int p3), .val (.int p4), .val (.int nn.toInt32), .val (.int c_406), .val (.int c_408), .val (.int c_410), .val (.int c_412), .val (.ref b414), .val (.int (0 : Int32)), .val (.int (0 : Int32))] [(.int (0 : Int32)), (.int (0 : Int32))]) (fun _ k => XS.iload X903.here hx rfl (hb hby at_181) rfl k) ?_
                refine WinW.to T903 (mkF m 186 #[.val (.int p0), .val (.int p1), .val (.int p2), .val (.int p3), .val (.int p4), .val (.int nn.toInt32), .val (.int c_406), .val (.int c_408), .val (.int c_410), .val (.int c_412), .val (.ref b414), .val (.int (0 : Int32)), .val (.int (0 : Int32))] []) (fun _ k => XS.icmpNo X903.here hx rfl (hb hby at_183) rfl (teq (show (0 : Int32) = (0 : Int32) from by decide)).2 k) ?_
                refine WinW.to T903 (mkF m 187 #[.val (.int p0), .val (.int p1), .val (.int p2), .val (.int p3), .val (.int p4), .val (.int nn.toInt32), .val (.int c_406), .val (.int c_408), .val (.int c_410), .val (.int c_412), .val (.ref b414), .val (.int (0 : Int32)), .val (.int (0 : Int32))] [(.int (1 : Int32))]) (fun _ k => XS.iconst X903.here hx rfl (hb hby at_186) k) ?_
                refine WinW.to T903 (mkF m 191 #[.val (.int p0), .val (.int p1), .val (.int p2), .val (.int p3), .val (.int p4), .val (.int nn.toInt32), .val (.int c_406), .val (.int c_408), .val (.int c_410), .val (.int c_412), .val (.ref b414), .val (.int (0 : Int32)), .val (.int (0 : Int32))] [(.int (1 : Int32))]) (fun _ k => XS.goto X903.here hx rfl (pc0 := 187) (pc' := 191) rfl (hb hby at_187) (by decide) (by decide) k) ?_
                exact WinW.retN X903 hS896 (by rw [e903]; exact hk896) hx hlk (t := .boolean) hret (by simp) rfl (hb hby at_191) hZ896 (own_EW hw) (by rw [e903]; exact C901) (by decide) (by decide) (by (try rw [e903]); exact ⟨rfl, N904, trivial⟩)
              · have S906 : Safe Z EL1 (s.setVm s.vm).vm h885 b885 := own_safe hZ.alike A885 F893 (wk hw 7 rfl)
                obtain ⟨T905, h905, v905, L905, X905, e905, ⟨t_905, kb_905, rfl, N905q, r905_0, r905_1, r905_2, r905_3, r905_4⟩, st905⟩ := N.special X885 hx hZ (y := (⟨"java/lang/String", "<init>", "([C)V"⟩ : MethodName)) rfl hown (wk hw 9 rfl) (wk hw 10 rfl) (wk hw 8 rfl) (wk hw 11 rfl) (by decide) (ctor1u l Z a0 hw b885 b414 k414 nn (upd (upd (upd (upd (fun _ => 0) 0 c_406) 1 c_408) (nn - 2) c_410) (nn - 1) c_412) cs h885 n0 O889 A885 F893 F894 F895 hle (Classical.byContradiction fun q => hl fun i hi hp => q ⟨i, hi, hp⟩) g887 S_AD S_HI S_LO S_CS hcs) e885 (g := (mkF m 175 #[.val (.int p0), .val (.int p1), .val (.int p2), .val (.int p3), .val (.int p4), .val (.int nn.toInt32), .val (.int c_406), .val (.int c_408), .val (.int c_410), .val (.int c_412), .val (.ref b414), .val (.int (0 : Int32)), .val (.int (0 : Int32))] [(.ref b414), (.ref b885), (.ref b885)])) rfl (by rw [hml]; rfl) (a := b885) (argsL := [(.ref b414)]) (rest := [(.ref b885)]) rfl (lenOf pd___C_V rfl) rfl (W := 1) (by show 2 * 0 + _ ≤ _; exact Nat.le_of_eq rfl) (hb hby at_175) (by decide) (by decide) (by decide) (by decide)
                have N907 := Fr.app N884 N905q
                have ne908 : b414 ≠ t_905 := Nat.ne_of_lt (Nat.lt_of_lt_of_le F895.lt r905_1)
                have ne909 : b885 ≠ t_905 := Nat.ne_of_lt (Nat.lt_of_lt_of_le A885.lt r905_1)
                have g910 : n0 ≤ t_905 := Nat.le_trans (own_le O889) r905_1
                have z911 : h0.size ≤ t_905 := Nat.le_trans K890.1 r905_1
                have O912 := Old.keep O889 r905_0 (allS g887 all0)
                have K913 : Keep h0 h905 [] := Keep.trans K890 r905_0 (allS (Or.inr z888) all0)
                have c914 := CHr.keep r905_0 (sfS S906 sf0) C892.1
                have C915 := CHr.trans C892 c914
                have S916 := CHr.safe c914 A885.lt S906
                refine WinW.to T905 (mkF m 178 #[.val (.int p0), .val (.int p1), .val (.int p2), .val (.int p3), .val (.int p4), .val (.int nn.toInt32), .val (.int c_406), .val (.int c_408), .val (.int c_410), .val (.int c_412), .val (.ref b414), .val (.int (0 : Int32)), .val (.int (0 : Int32))] [(.ref b885)]) (fun _ k => st905 _ k) ?_
                have F917 : Exa Z h905 b885 "java/lang/String" := (A885.keep r905_0)
                have F918 : ArF Z h905 b414 k414 .char nn (upd (upd (upd (upd (fun _ => 0) 0 c_406) 1 c_408) (nn - 2) c_410) (nn - 1) c_412) := (F895.keep r905_0 (ninS ne886 nin0))
                obtain ⟨T919, h919, v919, L919, X919, e919, ⟨rfl, N919q, r919_0⟩, st919⟩ := N.static X905 hx hZ (y := (⟨"com/example/usher/usher/lifecycle/ExecutionKey", "fits", "(Ljava/lang/String;)Z"⟩ : MethodName)) hown (wk hw 27 rfl) (wk hw 28 rfl) (wk hw 29 rfl) (wk hw 30 rfl) (by decide) (fitU0 l Z a0 hw b885 t_905 kb_905 nn (upd (upd (upd (upd (fun _ => 0) 0 c_406) 1 c_408) (nn - 2) c_410) (nn - 1) c_412) 0 cs h905 n0 O912 F917 r905_2 r905_3 r905_4 (own_fr F918) (by omega) ((own_cp3 (by omega)).trans (by rw [if_neg (fun q => hsu646 q.2), if_neg (fun q => hsu826 q.2)])) h512 S_AD S_HI S_LO S_CS hcs) e905 (g := (mkF m 178 #[.val (.int p0), .val (.int p1), .val (.int p2), .val (.int p3), .val (.int p4), .val (.int nn.toInt32), .val (.int c_406), .val (.int c_408), .val (.int c_410), .val (.int c_412), .val (.ref b414), .val (.int (0 : Int32)), .val (.int (0 : Int32))] [(.ref b885)])) rfl (by rw [hml]; rfl) (argsL := [(.ref b885)]) (rest := []) rfl (lenOf pd__Ljava_lang_String__Z rfl) rfl (W := 0) (by show 2 * 0 + _ ≤ _; exact Nat.le_of_eq rfl) (hb hby at_178) (by decide) (by decide) (by decide) (by decide)
                have N920 := Fr.app N907 N919q
                have e919 := e919.trans r919_0
                refine WinW.to T919 (mkF m 181 #[.val (.int p0), .val (.int p1), .val (.int p2), .val (.int p3), .val (.int p4), .val (.int nn.toInt32), .val (.int c_406), .val (.int c_408), .val (.int c_410), .val (.int c_412), .val (.ref b414), .val (.int (0 : Int32)), .val (.int (0 : Int32))] [(.int (0 : Int32))]) (fun _ k => st919 _ k) ?_
                refine WinW.to T919 (mkF m 183 #[.val (.int p0), .val (.int p1), .val (.int p2), .val (.int p3), .val (.int p4), .val (.int nn.toInt32), .val (.int c_406), .val (.int c_408), .val (.int c_410), .val (.int c_412), .val (.ref b414), .val (.int (0 : Int32)), .val (.int (0 : Int32))] [(.int (0 : Int32)), (.int (0 : Int32))]) (fun _ k => XS.iload X919.here hx rfl (hb hby at_181) rfl k) ?_
                refine WinW.to T919 (mkF m 186 #[.val (.int p0), .val (.int p1), .val (.int p2), .val (.int p3), .val (.int p4), .val (.int nn.toInt32), .val (.int c_406), .val (.int c_408), .val (.int c_410), .val (.int c_412), .val (.ref b414), .val (.int (0 : Int32)), .val (.int (0 : Int32))] []) (fun _ k => XS.icmpNo X919.here hx rfl (hb hby at_183) rfl (teq (show (0 : Int32) = (0 : Int32) from by decide)).2 k) ?_
                refine WinW.to T919 (mkF m 187 #[.val (.int p0), .val (.int p1), .val (.int p2), .val (.int p3), .val (.int p4), .val (.int nn.toInt32), .val (.int c_406), .val (.int c_408), .val (.int c_410), .val (.int c_412), .val (.ref b414), .val (.int (0 : Int32)), .val (.int (0 : Int32))] [(.int (1 : Int32))]) (fun _ k => XS.iconst X919.here hx rfl (hb hby at_186) k) ?_
                refine WinW.to T919 (mkF m 191 #[.val (.int p0), .val (.int p1), .val (.int p2), .val (.int p3), .val (.int p4), .val (.int nn.toInt32), .val (.int c_406), .val (.int c_408), .val (.int c_410), .val (.int c_412), .val (.ref b414), .val (.int (0 : Int32)), .val (.int (0 : Int32))] [(.int (1 : Int32))]) (fun _ k => XS.goto X919.here hx rfl (pc0 := 187) (pc' := 191) rfl (hb hby at_187) (by decide) (by decide) k) ?_
                exact WinW.retN X919 hS0 (by rw [e919]; exact (Nat.zero_le _)) hx hlk (t := .boolean) hret (by simp) rfl (hb hby at_191) hZ (own_EW hw) (by rw [e919]; exact C915) (by decide) (by decide) (by (try rw [e919]); exact ⟨rfl, N920, trivial⟩)
            · refine WinW.to T883 (mkF m 162 #[.val (.int p0), .val (.int p1), .val (.int p2), .val (.int p3), .val (.int p4), .val (.int nn.toInt32), .val (.int c_406), .val (.int c_408), .val (.int c_410), .val (.int c_412), .val (.ref b414), .val (.int (0 : Int32)), .unset] []) (fun _ k => XS.icmpNo X883.here hx rfl (hb hby at_159) rfl (flt (show ¬ ((512 : Int32) < nn.toInt32) from (fun q => h512 ((own_lt (j := 512) (by decide) (by omega)).mp q)))).2.2.1 k) ?_
              refine WinW.to T883 (mkF m 163 #[.val (.int p0), .val (.int p1), .val (.int p2), .val (.int p3), .val (.int p4), .val (.int nn.toInt32), .val (.int c_406), .val (.int c_408), .val (.int c_410), .val (.int c_412), .val (.ref b414), .val (.int (0 : Int32)), .unset] [(.int (1 : Int32))]) (fun _ k => XS.iconst X883.here hx rfl (hb hby at_162) k) ?_
              refine WinW.to T883 (mkF m 167 #[.val (.int p0), .val (.int p1), .val (.int p2), .val (.int p3), .val (.int p4), .val (.int nn.toInt32), .val (.int c_406), .val (.int c_408), .val (.int c_410), .val (.int c_412), .val (.ref b414), .val (.int (0 : Int32)), .unset] [(.int (1 : Int32))]) (fun _ k => XS.goto X883.here hx rfl (pc0 := 163) (pc' := 167) rfl (hb hby at_163) (by decide) (by decide) k) ?_
              refine WinW.to T883 (mkF m 169 #[.val (.int p0), .val (.int p1), .val (.int p2), .val (.int p3), .val (.int p4), .val (.int nn.toInt32), .val (.int c_406), .val (.int c_408), .val (.int c_410), .val (.int c_412), .val (.ref b414), .val (.int (0 : Int32)), .val (.int (1 : Int32))] []) (fun _ k => XS.istore X883.here hx rfl (hb hby at_167) rfl (l' := #[.val (.int p0), .val (.int p1), .val (.int p2), .val (.int p3), .val (.int p4), .val (.int nn.toInt32), .val (.int c_406), .val (.int c_408), .val (.int c_410), .val (.int c_412), .val (.ref b414), .val (.int (0 : Int32)), .val (.int (1 : Int32))]) rfl k) ?_
              obtain ⟨T921, h921, X921, e921, E921, A921, D921, -, st921⟩ := newO X883 hx hZ hown (wk hw 6 rfl) (wk hw 7 rfl) (wk hw 8 rfl) e883 (g := (mkF m 169 #[.val (.int p0), .val (.int p1), .val (.int p2), .val (.int p3), .val (.int p4), .val (.int nn.toInt32), .val (.int c_406), .val (.int c_408), .val (.int c_410), .val (.int c_412), .val (.ref b414), .val (.int (0 : Int32)), .val (.int (1 : Int32))] [])) rfl (hb hby at_169) (by decide) (by decide)
              obtain ⟨b921, g921⟩ : ∃ z, z = h636.size := ⟨_, rfl⟩
              rw [← g921] at A921 D921 st921
              have ne922 : b414 ≠ b921 := Nat.ne_of_lt (Nat.lt_of_lt_of_le F642.lt (Nat.le_of_eq g921.symm))
              have g923 : n0 ≤ b921 := Nat.le_trans (own_le O637) (Nat.le_of_eq g921.symm)
              have z924 : h0.size ≤ b921 := Nat.le_trans K638.1 (Nat.le_of_eq g921.symm)
              have O925 := Old.ext O637 E921
              have K926 : Keep h0 h921 [] := K638.ext E921
              have c927 := CHr.ext E921 C641.1
              have C928 := CHr.trans C641 c927
              have F929 : Fld Z h921 b921 "java/lang/String" "value" "[B" .null := D921 (Or.inr (wk hw 21 rfl)) (ty := (.array .byte)) (by decide)
              have F930 : Fld Z h921 b921 "java/lang/String" "coder" "B" (.int (0 : Int32)) := D921 (Or.inr (wk hw 22 rfl)) (ty := .byte) (by decide)
              refine WinW.to T921 (mkF m 172 #[.val (.int p0), .val (.int p1), .val (.int p2), .val (.int p3), .val (.int p4), .val (.int nn.toInt32), .val (.int c_406), .val (.int c_408), .val (.int c_410), .val (.int c_412), .val (.ref b414), .val (.int (0 : Int32)), .val (.int (1 : Int32))] [(.ref b921)]) (fun _ k => st921 _ k) ?_
              refine WinW.to T921 (mkF m 173 #[.val (.int p0), .val (.int p1), .val (.int p2), .val (.int p3), .val (.int p4), .val (.int nn.toInt32), .val (.int c_406), .val (.int c_408), .val (.int c_410), .val (.int c_412), .val (.ref b414), .val (.int (0 : Int32)), .val (.int (1 : Int32))] [(.ref b921), (.ref b921)]) (fun _ k => XS.dup X921.here hx rfl (hb hby at_172) rfl rfl k) ?_
              refine WinW.to T921 (mkF m 175 #[.val (.int p0), .val (.int p1), .val (.int p2), .val (.int p3), .val (.int p4), .val (.int nn.toInt32), .val (.int c_406), .val (.int c_408), .val (.int c_410), .val (.int c_412), .val (.ref b414), .val (.int (0 : Int32)), .val (.int (1 : Int32))] [(.ref b414), (.ref b921), (.ref b921)]) (fun _ k => XS.aload X921.here hx rfl (hb hby at_173) rfl rfl k) ?_
              have F931 : ArF Z h921 b414 k414 .char nn (upd (upd (upd (upd (fun _ => 0) 0 c_406) 1 c_408) (nn - 2) c_410) (nn - 1) c_412) := (F642.ext E921)
              by_cases hl : ∀ i, i < nn → ¬ (255 : Int32) < ((upd (upd (upd (upd (fun _ => 0) 0 c_406) 1 c_408) (nn - 2) c_410) (nn - 1) c_412) : Nat → Int32) i
              · obtain ⟨T932, h932, v932, L932, k932, X932, e932, hS932, hk932, hZ932, hown932, ⟨t_932, kb_932, rfl, N932q, r932_0, r932_1, r932_2, r932_3⟩, c932, st932⟩ := W.special X921 hS0 (Nat.zero_le _) hx hZ (y := (⟨"java/lang/String", "<init>", "([C)V"⟩ : MethodName)) rfl hown (wk hw 9 rfl) (wk hw 10 rfl) (wk hw 8 rfl) (wk hw 11 rfl) (by decide) (ctor1 l Z a0 hw b921 b414 k414 nn (upd (upd (upd (upd (fun _ => 0) 0 c_406) 1 c_408) (nn - 2) c_410) (nn - 1) c_412) cs h921 n0 O925 A921 F929 F930 F931 hl hle g923 S_CS hcs) (own_EW hw) C928.1 e921 (g := (mkF m 175 #[.val (.int p0), .val (.int p1), .val (.int p2), .val (.int p3), .val (.int p4), .val (.int nn.toInt32), .val (.int c_406), .val (.int c_408), .val (.int c_410), .val (.int c_412), .val (.ref b414), .val (.int (0 : Int32)), .val (.int (1 : Int32))] [(.ref b414), (.ref b921), (.ref b921)])) rfl (by rw [hml]; rfl) (a := b921) (argsL := [(.ref b414)]) (rest := [(.ref b921)]) rfl (lenOf pd___C_V rfl) rfl (W := 1) (by show 2 * 0 + _ ≤ _; exact Nat.le_of_eq rfl) (hb hby at_175) (by decide) (by decide) (by decide) (by decide)
                have N933 := Fr.app N884 N932q
                have O934 := Old.keep O925 r932_0 (allS g923 all0)
                have K935 : Keep h0 h932 [] := Keep.trans K926 r932_0 (allS (Or.inr z924) all0)
                have c936 := c932
                have C937 := CHr.trans C928 c936
                refine WinW.to T932 (mkF m 178 #[.val (.int p0), .val (.int p1), .val (.int p2), .val (.int p3), .val (.int p4), .val (.int nn.toInt32), .val (.int c_406), .val (.int c_408), .val (.int c_410), .val (.int c_412), .val (.ref b414), .val (.int (0 : Int32)), .val (.int (1 : Int32))] [(.ref b921)]) (fun _ k => st932 _ k) ?_
                have F938 : Exa Z h932 b921 "java/lang/String" := (A921.keep r932_0)
                obtain ⟨T939, h939, v939, L939, X939, e939, ⟨rfl, N939q, r939_0⟩, st939⟩ := N.static X932 hx hZ932 (y := (⟨"com/example/usher/usher/lifecycle/ExecutionKey", "fits", "(Ljava/lang/String;)Z"⟩ : MethodName)) hown932 (wk hw 27 rfl) (wk hw 28 rfl) (wk hw 29 rfl) (wk hw 30 rfl) (by decide) (fitL1 l Z a0 hw b921 t_932 kb_932 nn (fun i => ((upd (upd (upd (upd (fun _ => 0) 0 c_406) 1 c_408) (nn - 2) c_410) (nn - 1) c_412) i).toInt8.toInt32) cs h932 n0 O934 F938 r932_1 r932_2 r932_3 (by omega) h512 S_CS hcs) e932 (g := (mkF m 178 #[.val (.int p0), .val (.int p1), .val (.int p2), .val (.int p3), .val (.int p4), .val (.int nn.toInt32), .val (.int c_406), .val (.int c_408), .val (.int c_410), .val (.int c_412), .val (.ref b414), .val (.int (0 : Int32)), .val (.int (1 : Int32))] [(.ref b921)])) rfl (by rw [hml]; rfl) (argsL := [(.ref b921)]) (rest := []) rfl (lenOf pd__Ljava_lang_String__Z rfl) rfl (W := 0) (by show 2 * 0 + _ ≤ _; exact Nat.le_of_eq rfl) (hb hby at_178) (by decide) (by decide) (by decide) (by decide)
                have N940 := Fr.app N933 N939q
                have e939 := e939.trans r939_0
                refine WinW.to T939 (mkF m 181 #[.val (.int p0), .val (.int p1), .val (.int p2), .val (.int p3), .val (.int p4), .val (.int nn.toInt32), .val (.int c_406), .val (.int c_408), .val (.int c_410), .val (.int c_412), .val (.ref b414), .val (.int (0 : Int32)), .val (.int (1 : Int32))] [(.int (1 : Int32))]) (fun _ k => st939 _ k) ?_
                refine WinW.to T939 (mkF m 183 #[.val (.int p0), .val (.int p1), .val (.int p2), .val (.int p3), .val (.int p4), .val (.int nn.toInt32), .val (.int c_406), .val (.int c_408), .val (.int c_410), .val (.int c_412), .val (.ref b414), .val (.int (0 : Int32)), .val (.int (1 : Int32))] [(.int (1 : Int32)), (.int (1 : Int32))]) (fun _ k => XS.iload X939.here hx rfl (hb hby at_181) rfl k) ?_
                refine WinW.to T939 (mkF m 186 #[.val (.int p0), .val (.int p1), .val (.int p2), .val (.int p3), .val (.int p4), .val (.int nn.toInt32), .val (.int c_406), .val (.int c_408), .val (.int c_410), .val (.int c_412), .val (.ref b414), .val (.int (0 : Int32)), .val (.int (1 : Int32))] []) (fun _ k => XS.icmpNo X939.here hx rfl (hb hby at_183) rfl (teq (show (1 : Int32) = (1 : Int32) from by decide)).2 k) ?_
                refine WinW.to T939 (mkF m 187 #[.val (.int p0), .val (.int p1), .val (.int p2), .val (.int p3), .val (.int p4), .val (.int nn.toInt32), .val (.int c_406), .val (.int c_408), .val (.int c_410), .val (.int c_412), .val (.ref b414), .val (.int (0 : Int32)), .val (.int (1 : Int32))] [(.int (1 : Int32))]) (fun _ k => XS.iconst X939.here hx rfl (hb hby at_186) k) ?_
                refine WinW.to T939 (mkF m 191 #[.val (.int p0), .val (.int p1), .val (.int p2), .val (.int p3), .val (.int p4), .val (.int nn.toInt32), .val (.int c_406), .val (.int c_408), .val (.int c_410), .val (.int c_412), .val (.ref b414), .val (.int (0 : Int32)), .val (.int (1 : Int32))] [(.int (1 : Int32))]) (fun _ k => XS.goto X939.here hx rfl (pc0 := 187) (pc' := 191) rfl (hb hby at_187) (by decide) (by decide) k) ?_
                exact WinW.retN X939 hS932 (by rw [e939]; exact hk932) hx hlk (t := .boolean) hret (by simp) rfl (hb hby at_191) hZ932 (own_EW hw) (by rw [e939]; exact C937) (by decide) (by decide) (by (try rw [e939]); exact ⟨rfl, N940, trivial⟩)
              · have S942 : Safe Z EL1 (s.setVm s.vm).vm h921 b921 := own_safe hZ.alike A921 F929 (wk hw 7 rfl)
                obtain ⟨T941, h941, v941, L941, X941, e941, ⟨t_941, kb_941, rfl, N941q, r941_0, r941_1, r941_2, r941_3, r941_4⟩, st941⟩ := N.special X921 hx hZ (y := (⟨"java/lang/String", "<init>", "([C)V"⟩ : MethodName)) rfl hown (wk hw 9 rfl) (wk hw 10 rfl) (wk hw 8 rfl) (wk hw 11 rfl) (by decide) (ctor1u l Z a0 hw b921 b414 k414 nn (upd (upd (upd (upd (fun _ => 0) 0 c_406) 1 c_408) (nn - 2) c_410) (nn - 1) c_412) cs h921 n0 O925 A921 F929 F930 F931 hle (Classical.byContradiction fun q => hl fun i hi hp => q ⟨i, hi, hp⟩) g923 S_AD S_HI S_LO S_CS hcs) e921 (g := (mkF m 175 #[.val (.int p0), .val (.int p1), .val (.int p2), .val (.int p3), .val (.int p4), .val (.int nn.toInt32), .val (.int c_406), .val (.int c_408), .val (.int c_410), .val (.int c_412), .val (.ref b414), .val (.int (0 : Int32)), .val (.int (1 : Int32))] [(.ref b414), (.ref b921), (.ref b921)])) rfl (by rw [hml]; rfl) (a := b921) (argsL := [(.ref b414)]) (rest := [(.ref b921)]) rfl (lenOf pd___C_V rfl) rfl (W := 1) (by show 2 * 0 + _ ≤ _; exact Nat.le_of_eq rfl) (hb hby at_175) (by decide) (by decide) (by decide) (by decide)
                have N943 := Fr.app N884 N941q
                have ne944 : b414 ≠ t_941 := Nat.ne_of_lt (Nat.lt_of_lt_of_le F931.lt r941_1)
                have ne945 : b921 ≠ t_941 := Nat.ne_of_lt (Nat.lt_of_lt_of_le A921.lt r941_1)
                have g946 : n0 ≤ t_941 := Nat.le_trans (own_le O925) r941_1
                have z947 : h0.size ≤ t_941 := Nat.le_trans K926.1 r941_1
                have O948 := Old.keep O925 r941_0 (allS g923 all0)
                have K949 : Keep h0 h941 [] := Keep.trans K926 r941_0 (allS (Or.inr z924) all0)
                have c950 := CHr.keep r941_0 (sfS S942 sf0) C928.1
                have C951 := CHr.trans C928 c950
                have S952 := CHr.safe c950 A921.lt S942
                refine WinW.to T941 (mkF m 178 #[.val (.int p0), .val (.int p1), .val (.int p2), .val (.int p3), .val (.int p4), .val (.int nn.toInt32), .val (.int c_406), .val (.int c_408), .val (.int c_410), .val (.int c_412), .val (.ref b414), .val (.int (0 : Int32)), .val (.int (1 : Int32))] [(.ref b921)]) (fun _ k => st941 _ k) ?_
                have F953 : Exa Z h941 b921 "java/lang/String" := (A921.keep r941_0)
                have F954 : ArF Z h941 b414 k414 .char nn (upd (upd (upd (upd (fun _ => 0) 0 c_406) 1 c_408) (nn - 2) c_410) (nn - 1) c_412) := (F931.keep r941_0 (ninS ne922 nin0))
                obtain ⟨T955, h955, v955, L955, X955, e955, ⟨rfl, N955q, r955_0⟩, st955⟩ := N.static X941 hx hZ (y := (⟨"com/example/usher/usher/lifecycle/ExecutionKey", "fits", "(Ljava/lang/String;)Z"⟩ : MethodName)) hown (wk hw 27 rfl) (wk hw 28 rfl) (wk hw 29 rfl) (wk hw 30 rfl) (by decide) (fitU1 l Z a0 hw b921 t_941 kb_941 nn (upd (upd (upd (upd (fun _ => 0) 0 c_406) 1 c_408) (nn - 2) c_410) (nn - 1) c_412) 0 cs h941 n0 O948 F953 r941_2 r941_3 r941_4 (own_fr F954) (by omega) ((own_cp3 (by omega)).trans (by rw [if_neg (fun q => hsu646 q.2), if_neg (fun q => hsu826 q.2)])) h512 S_AD S_HI S_LO S_CS hcs) e941 (g := (mkF m 178 #[.val (.int p0), .val (.int p1), .val (.int p2), .val (.int p3), .val (.int p4), .val (.int nn.toInt32), .val (.int c_406), .val (.int c_408), .val (.int c_410), .val (.int c_412), .val (.ref b414), .val (.int (0 : Int32)), .val (.int (1 : Int32))] [(.ref b921)])) rfl (by rw [hml]; rfl) (argsL := [(.ref b921)]) (rest := []) rfl (lenOf pd__Ljava_lang_String__Z rfl) rfl (W := 0) (by show 2 * 0 + _ ≤ _; exact Nat.le_of_eq rfl) (hb hby at_178) (by decide) (by decide) (by decide) (by decide)
                have N956 := Fr.app N943 N955q
                have e955 := e955.trans r955_0
                refine WinW.to T955 (mkF m 181 #[.val (.int p0), .val (.int p1), .val (.int p2), .val (.int p3), .val (.int p4), .val (.int nn.toInt32), .val (.int c_406), .val (.int c_408), .val (.int c_410), .val (.int c_412), .val (.ref b414), .val (.int (0 : Int32)), .val (.int (1 : Int32))] [(.int (1 : Int32))]) (fun _ k => st955 _ k) ?_
                refine WinW.to T955 (mkF m 183 #[.val (.int p0), .val (.int p1), .val (.int p2), .val (.int p3), .val (.int p4), .val (.int nn.toInt32), .val (.int c_406), .val (.int c_408), .val (.int c_410), .val (.int c_412), .val (.ref b414), .val (.int (0 : Int32)), .val (.int (1 : Int32))] [(.int (1 : Int32)), (.int (1 : Int32))]) (fun _ k => XS.iload X955.here hx rfl (hb hby at_181) rfl k) ?_
                refine WinW.to T955 (mkF m 186 #[.val (.int p0), .val (.int p1), .val (.int p2), .val (.int p3), .val (.int p4), .val (.int nn.toInt32), .val (.int c_406), .val (.int c_408), .val (.int c_410), .val (.int c_412), .val (.ref b414), .val (.int (0 : Int32)), .val (.int (1 : Int32))] []) (fun _ k => XS.icmpNo X955.here hx rfl (hb hby at_183) rfl (teq (show (1 : Int32) = (1 : Int32) from by decide)).2 k) ?_
                refine WinW.to T955 (mkF m 187 #[.val (.int p0), .val (.int p1), .val (.int p2), .val (.int p3), .val (.int p4), .val (.int nn.toInt32), .val (.int c_406), .val (.int c_408), .val (.int c_410), .val (.int c_412), .val (.ref b414), .val (.int (0 : Int32)), .val (.int (1 : Int32))] [(.int (1 : Int32))]) (fun _ k => XS.iconst X955.here hx rfl (hb hby at_186) k) ?_
                refine WinW.to T955 (mkF m 191 #[.val (.int p0), .val (.int p1), .val (.int p2), .val (.int p3), .val (.int p4), .val (.int nn.toInt32), .val (.int c_406), .val (.int c_408), .val (.int c_410), .val (.int c_412), .val (.ref b414), .val (.int (0 : Int32)), .val (.int (1 : Int32))] [(.int (1 : Int32))]) (fun _ k => XS.goto X955.here hx rfl (pc0 := 187) (pc' := 191) rfl (hb hby at_187) (by decide) (by decide) k) ?_
                exact WinW.retN X955 hS0 (by rw [e955]; exact (Nat.zero_le _)) hx hlk (t := .boolean) hret (by simp) rfl (hb hby at_191) hZ (own_EW hw) (by rw [e955]; exact C951) (by decide) (by decide) (by (try rw [e955]); exact ⟨rfl, N956, trivial⟩)
        · obtain ⟨T957, h957, v957, L957, X957, e957, ⟨rfl, N957q, r957_0⟩, st957⟩ := N.static X821 hx hZ (y := (⟨"com/example/usher/usher/lifecycle/ExecutionKeyFitsPinLaw", "isHigh", "(C)Z"⟩ : MethodName)) hown (wk hw 36 rfl) (wk hw 37 rfl) (wk hw 2 rfl) (wk hw 38 rfl) (by decide) (lh0 l Z a0 hw c_410 h636 n0 O637 hsu823) e821 (g := (mkF m 125 #[.val (.int p0), .val (.int p1), .val (.int p2), .val (.int p3), .val (.int p4), .val (.int nn.toInt32), .val (.int c_406), .val (.int c_408), .val (.int c_410), .val (.int c_412), .val (.ref b414), .val (.int (0 : Int32)), .unset] [(.int c_410)])) rfl (by rw [hml]; rfl) (argsL := [(.int c_410)]) (rest := []) rfl (lenOf pd__C_Z rfl) rfl (W := 0) (by show 2 * 0 + _ ≤ _; exact Nat.le_of_eq rfl) (hb hby at_125) (by decide) (by decide) (by decide) (by decide)
          have N958 := Fr.app N822 N957q
          have e957 := e957.trans r957_0
          refine WinW.to T957 (mkF m 128 #[.val (.int p0), .val (.int p1), .val (.int p2), .val (.int p3), .val (.int p4), .val (.int nn.toInt32), .val (.int c_406), .val (.int c_408), .val (.int c_410), .val (.int c_412), .val (.ref b414), .val (.int (0 : Int32)), .unset] [(.int (0 : Int32))]) (fun _ k => st957 _ k) ?_
          refine WinW.to T957 (mkF m 145 #[.val (.int p0), .val (.int p1), .val (.int p2), .val (.int p3), .val (.int p4), .val (.int nn.toInt32), .val (.int c_406), .val (.int c_408), .val (.int c_410), .val (.int c_412), .val (.ref b414), .val (.int (0 : Int32)), .unset] []) (fun _ k => XS.ifYes X957.here hx rfl (pc0 := 128) (pc' := 145) rfl (hb hby at_128) rfl ((if0 _ _).trans (teq (show (0 : Int32) = (0 : Int32) from by decide)).1) (by decide) (by decide) k) ?_
          refine WinW.to T957 (mkF m 147 #[.val (.int p0), .val (.int p1), .val (.int p2), .val (.int p3), .val (.int p4), .val (.int nn.toInt32), .val (.int c_406), .val (.int c_408), .val (.int c_410), .val (.int c_412), .val (.ref b414), .val (.int (0 : Int32)), .unset] [(.int nn.toInt32)]) (fun _ k => XS.iload X957.here hx rfl (hb hby at_145) rfl k) ?_
          refine WinW.to T957 (mkF m 148 #[.val (.int p0), .val (.int p1), .val (.int p2), .val (.int p3), .val (.int p4), .val (.int nn.toInt32), .val (.int c_406), .val (.int c_408), .val (.int c_410), .val (.int c_412), .val (.ref b414), .val (.int (0 : Int32)), .unset] [(.int (1 : Int32)), (.int nn.toInt32)]) (fun _ k => XS.iconst X957.here hx rfl (hb hby at_147) k) ?_
          refine WinW.to T957 (mkF m 151 #[.val (.int p0), .val (.int p1), .val (.int p2), .val (.int p3), .val (.int p4), .val (.int nn.toInt32), .val (.int c_406), .val (.int c_408), .val (.int c_410), .val (.int c_412), .val (.ref b414), .val (.int (0 : Int32)), .unset] []) (fun _ k => XS.icmpNo X957.here hx rfl (hb hby at_148) rfl (flt (show ¬ (nn.toInt32 < (1 : Int32)) from (fun q => absurd ((own_lt (n := 1) hbn (by decide)).mp q) (by omega)))).1 k) ?_
          refine WinW.to T957 (mkF m 153 #[.val (.int p0), .val (.int p1), .val (.int p2), .val (.int p3), .val (.int p4), .val (.int nn.toInt32), .val (.int c_406), .val (.int c_408), .val (.int c_410), .val (.int c_412), .val (.ref b414), .val (.int (0 : Int32)), .unset] [(.int nn.toInt32)]) (fun _ k => XS.iload X957.here hx rfl (hb hby at_151) rfl k) ?_
          refine WinW.to T957 (mkF m 155 #[.val (.int p0), .val (.int p1), .val (.int p2), .val (.int p3), .val (.int p4), .val (.int nn.toInt32), .val (.int c_406), .val (.int c_408), .val (.int c_410), .val (.int c_412), .val (.ref b414), .val (.int (0 : Int32)), .unset] [(.int (0 : Int32)), (.int nn.toInt32)]) (fun _ k => XS.iload X957.here hx rfl (hb hby at_153) rfl k) ?_
          refine WinW.to T957 (mkF m 156 #[.val (.int p0), .val (.int p1), .val (.int p2), .val (.int p3), .val (.int p4), .val (.int nn.toInt32), .val (.int c_406), .val (.int c_408), .val (.int c_410), .val (.int c_412), .val (.ref b414), .val (.int (0 : Int32)), .unset] [(.int nn.toInt32)]) (fun _ k => XS.isub X957.here hx rfl (hb hby at_155) rfl (by rw [show (nn.toInt32 - (0 : Int32)) = nn.toInt32 from Int32.sub_zero _]; exact k)) ?_
          refine WinW.to T957 (mkF m 159 #[.val (.int p0), .val (.int p1), .val (.int p2), .val (.int p3), .val (.int p4), .val (.int nn.toInt32), .val (.int c_406), .val (.int c_408), .val (.int c_410), .val (.int c_412), .val (.ref b414), .val (.int (0 : Int32)), .unset] [(.int (512 : Int32)), (.int nn.toInt32)]) (fun _ k => XS.sipush X957.here hx rfl (hb hby at_156) k) ?_
          by_cases h512 : 512 < nn
          · refine WinW.to T957 (mkF m 166 #[.val (.int p0), .val (.int p1), .val (.int p2), .val (.int p3), .val (.int p4), .val (.int nn.toInt32), .val (.int c_406), .val (.int c_408), .val (.int c_410), .val (.int c_412), .val (.ref b414), .val (.int (0 : Int32)), .unset] []) (fun _ k => XS.icmpYes X957.here hx rfl (pc0 := 159) (pc' := 166) rfl (hb hby at_159) rfl (tlt (show (512 : Int32) < nn.toInt32 from ((own_lt (j := 512) (by decide) (by omega)).mpr h512))).2.2.1 (by decide) (by decide) k) ?_
            refine WinW.to T957 (mkF m 167 #[.val (.int p0), .val (.int p1), .val (.int p2), .val (.int p3), .val (.int p4), .val (.int nn.toInt32), .val (.int c_406), .val (.int c_408), .val (.int c_410), .val (.int c_412), .val (.ref b414), .val (.int (0 : Int32)), .unset] [(.int (0 : Int32))]) (fun _ k => XS.iconst X957.here hx rfl (hb hby at_166) k) ?_
            refine WinW.to T957 (mkF m 169 #[.val (.int p0), .val (.int p1), .val (.int p2), .val (.int p3), .val (.int p4), .val (.int nn.toInt32), .val (.int c_406), .val (.int c_408), .val (.int c_410), .val (.int c_412), .val (.ref b414), .val (.int (0 : Int32)), .val (.int (0 : Int32))] []) (fun _ k => XS.istore X957.here hx rfl (hb hby at_167) rfl (l' := #[.val (.int p0), .val (.int p1), .val (.int p2), .val (.int p3), .val (.int p4), .val (.int nn.toInt32), .val (.int c_406), .val (.int c_408), .val (.int c_410), .val (.int c_412), .val (.ref b414), .val (.int (0 : Int32)), .val (.int (0 : Int32))]) rfl k) ?_
            obtain ⟨T959, h959, X959, e959, E959, A959, D959, -, st959⟩ := newO X957 hx hZ hown (wk hw 6 rfl) (wk hw 7 rfl) (wk hw 8 rfl) e957 (g := (mkF m 169 #[.val (.int p0), .val (.int p1), .val (.int p2), .val (.int p3), .val (.int p4), .val (.int nn.toInt32), .val (.int c_406), .val (.int c_408), .val (.int c_410), .val (.int c_412), .val (.ref b414), .val (.int (0 : Int32)), .val (.int (0 : Int32))] [])) rfl (hb hby at_169) (by decide) (by decide)
            obtain ⟨b959, g959⟩ : ∃ z, z = h636.size := ⟨_, rfl⟩
            rw [← g959] at A959 D959 st959
            have ne960 : b414 ≠ b959 := Nat.ne_of_lt (Nat.lt_of_lt_of_le F642.lt (Nat.le_of_eq g959.symm))
            have g961 : n0 ≤ b959 := Nat.le_trans (own_le O637) (Nat.le_of_eq g959.symm)
            have z962 : h0.size ≤ b959 := Nat.le_trans K638.1 (Nat.le_of_eq g959.symm)
            have O963 := Old.ext O637 E959
            have K964 : Keep h0 h959 [] := K638.ext E959
            have c965 := CHr.ext E959 C641.1
            have C966 := CHr.trans C641 c965
            have F967 : Fld Z h959 b959 "java/lang/String" "value" "[B" .null := D959 (Or.inr (wk hw 21 rfl)) (ty := (.array .byte)) (by decide)
            have F968 : Fld Z h959 b959 "java/lang/String" "coder" "B" (.int (0 : Int32)) := D959 (Or.inr (wk hw 22 rfl)) (ty := .byte) (by decide)
            refine WinW.to T959 (mkF m 172 #[.val (.int p0), .val (.int p1), .val (.int p2), .val (.int p3), .val (.int p4), .val (.int nn.toInt32), .val (.int c_406), .val (.int c_408), .val (.int c_410), .val (.int c_412), .val (.ref b414), .val (.int (0 : Int32)), .val (.int (0 : Int32))] [(.ref b959)]) (fun _ k => st959 _ k) ?_
            refine WinW.to T959 (mkF m 173 #[.val (.int p0), .val (.int p1), .val (.int p2), .val (.int p3), .val (.int p4), .val (.int nn.toInt32), .val (.int c_406), .val (.int c_408), .val (.int c_410), .val (.int c_412), .val (.ref b414), .val (.int (0 : Int32)), .val (.int (0 : Int32))] [(.ref b959), (.ref b959)]) (fun _ k => XS.dup X959.here hx rfl (hb hby at_172) rfl rfl k) ?_
            refine WinW.to T959 (mkF m 175 #[.val (.int p0), .val (.int p1), .val (.int p2), .val (.int p3), .val (.int p4), .val (.int nn.toInt32), .val (.int c_406), .val (.int c_408), .val (.int c_410), .val (.int c_412), .val (.ref b414), .val (.int (0 : Int32)), .val (.int (0 : Int32))] [(.ref b414), (.ref b959), (.ref b959)]) (fun _ k => XS.aload X959.here hx rfl (hb hby at_173) rfl rfl k) ?_
            have F969 : ArF Z h959 b414 k414 .char nn (upd (upd (upd (upd (fun _ => 0) 0 c_406) 1 c_408) (nn - 2) c_410) (nn - 1) c_412) := (F642.ext E959)
            by_cases hl : ∀ i, i < nn → ¬ (255 : Int32) < ((upd (upd (upd (upd (fun _ => 0) 0 c_406) 1 c_408) (nn - 2) c_410) (nn - 1) c_412) : Nat → Int32) i
            · obtain ⟨T970, h970, v970, L970, k970, X970, e970, hS970, hk970, hZ970, hown970, ⟨t_970, kb_970, rfl, N970q, r970_0, r970_1, r970_2, r970_3⟩, c970, st970⟩ := W.special X959 hS0 (Nat.zero_le _) hx hZ (y := (⟨"java/lang/String", "<init>", "([C)V"⟩ : MethodName)) rfl hown (wk hw 9 rfl) (wk hw 10 rfl) (wk hw 8 rfl) (wk hw 11 rfl) (by decide) (ctor1 l Z a0 hw b959 b414 k414 nn (upd (upd (upd (upd (fun _ => 0) 0 c_406) 1 c_408) (nn - 2) c_410) (nn - 1) c_412) cs h959 n0 O963 A959 F967 F968 F969 hl hle g961 S_CS hcs) (own_EW hw) C966.1 e959 (g := (mkF m 175 #[.val (.int p0), .val (.int p1), .val (.int p2), .val (.int p3), .val (.int p4), .val (.int nn.toInt32), .val (.int c_406), .val (.int c_408), .val (.int c_410), .val (.int c_412), .val (.ref b414), .val (.int (0 : Int32)), .val (.int (0 : Int32))] [(.ref b414), (.ref b959), (.ref b959)])) rfl (by rw [hml]; rfl) (a := b959) (argsL := [(.ref b414)]) (rest := [(.ref b959)]) rfl (lenOf pd___C_V rfl) rfl (W := 1) (by show 2 * 0 + _ ≤ _; exact Nat.le_of_eq rfl) (hb hby at_175) (by decide) (by decide) (by decide) (by decide)
              have N971 := Fr.app N958 N970q
              have O972 := Old.keep O963 r970_0 (allS g961 all0)
              have K973 : Keep h0 h970 [] := Keep.trans K964 r970_0 (allS (Or.inr z962) all0)
              have c974 := c970
              have C975 := CHr.trans C966 c974
              refine WinW.to T970 (mkF m 178 #[.val (.int p0), .val (.int p1), .val (.int p2), .val (.int p3), .val (.int p4), .val (.int nn.toInt32), .val (.int c_406), .val (.int c_408), .val (.int c_410), .val (.int c_412), .val (.ref b414), .val (.int (0 : Int32)), .val (.int (0 : Int32))] [(.ref b959)]) (fun _ k => st970 _ k) ?_
              have F976 : Exa Z h970 b959 "java/lang/String" := (A959.keep r970_0)
              obtain ⟨T977, h977, v977, L977, X977, e977, ⟨rfl, N977q, r977_0⟩, st977⟩ := N.static X970 hx hZ970 (y := (⟨"com/example/usher/usher/lifecycle/ExecutionKey", "fits", "(Ljava/lang/String;)Z"⟩ : MethodName)) hown970 (wk hw 27 rfl) (wk hw 28 rfl) (wk hw 29 rfl) (wk hw 30 rfl) (by decide) (fitL0 l Z a0 hw b959 t_970 kb_970 nn (fun i => ((upd (upd (upd (upd (fun _ => 0) 0 c_406) 1 c_408) (nn - 2) c_410) (nn - 1) c_412) i).toInt8.toInt32) cs h970 n0 O972 F976 r970_1 r970_2 r970_3 (by omega) h512 S_CS hcs) e970 (g := (mkF m 178 #[.val (.int p0), .val (.int p1), .val (.int p2), .val (.int p3), .val (.int p4), .val (.int nn.toInt32), .val (.int c_406), .val (.int c_408), .val (.int c_410), .val (.int c_412), .val (.ref b414), .val (.int (0 : Int32)), .val (.int (0 : Int32))] [(.ref b959)])) rfl (by rw [hml]; rfl) (argsL := [(.ref b959)]) (rest := []) rfl (lenOf pd__Ljava_lang_String__Z rfl) rfl (W := 0) (by show 2 * 0 + _ ≤ _; exact Nat.le_of_eq rfl) (hb hby at_178) (by decide) (by decide) (by decide) (by decide)
              have N978 := Fr.app N971 N977q
              have e977 := e977.trans r977_0
              refine WinW.to T977 (mkF m 181 #[.val (.int p0), .val (.int p1), .val (.int p2), .val (.int p3), .val (.int p4), .val (.int nn.toInt32), .val (.int c_406), .val (.int c_408), .val (.int c_410), .val (.int c_412), .val (.ref b414), .val (.int (0 : Int32)), .val (.int (0 : Int32))] [(.int (0 : Int32))]) (fun _ k => st977 _ k) ?_
              refine WinW.to T977 (mkF m 183 #[.val (.int p0), .val (.int p1), .val (.int p2), .val (.int p3), .val (.int p4), .val (.int nn.toInt32), .val (.int c_406), .val (.int c_408), .val (.int c_410), .val (.int c_412), .val (.ref b414), .val (.int (0 : Int32)), .val (.int (0 : Int32))] [(.int (0 : Int32)), (.int (0 : Int32))]) (fun _ k => XS.iload X977.here hx rfl (hb hby at_181) rfl k) ?_
              refine WinW.to T977 (mkF m 186 #[.val (.int p0), .val (.int p1), .val (.int p2), .val (.int p3), .val (.int p4), .val (.int nn.toInt32), .val (.int c_406), .val (.int c_408), .val (.int c_410), .val (.int c_412), .val (.ref b414), .val (.int (0 : Int32)), .val (.int (0 : Int32))] []) (fun _ k => XS.icmpNo X977.here hx rfl (hb hby at_183) rfl (teq (show (0 : Int32) = (0 : Int32) from by decide)).2 k) ?_
              refine WinW.to T977 (mkF m 187 #[.val (.int p0), .val (.int p1), .val (.int p2), .val (.int p3), .val (.int p4), .val (.int nn.toInt32), .val (.int c_406), .val (.int c_408), .val (.int c_410), .val (.int c_412), .val (.ref b414), .val (.int (0 : Int32)), .val (.int (0 : Int32))] [(.int (1 : Int32))]) (fun _ k => XS.iconst X977.here hx rfl (hb hby at_186) k) ?_
              refine WinW.to T977 (mkF m 191 #[.val (.int p0), .val (.int p1), .val (.int p2), .val (.int p3), .val (.int p4), .val (.int nn.toInt32), .val (.int c_406), .val (.int c_408), .val (.int c_410), .val (.int c_412), .val (.ref b414), .val (.int (0 : Int32)), .val (.int (0 : Int32))] [(.int (1 : Int32))]) (fun _ k => XS.goto X977.here hx rfl (pc0 := 187) (pc' := 191) rfl (hb hby at_187) (by decide) (by decide) k) ?_
              exact WinW.retN X977 hS970 (by rw [e977]; exact hk970) hx hlk (t := .boolean) hret (by simp) rfl (hb hby at_191) hZ970 (own_EW hw) (by rw [e977]; exact C975) (by decide) (by decide) (by (try rw [e977]); exact ⟨rfl, N978, trivial⟩)
            · have S980 : Safe Z EL1 (s.setVm s.vm).vm h959 b959 := own_safe hZ.alike A959 F967 (wk hw 7 rfl)
              obtain ⟨T979, h979, v979, L979, X979, e979, ⟨t_979, kb_979, rfl, N979q, r979_0, r979_1, r979_2, r979_3, r979_4⟩, st979⟩ := N.special X959 hx hZ (y := (⟨"java/lang/String", "<init>", "([C)V"⟩ : MethodName)) rfl hown (wk hw 9 rfl) (wk hw 10 rfl) (wk hw 8 rfl) (wk hw 11 rfl) (by decide) (ctor1u l Z a0 hw b959 b414 k414 nn (upd (upd (upd (upd (fun _ => 0) 0 c_406) 1 c_408) (nn - 2) c_410) (nn - 1) c_412) cs h959 n0 O963 A959 F967 F968 F969 hle (Classical.byContradiction fun q => hl fun i hi hp => q ⟨i, hi, hp⟩) g961 S_AD S_HI S_LO S_CS hcs) e959 (g := (mkF m 175 #[.val (.int p0), .val (.int p1), .val (.int p2), .val (.int p3), .val (.int p4), .val (.int nn.toInt32), .val (.int c_406), .val (.int c_408), .val (.int c_410), .val (.int c_412), .val (.ref b414), .val (.int (0 : Int32)), .val (.int (0 : Int32))] [(.ref b414), (.ref b959), (.ref b959)])) rfl (by rw [hml]; rfl) (a := b959) (argsL := [(.ref b414)]) (rest := [(.ref b959)]) rfl (lenOf pd___C_V rfl) rfl (W := 1) (by show 2 * 0 + _ ≤ _; exact Nat.le_of_eq rfl) (hb hby at_175) (by decide) (by decide) (by decide) (by decide)
              have N981 := Fr.app N958 N979q
              have ne982 : b414 ≠ t_979 := Nat.ne_of_lt (Nat.lt_of_lt_of_le F969.lt r979_1)
              have ne983 : b959 ≠ t_979 := Nat.ne_of_lt (Nat.lt_of_lt_of_le A959.lt r979_1)
              have g984 : n0 ≤ t_979 := Nat.le_trans (own_le O963) r979_1
              have z985 : h0.size ≤ t_979 := Nat.le_trans K964.1 r979_1
              have O986 := Old.keep O963 r979_0 (allS g961 all0)
              have K987 : Keep h0 h979 [] := Keep.trans K964 r979_0 (allS (Or.inr z962) all0)
              have c988 := CHr.keep r979_0 (sfS S980 sf0) C966.1
              have C989 := CHr.trans C966 c988
              have S990 := CHr.safe c988 A959.lt S980
              refine WinW.to T979 (mkF m 178 #[.val (.int p0), .val (.int p1), .val (.int p2), .val (.int p3), .val (.int p4), .val (.int nn.toInt32), .val (.int c_406), .val (.int c_408), .val (.int c_410), .val (.int c_412), .val (.ref b414), .val (.int (0 : Int32)), .val (.int (0 : Int32))] [(.ref b959)]) (fun _ k => st979 _ k) ?_
              have F991 : Exa Z h979 b959 "java/lang/String" := (A959.keep r979_0)
              have F992 : ArF Z h979 b414 k414 .char nn (upd (upd (upd (upd (fun _ => 0) 0 c_406) 1 c_408) (nn - 2) c_410) (nn - 1) c_412) := (F969.keep r979_0 (ninS ne960 nin0))
              obtain ⟨T993, h993, v993, L993, X993, e993, ⟨rfl, N993q, r993_0⟩, st993⟩ := N.static X979 hx hZ (y := (⟨"com/example/usher/usher/lifecycle/ExecutionKey", "fits", "(Ljava/lang/String;)Z"⟩ : MethodName)) hown (wk hw 27 rfl) (wk hw 28 rfl) (wk hw 29 rfl) (wk hw 30 rfl) (by decide) (fitU0 l Z a0 hw b959 t_979 kb_979 nn (upd (upd (upd (upd (fun _ => 0) 0 c_406) 1 c_408) (nn - 2) c_410) (nn - 1) c_412) 0 cs h979 n0 O986 F991 r979_2 r979_3 r979_4 (own_fr F992) (by omega) ((own_cp3 (by omega)).trans (by rw [if_neg (fun q => hsu646 q.2), if_neg (fun q => hsu823 q.1)])) h512 S_AD S_HI S_LO S_CS hcs) e979 (g := (mkF m 178 #[.val (.int p0), .val (.int p1), .val (.int p2), .val (.int p3), .val (.int p4), .val (.int nn.toInt32), .val (.int c_406), .val (.int c_408), .val (.int c_410), .val (.int c_412), .val (.ref b414), .val (.int (0 : Int32)), .val (.int (0 : Int32))] [(.ref b959)])) rfl (by rw [hml]; rfl) (argsL := [(.ref b959)]) (rest := []) rfl (lenOf pd__Ljava_lang_String__Z rfl) rfl (W := 0) (by show 2 * 0 + _ ≤ _; exact Nat.le_of_eq rfl) (hb hby at_178) (by decide) (by decide) (by decide) (by decide)
              have N994 := Fr.app N981 N993q
              have e993 := e993.trans r993_0
              refine WinW.to T993 (mkF m 181 #[.val (.int p0), .val (.int p1), .val (.int p2), .val (.int p3), .val (.int p4), .val (.int nn.toInt32), .val (.int c_406), .val (.int c_408), .val (.int c_410), .val (.int c_412), .val (.ref b414), .val (.int (0 : Int32)), .val (.int (0 : Int32))] [(.int (0 : Int32))]) (fun _ k => st993 _ k) ?_
              refine WinW.to T993 (mkF m 183 #[.val (.int p0), .val (.int p1), .val (.int p2), .val (.int p3), .val (.int p4), .val (.int nn.toInt32), .val (.int c_406), .val (.int c_408), .val (.int c_410), .val (.int c_412), .val (.ref b414), .val (.int (0 : Int32)), .val (.int (0 : Int32))] [(.int (0 : Int32)), (.int (0 : Int32))]) (fun _ k => XS.iload X993.here hx rfl (hb hby at_181) rfl k) ?_
              refine WinW.to T993 (mkF m 186 #[.val (.int p0), .val (.int p1), .val (.int p2), .val (.int p3), .val (.int p4), .val (.int nn.toInt32), .val (.int c_406), .val (.int c_408), .val (.int c_410), .val (.int c_412), .val (.ref b414), .val (.int (0 : Int32)), .val (.int (0 : Int32))] []) (fun _ k => XS.icmpNo X993.here hx rfl (hb hby at_183) rfl (teq (show (0 : Int32) = (0 : Int32) from by decide)).2 k) ?_
              refine WinW.to T993 (mkF m 187 #[.val (.int p0), .val (.int p1), .val (.int p2), .val (.int p3), .val (.int p4), .val (.int nn.toInt32), .val (.int c_406), .val (.int c_408), .val (.int c_410), .val (.int c_412), .val (.ref b414), .val (.int (0 : Int32)), .val (.int (0 : Int32))] [(.int (1 : Int32))]) (fun _ k => XS.iconst X993.here hx rfl (hb hby at_186) k) ?_
              refine WinW.to T993 (mkF m 191 #[.val (.int p0), .val (.int p1), .val (.int p2), .val (.int p3), .val (.int p4), .val (.int nn.toInt32), .val (.int c_406), .val (.int c_408), .val (.int c_410), .val (.int c_412), .val (.ref b414), .val (.int (0 : Int32)), .val (.int (0 : Int32))] [(.int (1 : Int32))]) (fun _ k => XS.goto X993.here hx rfl (pc0 := 187) (pc' := 191) rfl (hb hby at_187) (by decide) (by decide) k) ?_
              exact WinW.retN X993 hS0 (by rw [e993]; exact (Nat.zero_le _)) hx hlk (t := .boolean) hret (by simp) rfl (hb hby at_191) hZ (own_EW hw) (by rw [e993]; exact C989) (by decide) (by decide) (by (try rw [e993]); exact ⟨rfl, N994, trivial⟩)
          · refine WinW.to T957 (mkF m 162 #[.val (.int p0), .val (.int p1), .val (.int p2), .val (.int p3), .val (.int p4), .val (.int nn.toInt32), .val (.int c_406), .val (.int c_408), .val (.int c_410), .val (.int c_412), .val (.ref b414), .val (.int (0 : Int32)), .unset] []) (fun _ k => XS.icmpNo X957.here hx rfl (hb hby at_159) rfl (flt (show ¬ ((512 : Int32) < nn.toInt32) from (fun q => h512 ((own_lt (j := 512) (by decide) (by omega)).mp q)))).2.2.1 k) ?_
            refine WinW.to T957 (mkF m 163 #[.val (.int p0), .val (.int p1), .val (.int p2), .val (.int p3), .val (.int p4), .val (.int nn.toInt32), .val (.int c_406), .val (.int c_408), .val (.int c_410), .val (.int c_412), .val (.ref b414), .val (.int (0 : Int32)), .unset] [(.int (1 : Int32))]) (fun _ k => XS.iconst X957.here hx rfl (hb hby at_162) k) ?_
            refine WinW.to T957 (mkF m 167 #[.val (.int p0), .val (.int p1), .val (.int p2), .val (.int p3), .val (.int p4), .val (.int nn.toInt32), .val (.int c_406), .val (.int c_408), .val (.int c_410), .val (.int c_412), .val (.ref b414), .val (.int (0 : Int32)), .unset] [(.int (1 : Int32))]) (fun _ k => XS.goto X957.here hx rfl (pc0 := 163) (pc' := 167) rfl (hb hby at_163) (by decide) (by decide) k) ?_
            refine WinW.to T957 (mkF m 169 #[.val (.int p0), .val (.int p1), .val (.int p2), .val (.int p3), .val (.int p4), .val (.int nn.toInt32), .val (.int c_406), .val (.int c_408), .val (.int c_410), .val (.int c_412), .val (.ref b414), .val (.int (0 : Int32)), .val (.int (1 : Int32))] []) (fun _ k => XS.istore X957.here hx rfl (hb hby at_167) rfl (l' := #[.val (.int p0), .val (.int p1), .val (.int p2), .val (.int p3), .val (.int p4), .val (.int nn.toInt32), .val (.int c_406), .val (.int c_408), .val (.int c_410), .val (.int c_412), .val (.ref b414), .val (.int (0 : Int32)), .val (.int (1 : Int32))]) rfl k) ?_
            obtain ⟨T995, h995, X995, e995, E995, A995, D995, -, st995⟩ := newO X957 hx hZ hown (wk hw 6 rfl) (wk hw 7 rfl) (wk hw 8 rfl) e957 (g := (mkF m 169 #[.val (.int p0), .val (.int p1), .val (.int p2), .val (.int p3), .val (.int p4), .val (.int nn.toInt32), .val (.int c_406), .val (.int c_408), .val (.int c_410), .val (.int c_412), .val (.ref b414), .val (.int (0 : Int32)), .val (.int (1 : Int32))] [])) rfl (hb hby at_169) (by decide) (by decide)
            obtain ⟨b995, g995⟩ : ∃ z, z = h636.size := ⟨_, rfl⟩
            rw [← g995] at A995 D995 st995
            have ne996 : b414 ≠ b995 := Nat.ne_of_lt (Nat.lt_of_lt_of_le F642.lt (Nat.le_of_eq g995.symm))
            have g997 : n0 ≤ b995 := Nat.le_trans (own_le O637) (Nat.le_of_eq g995.symm)
            have z998 : h0.size ≤ b995 := Nat.le_trans K638.1 (Nat.le_of_eq g995.symm)
            have O999 := Old.ext O637 E995
            have K1000 : Keep h0 h995 [] := K638.ext E995
            have c1001 := CHr.ext E995 C641.1
            have C1002 := CHr.trans C641 c1001
            have F1003 : Fld Z h995 b995 "java/lang/String" "value" "[B" .null := D995 (Or.inr (wk hw 21 rfl)) (ty := (.array .byte)) (by decide)
            have F1004 : Fld Z h995 b995 "java/lang/String" "coder" "B" (.int (0 : Int32)) := D995 (Or.inr (wk hw 22 rfl)) (ty := .byte) (by decide)
            refine WinW.to T995 (mkF m 172 #[.val (.int p0), .val (.int p1), .val (.int p2), .val (.int p3), .val (.int p4), .val (.int nn.toInt32), .val (.int c_406), .val (.int c_408), .val (.int c_410), .val (.int c_412), .val (.ref b414), .val (.int (0 : Int32)), .val (.int (1 : Int32))] [(.ref b995)]) (fun _ k => st995 _ k) ?_
            refine WinW.to T995 (mkF m 173 #[.val (.int p0), .val (.int p1), .val (.int p2), .val (.int p3), .val (.int p4), .val (.int nn.toInt32), .val (.int c_406), .val (.int c_408), .val (.int c_410), .val (.int c_412), .val (.ref b414), .val (.int (0 : Int32)), .val (.int (1 : Int32))] [(.ref b995), (.ref b995)]) (fun _ k => XS.dup X995.here hx rfl (hb hby at_172) rfl rfl k) ?_
            refine WinW.to T995 (mkF m 175 #[.val (.int p0), .val (.int p1), .val (.int p2), .val (.int p3), .val (.int p4), .val (.int nn.toInt32), .val (.int c_406), .val (.int c_408), .val (.int c_410), .val (.int c_412), .val (.ref b414), .val (.int (0 : Int32)), .val (.int (1 : Int32))] [(.ref b414), (.ref b995), (.ref b995)]) (fun _ k => XS.aload X995.here hx rfl (hb hby at_173) rfl rfl k) ?_
            have F1005 : ArF Z h995 b414 k414 .char nn (upd (upd (upd (upd (fun _ => 0) 0 c_406) 1 c_408) (nn - 2) c_410) (nn - 1) c_412) := (F642.ext E995)
            by_cases hl : ∀ i, i < nn → ¬ (255 : Int32) < ((upd (upd (upd (upd (fun _ => 0) 0 c_406) 1 c_408) (nn - 2) c_410) (nn - 1) c_412) : Nat → Int32) i
            · obtain ⟨T1006, h1006, v1006, L1006, k1006, X1006, e1006, hS1006, hk1006, hZ1006, hown1006, ⟨t_1006, kb_1006, rfl, N1006q, r1006_0, r1006_1, r1006_2, r1006_3⟩, c1006, st1006⟩ := W.special X995 hS0 (Nat.zero_le _) hx hZ (y := (⟨"java/lang/String", "<init>", "([C)V"⟩ : MethodName)) rfl hown (wk hw 9 rfl) (wk hw 10 rfl) (wk hw 8 rfl) (wk hw 11 rfl) (by decide) (ctor1 l Z a0 hw b995 b414 k414 nn (upd (upd (upd (upd (fun _ => 0) 0 c_406) 1 c_408) (nn - 2) c_410) (nn - 1) c_412) cs h995 n0 O999 A995 F1003 F1004 F1005 hl hle g997 S_CS hcs) (own_EW hw) C1002.1 e995 (g := (mkF m 175 #[.val (.int p0), .val (.int p1), .val (.int p2), .val (.int p3), .val (.int p4), .val (.int nn.toInt32), .val (.int c_406), .val (.int c_408), .val (.int c_410), .val (.int c_412), .val (.ref b414), .val (.int (0 : Int32)), .val (.int (1 : Int32))] [(.ref b414), (.ref b995), (.ref b995)])) rfl (by rw [hml]; rfl) (a := b995) (argsL := [(.ref b414)]) (rest := [(.ref b995)]) rfl (lenOf pd___C_V rfl) rfl (W := 1) (by show 2 * 0 + _ ≤ _; exact Nat.le_of_eq rfl) (hb hby at_175) (by decide) (by decide) (by decide) (by decide)
              have N1007 := Fr.app N958 N1006q
              have O1008 := Old.keep O999 r1006_0 (allS g997 all0)
              have K1009 : Keep h0 h1006 [] := Keep.trans K1000 r1006_0 (allS (Or.inr z998) all0)
              have c1010 := c1006
              have C1011 := CHr.trans C1002 c1010
              refine WinW.to T1006 (mkF m 178 #[.val (.int p0), .val (.int p1), .val (.int p2), .val (.int p3), .val (.int p4), .val (.int nn.toInt32), .val (.int c_406), .val (.int c_408), .val (.int c_410), .val (.int c_412), .val (.ref b414), .val (.int (0 : Int32)), .val (.int (1 : Int32))] [(.ref b995)]) (fun _ k => st1006 _ k) ?_
              have F1012 : Exa Z h1006 b995 "java/lang/String" := (A995.keep r1006_0)
              obtain ⟨T1013, h1013, v1013, L1013, X1013, e1013, ⟨rfl, N1013q, r1013_0⟩, st1013⟩ := N.static X1006 hx hZ1006 (y := (⟨"com/example/usher/usher/lifecycle/ExecutionKey", "fits", "(Ljava/lang/String;)Z"⟩ : MethodName)) hown1006 (wk hw 27 rfl) (wk hw 28 rfl) (wk hw 29 rfl) (wk hw 30 rfl) (by decide) (fitL1 l Z a0 hw b995 t_1006 kb_1006 nn (fun i => ((upd (upd (upd (upd (fun _ => 0) 0 c_406) 1 c_408) (nn - 2) c_410) (nn - 1) c_412) i).toInt8.toInt32) cs h1006 n0 O1008 F1012 r1006_1 r1006_2 r1006_3 (by omega) h512 S_CS hcs) e1006 (g := (mkF m 178 #[.val (.int p0), .val (.int p1), .val (.int p2), .val (.int p3), .val (.int p4), .val (.int nn.toInt32), .val (.int c_406), .val (.int c_408), .val (.int c_410), .val (.int c_412), .val (.ref b414), .val (.int (0 : Int32)), .val (.int (1 : Int32))] [(.ref b995)])) rfl (by rw [hml]; rfl) (argsL := [(.ref b995)]) (rest := []) rfl (lenOf pd__Ljava_lang_String__Z rfl) rfl (W := 0) (by show 2 * 0 + _ ≤ _; exact Nat.le_of_eq rfl) (hb hby at_178) (by decide) (by decide) (by decide) (by decide)
              have N1014 := Fr.app N1007 N1013q
              have e1013 := e1013.trans r1013_0
              refine WinW.to T1013 (mkF m 181 #[.val (.int p0), .val (.int p1), .val (.int p2), .val (.int p3), .val (.int p4), .val (.int nn.toInt32), .val (.int c_406), .val (.int c_408), .val (.int c_410), .val (.int c_412), .val (.ref b414), .val (.int (0 : Int32)), .val (.int (1 : Int32))] [(.int (1 : Int32))]) (fun _ k => st1013 _ k) ?_
              refine WinW.to T1013 (mkF m 183 #[.val (.int p0), .val (.int p1), .val (.int p2), .val (.int p3), .val (.int p4), .val (.int nn.toInt32), .val (.int c_406), .val (.int c_408), .val (.int c_410), .val (.int c_412), .val (.ref b414), .val (.int (0 : Int32)), .val (.int (1 : Int32))] [(.int (1 : Int32)), (.int (1 : Int32))]) (fun _ k => XS.iload X1013.here hx rfl (hb hby at_181) rfl k) ?_
              refine WinW.to T1013 (mkF m 186 #[.val (.int p0), .val (.int p1), .val (.int p2), .val (.int p3), .val (.int p4), .val (.int nn.toInt32), .val (.int c_406), .val (.int c_408), .val (.int c_410), .val (.int c_412), .val (.ref b414), .val (.int (0 : Int32)), .val (.int (1 : Int32))] []) (fun _ k => XS.icmpNo X1013.here hx rfl (hb hby at_183) rfl (teq (show (1 : Int32) = (1 : Int32) from by decide)).2 k) ?_
              refine WinW.to T1013 (mkF m 187 #[.val (.int p0), .val (.int p1), .val (.int p2), .val (.int p3), .val (.int p4), .val (.int nn.toInt32), .val (.int c_406), .val (.int c_408), .val (.int c_410), .val (.int c_412), .val (.ref b414), .val (.int (0 : Int32)), .val (.int (1 : Int32))] [(.int (1 : Int32))]) (fun _ k => XS.iconst X1013.here hx rfl (hb hby at_186) k) ?_
              refine WinW.to T1013 (mkF m 191 #[.val (.int p0), .val (.int p1), .val (.int p2), .val (.int p3), .val (.int p4), .val (.int nn.toInt32), .val (.int c_406), .val (.int c_408), .val (.int c_410), .val (.int c_412), .val (.ref b414), .val (.int (0 : Int32)), .val (.int (1 : Int32))] [(.int (1 : Int32))]) (fun _ k => XS.goto X1013.here hx rfl (pc0 := 187) (pc' := 191) rfl (hb hby at_187) (by decide) (by decide) k) ?_
              exact WinW.retN X1013 hS1006 (by rw [e1013]; exact hk1006) hx hlk (t := .boolean) hret (by simp) rfl (hb hby at_191) hZ1006 (own_EW hw) (by rw [e1013]; exact C1011) (by decide) (by decide) (by (try rw [e1013]); exact ⟨rfl, N1014, trivial⟩)
            · have S1016 : Safe Z EL1 (s.setVm s.vm).vm h995 b995 := own_safe hZ.alike A995 F1003 (wk hw 7 rfl)
              obtain ⟨T1015, h1015, v1015, L1015, X1015, e1015, ⟨t_1015, kb_1015, rfl, N1015q, r1015_0, r1015_1, r1015_2, r1015_3, r1015_4⟩, st1015⟩ := N.special X995 hx hZ (y := (⟨"java/lang/String", "<init>", "([C)V"⟩ : MethodName)) rfl hown (wk hw 9 rfl) (wk hw 10 rfl) (wk hw 8 rfl) (wk hw 11 rfl) (by decide) (ctor1u l Z a0 hw b995 b414 k414 nn (upd (upd (upd (upd (fun _ => 0) 0 c_406) 1 c_408) (nn - 2) c_410) (nn - 1) c_412) cs h995 n0 O999 A995 F1003 F1004 F1005 hle (Classical.byContradiction fun q => hl fun i hi hp => q ⟨i, hi, hp⟩) g997 S_AD S_HI S_LO S_CS hcs) e995 (g := (mkF m 175 #[.val (.int p0), .val (.int p1), .val (.int p2), .val (.int p3), .val (.int p4), .val (.int nn.toInt32), .val (.int c_406), .val (.int c_408), .val (.int c_410), .val (.int c_412), .val (.ref b414), .val (.int (0 : Int32)), .val (.int (1 : Int32))] [(.ref b414), (.ref b995), (.ref b995)])) rfl (by rw [hml]; rfl) (a := b995) (argsL := [(.ref b414)]) (rest := [(.ref b995)]) rfl (lenOf pd___C_V rfl) rfl (W := 1) (by show 2 * 0 + _ ≤ _; exact Nat.le_of_eq rfl) (hb hby at_175) (by decide) (by decide) (by decide) (by decide)
              have N1017 := Fr.app N958 N1015q
              have ne1018 : b414 ≠ t_1015 := Nat.ne_of_lt (Nat.lt_of_lt_of_le F1005.lt r1015_1)
              have ne1019 : b995 ≠ t_1015 := Nat.ne_of_lt (Nat.lt_of_lt_of_le A995.lt r1015_1)
              have g1020 : n0 ≤ t_1015 := Nat.le_trans (own_le O999) r1015_1
              have z1021 : h0.size ≤ t_1015 := Nat.le_trans K1000.1 r1015_1
              have O1022 := Old.keep O999 r1015_0 (allS g997 all0)
              have K1023 : Keep h0 h1015 [] := Keep.trans K1000 r1015_0 (allS (Or.inr z998) all0)
              have c1024 := CHr.keep r1015_0 (sfS S1016 sf0) C1002.1
              have C1025 := CHr.trans C1002 c1024
              have S1026 := CHr.safe c1024 A995.lt S1016
              refine WinW.to T1015 (mkF m 178 #[.val (.int p0), .val (.int p1), .val (.int p2), .val (.int p3), .val (.int p4), .val (.int nn.toInt32), .val (.int c_406), .val (.int c_408), .val (.int c_410), .val (.int c_412), .val (.ref b414), .val (.int (0 : Int32)), .val (.int (1 : Int32))] [(.ref b995)]) (fun _ k => st1015 _ k) ?_
              have F1027 : Exa Z h1015 b995 "java/lang/String" := (A995.keep r1015_0)
              have F1028 : ArF Z h1015 b414 k414 .char nn (upd (upd (upd (upd (fun _ => 0) 0 c_406) 1 c_408) (nn - 2) c_410) (nn - 1) c_412) := (F1005.keep r1015_0 (ninS ne996 nin0))
              obtain ⟨T1029, h1029, v1029, L1029, X1029, e1029, ⟨rfl, N1029q, r1029_0⟩, st1029⟩ := N.static X1015 hx hZ (y := (⟨"com/example/usher/usher/lifecycle/ExecutionKey", "fits", "(Ljava/lang/String;)Z"⟩ : MethodName)) hown (wk hw 27 rfl) (wk hw 28 rfl) (wk hw 29 rfl) (wk hw 30 rfl) (by decide) (fitU1 l Z a0 hw b995 t_1015 kb_1015 nn (upd (upd (upd (upd (fun _ => 0) 0 c_406) 1 c_408) (nn - 2) c_410) (nn - 1) c_412) 0 cs h1015 n0 O1022 F1027 r1015_2 r1015_3 r1015_4 (own_fr F1028) (by omega) ((own_cp3 (by omega)).trans (by rw [if_neg (fun q => hsu646 q.2), if_neg (fun q => hsu823 q.1)])) h512 S_AD S_HI S_LO S_CS hcs) e1015 (g := (mkF m 178 #[.val (.int p0), .val (.int p1), .val (.int p2), .val (.int p3), .val (.int p4), .val (.int nn.toInt32), .val (.int c_406), .val (.int c_408), .val (.int c_410), .val (.int c_412), .val (.ref b414), .val (.int (0 : Int32)), .val (.int (1 : Int32))] [(.ref b995)])) rfl (by rw [hml]; rfl) (argsL := [(.ref b995)]) (rest := []) rfl (lenOf pd__Ljava_lang_String__Z rfl) rfl (W := 0) (by show 2 * 0 + _ ≤ _; exact Nat.le_of_eq rfl) (hb hby at_178) (by decide) (by decide) (by decide) (by decide)
              have N1030 := Fr.app N1017 N1029q
              have e1029 := e1029.trans r1029_0
              refine WinW.to T1029 (mkF m 181 #[.val (.int p0), .val (.int p1), .val (.int p2), .val (.int p3), .val (.int p4), .val (.int nn.toInt32), .val (.int c_406), .val (.int c_408), .val (.int c_410), .val (.int c_412), .val (.ref b414), .val (.int (0 : Int32)), .val (.int (1 : Int32))] [(.int (1 : Int32))]) (fun _ k => st1029 _ k) ?_
              refine WinW.to T1029 (mkF m 183 #[.val (.int p0), .val (.int p1), .val (.int p2), .val (.int p3), .val (.int p4), .val (.int nn.toInt32), .val (.int c_406), .val (.int c_408), .val (.int c_410), .val (.int c_412), .val (.ref b414), .val (.int (0 : Int32)), .val (.int (1 : Int32))] [(.int (1 : Int32)), (.int (1 : Int32))]) (fun _ k => XS.iload X1029.here hx rfl (hb hby at_181) rfl k) ?_
              refine WinW.to T1029 (mkF m 186 #[.val (.int p0), .val (.int p1), .val (.int p2), .val (.int p3), .val (.int p4), .val (.int nn.toInt32), .val (.int c_406), .val (.int c_408), .val (.int c_410), .val (.int c_412), .val (.ref b414), .val (.int (0 : Int32)), .val (.int (1 : Int32))] []) (fun _ k => XS.icmpNo X1029.here hx rfl (hb hby at_183) rfl (teq (show (1 : Int32) = (1 : Int32) from by decide)).2 k) ?_
              refine WinW.to T1029 (mkF m 187 #[.val (.int p0), .val (.int p1), .val (.int p2), .val (.int p3), .val (.int p4), .val (.int nn.toInt32), .val (.int c_406), .val (.int c_408), .val (.int c_410), .val (.int c_412), .val (.ref b414), .val (.int (0 : Int32)), .val (.int (1 : Int32))] [(.int (1 : Int32))]) (fun _ k => XS.iconst X1029.here hx rfl (hb hby at_186) k) ?_
              refine WinW.to T1029 (mkF m 191 #[.val (.int p0), .val (.int p1), .val (.int p2), .val (.int p3), .val (.int p4), .val (.int nn.toInt32), .val (.int c_406), .val (.int c_408), .val (.int c_410), .val (.int c_412), .val (.ref b414), .val (.int (0 : Int32)), .val (.int (1 : Int32))] [(.int (1 : Int32))]) (fun _ k => XS.goto X1029.here hx rfl (pc0 := 187) (pc' := 191) rfl (hb hby at_187) (by decide) (by decide) k) ?_
              exact WinW.retN X1029 hS0 (by rw [e1029]; exact (Nat.zero_le _)) hx hlk (t := .boolean) hret (by simp) rfl (hb hby at_191) hZ (own_EW hw) (by rw [e1029]; exact C1025) (by decide) (by decide) (by (try rw [e1029]); exact ⟨rfl, N1030, trivial⟩)
    · obtain ⟨T1031, h1031, v1031, L1031, X1031, e1031, ⟨rfl, N1031q, r1031_0⟩, st1031⟩ := N.static X636 hx hZ (y := (⟨"com/example/usher/usher/lifecycle/ExecutionKeyFitsPinLaw", "isHigh", "(C)Z"⟩ : MethodName)) hown (wk hw 36 rfl) (wk hw 37 rfl) (wk hw 2 rfl) (wk hw 38 rfl) (by decide) (lh0 l Z a0 hw c_406 h636 n0 O637 hsu643) e636 (g := (mkF m 97 #[.val (.int p0), .val (.int p1), .val (.int p2), .val (.int p3), .val (.int p4), .val (.int nn.toInt32), .val (.int c_406), .val (.int c_408), .val (.int c_410), .val (.int c_412), .val (.ref b414), .val (.int (0 : Int32)), .unset] [(.int c_406)])) rfl (by rw [hml]; rfl) (argsL := [(.int c_406)]) (rest := []) rfl (lenOf pd__C_Z rfl) rfl (W := 0) (by show 2 * 0 + _ ≤ _; exact Nat.le_of_eq rfl) (hb hby at_97) (by decide) (by decide) (by decide) (by decide)
      have N1032 := Fr.app N639 N1031q
      have e1031 := e1031.trans r1031_0
      refine WinW.to T1031 (mkF m 100 #[.val (.int p0), .val (.int p1), .val (.int p2), .val (.int p3), .val (.int p4), .val (.int nn.toInt32), .val (.int c_406), .val (.int c_408), .val (.int c_410), .val (.int c_412), .val (.ref b414), .val (.int (0 : Int32)), .unset] [(.int (0 : Int32))]) (fun _ k => st1031 _ k) ?_
      refine WinW.to T1031 (mkF m 117 #[.val (.int p0), .val (.int p1), .val (.int p2), .val (.int p3), .val (.int p4), .val (.int nn.toInt32), .val (.int c_406), .val (.int c_408), .val (.int c_410), .val (.int c_412), .val (.ref b414), .val (.int (0 : Int32)), .unset] []) (fun _ k => XS.ifYes X1031.here hx rfl (pc0 := 100) (pc' := 117) rfl (hb hby at_100) rfl ((if0 _ _).trans (teq (show (0 : Int32) = (0 : Int32) from by decide)).1) (by decide) (by decide) k) ?_
      refine WinW.to T1031 (mkF m 119 #[.val (.int p0), .val (.int p1), .val (.int p2), .val (.int p3), .val (.int p4), .val (.int nn.toInt32), .val (.int c_406), .val (.int c_408), .val (.int c_410), .val (.int c_412), .val (.ref b414), .val (.int (0 : Int32)), .unset] [(.int nn.toInt32)]) (fun _ k => XS.iload X1031.here hx rfl (hb hby at_117) rfl k) ?_
      refine WinW.to T1031 (mkF m 120 #[.val (.int p0), .val (.int p1), .val (.int p2), .val (.int p3), .val (.int p4), .val (.int nn.toInt32), .val (.int c_406), .val (.int c_408), .val (.int c_410), .val (.int c_412), .val (.ref b414), .val (.int (0 : Int32)), .unset] [(.int (5 : Int32)), (.int nn.toInt32)]) (fun _ k => XS.iconst X1031.here hx rfl (hb hby at_119) k) ?_
      refine WinW.to T1031 (mkF m 123 #[.val (.int p0), .val (.int p1), .val (.int p2), .val (.int p3), .val (.int p4), .val (.int nn.toInt32), .val (.int c_406), .val (.int c_408), .val (.int c_410), .val (.int c_412), .val (.ref b414), .val (.int (0 : Int32)), .unset] []) (fun _ k => XS.icmpNo X1031.here hx rfl (hb hby at_120) rfl (flt (show ¬ (nn.toInt32 < (5 : Int32)) from (fun q => absurd ((own_lt (n := 5) hbn (by decide)).mp q) (by omega)))).1 k) ?_
      refine WinW.to T1031 (mkF m 125 #[.val (.int p0), .val (.int p1), .val (.int p2), .val (.int p3), .val (.int p4), .val (.int nn.toInt32), .val (.int c_406), .val (.int c_408), .val (.int c_410), .val (.int c_412), .val (.ref b414), .val (.int (0 : Int32)), .unset] [(.int c_410)]) (fun _ k => XS.iload X1031.here hx rfl (hb hby at_123) rfl k) ?_
      by_cases hsu1033 : hsur c_410
      · obtain ⟨T1034, h1034, v1034, L1034, X1034, e1034, ⟨rfl, N1034q, r1034_0⟩, st1034⟩ := N.static X1031 hx hZ (y := (⟨"com/example/usher/usher/lifecycle/ExecutionKeyFitsPinLaw", "isHigh", "(C)Z"⟩ : MethodName)) hown (wk hw 36 rfl) (wk hw 37 rfl) (wk hw 2 rfl) (wk hw 38 rfl) (by decide) (lh1 l Z a0 hw c_410 h636 n0 O637 hsu1033) e1031 (g := (mkF m 125 #[.val (.int p0), .val (.int p1), .val (.int p2), .val (.int p3), .val (.int p4), .val (.int nn.toInt32), .val (.int c_406), .val (.int c_408), .val (.int c_410), .val (.int c_412), .val (.ref b414), .val (.int (0 : Int32)), .unset] [(.int c_410)])) rfl (by rw [hml]; rfl) (argsL := [(.int c_410)]) (rest := []) rfl (lenOf pd__C_Z rfl) rfl (W := 0) (by show 2 * 0 + _ ≤ _; exact Nat.le_of_eq rfl) (hb hby at_125) (by decide) (by decide) (by decide) (by decide)
        have N1035 := Fr.app N1032 N1034q
        have e1034 := e1034.trans r1034_0
        refine WinW.to T1034 (mkF m 128 #[.val (.int p0), .val (.int p1), .val (.int p2), .val (.int p3), .val (.int p4), .val (.int nn.toInt32), .val (.int c_406), .val (.int c_408), .val (.int c_410), .val (.int c_412), .val (.ref b414), .val (.int (0 : Int32)), .unset] [(.int (1 : Int32))]) (fun _ k => st1034 _ k) ?_
        refine WinW.to T1034 (mkF m 131 #[.val (.int p0), .val (.int p1), .val (.int p2), .val (.int p3), .val (.int p4), .val (.int nn.toInt32), .val (.int c_406), .val (.int c_408), .val (.int c_410), .val (.int c_412), .val (.ref b414), .val (.int (0 : Int32)), .unset] []) (fun _ k => XS.ifNo X1034.here hx rfl (hb hby at_128) rfl ((if0 _ _).trans (feq (show ¬ ((1 : Int32) = (0 : Int32)) from by decide)).1) k) ?_
        refine WinW.to T1034 (mkF m 133 #[.val (.int p0), .val (.int p1), .val (.int p2), .val (.int p3), .val (.int p4), .val (.int nn.toInt32), .val (.int c_406), .val (.int c_408), .val (.int c_410), .val (.int c_412), .val (.ref b414), .val (.int (0 : Int32)), .unset] [(.int c_412)]) (fun _ k => XS.iload X1034.here hx rfl (hb hby at_131) rfl k) ?_
        by_cases hsu1036 : lsur c_412
        · obtain ⟨T1037, h1037, v1037, L1037, X1037, e1037, ⟨rfl, N1037q, r1037_0⟩, st1037⟩ := N.static X1034 hx hZ (y := (⟨"com/example/usher/usher/lifecycle/ExecutionKeyFitsPinLaw", "isLow", "(C)Z"⟩ : MethodName)) hown (wk hw 115 rfl) (wk hw 116 rfl) (wk hw 2 rfl) (wk hw 117 rfl) (by decide) (ll1 l Z a0 hw c_412 h636 n0 O637 hsu1036) e1034 (g := (mkF m 133 #[.val (.int p0), .val (.int p1), .val (.int p2), .val (.int p3), .val (.int p4), .val (.int nn.toInt32), .val (.int c_406), .val (.int c_408), .val (.int c_410), .val (.int c_412), .val (.ref b414), .val (.int (0 : Int32)), .unset] [(.int c_412)])) rfl (by rw [hml]; rfl) (argsL := [(.int c_412)]) (rest := []) rfl (lenOf pd__C_Z rfl) rfl (W := 0) (by show 2 * 0 + _ ≤ _; exact Nat.le_of_eq rfl) (hb hby at_133) (by decide) (by decide) (by decide) (by decide)
          have N1038 := Fr.app N1035 N1037q
          have e1037 := e1037.trans r1037_0
          refine WinW.to T1037 (mkF m 136 #[.val (.int p0), .val (.int p1), .val (.int p2), .val (.int p3), .val (.int p4), .val (.int nn.toInt32), .val (.int c_406), .val (.int c_408), .val (.int c_410), .val (.int c_412), .val (.ref b414), .val (.int (0 : Int32)), .unset] [(.int (1 : Int32))]) (fun _ k => st1037 _ k) ?_
          refine WinW.to T1037 (mkF m 139 #[.val (.int p0), .val (.int p1), .val (.int p2), .val (.int p3), .val (.int p4), .val (.int nn.toInt32), .val (.int c_406), .val (.int c_408), .val (.int c_410), .val (.int c_412), .val (.ref b414), .val (.int (0 : Int32)), .unset] []) (fun _ k => XS.ifNo X1037.here hx rfl (hb hby at_136) rfl ((if0 _ _).trans (feq (show ¬ ((1 : Int32) = (0 : Int32)) from by decide)).1) k) ?_
          refine WinW.to T1037 (mkF m 141 #[.val (.int p0), .val (.int p1), .val (.int p2), .val (.int p3), .val (.int p4), .val (.int nn.toInt32), .val (.int c_406), .val (.int c_408), .val (.int c_410), .val (.int c_412), .val (.ref b414), .val (.int (0 : Int32)), .unset] [(.int (0 : Int32))]) (fun _ k => XS.iload X1037.here hx rfl (hb hby at_139) rfl k) ?_
          refine WinW.to T1037 (mkF m 142 #[.val (.int p0), .val (.int p1), .val (.int p2), .val (.int p3), .val (.int p4), .val (.int nn.toInt32), .val (.int c_406), .val (.int c_408), .val (.int c_410), .val (.int c_412), .val (.ref b414), .val (.int (0 : Int32)), .unset] [(.int (1 : Int32)), (.int (0 : Int32))]) (fun _ k => XS.iconst X1037.here hx rfl (hb hby at_141) k) ?_
          refine WinW.to T1037 (mkF m 143 #[.val (.int p0), .val (.int p1), .val (.int p2), .val (.int p3), .val (.int p4), .val (.int nn.toInt32), .val (.int c_406), .val (.int c_408), .val (.int c_410), .val (.int c_412), .val (.ref b414), .val (.int (0 : Int32)), .unset] [(.int (1 : Int32))]) (fun _ k => XS.iadd X1037.here hx rfl (hb hby at_142) rfl (by rw [show ((0 : Int32) + (1 : Int32)) = (1 : Int32) from by decide]; exact k)) ?_
          refine WinW.to T1037 (mkF m 145 #[.val (.int p0), .val (.int p1), .val (.int p2), .val (.int p3), .val (.int p4), .val (.int nn.toInt32), .val (.int c_406), .val (.int c_408), .val (.int c_410), .val (.int c_412), .val (.ref b414), .val (.int (1 : Int32)), .unset] []) (fun _ k => XS.istore X1037.here hx rfl (hb hby at_143) rfl (l' := #[.val (.int p0), .val (.int p1), .val (.int p2), .val (.int p3), .val (.int p4), .val (.int nn.toInt32), .val (.int c_406), .val (.int c_408), .val (.int c_410), .val (.int c_412), .val (.ref b414), .val (.int (1 : Int32)), .unset]) rfl k) ?_
          refine WinW.to T1037 (mkF m 147 #[.val (.int p0), .val (.int p1), .val (.int p2), .val (.int p3), .val (.int p4), .val (.int nn.toInt32), .val (.int c_406), .val (.int c_408), .val (.int c_410), .val (.int c_412), .val (.ref b414), .val (.int (1 : Int32)), .unset] [(.int nn.toInt32)]) (fun _ k => XS.iload X1037.here hx rfl (hb hby at_145) rfl k) ?_
          refine WinW.to T1037 (mkF m 148 #[.val (.int p0), .val (.int p1), .val (.int p2), .val (.int p3), .val (.int p4), .val (.int nn.toInt32), .val (.int c_406), .val (.int c_408), .val (.int c_410), .val (.int c_412), .val (.ref b414), .val (.int (1 : Int32)), .unset] [(.int (1 : Int32)), (.int nn.toInt32)]) (fun _ k => XS.iconst X1037.here hx rfl (hb hby at_147) k) ?_
          refine WinW.to T1037 (mkF m 151 #[.val (.int p0), .val (.int p1), .val (.int p2), .val (.int p3), .val (.int p4), .val (.int nn.toInt32), .val (.int c_406), .val (.int c_408), .val (.int c_410), .val (.int c_412), .val (.ref b414), .val (.int (1 : Int32)), .unset] []) (fun _ k => XS.icmpNo X1037.here hx rfl (hb hby at_148) rfl (flt (show ¬ (nn.toInt32 < (1 : Int32)) from (fun q => absurd ((own_lt (n := 1) hbn (by decide)).mp q) (by omega)))).1 k) ?_
          refine WinW.to T1037 (mkF m 153 #[.val (.int p0), .val (.int p1), .val (.int p2), .val (.int p3), .val (.int p4), .val (.int nn.toInt32), .val (.int c_406), .val (.int c_408), .val (.int c_410), .val (.int c_412), .val (.ref b414), .val (.int (1 : Int32)), .unset] [(.int nn.toInt32)]) (fun _ k => XS.iload X1037.here hx rfl (hb hby at_151) rfl k) ?_
          refine WinW.to T1037 (mkF m 155 #[.val (.int p0), .val (.int p1), .val (.int p2), .val (.int p3), .val (.int p4), .val (.int nn.toInt32), .val (.int c_406), .val (.int c_408), .val (.int c_410), .val (.int c_412), .val (.ref b414), .val (.int (1 : Int32)), .unset] [(.int (1 : Int32)), (.int nn.toInt32)]) (fun _ k => XS.iload X1037.here hx rfl (hb hby at_153) rfl k) ?_
          refine WinW.to T1037 (mkF m 156 #[.val (.int p0), .val (.int p1), .val (.int p2), .val (.int p3), .val (.int p4), .val (.int nn.toInt32), .val (.int c_406), .val (.int c_408), .val (.int c_410), .val (.int c_412), .val (.ref b414), .val (.int (1 : Int32)), .unset] [(.int (nn - 1).toInt32)]) (fun _ k => XS.isub X1037.here hx rfl (hb hby at_155) rfl (by rw [show (nn.toInt32 - (1 : Int32)) = (nn - 1).toInt32 from own_sub (b := 1) (by decide) hbn (by omega)]; exact k)) ?_
          refine WinW.to T1037 (mkF m 159 #[.val (.int p0), .val (.int p1), .val (.int p2), .val (.int p3), .val (.int p4), .val (.int nn.toInt32), .val (.int c_406), .val (.int c_408), .val (.int c_410), .val (.int c_412), .val (.ref b414), .val (.int (1 : Int32)), .unset] [(.int (512 : Int32)), (.int (nn - 1).toInt32)]) (fun _ k => XS.sipush X1037.here hx rfl (hb hby at_156) k) ?_
          by_cases h512 : 512 < (nn - 1)
          · refine WinW.to T1037 (mkF m 166 #[.val (.int p0), .val (.int p1), .val (.int p2), .val (.int p3), .val (.int p4), .val (.int nn.toInt32), .val (.int c_406), .val (.int c_408), .val (.int c_410), .val (.int c_412), .val (.ref b414), .val (.int (1 : Int32)), .unset] []) (fun _ k => XS.icmpYes X1037.here hx rfl (pc0 := 159) (pc' := 166) rfl (hb hby at_159) rfl (tlt (show (512 : Int32) < (nn - 1).toInt32 from ((own_lt (j := 512) (by decide) (by omega)).mpr h512))).2.2.1 (by decide) (by decide) k) ?_
            refine WinW.to T1037 (mkF m 167 #[.val (.int p0), .val (.int p1), .val (.int p2), .val (.int p3), .val (.int p4), .val (.int nn.toInt32), .val (.int c_406), .val (.int c_408), .val (.int c_410), .val (.int c_412), .val (.ref b414), .val (.int (1 : Int32)), .unset] [(.int (0 : Int32))]) (fun _ k => XS.iconst X1037.here hx rfl (hb hby at_166) k) ?_
            refine WinW.to T1037 (mkF m 169 #[.val (.int p0), .val (.int p1), .val (.int p2), .val (.int p3), .val (.int p4), .val (.int nn.toInt32), .val (.int c_406), .val (.int c_408), .val (.int c_410), .val (.int c_412), .val (.ref b414), .val (.int (1 : Int32)), .val (.int (0 : Int32))] []) (fun _ k => XS.istore X1037.here hx rfl (hb hby at_167) rfl (l' := #[.val (.int p0), .val (.int p1), .val (.int p2), .val (.int p3), .val (.int p4), .val (.int nn.toInt32), .val (.int c_406), .val (.int c_408), .val (.int c_410), .val (.int c_412), .val (.ref b414), .val (.int (1 : Int32)), .val (.int (0 : Int32))]) rfl k) ?_
            obtain ⟨T1039, h1039, X1039, e1039, E1039, A1039, D1039, -, st1039⟩ := newO X1037 hx hZ hown (wk hw 6 rfl) (wk hw 7 rfl) (wk hw 8 rfl) e1037 (g := (mkF m 169 #[.val (.int p0), .val (.int p1), .val (.int p2), .val (.int p3), .val (.int p4), .val (.int nn.toInt32), .val (.int c_406), .val (.int c_408), .val (.int c_410), .val (.int c_412), .val (.ref b414), .val (.int (1 : Int32)), .val (.int (0 : Int32))] [])) rfl (hb hby at_169) (by decide) (by decide)
            obtain ⟨b1039, g1039⟩ : ∃ z, z = h636.size := ⟨_, rfl⟩
            rw [← g1039] at A1039 D1039 st1039
            have ne1040 : b414 ≠ b1039 := Nat.ne_of_lt (Nat.lt_of_lt_of_le F642.lt (Nat.le_of_eq g1039.symm))
            have g1041 : n0 ≤ b1039 := Nat.le_trans (own_le O637) (Nat.le_of_eq g1039.symm)
            have z1042 : h0.size ≤ b1039 := Nat.le_trans K638.1 (Nat.le_of_eq g1039.symm)
            have O1043 := Old.ext O637 E1039
            have K1044 : Keep h0 h1039 [] := K638.ext E1039
            have c1045 := CHr.ext E1039 C641.1
            have C1046 := CHr.trans C641 c1045
            have F1047 : Fld Z h1039 b1039 "java/lang/String" "value" "[B" .null := D1039 (Or.inr (wk hw 21 rfl)) (ty := (.array .byte)) (by decide)
            have F1048 : Fld Z h1039 b1039 "java/lang/String" "coder" "B" (.int (0 : Int32)) := D1039 (Or.inr (wk hw 22 rfl)) (ty := .byte) (by decide)
            refine WinW.to T1039 (mkF m 172 #[.val (.int p0), .val (.int p1), .val (.int p2), .val (.int p3), .val (.int p4), .val (.int nn.toInt32), .val (.int c_406), .val (.int c_408), .val (.int c_410), .val (.int c_412), .val (.ref b414), .val (.int (1 : Int32)), .val (.int (0 : Int32))] [(.ref b1039)]) (fun _ k => st1039 _ k) ?_
            refine WinW.to T1039 (mkF m 173 #[.val (.int p0), .val (.int p1), .val (.int p2), .val (.int p3), .val (.int p4), .val (.int nn.toInt32), .val (.int c_406), .val (.int c_408), .val (.int c_410), .val (.int c_412), .val (.ref b414), .val (.int (1 : Int32)), .val (.int (0 : Int32))] [(.ref b1039), (.ref b1039)]) (fun _ k => XS.dup X1039.here hx rfl (hb hby at_172) rfl rfl k) ?_
            refine WinW.to T1039 (mkF m 175 #[.val (.int p0), .val (.int p1), .val (.int p2), .val (.int p3), .val (.int p4), .val (.int nn.toInt32), .val (.int c_406), .val (.int c_408), .val (.int c_410), .val (.int c_412), .val (.ref b414), .val (.int (1 : Int32)), .val (.int (0 : Int32))] [(.ref b414), (.ref b1039), (.ref b1039)]) (fun _ k => XS.aload X1039.here hx rfl (hb hby at_173) rfl rfl k) ?_
            have F1049 : ArF Z h1039 b414 k414 .char nn (upd (upd (upd (upd (fun _ => 0) 0 c_406) 1 c_408) (nn - 2) c_410) (nn - 1) c_412) := (F642.ext E1039)
            have S1051 : Safe Z EL1 (s.setVm s.vm).vm h1039 b1039 := own_safe hZ.alike A1039 F1047 (wk hw 7 rfl)
            obtain ⟨T1050, h1050, v1050, L1050, X1050, e1050, ⟨t_1050, kb_1050, rfl, N1050q, r1050_0, r1050_1, r1050_2, r1050_3, r1050_4⟩, st1050⟩ := N.special X1039 hx hZ (y := (⟨"java/lang/String", "<init>", "([C)V"⟩ : MethodName)) rfl hown (wk hw 9 rfl) (wk hw 10 rfl) (wk hw 8 rfl) (wk hw 11 rfl) (by decide) (ctor1u l Z a0 hw b1039 b414 k414 nn (upd (upd (upd (upd (fun _ => 0) 0 c_406) 1 c_408) (nn - 2) c_410) (nn - 1) c_412) cs h1039 n0 O1043 A1039 F1047 F1048 F1049 hle (⟨nn - 2, by omega, own_F3y (by omega) hsu1033⟩) g1041 S_AD S_HI S_LO S_CS hcs) e1039 (g := (mkF m 175 #[.val (.int p0), .val (.int p1), .val (.int p2), .val (.int p3), .val (.int p4), .val (.int nn.toInt32), .val (.int c_406), .val (.int c_408), .val (.int c_410), .val (.int c_412), .val (.ref b414), .val (.int (1 : Int32)), .val (.int (0 : Int32))] [(.ref b414), (.ref b1039), (.ref b1039)])) rfl (by rw [hml]; rfl) (a := b1039) (argsL := [(.ref b414)]) (rest := [(.ref b1039)]) rfl (lenOf pd___C_V rfl) rfl (W := 1) (by show 2 * 0 + _ ≤ _; exact Nat.le_of_eq rfl) (hb hby at_175) (by decide) (by decide) (by decide) (by decide)
            have N1052 := Fr.app N1038 N1050q
            have ne1053 : b414 ≠ t_1050 := Nat.ne_of_lt (Nat.lt_of_lt_of_le F1049.lt r1050_1)
            have ne1054 : b1039 ≠ t_1050 := Nat.ne_of_lt (Nat.lt_of_lt_of_le A1039.lt r1050_1)
            have g1055 : n0 ≤ t_1050 := Nat.le_trans (own_le O1043) r1050_1
            have z1056 : h0.size ≤ t_1050 := Nat.le_trans K1044.1 r1050_1
            have O1057 := Old.keep O1043 r1050_0 (allS g1041 all0)
            have K1058 : Keep h0 h1050 [] := Keep.trans K1044 r1050_0 (allS (Or.inr z1042) all0)
            have c1059 := CHr.keep r1050_0 (sfS S1051 sf0) C1046.1
            have C1060 := CHr.trans C1046 c1059
            have S1061 := CHr.safe c1059 A1039.lt S1051
            refine WinW.to T1050 (mkF m 178 #[.val (.int p0), .val (.int p1), .val (.int p2), .val (.int p3), .val (.int p4), .val (.int nn.toInt32), .val (.int c_406), .val (.int c_408), .val (.int c_410), .val (.int c_412), .val (.ref b414), .val (.int (1 : Int32)), .val (.int (0 : Int32))] [(.ref b1039)]) (fun _ k => st1050 _ k) ?_
            have F1062 : Exa Z h1050 b1039 "java/lang/String" := (A1039.keep r1050_0)
            have F1063 : ArF Z h1050 b414 k414 .char nn (upd (upd (upd (upd (fun _ => 0) 0 c_406) 1 c_408) (nn - 2) c_410) (nn - 1) c_412) := (F1049.keep r1050_0 (ninS ne1040 nin0))
            obtain ⟨T1064, h1064, v1064, L1064, X1064, e1064, ⟨rfl, N1064q, r1064_0⟩, st1064⟩ := N.static X1050 hx hZ (y := (⟨"com/example/usher/usher/lifecycle/ExecutionKey", "fits", "(Ljava/lang/String;)Z"⟩ : MethodName)) hown (wk hw 27 rfl) (wk hw 28 rfl) (wk hw 29 rfl) (wk hw 30 rfl) (by decide) (fitU0 l Z a0 hw b1039 t_1050 kb_1050 nn (upd (upd (upd (upd (fun _ => 0) 0 c_406) 1 c_408) (nn - 2) c_410) (nn - 1) c_412) 1 cs h1050 n0 O1057 F1062 r1050_2 r1050_3 r1050_4 (own_fr F1063) (by omega) ((own_cp3 (by omega)).trans (by rw [if_neg (fun q => hsu643 q.1), if_pos ⟨hsu1033, hsu1036⟩])) h512 S_AD S_HI S_LO S_CS hcs) e1050 (g := (mkF m 178 #[.val (.int p0), .val (.int p1), .val (.int p2), .val (.int p3), .val (.int p4), .val (.int nn.toInt32), .val (.int c_406), .val (.int c_408), .val (.int c_410), .val (.int c_412), .val (.ref b414), .val (.int (1 : Int32)), .val (.int (0 : Int32))] [(.ref b1039)])) rfl (by rw [hml]; rfl) (argsL := [(.ref b1039)]) (rest := []) rfl (lenOf pd__Ljava_lang_String__Z rfl) rfl (W := 0) (by show 2 * 0 + _ ≤ _; exact Nat.le_of_eq rfl) (hb hby at_178) (by decide) (by decide) (by decide) (by decide)
            have N1065 := Fr.app N1052 N1064q
            have e1064 := e1064.trans r1064_0
            refine WinW.to T1064 (mkF m 181 #[.val (.int p0), .val (.int p1), .val (.int p2), .val (.int p3), .val (.int p4), .val (.int nn.toInt32), .val (.int c_406), .val (.int c_408), .val (.int c_410), .val (.int c_412), .val (.ref b414), .val (.int (1 : Int32)), .val (.int (0 : Int32))] [(.int (0 : Int32))]) (fun _ k => st1064 _ k) ?_
            refine WinW.to T1064 (mkF m 183 #[.val (.int p0), .val (.int p1), .val (.int p2), .val (.int p3), .val (.int p4), .val (.int nn.toInt32), .val (.int c_406), .val (.int c_408), .val (.int c_410), .val (.int c_412), .val (.ref b414), .val (.int (1 : Int32)), .val (.int (0 : Int32))] [(.int (0 : Int32)), (.int (0 : Int32))]) (fun _ k => XS.iload X1064.here hx rfl (hb hby at_181) rfl k) ?_
            refine WinW.to T1064 (mkF m 186 #[.val (.int p0), .val (.int p1), .val (.int p2), .val (.int p3), .val (.int p4), .val (.int nn.toInt32), .val (.int c_406), .val (.int c_408), .val (.int c_410), .val (.int c_412), .val (.ref b414), .val (.int (1 : Int32)), .val (.int (0 : Int32))] []) (fun _ k => XS.icmpNo X1064.here hx rfl (hb hby at_183) rfl (teq (show (0 : Int32) = (0 : Int32) from by decide)).2 k) ?_
            refine WinW.to T1064 (mkF m 187 #[.val (.int p0), .val (.int p1), .val (.int p2), .val (.int p3), .val (.int p4), .val (.int nn.toInt32), .val (.int c_406), .val (.int c_408), .val (.int c_410), .val (.int c_412), .val (.ref b414), .val (.int (1 : Int32)), .val (.int (0 : Int32))] [(.int (1 : Int32))]) (fun _ k => XS.iconst X1064.here hx rfl (hb hby at_186) k) ?_
            refine WinW.to T1064 (mkF m 191 #[.val (.int p0), .val (.int p1), .val (.int p2), .val (.int p3), .val (.int p4), .val (.int nn.toInt32), .val (.int c_406), .val (.int c_408), .val (.int c_410), .val (.int c_412), .val (.ref b414), .val (.int (1 : Int32)), .val (.int (0 : Int32))] [(.int (1 : Int32))]) (fun _ k => XS.goto X1064.here hx rfl (pc0 := 187) (pc' := 191) rfl (hb hby at_187) (by decide) (by decide) k) ?_
            exact WinW.retN X1064 hS0 (by rw [e1064]; exact (Nat.zero_le _)) hx hlk (t := .boolean) hret (by simp) rfl (hb hby at_191) hZ (own_EW hw) (by rw [e1064]; exact C1060) (by decide) (by decide) (by (try rw [e1064]); exact ⟨rfl, N1065, trivial⟩)
          · refine WinW.to T1037 (mkF m 162 #[.val (.int p0), .val (.int p1), .val (.int p2), .val (.int p3), .val (.int p4), .val (.int nn.toInt32), .val (.int c_406), .val (.int c_408), .val (.int c_410), .val (.int c_412), .val (.ref b414), .val (.int (1 : Int32)), .unset] []) (fun _ k => XS.icmpNo X1037.here hx rfl (hb hby at_159) rfl (flt (show ¬ ((512 : Int32) < (nn - 1).toInt32) from (fun q => h512 ((own_lt (j := 512) (by decide) (by omega)).mp q)))).2.2.1 k) ?_
            refine WinW.to T1037 (mkF m 163 #[.val (.int p0), .val (.int p1), .val (.int p2), .val (.int p3), .val (.int p4), .val (.int nn.toInt32), .val (.int c_406), .val (.int c_408), .val (.int c_410), .val (.int c_412), .val (.ref b414), .val (.int (1 : Int32)), .unset] [(.int (1 : Int32))]) (fun _ k => XS.iconst X1037.here hx rfl (hb hby at_162) k) ?_
            refine WinW.to T1037 (mkF m 167 #[.val (.int p0), .val (.int p1), .val (.int p2), .val (.int p3), .val (.int p4), .val (.int nn.toInt32), .val (.int c_406), .val (.int c_408), .val (.int c_410), .val (.int c_412), .val (.ref b414), .val (.int (1 : Int32)), .unset] [(.int (1 : Int32))]) (fun _ k => XS.goto X1037.here hx rfl (pc0 := 163) (pc' := 167) rfl (hb hby at_163) (by decide) (by decide) k) ?_
            refine WinW.to T1037 (mkF m 169 #[.val (.int p0), .val (.int p1), .val (.int p2), .val (.int p3), .val (.int p4), .val (.int nn.toInt32), .val (.int c_406), .val (.int c_408), .val (.int c_410), .val (.int c_412), .val (.ref b414), .val (.int (1 : Int32)), .val (.int (1 : Int32))] []) (fun _ k => XS.istore X1037.here hx rfl (hb hby at_167) rfl (l' := #[.val (.int p0), .val (.int p1), .val (.int p2), .val (.int p3), .val (.int p4), .val (.int nn.toInt32), .val (.int c_406), .val (.int c_408), .val (.int c_410), .val (.int c_412), .val (.ref b414), .val (.int (1 : Int32)), .val (.int (1 : Int32))]) rfl k) ?_
            obtain ⟨T1066, h1066, X1066, e1066, E1066, A1066, D1066, -, st1066⟩ := newO X1037 hx hZ hown (wk hw 6 rfl) (wk hw 7 rfl) (wk hw 8 rfl) e1037 (g := (mkF m 169 #[.val (.int p0), .val (.int p1), .val (.int p2), .val (.int p3), .val (.int p4), .val (.int nn.toInt32), .val (.int c_406), .val (.int c_408), .val (.int c_410), .val (.int c_412), .val (.ref b414), .val (.int (1 : Int32)), .val (.int (1 : Int32))] [])) rfl (hb hby at_169) (by decide) (by decide)
            obtain ⟨b1066, g1066⟩ : ∃ z, z = h636.size := ⟨_, rfl⟩
            rw [← g1066] at A1066 D1066 st1066
            have ne1067 : b414 ≠ b1066 := Nat.ne_of_lt (Nat.lt_of_lt_of_le F642.lt (Nat.le_of_eq g1066.symm))
            have g1068 : n0 ≤ b1066 := Nat.le_trans (own_le O637) (Nat.le_of_eq g1066.symm)
            have z1069 : h0.size ≤ b1066 := Nat.le_trans K638.1 (Nat.le_of_eq g1066.symm)
            have O1070 := Old.ext O637 E1066
            have K1071 : Keep h0 h1066 [] := K638.ext E1066
            have c1072 := CHr.ext E1066 C641.1
            have C1073 := CHr.trans C641 c1072
            have F1074 : Fld Z h1066 b1066 "java/lang/String" "value" "[B" .null := D1066 (Or.inr (wk hw 21 rfl)) (ty := (.array .byte)) (by decide)
            have F1075 : Fld Z h1066 b1066 "java/lang/String" "coder" "B" (.int (0 : Int32)) := D1066 (Or.inr (wk hw 22 rfl)) (ty := .byte) (by decide)
            refine WinW.to T1066 (mkF m 172 #[.val (.int p0), .val (.int p1), .val (.int p2), .val (.int p3), .val (.int p4), .val (.int nn.toInt32), .val (.int c_406), .val (.int c_408), .val (.int c_410), .val (.int c_412), .val (.ref b414), .val (.int (1 : Int32)), .val (.int (1 : Int32))] [(.ref b1066)]) (fun _ k => st1066 _ k) ?_
            refine WinW.to T1066 (mkF m 173 #[.val (.int p0), .val (.int p1), .val (.int p2), .val (.int p3), .val (.int p4), .val (.int nn.toInt32), .val (.int c_406), .val (.int c_408), .val (.int c_410), .val (.int c_412), .val (.ref b414), .val (.int (1 : Int32)), .val (.int (1 : Int32))] [(.ref b1066), (.ref b1066)]) (fun _ k => XS.dup X1066.here hx rfl (hb hby at_172) rfl rfl k) ?_
            refine WinW.to T1066 (mkF m 175 #[.val (.int p0), .val (.int p1), .val (.int p2), .val (.int p3), .val (.int p4), .val (.int nn.toInt32), .val (.int c_406), .val (.int c_408), .val (.int c_410), .val (.int c_412), .val (.ref b414), .val (.int (1 : Int32)), .val (.int (1 : Int32))] [(.ref b414), (.ref b1066), (.ref b1066)]) (fun _ k => XS.aload X1066.here hx rfl (hb hby at_173) rfl rfl k) ?_
            have F1076 : ArF Z h1066 b414 k414 .char nn (upd (upd (upd (upd (fun _ => 0) 0 c_406) 1 c_408) (nn - 2) c_410) (nn - 1) c_412) := (F642.ext E1066)
            have S1078 : Safe Z EL1 (s.setVm s.vm).vm h1066 b1066 := own_safe hZ.alike A1066 F1074 (wk hw 7 rfl)
            obtain ⟨T1077, h1077, v1077, L1077, X1077, e1077, ⟨t_1077, kb_1077, rfl, N1077q, r1077_0, r1077_1, r1077_2, r1077_3, r1077_4⟩, st1077⟩ := N.special X1066 hx hZ (y := (⟨"java/lang/String", "<init>", "([C)V"⟩ : MethodName)) rfl hown (wk hw 9 rfl) (wk hw 10 rfl) (wk hw 8 rfl) (wk hw 11 rfl) (by decide) (ctor1u l Z a0 hw b1066 b414 k414 nn (upd (upd (upd (upd (fun _ => 0) 0 c_406) 1 c_408) (nn - 2) c_410) (nn - 1) c_412) cs h1066 n0 O1070 A1066 F1074 F1075 F1076 hle (⟨nn - 2, by omega, own_F3y (by omega) hsu1033⟩) g1068 S_AD S_HI S_LO S_CS hcs) e1066 (g := (mkF m 175 #[.val (.int p0), .val (.int p1), .val (.int p2), .val (.int p3), .val (.int p4), .val (.int nn.toInt32), .val (.int c_406), .val (.int c_408), .val (.int c_410), .val (.int c_412), .val (.ref b414), .val (.int (1 : Int32)), .val (.int (1 : Int32))] [(.ref b414), (.ref b1066), (.ref b1066)])) rfl (by rw [hml]; rfl) (a := b1066) (argsL := [(.ref b414)]) (rest := [(.ref b1066)]) rfl (lenOf pd___C_V rfl) rfl (W := 1) (by show 2 * 0 + _ ≤ _; exact Nat.le_of_eq rfl) (hb hby at_175) (by decide) (by decide) (by decide) (by decide)
            have N1079 := Fr.app N1038 N1077q
            have ne1080 : b414 ≠ t_1077 := Nat.ne_of_lt (Nat.lt_of_lt_of_le F1076.lt r1077_1)
            have ne1081 : b1066 ≠ t_1077 := Nat.ne_of_lt (Nat.lt_of_lt_of_le A1066.lt r1077_1)
            have g1082 : n0 ≤ t_1077 := Nat.le_trans (own_le O1070) r1077_1
            have z1083 : h0.size ≤ t_1077 := Nat.le_trans K1071.1 r1077_1
            have O1084 := Old.keep O1070 r1077_0 (allS g1068 all0)
            have K1085 : Keep h0 h1077 [] := Keep.trans K1071 r1077_0 (allS (Or.inr z1069) all0)
            have c1086 := CHr.keep r1077_0 (sfS S1078 sf0) C1073.1
            have C1087 := CHr.trans C1073 c1086
            have S1088 := CHr.safe c1086 A1066.lt S1078
            refine WinW.to T1077 (mkF m 178 #[.val (.int p0), .val (.int p1), .val (.int p2), .val (.int p3), .val (.int p4), .val (.int nn.toInt32), .val (.int c_406), .val (.int c_408), .val (.int c_410), .val (.int c_412), .val (.ref b414), .val (.int (1 : Int32)), .val (.int (1 : Int32))] [(.ref b1066)]) (fun _ k => st1077 _ k) ?_
            have F1089 : Exa Z h1077 b1066 "java/lang/String" := (A1066.keep r1077_0)
            have F1090 : ArF Z h1077 b414 k414 .char nn (upd (upd (upd (upd (fun _ => 0) 0 c_406) 1 c_408) (nn - 2) c_410) (nn - 1) c_412) := (F1076.keep r1077_0 (ninS ne1067 nin0))
            obtain ⟨T1091, h1091, v1091, L1091, X1091, e1091, ⟨rfl, N1091q, r1091_0⟩, st1091⟩ := N.static X1077 hx hZ (y := (⟨"com/example/usher/usher/lifecycle/ExecutionKey", "fits", "(Ljava/lang/String;)Z"⟩ : MethodName)) hown (wk hw 27 rfl) (wk hw 28 rfl) (wk hw 29 rfl) (wk hw 30 rfl) (by decide) (fitU1 l Z a0 hw b1066 t_1077 kb_1077 nn (upd (upd (upd (upd (fun _ => 0) 0 c_406) 1 c_408) (nn - 2) c_410) (nn - 1) c_412) 1 cs h1077 n0 O1084 F1089 r1077_2 r1077_3 r1077_4 (own_fr F1090) (by omega) ((own_cp3 (by omega)).trans (by rw [if_neg (fun q => hsu643 q.1), if_pos ⟨hsu1033, hsu1036⟩])) h512 S_AD S_HI S_LO S_CS hcs) e1077 (g := (mkF m 178 #[.val (.int p0), .val (.int p1), .val (.int p2), .val (.int p3), .val (.int p4), .val (.int nn.toInt32), .val (.int c_406), .val (.int c_408), .val (.int c_410), .val (.int c_412), .val (.ref b414), .val (.int (1 : Int32)), .val (.int (1 : Int32))] [(.ref b1066)])) rfl (by rw [hml]; rfl) (argsL := [(.ref b1066)]) (rest := []) rfl (lenOf pd__Ljava_lang_String__Z rfl) rfl (W := 0) (by show 2 * 0 + _ ≤ _; exact Nat.le_of_eq rfl) (hb hby at_178) (by decide) (by decide) (by decide) (by decide)
            have N1092 := Fr.app N1079 N1091q
            have e1091 := e1091.trans r1091_0
            refine WinW.to T1091 (mkF m 181 #[.val (.int p0), .val (.int p1), .val (.int p2), .val (.int p3), .val (.int p4), .val (.int nn.toInt32), .val (.int c_406), .val (.int c_408), .val (.int c_410), .val (.int c_412), .val (.ref b414), .val (.int (1 : Int32)), .val (.int (1 : Int32))] [(.int (1 : Int32))]) (fun _ k => st1091 _ k) ?_
            refine WinW.to T1091 (mkF m 183 #[.val (.int p0), .val (.int p1), .val (.int p2), .val (.int p3), .val (.int p4), .val (.int nn.toInt32), .val (.int c_406), .val (.int c_408), .val (.int c_410), .val (.int c_412), .val (.ref b414), .val (.int (1 : Int32)), .val (.int (1 : Int32))] [(.int (1 : Int32)), (.int (1 : Int32))]) (fun _ k => XS.iload X1091.here hx rfl (hb hby at_181) rfl k) ?_
            refine WinW.to T1091 (mkF m 186 #[.val (.int p0), .val (.int p1), .val (.int p2), .val (.int p3), .val (.int p4), .val (.int nn.toInt32), .val (.int c_406), .val (.int c_408), .val (.int c_410), .val (.int c_412), .val (.ref b414), .val (.int (1 : Int32)), .val (.int (1 : Int32))] []) (fun _ k => XS.icmpNo X1091.here hx rfl (hb hby at_183) rfl (teq (show (1 : Int32) = (1 : Int32) from by decide)).2 k) ?_
            refine WinW.to T1091 (mkF m 187 #[.val (.int p0), .val (.int p1), .val (.int p2), .val (.int p3), .val (.int p4), .val (.int nn.toInt32), .val (.int c_406), .val (.int c_408), .val (.int c_410), .val (.int c_412), .val (.ref b414), .val (.int (1 : Int32)), .val (.int (1 : Int32))] [(.int (1 : Int32))]) (fun _ k => XS.iconst X1091.here hx rfl (hb hby at_186) k) ?_
            refine WinW.to T1091 (mkF m 191 #[.val (.int p0), .val (.int p1), .val (.int p2), .val (.int p3), .val (.int p4), .val (.int nn.toInt32), .val (.int c_406), .val (.int c_408), .val (.int c_410), .val (.int c_412), .val (.ref b414), .val (.int (1 : Int32)), .val (.int (1 : Int32))] [(.int (1 : Int32))]) (fun _ k => XS.goto X1091.here hx rfl (pc0 := 187) (pc' := 191) rfl (hb hby at_187) (by decide) (by decide) k) ?_
            exact WinW.retN X1091 hS0 (by rw [e1091]; exact (Nat.zero_le _)) hx hlk (t := .boolean) hret (by simp) rfl (hb hby at_191) hZ (own_EW hw) (by rw [e1091]; exact C1087) (by decide) (by decide) (by (try rw [e1091]); exact ⟨rfl, N1092, trivial⟩)
        · obtain ⟨T1093, h1093, v1093, L1093, X1093, e1093, ⟨rfl, N1093q, r1093_0⟩, st1093⟩ := N.static X1034 hx hZ (y := (⟨"com/example/usher/usher/lifecycle/ExecutionKeyFitsPinLaw", "isLow", "(C)Z"⟩ : MethodName)) hown (wk hw 115 rfl) (wk hw 116 rfl) (wk hw 2 rfl) (wk hw 117 rfl) (by decide) (ll0 l Z a0 hw c_412 h636 n0 O637 hsu1036) e1034 (g := (mkF m 133 #[.val (.int p0), .val (.int p1), .val (.int p2), .val (.int p3), .val (.int p4), .val (.int nn.toInt32), .val (.int c_406), .val (.int c_408), .val (.int c_410), .val (.int c_412), .val (.ref b414), .val (.int (0 : Int32)), .unset] [(.int c_412)])) rfl (by rw [hml]; rfl) (argsL := [(.int c_412)]) (rest := []) rfl (lenOf pd__C_Z rfl) rfl (W := 0) (by show 2 * 0 + _ ≤ _; exact Nat.le_of_eq rfl) (hb hby at_133) (by decide) (by decide) (by decide) (by decide)
          have N1094 := Fr.app N1035 N1093q
          have e1093 := e1093.trans r1093_0
          refine WinW.to T1093 (mkF m 136 #[.val (.int p0), .val (.int p1), .val (.int p2), .val (.int p3), .val (.int p4), .val (.int nn.toInt32), .val (.int c_406), .val (.int c_408), .val (.int c_410), .val (.int c_412), .val (.ref b414), .val (.int (0 : Int32)), .unset] [(.int (0 : Int32))]) (fun _ k => st1093 _ k) ?_
          refine WinW.to T1093 (mkF m 145 #[.val (.int p0), .val (.int p1), .val (.int p2), .val (.int p3), .val (.int p4), .val (.int nn.toInt32), .val (.int c_406), .val (.int c_408), .val (.int c_410), .val (.int c_412), .val (.ref b414), .val (.int (0 : Int32)), .unset] []) (fun _ k => XS.ifYes X1093.here hx rfl (pc0 := 136) (pc' := 145) rfl (hb hby at_136) rfl ((if0 _ _).trans (teq (show (0 : Int32) = (0 : Int32) from by decide)).1) (by decide) (by decide) k) ?_
          refine WinW.to T1093 (mkF m 147 #[.val (.int p0), .val (.int p1), .val (.int p2), .val (.int p3), .val (.int p4), .val (.int nn.toInt32), .val (.int c_406), .val (.int c_408), .val (.int c_410), .val (.int c_412), .val (.ref b414), .val (.int (0 : Int32)), .unset] [(.int nn.toInt32)]) (fun _ k => XS.iload X1093.here hx rfl (hb hby at_145) rfl k) ?_
          refine WinW.to T1093 (mkF m 148 #[.val (.int p0), .val (.int p1), .val (.int p2), .val (.int p3), .val (.int p4), .val (.int nn.toInt32), .val (.int c_406), .val (.int c_408), .val (.int c_410), .val (.int c_412), .val (.ref b414), .val (.int (0 : Int32)), .unset] [(.int (1 : Int32)), (.int nn.toInt32)]) (fun _ k => XS.iconst X1093.here hx rfl (hb hby at_147) k) ?_
          refine WinW.to T1093 (mkF m 151 #[.val (.int p0), .val (.int p1), .val (.int p2), .val (.int p3), .val (.int p4), .val (.int nn.toInt32), .val (.int c_406), .val (.int c_408), .val (.int c_410), .val (.int c_412), .val (.ref b414), .val (.int (0 : Int32)), .unset] []) (fun _ k => XS.icmpNo X1093.here hx rfl (hb hby at_148) rfl (flt (show ¬ (nn.toInt32 < (1 : Int32)) from (fun q => absurd ((own_lt (n := 1) hbn (by decide)).mp q) (by omega)))).1 k) ?_
          refine WinW.to T1093 (mkF m 153 #[.val (.int p0), .val (.int p1), .val (.int p2), .val (.int p3), .val (.int p4), .val (.int nn.toInt32), .val (.int c_406), .val (.int c_408), .val (.int c_410), .val (.int c_412), .val (.ref b414), .val (.int (0 : Int32)), .unset] [(.int nn.toInt32)]) (fun _ k => XS.iload X1093.here hx rfl (hb hby at_151) rfl k) ?_
          refine WinW.to T1093 (mkF m 155 #[.val (.int p0), .val (.int p1), .val (.int p2), .val (.int p3), .val (.int p4), .val (.int nn.toInt32), .val (.int c_406), .val (.int c_408), .val (.int c_410), .val (.int c_412), .val (.ref b414), .val (.int (0 : Int32)), .unset] [(.int (0 : Int32)), (.int nn.toInt32)]) (fun _ k => XS.iload X1093.here hx rfl (hb hby at_153) rfl k) ?_
          refine WinW.to T1093 (mkF m 156 #[.val (.int p0), .val (.int p1), .val (.int p2), .val (.int p3), .val (.int p4), .val (.int nn.toInt32), .val (.int c_406), .val (.int c_408), .val (.int c_410), .val (.int c_412), .val (.ref b414), .val (.int (0 : Int32)), .unset] [(.int nn.toInt32)]) (fun _ k => XS.isub X1093.here hx rfl (hb hby at_155) rfl (by rw [show (nn.toInt32 - (0 : Int32)) = nn.toInt32 from Int32.sub_zero _]; exact k)) ?_
          refine WinW.to T1093 (mkF m 159 #[.val (.int p0), .val (.int p1), .val (.int p2), .val (.int p3), .val (.int p4), .val (.int nn.toInt32), .val (.int c_406), .val (.int c_408), .val (.int c_410), .val (.int c_412), .val (.ref b414), .val (.int (0 : Int32)), .unset] [(.int (512 : Int32)), (.int nn.toInt32)]) (fun _ k => XS.sipush X1093.here hx rfl (hb hby at_156) k) ?_
          by_cases h512 : 512 < nn
          · refine WinW.to T1093 (mkF m 166 #[.val (.int p0), .val (.int p1), .val (.int p2), .val (.int p3), .val (.int p4), .val (.int nn.toInt32), .val (.int c_406), .val (.int c_408), .val (.int c_410), .val (.int c_412), .val (.ref b414), .val (.int (0 : Int32)), .unset] []) (fun _ k => XS.icmpYes X1093.here hx rfl (pc0 := 159) (pc' := 166) rfl (hb hby at_159) rfl (tlt (show (512 : Int32) < nn.toInt32 from ((own_lt (j := 512) (by decide) (by omega)).mpr h512))).2.2.1 (by decide) (by decide) k) ?_
            refine WinW.to T1093 (mkF m 167 #[.val (.int p0), .val (.int p1), .val (.int p2), .val (.int p3), .val (.int p4), .val (.int nn.toInt32), .val (.int c_406), .val (.int c_408), .val (.int c_410), .val (.int c_412), .val (.ref b414), .val (.int (0 : Int32)), .unset] [(.int (0 : Int32))]) (fun _ k => XS.iconst X1093.here hx rfl (hb hby at_166) k) ?_
            refine WinW.to T1093 (mkF m 169 #[.val (.int p0), .val (.int p1), .val (.int p2), .val (.int p3), .val (.int p4), .val (.int nn.toInt32), .val (.int c_406), .val (.int c_408), .val (.int c_410), .val (.int c_412), .val (.ref b414), .val (.int (0 : Int32)), .val (.int (0 : Int32))] []) (fun _ k => XS.istore X1093.here hx rfl (hb hby at_167) rfl (l' := #[.val (.int p0), .val (.int p1), .val (.int p2), .val (.int p3), .val (.int p4), .val (.int nn.toInt32), .val (.int c_406), .val (.int c_408), .val (.int c_410), .val (.int c_412), .val (.ref b414), .val (.int (0 : Int32)), .val (.int (0 : Int32))]) rfl k) ?_
            obtain ⟨T1095, h1095, X1095, e1095, E1095, A1095, D1095, -, st1095⟩ := newO X1093 hx hZ hown (wk hw 6 rfl) (wk hw 7 rfl) (wk hw 8 rfl) e1093 (g := (mkF m 169 #[.val (.int p0), .val (.int p1), .val (.int p2), .val (.int p3), .val (.int p4), .val (.int nn.toInt32), .val (.int c_406), .val (.int c_408), .val (.int c_410), .val (.int c_412), .val (.ref b414), .val (.int (0 : Int32)), .val (.int (0 : Int32))] [])) rfl (hb hby at_169) (by decide) (by decide)
            obtain ⟨b1095, g1095⟩ : ∃ z, z = h636.size := ⟨_, rfl⟩
            rw [← g1095] at A1095 D1095 st1095
            have ne1096 : b414 ≠ b1095 := Nat.ne_of_lt (Nat.lt_of_lt_of_le F642.lt (Nat.le_of_eq g1095.symm))
            have g1097 : n0 ≤ b1095 := Nat.le_trans (own_le O637) (Nat.le_of_eq g1095.symm)
            have z1098 : h0.size ≤ b1095 := Nat.le_trans K638.1 (Nat.le_of_eq g1095.symm)
            have O1099 := Old.ext O637 E1095
            have K1100 : Keep h0 h1095 [] := K638.ext E1095
            have c1101 := CHr.ext E1095 C641.1
            have C1102 := CHr.trans C641 c1101
            have F1103 : Fld Z h1095 b1095 "java/lang/String" "value" "[B" .null := D1095 (Or.inr (wk hw 21 rfl)) (ty := (.array .byte)) (by decide)
            have F1104 : Fld Z h1095 b1095 "java/lang/String" "coder" "B" (.int (0 : Int32)) := D1095 (Or.inr (wk hw 22 rfl)) (ty := .byte) (by decide)
            refine WinW.to T1095 (mkF m 172 #[.val (.int p0), .val (.int p1), .val (.int p2), .val (.int p3), .val (.int p4), .val (.int nn.toInt32), .val (.int c_406), .val (.int c_408), .val (.int c_410), .val (.int c_412), .val (.ref b414), .val (.int (0 : Int32)), .val (.int (0 : Int32))] [(.ref b1095)]) (fun _ k => st1095 _ k) ?_
            refine WinW.to T1095 (mkF m 173 #[.val (.int p0), .val (.int p1), .val (.int p2), .val (.int p3), .val (.int p4), .val (.int nn.toInt32), .val (.int c_406), .val (.int c_408), .val (.int c_410), .val (.int c_412), .val (.ref b414), .val (.int (0 : Int32)), .val (.int (0 : Int32))] [(.ref b1095), (.ref b1095)]) (fun _ k => XS.dup X1095.here hx rfl (hb hby at_172) rfl rfl k) ?_
            refine WinW.to T1095 (mkF m 175 #[.val (.int p0), .val (.int p1), .val (.int p2), .val (.int p3), .val (.int p4), .val (.int nn.toInt32), .val (.int c_406), .val (.int c_408), .val (.int c_410), .val (.int c_412), .val (.ref b414), .val (.int (0 : Int32)), .val (.int (0 : Int32))] [(.ref b414), (.ref b1095), (.ref b1095)]) (fun _ k => XS.aload X1095.here hx rfl (hb hby at_173) rfl rfl k) ?_
            have F1105 : ArF Z h1095 b414 k414 .char nn (upd (upd (upd (upd (fun _ => 0) 0 c_406) 1 c_408) (nn - 2) c_410) (nn - 1) c_412) := (F642.ext E1095)
            by_cases hl : ∀ i, i < nn → ¬ (255 : Int32) < ((upd (upd (upd (upd (fun _ => 0) 0 c_406) 1 c_408) (nn - 2) c_410) (nn - 1) c_412) : Nat → Int32) i
            · obtain ⟨T1106, h1106, v1106, L1106, k1106, X1106, e1106, hS1106, hk1106, hZ1106, hown1106, ⟨t_1106, kb_1106, rfl, N1106q, r1106_0, r1106_1, r1106_2, r1106_3⟩, c1106, st1106⟩ := W.special X1095 hS0 (Nat.zero_le _) hx hZ (y := (⟨"java/lang/String", "<init>", "([C)V"⟩ : MethodName)) rfl hown (wk hw 9 rfl) (wk hw 10 rfl) (wk hw 8 rfl) (wk hw 11 rfl) (by decide) (ctor1 l Z a0 hw b1095 b414 k414 nn (upd (upd (upd (upd (fun _ => 0) 0 c_406) 1 c_408) (nn - 2) c_410) (nn - 1) c_412) cs h1095 n0 O1099 A1095 F1103 F1104 F1105 hl hle g1097 S_CS hcs) (own_EW hw) C1102.1 e1095 (g := (mkF m 175 #[.val (.int p0), .val (.int p1), .val (.int p2), .val (.int p3), .val (.int p4), .val (.int nn.toInt32), .val (.int c_406), .val (.int c_408), .val (.int c_410), .val (.int c_412), .val (.ref b414), .val (.int (0 : Int32)), .val (.int (0 : Int32))] [(.ref b414), (.ref b1095), (.ref b1095)])) rfl (by rw [hml]; rfl) (a := b1095) (argsL := [(.ref b414)]) (rest := [(.ref b1095)]) rfl (lenOf pd___C_V rfl) rfl (W := 1) (by show 2 * 0 + _ ≤ _; exact Nat.le_of_eq rfl) (hb hby at_175) (by decide) (by decide) (by decide) (by decide)
              have N1107 := Fr.app N1094 N1106q
              have O1108 := Old.keep O1099 r1106_0 (allS g1097 all0)
              have K1109 : Keep h0 h1106 [] := Keep.trans K1100 r1106_0 (allS (Or.inr z1098) all0)
              have c1110 := c1106
              have C1111 := CHr.trans C1102 c1110
              refine WinW.to T1106 (mkF m 178 #[.val (.int p0), .val (.int p1), .val (.int p2), .val (.int p3), .val (.int p4), .val (.int nn.toInt32), .val (.int c_406), .val (.int c_408), .val (.int c_410), .val (.int c_412), .val (.ref b414), .val (.int (0 : Int32)), .val (.int (0 : Int32))] [(.ref b1095)]) (fun _ k => st1106 _ k) ?_
              have F1112 : Exa Z h1106 b1095 "java/lang/String" := (A1095.keep r1106_0)
              obtain ⟨T1113, h1113, v1113, L1113, X1113, e1113, ⟨rfl, N1113q, r1113_0⟩, st1113⟩ := N.static X1106 hx hZ1106 (y := (⟨"com/example/usher/usher/lifecycle/ExecutionKey", "fits", "(Ljava/lang/String;)Z"⟩ : MethodName)) hown1106 (wk hw 27 rfl) (wk hw 28 rfl) (wk hw 29 rfl) (wk hw 30 rfl) (by decide) (fitL0 l Z a0 hw b1095 t_1106 kb_1106 nn (fun i => ((upd (upd (upd (upd (fun _ => 0) 0 c_406) 1 c_408) (nn - 2) c_410) (nn - 1) c_412) i).toInt8.toInt32) cs h1106 n0 O1108 F1112 r1106_1 r1106_2 r1106_3 (by omega) h512 S_CS hcs) e1106 (g := (mkF m 178 #[.val (.int p0), .val (.int p1), .val (.int p2), .val (.int p3), .val (.int p4), .val (.int nn.toInt32), .val (.int c_406), .val (.int c_408), .val (.int c_410), .val (.int c_412), .val (.ref b414), .val (.int (0 : Int32)), .val (.int (0 : Int32))] [(.ref b1095)])) rfl (by rw [hml]; rfl) (argsL := [(.ref b1095)]) (rest := []) rfl (lenOf pd__Ljava_lang_String__Z rfl) rfl (W := 0) (by show 2 * 0 + _ ≤ _; exact Nat.le_of_eq rfl) (hb hby at_178) (by decide) (by decide) (by decide) (by decide)
              have N1114 := Fr.app N1107 N1113q
              have e1113 := e1113.trans r1113_0
              refine WinW.to T1113 (mkF m 181 #[.val (.int p0), .val (.int p1), .val (.int p2), .val (.int p3), .val (.int p4), .val (.int nn.toInt32), .val (.int c_406), .val (.int c_408), .val (.int c_410), .val (.int c_412), .val (.ref b414), .val (.int (0 : Int32)), .val (.int (0 : Int32))] [(.int (0 : Int32))]) (fun _ k => st1113 _ k) ?_
              refine WinW.to T1113 (mkF m 183 #[.val (.int p0), .val (.int p1), .val (.int p2), .val (.int p3), .val (.int p4), .val (.int nn.toInt32), .val (.int c_406), .val (.int c_408), .val (.int c_410), .val (.int c_412), .val (.ref b414), .val (.int (0 : Int32)), .val (.int (0 : Int32))] [(.int (0 : Int32)), (.int (0 : Int32))]) (fun _ k => XS.iload X1113.here hx rfl (hb hby at_181) rfl k) ?_
              refine WinW.to T1113 (mkF m 186 #[.val (.int p0), .val (.int p1), .val (.int p2), .val (.int p3), .val (.int p4), .val (.int nn.toInt32), .val (.int c_406), .val (.int c_408), .val (.int c_410), .val (.int c_412), .val (.ref b414), .val (.int (0 : Int32)), .val (.int (0 : Int32))] []) (fun _ k => XS.icmpNo X1113.here hx rfl (hb hby at_183) rfl (teq (show (0 : Int32) = (0 : Int32) from by decide)).2 k) ?_
              refine WinW.to T1113 (mkF m 187 #[.val (.int p0), .val (.int p1), .val (.int p2), .val (.int p3), .val (.int p4), .val (.int nn.toInt32), .val (.int c_406), .val (.int c_408), .val (.int c_410), .val (.int c_412), .val (.ref b414), .val (.int (0 : Int32)), .val (.int (0 : Int32))] [(.int (1 : Int32))]) (fun _ k => XS.iconst X1113.here hx rfl (hb hby at_186) k) ?_
              refine WinW.to T1113 (mkF m 191 #[.val (.int p0), .val (.int p1), .val (.int p2), .val (.int p3), .val (.int p4), .val (.int nn.toInt32), .val (.int c_406), .val (.int c_408), .val (.int c_410), .val (.int c_412), .val (.ref b414), .val (.int (0 : Int32)), .val (.int (0 : Int32))] [(.int (1 : Int32))]) (fun _ k => XS.goto X1113.here hx rfl (pc0 := 187) (pc' := 191) rfl (hb hby at_187) (by decide) (by decide) k) ?_
              exact WinW.retN X1113 hS1106 (by rw [e1113]; exact hk1106) hx hlk (t := .boolean) hret (by simp) rfl (hb hby at_191) hZ1106 (own_EW hw) (by rw [e1113]; exact C1111) (by decide) (by decide) (by (try rw [e1113]); exact ⟨rfl, N1114, trivial⟩)
            · have S1116 : Safe Z EL1 (s.setVm s.vm).vm h1095 b1095 := own_safe hZ.alike A1095 F1103 (wk hw 7 rfl)
              obtain ⟨T1115, h1115, v1115, L1115, X1115, e1115, ⟨t_1115, kb_1115, rfl, N1115q, r1115_0, r1115_1, r1115_2, r1115_3, r1115_4⟩, st1115⟩ := N.special X1095 hx hZ (y := (⟨"java/lang/String", "<init>", "([C)V"⟩ : MethodName)) rfl hown (wk hw 9 rfl) (wk hw 10 rfl) (wk hw 8 rfl) (wk hw 11 rfl) (by decide) (ctor1u l Z a0 hw b1095 b414 k414 nn (upd (upd (upd (upd (fun _ => 0) 0 c_406) 1 c_408) (nn - 2) c_410) (nn - 1) c_412) cs h1095 n0 O1099 A1095 F1103 F1104 F1105 hle (Classical.byContradiction fun q => hl fun i hi hp => q ⟨i, hi, hp⟩) g1097 S_AD S_HI S_LO S_CS hcs) e1095 (g := (mkF m 175 #[.val (.int p0), .val (.int p1), .val (.int p2), .val (.int p3), .val (.int p4), .val (.int nn.toInt32), .val (.int c_406), .val (.int c_408), .val (.int c_410), .val (.int c_412), .val (.ref b414), .val (.int (0 : Int32)), .val (.int (0 : Int32))] [(.ref b414), (.ref b1095), (.ref b1095)])) rfl (by rw [hml]; rfl) (a := b1095) (argsL := [(.ref b414)]) (rest := [(.ref b1095)]) rfl (lenOf pd___C_V rfl) rfl (W := 1) (by show 2 * 0 + _ ≤ _; exact Nat.le_of_eq rfl) (hb hby at_175) (by decide) (by decide) (by decide) (by decide)
              have N1117 := Fr.app N1094 N1115q
              have ne1118 : b414 ≠ t_1115 := Nat.ne_of_lt (Nat.lt_of_lt_of_le F1105.lt r1115_1)
              have ne1119 : b1095 ≠ t_1115 := Nat.ne_of_lt (Nat.lt_of_lt_of_le A1095.lt r1115_1)
              have g1120 : n0 ≤ t_1115 := Nat.le_trans (own_le O1099) r1115_1
              have z1121 : h0.size ≤ t_1115 := Nat.le_trans K1100.1 r1115_1
              have O1122 := Old.keep O1099 r1115_0 (allS g1097 all0)
              have K1123 : Keep h0 h1115 [] := Keep.trans K1100 r1115_0 (allS (Or.inr z1098) all0)
              have c1124 := CHr.keep r1115_0 (sfS S1116 sf0) C1102.1
              have C1125 := CHr.trans C1102 c1124
              have S1126 := CHr.safe c1124 A1095.lt S1116
              refine WinW.to T1115 (mkF m 178 #[.val (.int p0), .val (.int p1), .val (.int p2), .val (.int p3), .val (.int p4), .val (.int nn.toInt32), .val (.int c_406), .val (.int c_408), .val (.int c_410), .val (.int c_412), .val (.ref b414), .val (.int (0 : Int32)), .val (.int (0 : Int32))] [(.ref b1095)]) (fun _ k => st1115 _ k) ?_
              have F1127 : Exa Z h1115 b1095 "java/lang/String" := (A1095.keep r1115_0)
              have F1128 : ArF Z h1115 b414 k414 .char nn (upd (upd (upd (upd (fun _ => 0) 0 c_406) 1 c_408) (nn - 2) c_410) (nn - 1) c_412) := (F1105.keep r1115_0 (ninS ne1096 nin0))
              obtain ⟨T1129, h1129, v1129, L1129, X1129, e1129, ⟨rfl, N1129q, r1129_0⟩, st1129⟩ := N.static X1115 hx hZ (y := (⟨"com/example/usher/usher/lifecycle/ExecutionKey", "fits", "(Ljava/lang/String;)Z"⟩ : MethodName)) hown (wk hw 27 rfl) (wk hw 28 rfl) (wk hw 29 rfl) (wk hw 30 rfl) (by decide) (fitU0 l Z a0 hw b1095 t_1115 kb_1115 nn (upd (upd (upd (upd (fun _ => 0) 0 c_406) 1 c_408) (nn - 2) c_410) (nn - 1) c_412) 0 cs h1115 n0 O1122 F1127 r1115_2 r1115_3 r1115_4 (own_fr F1128) (by omega) ((own_cp3 (by omega)).trans (by rw [if_neg (fun q => hsu643 q.1), if_neg (fun q => hsu1036 q.2)])) h512 S_AD S_HI S_LO S_CS hcs) e1115 (g := (mkF m 178 #[.val (.int p0), .val (.int p1), .val (.int p2), .val (.int p3), .val (.int p4), .val (.int nn.toInt32), .val (.int c_406), .val (.int c_408), .val (.int c_410), .val (.int c_412), .val (.ref b414), .val (.int (0 : Int32)), .val (.int (0 : Int32))] [(.ref b1095)])) rfl (by rw [hml]; rfl) (argsL := [(.ref b1095)]) (rest := []) rfl (lenOf pd__Ljava_lang_String__Z rfl) rfl (W := 0) (by show 2 * 0 + _ ≤ _; exact Nat.le_of_eq rfl) (hb hby at_178) (by decide) (by decide) (by decide) (by decide)
              have N1130 := Fr.app N1117 N1129q
              have e1129 := e1129.trans r1129_0
              refine WinW.to T1129 (mkF m 181 #[.val (.int p0), .val (.int p1), .val (.int p2), .val (.int p3), .val (.int p4), .val (.int nn.toInt32), .val (.int c_406), .val (.int c_408), .val (.int c_410), .val (.int c_412), .val (.ref b414), .val (.int (0 : Int32)), .val (.int (0 : Int32))] [(.int (0 : Int32))]) (fun _ k => st1129 _ k) ?_
              refine WinW.to T1129 (mkF m 183 #[.val (.int p0), .val (.int p1), .val (.int p2), .val (.int p3), .val (.int p4), .val (.int nn.toInt32), .val (.int c_406), .val (.int c_408), .val (.int c_410), .val (.int c_412), .val (.ref b414), .val (.int (0 : Int32)), .val (.int (0 : Int32))] [(.int (0 : Int32)), (.int (0 : Int32))]) (fun _ k => XS.iload X1129.here hx rfl (hb hby at_181) rfl k) ?_
              refine WinW.to T1129 (mkF m 186 #[.val (.int p0), .val (.int p1), .val (.int p2), .val (.int p3), .val (.int p4), .val (.int nn.toInt32), .val (.int c_406), .val (.int c_408), .val (.int c_410), .val (.int c_412), .val (.ref b414), .val (.int (0 : Int32)), .val (.int (0 : Int32))] []) (fun _ k => XS.icmpNo X1129.here hx rfl (hb hby at_183) rfl (teq (show (0 : Int32) = (0 : Int32) from by decide)).2 k) ?_
              refine WinW.to T1129 (mkF m 187 #[.val (.int p0), .val (.int p1), .val (.int p2), .val (.int p3), .val (.int p4), .val (.int nn.toInt32), .val (.int c_406), .val (.int c_408), .val (.int c_410), .val (.int c_412), .val (.ref b414), .val (.int (0 : Int32)), .val (.int (0 : Int32))] [(.int (1 : Int32))]) (fun _ k => XS.iconst X1129.here hx rfl (hb hby at_186) k) ?_
              refine WinW.to T1129 (mkF m 191 #[.val (.int p0), .val (.int p1), .val (.int p2), .val (.int p3), .val (.int p4), .val (.int nn.toInt32), .val (.int c_406), .val (.int c_408), .val (.int c_410), .val (.int c_412), .val (.ref b414), .val (.int (0 : Int32)), .val (.int (0 : Int32))] [(.int (1 : Int32))]) (fun _ k => XS.goto X1129.here hx rfl (pc0 := 187) (pc' := 191) rfl (hb hby at_187) (by decide) (by decide) k) ?_
              exact WinW.retN X1129 hS0 (by rw [e1129]; exact (Nat.zero_le _)) hx hlk (t := .boolean) hret (by simp) rfl (hb hby at_191) hZ (own_EW hw) (by rw [e1129]; exact C1125) (by decide) (by decide) (by (try rw [e1129]); exact ⟨rfl, N1130, trivial⟩)
          · refine WinW.to T1093 (mkF m 162 #[.val (.int p0), .val (.int p1), .val (.int p2), .val (.int p3), .val (.int p4), .val (.int nn.toInt32), .val (.int c_406), .val (.int c_408), .val (.int c_410), .val (.int c_412), .val (.ref b414), .val (.int (0 : Int32)), .unset] []) (fun _ k => XS.icmpNo X1093.here hx rfl (hb hby at_159) rfl (flt (show ¬ ((512 : Int32) < nn.toInt32) from (fun q => h512 ((own_lt (j := 512) (by decide) (by omega)).mp q)))).2.2.1 k) ?_
            refine WinW.to T1093 (mkF m 163 #[.val (.int p0), .val (.int p1), .val (.int p2), .val (.int p3), .val (.int p4), .val (.int nn.toInt32), .val (.int c_406), .val (.int c_408), .val (.int c_410), .val (.int c_412), .val (.ref b414), .val (.int (0 : Int32)), .unset] [(.int (1 : Int32))]) (fun _ k => XS.iconst X1093.here hx rfl (hb hby at_162) k) ?_
            refine WinW.to T1093 (mkF m 167 #[.val (.int p0), .val (.int p1), .val (.int p2), .val (.int p3), .val (.int p4), .val (.int nn.toInt32), .val (.int c_406), .val (.int c_408), .val (.int c_410), .val (.int c_412), .val (.ref b414), .val (.int (0 : Int32)), .unset] [(.int (1 : Int32))]) (fun _ k => XS.goto X1093.here hx rfl (pc0 := 163) (pc' := 167) rfl (hb hby at_163) (by decide) (by decide) k) ?_
            refine WinW.to T1093 (mkF m 169 #[.val (.int p0), .val (.int p1), .val (.int p2), .val (.int p3), .val (.int p4), .val (.int nn.toInt32), .val (.int c_406), .val (.int c_408), .val (.int c_410), .val (.int c_412), .val (.ref b414), .val (.int (0 : Int32)), .val (.int (1 : Int32))] []) (fun _ k => XS.istore X1093.here hx rfl (hb hby at_167) rfl (l' := #[.val (.int p0), .val (.int p1), .val (.int p2), .val (.int p3), .val (.int p4), .val (.int nn.toInt32), .val (.int c_406), .val (.int c_408), .val (.int c_410), .val (.int c_412), .val (.ref b414), .val (.int (0 : Int32)), .val (.int (1 : Int32))]) rfl k) ?_
            obtain ⟨T1131, h1131, X1131, e1131, E1131, A1131, D1131, -, st1131⟩ := newO X1093 hx hZ hown (wk hw 6 rfl) (wk hw 7 rfl) (wk hw 8 rfl) e1093 (g := (mkF m 169 #[.val (.int p0), .val (.int p1), .val (.int p2), .val (.int p3), .val (.int p4), .val (.int nn.toInt32), .val (.int c_406), .val (.int c_408), .val (.int c_410), .val (.int c_412), .val (.ref b414), .val (.int (0 : Int32)), .val (.int (1 : Int32))] [])) rfl (hb hby at_169) (by decide) (by decide)
            obtain ⟨b1131, g1131⟩ : ∃ z, z = h636.size := ⟨_, rfl⟩
            rw [← g1131] at A1131 D1131 st1131
            have ne1132 : b414 ≠ b1131 := Nat.ne_of_lt (Nat.lt_of_lt_of_le F642.lt (Nat.le_of_eq g1131.symm))
            have g1133 : n0 ≤ b1131 := Nat.le_trans (own_le O637) (Nat.le_of_eq g1131.symm)
            have z1134 : h0.size ≤ b1131 := Nat.le_trans K638.1 (Nat.le_of_eq g1131.symm)
            have O1135 := Old.ext O637 E1131
            have K1136 : Keep h0 h1131 [] := K638.ext E1131
            have c1137 := CHr.ext E1131 C641.1
            have C1138 := CHr.trans C641 c1137
            have F1139 : Fld Z h1131 b1131 "java/lang/String" "value" "[B" .null := D1131 (Or.inr (wk hw 21 rfl)) (ty := (.array .byte)) (by decide)
            have F1140 : Fld Z h1131 b1131 "java/lang/String" "coder" "B" (.int (0 : Int32)) := D1131 (Or.inr (wk hw 22 rfl)) (ty := .byte) (by decide)
            refine WinW.to T1131 (mkF m 172 #[.val (.int p0), .val (.int p1), .val (.int p2), .val (.int p3), .val (.int p4), .val (.int nn.toInt32), .val (.int c_406), .val (.int c_408), .val (.int c_410), .val (.int c_412), .val (.ref b414), .val (.int (0 : Int32)), .val (.int (1 : Int32))] [(.ref b1131)]) (fun _ k => st1131 _ k) ?_
            refine WinW.to T1131 (mkF m 173 #[.val (.int p0), .val (.int p1), .val (.int p2), .val (.int p3), .val (.int p4), .val (.int nn.toInt32), .val (.int c_406), .val (.int c_408), .val (.int c_410), .val (.int c_412), .val (.ref b414), .val (.int (0 : Int32)), .val (.int (1 : Int32))] [(.ref b1131), (.ref b1131)]) (fun _ k => XS.dup X1131.here hx rfl (hb hby at_172) rfl rfl k) ?_
            refine WinW.to T1131 (mkF m 175 #[.val (.int p0), .val (.int p1), .val (.int p2), .val (.int p3), .val (.int p4), .val (.int nn.toInt32), .val (.int c_406), .val (.int c_408), .val (.int c_410), .val (.int c_412), .val (.ref b414), .val (.int (0 : Int32)), .val (.int (1 : Int32))] [(.ref b414), (.ref b1131), (.ref b1131)]) (fun _ k => XS.aload X1131.here hx rfl (hb hby at_173) rfl rfl k) ?_
            have F1141 : ArF Z h1131 b414 k414 .char nn (upd (upd (upd (upd (fun _ => 0) 0 c_406) 1 c_408) (nn - 2) c_410) (nn - 1) c_412) := (F642.ext E1131)
            by_cases hl : ∀ i, i < nn → ¬ (255 : Int32) < ((upd (upd (upd (upd (fun _ => 0) 0 c_406) 1 c_408) (nn - 2) c_410) (nn - 1) c_412) : Nat → Int32) i
            · obtain ⟨T1142, h1142, v1142, L1142, k1142, X1142, e1142, hS1142, hk1142, hZ1142, hown1142, ⟨t_1142, kb_1142, rfl, N1142q, r1142_0, r1142_1, r1142_2, r1142_3⟩, c1142, st1142⟩ := W.special X1131 hS0 (Nat.zero_le _) hx hZ (y := (⟨"java/lang/String", "<init>", "([C)V"⟩ : MethodName)) rfl hown (wk hw 9 rfl) (wk hw 10 rfl) (wk hw 8 rfl) (wk hw 11 rfl) (by decide) (ctor1 l Z a0 hw b1131 b414 k414 nn (upd (upd (upd (upd (fun _ => 0) 0 c_406) 1 c_408) (nn - 2) c_410) (nn - 1) c_412) cs h1131 n0 O1135 A1131 F1139 F1140 F1141 hl hle g1133 S_CS hcs) (own_EW hw) C1138.1 e1131 (g := (mkF m 175 #[.val (.int p0), .val (.int p1), .val (.int p2), .val (.int p3), .val (.int p4), .val (.int nn.toInt32), .val (.int c_406), .val (.int c_408), .val (.int c_410), .val (.int c_412), .val (.ref b414), .val (.int (0 : Int32)), .val (.int (1 : Int32))] [(.ref b414), (.ref b1131), (.ref b1131)])) rfl (by rw [hml]; rfl) (a := b1131) (argsL := [(.ref b414)]) (rest := [(.ref b1131)]) rfl (lenOf pd___C_V rfl) rfl (W := 1) (by show 2 * 0 + _ ≤ _; exact Nat.le_of_eq rfl) (hb hby at_175) (by decide) (by decide) (by decide) (by decide)
              have N1143 := Fr.app N1094 N1142q
              have O1144 := Old.keep O1135 r1142_0 (allS g1133 all0)
              have K1145 : Keep h0 h1142 [] := Keep.trans K1136 r1142_0 (allS (Or.inr z1134) all0)
              have c1146 := c1142
              have C1147 := CHr.trans C1138 c1146
              refine WinW.to T1142 (mkF m 178 #[.val (.int p0), .val (.int p1), .val (.int p2), .val (.int p3), .val (.int p4), .val (.int nn.toInt32), .val (.int c_406), .val (.int c_408), .val (.int c_410), .val (.int c_412), .val (.ref b414), .val (.int (0 : Int32)), .val (.int (1 : Int32))] [(.ref b1131)]) (fun _ k => st1142 _ k) ?_
              have F1148 : Exa Z h1142 b1131 "java/lang/String" := (A1131.keep r1142_0)
              obtain ⟨T1149, h1149, v1149, L1149, X1149, e1149, ⟨rfl, N1149q, r1149_0⟩, st1149⟩ := N.static X1142 hx hZ1142 (y := (⟨"com/example/usher/usher/lifecycle/ExecutionKey", "fits", "(Ljava/lang/String;)Z"⟩ : MethodName)) hown1142 (wk hw 27 rfl) (wk hw 28 rfl) (wk hw 29 rfl) (wk hw 30 rfl) (by decide) (fitL1 l Z a0 hw b1131 t_1142 kb_1142 nn (fun i => ((upd (upd (upd (upd (fun _ => 0) 0 c_406) 1 c_408) (nn - 2) c_410) (nn - 1) c_412) i).toInt8.toInt32) cs h1142 n0 O1144 F1148 r1142_1 r1142_2 r1142_3 (by omega) h512 S_CS hcs) e1142 (g := (mkF m 178 #[.val (.int p0), .val (.int p1), .val (.int p2), .val (.int p3), .val (.int p4), .val (.int nn.toInt32), .val (.int c_406), .val (.int c_408), .val (.int c_410), .val (.int c_412), .val (.ref b414), .val (.int (0 : Int32)), .val (.int (1 : Int32))] [(.ref b1131)])) rfl (by rw [hml]; rfl) (argsL := [(.ref b1131)]) (rest := []) rfl (lenOf pd__Ljava_lang_String__Z rfl) rfl (W := 0) (by show 2 * 0 + _ ≤ _; exact Nat.le_of_eq rfl) (hb hby at_178) (by decide) (by decide) (by decide) (by decide)
              have N1150 := Fr.app N1143 N1149q
              have e1149 := e1149.trans r1149_0
              refine WinW.to T1149 (mkF m 181 #[.val (.int p0), .val (.int p1), .val (.int p2), .val (.int p3), .val (.int p4), .val (.int nn.toInt32), .val (.int c_406), .val (.int c_408), .val (.int c_410), .val (.int c_412), .val (.ref b414), .val (.int (0 : Int32)), .val (.int (1 : Int32))] [(.int (1 : Int32))]) (fun _ k => st1149 _ k) ?_
              refine WinW.to T1149 (mkF m 183 #[.val (.int p0), .val (.int p1), .val (.int p2), .val (.int p3), .val (.int p4), .val (.int nn.toInt32), .val (.int c_406), .val (.int c_408), .val (.int c_410), .val (.int c_412), .val (.ref b414), .val (.int (0 : Int32)), .val (.int (1 : Int32))] [(.int (1 : Int32)), (.int (1 : Int32))]) (fun _ k => XS.iload X1149.here hx rfl (hb hby at_181) rfl k) ?_
              refine WinW.to T1149 (mkF m 186 #[.val (.int p0), .val (.int p1), .val (.int p2), .val (.int p3), .val (.int p4), .val (.int nn.toInt32), .val (.int c_406), .val (.int c_408), .val (.int c_410), .val (.int c_412), .val (.ref b414), .val (.int (0 : Int32)), .val (.int (1 : Int32))] []) (fun _ k => XS.icmpNo X1149.here hx rfl (hb hby at_183) rfl (teq (show (1 : Int32) = (1 : Int32) from by decide)).2 k) ?_
              refine WinW.to T1149 (mkF m 187 #[.val (.int p0), .val (.int p1), .val (.int p2), .val (.int p3), .val (.int p4), .val (.int nn.toInt32), .val (.int c_406), .val (.int c_408), .val (.int c_410), .val (.int c_412), .val (.ref b414), .val (.int (0 : Int32)), .val (.int (1 : Int32))] [(.int (1 : Int32))]) (fun _ k => XS.iconst X1149.here hx rfl (hb hby at_186) k) ?_
              refine WinW.to T1149 (mkF m 191 #[.val (.int p0), .val (.int p1), .val (.int p2), .val (.int p3), .val (.int p4), .val (.int nn.toInt32), .val (.int c_406), .val (.int c_408), .val (.int c_410), .val (.int c_412), .val (.ref b414), .val (.int (0 : Int32)), .val (.int (1 : Int32))] [(.int (1 : Int32))]) (fun _ k => XS.goto X1149.here hx rfl (pc0 := 187) (pc' := 191) rfl (hb hby at_187) (by decide) (by decide) k) ?_
              exact WinW.retN X1149 hS1142 (by rw [e1149]; exact hk1142) hx hlk (t := .boolean) hret (by simp) rfl (hb hby at_191) hZ1142 (own_EW hw) (by rw [e1149]; exact C1147) (by decide) (by decide) (by (try rw [e1149]); exact ⟨rfl, N1150, trivial⟩)
            · have S1152 : Safe Z EL1 (s.setVm s.vm).vm h1131 b1131 := own_safe hZ.alike A1131 F1139 (wk hw 7 rfl)
              obtain ⟨T1151, h1151, v1151, L1151, X1151, e1151, ⟨t_1151, kb_1151, rfl, N1151q, r1151_0, r1151_1, r1151_2, r1151_3, r1151_4⟩, st1151⟩ := N.special X1131 hx hZ (y := (⟨"java/lang/String", "<init>", "([C)V"⟩ : MethodName)) rfl hown (wk hw 9 rfl) (wk hw 10 rfl) (wk hw 8 rfl) (wk hw 11 rfl) (by decide) (ctor1u l Z a0 hw b1131 b414 k414 nn (upd (upd (upd (upd (fun _ => 0) 0 c_406) 1 c_408) (nn - 2) c_410) (nn - 1) c_412) cs h1131 n0 O1135 A1131 F1139 F1140 F1141 hle (Classical.byContradiction fun q => hl fun i hi hp => q ⟨i, hi, hp⟩) g1133 S_AD S_HI S_LO S_CS hcs) e1131 (g := (mkF m 175 #[.val (.int p0), .val (.int p1), .val (.int p2), .val (.int p3), .val (.int p4), .val (.int nn.toInt32), .val (.int c_406), .val (.int c_408), .val (.int c_410), .val (.int c_412), .val (.ref b414), .val (.int (0 : Int32)), .val (.int (1 : Int32))] [(.ref b414), (.ref b1131), (.ref b1131)])) rfl (by rw [hml]; rfl) (a := b1131) (argsL := [(.ref b414)]) (rest := [(.ref b1131)]) rfl (lenOf pd___C_V rfl) rfl (W := 1) (by show 2 * 0 + _ ≤ _; exact Nat.le_of_eq rfl) (hb hby at_175) (by decide) (by decide) (by decide) (by decide)
              have N1153 := Fr.app N1094 N1151q
              have ne1154 : b414 ≠ t_1151 := Nat.ne_of_lt (Nat.lt_of_lt_of_le F1141.lt r1151_1)
              have ne1155 : b1131 ≠ t_1151 := Nat.ne_of_lt (Nat.lt_of_lt_of_le A1131.lt r1151_1)
              have g1156 : n0 ≤ t_1151 := Nat.le_trans (own_le O1135) r1151_1
              have z1157 : h0.size ≤ t_1151 := Nat.le_trans K1136.1 r1151_1
              have O1158 := Old.keep O1135 r1151_0 (allS g1133 all0)
              have K1159 : Keep h0 h1151 [] := Keep.trans K1136 r1151_0 (allS (Or.inr z1134) all0)
              have c1160 := CHr.keep r1151_0 (sfS S1152 sf0) C1138.1
              have C1161 := CHr.trans C1138 c1160
              have S1162 := CHr.safe c1160 A1131.lt S1152
              refine WinW.to T1151 (mkF m 178 #[.val (.int p0), .val (.int p1), .val (.int p2), .val (.int p3), .val (.int p4), .val (.int nn.toInt32), .val (.int c_406), .val (.int c_408), .val (.int c_410), .val (.int c_412), .val (.ref b414), .val (.int (0 : Int32)), .val (.int (1 : Int32))] [(.ref b1131)]) (fun _ k => st1151 _ k) ?_
              have F1163 : Exa Z h1151 b1131 "java/lang/String" := (A1131.keep r1151_0)
              have F1164 : ArF Z h1151 b414 k414 .char nn (upd (upd (upd (upd (fun _ => 0) 0 c_406) 1 c_408) (nn - 2) c_410) (nn - 1) c_412) := (F1141.keep r1151_0 (ninS ne1132 nin0))
              obtain ⟨T1165, h1165, v1165, L1165, X1165, e1165, ⟨rfl, N1165q, r1165_0⟩, st1165⟩ := N.static X1151 hx hZ (y := (⟨"com/example/usher/usher/lifecycle/ExecutionKey", "fits", "(Ljava/lang/String;)Z"⟩ : MethodName)) hown (wk hw 27 rfl) (wk hw 28 rfl) (wk hw 29 rfl) (wk hw 30 rfl) (by decide) (fitU1 l Z a0 hw b1131 t_1151 kb_1151 nn (upd (upd (upd (upd (fun _ => 0) 0 c_406) 1 c_408) (nn - 2) c_410) (nn - 1) c_412) 0 cs h1151 n0 O1158 F1163 r1151_2 r1151_3 r1151_4 (own_fr F1164) (by omega) ((own_cp3 (by omega)).trans (by rw [if_neg (fun q => hsu643 q.1), if_neg (fun q => hsu1036 q.2)])) h512 S_AD S_HI S_LO S_CS hcs) e1151 (g := (mkF m 178 #[.val (.int p0), .val (.int p1), .val (.int p2), .val (.int p3), .val (.int p4), .val (.int nn.toInt32), .val (.int c_406), .val (.int c_408), .val (.int c_410), .val (.int c_412), .val (.ref b414), .val (.int (0 : Int32)), .val (.int (1 : Int32))] [(.ref b1131)])) rfl (by rw [hml]; rfl) (argsL := [(.ref b1131)]) (rest := []) rfl (lenOf pd__Ljava_lang_String__Z rfl) rfl (W := 0) (by show 2 * 0 + _ ≤ _; exact Nat.le_of_eq rfl) (hb hby at_178) (by decide) (by decide) (by decide) (by decide)
              have N1166 := Fr.app N1153 N1165q
              have e1165 := e1165.trans r1165_0
              refine WinW.to T1165 (mkF m 181 #[.val (.int p0), .val (.int p1), .val (.int p2), .val (.int p3), .val (.int p4), .val (.int nn.toInt32), .val (.int c_406), .val (.int c_408), .val (.int c_410), .val (.int c_412), .val (.ref b414), .val (.int (0 : Int32)), .val (.int (1 : Int32))] [(.int (1 : Int32))]) (fun _ k => st1165 _ k) ?_
              refine WinW.to T1165 (mkF m 183 #[.val (.int p0), .val (.int p1), .val (.int p2), .val (.int p3), .val (.int p4), .val (.int nn.toInt32), .val (.int c_406), .val (.int c_408), .val (.int c_410), .val (.int c_412), .val (.ref b414), .val (.int (0 : Int32)), .val (.int (1 : Int32))] [(.int (1 : Int32)), (.int (1 : Int32))]) (fun _ k => XS.iload X1165.here hx rfl (hb hby at_181) rfl k) ?_
              refine WinW.to T1165 (mkF m 186 #[.val (.int p0), .val (.int p1), .val (.int p2), .val (.int p3), .val (.int p4), .val (.int nn.toInt32), .val (.int c_406), .val (.int c_408), .val (.int c_410), .val (.int c_412), .val (.ref b414), .val (.int (0 : Int32)), .val (.int (1 : Int32))] []) (fun _ k => XS.icmpNo X1165.here hx rfl (hb hby at_183) rfl (teq (show (1 : Int32) = (1 : Int32) from by decide)).2 k) ?_
              refine WinW.to T1165 (mkF m 187 #[.val (.int p0), .val (.int p1), .val (.int p2), .val (.int p3), .val (.int p4), .val (.int nn.toInt32), .val (.int c_406), .val (.int c_408), .val (.int c_410), .val (.int c_412), .val (.ref b414), .val (.int (0 : Int32)), .val (.int (1 : Int32))] [(.int (1 : Int32))]) (fun _ k => XS.iconst X1165.here hx rfl (hb hby at_186) k) ?_
              refine WinW.to T1165 (mkF m 191 #[.val (.int p0), .val (.int p1), .val (.int p2), .val (.int p3), .val (.int p4), .val (.int nn.toInt32), .val (.int c_406), .val (.int c_408), .val (.int c_410), .val (.int c_412), .val (.ref b414), .val (.int (0 : Int32)), .val (.int (1 : Int32))] [(.int (1 : Int32))]) (fun _ k => XS.goto X1165.here hx rfl (pc0 := 187) (pc' := 191) rfl (hb hby at_187) (by decide) (by decide) k) ?_
              exact WinW.retN X1165 hS0 (by rw [e1165]; exact (Nat.zero_le _)) hx hlk (t := .boolean) hret (by simp) rfl (hb hby at_191) hZ (own_EW hw) (by rw [e1165]; exact C1161) (by decide) (by decide) (by (try rw [e1165]); exact ⟨rfl, N1166, trivial⟩)
      · obtain ⟨T1167, h1167, v1167, L1167, X1167, e1167, ⟨rfl, N1167q, r1167_0⟩, st1167⟩ := N.static X1031 hx hZ (y := (⟨"com/example/usher/usher/lifecycle/ExecutionKeyFitsPinLaw", "isHigh", "(C)Z"⟩ : MethodName)) hown (wk hw 36 rfl) (wk hw 37 rfl) (wk hw 2 rfl) (wk hw 38 rfl) (by decide) (lh0 l Z a0 hw c_410 h636 n0 O637 hsu1033) e1031 (g := (mkF m 125 #[.val (.int p0), .val (.int p1), .val (.int p2), .val (.int p3), .val (.int p4), .val (.int nn.toInt32), .val (.int c_406), .val (.int c_408), .val (.int c_410), .val (.int c_412), .val (.ref b414), .val (.int (0 : Int32)), .unset] [(.int c_410)])) rfl (by rw [hml]; rfl) (argsL := [(.int c_410)]) (rest := []) rfl (lenOf pd__C_Z rfl) rfl (W := 0) (by show 2 * 0 + _ ≤ _; exact Nat.le_of_eq rfl) (hb hby at_125) (by decide) (by decide) (by decide) (by decide)
        have N1168 := Fr.app N1032 N1167q
        have e1167 := e1167.trans r1167_0
        refine WinW.to T1167 (mkF m 128 #[.val (.int p0), .val (.int p1), .val (.int p2), .val (.int p3), .val (.int p4), .val (.int nn.toInt32), .val (.int c_406), .val (.int c_408), .val (.int c_410), .val (.int c_412), .val (.ref b414), .val (.int (0 : Int32)), .unset] [(.int (0 : Int32))]) (fun _ k => st1167 _ k) ?_
        refine WinW.to T1167 (mkF m 145 #[.val (.int p0), .val (.int p1), .val (.int p2), .val (.int p3), .val (.int p4), .val (.int nn.toInt32), .val (.int c_406), .val (.int c_408), .val (.int c_410), .val (.int c_412), .val (.ref b414), .val (.int (0 : Int32)), .unset] []) (fun _ k => XS.ifYes X1167.here hx rfl (pc0 := 128) (pc' := 145) rfl (hb hby at_128) rfl ((if0 _ _).trans (teq (show (0 : Int32) = (0 : Int32) from by decide)).1) (by decide) (by decide) k) ?_
        refine WinW.to T1167 (mkF m 147 #[.val (.int p0), .val (.int p1), .val (.int p2), .val (.int p3), .val (.int p4), .val (.int nn.toInt32), .val (.int c_406), .val (.int c_408), .val (.int c_410), .val (.int c_412), .val (.ref b414), .val (.int (0 : Int32)), .unset] [(.int nn.toInt32)]) (fun _ k => XS.iload X1167.here hx rfl (hb hby at_145) rfl k) ?_
        refine WinW.to T1167 (mkF m 148 #[.val (.int p0), .val (.int p1), .val (.int p2), .val (.int p3), .val (.int p4), .val (.int nn.toInt32), .val (.int c_406), .val (.int c_408), .val (.int c_410), .val (.int c_412), .val (.ref b414), .val (.int (0 : Int32)), .unset] [(.int (1 : Int32)), (.int nn.toInt32)]) (fun _ k => XS.iconst X1167.here hx rfl (hb hby at_147) k) ?_
        refine WinW.to T1167 (mkF m 151 #[.val (.int p0), .val (.int p1), .val (.int p2), .val (.int p3), .val (.int p4), .val (.int nn.toInt32), .val (.int c_406), .val (.int c_408), .val (.int c_410), .val (.int c_412), .val (.ref b414), .val (.int (0 : Int32)), .unset] []) (fun _ k => XS.icmpNo X1167.here hx rfl (hb hby at_148) rfl (flt (show ¬ (nn.toInt32 < (1 : Int32)) from (fun q => absurd ((own_lt (n := 1) hbn (by decide)).mp q) (by omega)))).1 k) ?_
        refine WinW.to T1167 (mkF m 153 #[.val (.int p0), .val (.int p1), .val (.int p2), .val (.int p3), .val (.int p4), .val (.int nn.toInt32), .val (.int c_406), .val (.int c_408), .val (.int c_410), .val (.int c_412), .val (.ref b414), .val (.int (0 : Int32)), .unset] [(.int nn.toInt32)]) (fun _ k => XS.iload X1167.here hx rfl (hb hby at_151) rfl k) ?_
        refine WinW.to T1167 (mkF m 155 #[.val (.int p0), .val (.int p1), .val (.int p2), .val (.int p3), .val (.int p4), .val (.int nn.toInt32), .val (.int c_406), .val (.int c_408), .val (.int c_410), .val (.int c_412), .val (.ref b414), .val (.int (0 : Int32)), .unset] [(.int (0 : Int32)), (.int nn.toInt32)]) (fun _ k => XS.iload X1167.here hx rfl (hb hby at_153) rfl k) ?_
        refine WinW.to T1167 (mkF m 156 #[.val (.int p0), .val (.int p1), .val (.int p2), .val (.int p3), .val (.int p4), .val (.int nn.toInt32), .val (.int c_406), .val (.int c_408), .val (.int c_410), .val (.int c_412), .val (.ref b414), .val (.int (0 : Int32)), .unset] [(.int nn.toInt32)]) (fun _ k => XS.isub X1167.here hx rfl (hb hby at_155) rfl (by rw [show (nn.toInt32 - (0 : Int32)) = nn.toInt32 from Int32.sub_zero _]; exact k)) ?_
        refine WinW.to T1167 (mkF m 159 #[.val (.int p0), .val (.int p1), .val (.int p2), .val (.int p3), .val (.int p4), .val (.int nn.toInt32), .val (.int c_406), .val (.int c_408), .val (.int c_410), .val (.int c_412), .val (.ref b414), .val (.int (0 : Int32)), .unset] [(.int (512 : Int32)), (.int nn.toInt32)]) (fun _ k => XS.sipush X1167.here hx rfl (hb hby at_156) k) ?_
        by_cases h512 : 512 < nn
        · refine WinW.to T1167 (mkF m 166 #[.val (.int p0), .val (.int p1), .val (.int p2), .val (.int p3), .val (.int p4), .val (.int nn.toInt32), .val (.int c_406), .val (.int c_408), .val (.int c_410), .val (.int c_412), .val (.ref b414), .val (.int (0 : Int32)), .unset] []) (fun _ k => XS.icmpYes X1167.here hx rfl (pc0 := 159) (pc' := 166) rfl (hb hby at_159) rfl (tlt (show (512 : Int32) < nn.toInt32 from ((own_lt (j := 512) (by decide) (by omega)).mpr h512))).2.2.1 (by decide) (by decide) k) ?_
          refine WinW.to T1167 (mkF m 167 #[.val (.int p0), .val (.int p1), .val (.int p2), .val (.int p3), .val (.int p4), .val (.int nn.toInt32), .val (.int c_406), .val (.int c_408), .val (.int c_410), .val (.int c_412), .val (.ref b414), .val (.int (0 : Int32)), .unset] [(.int (0 : Int32))]) (fun _ k => XS.iconst X1167.here hx rfl (hb hby at_166) k) ?_
          refine WinW.to T1167 (mkF m 169 #[.val (.int p0), .val (.int p1), .val (.int p2), .val (.int p3), .val (.int p4), .val (.int nn.toInt32), .val (.int c_406), .val (.int c_408), .val (.int c_410), .val (.int c_412), .val (.ref b414), .val (.int (0 : Int32)), .val (.int (0 : Int32))] []) (fun _ k => XS.istore X1167.here hx rfl (hb hby at_167) rfl (l' := #[.val (.int p0), .val (.int p1), .val (.int p2), .val (.int p3), .val (.int p4), .val (.int nn.toInt32), .val (.int c_406), .val (.int c_408), .val (.int c_410), .val (.int c_412), .val (.ref b414), .val (.int (0 : Int32)), .val (.int (0 : Int32))]) rfl k) ?_
          obtain ⟨T1169, h1169, X1169, e1169, E1169, A1169, D1169, -, st1169⟩ := newO X1167 hx hZ hown (wk hw 6 rfl) (wk hw 7 rfl) (wk hw 8 rfl) e1167 (g := (mkF m 169 #[.val (.int p0), .val (.int p1), .val (.int p2), .val (.int p3), .val (.int p4), .val (.int nn.toInt32), .val (.int c_406), .val (.int c_408), .val (.int c_410), .val (.int c_412), .val (.ref b414), .val (.int (0 : Int32)), .val (.int (0 : Int32))] [])) rfl (hb hby at_169) (by decide) (by decide)
          obtain ⟨b1169, g1169⟩ : ∃ z, z = h636.size := ⟨_, rfl⟩
          rw [← g1169] at A1169 D1169 st1169
          have ne1170 : b414 ≠ b1169 := Nat.ne_of_lt (Nat.lt_of_lt_of_le F642.lt (Nat.le_of_eq g1169.symm))
          have g1171 : n0 ≤ b1169 := Nat.le_trans (own_le O637) (Nat.le_of_eq g1169.symm)
          have z1172 : h0.size ≤ b1169 := Nat.le_trans K638.1 (Nat.le_of_eq g1169.symm)
          have O1173 := Old.ext O637 E1169
          have K1174 : Keep h0 h1169 [] := K638.ext E1169
          have c1175 := CHr.ext E1169 C641.1
          have C1176 := CHr.trans C641 c1175
          have F1177 : Fld Z h1169 b1169 "java/lang/String" "value" "[B" .null := D1169 (Or.inr (wk hw 21 rfl)) (ty := (.array .byte)) (by decide)
          have F1178 : Fld Z h1169 b1169 "java/lang/String" "coder" "B" (.int (0 : Int32)) := D1169 (Or.inr (wk hw 22 rfl)) (ty := .byte) (by decide)
          refine WinW.to T1169 (mkF m 172 #[.val (.int p0), .val (.int p1), .val (.int p2), .val (.int p3), .val (.int p4), .val (.int nn.toInt32), .val (.int c_406), .val (.int c_408), .val (.int c_410), .val (.int c_412), .val (.ref b414), .val (.int (0 : Int32)), .val (.int (0 : Int32))] [(.ref b1169)]) (fun _ k => st1169 _ k) ?_
          refine WinW.to T1169 (mkF m 173 #[.val (.int p0), .val (.int p1), .val (.int p2), .val (.int p3), .val (.int p4), .val (.int nn.toInt32), .val (.int c_406), .val (.int c_408), .val (.int c_410), .val (.int c_412), .val (.ref b414), .val (.int (0 : Int32)), .val (.int (0 : Int32))] [(.ref b1169), (.ref b1169)]) (fun _ k => XS.dup X1169.here hx rfl (hb hby at_172) rfl rfl k) ?_
          refine WinW.to T1169 (mkF m 175 #[.val (.int p0), .val (.int p1), .val (.int p2), .val (.int p3), .val (.int p4), .val (.int nn.toInt32), .val (.int c_406), .val (.int c_408), .val (.int c_410), .val (.int c_412), .val (.ref b414), .val (.int (0 : Int32)), .val (.int (0 : Int32))] [(.ref b414), (.ref b1169), (.ref b1169)]) (fun _ k => XS.aload X1169.here hx rfl (hb hby at_173) rfl rfl k) ?_
          have F1179 : ArF Z h1169 b414 k414 .char nn (upd (upd (upd (upd (fun _ => 0) 0 c_406) 1 c_408) (nn - 2) c_410) (nn - 1) c_412) := (F642.ext E1169)
          by_cases hl : ∀ i, i < nn → ¬ (255 : Int32) < ((upd (upd (upd (upd (fun _ => 0) 0 c_406) 1 c_408) (nn - 2) c_410) (nn - 1) c_412) : Nat → Int32) i
          · obtain ⟨T1180, h1180, v1180, L1180, k1180, X1180, e1180, hS1180, hk1180, hZ1180, hown1180, ⟨t_1180, kb_1180, rfl, N1180q, r1180_0, r1180_1, r1180_2, r1180_3⟩, c1180, st1180⟩ := W.special X1169 hS0 (Nat.zero_le _) hx hZ (y := (⟨"java/lang/String", "<init>", "([C)V"⟩ : MethodName)) rfl hown (wk hw 9 rfl) (wk hw 10 rfl) (wk hw 8 rfl) (wk hw 11 rfl) (by decide) (ctor1 l Z a0 hw b1169 b414 k414 nn (upd (upd (upd (upd (fun _ => 0) 0 c_406) 1 c_408) (nn - 2) c_410) (nn - 1) c_412) cs h1169 n0 O1173 A1169 F1177 F1178 F1179 hl hle g1171 S_CS hcs) (own_EW hw) C1176.1 e1169 (g := (mkF m 175 #[.val (.int p0), .val (.int p1), .val (.int p2), .val (.int p3), .val (.int p4), .val (.int nn.toInt32), .val (.int c_406), .val (.int c_408), .val (.int c_410), .val (.int c_412), .val (.ref b414), .val (.int (0 : Int32)), .val (.int (0 : Int32))] [(.ref b414), (.ref b1169), (.ref b1169)])) rfl (by rw [hml]; rfl) (a := b1169) (argsL := [(.ref b414)]) (rest := [(.ref b1169)]) rfl (lenOf pd___C_V rfl) rfl (W := 1) (by show 2 * 0 + _ ≤ _; exact Nat.le_of_eq rfl) (hb hby at_175) (by decide) (by decide) (by decide) (by decide)
            have N1181 := Fr.app N1168 N1180q
            have O1182 := Old.keep O1173 r1180_0 (allS g1171 all0)
            have K1183 : Keep h0 h1180 [] := Keep.trans K1174 r1180_0 (allS (Or.inr z1172) all0)
            have c1184 := c1180
            have C1185 := CHr.trans C1176 c1184
            refine WinW.to T1180 (mkF m 178 #[.val (.int p0), .val (.int p1), .val (.int p2), .val (.int p3), .val (.int p4), .val (.int nn.toInt32), .val (.int c_406), .val (.int c_408), .val (.int c_410), .val (.int c_412), .val (.ref b414), .val (.int (0 : Int32)), .val (.int (0 : Int32))] [(.ref b1169)]) (fun _ k => st1180 _ k) ?_
            have F1186 : Exa Z h1180 b1169 "java/lang/String" := (A1169.keep r1180_0)
            obtain ⟨T1187, h1187, v1187, L1187, X1187, e1187, ⟨rfl, N1187q, r1187_0⟩, st1187⟩ := N.static X1180 hx hZ1180 (y := (⟨"com/example/usher/usher/lifecycle/ExecutionKey", "fits", "(Ljava/lang/String;)Z"⟩ : MethodName)) hown1180 (wk hw 27 rfl) (wk hw 28 rfl) (wk hw 29 rfl) (wk hw 30 rfl) (by decide) (fitL0 l Z a0 hw b1169 t_1180 kb_1180 nn (fun i => ((upd (upd (upd (upd (fun _ => 0) 0 c_406) 1 c_408) (nn - 2) c_410) (nn - 1) c_412) i).toInt8.toInt32) cs h1180 n0 O1182 F1186 r1180_1 r1180_2 r1180_3 (by omega) h512 S_CS hcs) e1180 (g := (mkF m 178 #[.val (.int p0), .val (.int p1), .val (.int p2), .val (.int p3), .val (.int p4), .val (.int nn.toInt32), .val (.int c_406), .val (.int c_408), .val (.int c_410), .val (.int c_412), .val (.ref b414), .val (.int (0 : Int32)), .val (.int (0 : Int32))] [(.ref b1169)])) rfl (by rw [hml]; rfl) (argsL := [(.ref b1169)]) (rest := []) rfl (lenOf pd__Ljava_lang_String__Z rfl) rfl (W := 0) (by show 2 * 0 + _ ≤ _; exact Nat.le_of_eq rfl) (hb hby at_178) (by decide) (by decide) (by decide) (by decide)
            have N1188 := Fr.app N1181 N1187q
            have e1187 := e1187.trans r1187_0
            refine WinW.to T1187 (mkF m 181 #[.val (.int p0), .val (.int p1), .val (.int p2), .val (.int p3), .val (.int p4), .val (.int nn.toInt32), .val (.int c_406), .val (.int c_408), .val (.int c_410), .val (.int c_412), .val (.ref b414), .val (.int (0 : Int32)), .val (.int (0 : Int32))] [(.int (0 : Int32))]) (fun _ k => st1187 _ k) ?_
            refine WinW.to T1187 (mkF m 183 #[.val (.int p0), .val (.int p1), .val (.int p2), .val (.int p3), .val (.int p4), .val (.int nn.toInt32), .val (.int c_406), .val (.int c_408), .val (.int c_410), .val (.int c_412), .val (.ref b414), .val (.int (0 : Int32)), .val (.int (0 : Int32))] [(.int (0 : Int32)), (.int (0 : Int32))]) (fun _ k => XS.iload X1187.here hx rfl (hb hby at_181) rfl k) ?_
            refine WinW.to T1187 (mkF m 186 #[.val (.int p0), .val (.int p1), .val (.int p2), .val (.int p3), .val (.int p4), .val (.int nn.toInt32), .val (.int c_406), .val (.int c_408), .val (.int c_410), .val (.int c_412), .val (.ref b414), .val (.int (0 : Int32)), .val (.int (0 : Int32))] []) (fun _ k => XS.icmpNo X1187.here hx rfl (hb hby at_183) rfl (teq (show (0 : Int32) = (0 : Int32) from by decide)).2 k) ?_
            refine WinW.to T1187 (mkF m 187 #[.val (.int p0), .val (.int p1), .val (.int p2), .val (.int p3), .val (.int p4), .val (.int nn.toInt32), .val (.int c_406), .val (.int c_408), .val (.int c_410), .val (.int c_412), .val (.ref b414), .val (.int (0 : Int32)), .val (.int (0 : Int32))] [(.int (1 : Int32))]) (fun _ k => XS.iconst X1187.here hx rfl (hb hby at_186) k) ?_
            refine WinW.to T1187 (mkF m 191 #[.val (.int p0), .val (.int p1), .val (.int p2), .val (.int p3), .val (.int p4), .val (.int nn.toInt32), .val (.int c_406), .val (.int c_408), .val (.int c_410), .val (.int c_412), .val (.ref b414), .val (.int (0 : Int32)), .val (.int (0 : Int32))] [(.int (1 : Int32))]) (fun _ k => XS.goto X1187.here hx rfl (pc0 := 187) (pc' := 191) rfl (hb hby at_187) (by decide) (by decide) k) ?_
            exact WinW.retN X1187 hS1180 (by rw [e1187]; exact hk1180) hx hlk (t := .boolean) hret (by simp) rfl (hb hby at_191) hZ1180 (own_EW hw) (by rw [e1187]; exact C1185) (by decide) (by decide) (by (try rw [e1187]); exact ⟨rfl, N1188, trivial⟩)
          · have S1190 : Safe Z EL1 (s.setVm s.vm).vm h1169 b1169 := own_safe hZ.alike A1169 F1177 (wk hw 7 rfl)
            obtain ⟨T1189, h1189, v1189, L1189, X1189, e1189, ⟨t_1189, kb_1189, rfl, N1189q, r1189_0, r1189_1, r1189_2, r1189_3, r1189_4⟩, st1189⟩ := N.special X1169 hx hZ (y := (⟨"java/lang/String", "<init>", "([C)V"⟩ : MethodName)) rfl hown (wk hw 9 rfl) (wk hw 10 rfl) (wk hw 8 rfl) (wk hw 11 rfl) (by decide) (ctor1u l Z a0 hw b1169 b414 k414 nn (upd (upd (upd (upd (fun _ => 0) 0 c_406) 1 c_408) (nn - 2) c_410) (nn - 1) c_412) cs h1169 n0 O1173 A1169 F1177 F1178 F1179 hle (Classical.byContradiction fun q => hl fun i hi hp => q ⟨i, hi, hp⟩) g1171 S_AD S_HI S_LO S_CS hcs) e1169 (g := (mkF m 175 #[.val (.int p0), .val (.int p1), .val (.int p2), .val (.int p3), .val (.int p4), .val (.int nn.toInt32), .val (.int c_406), .val (.int c_408), .val (.int c_410), .val (.int c_412), .val (.ref b414), .val (.int (0 : Int32)), .val (.int (0 : Int32))] [(.ref b414), (.ref b1169), (.ref b1169)])) rfl (by rw [hml]; rfl) (a := b1169) (argsL := [(.ref b414)]) (rest := [(.ref b1169)]) rfl (lenOf pd___C_V rfl) rfl (W := 1) (by show 2 * 0 + _ ≤ _; exact Nat.le_of_eq rfl) (hb hby at_175) (by decide) (by decide) (by decide) (by decide)
            have N1191 := Fr.app N1168 N1189q
            have ne1192 : b414 ≠ t_1189 := Nat.ne_of_lt (Nat.lt_of_lt_of_le F1179.lt r1189_1)
            have ne1193 : b1169 ≠ t_1189 := Nat.ne_of_lt (Nat.lt_of_lt_of_le A1169.lt r1189_1)
            have g1194 : n0 ≤ t_1189 := Nat.le_trans (own_le O1173) r1189_1
            have z1195 : h0.size ≤ t_1189 := Nat.le_trans K1174.1 r1189_1
            have O1196 := Old.keep O1173 r1189_0 (allS g1171 all0)
            have K1197 : Keep h0 h1189 [] := Keep.trans K1174 r1189_0 (allS (Or.inr z1172) all0)
            have c1198 := CHr.keep r1189_0 (sfS S1190 sf0) C1176.1
            have C1199 := CHr.trans C1176 c1198
            have S1200 := CHr.safe c1198 A1169.lt S1190
            refine WinW.to T1189 (mkF m 178 #[.val (.int p0), .val (.int p1), .val (.int p2), .val (.int p3), .val (.int p4), .val (.int nn.toInt32), .val (.int c_406), .val (.int c_408), .val (.int c_410), .val (.int c_412), .val (.ref b414), .val (.int (0 : Int32)), .val (.int (0 : Int32))] [(.ref b1169)]) (fun _ k => st1189 _ k) ?_
            have F1201 : Exa Z h1189 b1169 "java/lang/String" := (A1169.keep r1189_0)
            have F1202 : ArF Z h1189 b414 k414 .char nn (upd (upd (upd (upd (fun _ => 0) 0 c_406) 1 c_408) (nn - 2) c_410) (nn - 1) c_412) := (F1179.keep r1189_0 (ninS ne1170 nin0))
            obtain ⟨T1203, h1203, v1203, L1203, X1203, e1203, ⟨rfl, N1203q, r1203_0⟩, st1203⟩ := N.static X1189 hx hZ (y := (⟨"com/example/usher/usher/lifecycle/ExecutionKey", "fits", "(Ljava/lang/String;)Z"⟩ : MethodName)) hown (wk hw 27 rfl) (wk hw 28 rfl) (wk hw 29 rfl) (wk hw 30 rfl) (by decide) (fitU0 l Z a0 hw b1169 t_1189 kb_1189 nn (upd (upd (upd (upd (fun _ => 0) 0 c_406) 1 c_408) (nn - 2) c_410) (nn - 1) c_412) 0 cs h1189 n0 O1196 F1201 r1189_2 r1189_3 r1189_4 (own_fr F1202) (by omega) ((own_cp3 (by omega)).trans (by rw [if_neg (fun q => hsu643 q.1), if_neg (fun q => hsu1033 q.1)])) h512 S_AD S_HI S_LO S_CS hcs) e1189 (g := (mkF m 178 #[.val (.int p0), .val (.int p1), .val (.int p2), .val (.int p3), .val (.int p4), .val (.int nn.toInt32), .val (.int c_406), .val (.int c_408), .val (.int c_410), .val (.int c_412), .val (.ref b414), .val (.int (0 : Int32)), .val (.int (0 : Int32))] [(.ref b1169)])) rfl (by rw [hml]; rfl) (argsL := [(.ref b1169)]) (rest := []) rfl (lenOf pd__Ljava_lang_String__Z rfl) rfl (W := 0) (by show 2 * 0 + _ ≤ _; exact Nat.le_of_eq rfl) (hb hby at_178) (by decide) (by decide) (by decide) (by decide)
            have N1204 := Fr.app N1191 N1203q
            have e1203 := e1203.trans r1203_0
            refine WinW.to T1203 (mkF m 181 #[.val (.int p0), .val (.int p1), .val (.int p2), .val (.int p3), .val (.int p4), .val (.int nn.toInt32), .val (.int c_406), .val (.int c_408), .val (.int c_410), .val (.int c_412), .val (.ref b414), .val (.int (0 : Int32)), .val (.int (0 : Int32))] [(.int (0 : Int32))]) (fun _ k => st1203 _ k) ?_
            refine WinW.to T1203 (mkF m 183 #[.val (.int p0), .val (.int p1), .val (.int p2), .val (.int p3), .val (.int p4), .val (.int nn.toInt32), .val (.int c_406), .val (.int c_408), .val (.int c_410), .val (.int c_412), .val (.ref b414), .val (.int (0 : Int32)), .val (.int (0 : Int32))] [(.int (0 : Int32)), (.int (0 : Int32))]) (fun _ k => XS.iload X1203.here hx rfl (hb hby at_181) rfl k) ?_
            refine WinW.to T1203 (mkF m 186 #[.val (.int p0), .val (.int p1), .val (.int p2), .val (.int p3), .val (.int p4), .val (.int nn.toInt32), .val (.int c_406), .val (.int c_408), .val (.int c_410), .val (.int c_412), .val (.ref b414), .val (.int (0 : Int32)), .val (.int (0 : Int32))] []) (fun _ k => XS.icmpNo X1203.here hx rfl (hb hby at_183) rfl (teq (show (0 : Int32) = (0 : Int32) from by decide)).2 k) ?_
            refine WinW.to T1203 (mkF m 187 #[.val (.int p0), .val (.int p1), .val (.int p2), .val (.int p3), .val (.int p4), .val (.int nn.toInt32), .val (.int c_406), .val (.int c_408), .val (.int c_410), .val (.int c_412), .val (.ref b414), .val (.int (0 : Int32)), .val (.int (0 : Int32))] [(.int (1 : Int32))]) (fun _ k => XS.iconst X1203.here hx rfl (hb hby at_186) k) ?_
            refine WinW.to T1203 (mkF m 191 #[.val (.int p0), .val (.int p1), .val (.int p2), .val (.int p3), .val (.int p4), .val (.int nn.toInt32), .val (.int c_406), .val (.int c_408), .val (.int c_410), .val (.int c_412), .val (.ref b414), .val (.int (0 : Int32)), .val (.int (0 : Int32))] [(.int (1 : Int32))]) (fun _ k => XS.goto X1203.here hx rfl (pc0 := 187) (pc' := 191) rfl (hb hby at_187) (by decide) (by decide) k) ?_
            exact WinW.retN X1203 hS0 (by rw [e1203]; exact (Nat.zero_le _)) hx hlk (t := .boolean) hret (by simp) rfl (hb hby at_191) hZ (own_EW hw) (by rw [e1203]; exact C1199) (by decide) (by decide) (by (try rw [e1203]); exact ⟨rfl, N1204, trivial⟩)
        · refine WinW.to T1167 (mkF m 162 #[.val (.int p0), .val (.int p1), .val (.int p2), .val (.int p3), .val (.int p4), .val (.int nn.toInt32), .val (.int c_406), .val (.int c_408), .val (.int c_410), .val (.int c_412), .val (.ref b414), .val (.int (0 : Int32)), .unset] []) (fun _ k => XS.icmpNo X1167.here hx rfl (hb hby at_159) rfl (flt (show ¬ ((512 : Int32) < nn.toInt32) from (fun q => h512 ((own_lt (j := 512) (by decide) (by omega)).mp q)))).2.2.1 k) ?_
          refine WinW.to T1167 (mkF m 163 #[.val (.int p0), .val (.int p1), .val (.int p2), .val (.int p3), .val (.int p4), .val (.int nn.toInt32), .val (.int c_406), .val (.int c_408), .val (.int c_410), .val (.int c_412), .val (.ref b414), .val (.int (0 : Int32)), .unset] [(.int (1 : Int32))]) (fun _ k => XS.iconst X1167.here hx rfl (hb hby at_162) k) ?_
          refine WinW.to T1167 (mkF m 167 #[.val (.int p0), .val (.int p1), .val (.int p2), .val (.int p3), .val (.int p4), .val (.int nn.toInt32), .val (.int c_406), .val (.int c_408), .val (.int c_410), .val (.int c_412), .val (.ref b414), .val (.int (0 : Int32)), .unset] [(.int (1 : Int32))]) (fun _ k => XS.goto X1167.here hx rfl (pc0 := 163) (pc' := 167) rfl (hb hby at_163) (by decide) (by decide) k) ?_
          refine WinW.to T1167 (mkF m 169 #[.val (.int p0), .val (.int p1), .val (.int p2), .val (.int p3), .val (.int p4), .val (.int nn.toInt32), .val (.int c_406), .val (.int c_408), .val (.int c_410), .val (.int c_412), .val (.ref b414), .val (.int (0 : Int32)), .val (.int (1 : Int32))] []) (fun _ k => XS.istore X1167.here hx rfl (hb hby at_167) rfl (l' := #[.val (.int p0), .val (.int p1), .val (.int p2), .val (.int p3), .val (.int p4), .val (.int nn.toInt32), .val (.int c_406), .val (.int c_408), .val (.int c_410), .val (.int c_412), .val (.ref b414), .val (.int (0 : Int32)), .val (.int (1 : Int32))]) rfl k) ?_
          obtain ⟨T1205, h1205, X1205, e1205, E1205, A1205, D1205, -, st1205⟩ := newO X1167 hx hZ hown (wk hw 6 rfl) (wk hw 7 rfl) (wk hw 8 rfl) e1167 (g := (mkF m 169 #[.val (.int p0), .val (.int p1), .val (.int p2), .val (.int p3), .val (.int p4), .val (.int nn.toInt32), .val (.int c_406), .val (.int c_408), .val (.int c_410), .val (.int c_412), .val (.ref b414), .val (.int (0 : Int32)), .val (.int (1 : Int32))] [])) rfl (hb hby at_169) (by decide) (by decide)
          obtain ⟨b1205, g1205⟩ : ∃ z, z = h636.size := ⟨_, rfl⟩
          rw [← g1205] at A1205 D1205 st1205
          have ne1206 : b414 ≠ b1205 := Nat.ne_of_lt (Nat.lt_of_lt_of_le F642.lt (Nat.le_of_eq g1205.symm))
          have g1207 : n0 ≤ b1205 := Nat.le_trans (own_le O637) (Nat.le_of_eq g1205.symm)
          have z1208 : h0.size ≤ b1205 := Nat.le_trans K638.1 (Nat.le_of_eq g1205.symm)
          have O1209 := Old.ext O637 E1205
          have K1210 : Keep h0 h1205 [] := K638.ext E1205
          have c1211 := CHr.ext E1205 C641.1
          have C1212 := CHr.trans C641 c1211
          have F1213 : Fld Z h1205 b1205 "java/lang/String" "value" "[B" .null := D1205 (Or.inr (wk hw 21 rfl)) (ty := (.array .byte)) (by decide)
          have F1214 : Fld Z h1205 b1205 "java/lang/String" "coder" "B" (.int (0 : Int32)) := D1205 (Or.inr (wk hw 22 rfl)) (ty := .byte) (by decide)
          refine WinW.to T1205 (mkF m 172 #[.val (.int p0), .val (.int p1), .val (.int p2), .val (.int p3), .val (.int p4), .val (.int nn.toInt32), .val (.int c_406), .val (.int c_408), .val (.int c_410), .val (.int c_412), .val (.ref b414), .val (.int (0 : Int32)), .val (.int (1 : Int32))] [(.ref b1205)]) (fun _ k => st1205 _ k) ?_
          refine WinW.to T1205 (mkF m 173 #[.val (.int p0), .val (.int p1), .val (.int p2), .val (.int p3), .val (.int p4), .val (.int nn.toInt32), .val (.int c_406), .val (.int c_408), .val (.int c_410), .val (.int c_412), .val (.ref b414), .val (.int (0 : Int32)), .val (.int (1 : Int32))] [(.ref b1205), (.ref b1205)]) (fun _ k => XS.dup X1205.here hx rfl (hb hby at_172) rfl rfl k) ?_
          refine WinW.to T1205 (mkF m 175 #[.val (.int p0), .val (.int p1), .val (.int p2), .val (.int p3), .val (.int p4), .val (.int nn.toInt32), .val (.int c_406), .val (.int c_408), .val (.int c_410), .val (.int c_412), .val (.ref b414), .val (.int (0 : Int32)), .val (.int (1 : Int32))] [(.ref b414), (.ref b1205), (.ref b1205)]) (fun _ k => XS.aload X1205.here hx rfl (hb hby at_173) rfl rfl k) ?_
          have F1215 : ArF Z h1205 b414 k414 .char nn (upd (upd (upd (upd (fun _ => 0) 0 c_406) 1 c_408) (nn - 2) c_410) (nn - 1) c_412) := (F642.ext E1205)
          by_cases hl : ∀ i, i < nn → ¬ (255 : Int32) < ((upd (upd (upd (upd (fun _ => 0) 0 c_406) 1 c_408) (nn - 2) c_410) (nn - 1) c_412) : Nat → Int32) i
          · obtain ⟨T1216, h1216, v1216, L1216, k1216, X1216, e1216, hS1216, hk1216, hZ1216, hown1216, ⟨t_1216, kb_1216, rfl, N1216q, r1216_0, r1216_1, r1216_2, r1216_3⟩, c1216, st1216⟩ := W.special X1205 hS0 (Nat.zero_le _) hx hZ (y := (⟨"java/lang/String", "<init>", "([C)V"⟩ : MethodName)) rfl hown (wk hw 9 rfl) (wk hw 10 rfl) (wk hw 8 rfl) (wk hw 11 rfl) (by decide) (ctor1 l Z a0 hw b1205 b414 k414 nn (upd (upd (upd (upd (fun _ => 0) 0 c_406) 1 c_408) (nn - 2) c_410) (nn - 1) c_412) cs h1205 n0 O1209 A1205 F1213 F1214 F1215 hl hle g1207 S_CS hcs) (own_EW hw) C1212.1 e1205 (g := (mkF m 175 #[.val (.int p0), .val (.int p1), .val (.int p2), .val (.int p3), .val (.int p4), .val (.int nn.toInt32), .val (.int c_406), .val (.int c_408), .val (.int c_410), .val (.int c_412), .val (.ref b414), .val (.int (0 : Int32)), .val (.int (1 : Int32))] [(.ref b414), (.ref b1205), (.ref b1205)])) rfl (by rw [hml]; rfl) (a := b1205) (argsL := [(.ref b414)]) (rest := [(.ref b1205)]) rfl (lenOf pd___C_V rfl) rfl (W := 1) (by show 2 * 0 + _ ≤ _; exact Nat.le_of_eq rfl) (hb hby at_175) (by decide) (by decide) (by decide) (by decide)
            have N1217 := Fr.app N1168 N1216q
            have O1218 := Old.keep O1209 r1216_0 (allS g1207 all0)
            have K1219 : Keep h0 h1216 [] := Keep.trans K1210 r1216_0 (allS (Or.inr z1208) all0)
            have c1220 := c1216
            have C1221 := CHr.trans C1212 c1220
            refine WinW.to T1216 (mkF m 178 #[.val (.int p0), .val (.int p1), .val (.int p2), .val (.int p3), .val (.int p4), .val (.int nn.toInt32), .val (.int c_406), .val (.int c_408), .val (.int c_410), .val (.int c_412), .val (.ref b414), .val (.int (0 : Int32)), .val (.int (1 : Int32))] [(.ref b1205)]) (fun _ k => st1216 _ k) ?_
            have F1222 : Exa Z h1216 b1205 "java/lang/String" := (A1205.keep r1216_0)
            obtain ⟨T1223, h1223, v1223, L1223, X1223, e1223, ⟨rfl, N1223q, r1223_0⟩, st1223⟩ := N.static X1216 hx hZ1216 (y := (⟨"com/example/usher/usher/lifecycle/ExecutionKey", "fits", "(Ljava/lang/String;)Z"⟩ : MethodName)) hown1216 (wk hw 27 rfl) (wk hw 28 rfl) (wk hw 29 rfl) (wk hw 30 rfl) (by decide) (fitL1 l Z a0 hw b1205 t_1216 kb_1216 nn (fun i => ((upd (upd (upd (upd (fun _ => 0) 0 c_406) 1 c_408) (nn - 2) c_410) (nn - 1) c_412) i).toInt8.toInt32) cs h1216 n0 O1218 F1222 r1216_1 r1216_2 r1216_3 (by omega) h512 S_CS hcs) e1216 (g := (mkF m 178 #[.val (.int p0), .val (.int p1), .val (.int p2), .val (.int p3), .val (.int p4), .val (.int nn.toInt32), .val (.int c_406), .val (.int c_408), .val (.int c_410), .val (.int c_412), .val (.ref b414), .val (.int (0 : Int32)), .val (.int (1 : Int32))] [(.ref b1205)])) rfl (by rw [hml]; rfl) (argsL := [(.ref b1205)]) (rest := []) rfl (lenOf pd__Ljava_lang_String__Z rfl) rfl (W := 0) (by show 2 * 0 + _ ≤ _; exact Nat.le_of_eq rfl) (hb hby at_178) (by decide) (by decide) (by decide) (by decide)
            have N1224 := Fr.app N1217 N1223q
            have e1223 := e1223.trans r1223_0
            refine WinW.to T1223 (mkF m 181 #[.val (.int p0), .val (.int p1), .val (.int p2), .val (.int p3), .val (.int p4), .val (.int nn.toInt32), .val (.int c_406), .val (.int c_408), .val (.int c_410), .val (.int c_412), .val (.ref b414), .val (.int (0 : Int32)), .val (.int (1 : Int32))] [(.int (1 : Int32))]) (fun _ k => st1223 _ k) ?_
            refine WinW.to T1223 (mkF m 183 #[.val (.int p0), .val (.int p1), .val (.int p2), .val (.int p3), .val (.int p4), .val (.int nn.toInt32), .val (.int c_406), .val (.int c_408), .val (.int c_410), .val (.int c_412), .val (.ref b414), .val (.int (0 : Int32)), .val (.int (1 : Int32))] [(.int (1 : Int32)), (.int (1 : Int32))]) (fun _ k => XS.iload X1223.here hx rfl (hb hby at_181) rfl k) ?_
            refine WinW.to T1223 (mkF m 186 #[.val (.int p0), .val (.int p1), .val (.int p2), .val (.int p3), .val (.int p4), .val (.int nn.toInt32), .val (.int c_406), .val (.int c_408), .val (.int c_410), .val (.int c_412), .val (.ref b414), .val (.int (0 : Int32)), .val (.int (1 : Int32))] []) (fun _ k => XS.icmpNo X1223.here hx rfl (hb hby at_183) rfl (teq (show (1 : Int32) = (1 : Int32) from by decide)).2 k) ?_
            refine WinW.to T1223 (mkF m 187 #[.val (.int p0), .val (.int p1), .val (.int p2), .val (.int p3), .val (.int p4), .val (.int nn.toInt32), .val (.int c_406), .val (.int c_408), .val (.int c_410), .val (.int c_412), .val (.ref b414), .val (.int (0 : Int32)), .val (.int (1 : Int32))] [(.int (1 : Int32))]) (fun _ k => XS.iconst X1223.here hx rfl (hb hby at_186) k) ?_
            refine WinW.to T1223 (mkF m 191 #[.val (.int p0), .val (.int p1), .val (.int p2), .val (.int p3), .val (.int p4), .val (.int nn.toInt32), .val (.int c_406), .val (.int c_408), .val (.int c_410), .val (.int c_412), .val (.ref b414), .val (.int (0 : Int32)), .val (.int (1 : Int32))] [(.int (1 : Int32))]) (fun _ k => XS.goto X1223.here hx rfl (pc0 := 187) (pc' := 191) rfl (hb hby at_187) (by decide) (by decide) k) ?_
            exact WinW.retN X1223 hS1216 (by rw [e1223]; exact hk1216) hx hlk (t := .boolean) hret (by simp) rfl (hb hby at_191) hZ1216 (own_EW hw) (by rw [e1223]; exact C1221) (by decide) (by decide) (by (try rw [e1223]); exact ⟨rfl, N1224, trivial⟩)
          · have S1226 : Safe Z EL1 (s.setVm s.vm).vm h1205 b1205 := own_safe hZ.alike A1205 F1213 (wk hw 7 rfl)
            obtain ⟨T1225, h1225, v1225, L1225, X1225, e1225, ⟨t_1225, kb_1225, rfl, N1225q, r1225_0, r1225_1, r1225_2, r1225_3, r1225_4⟩, st1225⟩ := N.special X1205 hx hZ (y := (⟨"java/lang/String", "<init>", "([C)V"⟩ : MethodName)) rfl hown (wk hw 9 rfl) (wk hw 10 rfl) (wk hw 8 rfl) (wk hw 11 rfl) (by decide) (ctor1u l Z a0 hw b1205 b414 k414 nn (upd (upd (upd (upd (fun _ => 0) 0 c_406) 1 c_408) (nn - 2) c_410) (nn - 1) c_412) cs h1205 n0 O1209 A1205 F1213 F1214 F1215 hle (Classical.byContradiction fun q => hl fun i hi hp => q ⟨i, hi, hp⟩) g1207 S_AD S_HI S_LO S_CS hcs) e1205 (g := (mkF m 175 #[.val (.int p0), .val (.int p1), .val (.int p2), .val (.int p3), .val (.int p4), .val (.int nn.toInt32), .val (.int c_406), .val (.int c_408), .val (.int c_410), .val (.int c_412), .val (.ref b414), .val (.int (0 : Int32)), .val (.int (1 : Int32))] [(.ref b414), (.ref b1205), (.ref b1205)])) rfl (by rw [hml]; rfl) (a := b1205) (argsL := [(.ref b414)]) (rest := [(.ref b1205)]) rfl (lenOf pd___C_V rfl) rfl (W := 1) (by show 2 * 0 + _ ≤ _; exact Nat.le_of_eq rfl) (hb hby at_175) (by decide) (by decide) (by decide) (by decide)
            have N1227 := Fr.app N1168 N1225q
            have ne1228 : b414 ≠ t_1225 := Nat.ne_of_lt (Nat.lt_of_lt_of_le F1215.lt r1225_1)
            have ne1229 : b1205 ≠ t_1225 := Nat.ne_of_lt (Nat.lt_of_lt_of_le A1205.lt r1225_1)
            have g1230 : n0 ≤ t_1225 := Nat.le_trans (own_le O1209) r1225_1
            have z1231 : h0.size ≤ t_1225 := Nat.le_trans K1210.1 r1225_1
            have O1232 := Old.keep O1209 r1225_0 (allS g1207 all0)
            have K1233 : Keep h0 h1225 [] := Keep.trans K1210 r1225_0 (allS (Or.inr z1208) all0)
            have c1234 := CHr.keep r1225_0 (sfS S1226 sf0) C1212.1
            have C1235 := CHr.trans C1212 c1234
            have S1236 := CHr.safe c1234 A1205.lt S1226
            refine WinW.to T1225 (mkF m 178 #[.val (.int p0), .val (.int p1), .val (.int p2), .val (.int p3), .val (.int p4), .val (.int nn.toInt32), .val (.int c_406), .val (.int c_408), .val (.int c_410), .val (.int c_412), .val (.ref b414), .val (.int (0 : Int32)), .val (.int (1 : Int32))] [(.ref b1205)]) (fun _ k => st1225 _ k) ?_
            have F1237 : Exa Z h1225 b1205 "java/lang/String" := (A1205.keep r1225_0)
            have F1238 : ArF Z h1225 b414 k414 .char nn (upd (upd (upd (upd (fun _ => 0) 0 c_406) 1 c_408) (nn - 2) c_410) (nn - 1) c_412) := (F1215.keep r1225_0 (ninS ne1206 nin0))
            obtain ⟨T1239, h1239, v1239, L1239, X1239, e1239, ⟨rfl, N1239q, r1239_0⟩, st1239⟩ := N.static X1225 hx hZ (y := (⟨"com/example/usher/usher/lifecycle/ExecutionKey", "fits", "(Ljava/lang/String;)Z"⟩ : MethodName)) hown (wk hw 27 rfl) (wk hw 28 rfl) (wk hw 29 rfl) (wk hw 30 rfl) (by decide) (fitU1 l Z a0 hw b1205 t_1225 kb_1225 nn (upd (upd (upd (upd (fun _ => 0) 0 c_406) 1 c_408) (nn - 2) c_410) (nn - 1) c_412) 0 cs h1225 n0 O1232 F1237 r1225_2 r1225_3 r1225_4 (own_fr F1238) (by omega) ((own_cp3 (by omega)).trans (by rw [if_neg (fun q => hsu643 q.1), if_neg (fun q => hsu1033 q.1)])) h512 S_AD S_HI S_LO S_CS hcs) e1225 (g := (mkF m 178 #[.val (.int p0), .val (.int p1), .val (.int p2), .val (.int p3), .val (.int p4), .val (.int nn.toInt32), .val (.int c_406), .val (.int c_408), .val (.int c_410), .val (.int c_412), .val (.ref b414), .val (.int (0 : Int32)), .val (.int (1 : Int32))] [(.ref b1205)])) rfl (by rw [hml]; rfl) (argsL := [(.ref b1205)]) (rest := []) rfl (lenOf pd__Ljava_lang_String__Z rfl) rfl (W := 0) (by show 2 * 0 + _ ≤ _; exact Nat.le_of_eq rfl) (hb hby at_178) (by decide) (by decide) (by decide) (by decide)
            have N1240 := Fr.app N1227 N1239q
            have e1239 := e1239.trans r1239_0
            refine WinW.to T1239 (mkF m 181 #[.val (.int p0), .val (.int p1), .val (.int p2), .val (.int p3), .val (.int p4), .val (.int nn.toInt32), .val (.int c_406), .val (.int c_408), .val (.int c_410), .val (.int c_412), .val (.ref b414), .val (.int (0 : Int32)), .val (.int (1 : Int32))] [(.int (1 : Int32))]) (fun _ k => st1239 _ k) ?_
            refine WinW.to T1239 (mkF m 183 #[.val (.int p0), .val (.int p1), .val (.int p2), .val (.int p3), .val (.int p4), .val (.int nn.toInt32), .val (.int c_406), .val (.int c_408), .val (.int c_410), .val (.int c_412), .val (.ref b414), .val (.int (0 : Int32)), .val (.int (1 : Int32))] [(.int (1 : Int32)), (.int (1 : Int32))]) (fun _ k => XS.iload X1239.here hx rfl (hb hby at_181) rfl k) ?_
            refine WinW.to T1239 (mkF m 186 #[.val (.int p0), .val (.int p1), .val (.int p2), .val (.int p3), .val (.int p4), .val (.int nn.toInt32), .val (.int c_406), .val (.int c_408), .val (.int c_410), .val (.int c_412), .val (.ref b414), .val (.int (0 : Int32)), .val (.int (1 : Int32))] []) (fun _ k => XS.icmpNo X1239.here hx rfl (hb hby at_183) rfl (teq (show (1 : Int32) = (1 : Int32) from by decide)).2 k) ?_
            refine WinW.to T1239 (mkF m 187 #[.val (.int p0), .val (.int p1), .val (.int p2), .val (.int p3), .val (.int p4), .val (.int nn.toInt32), .val (.int c_406), .val (.int c_408), .val (.int c_410), .val (.int c_412), .val (.ref b414), .val (.int (0 : Int32)), .val (.int (1 : Int32))] [(.int (1 : Int32))]) (fun _ k => XS.iconst X1239.here hx rfl (hb hby at_186) k) ?_
            refine WinW.to T1239 (mkF m 191 #[.val (.int p0), .val (.int p1), .val (.int p2), .val (.int p3), .val (.int p4), .val (.int nn.toInt32), .val (.int c_406), .val (.int c_408), .val (.int c_410), .val (.int c_412), .val (.ref b414), .val (.int (0 : Int32)), .val (.int (1 : Int32))] [(.int (1 : Int32))]) (fun _ k => XS.goto X1239.here hx rfl (pc0 := 187) (pc' := 191) rfl (hb hby at_187) (by decide) (by decide) k) ?_
            exact WinW.retN X1239 hS0 (by rw [e1239]; exact (Nat.zero_le _)) hx hlk (t := .boolean) hret (by simp) rfl (hb hby at_191) hZ (own_EW hw) (by rw [e1239]; exact C1235) (by decide) (by decide) (by (try rw [e1239]); exact ⟨rfl, N1240, trivial⟩)
set_option maxRecDepth 65536 in
set_option maxHeartbeats 40000000 in
theorem comes_1 {Post : Tables → Env → Array Value → State → Outcome → State → Prop} (hpost : ∀ tb e args s v u, (limb_1_1.after args s (.returned v) u = true ∧ limb_1_2.after args s (.returned v) u = true ∧ True) → ReturnedEndW s (.returned v) u (Jvm.fieldLocs frame_1_writes args s ++ Jvm.arrayLocs frame_1_arrays args s ++ Jvm.staticLocs frame_1_statics s) 24 9344 → Post tb e args s (.returned v) u) :
    ArmFor flags0 classFile x code maxLocals ret World_1 tables_1 room_1 Calls_1 rest_1 Pre_1 Post := by
  intro l hfl _ hworld p e ha hc hk s m args below hf hA hF happ hP
  obtain ⟨hcalls, hrest, hpre⟩ := hP
  obtain ⟨-, -, -, hnamed, -, -, -, hat⟩ := (Spec.applies_iff hf).mp happ
  obtain ⟨hg, hn⟩ := and_e (Cond.before_iff.mp (show (Jvm.Cond.and given_1 narrow_1).before args s = true from hpre))
  obtain ⟨gc, hg⟩ := and_e hg
  obtain ⟨ga0, hg⟩ := and_e hg
  obtain ⟨ga1, hg⟩ := and_e hg
  obtain ⟨ga2, hg⟩ := and_e hg
  obtain ⟨ga3, hg⟩ := and_e hg
  obtain ⟨w0, w1, w2, w3, w4, rfl⟩ : ∃ w0 w1 w2 w3 w4 : Value, args = #[w0, w1, w2, w3, w4] := by
    have hs : args.size = 5 := by simpa [Cond.value, given_1] using gc
    obtain ⟨L⟩ := args
    match L, hs with
    | [w0, w1, w2, w3, w4], _ => exact ⟨w0, w1, w2, w3, w4, rfl⟩
  have hw := fun d (hd : d ∈ tables_1) => atoms_spec (ws := Jvm.Cond.code x code maxLocals ret :: tables_1) hat d (List.mem_cons_of_mem _ hd)
  have hfit : Fit s := fun {y c} hc i hi => by
    obtain ⟨ha, rfl⟩ := Array.getElem?_eq_some_iff.mp hc
    have q := List.all_eq_true.mp ((Array.all_eq_true_iff_forall_mem.mp hF) _ (Array.getElem_mem ha)) i (List.mem_range.mpr hi)
    simpa [Array.getElem?_eq_getElem hi] using q
  obtain ⟨hsets, hown0⟩ := atoms_of _ (rest_1_c_eq ▸ (show rest_1_c.before _ s = true from hrest))
  have hr0 := Cond.before_iff.mp hown0
  obtain ⟨i0, ei0⟩ := is_v ga0
  obtain rfl : w0 = (.int i0) := Option.some.inj ei0
  obtain ⟨i1, ei1⟩ := is_v ga1
  obtain rfl : w1 = (.int i1) := Option.some.inj ei1
  obtain ⟨i2, ei2⟩ := is_v ga2
  obtain rfl : w2 = (.int i2) := Option.some.inj ei2
  obtain ⟨i3, ei3⟩ := is_v ga3
  obtain rfl : w3 = (.int i3) := Option.some.inj ei3
  obtain ⟨i4, ei4⟩ := is_v hg
  obtain rfl : w4 = (.int i4) := Option.some.inj ei4
  have hs := fun i (d : Jvm.Cond) (hd : jdkStatics_1[i]? = some d) => hsets d (List.mem_of_getElem? hd)
  obtain ⟨cs, ev_cs⟩ := is_v (Cond.before_iff.mp (hs 1 _ rfl))
  have S_CS : Sta s s.heap "java/lang/String" "COMPACT_STRINGS" "Z" (.int cs) := Sta.start ev_cs (Or.inl (hs 0 _ rfl))
  have hcs : ¬ (cs = (0 : Int32)) := gotF (Cond.eq_ints ev_cs rfl) (not_v (Cond.before_iff.mp (hs 2 _ rfl)))
  have hch : CHv s EL1 s.vm s.heap := CHv.start (own_EW hw) (fun p hp => hcalls.1 p hp) (hs 2 _ rfl) (wk hw 20 rfl) (wk hw 7 rfl)
  have S_AD : Sta s s.heap "java/lang/StringUTF16" "$assertionsDisabled" "Z" (.int (1 : Int32)) := Sta.start (Cond.eq_int (hs 12 _ rfl) rfl) (Or.inl (hs 11 _ rfl))
  have S_HI : Sta s s.heap "java/lang/StringUTF16" "HI_BYTE_SHIFT" "I" (.int (0 : Int32)) := Sta.start (Cond.eq_int (hs 15 _ rfl) rfl) (Or.inl (hs 14 _ rfl))
  have S_LO : Sta s s.heap "java/lang/StringUTF16" "LO_BYTE_SHIFT" "I" (.int (8 : Int32)) := Sta.start (Cond.eq_int (hs 18 _ rfl) rfl) (Or.inl (hs 17 _ rfl))
  obtain ⟨n, o, h1, h2, h3, v, L, rfl, hQ, -, hq⟩ := rm0 l s _ hw tables_1 i0 i1 i2 i3 i4 cs s.heap s.heap.size (Old.start s) S_CS hcs S_AD S_HI S_LO p e ha hc hk s m _ below hf ((Spec.applies_iff_loose hf).mp happ).1 ⟨rfl, State.Warmed39.refl s, rfl, hch⟩ trivial
  obtain ⟨rfl, N, -⟩ := hQ
  refine ⟨n, _, h1, h2, h3, hpost _ _ _ _ _ _ ⟨Cond.after_iff.mpr rfl, Cond.after_iff.mpr (eq_i res_at (Term.int_eval (1)) rfl), trivial⟩ ⟨hq.1, hq.2.1, hq.2.2.1, (hq.2.2.2.sift fun y hy => Or.inr (N y hy)).mono (by decide) (by decide)⟩⟩
theorem main_1_1 : Claimed_1_1 := comes_1 fun _ _ _ _ _ _ h hF => ⟨h.1, hF⟩
theorem main_1_2 : Claimed_1_2 := comes_1 fun _ _ _ _ _ _ h hF => ⟨h.2.1, hF⟩
end Jvm.Pilot.@@N@@
namespace Jvm.Pilot.@@N@@
open Jvm Jvm.ClassFile Sem Op Lib Jvm.Free Jvm.Stand Jvm.Pilot.@@N@@.Jvm.D
/-! MADE BY PROGRAM (witnessworld.py) out of the Statement's table words and the real class files: 22 classes; the members and pool entries that the words name. The judged class is class 1, her method 4. -/
namespace start1
open Jvm.ClassFile
def u (s : String) : CpInfo := .utf8 (stringToUtf16 s)
/-- a pool by its gaps: so many unusable entries, then the entry; so many at the end -/
def gap : Nat → List CpInfo → List CpInfo
  | 0, r => r
  | n + 1, r => .unusable :: gap n r
def poolList (es : List (Nat × CpInfo)) (last : Nat) : List CpInfo := es.foldr (fun e r => gap e.1 (e.2 :: r)) (gap last [])
def pool (es : List (Nat × CpInfo)) (last : Nat) : Array CpInfo := ⟨poolList es last⟩
def fileOf (pool : Array CpInfo) (this : Nat) (attrs : Array Attribute := #[]) (ms : Array MethodInfo := #[]) (fl : Nat := 33) (sup : Nat := 0) (ifs : Array Nat := #[]) (fds : Array FieldInfo := #[]) : ClassFile where
  minorVersion := 0
  majorVersion := 65
  constantPool := pool
  accessFlags := fl
  thisClass := this
  superClass := sup
  interfaces := ifs
  fields := fds
  methods := ms
  attributes := attrs
def plain (name : String) (sup : Option ClassId) : Class where
  name := name
  kind := .ordinary
  loader := none
  accessFlags := 33
  super := sup
  interfaces := #[]
  cf := none
  fields := #[]
  methods := #[]
  instanceTypes := #[]
  staticTypes := #[]
  resolved := #[]
  callSites := []
  init := .initialized
  statics := none
  mirror := none

def pool0 : Array CpInfo := pool [(5, u "<init>"), (0, u "()V"), (1, .class_ 10), (1, u "java/lang/Object")] 113

def k0c0 : Code := { maxStack := 0, maxLocals := 1, code := object_method_1_code, exceptionTable := #[], attributes := #[] }
def k0m0 : Method := { name := "<init>", desc := "()V", sig := { parameters := [], returnType := none }, accessFlags := 1, code := some k0c0 }
/-- java/lang/Object -/
def k0 : Class := { plain "java/lang/Object" none with
  accessFlags := 33
  interfaces := #[]
  cf := some (fileOf pool0 8 #[] #[{ accessFlags := 1, nameIndex := 5, descriptorIndex := 6, attributes := #[] }] 33 0 #[] #[])
  fields := #[]
  methods := #[k0m0]
  instanceTypes := #[]
  staticTypes := #[]
  resolved := Array.replicate 124 none
  statics := none }

def pool1 : Array CpInfo := pool [(2, .class_ 4), (1, u "java/lang/Object"), (0, u "<init>"), (0, u "()V"), (0, .integer 55296), (0, .integer 65535), (0, .integer 56319), (0, .integer 56320), (0, .integer 57343), (0, .methodref 13 14), (0, .class_ 15), (0, .nameAndType 16 17), (0, u "com/example/usher/usher/lifecycle/ExecutionKeyFitsPinLaw"), (0, u "draw"), (0, u "(I)C"), (0, .methodref 13 19), (0, .nameAndType 20 21), (0, u "isHigh"), (0, u "(C)Z"), (0, .methodref 13 23), (0, .nameAndType 24 21), (0, u "isLow"), (0, .class_ 26), (0, u "java/lang/String"), (0, .methodref 25 28), (0, .nameAndType 5 29), (0, u "([C)V"), (0, .methodref 31 32), (0, .class_ 33), (0, .nameAndType 34 35), (0, u "com/example/usher/usher/lifecycle/ExecutionKey"), (0, u "fits"), (0, u "(Ljava/lang/String;)Z"), (3, u "law"), (0, u "(IIIII)Z")] 4

def k1m0 : Method := { name := "<init>", desc := "()V", sig := { parameters := [], returnType := none }, accessFlags := 1, code := none }
def k1c1 : Code := { maxStack := 3, maxLocals := 1, code := method_2_code, exceptionTable := #[], attributes := #[] }
def k1m1 : Method := { name := "draw", desc := "(I)C", sig := { parameters := [.int], returnType := some .char }, accessFlags := 10, code := some k1c1 }
def k1c2 : Code := { maxStack := 2, maxLocals := 1, code := method_3_code, exceptionTable := #[], attributes := #[] }
def k1m2 : Method := { name := "isHigh", desc := "(C)Z", sig := { parameters := [.char], returnType := some .boolean }, accessFlags := 10, code := some k1c2 }
def k1c3 : Code := { maxStack := 2, maxLocals := 1, code := method_4_code, exceptionTable := #[], attributes := #[] }
def k1m3 : Method := { name := "isLow", desc := "(C)Z", sig := { parameters := [.char], returnType := some .boolean }, accessFlags := 10, code := some k1c3 }
def k1c4 : Code := { maxStack := 3, maxLocals := 13, code := code, exceptionTable := #[], attributes := #[] }
def k1m4 : Method := { name := "law", desc := "(IIIII)Z", sig := { parameters := [.int, .int, .int, .int, .int], returnType := some .boolean }, accessFlags := 9, code := some k1c4 }
/-- com/example/usher/usher/lifecycle/ExecutionKeyFitsPinLaw -/
def k1 : Class := { plain "com/example/usher/usher/lifecycle/ExecutionKeyFitsPinLaw" (some 0) with
  accessFlags := 49
  interfaces := #[]
  cf := some (fileOf pool1 13 #[] #[{ accessFlags := 1, nameIndex := 5, descriptorIndex := 6, attributes := #[] }, { accessFlags := 10, nameIndex := 16, descriptorIndex := 17, attributes := #[] }, { accessFlags := 10, nameIndex := 20, descriptorIndex := 21, attributes := #[] }, { accessFlags := 10, nameIndex := 24, descriptorIndex := 21, attributes := #[] }, { accessFlags := 9, nameIndex := 39, descriptorIndex := 40, attributes := #[] }] 49 2 #[] #[])
  fields := #[]
  methods := #[k1m0, k1m1, k1m2, k1m3, k1m4]
  instanceTypes := #[]
  staticTypes := #[]
  resolved := Array.replicate 45 none
  statics := none }

def pool2 : Array CpInfo := pool [(1, .class_ 2), (0, u "java/io/Serializable"), (0, .class_ 4), (0, u "java/lang/Object")] 2

/-- java/io/Serializable -/
def k2 : Class := { plain "java/io/Serializable" (some 0) with
  accessFlags := 1537
  interfaces := #[]
  cf := some (fileOf pool2 1 #[] #[] 1537 3 #[] #[])
  fields := #[]
  methods := #[]
  instanceTypes := #[]
  staticTypes := #[]
  resolved := Array.replicate 7 none
  statics := none }

def pool3 : Array CpInfo := pool [(1, .class_ 2), (0, u "java/lang/Comparable"), (0, .class_ 4), (0, u "java/lang/Object")] 7

/-- java/lang/Comparable -/
def k3 : Class := { plain "java/lang/Comparable" (some 0) with
  accessFlags := 1537
  interfaces := #[]
  cf := some (fileOf pool3 1 #[] #[] 1537 3 #[] #[])
  fields := #[]
  methods := #[]
  instanceTypes := #[]
  staticTypes := #[]
  resolved := Array.replicate 12 none
  statics := none }

def pool4 : Array CpInfo := pool [(2, .class_ 4), (1, u "java/lang/CharSequence"), (42, .class_ 48), (0, u "java/lang/CharSequence$1CodePointIterator"), (10, .class_ 60), (0, u "java/lang/CharSequence$1CharIterator"), (5, .class_ 67), (0, u "java/lang/Object")] 63

/-- java/lang/CharSequence -/
def k4 : Class := { plain "java/lang/CharSequence" (some 0) with
  accessFlags := 1537
  interfaces := #[]
  cf := some (fileOf pool4 2 #[.nestMembers #[47, 59]] #[] 1537 66 #[] #[])
  fields := #[]
  methods := #[]
  instanceTypes := #[]
  staticTypes := #[]
  resolved := Array.replicate 131 none
  statics := none }

def pool5 : Array CpInfo := pool [(1, .class_ 2), (0, u "java/lang/constant/Constable"), (0, .class_ 4), (0, u "java/lang/Object")] 6

/-- java/lang/constant/Constable -/
def k5 : Class := { plain "java/lang/constant/Constable" (some 0) with
  accessFlags := 1537
  interfaces := #[]
  cf := some (fileOf pool5 1 #[] #[] 1537 3 #[] #[])
  fields := #[]
  methods := #[]
  instanceTypes := #[]
  staticTypes := #[]
  resolved := Array.replicate 11 none
  statics := none }

def pool6 : Array CpInfo := pool [(1, .class_ 2), (0, u "java/lang/constant/ConstantDesc"), (0, .class_ 4), (0, u "java/lang/Object")] 32

/-- java/lang/constant/ConstantDesc -/
def k6 : Class := { plain "java/lang/constant/ConstantDesc" (some 0) with
  accessFlags := 1537
  interfaces := #[]
  cf := some (fileOf pool6 1 #[] #[] 1537 3 #[] #[])
  fields := #[]
  methods := #[]
  instanceTypes := #[]
  staticTypes := #[]
  resolved := Array.replicate 37 none
  statics := none }

def pool7 : Array CpInfo := pool [(1, .methodref 2 3), (0, .class_ 4), (0, .nameAndType 5 6), (0, u "java/lang/Object"), (0, u "<init>"), (0, u "()V"), (0, .string 8), (0, u ""), (0, .fieldref 10 11), (0, .class_ 12), (0, .nameAndType 13 14), (0, u "java/lang/String"), (0, u "value"), (0, u "[B"), (0, .fieldref 10 16), (0, .nameAndType 17 18), (0, u "coder"), (0, u "B"), (2, u "hash"), (0, u "I"), (2, u "hashIsZero"), (0, u "Z"), (0, .methodref 10 28), (0, .nameAndType 5 29), (0, u "([CIILjava/lang/Void;)V"), (7, u "(III)I"), (0, .fieldref 10 39), (0, .nameAndType 40 26), (0, u "COMPACT_STRINGS"), (1, .class_ 44), (1, u "java/lang/StringUTF16"), (0, u "compress"), (1, .methodref 42 48), (0, .nameAndType 49 50), (0, u "coderFromArrayLen"), (0, u "([BI)B"), (28, .class_ 81), (1, u "java/util/Objects"), (15, u "([BII)I"), (44, u "()Z"), (34, .methodref 42 178), (0, .nameAndType 45 179), (0, u "([CII)[B"), (154, u "()I"), (0, .methodref 10 336), (0, .nameAndType 17 337), (0, u "()B"), (154, .methodref 10 493), (0, .nameAndType 494 142), (0, u "isLatin1"), (10, .methodref 10 506), (0, .nameAndType 507 334), (0, u "length"), (3, .methodref 79 512), (0, .nameAndType 513 37), (0, u "checkFromToIndex"), (0, .methodref 42 515), (0, .nameAndType 516 97), (0, u "codePointCount"), (58, .class_ 576), (0, u "java/lang/CharSequence"), (22, u "CASE_INSENSITIVE_ORDER"), (0, u "Ljava/util/Comparator;"), (35, u "(II)I"), (55, u "isEmpty"), (317, u "([C)V"), (90, u "serialPersistentFields"), (0, u "[Ljava/io/ObjectStreamField;"), (0, .class_ 1104), (0, u "java/lang/String$CaseInsensitiveComparator"), (1, .class_ 1107), (0, u "java/io/Serializable"), (0, .class_ 1109), (0, u "java/lang/Comparable"), (0, .class_ 1111), (0, u "java/lang/constant/Constable"), (0, .class_ 1113), (0, u "java/lang/constant/ConstantDesc"), (2, u "serialVersionUID"), (0, u "J"), (3, u "REPL"), (0, u "C"), (2, u "LATIN1"), (1, u "UTF16")] 323

def k7m0 : Method := { name := "<init>", desc := "()V", sig := { parameters := [], returnType := none }, accessFlags := 1, code := none }
def k7c1 : Code := { maxStack := 5, maxLocals := 2, code := jdk_42_method_3_code, exceptionTable := #[], attributes := #[] }
def k7m1 : Method := { name := "<init>", desc := "([C)V", sig := { parameters := [(.array .char)], returnType := none }, accessFlags := 1, code := some k7c1 }
def k7c2 : Code := { maxStack := 2, maxLocals := 1, code := jdk_42_method_54_code, exceptionTable := #[], attributes := #[] }
def k7m2 : Method := { name := "length", desc := "()I", sig := { parameters := [], returnType := some .int }, accessFlags := 1, code := some k7c2 }
def k7c3 : Code := { maxStack := 1, maxLocals := 1, code := jdk_42_method_55_code, exceptionTable := #[], attributes := #[] }
def k7m3 : Method := { name := "isEmpty", desc := "()Z", sig := { parameters := [], returnType := some .boolean }, accessFlags := 1, code := some k7c3 }
def k7c4 : Code := { maxStack := 3, maxLocals := 3, code := jdk_42_method_59_code, exceptionTable := #[], attributes := #[] }
def k7m4 : Method := { name := "codePointCount", desc := "(II)I", sig := { parameters := [.int, .int], returnType := some .int }, accessFlags := 1, code := some k7c4 }
def k7c5 : Code := { maxStack := 4, maxLocals := 6, code := jdk_42_method_149_code, exceptionTable := #[], attributes := #[] }
def k7m5 : Method := { name := "<init>", desc := "([CIILjava/lang/Void;)V", sig := { parameters := [(.array .char), .int, .int, (.object "java/lang/Void")], returnType := none }, accessFlags := 2, code := some k7c5 }
def k7c6 : Code := { maxStack := 1, maxLocals := 1, code := jdk_42_method_152_code, exceptionTable := #[], attributes := #[] }
def k7m6 : Method := { name := "coder", desc := "()B", sig := { parameters := [], returnType := some .byte }, accessFlags := 0, code := some k7c6 }
def k7c7 : Code := { maxStack := 1, maxLocals := 1, code := jdk_42_method_154_code, exceptionTable := #[], attributes := #[] }
def k7m7 : Method := { name := "isLatin1", desc := "()Z", sig := { parameters := [], returnType := some .boolean }, accessFlags := 0, code := some k7c7 }
/-- java/lang/String -/
def k7 : Class := { plain "java/lang/String" (some 0) with
  accessFlags := 49
  interfaces := #[2, 3, 4, 5, 6]
  cf := some (fileOf pool7 10 #[.nestMembers #[1103]] #[{ accessFlags := 1, nameIndex := 5, descriptorIndex := 6, attributes := #[] }, { accessFlags := 1, nameIndex := 5, descriptorIndex := 1010, attributes := #[] }, { accessFlags := 1, nameIndex := 507, descriptorIndex := 334, attributes := #[] }, { accessFlags := 1, nameIndex := 692, descriptorIndex := 142, attributes := #[] }, { accessFlags := 1, nameIndex := 516, descriptorIndex := 636, attributes := #[] }, { accessFlags := 2, nameIndex := 5, descriptorIndex := 29, attributes := #[] }, { accessFlags := 0, nameIndex := 17, descriptorIndex := 337, attributes := #[] }, { accessFlags := 0, nameIndex := 494, descriptorIndex := 142, attributes := #[] }] 49 2 #[1106, 1108, 575, 1110, 1112] #[{ accessFlags := 18, nameIndex := 13, descriptorIndex := 14, attributes := #[] }, { accessFlags := 18, nameIndex := 17, descriptorIndex := 18, attributes := #[] }, { accessFlags := 2, nameIndex := 21, descriptorIndex := 22, attributes := #[] }, { accessFlags := 2, nameIndex := 25, descriptorIndex := 26, attributes := #[] }, { accessFlags := 26, nameIndex := 1116, descriptorIndex := 1117, attributes := #[] }, { accessFlags := 24, nameIndex := 40, descriptorIndex := 26, attributes := #[] }, { accessFlags := 26, nameIndex := 1101, descriptorIndex := 1102, attributes := #[] }, { accessFlags := 26, nameIndex := 1121, descriptorIndex := 1122, attributes := #[] }, { accessFlags := 25, nameIndex := 599, descriptorIndex := 600, attributes := #[] }, { accessFlags := 24, nameIndex := 1125, descriptorIndex := 18, attributes := #[] }, { accessFlags := 24, nameIndex := 1127, descriptorIndex := 18, attributes := #[] }])
  fields := #[{ name := "value", type := (.array .byte), accessFlags := 18, slot := 0, constantValue := 0 }, { name := "coder", type := .byte, accessFlags := 18, slot := 1, constantValue := 0 }, { name := "hash", type := .int, accessFlags := 2, slot := 2, constantValue := 0 }, { name := "hashIsZero", type := .boolean, accessFlags := 2, slot := 3, constantValue := 0 }, { name := "serialVersionUID", type := .long, accessFlags := 26, slot := 0, constantValue := 0 }, { name := "COMPACT_STRINGS", type := .boolean, accessFlags := 24, slot := 1, constantValue := 0 }, { name := "serialPersistentFields", type := (.array (.object "java/io/ObjectStreamField")), accessFlags := 26, slot := 2, constantValue := 0 }, { name := "REPL", type := .char, accessFlags := 26, slot := 3, constantValue := 0 }, { name := "CASE_INSENSITIVE_ORDER", type := (.object "java/util/Comparator"), accessFlags := 25, slot := 4, constantValue := 0 }, { name := "LATIN1", type := .byte, accessFlags := 24, slot := 5, constantValue := 0 }, { name := "UTF16", type := .byte, accessFlags := 24, slot := 6, constantValue := 0 }]
  methods := #[k7m0, k7m1, k7m2, k7m3, k7m4, k7m5, k7m6, k7m7]
  instanceTypes := #[(.array .byte), .byte, .int, .boolean]
  staticTypes := #[.long, .boolean, (.array (.object "java/io/ObjectStreamField")), .char, (.object "java/util/Comparator"), .byte, .byte]
  resolved := Array.replicate 1451 none
  statics := some 0 }

def pool8 : Array CpInfo := pool [(2, .class_ 4), (1, u "java/lang/Object"), (3, .class_ 10), (1, u "com/example/usher/usher/lifecycle/ExecutionKey"), (0, u "fits"), (0, u "(Ljava/lang/String;)Z"), (9, .class_ 24), (1, u "java/lang/String"), (11, u "text"), (0, u "Ljava/lang/String;"), (2, u "seconds"), (0, u "Ljava/util/OptionalInt;"), (0, .methodref 22 43), (0, .nameAndType 44 45), (0, u "isEmpty"), (0, u "()Z"), (0, .methodref 22 47), (0, .nameAndType 48 49), (0, u "length"), (0, u "()I"), (0, .methodref 22 51), (0, .nameAndType 52 53), (0, u "codePointCount"), (0, u "(II)I"), (0, u "MAX_LENGTH"), (0, u "I")] 27

def k8c0 : Code := { maxStack := 3, maxLocals := 1, code := prog_33_method_2_code, exceptionTable := #[], attributes := #[] }
def k8m0 : Method := { name := "fits", desc := "(Ljava/lang/String;)Z", sig := { parameters := [(.object "java/lang/String")], returnType := some .boolean }, accessFlags := 9, code := some k8c0 }
/-- com/example/usher/usher/lifecycle/ExecutionKey -/
def k8 : Class := { plain "com/example/usher/usher/lifecycle/ExecutionKey" (some 0) with
  accessFlags := 33
  interfaces := #[]
  cf := some (fileOf pool8 8 #[] #[{ accessFlags := 9, nameIndex := 11, descriptorIndex := 12, attributes := #[] }] 33 2 #[] #[{ accessFlags := 25, nameIndex := 54, descriptorIndex := 55, attributes := #[] }, { accessFlags := 18, nameIndex := 36, descriptorIndex := 37, attributes := #[] }, { accessFlags := 18, nameIndex := 40, descriptorIndex := 41, attributes := #[] }])
  fields := #[{ name := "MAX_LENGTH", type := .int, accessFlags := 25, slot := 0, constantValue := 0 }, { name := "text", type := (.object "java/lang/String"), accessFlags := 18, slot := 0, constantValue := 0 }, { name := "seconds", type := (.object "java/util/OptionalInt"), accessFlags := 18, slot := 1, constantValue := 0 }]
  methods := #[k8m0]
  instanceTypes := #[(.object "java/lang/String"), (.object "java/util/OptionalInt")]
  staticTypes := #[.int]
  resolved := Array.replicate 83 none
  statics := none }

def pool9 : Array CpInfo := pool [(6, .class_ 8), (1, u "java/lang/Object"), (0, u "<init>"), (0, u "()V"), (0, .methodref 12 13), (0, .class_ 14), (0, .nameAndType 15 16), (0, u "java/lang/StringUTF16"), (0, u "newBytesLength"), (0, u "(I)I"), (3, .integer 1073741823), (23, .fieldref 12 45), (0, .nameAndType 46 47), (0, u "$assertionsDisabled"), (0, u "Z"), (11, .fieldref 12 60), (0, .nameAndType 61 62), (0, u "HI_BYTE_SHIFT"), (0, u "I"), (0, .fieldref 12 64), (0, .nameAndType 65 62), (0, u "LO_BYTE_SHIFT"), (5, .methodref 12 72), (0, .nameAndType 73 74), (0, u "getChar"), (0, u "([BI)C"), (0, .methodref 76 77), (0, .class_ 78), (0, .nameAndType 79 80), (0, u "java/lang/Character"), (0, u "isHighSurrogate"), (0, u "(C)Z"), (0, .methodref 76 82), (0, .nameAndType 83 80), (0, u "isLowSurrogate"), (7, u "([BIIZ)I"), (8, .methodref 12 101), (0, .nameAndType 102 91), (0, u "codePointCount"), (4, .methodref 12 108), (0, .nameAndType 109 110), (0, u "newBytesFor"), (0, u "(I)[B"), (0, .methodref 12 112), (0, .nameAndType 113 114), (0, u "putChar"), (0, u "([BII)V"), (0, .methodref 12 116), (0, .nameAndType 117 118), (0, u "compress"), (0, u "([CI[BII)I"), (0, .methodref 12 120), (0, .nameAndType 121 122), (0, u "toBytes"), (0, u "([CII)[B"), (127, u "([BII)I"), (10, u "coderFromArrayLen"), (0, u "([BI)B"), (106, .class_ 371), (1, u "java/lang/StringUTF16$LinesSpliterator"), (58, u "MAX_LENGTH"), (196, .class_ 628), (0, u "java/lang/StringUTF16$CodePointsSpliterator"), (0, .class_ 630), (0, u "java/lang/StringUTF16$CharsSpliterator")] 4

def k9m0 : Method := { name := "<init>", desc := "()V", sig := { parameters := [], returnType := none }, accessFlags := 0, code := none }
def k9c1 : Code := { maxStack := 1, maxLocals := 1, code := jdk_52_method_2_code, exceptionTable := #[], attributes := #[] }
def k9m1 : Method := { name := "newBytesFor", desc := "(I)[B", sig := { parameters := [.int], returnType := some (.array .byte) }, accessFlags := 9, code := some k9c1 }
def k9c2 : Code := { maxStack := 4, maxLocals := 1, code := jdk_52_method_3_code, exceptionTable := #[], attributes := #[] }
def k9m2 : Method := { name := "newBytesLength", desc := "(I)I", sig := { parameters := [.int], returnType := some .int }, accessFlags := 9, code := some k9c2 }
def k9c3 : Code := { maxStack := 4, maxLocals := 3, code := jdk_52_method_4_code, exceptionTable := #[], attributes := #[] }
def k9m3 : Method := { name := "putChar", desc := "([BII)V", sig := { parameters := [(.array .byte), .int, .int], returnType := none }, accessFlags := 8, code := some k9c3 }
def k9c4 : Code := { maxStack := 3, maxLocals := 2, code := jdk_52_method_5_code, exceptionTable := #[], attributes := #[] }
def k9m4 : Method := { name := "getChar", desc := "([BI)C", sig := { parameters := [(.array .byte), .int], returnType := some .char }, accessFlags := 8, code := some k9c4 }
def k9c5 : Code := { maxStack := 3, maxLocals := 6, code := jdk_52_method_11_code, exceptionTable := #[], attributes := #[] }
def k9m5 : Method := { name := "codePointCount", desc := "([BIIZ)I", sig := { parameters := [(.array .byte), .int, .int, .boolean], returnType := some .int }, accessFlags := 10, code := some k9c5 }
def k9c6 : Code := { maxStack := 4, maxLocals := 3, code := jdk_52_method_12_code, exceptionTable := #[], attributes := #[] }
def k9m6 : Method := { name := "codePointCount", desc := "([BII)I", sig := { parameters := [(.array .byte), .int, .int], returnType := some .int }, accessFlags := 9, code := some k9c6 }
def k9c7 : Code := { maxStack := 4, maxLocals := 5, code := jdk_52_method_14_code, exceptionTable := #[], attributes := #[] }
def k9m7 : Method := { name := "toBytes", desc := "([CII)[B", sig := { parameters := [(.array .char), .int, .int], returnType := some (.array .byte) }, accessFlags := 9, code := some k9c7 }
def k9c8 : Code := { maxStack := 2, maxLocals := 2, code := jdk_52_method_15_code, exceptionTable := #[], attributes := #[] }
def k9m8 : Method := { name := "coderFromArrayLen", desc := "([BI)B", sig := { parameters := [(.array .byte), .int], returnType := some .byte }, accessFlags := 8, code := some k9c8 }
def k9c9 : Code := { maxStack := 5, maxLocals := 6, code := jdk_52_method_16_code, exceptionTable := #[], attributes := #[] }
def k9m9 : Method := { name := "compress", desc := "([CII)[B", sig := { parameters := [(.array .char), .int, .int], returnType := some (.array .byte) }, accessFlags := 9, code := some k9c9 }
def k9c10 : Code := { maxStack := 3, maxLocals := 7, code := jdk_52_method_21_code, exceptionTable := #[], attributes := #[] }
def k9m10 : Method := { name := "compress", desc := "([CI[BII)I", sig := { parameters := [(.array .char), .int, (.array .byte), .int, .int], returnType := some .int }, accessFlags := 9, code := some k9c10 }
/-- java/lang/StringUTF16 -/
def k9 : Class := { plain "java/lang/StringUTF16" (some 0) with
  accessFlags := 48
  interfaces := #[]
  cf := some (fileOf pool9 12 #[.nestMembers #[627, 629, 369]] #[{ accessFlags := 0, nameIndex := 9, descriptorIndex := 10, attributes := #[] }, { accessFlags := 9, nameIndex := 109, descriptorIndex := 110, attributes := #[] }, { accessFlags := 9, nameIndex := 15, descriptorIndex := 16, attributes := #[] }, { accessFlags := 8, nameIndex := 113, descriptorIndex := 114, attributes := #[] }, { accessFlags := 8, nameIndex := 73, descriptorIndex := 74, attributes := #[] }, { accessFlags := 10, nameIndex := 102, descriptorIndex := 91, attributes := #[] }, { accessFlags := 9, nameIndex := 102, descriptorIndex := 250, attributes := #[] }, { accessFlags := 9, nameIndex := 121, descriptorIndex := 122, attributes := #[] }, { accessFlags := 8, nameIndex := 261, descriptorIndex := 262, attributes := #[] }, { accessFlags := 9, nameIndex := 117, descriptorIndex := 122, attributes := #[] }, { accessFlags := 9, nameIndex := 117, descriptorIndex := 118, attributes := #[] }] 48 6 #[] #[{ accessFlags := 26, nameIndex := 61, descriptorIndex := 62, attributes := #[] }, { accessFlags := 26, nameIndex := 65, descriptorIndex := 62, attributes := #[] }, { accessFlags := 24, nameIndex := 430, descriptorIndex := 62, attributes := #[] }, { accessFlags := 4120, nameIndex := 46, descriptorIndex := 47, attributes := #[] }])
  fields := #[{ name := "HI_BYTE_SHIFT", type := .int, accessFlags := 26, slot := 0, constantValue := 0 }, { name := "LO_BYTE_SHIFT", type := .int, accessFlags := 26, slot := 1, constantValue := 0 }, { name := "MAX_LENGTH", type := .int, accessFlags := 24, slot := 2, constantValue := 0 }, { name := "$assertionsDisabled", type := .boolean, accessFlags := 4120, slot := 3, constantValue := 0 }]
  methods := #[k9m0, k9m1, k9m2, k9m3, k9m4, k9m5, k9m6, k9m7, k9m8, k9m9, k9m10]
  instanceTypes := #[]
  staticTypes := #[.int, .int, .int, .boolean]
  resolved := Array.replicate 635 none
  statics := some 1 }

def pool10 : Array CpInfo := pool [(2, .class_ 4), (1, u "java/lang/Object"), (0, u "<init>"), (0, u "()V"), (35, .class_ 44), (1, u "java/util/Objects"), (61, .class_ 108), (1, u "jdk/internal/util/Preconditions"), (2, .methodref 106 112), (0, .nameAndType 113 114), (0, u "checkFromToIndex"), (0, u "(IIILjava/util/function/BiFunction;)I"), (60, u "(III)I")] 8

def k10m0 : Method := { name := "<init>", desc := "()V", sig := { parameters := [], returnType := none }, accessFlags := 2, code := none }
def k10c1 : Code := { maxStack := 4, maxLocals := 3, code := jdk_31_method_18_code, exceptionTable := #[], attributes := #[] }
def k10m1 : Method := { name := "checkFromToIndex", desc := "(III)I", sig := { parameters := [.int, .int, .int], returnType := some .int }, accessFlags := 9, code := some k10c1 }
/-- java/util/Objects -/
def k10 : Class := { plain "java/util/Objects" (some 0) with
  accessFlags := 49
  interfaces := #[]
  cf := some (fileOf pool10 42 #[] #[{ accessFlags := 2, nameIndex := 5, descriptorIndex := 6, attributes := #[] }, { accessFlags := 9, nameIndex := 113, descriptorIndex := 175, attributes := #[] }] 49 2 #[] #[])
  fields := #[]
  methods := #[k10m0, k10m1]
  instanceTypes := #[]
  staticTypes := #[]
  resolved := Array.replicate 184 none
  statics := none }

def pool11 : Array CpInfo := pool [(2, .class_ 4), (1, u "java/lang/Object"), (0, u "<init>"), (0, u "()V"), (17, .class_ 26), (1, u "jdk/internal/util/Preconditions"), (20, u "checkFromToIndex"), (7, .class_ 56), (0, u "jdk/internal/util/Preconditions$4"), (57, .class_ 115), (0, u "jdk/internal/util/Preconditions$1"), (7, u "SIOOBE_FORMATTER"), (0, u "Ljava/util/function/BiFunction;"), (0, .class_ 126), (0, u "jdk/internal/util/Preconditions$2"), (3, u "AIOOBE_FORMATTER"), (0, .class_ 132), (0, u "jdk/internal/util/Preconditions$3"), (3, u "IOOBE_FORMATTER"), (46, u "(IIILjava/util/function/BiFunction;)I")] 10

def k11m0 : Method := { name := "<init>", desc := "()V", sig := { parameters := [], returnType := none }, accessFlags := 1, code := none }
def k11c1 : Code := { maxStack := 4, maxLocals := 4, code := jdk_41_method_12_code, exceptionTable := #[], attributes := #[] }
def k11m1 : Method := { name := "checkFromToIndex", desc := "(IIILjava/util/function/BiFunction;)I", sig := { parameters := [.int, .int, .int, (.object "java/util/function/BiFunction")], returnType := some .int }, accessFlags := 9, code := some k11c1 }
/-- jdk/internal/util/Preconditions -/
def k11 : Class := { plain "jdk/internal/util/Preconditions" (some 0) with
  accessFlags := 33
  interfaces := #[]
  cf := some (fileOf pool11 24 #[.nestMembers #[55, 131, 125, 114]] #[{ accessFlags := 1, nameIndex := 5, descriptorIndex := 6, attributes := #[] }, { accessFlags := 9, nameIndex := 47, descriptorIndex := 183, attributes := #[] }] 33 2 #[] #[{ accessFlags := 25, nameIndex := 123, descriptorIndex := 124, attributes := #[] }, { accessFlags := 25, nameIndex := 130, descriptorIndex := 124, attributes := #[] }, { accessFlags := 25, nameIndex := 136, descriptorIndex := 124, attributes := #[] }])
  fields := #[{ name := "SIOOBE_FORMATTER", type := (.object "java/util/function/BiFunction"), accessFlags := 25, slot := 0, constantValue := 0 }, { name := "AIOOBE_FORMATTER", type := (.object "java/util/function/BiFunction"), accessFlags := 25, slot := 1, constantValue := 0 }, { name := "IOOBE_FORMATTER", type := (.object "java/util/function/BiFunction"), accessFlags := 25, slot := 2, constantValue := 0 }]
  methods := #[k11m0, k11m1]
  instanceTypes := #[]
  staticTypes := #[(.object "java/util/function/BiFunction"), (.object "java/util/function/BiFunction"), (.object "java/util/function/BiFunction")]
  resolved := Array.replicate 194 none
  statics := some 2 }

def pool12 : Array CpInfo := pool [(1, .class_ 2), (0, u "java/lang/Character"), (18, u "value"), (0, u "C"), (19, .class_ 44), (1, u "java/lang/Object"), (3, .class_ 50), (1, u "java/lang/Character$CharacterCache"), (24, .integer 55296), (0, .integer 56320), (0, .integer 57344), (2, u "isHighSurrogate"), (0, u "(C)Z"), (2, u "isLowSurrogate"), (199, u "$assertionsDisabled"), (0, u "Z"), (21, .class_ 309), (1, u "java/lang/Character$UnicodeBlock"), (73, u "TYPE"), (0, u "Ljava/lang/Class;"), (0, .class_ 386), (0, u "java/io/Serializable"), (0, .class_ 388), (0, u "java/lang/Comparable"), (0, .class_ 390), (0, u "java/lang/constant/Constable"), (0, u "MIN_RADIX"), (0, u "I"), (2, u "MAX_RADIX"), (1, u "MIN_VALUE"), (1, u "MAX_VALUE"), (3, u "UNASSIGNED"), (0, u "B"), (0, u "UPPERCASE_LETTER"), (1, u "LOWERCASE_LETTER"), (0, u "TITLECASE_LETTER"), (1, u "MODIFIER_LETTER"), (1, u "OTHER_LETTER"), (1, u "NON_SPACING_MARK"), (1, u "ENCLOSING_MARK"), (1, u "COMBINING_SPACING_MARK"), (1, u "DECIMAL_DIGIT_NUMBER"), (1, u "LETTER_NUMBER"), (1, u "OTHER_NUMBER"), (1, u "SPACE_SEPARATOR"), (1, u "LINE_SEPARATOR"), (1, u "PARAGRAPH_SEPARATOR"), (1, u "CONTROL"), (1, u "FORMAT"), (1, u "PRIVATE_USE"), (1, u "SURROGATE"), (1, u "DASH_PUNCTUATION"), (1, u "START_PUNCTUATION"), (1, u "END_PUNCTUATION"), (1, u "CONNECTOR_PUNCTUATION"), (1, u "OTHER_PUNCTUATION"), (1, u "MATH_SYMBOL"), (1, u "CURRENCY_SYMBOL"), (1, u "MODIFIER_SYMBOL"), (1, u "OTHER_SYMBOL"), (1, u "INITIAL_QUOTE_PUNCTUATION"), (1, u "FINAL_QUOTE_PUNCTUATION"), (1, u "ERROR"), (1, u "DIRECTIONALITY_UNDEFINED"), (0, u "DIRECTIONALITY_LEFT_TO_RIGHT"), (0, u "DIRECTIONALITY_RIGHT_TO_LEFT"), (0, u "DIRECTIONALITY_RIGHT_TO_LEFT_ARABIC"), (0, u "DIRECTIONALITY_EUROPEAN_NUMBER"), (0, u "DIRECTIONALITY_EUROPEAN_NUMBER_SEPARATOR"), (0, u "DIRECTIONALITY_EUROPEAN_NUMBER_TERMINATOR"), (0, u "DIRECTIONALITY_ARABIC_NUMBER"), (0, u "DIRECTIONALITY_COMMON_NUMBER_SEPARATOR"), (0, u "DIRECTIONALITY_NONSPACING_MARK"), (0, u "DIRECTIONALITY_BOUNDARY_NEUTRAL"), (0, u "DIRECTIONALITY_PARAGRAPH_SEPARATOR"), (0, u "DIRECTIONALITY_SEGMENT_SEPARATOR"), (0, u "DIRECTIONALITY_WHITESPACE"), (0, u "DIRECTIONALITY_OTHER_NEUTRALS"), (0, u "DIRECTIONALITY_LEFT_TO_RIGHT_EMBEDDING"), (0, u "DIRECTIONALITY_LEFT_TO_RIGHT_OVERRIDE"), (0, u "DIRECTIONALITY_RIGHT_TO_LEFT_EMBEDDING"), (0, u "DIRECTIONALITY_RIGHT_TO_LEFT_OVERRIDE"), (1, u "DIRECTIONALITY_POP_DIRECTIONAL_FORMAT"), (0, u "DIRECTIONALITY_LEFT_TO_RIGHT_ISOLATE"), (0, u "DIRECTIONALITY_RIGHT_TO_LEFT_ISOLATE"), (0, u "DIRECTIONALITY_FIRST_STRONG_ISOLATE"), (0, u "DIRECTIONALITY_POP_DIRECTIONAL_ISOLATE"), (0, u "MIN_HIGH_SURROGATE"), (0, u "MAX_HIGH_SURROGATE"), (1, u "MIN_LOW_SURROGATE"), (0, u "MAX_LOW_SURROGATE"), (1, u "MIN_SURROGATE"), (0, u "MAX_SURROGATE"), (0, u "MIN_SUPPLEMENTARY_CODE_POINT"), (0, u "MIN_CODE_POINT"), (0, u "MAX_CODE_POINT"), (1, u "serialVersionUID"), (0, u "J"), (2, u "SIZE"), (0, u "BYTES"), (88, .class_ 596), (0, u "java/lang/Character$UnicodeScript"), (0, .class_ 598), (0, u "java/lang/Character$Subset")] 5

def k12c0 : Code := { maxStack := 2, maxLocals := 1, code := jdk_89_method_14_code, exceptionTable := #[], attributes := #[] }
def k12m0 : Method := { name := "isHighSurrogate", desc := "(C)Z", sig := { parameters := [.char], returnType := some .boolean }, accessFlags := 9, code := some k12c0 }
def k12c1 : Code := { maxStack := 2, maxLocals := 1, code := jdk_89_method_15_code, exceptionTable := #[], attributes := #[] }
def k12m1 : Method := { name := "isLowSurrogate", desc := "(C)Z", sig := { parameters := [.char], returnType := some .boolean }, accessFlags := 9, code := some k12c1 }
/-- java/lang/Character -/
def k12 : Class := { plain "java/lang/Character" (some 0) with
  accessFlags := 49
  interfaces := #[2, 3, 5]
  cf := some (fileOf pool12 1 #[.nestMembers #[48, 595, 307, 597]] #[{ accessFlags := 9, nameIndex := 80, descriptorIndex := 81, attributes := #[] }, { accessFlags := 9, nameIndex := 84, descriptorIndex := 81, attributes := #[] }] 49 42 #[385, 387, 389] #[{ accessFlags := 25, nameIndex := 391, descriptorIndex := 392, attributes := #[] }, { accessFlags := 25, nameIndex := 395, descriptorIndex := 392, attributes := #[] }, { accessFlags := 25, nameIndex := 397, descriptorIndex := 22, attributes := #[] }, { accessFlags := 25, nameIndex := 399, descriptorIndex := 22, attributes := #[] }, { accessFlags := 25, nameIndex := 383, descriptorIndex := 384, attributes := #[] }, { accessFlags := 25, nameIndex := 403, descriptorIndex := 404, attributes := #[] }, { accessFlags := 25, nameIndex := 405, descriptorIndex := 404, attributes := #[] }, { accessFlags := 25, nameIndex := 407, descriptorIndex := 404, attributes := #[] }, { accessFlags := 25, nameIndex := 408, descriptorIndex := 404, attributes := #[] }, { accessFlags := 25, nameIndex := 410, descriptorIndex := 404, attributes := #[] }, { accessFlags := 25, nameIndex := 412, descriptorIndex := 404, attributes := #[] }, { accessFlags := 25, nameIndex := 414, descriptorIndex := 404, attributes := #[] }, { accessFlags := 25, nameIndex := 416, descriptorIndex := 404, attributes := #[] }, { accessFlags := 25, nameIndex := 418, descriptorIndex := 404, attributes := #[] }, { accessFlags := 25, nameIndex := 420, descriptorIndex := 404, attributes := #[] }, { accessFlags := 25, nameIndex := 422, descriptorIndex := 404, attributes := #[] }, { accessFlags := 25, nameIndex := 424, descriptorIndex := 404, attributes := #[] }, { accessFlags := 25, nameIndex := 426, descriptorIndex := 404, attributes := #[] }, { accessFlags := 25, nameIndex := 428, descriptorIndex := 404, attributes := #[] }, { accessFlags := 25, nameIndex := 430, descriptorIndex := 404, attributes := #[] }, { accessFlags := 25, nameIndex := 432, descriptorIndex := 404, attributes := #[] }, { accessFlags := 25, nameIndex := 434, descriptorIndex := 404, attributes := #[] }, { accessFlags := 25, nameIndex := 436, descriptorIndex := 404, attributes := #[] }, { accessFlags := 25, nameIndex := 438, descriptorIndex := 404, attributes := #[] }, { accessFlags := 25, nameIndex := 440, descriptorIndex := 404, attributes := #[] }, { accessFlags := 25, nameIndex := 442, descriptorIndex := 404, attributes := #[] }, { accessFlags := 25, nameIndex := 444, descriptorIndex := 404, attributes := #[] }, { accessFlags := 25, nameIndex := 446, descriptorIndex := 404, attributes := #[] }, { accessFlags := 25, nameIndex := 448, descriptorIndex := 404, attributes := #[] }, { accessFlags := 25, nameIndex := 450, descriptorIndex := 404, attributes := #[] }, { accessFlags := 25, nameIndex := 452, descriptorIndex := 404, attributes := #[] }, { accessFlags := 25, nameIndex := 454, descriptorIndex := 404, attributes := #[] }, { accessFlags := 25, nameIndex := 456, descriptorIndex := 404, attributes := #[] }, { accessFlags := 25, nameIndex := 458, descriptorIndex := 404, attributes := #[] }, { accessFlags := 25, nameIndex := 460, descriptorIndex := 404, attributes := #[] }, { accessFlags := 24, nameIndex := 462, descriptorIndex := 392, attributes := #[] }, { accessFlags := 25, nameIndex := 464, descriptorIndex := 404, attributes := #[] }, { accessFlags := 25, nameIndex := 465, descriptorIndex := 404, attributes := #[] }, { accessFlags := 25, nameIndex := 466, descriptorIndex := 404, attributes := #[] }, { accessFlags := 25, nameIndex := 467, descriptorIndex := 404, attributes := #[] }, { accessFlags := 25, nameIndex := 468, descriptorIndex := 404, attributes := #[] }, { accessFlags := 25, nameIndex := 469, descriptorIndex := 404, attributes := #[] }, { accessFlags := 25, nameIndex := 470, descriptorIndex := 404, attributes := #[] }, { accessFlags := 25, nameIndex := 471, descriptorIndex := 404, attributes := #[] }, { accessFlags := 25, nameIndex := 472, descriptorIndex := 404, attributes := #[] }, { accessFlags := 25, nameIndex := 473, descriptorIndex := 404, attributes := #[] }, { accessFlags := 25, nameIndex := 474, descriptorIndex := 404, attributes := #[] }, { accessFlags := 25, nameIndex := 475, descriptorIndex := 404, attributes := #[] }, { accessFlags := 25, nameIndex := 476, descriptorIndex := 404, attributes := #[] }, { accessFlags := 25, nameIndex := 477, descriptorIndex := 404, attributes := #[] }, { accessFlags := 25, nameIndex := 478, descriptorIndex := 404, attributes := #[] }, { accessFlags := 25, nameIndex := 479, descriptorIndex := 404, attributes := #[] }, { accessFlags := 25, nameIndex := 480, descriptorIndex := 404, attributes := #[] }, { accessFlags := 25, nameIndex := 481, descriptorIndex := 404, attributes := #[] }, { accessFlags := 25, nameIndex := 482, descriptorIndex := 404, attributes := #[] }, { accessFlags := 25, nameIndex := 484, descriptorIndex := 404, attributes := #[] }, { accessFlags := 25, nameIndex := 485, descriptorIndex := 404, attributes := #[] }, { accessFlags := 25, nameIndex := 486, descriptorIndex := 404, attributes := #[] }, { accessFlags := 25, nameIndex := 487, descriptorIndex := 404, attributes := #[] }, { accessFlags := 25, nameIndex := 488, descriptorIndex := 404, attributes := #[] }, { accessFlags := 25, nameIndex := 489, descriptorIndex := 22, attributes := #[] }, { accessFlags := 25, nameIndex := 490, descriptorIndex := 22, attributes := #[] }, { accessFlags := 25, nameIndex := 492, descriptorIndex := 22, attributes := #[] }, { accessFlags := 25, nameIndex := 493, descriptorIndex := 22, attributes := #[] }, { accessFlags := 25, nameIndex := 495, descriptorIndex := 22, attributes := #[] }, { accessFlags := 25, nameIndex := 496, descriptorIndex := 22, attributes := #[] }, { accessFlags := 25, nameIndex := 497, descriptorIndex := 392, attributes := #[] }, { accessFlags := 25, nameIndex := 498, descriptorIndex := 392, attributes := #[] }, { accessFlags := 25, nameIndex := 499, descriptorIndex := 392, attributes := #[] }, { accessFlags := 18, nameIndex := 21, descriptorIndex := 22, attributes := #[] }, { accessFlags := 26, nameIndex := 501, descriptorIndex := 502, attributes := #[] }, { accessFlags := 25, nameIndex := 505, descriptorIndex := 392, attributes := #[] }, { accessFlags := 25, nameIndex := 506, descriptorIndex := 392, attributes := #[] }, { accessFlags := 4120, nameIndex := 284, descriptorIndex := 285, attributes := #[] }])
  fields := #[{ name := "MIN_RADIX", type := .int, accessFlags := 25, slot := 0, constantValue := 0 }, { name := "MAX_RADIX", type := .int, accessFlags := 25, slot := 1, constantValue := 0 }, { name := "MIN_VALUE", type := .char, accessFlags := 25, slot := 2, constantValue := 0 }, { name := "MAX_VALUE", type := .char, accessFlags := 25, slot := 3, constantValue := 0 }, { name := "TYPE", type := (.object "java/lang/Class"), accessFlags := 25, slot := 4, constantValue := 0 }, { name := "UNASSIGNED", type := .byte, accessFlags := 25, slot := 5, constantValue := 0 }, { name := "UPPERCASE_LETTER", type := .byte, accessFlags := 25, slot := 6, constantValue := 0 }, { name := "LOWERCASE_LETTER", type := .byte, accessFlags := 25, slot := 7, constantValue := 0 }, { name := "TITLECASE_LETTER", type := .byte, accessFlags := 25, slot := 8, constantValue := 0 }, { name := "MODIFIER_LETTER", type := .byte, accessFlags := 25, slot := 9, constantValue := 0 }, { name := "OTHER_LETTER", type := .byte, accessFlags := 25, slot := 10, constantValue := 0 }, { name := "NON_SPACING_MARK", type := .byte, accessFlags := 25, slot := 11, constantValue := 0 }, { name := "ENCLOSING_MARK", type := .byte, accessFlags := 25, slot := 12, constantValue := 0 }, { name := "COMBINING_SPACING_MARK", type := .byte, accessFlags := 25, slot := 13, constantValue := 0 }, { name := "DECIMAL_DIGIT_NUMBER", type := .byte, accessFlags := 25, slot := 14, constantValue := 0 }, { name := "LETTER_NUMBER", type := .byte, accessFlags := 25, slot := 15, constantValue := 0 }, { name := "OTHER_NUMBER", type := .byte, accessFlags := 25, slot := 16, constantValue := 0 }, { name := "SPACE_SEPARATOR", type := .byte, accessFlags := 25, slot := 17, constantValue := 0 }, { name := "LINE_SEPARATOR", type := .byte, accessFlags := 25, slot := 18, constantValue := 0 }, { name := "PARAGRAPH_SEPARATOR", type := .byte, accessFlags := 25, slot := 19, constantValue := 0 }, { name := "CONTROL", type := .byte, accessFlags := 25, slot := 20, constantValue := 0 }, { name := "FORMAT", type := .byte, accessFlags := 25, slot := 21, constantValue := 0 }, { name := "PRIVATE_USE", type := .byte, accessFlags := 25, slot := 22, constantValue := 0 }, { name := "SURROGATE", type := .byte, accessFlags := 25, slot := 23, constantValue := 0 }, { name := "DASH_PUNCTUATION", type := .byte, accessFlags := 25, slot := 24, constantValue := 0 }, { name := "START_PUNCTUATION", type := .byte, accessFlags := 25, slot := 25, constantValue := 0 }, { name := "END_PUNCTUATION", type := .byte, accessFlags := 25, slot := 26, constantValue := 0 }, { name := "CONNECTOR_PUNCTUATION", type := .byte, accessFlags := 25, slot := 27, constantValue := 0 }, { name := "OTHER_PUNCTUATION", type := .byte, accessFlags := 25, slot := 28, constantValue := 0 }, { name := "MATH_SYMBOL", type := .byte, accessFlags := 25, slot := 29, constantValue := 0 }, { name := "CURRENCY_SYMBOL", type := .byte, accessFlags := 25, slot := 30, constantValue := 0 }, { name := "MODIFIER_SYMBOL", type := .byte, accessFlags := 25, slot := 31, constantValue := 0 }, { name := "OTHER_SYMBOL", type := .byte, accessFlags := 25, slot := 32, constantValue := 0 }, { name := "INITIAL_QUOTE_PUNCTUATION", type := .byte, accessFlags := 25, slot := 33, constantValue := 0 }, { name := "FINAL_QUOTE_PUNCTUATION", type := .byte, accessFlags := 25, slot := 34, constantValue := 0 }, { name := "ERROR", type := .int, accessFlags := 24, slot := 35, constantValue := 0 }, { name := "DIRECTIONALITY_UNDEFINED", type := .byte, accessFlags := 25, slot := 36, constantValue := 0 }, { name := "DIRECTIONALITY_LEFT_TO_RIGHT", type := .byte, accessFlags := 25, slot := 37, constantValue := 0 }, { name := "DIRECTIONALITY_RIGHT_TO_LEFT", type := .byte, accessFlags := 25, slot := 38, constantValue := 0 }, { name := "DIRECTIONALITY_RIGHT_TO_LEFT_ARABIC", type := .byte, accessFlags := 25, slot := 39, constantValue := 0 }, { name := "DIRECTIONALITY_EUROPEAN_NUMBER", type := .byte, accessFlags := 25, slot := 40, constantValue := 0 }, { name := "DIRECTIONALITY_EUROPEAN_NUMBER_SEPARATOR", type := .byte, accessFlags := 25, slot := 41, constantValue := 0 }, { name := "DIRECTIONALITY_EUROPEAN_NUMBER_TERMINATOR", type := .byte, accessFlags := 25, slot := 42, constantValue := 0 }, { name := "DIRECTIONALITY_ARABIC_NUMBER", type := .byte, accessFlags := 25, slot := 43, constantValue := 0 }, { name := "DIRECTIONALITY_COMMON_NUMBER_SEPARATOR", type := .byte, accessFlags := 25, slot := 44, constantValue := 0 }, { name := "DIRECTIONALITY_NONSPACING_MARK", type := .byte, accessFlags := 25, slot := 45, constantValue := 0 }, { name := "DIRECTIONALITY_BOUNDARY_NEUTRAL", type := .byte, accessFlags := 25, slot := 46, constantValue := 0 }, { name := "DIRECTIONALITY_PARAGRAPH_SEPARATOR", type := .byte, accessFlags := 25, slot := 47, constantValue := 0 }, { name := "DIRECTIONALITY_SEGMENT_SEPARATOR", type := .byte, accessFlags := 25, slot := 48, constantValue := 0 }, { name := "DIRECTIONALITY_WHITESPACE", type := .byte, accessFlags := 25, slot := 49, constantValue := 0 }, { name := "DIRECTIONALITY_OTHER_NEUTRALS", type := .byte, accessFlags := 25, slot := 50, constantValue := 0 }, { name := "DIRECTIONALITY_LEFT_TO_RIGHT_EMBEDDING", type := .byte, accessFlags := 25, slot := 51, constantValue := 0 }, { name := "DIRECTIONALITY_LEFT_TO_RIGHT_OVERRIDE", type := .byte, accessFlags := 25, slot := 52, constantValue := 0 }, { name := "DIRECTIONALITY_RIGHT_TO_LEFT_EMBEDDING", type := .byte, accessFlags := 25, slot := 53, constantValue := 0 }, { name := "DIRECTIONALITY_RIGHT_TO_LEFT_OVERRIDE", type := .byte, accessFlags := 25, slot := 54, constantValue := 0 }, { name := "DIRECTIONALITY_POP_DIRECTIONAL_FORMAT", type := .byte, accessFlags := 25, slot := 55, constantValue := 0 }, { name := "DIRECTIONALITY_LEFT_TO_RIGHT_ISOLATE", type := .byte, accessFlags := 25, slot := 56, constantValue := 0 }, { name := "DIRECTIONALITY_RIGHT_TO_LEFT_ISOLATE", type := .byte, accessFlags := 25, slot := 57, constantValue := 0 }, { name := "DIRECTIONALITY_FIRST_STRONG_ISOLATE", type := .byte, accessFlags := 25, slot := 58, constantValue := 0 }, { name := "DIRECTIONALITY_POP_DIRECTIONAL_ISOLATE", type := .byte, accessFlags := 25, slot := 59, constantValue := 0 }, { name := "MIN_HIGH_SURROGATE", type := .char, accessFlags := 25, slot := 60, constantValue := 0 }, { name := "MAX_HIGH_SURROGATE", type := .char, accessFlags := 25, slot := 61, constantValue := 0 }, { name := "MIN_LOW_SURROGATE", type := .char, accessFlags := 25, slot := 62, constantValue := 0 }, { name := "MAX_LOW_SURROGATE", type := .char, accessFlags := 25, slot := 63, constantValue := 0 }, { name := "MIN_SURROGATE", type := .char, accessFlags := 25, slot := 64, constantValue := 0 }, { name := "MAX_SURROGATE", type := .char, accessFlags := 25, slot := 65, constantValue := 0 }, { name := "MIN_SUPPLEMENTARY_CODE_POINT", type := .int, accessFlags := 25, slot := 66, constantValue := 0 }, { name := "MIN_CODE_POINT", type := .int, accessFlags := 25, slot := 67, constantValue := 0 }, { name := "MAX_CODE_POINT", type := .int, accessFlags := 25, slot := 68, constantValue := 0 }, { name := "value", type := .char, accessFlags := 18, slot := 0, constantValue := 0 }, { name := "serialVersionUID", type := .long, accessFlags := 26, slot := 69, constantValue := 0 }, { name := "SIZE", type := .int, accessFlags := 25, slot := 70, constantValue := 0 }, { name := "BYTES", type := .int, accessFlags := 25, slot := 71, constantValue := 0 }, { name := "$assertionsDisabled", type := .boolean, accessFlags := 4120, slot := 72, constantValue := 0 }]
  methods := #[k12m0, k12m1]
  instanceTypes := #[.char]
  staticTypes := #[.int, .int, .char, .char, (.object "java/lang/Class"), .byte, .byte, .byte, .byte, .byte, .byte, .byte, .byte, .byte, .byte, .byte, .byte, .byte, .byte, .byte, .byte, .byte, .byte, .byte, .byte, .byte, .byte, .byte, .byte, .byte, .byte, .byte, .byte, .byte, .byte, .int, .byte, .byte, .byte, .byte, .byte, .byte, .byte, .byte, .byte, .byte, .byte, .byte, .byte, .byte, .byte, .byte, .byte, .byte, .byte, .byte, .byte, .byte, .byte, .byte, .char, .char, .char, .char, .char, .char, .int, .int, .int, .long, .int, .int, .boolean]
  resolved := Array.replicate 604 none
  statics := none }

def pool13 : Array CpInfo := pool [(4, .class_ 6), (1, u "java/lang/Object"), (0, u "<init>"), (0, u "()V"), (5, .class_ 16), (1, u "java/lang/StringLatin1"), (104, u "$assertionsDisabled"), (0, u "Z"), (98, .class_ 223), (1, u "java/lang/StringLatin1$LinesSpliterator"), (166, .class_ 391), (0, u "java/lang/StringLatin1$CharsSpliterator")] 3

def k13m0 : Method := { name := "<init>", desc := "()V", sig := { parameters := [], returnType := none }, accessFlags := 0, code := none }
/-- java/lang/StringLatin1 -/
def k13 : Class := { plain "java/lang/StringLatin1" (some 0) with
  accessFlags := 48
  interfaces := #[]
  cf := some (fileOf pool13 14 #[.nestMembers #[390, 221]] #[{ accessFlags := 0, nameIndex := 7, descriptorIndex := 8, attributes := #[] }] 48 4 #[] #[{ accessFlags := 4120, nameIndex := 121, descriptorIndex := 122, attributes := #[] }])
  fields := #[{ name := "$assertionsDisabled", type := .boolean, accessFlags := 4120, slot := 0, constantValue := 0 }]
  methods := #[k13m0]
  instanceTypes := #[]
  staticTypes := #[.boolean]
  resolved := Array.replicate 395 none
  statics := none }

def pool14 : Array CpInfo := pool [(9, u "<init>"), (6, .class_ 18), (1, u "java/lang/Object"), (0, u "()V"), (1, .class_ 23), (1, u "jdk/internal/util/ArraysSupport"), (0, u "LOG2_ARRAY_LONG_INDEX_SCALE"), (0, u "I"), (2, u "U"), (0, u "Ljdk/internal/misc/Unsafe;"), (8, u "BIG_ENDIAN"), (0, u "Z"), (8, u "LOG2_BYTE_BIT_SIZE"), (4, u "LOG2_ARRAY_INT_INDEX_SCALE"), (54, u "JLA"), (0, u "Ljdk/internal/access/JavaLangAccess;"), (11, u "LOG2_ARRAY_BOOLEAN_INDEX_SCALE"), (9, u "LOG2_ARRAY_BYTE_INDEX_SCALE"), (5, u "LOG2_ARRAY_CHAR_INDEX_SCALE"), (5, u "LOG2_ARRAY_SHORT_INDEX_SCALE"), (18, u "LOG2_ARRAY_FLOAT_INDEX_SCALE"), (24, u "LOG2_ARRAY_DOUBLE_INDEX_SCALE"), (89, u "T_BOOLEAN"), (2, u "T_CHAR"), (1, u "T_FLOAT"), (1, u "T_DOUBLE"), (1, u "T_BYTE"), (1, u "T_SHORT"), (1, u "T_INT"), (1, u "T_LONG"), (1, u "SOFT_MAX_ARRAY_LENGTH")] 83

def k14m0 : Method := { name := "<init>", desc := "()V", sig := { parameters := [], returnType := none }, accessFlags := 2, code := none }
/-- jdk/internal/util/ArraysSupport -/
def k14 : Class := { plain "jdk/internal/util/ArraysSupport" (some 0) with
  accessFlags := 33
  interfaces := #[]
  cf := some (fileOf pool14 21 #[] #[{ accessFlags := 2, nameIndex := 9, descriptorIndex := 19, attributes := #[] }] 33 16 #[] #[{ accessFlags := 24, nameIndex := 28, descriptorIndex := 29, attributes := #[] }, { accessFlags := 26, nameIndex := 38, descriptorIndex := 39, attributes := #[] }, { accessFlags := 25, nameIndex := 121, descriptorIndex := 25, attributes := #[] }, { accessFlags := 25, nameIndex := 131, descriptorIndex := 25, attributes := #[] }, { accessFlags := 25, nameIndex := 137, descriptorIndex := 25, attributes := #[] }, { accessFlags := 25, nameIndex := 143, descriptorIndex := 25, attributes := #[] }, { accessFlags := 25, nameIndex := 53, descriptorIndex := 25, attributes := #[] }, { accessFlags := 25, nameIndex := 24, descriptorIndex := 25, attributes := #[] }, { accessFlags := 25, nameIndex := 162, descriptorIndex := 25, attributes := #[] }, { accessFlags := 25, nameIndex := 187, descriptorIndex := 25, attributes := #[] }, { accessFlags := 26, nameIndex := 48, descriptorIndex := 25, attributes := #[] }, { accessFlags := 25, nameIndex := 277, descriptorIndex := 25, attributes := #[] }, { accessFlags := 25, nameIndex := 280, descriptorIndex := 25, attributes := #[] }, { accessFlags := 25, nameIndex := 282, descriptorIndex := 25, attributes := #[] }, { accessFlags := 25, nameIndex := 284, descriptorIndex := 25, attributes := #[] }, { accessFlags := 25, nameIndex := 286, descriptorIndex := 25, attributes := #[] }, { accessFlags := 25, nameIndex := 288, descriptorIndex := 25, attributes := #[] }, { accessFlags := 25, nameIndex := 290, descriptorIndex := 25, attributes := #[] }, { accessFlags := 25, nameIndex := 292, descriptorIndex := 25, attributes := #[] }, { accessFlags := 26, nameIndex := 108, descriptorIndex := 109, attributes := #[] }, { accessFlags := 25, nameIndex := 294, descriptorIndex := 25, attributes := #[] }])
  fields := #[{ name := "U", type := (.object "jdk/internal/misc/Unsafe"), accessFlags := 24, slot := 0, constantValue := 0 }, { name := "BIG_ENDIAN", type := .boolean, accessFlags := 26, slot := 1, constantValue := 0 }, { name := "LOG2_ARRAY_BOOLEAN_INDEX_SCALE", type := .int, accessFlags := 25, slot := 2, constantValue := 0 }, { name := "LOG2_ARRAY_BYTE_INDEX_SCALE", type := .int, accessFlags := 25, slot := 3, constantValue := 0 }, { name := "LOG2_ARRAY_CHAR_INDEX_SCALE", type := .int, accessFlags := 25, slot := 4, constantValue := 0 }, { name := "LOG2_ARRAY_SHORT_INDEX_SCALE", type := .int, accessFlags := 25, slot := 5, constantValue := 0 }, { name := "LOG2_ARRAY_INT_INDEX_SCALE", type := .int, accessFlags := 25, slot := 6, constantValue := 0 }, { name := "LOG2_ARRAY_LONG_INDEX_SCALE", type := .int, accessFlags := 25, slot := 7, constantValue := 0 }, { name := "LOG2_ARRAY_FLOAT_INDEX_SCALE", type := .int, accessFlags := 25, slot := 8, constantValue := 0 }, { name := "LOG2_ARRAY_DOUBLE_INDEX_SCALE", type := .int, accessFlags := 25, slot := 9, constantValue := 0 }, { name := "LOG2_BYTE_BIT_SIZE", type := .int, accessFlags := 26, slot := 10, constantValue := 0 }, { name := "T_BOOLEAN", type := .int, accessFlags := 25, slot := 11, constantValue := 0 }, { name := "T_CHAR", type := .int, accessFlags := 25, slot := 12, constantValue := 0 }, { name := "T_FLOAT", type := .int, accessFlags := 25, slot := 13, constantValue := 0 }, { name := "T_DOUBLE", type := .int, accessFlags := 25, slot := 14, constantValue := 0 }, { name := "T_BYTE", type := .int, accessFlags := 25, slot := 15, constantValue := 0 }, { name := "T_SHORT", type := .int, accessFlags := 25, slot := 16, constantValue := 0 }, { name := "T_INT", type := .int, accessFlags := 25, slot := 17, constantValue := 0 }, { name := "T_LONG", type := .int, accessFlags := 25, slot := 18, constantValue := 0 }, { name := "JLA", type := (.object "jdk/internal/access/JavaLangAccess"), accessFlags := 26, slot := 19, constantValue := 0 }, { name := "SOFT_MAX_ARRAY_LENGTH", type := .int, accessFlags := 25, slot := 20, constantValue := 0 }]
  methods := #[k14m0]
  instanceTypes := #[]
  staticTypes := #[(.object "jdk/internal/misc/Unsafe"), .boolean, .int, .int, .int, .int, .int, .int, .int, .int, .int, .int, .int, .int, .int, .int, .int, .int, .int, (.object "jdk/internal/access/JavaLangAccess"), .int]
  resolved := Array.replicate 378 none
  statics := none }

def pool15 : Array CpInfo := pool [(1, u "java/lang/Cloneable"), (0, .class_ 1), (0, u "java/lang/Object"), (0, .class_ 3)] 3

/-- java/lang/Cloneable -/
def k15 : Class := { plain "java/lang/Cloneable" (some 0) with
  accessFlags := 1537
  interfaces := #[]
  cf := some (fileOf pool15 2 #[] #[] 1537 4 #[] #[])
  fields := #[]
  methods := #[]
  instanceTypes := #[]
  staticTypes := #[]
  resolved := Array.replicate 8 none
  statics := none }

/-- the primitive byte -/
def k16 : Class := { plain "byte" none with kind := .primitive 'B', accessFlags := 0x411 }
/-- [B -/
def k17 : Class := { plain "[B" (some 0) with kind := .array 16 .byte, interfaces := #[15, 2], accessFlags := 1041 }

/-- the primitive char -/
def k18 : Class := { plain "char" none with kind := .primitive 'C', accessFlags := 0x411 }
/-- [C -/
def k19 : Class := { plain "[C" (some 0) with kind := .array 18 .char, interfaces := #[15, 2], accessFlags := 1041 }

/-- the primitive int -/
def k20 : Class := { plain "int" none with kind := .primitive 'I', accessFlags := 0x411 }
/-- [I -/
def k21 : Class := { plain "[I" (some 0) with kind := .array 20 .int, interfaces := #[15, 2], accessFlags := 1041 }

def heap : Heap := #[{ cls := 7, slots := #[.long 0, .int 1, .null, .int 0, .null, .int 0, .int 0], vm := .statics 7 },
  { cls := 9, slots := #[.int 0, .int 8, .int 0, .int 1], vm := .statics 9 },
  { cls := 11, slots := #[.null, .null, .null], vm := .statics 11 }]
def classes : Array Class := #[k0, k1, k2, k3, k4, k5, k6, k7, k8, k9, k10, k11, k12, k13, k14, k15, k16, k17, k18, k19, k20, k21]
def interned : List (Array UInt16 × Addr) := []
def slotsUsed : Nat := 14
def theMethod : MethodId := ⟨1, 4⟩
def args0 : Array Value := #[.int 5, .int 5, .int 5, .int 5, .int 5]
def aboutOver (below : List Frame) : State where
  vm := { classes := classes, interned := interned.toArray }
  heap := heap
  slotsUsed := slotsUsed
  threads := #[{ frames := .invoking theMethod args0 :: below }]
def below0 : List Frame := [.native { method := ⟨0, 0⟩, args := #[] }]
def about1 : State := aboutOver below0
def p0 : Program := .bare "" "" ""
def e0 : Env := launch0.env 0 0 0
theorem w_frames : about1.frames = Frame.invoking theMethod args0 :: below0 := rfl
set_option maxRecDepth 65536 in
theorem w_args : argsFit about1.vm theMethod args0 = true := by decide +kernel
set_option maxRecDepth 65536 in
theorem w_heap : heapFits about1 = true := by decide +kernel
set_option maxRecDepth 65536 in
theorem w_runnable : about1.curStatus? = some .runnable := by decide +kernel
set_option maxRecDepth 65536 in
theorem w_alone : about1.alone = true := by decide +kernel
set_option maxRecDepth 65536 in
theorem w_named : about1.methodNamed? x = some theMethod := by decide +kernel
set_option maxRecDepth 65536 in
theorem w_hears : about1.hears theMethod below0 = true := by decide +kernel
set_option maxRecDepth 65536 in
theorem w_ripe : about1.ripe theMethod args0 below0 = true := by decide +kernel
theorem w_running : about1.status = .running := rfl
set_option maxRecDepth 65536 in
theorem w_room : about1.hasRoom e0.platform room_1 = true :=
  launch0.hasRoom_least _ room_1 (by decide +kernel) (by decide +kernel) (by decide +kernel) (by decide +kernel) (by decide +kernel) (by decide +kernel)
theorem allAtoms_all (ts : List Jvm.Cond) (a : Array Jvm.Value) (st : Jvm.State) : (allAtoms ts).before a st = ts.all (fun c => c.before a st) := by
  induction ts with
  | nil => rfl
  | cons c t ih =>
    show (Jvm.Cond.and c (allAtoms t)).before a st = _
    rw [Jvm.Cond.before_and, ih, List.all_cons]
def words1 : List Jvm.Cond := Jvm.Cond.code x code maxLocals ret :: tables_1
/-- a 'code' word, met by the world's own term for the bytes: nothing is compared byte by byte -/
theorem code_word {y : MethodName} {bytes : ByteArray} {mx : Nat} {rt : Option FieldType} {a : Array Value} {s : State} {m : MethodId} {meth : Method} {c : Code} (h1 : s.methodNamed? y = some m) (h2 : s.vm.method? m = some meth) (h3 : meth.code = some c) (h4 : c.code = bytes)
    (h5 : (c.maxLocals == mx && c.exceptionTable.isEmpty && decide (c.maxStack ≤ mostOperands) && decide (meth.sig.returnType = rt) && !meth.locks && decide (parseMethodDescriptor y.desc = some meth.sig)) = true) : (Jvm.Cond.code y bytes mx rt).before a s = true := by
  simp only [Bool.and_eq_true, beq_iff_eq, Bool.not_eq_true', decide_eq_true_eq] at h5
  obtain ⟨⟨⟨⟨⟨g1, g2⟩, g3⟩, g4⟩, g5⟩, g6⟩ := h5
  simp [Cond.before, Cond.holds, Cond.value, h1, h2, h3, h4, g1, g2, g3, g4, g5, g6]
def isCode : Jvm.Cond → Bool
  | .code _ _ _ _ => true
  | _ => false
theorem all_split {L : List Jvm.Cond} {P : Jvm.Cond → Bool} (h1 : L.all (fun c => isCode c || P c) = true) (h2 : ∀ c ∈ L.filter isCode, P c = true) : L.all P = true := by
  refine List.all_eq_true.mpr fun c hc => ?_
  have h := List.all_eq_true.mp h1 c hc
  rcases Bool.eq_false_or_eq_true (isCode c) with hi | hi
  · exact h2 c (List.mem_filter.mpr ⟨hc, hi⟩)
  · simpa [hi] using h
set_option maxRecDepth 65536 in
theorem w_c0 : (Jvm.Cond.code x code maxLocals ret).before args0 about1 = true := code_word (m := ⟨1, 4⟩) (meth := k1m4) (c := k1c4) (by decide +kernel) rfl rfl rfl (by decide +kernel)
set_option maxRecDepth 65536 in
theorem w_c1 : (Jvm.Cond.code ({ cls := "com/example/usher/usher/lifecycle/ExecutionKeyFitsPinLaw", name := "draw", desc := "(I)C" } : Jvm.MethodName) method_2_code (1 : Nat) (Option.some Jvm.ClassFile.FieldType.char)).before args0 about1 = true := code_word (m := ⟨1, 1⟩) (meth := k1m1) (c := k1c1) (by decide +kernel) rfl rfl rfl (by decide +kernel)
set_option maxRecDepth 65536 in
theorem w_c2 : (Jvm.Cond.code ({ cls := "java/lang/String", name := "<init>", desc := "([C)V" } : Jvm.MethodName) jdk_42_method_3_code (2 : Nat) (Option.none : Option Jvm.ClassFile.FieldType)).before args0 about1 = true := code_word (m := ⟨7, 1⟩) (meth := k7m1) (c := k7c1) (by decide +kernel) rfl rfl rfl (by decide +kernel)
set_option maxRecDepth 65536 in
theorem w_c3 : (Jvm.Cond.code ({ cls := "java/lang/String", name := "<init>", desc := "([CIILjava/lang/Void;)V" } : Jvm.MethodName) jdk_42_method_149_code (6 : Nat) (Option.none : Option Jvm.ClassFile.FieldType)).before args0 about1 = true := code_word (m := ⟨7, 5⟩) (meth := k7m5) (c := k7c5) (by decide +kernel) rfl rfl rfl (by decide +kernel)
set_option maxRecDepth 65536 in
theorem w_c4 : (Jvm.Cond.code ({ cls := "java/lang/Object", name := "<init>", desc := "()V" } : Jvm.MethodName) object_method_1_code (1 : Nat) (Option.none : Option Jvm.ClassFile.FieldType)).before args0 about1 = true := code_word (m := ⟨0, 0⟩) (meth := k0m0) (c := k0c0) (by decide +kernel) rfl rfl rfl (by decide +kernel)
set_option maxRecDepth 65536 in
theorem w_c5 : (Jvm.Cond.code ({ cls := "com/example/usher/usher/lifecycle/ExecutionKey", name := "fits", desc := "(Ljava/lang/String;)Z" } : Jvm.MethodName) prog_33_method_2_code (1 : Nat) (Option.some Jvm.ClassFile.FieldType.boolean)).before args0 about1 = true := code_word (m := ⟨8, 0⟩) (meth := k8m0) (c := k8c0) (by decide +kernel) rfl rfl rfl (by decide +kernel)
set_option maxRecDepth 65536 in
theorem w_c6 : (Jvm.Cond.code ({ cls := "java/lang/String", name := "isEmpty", desc := "()Z" } : Jvm.MethodName) jdk_42_method_55_code (1 : Nat) (Option.some Jvm.ClassFile.FieldType.boolean)).before args0 about1 = true := code_word (m := ⟨7, 3⟩) (meth := k7m3) (c := k7c3) (by decide +kernel) rfl rfl rfl (by decide +kernel)
set_option maxRecDepth 65536 in
theorem w_c7 : (Jvm.Cond.code ({ cls := "com/example/usher/usher/lifecycle/ExecutionKeyFitsPinLaw", name := "isHigh", desc := "(C)Z" } : Jvm.MethodName) method_3_code (1 : Nat) (Option.some Jvm.ClassFile.FieldType.boolean)).before args0 about1 = true := code_word (m := ⟨1, 2⟩) (meth := k1m2) (c := k1c2) (by decide +kernel) rfl rfl rfl (by decide +kernel)
set_option maxRecDepth 65536 in
theorem w_c8 : (Jvm.Cond.code ({ cls := "java/lang/StringUTF16", name := "compress", desc := "([CII)[B" } : Jvm.MethodName) jdk_52_method_16_code (6 : Nat) (Option.some (Jvm.ClassFile.FieldType.array Jvm.ClassFile.FieldType.byte))).before args0 about1 = true := code_word (m := ⟨9, 9⟩) (meth := k9m9) (c := k9c9) (by decide +kernel) rfl rfl rfl (by decide +kernel)
set_option maxRecDepth 65536 in
theorem w_c9 : (Jvm.Cond.code ({ cls := "java/lang/StringUTF16", name := "compress", desc := "([CI[BII)I" } : Jvm.MethodName) jdk_52_method_21_code (7 : Nat) (Option.some Jvm.ClassFile.FieldType.int)).before args0 about1 = true := code_word (m := ⟨9, 10⟩) (meth := k9m10) (c := k9c10) (by decide +kernel) rfl rfl rfl (by decide +kernel)
set_option maxRecDepth 65536 in
theorem w_c10 : (Jvm.Cond.code ({ cls := "java/lang/StringUTF16", name := "coderFromArrayLen", desc := "([BI)B" } : Jvm.MethodName) jdk_52_method_15_code (2 : Nat) (Option.some Jvm.ClassFile.FieldType.byte)).before args0 about1 = true := code_word (m := ⟨9, 8⟩) (meth := k9m8) (c := k9c8) (by decide +kernel) rfl rfl rfl (by decide +kernel)
set_option maxRecDepth 65536 in
theorem w_c11 : (Jvm.Cond.code ({ cls := "java/lang/String", name := "length", desc := "()I" } : Jvm.MethodName) jdk_42_method_54_code (1 : Nat) (Option.some Jvm.ClassFile.FieldType.int)).before args0 about1 = true := code_word (m := ⟨7, 2⟩) (meth := k7m2) (c := k7c2) (by decide +kernel) rfl rfl rfl (by decide +kernel)
set_option maxRecDepth 65536 in
theorem w_c12 : (Jvm.Cond.code ({ cls := "java/lang/String", name := "coder", desc := "()B" } : Jvm.MethodName) jdk_42_method_152_code (1 : Nat) (Option.some Jvm.ClassFile.FieldType.byte)).before args0 about1 = true := code_word (m := ⟨7, 6⟩) (meth := k7m6) (c := k7c6) (by decide +kernel) rfl rfl rfl (by decide +kernel)
set_option maxRecDepth 65536 in
theorem w_c13 : (Jvm.Cond.code ({ cls := "java/lang/String", name := "codePointCount", desc := "(II)I" } : Jvm.MethodName) jdk_42_method_59_code (3 : Nat) (Option.some Jvm.ClassFile.FieldType.int)).before args0 about1 = true := code_word (m := ⟨7, 4⟩) (meth := k7m4) (c := k7c4) (by decide +kernel) rfl rfl rfl (by decide +kernel)
set_option maxRecDepth 65536 in
theorem w_c14 : (Jvm.Cond.code ({ cls := "java/util/Objects", name := "checkFromToIndex", desc := "(III)I" } : Jvm.MethodName) jdk_31_method_18_code (3 : Nat) (Option.some Jvm.ClassFile.FieldType.int)).before args0 about1 = true := code_word (m := ⟨10, 1⟩) (meth := k10m1) (c := k10c1) (by decide +kernel) rfl rfl rfl (by decide +kernel)
set_option maxRecDepth 65536 in
theorem w_c15 : (Jvm.Cond.code ({ cls := "jdk/internal/util/Preconditions", name := "checkFromToIndex", desc := "(IIILjava/util/function/BiFunction;)I" } : Jvm.MethodName) jdk_41_method_12_code (4 : Nat) (Option.some Jvm.ClassFile.FieldType.int)).before args0 about1 = true := code_word (m := ⟨11, 1⟩) (meth := k11m1) (c := k11c1) (by decide +kernel) rfl rfl rfl (by decide +kernel)
set_option maxRecDepth 65536 in
theorem w_c16 : (Jvm.Cond.code ({ cls := "java/lang/String", name := "isLatin1", desc := "()Z" } : Jvm.MethodName) jdk_42_method_154_code (1 : Nat) (Option.some Jvm.ClassFile.FieldType.boolean)).before args0 about1 = true := code_word (m := ⟨7, 7⟩) (meth := k7m7) (c := k7c7) (by decide +kernel) rfl rfl rfl (by decide +kernel)
set_option maxRecDepth 65536 in
theorem w_c17 : (Jvm.Cond.code ({ cls := "java/lang/StringUTF16", name := "toBytes", desc := "([CII)[B" } : Jvm.MethodName) jdk_52_method_14_code (5 : Nat) (Option.some (Jvm.ClassFile.FieldType.array Jvm.ClassFile.FieldType.byte))).before args0 about1 = true := code_word (m := ⟨9, 7⟩) (meth := k9m7) (c := k9c7) (by decide +kernel) rfl rfl rfl (by decide +kernel)
set_option maxRecDepth 65536 in
theorem w_c18 : (Jvm.Cond.code ({ cls := "java/lang/StringUTF16", name := "newBytesFor", desc := "(I)[B" } : Jvm.MethodName) jdk_52_method_2_code (1 : Nat) (Option.some (Jvm.ClassFile.FieldType.array Jvm.ClassFile.FieldType.byte))).before args0 about1 = true := code_word (m := ⟨9, 1⟩) (meth := k9m1) (c := k9c1) (by decide +kernel) rfl rfl rfl (by decide +kernel)
set_option maxRecDepth 65536 in
theorem w_c19 : (Jvm.Cond.code ({ cls := "java/lang/StringUTF16", name := "newBytesLength", desc := "(I)I" } : Jvm.MethodName) jdk_52_method_3_code (1 : Nat) (Option.some Jvm.ClassFile.FieldType.int)).before args0 about1 = true := code_word (m := ⟨9, 2⟩) (meth := k9m2) (c := k9c2) (by decide +kernel) rfl rfl rfl (by decide +kernel)
set_option maxRecDepth 65536 in
theorem w_c20 : (Jvm.Cond.code ({ cls := "java/lang/StringUTF16", name := "putChar", desc := "([BII)V" } : Jvm.MethodName) jdk_52_method_4_code (3 : Nat) (Option.none : Option Jvm.ClassFile.FieldType)).before args0 about1 = true := code_word (m := ⟨9, 3⟩) (meth := k9m3) (c := k9c3) (by decide +kernel) rfl rfl rfl (by decide +kernel)
set_option maxRecDepth 65536 in
theorem w_c21 : (Jvm.Cond.code ({ cls := "java/lang/StringUTF16", name := "getChar", desc := "([BI)C" } : Jvm.MethodName) jdk_52_method_5_code (2 : Nat) (Option.some Jvm.ClassFile.FieldType.char)).before args0 about1 = true := code_word (m := ⟨9, 4⟩) (meth := k9m4) (c := k9c4) (by decide +kernel) rfl rfl rfl (by decide +kernel)
set_option maxRecDepth 65536 in
theorem w_c22 : (Jvm.Cond.code ({ cls := "java/lang/StringUTF16", name := "codePointCount", desc := "([BII)I" } : Jvm.MethodName) jdk_52_method_12_code (3 : Nat) (Option.some Jvm.ClassFile.FieldType.int)).before args0 about1 = true := code_word (m := ⟨9, 6⟩) (meth := k9m6) (c := k9c6) (by decide +kernel) rfl rfl rfl (by decide +kernel)
set_option maxRecDepth 65536 in
theorem w_c23 : (Jvm.Cond.code ({ cls := "java/lang/StringUTF16", name := "codePointCount", desc := "([BIIZ)I" } : Jvm.MethodName) jdk_52_method_11_code (6 : Nat) (Option.some Jvm.ClassFile.FieldType.int)).before args0 about1 = true := code_word (m := ⟨9, 5⟩) (meth := k9m5) (c := k9c5) (by decide +kernel) rfl rfl rfl (by decide +kernel)
set_option maxRecDepth 65536 in
theorem w_c24 : (Jvm.Cond.code ({ cls := "java/lang/Character", name := "isHighSurrogate", desc := "(C)Z" } : Jvm.MethodName) jdk_89_method_14_code (1 : Nat) (Option.some Jvm.ClassFile.FieldType.boolean)).before args0 about1 = true := code_word (m := ⟨12, 0⟩) (meth := k12m0) (c := k12c0) (by decide +kernel) rfl rfl rfl (by decide +kernel)
set_option maxRecDepth 65536 in
theorem w_c25 : (Jvm.Cond.code ({ cls := "java/lang/Character", name := "isLowSurrogate", desc := "(C)Z" } : Jvm.MethodName) jdk_89_method_15_code (1 : Nat) (Option.some Jvm.ClassFile.FieldType.boolean)).before args0 about1 = true := code_word (m := ⟨12, 1⟩) (meth := k12m1) (c := k12c1) (by decide +kernel) rfl rfl rfl (by decide +kernel)
set_option maxRecDepth 65536 in
theorem w_c26 : (Jvm.Cond.code ({ cls := "com/example/usher/usher/lifecycle/ExecutionKeyFitsPinLaw", name := "isLow", desc := "(C)Z" } : Jvm.MethodName) method_4_code (1 : Nat) (Option.some Jvm.ClassFile.FieldType.boolean)).before args0 about1 = true := code_word (m := ⟨1, 3⟩) (meth := k1m3) (c := k1c3) (by decide +kernel) rfl rfl rfl (by decide +kernel)
def codes1 : List Jvm.Cond := [Jvm.Cond.code x code maxLocals ret, Jvm.Cond.code ({ cls := "com/example/usher/usher/lifecycle/ExecutionKeyFitsPinLaw", name := "draw", desc := "(I)C" } : Jvm.MethodName) method_2_code (1 : Nat) (Option.some Jvm.ClassFile.FieldType.char), Jvm.Cond.code ({ cls := "java/lang/String", name := "<init>", desc := "([C)V" } : Jvm.MethodName) jdk_42_method_3_code (2 : Nat) (Option.none : Option Jvm.ClassFile.FieldType), Jvm.Cond.code ({ cls := "java/lang/String", name := "<init>", desc := "([CIILjava/lang/Void;)V" } : Jvm.MethodName) jdk_42_method_149_code (6 : Nat) (Option.none : Option Jvm.ClassFile.FieldType), Jvm.Cond.code ({ cls := "java/lang/Object", name := "<init>", desc := "()V" } : Jvm.MethodName) object_method_1_code (1 : Nat) (Option.none : Option Jvm.ClassFile.FieldType), Jvm.Cond.code ({ cls := "com/example/usher/usher/lifecycle/ExecutionKey", name := "fits", desc := "(Ljava/lang/String;)Z" } : Jvm.MethodName) prog_33_method_2_code (1 : Nat) (Option.some Jvm.ClassFile.FieldType.boolean), Jvm.Cond.code ({ cls := "java/lang/String", name := "isEmpty", desc := "()Z" } : Jvm.MethodName) jdk_42_method_55_code (1 : Nat) (Option.some Jvm.ClassFile.FieldType.boolean), Jvm.Cond.code ({ cls := "com/example/usher/usher/lifecycle/ExecutionKeyFitsPinLaw", name := "isHigh", desc := "(C)Z" } : Jvm.MethodName) method_3_code (1 : Nat) (Option.some Jvm.ClassFile.FieldType.boolean), Jvm.Cond.code ({ cls := "java/lang/StringUTF16", name := "compress", desc := "([CII)[B" } : Jvm.MethodName) jdk_52_method_16_code (6 : Nat) (Option.some (Jvm.ClassFile.FieldType.array Jvm.ClassFile.FieldType.byte)), Jvm.Cond.code ({ cls := "java/lang/StringUTF16", name := "compress", desc := "([CI[BII)I" } : Jvm.MethodName) jdk_52_method_21_code (7 : Nat) (Option.some Jvm.ClassFile.FieldType.int), Jvm.Cond.code ({ cls := "java/lang/StringUTF16", name := "coderFromArrayLen", desc := "([BI)B" } : Jvm.MethodName) jdk_52_method_15_code (2 : Nat) (Option.some Jvm.ClassFile.FieldType.byte), Jvm.Cond.code ({ cls := "java/lang/String", name := "length", desc := "()I" } : Jvm.MethodName) jdk_42_method_54_code (1 : Nat) (Option.some Jvm.ClassFile.FieldType.int), Jvm.Cond.code ({ cls := "java/lang/String", name := "coder", desc := "()B" } : Jvm.MethodName) jdk_42_method_152_code (1 : Nat) (Option.some Jvm.ClassFile.FieldType.byte), Jvm.Cond.code ({ cls := "java/lang/String", name := "codePointCount", desc := "(II)I" } : Jvm.MethodName) jdk_42_method_59_code (3 : Nat) (Option.some Jvm.ClassFile.FieldType.int), Jvm.Cond.code ({ cls := "java/util/Objects", name := "checkFromToIndex", desc := "(III)I" } : Jvm.MethodName) jdk_31_method_18_code (3 : Nat) (Option.some Jvm.ClassFile.FieldType.int), Jvm.Cond.code ({ cls := "jdk/internal/util/Preconditions", name := "checkFromToIndex", desc := "(IIILjava/util/function/BiFunction;)I" } : Jvm.MethodName) jdk_41_method_12_code (4 : Nat) (Option.some Jvm.ClassFile.FieldType.int), Jvm.Cond.code ({ cls := "java/lang/String", name := "isLatin1", desc := "()Z" } : Jvm.MethodName) jdk_42_method_154_code (1 : Nat) (Option.some Jvm.ClassFile.FieldType.boolean), Jvm.Cond.code ({ cls := "java/lang/StringUTF16", name := "toBytes", desc := "([CII)[B" } : Jvm.MethodName) jdk_52_method_14_code (5 : Nat) (Option.some (Jvm.ClassFile.FieldType.array Jvm.ClassFile.FieldType.byte)), Jvm.Cond.code ({ cls := "java/lang/StringUTF16", name := "newBytesFor", desc := "(I)[B" } : Jvm.MethodName) jdk_52_method_2_code (1 : Nat) (Option.some (Jvm.ClassFile.FieldType.array Jvm.ClassFile.FieldType.byte)), Jvm.Cond.code ({ cls := "java/lang/StringUTF16", name := "newBytesLength", desc := "(I)I" } : Jvm.MethodName) jdk_52_method_3_code (1 : Nat) (Option.some Jvm.ClassFile.FieldType.int), Jvm.Cond.code ({ cls := "java/lang/StringUTF16", name := "putChar", desc := "([BII)V" } : Jvm.MethodName) jdk_52_method_4_code (3 : Nat) (Option.none : Option Jvm.ClassFile.FieldType), Jvm.Cond.code ({ cls := "java/lang/StringUTF16", name := "getChar", desc := "([BI)C" } : Jvm.MethodName) jdk_52_method_5_code (2 : Nat) (Option.some Jvm.ClassFile.FieldType.char), Jvm.Cond.code ({ cls := "java/lang/StringUTF16", name := "codePointCount", desc := "([BII)I" } : Jvm.MethodName) jdk_52_method_12_code (3 : Nat) (Option.some Jvm.ClassFile.FieldType.int), Jvm.Cond.code ({ cls := "java/lang/StringUTF16", name := "codePointCount", desc := "([BIIZ)I" } : Jvm.MethodName) jdk_52_method_11_code (6 : Nat) (Option.some Jvm.ClassFile.FieldType.int), Jvm.Cond.code ({ cls := "java/lang/Character", name := "isHighSurrogate", desc := "(C)Z" } : Jvm.MethodName) jdk_89_method_14_code (1 : Nat) (Option.some Jvm.ClassFile.FieldType.boolean), Jvm.Cond.code ({ cls := "java/lang/Character", name := "isLowSurrogate", desc := "(C)Z" } : Jvm.MethodName) jdk_89_method_15_code (1 : Nat) (Option.some Jvm.ClassFile.FieldType.boolean), Jvm.Cond.code ({ cls := "com/example/usher/usher/lifecycle/ExecutionKeyFitsPinLaw", name := "isLow", desc := "(C)Z" } : Jvm.MethodName) method_4_code (1 : Nat) (Option.some Jvm.ClassFile.FieldType.boolean)]
set_option maxRecDepth 65536 in
theorem codes_eq : words1.filter isCode = codes1 := rfl
theorem w_codes : ∀ c ∈ words1.filter isCode, c.before args0 about1 = true := by
  rw [codes_eq]
  intro c hc
  simp only [codes1, List.mem_cons, List.not_mem_nil, or_false] at hc
  rcases hc with rfl | rfl | rfl | rfl | rfl | rfl | rfl | rfl | rfl | rfl | rfl | rfl | rfl | rfl | rfl | rfl | rfl | rfl | rfl | rfl | rfl | rfl | rfl | rfl | rfl | rfl | rfl
  · exact w_c0
  · exact w_c1
  · exact w_c2
  · exact w_c3
  · exact w_c4
  · exact w_c5
  · exact w_c6
  · exact w_c7
  · exact w_c8
  · exact w_c9
  · exact w_c10
  · exact w_c11
  · exact w_c12
  · exact w_c13
  · exact w_c14
  · exact w_c15
  · exact w_c16
  · exact w_c17
  · exact w_c18
  · exact w_c19
  · exact w_c20
  · exact w_c21
  · exact w_c22
  · exact w_c23
  · exact w_c24
  · exact w_c25
  · exact w_c26
set_option maxRecDepth 65536 in
theorem w_t1 : (words1.take 24).all (fun c => isCode c || c.before args0 about1) = true := by decide +kernel
set_option maxRecDepth 65536 in
theorem w_t2 : ((words1.drop 24).take 24).all (fun c => isCode c || c.before args0 about1) = true := by decide +kernel
set_option maxRecDepth 65536 in
theorem w_t3 : (((words1.drop 24).drop 24).take 24).all (fun c => isCode c || c.before args0 about1) = true := by decide +kernel
set_option maxRecDepth 65536 in
theorem w_t4 : ((((words1.drop 24).drop 24).drop 24).take 24).all (fun c => isCode c || c.before args0 about1) = true := by decide +kernel
set_option maxRecDepth 65536 in
theorem w_t5 : (((((words1.drop 24).drop 24).drop 24).drop 24).take 24).all (fun c => isCode c || c.before args0 about1) = true := by decide +kernel
set_option maxRecDepth 65536 in
theorem w_t6 : (((((words1.drop 24).drop 24).drop 24).drop 24).drop 24).all (fun c => isCode c || c.before args0 about1) = true := by decide +kernel
theorem w_tables : (allAtoms (Jvm.Cond.code x code maxLocals ret :: tables_1)).before args0 about1 = true := by
  rw [allAtoms_all]
  show words1.all (fun c => c.before args0 about1) = true
  refine all_split ?_ w_codes
  rw [← List.take_append_drop 24 words1, List.all_append, w_t1, ← List.take_append_drop 24 (words1.drop 24), List.all_append, w_t2, ← List.take_append_drop 24 ((words1.drop 24).drop 24), List.all_append, w_t3, ← List.take_append_drop 24 (((words1.drop 24).drop 24).drop 24), List.all_append, w_t4, ← List.take_append_drop 24 ((((words1.drop 24).drop 24).drop 24).drop 24), List.all_append, w_t5, w_t6]
  rfl
set_option maxRecDepth 65536 in
theorem w_rest : rest_1_c.before args0 about1 = true := by decide +kernel
set_option maxRecDepth 65536 in
theorem w_case : (Jvm.Cond.and given_1 narrow_1).before args0 about1 = true := by decide +kernel
set_option maxRecDepth 65536 in
theorem w_consts : constsHeld consts_1 about1 := Jvm.Lit.constsHeldB_iff.mp (by decide +kernel)
theorem w_applies : (headSpec (Jvm.Cond.code x code maxLocals ret :: tables_1) room_1).applies x e0.platform about1 = true :=
  (Spec.applies_iff w_frames).mpr ⟨w_running, w_runnable, w_alone, w_named, w_hears, w_ripe, w_room, w_tables⟩
theorem atStart : AtStart classFile x code maxLocals ret World_1 tables_1 room_1 Calls_1 rest_1 Pre_1 launch0 p0 e0 about1 theMethod args0 below0 :=
  ⟨lists_1, trivial, launch0.admits_env _ _ _, launch0.least_env, fairChoices_fair.cas, fairChoices_fair.clock, w_frames, w_args, w_heap, w_applies, ⟨w_consts, trivial⟩, w_rest, w_case⟩
end start1
theorem witness_1 : WitnessClaimed_1 := ⟨start1.p0, start1.e0, start1.about1, start1.theMethod, start1.args0, start1.below0, start1.atStart⟩
end Jvm.Pilot.@@N@@
