import JvmDerived
import JvmDerived.Pilot.@@N@@Statement
import JvmDerived.Pilot.@@N@@Code
set_option linter.unusedVariables false
set_option linter.unusedSimpArgs false
namespace Jvm.Pilot.@@N@@
open Jvm Jvm.ClassFile Sem Op Lib Jvm.Free Jvm.Stand Jvm.LawKit Jvm.RoadKit Bundle Jvm.Pilot.@@N@@.Jvm.D
theorem wk {Z : State} {a0 : Array Value} {d : Jvm.Cond} (hw : ∀ d ∈ tables_1, d.before a0 Z = true) (i : Nat) (h : tables_1[i]? = some d) : d.before a0 Z = true := hw _ (List.mem_of_getElem? h)
/-! a thin layer of one form a step, over the library's road laws -/
def MetN (l : Launch) (Z : State) (y : MethodName) (bytes : ByteArray) (maxL : Nat) (ret : Option FieldType) (rm : Room) (ws : List Jvm.Cond) (as' : Array Value) (h : Heap) (Q : Option Value → Heap → List Loc → Prop) : Prop :=
  MetFree l y (head1 (Jvm.Cond.code y bytes maxL ret :: ws) rm) (fun a U => a = as' ∧ Z.Warmed39 U.vm ∧ U.heap = h) (fun _ _ _ _ _ => True) (fun _ U o U' => ∃ v L, o = .returned v ∧ Q v U'.heap L ∧ FrameEnd U o U' L rm.cells rm.slots)
def Win (p : Program) (e : Env) (below : List Frame) (s : State) (rm : Room) (Q : Option Value → Heap → List Loc → Prop) (st : State) : Prop :=
  ∃ s₂ o, Steps p.tables e below st s₂ ∧ s₂.status = .running ∧ Ended s₂ below o ∧ ∃ v L, o = .returned v ∧ Q v s₂.heap L ∧ FrameEnd s o s₂ L rm.cells rm.slots
section Own
variable {p : Program} {l : Launch} {e : Env} {R rm : Room} {s : State} {m : MethodId} {args : Array Value} {below : List Frame} {meth : Method} {c : Code} {T : State} {locs : List Loc} {cells slots : Nat} {Z : State} {a0 : Array Value} {h : Heap} {Q : Option Value → Heap → List Loc → Prop}
theorem Win.to {A : State} (T : State) (g : JFrame) (k : ∀ t, Steps p.tables e below (T.setTop g) t → Steps p.tables e below A t) (w : Win p e below s rm Q (T.setTop g)) : Win p e below s rm Q A := by
  obtain ⟨s₂, o, h1, r⟩ := w
  exact ⟨s₂, o, k _ h1, r⟩
theorem Win.out (X : Stand p l e R s m args below meth c T locs cells slots) {A : State} {v : Option Value} (hlk : meth.locks = false) (hv : meth.sig.returnType = none → v = none)
    (hst : ∀ fs, (∀ (f : JFrame) (acts : List Action), f.method = m → f.locked = none → f.entered = [] → (doReturn e (T.setTop f) acts v).1 = T.setFrames fs) → Steps p.tables e below A (T.setFrames fs))
    (hc : cells ≤ rm.cells) (hs : slots ≤ rm.slots) (hq : Q v T.heap locs) : Win p e below s rm Q A := by
  obtain ⟨fs, hr, hrun, hended, hW, hsame⟩ := X.leave (v := v) hv
  exact ⟨_, _, hst fs hr, hrun, hended, _, _, rfl, hq, ⟨_, rfl⟩, hW, hsame.mono hc hs⟩
theorem Win.retN (X : Stand p l e R s m args below meth c T locs cells slots) (hx : p.tables.exec = Jvm.exec) (hlk : meth.locks = false) {pc : Nat} {Ls : Array Slot} {z z' : Int32} {t : FieldType} {rest : List Value} (hret : meth.sig.returnType = some t) (ht : t = .boolean ∨ t = .byte ∨ t = .char ∨ t = .short) (hz : nar t z = z')
    (hd : decode c.code pc = .ok (.ireturn, 1)) (hc : cells ≤ rm.cells) (hs : slots ≤ rm.slots) (hq : Q (some (.int z')) T.heap locs) : Win p e below s rm Q (T.setTop (mkF m pc Ls (.int z :: rest))) := by
  subst hz
  exact Win.out X (v := some (.int (nar t z))) hlk (fun q => by rw [hret] at q; cases q) (fun fs hr => Jvm.RoadKit.retN X hx (t := t) hret ht hd hr) hc hs hq
theorem Win.retI (X : Stand p l e R s m args below meth c T locs cells slots) (hx : p.tables.exec = Jvm.exec) (hlk : meth.locks = false) {pc : Nat} {Ls : Array Slot} {z : Int32} {rest : List Value} (hret : meth.sig.returnType = some .int)
    (hd : decode c.code pc = .ok (.ireturn, 1)) (hc : cells ≤ rm.cells) (hs : slots ≤ rm.slots) (hq : Q (some (.int z)) T.heap locs) : Win p e below s rm Q (T.setTop (mkF m pc Ls (.int z :: rest))) :=
  Win.out X (v := some (.int z)) hlk (fun q => by rw [hret] at q; cases q) (fun fs hr => retOut X hx hret rfl (Or.inl ⟨rfl, Or.inl rfl, z, rfl⟩) hd hr) hc hs hq
theorem Win.retJ (X : Stand p l e R s m args below meth c T locs cells slots) (hx : p.tables.exec = Jvm.exec) (hlk : meth.locks = false) {pc : Nat} {Ls : Array Slot} {z : Int64} {rest : List Value} (hret : meth.sig.returnType = some .long)
    (hd : decode c.code pc = .ok (.lreturn, 1)) (hc : cells ≤ rm.cells) (hs : slots ≤ rm.slots) (hq : Q (some (.long z)) T.heap locs) : Win p e below s rm Q (T.setTop (mkF m pc Ls (.long z :: rest))) :=
  Win.out X (v := some (.long z)) hlk (fun q => by rw [hret] at q; cases q) (fun fs hr => retOut X hx hret rfl (Or.inr (Or.inl ⟨rfl, rfl, z, rfl⟩)) hd hr) hc hs hq
theorem Win.retD (X : Stand p l e R s m args below meth c T locs cells slots) (hx : p.tables.exec = Jvm.exec) (hlk : meth.locks = false) {pc : Nat} {Ls : Array Slot} {z : UInt64} {rest : List Value} (hret : meth.sig.returnType = some .double)
    (hd : decode c.code pc = .ok (.dreturn, 1)) (hc : cells ≤ rm.cells) (hs : slots ≤ rm.slots) (hq : Q (some (.double z)) T.heap locs) : Win p e below s rm Q (T.setTop (mkF m pc Ls (.double z :: rest))) :=
  Win.out X (v := some (.double z)) hlk (fun q => by rw [hret] at q; cases q) (fun fs hr => retOut X hx hret rfl (Or.inr (Or.inr (Or.inl ⟨rfl, rfl, z, rfl⟩))) hd hr) hc hs hq
theorem Win.retA (X : Stand p l e R s m args below meth c T locs cells slots) (hx : p.tables.exec = Jvm.exec) (hlk : meth.locks = false) {pc : Nat} {Ls : Array Slot} {w : Value} {t : FieldType} {rest : List Value} (hret : meth.sig.returnType = some t) (ht : t.isReference = true) (hw : w.isRef = true)
    (hd : decode c.code pc = .ok (.areturn, 1)) (hc : cells ≤ rm.cells) (hs : slots ≤ rm.slots) (hq : Q (some w) T.heap locs) : Win p e below s rm Q (T.setTop (mkF m pc Ls (w :: rest))) :=
  Win.out X (v := some w) hlk (fun q => by rw [hret] at q; cases q) (fun fs hr => retOut X hx hret (by rcases ref_cases hw with rfl | ⟨_, rfl⟩ <;> cases t <;> first | rfl | cases ht) (Or.inr (Or.inr (Or.inr (Or.inr ⟨rfl, ht, hw⟩)))) hd hr) hc hs hq
theorem Win.retV (X : Stand p l e R s m args below meth c T locs cells slots) (hx : p.tables.exec = Jvm.exec) (hlk : meth.locks = false) {pc : Nat} {Ls : Array Slot} (hret : meth.sig.returnType = none)
    (hd : decode c.code pc = .ok (.return_, 1)) (hc : cells ≤ rm.cells) (hs : slots ≤ rm.slots) (hq : Q none T.heap locs) : Win p e below s rm Q (T.setTop (mkF m pc Ls [])) :=
  Win.out X (v := none) hlk (fun _ => rfl) (fun fs hr => X.returnOut hx hret hd hr) hc hs hq
theorem MetN.walk {y : MethodName} {bytes : ByteArray} {maxL : Nat} {ret : Option FieldType} {ws : List Jvm.Cond} {as' : Array Value} (hp : plainFor y = true)
    (b : ∀ (p : Program) (e : Env) (s : State) (m : MethodId) (below : List Frame) (meth : Method) (c : Code) (s₁ : State), p.tables.exec = Jvm.exec → Z.Warmed39 s.vm → c.code = bytes → c.maxLocals = maxL → s.vm.findClass y.cls = some m.cls → meth.name = y.name → meth.sig.returnType = ret → meth.locks = false →
      Stand p l e rm s m as' below meth c s₁ [] 0 0 → s₁.heap = h → Win p e below s rm Q (s₁.setTop (entryFrame m as' maxL))) : MetN l Z y bytes maxL ret rm ws as' h Q := by
  refine MetFree.of_bodySF hp hisR ?_
  intro p e s m args below meth c s₁ Bd hml0 hP hK
  obtain ⟨rfl, hZ, hh⟩ := hP
  exact b p e s m below meth c s₁ Bd.exec hZ Bd.bytes hml0 (findClass_of_methodNamed Bd.named) (name_of_methodNamed Bd.named Bd.method).1 Bd.returns Bd.notSynchronized (Stand.of_body Bd) (by rw [← hh, Bd.state]; rfl)
theorem N.static (X : Stand p l e R s m args below meth c T locs cells slots) (hx : p.tables.exec = Jvm.exec) (hZ : Z.Warmed39 s.vm) {own : String} {index : Nat} {y : MethodName} {bytes : ByteArray} {maxL : Nat} {ret : Option FieldType} {as' : Array Value}
    (hown : s.vm.findClass own = some m.cls) (w1 : (Jvm.Cond.methodLink own index y).before a0 Z = true) (w2 : (Jvm.Cond.static y).before a0 Z = true) (w3 : (Jvm.Cond.initialized y.cls).before a0 Z = true) (w4 : (Jvm.Cond.code y bytes maxL ret).before a0 Z = true)
    (hy : y.cls ≠ "java/lang/invoke/MethodHandle" ∧ y.cls ≠ "java/lang/invoke/VarHandle") (M : MetN l Z y bytes maxL ret rm [] as' h Q) (eT : T.heap = h) {g : JFrame} (hg : g.method = m) (hsize : g.locals.size = c.maxLocals) {argsL rest : List Value} (has : argsL.toArray = as')
    (hlen : ∀ sig, parseMethodDescriptor y.desc = some sig → argsL.length = sig.parameters.length) (hstack : g.stack = argsL.reverse ++ rest) {W : Nat} (hW : 2 * g.monitorRoom + (rest.map fun v => v.category).sum ≤ W) (hd : decode c.code g.pc = .ok (.invokestatic index, 3))
    (hf : rm.frames + 1 ≤ R.frames) (hl : W + (maxL + 11) + rm.locals ≤ R.locals) (hc : cells + rm.cells ≤ R.cells) (hs : slots + rm.slots ≤ R.slots) :
    ∃ (T' : State) (h' : Heap) (v : Option Value) (L : List Loc), Stand p l e R s m args below meth c T' (locs ++ L) (cells + rm.cells) (slots + rm.slots) ∧ T'.heap = h' ∧ Q v h' L ∧ ∀ t, Steps p.tables e below (T'.setTop { g with pc := g.pc + 3, stack := v.toList ++ rest }) t → Steps p.tables e below (T.setTop g) t := by
  obtain ⟨v, _, ⟨T', L', k', n'⟩, -, X', ⟨Lc, hQ, l', y', z'⟩, st⟩ := Jvm.LawKit.callS X hx hown (mvT hZ w1) (mvT hZ w2) (mvT hZ w3) (mvT hZ w4) hy (backOf (W := W) M hZ w4 w3 hf hl) hg hsize hlen hstack hW hd (fun _ _ => ⟨has, eT, hc, hs⟩)
  dsimp only [Pt.U, Pt.locs, Pt.cells, Pt.slots] at X' l' y' z' st hQ
  subst l' y' z'
  exact ⟨T', _, v, Lc, X', rfl, hQ, st⟩
theorem N.special (X : Stand p l e R s m args below meth c T locs cells slots) (hx : p.tables.exec = Jvm.exec) (hZ : Z.Warmed39 s.vm) {own : String} {index : Nat} {y : MethodName} {bytes : ByteArray} {maxL : Nat} {as' : Array Value} (hy1 : y.name = "<init>")
    (hown : s.vm.findClass own = some m.cls) (w1 : (Jvm.Cond.methodLink own index y).before a0 Z = true) (w2 : (Jvm.Cond.instanceMethod y).before a0 Z = true) (w3 : (Jvm.Cond.initialized y.cls).before a0 Z = true) (w4 : (Jvm.Cond.code y bytes maxL none).before a0 Z = true)
    (hy : y.cls ≠ "java/lang/invoke/MethodHandle" ∧ y.cls ≠ "java/lang/invoke/VarHandle") (M : MetN l Z y bytes maxL none rm [] as' h Q) (eT : T.heap = h) {g : JFrame} (hg : g.method = m) (hsize : g.locals.size = c.maxLocals) {a : Addr} {argsL rest : List Value} (has : (Value.ref a :: argsL).toArray = as')
    (hlen : ∀ sig, parseMethodDescriptor y.desc = some sig → argsL.length = sig.parameters.length) (hstack : g.stack = argsL.reverse ++ .ref a :: rest) {W : Nat} (hW : 2 * g.monitorRoom + (rest.map fun v => v.category).sum ≤ W) (hd : decode c.code g.pc = .ok (.invokespecial index, 3))
    (hf : rm.frames + 1 ≤ R.frames) (hl : W + (maxL + 11) + rm.locals ≤ R.locals) (hc : cells + rm.cells ≤ R.cells) (hs : slots + rm.slots ≤ R.slots) :
    ∃ (T' : State) (h' : Heap) (v : Option Value) (L : List Loc), Stand p l e R s m args below meth c T' (locs ++ L) (cells + rm.cells) (slots + rm.slots) ∧ T'.heap = h' ∧ Q v h' L ∧ ∀ t, Steps p.tables e below (T'.setTop { g with pc := g.pc + 3, stack := v.toList ++ rest }) t → Steps p.tables e below (T.setTop g) t := by
  obtain ⟨v, _, ⟨T', L', k', n'⟩, -, X', ⟨Lc, hQ, l', y', z'⟩, st⟩ := X.specialBack hx hy1 hown (mvT hZ w1) (mvT hZ w2) (mvT hZ w4) hy (backOf (W := W) M hZ w4 w3 hf hl) hg hsize (Steps.refl _) (a := a) hlen hstack hW hd (fun _ _ => ⟨has, eT, hc, hs⟩)
  dsimp only [Pt.U, Pt.locs, Pt.cells, Pt.slots] at X' l' y' z' st hQ
  subst l' y' z'
  exact ⟨T', _, v, Lc, X', rfl, hQ, fun t k => st.trans k⟩
theorem N.virtual (X : Stand p l e R s m args below meth c T locs cells slots) (hx : p.tables.exec = Jvm.exec) (hZ : Z.Warmed39 s.vm) {own C : String} {index : Nat} {y z : MethodName} {bytes : ByteArray} {maxL : Nat} {ret : Option FieldType} {as' : Array Value}
    (hown : s.vm.findClass own = some m.cls) (w1 : (Jvm.Cond.methodLink own index y).before a0 Z = true) (w5 : (Jvm.Cond.declares y).before a0 Z = true) (nf : NotFace s y) (w6 : (Jvm.Cond.selects C y z).before a0 Z = true) (w2 : (Jvm.Cond.instanceMethod z).before a0 Z = true) (w3 : (Jvm.Cond.initialized z.cls).before a0 Z = true) (w4 : (Jvm.Cond.code z bytes maxL ret).before a0 Z = true)
    (hy : y.cls ≠ "java/lang/invoke/MethodHandle" ∧ y.cls ≠ "java/lang/invoke/VarHandle") (M : MetN l Z z bytes maxL ret rm [] as' h Q) (eT : T.heap = h) {a : Addr} (E : Exa Z h a C) {g : JFrame} (hg : g.method = m) (hsize : g.locals.size = c.maxLocals) {argsL rest : List Value} (has : (Value.ref a :: argsL).toArray = as')
    (hlen : ∀ sig, parseMethodDescriptor y.desc = some sig → argsL.length = sig.parameters.length) (hstack : g.stack = argsL.reverse ++ .ref a :: rest) {W : Nat} (hW : 2 * g.monitorRoom + (rest.map fun v => v.category).sum ≤ W) (hd : decode c.code g.pc = .ok (.invokevirtual index, 3))
    (hf : rm.frames + 1 ≤ R.frames) (hl : W + (maxL + 11) + rm.locals ≤ R.locals) (hc : cells + rm.cells ≤ R.cells) (hs : slots + rm.slots ≤ R.slots) :
    ∃ (T' : State) (h' : Heap) (v : Option Value) (L : List Loc), Stand p l e R s m args below meth c T' (locs ++ L) (cells + rm.cells) (slots + rm.slots) ∧ T'.heap = h' ∧ Q v h' L ∧ ∀ t, Steps p.tables e below (T'.setTop { g with pc := g.pc + 3, stack := v.toList ++ rest }) t → Steps p.tables e below (T.setTop g) t := by
  obtain ⟨cq, kq, qa, qb, qc⟩ := isOf hZ eT E
  obtain ⟨v, _, ⟨T', L', k', n'⟩, -, X', ⟨Lc, hQ, l', y', z'⟩, st⟩ := X.virtualBack hx (y := y) (z := z) hown (mvT hZ w1) (mvT hZ w5) nf (mvT hZ w6) (mvT hZ w2) hy (backOf (W := W) M hZ w4 w3 hf hl) qa qc hg hsize (Steps.refl _) (argsL := argsL) hlen hstack hW hd (fun _ _ => ⟨has, eT, hc, hs⟩)
  dsimp only [Pt.U, Pt.locs, Pt.cells, Pt.slots] at X' l' y' z' st hQ
  subst l' y' z'
  exact ⟨T', _, v, Lc, X', rfl, hQ, fun t k => st.trans k⟩
theorem N.iface (X : Stand p l e R s m args below meth c T locs cells slots) (hx : p.tables.exec = Jvm.exec) (hZ : Z.Warmed39 s.vm) {own C : String} {index count : Nat} {y z : MethodName} {bytes : ByteArray} {maxL : Nat} {ret : Option FieldType} {as' : Array Value}
    (hown : s.vm.findClass own = some m.cls) (w1 : (Jvm.Cond.methodLink own index y).before a0 Z = true) (w5 : (Jvm.Cond.declares y).before a0 Z = true) (w6 : (Jvm.Cond.selects C y z).before a0 Z = true) (w7 : (Jvm.Cond.interfaceMethod y.cls y.cls y.name y.desc).before args s = true) (w8 : (Jvm.Cond.publicMethod z).before a0 Z = true) (w9 : (Jvm.Cond.unhidden C y.name y.desc).before a0 Z = true) (w10 : (Jvm.Cond.castable C y.cls).before a0 Z = true) (w2 : (Jvm.Cond.instanceMethod z).before a0 Z = true) (w3 : (Jvm.Cond.initialized z.cls).before a0 Z = true) (w4 : (Jvm.Cond.code z bytes maxL ret).before a0 Z = true)
    (hy : y.cls ≠ "java/lang/invoke/MethodHandle" ∧ y.cls ≠ "java/lang/invoke/VarHandle") (M : MetN l Z z bytes maxL ret rm [] as' h Q) (eT : T.heap = h) {a : Addr} (E : Exa Z h a C) {g : JFrame} (hg : g.method = m) (hsize : g.locals.size = c.maxLocals) {argsL rest : List Value} (has : (Value.ref a :: argsL).toArray = as')
    (hlen : ∀ sig, parseMethodDescriptor y.desc = some sig → argsL.length = sig.parameters.length) (hstack : g.stack = argsL.reverse ++ .ref a :: rest) {W : Nat} (hW : 2 * g.monitorRoom + (rest.map fun v => v.category).sum ≤ W) (hd : decode c.code g.pc = .ok (.invokeinterface index count, 5))
    (hf : rm.frames + 1 ≤ R.frames) (hl : W + (maxL + 11) + rm.locals ≤ R.locals) (hc : cells + rm.cells ≤ R.cells) (hs : slots + rm.slots ≤ R.slots) :
    ∃ (T' : State) (h' : Heap) (v : Option Value) (L : List Loc), Stand p l e R s m args below meth c T' (locs ++ L) (cells + rm.cells) (slots + rm.slots) ∧ T'.heap = h' ∧ Q v h' L ∧ ∀ t, Steps p.tables e below (T'.setTop { g with pc := g.pc + 5, stack := v.toList ++ rest }) t → Steps p.tables e below (T.setTop g) t := by
  obtain ⟨cq, kq, qa, qb, qc⟩ := isOf hZ eT E
  obtain ⟨v, _, ⟨T', L', k', n'⟩, -, X', ⟨Lc, hQ, l', y', z'⟩, st⟩ := X.interfaceBack hx (xi := y) (y := z) hown (mvT hZ w1) (mvT hZ w5) w7 (mvT hZ w6) (mvT hZ w2) (mvT hZ w8) (mvT hZ w9) (mvT hZ w10) hy (backOf (W := W) M hZ w4 w3 hf hl) qa qb qc hg hsize (Steps.refl _) (argsL := argsL) hlen hstack hW hd (fun _ _ => ⟨has, eT, hc, hs⟩)
  dsimp only [Pt.U, Pt.locs, Pt.cells, Pt.slots] at X' l' y' z' st hQ
  subst l' y' z'
  exact ⟨T', _, v, Lc, X', rfl, hQ, fun t k => st.trans k⟩
theorem own_cat {v : Value} (q : v.isRef = true) : v.category = 1 := by rcases ref_cases q with rfl | ⟨_, rfl⟩ <;> rfl
theorem own_eqi {a b : Int32} (q : a = b) : (some (Value.int b) : Option Value) = some (Value.int a) := by rw [q]
theorem own_le {n0 : Nat} (X : Old Z n0 h) : n0 ≤ h.size := X.1 ▸ X.2.1
end Own
/-! the same layer for walks that may load String constants -/
def MetW (l : Launch) (Z : State) (y : MethodName) (bytes : ByteArray) (maxL : Nat) (ret : Option FieldType) (rm : Room) (ws : List Jvm.Cond) (as' : Array Value) (h : Heap) (EL : List (String × Nat)) (Q : Option Value → Heap → List Loc → Prop) : Prop :=
  MetFree l y (head1 (Jvm.Cond.code y bytes maxL ret :: ws) rm) (fun a U => a = as' ∧ Z.Warmed39 U.vm ∧ U.heap = h ∧ CHv Z EL U.vm h) (fun _ _ _ _ _ => True) (fun _ U o U' => ∃ v L, o = .returned v ∧ Q v U'.heap L ∧ CHr Z EL U.vm U.heap U'.vm U'.heap ∧ ReturnedEndW U o U' L rm.cells rm.slots)
def WinW (p : Program) (e : Env) (below : List Frame) (s : State) (rm : Room) (Z : State) (EL : List (String × Nat)) (Q : Option Value → Heap → List Loc → Prop) (st : State) : Prop :=
  ∃ s₂ o, Steps p.tables e below st s₂ ∧ s₂.status = .running ∧ Ended s₂ below o ∧ ∃ v L, o = .returned v ∧ Q v s₂.heap L ∧ CHr Z EL s.vm s.heap s₂.vm s₂.heap ∧ ReturnedEndW s o s₂ L rm.cells rm.slots
section OwnW
variable {p : Program} {l : Launch} {e : Env} {R rm : Room} {s : State} {m : MethodId} {args : Array Value} {below : List Frame} {meth : Method} {c : Code} {T : State} {locs : List Loc} {cells slots : Nat} {Z : State} {a0 : Array Value} {h : Heap} {Q : Option Value → Heap → List Loc → Prop} {EL : List (String × Nat)} {vm0 : Vm}
theorem WinW.to {A : State} (T : State) (g : JFrame) (k : ∀ t, Steps p.tables e below (T.setTop g) t → Steps p.tables e below A t) (w : WinW p e below s rm Z EL Q (T.setTop g)) : WinW p e below s rm Z EL Q A := by
  obtain ⟨s₂, o, h1, r⟩ := w
  exact ⟨s₂, o, k _ h1, r⟩
theorem WinW.out (X : Stand p l e R (s.setVm vm0) m args below meth c T locs cells slots) {n : Nat} (hS : s.Since vm0 n) (hn : n ≤ T.heap.size) {A : State} {v : Option Value} (hlk : meth.locks = false) (hv : meth.sig.returnType = none → v = none)
    (hst : ∀ fs, (∀ (f : JFrame) (acts : List Action), f.method = m → f.locked = none → f.entered = [] → (doReturn e (T.setTop f) acts v).1 = T.setFrames fs) → Steps p.tables e below A (T.setFrames fs))
    (hZ : Z.Warmed39 (s.setVm vm0).vm) (hE : EW Z a0 EL) (hC : CHr Z EL s.vm s.heap vm0 T.heap) (hc : cells ≤ rm.cells) (hs : slots ≤ rm.slots) (hq : Q v T.heap locs) : WinW p e below s rm Z EL Q A := by
  obtain ⟨fs, hr, hrun, hended, h1, h2, h3, h4⟩ := X.leaveW hS hn (v := v) hv
  exact ⟨_, _, hst fs hr, hrun, hended, _, _, rfl, hq, (show CHr Z EL s.vm s.heap T.vm T.heap from hC.trans (CHv.at X hZ hE hC.1)), h1, h2, h3, h4.mono hc hs⟩
theorem WinW.retN (X : Stand p l e R (s.setVm vm0) m args below meth c T locs cells slots) {n : Nat} (hS : s.Since vm0 n) (hn : n ≤ T.heap.size) (hx : p.tables.exec = Jvm.exec) (hlk : meth.locks = false) {pc : Nat} {Ls : Array Slot} {z z' : Int32} {t : FieldType} {rest : List Value} (hret : meth.sig.returnType = some t) (ht : t = .boolean ∨ t = .byte ∨ t = .char ∨ t = .short) (hz : nar t z = z')
    (hd : decode c.code pc = .ok (.ireturn, 1)) (hZ : Z.Warmed39 (s.setVm vm0).vm) (hE : EW Z a0 EL) (hC : CHr Z EL s.vm s.heap vm0 T.heap) (hc : cells ≤ rm.cells) (hs : slots ≤ rm.slots) (hq : Q (some (.int z')) T.heap locs) : WinW p e below s rm Z EL Q (T.setTop (mkF m pc Ls (.int z :: rest))) := by
  subst hz
  exact WinW.out X hS hn (v := some (.int (nar t z))) hlk (fun q => by rw [hret] at q; cases q) (fun fs hr => Jvm.RoadKit.retN X hx (t := t) hret ht hd hr) hZ hE hC hc hs hq
theorem WinW.retI (X : Stand p l e R (s.setVm vm0) m args below meth c T locs cells slots) {n : Nat} (hS : s.Since vm0 n) (hn : n ≤ T.heap.size) (hx : p.tables.exec = Jvm.exec) (hlk : meth.locks = false) {pc : Nat} {Ls : Array Slot} {z : Int32} {rest : List Value} (hret : meth.sig.returnType = some .int)
    (hd : decode c.code pc = .ok (.ireturn, 1)) (hZ : Z.Warmed39 (s.setVm vm0).vm) (hE : EW Z a0 EL) (hC : CHr Z EL s.vm s.heap vm0 T.heap) (hc : cells ≤ rm.cells) (hs : slots ≤ rm.slots) (hq : Q (some (.int z)) T.heap locs) : WinW p e below s rm Z EL Q (T.setTop (mkF m pc Ls (.int z :: rest))) :=
  WinW.out X hS hn (v := some (.int z)) hlk (fun q => by rw [hret] at q; cases q) (fun fs hr => retOut X hx hret rfl (Or.inl ⟨rfl, Or.inl rfl, z, rfl⟩) hd hr) hZ hE hC hc hs hq
theorem WinW.retA (X : Stand p l e R (s.setVm vm0) m args below meth c T locs cells slots) {n : Nat} (hS : s.Since vm0 n) (hn : n ≤ T.heap.size) (hx : p.tables.exec = Jvm.exec) (hlk : meth.locks = false) {pc : Nat} {Ls : Array Slot} {w : Value} {t : FieldType} {rest : List Value} (hret : meth.sig.returnType = some t) (ht : t.isReference = true) (hw : w.isRef = true)
    (hd : decode c.code pc = .ok (.areturn, 1)) (hZ : Z.Warmed39 (s.setVm vm0).vm) (hE : EW Z a0 EL) (hC : CHr Z EL s.vm s.heap vm0 T.heap) (hc : cells ≤ rm.cells) (hs : slots ≤ rm.slots) (hq : Q (some w) T.heap locs) : WinW p e below s rm Z EL Q (T.setTop (mkF m pc Ls (w :: rest))) :=
  WinW.out X hS hn (v := some w) hlk (fun q => by rw [hret] at q; cases q) (fun fs hr => retOut X hx hret (by rcases ref_cases hw with rfl | ⟨_, rfl⟩ <;> cases t <;> first | rfl | cases ht) (Or.inr (Or.inr (Or.inr (Or.inr ⟨rfl, ht, hw⟩)))) hd hr) hZ hE hC hc hs hq
theorem WinW.retV (X : Stand p l e R (s.setVm vm0) m args below meth c T locs cells slots) {n : Nat} (hS : s.Since vm0 n) (hn : n ≤ T.heap.size) (hx : p.tables.exec = Jvm.exec) (hlk : meth.locks = false) {pc : Nat} {Ls : Array Slot} (hret : meth.sig.returnType = none)
    (hd : decode c.code pc = .ok (.return_, 1)) (hZ : Z.Warmed39 (s.setVm vm0).vm) (hE : EW Z a0 EL) (hC : CHr Z EL s.vm s.heap vm0 T.heap) (hc : cells ≤ rm.cells) (hs : slots ≤ rm.slots) (hq : Q none T.heap locs) : WinW p e below s rm Z EL Q (T.setTop (mkF m pc Ls [])) :=
  WinW.out X hS hn (v := none) hlk (fun _ => rfl) (fun fs hr => X.returnOut hx hret hd hr) hZ hE hC hc hs hq
theorem MetW.walk {y : MethodName} {bytes : ByteArray} {maxL : Nat} {ret : Option FieldType} {ws : List Jvm.Cond} {as' : Array Value} (hp : plainFor y = true)
    (b : ∀ (p : Program) (e : Env) (s : State) (m : MethodId) (below : List Frame) (meth : Method) (c : Code) (s₁ : State), p.tables.exec = Jvm.exec → Z.Warmed39 (s.setVm s.vm).vm → c.code = bytes → c.maxLocals = maxL → (s.setVm s.vm).vm.findClass y.cls = some m.cls → meth.name = y.name → meth.sig.returnType = ret → meth.locks = false → CHr Z EL s.vm s.heap s.vm h → s.Since s.vm 0 →
      Stand p l e rm (s.setVm s.vm) m as' below meth c s₁ [] 0 0 → s₁.heap = h → WinW p e below s rm Z EL Q (s₁.setTop (entryFrame m as' maxL))) : MetW l Z y bytes maxL ret rm ws as' h EL Q := by
  refine MetFree.of_bodySF hp hisR ?_
  intro p e s m args below meth c s₁ Bd hml0 hP hK
  obtain ⟨rfl, hZ, hh, hV⟩ := hP
  exact b p e s m below meth c s₁ Bd.exec hZ Bd.bytes hml0 (findClass_of_methodNamed Bd.named) (name_of_methodNamed Bd.named Bd.method).1 Bd.returns Bd.notSynchronized (hh ▸ CHr.refl (hh ▸ hV)) ((State.WarmedH.refl s).since 0) (Stand.of_body Bd) (by rw [← hh, Bd.state]; rfl)
theorem W.static (X : Stand p l e R (s.setVm vm0) m args below meth c T locs cells slots) {k0 : Nat} (hS : s.Since vm0 k0) (hk : k0 ≤ h.size) (hx : p.tables.exec = Jvm.exec) (hZ : Z.Warmed39 (s.setVm vm0).vm) {own : String} {index : Nat} {y : MethodName} {bytes : ByteArray} {maxL : Nat} {ret : Option FieldType} {as' : Array Value}
    (hown : (s.setVm vm0).vm.findClass own = some m.cls) (w1 : (Jvm.Cond.methodLink own index y).before a0 Z = true) (w2 : (Jvm.Cond.static y).before a0 Z = true) (w3 : (Jvm.Cond.initialized y.cls).before a0 Z = true) (w4 : (Jvm.Cond.code y bytes maxL ret).before a0 Z = true)
    (hy : y.cls ≠ "java/lang/invoke/MethodHandle" ∧ y.cls ≠ "java/lang/invoke/VarHandle") (M : MetW l Z y bytes maxL ret rm [] as' h EL Q) (hE : EW Z a0 EL) (hC : CHv Z EL vm0 h) (eT : T.heap = h) {g : JFrame} (hg : g.method = m) (hsize : g.locals.size = c.maxLocals) {argsL rest : List Value} (has : argsL.toArray = as')
    (hlen : ∀ sig, parseMethodDescriptor y.desc = some sig → argsL.length = sig.parameters.length) (hstack : g.stack = argsL.reverse ++ rest) {W : Nat} (hW : 2 * g.monitorRoom + (rest.map fun v => v.category).sum ≤ W) (hd : decode c.code g.pc = .ok (.invokestatic index, 3))
    (hf : rm.frames + 1 ≤ R.frames) (hl : W + (maxL + 11) + rm.locals ≤ R.locals) (hc : cells + rm.cells ≤ R.cells) (hs : slots + rm.slots ≤ R.slots) :
    ∃ (T' : State) (h' : Heap) (v : Option Value) (L : List Loc) (k1 : Nat), Stand p l e R (s.setVm T'.vm) m args below meth c T' (locs ++ L) (cells + rm.cells) (slots + rm.slots) ∧ T'.heap = h' ∧ s.Since T'.vm k1 ∧ k1 ≤ h'.size ∧ Z.Warmed39 (s.setVm T'.vm).vm ∧ (s.setVm T'.vm).vm.findClass own = some m.cls ∧ Q v h' L ∧ CHr Z EL vm0 h T'.vm h' ∧
      ∀ t, Steps p.tables e below (T'.setTop { g with pc := g.pc + 3, stack := v.toList ++ rest }) t → Steps p.tables e below (T.setTop g) t := by
  obtain ⟨v, _, ⟨T', L', k', n'⟩, -, X', hS', hgr, ⟨Lc, hQ, l', y', z', hC2⟩, st⟩ := callSS X hx hown (mvT hZ w1) (mvT hZ w2) (mvT hZ w3) (mvT hZ w4) hy (backOfSH (W := W) M hZ w4 w3 hf hl hE hC) hg hsize hlen hstack hW hd (fun _ _ => ⟨has, eT, hc, hs⟩)
  dsimp only [Pt.U, Pt.locs, Pt.cells, Pt.slots] at X' l' y' z' st hQ hS' hgr hC2
  subst l' y' z'
  obtain ⟨X2, hS2, hZ2, hown2⟩ := rebS hS hk X' hS' (by rw [← eT]; exact hgr) hZ hown
  exact ⟨T', _, v, Lc, _, X2, rfl, hS2, Nat.le_refl _, hZ2, hown2, hQ, hC2, fun t k => st.trans k⟩
theorem W.special (X : Stand p l e R (s.setVm vm0) m args below meth c T locs cells slots) {k0 : Nat} (hS : s.Since vm0 k0) (hk : k0 ≤ h.size) (hx : p.tables.exec = Jvm.exec) (hZ : Z.Warmed39 (s.setVm vm0).vm) {own : String} {index : Nat} {y : MethodName} {bytes : ByteArray} {maxL : Nat} {as' : Array Value} (hy1 : y.name = "<init>")
    (hown : (s.setVm vm0).vm.findClass own = some m.cls) (w1 : (Jvm.Cond.methodLink own index y).before a0 Z = true) (w2 : (Jvm.Cond.instanceMethod y).before a0 Z = true) (w3 : (Jvm.Cond.initialized y.cls).before a0 Z = true) (w4 : (Jvm.Cond.code y bytes maxL none).before a0 Z = true)
    (hy : y.cls ≠ "java/lang/invoke/MethodHandle" ∧ y.cls ≠ "java/lang/invoke/VarHandle") (M : MetW l Z y bytes maxL none rm [] as' h EL Q) (hE : EW Z a0 EL) (hC : CHv Z EL vm0 h) (eT : T.heap = h) {g : JFrame} (hg : g.method = m) (hsize : g.locals.size = c.maxLocals) {a : Addr} {argsL rest : List Value} (has : (Value.ref a :: argsL).toArray = as')
    (hlen : ∀ sig, parseMethodDescriptor y.desc = some sig → argsL.length = sig.parameters.length) (hstack : g.stack = argsL.reverse ++ .ref a :: rest) {W : Nat} (hW : 2 * g.monitorRoom + (rest.map fun v => v.category).sum ≤ W) (hd : decode c.code g.pc = .ok (.invokespecial index, 3))
    (hf : rm.frames + 1 ≤ R.frames) (hl : W + (maxL + 11) + rm.locals ≤ R.locals) (hc : cells + rm.cells ≤ R.cells) (hs : slots + rm.slots ≤ R.slots) :
    ∃ (T' : State) (h' : Heap) (v : Option Value) (L : List Loc) (k1 : Nat), Stand p l e R (s.setVm T'.vm) m args below meth c T' (locs ++ L) (cells + rm.cells) (slots + rm.slots) ∧ T'.heap = h' ∧ s.Since T'.vm k1 ∧ k1 ≤ h'.size ∧ Z.Warmed39 (s.setVm T'.vm).vm ∧ (s.setVm T'.vm).vm.findClass own = some m.cls ∧ Q v h' L ∧ CHr Z EL vm0 h T'.vm h' ∧
      ∀ t, Steps p.tables e below (T'.setTop { g with pc := g.pc + 3, stack := v.toList ++ rest }) t → Steps p.tables e below (T.setTop g) t := by
  obtain ⟨v, _, ⟨T', L', k', n'⟩, -, X', hS', hgr, ⟨Lc, hQ, l', y', z', hC2⟩, st⟩ := X.specialBackS hx hy1 hown (mvT hZ w1) (mvT hZ w2) (mvT hZ w4) hy (backOfSH (W := W) M hZ w4 w3 hf hl hE hC) hg hsize (Steps.refl _) (a := a) hlen hstack hW hd (fun _ _ => ⟨has, eT, hc, hs⟩)
  dsimp only [Pt.U, Pt.locs, Pt.cells, Pt.slots] at X' l' y' z' st hQ hS' hgr hC2
  subst l' y' z'
  obtain ⟨X2, hS2, hZ2, hown2⟩ := rebS hS hk X' hS' (by rw [← eT]; exact hgr) hZ hown
  exact ⟨T', _, v, Lc, _, X2, rfl, hS2, Nat.le_refl _, hZ2, hown2, hQ, hC2, fun t k => st.trans k⟩
theorem W.virtual (X : Stand p l e R (s.setVm vm0) m args below meth c T locs cells slots) {k0 : Nat} (hS : s.Since vm0 k0) (hk : k0 ≤ h.size) (hx : p.tables.exec = Jvm.exec) (hZ : Z.Warmed39 (s.setVm vm0).vm) {own C : String} {index : Nat} {y z : MethodName} {bytes : ByteArray} {maxL : Nat} {ret : Option FieldType} {as' : Array Value}
    (hown : (s.setVm vm0).vm.findClass own = some m.cls) (w1 : (Jvm.Cond.methodLink own index y).before a0 Z = true) (w5 : (Jvm.Cond.declares y).before a0 Z = true) (nf : NotFace (s.setVm vm0) y) (w6 : (Jvm.Cond.selects C y z).before a0 Z = true) (w2 : (Jvm.Cond.instanceMethod z).before a0 Z = true) (w3 : (Jvm.Cond.initialized z.cls).before a0 Z = true) (w4 : (Jvm.Cond.code z bytes maxL ret).before a0 Z = true)
    (hy : y.cls ≠ "java/lang/invoke/MethodHandle" ∧ y.cls ≠ "java/lang/invoke/VarHandle") (M : MetW l Z z bytes maxL ret rm [] as' h EL Q) (hE : EW Z a0 EL) (hC : CHv Z EL vm0 h) (eT : T.heap = h) {a : Addr} (E : Exa Z h a C) {g : JFrame} (hg : g.method = m) (hsize : g.locals.size = c.maxLocals) {argsL rest : List Value} (has : (Value.ref a :: argsL).toArray = as')
    (hlen : ∀ sig, parseMethodDescriptor y.desc = some sig → argsL.length = sig.parameters.length) (hstack : g.stack = argsL.reverse ++ .ref a :: rest) {W : Nat} (hW : 2 * g.monitorRoom + (rest.map fun v => v.category).sum ≤ W) (hd : decode c.code g.pc = .ok (.invokevirtual index, 3))
    (hf : rm.frames + 1 ≤ R.frames) (hl : W + (maxL + 11) + rm.locals ≤ R.locals) (hc : cells + rm.cells ≤ R.cells) (hs : slots + rm.slots ≤ R.slots) :
    ∃ (T' : State) (h' : Heap) (v : Option Value) (L : List Loc) (k1 : Nat), Stand p l e R (s.setVm T'.vm) m args below meth c T' (locs ++ L) (cells + rm.cells) (slots + rm.slots) ∧ T'.heap = h' ∧ s.Since T'.vm k1 ∧ k1 ≤ h'.size ∧ Z.Warmed39 (s.setVm T'.vm).vm ∧ (s.setVm T'.vm).vm.findClass own = some m.cls ∧ Q v h' L ∧ CHr Z EL vm0 h T'.vm h' ∧
      ∀ t, Steps p.tables e below (T'.setTop { g with pc := g.pc + 3, stack := v.toList ++ rest }) t → Steps p.tables e below (T.setTop g) t := by
  obtain ⟨cq, kq, qa, qb, qc⟩ := isOf hZ eT E
  obtain ⟨v, _, ⟨T', L', k', n'⟩, -, X', hS', hgr, ⟨Lc, hQ, l', y', z', hC2⟩, st⟩ := X.virtualBackS hx (y := y) (z := z) hown (mvT hZ w1) (mvT hZ w5) nf (mvT hZ w6) (mvT hZ w2) hy (backOfSH (W := W) M hZ w4 w3 hf hl hE hC) qa qc hg hsize (Steps.refl _) (argsL := argsL) hlen hstack hW hd (fun _ _ => ⟨has, eT, hc, hs⟩)
  dsimp only [Pt.U, Pt.locs, Pt.cells, Pt.slots] at X' l' y' z' st hQ hS' hgr hC2
  subst l' y' z'
  obtain ⟨X2, hS2, hZ2, hown2⟩ := rebS hS hk X' hS' (by rw [← eT]; exact hgr) hZ hown
  exact ⟨T', _, v, Lc, _, X2, rfl, hS2, Nat.le_refl _, hZ2, hown2, hQ, hC2, fun t k => st.trans k⟩
theorem own_safe {x : Addr} {n : Nat} {vm : Vm} (hal : Z.vm.Alike vm) (E : Exa Z h x "java/lang/String") (F : Fld Z h x "java/lang/String" "value" "[B" .null) (wi : (Jvm.Cond.instantiable "java/lang/String" n).before a0 Z = true) : Safe Z EL vm h x := fun B => by
  obtain ⟨cell, cf, k, i, f, f1, f2, f3, f4, f5, f6, f7⟩ := F
  obtain ⟨p, -, u, a, -, q, -, ⟨cS, ⟨⟨s1, s2, s3, ⟨cv, kv, iv, s4, s4'⟩, -, s6, s7, s8, s9, s10, s11, s12, s13, s14, s15, s16⟩, hfS, hcS⟩, -, hB, -⟩, hy⟩ := B
  rcases hy with rfl | rfl
  · obtain ⟨kv', z4⟩ := ff_back (U := Wst Z vm h) hal s4
    cases f1.symm.trans s1
    cases f2.symm.trans z4
    cases f7.symm.trans s8
  · have A : Arr Z h q.sd q.SA .byte := by
      have hB : vm.findClass "[B" = some q.SA.cls := hB
      have hBZ : Z.vm.findClass "[B" = some q.SA.cls := by rw [← hal.findClass]; exact hB
      obtain ⟨kb, hkb, -⟩ := Vm.findClass_spec hBZ
      obtain ⟨kb', hkb', ekb⟩ := hal.2.2 _ _ hkb
      obtain ⟨hst, k9, hk9, comp, hkind9⟩ := s11
      have hk9 : vm.classes[q.SA.cls]? = some k9 := hk9
      have ek9 : k9 = kb' := Option.some.inj (hk9.symm.trans hkb')
      exact ⟨s10, ⟨hst, kb, hkb, comp, by rw [ek9, ekb] at hkind9; exact hkind9⟩, s12⟩
    exact ne_arr E wi A rfl
end OwnW
/-! arrays of ints as functions -/
def upd (f : Nat → Int32) (i : Nat) (v : Int32) : Nat → Int32 := fun x => if x = i then v else f x
def ArF (Z : State) (h : Heap) (a : Addr) (k : ClassId) (ty : FieldType) (n : Nat) (f : Nat → Int32) : Prop := ∃ c : Cell, Arr Z h a c ty ∧ c.cls = k ∧ c.slots.size = n ∧ n < 2 ^ 31 ∧ (∀ i, i < n → c.slots[i]? = some (.int (f i))) ∧ ∀ i, i < n → fits ty (.int (f i)) = true
section OwnS
variable {Z : State} {h h' : Heap} {a b : Addr} {k : ClassId} {ty : FieldType} {n : Nat} {f : Nat → Int32} {sl : Nat} {v : Value} {ws : List Addr}
theorem ArF.lt (F : ArF Z h a k ty n f) : a < h.size := by obtain ⟨c, A, -⟩ := F; exact A.lt
theorem ArF.ext (F : ArF Z h a k ty n f) (E : Ext h h') : ArF Z h' a k ty n f := by obtain ⟨c, A, r⟩ := F; exact ⟨c, A.ext E, r⟩
theorem ArF.other (F : ArF Z h b k ty n f) (W : Wr h h' a sl v) (q : b ≠ a) : ArF Z h' b k ty n f := by obtain ⟨c, A, r⟩ := F; exact ⟨c, A.other W q, r⟩
theorem ArF.keep (F : ArF Z h a k ty n f) (K : Keep h h' ws) (q : a ∉ ws) : ArF Z h' a k ty n f := by obtain ⟨c, A, r⟩ := F; exact ⟨c, ⟨K.2.1 a c A.1 q, A.2⟩, r⟩
theorem ArF.big (F : ArF Z h a k ty n f) : n < 2 ^ 31 := by obtain ⟨c, -, -, -, q, -, -⟩ := F; exact q
theorem ArF.cong (F : ArF Z h a k ty n f) {g : Nat → Int32} (q : ∀ i, i < n → f i = g i) : ArF Z h a k ty n g := by
  obtain ⟨c, A, r1, r2, r3, r4, r5⟩ := F
  exact ⟨c, A, r1, r2, r3, fun i hi => by rw [← q i hi]; exact r4 i hi, fun i hi => by rw [← q i hi]; exact r5 i hi⟩
theorem ArF.at (F : ArF Z h a k ty n f) {j : Int32} {i : Nat} (hj : j.toNatClampNeg = i) (h0 : ¬ j < 0) (hi : i < n) : ∃ cl : Cell, Arr Z h a cl ty ∧ ¬ (j < 0 ∨ cl.slots.size ≤ j.toNatClampNeg) ∧ cl.slots[j.toNatClampNeg]? = some (.int (f i)) := by
  obtain ⟨c, A, -, r2, -, r4, -⟩ := F
  refine ⟨c, A, ?_, ?_⟩
  · rintro (q | q)
    · exact h0 q
    · omega
  · rw [hj]; exact r4 i hi
theorem ArF.len (F : ArF Z h a k ty n f) : ∃ cl : Cell, Arr Z h a cl ty ∧ cl.slots.size.toInt32 = n.toInt32 := by
  obtain ⟨c, A, -, r2, -, -, -⟩ := F
  exact ⟨c, A, by rw [r2]⟩
theorem ArF.set {i : Nat} {x : Int32} (F : ArF Z h a k ty n f) (W : Wr h h' a sl (.int x)) (hs : sl = i) (hi : i < n) (hf : fits ty (.int x) = true) : ArF Z h' a k ty n (upd f i x) := by
  subst hs
  obtain ⟨c, A, r1, r2, r3, r4, r5⟩ := F
  obtain ⟨c', e1, e2, e3, e4, -, e6, e7⟩ := wr_at W A.1
  have A' := A.same W
  obtain ⟨q1, q2, -⟩ := e7 rfl
  subst q1
  refine ⟨_, A', by rw [e2]; exact r1, by rw [e4]; exact r2, r3, fun j hj => ?_, fun j hj => ?_⟩
  · by_cases q : j = sl
    · subst q; simp only [upd, if_pos]; exact q2
    · rw [e6 j q]; simp only [upd, if_neg q]; exact r4 j hj
  · by_cases q : j = sl
    · subst q; simp only [upd, if_pos]; exact hf
    · simp only [upd, if_neg q]; exact r5 j hj
theorem ArF.new {z : Int32} (A : Arr Z h a (newA k ty z) ty) (q : ¬ z < 0) (hd : defaultValue ty = .int 0) : ArF Z h a k ty z.toNatClampNeg (fun _ => 0) :=
  ⟨_, A, rfl, sz_new _ _ _, (back32 q).2, fun i hi => by simp [newA, hi, hd], fun i hi => by cases ty <;> simp [defaultValue] at hd <;> rfl⟩
theorem own_arfL {z : Int32} {vs : List Value} {dv : Value} (F : Arv Z h a k ty z vs dv) (hn : z.toNatClampNeg = n) (hv : ∀ i, i < n → vs.getD i dv = .int (f i)) : ArF Z h a k ty n f := by
  obtain ⟨c, A, r1, r2, r3, H, G⟩ := F
  refine ⟨c, A, r1, by rw [r2, hn], hn ▸ (back32 r3).2, fun i hi => ?_, fun i hi => ?_⟩
  · rw [H i (by rw [r2, hn]; exact hi), hv i hi]
  · rw [← hv i hi]; exact G i (by rw [r2, hn]; exact hi)
theorem own_arf {z : Int32} {d : Int32} (cs : List Int32) (F : Arv Z h a k ty z (cs.map Value.int) (.int d)) (hn : z.toNatClampNeg = n) : ArF Z h a k ty n (fun i => cs.getD i d) :=
  own_arfL F hn fun i _ => by
    simp only [List.getD_eq_getElem?_getD, List.getElem?_map]
    cases cs[i]? <;> rfl
theorem own_arv (F : ArF Z h a k ty n f) : Arv Z h a k ty n.toInt32 ((List.range n).map fun i => Value.int (f i)) (.int 0) := by
  obtain ⟨c, A, r1, r2, r3, r4, r5⟩ := F
  have q := len_toInt r3
  have e : n.toInt32.toNatClampNeg = n := by show n.toInt32.toInt.toNat = n; rw [q]; rfl
  have g : ∀ i, i < n → ((List.range n).map fun i => Value.int (f i)).getD i (.int 0) = .int (f i) := fun i hi => by simp [hi]
  refine ⟨c, A, r1, by rw [r2, e], ?_, fun i hi => ?_, fun i hi => ?_⟩
  · rw [Int32.lt_iff_toInt_lt, q]
    have : (0 : Int32).toInt = 0 := rfl
    omega
  · rw [g i (by omega)]; exact r4 i (by omega)
  · rw [g i (by omega)]; exact r5 i (by omega)
theorem own_neF {C : String} {m : Nat} {a0 : Array Value} (E : Exa Z h a C) (F : ArF Z h b k ty n f) (w : (Jvm.Cond.instantiable C m).before a0 Z = true) : a ≠ b := by
  obtain ⟨c, A, -⟩ := F
  exact ne_arr E w A
theorem own_tn {j : Nat} (hj : j < 2 ^ 31) : j.toInt32.toNatClampNeg = j ∧ ¬ j.toInt32 < 0 ∧ j.toInt32.toInt = j := by
  have q := len_toInt hj
  refine ⟨?_, ?_, q⟩
  · show j.toInt32.toInt.toNat = j
    rw [q]; rfl
  · rw [Int32.lt_iff_toInt_lt, q]
    have : (0 : Int32).toInt = 0 := rfl
    omega
theorem own_lt {j n : Nat} (hj : j < 2 ^ 31) (hn : n < 2 ^ 31) : j.toInt32 < n.toInt32 ↔ j < n := by
  rw [Int32.lt_iff_toInt_lt, len_toInt hj, len_toInt hn]; omega
theorem own_succ (j : Nat) : j.toInt32 + (1 : Int32) = (j + 1).toInt32 := (Int32.ofNat_add j 1).symm
end OwnS
def EL1 : List (String × Nat) := [("java/lang/String", 7)]
theorem own_wS {Z : State} {a0 : Array Value} (hw : ∀ d ∈ tables_1, d.before a0 Z = true) : ∀ a ∈ Bundle.stringAtoms, a.before a0 Z = true := by
  intro a ha
  simp only [Bundle.stringAtoms, List.mem_cons, List.not_mem_nil, or_false] at ha
  rcases ha with rfl | rfl | rfl | rfl | rfl | rfl | rfl
  · exact (wk hw 7 rfl)
  · exact (wk hw 6 rfl)
  · exact (wk hw 20 rfl)
  · exact (wk hw 21 rfl)
  · exact (wk hw 22 rfl)
  · exact (wk hw 23 rfl)
  · exact (wk hw 24 rfl)
theorem own_EW {Z : State} {a0 : Array Value} (hw : ∀ d ∈ tables_1, d.before a0 Z = true) : EW Z a0 EL1 := (EW.cons (wk hw 19 rfl) (by decide) EW.nil)
theorem own_b8 (x : Int32) : nar .byte x.toInt8.toInt32 = x.toInt8.toInt32 := by
  show x.toInt8.toInt32.toInt8.toInt32 = x.toInt8.toInt32
  rw [Int8.toInt8_toInt32]
theorem own_nz {n : Nat} (hn : n < 2 ^ 31) (hp : 0 < n) : ¬ (n.toInt32 = (0 : Int32)) := fun q => by
  have e := congrArg Int32.toInt q
  rw [len_toInt hn] at e
  have : (0 : Int32).toInt = 0 := rfl
  omega
theorem own_zero {n : Nat} (hn : n < 2 ^ 31) (q : n.toInt32 = (0 : Int32)) : n = 0 := by
  have e := congrArg Int32.toInt q
  rw [len_toInt hn] at e
  have : (0 : Int32).toInt = 0 := rfl
  omega
theorem own_inj {n m : Nat} (hn : n < 2 ^ 31) (hm : m < 2 ^ 31) (q : n.toInt32 = m.toInt32) : n = m := by
  have e := congrArg Int32.toInt q
  rw [len_toInt hn, len_toInt hm] at e
  omega
theorem own_same {Z : State} {h : Heap} {a1 a2 t1 t2 : Addr} {k1 k2 : ClassId} {ty : FieldType} {n1 n2 : Nat} {f1 f2 : Nat → Int32} {C n d : String} (q : a1 = a2) (F : Fld Z h a1 C n d (.ref t1)) (G : Fld Z h a2 C n d (.ref t2)) (A : ArF Z h t1 k1 ty n1 f1) (B : ArF Z h t2 k2 ty n2 f2) : n1 = n2 ∧ ∀ i, i < n1 → f1 i = f2 i := by
  subst q
  obtain ⟨c1, cf, kk, j, fd, g1, g2, -, -, -, -, g7⟩ := F
  obtain ⟨c2, cf', kk', j', fd', e1, e2, -, -, -, -, e7⟩ := G
  cases g1.symm.trans e1
  cases g2.symm.trans e2
  cases g7.symm.trans e7
  obtain ⟨c3, A1, -, r2, -, r4, -⟩ := A
  obtain ⟨c4, B1, -, s2, -, s4, -⟩ := B
  cases A1.1.symm.trans B1.1
  have hn : n1 = n2 := r2.symm.trans s2
  exact ⟨hn, fun i hi => Value.int.inj (Option.some.inj ((r4 i hi).symm.trans (s4 i (hn ▸ hi))))⟩
theorem own_shr0 (x : Int32) : (x >>> ((0 : Int32) &&& 31)) = x := by
  rw [show ((0 : Int32) &&& 31) = 0 from rfl]
  exact Int32.shiftRight_zero
theorem own_sub {b e : Nat} (hb : b < 2 ^ 31) (he : e < 2 ^ 31) (q : b ≤ e) : e.toInt32 - b.toInt32 = (e - b).toInt32 := by
  apply Int32.toInt_inj.mp
  have a := c_isub e.toInt32 b.toInt32
  have r := rng32 (e.toInt32 - b.toInt32)
  rw [len_toInt hb, len_toInt he] at a
  rw [len_toInt (show e - b < 2 ^ 31 by omega)]
  omega
theorem own_add {b m : Nat} (q : b + m < 2 ^ 31) : b.toInt32 + m.toInt32 = (b + m).toInt32 := (Int32.ofNat_add b m).symm
theorem own_min {a m : Nat} (ha : a < 2 ^ 31) (hm : m < 2 ^ 31) (q : m ≤ a) (h : ¬ m.toInt32 < a.toInt32) : m.toInt32 = a.toInt32 := by
  rw [show m = a from Nat.le_antisymm q (Nat.le_of_not_lt fun z => h ((own_lt hm ha).mpr z))]
theorem own_cp {b m n i : Nat} {f : Nat → Int32} (hi : i < m) (hb : b + m ≤ n) :
    ((((List.range m).map fun i => Value.int ((fun _ => (0 : Int32)) i)).take (0 : Int32).toNatClampNeg) ++ ((List.range m).map fun i => ((List.range n).map fun i => Value.int (f i)).getD (b + i) (.int 0)) ++ (((List.range m).map fun i => Value.int ((fun _ => (0 : Int32)) i)).drop ((0 : Int32).toNatClampNeg + m))).getD i (.int 0) = .int (f (b + i)) := by
  have z : (0 : Int32).toNatClampNeg = 0 := rfl
  rw [z, List.take_zero, List.nil_append, List.getD_eq_getElem?_getD, List.getElem?_append_left (by simpa using hi)]
  simp [hi, show b + i < n by omega]
theorem own_pre {j : Nat} (hj : j < 2 ^ 31) (hp : 0 < j) : (j.toInt32 - (1 : Int32)).toNatClampNeg = j - 1 ∧ ¬ (j.toInt32 - (1 : Int32)) < (0 : Int32) ∧ True := by
  have a := own_sub (b := 1) (by omega) hj hp
  have b : ((1 : Nat).toInt32) = (1 : Int32) := rfl
  rw [b] at a
  rw [a]
  have c := own_tn (j := j - 1) (by omega)
  exact ⟨c.1, c.2.1, trivial⟩
theorem own_dec (i : Nat) : ((i + 1).toInt32 - (1 : Int32)) + (-1 : Int32) = i.toInt32 - (1 : Int32) := by
  rw [← own_succ i, Int32.add_sub_cancel, Int32.sub_eq_add_neg]
theorem own_255 (x : Int32) : ¬ (255 : Int32) < (x &&& (255 : Int32)) := by
  have h := (c_and x (255 : Int32) (by decide)).2
  rw [Int32.lt_iff_toInt_lt]
  omega
theorem own_rng {q : Int32} (h : ¬ (255 : Int32) < q) (hc : nar .char q = q) : 0 ≤ q.toInt ∧ q.toInt ≤ 255 := by
  have b := c_i2c q
  have e : q.toUInt32.toUInt16.toUInt32.toInt32 = q := hc
  rw [e] at b
  rw [Int32.lt_iff_toInt_lt] at h
  have e1 : (255 : Int32).toInt = 255 := by decide
  omega
theorem own_sp2 {q : Int32} (h : ¬ (255 : Int32) < q) (hc : nar .char q = q) (hn : ¬ q = (32 : Int32)) : ¬ q.toInt8.toInt32 = (32 : Int32) := fun z => hn (by
  have a := own_rng h hc
  have b := c_i2b q
  rw [z] at b
  have e2 : (32 : Int32).toInt = 32 := by decide
  apply Int32.toInt_inj.mp
  omega)
theorem own_b255 {q : Int32} (h : ¬ (255 : Int32) < q) (hc : nar .char q = q) : (q.toInt8.toInt32 &&& (255 : Int32)) = q := by
  have a := own_rng h hc
  have b := c_i2b q
  have m : (q.toInt8.toInt32 &&& (255 : Int32)).toInt = q.toInt8.toInt32.toInt % (2 ^ 8 : Nat) := c_mask q.toInt8.toInt32 (255 : Int32) 8 (by decide) (by decide)
  have e : ((2 ^ 8 : Nat) : Int) = 256 := by decide
  apply Int32.toInt_inj.mp
  rw [m, e]
  omega
def u16 (f : Nat → Int32) (i : Nat) : Int32 := if i % 2 = 0 then (f (i / 2) >>> ((0 : Int32) &&& 31)).toInt8.toInt32 else (f (i / 2) >>> ((8 : Int32) &&& 31)).toInt8.toInt32
def own_gc (a b : Int32) : Int32 := (((a &&& (255 : Int32)) <<< ((0 : Int32) &&& 31)) ||| ((b &&& (255 : Int32)) <<< ((8 : Int32) &&& 31))).toUInt32.toUInt16.toUInt32.toInt32
theorem own_shl1 {n : Nat} (h : 2 * n < 2 ^ 31) : (n.toInt32 <<< ((1 : Int32) &&& 31)) = (2 * n).toInt32 := by
  apply Int32.toInt_inj.mp
  have a := c_ishl n.toInt32 (1 : Int32) 1 (by decide)
  have r := rng32 (n.toInt32 <<< ((1 : Int32) &&& 31))
  rw [len_toInt (show n < 2 ^ 31 by omega)] at a
  rw [len_toInt h]
  omega
theorem own_shr1 {n : Nat} (h : 2 * n < 2 ^ 31) : ((2 * n).toInt32 >>> ((1 : Int32) &&& 31)) = n.toInt32 := by
  apply Int32.toInt_inj.mp
  have a := c_ishr (2 * n).toInt32 (1 : Int32) 1 (by decide)
  rw [len_toInt h] at a
  rw [len_toInt (show n < 2 ^ 31 by omega)]
  omega
theorem own_neg31 {n : Nat} (hp : 0 < n) (h : 2 * n < 2 ^ 31) : (((n.toInt32 - (2 * n).toInt32).toUInt32 >>> ((31 : Int32) &&& 31).toUInt32).toInt32) = (1 : Int32) := by
  apply Int32.toInt_inj.mp
  have a := c_isub n.toInt32 (2 * n).toInt32
  have r := rng32 (n.toInt32 - (2 * n).toInt32)
  have b := c_iushr (n.toInt32 - (2 * n).toInt32) (31 : Int32) 31 (by decide) (by decide)
  rw [len_toInt h, len_toInt (show n < 2 ^ 31 by omega)] at a
  have e : (1 : Int32).toInt = 1 := by decide
  rw [e, b]
  omega
theorem own_c16 (x : Int32) : nar .char (x.toUInt32.toUInt16.toUInt32.toInt32) = x.toUInt32.toUInt16.toUInt32.toInt32 := by
  apply Int32.toInt_inj.mp
  have a := c_i2c x
  have b := c_i2c (x.toUInt32.toUInt16.toUInt32.toInt32)
  show (x.toUInt32.toUInt16.toUInt32.toInt32.toUInt32.toUInt16.toUInt32.toInt32).toInt = _
  omega
theorem own_nc16 {x : Int32} (h1 : 0 ≤ x.toInt) (h2 : x.toInt < 65536) : nar .char x = x := by
  apply Int32.toInt_inj.mp
  have a := c_i2c x
  show (x.toUInt32.toUInt16.toUInt32.toInt32).toInt = _
  omega
theorem own_fr {Z : State} {h : Heap} {a : Addr} {k : ClassId} {n : Nat} {f : Nat → Int32} (F : ArF Z h a k .char n f) : ∀ i, i < n → 0 ≤ (f i).toInt ∧ (f i).toInt < 65536 := fun i hi => by
  obtain ⟨c, -, -, -, -, -, r⟩ := F
  obtain ⟨w, e, h1, h2⟩ := fits_char (r i hi)
  cases e
  rw [Int32.le_iff_toInt_le] at h1 h2
  have e1 : (0 : Int32).toInt = 0 := rfl
  have e2 : (65535 : Int32).toInt = 65535 := by decide
  omega
theorem own_gcu {f : Nat → Int32} {i : Nat} (h1 : 0 ≤ (f i).toInt) (h2 : (f i).toInt < 65536) : own_gc (u16 f (2 * i)) (u16 f (2 * i + 1)) = f i := by
  have e0 : u16 f (2 * i) = (f i >>> ((0 : Int32) &&& 31)).toInt8.toInt32 := by
    simp only [u16]
    rw [if_pos (by omega), show 2 * i / 2 = i by omega]
  have e1 : u16 f (2 * i + 1) = (f i >>> ((8 : Int32) &&& 31)).toInt8.toInt32 := by
    simp only [u16]
    rw [if_neg (by omega), show (2 * i + 1) / 2 = i by omega]
  rw [e0, e1]
  generalize f i = x at h1 h2
  apply Int32.toInt_inj.mp
  have s0 := c_ishr x (0 : Int32) 0 (by decide)
  have s8 := c_ishr x (8 : Int32) 8 (by decide)
  generalize (x >>> ((0 : Int32) &&& 31)) = y0 at s0
  generalize (x >>> ((8 : Int32) &&& 31)) = y8 at s8
  have b0 := c_i2b y0
  have b8 := c_i2b y8
  generalize y0.toInt8.toInt32 = z0 at b0
  generalize y8.toInt8.toInt32 = z8 at b8
  have m0 : (z0 &&& (255 : Int32)).toInt = z0.toInt % (2 ^ 8 : Nat) := c_mask z0 (255 : Int32) 8 (by decide) (by decide)
  have m8 : (z8 &&& (255 : Int32)).toInt = z8.toInt % (2 ^ 8 : Nat) := c_mask z8 (255 : Int32) 8 (by decide) (by decide)
  simp only [own_gc]
  generalize (z0 &&& (255 : Int32)) = v0 at m0
  generalize (z8 &&& (255 : Int32)) = v8 at m8
  have l0 := c_ishl v0 (0 : Int32) 0 (by decide)
  have l8 := c_ishl v8 (8 : Int32) 8 (by decide)
  have r0 := rng32 (v0 <<< ((0 : Int32) &&& 31))
  have r8 := rng32 (v8 <<< ((8 : Int32) &&& 31))
  generalize (v0 <<< ((0 : Int32) &&& 31)) = t0 at l0 r0
  generalize (v8 <<< ((8 : Int32) &&& 31)) = t8 at l8 r8
  have e2 : ((2 ^ 8 : Nat) : Int) = 256 := by decide
  have e3 : ((2 ^ 0 : Nat) : Int) = 1 := by decide
  rw [e2] at m0 m8 l8 s8
  rw [e3] at l0 s0
  have o := c_or' t0 t8 8 (by decide) 256 (by decide) (by omega) (by omega) (by omega)
  have r := rng32 (t0 ||| t8)
  generalize (t0 ||| t8) = w at o r
  have q := c_i2c w
  omega
theorem own_u16s (f : Nat → Int32) (j i : Nat) : upd (upd (fun i => if i < 2 * j then u16 f i else 0) (2 * j) ((f j >>> ((0 : Int32) &&& 31)).toInt8.toInt32)) (2 * j + 1) ((f j >>> ((8 : Int32) &&& 31)).toInt8.toInt32) i = if i < 2 * (j + 1) then u16 f i else 0 := by
  simp only [upd]
  by_cases q1 : i = 2 * j + 1
  · subst q1
    rw [if_pos rfl, if_pos (by omega)]
    simp only [u16]
    rw [if_neg (by omega), show (2 * j + 1) / 2 = j by omega]
  · rw [if_neg q1]
    by_cases q2 : i = 2 * j
    · subst q2
      rw [if_pos rfl, if_pos (by omega)]
      simp only [u16]
      rw [if_pos (by omega), show 2 * j / 2 = j by omega]
    · rw [if_neg q2]
      by_cases q3 : i < 2 * j
      · rw [if_pos q3, if_pos (by omega)]
      · rw [if_neg q3, if_neg (by omega)]
theorem own_rem (x : Int32) : (x &&& (2147483647 : Int32)) % (5 : Int32) = (0 : Int32) ∨ (x &&& (2147483647 : Int32)) % (5 : Int32) = (1 : Int32) ∨ (x &&& (2147483647 : Int32)) % (5 : Int32) = (2 : Int32) ∨ (x &&& (2147483647 : Int32)) % (5 : Int32) = (3 : Int32) ∨ (x &&& (2147483647 : Int32)) % (5 : Int32) = (4 : Int32) := by
  have h0 := (c_and x (2147483647 : Int32) (by decide)).1
  have h1 := (c_irem (x &&& (2147483647 : Int32)) (5 : Int32) 5 (by decide)).1 h0
  have h2 : ((x &&& (2147483647 : Int32)) % (5 : Int32)).toInt = 0 ∨ ((x &&& (2147483647 : Int32)) % (5 : Int32)).toInt = 1 ∨ ((x &&& (2147483647 : Int32)) % (5 : Int32)).toInt = 2 ∨ ((x &&& (2147483647 : Int32)) % (5 : Int32)).toInt = 3 ∨ ((x &&& (2147483647 : Int32)) % (5 : Int32)).toInt = 4 := by omega
  rcases h2 with h | h | h | h | h
  · exact Or.inl (Int32.toInt_inj.mp (h.trans (by decide)))
  · exact Or.inr (Or.inl (Int32.toInt_inj.mp (h.trans (by decide))))
  · exact Or.inr (Or.inr (Or.inl (Int32.toInt_inj.mp (h.trans (by decide)))))
  · exact Or.inr (Or.inr (Or.inr (Or.inl (Int32.toInt_inj.mp (h.trans (by decide))))))
  · exact Or.inr (Or.inr (Or.inr (Or.inr (Int32.toInt_inj.mp (h.trans (by decide))))))
def wsp (c : Int32) : Prop := c = (32 : Int32) ∨ c = (9 : Int32) ∨ c = (10 : Int32) ∨ c = (13 : Int32)
instance (c : Int32) : Decidable (wsp c) := by unfold wsp; infer_instance
theorem own_nws {c : Int32} (h1 : ¬ c = (32 : Int32)) (h2 : ¬ c = (9 : Int32)) (h3 : ¬ c = (10 : Int32)) (h4 : ¬ c = (13 : Int32)) : ¬ wsp c := by
  rintro (q | q | q | q)
  · exact h1 q
  · exact h2 q
  · exact h3 q
  · exact h4 q
theorem pn_9 : plainName "java/lang/StringUTF16" = true := by first | (simp [plainName, overriddenIn]; done) | decide +kernel
theorem d9_0 : decode jdk_52_method_21_code 0 = .ok (.iconst 0, 1) := by decide +kernel
theorem d9_1 : decode jdk_52_method_21_code 1 = .ok (.istore 5, 2) := by decide +kernel
theorem d9_3 : decode jdk_52_method_21_code 3 = .ok (.iload 5, 2) := by decide +kernel
theorem d9_5 : decode jdk_52_method_21_code 5 = .ok (.iload 4, 2) := by decide +kernel
theorem d9_7 : decode jdk_52_method_21_code 7 = .ok (.if_icmp .ge 37, 3) := by decide +kernel
theorem d9_44 : decode jdk_52_method_21_code 44 = .ok (.iload 4, 2) := by decide +kernel
theorem d9_46 : decode jdk_52_method_21_code 46 = .ok (.ireturn, 1) := by decide +kernel
theorem d9_10 : decode jdk_52_method_21_code 10 = .ok (.aload_n 0, 1) := by decide +kernel
theorem d9_11 : decode jdk_52_method_21_code 11 = .ok (.iload_n 1, 1) := by decide +kernel
theorem d9_12 : decode jdk_52_method_21_code 12 = .ok (.caload, 1) := by decide +kernel
theorem d9_13 : decode jdk_52_method_21_code 13 = .ok (.istore 6, 2) := by decide +kernel
theorem d9_15 : decode jdk_52_method_21_code 15 = .ok (.iload 6, 2) := by decide +kernel
theorem d9_17 : decode jdk_52_method_21_code 17 = .ok (.sipush 255, 3) := by decide +kernel
theorem d9_20 : decode jdk_52_method_21_code 20 = .ok (.if_icmp .le 6, 3) := by decide +kernel
theorem d9_23 : decode jdk_52_method_21_code 23 = .ok (.iload 5, 2) := by decide +kernel
theorem d9_25 : decode jdk_52_method_21_code 25 = .ok (.ireturn, 1) := by decide +kernel
theorem d9_26 : decode jdk_52_method_21_code 26 = .ok (.aload_n 2, 1) := by decide +kernel
theorem d9_27 : decode jdk_52_method_21_code 27 = .ok (.iload_n 3, 1) := by decide +kernel
theorem d9_28 : decode jdk_52_method_21_code 28 = .ok (.iload 6, 2) := by decide +kernel
theorem d9_30 : decode jdk_52_method_21_code 30 = .ok (.i2b, 1) := by decide +kernel
theorem d9_31 : decode jdk_52_method_21_code 31 = .ok (.bastore, 1) := by decide +kernel
theorem d9_32 : decode jdk_52_method_21_code 32 = .ok (.iinc 1 1, 3) := by decide +kernel
theorem d9_35 : decode jdk_52_method_21_code 35 = .ok (.iinc 3 1, 3) := by decide +kernel
theorem d9_38 : decode jdk_52_method_21_code 38 = .ok (.iinc 5 1, 3) := by decide +kernel
theorem d9_41 : decode jdk_52_method_21_code 41 = .ok (.goto (-38), 3) := by decide +kernel
theorem pn_8 : plainName "java/lang/StringUTF16" = true := by first | (simp [plainName, overriddenIn]; done) | decide +kernel
theorem d8_0 : decode jdk_52_method_16_code 0 = .ok (.iload_n 2, 1) := by decide +kernel
theorem d8_1 : decode jdk_52_method_16_code 1 = .ok (.newarray .byte, 2) := by decide +kernel
theorem d8_3 : decode jdk_52_method_16_code 3 = .ok (.astore_n 3, 1) := by decide +kernel
theorem d8_4 : decode jdk_52_method_16_code 4 = .ok (.aload_n 0, 1) := by decide +kernel
theorem d8_5 : decode jdk_52_method_16_code 5 = .ok (.iload_n 1, 1) := by decide +kernel
theorem d8_6 : decode jdk_52_method_16_code 6 = .ok (.aload_n 3, 1) := by decide +kernel
theorem d8_7 : decode jdk_52_method_16_code 7 = .ok (.iconst 0, 1) := by decide +kernel
theorem d8_8 : decode jdk_52_method_16_code 8 = .ok (.iload_n 2, 1) := by decide +kernel
theorem d8_9 : decode jdk_52_method_16_code 9 = .ok (.invokestatic 115, 3) := by decide +kernel
theorem pd___CI_BII_I : parseMethodDescriptor "([CI[BII)I" = some ⟨[(.array .char), .int, (.array .byte), .int, .int], some .int⟩ := by decide +kernel
theorem d8_12 : decode jdk_52_method_16_code 12 = .ok (.istore 4, 2) := by decide +kernel
theorem d8_14 : decode jdk_52_method_16_code 14 = .ok (.iload 4, 2) := by decide +kernel
theorem d8_16 : decode jdk_52_method_16_code 16 = .ok (.iload_n 2, 1) := by decide +kernel
theorem d8_17 : decode jdk_52_method_16_code 17 = .ok (.if_icmp .eq 40, 3) := by decide +kernel
theorem d8_57 : decode jdk_52_method_16_code 57 = .ok (.aload_n 3, 1) := by decide +kernel
theorem d8_58 : decode jdk_52_method_16_code 58 = .ok (.areturn, 1) := by decide +kernel
theorem pn_10 : plainName "java/lang/StringUTF16" = true := by first | (simp [plainName, overriddenIn]; done) | decide +kernel
theorem d10_0 : decode jdk_52_method_15_code 0 = .ok (.iload_n 1, 1) := by decide +kernel
theorem d10_1 : decode jdk_52_method_15_code 1 = .ok (.aload_n 0, 1) := by decide +kernel
theorem d10_2 : decode jdk_52_method_15_code 2 = .ok (.arraylength, 1) := by decide +kernel
theorem d10_3 : decode jdk_52_method_15_code 3 = .ok (.isub, 1) := by decide +kernel
theorem d10_4 : decode jdk_52_method_15_code 4 = .ok (.bipush 31, 2) := by decide +kernel
theorem d10_6 : decode jdk_52_method_15_code 6 = .ok (.iushr, 1) := by decide +kernel
theorem d10_7 : decode jdk_52_method_15_code 7 = .ok (.i2b, 1) := by decide +kernel
theorem d10_8 : decode jdk_52_method_15_code 8 = .ok (.ireturn, 1) := by decide +kernel
theorem pn_3 : plainName "java/lang/String" = true := by first | (simp [plainName, overriddenIn]; done) | decide +kernel
theorem d3_0 : decode jdk_42_method_149_code 0 = .ok (.aload_n 0, 1) := by decide +kernel
theorem d3_1 : decode jdk_42_method_149_code 1 = .ok (.invokespecial 1, 3) := by decide +kernel
theorem d3_4 : decode jdk_42_method_149_code 4 = .ok (.iload_n 3, 1) := by decide +kernel
theorem d3_5 : decode jdk_42_method_149_code 5 = .ok (.ifCond .ne 22, 3) := by decide +kernel
theorem d3_8 : decode jdk_42_method_149_code 8 = .ok (.aload_n 0, 1) := by decide +kernel
theorem d3_9 : decode jdk_42_method_149_code 9 = .ok (.ldc 7, 2) := by decide +kernel
theorem d3_11 : decode jdk_42_method_149_code 11 = .ok (.getfield 9, 3) := by decide +kernel
theorem d3_14 : decode jdk_42_method_149_code 14 = .ok (.putfield 9, 3) := by decide +kernel
theorem d3_17 : decode jdk_42_method_149_code 17 = .ok (.aload_n 0, 1) := by decide +kernel
theorem d3_18 : decode jdk_42_method_149_code 18 = .ok (.ldc 7, 2) := by decide +kernel
theorem d3_20 : decode jdk_42_method_149_code 20 = .ok (.getfield 15, 3) := by decide +kernel
theorem d3_23 : decode jdk_42_method_149_code 23 = .ok (.putfield 15, 3) := by decide +kernel
theorem d3_26 : decode jdk_42_method_149_code 26 = .ok (.return_, 1) := by decide +kernel
theorem d3_27 : decode jdk_42_method_149_code 27 = .ok (.getstatic 38, 3) := by decide +kernel
theorem d3_30 : decode jdk_42_method_149_code 30 = .ok (.ifCond .eq 28, 3) := by decide +kernel
theorem d3_33 : decode jdk_42_method_149_code 33 = .ok (.aload_n 1, 1) := by decide +kernel
theorem d3_34 : decode jdk_42_method_149_code 34 = .ok (.iload_n 2, 1) := by decide +kernel
theorem d3_35 : decode jdk_42_method_149_code 35 = .ok (.iload_n 3, 1) := by decide +kernel
theorem d3_36 : decode jdk_42_method_149_code 36 = .ok (.invokestatic 177, 3) := by decide +kernel
theorem pd___CII__B : parseMethodDescriptor "([CII)[B" = some ⟨[(.array .char), .int, .int], some (.array .byte)⟩ := by decide +kernel
theorem d3_39 : decode jdk_42_method_149_code 39 = .ok (.astore 5, 2) := by decide +kernel
theorem d3_41 : decode jdk_42_method_149_code 41 = .ok (.aload_n 0, 1) := by decide +kernel
theorem d3_42 : decode jdk_42_method_149_code 42 = .ok (.aload 5, 2) := by decide +kernel
theorem d3_44 : decode jdk_42_method_149_code 44 = .ok (.iload_n 3, 1) := by decide +kernel
theorem d3_45 : decode jdk_42_method_149_code 45 = .ok (.invokestatic 47, 3) := by decide +kernel
theorem pd___BI_B : parseMethodDescriptor "([BI)B" = some ⟨[(.array .byte), .int], some .byte⟩ := by decide +kernel
theorem d3_48 : decode jdk_42_method_149_code 48 = .ok (.putfield 15, 3) := by decide +kernel
theorem d3_51 : decode jdk_42_method_149_code 51 = .ok (.aload_n 0, 1) := by decide +kernel
theorem d3_52 : decode jdk_42_method_149_code 52 = .ok (.aload 5, 2) := by decide +kernel
theorem d3_54 : decode jdk_42_method_149_code 54 = .ok (.putfield 9, 3) := by decide +kernel
theorem d3_57 : decode jdk_42_method_149_code 57 = .ok (.return_, 1) := by decide +kernel
theorem pn_2 : plainName "java/lang/String" = true := by first | (simp [plainName, overriddenIn]; done) | decide +kernel
theorem d2_0 : decode jdk_42_method_3_code 0 = .ok (.aload_n 0, 1) := by decide +kernel
theorem d2_1 : decode jdk_42_method_3_code 1 = .ok (.aload_n 1, 1) := by decide +kernel
theorem d2_2 : decode jdk_42_method_3_code 2 = .ok (.iconst 0, 1) := by decide +kernel
theorem d2_3 : decode jdk_42_method_3_code 3 = .ok (.aload_n 1, 1) := by decide +kernel
theorem d2_4 : decode jdk_42_method_3_code 4 = .ok (.arraylength, 1) := by decide +kernel
theorem d2_5 : decode jdk_42_method_3_code 5 = .ok (.aconst_null, 1) := by decide +kernel
theorem d2_6 : decode jdk_42_method_3_code 6 = .ok (.invokespecial 27, 3) := by decide +kernel
theorem pd___CIILjava_lang_Void__V : parseMethodDescriptor "([CIILjava/lang/Void;)V" = some ⟨[(.array .char), .int, .int, (.object "java/lang/Void")], none⟩ := by decide +kernel
theorem d2_9 : decode jdk_42_method_3_code 9 = .ok (.return_, 1) := by decide +kernel
theorem pn_20 : plainName "java/lang/StringUTF16" = true := by first | (simp [plainName, overriddenIn]; done) | decide +kernel
theorem d20_0 : decode jdk_52_method_3_code 0 = .ok (.iload_n 0, 1) := by decide +kernel
theorem d20_1 : decode jdk_52_method_3_code 1 = .ok (.ifCond .ge 11, 3) := by decide +kernel
theorem d20_12 : decode jdk_52_method_3_code 12 = .ok (.iload_n 0, 1) := by decide +kernel
theorem d20_13 : decode jdk_52_method_3_code 13 = .ok (.ldc 20, 2) := by decide +kernel
theorem d20_15 : decode jdk_52_method_3_code 15 = .ok (.if_icmp .lt 40, 3) := by decide +kernel
theorem d20_55 : decode jdk_52_method_3_code 55 = .ok (.iload_n 0, 1) := by decide +kernel
theorem d20_56 : decode jdk_52_method_3_code 56 = .ok (.iconst 1, 1) := by decide +kernel
theorem d20_57 : decode jdk_52_method_3_code 57 = .ok (.ishl, 1) := by decide +kernel
theorem d20_58 : decode jdk_52_method_3_code 58 = .ok (.ireturn, 1) := by decide +kernel
theorem pn_19 : plainName "java/lang/StringUTF16" = true := by first | (simp [plainName, overriddenIn]; done) | decide +kernel
theorem d19_0 : decode jdk_52_method_2_code 0 = .ok (.iload_n 0, 1) := by decide +kernel
theorem d19_1 : decode jdk_52_method_2_code 1 = .ok (.invokestatic 11, 3) := by decide +kernel
theorem pd__I_I : parseMethodDescriptor "(I)I" = some ⟨[.int], some .int⟩ := by decide +kernel
theorem d19_4 : decode jdk_52_method_2_code 4 = .ok (.newarray .byte, 2) := by decide +kernel
theorem d19_6 : decode jdk_52_method_2_code 6 = .ok (.areturn, 1) := by decide +kernel
theorem pn_25 : plainName "java/lang/StringUTF16" = true := by first | (simp [plainName, overriddenIn]; done) | decide +kernel
theorem d25_0 : decode jdk_52_method_6_code 0 = .ok (.aload_n 0, 1) := by decide +kernel
theorem d25_1 : decode jdk_52_method_6_code 1 = .ok (.arraylength, 1) := by decide +kernel
theorem d25_2 : decode jdk_52_method_6_code 2 = .ok (.iconst 1, 1) := by decide +kernel
theorem d25_3 : decode jdk_52_method_6_code 3 = .ok (.ishr, 1) := by decide +kernel
theorem d25_4 : decode jdk_52_method_6_code 4 = .ok (.ireturn, 1) := by decide +kernel
theorem pn_21 : plainName "java/lang/StringUTF16" = true := by first | (simp [plainName, overriddenIn]; done) | decide +kernel
theorem d21_0 : decode jdk_52_method_4_code 0 = .ok (.getstatic 44, 3) := by decide +kernel
theorem d21_3 : decode jdk_52_method_4_code 3 = .ok (.ifCond .ne 25, 3) := by decide +kernel
theorem d21_28 : decode jdk_52_method_4_code 28 = .ok (.iload_n 1, 1) := by decide +kernel
theorem d21_29 : decode jdk_52_method_4_code 29 = .ok (.iconst 1, 1) := by decide +kernel
theorem d21_30 : decode jdk_52_method_4_code 30 = .ok (.ishl, 1) := by decide +kernel
theorem d21_31 : decode jdk_52_method_4_code 31 = .ok (.istore_n 1, 1) := by decide +kernel
theorem d21_32 : decode jdk_52_method_4_code 32 = .ok (.aload_n 0, 1) := by decide +kernel
theorem d21_33 : decode jdk_52_method_4_code 33 = .ok (.iload_n 1, 1) := by decide +kernel
theorem d21_34 : decode jdk_52_method_4_code 34 = .ok (.iinc 1 1, 3) := by decide +kernel
theorem d21_37 : decode jdk_52_method_4_code 37 = .ok (.iload_n 2, 1) := by decide +kernel
theorem d21_38 : decode jdk_52_method_4_code 38 = .ok (.getstatic 59, 3) := by decide +kernel
theorem d21_41 : decode jdk_52_method_4_code 41 = .ok (.ishr, 1) := by decide +kernel
theorem d21_42 : decode jdk_52_method_4_code 42 = .ok (.i2b, 1) := by decide +kernel
theorem d21_43 : decode jdk_52_method_4_code 43 = .ok (.bastore, 1) := by decide +kernel
theorem d21_44 : decode jdk_52_method_4_code 44 = .ok (.aload_n 0, 1) := by decide +kernel
theorem d21_45 : decode jdk_52_method_4_code 45 = .ok (.iload_n 1, 1) := by decide +kernel
theorem d21_46 : decode jdk_52_method_4_code 46 = .ok (.iload_n 2, 1) := by decide +kernel
theorem d21_47 : decode jdk_52_method_4_code 47 = .ok (.getstatic 63, 3) := by decide +kernel
theorem d21_50 : decode jdk_52_method_4_code 50 = .ok (.ishr, 1) := by decide +kernel
theorem d21_51 : decode jdk_52_method_4_code 51 = .ok (.i2b, 1) := by decide +kernel
theorem d21_52 : decode jdk_52_method_4_code 52 = .ok (.bastore, 1) := by decide +kernel
theorem d21_53 : decode jdk_52_method_4_code 53 = .ok (.return_, 1) := by decide +kernel
theorem pn_22 : plainName "java/lang/StringUTF16" = true := by first | (simp [plainName, overriddenIn]; done) | decide +kernel
theorem d22_0 : decode jdk_52_method_5_code 0 = .ok (.getstatic 44, 3) := by decide +kernel
theorem d22_3 : decode jdk_52_method_5_code 3 = .ok (.ifCond .ne 25, 3) := by decide +kernel
theorem d22_28 : decode jdk_52_method_5_code 28 = .ok (.iload_n 1, 1) := by decide +kernel
theorem d22_29 : decode jdk_52_method_5_code 29 = .ok (.iconst 1, 1) := by decide +kernel
theorem d22_30 : decode jdk_52_method_5_code 30 = .ok (.ishl, 1) := by decide +kernel
theorem d22_31 : decode jdk_52_method_5_code 31 = .ok (.istore_n 1, 1) := by decide +kernel
theorem d22_32 : decode jdk_52_method_5_code 32 = .ok (.aload_n 0, 1) := by decide +kernel
theorem d22_33 : decode jdk_52_method_5_code 33 = .ok (.iload_n 1, 1) := by decide +kernel
theorem d22_34 : decode jdk_52_method_5_code 34 = .ok (.iinc 1 1, 3) := by decide +kernel
theorem d22_37 : decode jdk_52_method_5_code 37 = .ok (.baload, 1) := by decide +kernel
theorem d22_38 : decode jdk_52_method_5_code 38 = .ok (.sipush 255, 3) := by decide +kernel
theorem d22_41 : decode jdk_52_method_5_code 41 = .ok (.iand, 1) := by decide +kernel
theorem d22_42 : decode jdk_52_method_5_code 42 = .ok (.getstatic 59, 3) := by decide +kernel
theorem d22_45 : decode jdk_52_method_5_code 45 = .ok (.ishl, 1) := by decide +kernel
theorem d22_46 : decode jdk_52_method_5_code 46 = .ok (.aload_n 0, 1) := by decide +kernel
theorem d22_47 : decode jdk_52_method_5_code 47 = .ok (.iload_n 1, 1) := by decide +kernel
theorem d22_48 : decode jdk_52_method_5_code 48 = .ok (.baload, 1) := by decide +kernel
theorem d22_49 : decode jdk_52_method_5_code 49 = .ok (.sipush 255, 3) := by decide +kernel
theorem d22_52 : decode jdk_52_method_5_code 52 = .ok (.iand, 1) := by decide +kernel
theorem d22_53 : decode jdk_52_method_5_code 53 = .ok (.getstatic 63, 3) := by decide +kernel
theorem d22_56 : decode jdk_52_method_5_code 56 = .ok (.ishl, 1) := by decide +kernel
theorem d22_57 : decode jdk_52_method_5_code 57 = .ok (.ior, 1) := by decide +kernel
theorem d22_58 : decode jdk_52_method_5_code 58 = .ok (.i2c, 1) := by decide +kernel
theorem d22_59 : decode jdk_52_method_5_code 59 = .ok (.ireturn, 1) := by decide +kernel
theorem pn_18 : plainName "java/lang/StringUTF16" = true := by first | (simp [plainName, overriddenIn]; done) | decide +kernel
theorem d18_0 : decode jdk_52_method_14_code 0 = .ok (.iload_n 2, 1) := by decide +kernel
theorem d18_1 : decode jdk_52_method_14_code 1 = .ok (.invokestatic 107, 3) := by decide +kernel
theorem pd__I__B : parseMethodDescriptor "(I)[B" = some ⟨[.int], some (.array .byte)⟩ := by decide +kernel
theorem d18_4 : decode jdk_52_method_14_code 4 = .ok (.astore_n 3, 1) := by decide +kernel
theorem d18_5 : decode jdk_52_method_14_code 5 = .ok (.iconst 0, 1) := by decide +kernel
theorem d18_6 : decode jdk_52_method_14_code 6 = .ok (.istore 4, 2) := by decide +kernel
theorem d18_8 : decode jdk_52_method_14_code 8 = .ok (.iload 4, 2) := by decide +kernel
theorem d18_10 : decode jdk_52_method_14_code 10 = .ok (.iload_n 2, 1) := by decide +kernel
theorem d18_11 : decode jdk_52_method_14_code 11 = .ok (.if_icmp .ge 21, 3) := by decide +kernel
theorem d18_32 : decode jdk_52_method_14_code 32 = .ok (.aload_n 3, 1) := by decide +kernel
theorem d18_33 : decode jdk_52_method_14_code 33 = .ok (.areturn, 1) := by decide +kernel
theorem d18_14 : decode jdk_52_method_14_code 14 = .ok (.aload_n 3, 1) := by decide +kernel
theorem d18_15 : decode jdk_52_method_14_code 15 = .ok (.iload 4, 2) := by decide +kernel
theorem d18_17 : decode jdk_52_method_14_code 17 = .ok (.aload_n 0, 1) := by decide +kernel
theorem d18_18 : decode jdk_52_method_14_code 18 = .ok (.iload_n 1, 1) := by decide +kernel
theorem d18_19 : decode jdk_52_method_14_code 19 = .ok (.caload, 1) := by decide +kernel
theorem d18_20 : decode jdk_52_method_14_code 20 = .ok (.invokestatic 111, 3) := by decide +kernel
theorem pd___BII_V : parseMethodDescriptor "([BII)V" = some ⟨[(.array .byte), .int, .int], none⟩ := by decide +kernel
theorem d18_23 : decode jdk_52_method_14_code 23 = .ok (.iinc 1 1, 3) := by decide +kernel
theorem d18_26 : decode jdk_52_method_14_code 26 = .ok (.iinc 4 1, 3) := by decide +kernel
theorem d18_29 : decode jdk_52_method_14_code 29 = .ok (.goto (-21), 3) := by decide +kernel
theorem d8_20 : decode jdk_52_method_16_code 20 = .ok (.aload_n 0, 1) := by decide +kernel
theorem d8_21 : decode jdk_52_method_16_code 21 = .ok (.iload_n 1, 1) := by decide +kernel
theorem d8_22 : decode jdk_52_method_16_code 22 = .ok (.iload_n 2, 1) := by decide +kernel
theorem d8_23 : decode jdk_52_method_16_code 23 = .ok (.invokestatic 119, 3) := by decide +kernel
theorem d8_26 : decode jdk_52_method_16_code 26 = .ok (.astore 5, 2) := by decide +kernel
theorem d8_28 : decode jdk_52_method_16_code 28 = .ok (.aload 5, 2) := by decide +kernel
theorem d8_30 : decode jdk_52_method_16_code 30 = .ok (.iload 4, 2) := by decide +kernel
theorem d8_32 : decode jdk_52_method_16_code 32 = .ok (.invokestatic 71, 3) := by decide +kernel
theorem pd___BI_C : parseMethodDescriptor "([BI)C" = some ⟨[(.array .byte), .int], some .char⟩ := by decide +kernel
theorem d8_35 : decode jdk_52_method_16_code 35 = .ok (.sipush 255, 3) := by decide +kernel
theorem d8_38 : decode jdk_52_method_16_code 38 = .ok (.if_icmp .gt 16, 3) := by decide +kernel
theorem d8_54 : decode jdk_52_method_16_code 54 = .ok (.aload 5, 2) := by decide +kernel
theorem d8_56 : decode jdk_52_method_16_code 56 = .ok (.areturn, 1) := by decide +kernel
theorem pn_7 : plainName "java/lang/String" = true := by first | (simp [plainName, overriddenIn]; done) | decide +kernel
theorem d7_0 : decode jdk_42_method_152_code 0 = .ok (.getstatic 38, 3) := by decide +kernel
theorem d7_3 : decode jdk_42_method_152_code 3 = .ok (.ifCond .eq 10, 3) := by decide +kernel
theorem d7_6 : decode jdk_42_method_152_code 6 = .ok (.aload_n 0, 1) := by decide +kernel
theorem d7_7 : decode jdk_42_method_152_code 7 = .ok (.getfield 15, 3) := by decide +kernel
theorem d7_10 : decode jdk_42_method_152_code 10 = .ok (.goto 4, 3) := by decide +kernel
theorem d7_14 : decode jdk_42_method_152_code 14 = .ok (.ireturn, 1) := by decide +kernel
theorem pn_6 : plainName "java/lang/String" = true := by first | (simp [plainName, overriddenIn]; done) | decide +kernel
theorem d6_0 : decode jdk_42_method_54_code 0 = .ok (.aload_n 0, 1) := by decide +kernel
theorem d6_1 : decode jdk_42_method_54_code 1 = .ok (.getfield 9, 3) := by decide +kernel
theorem d6_4 : decode jdk_42_method_54_code 4 = .ok (.arraylength, 1) := by decide +kernel
theorem d6_5 : decode jdk_42_method_54_code 5 = .ok (.aload_n 0, 1) := by decide +kernel
theorem d6_6 : decode jdk_42_method_54_code 6 = .ok (.invokevirtual 335, 3) := by decide +kernel
theorem pd___B : parseMethodDescriptor "()B" = some ⟨[], some .byte⟩ := by decide +kernel
theorem d6_9 : decode jdk_42_method_54_code 9 = .ok (.ishr, 1) := by decide +kernel
theorem d6_10 : decode jdk_42_method_54_code 10 = .ok (.ireturn, 1) := by decide +kernel
theorem pn_13 : plainName "java/lang/String" = true := by first | (simp [plainName, overriddenIn]; done) | decide +kernel
theorem d13_0 : decode jdk_42_method_154_code 0 = .ok (.getstatic 38, 3) := by decide +kernel
theorem d13_3 : decode jdk_42_method_154_code 3 = .ok (.ifCond .eq 14, 3) := by decide +kernel
theorem d13_6 : decode jdk_42_method_154_code 6 = .ok (.aload_n 0, 1) := by decide +kernel
theorem d13_7 : decode jdk_42_method_154_code 7 = .ok (.getfield 15, 3) := by decide +kernel
theorem d13_10 : decode jdk_42_method_154_code 10 = .ok (.ifCond .ne 7, 3) := by decide +kernel
theorem d13_13 : decode jdk_42_method_154_code 13 = .ok (.iconst 1, 1) := by decide +kernel
theorem d13_14 : decode jdk_42_method_154_code 14 = .ok (.goto 4, 3) := by decide +kernel
theorem d13_18 : decode jdk_42_method_154_code 18 = .ok (.ireturn, 1) := by decide +kernel
theorem pn_16 : plainName "jdk/internal/util/Preconditions" = true := by first | (simp [plainName, overriddenIn]; done) | decide +kernel
theorem d16_0 : decode jdk_41_method_11_code 0 = .ok (.iload_n 0, 1) := by decide +kernel
theorem d16_1 : decode jdk_41_method_11_code 1 = .ok (.ifCond .lt 8, 3) := by decide +kernel
theorem d16_4 : decode jdk_41_method_11_code 4 = .ok (.iload_n 0, 1) := by decide +kernel
theorem d16_5 : decode jdk_41_method_11_code 5 = .ok (.iload_n 1, 1) := by decide +kernel
theorem d16_6 : decode jdk_41_method_11_code 6 = .ok (.if_icmp .lt 10, 3) := by decide +kernel
theorem d16_16 : decode jdk_41_method_11_code 16 = .ok (.iload_n 0, 1) := by decide +kernel
theorem d16_17 : decode jdk_41_method_11_code 17 = .ok (.ireturn, 1) := by decide +kernel
theorem pn_15 : plainName "java/lang/String" = true := by first | (simp [plainName, overriddenIn]; done) | decide +kernel
theorem d15_0 : decode jdk_42_method_155_code 0 = .ok (.iload_n 0, 1) := by decide +kernel
theorem d15_1 : decode jdk_42_method_155_code 1 = .ok (.iload_n 1, 1) := by decide +kernel
theorem d15_2 : decode jdk_42_method_155_code 2 = .ok (.getstatic 1053, 3) := by decide +kernel
theorem d15_5 : decode jdk_42_method_155_code 5 = .ok (.invokestatic 1059, 3) := by decide +kernel
theorem pd__IILjava_util_function_BiFunction__I : parseMethodDescriptor "(IILjava/util/function/BiFunction;)I" = some ⟨[.int, .int, (.object "java/util/function/BiFunction")], some .int⟩ := by decide +kernel
theorem d15_8 : decode jdk_42_method_155_code 8 = .ok (.pop, 1) := by decide +kernel
theorem d15_9 : decode jdk_42_method_155_code 9 = .ok (.return_, 1) := by decide +kernel
theorem pn_14 : plainName "java/lang/StringLatin1" = true := by first | (simp [plainName, overriddenIn]; done) | decide +kernel
theorem d14_0 : decode jdk_43_method_2_code 0 = .ok (.iload_n 1, 1) := by decide +kernel
theorem d14_1 : decode jdk_43_method_2_code 1 = .ok (.aload_n 0, 1) := by decide +kernel
theorem d14_2 : decode jdk_43_method_2_code 2 = .ok (.arraylength, 1) := by decide +kernel
theorem d14_3 : decode jdk_43_method_2_code 3 = .ok (.invokestatic 9, 3) := by decide +kernel
theorem pd__II_V : parseMethodDescriptor "(II)V" = some ⟨[.int, .int], none⟩ := by decide +kernel
theorem d14_6 : decode jdk_43_method_2_code 6 = .ok (.aload_n 0, 1) := by decide +kernel
theorem d14_7 : decode jdk_43_method_2_code 7 = .ok (.iload_n 1, 1) := by decide +kernel
theorem d14_8 : decode jdk_43_method_2_code 8 = .ok (.baload, 1) := by decide +kernel
theorem d14_9 : decode jdk_43_method_2_code 9 = .ok (.sipush 255, 3) := by decide +kernel
theorem d14_12 : decode jdk_43_method_2_code 12 = .ok (.iand, 1) := by decide +kernel
theorem d14_13 : decode jdk_43_method_2_code 13 = .ok (.i2c, 1) := by decide +kernel
theorem d14_14 : decode jdk_43_method_2_code 14 = .ok (.ireturn, 1) := by decide +kernel
theorem pn_12 : plainName "java/lang/String" = true := by first | (simp [plainName, overriddenIn]; done) | decide +kernel
theorem d12_0 : decode jdk_42_method_56_code 0 = .ok (.aload_n 0, 1) := by decide +kernel
theorem d12_1 : decode jdk_42_method_56_code 1 = .ok (.invokevirtual 492, 3) := by decide +kernel
theorem pd___Z : parseMethodDescriptor "()Z" = some ⟨[], some .boolean⟩ := by decide +kernel
theorem d12_4 : decode jdk_42_method_56_code 4 = .ok (.ifCond .eq 12, 3) := by decide +kernel
theorem d12_7 : decode jdk_42_method_56_code 7 = .ok (.aload_n 0, 1) := by decide +kernel
theorem d12_8 : decode jdk_42_method_56_code 8 = .ok (.getfield 9, 3) := by decide +kernel
theorem d12_11 : decode jdk_42_method_56_code 11 = .ok (.iload_n 1, 1) := by decide +kernel
theorem d12_12 : decode jdk_42_method_56_code 12 = .ok (.invokestatic 495, 3) := by decide +kernel
theorem d12_15 : decode jdk_42_method_56_code 15 = .ok (.ireturn, 1) := by decide +kernel
theorem d13_17 : decode jdk_42_method_154_code 17 = .ok (.iconst 0, 1) := by decide +kernel
theorem pn_24 : plainName "java/lang/StringUTF16" = true := by first | (simp [plainName, overriddenIn]; done) | decide +kernel
theorem d24_0 : decode jdk_52_method_91_code 0 = .ok (.iload_n 0, 1) := by decide +kernel
theorem d24_1 : decode jdk_52_method_91_code 1 = .ok (.aload_n 1, 1) := by decide +kernel
theorem d24_2 : decode jdk_52_method_91_code 2 = .ok (.invokestatic 48, 3) := by decide +kernel
theorem pd___B_I : parseMethodDescriptor "([B)I" = some ⟨[(.array .byte)], some .int⟩ := by decide +kernel
theorem d24_5 : decode jdk_52_method_91_code 5 = .ok (.invokestatic 414, 3) := by decide +kernel
theorem d24_8 : decode jdk_52_method_91_code 8 = .ok (.return_, 1) := by decide +kernel
theorem pn_23 : plainName "java/lang/StringUTF16" = true := by first | (simp [plainName, overriddenIn]; done) | decide +kernel
theorem d23_0 : decode jdk_52_method_83_code 0 = .ok (.iload_n 1, 1) := by decide +kernel
theorem d23_1 : decode jdk_52_method_83_code 1 = .ok (.aload_n 0, 1) := by decide +kernel
theorem d23_2 : decode jdk_52_method_83_code 2 = .ok (.invokestatic 67, 3) := by decide +kernel
theorem pd__I_B_V : parseMethodDescriptor "(I[B)V" = some ⟨[.int, (.array .byte)], none⟩ := by decide +kernel
theorem d23_5 : decode jdk_52_method_83_code 5 = .ok (.aload_n 0, 1) := by decide +kernel
theorem d23_6 : decode jdk_52_method_83_code 6 = .ok (.iload_n 1, 1) := by decide +kernel
theorem d23_7 : decode jdk_52_method_83_code 7 = .ok (.invokestatic 71, 3) := by decide +kernel
theorem d23_10 : decode jdk_52_method_83_code 10 = .ok (.ireturn, 1) := by decide +kernel
theorem d12_16 : decode jdk_42_method_56_code 16 = .ok (.aload_n 0, 1) := by decide +kernel
theorem d12_17 : decode jdk_42_method_56_code 17 = .ok (.getfield 9, 3) := by decide +kernel
theorem d12_20 : decode jdk_42_method_56_code 20 = .ok (.iload_n 1, 1) := by decide +kernel
theorem d12_21 : decode jdk_42_method_56_code 21 = .ok (.invokestatic 498, 3) := by decide +kernel
theorem d12_24 : decode jdk_42_method_56_code 24 = .ok (.ireturn, 1) := by decide +kernel
theorem pn_11 : plainName "com/example/stylewright/stylewright/xdm/TreeBuilderIsWhitespacePinLaw" = true := by first | (simp [plainName, overriddenIn]; done) | decide +kernel
theorem d11_0 : decode method_3_code 0 = .ok (.iload_n 0, 1) := by decide +kernel
theorem d11_1 : decode method_3_code 1 = .ok (.bipush 32, 2) := by decide +kernel
theorem d11_3 : decode method_3_code 3 = .ok (.if_icmp .eq 21, 3) := by decide +kernel
theorem d11_6 : decode method_3_code 6 = .ok (.iload_n 0, 1) := by decide +kernel
theorem d11_7 : decode method_3_code 7 = .ok (.bipush 9, 2) := by decide +kernel
theorem d11_9 : decode method_3_code 9 = .ok (.if_icmp .eq 15, 3) := by decide +kernel
theorem d11_12 : decode method_3_code 12 = .ok (.iload_n 0, 1) := by decide +kernel
theorem d11_13 : decode method_3_code 13 = .ok (.bipush 10, 2) := by decide +kernel
theorem d11_15 : decode method_3_code 15 = .ok (.if_icmp .eq 9, 3) := by decide +kernel
theorem d11_18 : decode method_3_code 18 = .ok (.iload_n 0, 1) := by decide +kernel
theorem d11_19 : decode method_3_code 19 = .ok (.bipush 13, 2) := by decide +kernel
theorem d11_21 : decode method_3_code 21 = .ok (.if_icmp .ne 7, 3) := by decide +kernel
theorem d11_28 : decode method_3_code 28 = .ok (.iconst 0, 1) := by decide +kernel
theorem d11_29 : decode method_3_code 29 = .ok (.ireturn, 1) := by decide +kernel
theorem d11_24 : decode method_3_code 24 = .ok (.iconst 1, 1) := by decide +kernel
theorem d11_25 : decode method_3_code 25 = .ok (.goto 4, 3) := by decide +kernel
theorem pn_17 : plainName "com/example/stylewright/stylewright/xdm/TreeBuilder" = true := by first | (simp [plainName, overriddenIn]; done) | decide +kernel
theorem d17_0 : decode prog_50_method_29_code 0 = .ok (.iload_n 0, 1) := by decide +kernel
theorem d17_1 : decode prog_50_method_29_code 1 = .ok (.bipush 32, 2) := by decide +kernel
theorem d17_3 : decode prog_50_method_29_code 3 = .ok (.if_icmp .eq 21, 3) := by decide +kernel
theorem d17_6 : decode prog_50_method_29_code 6 = .ok (.iload_n 0, 1) := by decide +kernel
theorem d17_7 : decode prog_50_method_29_code 7 = .ok (.bipush 9, 2) := by decide +kernel
theorem d17_9 : decode prog_50_method_29_code 9 = .ok (.if_icmp .eq 15, 3) := by decide +kernel
theorem d17_12 : decode prog_50_method_29_code 12 = .ok (.iload_n 0, 1) := by decide +kernel
theorem d17_13 : decode prog_50_method_29_code 13 = .ok (.bipush 10, 2) := by decide +kernel
theorem d17_15 : decode prog_50_method_29_code 15 = .ok (.if_icmp .eq 9, 3) := by decide +kernel
theorem d17_18 : decode prog_50_method_29_code 18 = .ok (.iload_n 0, 1) := by decide +kernel
theorem d17_19 : decode prog_50_method_29_code 19 = .ok (.bipush 13, 2) := by decide +kernel
theorem d17_21 : decode prog_50_method_29_code 21 = .ok (.if_icmp .ne 7, 3) := by decide +kernel
theorem d17_28 : decode prog_50_method_29_code 28 = .ok (.iconst 0, 1) := by decide +kernel
theorem d17_29 : decode prog_50_method_29_code 29 = .ok (.ireturn, 1) := by decide +kernel
theorem d17_24 : decode prog_50_method_29_code 24 = .ok (.iconst 1, 1) := by decide +kernel
theorem d17_25 : decode prog_50_method_29_code 25 = .ok (.goto 4, 3) := by decide +kernel
theorem pn_5 : plainName "com/example/stylewright/stylewright/xdm/TreeBuilder" = true := by first | (simp [plainName, overriddenIn]; done) | decide +kernel
theorem d5_0 : decode prog_50_method_28_code 0 = .ok (.iconst 0, 1) := by decide +kernel
theorem d5_1 : decode prog_50_method_28_code 1 = .ok (.istore_n 1, 1) := by decide +kernel
theorem d5_2 : decode prog_50_method_28_code 2 = .ok (.iload_n 1, 1) := by decide +kernel
theorem d5_3 : decode prog_50_method_28_code 3 = .ok (.aload_n 0, 1) := by decide +kernel
theorem d5_4 : decode prog_50_method_28_code 4 = .ok (.invokeinterface 374 1, 5) := by decide +kernel
theorem pd___I : parseMethodDescriptor "()I" = some ⟨[], some .int⟩ := by decide +kernel
theorem d5_9 : decode prog_50_method_28_code 9 = .ok (.if_icmp .ge 24, 3) := by decide +kernel
theorem d5_33 : decode prog_50_method_28_code 33 = .ok (.iconst 1, 1) := by decide +kernel
theorem d5_34 : decode prog_50_method_28_code 34 = .ok (.ireturn, 1) := by decide +kernel
theorem d5_12 : decode prog_50_method_28_code 12 = .ok (.aload_n 0, 1) := by decide +kernel
theorem d5_13 : decode prog_50_method_28_code 13 = .ok (.iload_n 1, 1) := by decide +kernel
theorem d5_14 : decode prog_50_method_28_code 14 = .ok (.invokeinterface 478 2, 5) := by decide +kernel
theorem pd__I_C : parseMethodDescriptor "(I)C" = some ⟨[.int], some .char⟩ := by decide +kernel
theorem d5_19 : decode prog_50_method_28_code 19 = .ok (.invokestatic 482, 3) := by decide +kernel
theorem pd__C_Z : parseMethodDescriptor "(C)Z" = some ⟨[.char], some .boolean⟩ := by decide +kernel
theorem d5_22 : decode prog_50_method_28_code 22 = .ok (.ifCond .ne 5, 3) := by decide +kernel
theorem d5_27 : decode prog_50_method_28_code 27 = .ok (.iinc 1 1, 3) := by decide +kernel
theorem d5_30 : decode prog_50_method_28_code 30 = .ok (.goto (-28), 3) := by decide +kernel
theorem d5_25 : decode prog_50_method_28_code 25 = .ok (.iconst 0, 1) := by decide +kernel
theorem d5_26 : decode prog_50_method_28_code 26 = .ok (.ireturn, 1) := by decide +kernel
theorem pn_1 : plainName "com/example/stylewright/stylewright/xdm/TreeBuilderIsWhitespacePinLaw" = true := by first | (simp [plainName, overriddenIn]; done) | decide +kernel
theorem d1_0 : decode method_2_code 0 = .ok (.iload_n 0, 1) := by decide +kernel
theorem d1_1 : decode method_2_code 1 = .ok (.bipush 7, 2) := by decide +kernel
theorem d1_3 : decode method_2_code 3 = .ok (.iand, 1) := by decide +kernel
theorem d1_4 : decode method_2_code 4 = .ok (.istore_n 1, 1) := by decide +kernel
theorem d1_5 : decode method_2_code 5 = .ok (.iload_n 1, 1) := by decide +kernel
theorem d1_6 : decode method_2_code 6 = .ok (.ifCond .ne 9, 3) := by decide +kernel
theorem d1_9 : decode method_2_code 9 = .ok (.bipush 32, 2) := by decide +kernel
theorem d1_11 : decode method_2_code 11 = .ok (.istore_n 2, 1) := by decide +kernel
theorem d1_12 : decode method_2_code 12 = .ok (.goto 41, 3) := by decide +kernel
theorem d1_53 : decode method_2_code 53 = .ok (.iload_n 2, 1) := by decide +kernel
theorem d1_54 : decode method_2_code 54 = .ok (.ireturn, 1) := by decide +kernel
theorem d1_15 : decode method_2_code 15 = .ok (.iload_n 1, 1) := by decide +kernel
theorem d1_16 : decode method_2_code 16 = .ok (.iconst 1, 1) := by decide +kernel
theorem d1_17 : decode method_2_code 17 = .ok (.if_icmp .ne 9, 3) := by decide +kernel
theorem d1_20 : decode method_2_code 20 = .ok (.bipush 9, 2) := by decide +kernel
theorem d1_22 : decode method_2_code 22 = .ok (.istore_n 2, 1) := by decide +kernel
theorem d1_23 : decode method_2_code 23 = .ok (.goto 30, 3) := by decide +kernel
theorem d1_26 : decode method_2_code 26 = .ok (.iload_n 1, 1) := by decide +kernel
theorem d1_27 : decode method_2_code 27 = .ok (.iconst 2, 1) := by decide +kernel
theorem d1_28 : decode method_2_code 28 = .ok (.if_icmp .ne 9, 3) := by decide +kernel
theorem d1_31 : decode method_2_code 31 = .ok (.bipush 10, 2) := by decide +kernel
theorem d1_33 : decode method_2_code 33 = .ok (.istore_n 2, 1) := by decide +kernel
theorem d1_34 : decode method_2_code 34 = .ok (.goto 19, 3) := by decide +kernel
theorem d1_37 : decode method_2_code 37 = .ok (.iload_n 1, 1) := by decide +kernel
theorem d1_38 : decode method_2_code 38 = .ok (.iconst 3, 1) := by decide +kernel
theorem d1_39 : decode method_2_code 39 = .ok (.if_icmp .ne 9, 3) := by decide +kernel
theorem d1_42 : decode method_2_code 42 = .ok (.bipush 13, 2) := by decide +kernel
theorem d1_44 : decode method_2_code 44 = .ok (.istore_n 2, 1) := by decide +kernel
theorem d1_45 : decode method_2_code 45 = .ok (.goto 8, 3) := by decide +kernel
theorem d1_48 : decode method_2_code 48 = .ok (.iload_n 0, 1) := by decide +kernel
theorem d1_49 : decode method_2_code 49 = .ok (.iconst 3, 1) := by decide +kernel
theorem d1_50 : decode method_2_code 50 = .ok (.iushr, 1) := by decide +kernel
theorem d1_51 : decode method_2_code 51 = .ok (.i2c, 1) := by decide +kernel
theorem d1_52 : decode method_2_code 52 = .ok (.istore_n 2, 1) := by decide +kernel
theorem pn_0 : plainName "com/example/stylewright/stylewright/xdm/TreeBuilderIsWhitespacePinLaw" = true := by first | (simp [plainName, overriddenIn]; done) | decide +kernel
theorem pd___C_V : parseMethodDescriptor "([C)V" = some ⟨[(.array .char)], none⟩ := by decide +kernel
theorem pd__Ljava_lang_CharSequence__Z : parseMethodDescriptor "(Ljava/lang/CharSequence;)Z" = some ⟨[(.object "java/lang/CharSequence")], some .boolean⟩ := by decide +kernel
abbrev R_cLoop : Room := ⟨0, 0, 0, 0⟩
set_option maxRecDepth 65536 in
set_option maxHeartbeats 40000000 in
theorem cLoop (l : Launch) (Z : State) (a0 : Array Value) (hw : ∀ d ∈ tables_1, d.before a0 Z = true) (c1 : Addr) (d1 : Addr) (kc : ClassId) (kb : ClassId) (n : Nat) (f : Nat → Int32) (h0 : Heap) (n0 : Nat) (O0 : Old Z n0 h0) (Fc : ArF Z h0 c1 kc .char n f) (Fd : ArF Z h0 d1 kb .byte n (fun _ => 0)) (ne1 : c1 ≠ d1) (g1 : n0 ≤ d1) :
    MetN l Z (⟨"java/lang/StringUTF16", "compress", "([CI[BII)I"⟩ : MethodName) jdk_52_method_21_code 7 (some .int) R_cLoop [] #[(.ref c1), (.int (0 : Int32)), (.ref d1), (.int (0 : Int32)), (.int n.toInt32)] h0 (fun v h L => ∃ (r : Nat), v = some (.int r.toInt32) ∧ Fr n0 L ∧ Keep h0 h [d1] ∧ ArF Z h d1 kb .byte n (fun i => if i < r then (f i).toInt8.toInt32 else 0) ∧ (r ≤ n) ∧ (∀ i, i < r → ¬ (255 : Int32) < f i) ∧ (r < n → (255 : Int32) < f r)) := by
  refine MetN.walk (plainFor_of_name pn_9) ?_
  intro p e s m below meth c s₁ hx hZ hby hml hown hnm hret hlk X0 e0
  have N0 := Fr.nil n0
  refine Win.to s₁ (mkF m 0 #[.val (.ref c1), .val (.int (0 : Int32)), .val (.ref d1), .val (.int (0 : Int32)), .val (.int n.toInt32), .unset, .unset] []) (fun _ k => castTop (by first | (simp [entryFrame, mkF, argsToLocals, Value.category]; done) | rfl) k) ?_
  refine Win.to s₁ (mkF m 1 #[.val (.ref c1), .val (.int (0 : Int32)), .val (.ref d1), .val (.int (0 : Int32)), .val (.int n.toInt32), .unset, .unset] [(.int (0 : Int32))]) (fun _ k => XS.iconst X0.here hx rfl (hb hby d9_0) k) ?_
  refine Win.to s₁ (mkF m 3 #[.val (.ref c1), .val (.int (0 : Int32)), .val (.ref d1), .val (.int (0 : Int32)), .val (.int n.toInt32), .val (.int (0 : Int32)), .unset] []) (fun _ k => XS.istore X0.here hx rfl (hb hby d9_1) rfl (l' := #[.val (.ref c1), .val (.int (0 : Int32)), .val (.ref d1), .val (.int (0 : Int32)), .val (.int n.toInt32), .val (.int (0 : Int32)), .unset]) rfl k) ?_
  have hn := Fc.big
  have loop : ∀ (q j : Nat), j + q = n → (∀ i, i < j → ¬ (255 : Int32) < f i) → ∀ (T : State) (locs : List Loc) (h : Heap) (X : Stand p l e R_cLoop s m #[(.ref c1), (.int (0 : Int32)), (.ref d1), (.int (0 : Int32)), (.int n.toInt32)] below meth c T locs 0 0) (Nq : Fr n0 locs) (eT : T.heap = h) (O : Old Z n0 h) (K : Keep h0 h [d1]) (Gd : ArF Z h d1 kb .byte n (fun i => if i < j then (f i).toInt8.toInt32 else 0)) (s6 : Slot) (h6 : One s6), Win p e below s R_cLoop (fun v h L => ∃ (r : Nat), v = some (.int r.toInt32) ∧ Fr n0 L ∧ Keep h0 h [d1] ∧ ArF Z h d1 kb .byte n (fun i => if i < r then (f i).toInt8.toInt32 else 0) ∧ (r ≤ n) ∧ (∀ i, i < r → ¬ (255 : Int32) < f i) ∧ (r < n → (255 : Int32) < f r)) (T.setTop (mkF m 3 #[.val (.ref c1), .val (.int j.toInt32), .val (.ref d1), .val (.int j.toInt32), .val (.int n.toInt32), .val (.int j.toInt32), s6] [])) := by
    intro q
    induction q with
    | zero =>
      intro j hj hall T locs h X Nq eT O K Gd s6 h6
      obtain rfl : j = n := by omega
      refine Win.to T (mkF m 5 #[.val (.ref c1), .val (.int j.toInt32), .val (.ref d1), .val (.int j.toInt32), .val (.int j.toInt32), .val (.int j.toInt32), s6] [(.int j.toInt32)]) (fun _ k => XS.iload X.here hx rfl (hb hby d9_3) rfl k) ?_
      refine Win.to T (mkF m 7 #[.val (.ref c1), .val (.int j.toInt32), .val (.ref d1), .val (.int j.toInt32), .val (.int j.toInt32), .val (.int j.toInt32), s6] [(.int j.toInt32), (.int j.toInt32)]) (fun _ k => XS.iload X.here hx rfl (hb hby d9_5) rfl k) ?_
      refine Win.to T (mkF m 44 #[.val (.ref c1), .val (.int j.toInt32), .val (.ref d1), .val (.int j.toInt32), .val (.int j.toInt32), .val (.int j.toInt32), s6] []) (fun _ k => XS.icmpYes X.here hx rfl (pc0 := 7) (pc' := 44) rfl (hb hby d9_7) rfl (flt (show ¬ (j.toInt32 < j.toInt32) from Int32.lt_irrefl)).2.1 (by decide) (by decide) k) ?_
      refine Win.to T (mkF m 46 #[.val (.ref c1), .val (.int j.toInt32), .val (.ref d1), .val (.int j.toInt32), .val (.int j.toInt32), .val (.int j.toInt32), s6] [(.int j.toInt32)]) (fun _ k => XS.iload X.here hx rfl (hb hby d9_44) rfl k) ?_
      exact Win.retI X hx hlk hret (hb hby d9_46) (by decide) (by decide) (by (try rw [eT]); exact ⟨j, rfl, Nq, K, Gd, (Nat.le_refl _), hall, (fun q => absurd q (Nat.lt_irrefl _))⟩)
    | succ q ih =>
      intro j hj hall T locs h X Nq eT O K Gd s6 h6
      have hj1 : j < n := by omega
      have hj2 : j < 2 ^ 31 := by omega
      have Gc : ArF Z h c1 kc .char n f := Fc.keep K (ninS ne1 nin0)
      refine Win.to T (mkF m 5 #[.val (.ref c1), .val (.int j.toInt32), .val (.ref d1), .val (.int j.toInt32), .val (.int n.toInt32), .val (.int j.toInt32), s6] [(.int j.toInt32)]) (fun _ k => XS.iload X.here hx rfl (hb hby d9_3) rfl k) ?_
      refine Win.to T (mkF m 7 #[.val (.ref c1), .val (.int j.toInt32), .val (.ref d1), .val (.int j.toInt32), .val (.int n.toInt32), .val (.int j.toInt32), s6] [(.int n.toInt32), (.int j.toInt32)]) (fun _ k => XS.iload X.here hx rfl (hb hby d9_5) rfl k) ?_
      refine Win.to T (mkF m 10 #[.val (.ref c1), .val (.int j.toInt32), .val (.ref d1), .val (.int j.toInt32), .val (.int n.toInt32), .val (.int j.toInt32), s6] []) (fun _ k => XS.icmpNo X.here hx rfl (hb hby d9_7) rfl (tlt (show j.toInt32 < n.toInt32 from ((own_lt hj2 hn).mpr hj1))).2.1 k) ?_
      refine Win.to T (mkF m 11 #[.val (.ref c1), .val (.int j.toInt32), .val (.ref d1), .val (.int j.toInt32), .val (.int n.toInt32), .val (.int j.toInt32), s6] [(.ref c1)]) (fun _ k => XS.aloadN X.here hx rfl (hb hby d9_10) rfl rfl k) ?_
      refine Win.to T (mkF m 12 #[.val (.ref c1), .val (.int j.toInt32), .val (.ref d1), .val (.int j.toInt32), .val (.int n.toInt32), .val (.int j.toInt32), s6] [(.int j.toInt32), (.ref c1)]) (fun _ k => XS.iloadN X.here hx rfl (hb hby d9_11) rfl k) ?_
      obtain ⟨cl101, Ar101, hi101, ha101⟩ := ArF.at Gc (j := j.toInt32) (i := j) (own_tn hj2).1 (own_tn hj2).2.1 hj1
      refine Win.to T (mkF m 13 #[.val (.ref c1), .val (.int j.toInt32), .val (.ref d1), .val (.int j.toInt32), .val (.int n.toInt32), .val (.int j.toInt32), s6] [(.int (f j))]) (fun _ k => X.caload hx (j := j.toInt32) (v := (.int (f j))) (by rw [eT]; exact Ar101.1) (State.isArrayOf_alike hZ.alike Ar101.2.1) Ar101.2.2 hi101 ha101 (g := (mkF m 12 #[.val (.ref c1), .val (.int j.toInt32), .val (.ref d1), .val (.int j.toInt32), .val (.int n.toInt32), .val (.int j.toInt32), s6] [(.int j.toInt32), (.ref c1)])) rfl rfl (hb hby d9_12) _ k) ?_
      refine Win.to T (mkF m 15 #[.val (.ref c1), .val (.int j.toInt32), .val (.ref d1), .val (.int j.toInt32), .val (.int n.toInt32), .val (.int j.toInt32), .val (.int (f j))] []) (fun _ k => XS.istoreS X.here hx rfl (hb hby d9_13) rfl rfl h6 k) ?_
      refine Win.to T (mkF m 17 #[.val (.ref c1), .val (.int j.toInt32), .val (.ref d1), .val (.int j.toInt32), .val (.int n.toInt32), .val (.int j.toInt32), .val (.int (f j))] [(.int (f j))]) (fun _ k => XS.iload X.here hx rfl (hb hby d9_15) rfl k) ?_
      refine Win.to T (mkF m 20 #[.val (.ref c1), .val (.int j.toInt32), .val (.ref d1), .val (.int j.toInt32), .val (.int n.toInt32), .val (.int j.toInt32), .val (.int (f j))] [(.int (255 : Int32)), (.int (f j))]) (fun _ k => XS.sipush X.here hx rfl (hb hby d9_17) k) ?_
      by_cases hc102 : (255 : Int32) < (f j)
      · refine Win.to T (mkF m 23 #[.val (.ref c1), .val (.int j.toInt32), .val (.ref d1), .val (.int j.toInt32), .val (.int n.toInt32), .val (.int j.toInt32), .val (.int (f j))] []) (fun _ k => XS.icmpNo X.here hx rfl (hb hby d9_20) rfl (tlt hc102).2.2.2 k) ?_
        refine Win.to T (mkF m 25 #[.val (.ref c1), .val (.int j.toInt32), .val (.ref d1), .val (.int j.toInt32), .val (.int n.toInt32), .val (.int j.toInt32), .val (.int (f j))] [(.int j.toInt32)]) (fun _ k => XS.iload X.here hx rfl (hb hby d9_23) rfl k) ?_
        exact Win.retI X hx hlk hret (hb hby d9_25) (by decide) (by decide) (by (try rw [eT]); exact ⟨j, rfl, Nq, K, Gd, (Nat.le_of_lt hj1), hall, (fun _ => hc102)⟩)
      · refine Win.to T (mkF m 26 #[.val (.ref c1), .val (.int j.toInt32), .val (.ref d1), .val (.int j.toInt32), .val (.int n.toInt32), .val (.int j.toInt32), .val (.int (f j))] []) (fun _ k => XS.icmpYes X.here hx rfl (pc0 := 20) (pc' := 26) rfl (hb hby d9_20) rfl (flt hc102).2.2.2 (by decide) (by decide) k) ?_
        refine Win.to T (mkF m 27 #[.val (.ref c1), .val (.int j.toInt32), .val (.ref d1), .val (.int j.toInt32), .val (.int n.toInt32), .val (.int j.toInt32), .val (.int (f j))] [(.ref d1)]) (fun _ k => XS.aloadN X.here hx rfl (hb hby d9_26) rfl rfl k) ?_
        refine Win.to T (mkF m 28 #[.val (.ref c1), .val (.int j.toInt32), .val (.ref d1), .val (.int j.toInt32), .val (.int n.toInt32), .val (.int j.toInt32), .val (.int (f j))] [(.int j.toInt32), (.ref d1)]) (fun _ k => XS.iloadN X.here hx rfl (hb hby d9_27) rfl k) ?_
        refine Win.to T (mkF m 30 #[.val (.ref c1), .val (.int j.toInt32), .val (.ref d1), .val (.int j.toInt32), .val (.int n.toInt32), .val (.int j.toInt32), .val (.int (f j))] [(.int (f j)), (.int j.toInt32), (.ref d1)]) (fun _ k => XS.iload X.here hx rfl (hb hby d9_28) rfl k) ?_
        refine Win.to T (mkF m 31 #[.val (.ref c1), .val (.int j.toInt32), .val (.ref d1), .val (.int j.toInt32), .val (.int n.toInt32), .val (.int j.toInt32), .val (.int (f j))] [(.int ((f j).toInt8.toInt32)), (.int j.toInt32), (.ref d1)]) (fun _ k => XS.i2b X.here hx rfl (hb hby d9_30) rfl k) ?_
        obtain ⟨cl103, Ar103, hi103, -⟩ := ArF.at Gd (j := j.toInt32) (i := j) (own_tn hj2).1 (own_tn hj2).2.1 hj1
        obtain ⟨T104, h104, X104, e104, W104, st104⟩ := stB X hx hZ eT Ar103 (j := j.toInt32) hi103 (g := (mkF m 31 #[.val (.ref c1), .val (.int j.toInt32), .val (.ref d1), .val (.int j.toInt32), .val (.int n.toInt32), .val (.int j.toInt32), .val (.int (f j))] [(.int ((f j).toInt8.toInt32)), (.int j.toInt32), (.ref d1)])) rfl rfl (hb hby d9_31)
        have O105 := Old.wr O W104 g1
        have K106 : Keep h0 h104 [d1] := K.wr W104 (Or.inl (List.mem_of_getElem? (i := 0) rfl))
        have N107 := Fr.snoc X104 Nq g1
        have eq104 : nar .byte ((f j).toInt8.toInt32) = ((f j).toInt8.toInt32) := (own_b8 (f j))
        have W104 := eq104 ▸ W104
        have F108 : ArF Z h104 d1 kb .byte n (upd (fun i => if i < j then (f i).toInt8.toInt32 else 0) j ((f j).toInt8.toInt32)) := ArF.set Gd W104 (own_tn hj2).1 hj1 (eq104 ▸ (fits_nar_byte _))
        refine Win.to T104 (mkF m 32 #[.val (.ref c1), .val (.int j.toInt32), .val (.ref d1), .val (.int j.toInt32), .val (.int n.toInt32), .val (.int j.toInt32), .val (.int (f j))] []) (fun _ k => st104 _ k) ?_
        refine Win.to T104 (mkF m 35 #[.val (.ref c1), .val (.int (j.toInt32 + (1 : Int32))), .val (.ref d1), .val (.int j.toInt32), .val (.int n.toInt32), .val (.int j.toInt32), .val (.int (f j))] []) (fun _ k => XS.iinc X104.here hx rfl (hb hby d9_32) rfl (l' := #[.val (.ref c1), .val (.int (j.toInt32 + (1 : Int32))), .val (.ref d1), .val (.int j.toInt32), .val (.int n.toInt32), .val (.int j.toInt32), .val (.int (f j))]) rfl k) ?_
        refine Win.to T104 (mkF m 38 #[.val (.ref c1), .val (.int (j.toInt32 + (1 : Int32))), .val (.ref d1), .val (.int (j.toInt32 + (1 : Int32))), .val (.int n.toInt32), .val (.int j.toInt32), .val (.int (f j))] []) (fun _ k => XS.iinc X104.here hx rfl (hb hby d9_35) rfl (l' := #[.val (.ref c1), .val (.int (j.toInt32 + (1 : Int32))), .val (.ref d1), .val (.int (j.toInt32 + (1 : Int32))), .val (.int n.toInt32), .val (.int j.toInt32), .val (.int (f j))]) rfl k) ?_
        refine Win.to T104 (mkF m 41 #[.val (.ref c1), .val (.int (j.toInt32 + (1 : Int32))), .val (.ref d1), .val (.int (j.toInt32 + (1 : Int32))), .val (.int n.toInt32), .val (.int (j.toInt32 + (1 : Int32))), .val (.int (f j))] []) (fun _ k => XS.iinc X104.here hx rfl (hb hby d9_38) rfl (l' := #[.val (.ref c1), .val (.int (j.toInt32 + (1 : Int32))), .val (.ref d1), .val (.int (j.toInt32 + (1 : Int32))), .val (.int n.toInt32), .val (.int (j.toInt32 + (1 : Int32))), .val (.int (f j))]) rfl k) ?_
        refine Win.to T104 (mkF m 3 #[.val (.ref c1), .val (.int (j.toInt32 + (1 : Int32))), .val (.ref d1), .val (.int (j.toInt32 + (1 : Int32))), .val (.int n.toInt32), .val (.int (j.toInt32 + (1 : Int32))), .val (.int (f j))] []) (fun _ k => XS.goto X104.here hx rfl (pc0 := 41) (pc' := 3) rfl (hb hby d9_41) (by decide) (by decide) k) ?_
        rw [own_succ j]
        refine ih (j + 1) (by omega) (fun i hi => ?_) T104 _ h104 X104 N107 e104 O105 K106 (ArF.cong F108 fun i hi => ?_) _ (One.val rfl)
        · rcases Nat.lt_succ_iff_lt_or_eq.mp hi with q | q
          · exact hall i q
          · rw [q]; exact hc102
        · simp only [upd]
          by_cases q : i = j
          · simp [q]
          · have q2 : i < j + 1 ↔ i < j := by omega
            simp [q, q2]
  exact loop n 0 (by omega) (fun i hi => absurd hi (Nat.not_lt_zero _)) s₁ [] h0 X0 N0 e0 O0 (Keep.refl _ _) (ArF.cong Fd fun i hi => by simp) _ One.u
abbrev R_comp : Room := ⟨1, 1, 4, 18⟩
set_option maxRecDepth 65536 in
set_option maxHeartbeats 40000000 in
theorem comp (l : Launch) (Z : State) (a0 : Array Value) (hw : ∀ d ∈ tables_1, d.before a0 Z = true) (c1 : Addr) (kc : ClassId) (n : Nat) (f : Nat → Int32) (h0 : Heap) (n0 : Nat) (O0 : Old Z n0 h0) (Fc : ArF Z h0 c1 kc .char n f) (hp : ∀ i, i < n → ¬ (255 : Int32) < f i) (hcap : n ≤ 4) :
    MetN l Z (⟨"java/lang/StringUTF16", "compress", "([CII)[B"⟩ : MethodName) jdk_52_method_16_code 6 (some (.array .byte)) R_comp [] #[(.ref c1), (.int (0 : Int32)), (.int n.toInt32)] h0 (fun v h L => ∃ (t : Addr) (kb : ClassId), v = some (.ref t) ∧ Fr n0 L ∧ Keep h0 h [] ∧ h0.size ≤ t ∧ ArF Z h t kb .byte n (fun i => (f i).toInt8.toInt32)) := by
  refine MetN.walk (plainFor_of_name pn_8) ?_
  intro p e s m below meth c s₁ hx hZ hby hml hown hnm hret hlk X0 e0
  have N0 := Fr.nil n0
  refine Win.to s₁ (mkF m 0 #[.val (.ref c1), .val (.int (0 : Int32)), .val (.int n.toInt32), .unset, .unset, .unset] []) (fun _ k => castTop (by first | (simp [entryFrame, mkF, argsToLocals, Value.category]; done) | rfl) k) ?_
  have hn := Fc.big
  refine Win.to s₁ (mkF m 1 #[.val (.ref c1), .val (.int (0 : Int32)), .val (.int n.toInt32), .unset, .unset, .unset] [(.int n.toInt32)]) (fun _ k => XS.iloadN X0.here hx rfl (hb hby d8_0) rfl k) ?_
  obtain ⟨T109, h109, k109, X109, e109, E109, A109, st109⟩ := newP X0 hx hZ (wk hw 20 rfl) e0 (g := (mkF m 1 #[.val (.ref c1), .val (.int (0 : Int32)), .val (.int n.toInt32), .unset, .unset, .unset] [(.int n.toInt32)])) rfl (hb hby d8_1) rfl (own_tn hn).2.1 (cap := 4) (by rw [(own_tn hn).1]; exact hcap) (by decide) (by decide) (by decide)
  obtain ⟨b109, g109⟩ : ∃ z, z = h0.size := ⟨_, rfl⟩
  rw [← g109] at A109 st109
  have ne110 : c1 ≠ b109 := Nat.ne_of_lt (Nat.lt_of_lt_of_le Fc.lt (Nat.le_of_eq g109.symm))
  have g111 : n0 ≤ b109 := Nat.le_trans (own_le O0) (Nat.le_of_eq g109.symm)
  have z112 : h0.size ≤ b109 := (Nat.le_of_eq g109.symm)
  have O113 := Old.ext O0 E109
  have K114 : Keep h0 h109 [] := (Keep.refl h0 []).ext E109
  have F115 : ArF Z h109 b109 k109 .byte n (fun _ => 0) := (own_tn hn).1 ▸ ArF.new A109 (own_tn hn).2.1 rfl
  refine Win.to T109 (mkF m 3 #[.val (.ref c1), .val (.int (0 : Int32)), .val (.int n.toInt32), .unset, .unset, .unset] [(.ref b109)]) (fun _ k => st109 _ k) ?_
  refine Win.to T109 (mkF m 4 #[.val (.ref c1), .val (.int (0 : Int32)), .val (.int n.toInt32), .val (.ref b109), .unset, .unset] []) (fun _ k => XS.astoreN X109.here hx rfl (hb hby d8_3) rfl rfl (l' := #[.val (.ref c1), .val (.int (0 : Int32)), .val (.int n.toInt32), .val (.ref b109), .unset, .unset]) rfl k) ?_
  refine Win.to T109 (mkF m 5 #[.val (.ref c1), .val (.int (0 : Int32)), .val (.int n.toInt32), .val (.ref b109), .unset, .unset] [(.ref c1)]) (fun _ k => XS.aloadN X109.here hx rfl (hb hby d8_4) rfl rfl k) ?_
  refine Win.to T109 (mkF m 6 #[.val (.ref c1), .val (.int (0 : Int32)), .val (.int n.toInt32), .val (.ref b109), .unset, .unset] [(.int (0 : Int32)), (.ref c1)]) (fun _ k => XS.iloadN X109.here hx rfl (hb hby d8_5) rfl k) ?_
  refine Win.to T109 (mkF m 7 #[.val (.ref c1), .val (.int (0 : Int32)), .val (.int n.toInt32), .val (.ref b109), .unset, .unset] [(.ref b109), (.int (0 : Int32)), (.ref c1)]) (fun _ k => XS.aloadN X109.here hx rfl (hb hby d8_6) rfl rfl k) ?_
  refine Win.to T109 (mkF m 8 #[.val (.ref c1), .val (.int (0 : Int32)), .val (.int n.toInt32), .val (.ref b109), .unset, .unset] [(.int (0 : Int32)), (.ref b109), (.int (0 : Int32)), (.ref c1)]) (fun _ k => XS.iconst X109.here hx rfl (hb hby d8_7) k) ?_
  refine Win.to T109 (mkF m 9 #[.val (.ref c1), .val (.int (0 : Int32)), .val (.int n.toInt32), .val (.ref b109), .unset, .unset] [(.int n.toInt32), (.int (0 : Int32)), (.ref b109), (.int (0 : Int32)), (.ref c1)]) (fun _ k => XS.iloadN X109.here hx rfl (hb hby d8_8) rfl k) ?_
  have F116 : ArF Z h109 c1 kc .char n f := (Fc.ext E109)
  obtain ⟨T117, h117, v117, L117, X117, e117, ⟨r_117, rfl, N117q, r117_0, r117_1, r117_2, r117_3, r117_4⟩, st117⟩ := N.static X109 hx hZ (y := (⟨"java/lang/StringUTF16", "compress", "([CI[BII)I"⟩ : MethodName)) hown (wk hw 50 rfl) (wk hw 51 rfl) (wk hw 48 rfl) (wk hw 52 rfl) (by decide) (cLoop l Z a0 hw c1 b109 kc k109 n f h109 n0 O113 F116 F115 ne110 g111) e109 (g := (mkF m 9 #[.val (.ref c1), .val (.int (0 : Int32)), .val (.int n.toInt32), .val (.ref b109), .unset, .unset] [(.int n.toInt32), (.int (0 : Int32)), (.ref b109), (.int (0 : Int32)), (.ref c1)])) rfl (by rw [hml]; rfl) (argsL := [(.ref c1), (.int (0 : Int32)), (.ref b109), (.int (0 : Int32)), (.int n.toInt32)]) (rest := []) rfl (lenOf pd___CI_BII_I rfl) rfl (W := 0) (by show 2 * 0 + _ ≤ _; exact Nat.le_of_eq rfl) (hb hby d8_9) (by decide) (by decide) (by decide) (by decide)
  have N118 := Fr.app N0 N117q
  have O119 := Old.keep O113 r117_0 (allS g111 all0)
  have K120 : Keep h0 h117 [] := Keep.trans K114 r117_0 (allS (Or.inr z112) all0)
  refine Win.to T117 (mkF m 12 #[.val (.ref c1), .val (.int (0 : Int32)), .val (.int n.toInt32), .val (.ref b109), .unset, .unset] [(.int r_117.toInt32)]) (fun _ k => st117 _ k) ?_
  have hr : r_117 = n := by
    rcases Nat.lt_or_ge r_117 n with q | q
    · exact absurd (r117_4 q) (hp _ q)
    · have := r117_2; omega
  have F121 : ArF Z h117 b109 k109 .byte n (fun i => (f i).toInt8.toInt32) := ArF.cong r117_1 fun i hi => by simp [hr, hi]
  refine Win.to T117 (mkF m 14 #[.val (.ref c1), .val (.int (0 : Int32)), .val (.int n.toInt32), .val (.ref b109), .val (.int r_117.toInt32), .unset] []) (fun _ k => XS.istore X117.here hx rfl (hb hby d8_12) rfl (l' := #[.val (.ref c1), .val (.int (0 : Int32)), .val (.int n.toInt32), .val (.ref b109), .val (.int r_117.toInt32), .unset]) rfl k) ?_
  refine Win.to T117 (mkF m 16 #[.val (.ref c1), .val (.int (0 : Int32)), .val (.int n.toInt32), .val (.ref b109), .val (.int r_117.toInt32), .unset] [(.int r_117.toInt32)]) (fun _ k => XS.iload X117.here hx rfl (hb hby d8_14) rfl k) ?_
  refine Win.to T117 (mkF m 17 #[.val (.ref c1), .val (.int (0 : Int32)), .val (.int n.toInt32), .val (.ref b109), .val (.int r_117.toInt32), .unset] [(.int n.toInt32), (.int r_117.toInt32)]) (fun _ k => XS.iloadN X117.here hx rfl (hb hby d8_16) rfl k) ?_
  refine Win.to T117 (mkF m 57 #[.val (.ref c1), .val (.int (0 : Int32)), .val (.int n.toInt32), .val (.ref b109), .val (.int r_117.toInt32), .unset] []) (fun _ k => XS.icmpYes X117.here hx rfl (pc0 := 17) (pc' := 57) rfl (hb hby d8_17) rfl (teq (show r_117.toInt32 = n.toInt32 from (by rw [hr]))).1 (by decide) (by decide) k) ?_
  refine Win.to T117 (mkF m 58 #[.val (.ref c1), .val (.int (0 : Int32)), .val (.int n.toInt32), .val (.ref b109), .val (.int r_117.toInt32), .unset] [(.ref b109)]) (fun _ k => XS.aloadN X117.here hx rfl (hb hby d8_57) rfl rfl k) ?_
  exact Win.retA X117 hx hlk hret rfl rfl (hb hby d8_58) (by decide) (by decide) (by (try rw [e117]); exact ⟨b109, k109, rfl, N118, K120, z112, F121⟩)
abbrev R_coder0 : Room := ⟨0, 0, 0, 0⟩
set_option maxRecDepth 65536 in
set_option maxHeartbeats 40000000 in
theorem coder0 (l : Launch) (Z : State) (a0 : Array Value) (hw : ∀ d ∈ tables_1, d.before a0 Z = true) (b1 : Addr) (kb : ClassId) (n : Nat) (f : Nat → Int32) (h0 : Heap) (n0 : Nat) (O0 : Old Z n0 h0) (Fb : ArF Z h0 b1 kb .byte n f) :
    MetN l Z (⟨"java/lang/StringUTF16", "coderFromArrayLen", "([BI)B"⟩ : MethodName) jdk_52_method_15_code 2 (some .byte) R_coder0 [] #[(.ref b1), (.int n.toInt32)] h0 (fun v h L => v = some (.int (0 : Int32)) ∧ Fr n0 L ∧ h = h0) := by
  refine MetN.walk (plainFor_of_name pn_10) ?_
  intro p e s m below meth c s₁ hx hZ hby hml hown hnm hret hlk X0 e0
  have N0 := Fr.nil n0
  refine Win.to s₁ (mkF m 0 #[.val (.ref b1), .val (.int n.toInt32)] []) (fun _ k => castTop (by first | (simp [entryFrame, mkF, argsToLocals, Value.category]; done) | rfl) k) ?_
  refine Win.to s₁ (mkF m 1 #[.val (.ref b1), .val (.int n.toInt32)] [(.int n.toInt32)]) (fun _ k => XS.iloadN X0.here hx rfl (hb hby d10_0) rfl k) ?_
  refine Win.to s₁ (mkF m 2 #[.val (.ref b1), .val (.int n.toInt32)] [(.ref b1), (.int n.toInt32)]) (fun _ k => XS.aloadN X0.here hx rfl (hb hby d10_1) rfl rfl k) ?_
  obtain ⟨cl122, Ar122, hl122⟩ := ArF.len Fb
  refine Win.to s₁ (mkF m 3 #[.val (.ref b1), .val (.int n.toInt32)] [(.int n.toInt32), (.int n.toInt32)]) (fun _ k => X0.arraylength hx (by rw [e0]; exact Ar122.1) (State.isArrayOf_alike hZ.alike Ar122.2.1) (g := (mkF m 2 #[.val (.ref b1), .val (.int n.toInt32)] [(.ref b1), (.int n.toInt32)])) rfl rfl (hb hby d10_2) _ (by rw [hl122]; exact k)) ?_
  refine Win.to s₁ (mkF m 4 #[.val (.ref b1), .val (.int n.toInt32)] [(.int (0 : Int32))]) (fun _ k => XS.isub X0.here hx rfl (hb hby d10_3) rfl (by rw [show (n.toInt32 - n.toInt32) = (0 : Int32) from Int32.sub_self _]; exact k)) ?_
  refine Win.to s₁ (mkF m 6 #[.val (.ref b1), .val (.int n.toInt32)] [(.int (31 : Int32)), (.int (0 : Int32))]) (fun _ k => XS.bipush X0.here hx rfl (hb hby d10_4) k) ?_
  refine Win.to s₁ (mkF m 7 #[.val (.ref b1), .val (.int n.toInt32)] [(.int (0 : Int32))]) (fun _ k => XS.iushr X0.here hx rfl (hb hby d10_6) rfl (by rw [show (((0 : Int32).toUInt32 >>> ((31 : Int32) &&& 31).toUInt32).toInt32) = (0 : Int32) from by decide]; exact k)) ?_
  refine Win.to s₁ (mkF m 8 #[.val (.ref b1), .val (.int n.toInt32)] [(.int (0 : Int32))]) (fun _ k => XS.i2b X0.here hx rfl (hb hby d10_7) rfl (by rw [show ((0 : Int32).toInt8.toInt32) = (0 : Int32) from by decide]; exact k)) ?_
  exact Win.retN X0 hx hlk (t := .byte) hret (by simp) rfl (hb hby d10_8) (by decide) (by decide) (by (try rw [e0]); exact ⟨rfl, N0, rfl⟩)
abbrev R_ctor4 : Room := ⟨2, 4, 8, 35⟩
set_option maxRecDepth 65536 in
set_option maxHeartbeats 40000000 in
theorem ctor4 (l : Launch) (Z : State) (a0 : Array Value) (hw : ∀ d ∈ tables_1, d.before a0 Z = true) (a1 : Addr) (c1 : Addr) (kc : ClassId) (n : Nat) (f : Nat → Int32) (cs : Int32) (h0 : Heap) (n0 : Nat) (O0 : Old Z n0 h0) (E1 : Exa Z h0 a1 "java/lang/String") (F1 : Fld Z h0 a1 "java/lang/String" "value" "[B" .null) (F2 : Fld Z h0 a1 "java/lang/String" "coder" "B" (.int (0 : Int32))) (Fc : ArF Z h0 c1 kc .char n f) (hp : ∀ i, i < n → ¬ (255 : Int32) < f i) (hcap : n ≤ 4) (g1 : n0 ≤ a1) (S_CS : Sta Z Z.heap "java/lang/String" "COMPACT_STRINGS" "Z" (.int cs)) (hcs : ¬ (cs = (0 : Int32))) :
    MetW l Z (⟨"java/lang/String", "<init>", "([CIILjava/lang/Void;)V"⟩ : MethodName) jdk_42_method_149_code 6 none R_ctor4 [] #[(.ref a1), (.ref c1), (.int (0 : Int32)), (.int n.toInt32), .null] h0 EL1 (fun v h L => ∃ (t : Addr) (kb : ClassId), v = none ∧ Fr n0 L ∧ Keep h0 h [a1] ∧ Fld Z h a1 "java/lang/String" "value" "[B" (.ref t) ∧ Fld Z h a1 "java/lang/String" "coder" "B" (.int (0 : Int32)) ∧ ArF Z h t kb .byte n (fun i => (f i).toInt8.toInt32)) := by
  refine MetW.walk (plainFor_of_name pn_3) ?_
  intro p e s m below meth c s₁ hx hZ hby hml hown hnm hret hlk C0 hS0 X0 e0
  have N0 := Fr.nil n0
  refine WinW.to s₁ (mkF m 0 #[.val (.ref a1), .val (.ref c1), .val (.int (0 : Int32)), .val (.int n.toInt32), .val .null, .unset] []) (fun _ k => castTop (by first | (simp [entryFrame, mkF, argsToLocals, Value.category]; done) | rfl) k) ?_
  have hn := Fc.big
  refine WinW.to s₁ (mkF m 1 #[.val (.ref a1), .val (.ref c1), .val (.int (0 : Int32)), .val (.int n.toInt32), .val .null, .unset] [(.ref a1)]) (fun _ k => XS.aloadN X0.here hx rfl (hb hby d3_0) rfl rfl k) ?_
  obtain ⟨T123, X123, e123, st123⟩ := initO X0 hx hZ hown (wk hw 16 rfl) (wk hw 17 rfl) (wk hw 18 rfl) e0 (g := (mkF m 1 #[.val (.ref a1), .val (.ref c1), .val (.int (0 : Int32)), .val (.int n.toInt32), .val .null, .unset] [(.ref a1)])) rfl (by rw [hml]; rfl) rfl (hb hby d3_1) (by decide) (W := 0) (by show 2 * 0 + _ ≤ _; exact Nat.le_of_eq rfl) (by decide)
  refine WinW.to T123 (mkF m 4 #[.val (.ref a1), .val (.ref c1), .val (.int (0 : Int32)), .val (.int n.toInt32), .val .null, .unset] []) (fun _ k => st123 _ k) ?_
  refine WinW.to T123 (mkF m 5 #[.val (.ref a1), .val (.ref c1), .val (.int (0 : Int32)), .val (.int n.toInt32), .val .null, .unset] [(.int n.toInt32)]) (fun _ k => XS.iloadN X123.here hx rfl (hb hby d3_4) rfl k) ?_
  by_cases hc124 : n.toInt32 = (0 : Int32)
  · refine WinW.to T123 (mkF m 8 #[.val (.ref a1), .val (.ref c1), .val (.int (0 : Int32)), .val (.int n.toInt32), .val .null, .unset] []) (fun _ k => XS.ifNo X123.here hx rfl (hb hby d3_5) rfl ((if0 _ _).trans (teq hc124).2) k) ?_
    have hz : n = 0 := own_zero hn hc124
    have S125 : Safe Z EL1 (s.setVm s.vm).vm h0 a1 := own_safe hZ.alike E1 F1 (wk hw 6 rfl)
    refine WinW.to T123 (mkF m 9 #[.val (.ref a1), .val (.ref c1), .val (.int (0 : Int32)), .val (.int n.toInt32), .val .null, .unset] [(.ref a1)]) (fun _ k => XS.aloadN X123.here hx rfl (hb hby d3_8) rfl rfl k) ?_
    obtain ⟨b126, T126, h126, k126, d126, kk126, X126, e126, E126, hS126, hk126, hZ126, hown126, Fe126, Fc126, Fv126, Fa126, -, -, c126, -, Sf126, st126⟩ := ldcCH X123 hx hZ hown (wk hw 19 rfl) (own_wS hw) e123 hS0 (Nat.zero_le _) (own_EW hw) (by decide) C0.1 (vs := []) (z := (0 : Int32)) (by decide) (by decide) rfl (g := (mkF m 9 #[.val (.ref a1), .val (.ref c1), .val (.int (0 : Int32)), .val (.int n.toInt32), .val .null, .unset] [(.ref a1)])) rfl (hb hby d3_9) (n := 0) (by decide) (by decide) (by decide) (by decide)
    have O127 := Old.ext O0 E126
    have K128 : Keep h0 h126 [a1] := (Keep.refl h0 [a1]).ext E126
    have c129 := c126
    have C130 := CHr.trans C0 c129
    have S131 := CHr.safe c129 E1.lt S125
    have q126_a1 := Sf126 _ S131
    refine WinW.to T126 (mkF m 11 #[.val (.ref a1), .val (.ref c1), .val (.int (0 : Int32)), .val (.int n.toInt32), .val .null, .unset] [(.ref b126), (.ref a1)]) (fun _ k => st126 _ k) ?_
    obtain ⟨T132, X132, e132, st132⟩ := getF X126 hx hZ126 hown126 (host := "") (Or.inl (wk hw 25 rfl)) Via.refl e126 Fv126 (g := (mkF m 11 #[.val (.ref a1), .val (.ref c1), .val (.int (0 : Int32)), .val (.int n.toInt32), .val .null, .unset] [(.ref b126), (.ref a1)])) rfl rfl (hb hby d3_11)
    refine WinW.to T132 (mkF m 14 #[.val (.ref a1), .val (.ref c1), .val (.int (0 : Int32)), .val (.int n.toInt32), .val .null, .unset] [(.ref d126), (.ref a1)]) (fun _ k => st132 _ k) ?_
    have F133 : Exa Z h126 a1 "java/lang/String" := (Exa.ext E126 E1)
    have F134 : Fld Z h126 a1 "java/lang/String" "value" "[B" .null := (Fld.ext E126 F1)
    have F135 : ArF Z h126 c1 kc .char n f := (Fc.ext E126)
    have ne136 : a1 ≠ c1 := own_neF F133 F135 (wk hw 6 rfl)
    obtain ⟨T137, h137, X137, e137, W137, st137⟩ := putF X132 hx hZ126 hown126 (host := "") (Or.inl (wk hw 25 rfl)) Via.refl e132 F134 F133 (Or.inr ⟨(wk hw 21 rfl), rfl, hnm⟩) (wk hw 6 rfl) (ty := (.array .byte)) (by decide) rfl rfl (g := (mkF m 14 #[.val (.ref a1), .val (.ref c1), .val (.int (0 : Int32)), .val (.int n.toInt32), .val .null, .unset] [(.ref d126), (.ref a1)])) rfl rfl (hb hby d3_14)
    have O139 := Old.wr O127 W137 g1
    have hk140 := Nat.le_trans hk126 (Nat.le_of_eq (Wr.size W137).symm)
    have K141 : Keep h0 h137 [a1] := K128.wr W137 (Or.inl (List.mem_of_getElem? (i := 0) rfl))
    have N142 := Fr.snoc X137 N0 g1
    have c143 := CHr.wr W137 S131 C130.1
    have C144 := CHr.trans C130 c143
    have S145 := CHr.safe c143 F133.lt S131
    have F138 : Fld Z h137 a1 "java/lang/String" "value" "[B" (.ref d126) := Fld.same W137 F134
    refine WinW.to T137 (mkF m 17 #[.val (.ref a1), .val (.ref c1), .val (.int (0 : Int32)), .val (.int n.toInt32), .val .null, .unset] []) (fun _ k => st137 _ k) ?_
    refine WinW.to T137 (mkF m 18 #[.val (.ref a1), .val (.ref c1), .val (.int (0 : Int32)), .val (.int n.toInt32), .val .null, .unset] [(.ref a1)]) (fun _ k => XS.aloadN X137.here hx rfl (hb hby d3_17) rfl rfl k) ?_
    have F147 : Exa Z h137 a1 "java/lang/String" := (Exa.wr W137 F133)
    obtain ⟨b146, T146, h146, k146, d146, kk146, X146, e146, E146, hS146, hk146, hZ146, hown146, Fe146, Fc146, Fv146, Fa146, -, -, c146, -, Sf146, st146⟩ := ldcCH X137 hx hZ126 hown126 (wk hw 19 rfl) (own_wS hw) e137 hS126 hk140 (own_EW hw) (by decide) C144.1 (vs := []) (z := (0 : Int32)) (by decide) (by decide) rfl (g := (mkF m 18 #[.val (.ref a1), .val (.ref c1), .val (.int (0 : Int32)), .val (.int n.toInt32), .val .null, .unset] [(.ref a1)])) rfl (hb hby d3_18) (n := 0) (by decide) (by decide) (by decide) (by decide)
    have O148 := Old.ext O139 E146
    have K149 : Keep h0 h146 [a1] := K141.ext E146
    have c150 := c146
    have C151 := CHr.trans C144 c150
    have S152 := CHr.safe c150 F147.lt S145
    have q146_a1 := Sf146 _ S152
    refine WinW.to T146 (mkF m 20 #[.val (.ref a1), .val (.ref c1), .val (.int (0 : Int32)), .val (.int n.toInt32), .val .null, .unset] [(.ref b146), (.ref a1)]) (fun _ k => st146 _ k) ?_
    obtain ⟨T153, X153, e153, st153⟩ := getF X146 hx hZ146 hown146 (host := "") (Or.inl (wk hw 26 rfl)) Via.refl e146 Fc146 (g := (mkF m 20 #[.val (.ref a1), .val (.ref c1), .val (.int (0 : Int32)), .val (.int n.toInt32), .val .null, .unset] [(.ref b146), (.ref a1)])) rfl rfl (hb hby d3_20)
    refine WinW.to T153 (mkF m 23 #[.val (.ref a1), .val (.ref c1), .val (.int (0 : Int32)), .val (.int n.toInt32), .val .null, .unset] [(.int (0 : Int32)), (.ref a1)]) (fun _ k => st153 _ k) ?_
    have F154 : Exa Z h146 a1 "java/lang/String" := (Exa.ext E146 F147)
    have F155 : Fld Z h146 a1 "java/lang/String" "coder" "B" (.int (0 : Int32)) := (Fld.ext E146 (Fld.other W137 (Fld.ext E126 F2) (Or.inr (slot_ne (Or.inr (wk hw 22 rfl)) (Or.inr (wk hw 21 rfl)) (by decide) (t := .byte) (t' := (.array .byte)) (by decide) (by decide)))))
    obtain ⟨T156, h156, X156, e156, W156, st156⟩ := putFN X153 hx hZ146 hown146 (wk hw 26 rfl) Via.refl e153 F155 F154 (Or.inr ⟨(wk hw 22 rfl), rfl, hnm⟩) (wk hw 6 rfl) (ty := .byte) (v' := (.int (0 : Int32))) (by decide) rfl rfl (g := (mkF m 23 #[.val (.ref a1), .val (.ref c1), .val (.int (0 : Int32)), .val (.int n.toInt32), .val .null, .unset] [(.int (0 : Int32)), (.ref a1)])) rfl rfl (hb hby d3_23)
    have O158 := Old.wr O148 W156 g1
    have hk159 := Nat.le_trans hk146 (Nat.le_of_eq (Wr.size W156).symm)
    have K160 : Keep h0 h156 [a1] := K149.wr W156 (Or.inl (List.mem_of_getElem? (i := 0) rfl))
    have N161 := Fr.snoc X156 N142 g1
    have c162 := CHr.wr W156 S152 C151.1
    have C163 := CHr.trans C151 c162
    have S164 := CHr.safe c162 F154.lt S152
    have F157 : Fld Z h156 a1 "java/lang/String" "coder" "B" (.int (0 : Int32)) := Fld.same W156 F155
    refine WinW.to T156 (mkF m 26 #[.val (.ref a1), .val (.ref c1), .val (.int (0 : Int32)), .val (.int n.toInt32), .val .null, .unset] []) (fun _ k => st156 _ k) ?_
    have F165 : Fld Z h156 a1 "java/lang/String" "value" "[B" (.ref d126) := (Fld.other W156 (Fld.ext E146 F138) (Or.inr (slot_ne (Or.inr (wk hw 21 rfl)) (Or.inr (wk hw 22 rfl)) (by decide) (t := (.array .byte)) (t' := .byte) (by decide) (by decide))))
    have F166 : Arv Z h156 d126 kk126 .byte (0 : Int32) [] (.int 0) := (((Fa126.other W137 (Ne.symm q126_a1.2)).ext E146).other W156 (Ne.symm q126_a1.2))
    have F167 : ArF Z h156 d126 kk126 .byte 0 (fun i => ([] : List Int32).getD i 0) := own_arf [] F166 rfl
    have F168 : ArF Z h156 d126 kk126 .byte n (fun i => (f i).toInt8.toInt32) := by rw [hz]; exact ArF.cong F167 fun i hi => absurd hi (Nat.not_lt_zero _)
    exact WinW.retV X156 hS146 (by rw [e156]; exact hk159) hx hlk hret (hb hby d3_26) hZ146 (own_EW hw) (by rw [e156]; exact C163) (by decide) (by decide) (by (try rw [e156]); exact ⟨d126, kk126, rfl, N161, K160, F165, F157, F168⟩)
  · refine WinW.to T123 (mkF m 27 #[.val (.ref a1), .val (.ref c1), .val (.int (0 : Int32)), .val (.int n.toInt32), .val .null, .unset] []) (fun _ k => XS.ifYes X123.here hx rfl (pc0 := 5) (pc' := 27) rfl (hb hby d3_5) rfl ((if0 _ _).trans (feq hc124).2) (by decide) (by decide) k) ?_
    obtain ⟨T169, X169, e169, st169⟩ := getS2 X123 hx hZ hown (host := "") (Or.inl (wk hw 45 rfl)) Via.refl e123 (Sta.ext O0.2 S_CS) (g := (mkF m 27 #[.val (.ref a1), .val (.ref c1), .val (.int (0 : Int32)), .val (.int n.toInt32), .val .null, .unset] [])) rfl (hb hby d3_27)
    refine WinW.to T169 (mkF m 30 #[.val (.ref a1), .val (.ref c1), .val (.int (0 : Int32)), .val (.int n.toInt32), .val .null, .unset] [(.int cs)]) (fun _ k => st169 _ k) ?_
    refine WinW.to T169 (mkF m 33 #[.val (.ref a1), .val (.ref c1), .val (.int (0 : Int32)), .val (.int n.toInt32), .val .null, .unset] []) (fun _ k => XS.ifNo X169.here hx rfl (hb hby d3_30) rfl ((if0 _ _).trans (feq (show ¬ (cs = (0 : Int32)) from hcs)).1) k) ?_
    refine WinW.to T169 (mkF m 34 #[.val (.ref a1), .val (.ref c1), .val (.int (0 : Int32)), .val (.int n.toInt32), .val .null, .unset] [(.ref c1)]) (fun _ k => XS.aloadN X169.here hx rfl (hb hby d3_33) rfl rfl k) ?_
    refine WinW.to T169 (mkF m 35 #[.val (.ref a1), .val (.ref c1), .val (.int (0 : Int32)), .val (.int n.toInt32), .val .null, .unset] [(.int (0 : Int32)), (.ref c1)]) (fun _ k => XS.iloadN X169.here hx rfl (hb hby d3_34) rfl k) ?_
    refine WinW.to T169 (mkF m 36 #[.val (.ref a1), .val (.ref c1), .val (.int (0 : Int32)), .val (.int n.toInt32), .val .null, .unset] [(.int n.toInt32), (.int (0 : Int32)), (.ref c1)]) (fun _ k => XS.iloadN X169.here hx rfl (hb hby d3_35) rfl k) ?_
    obtain ⟨T170, h170, v170, L170, X170, e170, ⟨t_170, kb_170, rfl, N170q, r170_0, r170_1, r170_2⟩, st170⟩ := N.static X169 hx hZ (y := (⟨"java/lang/StringUTF16", "compress", "([CII)[B"⟩ : MethodName)) hown (wk hw 46 rfl) (wk hw 47 rfl) (wk hw 48 rfl) (wk hw 49 rfl) (by decide) (comp l Z a0 hw c1 kc n f h0 n0 O0 Fc hp hcap) e169 (g := (mkF m 36 #[.val (.ref a1), .val (.ref c1), .val (.int (0 : Int32)), .val (.int n.toInt32), .val .null, .unset] [(.int n.toInt32), (.int (0 : Int32)), (.ref c1)])) rfl (by rw [hml]; rfl) (argsL := [(.ref c1), (.int (0 : Int32)), (.int n.toInt32)]) (rest := []) rfl (lenOf pd___CII__B rfl) rfl (W := 0) (by show 2 * 0 + _ ≤ _; exact Nat.le_of_eq rfl) (hb hby d3_36) (by decide) (by decide) (by decide) (by decide)
    have N171 := Fr.app N0 N170q
    have ne172 : a1 ≠ t_170 := Nat.ne_of_lt (Nat.lt_of_lt_of_le E1.lt r170_1)
    have ne173 : c1 ≠ t_170 := Nat.ne_of_lt (Nat.lt_of_lt_of_le Fc.lt r170_1)
    have g174 : n0 ≤ t_170 := Nat.le_trans (own_le O0) r170_1
    have z175 : h0.size ≤ t_170 := r170_1
    have O176 := Old.keep O0 r170_0 all0
    have K177 : Keep h0 h170 [a1] := Keep.trans (Keep.refl h0 [a1]) r170_0 all0
    have c178 := CHr.keep r170_0 sf0 C0.1
    have C179 := CHr.trans C0 c178
    refine WinW.to T170 (mkF m 39 #[.val (.ref a1), .val (.ref c1), .val (.int (0 : Int32)), .val (.int n.toInt32), .val .null, .unset] [(.ref t_170)]) (fun _ k => st170 _ k) ?_
    refine WinW.to T170 (mkF m 41 #[.val (.ref a1), .val (.ref c1), .val (.int (0 : Int32)), .val (.int n.toInt32), .val .null, .val (.ref t_170)] []) (fun _ k => XS.astore X170.here hx rfl (hb hby d3_39) rfl rfl (l' := #[.val (.ref a1), .val (.ref c1), .val (.int (0 : Int32)), .val (.int n.toInt32), .val .null, .val (.ref t_170)]) rfl k) ?_
    refine WinW.to T170 (mkF m 42 #[.val (.ref a1), .val (.ref c1), .val (.int (0 : Int32)), .val (.int n.toInt32), .val .null, .val (.ref t_170)] [(.ref a1)]) (fun _ k => XS.aloadN X170.here hx rfl (hb hby d3_41) rfl rfl k) ?_
    refine WinW.to T170 (mkF m 44 #[.val (.ref a1), .val (.ref c1), .val (.int (0 : Int32)), .val (.int n.toInt32), .val .null, .val (.ref t_170)] [(.ref t_170), (.ref a1)]) (fun _ k => XS.aload X170.here hx rfl (hb hby d3_42) rfl rfl k) ?_
    refine WinW.to T170 (mkF m 45 #[.val (.ref a1), .val (.ref c1), .val (.int (0 : Int32)), .val (.int n.toInt32), .val .null, .val (.ref t_170)] [(.int n.toInt32), (.ref t_170), (.ref a1)]) (fun _ k => XS.iloadN X170.here hx rfl (hb hby d3_44) rfl k) ?_
    obtain ⟨T180, h180, v180, L180, X180, e180, ⟨rfl, N180q, r180_0⟩, st180⟩ := N.static X170 hx hZ (y := (⟨"java/lang/StringUTF16", "coderFromArrayLen", "([BI)B"⟩ : MethodName)) hown (wk hw 53 rfl) (wk hw 54 rfl) (wk hw 48 rfl) (wk hw 55 rfl) (by decide) (coder0 l Z a0 hw t_170 kb_170 n (fun i => (f i).toInt8.toInt32) h170 n0 O176 r170_2) e170 (g := (mkF m 45 #[.val (.ref a1), .val (.ref c1), .val (.int (0 : Int32)), .val (.int n.toInt32), .val .null, .val (.ref t_170)] [(.int n.toInt32), (.ref t_170), (.ref a1)])) rfl (by rw [hml]; rfl) (argsL := [(.ref t_170), (.int n.toInt32)]) (rest := [(.ref a1)]) rfl (lenOf pd___BI_B rfl) rfl (W := 1) (by show 2 * 0 + _ ≤ _; exact Nat.le_of_eq rfl) (hb hby d3_45) (by decide) (by decide) (by decide) (by decide)
    have N181 := Fr.app N171 N180q
    have e180 := e180.trans r180_0
    refine WinW.to T180 (mkF m 48 #[.val (.ref a1), .val (.ref c1), .val (.int (0 : Int32)), .val (.int n.toInt32), .val .null, .val (.ref t_170)] [(.int (0 : Int32)), (.ref a1)]) (fun _ k => st180 _ k) ?_
    have F182 : Exa Z h170 a1 "java/lang/String" := (E1.keep r170_0)
    have F183 : Fld Z h170 a1 "java/lang/String" "coder" "B" (.int (0 : Int32)) := (F2.keep r170_0 nin0)
    have F184 : ArF Z h170 c1 kc .char n f := (Fc.keep r170_0 nin0)
    have ne185 : a1 ≠ c1 := own_neF F182 F184 (wk hw 6 rfl)
    have F186 : Fld Z h170 a1 "java/lang/String" "value" "[B" .null := (F1.keep r170_0 nin0)
    have S187 : Safe Z EL1 (s.setVm s.vm).vm h170 a1 := own_safe hZ.alike F182 F186 (wk hw 6 rfl)
    obtain ⟨T188, h188, X188, e188, W188, st188⟩ := putFN X180 hx hZ hown (wk hw 26 rfl) Via.refl e180 F183 F182 (Or.inr ⟨(wk hw 22 rfl), rfl, hnm⟩) (wk hw 6 rfl) (ty := .byte) (v' := (.int (0 : Int32))) (by decide) rfl rfl (g := (mkF m 48 #[.val (.ref a1), .val (.ref c1), .val (.int (0 : Int32)), .val (.int n.toInt32), .val .null, .val (.ref t_170)] [(.int (0 : Int32)), (.ref a1)])) rfl rfl (hb hby d3_48)
    have O190 := Old.wr O176 W188 g1
    have K191 : Keep h0 h188 [a1] := K177.wr W188 (Or.inl (List.mem_of_getElem? (i := 0) rfl))
    have N192 := Fr.snoc X188 N181 g1
    have c193 := CHr.wr W188 S187 C179.1
    have C194 := CHr.trans C179 c193
    have S195 := CHr.safe c193 F182.lt S187
    have F189 : Fld Z h188 a1 "java/lang/String" "coder" "B" (.int (0 : Int32)) := Fld.same W188 F183
    refine WinW.to T188 (mkF m 51 #[.val (.ref a1), .val (.ref c1), .val (.int (0 : Int32)), .val (.int n.toInt32), .val .null, .val (.ref t_170)] []) (fun _ k => st188 _ k) ?_
    refine WinW.to T188 (mkF m 52 #[.val (.ref a1), .val (.ref c1), .val (.int (0 : Int32)), .val (.int n.toInt32), .val .null, .val (.ref t_170)] [(.ref a1)]) (fun _ k => XS.aloadN X188.here hx rfl (hb hby d3_51) rfl rfl k) ?_
    refine WinW.to T188 (mkF m 54 #[.val (.ref a1), .val (.ref c1), .val (.int (0 : Int32)), .val (.int n.toInt32), .val .null, .val (.ref t_170)] [(.ref t_170), (.ref a1)]) (fun _ k => XS.aload X188.here hx rfl (hb hby d3_52) rfl rfl k) ?_
    have F196 : Exa Z h188 a1 "java/lang/String" := (Exa.wr W188 F182)
    have F197 : Fld Z h188 a1 "java/lang/String" "value" "[B" .null := (Fld.other W188 F186 (Or.inr (slot_ne (Or.inr (wk hw 21 rfl)) (Or.inr (wk hw 22 rfl)) (by decide) (t := (.array .byte)) (t' := .byte) (by decide) (by decide))))
    obtain ⟨T198, h198, X198, e198, W198, st198⟩ := putF X188 hx hZ hown (host := "") (Or.inl (wk hw 25 rfl)) Via.refl e188 F197 F196 (Or.inr ⟨(wk hw 21 rfl), rfl, hnm⟩) (wk hw 6 rfl) (ty := (.array .byte)) (by decide) rfl rfl (g := (mkF m 54 #[.val (.ref a1), .val (.ref c1), .val (.int (0 : Int32)), .val (.int n.toInt32), .val .null, .val (.ref t_170)] [(.ref t_170), (.ref a1)])) rfl rfl (hb hby d3_54)
    have O200 := Old.wr O190 W198 g1
    have K201 : Keep h0 h198 [a1] := K191.wr W198 (Or.inl (List.mem_of_getElem? (i := 0) rfl))
    have N202 := Fr.snoc X198 N192 g1
    have c203 := CHr.wr W198 S195 C194.1
    have C204 := CHr.trans C194 c203
    have S205 := CHr.safe c203 F196.lt S195
    have F199 : Fld Z h198 a1 "java/lang/String" "value" "[B" (.ref t_170) := Fld.same W198 F197
    refine WinW.to T198 (mkF m 57 #[.val (.ref a1), .val (.ref c1), .val (.int (0 : Int32)), .val (.int n.toInt32), .val .null, .val (.ref t_170)] []) (fun _ k => st198 _ k) ?_
    have F206 : Fld Z h198 a1 "java/lang/String" "coder" "B" (.int (0 : Int32)) := (Fld.other W198 F189 (Or.inr (slot_ne (Or.inr (wk hw 22 rfl)) (Or.inr (wk hw 21 rfl)) (by decide) (t := .byte) (t' := (.array .byte)) (by decide) (by decide))))
    have F207 : ArF Z h198 t_170 kb_170 .byte n (fun i => (f i).toInt8.toInt32) := ((r170_2.other W188 (Ne.symm ne172)).other W198 (Ne.symm ne172))
    exact WinW.retV X198 hS0 (by rw [e198]; exact (Nat.zero_le _)) hx hlk hret (hb hby d3_57) hZ (own_EW hw) (by rw [e198]; exact C204) (by decide) (by decide) (by (try rw [e198]); exact ⟨t_170, kb_170, rfl, N202, K201, F199, F206, F207⟩)
abbrev R_ctor1 : Room := ⟨3, 4, 8, 52⟩
set_option maxRecDepth 65536 in
set_option maxHeartbeats 40000000 in
theorem ctor1 (l : Launch) (Z : State) (a0 : Array Value) (hw : ∀ d ∈ tables_1, d.before a0 Z = true) (a1 : Addr) (c1 : Addr) (kc : ClassId) (n : Nat) (f : Nat → Int32) (cs : Int32) (h0 : Heap) (n0 : Nat) (O0 : Old Z n0 h0) (E1 : Exa Z h0 a1 "java/lang/String") (F1 : Fld Z h0 a1 "java/lang/String" "value" "[B" .null) (F2 : Fld Z h0 a1 "java/lang/String" "coder" "B" (.int (0 : Int32))) (Fc : ArF Z h0 c1 kc .char n f) (hp : ∀ i, i < n → ¬ (255 : Int32) < f i) (hcap : n ≤ 4) (g1 : n0 ≤ a1) (S_CS : Sta Z Z.heap "java/lang/String" "COMPACT_STRINGS" "Z" (.int cs)) (hcs : ¬ (cs = (0 : Int32))) :
    MetW l Z (⟨"java/lang/String", "<init>", "([C)V"⟩ : MethodName) jdk_42_method_3_code 2 none R_ctor1 [] #[(.ref a1), (.ref c1)] h0 EL1 (fun v h L => ∃ (t : Addr) (kb : ClassId), v = none ∧ Fr n0 L ∧ Keep h0 h [a1] ∧ Fld Z h a1 "java/lang/String" "value" "[B" (.ref t) ∧ Fld Z h a1 "java/lang/String" "coder" "B" (.int (0 : Int32)) ∧ ArF Z h t kb .byte n (fun i => (f i).toInt8.toInt32)) := by
  refine MetW.walk (plainFor_of_name pn_2) ?_
  intro p e s m below meth c s₁ hx hZ hby hml hown hnm hret hlk C0 hS0 X0 e0
  have N0 := Fr.nil n0
  refine WinW.to s₁ (mkF m 0 #[.val (.ref a1), .val (.ref c1)] []) (fun _ k => castTop (by first | (simp [entryFrame, mkF, argsToLocals, Value.category]; done) | rfl) k) ?_
  refine WinW.to s₁ (mkF m 1 #[.val (.ref a1), .val (.ref c1)] [(.ref a1)]) (fun _ k => XS.aloadN X0.here hx rfl (hb hby d2_0) rfl rfl k) ?_
  refine WinW.to s₁ (mkF m 2 #[.val (.ref a1), .val (.ref c1)] [(.ref c1), (.ref a1)]) (fun _ k => XS.aloadN X0.here hx rfl (hb hby d2_1) rfl rfl k) ?_
  refine WinW.to s₁ (mkF m 3 #[.val (.ref a1), .val (.ref c1)] [(.int (0 : Int32)), (.ref c1), (.ref a1)]) (fun _ k => XS.iconst X0.here hx rfl (hb hby d2_2) k) ?_
  refine WinW.to s₁ (mkF m 4 #[.val (.ref a1), .val (.ref c1)] [(.ref c1), (.int (0 : Int32)), (.ref c1), (.ref a1)]) (fun _ k => XS.aloadN X0.here hx rfl (hb hby d2_3) rfl rfl k) ?_
  obtain ⟨cl208, Ar208, hl208⟩ := ArF.len Fc
  refine WinW.to s₁ (mkF m 5 #[.val (.ref a1), .val (.ref c1)] [(.int n.toInt32), (.int (0 : Int32)), (.ref c1), (.ref a1)]) (fun _ k => X0.arraylength hx (by rw [e0]; exact Ar208.1) (State.isArrayOf_alike hZ.alike Ar208.2.1) (g := (mkF m 4 #[.val (.ref a1), .val (.ref c1)] [(.ref c1), (.int (0 : Int32)), (.ref c1), (.ref a1)])) rfl rfl (hb hby d2_4) _ (by rw [hl208]; exact k)) ?_
  refine WinW.to s₁ (mkF m 6 #[.val (.ref a1), .val (.ref c1)] [.null, (.int n.toInt32), (.int (0 : Int32)), (.ref c1), (.ref a1)]) (fun _ k => XS.aconstNull X0.here hx rfl (hb hby d2_5) k) ?_
  obtain ⟨T209, h209, v209, L209, k209, X209, e209, hS209, hk209, hZ209, hown209, ⟨t_209, kb_209, rfl, N209q, r209_0, r209_1, r209_2, r209_3⟩, c209, st209⟩ := W.special X0 hS0 (Nat.zero_le _) hx hZ (y := (⟨"java/lang/String", "<init>", "([CIILjava/lang/Void;)V"⟩ : MethodName)) rfl hown (wk hw 12 rfl) (wk hw 13 rfl) (wk hw 7 rfl) (wk hw 15 rfl) (by decide) (ctor4 l Z a0 hw a1 c1 kc n f cs h0 n0 O0 E1 F1 F2 Fc hp hcap g1 S_CS hcs) (own_EW hw) C0.1 e0 (g := (mkF m 6 #[.val (.ref a1), .val (.ref c1)] [.null, (.int n.toInt32), (.int (0 : Int32)), (.ref c1), (.ref a1)])) rfl (by rw [hml]; rfl) (a := a1) (argsL := [(.ref c1), (.int (0 : Int32)), (.int n.toInt32), .null]) (rest := []) rfl (lenOf pd___CIILjava_lang_Void__V rfl) rfl (W := 0) (by show 2 * 0 + _ ≤ _; exact Nat.le_of_eq rfl) (hb hby d2_6) (by decide) (by decide) (by decide) (by decide)
  have N210 := Fr.app N0 N209q
  have O211 := Old.keep O0 r209_0 (allS g1 all0)
  have K212 : Keep h0 h209 [a1] := Keep.trans (Keep.refl h0 [a1]) r209_0 (allS (Or.inl (List.mem_of_getElem? (i := 0) rfl)) all0)
  have c213 := c209
  have C214 := CHr.trans C0 c213
  refine WinW.to T209 (mkF m 9 #[.val (.ref a1), .val (.ref c1)] []) (fun _ k => st209 _ k) ?_
  exact WinW.retV X209 hS209 (by rw [e209]; exact hk209) hx hlk hret (hb hby d2_9) hZ209 (own_EW hw) (by rw [e209]; exact C214) (by decide) (by decide) (by (try rw [e209]); exact ⟨t_209, kb_209, rfl, N210, K212, r209_1, r209_2, r209_3⟩)
abbrev R_newLen : Room := ⟨0, 0, 0, 0⟩
set_option maxRecDepth 65536 in
set_option maxHeartbeats 40000000 in
theorem newLen (l : Launch) (Z : State) (a0 : Array Value) (hw : ∀ d ∈ tables_1, d.before a0 Z = true) (n : Nat) (h0 : Heap) (n0 : Nat) (O0 : Old Z n0 h0) (hcap : n ≤ 4) :
    MetN l Z (⟨"java/lang/StringUTF16", "newBytesLength", "(I)I"⟩ : MethodName) jdk_52_method_3_code 1 (some .int) R_newLen [] #[(.int n.toInt32)] h0 (fun v h L => v = some (.int (2 * n).toInt32) ∧ Fr n0 L ∧ h = h0) := by
  refine MetN.walk (plainFor_of_name pn_20) ?_
  intro p e s m below meth c s₁ hx hZ hby hml hown hnm hret hlk X0 e0
  have N0 := Fr.nil n0
  refine Win.to s₁ (mkF m 0 #[.val (.int n.toInt32)] []) (fun _ k => castTop (by first | (simp [entryFrame, mkF, argsToLocals, Value.category]; done) | rfl) k) ?_
  have h1 : n < 2 ^ 31 := by omega
  refine Win.to s₁ (mkF m 1 #[.val (.int n.toInt32)] [(.int n.toInt32)]) (fun _ k => XS.iloadN X0.here hx rfl (hb hby d20_0) rfl k) ?_
  refine Win.to s₁ (mkF m 12 #[.val (.int n.toInt32)] []) (fun _ k => XS.ifYes X0.here hx rfl (pc0 := 1) (pc' := 12) rfl (hb hby d20_1) rfl ((if0 _ _).trans (flt (show ¬ (n.toInt32 < (0 : Int32)) from (own_tn h1).2.1)).2.1) (by decide) (by decide) k) ?_
  refine Win.to s₁ (mkF m 13 #[.val (.int n.toInt32)] [(.int n.toInt32)]) (fun _ k => XS.iloadN X0.here hx rfl (hb hby d20_12) rfl k) ?_
  refine Win.to s₁ (mkF m 15 #[.val (.int n.toInt32)] [(.int (1073741823 : Int32)), (.int n.toInt32)]) (fun _ k => X0.ldcInt hx hown (mvT hZ (wk hw 96 rfl)) (g := (mkF m 13 #[.val (.int n.toInt32)] [(.int n.toInt32)])) rfl (hb hby d20_13) _ k) ?_
  refine Win.to s₁ (mkF m 55 #[.val (.int n.toInt32)] []) (fun _ k => XS.icmpYes X0.here hx rfl (pc0 := 15) (pc' := 55) rfl (hb hby d20_15) rfl (tlt (show n.toInt32 < (1073741823 : Int32) from ((own_lt (n := 1073741823) h1 (by decide)).mpr (by omega)))).1 (by decide) (by decide) k) ?_
  refine Win.to s₁ (mkF m 56 #[.val (.int n.toInt32)] [(.int n.toInt32)]) (fun _ k => XS.iloadN X0.here hx rfl (hb hby d20_55) rfl k) ?_
  refine Win.to s₁ (mkF m 57 #[.val (.int n.toInt32)] [(.int (1 : Int32)), (.int n.toInt32)]) (fun _ k => XS.iconst X0.here hx rfl (hb hby d20_56) k) ?_
  refine Win.to s₁ (mkF m 58 #[.val (.int n.toInt32)] [(.int (2 * n).toInt32)]) (fun _ k => XS.ishl X0.here hx rfl (hb hby d20_57) rfl (by rw [show (n.toInt32 <<< ((1 : Int32) &&& 31)) = (2 * n).toInt32 from own_shl1 (by omega)]; exact k)) ?_
  exact Win.retI X0 hx hlk hret (hb hby d20_58) (by decide) (by decide) (by (try rw [e0]); exact ⟨rfl, N0, rfl⟩)
abbrev R_newFor : Room := ⟨1, 1, 8, 12⟩
set_option maxRecDepth 65536 in
set_option maxHeartbeats 40000000 in
theorem newFor (l : Launch) (Z : State) (a0 : Array Value) (hw : ∀ d ∈ tables_1, d.before a0 Z = true) (n : Nat) (h0 : Heap) (n0 : Nat) (O0 : Old Z n0 h0) (hcap : n ≤ 4) :
    MetN l Z (⟨"java/lang/StringUTF16", "newBytesFor", "(I)[B"⟩ : MethodName) jdk_52_method_2_code 1 (some (.array .byte)) R_newFor [] #[(.int n.toInt32)] h0 (fun v h L => ∃ (t : Addr) (kb : ClassId), v = some (.ref t) ∧ Fr n0 L ∧ Keep h0 h [] ∧ h0.size ≤ t ∧ ArF Z h t kb .byte (2 * n) (fun _ => 0)) := by
  refine MetN.walk (plainFor_of_name pn_19) ?_
  intro p e s m below meth c s₁ hx hZ hby hml hown hnm hret hlk X0 e0
  have N0 := Fr.nil n0
  refine Win.to s₁ (mkF m 0 #[.val (.int n.toInt32)] []) (fun _ k => castTop (by first | (simp [entryFrame, mkF, argsToLocals, Value.category]; done) | rfl) k) ?_
  have h2 : 2 * n < 2 ^ 31 := by omega
  refine Win.to s₁ (mkF m 1 #[.val (.int n.toInt32)] [(.int n.toInt32)]) (fun _ k => XS.iloadN X0.here hx rfl (hb hby d19_0) rfl k) ?_
  obtain ⟨T215, h215, v215, L215, X215, e215, ⟨rfl, N215q, r215_0⟩, st215⟩ := N.static X0 hx hZ (y := (⟨"java/lang/StringUTF16", "newBytesLength", "(I)I"⟩ : MethodName)) hown (wk hw 93 rfl) (wk hw 94 rfl) (wk hw 48 rfl) (wk hw 95 rfl) (by decide) (newLen l Z a0 hw n h0 n0 O0 hcap) e0 (g := (mkF m 1 #[.val (.int n.toInt32)] [(.int n.toInt32)])) rfl (by rw [hml]; rfl) (argsL := [(.int n.toInt32)]) (rest := []) rfl (lenOf pd__I_I rfl) rfl (W := 0) (by show 2 * 0 + _ ≤ _; exact Nat.le_of_eq rfl) (hb hby d19_1) (by decide) (by decide) (by decide) (by decide)
  have N216 := Fr.app N0 N215q
  have e215 := e215.trans r215_0
  refine Win.to T215 (mkF m 4 #[.val (.int n.toInt32)] [(.int (2 * n).toInt32)]) (fun _ k => st215 _ k) ?_
  obtain ⟨T217, h217, k217, X217, e217, E217, A217, st217⟩ := newP X215 hx hZ (wk hw 20 rfl) e215 (g := (mkF m 4 #[.val (.int n.toInt32)] [(.int (2 * n).toInt32)])) rfl (hb hby d19_4) rfl (own_tn h2).2.1 (cap := 8) (by rw [(own_tn h2).1]; omega) (by decide) (by decide) (by decide)
  obtain ⟨b217, g217⟩ : ∃ z, z = h0.size := ⟨_, rfl⟩
  rw [← g217] at A217 st217
  have g218 : n0 ≤ b217 := Nat.le_trans (own_le O0) (Nat.le_of_eq g217.symm)
  have z219 : h0.size ≤ b217 := (Nat.le_of_eq g217.symm)
  have O220 := Old.ext O0 E217
  have K221 : Keep h0 h217 [] := (Keep.refl h0 []).ext E217
  have F222 : ArF Z h217 b217 k217 .byte (2 * n) (fun _ => 0) := (own_tn h2).1 ▸ ArF.new A217 (own_tn h2).2.1 rfl
  refine Win.to T217 (mkF m 6 #[.val (.int n.toInt32)] [(.ref b217)]) (fun _ k => st217 _ k) ?_
  exact Win.retA X217 hx hlk hret rfl rfl (hb hby d19_6) (by decide) (by decide) (by (try rw [e217]); exact ⟨b217, k217, rfl, N216, K221, z219, F222⟩)
abbrev R_len16 : Room := ⟨0, 0, 0, 0⟩
set_option maxRecDepth 65536 in
set_option maxHeartbeats 40000000 in
theorem len16 (l : Launch) (Z : State) (a0 : Array Value) (hw : ∀ d ∈ tables_1, d.before a0 Z = true) (b1 : Addr) (kb : ClassId) (n : Nat) (gf : Nat → Int32) (h0 : Heap) (n0 : Nat) (O0 : Old Z n0 h0) (Fb : ArF Z h0 b1 kb .byte (2 * n) gf) :
    MetN l Z (⟨"java/lang/StringUTF16", "length", "([B)I"⟩ : MethodName) jdk_52_method_6_code 1 (some .int) R_len16 [] #[(.ref b1)] h0 (fun v h L => v = some (.int n.toInt32) ∧ Fr n0 L ∧ h = h0) := by
  refine MetN.walk (plainFor_of_name pn_25) ?_
  intro p e s m below meth c s₁ hx hZ hby hml hown hnm hret hlk X0 e0
  have N0 := Fr.nil n0
  refine Win.to s₁ (mkF m 0 #[.val (.ref b1)] []) (fun _ k => castTop (by first | (simp [entryFrame, mkF, argsToLocals, Value.category]; done) | rfl) k) ?_
  refine Win.to s₁ (mkF m 1 #[.val (.ref b1)] [(.ref b1)]) (fun _ k => XS.aloadN X0.here hx rfl (hb hby d25_0) rfl rfl k) ?_
  obtain ⟨cl223, Ar223, hl223⟩ := ArF.len Fb
  refine Win.to s₁ (mkF m 2 #[.val (.ref b1)] [(.int (2 * n).toInt32)]) (fun _ k => X0.arraylength hx (by rw [e0]; exact Ar223.1) (State.isArrayOf_alike hZ.alike Ar223.2.1) (g := (mkF m 1 #[.val (.ref b1)] [(.ref b1)])) rfl rfl (hb hby d25_1) _ (by rw [hl223]; exact k)) ?_
  refine Win.to s₁ (mkF m 3 #[.val (.ref b1)] [(.int (1 : Int32)), (.int (2 * n).toInt32)]) (fun _ k => XS.iconst X0.here hx rfl (hb hby d25_2) k) ?_
  refine Win.to s₁ (mkF m 4 #[.val (.ref b1)] [(.int n.toInt32)]) (fun _ k => XS.ishr X0.here hx rfl (hb hby d25_3) rfl (by rw [show ((2 * n).toInt32 >>> ((1 : Int32) &&& 31)) = n.toInt32 from own_shr1 Fb.big]; exact k)) ?_
  exact Win.retI X0 hx hlk hret (hb hby d25_4) (by decide) (by decide) (by (try rw [e0]); exact ⟨rfl, N0, rfl⟩)
abbrev R_putCh : Room := ⟨0, 0, 0, 0⟩
set_option maxRecDepth 65536 in
set_option maxHeartbeats 40000000 in
theorem putCh (l : Launch) (Z : State) (a0 : Array Value) (hw : ∀ d ∈ tables_1, d.before a0 Z = true) (b1 : Addr) (kb : ClassId) (nn : Nat) (gf : Nat → Int32) (i : Nat) (ch : Int32) (h0 : Heap) (n0 : Nat) (O0 : Old Z n0 h0) (Fb : ArF Z h0 b1 kb .byte nn gf) (hi : 2 * i + 1 < nn) (g1 : n0 ≤ b1) (S_AD : Sta Z Z.heap "java/lang/StringUTF16" "$assertionsDisabled" "Z" (.int (1 : Int32))) (S_HI : Sta Z Z.heap "java/lang/StringUTF16" "HI_BYTE_SHIFT" "I" (.int (0 : Int32))) (S_LO : Sta Z Z.heap "java/lang/StringUTF16" "LO_BYTE_SHIFT" "I" (.int (8 : Int32))) :
    MetN l Z (⟨"java/lang/StringUTF16", "putChar", "([BII)V"⟩ : MethodName) jdk_52_method_4_code 3 none R_putCh [] #[(.ref b1), (.int i.toInt32), (.int ch)] h0 (fun v h L => v = none ∧ Fr n0 L ∧ Keep h0 h [b1] ∧ ArF Z h b1 kb .byte nn (upd (upd gf (2 * i) ((ch >>> ((0 : Int32) &&& 31)).toInt8.toInt32)) (2 * i + 1) ((ch >>> ((8 : Int32) &&& 31)).toInt8.toInt32))) := by
  refine MetN.walk (plainFor_of_name pn_21) ?_
  intro p e s m below meth c s₁ hx hZ hby hml hown hnm hret hlk X0 e0
  have N0 := Fr.nil n0
  refine Win.to s₁ (mkF m 0 #[.val (.ref b1), .val (.int i.toInt32), .val (.int ch)] []) (fun _ k => castTop (by first | (simp [entryFrame, mkF, argsToLocals, Value.category]; done) | rfl) k) ?_
  have hn := Fb.big
  have h2 : 2 * i < 2 ^ 31 := by omega
  have h3 : 2 * i + 1 < 2 ^ 31 := by omega
  obtain ⟨T224, X224, e224, st224⟩ := getS2 X0 hx hZ hown (host := "") (Or.inl (wk hw 100 rfl)) Via.refl e0 (Sta.ext O0.2 S_AD) (g := (mkF m 0 #[.val (.ref b1), .val (.int i.toInt32), .val (.int ch)] [])) rfl (hb hby d21_0)
  refine Win.to T224 (mkF m 3 #[.val (.ref b1), .val (.int i.toInt32), .val (.int ch)] [(.int (1 : Int32))]) (fun _ k => st224 _ k) ?_
  refine Win.to T224 (mkF m 28 #[.val (.ref b1), .val (.int i.toInt32), .val (.int ch)] []) (fun _ k => XS.ifYes X224.here hx rfl (pc0 := 3) (pc' := 28) rfl (hb hby d21_3) rfl ((if0 _ _).trans (feq (show ¬ ((1 : Int32) = (0 : Int32)) from by decide)).2) (by decide) (by decide) k) ?_
  refine Win.to T224 (mkF m 29 #[.val (.ref b1), .val (.int i.toInt32), .val (.int ch)] [(.int i.toInt32)]) (fun _ k => XS.iloadN X224.here hx rfl (hb hby d21_28) rfl k) ?_
  refine Win.to T224 (mkF m 30 #[.val (.ref b1), .val (.int i.toInt32), .val (.int ch)] [(.int (1 : Int32)), (.int i.toInt32)]) (fun _ k => XS.iconst X224.here hx rfl (hb hby d21_29) k) ?_
  refine Win.to T224 (mkF m 31 #[.val (.ref b1), .val (.int i.toInt32), .val (.int ch)] [(.int (2 * i).toInt32)]) (fun _ k => XS.ishl X224.here hx rfl (hb hby d21_30) rfl (by rw [show (i.toInt32 <<< ((1 : Int32) &&& 31)) = (2 * i).toInt32 from own_shl1 (by omega)]; exact k)) ?_
  refine Win.to T224 (mkF m 32 #[.val (.ref b1), .val (.int (2 * i).toInt32), .val (.int ch)] []) (fun _ k => XS.istoreN X224.here hx rfl (hb hby d21_31) rfl (l' := #[.val (.ref b1), .val (.int (2 * i).toInt32), .val (.int ch)]) rfl k) ?_
  refine Win.to T224 (mkF m 33 #[.val (.ref b1), .val (.int (2 * i).toInt32), .val (.int ch)] [(.ref b1)]) (fun _ k => XS.aloadN X224.here hx rfl (hb hby d21_32) rfl rfl k) ?_
  refine Win.to T224 (mkF m 34 #[.val (.ref b1), .val (.int (2 * i).toInt32), .val (.int ch)] [(.int (2 * i).toInt32), (.ref b1)]) (fun _ k => XS.iloadN X224.here hx rfl (hb hby d21_33) rfl k) ?_
  refine Win.to T224 (mkF m 37 #[.val (.ref b1), .val (.int ((2 * i).toInt32 + (1 : Int32))), .val (.int ch)] [(.int (2 * i).toInt32), (.ref b1)]) (fun _ k => XS.iinc X224.here hx rfl (hb hby d21_34) rfl (l' := #[.val (.ref b1), .val (.int ((2 * i).toInt32 + (1 : Int32))), .val (.int ch)]) rfl k) ?_
  refine Win.to T224 (mkF m 38 #[.val (.ref b1), .val (.int ((2 * i).toInt32 + (1 : Int32))), .val (.int ch)] [(.int ch), (.int (2 * i).toInt32), (.ref b1)]) (fun _ k => XS.iloadN X224.here hx rfl (hb hby d21_37) rfl k) ?_
  obtain ⟨T225, X225, e225, st225⟩ := getS2 X224 hx hZ hown (host := "") (Or.inl (wk hw 101 rfl)) Via.refl e224 (Sta.ext O0.2 S_HI) (g := (mkF m 38 #[.val (.ref b1), .val (.int ((2 * i).toInt32 + (1 : Int32))), .val (.int ch)] [(.int ch), (.int (2 * i).toInt32), (.ref b1)])) rfl (hb hby d21_38)
  refine Win.to T225 (mkF m 41 #[.val (.ref b1), .val (.int ((2 * i).toInt32 + (1 : Int32))), .val (.int ch)] [(.int (0 : Int32)), (.int ch), (.int (2 * i).toInt32), (.ref b1)]) (fun _ k => st225 _ k) ?_
  refine Win.to T225 (mkF m 42 #[.val (.ref b1), .val (.int ((2 * i).toInt32 + (1 : Int32))), .val (.int ch)] [(.int (ch >>> ((0 : Int32) &&& 31))), (.int (2 * i).toInt32), (.ref b1)]) (fun _ k => XS.ishr X225.here hx rfl (hb hby d21_41) rfl k) ?_
  refine Win.to T225 (mkF m 43 #[.val (.ref b1), .val (.int ((2 * i).toInt32 + (1 : Int32))), .val (.int ch)] [(.int ((ch >>> ((0 : Int32) &&& 31)).toInt8.toInt32)), (.int (2 * i).toInt32), (.ref b1)]) (fun _ k => XS.i2b X225.here hx rfl (hb hby d21_42) rfl k) ?_
  obtain ⟨cl226, Ar226, hi226, -⟩ := ArF.at Fb (j := (2 * i).toInt32) (i := (2 * i)) (own_tn h2).1 (own_tn h2).2.1 (by omega)
  obtain ⟨T227, h227, X227, e227, W227, st227⟩ := stB X225 hx hZ e225 Ar226 (j := (2 * i).toInt32) hi226 (g := (mkF m 43 #[.val (.ref b1), .val (.int ((2 * i).toInt32 + (1 : Int32))), .val (.int ch)] [(.int ((ch >>> ((0 : Int32) &&& 31)).toInt8.toInt32)), (.int (2 * i).toInt32), (.ref b1)])) rfl rfl (hb hby d21_43)
  have O228 := Old.wr O0 W227 g1
  have K229 : Keep h0 h227 [b1] := (Keep.refl h0 [b1]).wr W227 (Or.inl (List.mem_of_getElem? (i := 0) rfl))
  have N230 := Fr.snoc X227 N0 g1
  have eq227 : nar .byte ((ch >>> ((0 : Int32) &&& 31)).toInt8.toInt32) = ((ch >>> ((0 : Int32) &&& 31)).toInt8.toInt32) := (own_b8 (ch >>> ((0 : Int32) &&& 31)))
  have W227 := eq227 ▸ W227
  have F231 : ArF Z h227 b1 kb .byte nn (upd gf (2 * i) ((ch >>> ((0 : Int32) &&& 31)).toInt8.toInt32)) := ArF.set Fb W227 (own_tn h2).1 (by omega) (eq227 ▸ (fits_nar_byte _))
  refine Win.to T227 (mkF m 44 #[.val (.ref b1), .val (.int ((2 * i).toInt32 + (1 : Int32))), .val (.int ch)] []) (fun _ k => st227 _ k) ?_
  refine Win.to T227 (mkF m 45 #[.val (.ref b1), .val (.int ((2 * i).toInt32 + (1 : Int32))), .val (.int ch)] [(.ref b1)]) (fun _ k => XS.aloadN X227.here hx rfl (hb hby d21_44) rfl rfl k) ?_
  refine Win.to T227 (mkF m 46 #[.val (.ref b1), .val (.int ((2 * i).toInt32 + (1 : Int32))), .val (.int ch)] [(.int ((2 * i).toInt32 + (1 : Int32))), (.ref b1)]) (fun _ k => XS.iloadN X227.here hx rfl (hb hby d21_45) rfl k) ?_
  refine Win.to T227 (mkF m 47 #[.val (.ref b1), .val (.int ((2 * i).toInt32 + (1 : Int32))), .val (.int ch)] [(.int ch), (.int ((2 * i).toInt32 + (1 : Int32))), (.ref b1)]) (fun _ k => XS.iloadN X227.here hx rfl (hb hby d21_46) rfl k) ?_
  obtain ⟨T232, X232, e232, st232⟩ := getS2 X227 hx hZ hown (host := "") (Or.inl (wk hw 102 rfl)) Via.refl e227 (Sta.ext O228.2 S_LO) (g := (mkF m 47 #[.val (.ref b1), .val (.int ((2 * i).toInt32 + (1 : Int32))), .val (.int ch)] [(.int ch), (.int ((2 * i).toInt32 + (1 : Int32))), (.ref b1)])) rfl (hb hby d21_47)
  refine Win.to T232 (mkF m 50 #[.val (.ref b1), .val (.int ((2 * i).toInt32 + (1 : Int32))), .val (.int ch)] [(.int (8 : Int32)), (.int ch), (.int ((2 * i).toInt32 + (1 : Int32))), (.ref b1)]) (fun _ k => st232 _ k) ?_
  refine Win.to T232 (mkF m 51 #[.val (.ref b1), .val (.int ((2 * i).toInt32 + (1 : Int32))), .val (.int ch)] [(.int (ch >>> ((8 : Int32) &&& 31))), (.int ((2 * i).toInt32 + (1 : Int32))), (.ref b1)]) (fun _ k => XS.ishr X232.here hx rfl (hb hby d21_50) rfl k) ?_
  refine Win.to T232 (mkF m 52 #[.val (.ref b1), .val (.int ((2 * i).toInt32 + (1 : Int32))), .val (.int ch)] [(.int ((ch >>> ((8 : Int32) &&& 31)).toInt8.toInt32)), (.int ((2 * i).toInt32 + (1 : Int32))), (.ref b1)]) (fun _ k => XS.i2b X232.here hx rfl (hb hby d21_51) rfl k) ?_
  obtain ⟨cl233, Ar233, hi233, -⟩ := ArF.at F231 (j := ((2 * i).toInt32 + (1 : Int32))) (i := (2 * i + 1)) (by rw [own_succ]; exact (own_tn h3).1) (by rw [own_succ]; exact (own_tn h3).2.1) hi
  obtain ⟨T234, h234, X234, e234, W234, st234⟩ := stB X232 hx hZ e232 Ar233 (j := ((2 * i).toInt32 + (1 : Int32))) hi233 (g := (mkF m 52 #[.val (.ref b1), .val (.int ((2 * i).toInt32 + (1 : Int32))), .val (.int ch)] [(.int ((ch >>> ((8 : Int32) &&& 31)).toInt8.toInt32)), (.int ((2 * i).toInt32 + (1 : Int32))), (.ref b1)])) rfl rfl (hb hby d21_52)
  have O235 := Old.wr O228 W234 g1
  have K236 : Keep h0 h234 [b1] := K229.wr W234 (Or.inl (List.mem_of_getElem? (i := 0) rfl))
  have N237 := Fr.snoc X234 N230 g1
  have eq234 : nar .byte ((ch >>> ((8 : Int32) &&& 31)).toInt8.toInt32) = ((ch >>> ((8 : Int32) &&& 31)).toInt8.toInt32) := (own_b8 (ch >>> ((8 : Int32) &&& 31)))
  have W234 := eq234 ▸ W234
  have F238 : ArF Z h234 b1 kb .byte nn (upd (upd gf (2 * i) ((ch >>> ((0 : Int32) &&& 31)).toInt8.toInt32)) (2 * i + 1) ((ch >>> ((8 : Int32) &&& 31)).toInt8.toInt32)) := ArF.set F231 W234 (by rw [own_succ]; exact (own_tn h3).1) hi (eq234 ▸ (fits_nar_byte _))
  refine Win.to T234 (mkF m 53 #[.val (.ref b1), .val (.int ((2 * i).toInt32 + (1 : Int32))), .val (.int ch)] []) (fun _ k => st234 _ k) ?_
  exact Win.retV X234 hx hlk hret (hb hby d21_53) (by decide) (by decide) (by (try rw [e234]); exact ⟨rfl, N237, K236, F238⟩)
abbrev R_getCh : Room := ⟨0, 0, 0, 0⟩
set_option maxRecDepth 65536 in
set_option maxHeartbeats 40000000 in
theorem getCh (l : Launch) (Z : State) (a0 : Array Value) (hw : ∀ d ∈ tables_1, d.before a0 Z = true) (b1 : Addr) (kb : ClassId) (nn : Nat) (gf : Nat → Int32) (i : Nat) (ch : Int32) (h0 : Heap) (n0 : Nat) (O0 : Old Z n0 h0) (Fb : ArF Z h0 b1 kb .byte nn gf) (hi : 2 * i + 1 < nn) (hv : own_gc (gf (2 * i)) (gf (2 * i + 1)) = ch) (S_AD : Sta Z Z.heap "java/lang/StringUTF16" "$assertionsDisabled" "Z" (.int (1 : Int32))) (S_HI : Sta Z Z.heap "java/lang/StringUTF16" "HI_BYTE_SHIFT" "I" (.int (0 : Int32))) (S_LO : Sta Z Z.heap "java/lang/StringUTF16" "LO_BYTE_SHIFT" "I" (.int (8 : Int32))) :
    MetN l Z (⟨"java/lang/StringUTF16", "getChar", "([BI)C"⟩ : MethodName) jdk_52_method_5_code 2 (some .char) R_getCh [] #[(.ref b1), (.int i.toInt32)] h0 (fun v h L => v = some (.int ch) ∧ Fr n0 L ∧ h = h0) := by
  refine MetN.walk (plainFor_of_name pn_22) ?_
  intro p e s m below meth c s₁ hx hZ hby hml hown hnm hret hlk X0 e0
  have N0 := Fr.nil n0
  refine Win.to s₁ (mkF m 0 #[.val (.ref b1), .val (.int i.toInt32)] []) (fun _ k => castTop (by first | (simp [entryFrame, mkF, argsToLocals, Value.category]; done) | rfl) k) ?_
  have hn := Fb.big
  have h2 : 2 * i < 2 ^ 31 := by omega
  have h3 : 2 * i + 1 < 2 ^ 31 := by omega
  obtain ⟨T239, X239, e239, st239⟩ := getS2 X0 hx hZ hown (host := "") (Or.inl (wk hw 100 rfl)) Via.refl e0 (Sta.ext O0.2 S_AD) (g := (mkF m 0 #[.val (.ref b1), .val (.int i.toInt32)] [])) rfl (hb hby d22_0)
  refine Win.to T239 (mkF m 3 #[.val (.ref b1), .val (.int i.toInt32)] [(.int (1 : Int32))]) (fun _ k => st239 _ k) ?_
  refine Win.to T239 (mkF m 28 #[.val (.ref b1), .val (.int i.toInt32)] []) (fun _ k => XS.ifYes X239.here hx rfl (pc0 := 3) (pc' := 28) rfl (hb hby d22_3) rfl ((if0 _ _).trans (feq (show ¬ ((1 : Int32) = (0 : Int32)) from by decide)).2) (by decide) (by decide) k) ?_
  refine Win.to T239 (mkF m 29 #[.val (.ref b1), .val (.int i.toInt32)] [(.int i.toInt32)]) (fun _ k => XS.iloadN X239.here hx rfl (hb hby d22_28) rfl k) ?_
  refine Win.to T239 (mkF m 30 #[.val (.ref b1), .val (.int i.toInt32)] [(.int (1 : Int32)), (.int i.toInt32)]) (fun _ k => XS.iconst X239.here hx rfl (hb hby d22_29) k) ?_
  refine Win.to T239 (mkF m 31 #[.val (.ref b1), .val (.int i.toInt32)] [(.int (2 * i).toInt32)]) (fun _ k => XS.ishl X239.here hx rfl (hb hby d22_30) rfl (by rw [show (i.toInt32 <<< ((1 : Int32) &&& 31)) = (2 * i).toInt32 from own_shl1 (by omega)]; exact k)) ?_
  refine Win.to T239 (mkF m 32 #[.val (.ref b1), .val (.int (2 * i).toInt32)] []) (fun _ k => XS.istoreN X239.here hx rfl (hb hby d22_31) rfl (l' := #[.val (.ref b1), .val (.int (2 * i).toInt32)]) rfl k) ?_
  refine Win.to T239 (mkF m 33 #[.val (.ref b1), .val (.int (2 * i).toInt32)] [(.ref b1)]) (fun _ k => XS.aloadN X239.here hx rfl (hb hby d22_32) rfl rfl k) ?_
  refine Win.to T239 (mkF m 34 #[.val (.ref b1), .val (.int (2 * i).toInt32)] [(.int (2 * i).toInt32), (.ref b1)]) (fun _ k => XS.iloadN X239.here hx rfl (hb hby d22_33) rfl k) ?_
  refine Win.to T239 (mkF m 37 #[.val (.ref b1), .val (.int ((2 * i).toInt32 + (1 : Int32)))] [(.int (2 * i).toInt32), (.ref b1)]) (fun _ k => XS.iinc X239.here hx rfl (hb hby d22_34) rfl (l' := #[.val (.ref b1), .val (.int ((2 * i).toInt32 + (1 : Int32)))]) rfl k) ?_
  obtain ⟨cl240, Ar240, hi240, ha240⟩ := ArF.at Fb (j := (2 * i).toInt32) (i := (2 * i)) (own_tn h2).1 (own_tn h2).2.1 (by omega)
  refine Win.to T239 (mkF m 38 #[.val (.ref b1), .val (.int ((2 * i).toInt32 + (1 : Int32)))] [(.int (gf (2 * i)))]) (fun _ k => X239.baloadBytes hx (j := (2 * i).toInt32) (v := (.int (gf (2 * i)))) (by rw [e239]; exact Ar240.1) (State.isArrayOf_alike hZ.alike Ar240.2.1) Ar240.2.2 hi240 ha240 (g := (mkF m 37 #[.val (.ref b1), .val (.int ((2 * i).toInt32 + (1 : Int32)))] [(.int (2 * i).toInt32), (.ref b1)])) rfl rfl (hb hby d22_37) _ k) ?_
  refine Win.to T239 (mkF m 41 #[.val (.ref b1), .val (.int ((2 * i).toInt32 + (1 : Int32)))] [(.int (255 : Int32)), (.int (gf (2 * i)))]) (fun _ k => XS.sipush X239.here hx rfl (hb hby d22_38) k) ?_
  refine Win.to T239 (mkF m 42 #[.val (.ref b1), .val (.int ((2 * i).toInt32 + (1 : Int32)))] [(.int ((gf (2 * i)) &&& (255 : Int32)))]) (fun _ k => XS.iand X239.here hx rfl (hb hby d22_41) rfl k) ?_
  obtain ⟨T241, X241, e241, st241⟩ := getS2 X239 hx hZ hown (host := "") (Or.inl (wk hw 101 rfl)) Via.refl e239 (Sta.ext O0.2 S_HI) (g := (mkF m 42 #[.val (.ref b1), .val (.int ((2 * i).toInt32 + (1 : Int32)))] [(.int ((gf (2 * i)) &&& (255 : Int32)))])) rfl (hb hby d22_42)
  refine Win.to T241 (mkF m 45 #[.val (.ref b1), .val (.int ((2 * i).toInt32 + (1 : Int32)))] [(.int (0 : Int32)), (.int ((gf (2 * i)) &&& (255 : Int32)))]) (fun _ k => st241 _ k) ?_
  refine Win.to T241 (mkF m 46 #[.val (.ref b1), .val (.int ((2 * i).toInt32 + (1 : Int32)))] [(.int (((gf (2 * i)) &&& (255 : Int32)) <<< ((0 : Int32) &&& 31)))]) (fun _ k => XS.ishl X241.here hx rfl (hb hby d22_45) rfl k) ?_
  refine Win.to T241 (mkF m 47 #[.val (.ref b1), .val (.int ((2 * i).toInt32 + (1 : Int32)))] [(.ref b1), (.int (((gf (2 * i)) &&& (255 : Int32)) <<< ((0 : Int32) &&& 31)))]) (fun _ k => XS.aloadN X241.here hx rfl (hb hby d22_46) rfl rfl k) ?_
  refine Win.to T241 (mkF m 48 #[.val (.ref b1), .val (.int ((2 * i).toInt32 + (1 : Int32)))] [(.int ((2 * i).toInt32 + (1 : Int32))), (.ref b1), (.int (((gf (2 * i)) &&& (255 : Int32)) <<< ((0 : Int32) &&& 31)))]) (fun _ k => XS.iloadN X241.here hx rfl (hb hby d22_47) rfl k) ?_
  obtain ⟨cl242, Ar242, hi242, ha242⟩ := ArF.at Fb (j := ((2 * i).toInt32 + (1 : Int32))) (i := (2 * i + 1)) (by rw [own_succ]; exact (own_tn h3).1) (by rw [own_succ]; exact (own_tn h3).2.1) hi
  refine Win.to T241 (mkF m 49 #[.val (.ref b1), .val (.int ((2 * i).toInt32 + (1 : Int32)))] [(.int (gf (2 * i + 1))), (.int (((gf (2 * i)) &&& (255 : Int32)) <<< ((0 : Int32) &&& 31)))]) (fun _ k => X241.baloadBytes hx (j := ((2 * i).toInt32 + (1 : Int32))) (v := (.int (gf (2 * i + 1)))) (by rw [e241]; exact Ar242.1) (State.isArrayOf_alike hZ.alike Ar242.2.1) Ar242.2.2 hi242 ha242 (g := (mkF m 48 #[.val (.ref b1), .val (.int ((2 * i).toInt32 + (1 : Int32)))] [(.int ((2 * i).toInt32 + (1 : Int32))), (.ref b1), (.int (((gf (2 * i)) &&& (255 : Int32)) <<< ((0 : Int32) &&& 31)))])) rfl rfl (hb hby d22_48) _ k) ?_
  refine Win.to T241 (mkF m 52 #[.val (.ref b1), .val (.int ((2 * i).toInt32 + (1 : Int32)))] [(.int (255 : Int32)), (.int (gf (2 * i + 1))), (.int (((gf (2 * i)) &&& (255 : Int32)) <<< ((0 : Int32) &&& 31)))]) (fun _ k => XS.sipush X241.here hx rfl (hb hby d22_49) k) ?_
  refine Win.to T241 (mkF m 53 #[.val (.ref b1), .val (.int ((2 * i).toInt32 + (1 : Int32)))] [(.int ((gf (2 * i + 1)) &&& (255 : Int32))), (.int (((gf (2 * i)) &&& (255 : Int32)) <<< ((0 : Int32) &&& 31)))]) (fun _ k => XS.iand X241.here hx rfl (hb hby d22_52) rfl k) ?_
  obtain ⟨T243, X243, e243, st243⟩ := getS2 X241 hx hZ hown (host := "") (Or.inl (wk hw 102 rfl)) Via.refl e241 (Sta.ext O0.2 S_LO) (g := (mkF m 53 #[.val (.ref b1), .val (.int ((2 * i).toInt32 + (1 : Int32)))] [(.int ((gf (2 * i + 1)) &&& (255 : Int32))), (.int (((gf (2 * i)) &&& (255 : Int32)) <<< ((0 : Int32) &&& 31)))])) rfl (hb hby d22_53)
  refine Win.to T243 (mkF m 56 #[.val (.ref b1), .val (.int ((2 * i).toInt32 + (1 : Int32)))] [(.int (8 : Int32)), (.int ((gf (2 * i + 1)) &&& (255 : Int32))), (.int (((gf (2 * i)) &&& (255 : Int32)) <<< ((0 : Int32) &&& 31)))]) (fun _ k => st243 _ k) ?_
  refine Win.to T243 (mkF m 57 #[.val (.ref b1), .val (.int ((2 * i).toInt32 + (1 : Int32)))] [(.int (((gf (2 * i + 1)) &&& (255 : Int32)) <<< ((8 : Int32) &&& 31))), (.int (((gf (2 * i)) &&& (255 : Int32)) <<< ((0 : Int32) &&& 31)))]) (fun _ k => XS.ishl X243.here hx rfl (hb hby d22_56) rfl k) ?_
  refine Win.to T243 (mkF m 58 #[.val (.ref b1), .val (.int ((2 * i).toInt32 + (1 : Int32)))] [(.int ((((gf (2 * i)) &&& (255 : Int32)) <<< ((0 : Int32) &&& 31)) ||| (((gf (2 * i + 1)) &&& (255 : Int32)) <<< ((8 : Int32) &&& 31))))]) (fun _ k => XS.ior X243.here hx rfl (hb hby d22_57) rfl k) ?_
  refine Win.to T243 (mkF m 59 #[.val (.ref b1), .val (.int ((2 * i).toInt32 + (1 : Int32)))] [(.int (((((gf (2 * i)) &&& (255 : Int32)) <<< ((0 : Int32) &&& 31)) ||| (((gf (2 * i + 1)) &&& (255 : Int32)) <<< ((8 : Int32) &&& 31))).toUInt32.toUInt16.toUInt32.toInt32))]) (fun _ k => XS.i2c X243.here hx rfl (hb hby d22_58) rfl k) ?_
  exact Win.retN X243 hx hlk (t := .char) hret (by simp) (show nar .char (((((gf (2 * i)) &&& (255 : Int32)) <<< ((0 : Int32) &&& 31)) ||| (((gf (2 * i + 1)) &&& (255 : Int32)) <<< ((8 : Int32) &&& 31))).toUInt32.toUInt16.toUInt32.toInt32) = (((((gf (2 * i)) &&& (255 : Int32)) <<< ((0 : Int32) &&& 31)) ||| (((gf (2 * i + 1)) &&& (255 : Int32)) <<< ((8 : Int32) &&& 31))).toUInt32.toUInt16.toUInt32.toInt32) from (own_c16 ((((gf (2 * i)) &&& (255 : Int32)) <<< ((0 : Int32) &&& 31)) ||| (((gf (2 * i + 1)) &&& (255 : Int32)) <<< ((8 : Int32) &&& 31))))) (hb hby d22_59) (by decide) (by decide) (by (try rw [e243]); exact ⟨(own_eqi hv.symm), N0, rfl⟩)
abbrev R_toB16 : Room := ⟨2, 1, 8, 24⟩
set_option maxRecDepth 65536 in
set_option maxHeartbeats 40000000 in
theorem toB16 (l : Launch) (Z : State) (a0 : Array Value) (hw : ∀ d ∈ tables_1, d.before a0 Z = true) (c1 : Addr) (kc : ClassId) (n : Nat) (f : Nat → Int32) (h0 : Heap) (n0 : Nat) (O0 : Old Z n0 h0) (Fc : ArF Z h0 c1 kc .char n f) (hcap : n ≤ 4) (S_AD : Sta Z Z.heap "java/lang/StringUTF16" "$assertionsDisabled" "Z" (.int (1 : Int32))) (S_HI : Sta Z Z.heap "java/lang/StringUTF16" "HI_BYTE_SHIFT" "I" (.int (0 : Int32))) (S_LO : Sta Z Z.heap "java/lang/StringUTF16" "LO_BYTE_SHIFT" "I" (.int (8 : Int32))) :
    MetN l Z (⟨"java/lang/StringUTF16", "toBytes", "([CII)[B"⟩ : MethodName) jdk_52_method_14_code 5 (some (.array .byte)) R_toB16 [] #[(.ref c1), (.int (0 : Int32)), (.int n.toInt32)] h0 (fun v h L => ∃ (t : Addr) (kb : ClassId), v = some (.ref t) ∧ Fr n0 L ∧ Keep h0 h [] ∧ h0.size ≤ t ∧ ArF Z h t kb .byte (2 * n) (u16 f)) := by
  refine MetN.walk (plainFor_of_name pn_18) ?_
  intro p e s m below meth c s₁ hx hZ hby hml hown hnm hret hlk X0 e0
  have N0 := Fr.nil n0
  refine Win.to s₁ (mkF m 0 #[.val (.ref c1), .val (.int (0 : Int32)), .val (.int n.toInt32), .unset, .unset] []) (fun _ k => castTop (by first | (simp [entryFrame, mkF, argsToLocals, Value.category]; done) | rfl) k) ?_
  have hn := Fc.big
  refine Win.to s₁ (mkF m 1 #[.val (.ref c1), .val (.int (0 : Int32)), .val (.int n.toInt32), .unset, .unset] [(.int n.toInt32)]) (fun _ k => XS.iloadN X0.here hx rfl (hb hby d18_0) rfl k) ?_
  obtain ⟨T244, h244, v244, L244, X244, e244, ⟨t_244, kb_244, rfl, N244q, r244_0, r244_1, r244_2⟩, st244⟩ := N.static X0 hx hZ (y := (⟨"java/lang/StringUTF16", "newBytesFor", "(I)[B"⟩ : MethodName)) hown (wk hw 90 rfl) (wk hw 91 rfl) (wk hw 48 rfl) (wk hw 92 rfl) (by decide) (newFor l Z a0 hw n h0 n0 O0 hcap) e0 (g := (mkF m 1 #[.val (.ref c1), .val (.int (0 : Int32)), .val (.int n.toInt32), .unset, .unset] [(.int n.toInt32)])) rfl (by rw [hml]; rfl) (argsL := [(.int n.toInt32)]) (rest := []) rfl (lenOf pd__I__B rfl) rfl (W := 0) (by show 2 * 0 + _ ≤ _; exact Nat.le_of_eq rfl) (hb hby d18_1) (by decide) (by decide) (by decide) (by decide)
  have N245 := Fr.app N0 N244q
  have ne246 : c1 ≠ t_244 := Nat.ne_of_lt (Nat.lt_of_lt_of_le Fc.lt r244_1)
  have g247 : n0 ≤ t_244 := Nat.le_trans (own_le O0) r244_1
  have z248 : h0.size ≤ t_244 := r244_1
  have O249 := Old.keep O0 r244_0 all0
  have K250 : Keep h0 h244 [] := Keep.trans (Keep.refl h0 []) r244_0 all0
  refine Win.to T244 (mkF m 4 #[.val (.ref c1), .val (.int (0 : Int32)), .val (.int n.toInt32), .unset, .unset] [(.ref t_244)]) (fun _ k => st244 _ k) ?_
  refine Win.to T244 (mkF m 5 #[.val (.ref c1), .val (.int (0 : Int32)), .val (.int n.toInt32), .val (.ref t_244), .unset] []) (fun _ k => XS.astoreN X244.here hx rfl (hb hby d18_4) rfl rfl (l' := #[.val (.ref c1), .val (.int (0 : Int32)), .val (.int n.toInt32), .val (.ref t_244), .unset]) rfl k) ?_
  refine Win.to T244 (mkF m 6 #[.val (.ref c1), .val (.int (0 : Int32)), .val (.int n.toInt32), .val (.ref t_244), .unset] [(.int (0 : Int32))]) (fun _ k => XS.iconst X244.here hx rfl (hb hby d18_5) k) ?_
  refine Win.to T244 (mkF m 8 #[.val (.ref c1), .val (.int (0 : Int32)), .val (.int n.toInt32), .val (.ref t_244), .val (.int (0 : Int32))] []) (fun _ k => XS.istore X244.here hx rfl (hb hby d18_6) rfl (l' := #[.val (.ref c1), .val (.int (0 : Int32)), .val (.int n.toInt32), .val (.ref t_244), .val (.int (0 : Int32))]) rfl k) ?_
  have loop : ∀ (q j : Nat), j + q = n → ∀ (T : State) (locs : List Loc) (h : Heap) (X : Stand p l e R_toB16 s m #[(.ref c1), (.int (0 : Int32)), (.int n.toInt32)] below meth c T locs 1 8) (Nq : Fr n0 locs) (eT : T.heap = h) (O : Old Z n0 h) (K : Keep h0 h []) (Gd : ArF Z h t_244 kb_244 .byte (2 * n) (fun i => if i < 2 * j then u16 f i else 0)) (Gc : ArF Z h c1 kc .char n f), Win p e below s R_toB16 (fun v h L => ∃ (t : Addr) (kb : ClassId), v = some (.ref t) ∧ Fr n0 L ∧ Keep h0 h [] ∧ h0.size ≤ t ∧ ArF Z h t kb .byte (2 * n) (u16 f)) (T.setTop (mkF m 8 #[.val (.ref c1), .val (.int j.toInt32), .val (.int n.toInt32), .val (.ref t_244), .val (.int j.toInt32)] [])) := by
    intro q
    induction q with
    | zero =>
      intro j hj T locs h X Nq eT O K Gd Gc
      have hj0 : j = n := by omega
      have Ge : ArF Z h t_244 kb_244 .byte (2 * n) (u16 f) := ArF.cong Gd fun i hi => by rw [if_pos (by omega)]
      refine Win.to T (mkF m 10 #[.val (.ref c1), .val (.int j.toInt32), .val (.int n.toInt32), .val (.ref t_244), .val (.int j.toInt32)] [(.int j.toInt32)]) (fun _ k => XS.iload X.here hx rfl (hb hby d18_8) rfl k) ?_
      refine Win.to T (mkF m 11 #[.val (.ref c1), .val (.int j.toInt32), .val (.int n.toInt32), .val (.ref t_244), .val (.int j.toInt32)] [(.int n.toInt32), (.int j.toInt32)]) (fun _ k => XS.iloadN X.here hx rfl (hb hby d18_10) rfl k) ?_
      refine Win.to T (mkF m 32 #[.val (.ref c1), .val (.int j.toInt32), .val (.int n.toInt32), .val (.ref t_244), .val (.int j.toInt32)] []) (fun _ k => XS.icmpYes X.here hx rfl (pc0 := 11) (pc' := 32) rfl (hb hby d18_11) rfl (flt (show ¬ (j.toInt32 < n.toInt32) from (by rw [hj0]; exact Int32.lt_irrefl))).2.1 (by decide) (by decide) k) ?_
      refine Win.to T (mkF m 33 #[.val (.ref c1), .val (.int j.toInt32), .val (.int n.toInt32), .val (.ref t_244), .val (.int j.toInt32)] [(.ref t_244)]) (fun _ k => XS.aloadN X.here hx rfl (hb hby d18_32) rfl rfl k) ?_
      exact Win.retA X hx hlk hret rfl rfl (hb hby d18_33) (by decide) (by decide) (by (try rw [eT]); exact ⟨t_244, kb_244, rfl, Nq, K, z248, Ge⟩)
    | succ q ih =>
      intro j hj T locs h X Nq eT O K Gd Gc
      have hj1 : j < n := by omega
      have hj2 : j < 2 ^ 31 := by omega
      refine Win.to T (mkF m 10 #[.val (.ref c1), .val (.int j.toInt32), .val (.int n.toInt32), .val (.ref t_244), .val (.int j.toInt32)] [(.int j.toInt32)]) (fun _ k => XS.iload X.here hx rfl (hb hby d18_8) rfl k) ?_
      refine Win.to T (mkF m 11 #[.val (.ref c1), .val (.int j.toInt32), .val (.int n.toInt32), .val (.ref t_244), .val (.int j.toInt32)] [(.int n.toInt32), (.int j.toInt32)]) (fun _ k => XS.iloadN X.here hx rfl (hb hby d18_10) rfl k) ?_
      refine Win.to T (mkF m 14 #[.val (.ref c1), .val (.int j.toInt32), .val (.int n.toInt32), .val (.ref t_244), .val (.int j.toInt32)] []) (fun _ k => XS.icmpNo X.here hx rfl (hb hby d18_11) rfl (tlt (show j.toInt32 < n.toInt32 from ((own_lt hj2 hn).mpr hj1))).2.1 k) ?_
      refine Win.to T (mkF m 15 #[.val (.ref c1), .val (.int j.toInt32), .val (.int n.toInt32), .val (.ref t_244), .val (.int j.toInt32)] [(.ref t_244)]) (fun _ k => XS.aloadN X.here hx rfl (hb hby d18_14) rfl rfl k) ?_
      refine Win.to T (mkF m 17 #[.val (.ref c1), .val (.int j.toInt32), .val (.int n.toInt32), .val (.ref t_244), .val (.int j.toInt32)] [(.int j.toInt32), (.ref t_244)]) (fun _ k => XS.iload X.here hx rfl (hb hby d18_15) rfl k) ?_
      refine Win.to T (mkF m 18 #[.val (.ref c1), .val (.int j.toInt32), .val (.int n.toInt32), .val (.ref t_244), .val (.int j.toInt32)] [(.ref c1), (.int j.toInt32), (.ref t_244)]) (fun _ k => XS.aloadN X.here hx rfl (hb hby d18_17) rfl rfl k) ?_
      refine Win.to T (mkF m 19 #[.val (.ref c1), .val (.int j.toInt32), .val (.int n.toInt32), .val (.ref t_244), .val (.int j.toInt32)] [(.int j.toInt32), (.ref c1), (.int j.toInt32), (.ref t_244)]) (fun _ k => XS.iloadN X.here hx rfl (hb hby d18_18) rfl k) ?_
      obtain ⟨cl251, Ar251, hi251, ha251⟩ := ArF.at Gc (j := j.toInt32) (i := j) (own_tn hj2).1 (own_tn hj2).2.1 hj1
      refine Win.to T (mkF m 20 #[.val (.ref c1), .val (.int j.toInt32), .val (.int n.toInt32), .val (.ref t_244), .val (.int j.toInt32)] [(.int (f j)), (.int j.toInt32), (.ref t_244)]) (fun _ k => X.caload hx (j := j.toInt32) (v := (.int (f j))) (by rw [eT]; exact Ar251.1) (State.isArrayOf_alike hZ.alike Ar251.2.1) Ar251.2.2 hi251 ha251 (g := (mkF m 19 #[.val (.ref c1), .val (.int j.toInt32), .val (.int n.toInt32), .val (.ref t_244), .val (.int j.toInt32)] [(.int j.toInt32), (.ref c1), (.int j.toInt32), (.ref t_244)])) rfl rfl (hb hby d18_19) _ k) ?_
      obtain ⟨T252, h252, v252, L252, X252, e252, ⟨rfl, N252q, r252_0, r252_1⟩, st252⟩ := N.static X hx hZ (y := (⟨"java/lang/StringUTF16", "putChar", "([BII)V"⟩ : MethodName)) hown (wk hw 97 rfl) (wk hw 98 rfl) (wk hw 48 rfl) (wk hw 99 rfl) (by decide) (putCh l Z a0 hw t_244 kb_244 (2 * n) (fun i => if i < 2 * j then u16 f i else 0) j (f j) h n0 O Gd (by first | assumption | decide | omega) g247 S_AD S_HI S_LO) eT (g := (mkF m 20 #[.val (.ref c1), .val (.int j.toInt32), .val (.int n.toInt32), .val (.ref t_244), .val (.int j.toInt32)] [(.int (f j)), (.int j.toInt32), (.ref t_244)])) rfl (by rw [hml]; rfl) (argsL := [(.ref t_244), (.int j.toInt32), (.int (f j))]) (rest := []) rfl (lenOf pd___BII_V rfl) rfl (W := 0) (by show 2 * 0 + _ ≤ _; exact Nat.le_of_eq rfl) (hb hby d18_20) (by decide) (by decide) (by decide) (by decide)
      have N253 := Fr.app Nq N252q
      have O254 := Old.keep O r252_0 (allS g247 all0)
      have K255 : Keep h0 h252 [] := Keep.trans K r252_0 (allS (Or.inr z248) all0)
      refine Win.to T252 (mkF m 23 #[.val (.ref c1), .val (.int j.toInt32), .val (.int n.toInt32), .val (.ref t_244), .val (.int j.toInt32)] []) (fun _ k => st252 _ k) ?_
      refine Win.to T252 (mkF m 26 #[.val (.ref c1), .val (.int (j.toInt32 + (1 : Int32))), .val (.int n.toInt32), .val (.ref t_244), .val (.int j.toInt32)] []) (fun _ k => XS.iinc X252.here hx rfl (hb hby d18_23) rfl (l' := #[.val (.ref c1), .val (.int (j.toInt32 + (1 : Int32))), .val (.int n.toInt32), .val (.ref t_244), .val (.int j.toInt32)]) rfl k) ?_
      refine Win.to T252 (mkF m 29 #[.val (.ref c1), .val (.int (j.toInt32 + (1 : Int32))), .val (.int n.toInt32), .val (.ref t_244), .val (.int (j.toInt32 + (1 : Int32)))] []) (fun _ k => XS.iinc X252.here hx rfl (hb hby d18_26) rfl (l' := #[.val (.ref c1), .val (.int (j.toInt32 + (1 : Int32))), .val (.int n.toInt32), .val (.ref t_244), .val (.int (j.toInt32 + (1 : Int32)))]) rfl k) ?_
      refine Win.to T252 (mkF m 8 #[.val (.ref c1), .val (.int (j.toInt32 + (1 : Int32))), .val (.int n.toInt32), .val (.ref t_244), .val (.int (j.toInt32 + (1 : Int32)))] []) (fun _ k => XS.goto X252.here hx rfl (pc0 := 29) (pc' := 8) rfl (hb hby d18_29) (by decide) (by decide) k) ?_
      rw [own_succ j]
      have F256 : ArF Z h252 c1 kc .char n f := (Gc.keep r252_0 (ninS ne246 nin0))
      exact ih (j + 1) (by omega) T252 _ h252 X252 N253 e252 O254 K255 (ArF.cong r252_1 fun i _ => own_u16s f j i) F256
  have F257 : ArF Z h244 c1 kc .char n f := (Fc.keep r244_0 nin0)
  exact loop n 0 (by omega) T244 _ h244 X244 N245 e244 O249 K250 (ArF.cong r244_2 fun i hi => by simp) F257
abbrev R_comp16 : Room := ⟨3, 2, 12, 40⟩
set_option maxRecDepth 65536 in
set_option maxHeartbeats 40000000 in
theorem comp16 (l : Launch) (Z : State) (a0 : Array Value) (hw : ∀ d ∈ tables_1, d.before a0 Z = true) (c1 : Addr) (kc : ClassId) (n : Nat) (f : Nat → Int32) (h0 : Heap) (n0 : Nat) (O0 : Old Z n0 h0) (Fc : ArF Z h0 c1 kc .char n f) (hcap : n ≤ 4) (hne : ∃ i, i < n ∧ (255 : Int32) < f i) (S_AD : Sta Z Z.heap "java/lang/StringUTF16" "$assertionsDisabled" "Z" (.int (1 : Int32))) (S_HI : Sta Z Z.heap "java/lang/StringUTF16" "HI_BYTE_SHIFT" "I" (.int (0 : Int32))) (S_LO : Sta Z Z.heap "java/lang/StringUTF16" "LO_BYTE_SHIFT" "I" (.int (8 : Int32))) :
    MetN l Z (⟨"java/lang/StringUTF16", "compress", "([CII)[B"⟩ : MethodName) jdk_52_method_16_code 6 (some (.array .byte)) R_comp16 [] #[(.ref c1), (.int (0 : Int32)), (.int n.toInt32)] h0 (fun v h L => ∃ (t : Addr) (kb : ClassId), v = some (.ref t) ∧ Fr n0 L ∧ Keep h0 h [] ∧ h0.size ≤ t ∧ ArF Z h t kb .byte (2 * n) (u16 f)) := by
  refine MetN.walk (plainFor_of_name pn_8) ?_
  intro p e s m below meth c s₁ hx hZ hby hml hown hnm hret hlk X0 e0
  have N0 := Fr.nil n0
  refine Win.to s₁ (mkF m 0 #[.val (.ref c1), .val (.int (0 : Int32)), .val (.int n.toInt32), .unset, .unset, .unset] []) (fun _ k => castTop (by first | (simp [entryFrame, mkF, argsToLocals, Value.category]; done) | rfl) k) ?_
  have hn := Fc.big
  refine Win.to s₁ (mkF m 1 #[.val (.ref c1), .val (.int (0 : Int32)), .val (.int n.toInt32), .unset, .unset, .unset] [(.int n.toInt32)]) (fun _ k => XS.iloadN X0.here hx rfl (hb hby d8_0) rfl k) ?_
  obtain ⟨T258, h258, k258, X258, e258, E258, A258, st258⟩ := newP X0 hx hZ (wk hw 20 rfl) e0 (g := (mkF m 1 #[.val (.ref c1), .val (.int (0 : Int32)), .val (.int n.toInt32), .unset, .unset, .unset] [(.int n.toInt32)])) rfl (hb hby d8_1) rfl (own_tn hn).2.1 (cap := 4) (by rw [(own_tn hn).1]; exact hcap) (by decide) (by decide) (by decide)
  obtain ⟨b258, g258⟩ : ∃ z, z = h0.size := ⟨_, rfl⟩
  rw [← g258] at A258 st258
  have ne259 : c1 ≠ b258 := Nat.ne_of_lt (Nat.lt_of_lt_of_le Fc.lt (Nat.le_of_eq g258.symm))
  have g260 : n0 ≤ b258 := Nat.le_trans (own_le O0) (Nat.le_of_eq g258.symm)
  have z261 : h0.size ≤ b258 := (Nat.le_of_eq g258.symm)
  have O262 := Old.ext O0 E258
  have K263 : Keep h0 h258 [] := (Keep.refl h0 []).ext E258
  have F264 : ArF Z h258 b258 k258 .byte n (fun _ => 0) := (own_tn hn).1 ▸ ArF.new A258 (own_tn hn).2.1 rfl
  refine Win.to T258 (mkF m 3 #[.val (.ref c1), .val (.int (0 : Int32)), .val (.int n.toInt32), .unset, .unset, .unset] [(.ref b258)]) (fun _ k => st258 _ k) ?_
  refine Win.to T258 (mkF m 4 #[.val (.ref c1), .val (.int (0 : Int32)), .val (.int n.toInt32), .val (.ref b258), .unset, .unset] []) (fun _ k => XS.astoreN X258.here hx rfl (hb hby d8_3) rfl rfl (l' := #[.val (.ref c1), .val (.int (0 : Int32)), .val (.int n.toInt32), .val (.ref b258), .unset, .unset]) rfl k) ?_
  refine Win.to T258 (mkF m 5 #[.val (.ref c1), .val (.int (0 : Int32)), .val (.int n.toInt32), .val (.ref b258), .unset, .unset] [(.ref c1)]) (fun _ k => XS.aloadN X258.here hx rfl (hb hby d8_4) rfl rfl k) ?_
  refine Win.to T258 (mkF m 6 #[.val (.ref c1), .val (.int (0 : Int32)), .val (.int n.toInt32), .val (.ref b258), .unset, .unset] [(.int (0 : Int32)), (.ref c1)]) (fun _ k => XS.iloadN X258.here hx rfl (hb hby d8_5) rfl k) ?_
  refine Win.to T258 (mkF m 7 #[.val (.ref c1), .val (.int (0 : Int32)), .val (.int n.toInt32), .val (.ref b258), .unset, .unset] [(.ref b258), (.int (0 : Int32)), (.ref c1)]) (fun _ k => XS.aloadN X258.here hx rfl (hb hby d8_6) rfl rfl k) ?_
  refine Win.to T258 (mkF m 8 #[.val (.ref c1), .val (.int (0 : Int32)), .val (.int n.toInt32), .val (.ref b258), .unset, .unset] [(.int (0 : Int32)), (.ref b258), (.int (0 : Int32)), (.ref c1)]) (fun _ k => XS.iconst X258.here hx rfl (hb hby d8_7) k) ?_
  refine Win.to T258 (mkF m 9 #[.val (.ref c1), .val (.int (0 : Int32)), .val (.int n.toInt32), .val (.ref b258), .unset, .unset] [(.int n.toInt32), (.int (0 : Int32)), (.ref b258), (.int (0 : Int32)), (.ref c1)]) (fun _ k => XS.iloadN X258.here hx rfl (hb hby d8_8) rfl k) ?_
  have F265 : ArF Z h258 c1 kc .char n f := (Fc.ext E258)
  obtain ⟨T266, h266, v266, L266, X266, e266, ⟨r_266, rfl, N266q, r266_0, r266_1, r266_2, r266_3, r266_4⟩, st266⟩ := N.static X258 hx hZ (y := (⟨"java/lang/StringUTF16", "compress", "([CI[BII)I"⟩ : MethodName)) hown (wk hw 50 rfl) (wk hw 51 rfl) (wk hw 48 rfl) (wk hw 52 rfl) (by decide) (cLoop l Z a0 hw c1 b258 kc k258 n f h258 n0 O262 F265 F264 ne259 g260) e258 (g := (mkF m 9 #[.val (.ref c1), .val (.int (0 : Int32)), .val (.int n.toInt32), .val (.ref b258), .unset, .unset] [(.int n.toInt32), (.int (0 : Int32)), (.ref b258), (.int (0 : Int32)), (.ref c1)])) rfl (by rw [hml]; rfl) (argsL := [(.ref c1), (.int (0 : Int32)), (.ref b258), (.int (0 : Int32)), (.int n.toInt32)]) (rest := []) rfl (lenOf pd___CI_BII_I rfl) rfl (W := 0) (by show 2 * 0 + _ ≤ _; exact Nat.le_of_eq rfl) (hb hby d8_9) (by decide) (by decide) (by decide) (by decide)
  have N267 := Fr.app N0 N266q
  have O268 := Old.keep O262 r266_0 (allS g260 all0)
  have K269 : Keep h0 h266 [] := Keep.trans K263 r266_0 (allS (Or.inr z261) all0)
  refine Win.to T266 (mkF m 12 #[.val (.ref c1), .val (.int (0 : Int32)), .val (.int n.toInt32), .val (.ref b258), .unset, .unset] [(.int r_266.toInt32)]) (fun _ k => st266 _ k) ?_
  have hr : r_266 < n := by
    obtain ⟨i, hi, hq⟩ := hne
    rcases Nat.lt_or_ge r_266 n with q | q
    · exact q
    · exact absurd hq (r266_3 i (by omega))
  refine Win.to T266 (mkF m 14 #[.val (.ref c1), .val (.int (0 : Int32)), .val (.int n.toInt32), .val (.ref b258), .val (.int r_266.toInt32), .unset] []) (fun _ k => XS.istore X266.here hx rfl (hb hby d8_12) rfl (l' := #[.val (.ref c1), .val (.int (0 : Int32)), .val (.int n.toInt32), .val (.ref b258), .val (.int r_266.toInt32), .unset]) rfl k) ?_
  refine Win.to T266 (mkF m 16 #[.val (.ref c1), .val (.int (0 : Int32)), .val (.int n.toInt32), .val (.ref b258), .val (.int r_266.toInt32), .unset] [(.int r_266.toInt32)]) (fun _ k => XS.iload X266.here hx rfl (hb hby d8_14) rfl k) ?_
  refine Win.to T266 (mkF m 17 #[.val (.ref c1), .val (.int (0 : Int32)), .val (.int n.toInt32), .val (.ref b258), .val (.int r_266.toInt32), .unset] [(.int n.toInt32), (.int r_266.toInt32)]) (fun _ k => XS.iloadN X266.here hx rfl (hb hby d8_16) rfl k) ?_
  refine Win.to T266 (mkF m 20 #[.val (.ref c1), .val (.int (0 : Int32)), .val (.int n.toInt32), .val (.ref b258), .val (.int r_266.toInt32), .unset] []) (fun _ k => XS.icmpNo X266.here hx rfl (hb hby d8_17) rfl (feq (show ¬ (r_266.toInt32 = n.toInt32) from (fun q => absurd (own_inj (by omega) hn q) (by omega)))).1 k) ?_
  refine Win.to T266 (mkF m 21 #[.val (.ref c1), .val (.int (0 : Int32)), .val (.int n.toInt32), .val (.ref b258), .val (.int r_266.toInt32), .unset] [(.ref c1)]) (fun _ k => XS.aloadN X266.here hx rfl (hb hby d8_20) rfl rfl k) ?_
  refine Win.to T266 (mkF m 22 #[.val (.ref c1), .val (.int (0 : Int32)), .val (.int n.toInt32), .val (.ref b258), .val (.int r_266.toInt32), .unset] [(.int (0 : Int32)), (.ref c1)]) (fun _ k => XS.iloadN X266.here hx rfl (hb hby d8_21) rfl k) ?_
  refine Win.to T266 (mkF m 23 #[.val (.ref c1), .val (.int (0 : Int32)), .val (.int n.toInt32), .val (.ref b258), .val (.int r_266.toInt32), .unset] [(.int n.toInt32), (.int (0 : Int32)), (.ref c1)]) (fun _ k => XS.iloadN X266.here hx rfl (hb hby d8_22) rfl k) ?_
  have F270 : ArF Z h266 c1 kc .char n f := (F265.keep r266_0 (ninS ne259 nin0))
  obtain ⟨T271, h271, v271, L271, X271, e271, ⟨t_271, kb_271, rfl, N271q, r271_0, r271_1, r271_2⟩, st271⟩ := N.static X266 hx hZ (y := (⟨"java/lang/StringUTF16", "toBytes", "([CII)[B"⟩ : MethodName)) hown (wk hw 87 rfl) (wk hw 88 rfl) (wk hw 48 rfl) (wk hw 89 rfl) (by decide) (toB16 l Z a0 hw c1 kc n f h266 n0 O268 F270 hcap S_AD S_HI S_LO) e266 (g := (mkF m 23 #[.val (.ref c1), .val (.int (0 : Int32)), .val (.int n.toInt32), .val (.ref b258), .val (.int r_266.toInt32), .unset] [(.int n.toInt32), (.int (0 : Int32)), (.ref c1)])) rfl (by rw [hml]; rfl) (argsL := [(.ref c1), (.int (0 : Int32)), (.int n.toInt32)]) (rest := []) rfl (lenOf pd___CII__B rfl) rfl (W := 0) (by show 2 * 0 + _ ≤ _; exact Nat.le_of_eq rfl) (hb hby d8_23) (by decide) (by decide) (by decide) (by decide)
  have N272 := Fr.app N267 N271q
  have ne273 : c1 ≠ t_271 := Nat.ne_of_lt (Nat.lt_of_lt_of_le F270.lt r271_1)
  have ne274 : b258 ≠ t_271 := Nat.ne_of_lt (Nat.lt_of_lt_of_le r266_1.lt r271_1)
  have g275 : n0 ≤ t_271 := Nat.le_trans (own_le O268) r271_1
  have z276 : h0.size ≤ t_271 := Nat.le_trans K269.1 r271_1
  have O277 := Old.keep O268 r271_0 all0
  have K278 : Keep h0 h271 [] := Keep.trans K269 r271_0 all0
  refine Win.to T271 (mkF m 26 #[.val (.ref c1), .val (.int (0 : Int32)), .val (.int n.toInt32), .val (.ref b258), .val (.int r_266.toInt32), .unset] [(.ref t_271)]) (fun _ k => st271 _ k) ?_
  refine Win.to T271 (mkF m 28 #[.val (.ref c1), .val (.int (0 : Int32)), .val (.int n.toInt32), .val (.ref b258), .val (.int r_266.toInt32), .val (.ref t_271)] []) (fun _ k => XS.astore X271.here hx rfl (hb hby d8_26) rfl rfl (l' := #[.val (.ref c1), .val (.int (0 : Int32)), .val (.int n.toInt32), .val (.ref b258), .val (.int r_266.toInt32), .val (.ref t_271)]) rfl k) ?_
  refine Win.to T271 (mkF m 30 #[.val (.ref c1), .val (.int (0 : Int32)), .val (.int n.toInt32), .val (.ref b258), .val (.int r_266.toInt32), .val (.ref t_271)] [(.ref t_271)]) (fun _ k => XS.aload X271.here hx rfl (hb hby d8_28) rfl rfl k) ?_
  refine Win.to T271 (mkF m 32 #[.val (.ref c1), .val (.int (0 : Int32)), .val (.int n.toInt32), .val (.ref b258), .val (.int r_266.toInt32), .val (.ref t_271)] [(.int r_266.toInt32), (.ref t_271)]) (fun _ k => XS.iload X271.here hx rfl (hb hby d8_30) rfl k) ?_
  obtain ⟨T279, h279, v279, L279, X279, e279, ⟨rfl, N279q, r279_0⟩, st279⟩ := N.static X271 hx hZ (y := (⟨"java/lang/StringUTF16", "getChar", "([BI)C"⟩ : MethodName)) hown (wk hw 103 rfl) (wk hw 104 rfl) (wk hw 48 rfl) (wk hw 105 rfl) (by decide) (getCh l Z a0 hw t_271 kb_271 (2 * n) (u16 f) r_266 (f r_266) h271 n0 O277 r271_2 (by omega) (own_gcu (own_fr Fc _ hr).1 (own_fr Fc _ hr).2) S_AD S_HI S_LO) e271 (g := (mkF m 32 #[.val (.ref c1), .val (.int (0 : Int32)), .val (.int n.toInt32), .val (.ref b258), .val (.int r_266.toInt32), .val (.ref t_271)] [(.int r_266.toInt32), (.ref t_271)])) rfl (by rw [hml]; rfl) (argsL := [(.ref t_271), (.int r_266.toInt32)]) (rest := []) rfl (lenOf pd___BI_C rfl) rfl (W := 0) (by show 2 * 0 + _ ≤ _; exact Nat.le_of_eq rfl) (hb hby d8_32) (by decide) (by decide) (by decide) (by decide)
  have N280 := Fr.app N272 N279q
  have e279 := e279.trans r279_0
  refine Win.to T279 (mkF m 35 #[.val (.ref c1), .val (.int (0 : Int32)), .val (.int n.toInt32), .val (.ref b258), .val (.int r_266.toInt32), .val (.ref t_271)] [(.int (f r_266))]) (fun _ k => st279 _ k) ?_
  refine Win.to T279 (mkF m 38 #[.val (.ref c1), .val (.int (0 : Int32)), .val (.int n.toInt32), .val (.ref b258), .val (.int r_266.toInt32), .val (.ref t_271)] [(.int (255 : Int32)), (.int (f r_266))]) (fun _ k => XS.sipush X279.here hx rfl (hb hby d8_35) k) ?_
  refine Win.to T279 (mkF m 54 #[.val (.ref c1), .val (.int (0 : Int32)), .val (.int n.toInt32), .val (.ref b258), .val (.int r_266.toInt32), .val (.ref t_271)] []) (fun _ k => XS.icmpYes X279.here hx rfl (pc0 := 38) (pc' := 54) rfl (hb hby d8_38) rfl (tlt (show (255 : Int32) < (f r_266) from (r266_4 hr))).2.2.1 (by decide) (by decide) k) ?_
  refine Win.to T279 (mkF m 56 #[.val (.ref c1), .val (.int (0 : Int32)), .val (.int n.toInt32), .val (.ref b258), .val (.int r_266.toInt32), .val (.ref t_271)] [(.ref t_271)]) (fun _ k => XS.aload X279.here hx rfl (hb hby d8_54) rfl rfl k) ?_
  exact Win.retA X279 hx hlk hret rfl rfl (hb hby d8_56) (by decide) (by decide) (by (try rw [e279]); exact ⟨t_271, kb_271, rfl, N280, K278, z276, r271_2⟩)
abbrev R_coder1 : Room := ⟨0, 0, 0, 0⟩
set_option maxRecDepth 65536 in
set_option maxHeartbeats 40000000 in
theorem coder1 (l : Launch) (Z : State) (a0 : Array Value) (hw : ∀ d ∈ tables_1, d.before a0 Z = true) (b1 : Addr) (kb : ClassId) (n : Nat) (gf : Nat → Int32) (h0 : Heap) (n0 : Nat) (O0 : Old Z n0 h0) (Fb : ArF Z h0 b1 kb .byte (2 * n) gf) (hpos : 0 < n) :
    MetN l Z (⟨"java/lang/StringUTF16", "coderFromArrayLen", "([BI)B"⟩ : MethodName) jdk_52_method_15_code 2 (some .byte) R_coder1 [] #[(.ref b1), (.int n.toInt32)] h0 (fun v h L => v = some (.int (1 : Int32)) ∧ Fr n0 L ∧ h = h0) := by
  refine MetN.walk (plainFor_of_name pn_10) ?_
  intro p e s m below meth c s₁ hx hZ hby hml hown hnm hret hlk X0 e0
  have N0 := Fr.nil n0
  refine Win.to s₁ (mkF m 0 #[.val (.ref b1), .val (.int n.toInt32)] []) (fun _ k => castTop (by first | (simp [entryFrame, mkF, argsToLocals, Value.category]; done) | rfl) k) ?_
  refine Win.to s₁ (mkF m 1 #[.val (.ref b1), .val (.int n.toInt32)] [(.int n.toInt32)]) (fun _ k => XS.iloadN X0.here hx rfl (hb hby d10_0) rfl k) ?_
  refine Win.to s₁ (mkF m 2 #[.val (.ref b1), .val (.int n.toInt32)] [(.ref b1), (.int n.toInt32)]) (fun _ k => XS.aloadN X0.here hx rfl (hb hby d10_1) rfl rfl k) ?_
  obtain ⟨cl281, Ar281, hl281⟩ := ArF.len Fb
  refine Win.to s₁ (mkF m 3 #[.val (.ref b1), .val (.int n.toInt32)] [(.int (2 * n).toInt32), (.int n.toInt32)]) (fun _ k => X0.arraylength hx (by rw [e0]; exact Ar281.1) (State.isArrayOf_alike hZ.alike Ar281.2.1) (g := (mkF m 2 #[.val (.ref b1), .val (.int n.toInt32)] [(.ref b1), (.int n.toInt32)])) rfl rfl (hb hby d10_2) _ (by rw [hl281]; exact k)) ?_
  refine Win.to s₁ (mkF m 4 #[.val (.ref b1), .val (.int n.toInt32)] [(.int (n.toInt32 - (2 * n).toInt32))]) (fun _ k => XS.isub X0.here hx rfl (hb hby d10_3) rfl k) ?_
  refine Win.to s₁ (mkF m 6 #[.val (.ref b1), .val (.int n.toInt32)] [(.int (31 : Int32)), (.int (n.toInt32 - (2 * n).toInt32))]) (fun _ k => XS.bipush X0.here hx rfl (hb hby d10_4) k) ?_
  refine Win.to s₁ (mkF m 7 #[.val (.ref b1), .val (.int n.toInt32)] [(.int (1 : Int32))]) (fun _ k => XS.iushr X0.here hx rfl (hb hby d10_6) rfl (by rw [show (((n.toInt32 - (2 * n).toInt32).toUInt32 >>> ((31 : Int32) &&& 31).toUInt32).toInt32) = (1 : Int32) from own_neg31 hpos Fb.big]; exact k)) ?_
  refine Win.to s₁ (mkF m 8 #[.val (.ref b1), .val (.int n.toInt32)] [(.int (1 : Int32))]) (fun _ k => XS.i2b X0.here hx rfl (hb hby d10_7) rfl (by rw [show ((1 : Int32).toInt8.toInt32) = (1 : Int32) from by decide]; exact k)) ?_
  exact Win.retN X0 hx hlk (t := .byte) hret (by simp) rfl (hb hby d10_8) (by decide) (by decide) (by (try rw [e0]); exact ⟨rfl, N0, rfl⟩)
abbrev R_ctor4u : Room := ⟨4, 2, 12, 57⟩
set_option maxRecDepth 65536 in
set_option maxHeartbeats 40000000 in
theorem ctor4u (l : Launch) (Z : State) (a0 : Array Value) (hw : ∀ d ∈ tables_1, d.before a0 Z = true) (a1 : Addr) (c1 : Addr) (kc : ClassId) (n : Nat) (f : Nat → Int32) (cs : Int32) (h0 : Heap) (n0 : Nat) (O0 : Old Z n0 h0) (E1 : Exa Z h0 a1 "java/lang/String") (F1 : Fld Z h0 a1 "java/lang/String" "value" "[B" .null) (F2 : Fld Z h0 a1 "java/lang/String" "coder" "B" (.int (0 : Int32))) (Fc : ArF Z h0 c1 kc .char n f) (hcap : n ≤ 4) (hne : ∃ i, i < n ∧ (255 : Int32) < f i) (g1 : n0 ≤ a1) (S_AD : Sta Z Z.heap "java/lang/StringUTF16" "$assertionsDisabled" "Z" (.int (1 : Int32))) (S_HI : Sta Z Z.heap "java/lang/StringUTF16" "HI_BYTE_SHIFT" "I" (.int (0 : Int32))) (S_LO : Sta Z Z.heap "java/lang/StringUTF16" "LO_BYTE_SHIFT" "I" (.int (8 : Int32))) (S_CS : Sta Z Z.heap "java/lang/String" "COMPACT_STRINGS" "Z" (.int cs)) (hcs : ¬ (cs = (0 : Int32))) :
    MetN l Z (⟨"java/lang/String", "<init>", "([CIILjava/lang/Void;)V"⟩ : MethodName) jdk_42_method_149_code 6 none R_ctor4u [] #[(.ref a1), (.ref c1), (.int (0 : Int32)), (.int n.toInt32), .null] h0 (fun v h L => ∃ (t : Addr) (kb : ClassId), v = none ∧ Fr n0 L ∧ Keep h0 h [a1] ∧ h0.size ≤ t ∧ Fld Z h a1 "java/lang/String" "value" "[B" (.ref t) ∧ Fld Z h a1 "java/lang/String" "coder" "B" (.int (1 : Int32)) ∧ ArF Z h t kb .byte (2 * n) (u16 f)) := by
  refine MetN.walk (plainFor_of_name pn_3) ?_
  intro p e s m below meth c s₁ hx hZ hby hml hown hnm hret hlk X0 e0
  have N0 := Fr.nil n0
  refine Win.to s₁ (mkF m 0 #[.val (.ref a1), .val (.ref c1), .val (.int (0 : Int32)), .val (.int n.toInt32), .val .null, .unset] []) (fun _ k => castTop (by first | (simp [entryFrame, mkF, argsToLocals, Value.category]; done) | rfl) k) ?_
  have hn := Fc.big
  have hpos : 0 < n := by obtain ⟨i, hi, -⟩ := hne; omega
  have hnz : ¬ (n.toInt32 = (0 : Int32)) := own_nz hn hpos
  refine Win.to s₁ (mkF m 1 #[.val (.ref a1), .val (.ref c1), .val (.int (0 : Int32)), .val (.int n.toInt32), .val .null, .unset] [(.ref a1)]) (fun _ k => XS.aloadN X0.here hx rfl (hb hby d3_0) rfl rfl k) ?_
  obtain ⟨T282, X282, e282, st282⟩ := initO X0 hx hZ hown (wk hw 16 rfl) (wk hw 17 rfl) (wk hw 18 rfl) e0 (g := (mkF m 1 #[.val (.ref a1), .val (.ref c1), .val (.int (0 : Int32)), .val (.int n.toInt32), .val .null, .unset] [(.ref a1)])) rfl (by rw [hml]; rfl) rfl (hb hby d3_1) (by decide) (W := 0) (by show 2 * 0 + _ ≤ _; exact Nat.le_of_eq rfl) (by decide)
  refine Win.to T282 (mkF m 4 #[.val (.ref a1), .val (.ref c1), .val (.int (0 : Int32)), .val (.int n.toInt32), .val .null, .unset] []) (fun _ k => st282 _ k) ?_
  refine Win.to T282 (mkF m 5 #[.val (.ref a1), .val (.ref c1), .val (.int (0 : Int32)), .val (.int n.toInt32), .val .null, .unset] [(.int n.toInt32)]) (fun _ k => XS.iloadN X282.here hx rfl (hb hby d3_4) rfl k) ?_
  refine Win.to T282 (mkF m 27 #[.val (.ref a1), .val (.ref c1), .val (.int (0 : Int32)), .val (.int n.toInt32), .val .null, .unset] []) (fun _ k => XS.ifYes X282.here hx rfl (pc0 := 5) (pc' := 27) rfl (hb hby d3_5) rfl ((if0 _ _).trans (feq (show ¬ (n.toInt32 = (0 : Int32)) from hnz)).2) (by decide) (by decide) k) ?_
  obtain ⟨T283, X283, e283, st283⟩ := getS2 X282 hx hZ hown (host := "") (Or.inl (wk hw 45 rfl)) Via.refl e282 (Sta.ext O0.2 S_CS) (g := (mkF m 27 #[.val (.ref a1), .val (.ref c1), .val (.int (0 : Int32)), .val (.int n.toInt32), .val .null, .unset] [])) rfl (hb hby d3_27)
  refine Win.to T283 (mkF m 30 #[.val (.ref a1), .val (.ref c1), .val (.int (0 : Int32)), .val (.int n.toInt32), .val .null, .unset] [(.int cs)]) (fun _ k => st283 _ k) ?_
  refine Win.to T283 (mkF m 33 #[.val (.ref a1), .val (.ref c1), .val (.int (0 : Int32)), .val (.int n.toInt32), .val .null, .unset] []) (fun _ k => XS.ifNo X283.here hx rfl (hb hby d3_30) rfl ((if0 _ _).trans (feq (show ¬ (cs = (0 : Int32)) from hcs)).1) k) ?_
  refine Win.to T283 (mkF m 34 #[.val (.ref a1), .val (.ref c1), .val (.int (0 : Int32)), .val (.int n.toInt32), .val .null, .unset] [(.ref c1)]) (fun _ k => XS.aloadN X283.here hx rfl (hb hby d3_33) rfl rfl k) ?_
  refine Win.to T283 (mkF m 35 #[.val (.ref a1), .val (.ref c1), .val (.int (0 : Int32)), .val (.int n.toInt32), .val .null, .unset] [(.int (0 : Int32)), (.ref c1)]) (fun _ k => XS.iloadN X283.here hx rfl (hb hby d3_34) rfl k) ?_
  refine Win.to T283 (mkF m 36 #[.val (.ref a1), .val (.ref c1), .val (.int (0 : Int32)), .val (.int n.toInt32), .val .null, .unset] [(.int n.toInt32), (.int (0 : Int32)), (.ref c1)]) (fun _ k => XS.iloadN X283.here hx rfl (hb hby d3_35) rfl k) ?_
  obtain ⟨T284, h284, v284, L284, X284, e284, ⟨t_284, kb_284, rfl, N284q, r284_0, r284_1, r284_2⟩, st284⟩ := N.static X283 hx hZ (y := (⟨"java/lang/StringUTF16", "compress", "([CII)[B"⟩ : MethodName)) hown (wk hw 46 rfl) (wk hw 47 rfl) (wk hw 48 rfl) (wk hw 49 rfl) (by decide) (comp16 l Z a0 hw c1 kc n f h0 n0 O0 Fc hcap hne S_AD S_HI S_LO) e283 (g := (mkF m 36 #[.val (.ref a1), .val (.ref c1), .val (.int (0 : Int32)), .val (.int n.toInt32), .val .null, .unset] [(.int n.toInt32), (.int (0 : Int32)), (.ref c1)])) rfl (by rw [hml]; rfl) (argsL := [(.ref c1), (.int (0 : Int32)), (.int n.toInt32)]) (rest := []) rfl (lenOf pd___CII__B rfl) rfl (W := 0) (by show 2 * 0 + _ ≤ _; exact Nat.le_of_eq rfl) (hb hby d3_36) (by decide) (by decide) (by decide) (by decide)
  have N285 := Fr.app N0 N284q
  have ne286 : a1 ≠ t_284 := Nat.ne_of_lt (Nat.lt_of_lt_of_le E1.lt r284_1)
  have ne287 : c1 ≠ t_284 := Nat.ne_of_lt (Nat.lt_of_lt_of_le Fc.lt r284_1)
  have g288 : n0 ≤ t_284 := Nat.le_trans (own_le O0) r284_1
  have z289 : h0.size ≤ t_284 := r284_1
  have O290 := Old.keep O0 r284_0 all0
  have K291 : Keep h0 h284 [a1] := Keep.trans (Keep.refl h0 [a1]) r284_0 all0
  refine Win.to T284 (mkF m 39 #[.val (.ref a1), .val (.ref c1), .val (.int (0 : Int32)), .val (.int n.toInt32), .val .null, .unset] [(.ref t_284)]) (fun _ k => st284 _ k) ?_
  refine Win.to T284 (mkF m 41 #[.val (.ref a1), .val (.ref c1), .val (.int (0 : Int32)), .val (.int n.toInt32), .val .null, .val (.ref t_284)] []) (fun _ k => XS.astore X284.here hx rfl (hb hby d3_39) rfl rfl (l' := #[.val (.ref a1), .val (.ref c1), .val (.int (0 : Int32)), .val (.int n.toInt32), .val .null, .val (.ref t_284)]) rfl k) ?_
  refine Win.to T284 (mkF m 42 #[.val (.ref a1), .val (.ref c1), .val (.int (0 : Int32)), .val (.int n.toInt32), .val .null, .val (.ref t_284)] [(.ref a1)]) (fun _ k => XS.aloadN X284.here hx rfl (hb hby d3_41) rfl rfl k) ?_
  refine Win.to T284 (mkF m 44 #[.val (.ref a1), .val (.ref c1), .val (.int (0 : Int32)), .val (.int n.toInt32), .val .null, .val (.ref t_284)] [(.ref t_284), (.ref a1)]) (fun _ k => XS.aload X284.here hx rfl (hb hby d3_42) rfl rfl k) ?_
  refine Win.to T284 (mkF m 45 #[.val (.ref a1), .val (.ref c1), .val (.int (0 : Int32)), .val (.int n.toInt32), .val .null, .val (.ref t_284)] [(.int n.toInt32), (.ref t_284), (.ref a1)]) (fun _ k => XS.iloadN X284.here hx rfl (hb hby d3_44) rfl k) ?_
  obtain ⟨T292, h292, v292, L292, X292, e292, ⟨rfl, N292q, r292_0⟩, st292⟩ := N.static X284 hx hZ (y := (⟨"java/lang/StringUTF16", "coderFromArrayLen", "([BI)B"⟩ : MethodName)) hown (wk hw 53 rfl) (wk hw 54 rfl) (wk hw 48 rfl) (wk hw 55 rfl) (by decide) (coder1 l Z a0 hw t_284 kb_284 n (u16 f) h284 n0 O290 r284_2 (by first | assumption | decide | omega)) e284 (g := (mkF m 45 #[.val (.ref a1), .val (.ref c1), .val (.int (0 : Int32)), .val (.int n.toInt32), .val .null, .val (.ref t_284)] [(.int n.toInt32), (.ref t_284), (.ref a1)])) rfl (by rw [hml]; rfl) (argsL := [(.ref t_284), (.int n.toInt32)]) (rest := [(.ref a1)]) rfl (lenOf pd___BI_B rfl) rfl (W := 1) (by show 2 * 0 + _ ≤ _; exact Nat.le_of_eq rfl) (hb hby d3_45) (by decide) (by decide) (by decide) (by decide)
  have N293 := Fr.app N285 N292q
  have e292 := e292.trans r292_0
  refine Win.to T292 (mkF m 48 #[.val (.ref a1), .val (.ref c1), .val (.int (0 : Int32)), .val (.int n.toInt32), .val .null, .val (.ref t_284)] [(.int (1 : Int32)), (.ref a1)]) (fun _ k => st292 _ k) ?_
  have F294 : Exa Z h284 a1 "java/lang/String" := (E1.keep r284_0)
  have F295 : Fld Z h284 a1 "java/lang/String" "coder" "B" (.int (0 : Int32)) := (F2.keep r284_0 nin0)
  have F296 : ArF Z h284 c1 kc .char n f := (Fc.keep r284_0 nin0)
  have ne297 : a1 ≠ c1 := own_neF F294 F296 (wk hw 6 rfl)
  obtain ⟨T298, h298, X298, e298, W298, st298⟩ := putFN X292 hx hZ hown (wk hw 26 rfl) Via.refl e292 F295 F294 (Or.inr ⟨(wk hw 22 rfl), rfl, hnm⟩) (wk hw 6 rfl) (ty := .byte) (v' := (.int (1 : Int32))) (by decide) rfl rfl (g := (mkF m 48 #[.val (.ref a1), .val (.ref c1), .val (.int (0 : Int32)), .val (.int n.toInt32), .val .null, .val (.ref t_284)] [(.int (1 : Int32)), (.ref a1)])) rfl rfl (hb hby d3_48)
  have O300 := Old.wr O290 W298 g1
  have K301 : Keep h0 h298 [a1] := K291.wr W298 (Or.inl (List.mem_of_getElem? (i := 0) rfl))
  have N302 := Fr.snoc X298 N293 g1
  have F299 : Fld Z h298 a1 "java/lang/String" "coder" "B" (.int (1 : Int32)) := Fld.same W298 F295
  refine Win.to T298 (mkF m 51 #[.val (.ref a1), .val (.ref c1), .val (.int (0 : Int32)), .val (.int n.toInt32), .val .null, .val (.ref t_284)] []) (fun _ k => st298 _ k) ?_
  refine Win.to T298 (mkF m 52 #[.val (.ref a1), .val (.ref c1), .val (.int (0 : Int32)), .val (.int n.toInt32), .val .null, .val (.ref t_284)] [(.ref a1)]) (fun _ k => XS.aloadN X298.here hx rfl (hb hby d3_51) rfl rfl k) ?_
  refine Win.to T298 (mkF m 54 #[.val (.ref a1), .val (.ref c1), .val (.int (0 : Int32)), .val (.int n.toInt32), .val .null, .val (.ref t_284)] [(.ref t_284), (.ref a1)]) (fun _ k => XS.aload X298.here hx rfl (hb hby d3_52) rfl rfl k) ?_
  have F303 : Exa Z h298 a1 "java/lang/String" := (Exa.wr W298 F294)
  have F304 : Fld Z h298 a1 "java/lang/String" "value" "[B" .null := (Fld.other W298 (F1.keep r284_0 nin0) (Or.inr (slot_ne (Or.inr (wk hw 21 rfl)) (Or.inr (wk hw 22 rfl)) (by decide) (t := (.array .byte)) (t' := .byte) (by decide) (by decide))))
  obtain ⟨T305, h305, X305, e305, W305, st305⟩ := putF X298 hx hZ hown (host := "") (Or.inl (wk hw 25 rfl)) Via.refl e298 F304 F303 (Or.inr ⟨(wk hw 21 rfl), rfl, hnm⟩) (wk hw 6 rfl) (ty := (.array .byte)) (by decide) rfl rfl (g := (mkF m 54 #[.val (.ref a1), .val (.ref c1), .val (.int (0 : Int32)), .val (.int n.toInt32), .val .null, .val (.ref t_284)] [(.ref t_284), (.ref a1)])) rfl rfl (hb hby d3_54)
  have O307 := Old.wr O300 W305 g1
  have K308 : Keep h0 h305 [a1] := K301.wr W305 (Or.inl (List.mem_of_getElem? (i := 0) rfl))
  have N309 := Fr.snoc X305 N302 g1
  have F306 : Fld Z h305 a1 "java/lang/String" "value" "[B" (.ref t_284) := Fld.same W305 F304
  refine Win.to T305 (mkF m 57 #[.val (.ref a1), .val (.ref c1), .val (.int (0 : Int32)), .val (.int n.toInt32), .val .null, .val (.ref t_284)] []) (fun _ k => st305 _ k) ?_
  have F310 : Fld Z h305 a1 "java/lang/String" "coder" "B" (.int (1 : Int32)) := (Fld.other W305 F299 (Or.inr (slot_ne (Or.inr (wk hw 22 rfl)) (Or.inr (wk hw 21 rfl)) (by decide) (t := .byte) (t' := (.array .byte)) (by decide) (by decide))))
  have F311 : ArF Z h305 t_284 kb_284 .byte (2 * n) (u16 f) := ((r284_2.other W298 (Ne.symm ne286)).other W305 (Ne.symm ne286))
  exact Win.retV X305 hx hlk hret (hb hby d3_57) (by decide) (by decide) (by (try rw [e305]); exact ⟨t_284, kb_284, rfl, N309, K308, z289, F306, F310, F311⟩)
abbrev R_ctor1u : Room := ⟨5, 2, 12, 74⟩
set_option maxRecDepth 65536 in
set_option maxHeartbeats 40000000 in
theorem ctor1u (l : Launch) (Z : State) (a0 : Array Value) (hw : ∀ d ∈ tables_1, d.before a0 Z = true) (a1 : Addr) (c1 : Addr) (kc : ClassId) (n : Nat) (f : Nat → Int32) (cs : Int32) (h0 : Heap) (n0 : Nat) (O0 : Old Z n0 h0) (E1 : Exa Z h0 a1 "java/lang/String") (F1 : Fld Z h0 a1 "java/lang/String" "value" "[B" .null) (F2 : Fld Z h0 a1 "java/lang/String" "coder" "B" (.int (0 : Int32))) (Fc : ArF Z h0 c1 kc .char n f) (hcap : n ≤ 4) (hne : ∃ i, i < n ∧ (255 : Int32) < f i) (g1 : n0 ≤ a1) (S_AD : Sta Z Z.heap "java/lang/StringUTF16" "$assertionsDisabled" "Z" (.int (1 : Int32))) (S_HI : Sta Z Z.heap "java/lang/StringUTF16" "HI_BYTE_SHIFT" "I" (.int (0 : Int32))) (S_LO : Sta Z Z.heap "java/lang/StringUTF16" "LO_BYTE_SHIFT" "I" (.int (8 : Int32))) (S_CS : Sta Z Z.heap "java/lang/String" "COMPACT_STRINGS" "Z" (.int cs)) (hcs : ¬ (cs = (0 : Int32))) :
    MetN l Z (⟨"java/lang/String", "<init>", "([C)V"⟩ : MethodName) jdk_42_method_3_code 2 none R_ctor1u [] #[(.ref a1), (.ref c1)] h0 (fun v h L => ∃ (t : Addr) (kb : ClassId), v = none ∧ Fr n0 L ∧ Keep h0 h [a1] ∧ h0.size ≤ t ∧ Fld Z h a1 "java/lang/String" "value" "[B" (.ref t) ∧ Fld Z h a1 "java/lang/String" "coder" "B" (.int (1 : Int32)) ∧ ArF Z h t kb .byte (2 * n) (u16 f)) := by
  refine MetN.walk (plainFor_of_name pn_2) ?_
  intro p e s m below meth c s₁ hx hZ hby hml hown hnm hret hlk X0 e0
  have N0 := Fr.nil n0
  refine Win.to s₁ (mkF m 0 #[.val (.ref a1), .val (.ref c1)] []) (fun _ k => castTop (by first | (simp [entryFrame, mkF, argsToLocals, Value.category]; done) | rfl) k) ?_
  refine Win.to s₁ (mkF m 1 #[.val (.ref a1), .val (.ref c1)] [(.ref a1)]) (fun _ k => XS.aloadN X0.here hx rfl (hb hby d2_0) rfl rfl k) ?_
  refine Win.to s₁ (mkF m 2 #[.val (.ref a1), .val (.ref c1)] [(.ref c1), (.ref a1)]) (fun _ k => XS.aloadN X0.here hx rfl (hb hby d2_1) rfl rfl k) ?_
  refine Win.to s₁ (mkF m 3 #[.val (.ref a1), .val (.ref c1)] [(.int (0 : Int32)), (.ref c1), (.ref a1)]) (fun _ k => XS.iconst X0.here hx rfl (hb hby d2_2) k) ?_
  refine Win.to s₁ (mkF m 4 #[.val (.ref a1), .val (.ref c1)] [(.ref c1), (.int (0 : Int32)), (.ref c1), (.ref a1)]) (fun _ k => XS.aloadN X0.here hx rfl (hb hby d2_3) rfl rfl k) ?_
  obtain ⟨cl312, Ar312, hl312⟩ := ArF.len Fc
  refine Win.to s₁ (mkF m 5 #[.val (.ref a1), .val (.ref c1)] [(.int n.toInt32), (.int (0 : Int32)), (.ref c1), (.ref a1)]) (fun _ k => X0.arraylength hx (by rw [e0]; exact Ar312.1) (State.isArrayOf_alike hZ.alike Ar312.2.1) (g := (mkF m 4 #[.val (.ref a1), .val (.ref c1)] [(.ref c1), (.int (0 : Int32)), (.ref c1), (.ref a1)])) rfl rfl (hb hby d2_4) _ (by rw [hl312]; exact k)) ?_
  refine Win.to s₁ (mkF m 6 #[.val (.ref a1), .val (.ref c1)] [.null, (.int n.toInt32), (.int (0 : Int32)), (.ref c1), (.ref a1)]) (fun _ k => XS.aconstNull X0.here hx rfl (hb hby d2_5) k) ?_
  have ne314 : a1 ≠ c1 := own_neF E1 Fc (wk hw 6 rfl)
  obtain ⟨T313, h313, v313, L313, X313, e313, ⟨t_313, kb_313, rfl, N313q, r313_0, r313_1, r313_2, r313_3, r313_4⟩, st313⟩ := N.special X0 hx hZ (y := (⟨"java/lang/String", "<init>", "([CIILjava/lang/Void;)V"⟩ : MethodName)) rfl hown (wk hw 12 rfl) (wk hw 13 rfl) (wk hw 7 rfl) (wk hw 15 rfl) (by decide) (ctor4u l Z a0 hw a1 c1 kc n f cs h0 n0 O0 E1 F1 F2 Fc hcap hne g1 S_AD S_HI S_LO S_CS hcs) e0 (g := (mkF m 6 #[.val (.ref a1), .val (.ref c1)] [.null, (.int n.toInt32), (.int (0 : Int32)), (.ref c1), (.ref a1)])) rfl (by rw [hml]; rfl) (a := a1) (argsL := [(.ref c1), (.int (0 : Int32)), (.int n.toInt32), .null]) (rest := []) rfl (lenOf pd___CIILjava_lang_Void__V rfl) rfl (W := 0) (by show 2 * 0 + _ ≤ _; exact Nat.le_of_eq rfl) (hb hby d2_6) (by decide) (by decide) (by decide) (by decide)
  have N315 := Fr.app N0 N313q
  have ne316 : a1 ≠ t_313 := Nat.ne_of_lt (Nat.lt_of_lt_of_le E1.lt r313_1)
  have ne317 : c1 ≠ t_313 := Nat.ne_of_lt (Nat.lt_of_lt_of_le Fc.lt r313_1)
  have g318 : n0 ≤ t_313 := Nat.le_trans (own_le O0) r313_1
  have z319 : h0.size ≤ t_313 := r313_1
  have O320 := Old.keep O0 r313_0 (allS g1 all0)
  have K321 : Keep h0 h313 [a1] := Keep.trans (Keep.refl h0 [a1]) r313_0 (allS (Or.inl (List.mem_of_getElem? (i := 0) rfl)) all0)
  refine Win.to T313 (mkF m 9 #[.val (.ref a1), .val (.ref c1)] []) (fun _ k => st313 _ k) ?_
  exact Win.retV X313 hx hlk hret (hb hby d2_9) (by decide) (by decide) (by (try rw [e313]); exact ⟨t_313, kb_313, rfl, N315, K321, z319, r313_2, r313_3, r313_4⟩)
abbrev R_coderM : Room := ⟨0, 0, 0, 0⟩
set_option maxRecDepth 65536 in
set_option maxHeartbeats 40000000 in
theorem coderM (l : Launch) (Z : State) (a0 : Array Value) (hw : ∀ d ∈ tables_1, d.before a0 Z = true) (a1 : Addr) (cs : Int32) (h0 : Heap) (n0 : Nat) (O0 : Old Z n0 h0) (F2 : Fld Z h0 a1 "java/lang/String" "coder" "B" (.int (0 : Int32))) (S_CS : Sta Z Z.heap "java/lang/String" "COMPACT_STRINGS" "Z" (.int cs)) (hcs : ¬ (cs = (0 : Int32))) :
    MetN l Z (⟨"java/lang/String", "coder", "()B"⟩ : MethodName) jdk_42_method_152_code 1 (some .byte) R_coderM [] #[(.ref a1)] h0 (fun v h L => v = some (.int (0 : Int32)) ∧ Fr n0 L ∧ h = h0) := by
  refine MetN.walk (plainFor_of_name pn_7) ?_
  intro p e s m below meth c s₁ hx hZ hby hml hown hnm hret hlk X0 e0
  have N0 := Fr.nil n0
  refine Win.to s₁ (mkF m 0 #[.val (.ref a1)] []) (fun _ k => castTop (by first | (simp [entryFrame, mkF, argsToLocals, Value.category]; done) | rfl) k) ?_
  obtain ⟨T322, X322, e322, st322⟩ := getS2 X0 hx hZ hown (host := "") (Or.inl (wk hw 45 rfl)) Via.refl e0 (Sta.ext O0.2 S_CS) (g := (mkF m 0 #[.val (.ref a1)] [])) rfl (hb hby d7_0)
  refine Win.to T322 (mkF m 3 #[.val (.ref a1)] [(.int cs)]) (fun _ k => st322 _ k) ?_
  refine Win.to T322 (mkF m 6 #[.val (.ref a1)] []) (fun _ k => XS.ifNo X322.here hx rfl (hb hby d7_3) rfl ((if0 _ _).trans (feq (show ¬ (cs = (0 : Int32)) from hcs)).1) k) ?_
  refine Win.to T322 (mkF m 7 #[.val (.ref a1)] [(.ref a1)]) (fun _ k => XS.aloadN X322.here hx rfl (hb hby d7_6) rfl rfl k) ?_
  obtain ⟨T323, X323, e323, st323⟩ := getF X322 hx hZ hown (host := "") (Or.inl (wk hw 26 rfl)) Via.refl e322 F2 (g := (mkF m 7 #[.val (.ref a1)] [(.ref a1)])) rfl rfl (hb hby d7_7)
  refine Win.to T323 (mkF m 10 #[.val (.ref a1)] [(.int (0 : Int32))]) (fun _ k => st323 _ k) ?_
  refine Win.to T323 (mkF m 14 #[.val (.ref a1)] [(.int (0 : Int32))]) (fun _ k => XS.goto X323.here hx rfl (pc0 := 10) (pc' := 14) rfl (hb hby d7_10) (by decide) (by decide) k) ?_
  exact Win.retN X323 hx hlk (t := .byte) hret (by simp) rfl (hb hby d7_14) (by decide) (by decide) (by (try rw [e323]); exact ⟨rfl, N0, rfl⟩)
abbrev R_strLen : Room := ⟨1, 0, 0, 13⟩
set_option maxRecDepth 65536 in
set_option maxHeartbeats 40000000 in
theorem strLen (l : Launch) (Z : State) (a0 : Array Value) (hw : ∀ d ∈ tables_1, d.before a0 Z = true) (a1 : Addr) (t1 : Addr) (k1 : ClassId) (n : Nat) (f : Nat → Int32) (cs : Int32) (h0 : Heap) (n0 : Nat) (O0 : Old Z n0 h0) (E1 : Exa Z h0 a1 "java/lang/String") (F1 : Fld Z h0 a1 "java/lang/String" "value" "[B" (.ref t1)) (F2 : Fld Z h0 a1 "java/lang/String" "coder" "B" (.int (0 : Int32))) (Fa : ArF Z h0 t1 k1 .byte n f) (S_CS : Sta Z Z.heap "java/lang/String" "COMPACT_STRINGS" "Z" (.int cs)) (hcs : ¬ (cs = (0 : Int32))) :
    MetN l Z (⟨"java/lang/String", "length", "()I"⟩ : MethodName) jdk_42_method_54_code 1 (some .int) R_strLen [] #[(.ref a1)] h0 (fun v h L => v = some (.int n.toInt32) ∧ Fr n0 L ∧ h = h0) := by
  refine MetN.walk (plainFor_of_name pn_6) ?_
  intro p e s m below meth c s₁ hx hZ hby hml hown hnm hret hlk X0 e0
  have N0 := Fr.nil n0
  refine Win.to s₁ (mkF m 0 #[.val (.ref a1)] []) (fun _ k => castTop (by first | (simp [entryFrame, mkF, argsToLocals, Value.category]; done) | rfl) k) ?_
  refine Win.to s₁ (mkF m 1 #[.val (.ref a1)] [(.ref a1)]) (fun _ k => XS.aloadN X0.here hx rfl (hb hby d6_0) rfl rfl k) ?_
  obtain ⟨T324, X324, e324, st324⟩ := getF X0 hx hZ hown (host := "") (Or.inl (wk hw 25 rfl)) Via.refl e0 F1 (g := (mkF m 1 #[.val (.ref a1)] [(.ref a1)])) rfl rfl (hb hby d6_1)
  refine Win.to T324 (mkF m 4 #[.val (.ref a1)] [(.ref t1)]) (fun _ k => st324 _ k) ?_
  obtain ⟨cl325, Ar325, hl325⟩ := ArF.len Fa
  refine Win.to T324 (mkF m 5 #[.val (.ref a1)] [(.int n.toInt32)]) (fun _ k => X324.arraylength hx (by rw [e324]; exact Ar325.1) (State.isArrayOf_alike hZ.alike Ar325.2.1) (g := (mkF m 4 #[.val (.ref a1)] [(.ref t1)])) rfl rfl (hb hby d6_4) _ (by rw [hl325]; exact k)) ?_
  refine Win.to T324 (mkF m 6 #[.val (.ref a1)] [(.ref a1), (.int n.toInt32)]) (fun _ k => XS.aloadN X324.here hx rfl (hb hby d6_5) rfl rfl k) ?_
  obtain ⟨T326, h326, v326, L326, X326, e326, ⟨rfl, N326q, r326_0⟩, st326⟩ := N.virtual X324 hx hZ (y := (⟨"java/lang/String", "coder", "()B"⟩ : MethodName)) (z := (⟨"java/lang/String", "coder", "()B"⟩ : MethodName)) hown (wk hw 40 rfl) (wk hw 41 rfl) (notFace_of_selects (args := #[]) (mvT hZ (wk hw 43 rfl))) (wk hw 43 rfl) (wk hw 42 rfl) (wk hw 7 rfl) (wk hw 44 rfl) (by decide) (coderM l Z a0 hw a1 cs h0 n0 O0 F2 S_CS hcs) e324 E1 (g := (mkF m 6 #[.val (.ref a1)] [(.ref a1), (.int n.toInt32)])) rfl (by rw [hml]; rfl) (argsL := []) (rest := [(.int n.toInt32)]) rfl (lenOf pd___B rfl) rfl (W := 1) (by show 2 * 0 + _ ≤ _; exact Nat.le_of_eq rfl) (hb hby d6_6) (by decide) (by decide) (by decide) (by decide)
  have N327 := Fr.app N0 N326q
  have e326 := e326.trans r326_0
  refine Win.to T326 (mkF m 9 #[.val (.ref a1)] [(.int (0 : Int32)), (.int n.toInt32)]) (fun _ k => st326 _ k) ?_
  refine Win.to T326 (mkF m 10 #[.val (.ref a1)] [(.int n.toInt32)]) (fun _ k => XS.ishr X326.here hx rfl (hb hby d6_9) rfl (by rw [show (n.toInt32 >>> ((0 : Int32) &&& 31)) = n.toInt32 from own_shr0 _]; exact k)) ?_
  exact Win.retI X326 hx hlk hret (hb hby d6_10) (by decide) (by decide) (by (try rw [e326]); exact ⟨rfl, N327, rfl⟩)
abbrev R_isLat : Room := ⟨0, 0, 0, 0⟩
set_option maxRecDepth 65536 in
set_option maxHeartbeats 40000000 in
theorem isLat (l : Launch) (Z : State) (a0 : Array Value) (hw : ∀ d ∈ tables_1, d.before a0 Z = true) (a1 : Addr) (cs : Int32) (h0 : Heap) (n0 : Nat) (O0 : Old Z n0 h0) (F2 : Fld Z h0 a1 "java/lang/String" "coder" "B" (.int (0 : Int32))) (S_CS : Sta Z Z.heap "java/lang/String" "COMPACT_STRINGS" "Z" (.int cs)) (hcs : ¬ (cs = (0 : Int32))) :
    MetN l Z (⟨"java/lang/String", "isLatin1", "()Z"⟩ : MethodName) jdk_42_method_154_code 1 (some .boolean) R_isLat [] #[(.ref a1)] h0 (fun v h L => v = some (.int (1 : Int32)) ∧ Fr n0 L ∧ h = h0) := by
  refine MetN.walk (plainFor_of_name pn_13) ?_
  intro p e s m below meth c s₁ hx hZ hby hml hown hnm hret hlk X0 e0
  have N0 := Fr.nil n0
  refine Win.to s₁ (mkF m 0 #[.val (.ref a1)] []) (fun _ k => castTop (by first | (simp [entryFrame, mkF, argsToLocals, Value.category]; done) | rfl) k) ?_
  obtain ⟨T328, X328, e328, st328⟩ := getS2 X0 hx hZ hown (host := "") (Or.inl (wk hw 45 rfl)) Via.refl e0 (Sta.ext O0.2 S_CS) (g := (mkF m 0 #[.val (.ref a1)] [])) rfl (hb hby d13_0)
  refine Win.to T328 (mkF m 3 #[.val (.ref a1)] [(.int cs)]) (fun _ k => st328 _ k) ?_
  refine Win.to T328 (mkF m 6 #[.val (.ref a1)] []) (fun _ k => XS.ifNo X328.here hx rfl (hb hby d13_3) rfl ((if0 _ _).trans (feq (show ¬ (cs = (0 : Int32)) from hcs)).1) k) ?_
  refine Win.to T328 (mkF m 7 #[.val (.ref a1)] [(.ref a1)]) (fun _ k => XS.aloadN X328.here hx rfl (hb hby d13_6) rfl rfl k) ?_
  obtain ⟨T329, X329, e329, st329⟩ := getF X328 hx hZ hown (host := "") (Or.inl (wk hw 26 rfl)) Via.refl e328 F2 (g := (mkF m 7 #[.val (.ref a1)] [(.ref a1)])) rfl rfl (hb hby d13_7)
  refine Win.to T329 (mkF m 10 #[.val (.ref a1)] [(.int (0 : Int32))]) (fun _ k => st329 _ k) ?_
  refine Win.to T329 (mkF m 13 #[.val (.ref a1)] []) (fun _ k => XS.ifNo X329.here hx rfl (hb hby d13_10) rfl ((if0 _ _).trans (teq (show (0 : Int32) = (0 : Int32) from by decide)).2) k) ?_
  refine Win.to T329 (mkF m 14 #[.val (.ref a1)] [(.int (1 : Int32))]) (fun _ k => XS.iconst X329.here hx rfl (hb hby d13_13) k) ?_
  refine Win.to T329 (mkF m 18 #[.val (.ref a1)] [(.int (1 : Int32))]) (fun _ k => XS.goto X329.here hx rfl (pc0 := 14) (pc' := 18) rfl (hb hby d13_14) (by decide) (by decide) k) ?_
  exact Win.retN X329 hx hlk (t := .boolean) hret (by simp) rfl (hb hby d13_18) (by decide) (by decide) (by (try rw [e329]); exact ⟨rfl, N0, rfl⟩)
abbrev R_chkI3 : Room := ⟨0, 0, 0, 0⟩
set_option maxRecDepth 65536 in
set_option maxHeartbeats 40000000 in
theorem chkI3 (l : Launch) (Z : State) (a0 : Array Value) (hw : ∀ d ∈ tables_1, d.before a0 Z = true) (i : Nat) (n : Nat) (x1 : Value) (h0 : Heap) (n0 : Nat) (O0 : Old Z n0 h0) (hi : i < n) (hn : n < 2 ^ 31) (hx1 : x1.isRef = true) :
    MetN l Z (⟨"jdk/internal/util/Preconditions", "checkIndex", "(IILjava/util/function/BiFunction;)I"⟩ : MethodName) jdk_41_method_11_code 3 (some .int) R_chkI3 [] #[(.int i.toInt32), (.int n.toInt32), x1] h0 (fun v h L => v = some (.int i.toInt32) ∧ Fr n0 L ∧ h = h0) := by
  refine MetN.walk (plainFor_of_name pn_16) ?_
  intro p e s m below meth c s₁ hx hZ hby hml hown hnm hret hlk X0 e0
  have N0 := Fr.nil n0
  refine Win.to s₁ (mkF m 0 #[.val (.int i.toInt32), .val (.int n.toInt32), .val x1] []) (fun _ k => castTop (by (rcases ref_cases hx1 with hh | ⟨_, hh⟩ <;> rw [hh]) <;> rfl) k) ?_
  have hi2 : i < 2 ^ 31 := by omega
  refine Win.to s₁ (mkF m 1 #[.val (.int i.toInt32), .val (.int n.toInt32), .val x1] [(.int i.toInt32)]) (fun _ k => XS.iloadN X0.here hx rfl (hb hby d16_0) rfl k) ?_
  refine Win.to s₁ (mkF m 4 #[.val (.int i.toInt32), .val (.int n.toInt32), .val x1] []) (fun _ k => XS.ifNo X0.here hx rfl (hb hby d16_1) rfl ((if0 _ _).trans (flt (show ¬ (i.toInt32 < (0 : Int32)) from (own_tn hi2).2.1)).1) k) ?_
  refine Win.to s₁ (mkF m 5 #[.val (.int i.toInt32), .val (.int n.toInt32), .val x1] [(.int i.toInt32)]) (fun _ k => XS.iloadN X0.here hx rfl (hb hby d16_4) rfl k) ?_
  refine Win.to s₁ (mkF m 6 #[.val (.int i.toInt32), .val (.int n.toInt32), .val x1] [(.int n.toInt32), (.int i.toInt32)]) (fun _ k => XS.iloadN X0.here hx rfl (hb hby d16_5) rfl k) ?_
  refine Win.to s₁ (mkF m 16 #[.val (.int i.toInt32), .val (.int n.toInt32), .val x1] []) (fun _ k => XS.icmpYes X0.here hx rfl (pc0 := 6) (pc' := 16) rfl (hb hby d16_6) rfl (tlt (show i.toInt32 < n.toInt32 from ((own_lt hi2 hn).mpr hi))).1 (by decide) (by decide) k) ?_
  refine Win.to s₁ (mkF m 17 #[.val (.int i.toInt32), .val (.int n.toInt32), .val x1] [(.int i.toInt32)]) (fun _ k => XS.iloadN X0.here hx rfl (hb hby d16_16) rfl k) ?_
  exact Win.retI X0 hx hlk hret (hb hby d16_17) (by decide) (by decide) (by (try rw [e0]); exact ⟨rfl, N0, rfl⟩)
abbrev R_chkI2 : Room := ⟨1, 0, 0, 14⟩
set_option maxRecDepth 65536 in
set_option maxHeartbeats 40000000 in
theorem chkI2 (l : Launch) (Z : State) (a0 : Array Value) (hw : ∀ d ∈ tables_1, d.before a0 Z = true) (i : Nat) (n : Nat) (x1 : Value) (h0 : Heap) (n0 : Nat) (O0 : Old Z n0 h0) (hi : i < n) (hn : n < 2 ^ 31) (S_SI : Sta Z Z.heap "jdk/internal/util/Preconditions" "SIOOBE_FORMATTER" "Ljava/util/function/BiFunction;" x1) (hx1 : x1.isRef = true) :
    MetN l Z (⟨"java/lang/String", "checkIndex", "(II)V"⟩ : MethodName) jdk_42_method_155_code 2 none R_chkI2 [] #[(.int i.toInt32), (.int n.toInt32)] h0 (fun v h L => v = none ∧ Fr n0 L ∧ h = h0) := by
  refine MetN.walk (plainFor_of_name pn_15) ?_
  intro p e s m below meth c s₁ hx hZ hby hml hown hnm hret hlk X0 e0
  have N0 := Fr.nil n0
  refine Win.to s₁ (mkF m 0 #[.val (.int i.toInt32), .val (.int n.toInt32)] []) (fun _ k => castTop (by first | (simp [entryFrame, mkF, argsToLocals, Value.category]; done) | rfl) k) ?_
  refine Win.to s₁ (mkF m 1 #[.val (.int i.toInt32), .val (.int n.toInt32)] [(.int i.toInt32)]) (fun _ k => XS.iloadN X0.here hx rfl (hb hby d15_0) rfl k) ?_
  refine Win.to s₁ (mkF m 2 #[.val (.int i.toInt32), .val (.int n.toInt32)] [(.int n.toInt32), (.int i.toInt32)]) (fun _ k => XS.iloadN X0.here hx rfl (hb hby d15_1) rfl k) ?_
  obtain ⟨T330, X330, e330, st330⟩ := getS2 X0 hx hZ hown (host := "") (Or.inl (wk hw 79 rfl)) Via.refl e0 (Sta.ext O0.2 S_SI) (g := (mkF m 2 #[.val (.int i.toInt32), .val (.int n.toInt32)] [(.int n.toInt32), (.int i.toInt32)])) rfl (hb hby d15_2)
  refine Win.to T330 (mkF m 5 #[.val (.int i.toInt32), .val (.int n.toInt32)] [x1, (.int n.toInt32), (.int i.toInt32)]) (fun _ k => st330 _ k) ?_
  obtain ⟨T331, h331, v331, L331, X331, e331, ⟨rfl, N331q, r331_0⟩, st331⟩ := N.static X330 hx hZ (y := (⟨"jdk/internal/util/Preconditions", "checkIndex", "(IILjava/util/function/BiFunction;)I"⟩ : MethodName)) hown (wk hw 81 rfl) (wk hw 82 rfl) (wk hw 80 rfl) (wk hw 83 rfl) (by decide) (chkI3 l Z a0 hw i n x1 h0 n0 O0 hi hn hx1) e330 (g := (mkF m 5 #[.val (.int i.toInt32), .val (.int n.toInt32)] [x1, (.int n.toInt32), (.int i.toInt32)])) rfl (by rw [hml]; rfl) (argsL := [(.int i.toInt32), (.int n.toInt32), x1]) (rest := []) rfl (lenOf pd__IILjava_util_function_BiFunction__I rfl) rfl (W := 0) (by show 2 * 0 + _ ≤ _; exact Nat.le_of_eq rfl) (hb hby d15_5) (by decide) (by decide) (by decide) (by decide)
  have N332 := Fr.app N0 N331q
  have e331 := e331.trans r331_0
  refine Win.to T331 (mkF m 8 #[.val (.int i.toInt32), .val (.int n.toInt32)] [(.int i.toInt32)]) (fun _ k => st331 _ k) ?_
  refine Win.to T331 (mkF m 9 #[.val (.int i.toInt32), .val (.int n.toInt32)] []) (fun _ k => XS.pop X331.here hx rfl (hb hby d15_8) rfl rfl k) ?_
  exact Win.retV X331 hx hlk hret (hb hby d15_9) (by decide) (by decide) (by (try rw [e331]); exact ⟨rfl, N332, rfl⟩)
abbrev R_chL1 : Room := ⟨2, 0, 0, 27⟩
set_option maxRecDepth 65536 in
set_option maxHeartbeats 40000000 in
theorem chL1 (l : Launch) (Z : State) (a0 : Array Value) (hw : ∀ d ∈ tables_1, d.before a0 Z = true) (t1 : Addr) (k1 : ClassId) (n : Nat) (f : Nat → Int32) (i : Nat) (x1 : Value) (h0 : Heap) (n0 : Nat) (O0 : Old Z n0 h0) (Fa : ArF Z h0 t1 k1 .byte n f) (hi : i < n) (S_SI : Sta Z Z.heap "jdk/internal/util/Preconditions" "SIOOBE_FORMATTER" "Ljava/util/function/BiFunction;" x1) (hx1 : x1.isRef = true) :
    MetN l Z (⟨"java/lang/StringLatin1", "charAt", "([BI)C"⟩ : MethodName) jdk_43_method_2_code 2 (some .char) R_chL1 [] #[(.ref t1), (.int i.toInt32)] h0 (fun v h L => v = some (.int ((f i) &&& (255 : Int32))) ∧ Fr n0 L ∧ h = h0) := by
  refine MetN.walk (plainFor_of_name pn_14) ?_
  intro p e s m below meth c s₁ hx hZ hby hml hown hnm hret hlk X0 e0
  have N0 := Fr.nil n0
  refine Win.to s₁ (mkF m 0 #[.val (.ref t1), .val (.int i.toInt32)] []) (fun _ k => castTop (by first | (simp [entryFrame, mkF, argsToLocals, Value.category]; done) | rfl) k) ?_
  have hn := Fa.big
  have hi2 : i < 2 ^ 31 := by omega
  refine Win.to s₁ (mkF m 1 #[.val (.ref t1), .val (.int i.toInt32)] [(.int i.toInt32)]) (fun _ k => XS.iloadN X0.here hx rfl (hb hby d14_0) rfl k) ?_
  refine Win.to s₁ (mkF m 2 #[.val (.ref t1), .val (.int i.toInt32)] [(.ref t1), (.int i.toInt32)]) (fun _ k => XS.aloadN X0.here hx rfl (hb hby d14_1) rfl rfl k) ?_
  obtain ⟨cl333, Ar333, hl333⟩ := ArF.len Fa
  refine Win.to s₁ (mkF m 3 #[.val (.ref t1), .val (.int i.toInt32)] [(.int n.toInt32), (.int i.toInt32)]) (fun _ k => X0.arraylength hx (by rw [e0]; exact Ar333.1) (State.isArrayOf_alike hZ.alike Ar333.2.1) (g := (mkF m 2 #[.val (.ref t1), .val (.int i.toInt32)] [(.ref t1), (.int i.toInt32)])) rfl rfl (hb hby d14_2) _ (by rw [hl333]; exact k)) ?_
  obtain ⟨T334, h334, v334, L334, X334, e334, ⟨rfl, N334q, r334_0⟩, st334⟩ := N.static X0 hx hZ (y := (⟨"java/lang/String", "checkIndex", "(II)V"⟩ : MethodName)) hown (wk hw 76 rfl) (wk hw 77 rfl) (wk hw 7 rfl) (wk hw 78 rfl) (by decide) (chkI2 l Z a0 hw i n x1 h0 n0 O0 hi (by first | assumption | decide | omega) S_SI hx1) e0 (g := (mkF m 3 #[.val (.ref t1), .val (.int i.toInt32)] [(.int n.toInt32), (.int i.toInt32)])) rfl (by rw [hml]; rfl) (argsL := [(.int i.toInt32), (.int n.toInt32)]) (rest := []) rfl (lenOf pd__II_V rfl) rfl (W := 0) (by show 2 * 0 + _ ≤ _; exact Nat.le_of_eq rfl) (hb hby d14_3) (by decide) (by decide) (by decide) (by decide)
  have N335 := Fr.app N0 N334q
  have e334 := e334.trans r334_0
  refine Win.to T334 (mkF m 6 #[.val (.ref t1), .val (.int i.toInt32)] []) (fun _ k => st334 _ k) ?_
  refine Win.to T334 (mkF m 7 #[.val (.ref t1), .val (.int i.toInt32)] [(.ref t1)]) (fun _ k => XS.aloadN X334.here hx rfl (hb hby d14_6) rfl rfl k) ?_
  refine Win.to T334 (mkF m 8 #[.val (.ref t1), .val (.int i.toInt32)] [(.int i.toInt32), (.ref t1)]) (fun _ k => XS.iloadN X334.here hx rfl (hb hby d14_7) rfl k) ?_
  obtain ⟨cl336, Ar336, hi336, ha336⟩ := ArF.at Fa (j := i.toInt32) (i := i) (own_tn hi2).1 (own_tn hi2).2.1 hi
  refine Win.to T334 (mkF m 9 #[.val (.ref t1), .val (.int i.toInt32)] [(.int (f i))]) (fun _ k => X334.baloadBytes hx (j := i.toInt32) (v := (.int (f i))) (by rw [e334]; exact Ar336.1) (State.isArrayOf_alike hZ.alike Ar336.2.1) Ar336.2.2 hi336 ha336 (g := (mkF m 8 #[.val (.ref t1), .val (.int i.toInt32)] [(.int i.toInt32), (.ref t1)])) rfl rfl (hb hby d14_8) _ k) ?_
  refine Win.to T334 (mkF m 12 #[.val (.ref t1), .val (.int i.toInt32)] [(.int (255 : Int32)), (.int (f i))]) (fun _ k => XS.sipush X334.here hx rfl (hb hby d14_9) k) ?_
  refine Win.to T334 (mkF m 13 #[.val (.ref t1), .val (.int i.toInt32)] [(.int ((f i) &&& (255 : Int32)))]) (fun _ k => XS.iand X334.here hx rfl (hb hby d14_12) rfl k) ?_
  refine Win.to T334 (mkF m 14 #[.val (.ref t1), .val (.int i.toInt32)] [(.int ((f i) &&& (255 : Int32)))]) (fun _ k => XS.i2c X334.here hx rfl (hb hby d14_13) rfl (by rw [show (((f i) &&& (255 : Int32)).toUInt32.toUInt16.toUInt32.toInt32) = ((f i) &&& (255 : Int32)) from (i2c_mask (f i))]; exact k)) ?_
  exact Win.retN X334 hx hlk (t := .char) hret (by simp) (show nar .char ((f i) &&& (255 : Int32)) = ((f i) &&& (255 : Int32)) from (i2c_mask (f i))) (hb hby d14_14) (by decide) (by decide) (by (try rw [e334]); exact ⟨rfl, N335, rfl⟩)
abbrev R_chAt : Room := ⟨3, 0, 0, 40⟩
set_option maxRecDepth 65536 in
set_option maxHeartbeats 40000000 in
theorem chAt (l : Launch) (Z : State) (a0 : Array Value) (hw : ∀ d ∈ tables_1, d.before a0 Z = true) (a1 : Addr) (t1 : Addr) (k1 : ClassId) (n : Nat) (f : Nat → Int32) (i : Nat) (cs : Int32) (x1 : Value) (h0 : Heap) (n0 : Nat) (O0 : Old Z n0 h0) (E1 : Exa Z h0 a1 "java/lang/String") (F1 : Fld Z h0 a1 "java/lang/String" "value" "[B" (.ref t1)) (F2 : Fld Z h0 a1 "java/lang/String" "coder" "B" (.int (0 : Int32))) (Fa : ArF Z h0 t1 k1 .byte n f) (hi : i < n) (S_CS : Sta Z Z.heap "java/lang/String" "COMPACT_STRINGS" "Z" (.int cs)) (hcs : ¬ (cs = (0 : Int32))) (S_SI : Sta Z Z.heap "jdk/internal/util/Preconditions" "SIOOBE_FORMATTER" "Ljava/util/function/BiFunction;" x1) (hx1 : x1.isRef = true) :
    MetN l Z (⟨"java/lang/String", "charAt", "(I)C"⟩ : MethodName) jdk_42_method_56_code 2 (some .char) R_chAt [] #[(.ref a1), (.int i.toInt32)] h0 (fun v h L => v = some (.int ((f i) &&& (255 : Int32))) ∧ Fr n0 L ∧ h = h0) := by
  refine MetN.walk (plainFor_of_name pn_12) ?_
  intro p e s m below meth c s₁ hx hZ hby hml hown hnm hret hlk X0 e0
  have N0 := Fr.nil n0
  refine Win.to s₁ (mkF m 0 #[.val (.ref a1), .val (.int i.toInt32)] []) (fun _ k => castTop (by first | (simp [entryFrame, mkF, argsToLocals, Value.category]; done) | rfl) k) ?_
  refine Win.to s₁ (mkF m 1 #[.val (.ref a1), .val (.int i.toInt32)] [(.ref a1)]) (fun _ k => XS.aloadN X0.here hx rfl (hb hby d12_0) rfl rfl k) ?_
  obtain ⟨T337, h337, v337, L337, X337, e337, ⟨rfl, N337q, r337_0⟩, st337⟩ := N.virtual X0 hx hZ (y := (⟨"java/lang/String", "isLatin1", "()Z"⟩ : MethodName)) (z := (⟨"java/lang/String", "isLatin1", "()Z"⟩ : MethodName)) hown (wk hw 67 rfl) (wk hw 68 rfl) (notFace_of_selects (args := #[]) (mvT hZ (wk hw 70 rfl))) (wk hw 70 rfl) (wk hw 69 rfl) (wk hw 7 rfl) (wk hw 71 rfl) (by decide) (isLat l Z a0 hw a1 cs h0 n0 O0 F2 S_CS hcs) e0 E1 (g := (mkF m 1 #[.val (.ref a1), .val (.int i.toInt32)] [(.ref a1)])) rfl (by rw [hml]; rfl) (argsL := []) (rest := []) rfl (lenOf pd___Z rfl) rfl (W := 0) (by show 2 * 0 + _ ≤ _; exact Nat.le_of_eq rfl) (hb hby d12_1) (by decide) (by decide) (by decide) (by decide)
  have N338 := Fr.app N0 N337q
  have e337 := e337.trans r337_0
  refine Win.to T337 (mkF m 4 #[.val (.ref a1), .val (.int i.toInt32)] [(.int (1 : Int32))]) (fun _ k => st337 _ k) ?_
  refine Win.to T337 (mkF m 7 #[.val (.ref a1), .val (.int i.toInt32)] []) (fun _ k => XS.ifNo X337.here hx rfl (hb hby d12_4) rfl ((if0 _ _).trans (feq (show ¬ ((1 : Int32) = (0 : Int32)) from by decide)).1) k) ?_
  refine Win.to T337 (mkF m 8 #[.val (.ref a1), .val (.int i.toInt32)] [(.ref a1)]) (fun _ k => XS.aloadN X337.here hx rfl (hb hby d12_7) rfl rfl k) ?_
  obtain ⟨T339, X339, e339, st339⟩ := getF X337 hx hZ hown (host := "") (Or.inl (wk hw 25 rfl)) Via.refl e337 F1 (g := (mkF m 8 #[.val (.ref a1), .val (.int i.toInt32)] [(.ref a1)])) rfl rfl (hb hby d12_8)
  refine Win.to T339 (mkF m 11 #[.val (.ref a1), .val (.int i.toInt32)] [(.ref t1)]) (fun _ k => st339 _ k) ?_
  refine Win.to T339 (mkF m 12 #[.val (.ref a1), .val (.int i.toInt32)] [(.int i.toInt32), (.ref t1)]) (fun _ k => XS.iloadN X339.here hx rfl (hb hby d12_11) rfl k) ?_
  obtain ⟨T340, h340, v340, L340, X340, e340, ⟨rfl, N340q, r340_0⟩, st340⟩ := N.static X339 hx hZ (y := (⟨"java/lang/StringLatin1", "charAt", "([BI)C"⟩ : MethodName)) hown (wk hw 72 rfl) (wk hw 73 rfl) (wk hw 74 rfl) (wk hw 75 rfl) (by decide) (chL1 l Z a0 hw t1 k1 n f i x1 h0 n0 O0 Fa hi S_SI hx1) e339 (g := (mkF m 12 #[.val (.ref a1), .val (.int i.toInt32)] [(.int i.toInt32), (.ref t1)])) rfl (by rw [hml]; rfl) (argsL := [(.ref t1), (.int i.toInt32)]) (rest := []) rfl (lenOf pd___BI_C rfl) rfl (W := 0) (by show 2 * 0 + _ ≤ _; exact Nat.le_of_eq rfl) (hb hby d12_12) (by decide) (by decide) (by decide) (by decide)
  have N341 := Fr.app N338 N340q
  have e340 := e340.trans r340_0
  refine Win.to T340 (mkF m 15 #[.val (.ref a1), .val (.int i.toInt32)] [(.int ((f i) &&& (255 : Int32)))]) (fun _ k => st340 _ k) ?_
  exact Win.retN X340 hx hlk (t := .char) hret (by simp) (show nar .char ((f i) &&& (255 : Int32)) = ((f i) &&& (255 : Int32)) from (i2c_mask (f i))) (hb hby d12_15) (by decide) (by decide) (by (try rw [e340]); exact ⟨rfl, N341, rfl⟩)
abbrev R_coderM1 : Room := ⟨0, 0, 0, 0⟩
set_option maxRecDepth 65536 in
set_option maxHeartbeats 40000000 in
theorem coderM1 (l : Launch) (Z : State) (a0 : Array Value) (hw : ∀ d ∈ tables_1, d.before a0 Z = true) (a1 : Addr) (cs : Int32) (h0 : Heap) (n0 : Nat) (O0 : Old Z n0 h0) (F2 : Fld Z h0 a1 "java/lang/String" "coder" "B" (.int (1 : Int32))) (S_CS : Sta Z Z.heap "java/lang/String" "COMPACT_STRINGS" "Z" (.int cs)) (hcs : ¬ (cs = (0 : Int32))) :
    MetN l Z (⟨"java/lang/String", "coder", "()B"⟩ : MethodName) jdk_42_method_152_code 1 (some .byte) R_coderM1 [] #[(.ref a1)] h0 (fun v h L => v = some (.int (1 : Int32)) ∧ Fr n0 L ∧ h = h0) := by
  refine MetN.walk (plainFor_of_name pn_7) ?_
  intro p e s m below meth c s₁ hx hZ hby hml hown hnm hret hlk X0 e0
  have N0 := Fr.nil n0
  refine Win.to s₁ (mkF m 0 #[.val (.ref a1)] []) (fun _ k => castTop (by first | (simp [entryFrame, mkF, argsToLocals, Value.category]; done) | rfl) k) ?_
  obtain ⟨T342, X342, e342, st342⟩ := getS2 X0 hx hZ hown (host := "") (Or.inl (wk hw 45 rfl)) Via.refl e0 (Sta.ext O0.2 S_CS) (g := (mkF m 0 #[.val (.ref a1)] [])) rfl (hb hby d7_0)
  refine Win.to T342 (mkF m 3 #[.val (.ref a1)] [(.int cs)]) (fun _ k => st342 _ k) ?_
  refine Win.to T342 (mkF m 6 #[.val (.ref a1)] []) (fun _ k => XS.ifNo X342.here hx rfl (hb hby d7_3) rfl ((if0 _ _).trans (feq (show ¬ (cs = (0 : Int32)) from hcs)).1) k) ?_
  refine Win.to T342 (mkF m 7 #[.val (.ref a1)] [(.ref a1)]) (fun _ k => XS.aloadN X342.here hx rfl (hb hby d7_6) rfl rfl k) ?_
  obtain ⟨T343, X343, e343, st343⟩ := getF X342 hx hZ hown (host := "") (Or.inl (wk hw 26 rfl)) Via.refl e342 F2 (g := (mkF m 7 #[.val (.ref a1)] [(.ref a1)])) rfl rfl (hb hby d7_7)
  refine Win.to T343 (mkF m 10 #[.val (.ref a1)] [(.int (1 : Int32))]) (fun _ k => st343 _ k) ?_
  refine Win.to T343 (mkF m 14 #[.val (.ref a1)] [(.int (1 : Int32))]) (fun _ k => XS.goto X343.here hx rfl (pc0 := 10) (pc' := 14) rfl (hb hby d7_10) (by decide) (by decide) k) ?_
  exact Win.retN X343 hx hlk (t := .byte) hret (by simp) rfl (hb hby d7_14) (by decide) (by decide) (by (try rw [e343]); exact ⟨rfl, N0, rfl⟩)
abbrev R_strLen1 : Room := ⟨1, 0, 0, 13⟩
set_option maxRecDepth 65536 in
set_option maxHeartbeats 40000000 in
theorem strLen1 (l : Launch) (Z : State) (a0 : Array Value) (hw : ∀ d ∈ tables_1, d.before a0 Z = true) (a1 : Addr) (t1 : Addr) (k1 : ClassId) (n : Nat) (f : Nat → Int32) (cs : Int32) (h0 : Heap) (n0 : Nat) (O0 : Old Z n0 h0) (E1 : Exa Z h0 a1 "java/lang/String") (F1 : Fld Z h0 a1 "java/lang/String" "value" "[B" (.ref t1)) (F2 : Fld Z h0 a1 "java/lang/String" "coder" "B" (.int (1 : Int32))) (Fa : ArF Z h0 t1 k1 .byte (2 * n) (u16 f)) (S_CS : Sta Z Z.heap "java/lang/String" "COMPACT_STRINGS" "Z" (.int cs)) (hcs : ¬ (cs = (0 : Int32))) :
    MetN l Z (⟨"java/lang/String", "length", "()I"⟩ : MethodName) jdk_42_method_54_code 1 (some .int) R_strLen1 [] #[(.ref a1)] h0 (fun v h L => v = some (.int n.toInt32) ∧ Fr n0 L ∧ h = h0) := by
  refine MetN.walk (plainFor_of_name pn_6) ?_
  intro p e s m below meth c s₁ hx hZ hby hml hown hnm hret hlk X0 e0
  have N0 := Fr.nil n0
  refine Win.to s₁ (mkF m 0 #[.val (.ref a1)] []) (fun _ k => castTop (by first | (simp [entryFrame, mkF, argsToLocals, Value.category]; done) | rfl) k) ?_
  refine Win.to s₁ (mkF m 1 #[.val (.ref a1)] [(.ref a1)]) (fun _ k => XS.aloadN X0.here hx rfl (hb hby d6_0) rfl rfl k) ?_
  obtain ⟨T344, X344, e344, st344⟩ := getF X0 hx hZ hown (host := "") (Or.inl (wk hw 25 rfl)) Via.refl e0 F1 (g := (mkF m 1 #[.val (.ref a1)] [(.ref a1)])) rfl rfl (hb hby d6_1)
  refine Win.to T344 (mkF m 4 #[.val (.ref a1)] [(.ref t1)]) (fun _ k => st344 _ k) ?_
  obtain ⟨cl345, Ar345, hl345⟩ := ArF.len Fa
  refine Win.to T344 (mkF m 5 #[.val (.ref a1)] [(.int (2 * n).toInt32)]) (fun _ k => X344.arraylength hx (by rw [e344]; exact Ar345.1) (State.isArrayOf_alike hZ.alike Ar345.2.1) (g := (mkF m 4 #[.val (.ref a1)] [(.ref t1)])) rfl rfl (hb hby d6_4) _ (by rw [hl345]; exact k)) ?_
  refine Win.to T344 (mkF m 6 #[.val (.ref a1)] [(.ref a1), (.int (2 * n).toInt32)]) (fun _ k => XS.aloadN X344.here hx rfl (hb hby d6_5) rfl rfl k) ?_
  obtain ⟨T346, h346, v346, L346, X346, e346, ⟨rfl, N346q, r346_0⟩, st346⟩ := N.virtual X344 hx hZ (y := (⟨"java/lang/String", "coder", "()B"⟩ : MethodName)) (z := (⟨"java/lang/String", "coder", "()B"⟩ : MethodName)) hown (wk hw 40 rfl) (wk hw 41 rfl) (notFace_of_selects (args := #[]) (mvT hZ (wk hw 43 rfl))) (wk hw 43 rfl) (wk hw 42 rfl) (wk hw 7 rfl) (wk hw 44 rfl) (by decide) (coderM1 l Z a0 hw a1 cs h0 n0 O0 F2 S_CS hcs) e344 E1 (g := (mkF m 6 #[.val (.ref a1)] [(.ref a1), (.int (2 * n).toInt32)])) rfl (by rw [hml]; rfl) (argsL := []) (rest := [(.int (2 * n).toInt32)]) rfl (lenOf pd___B rfl) rfl (W := 1) (by show 2 * 0 + _ ≤ _; exact Nat.le_of_eq rfl) (hb hby d6_6) (by decide) (by decide) (by decide) (by decide)
  have N347 := Fr.app N0 N346q
  have e346 := e346.trans r346_0
  refine Win.to T346 (mkF m 9 #[.val (.ref a1)] [(.int (1 : Int32)), (.int (2 * n).toInt32)]) (fun _ k => st346 _ k) ?_
  refine Win.to T346 (mkF m 10 #[.val (.ref a1)] [(.int n.toInt32)]) (fun _ k => XS.ishr X346.here hx rfl (hb hby d6_9) rfl (by rw [show ((2 * n).toInt32 >>> ((1 : Int32) &&& 31)) = n.toInt32 from own_shr1 Fa.big]; exact k)) ?_
  exact Win.retI X346 hx hlk hret (hb hby d6_10) (by decide) (by decide) (by (try rw [e346]); exact ⟨rfl, N347, rfl⟩)
abbrev R_isLat0 : Room := ⟨0, 0, 0, 0⟩
set_option maxRecDepth 65536 in
set_option maxHeartbeats 40000000 in
theorem isLat0 (l : Launch) (Z : State) (a0 : Array Value) (hw : ∀ d ∈ tables_1, d.before a0 Z = true) (a1 : Addr) (cs : Int32) (h0 : Heap) (n0 : Nat) (O0 : Old Z n0 h0) (F2 : Fld Z h0 a1 "java/lang/String" "coder" "B" (.int (1 : Int32))) (S_CS : Sta Z Z.heap "java/lang/String" "COMPACT_STRINGS" "Z" (.int cs)) (hcs : ¬ (cs = (0 : Int32))) :
    MetN l Z (⟨"java/lang/String", "isLatin1", "()Z"⟩ : MethodName) jdk_42_method_154_code 1 (some .boolean) R_isLat0 [] #[(.ref a1)] h0 (fun v h L => v = some (.int (0 : Int32)) ∧ Fr n0 L ∧ h = h0) := by
  refine MetN.walk (plainFor_of_name pn_13) ?_
  intro p e s m below meth c s₁ hx hZ hby hml hown hnm hret hlk X0 e0
  have N0 := Fr.nil n0
  refine Win.to s₁ (mkF m 0 #[.val (.ref a1)] []) (fun _ k => castTop (by first | (simp [entryFrame, mkF, argsToLocals, Value.category]; done) | rfl) k) ?_
  obtain ⟨T348, X348, e348, st348⟩ := getS2 X0 hx hZ hown (host := "") (Or.inl (wk hw 45 rfl)) Via.refl e0 (Sta.ext O0.2 S_CS) (g := (mkF m 0 #[.val (.ref a1)] [])) rfl (hb hby d13_0)
  refine Win.to T348 (mkF m 3 #[.val (.ref a1)] [(.int cs)]) (fun _ k => st348 _ k) ?_
  refine Win.to T348 (mkF m 6 #[.val (.ref a1)] []) (fun _ k => XS.ifNo X348.here hx rfl (hb hby d13_3) rfl ((if0 _ _).trans (feq (show ¬ (cs = (0 : Int32)) from hcs)).1) k) ?_
  refine Win.to T348 (mkF m 7 #[.val (.ref a1)] [(.ref a1)]) (fun _ k => XS.aloadN X348.here hx rfl (hb hby d13_6) rfl rfl k) ?_
  obtain ⟨T349, X349, e349, st349⟩ := getF X348 hx hZ hown (host := "") (Or.inl (wk hw 26 rfl)) Via.refl e348 F2 (g := (mkF m 7 #[.val (.ref a1)] [(.ref a1)])) rfl rfl (hb hby d13_7)
  refine Win.to T349 (mkF m 10 #[.val (.ref a1)] [(.int (1 : Int32))]) (fun _ k => st349 _ k) ?_
  refine Win.to T349 (mkF m 17 #[.val (.ref a1)] []) (fun _ k => XS.ifYes X349.here hx rfl (pc0 := 10) (pc' := 17) rfl (hb hby d13_10) rfl ((if0 _ _).trans (feq (show ¬ ((1 : Int32) = (0 : Int32)) from by decide)).2) (by decide) (by decide) k) ?_
  refine Win.to T349 (mkF m 18 #[.val (.ref a1)] [(.int (0 : Int32))]) (fun _ k => XS.iconst X349.here hx rfl (hb hby d13_17) k) ?_
  exact Win.retN X349 hx hlk (t := .boolean) hret (by simp) rfl (hb hby d13_18) (by decide) (by decide) (by (try rw [e349]); exact ⟨rfl, N0, rfl⟩)
abbrev R_chkI16 : Room := ⟨2, 0, 0, 27⟩
set_option maxRecDepth 65536 in
set_option maxHeartbeats 40000000 in
theorem chkI16 (l : Launch) (Z : State) (a0 : Array Value) (hw : ∀ d ∈ tables_1, d.before a0 Z = true) (t1 : Addr) (k1 : ClassId) (n : Nat) (f : Nat → Int32) (i : Nat) (x1 : Value) (h0 : Heap) (n0 : Nat) (O0 : Old Z n0 h0) (Fa : ArF Z h0 t1 k1 .byte (2 * n) (u16 f)) (hi : i < n) (S_SI : Sta Z Z.heap "jdk/internal/util/Preconditions" "SIOOBE_FORMATTER" "Ljava/util/function/BiFunction;" x1) (hx1 : x1.isRef = true) :
    MetN l Z (⟨"java/lang/StringUTF16", "checkIndex", "(I[B)V"⟩ : MethodName) jdk_52_method_91_code 2 none R_chkI16 [] #[(.int i.toInt32), (.ref t1)] h0 (fun v h L => v = none ∧ Fr n0 L ∧ h = h0) := by
  refine MetN.walk (plainFor_of_name pn_24) ?_
  intro p e s m below meth c s₁ hx hZ hby hml hown hnm hret hlk X0 e0
  have N0 := Fr.nil n0
  refine Win.to s₁ (mkF m 0 #[.val (.int i.toInt32), .val (.ref t1)] []) (fun _ k => castTop (by first | (simp [entryFrame, mkF, argsToLocals, Value.category]; done) | rfl) k) ?_
  have hn2 := Fa.big
  have hn : n < 2 ^ 31 := by omega
  refine Win.to s₁ (mkF m 1 #[.val (.int i.toInt32), .val (.ref t1)] [(.int i.toInt32)]) (fun _ k => XS.iloadN X0.here hx rfl (hb hby d24_0) rfl k) ?_
  refine Win.to s₁ (mkF m 2 #[.val (.int i.toInt32), .val (.ref t1)] [(.ref t1), (.int i.toInt32)]) (fun _ k => XS.aloadN X0.here hx rfl (hb hby d24_1) rfl rfl k) ?_
  obtain ⟨T350, h350, v350, L350, X350, e350, ⟨rfl, N350q, r350_0⟩, st350⟩ := N.static X0 hx hZ (y := (⟨"java/lang/StringUTF16", "length", "([B)I"⟩ : MethodName)) hown (wk hw 112 rfl) (wk hw 113 rfl) (wk hw 48 rfl) (wk hw 114 rfl) (by decide) (len16 l Z a0 hw t1 k1 n (u16 f) h0 n0 O0 Fa) e0 (g := (mkF m 2 #[.val (.int i.toInt32), .val (.ref t1)] [(.ref t1), (.int i.toInt32)])) rfl (by rw [hml]; rfl) (argsL := [(.ref t1)]) (rest := [(.int i.toInt32)]) rfl (lenOf pd___B_I rfl) rfl (W := 1) (by show 2 * 0 + _ ≤ _; exact Nat.le_of_eq rfl) (hb hby d24_2) (by decide) (by decide) (by decide) (by decide)
  have N351 := Fr.app N0 N350q
  have e350 := e350.trans r350_0
  refine Win.to T350 (mkF m 5 #[.val (.int i.toInt32), .val (.ref t1)] [(.int n.toInt32), (.int i.toInt32)]) (fun _ k => st350 _ k) ?_
  obtain ⟨T352, h352, v352, L352, X352, e352, ⟨rfl, N352q, r352_0⟩, st352⟩ := N.static X350 hx hZ (y := (⟨"java/lang/String", "checkIndex", "(II)V"⟩ : MethodName)) hown (wk hw 115 rfl) (wk hw 77 rfl) (wk hw 7 rfl) (wk hw 78 rfl) (by decide) (chkI2 l Z a0 hw i n x1 h0 n0 O0 hi (by first | assumption | decide | omega) S_SI hx1) e350 (g := (mkF m 5 #[.val (.int i.toInt32), .val (.ref t1)] [(.int n.toInt32), (.int i.toInt32)])) rfl (by rw [hml]; rfl) (argsL := [(.int i.toInt32), (.int n.toInt32)]) (rest := []) rfl (lenOf pd__II_V rfl) rfl (W := 0) (by show 2 * 0 + _ ≤ _; exact Nat.le_of_eq rfl) (hb hby d24_5) (by decide) (by decide) (by decide) (by decide)
  have N353 := Fr.app N351 N352q
  have e352 := e352.trans r352_0
  refine Win.to T352 (mkF m 8 #[.val (.int i.toInt32), .val (.ref t1)] []) (fun _ k => st352 _ k) ?_
  exact Win.retV X352 hx hlk hret (hb hby d24_8) (by decide) (by decide) (by (try rw [e352]); exact ⟨rfl, N353, rfl⟩)
abbrev R_ch16 : Room := ⟨3, 0, 0, 40⟩
set_option maxRecDepth 65536 in
set_option maxHeartbeats 40000000 in
theorem ch16 (l : Launch) (Z : State) (a0 : Array Value) (hw : ∀ d ∈ tables_1, d.before a0 Z = true) (t1 : Addr) (k1 : ClassId) (n : Nat) (f : Nat → Int32) (i : Nat) (x1 : Value) (h0 : Heap) (n0 : Nat) (O0 : Old Z n0 h0) (Fa : ArF Z h0 t1 k1 .byte (2 * n) (u16 f)) (hi : i < n) (hrng : ∀ i, i < n → 0 ≤ (f i).toInt ∧ (f i).toInt < 65536) (S_SI : Sta Z Z.heap "jdk/internal/util/Preconditions" "SIOOBE_FORMATTER" "Ljava/util/function/BiFunction;" x1) (hx1 : x1.isRef = true) (S_AD : Sta Z Z.heap "java/lang/StringUTF16" "$assertionsDisabled" "Z" (.int (1 : Int32))) (S_HI : Sta Z Z.heap "java/lang/StringUTF16" "HI_BYTE_SHIFT" "I" (.int (0 : Int32))) (S_LO : Sta Z Z.heap "java/lang/StringUTF16" "LO_BYTE_SHIFT" "I" (.int (8 : Int32))) :
    MetN l Z (⟨"java/lang/StringUTF16", "charAt", "([BI)C"⟩ : MethodName) jdk_52_method_83_code 2 (some .char) R_ch16 [] #[(.ref t1), (.int i.toInt32)] h0 (fun v h L => v = some (.int (f i)) ∧ Fr n0 L ∧ h = h0) := by
  refine MetN.walk (plainFor_of_name pn_23) ?_
  intro p e s m below meth c s₁ hx hZ hby hml hown hnm hret hlk X0 e0
  have N0 := Fr.nil n0
  refine Win.to s₁ (mkF m 0 #[.val (.ref t1), .val (.int i.toInt32)] []) (fun _ k => castTop (by first | (simp [entryFrame, mkF, argsToLocals, Value.category]; done) | rfl) k) ?_
  refine Win.to s₁ (mkF m 1 #[.val (.ref t1), .val (.int i.toInt32)] [(.int i.toInt32)]) (fun _ k => XS.iloadN X0.here hx rfl (hb hby d23_0) rfl k) ?_
  refine Win.to s₁ (mkF m 2 #[.val (.ref t1), .val (.int i.toInt32)] [(.ref t1), (.int i.toInt32)]) (fun _ k => XS.aloadN X0.here hx rfl (hb hby d23_1) rfl rfl k) ?_
  obtain ⟨T354, h354, v354, L354, X354, e354, ⟨rfl, N354q, r354_0⟩, st354⟩ := N.static X0 hx hZ (y := (⟨"java/lang/StringUTF16", "checkIndex", "(I[B)V"⟩ : MethodName)) hown (wk hw 109 rfl) (wk hw 110 rfl) (wk hw 48 rfl) (wk hw 111 rfl) (by decide) (chkI16 l Z a0 hw t1 k1 n f i x1 h0 n0 O0 Fa hi S_SI hx1) e0 (g := (mkF m 2 #[.val (.ref t1), .val (.int i.toInt32)] [(.ref t1), (.int i.toInt32)])) rfl (by rw [hml]; rfl) (argsL := [(.int i.toInt32), (.ref t1)]) (rest := []) rfl (lenOf pd__I_B_V rfl) rfl (W := 0) (by show 2 * 0 + _ ≤ _; exact Nat.le_of_eq rfl) (hb hby d23_2) (by decide) (by decide) (by decide) (by decide)
  have N355 := Fr.app N0 N354q
  have e354 := e354.trans r354_0
  refine Win.to T354 (mkF m 5 #[.val (.ref t1), .val (.int i.toInt32)] []) (fun _ k => st354 _ k) ?_
  refine Win.to T354 (mkF m 6 #[.val (.ref t1), .val (.int i.toInt32)] [(.ref t1)]) (fun _ k => XS.aloadN X354.here hx rfl (hb hby d23_5) rfl rfl k) ?_
  refine Win.to T354 (mkF m 7 #[.val (.ref t1), .val (.int i.toInt32)] [(.int i.toInt32), (.ref t1)]) (fun _ k => XS.iloadN X354.here hx rfl (hb hby d23_6) rfl k) ?_
  obtain ⟨T356, h356, v356, L356, X356, e356, ⟨rfl, N356q, r356_0⟩, st356⟩ := N.static X354 hx hZ (y := (⟨"java/lang/StringUTF16", "getChar", "([BI)C"⟩ : MethodName)) hown (wk hw 103 rfl) (wk hw 104 rfl) (wk hw 48 rfl) (wk hw 105 rfl) (by decide) (getCh l Z a0 hw t1 k1 (2 * n) (u16 f) i (f i) h0 n0 O0 Fa (by omega) (own_gcu (hrng i hi).1 (hrng i hi).2) S_AD S_HI S_LO) e354 (g := (mkF m 7 #[.val (.ref t1), .val (.int i.toInt32)] [(.int i.toInt32), (.ref t1)])) rfl (by rw [hml]; rfl) (argsL := [(.ref t1), (.int i.toInt32)]) (rest := []) rfl (lenOf pd___BI_C rfl) rfl (W := 0) (by show 2 * 0 + _ ≤ _; exact Nat.le_of_eq rfl) (hb hby d23_7) (by decide) (by decide) (by decide) (by decide)
  have N357 := Fr.app N355 N356q
  have e356 := e356.trans r356_0
  refine Win.to T356 (mkF m 10 #[.val (.ref t1), .val (.int i.toInt32)] [(.int (f i))]) (fun _ k => st356 _ k) ?_
  exact Win.retN X356 hx hlk (t := .char) hret (by simp) (show nar .char (f i) = (f i) from (own_nc16 (hrng i hi).1 (hrng i hi).2)) (hb hby d23_10) (by decide) (by decide) (by (try rw [e356]); exact ⟨rfl, N357, rfl⟩)
abbrev R_chAt16 : Room := ⟨4, 0, 0, 53⟩
set_option maxRecDepth 65536 in
set_option maxHeartbeats 40000000 in
theorem chAt16 (l : Launch) (Z : State) (a0 : Array Value) (hw : ∀ d ∈ tables_1, d.before a0 Z = true) (a1 : Addr) (t1 : Addr) (k1 : ClassId) (n : Nat) (f : Nat → Int32) (i : Nat) (cs : Int32) (x1 : Value) (h0 : Heap) (n0 : Nat) (O0 : Old Z n0 h0) (E1 : Exa Z h0 a1 "java/lang/String") (F1 : Fld Z h0 a1 "java/lang/String" "value" "[B" (.ref t1)) (F2 : Fld Z h0 a1 "java/lang/String" "coder" "B" (.int (1 : Int32))) (Fa : ArF Z h0 t1 k1 .byte (2 * n) (u16 f)) (hi : i < n) (hrng : ∀ i, i < n → 0 ≤ (f i).toInt ∧ (f i).toInt < 65536) (S_CS : Sta Z Z.heap "java/lang/String" "COMPACT_STRINGS" "Z" (.int cs)) (hcs : ¬ (cs = (0 : Int32))) (S_SI : Sta Z Z.heap "jdk/internal/util/Preconditions" "SIOOBE_FORMATTER" "Ljava/util/function/BiFunction;" x1) (hx1 : x1.isRef = true) (S_AD : Sta Z Z.heap "java/lang/StringUTF16" "$assertionsDisabled" "Z" (.int (1 : Int32))) (S_HI : Sta Z Z.heap "java/lang/StringUTF16" "HI_BYTE_SHIFT" "I" (.int (0 : Int32))) (S_LO : Sta Z Z.heap "java/lang/StringUTF16" "LO_BYTE_SHIFT" "I" (.int (8 : Int32))) :
    MetN l Z (⟨"java/lang/String", "charAt", "(I)C"⟩ : MethodName) jdk_42_method_56_code 2 (some .char) R_chAt16 [] #[(.ref a1), (.int i.toInt32)] h0 (fun v h L => v = some (.int (f i)) ∧ Fr n0 L ∧ h = h0) := by
  refine MetN.walk (plainFor_of_name pn_12) ?_
  intro p e s m below meth c s₁ hx hZ hby hml hown hnm hret hlk X0 e0
  have N0 := Fr.nil n0
  refine Win.to s₁ (mkF m 0 #[.val (.ref a1), .val (.int i.toInt32)] []) (fun _ k => castTop (by first | (simp [entryFrame, mkF, argsToLocals, Value.category]; done) | rfl) k) ?_
  refine Win.to s₁ (mkF m 1 #[.val (.ref a1), .val (.int i.toInt32)] [(.ref a1)]) (fun _ k => XS.aloadN X0.here hx rfl (hb hby d12_0) rfl rfl k) ?_
  obtain ⟨T358, h358, v358, L358, X358, e358, ⟨rfl, N358q, r358_0⟩, st358⟩ := N.virtual X0 hx hZ (y := (⟨"java/lang/String", "isLatin1", "()Z"⟩ : MethodName)) (z := (⟨"java/lang/String", "isLatin1", "()Z"⟩ : MethodName)) hown (wk hw 67 rfl) (wk hw 68 rfl) (notFace_of_selects (args := #[]) (mvT hZ (wk hw 70 rfl))) (wk hw 70 rfl) (wk hw 69 rfl) (wk hw 7 rfl) (wk hw 71 rfl) (by decide) (isLat0 l Z a0 hw a1 cs h0 n0 O0 F2 S_CS hcs) e0 E1 (g := (mkF m 1 #[.val (.ref a1), .val (.int i.toInt32)] [(.ref a1)])) rfl (by rw [hml]; rfl) (argsL := []) (rest := []) rfl (lenOf pd___Z rfl) rfl (W := 0) (by show 2 * 0 + _ ≤ _; exact Nat.le_of_eq rfl) (hb hby d12_1) (by decide) (by decide) (by decide) (by decide)
  have N359 := Fr.app N0 N358q
  have e358 := e358.trans r358_0
  refine Win.to T358 (mkF m 4 #[.val (.ref a1), .val (.int i.toInt32)] [(.int (0 : Int32))]) (fun _ k => st358 _ k) ?_
  refine Win.to T358 (mkF m 16 #[.val (.ref a1), .val (.int i.toInt32)] []) (fun _ k => XS.ifYes X358.here hx rfl (pc0 := 4) (pc' := 16) rfl (hb hby d12_4) rfl ((if0 _ _).trans (teq (show (0 : Int32) = (0 : Int32) from by decide)).1) (by decide) (by decide) k) ?_
  refine Win.to T358 (mkF m 17 #[.val (.ref a1), .val (.int i.toInt32)] [(.ref a1)]) (fun _ k => XS.aloadN X358.here hx rfl (hb hby d12_16) rfl rfl k) ?_
  obtain ⟨T360, X360, e360, st360⟩ := getF X358 hx hZ hown (host := "") (Or.inl (wk hw 25 rfl)) Via.refl e358 F1 (g := (mkF m 17 #[.val (.ref a1), .val (.int i.toInt32)] [(.ref a1)])) rfl rfl (hb hby d12_17)
  refine Win.to T360 (mkF m 20 #[.val (.ref a1), .val (.int i.toInt32)] [(.ref t1)]) (fun _ k => st360 _ k) ?_
  refine Win.to T360 (mkF m 21 #[.val (.ref a1), .val (.int i.toInt32)] [(.int i.toInt32), (.ref t1)]) (fun _ k => XS.iloadN X360.here hx rfl (hb hby d12_20) rfl k) ?_
  obtain ⟨T361, h361, v361, L361, X361, e361, ⟨rfl, N361q, r361_0⟩, st361⟩ := N.static X360 hx hZ (y := (⟨"java/lang/StringUTF16", "charAt", "([BI)C"⟩ : MethodName)) hown (wk hw 106 rfl) (wk hw 107 rfl) (wk hw 48 rfl) (wk hw 108 rfl) (by decide) (ch16 l Z a0 hw t1 k1 n f i x1 h0 n0 O0 Fa hi hrng S_SI hx1 S_AD S_HI S_LO) e360 (g := (mkF m 21 #[.val (.ref a1), .val (.int i.toInt32)] [(.int i.toInt32), (.ref t1)])) rfl (by rw [hml]; rfl) (argsL := [(.ref t1), (.int i.toInt32)]) (rest := []) rfl (lenOf pd___BI_C rfl) rfl (W := 0) (by show 2 * 0 + _ ≤ _; exact Nat.le_of_eq rfl) (hb hby d12_21) (by decide) (by decide) (by decide) (by decide)
  have N362 := Fr.app N359 N361q
  have e361 := e361.trans r361_0
  refine Win.to T361 (mkF m 24 #[.val (.ref a1), .val (.int i.toInt32)] [(.int (f i))]) (fun _ k => st361 _ k) ?_
  exact Win.retN X361 hx hlk (t := .char) hret (by simp) (show nar .char (f i) = (f i) from (own_nc16 (hrng i hi).1 (hrng i hi).2)) (hb hby d12_24) (by decide) (by decide) (by (try rw [e361]); exact ⟨rfl, N362, rfl⟩)
abbrev R_ws0 : Room := ⟨0, 0, 0, 0⟩
set_option maxRecDepth 65536 in
set_option maxHeartbeats 40000000 in
theorem ws0 (l : Launch) (Z : State) (a0 : Array Value) (hw : ∀ d ∈ tables_1, d.before a0 Z = true) (p1 : Int32) (h0 : Heap) (n0 : Nat) (O0 : Old Z n0 h0) (hw0 : ¬ wsp p1) :
    MetN l Z (⟨"com/example/stylewright/stylewright/xdm/TreeBuilderIsWhitespacePinLaw", "ws", "(C)Z"⟩ : MethodName) method_3_code 1 (some .boolean) R_ws0 [] #[(.int p1)] h0 (fun v h L => v = some (.int (0 : Int32)) ∧ Fr n0 L ∧ h = h0) := by
  refine MetN.walk (plainFor_of_name pn_11) ?_
  intro p e s m below meth c s₁ hx hZ hby hml hown hnm hret hlk X0 e0
  have N0 := Fr.nil n0
  refine Win.to s₁ (mkF m 0 #[.val (.int p1)] []) (fun _ k => castTop (by first | (simp [entryFrame, mkF, argsToLocals, Value.category]; done) | rfl) k) ?_
  refine Win.to s₁ (mkF m 1 #[.val (.int p1)] [(.int p1)]) (fun _ k => XS.iloadN X0.here hx rfl (hb hby d11_0) rfl k) ?_
  refine Win.to s₁ (mkF m 3 #[.val (.int p1)] [(.int (32 : Int32)), (.int p1)]) (fun _ k => XS.bipush X0.here hx rfl (hb hby d11_1) k) ?_
  by_cases hc363 : p1 = (32 : Int32)
  · refine Win.to s₁ (mkF m 24 #[.val (.int p1)] []) (fun _ k => XS.icmpYes X0.here hx rfl (pc0 := 3) (pc' := 24) rfl (hb hby d11_3) rfl (teq hc363).1 (by decide) (by decide) k) ?_
    exact absurd (show wsp p1 from Or.inl hc363) hw0
  · refine Win.to s₁ (mkF m 6 #[.val (.int p1)] []) (fun _ k => XS.icmpNo X0.here hx rfl (hb hby d11_3) rfl (feq hc363).1 k) ?_
    refine Win.to s₁ (mkF m 7 #[.val (.int p1)] [(.int p1)]) (fun _ k => XS.iloadN X0.here hx rfl (hb hby d11_6) rfl k) ?_
    refine Win.to s₁ (mkF m 9 #[.val (.int p1)] [(.int (9 : Int32)), (.int p1)]) (fun _ k => XS.bipush X0.here hx rfl (hb hby d11_7) k) ?_
    by_cases hc364 : p1 = (9 : Int32)
    · refine Win.to s₁ (mkF m 24 #[.val (.int p1)] []) (fun _ k => XS.icmpYes X0.here hx rfl (pc0 := 9) (pc' := 24) rfl (hb hby d11_9) rfl (teq hc364).1 (by decide) (by decide) k) ?_
      exact absurd (show wsp p1 from Or.inr (Or.inl hc364)) hw0
    · refine Win.to s₁ (mkF m 12 #[.val (.int p1)] []) (fun _ k => XS.icmpNo X0.here hx rfl (hb hby d11_9) rfl (feq hc364).1 k) ?_
      refine Win.to s₁ (mkF m 13 #[.val (.int p1)] [(.int p1)]) (fun _ k => XS.iloadN X0.here hx rfl (hb hby d11_12) rfl k) ?_
      refine Win.to s₁ (mkF m 15 #[.val (.int p1)] [(.int (10 : Int32)), (.int p1)]) (fun _ k => XS.bipush X0.here hx rfl (hb hby d11_13) k) ?_
      by_cases hc365 : p1 = (10 : Int32)
      · refine Win.to s₁ (mkF m 24 #[.val (.int p1)] []) (fun _ k => XS.icmpYes X0.here hx rfl (pc0 := 15) (pc' := 24) rfl (hb hby d11_15) rfl (teq hc365).1 (by decide) (by decide) k) ?_
        exact absurd (show wsp p1 from Or.inr (Or.inr (Or.inl hc365))) hw0
      · refine Win.to s₁ (mkF m 18 #[.val (.int p1)] []) (fun _ k => XS.icmpNo X0.here hx rfl (hb hby d11_15) rfl (feq hc365).1 k) ?_
        refine Win.to s₁ (mkF m 19 #[.val (.int p1)] [(.int p1)]) (fun _ k => XS.iloadN X0.here hx rfl (hb hby d11_18) rfl k) ?_
        refine Win.to s₁ (mkF m 21 #[.val (.int p1)] [(.int (13 : Int32)), (.int p1)]) (fun _ k => XS.bipush X0.here hx rfl (hb hby d11_19) k) ?_
        by_cases hc366 : p1 = (13 : Int32)
        · refine Win.to s₁ (mkF m 24 #[.val (.int p1)] []) (fun _ k => XS.icmpNo X0.here hx rfl (hb hby d11_21) rfl (teq hc366).2 k) ?_
          exact absurd (show wsp p1 from Or.inr (Or.inr (Or.inr hc366))) hw0
        · refine Win.to s₁ (mkF m 28 #[.val (.int p1)] []) (fun _ k => XS.icmpYes X0.here hx rfl (pc0 := 21) (pc' := 28) rfl (hb hby d11_21) rfl (feq hc366).2 (by decide) (by decide) k) ?_
          refine Win.to s₁ (mkF m 29 #[.val (.int p1)] [(.int (0 : Int32))]) (fun _ k => XS.iconst X0.here hx rfl (hb hby d11_28) k) ?_
          exact Win.retN X0 hx hlk (t := .boolean) hret (by simp) rfl (hb hby d11_29) (by decide) (by decide) (by (try rw [e0]); exact ⟨rfl, N0, rfl⟩)
abbrev R_ws1 : Room := ⟨0, 0, 0, 0⟩
set_option maxRecDepth 65536 in
set_option maxHeartbeats 40000000 in
theorem ws1 (l : Launch) (Z : State) (a0 : Array Value) (hw : ∀ d ∈ tables_1, d.before a0 Z = true) (p1 : Int32) (h0 : Heap) (n0 : Nat) (O0 : Old Z n0 h0) (hw1 : wsp p1) :
    MetN l Z (⟨"com/example/stylewright/stylewright/xdm/TreeBuilderIsWhitespacePinLaw", "ws", "(C)Z"⟩ : MethodName) method_3_code 1 (some .boolean) R_ws1 [] #[(.int p1)] h0 (fun v h L => v = some (.int (1 : Int32)) ∧ Fr n0 L ∧ h = h0) := by
  refine MetN.walk (plainFor_of_name pn_11) ?_
  intro p e s m below meth c s₁ hx hZ hby hml hown hnm hret hlk X0 e0
  have N0 := Fr.nil n0
  refine Win.to s₁ (mkF m 0 #[.val (.int p1)] []) (fun _ k => castTop (by first | (simp [entryFrame, mkF, argsToLocals, Value.category]; done) | rfl) k) ?_
  refine Win.to s₁ (mkF m 1 #[.val (.int p1)] [(.int p1)]) (fun _ k => XS.iloadN X0.here hx rfl (hb hby d11_0) rfl k) ?_
  refine Win.to s₁ (mkF m 3 #[.val (.int p1)] [(.int (32 : Int32)), (.int p1)]) (fun _ k => XS.bipush X0.here hx rfl (hb hby d11_1) k) ?_
  by_cases hc367 : p1 = (32 : Int32)
  · refine Win.to s₁ (mkF m 24 #[.val (.int p1)] []) (fun _ k => XS.icmpYes X0.here hx rfl (pc0 := 3) (pc' := 24) rfl (hb hby d11_3) rfl (teq hc367).1 (by decide) (by decide) k) ?_
    refine Win.to s₁ (mkF m 25 #[.val (.int p1)] [(.int (1 : Int32))]) (fun _ k => XS.iconst X0.here hx rfl (hb hby d11_24) k) ?_
    refine Win.to s₁ (mkF m 29 #[.val (.int p1)] [(.int (1 : Int32))]) (fun _ k => XS.goto X0.here hx rfl (pc0 := 25) (pc' := 29) rfl (hb hby d11_25) (by decide) (by decide) k) ?_
    exact Win.retN X0 hx hlk (t := .boolean) hret (by simp) rfl (hb hby d11_29) (by decide) (by decide) (by (try rw [e0]); exact ⟨rfl, N0, rfl⟩)
  · refine Win.to s₁ (mkF m 6 #[.val (.int p1)] []) (fun _ k => XS.icmpNo X0.here hx rfl (hb hby d11_3) rfl (feq hc367).1 k) ?_
    refine Win.to s₁ (mkF m 7 #[.val (.int p1)] [(.int p1)]) (fun _ k => XS.iloadN X0.here hx rfl (hb hby d11_6) rfl k) ?_
    refine Win.to s₁ (mkF m 9 #[.val (.int p1)] [(.int (9 : Int32)), (.int p1)]) (fun _ k => XS.bipush X0.here hx rfl (hb hby d11_7) k) ?_
    by_cases hc368 : p1 = (9 : Int32)
    · refine Win.to s₁ (mkF m 24 #[.val (.int p1)] []) (fun _ k => XS.icmpYes X0.here hx rfl (pc0 := 9) (pc' := 24) rfl (hb hby d11_9) rfl (teq hc368).1 (by decide) (by decide) k) ?_
      refine Win.to s₁ (mkF m 25 #[.val (.int p1)] [(.int (1 : Int32))]) (fun _ k => XS.iconst X0.here hx rfl (hb hby d11_24) k) ?_
      refine Win.to s₁ (mkF m 29 #[.val (.int p1)] [(.int (1 : Int32))]) (fun _ k => XS.goto X0.here hx rfl (pc0 := 25) (pc' := 29) rfl (hb hby d11_25) (by decide) (by decide) k) ?_
      exact Win.retN X0 hx hlk (t := .boolean) hret (by simp) rfl (hb hby d11_29) (by decide) (by decide) (by (try rw [e0]); exact ⟨rfl, N0, rfl⟩)
    · refine Win.to s₁ (mkF m 12 #[.val (.int p1)] []) (fun _ k => XS.icmpNo X0.here hx rfl (hb hby d11_9) rfl (feq hc368).1 k) ?_
      refine Win.to s₁ (mkF m 13 #[.val (.int p1)] [(.int p1)]) (fun _ k => XS.iloadN X0.here hx rfl (hb hby d11_12) rfl k) ?_
      refine Win.to s₁ (mkF m 15 #[.val (.int p1)] [(.int (10 : Int32)), (.int p1)]) (fun _ k => XS.bipush X0.here hx rfl (hb hby d11_13) k) ?_
      by_cases hc369 : p1 = (10 : Int32)
      · refine Win.to s₁ (mkF m 24 #[.val (.int p1)] []) (fun _ k => XS.icmpYes X0.here hx rfl (pc0 := 15) (pc' := 24) rfl (hb hby d11_15) rfl (teq hc369).1 (by decide) (by decide) k) ?_
        refine Win.to s₁ (mkF m 25 #[.val (.int p1)] [(.int (1 : Int32))]) (fun _ k => XS.iconst X0.here hx rfl (hb hby d11_24) k) ?_
        refine Win.to s₁ (mkF m 29 #[.val (.int p1)] [(.int (1 : Int32))]) (fun _ k => XS.goto X0.here hx rfl (pc0 := 25) (pc' := 29) rfl (hb hby d11_25) (by decide) (by decide) k) ?_
        exact Win.retN X0 hx hlk (t := .boolean) hret (by simp) rfl (hb hby d11_29) (by decide) (by decide) (by (try rw [e0]); exact ⟨rfl, N0, rfl⟩)
      · refine Win.to s₁ (mkF m 18 #[.val (.int p1)] []) (fun _ k => XS.icmpNo X0.here hx rfl (hb hby d11_15) rfl (feq hc369).1 k) ?_
        refine Win.to s₁ (mkF m 19 #[.val (.int p1)] [(.int p1)]) (fun _ k => XS.iloadN X0.here hx rfl (hb hby d11_18) rfl k) ?_
        refine Win.to s₁ (mkF m 21 #[.val (.int p1)] [(.int (13 : Int32)), (.int p1)]) (fun _ k => XS.bipush X0.here hx rfl (hb hby d11_19) k) ?_
        by_cases hc370 : p1 = (13 : Int32)
        · refine Win.to s₁ (mkF m 24 #[.val (.int p1)] []) (fun _ k => XS.icmpNo X0.here hx rfl (hb hby d11_21) rfl (teq hc370).2 k) ?_
          refine Win.to s₁ (mkF m 25 #[.val (.int p1)] [(.int (1 : Int32))]) (fun _ k => XS.iconst X0.here hx rfl (hb hby d11_24) k) ?_
          refine Win.to s₁ (mkF m 29 #[.val (.int p1)] [(.int (1 : Int32))]) (fun _ k => XS.goto X0.here hx rfl (pc0 := 25) (pc' := 29) rfl (hb hby d11_25) (by decide) (by decide) k) ?_
          exact Win.retN X0 hx hlk (t := .boolean) hret (by simp) rfl (hb hby d11_29) (by decide) (by decide) (by (try rw [e0]); exact ⟨rfl, N0, rfl⟩)
        · refine Win.to s₁ (mkF m 28 #[.val (.int p1)] []) (fun _ k => XS.icmpYes X0.here hx rfl (pc0 := 21) (pc' := 28) rfl (hb hby d11_21) rfl (feq hc370).2 (by decide) (by decide) k) ?_
          exact absurd hw1 (own_nws hc367 hc368 hc369 hc370)
abbrev R_iw0 : Room := ⟨0, 0, 0, 0⟩
set_option maxRecDepth 65536 in
set_option maxHeartbeats 40000000 in
theorem iw0 (l : Launch) (Z : State) (a0 : Array Value) (hw : ∀ d ∈ tables_1, d.before a0 Z = true) (p1 : Int32) (h0 : Heap) (n0 : Nat) (O0 : Old Z n0 h0) (hw0 : ¬ wsp p1) :
    MetN l Z (⟨"com/example/stylewright/stylewright/xdm/TreeBuilder", "isWhitespace", "(C)Z"⟩ : MethodName) prog_50_method_29_code 1 (some .boolean) R_iw0 [] #[(.int p1)] h0 (fun v h L => v = some (.int (0 : Int32)) ∧ Fr n0 L ∧ h = h0) := by
  refine MetN.walk (plainFor_of_name pn_17) ?_
  intro p e s m below meth c s₁ hx hZ hby hml hown hnm hret hlk X0 e0
  have N0 := Fr.nil n0
  refine Win.to s₁ (mkF m 0 #[.val (.int p1)] []) (fun _ k => castTop (by first | (simp [entryFrame, mkF, argsToLocals, Value.category]; done) | rfl) k) ?_
  refine Win.to s₁ (mkF m 1 #[.val (.int p1)] [(.int p1)]) (fun _ k => XS.iloadN X0.here hx rfl (hb hby d17_0) rfl k) ?_
  refine Win.to s₁ (mkF m 3 #[.val (.int p1)] [(.int (32 : Int32)), (.int p1)]) (fun _ k => XS.bipush X0.here hx rfl (hb hby d17_1) k) ?_
  by_cases hc371 : p1 = (32 : Int32)
  · refine Win.to s₁ (mkF m 24 #[.val (.int p1)] []) (fun _ k => XS.icmpYes X0.here hx rfl (pc0 := 3) (pc' := 24) rfl (hb hby d17_3) rfl (teq hc371).1 (by decide) (by decide) k) ?_
    exact absurd (show wsp p1 from Or.inl hc371) hw0
  · refine Win.to s₁ (mkF m 6 #[.val (.int p1)] []) (fun _ k => XS.icmpNo X0.here hx rfl (hb hby d17_3) rfl (feq hc371).1 k) ?_
    refine Win.to s₁ (mkF m 7 #[.val (.int p1)] [(.int p1)]) (fun _ k => XS.iloadN X0.here hx rfl (hb hby d17_6) rfl k) ?_
    refine Win.to s₁ (mkF m 9 #[.val (.int p1)] [(.int (9 : Int32)), (.int p1)]) (fun _ k => XS.bipush X0.here hx rfl (hb hby d17_7) k) ?_
    by_cases hc372 : p1 = (9 : Int32)
    · refine Win.to s₁ (mkF m 24 #[.val (.int p1)] []) (fun _ k => XS.icmpYes X0.here hx rfl (pc0 := 9) (pc' := 24) rfl (hb hby d17_9) rfl (teq hc372).1 (by decide) (by decide) k) ?_
      exact absurd (show wsp p1 from Or.inr (Or.inl hc372)) hw0
    · refine Win.to s₁ (mkF m 12 #[.val (.int p1)] []) (fun _ k => XS.icmpNo X0.here hx rfl (hb hby d17_9) rfl (feq hc372).1 k) ?_
      refine Win.to s₁ (mkF m 13 #[.val (.int p1)] [(.int p1)]) (fun _ k => XS.iloadN X0.here hx rfl (hb hby d17_12) rfl k) ?_
      refine Win.to s₁ (mkF m 15 #[.val (.int p1)] [(.int (10 : Int32)), (.int p1)]) (fun _ k => XS.bipush X0.here hx rfl (hb hby d17_13) k) ?_
      by_cases hc373 : p1 = (10 : Int32)
      · refine Win.to s₁ (mkF m 24 #[.val (.int p1)] []) (fun _ k => XS.icmpYes X0.here hx rfl (pc0 := 15) (pc' := 24) rfl (hb hby d17_15) rfl (teq hc373).1 (by decide) (by decide) k) ?_
        exact absurd (show wsp p1 from Or.inr (Or.inr (Or.inl hc373))) hw0
      · refine Win.to s₁ (mkF m 18 #[.val (.int p1)] []) (fun _ k => XS.icmpNo X0.here hx rfl (hb hby d17_15) rfl (feq hc373).1 k) ?_
        refine Win.to s₁ (mkF m 19 #[.val (.int p1)] [(.int p1)]) (fun _ k => XS.iloadN X0.here hx rfl (hb hby d17_18) rfl k) ?_
        refine Win.to s₁ (mkF m 21 #[.val (.int p1)] [(.int (13 : Int32)), (.int p1)]) (fun _ k => XS.bipush X0.here hx rfl (hb hby d17_19) k) ?_
        by_cases hc374 : p1 = (13 : Int32)
        · refine Win.to s₁ (mkF m 24 #[.val (.int p1)] []) (fun _ k => XS.icmpNo X0.here hx rfl (hb hby d17_21) rfl (teq hc374).2 k) ?_
          exact absurd (show wsp p1 from Or.inr (Or.inr (Or.inr hc374))) hw0
        · refine Win.to s₁ (mkF m 28 #[.val (.int p1)] []) (fun _ k => XS.icmpYes X0.here hx rfl (pc0 := 21) (pc' := 28) rfl (hb hby d17_21) rfl (feq hc374).2 (by decide) (by decide) k) ?_
          refine Win.to s₁ (mkF m 29 #[.val (.int p1)] [(.int (0 : Int32))]) (fun _ k => XS.iconst X0.here hx rfl (hb hby d17_28) k) ?_
          exact Win.retN X0 hx hlk (t := .boolean) hret (by simp) rfl (hb hby d17_29) (by decide) (by decide) (by (try rw [e0]); exact ⟨rfl, N0, rfl⟩)
abbrev R_iw1 : Room := ⟨0, 0, 0, 0⟩
set_option maxRecDepth 65536 in
set_option maxHeartbeats 40000000 in
theorem iw1 (l : Launch) (Z : State) (a0 : Array Value) (hw : ∀ d ∈ tables_1, d.before a0 Z = true) (p1 : Int32) (h0 : Heap) (n0 : Nat) (O0 : Old Z n0 h0) (hw1 : wsp p1) :
    MetN l Z (⟨"com/example/stylewright/stylewright/xdm/TreeBuilder", "isWhitespace", "(C)Z"⟩ : MethodName) prog_50_method_29_code 1 (some .boolean) R_iw1 [] #[(.int p1)] h0 (fun v h L => v = some (.int (1 : Int32)) ∧ Fr n0 L ∧ h = h0) := by
  refine MetN.walk (plainFor_of_name pn_17) ?_
  intro p e s m below meth c s₁ hx hZ hby hml hown hnm hret hlk X0 e0
  have N0 := Fr.nil n0
  refine Win.to s₁ (mkF m 0 #[.val (.int p1)] []) (fun _ k => castTop (by first | (simp [entryFrame, mkF, argsToLocals, Value.category]; done) | rfl) k) ?_
  refine Win.to s₁ (mkF m 1 #[.val (.int p1)] [(.int p1)]) (fun _ k => XS.iloadN X0.here hx rfl (hb hby d17_0) rfl k) ?_
  refine Win.to s₁ (mkF m 3 #[.val (.int p1)] [(.int (32 : Int32)), (.int p1)]) (fun _ k => XS.bipush X0.here hx rfl (hb hby d17_1) k) ?_
  by_cases hc375 : p1 = (32 : Int32)
  · refine Win.to s₁ (mkF m 24 #[.val (.int p1)] []) (fun _ k => XS.icmpYes X0.here hx rfl (pc0 := 3) (pc' := 24) rfl (hb hby d17_3) rfl (teq hc375).1 (by decide) (by decide) k) ?_
    refine Win.to s₁ (mkF m 25 #[.val (.int p1)] [(.int (1 : Int32))]) (fun _ k => XS.iconst X0.here hx rfl (hb hby d17_24) k) ?_
    refine Win.to s₁ (mkF m 29 #[.val (.int p1)] [(.int (1 : Int32))]) (fun _ k => XS.goto X0.here hx rfl (pc0 := 25) (pc' := 29) rfl (hb hby d17_25) (by decide) (by decide) k) ?_
    exact Win.retN X0 hx hlk (t := .boolean) hret (by simp) rfl (hb hby d17_29) (by decide) (by decide) (by (try rw [e0]); exact ⟨rfl, N0, rfl⟩)
  · refine Win.to s₁ (mkF m 6 #[.val (.int p1)] []) (fun _ k => XS.icmpNo X0.here hx rfl (hb hby d17_3) rfl (feq hc375).1 k) ?_
    refine Win.to s₁ (mkF m 7 #[.val (.int p1)] [(.int p1)]) (fun _ k => XS.iloadN X0.here hx rfl (hb hby d17_6) rfl k) ?_
    refine Win.to s₁ (mkF m 9 #[.val (.int p1)] [(.int (9 : Int32)), (.int p1)]) (fun _ k => XS.bipush X0.here hx rfl (hb hby d17_7) k) ?_
    by_cases hc376 : p1 = (9 : Int32)
    · refine Win.to s₁ (mkF m 24 #[.val (.int p1)] []) (fun _ k => XS.icmpYes X0.here hx rfl (pc0 := 9) (pc' := 24) rfl (hb hby d17_9) rfl (teq hc376).1 (by decide) (by decide) k) ?_
      refine Win.to s₁ (mkF m 25 #[.val (.int p1)] [(.int (1 : Int32))]) (fun _ k => XS.iconst X0.here hx rfl (hb hby d17_24) k) ?_
      refine Win.to s₁ (mkF m 29 #[.val (.int p1)] [(.int (1 : Int32))]) (fun _ k => XS.goto X0.here hx rfl (pc0 := 25) (pc' := 29) rfl (hb hby d17_25) (by decide) (by decide) k) ?_
      exact Win.retN X0 hx hlk (t := .boolean) hret (by simp) rfl (hb hby d17_29) (by decide) (by decide) (by (try rw [e0]); exact ⟨rfl, N0, rfl⟩)
    · refine Win.to s₁ (mkF m 12 #[.val (.int p1)] []) (fun _ k => XS.icmpNo X0.here hx rfl (hb hby d17_9) rfl (feq hc376).1 k) ?_
      refine Win.to s₁ (mkF m 13 #[.val (.int p1)] [(.int p1)]) (fun _ k => XS.iloadN X0.here hx rfl (hb hby d17_12) rfl k) ?_
      refine Win.to s₁ (mkF m 15 #[.val (.int p1)] [(.int (10 : Int32)), (.int p1)]) (fun _ k => XS.bipush X0.here hx rfl (hb hby d17_13) k) ?_
      by_cases hc377 : p1 = (10 : Int32)
      · refine Win.to s₁ (mkF m 24 #[.val (.int p1)] []) (fun _ k => XS.icmpYes X0.here hx rfl (pc0 := 15) (pc' := 24) rfl (hb hby d17_15) rfl (teq hc377).1 (by decide) (by decide) k) ?_
        refine Win.to s₁ (mkF m 25 #[.val (.int p1)] [(.int (1 : Int32))]) (fun _ k => XS.iconst X0.here hx rfl (hb hby d17_24) k) ?_
        refine Win.to s₁ (mkF m 29 #[.val (.int p1)] [(.int (1 : Int32))]) (fun _ k => XS.goto X0.here hx rfl (pc0 := 25) (pc' := 29) rfl (hb hby d17_25) (by decide) (by decide) k) ?_
        exact Win.retN X0 hx hlk (t := .boolean) hret (by simp) rfl (hb hby d17_29) (by decide) (by decide) (by (try rw [e0]); exact ⟨rfl, N0, rfl⟩)
      · refine Win.to s₁ (mkF m 18 #[.val (.int p1)] []) (fun _ k => XS.icmpNo X0.here hx rfl (hb hby d17_15) rfl (feq hc377).1 k) ?_
        refine Win.to s₁ (mkF m 19 #[.val (.int p1)] [(.int p1)]) (fun _ k => XS.iloadN X0.here hx rfl (hb hby d17_18) rfl k) ?_
        refine Win.to s₁ (mkF m 21 #[.val (.int p1)] [(.int (13 : Int32)), (.int p1)]) (fun _ k => XS.bipush X0.here hx rfl (hb hby d17_19) k) ?_
        by_cases hc378 : p1 = (13 : Int32)
        · refine Win.to s₁ (mkF m 24 #[.val (.int p1)] []) (fun _ k => XS.icmpNo X0.here hx rfl (hb hby d17_21) rfl (teq hc378).2 k) ?_
          refine Win.to s₁ (mkF m 25 #[.val (.int p1)] [(.int (1 : Int32))]) (fun _ k => XS.iconst X0.here hx rfl (hb hby d17_24) k) ?_
          refine Win.to s₁ (mkF m 29 #[.val (.int p1)] [(.int (1 : Int32))]) (fun _ k => XS.goto X0.here hx rfl (pc0 := 25) (pc' := 29) rfl (hb hby d17_25) (by decide) (by decide) k) ?_
          exact Win.retN X0 hx hlk (t := .boolean) hret (by simp) rfl (hb hby d17_29) (by decide) (by decide) (by (try rw [e0]); exact ⟨rfl, N0, rfl⟩)
        · refine Win.to s₁ (mkF m 28 #[.val (.int p1)] []) (fun _ k => XS.icmpYes X0.here hx rfl (pc0 := 21) (pc' := 28) rfl (hb hby d17_21) rfl (feq hc378).2 (by decide) (by decide) k) ?_
          exact absurd hw1 (own_nws hc375 hc376 hc377 hc378)
abbrev R_isWs0 : Room := ⟨4, 0, 0, 53⟩
set_option maxRecDepth 65536 in
set_option maxHeartbeats 40000000 in
theorem isWs0 (l : Launch) (Z : State) (a0 : Array Value) (hw : ∀ d ∈ tables_1, d.before a0 Z = true) (a1 : Addr) (t1 : Addr) (k1 : ClassId) (n : Nat) (f : Nat → Int32) (cf : Nat → Int32) (r : Int32) (cs : Int32) (x1 : Value) (h0 : Heap) (n0 : Nat) (O0 : Old Z n0 h0) (E1 : Exa Z h0 a1 "java/lang/String") (F1 : Fld Z h0 a1 "java/lang/String" "value" "[B" (.ref t1)) (F2 : Fld Z h0 a1 "java/lang/String" "coder" "B" (.int (0 : Int32))) (Fa : ArF Z h0 t1 k1 .byte n f) (hcf : ∀ i, i < n → ((f i) &&& (255 : Int32)) = cf i) (he1 : (∀ i, i < n → wsp (cf i)) → r = 1) (he0 : ¬ (∀ i, i < n → wsp (cf i)) → r = 0) (S_CS : Sta Z Z.heap "java/lang/String" "COMPACT_STRINGS" "Z" (.int cs)) (hcs : ¬ (cs = (0 : Int32))) (S_SI : Sta Z Z.heap "jdk/internal/util/Preconditions" "SIOOBE_FORMATTER" "Ljava/util/function/BiFunction;" x1) (hx1 : x1.isRef = true) :
    MetN l Z (⟨"com/example/stylewright/stylewright/xdm/TreeBuilder", "isWhitespace", "(Ljava/lang/CharSequence;)Z"⟩ : MethodName) prog_50_method_28_code 2 (some .boolean) R_isWs0 [] #[(.ref a1)] h0 (fun v h L => v = some (.int r) ∧ Fr n0 L ∧ h = h0) := by
  refine MetN.walk (plainFor_of_name pn_5) ?_
  intro p e s m below meth c s₁ hx hZ hby hml hown hnm hret hlk X0 e0
  have N0 := Fr.nil n0
  refine Win.to s₁ (mkF m 0 #[.val (.ref a1), .unset] []) (fun _ k => castTop (by first | (simp [entryFrame, mkF, argsToLocals, Value.category]; done) | rfl) k) ?_
  have hnb := Fa.big
  have hn : n < 2 ^ 31 := by omega
  refine Win.to s₁ (mkF m 1 #[.val (.ref a1), .unset] [(.int (0 : Int32))]) (fun _ k => XS.iconst X0.here hx rfl (hb hby d5_0) k) ?_
  refine Win.to s₁ (mkF m 2 #[.val (.ref a1), .val (.int (0 : Int32))] []) (fun _ k => XS.istoreN X0.here hx rfl (hb hby d5_1) rfl (l' := #[.val (.ref a1), .val (.int (0 : Int32))]) rfl k) ?_
  have loop : ∀ (q j : Nat), j + q = n → (∀ i, i < j → wsp (cf i)) → ∀ (T : State) (locs : List Loc) (X : Stand p l e R_isWs0 s m #[(.ref a1)] below meth c T locs 0 0) (Nq : Fr n0 locs) (eT : T.heap = h0), Win p e below s R_isWs0 (fun v h L => v = some (.int r) ∧ Fr n0 L ∧ h = h0) (T.setTop (mkF m 2 #[.val (.ref a1), .val (.int j.toInt32)] [])) := by
    intro q
    induction q with
    | zero =>
      intro j hj hall T locs X Nq eT
      have hj0 : j = n := by omega
      have hall : ∀ i, i < n → wsp (cf i) := fun i hi => hall i (by omega)
      refine Win.to T (mkF m 3 #[.val (.ref a1), .val (.int j.toInt32)] [(.int j.toInt32)]) (fun _ k => XS.iloadN X.here hx rfl (hb hby d5_2) rfl k) ?_
      refine Win.to T (mkF m 4 #[.val (.ref a1), .val (.int j.toInt32)] [(.ref a1), (.int j.toInt32)]) (fun _ k => XS.aloadN X.here hx rfl (hb hby d5_3) rfl rfl k) ?_
      obtain ⟨T379, h379, v379, L379, X379, e379, ⟨rfl, N379q, r379_0⟩, st379⟩ := N.iface X hx hZ (y := (⟨"java/lang/CharSequence", "length", "()I"⟩ : MethodName)) (z := (⟨"java/lang/String", "length", "()I"⟩ : MethodName)) hown (wk hw 31 rfl) (wk hw 32 rfl) (wk hw 34 rfl) (mvT hZ (wk hw 33 rfl)) (wk hw 36 rfl) (wk hw 37 rfl) (wk hw 38 rfl) (wk hw 35 rfl) (wk hw 7 rfl) (wk hw 39 rfl) (by decide) (strLen l Z a0 hw a1 t1 k1 n f cs h0 n0 O0 E1 F1 F2 Fa S_CS hcs) eT E1 (g := (mkF m 4 #[.val (.ref a1), .val (.int j.toInt32)] [(.ref a1), (.int j.toInt32)])) rfl (by rw [hml]; rfl) (argsL := []) (rest := [(.int j.toInt32)]) rfl (lenOf pd___I rfl) rfl (W := 1) (by show 2 * 0 + _ ≤ _; exact Nat.le_of_eq rfl) (hb hby d5_4) (by decide) (by decide) (by decide) (by decide)
      have N380 := Fr.app Nq N379q
      have e379 := e379.trans r379_0
      refine Win.to T379 (mkF m 9 #[.val (.ref a1), .val (.int j.toInt32)] [(.int n.toInt32), (.int j.toInt32)]) (fun _ k => st379 _ k) ?_
      refine Win.to T379 (mkF m 33 #[.val (.ref a1), .val (.int j.toInt32)] []) (fun _ k => XS.icmpYes X379.here hx rfl (pc0 := 9) (pc' := 33) rfl (hb hby d5_9) rfl (flt (show ¬ (j.toInt32 < n.toInt32) from (by rw [hj0]; exact Int32.lt_irrefl))).2.1 (by decide) (by decide) k) ?_
      refine Win.to T379 (mkF m 34 #[.val (.ref a1), .val (.int j.toInt32)] [(.int (1 : Int32))]) (fun _ k => XS.iconst X379.here hx rfl (hb hby d5_33) k) ?_
      exact Win.retN X379 hx hlk (t := .boolean) hret (by simp) rfl (hb hby d5_34) (by decide) (by decide) (by (try rw [e379]); exact ⟨(own_eqi (he1 hall)), N380, rfl⟩)
    | succ q ih =>
      intro j hj hall T locs X Nq eT
      have hj1 : j < n := by omega
      have hj2 : j < 2 ^ 31 := by omega
      refine Win.to T (mkF m 3 #[.val (.ref a1), .val (.int j.toInt32)] [(.int j.toInt32)]) (fun _ k => XS.iloadN X.here hx rfl (hb hby d5_2) rfl k) ?_
      refine Win.to T (mkF m 4 #[.val (.ref a1), .val (.int j.toInt32)] [(.ref a1), (.int j.toInt32)]) (fun _ k => XS.aloadN X.here hx rfl (hb hby d5_3) rfl rfl k) ?_
      obtain ⟨T381, h381, v381, L381, X381, e381, ⟨rfl, N381q, r381_0⟩, st381⟩ := N.iface X hx hZ (y := (⟨"java/lang/CharSequence", "length", "()I"⟩ : MethodName)) (z := (⟨"java/lang/String", "length", "()I"⟩ : MethodName)) hown (wk hw 31 rfl) (wk hw 32 rfl) (wk hw 34 rfl) (mvT hZ (wk hw 33 rfl)) (wk hw 36 rfl) (wk hw 37 rfl) (wk hw 38 rfl) (wk hw 35 rfl) (wk hw 7 rfl) (wk hw 39 rfl) (by decide) (strLen l Z a0 hw a1 t1 k1 n f cs h0 n0 O0 E1 F1 F2 Fa S_CS hcs) eT E1 (g := (mkF m 4 #[.val (.ref a1), .val (.int j.toInt32)] [(.ref a1), (.int j.toInt32)])) rfl (by rw [hml]; rfl) (argsL := []) (rest := [(.int j.toInt32)]) rfl (lenOf pd___I rfl) rfl (W := 1) (by show 2 * 0 + _ ≤ _; exact Nat.le_of_eq rfl) (hb hby d5_4) (by decide) (by decide) (by decide) (by decide)
      have N382 := Fr.app Nq N381q
      have e381 := e381.trans r381_0
      refine Win.to T381 (mkF m 9 #[.val (.ref a1), .val (.int j.toInt32)] [(.int n.toInt32), (.int j.toInt32)]) (fun _ k => st381 _ k) ?_
      refine Win.to T381 (mkF m 12 #[.val (.ref a1), .val (.int j.toInt32)] []) (fun _ k => XS.icmpNo X381.here hx rfl (hb hby d5_9) rfl (tlt (show j.toInt32 < n.toInt32 from ((own_lt hj2 hn).mpr hj1))).2.1 k) ?_
      refine Win.to T381 (mkF m 13 #[.val (.ref a1), .val (.int j.toInt32)] [(.ref a1)]) (fun _ k => XS.aloadN X381.here hx rfl (hb hby d5_12) rfl rfl k) ?_
      refine Win.to T381 (mkF m 14 #[.val (.ref a1), .val (.int j.toInt32)] [(.int j.toInt32), (.ref a1)]) (fun _ k => XS.iloadN X381.here hx rfl (hb hby d5_13) rfl k) ?_
      obtain ⟨T383, h383, v383, L383, X383, e383, ⟨rfl, N383q, r383_0⟩, st383⟩ := N.iface X381 hx hZ (y := (⟨"java/lang/CharSequence", "charAt", "(I)C"⟩ : MethodName)) (z := (⟨"java/lang/String", "charAt", "(I)C"⟩ : MethodName)) hown (wk hw 59 rfl) (wk hw 60 rfl) (wk hw 62 rfl) (mvT hZ (wk hw 61 rfl)) (wk hw 64 rfl) (wk hw 65 rfl) (wk hw 38 rfl) (wk hw 63 rfl) (wk hw 7 rfl) (wk hw 66 rfl) (by decide) (chAt l Z a0 hw a1 t1 k1 n f j cs x1 h0 n0 O0 E1 F1 F2 Fa hj1 S_CS hcs S_SI hx1) e381 E1 (g := (mkF m 14 #[.val (.ref a1), .val (.int j.toInt32)] [(.int j.toInt32), (.ref a1)])) rfl (by rw [hml]; rfl) (argsL := [(.int j.toInt32)]) (rest := []) rfl (lenOf pd__I_C rfl) rfl (W := 0) (by show 2 * 0 + _ ≤ _; exact Nat.le_of_eq rfl) (hb hby d5_14) (by decide) (by decide) (by decide) (by decide)
      have N384 := Fr.app N382 N383q
      have e383 := e383.trans r383_0
      refine Win.to T383 (mkF m 19 #[.val (.ref a1), .val (.int j.toInt32)] [(.int ((f j) &&& (255 : Int32)))]) (fun _ k => st383 _ k) ?_
      by_cases hws : wsp ((f j) &&& (255 : Int32))
      · obtain ⟨T385, h385, v385, L385, X385, e385, ⟨rfl, N385q, r385_0⟩, st385⟩ := N.static X383 hx hZ (y := (⟨"com/example/stylewright/stylewright/xdm/TreeBuilder", "isWhitespace", "(C)Z"⟩ : MethodName)) hown (wk hw 84 rfl) (wk hw 85 rfl) (wk hw 29 rfl) (wk hw 86 rfl) (by decide) (iw1 l Z a0 hw ((f j) &&& (255 : Int32)) h0 n0 O0 hws) e383 (g := (mkF m 19 #[.val (.ref a1), .val (.int j.toInt32)] [(.int ((f j) &&& (255 : Int32)))])) rfl (by rw [hml]; rfl) (argsL := [(.int ((f j) &&& (255 : Int32)))]) (rest := []) rfl (lenOf pd__C_Z rfl) rfl (W := 0) (by show 2 * 0 + _ ≤ _; exact Nat.le_of_eq rfl) (hb hby d5_19) (by decide) (by decide) (by decide) (by decide)
        have N386 := Fr.app N384 N385q
        have e385 := e385.trans r385_0
        refine Win.to T385 (mkF m 22 #[.val (.ref a1), .val (.int j.toInt32)] [(.int (1 : Int32))]) (fun _ k => st385 _ k) ?_
        refine Win.to T385 (mkF m 27 #[.val (.ref a1), .val (.int j.toInt32)] []) (fun _ k => XS.ifYes X385.here hx rfl (pc0 := 22) (pc' := 27) rfl (hb hby d5_22) rfl ((if0 _ _).trans (feq (show ¬ ((1 : Int32) = (0 : Int32)) from by decide)).2) (by decide) (by decide) k) ?_
        refine Win.to T385 (mkF m 30 #[.val (.ref a1), .val (.int (j.toInt32 + (1 : Int32)))] []) (fun _ k => XS.iinc X385.here hx rfl (hb hby d5_27) rfl (l' := #[.val (.ref a1), .val (.int (j.toInt32 + (1 : Int32)))]) rfl k) ?_
        refine Win.to T385 (mkF m 2 #[.val (.ref a1), .val (.int (j.toInt32 + (1 : Int32)))] []) (fun _ k => XS.goto X385.here hx rfl (pc0 := 30) (pc' := 2) rfl (hb hby d5_30) (by decide) (by decide) k) ?_
        rw [own_succ j]
        refine ih (j + 1) (by omega) (fun i hi => ?_) T385 _ X385 N386 e385
        rcases Nat.lt_succ_iff_lt_or_eq.mp hi with q | q
        · exact hall i q
        · rw [q, ← hcf j hj1]; exact hws
      · obtain ⟨T387, h387, v387, L387, X387, e387, ⟨rfl, N387q, r387_0⟩, st387⟩ := N.static X383 hx hZ (y := (⟨"com/example/stylewright/stylewright/xdm/TreeBuilder", "isWhitespace", "(C)Z"⟩ : MethodName)) hown (wk hw 84 rfl) (wk hw 85 rfl) (wk hw 29 rfl) (wk hw 86 rfl) (by decide) (iw0 l Z a0 hw ((f j) &&& (255 : Int32)) h0 n0 O0 hws) e383 (g := (mkF m 19 #[.val (.ref a1), .val (.int j.toInt32)] [(.int ((f j) &&& (255 : Int32)))])) rfl (by rw [hml]; rfl) (argsL := [(.int ((f j) &&& (255 : Int32)))]) (rest := []) rfl (lenOf pd__C_Z rfl) rfl (W := 0) (by show 2 * 0 + _ ≤ _; exact Nat.le_of_eq rfl) (hb hby d5_19) (by decide) (by decide) (by decide) (by decide)
        have N388 := Fr.app N384 N387q
        have e387 := e387.trans r387_0
        refine Win.to T387 (mkF m 22 #[.val (.ref a1), .val (.int j.toInt32)] [(.int (0 : Int32))]) (fun _ k => st387 _ k) ?_
        refine Win.to T387 (mkF m 25 #[.val (.ref a1), .val (.int j.toInt32)] []) (fun _ k => XS.ifNo X387.here hx rfl (hb hby d5_22) rfl ((if0 _ _).trans (teq (show (0 : Int32) = (0 : Int32) from by decide)).2) k) ?_
        refine Win.to T387 (mkF m 26 #[.val (.ref a1), .val (.int j.toInt32)] [(.int (0 : Int32))]) (fun _ k => XS.iconst X387.here hx rfl (hb hby d5_25) k) ?_
        exact Win.retN X387 hx hlk (t := .boolean) hret (by simp) rfl (hb hby d5_26) (by decide) (by decide) (by (try rw [e387]); exact ⟨(own_eqi (he0 fun q => hws (by rw [hcf j hj1]; exact q j hj1))), N388, rfl⟩)
  exact loop n 0 (by omega) (fun i hi => absurd hi (Nat.not_lt_zero _)) s₁ _ X0 N0 e0
abbrev R_isWs1 : Room := ⟨5, 0, 0, 66⟩
set_option maxRecDepth 65536 in
set_option maxHeartbeats 40000000 in
theorem isWs1 (l : Launch) (Z : State) (a0 : Array Value) (hw : ∀ d ∈ tables_1, d.before a0 Z = true) (a1 : Addr) (t1 : Addr) (k1 : ClassId) (n : Nat) (f : Nat → Int32) (cf : Nat → Int32) (r : Int32) (cs : Int32) (x1 : Value) (h0 : Heap) (n0 : Nat) (O0 : Old Z n0 h0) (E1 : Exa Z h0 a1 "java/lang/String") (F1 : Fld Z h0 a1 "java/lang/String" "value" "[B" (.ref t1)) (F2 : Fld Z h0 a1 "java/lang/String" "coder" "B" (.int (1 : Int32))) (Fa : ArF Z h0 t1 k1 .byte (2 * n) (u16 f)) (hrng : ∀ i, i < n → 0 ≤ (f i).toInt ∧ (f i).toInt < 65536) (hcf : ∀ i, i < n → f i = cf i) (S_AD : Sta Z Z.heap "java/lang/StringUTF16" "$assertionsDisabled" "Z" (.int (1 : Int32))) (S_HI : Sta Z Z.heap "java/lang/StringUTF16" "HI_BYTE_SHIFT" "I" (.int (0 : Int32))) (S_LO : Sta Z Z.heap "java/lang/StringUTF16" "LO_BYTE_SHIFT" "I" (.int (8 : Int32))) (he1 : (∀ i, i < n → wsp (cf i)) → r = 1) (he0 : ¬ (∀ i, i < n → wsp (cf i)) → r = 0) (S_CS : Sta Z Z.heap "java/lang/String" "COMPACT_STRINGS" "Z" (.int cs)) (hcs : ¬ (cs = (0 : Int32))) (S_SI : Sta Z Z.heap "jdk/internal/util/Preconditions" "SIOOBE_FORMATTER" "Ljava/util/function/BiFunction;" x1) (hx1 : x1.isRef = true) :
    MetN l Z (⟨"com/example/stylewright/stylewright/xdm/TreeBuilder", "isWhitespace", "(Ljava/lang/CharSequence;)Z"⟩ : MethodName) prog_50_method_28_code 2 (some .boolean) R_isWs1 [] #[(.ref a1)] h0 (fun v h L => v = some (.int r) ∧ Fr n0 L ∧ h = h0) := by
  refine MetN.walk (plainFor_of_name pn_5) ?_
  intro p e s m below meth c s₁ hx hZ hby hml hown hnm hret hlk X0 e0
  have N0 := Fr.nil n0
  refine Win.to s₁ (mkF m 0 #[.val (.ref a1), .unset] []) (fun _ k => castTop (by first | (simp [entryFrame, mkF, argsToLocals, Value.category]; done) | rfl) k) ?_
  have hnb := Fa.big
  have hn : n < 2 ^ 31 := by omega
  refine Win.to s₁ (mkF m 1 #[.val (.ref a1), .unset] [(.int (0 : Int32))]) (fun _ k => XS.iconst X0.here hx rfl (hb hby d5_0) k) ?_
  refine Win.to s₁ (mkF m 2 #[.val (.ref a1), .val (.int (0 : Int32))] []) (fun _ k => XS.istoreN X0.here hx rfl (hb hby d5_1) rfl (l' := #[.val (.ref a1), .val (.int (0 : Int32))]) rfl k) ?_
  have loop : ∀ (q j : Nat), j + q = n → (∀ i, i < j → wsp (cf i)) → ∀ (T : State) (locs : List Loc) (X : Stand p l e R_isWs1 s m #[(.ref a1)] below meth c T locs 0 0) (Nq : Fr n0 locs) (eT : T.heap = h0), Win p e below s R_isWs1 (fun v h L => v = some (.int r) ∧ Fr n0 L ∧ h = h0) (T.setTop (mkF m 2 #[.val (.ref a1), .val (.int j.toInt32)] [])) := by
    intro q
    induction q with
    | zero =>
      intro j hj hall T locs X Nq eT
      have hj0 : j = n := by omega
      have hall : ∀ i, i < n → wsp (cf i) := fun i hi => hall i (by omega)
      refine Win.to T (mkF m 3 #[.val (.ref a1), .val (.int j.toInt32)] [(.int j.toInt32)]) (fun _ k => XS.iloadN X.here hx rfl (hb hby d5_2) rfl k) ?_
      refine Win.to T (mkF m 4 #[.val (.ref a1), .val (.int j.toInt32)] [(.ref a1), (.int j.toInt32)]) (fun _ k => XS.aloadN X.here hx rfl (hb hby d5_3) rfl rfl k) ?_
      obtain ⟨T389, h389, v389, L389, X389, e389, ⟨rfl, N389q, r389_0⟩, st389⟩ := N.iface X hx hZ (y := (⟨"java/lang/CharSequence", "length", "()I"⟩ : MethodName)) (z := (⟨"java/lang/String", "length", "()I"⟩ : MethodName)) hown (wk hw 31 rfl) (wk hw 32 rfl) (wk hw 34 rfl) (mvT hZ (wk hw 33 rfl)) (wk hw 36 rfl) (wk hw 37 rfl) (wk hw 38 rfl) (wk hw 35 rfl) (wk hw 7 rfl) (wk hw 39 rfl) (by decide) (strLen1 l Z a0 hw a1 t1 k1 n f cs h0 n0 O0 E1 F1 F2 Fa S_CS hcs) eT E1 (g := (mkF m 4 #[.val (.ref a1), .val (.int j.toInt32)] [(.ref a1), (.int j.toInt32)])) rfl (by rw [hml]; rfl) (argsL := []) (rest := [(.int j.toInt32)]) rfl (lenOf pd___I rfl) rfl (W := 1) (by show 2 * 0 + _ ≤ _; exact Nat.le_of_eq rfl) (hb hby d5_4) (by decide) (by decide) (by decide) (by decide)
      have N390 := Fr.app Nq N389q
      have e389 := e389.trans r389_0
      refine Win.to T389 (mkF m 9 #[.val (.ref a1), .val (.int j.toInt32)] [(.int n.toInt32), (.int j.toInt32)]) (fun _ k => st389 _ k) ?_
      refine Win.to T389 (mkF m 33 #[.val (.ref a1), .val (.int j.toInt32)] []) (fun _ k => XS.icmpYes X389.here hx rfl (pc0 := 9) (pc' := 33) rfl (hb hby d5_9) rfl (flt (show ¬ (j.toInt32 < n.toInt32) from (by rw [hj0]; exact Int32.lt_irrefl))).2.1 (by decide) (by decide) k) ?_
      refine Win.to T389 (mkF m 34 #[.val (.ref a1), .val (.int j.toInt32)] [(.int (1 : Int32))]) (fun _ k => XS.iconst X389.here hx rfl (hb hby d5_33) k) ?_
      exact Win.retN X389 hx hlk (t := .boolean) hret (by simp) rfl (hb hby d5_34) (by decide) (by decide) (by (try rw [e389]); exact ⟨(own_eqi (he1 hall)), N390, rfl⟩)
    | succ q ih =>
      intro j hj hall T locs X Nq eT
      have hj1 : j < n := by omega
      have hj2 : j < 2 ^ 31 := by omega
      refine Win.to T (mkF m 3 #[.val (.ref a1), .val (.int j.toInt32)] [(.int j.toInt32)]) (fun _ k => XS.iloadN X.here hx rfl (hb hby d5_2) rfl k) ?_
      refine Win.to T (mkF m 4 #[.val (.ref a1), .val (.int j.toInt32)] [(.ref a1), (.int j.toInt32)]) (fun _ k => XS.aloadN X.here hx rfl (hb hby d5_3) rfl rfl k) ?_
      obtain ⟨T391, h391, v391, L391, X391, e391, ⟨rfl, N391q, r391_0⟩, st391⟩ := N.iface X hx hZ (y := (⟨"java/lang/CharSequence", "length", "()I"⟩ : MethodName)) (z := (⟨"java/lang/String", "length", "()I"⟩ : MethodName)) hown (wk hw 31 rfl) (wk hw 32 rfl) (wk hw 34 rfl) (mvT hZ (wk hw 33 rfl)) (wk hw 36 rfl) (wk hw 37 rfl) (wk hw 38 rfl) (wk hw 35 rfl) (wk hw 7 rfl) (wk hw 39 rfl) (by decide) (strLen1 l Z a0 hw a1 t1 k1 n f cs h0 n0 O0 E1 F1 F2 Fa S_CS hcs) eT E1 (g := (mkF m 4 #[.val (.ref a1), .val (.int j.toInt32)] [(.ref a1), (.int j.toInt32)])) rfl (by rw [hml]; rfl) (argsL := []) (rest := [(.int j.toInt32)]) rfl (lenOf pd___I rfl) rfl (W := 1) (by show 2 * 0 + _ ≤ _; exact Nat.le_of_eq rfl) (hb hby d5_4) (by decide) (by decide) (by decide) (by decide)
      have N392 := Fr.app Nq N391q
      have e391 := e391.trans r391_0
      refine Win.to T391 (mkF m 9 #[.val (.ref a1), .val (.int j.toInt32)] [(.int n.toInt32), (.int j.toInt32)]) (fun _ k => st391 _ k) ?_
      refine Win.to T391 (mkF m 12 #[.val (.ref a1), .val (.int j.toInt32)] []) (fun _ k => XS.icmpNo X391.here hx rfl (hb hby d5_9) rfl (tlt (show j.toInt32 < n.toInt32 from ((own_lt hj2 hn).mpr hj1))).2.1 k) ?_
      refine Win.to T391 (mkF m 13 #[.val (.ref a1), .val (.int j.toInt32)] [(.ref a1)]) (fun _ k => XS.aloadN X391.here hx rfl (hb hby d5_12) rfl rfl k) ?_
      refine Win.to T391 (mkF m 14 #[.val (.ref a1), .val (.int j.toInt32)] [(.int j.toInt32), (.ref a1)]) (fun _ k => XS.iloadN X391.here hx rfl (hb hby d5_13) rfl k) ?_
      obtain ⟨T393, h393, v393, L393, X393, e393, ⟨rfl, N393q, r393_0⟩, st393⟩ := N.iface X391 hx hZ (y := (⟨"java/lang/CharSequence", "charAt", "(I)C"⟩ : MethodName)) (z := (⟨"java/lang/String", "charAt", "(I)C"⟩ : MethodName)) hown (wk hw 59 rfl) (wk hw 60 rfl) (wk hw 62 rfl) (mvT hZ (wk hw 61 rfl)) (wk hw 64 rfl) (wk hw 65 rfl) (wk hw 38 rfl) (wk hw 63 rfl) (wk hw 7 rfl) (wk hw 66 rfl) (by decide) (chAt16 l Z a0 hw a1 t1 k1 n f j cs x1 h0 n0 O0 E1 F1 F2 Fa hj1 (by first | assumption | decide | omega) S_CS hcs S_SI hx1 S_AD S_HI S_LO) e391 E1 (g := (mkF m 14 #[.val (.ref a1), .val (.int j.toInt32)] [(.int j.toInt32), (.ref a1)])) rfl (by rw [hml]; rfl) (argsL := [(.int j.toInt32)]) (rest := []) rfl (lenOf pd__I_C rfl) rfl (W := 0) (by show 2 * 0 + _ ≤ _; exact Nat.le_of_eq rfl) (hb hby d5_14) (by decide) (by decide) (by decide) (by decide)
      have N394 := Fr.app N392 N393q
      have e393 := e393.trans r393_0
      refine Win.to T393 (mkF m 19 #[.val (.ref a1), .val (.int j.toInt32)] [(.int (f j))]) (fun _ k => st393 _ k) ?_
      by_cases hws : wsp (f j)
      · obtain ⟨T395, h395, v395, L395, X395, e395, ⟨rfl, N395q, r395_0⟩, st395⟩ := N.static X393 hx hZ (y := (⟨"com/example/stylewright/stylewright/xdm/TreeBuilder", "isWhitespace", "(C)Z"⟩ : MethodName)) hown (wk hw 84 rfl) (wk hw 85 rfl) (wk hw 29 rfl) (wk hw 86 rfl) (by decide) (iw1 l Z a0 hw (f j) h0 n0 O0 hws) e393 (g := (mkF m 19 #[.val (.ref a1), .val (.int j.toInt32)] [(.int (f j))])) rfl (by rw [hml]; rfl) (argsL := [(.int (f j))]) (rest := []) rfl (lenOf pd__C_Z rfl) rfl (W := 0) (by show 2 * 0 + _ ≤ _; exact Nat.le_of_eq rfl) (hb hby d5_19) (by decide) (by decide) (by decide) (by decide)
        have N396 := Fr.app N394 N395q
        have e395 := e395.trans r395_0
        refine Win.to T395 (mkF m 22 #[.val (.ref a1), .val (.int j.toInt32)] [(.int (1 : Int32))]) (fun _ k => st395 _ k) ?_
        refine Win.to T395 (mkF m 27 #[.val (.ref a1), .val (.int j.toInt32)] []) (fun _ k => XS.ifYes X395.here hx rfl (pc0 := 22) (pc' := 27) rfl (hb hby d5_22) rfl ((if0 _ _).trans (feq (show ¬ ((1 : Int32) = (0 : Int32)) from by decide)).2) (by decide) (by decide) k) ?_
        refine Win.to T395 (mkF m 30 #[.val (.ref a1), .val (.int (j.toInt32 + (1 : Int32)))] []) (fun _ k => XS.iinc X395.here hx rfl (hb hby d5_27) rfl (l' := #[.val (.ref a1), .val (.int (j.toInt32 + (1 : Int32)))]) rfl k) ?_
        refine Win.to T395 (mkF m 2 #[.val (.ref a1), .val (.int (j.toInt32 + (1 : Int32)))] []) (fun _ k => XS.goto X395.here hx rfl (pc0 := 30) (pc' := 2) rfl (hb hby d5_30) (by decide) (by decide) k) ?_
        rw [own_succ j]
        refine ih (j + 1) (by omega) (fun i hi => ?_) T395 _ X395 N396 e395
        rcases Nat.lt_succ_iff_lt_or_eq.mp hi with q | q
        · exact hall i q
        · rw [q, ← hcf j hj1]; exact hws
      · obtain ⟨T397, h397, v397, L397, X397, e397, ⟨rfl, N397q, r397_0⟩, st397⟩ := N.static X393 hx hZ (y := (⟨"com/example/stylewright/stylewright/xdm/TreeBuilder", "isWhitespace", "(C)Z"⟩ : MethodName)) hown (wk hw 84 rfl) (wk hw 85 rfl) (wk hw 29 rfl) (wk hw 86 rfl) (by decide) (iw0 l Z a0 hw (f j) h0 n0 O0 hws) e393 (g := (mkF m 19 #[.val (.ref a1), .val (.int j.toInt32)] [(.int (f j))])) rfl (by rw [hml]; rfl) (argsL := [(.int (f j))]) (rest := []) rfl (lenOf pd__C_Z rfl) rfl (W := 0) (by show 2 * 0 + _ ≤ _; exact Nat.le_of_eq rfl) (hb hby d5_19) (by decide) (by decide) (by decide) (by decide)
        have N398 := Fr.app N394 N397q
        have e397 := e397.trans r397_0
        refine Win.to T397 (mkF m 22 #[.val (.ref a1), .val (.int j.toInt32)] [(.int (0 : Int32))]) (fun _ k => st397 _ k) ?_
        refine Win.to T397 (mkF m 25 #[.val (.ref a1), .val (.int j.toInt32)] []) (fun _ k => XS.ifNo X397.here hx rfl (hb hby d5_22) rfl ((if0 _ _).trans (teq (show (0 : Int32) = (0 : Int32) from by decide)).2) k) ?_
        refine Win.to T397 (mkF m 26 #[.val (.ref a1), .val (.int j.toInt32)] [(.int (0 : Int32))]) (fun _ k => XS.iconst X397.here hx rfl (hb hby d5_25) k) ?_
        exact Win.retN X397 hx hlk (t := .boolean) hret (by simp) rfl (hb hby d5_26) (by decide) (by decide) (by (try rw [e397]); exact ⟨(own_eqi (he0 fun q => hws (by rw [hcf j hj1]; exact q j hj1))), N398, rfl⟩)
  exact loop n 0 (by omega) (fun i hi => absurd hi (Nat.not_lt_zero _)) s₁ _ X0 N0 e0
abbrev R_pick : Room := ⟨0, 0, 0, 0⟩
set_option maxRecDepth 65536 in
set_option maxHeartbeats 40000000 in
theorem pick (l : Launch) (Z : State) (a0 : Array Value) (hw : ∀ d ∈ tables_1, d.before a0 Z = true) (p1 : Int32) (h0 : Heap) (n0 : Nat) (O0 : Old Z n0 h0)  :
    MetN l Z (⟨"com/example/stylewright/stylewright/xdm/TreeBuilderIsWhitespacePinLaw", "pick", "(I)C"⟩ : MethodName) method_2_code 3 (some .char) R_pick [] #[(.int p1)] h0 (fun v h L => ∃ (c : Int32), v = some (.int c) ∧ Fr n0 L ∧ h = h0 ∧ (nar .char c = c)) := by
  refine MetN.walk (plainFor_of_name pn_1) ?_
  intro p e s m below meth c s₁ hx hZ hby hml hown hnm hret hlk X0 e0
  have N0 := Fr.nil n0
  refine Win.to s₁ (mkF m 0 #[.val (.int p1), .unset, .unset] []) (fun _ k => castTop (by first | (simp [entryFrame, mkF, argsToLocals, Value.category]; done) | rfl) k) ?_
  refine Win.to s₁ (mkF m 1 #[.val (.int p1), .unset, .unset] [(.int p1)]) (fun _ k => XS.iloadN X0.here hx rfl (hb hby d1_0) rfl k) ?_
  refine Win.to s₁ (mkF m 3 #[.val (.int p1), .unset, .unset] [(.int (7 : Int32)), (.int p1)]) (fun _ k => XS.bipush X0.here hx rfl (hb hby d1_1) k) ?_
  refine Win.to s₁ (mkF m 4 #[.val (.int p1), .unset, .unset] [(.int (p1 &&& (7 : Int32)))]) (fun _ k => XS.iand X0.here hx rfl (hb hby d1_3) rfl k) ?_
  refine Win.to s₁ (mkF m 5 #[.val (.int p1), .val (.int (p1 &&& (7 : Int32))), .unset] []) (fun _ k => XS.istoreN X0.here hx rfl (hb hby d1_4) rfl (l' := #[.val (.int p1), .val (.int (p1 &&& (7 : Int32))), .unset]) rfl k) ?_
  refine Win.to s₁ (mkF m 6 #[.val (.int p1), .val (.int (p1 &&& (7 : Int32))), .unset] [(.int (p1 &&& (7 : Int32)))]) (fun _ k => XS.iloadN X0.here hx rfl (hb hby d1_5) rfl k) ?_
  by_cases hc399 : (p1 &&& (7 : Int32)) = (0 : Int32)
  · refine Win.to s₁ (mkF m 9 #[.val (.int p1), .val (.int (p1 &&& (7 : Int32))), .unset] []) (fun _ k => XS.ifNo X0.here hx rfl (hb hby d1_6) rfl ((if0 _ _).trans (teq hc399).2) k) ?_
    refine Win.to s₁ (mkF m 11 #[.val (.int p1), .val (.int (p1 &&& (7 : Int32))), .unset] [(.int (32 : Int32))]) (fun _ k => XS.bipush X0.here hx rfl (hb hby d1_9) k) ?_
    refine Win.to s₁ (mkF m 12 #[.val (.int p1), .val (.int (p1 &&& (7 : Int32))), .val (.int (32 : Int32))] []) (fun _ k => XS.istoreN X0.here hx rfl (hb hby d1_11) rfl (l' := #[.val (.int p1), .val (.int (p1 &&& (7 : Int32))), .val (.int (32 : Int32))]) rfl k) ?_
    refine Win.to s₁ (mkF m 53 #[.val (.int p1), .val (.int (p1 &&& (7 : Int32))), .val (.int (32 : Int32))] []) (fun _ k => XS.goto X0.here hx rfl (pc0 := 12) (pc' := 53) rfl (hb hby d1_12) (by decide) (by decide) k) ?_
    refine Win.to s₁ (mkF m 54 #[.val (.int p1), .val (.int (p1 &&& (7 : Int32))), .val (.int (32 : Int32))] [(.int (32 : Int32))]) (fun _ k => XS.iloadN X0.here hx rfl (hb hby d1_53) rfl k) ?_
    exact Win.retN X0 hx hlk (t := .char) hret (by simp) rfl (hb hby d1_54) (by decide) (by decide) (by (try rw [e0]); exact ⟨(32 : Int32), rfl, N0, rfl, (by decide)⟩)
  · refine Win.to s₁ (mkF m 15 #[.val (.int p1), .val (.int (p1 &&& (7 : Int32))), .unset] []) (fun _ k => XS.ifYes X0.here hx rfl (pc0 := 6) (pc' := 15) rfl (hb hby d1_6) rfl ((if0 _ _).trans (feq hc399).2) (by decide) (by decide) k) ?_
    refine Win.to s₁ (mkF m 16 #[.val (.int p1), .val (.int (p1 &&& (7 : Int32))), .unset] [(.int (p1 &&& (7 : Int32)))]) (fun _ k => XS.iloadN X0.here hx rfl (hb hby d1_15) rfl k) ?_
    refine Win.to s₁ (mkF m 17 #[.val (.int p1), .val (.int (p1 &&& (7 : Int32))), .unset] [(.int (1 : Int32)), (.int (p1 &&& (7 : Int32)))]) (fun _ k => XS.iconst X0.here hx rfl (hb hby d1_16) k) ?_
    by_cases hc400 : (p1 &&& (7 : Int32)) = (1 : Int32)
    · refine Win.to s₁ (mkF m 20 #[.val (.int p1), .val (.int (p1 &&& (7 : Int32))), .unset] []) (fun _ k => XS.icmpNo X0.here hx rfl (hb hby d1_17) rfl (teq hc400).2 k) ?_
      refine Win.to s₁ (mkF m 22 #[.val (.int p1), .val (.int (p1 &&& (7 : Int32))), .unset] [(.int (9 : Int32))]) (fun _ k => XS.bipush X0.here hx rfl (hb hby d1_20) k) ?_
      refine Win.to s₁ (mkF m 23 #[.val (.int p1), .val (.int (p1 &&& (7 : Int32))), .val (.int (9 : Int32))] []) (fun _ k => XS.istoreN X0.here hx rfl (hb hby d1_22) rfl (l' := #[.val (.int p1), .val (.int (p1 &&& (7 : Int32))), .val (.int (9 : Int32))]) rfl k) ?_
      refine Win.to s₁ (mkF m 53 #[.val (.int p1), .val (.int (p1 &&& (7 : Int32))), .val (.int (9 : Int32))] []) (fun _ k => XS.goto X0.here hx rfl (pc0 := 23) (pc' := 53) rfl (hb hby d1_23) (by decide) (by decide) k) ?_
      refine Win.to s₁ (mkF m 54 #[.val (.int p1), .val (.int (p1 &&& (7 : Int32))), .val (.int (9 : Int32))] [(.int (9 : Int32))]) (fun _ k => XS.iloadN X0.here hx rfl (hb hby d1_53) rfl k) ?_
      exact Win.retN X0 hx hlk (t := .char) hret (by simp) rfl (hb hby d1_54) (by decide) (by decide) (by (try rw [e0]); exact ⟨(9 : Int32), rfl, N0, rfl, (by decide)⟩)
    · refine Win.to s₁ (mkF m 26 #[.val (.int p1), .val (.int (p1 &&& (7 : Int32))), .unset] []) (fun _ k => XS.icmpYes X0.here hx rfl (pc0 := 17) (pc' := 26) rfl (hb hby d1_17) rfl (feq hc400).2 (by decide) (by decide) k) ?_
      refine Win.to s₁ (mkF m 27 #[.val (.int p1), .val (.int (p1 &&& (7 : Int32))), .unset] [(.int (p1 &&& (7 : Int32)))]) (fun _ k => XS.iloadN X0.here hx rfl (hb hby d1_26) rfl k) ?_
      refine Win.to s₁ (mkF m 28 #[.val (.int p1), .val (.int (p1 &&& (7 : Int32))), .unset] [(.int (2 : Int32)), (.int (p1 &&& (7 : Int32)))]) (fun _ k => XS.iconst X0.here hx rfl (hb hby d1_27) k) ?_
      by_cases hc401 : (p1 &&& (7 : Int32)) = (2 : Int32)
      · refine Win.to s₁ (mkF m 31 #[.val (.int p1), .val (.int (p1 &&& (7 : Int32))), .unset] []) (fun _ k => XS.icmpNo X0.here hx rfl (hb hby d1_28) rfl (teq hc401).2 k) ?_
        refine Win.to s₁ (mkF m 33 #[.val (.int p1), .val (.int (p1 &&& (7 : Int32))), .unset] [(.int (10 : Int32))]) (fun _ k => XS.bipush X0.here hx rfl (hb hby d1_31) k) ?_
        refine Win.to s₁ (mkF m 34 #[.val (.int p1), .val (.int (p1 &&& (7 : Int32))), .val (.int (10 : Int32))] []) (fun _ k => XS.istoreN X0.here hx rfl (hb hby d1_33) rfl (l' := #[.val (.int p1), .val (.int (p1 &&& (7 : Int32))), .val (.int (10 : Int32))]) rfl k) ?_
        refine Win.to s₁ (mkF m 53 #[.val (.int p1), .val (.int (p1 &&& (7 : Int32))), .val (.int (10 : Int32))] []) (fun _ k => XS.goto X0.here hx rfl (pc0 := 34) (pc' := 53) rfl (hb hby d1_34) (by decide) (by decide) k) ?_
        refine Win.to s₁ (mkF m 54 #[.val (.int p1), .val (.int (p1 &&& (7 : Int32))), .val (.int (10 : Int32))] [(.int (10 : Int32))]) (fun _ k => XS.iloadN X0.here hx rfl (hb hby d1_53) rfl k) ?_
        exact Win.retN X0 hx hlk (t := .char) hret (by simp) rfl (hb hby d1_54) (by decide) (by decide) (by (try rw [e0]); exact ⟨(10 : Int32), rfl, N0, rfl, (by decide)⟩)
      · refine Win.to s₁ (mkF m 37 #[.val (.int p1), .val (.int (p1 &&& (7 : Int32))), .unset] []) (fun _ k => XS.icmpYes X0.here hx rfl (pc0 := 28) (pc' := 37) rfl (hb hby d1_28) rfl (feq hc401).2 (by decide) (by decide) k) ?_
        refine Win.to s₁ (mkF m 38 #[.val (.int p1), .val (.int (p1 &&& (7 : Int32))), .unset] [(.int (p1 &&& (7 : Int32)))]) (fun _ k => XS.iloadN X0.here hx rfl (hb hby d1_37) rfl k) ?_
        refine Win.to s₁ (mkF m 39 #[.val (.int p1), .val (.int (p1 &&& (7 : Int32))), .unset] [(.int (3 : Int32)), (.int (p1 &&& (7 : Int32)))]) (fun _ k => XS.iconst X0.here hx rfl (hb hby d1_38) k) ?_
        by_cases hc402 : (p1 &&& (7 : Int32)) = (3 : Int32)
        · refine Win.to s₁ (mkF m 42 #[.val (.int p1), .val (.int (p1 &&& (7 : Int32))), .unset] []) (fun _ k => XS.icmpNo X0.here hx rfl (hb hby d1_39) rfl (teq hc402).2 k) ?_
          refine Win.to s₁ (mkF m 44 #[.val (.int p1), .val (.int (p1 &&& (7 : Int32))), .unset] [(.int (13 : Int32))]) (fun _ k => XS.bipush X0.here hx rfl (hb hby d1_42) k) ?_
          refine Win.to s₁ (mkF m 45 #[.val (.int p1), .val (.int (p1 &&& (7 : Int32))), .val (.int (13 : Int32))] []) (fun _ k => XS.istoreN X0.here hx rfl (hb hby d1_44) rfl (l' := #[.val (.int p1), .val (.int (p1 &&& (7 : Int32))), .val (.int (13 : Int32))]) rfl k) ?_
          refine Win.to s₁ (mkF m 53 #[.val (.int p1), .val (.int (p1 &&& (7 : Int32))), .val (.int (13 : Int32))] []) (fun _ k => XS.goto X0.here hx rfl (pc0 := 45) (pc' := 53) rfl (hb hby d1_45) (by decide) (by decide) k) ?_
          refine Win.to s₁ (mkF m 54 #[.val (.int p1), .val (.int (p1 &&& (7 : Int32))), .val (.int (13 : Int32))] [(.int (13 : Int32))]) (fun _ k => XS.iloadN X0.here hx rfl (hb hby d1_53) rfl k) ?_
          exact Win.retN X0 hx hlk (t := .char) hret (by simp) rfl (hb hby d1_54) (by decide) (by decide) (by (try rw [e0]); exact ⟨(13 : Int32), rfl, N0, rfl, (by decide)⟩)
        · refine Win.to s₁ (mkF m 48 #[.val (.int p1), .val (.int (p1 &&& (7 : Int32))), .unset] []) (fun _ k => XS.icmpYes X0.here hx rfl (pc0 := 39) (pc' := 48) rfl (hb hby d1_39) rfl (feq hc402).2 (by decide) (by decide) k) ?_
          refine Win.to s₁ (mkF m 49 #[.val (.int p1), .val (.int (p1 &&& (7 : Int32))), .unset] [(.int p1)]) (fun _ k => XS.iloadN X0.here hx rfl (hb hby d1_48) rfl k) ?_
          refine Win.to s₁ (mkF m 50 #[.val (.int p1), .val (.int (p1 &&& (7 : Int32))), .unset] [(.int (3 : Int32)), (.int p1)]) (fun _ k => XS.iconst X0.here hx rfl (hb hby d1_49) k) ?_
          refine Win.to s₁ (mkF m 51 #[.val (.int p1), .val (.int (p1 &&& (7 : Int32))), .unset] [(.int ((p1.toUInt32 >>> ((3 : Int32) &&& 31).toUInt32).toInt32))]) (fun _ k => XS.iushr X0.here hx rfl (hb hby d1_50) rfl k) ?_
          refine Win.to s₁ (mkF m 52 #[.val (.int p1), .val (.int (p1 &&& (7 : Int32))), .unset] [(.int (((p1.toUInt32 >>> ((3 : Int32) &&& 31).toUInt32).toInt32).toUInt32.toUInt16.toUInt32.toInt32))]) (fun _ k => XS.i2c X0.here hx rfl (hb hby d1_51) rfl k) ?_
          refine Win.to s₁ (mkF m 53 #[.val (.int p1), .val (.int (p1 &&& (7 : Int32))), .val (.int (((p1.toUInt32 >>> ((3 : Int32) &&& 31).toUInt32).toInt32).toUInt32.toUInt16.toUInt32.toInt32))] []) (fun _ k => XS.istoreN X0.here hx rfl (hb hby d1_52) rfl (l' := #[.val (.int p1), .val (.int (p1 &&& (7 : Int32))), .val (.int (((p1.toUInt32 >>> ((3 : Int32) &&& 31).toUInt32).toInt32).toUInt32.toUInt16.toUInt32.toInt32))]) rfl k) ?_
          refine Win.to s₁ (mkF m 54 #[.val (.int p1), .val (.int (p1 &&& (7 : Int32))), .val (.int (((p1.toUInt32 >>> ((3 : Int32) &&& 31).toUInt32).toInt32).toUInt32.toUInt16.toUInt32.toInt32))] [(.int (((p1.toUInt32 >>> ((3 : Int32) &&& 31).toUInt32).toInt32).toUInt32.toUInt16.toUInt32.toInt32))]) (fun _ k => XS.iloadN X0.here hx rfl (hb hby d1_53) rfl k) ?_
          exact Win.retN X0 hx hlk (t := .char) hret (by simp) (show nar .char (((p1.toUInt32 >>> ((3 : Int32) &&& 31).toUInt32).toInt32).toUInt32.toUInt16.toUInt32.toInt32) = (((p1.toUInt32 >>> ((3 : Int32) &&& 31).toUInt32).toInt32).toUInt32.toUInt16.toUInt32.toInt32) from (own_c16 ((p1.toUInt32 >>> ((3 : Int32) &&& 31).toUInt32).toInt32))) (hb hby d1_54) (by decide) (by decide) (by (try rw [e0]); exact ⟨(((p1.toUInt32 >>> ((3 : Int32) &&& 31).toUInt32).toInt32).toUInt32.toUInt16.toUInt32.toInt32), rfl, N0, rfl, (own_c16 ((p1.toUInt32 >>> ((3 : Int32) &&& 31).toUInt32).toInt32))⟩)
set_option maxRecDepth 65536 in
set_option maxHeartbeats 40000000 in
theorem rm0 (l : Launch) (Z : State) (a0 : Array Value) (hw : ∀ d ∈ tables_1, d.before a0 Z = true) (ws : List Jvm.Cond) (p0 : Int32) (p1 : Int32) (p2 : Int32) (p3 : Int32) (p4 : Int32) (cs : Int32) (x1 : Value) (h0 : Heap) (n0 : Nat) (O0 : Old Z n0 h0) (S_CS : Sta Z Z.heap "java/lang/String" "COMPACT_STRINGS" "Z" (.int cs)) (hcs : ¬ (cs = (0 : Int32))) (S_SI : Sta Z Z.heap "jdk/internal/util/Preconditions" "SIOOBE_FORMATTER" "Ljava/util/function/BiFunction;" x1) (hx1 : x1.isRef = true) (S_AD : Sta Z Z.heap "java/lang/StringUTF16" "$assertionsDisabled" "Z" (.int (1 : Int32))) (S_HI : Sta Z Z.heap "java/lang/StringUTF16" "HI_BYTE_SHIFT" "I" (.int (0 : Int32))) (S_LO : Sta Z Z.heap "java/lang/StringUTF16" "LO_BYTE_SHIFT" "I" (.int (8 : Int32))) :
    MetW l Z x code maxLocals ret room_1 ws #[(.int p0), (.int p1), (.int p2), (.int p3), (.int p4)] h0 EL1 (fun v h L => v = some (.int (1 : Int32)) ∧ Fr n0 L ∧ (True)) := by
  refine MetW.walk (plainFor_of_name pn_0) ?_
  intro p e s m below meth c s₁ hx hZ hby hml hown hnm hret hlk C0 hS0 X0 e0
  have N0 := Fr.nil n0
  refine WinW.to s₁ (mkF m 0 #[.val (.int p0), .val (.int p1), .val (.int p2), .val (.int p3), .val (.int p4), .unset, .unset, .unset, .unset, .unset, .unset, .unset] []) (fun _ k => castTop (by first | (simp [entryFrame, mkF, argsToLocals, Value.category, maxLocals]; done) | rfl) k) ?_
  refine WinW.to s₁ (mkF m 1 #[.val (.int p0), .val (.int p1), .val (.int p2), .val (.int p3), .val (.int p4), .unset, .unset, .unset, .unset, .unset, .unset, .unset] [(.int p0)]) (fun _ k => XS.iloadN X0.here hx rfl (hb hby at_0) rfl k) ?_
  refine WinW.to s₁ (mkF m 3 #[.val (.int p0), .val (.int p1), .val (.int p2), .val (.int p3), .val (.int p4), .unset, .unset, .unset, .unset, .unset, .unset, .unset] [(.int (2147483647 : Int32)), (.int p0)]) (fun _ k => X0.ldcInt hx hown (mvT hZ (wk hw 0 rfl)) (g := (mkF m 1 #[.val (.int p0), .val (.int p1), .val (.int p2), .val (.int p3), .val (.int p4), .unset, .unset, .unset, .unset, .unset, .unset, .unset] [(.int p0)])) rfl (hb hby at_1) _ k) ?_
  refine WinW.to s₁ (mkF m 4 #[.val (.int p0), .val (.int p1), .val (.int p2), .val (.int p3), .val (.int p4), .unset, .unset, .unset, .unset, .unset, .unset, .unset] [(.int (p0 &&& (2147483647 : Int32)))]) (fun _ k => XS.iand X0.here hx rfl (hb hby at_3) rfl k) ?_
  refine WinW.to s₁ (mkF m 5 #[.val (.int p0), .val (.int p1), .val (.int p2), .val (.int p3), .val (.int p4), .unset, .unset, .unset, .unset, .unset, .unset, .unset] [(.int (5 : Int32)), (.int (p0 &&& (2147483647 : Int32)))]) (fun _ k => XS.iconst X0.here hx rfl (hb hby at_4) k) ?_
  refine WinW.to s₁ (mkF m 6 #[.val (.int p0), .val (.int p1), .val (.int p2), .val (.int p3), .val (.int p4), .unset, .unset, .unset, .unset, .unset, .unset, .unset] [(.int ((p0 &&& (2147483647 : Int32)) % (5 : Int32)))]) (fun _ k => Jvm.RoadKit.iremM X0 hx rfl (hb hby at_5) rfl (by decide) k) ?_
  refine WinW.to s₁ (mkF m 8 #[.val (.int p0), .val (.int p1), .val (.int p2), .val (.int p3), .val (.int p4), .val (.int ((p0 &&& (2147483647 : Int32)) % (5 : Int32))), .unset, .unset, .unset, .unset, .unset, .unset] []) (fun _ k => XS.istore X0.here hx rfl (hb hby at_6) rfl (l' := #[.val (.int p0), .val (.int p1), .val (.int p2), .val (.int p3), .val (.int p4), .val (.int ((p0 &&& (2147483647 : Int32)) % (5 : Int32))), .unset, .unset, .unset, .unset, .unset, .unset]) rfl k) ?_
  refine WinW.to s₁ (mkF m 9 #[.val (.int p0), .val (.int p1), .val (.int p2), .val (.int p3), .val (.int p4), .val (.int ((p0 &&& (2147483647 : Int32)) % (5 : Int32))), .unset, .unset, .unset, .unset, .unset, .unset] [(.int p1)]) (fun _ k => XS.iloadN X0.here hx rfl (hb hby at_8) rfl k) ?_
  obtain ⟨T403, h403, v403, L403, X403, e403, ⟨c_403, rfl, N403q, r403_0, r403_1⟩, st403⟩ := N.static X0 hx hZ (y := (⟨"com/example/stylewright/stylewright/xdm/TreeBuilderIsWhitespacePinLaw", "pick", "(I)C"⟩ : MethodName)) hown (wk hw 1 rfl) (wk hw 2 rfl) (wk hw 3 rfl) (wk hw 4 rfl) (by decide) (pick l Z a0 hw p1 h0 n0 O0 ) e0 (g := (mkF m 9 #[.val (.int p0), .val (.int p1), .val (.int p2), .val (.int p3), .val (.int p4), .val (.int ((p0 &&& (2147483647 : Int32)) % (5 : Int32))), .unset, .unset, .unset, .unset, .unset, .unset] [(.int p1)])) rfl (by rw [hml]; rfl) (argsL := [(.int p1)]) (rest := []) rfl (lenOf pd__I_C rfl) rfl (W := 0) (by show 2 * 0 + _ ≤ _; exact Nat.le_of_eq rfl) (hb hby at_9) (by decide) (by decide) (by decide) (by decide)
  have N404 := Fr.app N0 N403q
  have e403 := e403.trans r403_0
  refine WinW.to T403 (mkF m 12 #[.val (.int p0), .val (.int p1), .val (.int p2), .val (.int p3), .val (.int p4), .val (.int ((p0 &&& (2147483647 : Int32)) % (5 : Int32))), .unset, .unset, .unset, .unset, .unset, .unset] [(.int c_403)]) (fun _ k => st403 _ k) ?_
  refine WinW.to T403 (mkF m 14 #[.val (.int p0), .val (.int p1), .val (.int p2), .val (.int p3), .val (.int p4), .val (.int ((p0 &&& (2147483647 : Int32)) % (5 : Int32))), .val (.int c_403), .unset, .unset, .unset, .unset, .unset] []) (fun _ k => XS.istore X403.here hx rfl (hb hby at_12) rfl (l' := #[.val (.int p0), .val (.int p1), .val (.int p2), .val (.int p3), .val (.int p4), .val (.int ((p0 &&& (2147483647 : Int32)) % (5 : Int32))), .val (.int c_403), .unset, .unset, .unset, .unset, .unset]) rfl k) ?_
  refine WinW.to T403 (mkF m 15 #[.val (.int p0), .val (.int p1), .val (.int p2), .val (.int p3), .val (.int p4), .val (.int ((p0 &&& (2147483647 : Int32)) % (5 : Int32))), .val (.int c_403), .unset, .unset, .unset, .unset, .unset] [(.int p2)]) (fun _ k => XS.iloadN X403.here hx rfl (hb hby at_14) rfl k) ?_
  obtain ⟨T405, h405, v405, L405, X405, e405, ⟨c_405, rfl, N405q, r405_0, r405_1⟩, st405⟩ := N.static X403 hx hZ (y := (⟨"com/example/stylewright/stylewright/xdm/TreeBuilderIsWhitespacePinLaw", "pick", "(I)C"⟩ : MethodName)) hown (wk hw 1 rfl) (wk hw 2 rfl) (wk hw 3 rfl) (wk hw 4 rfl) (by decide) (pick l Z a0 hw p2 h0 n0 O0 ) e403 (g := (mkF m 15 #[.val (.int p0), .val (.int p1), .val (.int p2), .val (.int p3), .val (.int p4), .val (.int ((p0 &&& (2147483647 : Int32)) % (5 : Int32))), .val (.int c_403), .unset, .unset, .unset, .unset, .unset] [(.int p2)])) rfl (by rw [hml]; rfl) (argsL := [(.int p2)]) (rest := []) rfl (lenOf pd__I_C rfl) rfl (W := 0) (by show 2 * 0 + _ ≤ _; exact Nat.le_of_eq rfl) (hb hby at_15) (by decide) (by decide) (by decide) (by decide)
  have N406 := Fr.app N404 N405q
  have e405 := e405.trans r405_0
  refine WinW.to T405 (mkF m 18 #[.val (.int p0), .val (.int p1), .val (.int p2), .val (.int p3), .val (.int p4), .val (.int ((p0 &&& (2147483647 : Int32)) % (5 : Int32))), .val (.int c_403), .unset, .unset, .unset, .unset, .unset] [(.int c_405)]) (fun _ k => st405 _ k) ?_
  refine WinW.to T405 (mkF m 20 #[.val (.int p0), .val (.int p1), .val (.int p2), .val (.int p3), .val (.int p4), .val (.int ((p0 &&& (2147483647 : Int32)) % (5 : Int32))), .val (.int c_403), .val (.int c_405), .unset, .unset, .unset, .unset] []) (fun _ k => XS.istore X405.here hx rfl (hb hby at_18) rfl (l' := #[.val (.int p0), .val (.int p1), .val (.int p2), .val (.int p3), .val (.int p4), .val (.int ((p0 &&& (2147483647 : Int32)) % (5 : Int32))), .val (.int c_403), .val (.int c_405), .unset, .unset, .unset, .unset]) rfl k) ?_
  refine WinW.to T405 (mkF m 21 #[.val (.int p0), .val (.int p1), .val (.int p2), .val (.int p3), .val (.int p4), .val (.int ((p0 &&& (2147483647 : Int32)) % (5 : Int32))), .val (.int c_403), .val (.int c_405), .unset, .unset, .unset, .unset] [(.int p3)]) (fun _ k => XS.iloadN X405.here hx rfl (hb hby at_20) rfl k) ?_
  obtain ⟨T407, h407, v407, L407, X407, e407, ⟨c_407, rfl, N407q, r407_0, r407_1⟩, st407⟩ := N.static X405 hx hZ (y := (⟨"com/example/stylewright/stylewright/xdm/TreeBuilderIsWhitespacePinLaw", "pick", "(I)C"⟩ : MethodName)) hown (wk hw 1 rfl) (wk hw 2 rfl) (wk hw 3 rfl) (wk hw 4 rfl) (by decide) (pick l Z a0 hw p3 h0 n0 O0 ) e405 (g := (mkF m 21 #[.val (.int p0), .val (.int p1), .val (.int p2), .val (.int p3), .val (.int p4), .val (.int ((p0 &&& (2147483647 : Int32)) % (5 : Int32))), .val (.int c_403), .val (.int c_405), .unset, .unset, .unset, .unset] [(.int p3)])) rfl (by rw [hml]; rfl) (argsL := [(.int p3)]) (rest := []) rfl (lenOf pd__I_C rfl) rfl (W := 0) (by show 2 * 0 + _ ≤ _; exact Nat.le_of_eq rfl) (hb hby at_21) (by decide) (by decide) (by decide) (by decide)
  have N408 := Fr.app N406 N407q
  have e407 := e407.trans r407_0
  refine WinW.to T407 (mkF m 24 #[.val (.int p0), .val (.int p1), .val (.int p2), .val (.int p3), .val (.int p4), .val (.int ((p0 &&& (2147483647 : Int32)) % (5 : Int32))), .val (.int c_403), .val (.int c_405), .unset, .unset, .unset, .unset] [(.int c_407)]) (fun _ k => st407 _ k) ?_
  refine WinW.to T407 (mkF m 26 #[.val (.int p0), .val (.int p1), .val (.int p2), .val (.int p3), .val (.int p4), .val (.int ((p0 &&& (2147483647 : Int32)) % (5 : Int32))), .val (.int c_403), .val (.int c_405), .val (.int c_407), .unset, .unset, .unset] []) (fun _ k => XS.istore X407.here hx rfl (hb hby at_24) rfl (l' := #[.val (.int p0), .val (.int p1), .val (.int p2), .val (.int p3), .val (.int p4), .val (.int ((p0 &&& (2147483647 : Int32)) % (5 : Int32))), .val (.int c_403), .val (.int c_405), .val (.int c_407), .unset, .unset, .unset]) rfl k) ?_
  refine WinW.to T407 (mkF m 28 #[.val (.int p0), .val (.int p1), .val (.int p2), .val (.int p3), .val (.int p4), .val (.int ((p0 &&& (2147483647 : Int32)) % (5 : Int32))), .val (.int c_403), .val (.int c_405), .val (.int c_407), .unset, .unset, .unset] [(.int p4)]) (fun _ k => XS.iload X407.here hx rfl (hb hby at_26) rfl k) ?_
  obtain ⟨T409, h409, v409, L409, X409, e409, ⟨c_409, rfl, N409q, r409_0, r409_1⟩, st409⟩ := N.static X407 hx hZ (y := (⟨"com/example/stylewright/stylewright/xdm/TreeBuilderIsWhitespacePinLaw", "pick", "(I)C"⟩ : MethodName)) hown (wk hw 1 rfl) (wk hw 2 rfl) (wk hw 3 rfl) (wk hw 4 rfl) (by decide) (pick l Z a0 hw p4 h0 n0 O0 ) e407 (g := (mkF m 28 #[.val (.int p0), .val (.int p1), .val (.int p2), .val (.int p3), .val (.int p4), .val (.int ((p0 &&& (2147483647 : Int32)) % (5 : Int32))), .val (.int c_403), .val (.int c_405), .val (.int c_407), .unset, .unset, .unset] [(.int p4)])) rfl (by rw [hml]; rfl) (argsL := [(.int p4)]) (rest := []) rfl (lenOf pd__I_C rfl) rfl (W := 0) (by show 2 * 0 + _ ≤ _; exact Nat.le_of_eq rfl) (hb hby at_28) (by decide) (by decide) (by decide) (by decide)
  have N410 := Fr.app N408 N409q
  have e409 := e409.trans r409_0
  refine WinW.to T409 (mkF m 31 #[.val (.int p0), .val (.int p1), .val (.int p2), .val (.int p3), .val (.int p4), .val (.int ((p0 &&& (2147483647 : Int32)) % (5 : Int32))), .val (.int c_403), .val (.int c_405), .val (.int c_407), .unset, .unset, .unset] [(.int c_409)]) (fun _ k => st409 _ k) ?_
  refine WinW.to T409 (mkF m 33 #[.val (.int p0), .val (.int p1), .val (.int p2), .val (.int p3), .val (.int p4), .val (.int ((p0 &&& (2147483647 : Int32)) % (5 : Int32))), .val (.int c_403), .val (.int c_405), .val (.int c_407), .val (.int c_409), .unset, .unset] []) (fun _ k => XS.istore X409.here hx rfl (hb hby at_31) rfl (l' := #[.val (.int p0), .val (.int p1), .val (.int p2), .val (.int p3), .val (.int p4), .val (.int ((p0 &&& (2147483647 : Int32)) % (5 : Int32))), .val (.int c_403), .val (.int c_405), .val (.int c_407), .val (.int c_409), .unset, .unset]) rfl k) ?_
  rcases own_rem p0 with hk | hk | hk | hk | hk
  · rw [hk]
    refine WinW.to T409 (mkF m 35 #[.val (.int p0), .val (.int p1), .val (.int p2), .val (.int p3), .val (.int p4), .val (.int (0 : Int32)), .val (.int c_403), .val (.int c_405), .val (.int c_407), .val (.int c_409), .unset, .unset] [(.int (0 : Int32))]) (fun _ k => XS.iload X409.here hx rfl (hb hby at_33) rfl k) ?_
    refine WinW.to T409 (mkF m 38 #[.val (.int p0), .val (.int p1), .val (.int p2), .val (.int p3), .val (.int p4), .val (.int (0 : Int32)), .val (.int c_403), .val (.int c_405), .val (.int c_407), .val (.int c_409), .unset, .unset] []) (fun _ k => XS.ifNo X409.here hx rfl (hb hby at_35) rfl ((if0 _ _).trans (teq (show (0 : Int32) = (0 : Int32) from by decide)).2) k) ?_
    obtain ⟨T411, h411, X411, e411, E411, A411, D411, -, st411⟩ := newO X409 hx hZ hown (wk hw 5 rfl) (wk hw 6 rfl) (wk hw 7 rfl) e409 (g := (mkF m 38 #[.val (.int p0), .val (.int p1), .val (.int p2), .val (.int p3), .val (.int p4), .val (.int (0 : Int32)), .val (.int c_403), .val (.int c_405), .val (.int c_407), .val (.int c_409), .unset, .unset] [])) rfl (hb hby at_38) (by decide) (by decide)
    obtain ⟨b411, g411⟩ : ∃ z, z = h0.size := ⟨_, rfl⟩
    rw [← g411] at A411 D411 st411
    have g412 : n0 ≤ b411 := Nat.le_trans (own_le O0) (Nat.le_of_eq g411.symm)
    have z413 : h0.size ≤ b411 := (Nat.le_of_eq g411.symm)
    have O414 := Old.ext O0 E411
    have K415 : Keep h0 h411 [] := (Keep.refl h0 []).ext E411
    have c416 := CHr.ext E411 C0.1
    have C417 := CHr.trans C0 c416
    have F418 : Fld Z h411 b411 "java/lang/String" "value" "[B" .null := D411 (Or.inr (wk hw 21 rfl)) (ty := (.array .byte)) (by decide)
    have F419 : Fld Z h411 b411 "java/lang/String" "coder" "B" (.int (0 : Int32)) := D411 (Or.inr (wk hw 22 rfl)) (ty := .byte) (by decide)
    refine WinW.to T411 (mkF m 41 #[.val (.int p0), .val (.int p1), .val (.int p2), .val (.int p3), .val (.int p4), .val (.int (0 : Int32)), .val (.int c_403), .val (.int c_405), .val (.int c_407), .val (.int c_409), .unset, .unset] [(.ref b411)]) (fun _ k => st411 _ k) ?_
    refine WinW.to T411 (mkF m 42 #[.val (.int p0), .val (.int p1), .val (.int p2), .val (.int p3), .val (.int p4), .val (.int (0 : Int32)), .val (.int c_403), .val (.int c_405), .val (.int c_407), .val (.int c_409), .unset, .unset] [(.ref b411), (.ref b411)]) (fun _ k => XS.dup X411.here hx rfl (hb hby at_41) rfl rfl k) ?_
    refine WinW.to T411 (mkF m 43 #[.val (.int p0), .val (.int p1), .val (.int p2), .val (.int p3), .val (.int p4), .val (.int (0 : Int32)), .val (.int c_403), .val (.int c_405), .val (.int c_407), .val (.int c_409), .unset, .unset] [(.int (0 : Int32)), (.ref b411), (.ref b411)]) (fun _ k => XS.iconst X411.here hx rfl (hb hby at_42) k) ?_
    obtain ⟨T420, h420, k420, X420, e420, E420, A420, st420⟩ := newP X411 hx hZ (wk hw 8 rfl) e411 (g := (mkF m 43 #[.val (.int p0), .val (.int p1), .val (.int p2), .val (.int p3), .val (.int p4), .val (.int (0 : Int32)), .val (.int c_403), .val (.int c_405), .val (.int c_407), .val (.int c_409), .unset, .unset] [(.int (0 : Int32)), (.ref b411), (.ref b411)])) rfl (hb hby at_43) rfl (by decide) (cap := 0) (by decide) (by decide) (by decide) (by decide)
    obtain ⟨b420, g420⟩ : ∃ z, z = h411.size := ⟨_, rfl⟩
    rw [← g420] at A420 st420
    have ne421 : b411 ≠ b420 := Nat.ne_of_lt (Nat.lt_of_lt_of_le A411.lt (Nat.le_of_eq g420.symm))
    have g422 : n0 ≤ b420 := Nat.le_trans (own_le O414) (Nat.le_of_eq g420.symm)
    have z423 : h0.size ≤ b420 := Nat.le_trans K415.1 (Nat.le_of_eq g420.symm)
    have O424 := Old.ext O414 E420
    have K425 : Keep h0 h420 [] := K415.ext E420
    have c426 := CHr.ext E420 C417.1
    have C427 := CHr.trans C417 c426
    have F428 : Arv Z h420 b420 k420 .char (0 : Int32) [] (.int (0 : Int32)) := (Arv.new A420 (by decide)).pad (pad_rep [] (.int (0 : Int32)) 0)
    refine WinW.to T420 (mkF m 45 #[.val (.int p0), .val (.int p1), .val (.int p2), .val (.int p3), .val (.int p4), .val (.int (0 : Int32)), .val (.int c_403), .val (.int c_405), .val (.int c_407), .val (.int c_409), .unset, .unset] [(.ref b420), (.ref b411), (.ref b411)]) (fun _ k => st420 _ k) ?_
    have F429 : ArF Z h420 b420 k420 .char 0 (fun i => ([] : List Int32).getD i (0 : Int32)) := own_arf [] F428 rfl
    have F430 : Exa Z h420 b411 "java/lang/String" := (Exa.ext E420 A411)
    have F431 : Fld Z h420 b411 "java/lang/String" "value" "[B" .null := (Fld.ext E420 F418)
    have F432 : Fld Z h420 b411 "java/lang/String" "coder" "B" (.int (0 : Int32)) := (Fld.ext E420 F419)
    obtain ⟨T433, h433, v433, L433, k433, X433, e433, hS433, hk433, hZ433, hown433, ⟨t_433, kb_433, rfl, N433q, r433_0, r433_1, r433_2, r433_3⟩, c433, st433⟩ := W.special X420 hS0 (Nat.zero_le _) hx hZ (y := (⟨"java/lang/String", "<init>", "([C)V"⟩ : MethodName)) rfl hown (wk hw 9 rfl) (wk hw 10 rfl) (wk hw 7 rfl) (wk hw 11 rfl) (by decide) (ctor1 l Z a0 hw b411 b420 k420 0 (fun i => ([] : List Int32).getD i (0 : Int32)) cs h420 n0 O424 F430 F431 F432 F429 (fun i hi => absurd hi (Nat.not_lt_zero _)) (by decide) g412 S_CS hcs) (own_EW hw) C427.1 e420 (g := (mkF m 45 #[.val (.int p0), .val (.int p1), .val (.int p2), .val (.int p3), .val (.int p4), .val (.int (0 : Int32)), .val (.int c_403), .val (.int c_405), .val (.int c_407), .val (.int c_409), .unset, .unset] [(.ref b420), (.ref b411), (.ref b411)])) rfl (by rw [hml]; rfl) (a := b411) (argsL := [(.ref b420)]) (rest := [(.ref b411)]) rfl (lenOf pd___C_V rfl) rfl (W := 1) (by show 2 * 0 + _ ≤ _; exact Nat.le_of_eq rfl) (hb hby at_45) (by decide) (by decide) (by decide) (by decide)
    have N434 := Fr.app N410 N433q
    have O435 := Old.keep O424 r433_0 (allS g412 all0)
    have K436 : Keep h0 h433 [] := Keep.trans K425 r433_0 (allS (Or.inr z413) all0)
    have c437 := c433
    have C438 := CHr.trans C427 c437
    refine WinW.to T433 (mkF m 48 #[.val (.int p0), .val (.int p1), .val (.int p2), .val (.int p3), .val (.int p4), .val (.int (0 : Int32)), .val (.int c_403), .val (.int c_405), .val (.int c_407), .val (.int c_409), .unset, .unset] [(.ref b411)]) (fun _ k => st433 _ k) ?_
    refine WinW.to T433 (mkF m 50 #[.val (.int p0), .val (.int p1), .val (.int p2), .val (.int p3), .val (.int p4), .val (.int (0 : Int32)), .val (.int c_403), .val (.int c_405), .val (.int c_407), .val (.int c_409), .val (.ref b411), .unset] []) (fun _ k => XS.astore X433.here hx rfl (hb hby at_48) rfl rfl (l' := #[.val (.int p0), .val (.int p1), .val (.int p2), .val (.int p3), .val (.int p4), .val (.int (0 : Int32)), .val (.int c_403), .val (.int c_405), .val (.int c_407), .val (.int c_409), .val (.ref b411), .unset]) rfl k) ?_
    refine WinW.to T433 (mkF m 178 #[.val (.int p0), .val (.int p1), .val (.int p2), .val (.int p3), .val (.int p4), .val (.int (0 : Int32)), .val (.int c_403), .val (.int c_405), .val (.int c_407), .val (.int c_409), .val (.ref b411), .unset] []) (fun _ k => XS.goto X433.here hx rfl (pc0 := 50) (pc' := 178) rfl (hb hby at_50) (by decide) (by decide) k) ?_
    refine WinW.to T433 (mkF m 180 #[.val (.int p0), .val (.int p1), .val (.int p2), .val (.int p3), .val (.int p4), .val (.int (0 : Int32)), .val (.int c_403), .val (.int c_405), .val (.int c_407), .val (.int c_409), .val (.ref b411), .unset] [(.int (0 : Int32))]) (fun _ k => XS.iload X433.here hx rfl (hb hby at_178) rfl k) ?_
    refine WinW.to T433 (mkF m 181 #[.val (.int p0), .val (.int p1), .val (.int p2), .val (.int p3), .val (.int p4), .val (.int (0 : Int32)), .val (.int c_403), .val (.int c_405), .val (.int c_407), .val (.int c_409), .val (.ref b411), .unset] [(.int (1 : Int32)), (.int (0 : Int32))]) (fun _ k => XS.iconst X433.here hx rfl (hb hby at_180) k) ?_
    refine WinW.to T433 (mkF m 192 #[.val (.int p0), .val (.int p1), .val (.int p2), .val (.int p3), .val (.int p4), .val (.int (0 : Int32)), .val (.int c_403), .val (.int c_405), .val (.int c_407), .val (.int c_409), .val (.ref b411), .unset] []) (fun _ k => XS.icmpYes X433.here hx rfl (pc0 := 181) (pc' := 192) rfl (hb hby at_181) rfl (tlt (show (0 : Int32) < (1 : Int32) from by decide)).1 (by decide) (by decide) k) ?_
    refine WinW.to T433 (mkF m 194 #[.val (.int p0), .val (.int p1), .val (.int p2), .val (.int p3), .val (.int p4), .val (.int (0 : Int32)), .val (.int c_403), .val (.int c_405), .val (.int c_407), .val (.int c_409), .val (.ref b411), .unset] [(.int (0 : Int32))]) (fun _ k => XS.iload X433.here hx rfl (hb hby at_192) rfl k) ?_
    refine WinW.to T433 (mkF m 195 #[.val (.int p0), .val (.int p1), .val (.int p2), .val (.int p3), .val (.int p4), .val (.int (0 : Int32)), .val (.int c_403), .val (.int c_405), .val (.int c_407), .val (.int c_409), .val (.ref b411), .unset] [(.int (2 : Int32)), (.int (0 : Int32))]) (fun _ k => XS.iconst X433.here hx rfl (hb hby at_194) k) ?_
    refine WinW.to T433 (mkF m 206 #[.val (.int p0), .val (.int p1), .val (.int p2), .val (.int p3), .val (.int p4), .val (.int (0 : Int32)), .val (.int c_403), .val (.int c_405), .val (.int c_407), .val (.int c_409), .val (.ref b411), .unset] []) (fun _ k => XS.icmpYes X433.here hx rfl (pc0 := 195) (pc' := 206) rfl (hb hby at_195) rfl (tlt (show (0 : Int32) < (2 : Int32) from by decide)).1 (by decide) (by decide) k) ?_
    refine WinW.to T433 (mkF m 208 #[.val (.int p0), .val (.int p1), .val (.int p2), .val (.int p3), .val (.int p4), .val (.int (0 : Int32)), .val (.int c_403), .val (.int c_405), .val (.int c_407), .val (.int c_409), .val (.ref b411), .unset] [(.int (0 : Int32))]) (fun _ k => XS.iload X433.here hx rfl (hb hby at_206) rfl k) ?_
    refine WinW.to T433 (mkF m 209 #[.val (.int p0), .val (.int p1), .val (.int p2), .val (.int p3), .val (.int p4), .val (.int (0 : Int32)), .val (.int c_403), .val (.int c_405), .val (.int c_407), .val (.int c_409), .val (.ref b411), .unset] [(.int (3 : Int32)), (.int (0 : Int32))]) (fun _ k => XS.iconst X433.here hx rfl (hb hby at_208) k) ?_
    refine WinW.to T433 (mkF m 220 #[.val (.int p0), .val (.int p1), .val (.int p2), .val (.int p3), .val (.int p4), .val (.int (0 : Int32)), .val (.int c_403), .val (.int c_405), .val (.int c_407), .val (.int c_409), .val (.ref b411), .unset] []) (fun _ k => XS.icmpYes X433.here hx rfl (pc0 := 209) (pc' := 220) rfl (hb hby at_209) rfl (tlt (show (0 : Int32) < (3 : Int32) from by decide)).1 (by decide) (by decide) k) ?_
    refine WinW.to T433 (mkF m 222 #[.val (.int p0), .val (.int p1), .val (.int p2), .val (.int p3), .val (.int p4), .val (.int (0 : Int32)), .val (.int c_403), .val (.int c_405), .val (.int c_407), .val (.int c_409), .val (.ref b411), .unset] [(.int (0 : Int32))]) (fun _ k => XS.iload X433.here hx rfl (hb hby at_220) rfl k) ?_
    refine WinW.to T433 (mkF m 223 #[.val (.int p0), .val (.int p1), .val (.int p2), .val (.int p3), .val (.int p4), .val (.int (0 : Int32)), .val (.int c_403), .val (.int c_405), .val (.int c_407), .val (.int c_409), .val (.ref b411), .unset] [(.int (4 : Int32)), (.int (0 : Int32))]) (fun _ k => XS.iconst X433.here hx rfl (hb hby at_222) k) ?_
    refine WinW.to T433 (mkF m 234 #[.val (.int p0), .val (.int p1), .val (.int p2), .val (.int p3), .val (.int p4), .val (.int (0 : Int32)), .val (.int c_403), .val (.int c_405), .val (.int c_407), .val (.int c_409), .val (.ref b411), .unset] []) (fun _ k => XS.icmpYes X433.here hx rfl (pc0 := 223) (pc' := 234) rfl (hb hby at_223) rfl (tlt (show (0 : Int32) < (4 : Int32) from by decide)).1 (by decide) (by decide) k) ?_
    refine WinW.to T433 (mkF m 235 #[.val (.int p0), .val (.int p1), .val (.int p2), .val (.int p3), .val (.int p4), .val (.int (0 : Int32)), .val (.int c_403), .val (.int c_405), .val (.int c_407), .val (.int c_409), .val (.ref b411), .unset] [(.int (1 : Int32))]) (fun _ k => XS.iconst X433.here hx rfl (hb hby at_234) k) ?_
    refine WinW.to T433 (mkF m 239 #[.val (.int p0), .val (.int p1), .val (.int p2), .val (.int p3), .val (.int p4), .val (.int (0 : Int32)), .val (.int c_403), .val (.int c_405), .val (.int c_407), .val (.int c_409), .val (.ref b411), .unset] [(.int (1 : Int32))]) (fun _ k => XS.goto X433.here hx rfl (pc0 := 235) (pc' := 239) rfl (hb hby at_235) (by decide) (by decide) k) ?_
    refine WinW.to T433 (mkF m 241 #[.val (.int p0), .val (.int p1), .val (.int p2), .val (.int p3), .val (.int p4), .val (.int (0 : Int32)), .val (.int c_403), .val (.int c_405), .val (.int c_407), .val (.int c_409), .val (.ref b411), .val (.int (1 : Int32))] []) (fun _ k => XS.istore X433.here hx rfl (hb hby at_239) rfl (l' := #[.val (.int p0), .val (.int p1), .val (.int p2), .val (.int p3), .val (.int p4), .val (.int (0 : Int32)), .val (.int c_403), .val (.int c_405), .val (.int c_407), .val (.int c_409), .val (.ref b411), .val (.int (1 : Int32))]) rfl k) ?_
    refine WinW.to T433 (mkF m 243 #[.val (.int p0), .val (.int p1), .val (.int p2), .val (.int p3), .val (.int p4), .val (.int (0 : Int32)), .val (.int c_403), .val (.int c_405), .val (.int c_407), .val (.int c_409), .val (.ref b411), .val (.int (1 : Int32))] [(.ref b411)]) (fun _ k => XS.aload X433.here hx rfl (hb hby at_241) rfl rfl k) ?_
    have F439 : ArF Z h433 b420 k420 .char 0 (fun i => ([] : List Int32).getD i (0 : Int32)) := (F429.keep r433_0 (ninS (Ne.symm ne421) nin0))
    have F440 : Exa Z h433 b411 "java/lang/String" := (F430.keep r433_0)
    obtain ⟨T441, h441, v441, L441, X441, e441, ⟨rfl, N441q, r441_0⟩, st441⟩ := N.static X433 hx hZ433 (y := (⟨"com/example/stylewright/stylewright/xdm/TreeBuilder", "isWhitespace", "(Ljava/lang/CharSequence;)Z"⟩ : MethodName)) hown433 (wk hw 27 rfl) (wk hw 28 rfl) (wk hw 29 rfl) (wk hw 30 rfl) (by decide) (isWs0 l Z a0 hw b411 t_433 kb_433 0 (fun i => ((fun i => ([] : List Int32).getD i (0 : Int32)) i).toInt8.toInt32) (fun i => ([] : List Int32).getD i (0 : Int32)) (1 : Int32) cs x1 h433 n0 O435 F440 r433_1 r433_2 r433_3 (fun i hi => own_b255 ((fun i hi => absurd hi (Nat.not_lt_zero _)) i hi) (own_nc16 (own_fr F439 i hi).1 (own_fr F439 i hi).2)) (fun _ => rfl) (fun q => absurd (fun i hi => absurd hi (Nat.not_lt_zero _)) q) S_CS hcs S_SI hx1) e433 (g := (mkF m 243 #[.val (.int p0), .val (.int p1), .val (.int p2), .val (.int p3), .val (.int p4), .val (.int (0 : Int32)), .val (.int c_403), .val (.int c_405), .val (.int c_407), .val (.int c_409), .val (.ref b411), .val (.int (1 : Int32))] [(.ref b411)])) rfl (by rw [hml]; rfl) (argsL := [(.ref b411)]) (rest := []) rfl (lenOf pd__Ljava_lang_CharSequence__Z rfl) rfl (W := 0) (by show 2 * 0 + _ ≤ _; exact Nat.le_of_eq rfl) (hb hby at_243) (by decide) (by decide) (by decide) (by decide)
    have N442 := Fr.app N434 N441q
    have e441 := e441.trans r441_0
    refine WinW.to T441 (mkF m 246 #[.val (.int p0), .val (.int p1), .val (.int p2), .val (.int p3), .val (.int p4), .val (.int (0 : Int32)), .val (.int c_403), .val (.int c_405), .val (.int c_407), .val (.int c_409), .val (.ref b411), .val (.int (1 : Int32))] [(.int (1 : Int32))]) (fun _ k => st441 _ k) ?_
    refine WinW.to T441 (mkF m 248 #[.val (.int p0), .val (.int p1), .val (.int p2), .val (.int p3), .val (.int p4), .val (.int (0 : Int32)), .val (.int c_403), .val (.int c_405), .val (.int c_407), .val (.int c_409), .val (.ref b411), .val (.int (1 : Int32))] [(.int (1 : Int32)), (.int (1 : Int32))]) (fun _ k => XS.iload X441.here hx rfl (hb hby at_246) rfl k) ?_
    refine WinW.to T441 (mkF m 251 #[.val (.int p0), .val (.int p1), .val (.int p2), .val (.int p3), .val (.int p4), .val (.int (0 : Int32)), .val (.int c_403), .val (.int c_405), .val (.int c_407), .val (.int c_409), .val (.ref b411), .val (.int (1 : Int32))] []) (fun _ k => XS.icmpNo X441.here hx rfl (hb hby at_248) rfl (teq (show (1 : Int32) = (1 : Int32) from by decide)).2 k) ?_
    refine WinW.to T441 (mkF m 252 #[.val (.int p0), .val (.int p1), .val (.int p2), .val (.int p3), .val (.int p4), .val (.int (0 : Int32)), .val (.int c_403), .val (.int c_405), .val (.int c_407), .val (.int c_409), .val (.ref b411), .val (.int (1 : Int32))] [(.int (1 : Int32))]) (fun _ k => XS.iconst X441.here hx rfl (hb hby at_251) k) ?_
    refine WinW.to T441 (mkF m 256 #[.val (.int p0), .val (.int p1), .val (.int p2), .val (.int p3), .val (.int p4), .val (.int (0 : Int32)), .val (.int c_403), .val (.int c_405), .val (.int c_407), .val (.int c_409), .val (.ref b411), .val (.int (1 : Int32))] [(.int (1 : Int32))]) (fun _ k => XS.goto X441.here hx rfl (pc0 := 252) (pc' := 256) rfl (hb hby at_252) (by decide) (by decide) k) ?_
    exact WinW.retN X441 hS433 (by rw [e441]; exact hk433) hx hlk (t := .boolean) hret (by simp) rfl (hb hby at_256) hZ433 (own_EW hw) (by rw [e441]; exact C438) (by decide) (by decide) (by (try rw [e441]); exact ⟨rfl, N442, trivial⟩)
  · rw [hk]
    refine WinW.to T409 (mkF m 35 #[.val (.int p0), .val (.int p1), .val (.int p2), .val (.int p3), .val (.int p4), .val (.int (1 : Int32)), .val (.int c_403), .val (.int c_405), .val (.int c_407), .val (.int c_409), .unset, .unset] [(.int (1 : Int32))]) (fun _ k => XS.iload X409.here hx rfl (hb hby at_33) rfl k) ?_
    refine WinW.to T409 (mkF m 53 #[.val (.int p0), .val (.int p1), .val (.int p2), .val (.int p3), .val (.int p4), .val (.int (1 : Int32)), .val (.int c_403), .val (.int c_405), .val (.int c_407), .val (.int c_409), .unset, .unset] []) (fun _ k => XS.ifYes X409.here hx rfl (pc0 := 35) (pc' := 53) rfl (hb hby at_35) rfl ((if0 _ _).trans (feq (show ¬ ((1 : Int32) = (0 : Int32)) from by decide)).2) (by decide) (by decide) k) ?_
    refine WinW.to T409 (mkF m 55 #[.val (.int p0), .val (.int p1), .val (.int p2), .val (.int p3), .val (.int p4), .val (.int (1 : Int32)), .val (.int c_403), .val (.int c_405), .val (.int c_407), .val (.int c_409), .unset, .unset] [(.int (1 : Int32))]) (fun _ k => XS.iload X409.here hx rfl (hb hby at_53) rfl k) ?_
    refine WinW.to T409 (mkF m 56 #[.val (.int p0), .val (.int p1), .val (.int p2), .val (.int p3), .val (.int p4), .val (.int (1 : Int32)), .val (.int c_403), .val (.int c_405), .val (.int c_407), .val (.int c_409), .unset, .unset] [(.int (1 : Int32)), (.int (1 : Int32))]) (fun _ k => XS.iconst X409.here hx rfl (hb hby at_55) k) ?_
    refine WinW.to T409 (mkF m 59 #[.val (.int p0), .val (.int p1), .val (.int p2), .val (.int p3), .val (.int p4), .val (.int (1 : Int32)), .val (.int c_403), .val (.int c_405), .val (.int c_407), .val (.int c_409), .unset, .unset] []) (fun _ k => XS.icmpNo X409.here hx rfl (hb hby at_56) rfl (teq (show (1 : Int32) = (1 : Int32) from by decide)).2 k) ?_
    obtain ⟨T443, h443, X443, e443, E443, A443, D443, -, st443⟩ := newO X409 hx hZ hown (wk hw 5 rfl) (wk hw 6 rfl) (wk hw 7 rfl) e409 (g := (mkF m 59 #[.val (.int p0), .val (.int p1), .val (.int p2), .val (.int p3), .val (.int p4), .val (.int (1 : Int32)), .val (.int c_403), .val (.int c_405), .val (.int c_407), .val (.int c_409), .unset, .unset] [])) rfl (hb hby at_59) (by decide) (by decide)
    obtain ⟨b443, g443⟩ : ∃ z, z = h0.size := ⟨_, rfl⟩
    rw [← g443] at A443 D443 st443
    have g444 : n0 ≤ b443 := Nat.le_trans (own_le O0) (Nat.le_of_eq g443.symm)
    have z445 : h0.size ≤ b443 := (Nat.le_of_eq g443.symm)
    have O446 := Old.ext O0 E443
    have K447 : Keep h0 h443 [] := (Keep.refl h0 []).ext E443
    have c448 := CHr.ext E443 C0.1
    have C449 := CHr.trans C0 c448
    have F450 : Fld Z h443 b443 "java/lang/String" "value" "[B" .null := D443 (Or.inr (wk hw 21 rfl)) (ty := (.array .byte)) (by decide)
    have F451 : Fld Z h443 b443 "java/lang/String" "coder" "B" (.int (0 : Int32)) := D443 (Or.inr (wk hw 22 rfl)) (ty := .byte) (by decide)
    refine WinW.to T443 (mkF m 62 #[.val (.int p0), .val (.int p1), .val (.int p2), .val (.int p3), .val (.int p4), .val (.int (1 : Int32)), .val (.int c_403), .val (.int c_405), .val (.int c_407), .val (.int c_409), .unset, .unset] [(.ref b443)]) (fun _ k => st443 _ k) ?_
    refine WinW.to T443 (mkF m 63 #[.val (.int p0), .val (.int p1), .val (.int p2), .val (.int p3), .val (.int p4), .val (.int (1 : Int32)), .val (.int c_403), .val (.int c_405), .val (.int c_407), .val (.int c_409), .unset, .unset] [(.ref b443), (.ref b443)]) (fun _ k => XS.dup X443.here hx rfl (hb hby at_62) rfl rfl k) ?_
    refine WinW.to T443 (mkF m 64 #[.val (.int p0), .val (.int p1), .val (.int p2), .val (.int p3), .val (.int p4), .val (.int (1 : Int32)), .val (.int c_403), .val (.int c_405), .val (.int c_407), .val (.int c_409), .unset, .unset] [(.int (1 : Int32)), (.ref b443), (.ref b443)]) (fun _ k => XS.iconst X443.here hx rfl (hb hby at_63) k) ?_
    obtain ⟨T452, h452, k452, X452, e452, E452, A452, st452⟩ := newP X443 hx hZ (wk hw 8 rfl) e443 (g := (mkF m 64 #[.val (.int p0), .val (.int p1), .val (.int p2), .val (.int p3), .val (.int p4), .val (.int (1 : Int32)), .val (.int c_403), .val (.int c_405), .val (.int c_407), .val (.int c_409), .unset, .unset] [(.int (1 : Int32)), (.ref b443), (.ref b443)])) rfl (hb hby at_64) rfl (by decide) (cap := 1) (by decide) (by decide) (by decide) (by decide)
    obtain ⟨b452, g452⟩ : ∃ z, z = h443.size := ⟨_, rfl⟩
    rw [← g452] at A452 st452
    have ne453 : b443 ≠ b452 := Nat.ne_of_lt (Nat.lt_of_lt_of_le A443.lt (Nat.le_of_eq g452.symm))
    have g454 : n0 ≤ b452 := Nat.le_trans (own_le O446) (Nat.le_of_eq g452.symm)
    have z455 : h0.size ≤ b452 := Nat.le_trans K447.1 (Nat.le_of_eq g452.symm)
    have O456 := Old.ext O446 E452
    have K457 : Keep h0 h452 [] := K447.ext E452
    have c458 := CHr.ext E452 C449.1
    have C459 := CHr.trans C449 c458
    have F460 : Arv Z h452 b452 k452 .char (1 : Int32) [(.int (0 : Int32))] (.int (0 : Int32)) := (Arv.new A452 (by decide)).pad (pad_rep [] (.int (0 : Int32)) 1)
    refine WinW.to T452 (mkF m 66 #[.val (.int p0), .val (.int p1), .val (.int p2), .val (.int p3), .val (.int p4), .val (.int (1 : Int32)), .val (.int c_403), .val (.int c_405), .val (.int c_407), .val (.int c_409), .unset, .unset] [(.ref b452), (.ref b443), (.ref b443)]) (fun _ k => st452 _ k) ?_
    refine WinW.to T452 (mkF m 67 #[.val (.int p0), .val (.int p1), .val (.int p2), .val (.int p3), .val (.int p4), .val (.int (1 : Int32)), .val (.int c_403), .val (.int c_405), .val (.int c_407), .val (.int c_409), .unset, .unset] [(.ref b452), (.ref b452), (.ref b443), (.ref b443)]) (fun _ k => XS.dup X452.here hx rfl (hb hby at_66) rfl rfl k) ?_
    refine WinW.to T452 (mkF m 68 #[.val (.int p0), .val (.int p1), .val (.int p2), .val (.int p3), .val (.int p4), .val (.int (1 : Int32)), .val (.int c_403), .val (.int c_405), .val (.int c_407), .val (.int c_409), .unset, .unset] [(.int (0 : Int32)), (.ref b452), (.ref b452), (.ref b443), (.ref b443)]) (fun _ k => XS.iconst X452.here hx rfl (hb hby at_67) k) ?_
    refine WinW.to T452 (mkF m 70 #[.val (.int p0), .val (.int p1), .val (.int p2), .val (.int p3), .val (.int p4), .val (.int (1 : Int32)), .val (.int c_403), .val (.int c_405), .val (.int c_407), .val (.int c_409), .unset, .unset] [(.int c_403), (.int (0 : Int32)), (.ref b452), (.ref b452), (.ref b443), (.ref b443)]) (fun _ k => XS.iload X452.here hx rfl (hb hby at_68) rfl k) ?_
    obtain ⟨cl461, Ar461, q461, S461, N461, H461, G461⟩ := id F460
    have hi461 : ¬ ((0 : Int32) < 0 ∨ cl461.slots.size ≤ ((0 : Int32)).toNatClampNeg) := inb_of S461 ⟨by decide, by decide⟩
    obtain ⟨T462, h462, X462, e462, W462, st462⟩ := stC X452 hx hZ e452 Ar461 (j := (0 : Int32)) hi461 (g := (mkF m 70 #[.val (.int p0), .val (.int p1), .val (.int p2), .val (.int p3), .val (.int p4), .val (.int (1 : Int32)), .val (.int c_403), .val (.int c_405), .val (.int c_407), .val (.int c_409), .unset, .unset] [(.int c_403), (.int (0 : Int32)), (.ref b452), (.ref b452), (.ref b443), (.ref b443)])) rfl rfl (hb hby at_70)
    have O464 := Old.wr O456 W462 g454
    have K465 : Keep h0 h462 [] := K457.wr W462 (Or.inr z455)
    have N466 := Fr.snoc X462 N410 g454
    have c467 := CHr.wr W462 (Safe.arv hZ.alike F460 (by decide)) C459.1
    have C468 := CHr.trans C459 c467
    have eq462 : nar .char c_403 = c_403 := r403_1
    have W462 := eq462 ▸ W462
    have F463 : Arv Z h462 b452 k452 .char (1 : Int32) [(.int c_403)] (.int (0 : Int32)) := Arv.set Ar461 q461 S461 N461 H461 G461 (eq462 ▸ (fits_nar_char _)) W462 0 rfl (Nat.le_of_ble_eq_true rfl)
    refine WinW.to T462 (mkF m 71 #[.val (.int p0), .val (.int p1), .val (.int p2), .val (.int p3), .val (.int p4), .val (.int (1 : Int32)), .val (.int c_403), .val (.int c_405), .val (.int c_407), .val (.int c_409), .unset, .unset] [(.ref b452), (.ref b443), (.ref b443)]) (fun _ k => st462 _ k) ?_
    have F469 : ArF Z h462 b452 k452 .char 1 (fun i => ([c_403] : List Int32).getD i (0 : Int32)) := own_arf [c_403] F463 rfl
    by_cases hl : ∀ i, i < 1 → ¬ (255 : Int32) < ((fun i => ([c_403] : List Int32).getD i (0 : Int32)) : Nat → Int32) i
    · have F470 : Exa Z h462 b443 "java/lang/String" := (Exa.wr W462 (Exa.ext E452 A443))
      have F471 : Fld Z h462 b443 "java/lang/String" "value" "[B" .null := (Fld.other W462 (Fld.ext E452 F450) (Or.inl ne453))
      have F472 : Fld Z h462 b443 "java/lang/String" "coder" "B" (.int (0 : Int32)) := (Fld.other W462 (Fld.ext E452 F451) (Or.inl ne453))
      obtain ⟨T473, h473, v473, L473, k473, X473, e473, hS473, hk473, hZ473, hown473, ⟨t_473, kb_473, rfl, N473q, r473_0, r473_1, r473_2, r473_3⟩, c473, st473⟩ := W.special X462 hS0 (Nat.zero_le _) hx hZ (y := (⟨"java/lang/String", "<init>", "([C)V"⟩ : MethodName)) rfl hown (wk hw 9 rfl) (wk hw 10 rfl) (wk hw 7 rfl) (wk hw 11 rfl) (by decide) (ctor1 l Z a0 hw b443 b452 k452 1 (fun i => ([c_403] : List Int32).getD i (0 : Int32)) cs h462 n0 O464 F470 F471 F472 F469 hl (by decide) g444 S_CS hcs) (own_EW hw) C468.1 e462 (g := (mkF m 71 #[.val (.int p0), .val (.int p1), .val (.int p2), .val (.int p3), .val (.int p4), .val (.int (1 : Int32)), .val (.int c_403), .val (.int c_405), .val (.int c_407), .val (.int c_409), .unset, .unset] [(.ref b452), (.ref b443), (.ref b443)])) rfl (by rw [hml]; rfl) (a := b443) (argsL := [(.ref b452)]) (rest := [(.ref b443)]) rfl (lenOf pd___C_V rfl) rfl (W := 1) (by show 2 * 0 + _ ≤ _; exact Nat.le_of_eq rfl) (hb hby at_71) (by decide) (by decide) (by decide) (by decide)
      have N474 := Fr.app N466 N473q
      have O475 := Old.keep O464 r473_0 (allS g444 all0)
      have K476 : Keep h0 h473 [] := Keep.trans K465 r473_0 (allS (Or.inr z445) all0)
      have c477 := c473
      have C478 := CHr.trans C468 c477
      refine WinW.to T473 (mkF m 74 #[.val (.int p0), .val (.int p1), .val (.int p2), .val (.int p3), .val (.int p4), .val (.int (1 : Int32)), .val (.int c_403), .val (.int c_405), .val (.int c_407), .val (.int c_409), .unset, .unset] [(.ref b443)]) (fun _ k => st473 _ k) ?_
      refine WinW.to T473 (mkF m 76 #[.val (.int p0), .val (.int p1), .val (.int p2), .val (.int p3), .val (.int p4), .val (.int (1 : Int32)), .val (.int c_403), .val (.int c_405), .val (.int c_407), .val (.int c_409), .val (.ref b443), .unset] []) (fun _ k => XS.astore X473.here hx rfl (hb hby at_74) rfl rfl (l' := #[.val (.int p0), .val (.int p1), .val (.int p2), .val (.int p3), .val (.int p4), .val (.int (1 : Int32)), .val (.int c_403), .val (.int c_405), .val (.int c_407), .val (.int c_409), .val (.ref b443), .unset]) rfl k) ?_
      refine WinW.to T473 (mkF m 178 #[.val (.int p0), .val (.int p1), .val (.int p2), .val (.int p3), .val (.int p4), .val (.int (1 : Int32)), .val (.int c_403), .val (.int c_405), .val (.int c_407), .val (.int c_409), .val (.ref b443), .unset] []) (fun _ k => XS.goto X473.here hx rfl (pc0 := 76) (pc' := 178) rfl (hb hby at_76) (by decide) (by decide) k) ?_
      refine WinW.to T473 (mkF m 180 #[.val (.int p0), .val (.int p1), .val (.int p2), .val (.int p3), .val (.int p4), .val (.int (1 : Int32)), .val (.int c_403), .val (.int c_405), .val (.int c_407), .val (.int c_409), .val (.ref b443), .unset] [(.int (1 : Int32))]) (fun _ k => XS.iload X473.here hx rfl (hb hby at_178) rfl k) ?_
      refine WinW.to T473 (mkF m 181 #[.val (.int p0), .val (.int p1), .val (.int p2), .val (.int p3), .val (.int p4), .val (.int (1 : Int32)), .val (.int c_403), .val (.int c_405), .val (.int c_407), .val (.int c_409), .val (.ref b443), .unset] [(.int (1 : Int32)), (.int (1 : Int32))]) (fun _ k => XS.iconst X473.here hx rfl (hb hby at_180) k) ?_
      refine WinW.to T473 (mkF m 184 #[.val (.int p0), .val (.int p1), .val (.int p2), .val (.int p3), .val (.int p4), .val (.int (1 : Int32)), .val (.int c_403), .val (.int c_405), .val (.int c_407), .val (.int c_409), .val (.ref b443), .unset] []) (fun _ k => XS.icmpNo X473.here hx rfl (hb hby at_181) rfl (flt (show ¬ ((1 : Int32) < (1 : Int32)) from by decide)).1 k) ?_
      refine WinW.to T473 (mkF m 186 #[.val (.int p0), .val (.int p1), .val (.int p2), .val (.int p3), .val (.int p4), .val (.int (1 : Int32)), .val (.int c_403), .val (.int c_405), .val (.int c_407), .val (.int c_409), .val (.ref b443), .unset] [(.int c_403)]) (fun _ k => XS.iload X473.here hx rfl (hb hby at_184) rfl k) ?_
      by_cases hws479 : wsp c_403
      · obtain ⟨T480, h480, v480, L480, X480, e480, ⟨rfl, N480q, r480_0⟩, st480⟩ := N.static X473 hx hZ473 (y := (⟨"com/example/stylewright/stylewright/xdm/TreeBuilderIsWhitespacePinLaw", "ws", "(C)Z"⟩ : MethodName)) hown473 (wk hw 56 rfl) (wk hw 57 rfl) (wk hw 3 rfl) (wk hw 58 rfl) (by decide) (ws1 l Z a0 hw c_403 h473 n0 O475 hws479) e473 (g := (mkF m 186 #[.val (.int p0), .val (.int p1), .val (.int p2), .val (.int p3), .val (.int p4), .val (.int (1 : Int32)), .val (.int c_403), .val (.int c_405), .val (.int c_407), .val (.int c_409), .val (.ref b443), .unset] [(.int c_403)])) rfl (by rw [hml]; rfl) (argsL := [(.int c_403)]) (rest := []) rfl (lenOf pd__C_Z rfl) rfl (W := 0) (by show 2 * 0 + _ ≤ _; exact Nat.le_of_eq rfl) (hb hby at_186) (by decide) (by decide) (by decide) (by decide)
        have N481 := Fr.app N474 N480q
        have e480 := e480.trans r480_0
        refine WinW.to T480 (mkF m 189 #[.val (.int p0), .val (.int p1), .val (.int p2), .val (.int p3), .val (.int p4), .val (.int (1 : Int32)), .val (.int c_403), .val (.int c_405), .val (.int c_407), .val (.int c_409), .val (.ref b443), .unset] [(.int (1 : Int32))]) (fun _ k => st480 _ k) ?_
        refine WinW.to T480 (mkF m 192 #[.val (.int p0), .val (.int p1), .val (.int p2), .val (.int p3), .val (.int p4), .val (.int (1 : Int32)), .val (.int c_403), .val (.int c_405), .val (.int c_407), .val (.int c_409), .val (.ref b443), .unset] []) (fun _ k => XS.ifNo X480.here hx rfl (hb hby at_189) rfl ((if0 _ _).trans (feq (show ¬ ((1 : Int32) = (0 : Int32)) from by decide)).1) k) ?_
        refine WinW.to T480 (mkF m 194 #[.val (.int p0), .val (.int p1), .val (.int p2), .val (.int p3), .val (.int p4), .val (.int (1 : Int32)), .val (.int c_403), .val (.int c_405), .val (.int c_407), .val (.int c_409), .val (.ref b443), .unset] [(.int (1 : Int32))]) (fun _ k => XS.iload X480.here hx rfl (hb hby at_192) rfl k) ?_
        refine WinW.to T480 (mkF m 195 #[.val (.int p0), .val (.int p1), .val (.int p2), .val (.int p3), .val (.int p4), .val (.int (1 : Int32)), .val (.int c_403), .val (.int c_405), .val (.int c_407), .val (.int c_409), .val (.ref b443), .unset] [(.int (2 : Int32)), (.int (1 : Int32))]) (fun _ k => XS.iconst X480.here hx rfl (hb hby at_194) k) ?_
        refine WinW.to T480 (mkF m 206 #[.val (.int p0), .val (.int p1), .val (.int p2), .val (.int p3), .val (.int p4), .val (.int (1 : Int32)), .val (.int c_403), .val (.int c_405), .val (.int c_407), .val (.int c_409), .val (.ref b443), .unset] []) (fun _ k => XS.icmpYes X480.here hx rfl (pc0 := 195) (pc' := 206) rfl (hb hby at_195) rfl (tlt (show (1 : Int32) < (2 : Int32) from by decide)).1 (by decide) (by decide) k) ?_
        refine WinW.to T480 (mkF m 208 #[.val (.int p0), .val (.int p1), .val (.int p2), .val (.int p3), .val (.int p4), .val (.int (1 : Int32)), .val (.int c_403), .val (.int c_405), .val (.int c_407), .val (.int c_409), .val (.ref b443), .unset] [(.int (1 : Int32))]) (fun _ k => XS.iload X480.here hx rfl (hb hby at_206) rfl k) ?_
        refine WinW.to T480 (mkF m 209 #[.val (.int p0), .val (.int p1), .val (.int p2), .val (.int p3), .val (.int p4), .val (.int (1 : Int32)), .val (.int c_403), .val (.int c_405), .val (.int c_407), .val (.int c_409), .val (.ref b443), .unset] [(.int (3 : Int32)), (.int (1 : Int32))]) (fun _ k => XS.iconst X480.here hx rfl (hb hby at_208) k) ?_
        refine WinW.to T480 (mkF m 220 #[.val (.int p0), .val (.int p1), .val (.int p2), .val (.int p3), .val (.int p4), .val (.int (1 : Int32)), .val (.int c_403), .val (.int c_405), .val (.int c_407), .val (.int c_409), .val (.ref b443), .unset] []) (fun _ k => XS.icmpYes X480.here hx rfl (pc0 := 209) (pc' := 220) rfl (hb hby at_209) rfl (tlt (show (1 : Int32) < (3 : Int32) from by decide)).1 (by decide) (by decide) k) ?_
        refine WinW.to T480 (mkF m 222 #[.val (.int p0), .val (.int p1), .val (.int p2), .val (.int p3), .val (.int p4), .val (.int (1 : Int32)), .val (.int c_403), .val (.int c_405), .val (.int c_407), .val (.int c_409), .val (.ref b443), .unset] [(.int (1 : Int32))]) (fun _ k => XS.iload X480.here hx rfl (hb hby at_220) rfl k) ?_
        refine WinW.to T480 (mkF m 223 #[.val (.int p0), .val (.int p1), .val (.int p2), .val (.int p3), .val (.int p4), .val (.int (1 : Int32)), .val (.int c_403), .val (.int c_405), .val (.int c_407), .val (.int c_409), .val (.ref b443), .unset] [(.int (4 : Int32)), (.int (1 : Int32))]) (fun _ k => XS.iconst X480.here hx rfl (hb hby at_222) k) ?_
        refine WinW.to T480 (mkF m 234 #[.val (.int p0), .val (.int p1), .val (.int p2), .val (.int p3), .val (.int p4), .val (.int (1 : Int32)), .val (.int c_403), .val (.int c_405), .val (.int c_407), .val (.int c_409), .val (.ref b443), .unset] []) (fun _ k => XS.icmpYes X480.here hx rfl (pc0 := 223) (pc' := 234) rfl (hb hby at_223) rfl (tlt (show (1 : Int32) < (4 : Int32) from by decide)).1 (by decide) (by decide) k) ?_
        refine WinW.to T480 (mkF m 235 #[.val (.int p0), .val (.int p1), .val (.int p2), .val (.int p3), .val (.int p4), .val (.int (1 : Int32)), .val (.int c_403), .val (.int c_405), .val (.int c_407), .val (.int c_409), .val (.ref b443), .unset] [(.int (1 : Int32))]) (fun _ k => XS.iconst X480.here hx rfl (hb hby at_234) k) ?_
        refine WinW.to T480 (mkF m 239 #[.val (.int p0), .val (.int p1), .val (.int p2), .val (.int p3), .val (.int p4), .val (.int (1 : Int32)), .val (.int c_403), .val (.int c_405), .val (.int c_407), .val (.int c_409), .val (.ref b443), .unset] [(.int (1 : Int32))]) (fun _ k => XS.goto X480.here hx rfl (pc0 := 235) (pc' := 239) rfl (hb hby at_235) (by decide) (by decide) k) ?_
        refine WinW.to T480 (mkF m 241 #[.val (.int p0), .val (.int p1), .val (.int p2), .val (.int p3), .val (.int p4), .val (.int (1 : Int32)), .val (.int c_403), .val (.int c_405), .val (.int c_407), .val (.int c_409), .val (.ref b443), .val (.int (1 : Int32))] []) (fun _ k => XS.istore X480.here hx rfl (hb hby at_239) rfl (l' := #[.val (.int p0), .val (.int p1), .val (.int p2), .val (.int p3), .val (.int p4), .val (.int (1 : Int32)), .val (.int c_403), .val (.int c_405), .val (.int c_407), .val (.int c_409), .val (.ref b443), .val (.int (1 : Int32))]) rfl k) ?_
        refine WinW.to T480 (mkF m 243 #[.val (.int p0), .val (.int p1), .val (.int p2), .val (.int p3), .val (.int p4), .val (.int (1 : Int32)), .val (.int c_403), .val (.int c_405), .val (.int c_407), .val (.int c_409), .val (.ref b443), .val (.int (1 : Int32))] [(.ref b443)]) (fun _ k => XS.aload X480.here hx rfl (hb hby at_241) rfl rfl k) ?_
        have F482 : ArF Z h473 b452 k452 .char 1 (fun i => ([c_403] : List Int32).getD i (0 : Int32)) := (F469.keep r473_0 (ninS (Ne.symm ne453) nin0))
        have F483 : Exa Z h473 b443 "java/lang/String" := (F470.keep r473_0)
        obtain ⟨T484, h484, v484, L484, X484, e484, ⟨rfl, N484q, r484_0⟩, st484⟩ := N.static X480 hx hZ473 (y := (⟨"com/example/stylewright/stylewright/xdm/TreeBuilder", "isWhitespace", "(Ljava/lang/CharSequence;)Z"⟩ : MethodName)) hown473 (wk hw 27 rfl) (wk hw 28 rfl) (wk hw 29 rfl) (wk hw 30 rfl) (by decide) (isWs0 l Z a0 hw b443 t_473 kb_473 1 (fun i => ((fun i => ([c_403] : List Int32).getD i (0 : Int32)) i).toInt8.toInt32) (fun i => ([c_403] : List Int32).getD i (0 : Int32)) (1 : Int32) cs x1 h473 n0 O475 F483 r473_1 r473_2 r473_3 (fun i hi => own_b255 (hl i hi) (own_nc16 (own_fr F482 i hi).1 (own_fr F482 i hi).2)) (fun _ => rfl) ((fun q => absurd (fun i hi => by
          match i, hi with
          | 0, _ => exact hws479) q)) S_CS hcs S_SI hx1) e480 (g := (mkF m 243 #[.val (.int p0), .val (.int p1), .val (.int p2), .val (.int p3), .val (.int p4), .val (.int (1 : Int32)), .val (.int c_403), .val (.int c_405), .val (.int c_407), .val (.int c_409), .val (.ref b443), .val (.int (1 : Int32))] [(.ref b443)])) rfl (by rw [hml]; rfl) (argsL := [(.ref b443)]) (rest := []) rfl (lenOf pd__Ljava_lang_CharSequence__Z rfl) rfl (W := 0) (by show 2 * 0 + _ ≤ _; exact Nat.le_of_eq rfl) (hb hby at_243) (by decide) (by decide) (by decide) (by decide)
        have N485 := Fr.app N481 N484q
        have e484 := e484.trans r484_0
        refine WinW.to T484 (mkF m 246 #[.val (.int p0), .val (.int p1), .val (.int p2), .val (.int p3), .val (.int p4), .val (.int (1 : Int32)), .val (.int c_403), .val (.int c_405), .val (.int c_407), .val (.int c_409), .val (.ref b443), .val (.int (1 : Int32))] [(.int (1 : Int32))]) (fun _ k => st484 _ k) ?_
        refine WinW.to T484 (mkF m 248 #[.val (.int p0), .val (.int p1), .val (.int p2), .val (.int p3), .val (.int p4), .val (.int (1 : Int32)), .val (.int c_403), .val (.int c_405), .val (.int c_407), .val (.int c_409), .val (.ref b443), .val (.int (1 : Int32))] [(.int (1 : Int32)), (.int (1 : Int32))]) (fun _ k => XS.iload X484.here hx rfl (hb hby at_246) rfl k) ?_
        refine WinW.to T484 (mkF m 251 #[.val (.int p0), .val (.int p1), .val (.int p2), .val (.int p3), .val (.int p4), .val (.int (1 : Int32)), .val (.int c_403), .val (.int c_405), .val (.int c_407), .val (.int c_409), .val (.ref b443), .val (.int (1 : Int32))] []) (fun _ k => XS.icmpNo X484.here hx rfl (hb hby at_248) rfl (teq (show (1 : Int32) = (1 : Int32) from by decide)).2 k) ?_
        refine WinW.to T484 (mkF m 252 #[.val (.int p0), .val (.int p1), .val (.int p2), .val (.int p3), .val (.int p4), .val (.int (1 : Int32)), .val (.int c_403), .val (.int c_405), .val (.int c_407), .val (.int c_409), .val (.ref b443), .val (.int (1 : Int32))] [(.int (1 : Int32))]) (fun _ k => XS.iconst X484.here hx rfl (hb hby at_251) k) ?_
        refine WinW.to T484 (mkF m 256 #[.val (.int p0), .val (.int p1), .val (.int p2), .val (.int p3), .val (.int p4), .val (.int (1 : Int32)), .val (.int c_403), .val (.int c_405), .val (.int c_407), .val (.int c_409), .val (.ref b443), .val (.int (1 : Int32))] [(.int (1 : Int32))]) (fun _ k => XS.goto X484.here hx rfl (pc0 := 252) (pc' := 256) rfl (hb hby at_252) (by decide) (by decide) k) ?_
        exact WinW.retN X484 hS473 (by rw [e484]; exact hk473) hx hlk (t := .boolean) hret (by simp) rfl (hb hby at_256) hZ473 (own_EW hw) (by rw [e484]; exact C478) (by decide) (by decide) (by (try rw [e484]); exact ⟨rfl, N485, trivial⟩)
      · obtain ⟨T486, h486, v486, L486, X486, e486, ⟨rfl, N486q, r486_0⟩, st486⟩ := N.static X473 hx hZ473 (y := (⟨"com/example/stylewright/stylewright/xdm/TreeBuilderIsWhitespacePinLaw", "ws", "(C)Z"⟩ : MethodName)) hown473 (wk hw 56 rfl) (wk hw 57 rfl) (wk hw 3 rfl) (wk hw 58 rfl) (by decide) (ws0 l Z a0 hw c_403 h473 n0 O475 hws479) e473 (g := (mkF m 186 #[.val (.int p0), .val (.int p1), .val (.int p2), .val (.int p3), .val (.int p4), .val (.int (1 : Int32)), .val (.int c_403), .val (.int c_405), .val (.int c_407), .val (.int c_409), .val (.ref b443), .unset] [(.int c_403)])) rfl (by rw [hml]; rfl) (argsL := [(.int c_403)]) (rest := []) rfl (lenOf pd__C_Z rfl) rfl (W := 0) (by show 2 * 0 + _ ≤ _; exact Nat.le_of_eq rfl) (hb hby at_186) (by decide) (by decide) (by decide) (by decide)
        have N487 := Fr.app N474 N486q
        have e486 := e486.trans r486_0
        refine WinW.to T486 (mkF m 189 #[.val (.int p0), .val (.int p1), .val (.int p2), .val (.int p3), .val (.int p4), .val (.int (1 : Int32)), .val (.int c_403), .val (.int c_405), .val (.int c_407), .val (.int c_409), .val (.ref b443), .unset] [(.int (0 : Int32))]) (fun _ k => st486 _ k) ?_
        refine WinW.to T486 (mkF m 238 #[.val (.int p0), .val (.int p1), .val (.int p2), .val (.int p3), .val (.int p4), .val (.int (1 : Int32)), .val (.int c_403), .val (.int c_405), .val (.int c_407), .val (.int c_409), .val (.ref b443), .unset] []) (fun _ k => XS.ifYes X486.here hx rfl (pc0 := 189) (pc' := 238) rfl (hb hby at_189) rfl ((if0 _ _).trans (teq (show (0 : Int32) = (0 : Int32) from by decide)).1) (by decide) (by decide) k) ?_
        refine WinW.to T486 (mkF m 239 #[.val (.int p0), .val (.int p1), .val (.int p2), .val (.int p3), .val (.int p4), .val (.int (1 : Int32)), .val (.int c_403), .val (.int c_405), .val (.int c_407), .val (.int c_409), .val (.ref b443), .unset] [(.int (0 : Int32))]) (fun _ k => XS.iconst X486.here hx rfl (hb hby at_238) k) ?_
        refine WinW.to T486 (mkF m 241 #[.val (.int p0), .val (.int p1), .val (.int p2), .val (.int p3), .val (.int p4), .val (.int (1 : Int32)), .val (.int c_403), .val (.int c_405), .val (.int c_407), .val (.int c_409), .val (.ref b443), .val (.int (0 : Int32))] []) (fun _ k => XS.istore X486.here hx rfl (hb hby at_239) rfl (l' := #[.val (.int p0), .val (.int p1), .val (.int p2), .val (.int p3), .val (.int p4), .val (.int (1 : Int32)), .val (.int c_403), .val (.int c_405), .val (.int c_407), .val (.int c_409), .val (.ref b443), .val (.int (0 : Int32))]) rfl k) ?_
        refine WinW.to T486 (mkF m 243 #[.val (.int p0), .val (.int p1), .val (.int p2), .val (.int p3), .val (.int p4), .val (.int (1 : Int32)), .val (.int c_403), .val (.int c_405), .val (.int c_407), .val (.int c_409), .val (.ref b443), .val (.int (0 : Int32))] [(.ref b443)]) (fun _ k => XS.aload X486.here hx rfl (hb hby at_241) rfl rfl k) ?_
        have F488 : ArF Z h473 b452 k452 .char 1 (fun i => ([c_403] : List Int32).getD i (0 : Int32)) := (F469.keep r473_0 (ninS (Ne.symm ne453) nin0))
        have F489 : Exa Z h473 b443 "java/lang/String" := (F470.keep r473_0)
        obtain ⟨T490, h490, v490, L490, X490, e490, ⟨rfl, N490q, r490_0⟩, st490⟩ := N.static X486 hx hZ473 (y := (⟨"com/example/stylewright/stylewright/xdm/TreeBuilder", "isWhitespace", "(Ljava/lang/CharSequence;)Z"⟩ : MethodName)) hown473 (wk hw 27 rfl) (wk hw 28 rfl) (wk hw 29 rfl) (wk hw 30 rfl) (by decide) (isWs0 l Z a0 hw b443 t_473 kb_473 1 (fun i => ((fun i => ([c_403] : List Int32).getD i (0 : Int32)) i).toInt8.toInt32) (fun i => ([c_403] : List Int32).getD i (0 : Int32)) (0 : Int32) cs x1 h473 n0 O475 F489 r473_1 r473_2 r473_3 (fun i hi => own_b255 (hl i hi) (own_nc16 (own_fr F488 i hi).1 (own_fr F488 i hi).2)) (fun q => absurd (q 0 (by decide)) hws479) (fun _ => rfl) S_CS hcs S_SI hx1) e486 (g := (mkF m 243 #[.val (.int p0), .val (.int p1), .val (.int p2), .val (.int p3), .val (.int p4), .val (.int (1 : Int32)), .val (.int c_403), .val (.int c_405), .val (.int c_407), .val (.int c_409), .val (.ref b443), .val (.int (0 : Int32))] [(.ref b443)])) rfl (by rw [hml]; rfl) (argsL := [(.ref b443)]) (rest := []) rfl (lenOf pd__Ljava_lang_CharSequence__Z rfl) rfl (W := 0) (by show 2 * 0 + _ ≤ _; exact Nat.le_of_eq rfl) (hb hby at_243) (by decide) (by decide) (by decide) (by decide)
        have N491 := Fr.app N487 N490q
        have e490 := e490.trans r490_0
        refine WinW.to T490 (mkF m 246 #[.val (.int p0), .val (.int p1), .val (.int p2), .val (.int p3), .val (.int p4), .val (.int (1 : Int32)), .val (.int c_403), .val (.int c_405), .val (.int c_407), .val (.int c_409), .val (.ref b443), .val (.int (0 : Int32))] [(.int (0 : Int32))]) (fun _ k => st490 _ k) ?_
        refine WinW.to T490 (mkF m 248 #[.val (.int p0), .val (.int p1), .val (.int p2), .val (.int p3), .val (.int p4), .val (.int (1 : Int32)), .val (.int c_403), .val (.int c_405), .val (.int c_407), .val (.int c_409), .val (.ref b443), .val (.int (0 : Int32))] [(.int (0 : Int32)), (.int (0 : Int32))]) (fun _ k => XS.iload X490.here hx rfl (hb hby at_246) rfl k) ?_
        refine WinW.to T490 (mkF m 251 #[.val (.int p0), .val (.int p1), .val (.int p2), .val (.int p3), .val (.int p4), .val (.int (1 : Int32)), .val (.int c_403), .val (.int c_405), .val (.int c_407), .val (.int c_409), .val (.ref b443), .val (.int (0 : Int32))] []) (fun _ k => XS.icmpNo X490.here hx rfl (hb hby at_248) rfl (teq (show (0 : Int32) = (0 : Int32) from by decide)).2 k) ?_
        refine WinW.to T490 (mkF m 252 #[.val (.int p0), .val (.int p1), .val (.int p2), .val (.int p3), .val (.int p4), .val (.int (1 : Int32)), .val (.int c_403), .val (.int c_405), .val (.int c_407), .val (.int c_409), .val (.ref b443), .val (.int (0 : Int32))] [(.int (1 : Int32))]) (fun _ k => XS.iconst X490.here hx rfl (hb hby at_251) k) ?_
        refine WinW.to T490 (mkF m 256 #[.val (.int p0), .val (.int p1), .val (.int p2), .val (.int p3), .val (.int p4), .val (.int (1 : Int32)), .val (.int c_403), .val (.int c_405), .val (.int c_407), .val (.int c_409), .val (.ref b443), .val (.int (0 : Int32))] [(.int (1 : Int32))]) (fun _ k => XS.goto X490.here hx rfl (pc0 := 252) (pc' := 256) rfl (hb hby at_252) (by decide) (by decide) k) ?_
        exact WinW.retN X490 hS473 (by rw [e490]; exact hk473) hx hlk (t := .boolean) hret (by simp) rfl (hb hby at_256) hZ473 (own_EW hw) (by rw [e490]; exact C478) (by decide) (by decide) (by (try rw [e490]); exact ⟨rfl, N491, trivial⟩)
    · have F492 : Exa Z h462 b443 "java/lang/String" := (Exa.wr W462 (Exa.ext E452 A443))
      have F493 : Fld Z h462 b443 "java/lang/String" "value" "[B" .null := (Fld.other W462 (Fld.ext E452 F450) (Or.inl ne453))
      have F494 : Fld Z h462 b443 "java/lang/String" "coder" "B" (.int (0 : Int32)) := (Fld.other W462 (Fld.ext E452 F451) (Or.inl ne453))
      have S496 : Safe Z EL1 (s.setVm s.vm).vm h462 b443 := own_safe hZ.alike F492 F493 (wk hw 6 rfl)
      obtain ⟨T495, h495, v495, L495, X495, e495, ⟨t_495, kb_495, rfl, N495q, r495_0, r495_1, r495_2, r495_3, r495_4⟩, st495⟩ := N.special X462 hx hZ (y := (⟨"java/lang/String", "<init>", "([C)V"⟩ : MethodName)) rfl hown (wk hw 9 rfl) (wk hw 10 rfl) (wk hw 7 rfl) (wk hw 11 rfl) (by decide) (ctor1u l Z a0 hw b443 b452 k452 1 (fun i => ([c_403] : List Int32).getD i (0 : Int32)) cs h462 n0 O464 F492 F493 F494 F469 (by decide) (Classical.byContradiction fun q => hl fun i hi hp => q ⟨i, hi, hp⟩) g444 S_AD S_HI S_LO S_CS hcs) e462 (g := (mkF m 71 #[.val (.int p0), .val (.int p1), .val (.int p2), .val (.int p3), .val (.int p4), .val (.int (1 : Int32)), .val (.int c_403), .val (.int c_405), .val (.int c_407), .val (.int c_409), .unset, .unset] [(.ref b452), (.ref b443), (.ref b443)])) rfl (by rw [hml]; rfl) (a := b443) (argsL := [(.ref b452)]) (rest := [(.ref b443)]) rfl (lenOf pd___C_V rfl) rfl (W := 1) (by show 2 * 0 + _ ≤ _; exact Nat.le_of_eq rfl) (hb hby at_71) (by decide) (by decide) (by decide) (by decide)
      have N497 := Fr.app N466 N495q
      have ne498 : b443 ≠ t_495 := Nat.ne_of_lt (Nat.lt_of_lt_of_le F492.lt r495_1)
      have ne499 : b452 ≠ t_495 := Nat.ne_of_lt (Nat.lt_of_lt_of_le F463.lt r495_1)
      have g500 : n0 ≤ t_495 := Nat.le_trans (own_le O464) r495_1
      have z501 : h0.size ≤ t_495 := Nat.le_trans K465.1 r495_1
      have O502 := Old.keep O464 r495_0 (allS g444 all0)
      have K503 : Keep h0 h495 [] := Keep.trans K465 r495_0 (allS (Or.inr z445) all0)
      have c504 := CHr.keep r495_0 (sfS S496 sf0) C468.1
      have C505 := CHr.trans C468 c504
      have S506 := CHr.safe c504 F492.lt S496
      refine WinW.to T495 (mkF m 74 #[.val (.int p0), .val (.int p1), .val (.int p2), .val (.int p3), .val (.int p4), .val (.int (1 : Int32)), .val (.int c_403), .val (.int c_405), .val (.int c_407), .val (.int c_409), .unset, .unset] [(.ref b443)]) (fun _ k => st495 _ k) ?_
      refine WinW.to T495 (mkF m 76 #[.val (.int p0), .val (.int p1), .val (.int p2), .val (.int p3), .val (.int p4), .val (.int (1 : Int32)), .val (.int c_403), .val (.int c_405), .val (.int c_407), .val (.int c_409), .val (.ref b443), .unset] []) (fun _ k => XS.astore X495.here hx rfl (hb hby at_74) rfl rfl (l' := #[.val (.int p0), .val (.int p1), .val (.int p2), .val (.int p3), .val (.int p4), .val (.int (1 : Int32)), .val (.int c_403), .val (.int c_405), .val (.int c_407), .val (.int c_409), .val (.ref b443), .unset]) rfl k) ?_
      refine WinW.to T495 (mkF m 178 #[.val (.int p0), .val (.int p1), .val (.int p2), .val (.int p3), .val (.int p4), .val (.int (1 : Int32)), .val (.int c_403), .val (.int c_405), .val (.int c_407), .val (.int c_409), .val (.ref b443), .unset] []) (fun _ k => XS.goto X495.here hx rfl (pc0 := 76) (pc' := 178) rfl (hb hby at_76) (by decide) (by decide) k) ?_
      refine WinW.to T495 (mkF m 180 #[.val (.int p0), .val (.int p1), .val (.int p2), .val (.int p3), .val (.int p4), .val (.int (1 : Int32)), .val (.int c_403), .val (.int c_405), .val (.int c_407), .val (.int c_409), .val (.ref b443), .unset] [(.int (1 : Int32))]) (fun _ k => XS.iload X495.here hx rfl (hb hby at_178) rfl k) ?_
      refine WinW.to T495 (mkF m 181 #[.val (.int p0), .val (.int p1), .val (.int p2), .val (.int p3), .val (.int p4), .val (.int (1 : Int32)), .val (.int c_403), .val (.int c_405), .val (.int c_407), .val (.int c_409), .val (.ref b443), .unset] [(.int (1 : Int32)), (.int (1 : Int32))]) (fun _ k => XS.iconst X495.here hx rfl (hb hby at_180) k) ?_
      refine WinW.to T495 (mkF m 184 #[.val (.int p0), .val (.int p1), .val (.int p2), .val (.int p3), .val (.int p4), .val (.int (1 : Int32)), .val (.int c_403), .val (.int c_405), .val (.int c_407), .val (.int c_409), .val (.ref b443), .unset] []) (fun _ k => XS.icmpNo X495.here hx rfl (hb hby at_181) rfl (flt (show ¬ ((1 : Int32) < (1 : Int32)) from by decide)).1 k) ?_
      refine WinW.to T495 (mkF m 186 #[.val (.int p0), .val (.int p1), .val (.int p2), .val (.int p3), .val (.int p4), .val (.int (1 : Int32)), .val (.int c_403), .val (.int c_405), .val (.int c_407), .val (.int c_409), .val (.ref b443), .unset] [(.int c_403)]) (fun _ k => XS.iload X495.here hx rfl (hb hby at_184) rfl k) ?_
      by_cases hws507 : wsp c_403
      · have F509 : Exa Z h495 b443 "java/lang/String" := (F492.keep r495_0)
        obtain ⟨T508, h508, v508, L508, X508, e508, ⟨rfl, N508q, r508_0⟩, st508⟩ := N.static X495 hx hZ (y := (⟨"com/example/stylewright/stylewright/xdm/TreeBuilderIsWhitespacePinLaw", "ws", "(C)Z"⟩ : MethodName)) hown (wk hw 56 rfl) (wk hw 57 rfl) (wk hw 3 rfl) (wk hw 58 rfl) (by decide) (ws1 l Z a0 hw c_403 h495 n0 O502 hws507) e495 (g := (mkF m 186 #[.val (.int p0), .val (.int p1), .val (.int p2), .val (.int p3), .val (.int p4), .val (.int (1 : Int32)), .val (.int c_403), .val (.int c_405), .val (.int c_407), .val (.int c_409), .val (.ref b443), .unset] [(.int c_403)])) rfl (by rw [hml]; rfl) (argsL := [(.int c_403)]) (rest := []) rfl (lenOf pd__C_Z rfl) rfl (W := 0) (by show 2 * 0 + _ ≤ _; exact Nat.le_of_eq rfl) (hb hby at_186) (by decide) (by decide) (by decide) (by decide)
        have N510 := Fr.app N497 N508q
        have e508 := e508.trans r508_0
        refine WinW.to T508 (mkF m 189 #[.val (.int p0), .val (.int p1), .val (.int p2), .val (.int p3), .val (.int p4), .val (.int (1 : Int32)), .val (.int c_403), .val (.int c_405), .val (.int c_407), .val (.int c_409), .val (.ref b443), .unset] [(.int (1 : Int32))]) (fun _ k => st508 _ k) ?_
        refine WinW.to T508 (mkF m 192 #[.val (.int p0), .val (.int p1), .val (.int p2), .val (.int p3), .val (.int p4), .val (.int (1 : Int32)), .val (.int c_403), .val (.int c_405), .val (.int c_407), .val (.int c_409), .val (.ref b443), .unset] []) (fun _ k => XS.ifNo X508.here hx rfl (hb hby at_189) rfl ((if0 _ _).trans (feq (show ¬ ((1 : Int32) = (0 : Int32)) from by decide)).1) k) ?_
        refine WinW.to T508 (mkF m 194 #[.val (.int p0), .val (.int p1), .val (.int p2), .val (.int p3), .val (.int p4), .val (.int (1 : Int32)), .val (.int c_403), .val (.int c_405), .val (.int c_407), .val (.int c_409), .val (.ref b443), .unset] [(.int (1 : Int32))]) (fun _ k => XS.iload X508.here hx rfl (hb hby at_192) rfl k) ?_
        refine WinW.to T508 (mkF m 195 #[.val (.int p0), .val (.int p1), .val (.int p2), .val (.int p3), .val (.int p4), .val (.int (1 : Int32)), .val (.int c_403), .val (.int c_405), .val (.int c_407), .val (.int c_409), .val (.ref b443), .unset] [(.int (2 : Int32)), (.int (1 : Int32))]) (fun _ k => XS.iconst X508.here hx rfl (hb hby at_194) k) ?_
        refine WinW.to T508 (mkF m 206 #[.val (.int p0), .val (.int p1), .val (.int p2), .val (.int p3), .val (.int p4), .val (.int (1 : Int32)), .val (.int c_403), .val (.int c_405), .val (.int c_407), .val (.int c_409), .val (.ref b443), .unset] []) (fun _ k => XS.icmpYes X508.here hx rfl (pc0 := 195) (pc' := 206) rfl (hb hby at_195) rfl (tlt (show (1 : Int32) < (2 : Int32) from by decide)).1 (by decide) (by decide) k) ?_
        refine WinW.to T508 (mkF m 208 #[.val (.int p0), .val (.int p1), .val (.int p2), .val (.int p3), .val (.int p4), .val (.int (1 : Int32)), .val (.int c_403), .val (.int c_405), .val (.int c_407), .val (.int c_409), .val (.ref b443), .unset] [(.int (1 : Int32))]) (fun _ k => XS.iload X508.here hx rfl (hb hby at_206) rfl k) ?_
        refine WinW.to T508 (mkF m 209 #[.val (.int p0), .val (.int p1), .val (.int p2), .val (.int p3), .val (.int p4), .val (.int (1 : Int32)), .val (.int c_403), .val (.int c_405), .val (.int c_407), .val (.int c_409), .val (.ref b443), .unset] [(.int (3 : Int32)), (.int (1 : Int32))]) (fun _ k => XS.iconst X508.here hx rfl (hb hby at_208) k) ?_
        refine WinW.to T508 (mkF m 220 #[.val (.int p0), .val (.int p1), .val (.int p2), .val (.int p3), .val (.int p4), .val (.int (1 : Int32)), .val (.int c_403), .val (.int c_405), .val (.int c_407), .val (.int c_409), .val (.ref b443), .unset] []) (fun _ k => XS.icmpYes X508.here hx rfl (pc0 := 209) (pc' := 220) rfl (hb hby at_209) rfl (tlt (show (1 : Int32) < (3 : Int32) from by decide)).1 (by decide) (by decide) k) ?_
        refine WinW.to T508 (mkF m 222 #[.val (.int p0), .val (.int p1), .val (.int p2), .val (.int p3), .val (.int p4), .val (.int (1 : Int32)), .val (.int c_403), .val (.int c_405), .val (.int c_407), .val (.int c_409), .val (.ref b443), .unset] [(.int (1 : Int32))]) (fun _ k => XS.iload X508.here hx rfl (hb hby at_220) rfl k) ?_
        refine WinW.to T508 (mkF m 223 #[.val (.int p0), .val (.int p1), .val (.int p2), .val (.int p3), .val (.int p4), .val (.int (1 : Int32)), .val (.int c_403), .val (.int c_405), .val (.int c_407), .val (.int c_409), .val (.ref b443), .unset] [(.int (4 : Int32)), (.int (1 : Int32))]) (fun _ k => XS.iconst X508.here hx rfl (hb hby at_222) k) ?_
        refine WinW.to T508 (mkF m 234 #[.val (.int p0), .val (.int p1), .val (.int p2), .val (.int p3), .val (.int p4), .val (.int (1 : Int32)), .val (.int c_403), .val (.int c_405), .val (.int c_407), .val (.int c_409), .val (.ref b443), .unset] []) (fun _ k => XS.icmpYes X508.here hx rfl (pc0 := 223) (pc' := 234) rfl (hb hby at_223) rfl (tlt (show (1 : Int32) < (4 : Int32) from by decide)).1 (by decide) (by decide) k) ?_
        refine WinW.to T508 (mkF m 235 #[.val (.int p0), .val (.int p1), .val (.int p2), .val (.int p3), .val (.int p4), .val (.int (1 : Int32)), .val (.int c_403), .val (.int c_405), .val (.int c_407), .val (.int c_409), .val (.ref b443), .unset] [(.int (1 : Int32))]) (fun _ k => XS.iconst X508.here hx rfl (hb hby at_234) k) ?_
        refine WinW.to T508 (mkF m 239 #[.val (.int p0), .val (.int p1), .val (.int p2), .val (.int p3), .val (.int p4), .val (.int (1 : Int32)), .val (.int c_403), .val (.int c_405), .val (.int c_407), .val (.int c_409), .val (.ref b443), .unset] [(.int (1 : Int32))]) (fun _ k => XS.goto X508.here hx rfl (pc0 := 235) (pc' := 239) rfl (hb hby at_235) (by decide) (by decide) k) ?_
        refine WinW.to T508 (mkF m 241 #[.val (.int p0), .val (.int p1), .val (.int p2), .val (.int p3), .val (.int p4), .val (.int (1 : Int32)), .val (.int c_403), .val (.int c_405), .val (.int c_407), .val (.int c_409), .val (.ref b443), .val (.int (1 : Int32))] []) (fun _ k => XS.istore X508.here hx rfl (hb hby at_239) rfl (l' := #[.val (.int p0), .val (.int p1), .val (.int p2), .val (.int p3), .val (.int p4), .val (.int (1 : Int32)), .val (.int c_403), .val (.int c_405), .val (.int c_407), .val (.int c_409), .val (.ref b443), .val (.int (1 : Int32))]) rfl k) ?_
        refine WinW.to T508 (mkF m 243 #[.val (.int p0), .val (.int p1), .val (.int p2), .val (.int p3), .val (.int p4), .val (.int (1 : Int32)), .val (.int c_403), .val (.int c_405), .val (.int c_407), .val (.int c_409), .val (.ref b443), .val (.int (1 : Int32))] [(.ref b443)]) (fun _ k => XS.aload X508.here hx rfl (hb hby at_241) rfl rfl k) ?_
        have F511 : ArF Z h495 b452 k452 .char 1 (fun i => ([c_403] : List Int32).getD i (0 : Int32)) := (F469.keep r495_0 (ninS (Ne.symm ne453) nin0))
        obtain ⟨T512, h512, v512, L512, X512, e512, ⟨rfl, N512q, r512_0⟩, st512⟩ := N.static X508 hx hZ (y := (⟨"com/example/stylewright/stylewright/xdm/TreeBuilder", "isWhitespace", "(Ljava/lang/CharSequence;)Z"⟩ : MethodName)) hown (wk hw 27 rfl) (wk hw 28 rfl) (wk hw 29 rfl) (wk hw 30 rfl) (by decide) (isWs1 l Z a0 hw b443 t_495 kb_495 1 (fun i => ([c_403] : List Int32).getD i (0 : Int32)) (fun i => ([c_403] : List Int32).getD i (0 : Int32)) (1 : Int32) cs x1 h495 n0 O502 F509 r495_2 r495_3 r495_4 (own_fr F511) (fun i _ => rfl) S_AD S_HI S_LO (fun _ => rfl) ((fun q => absurd (fun i hi => by
          match i, hi with
          | 0, _ => exact hws507) q)) S_CS hcs S_SI hx1) e508 (g := (mkF m 243 #[.val (.int p0), .val (.int p1), .val (.int p2), .val (.int p3), .val (.int p4), .val (.int (1 : Int32)), .val (.int c_403), .val (.int c_405), .val (.int c_407), .val (.int c_409), .val (.ref b443), .val (.int (1 : Int32))] [(.ref b443)])) rfl (by rw [hml]; rfl) (argsL := [(.ref b443)]) (rest := []) rfl (lenOf pd__Ljava_lang_CharSequence__Z rfl) rfl (W := 0) (by show 2 * 0 + _ ≤ _; exact Nat.le_of_eq rfl) (hb hby at_243) (by decide) (by decide) (by decide) (by decide)
        have N513 := Fr.app N510 N512q
        have e512 := e512.trans r512_0
        refine WinW.to T512 (mkF m 246 #[.val (.int p0), .val (.int p1), .val (.int p2), .val (.int p3), .val (.int p4), .val (.int (1 : Int32)), .val (.int c_403), .val (.int c_405), .val (.int c_407), .val (.int c_409), .val (.ref b443), .val (.int (1 : Int32))] [(.int (1 : Int32))]) (fun _ k => st512 _ k) ?_
        refine WinW.to T512 (mkF m 248 #[.val (.int p0), .val (.int p1), .val (.int p2), .val (.int p3), .val (.int p4), .val (.int (1 : Int32)), .val (.int c_403), .val (.int c_405), .val (.int c_407), .val (.int c_409), .val (.ref b443), .val (.int (1 : Int32))] [(.int (1 : Int32)), (.int (1 : Int32))]) (fun _ k => XS.iload X512.here hx rfl (hb hby at_246) rfl k) ?_
        refine WinW.to T512 (mkF m 251 #[.val (.int p0), .val (.int p1), .val (.int p2), .val (.int p3), .val (.int p4), .val (.int (1 : Int32)), .val (.int c_403), .val (.int c_405), .val (.int c_407), .val (.int c_409), .val (.ref b443), .val (.int (1 : Int32))] []) (fun _ k => XS.icmpNo X512.here hx rfl (hb hby at_248) rfl (teq (show (1 : Int32) = (1 : Int32) from by decide)).2 k) ?_
        refine WinW.to T512 (mkF m 252 #[.val (.int p0), .val (.int p1), .val (.int p2), .val (.int p3), .val (.int p4), .val (.int (1 : Int32)), .val (.int c_403), .val (.int c_405), .val (.int c_407), .val (.int c_409), .val (.ref b443), .val (.int (1 : Int32))] [(.int (1 : Int32))]) (fun _ k => XS.iconst X512.here hx rfl (hb hby at_251) k) ?_
        refine WinW.to T512 (mkF m 256 #[.val (.int p0), .val (.int p1), .val (.int p2), .val (.int p3), .val (.int p4), .val (.int (1 : Int32)), .val (.int c_403), .val (.int c_405), .val (.int c_407), .val (.int c_409), .val (.ref b443), .val (.int (1 : Int32))] [(.int (1 : Int32))]) (fun _ k => XS.goto X512.here hx rfl (pc0 := 252) (pc' := 256) rfl (hb hby at_252) (by decide) (by decide) k) ?_
        exact WinW.retN X512 hS0 (by rw [e512]; exact (Nat.zero_le _)) hx hlk (t := .boolean) hret (by simp) rfl (hb hby at_256) hZ (own_EW hw) (by rw [e512]; exact C505) (by decide) (by decide) (by (try rw [e512]); exact ⟨rfl, N513, trivial⟩)
      · have F515 : Exa Z h495 b443 "java/lang/String" := (F492.keep r495_0)
        obtain ⟨T514, h514, v514, L514, X514, e514, ⟨rfl, N514q, r514_0⟩, st514⟩ := N.static X495 hx hZ (y := (⟨"com/example/stylewright/stylewright/xdm/TreeBuilderIsWhitespacePinLaw", "ws", "(C)Z"⟩ : MethodName)) hown (wk hw 56 rfl) (wk hw 57 rfl) (wk hw 3 rfl) (wk hw 58 rfl) (by decide) (ws0 l Z a0 hw c_403 h495 n0 O502 hws507) e495 (g := (mkF m 186 #[.val (.int p0), .val (.int p1), .val (.int p2), .val (.int p3), .val (.int p4), .val (.int (1 : Int32)), .val (.int c_403), .val (.int c_405), .val (.int c_407), .val (.int c_409), .val (.ref b443), .unset] [(.int c_403)])) rfl (by rw [hml]; rfl) (argsL := [(.int c_403)]) (rest := []) rfl (lenOf pd__C_Z rfl) rfl (W := 0) (by show 2 * 0 + _ ≤ _; exact Nat.le_of_eq rfl) (hb hby at_186) (by decide) (by decide) (by decide) (by decide)
        have N516 := Fr.app N497 N514q
        have e514 := e514.trans r514_0
        refine WinW.to T514 (mkF m 189 #[.val (.int p0), .val (.int p1), .val (.int p2), .val (.int p3), .val (.int p4), .val (.int (1 : Int32)), .val (.int c_403), .val (.int c_405), .val (.int c_407), .val (.int c_409), .val (.ref b443), .unset] [(.int (0 : Int32))]) (fun _ k => st514 _ k) ?_
        refine WinW.to T514 (mkF m 238 #[.val (.int p0), .val (.int p1), .val (.int p2), .val (.int p3), .val (.int p4), .val (.int (1 : Int32)), .val (.int c_403), .val (.int c_405), .val (.int c_407), .val (.int c_409), .val (.ref b443), .unset] []) (fun _ k => XS.ifYes X514.here hx rfl (pc0 := 189) (pc' := 238) rfl (hb hby at_189) rfl ((if0 _ _).trans (teq (show (0 : Int32) = (0 : Int32) from by decide)).1) (by decide) (by decide) k) ?_
        refine WinW.to T514 (mkF m 239 #[.val (.int p0), .val (.int p1), .val (.int p2), .val (.int p3), .val (.int p4), .val (.int (1 : Int32)), .val (.int c_403), .val (.int c_405), .val (.int c_407), .val (.int c_409), .val (.ref b443), .unset] [(.int (0 : Int32))]) (fun _ k => XS.iconst X514.here hx rfl (hb hby at_238) k) ?_
        refine WinW.to T514 (mkF m 241 #[.val (.int p0), .val (.int p1), .val (.int p2), .val (.int p3), .val (.int p4), .val (.int (1 : Int32)), .val (.int c_403), .val (.int c_405), .val (.int c_407), .val (.int c_409), .val (.ref b443), .val (.int (0 : Int32))] []) (fun _ k => XS.istore X514.here hx rfl (hb hby at_239) rfl (l' := #[.val (.int p0), .val (.int p1), .val (.int p2), .val (.int p3), .val (.int p4), .val (.int (1 : Int32)), .val (.int c_403), .val (.int c_405), .val (.int c_407), .val (.int c_409), .val (.ref b443), .val (.int (0 : Int32))]) rfl k) ?_
        refine WinW.to T514 (mkF m 243 #[.val (.int p0), .val (.int p1), .val (.int p2), .val (.int p3), .val (.int p4), .val (.int (1 : Int32)), .val (.int c_403), .val (.int c_405), .val (.int c_407), .val (.int c_409), .val (.ref b443), .val (.int (0 : Int32))] [(.ref b443)]) (fun _ k => XS.aload X514.here hx rfl (hb hby at_241) rfl rfl k) ?_
        have F517 : ArF Z h495 b452 k452 .char 1 (fun i => ([c_403] : List Int32).getD i (0 : Int32)) := (F469.keep r495_0 (ninS (Ne.symm ne453) nin0))
        obtain ⟨T518, h518, v518, L518, X518, e518, ⟨rfl, N518q, r518_0⟩, st518⟩ := N.static X514 hx hZ (y := (⟨"com/example/stylewright/stylewright/xdm/TreeBuilder", "isWhitespace", "(Ljava/lang/CharSequence;)Z"⟩ : MethodName)) hown (wk hw 27 rfl) (wk hw 28 rfl) (wk hw 29 rfl) (wk hw 30 rfl) (by decide) (isWs1 l Z a0 hw b443 t_495 kb_495 1 (fun i => ([c_403] : List Int32).getD i (0 : Int32)) (fun i => ([c_403] : List Int32).getD i (0 : Int32)) (0 : Int32) cs x1 h495 n0 O502 F515 r495_2 r495_3 r495_4 (own_fr F517) (fun i _ => rfl) S_AD S_HI S_LO (fun q => absurd (q 0 (by decide)) hws507) (fun _ => rfl) S_CS hcs S_SI hx1) e514 (g := (mkF m 243 #[.val (.int p0), .val (.int p1), .val (.int p2), .val (.int p3), .val (.int p4), .val (.int (1 : Int32)), .val (.int c_403), .val (.int c_405), .val (.int c_407), .val (.int c_409), .val (.ref b443), .val (.int (0 : Int32))] [(.ref b443)])) rfl (by rw [hml]; rfl) (argsL := [(.ref b443)]) (rest := []) rfl (lenOf pd__Ljava_lang_CharSequence__Z rfl) rfl (W := 0) (by show 2 * 0 + _ ≤ _; exact Nat.le_of_eq rfl) (hb hby at_243) (by decide) (by decide) (by decide) (by decide)
        have N519 := Fr.app N516 N518q
        have e518 := e518.trans r518_0
        refine WinW.to T518 (mkF m 246 #[.val (.int p0), .val (.int p1), .val (.int p2), .val (.int p3), .val (.int p4), .val (.int (1 : Int32)), .val (.int c_403), .val (.int c_405), .val (.int c_407), .val (.int c_409), .val (.ref b443), .val (.int (0 : Int32))] [(.int (0 : Int32))]) (fun _ k => st518 _ k) ?_
        refine WinW.to T518 (mkF m 248 #[.val (.int p0), .val (.int p1), .val (.int p2), .val (.int p3), .val (.int p4), .val (.int (1 : Int32)), .val (.int c_403), .val (.int c_405), .val (.int c_407), .val (.int c_409), .val (.ref b443), .val (.int (0 : Int32))] [(.int (0 : Int32)), (.int (0 : Int32))]) (fun _ k => XS.iload X518.here hx rfl (hb hby at_246) rfl k) ?_
        refine WinW.to T518 (mkF m 251 #[.val (.int p0), .val (.int p1), .val (.int p2), .val (.int p3), .val (.int p4), .val (.int (1 : Int32)), .val (.int c_403), .val (.int c_405), .val (.int c_407), .val (.int c_409), .val (.ref b443), .val (.int (0 : Int32))] []) (fun _ k => XS.icmpNo X518.here hx rfl (hb hby at_248) rfl (teq (show (0 : Int32) = (0 : Int32) from by decide)).2 k) ?_
        refine WinW.to T518 (mkF m 252 #[.val (.int p0), .val (.int p1), .val (.int p2), .val (.int p3), .val (.int p4), .val (.int (1 : Int32)), .val (.int c_403), .val (.int c_405), .val (.int c_407), .val (.int c_409), .val (.ref b443), .val (.int (0 : Int32))] [(.int (1 : Int32))]) (fun _ k => XS.iconst X518.here hx rfl (hb hby at_251) k) ?_
        refine WinW.to T518 (mkF m 256 #[.val (.int p0), .val (.int p1), .val (.int p2), .val (.int p3), .val (.int p4), .val (.int (1 : Int32)), .val (.int c_403), .val (.int c_405), .val (.int c_407), .val (.int c_409), .val (.ref b443), .val (.int (0 : Int32))] [(.int (1 : Int32))]) (fun _ k => XS.goto X518.here hx rfl (pc0 := 252) (pc' := 256) rfl (hb hby at_252) (by decide) (by decide) k) ?_
        exact WinW.retN X518 hS0 (by rw [e518]; exact (Nat.zero_le _)) hx hlk (t := .boolean) hret (by simp) rfl (hb hby at_256) hZ (own_EW hw) (by rw [e518]; exact C505) (by decide) (by decide) (by (try rw [e518]); exact ⟨rfl, N519, trivial⟩)
  · rw [hk]
    refine WinW.to T409 (mkF m 35 #[.val (.int p0), .val (.int p1), .val (.int p2), .val (.int p3), .val (.int p4), .val (.int (2 : Int32)), .val (.int c_403), .val (.int c_405), .val (.int c_407), .val (.int c_409), .unset, .unset] [(.int (2 : Int32))]) (fun _ k => XS.iload X409.here hx rfl (hb hby at_33) rfl k) ?_
    refine WinW.to T409 (mkF m 53 #[.val (.int p0), .val (.int p1), .val (.int p2), .val (.int p3), .val (.int p4), .val (.int (2 : Int32)), .val (.int c_403), .val (.int c_405), .val (.int c_407), .val (.int c_409), .unset, .unset] []) (fun _ k => XS.ifYes X409.here hx rfl (pc0 := 35) (pc' := 53) rfl (hb hby at_35) rfl ((if0 _ _).trans (feq (show ¬ ((2 : Int32) = (0 : Int32)) from by decide)).2) (by decide) (by decide) k) ?_
    refine WinW.to T409 (mkF m 55 #[.val (.int p0), .val (.int p1), .val (.int p2), .val (.int p3), .val (.int p4), .val (.int (2 : Int32)), .val (.int c_403), .val (.int c_405), .val (.int c_407), .val (.int c_409), .unset, .unset] [(.int (2 : Int32))]) (fun _ k => XS.iload X409.here hx rfl (hb hby at_53) rfl k) ?_
    refine WinW.to T409 (mkF m 56 #[.val (.int p0), .val (.int p1), .val (.int p2), .val (.int p3), .val (.int p4), .val (.int (2 : Int32)), .val (.int c_403), .val (.int c_405), .val (.int c_407), .val (.int c_409), .unset, .unset] [(.int (1 : Int32)), (.int (2 : Int32))]) (fun _ k => XS.iconst X409.here hx rfl (hb hby at_55) k) ?_
    refine WinW.to T409 (mkF m 79 #[.val (.int p0), .val (.int p1), .val (.int p2), .val (.int p3), .val (.int p4), .val (.int (2 : Int32)), .val (.int c_403), .val (.int c_405), .val (.int c_407), .val (.int c_409), .unset, .unset] []) (fun _ k => XS.icmpYes X409.here hx rfl (pc0 := 56) (pc' := 79) rfl (hb hby at_56) rfl (feq (show ¬ ((2 : Int32) = (1 : Int32)) from by decide)).2 (by decide) (by decide) k) ?_
    refine WinW.to T409 (mkF m 81 #[.val (.int p0), .val (.int p1), .val (.int p2), .val (.int p3), .val (.int p4), .val (.int (2 : Int32)), .val (.int c_403), .val (.int c_405), .val (.int c_407), .val (.int c_409), .unset, .unset] [(.int (2 : Int32))]) (fun _ k => XS.iload X409.here hx rfl (hb hby at_79) rfl k) ?_
    refine WinW.to T409 (mkF m 82 #[.val (.int p0), .val (.int p1), .val (.int p2), .val (.int p3), .val (.int p4), .val (.int (2 : Int32)), .val (.int c_403), .val (.int c_405), .val (.int c_407), .val (.int c_409), .unset, .unset] [(.int (2 : Int32)), (.int (2 : Int32))]) (fun _ k => XS.iconst X409.here hx rfl (hb hby at_81) k) ?_
    refine WinW.to T409 (mkF m 85 #[.val (.int p0), .val (.int p1), .val (.int p2), .val (.int p3), .val (.int p4), .val (.int (2 : Int32)), .val (.int c_403), .val (.int c_405), .val (.int c_407), .val (.int c_409), .unset, .unset] []) (fun _ k => XS.icmpNo X409.here hx rfl (hb hby at_82) rfl (teq (show (2 : Int32) = (2 : Int32) from by decide)).2 k) ?_
    obtain ⟨T520, h520, X520, e520, E520, A520, D520, -, st520⟩ := newO X409 hx hZ hown (wk hw 5 rfl) (wk hw 6 rfl) (wk hw 7 rfl) e409 (g := (mkF m 85 #[.val (.int p0), .val (.int p1), .val (.int p2), .val (.int p3), .val (.int p4), .val (.int (2 : Int32)), .val (.int c_403), .val (.int c_405), .val (.int c_407), .val (.int c_409), .unset, .unset] [])) rfl (hb hby at_85) (by decide) (by decide)
    obtain ⟨b520, g520⟩ : ∃ z, z = h0.size := ⟨_, rfl⟩
    rw [← g520] at A520 D520 st520
    have g521 : n0 ≤ b520 := Nat.le_trans (own_le O0) (Nat.le_of_eq g520.symm)
    have z522 : h0.size ≤ b520 := (Nat.le_of_eq g520.symm)
    have O523 := Old.ext O0 E520
    have K524 : Keep h0 h520 [] := (Keep.refl h0 []).ext E520
    have c525 := CHr.ext E520 C0.1
    have C526 := CHr.trans C0 c525
    have F527 : Fld Z h520 b520 "java/lang/String" "value" "[B" .null := D520 (Or.inr (wk hw 21 rfl)) (ty := (.array .byte)) (by decide)
    have F528 : Fld Z h520 b520 "java/lang/String" "coder" "B" (.int (0 : Int32)) := D520 (Or.inr (wk hw 22 rfl)) (ty := .byte) (by decide)
    refine WinW.to T520 (mkF m 88 #[.val (.int p0), .val (.int p1), .val (.int p2), .val (.int p3), .val (.int p4), .val (.int (2 : Int32)), .val (.int c_403), .val (.int c_405), .val (.int c_407), .val (.int c_409), .unset, .unset] [(.ref b520)]) (fun _ k => st520 _ k) ?_
    refine WinW.to T520 (mkF m 89 #[.val (.int p0), .val (.int p1), .val (.int p2), .val (.int p3), .val (.int p4), .val (.int (2 : Int32)), .val (.int c_403), .val (.int c_405), .val (.int c_407), .val (.int c_409), .unset, .unset] [(.ref b520), (.ref b520)]) (fun _ k => XS.dup X520.here hx rfl (hb hby at_88) rfl rfl k) ?_
    refine WinW.to T520 (mkF m 90 #[.val (.int p0), .val (.int p1), .val (.int p2), .val (.int p3), .val (.int p4), .val (.int (2 : Int32)), .val (.int c_403), .val (.int c_405), .val (.int c_407), .val (.int c_409), .unset, .unset] [(.int (2 : Int32)), (.ref b520), (.ref b520)]) (fun _ k => XS.iconst X520.here hx rfl (hb hby at_89) k) ?_
    obtain ⟨T529, h529, k529, X529, e529, E529, A529, st529⟩ := newP X520 hx hZ (wk hw 8 rfl) e520 (g := (mkF m 90 #[.val (.int p0), .val (.int p1), .val (.int p2), .val (.int p3), .val (.int p4), .val (.int (2 : Int32)), .val (.int c_403), .val (.int c_405), .val (.int c_407), .val (.int c_409), .unset, .unset] [(.int (2 : Int32)), (.ref b520), (.ref b520)])) rfl (hb hby at_90) rfl (by decide) (cap := 2) (by decide) (by decide) (by decide) (by decide)
    obtain ⟨b529, g529⟩ : ∃ z, z = h520.size := ⟨_, rfl⟩
    rw [← g529] at A529 st529
    have ne530 : b520 ≠ b529 := Nat.ne_of_lt (Nat.lt_of_lt_of_le A520.lt (Nat.le_of_eq g529.symm))
    have g531 : n0 ≤ b529 := Nat.le_trans (own_le O523) (Nat.le_of_eq g529.symm)
    have z532 : h0.size ≤ b529 := Nat.le_trans K524.1 (Nat.le_of_eq g529.symm)
    have O533 := Old.ext O523 E529
    have K534 : Keep h0 h529 [] := K524.ext E529
    have c535 := CHr.ext E529 C526.1
    have C536 := CHr.trans C526 c535
    have F537 : Arv Z h529 b529 k529 .char (2 : Int32) [(.int (0 : Int32)), (.int (0 : Int32))] (.int (0 : Int32)) := (Arv.new A529 (by decide)).pad (pad_rep [] (.int (0 : Int32)) 2)
    refine WinW.to T529 (mkF m 92 #[.val (.int p0), .val (.int p1), .val (.int p2), .val (.int p3), .val (.int p4), .val (.int (2 : Int32)), .val (.int c_403), .val (.int c_405), .val (.int c_407), .val (.int c_409), .unset, .unset] [(.ref b529), (.ref b520), (.ref b520)]) (fun _ k => st529 _ k) ?_
    refine WinW.to T529 (mkF m 93 #[.val (.int p0), .val (.int p1), .val (.int p2), .val (.int p3), .val (.int p4), .val (.int (2 : Int32)), .val (.int c_403), .val (.int c_405), .val (.int c_407), .val (.int c_409), .unset, .unset] [(.ref b529), (.ref b529), (.ref b520), (.ref b520)]) (fun _ k => XS.dup X529.here hx rfl (hb hby at_92) rfl rfl k) ?_
    refine WinW.to T529 (mkF m 94 #[.val (.int p0), .val (.int p1), .val (.int p2), .val (.int p3), .val (.int p4), .val (.int (2 : Int32)), .val (.int c_403), .val (.int c_405), .val (.int c_407), .val (.int c_409), .unset, .unset] [(.int (0 : Int32)), (.ref b529), (.ref b529), (.ref b520), (.ref b520)]) (fun _ k => XS.iconst X529.here hx rfl (hb hby at_93) k) ?_
    refine WinW.to T529 (mkF m 96 #[.val (.int p0), .val (.int p1), .val (.int p2), .val (.int p3), .val (.int p4), .val (.int (2 : Int32)), .val (.int c_403), .val (.int c_405), .val (.int c_407), .val (.int c_409), .unset, .unset] [(.int c_403), (.int (0 : Int32)), (.ref b529), (.ref b529), (.ref b520), (.ref b520)]) (fun _ k => XS.iload X529.here hx rfl (hb hby at_94) rfl k) ?_
    obtain ⟨cl538, Ar538, q538, S538, N538, H538, G538⟩ := id F537
    have hi538 : ¬ ((0 : Int32) < 0 ∨ cl538.slots.size ≤ ((0 : Int32)).toNatClampNeg) := inb_of S538 ⟨by decide, by decide⟩
    obtain ⟨T539, h539, X539, e539, W539, st539⟩ := stC X529 hx hZ e529 Ar538 (j := (0 : Int32)) hi538 (g := (mkF m 96 #[.val (.int p0), .val (.int p1), .val (.int p2), .val (.int p3), .val (.int p4), .val (.int (2 : Int32)), .val (.int c_403), .val (.int c_405), .val (.int c_407), .val (.int c_409), .unset, .unset] [(.int c_403), (.int (0 : Int32)), (.ref b529), (.ref b529), (.ref b520), (.ref b520)])) rfl rfl (hb hby at_96)
    have O541 := Old.wr O533 W539 g531
    have K542 : Keep h0 h539 [] := K534.wr W539 (Or.inr z532)
    have N543 := Fr.snoc X539 N410 g531
    have c544 := CHr.wr W539 (Safe.arv hZ.alike F537 (by decide)) C536.1
    have C545 := CHr.trans C536 c544
    have eq539 : nar .char c_403 = c_403 := r403_1
    have W539 := eq539 ▸ W539
    have F540 : Arv Z h539 b529 k529 .char (2 : Int32) [(.int c_403), (.int (0 : Int32))] (.int (0 : Int32)) := Arv.set Ar538 q538 S538 N538 H538 G538 (eq539 ▸ (fits_nar_char _)) W539 0 rfl (Nat.le_of_ble_eq_true rfl)
    refine WinW.to T539 (mkF m 97 #[.val (.int p0), .val (.int p1), .val (.int p2), .val (.int p3), .val (.int p4), .val (.int (2 : Int32)), .val (.int c_403), .val (.int c_405), .val (.int c_407), .val (.int c_409), .unset, .unset] [(.ref b529), (.ref b520), (.ref b520)]) (fun _ k => st539 _ k) ?_
    refine WinW.to T539 (mkF m 98 #[.val (.int p0), .val (.int p1), .val (.int p2), .val (.int p3), .val (.int p4), .val (.int (2 : Int32)), .val (.int c_403), .val (.int c_405), .val (.int c_407), .val (.int c_409), .unset, .unset] [(.ref b529), (.ref b529), (.ref b520), (.ref b520)]) (fun _ k => XS.dup X539.here hx rfl (hb hby at_97) rfl rfl k) ?_
    refine WinW.to T539 (mkF m 99 #[.val (.int p0), .val (.int p1), .val (.int p2), .val (.int p3), .val (.int p4), .val (.int (2 : Int32)), .val (.int c_403), .val (.int c_405), .val (.int c_407), .val (.int c_409), .unset, .unset] [(.int (1 : Int32)), (.ref b529), (.ref b529), (.ref b520), (.ref b520)]) (fun _ k => XS.iconst X539.here hx rfl (hb hby at_98) k) ?_
    refine WinW.to T539 (mkF m 101 #[.val (.int p0), .val (.int p1), .val (.int p2), .val (.int p3), .val (.int p4), .val (.int (2 : Int32)), .val (.int c_403), .val (.int c_405), .val (.int c_407), .val (.int c_409), .unset, .unset] [(.int c_405), (.int (1 : Int32)), (.ref b529), (.ref b529), (.ref b520), (.ref b520)]) (fun _ k => XS.iload X539.here hx rfl (hb hby at_99) rfl k) ?_
    obtain ⟨cl546, Ar546, q546, S546, N546, H546, G546⟩ := id F540
    have hi546 : ¬ ((1 : Int32) < 0 ∨ cl546.slots.size ≤ ((1 : Int32)).toNatClampNeg) := inb_of S546 ⟨by decide, by decide⟩
    obtain ⟨T547, h547, X547, e547, W547, st547⟩ := stC X539 hx hZ e539 Ar546 (j := (1 : Int32)) hi546 (g := (mkF m 101 #[.val (.int p0), .val (.int p1), .val (.int p2), .val (.int p3), .val (.int p4), .val (.int (2 : Int32)), .val (.int c_403), .val (.int c_405), .val (.int c_407), .val (.int c_409), .unset, .unset] [(.int c_405), (.int (1 : Int32)), (.ref b529), (.ref b529), (.ref b520), (.ref b520)])) rfl rfl (hb hby at_101)
    have O549 := Old.wr O541 W547 g531
    have K550 : Keep h0 h547 [] := K542.wr W547 (Or.inr z532)
    have N551 := Fr.snoc X547 N543 g531
    have c552 := CHr.wr W547 (Safe.arv hZ.alike F540 (by decide)) C545.1
    have C553 := CHr.trans C545 c552
    have eq547 : nar .char c_405 = c_405 := r405_1
    have W547 := eq547 ▸ W547
    have F548 : Arv Z h547 b529 k529 .char (2 : Int32) [(.int c_403), (.int c_405)] (.int (0 : Int32)) := Arv.set Ar546 q546 S546 N546 H546 G546 (eq547 ▸ (fits_nar_char _)) W547 1 rfl (Nat.le_of_ble_eq_true rfl)
    refine WinW.to T547 (mkF m 102 #[.val (.int p0), .val (.int p1), .val (.int p2), .val (.int p3), .val (.int p4), .val (.int (2 : Int32)), .val (.int c_403), .val (.int c_405), .val (.int c_407), .val (.int c_409), .unset, .unset] [(.ref b529), (.ref b520), (.ref b520)]) (fun _ k => st547 _ k) ?_
    have F554 : ArF Z h547 b529 k529 .char 2 (fun i => ([c_403, c_405] : List Int32).getD i (0 : Int32)) := own_arf [c_403, c_405] F548 rfl
    by_cases hl : ∀ i, i < 2 → ¬ (255 : Int32) < ((fun i => ([c_403, c_405] : List Int32).getD i (0 : Int32)) : Nat → Int32) i
    · have F555 : Exa Z h547 b520 "java/lang/String" := (Exa.wr W547 (Exa.wr W539 (Exa.ext E529 A520)))
      have F556 : Fld Z h547 b520 "java/lang/String" "value" "[B" .null := (Fld.other W547 (Fld.other W539 (Fld.ext E529 F527) (Or.inl ne530)) (Or.inl ne530))
      have F557 : Fld Z h547 b520 "java/lang/String" "coder" "B" (.int (0 : Int32)) := (Fld.other W547 (Fld.other W539 (Fld.ext E529 F528) (Or.inl ne530)) (Or.inl ne530))
      obtain ⟨T558, h558, v558, L558, k558, X558, e558, hS558, hk558, hZ558, hown558, ⟨t_558, kb_558, rfl, N558q, r558_0, r558_1, r558_2, r558_3⟩, c558, st558⟩ := W.special X547 hS0 (Nat.zero_le _) hx hZ (y := (⟨"java/lang/String", "<init>", "([C)V"⟩ : MethodName)) rfl hown (wk hw 9 rfl) (wk hw 10 rfl) (wk hw 7 rfl) (wk hw 11 rfl) (by decide) (ctor1 l Z a0 hw b520 b529 k529 2 (fun i => ([c_403, c_405] : List Int32).getD i (0 : Int32)) cs h547 n0 O549 F555 F556 F557 F554 hl (by decide) g521 S_CS hcs) (own_EW hw) C553.1 e547 (g := (mkF m 102 #[.val (.int p0), .val (.int p1), .val (.int p2), .val (.int p3), .val (.int p4), .val (.int (2 : Int32)), .val (.int c_403), .val (.int c_405), .val (.int c_407), .val (.int c_409), .unset, .unset] [(.ref b529), (.ref b520), (.ref b520)])) rfl (by rw [hml]; rfl) (a := b520) (argsL := [(.ref b529)]) (rest := [(.ref b520)]) rfl (lenOf pd___C_V rfl) rfl (W := 1) (by show 2 * 0 + _ ≤ _; exact Nat.le_of_eq rfl) (hb hby at_102) (by decide) (by decide) (by decide) (by decide)
      have N559 := Fr.app N551 N558q
      have O560 := Old.keep O549 r558_0 (allS g521 all0)
      have K561 : Keep h0 h558 [] := Keep.trans K550 r558_0 (allS (Or.inr z522) all0)
      have c562 := c558
      have C563 := CHr.trans C553 c562
      refine WinW.to T558 (mkF m 105 #[.val (.int p0), .val (.int p1), .val (.int p2), .val (.int p3), .val (.int p4), .val (.int (2 : Int32)), .val (.int c_403), .val (.int c_405), .val (.int c_407), .val (.int c_409), .unset, .unset] [(.ref b520)]) (fun _ k => st558 _ k) ?_
      refine WinW.to T558 (mkF m 107 #[.val (.int p0), .val (.int p1), .val (.int p2), .val (.int p3), .val (.int p4), .val (.int (2 : Int32)), .val (.int c_403), .val (.int c_405), .val (.int c_407), .val (.int c_409), .val (.ref b520), .unset] []) (fun _ k => XS.astore X558.here hx rfl (hb hby at_105) rfl rfl (l' := #[.val (.int p0), .val (.int p1), .val (.int p2), .val (.int p3), .val (.int p4), .val (.int (2 : Int32)), .val (.int c_403), .val (.int c_405), .val (.int c_407), .val (.int c_409), .val (.ref b520), .unset]) rfl k) ?_
      refine WinW.to T558 (mkF m 178 #[.val (.int p0), .val (.int p1), .val (.int p2), .val (.int p3), .val (.int p4), .val (.int (2 : Int32)), .val (.int c_403), .val (.int c_405), .val (.int c_407), .val (.int c_409), .val (.ref b520), .unset] []) (fun _ k => XS.goto X558.here hx rfl (pc0 := 107) (pc' := 178) rfl (hb hby at_107) (by decide) (by decide) k) ?_
      refine WinW.to T558 (mkF m 180 #[.val (.int p0), .val (.int p1), .val (.int p2), .val (.int p3), .val (.int p4), .val (.int (2 : Int32)), .val (.int c_403), .val (.int c_405), .val (.int c_407), .val (.int c_409), .val (.ref b520), .unset] [(.int (2 : Int32))]) (fun _ k => XS.iload X558.here hx rfl (hb hby at_178) rfl k) ?_
      refine WinW.to T558 (mkF m 181 #[.val (.int p0), .val (.int p1), .val (.int p2), .val (.int p3), .val (.int p4), .val (.int (2 : Int32)), .val (.int c_403), .val (.int c_405), .val (.int c_407), .val (.int c_409), .val (.ref b520), .unset] [(.int (1 : Int32)), (.int (2 : Int32))]) (fun _ k => XS.iconst X558.here hx rfl (hb hby at_180) k) ?_
      refine WinW.to T558 (mkF m 184 #[.val (.int p0), .val (.int p1), .val (.int p2), .val (.int p3), .val (.int p4), .val (.int (2 : Int32)), .val (.int c_403), .val (.int c_405), .val (.int c_407), .val (.int c_409), .val (.ref b520), .unset] []) (fun _ k => XS.icmpNo X558.here hx rfl (hb hby at_181) rfl (flt (show ¬ ((2 : Int32) < (1 : Int32)) from by decide)).1 k) ?_
      refine WinW.to T558 (mkF m 186 #[.val (.int p0), .val (.int p1), .val (.int p2), .val (.int p3), .val (.int p4), .val (.int (2 : Int32)), .val (.int c_403), .val (.int c_405), .val (.int c_407), .val (.int c_409), .val (.ref b520), .unset] [(.int c_403)]) (fun _ k => XS.iload X558.here hx rfl (hb hby at_184) rfl k) ?_
      by_cases hws564 : wsp c_403
      · obtain ⟨T565, h565, v565, L565, X565, e565, ⟨rfl, N565q, r565_0⟩, st565⟩ := N.static X558 hx hZ558 (y := (⟨"com/example/stylewright/stylewright/xdm/TreeBuilderIsWhitespacePinLaw", "ws", "(C)Z"⟩ : MethodName)) hown558 (wk hw 56 rfl) (wk hw 57 rfl) (wk hw 3 rfl) (wk hw 58 rfl) (by decide) (ws1 l Z a0 hw c_403 h558 n0 O560 hws564) e558 (g := (mkF m 186 #[.val (.int p0), .val (.int p1), .val (.int p2), .val (.int p3), .val (.int p4), .val (.int (2 : Int32)), .val (.int c_403), .val (.int c_405), .val (.int c_407), .val (.int c_409), .val (.ref b520), .unset] [(.int c_403)])) rfl (by rw [hml]; rfl) (argsL := [(.int c_403)]) (rest := []) rfl (lenOf pd__C_Z rfl) rfl (W := 0) (by show 2 * 0 + _ ≤ _; exact Nat.le_of_eq rfl) (hb hby at_186) (by decide) (by decide) (by decide) (by decide)
        have N566 := Fr.app N559 N565q
        have e565 := e565.trans r565_0
        refine WinW.to T565 (mkF m 189 #[.val (.int p0), .val (.int p1), .val (.int p2), .val (.int p3), .val (.int p4), .val (.int (2 : Int32)), .val (.int c_403), .val (.int c_405), .val (.int c_407), .val (.int c_409), .val (.ref b520), .unset] [(.int (1 : Int32))]) (fun _ k => st565 _ k) ?_
        refine WinW.to T565 (mkF m 192 #[.val (.int p0), .val (.int p1), .val (.int p2), .val (.int p3), .val (.int p4), .val (.int (2 : Int32)), .val (.int c_403), .val (.int c_405), .val (.int c_407), .val (.int c_409), .val (.ref b520), .unset] []) (fun _ k => XS.ifNo X565.here hx rfl (hb hby at_189) rfl ((if0 _ _).trans (feq (show ¬ ((1 : Int32) = (0 : Int32)) from by decide)).1) k) ?_
        refine WinW.to T565 (mkF m 194 #[.val (.int p0), .val (.int p1), .val (.int p2), .val (.int p3), .val (.int p4), .val (.int (2 : Int32)), .val (.int c_403), .val (.int c_405), .val (.int c_407), .val (.int c_409), .val (.ref b520), .unset] [(.int (2 : Int32))]) (fun _ k => XS.iload X565.here hx rfl (hb hby at_192) rfl k) ?_
        refine WinW.to T565 (mkF m 195 #[.val (.int p0), .val (.int p1), .val (.int p2), .val (.int p3), .val (.int p4), .val (.int (2 : Int32)), .val (.int c_403), .val (.int c_405), .val (.int c_407), .val (.int c_409), .val (.ref b520), .unset] [(.int (2 : Int32)), (.int (2 : Int32))]) (fun _ k => XS.iconst X565.here hx rfl (hb hby at_194) k) ?_
        refine WinW.to T565 (mkF m 198 #[.val (.int p0), .val (.int p1), .val (.int p2), .val (.int p3), .val (.int p4), .val (.int (2 : Int32)), .val (.int c_403), .val (.int c_405), .val (.int c_407), .val (.int c_409), .val (.ref b520), .unset] []) (fun _ k => XS.icmpNo X565.here hx rfl (hb hby at_195) rfl (flt (show ¬ ((2 : Int32) < (2 : Int32)) from by decide)).1 k) ?_
        refine WinW.to T565 (mkF m 200 #[.val (.int p0), .val (.int p1), .val (.int p2), .val (.int p3), .val (.int p4), .val (.int (2 : Int32)), .val (.int c_403), .val (.int c_405), .val (.int c_407), .val (.int c_409), .val (.ref b520), .unset] [(.int c_405)]) (fun _ k => XS.iload X565.here hx rfl (hb hby at_198) rfl k) ?_
        by_cases hws567 : wsp c_405
        · obtain ⟨T568, h568, v568, L568, X568, e568, ⟨rfl, N568q, r568_0⟩, st568⟩ := N.static X565 hx hZ558 (y := (⟨"com/example/stylewright/stylewright/xdm/TreeBuilderIsWhitespacePinLaw", "ws", "(C)Z"⟩ : MethodName)) hown558 (wk hw 56 rfl) (wk hw 57 rfl) (wk hw 3 rfl) (wk hw 58 rfl) (by decide) (ws1 l Z a0 hw c_405 h558 n0 O560 hws567) e565 (g := (mkF m 200 #[.val (.int p0), .val (.int p1), .val (.int p2), .val (.int p3), .val (.int p4), .val (.int (2 : Int32)), .val (.int c_403), .val (.int c_405), .val (.int c_407), .val (.int c_409), .val (.ref b520), .unset] [(.int c_405)])) rfl (by rw [hml]; rfl) (argsL := [(.int c_405)]) (rest := []) rfl (lenOf pd__C_Z rfl) rfl (W := 0) (by show 2 * 0 + _ ≤ _; exact Nat.le_of_eq rfl) (hb hby at_200) (by decide) (by decide) (by decide) (by decide)
          have N569 := Fr.app N566 N568q
          have e568 := e568.trans r568_0
          refine WinW.to T568 (mkF m 203 #[.val (.int p0), .val (.int p1), .val (.int p2), .val (.int p3), .val (.int p4), .val (.int (2 : Int32)), .val (.int c_403), .val (.int c_405), .val (.int c_407), .val (.int c_409), .val (.ref b520), .unset] [(.int (1 : Int32))]) (fun _ k => st568 _ k) ?_
          refine WinW.to T568 (mkF m 206 #[.val (.int p0), .val (.int p1), .val (.int p2), .val (.int p3), .val (.int p4), .val (.int (2 : Int32)), .val (.int c_403), .val (.int c_405), .val (.int c_407), .val (.int c_409), .val (.ref b520), .unset] []) (fun _ k => XS.ifNo X568.here hx rfl (hb hby at_203) rfl ((if0 _ _).trans (feq (show ¬ ((1 : Int32) = (0 : Int32)) from by decide)).1) k) ?_
          refine WinW.to T568 (mkF m 208 #[.val (.int p0), .val (.int p1), .val (.int p2), .val (.int p3), .val (.int p4), .val (.int (2 : Int32)), .val (.int c_403), .val (.int c_405), .val (.int c_407), .val (.int c_409), .val (.ref b520), .unset] [(.int (2 : Int32))]) (fun _ k => XS.iload X568.here hx rfl (hb hby at_206) rfl k) ?_
          refine WinW.to T568 (mkF m 209 #[.val (.int p0), .val (.int p1), .val (.int p2), .val (.int p3), .val (.int p4), .val (.int (2 : Int32)), .val (.int c_403), .val (.int c_405), .val (.int c_407), .val (.int c_409), .val (.ref b520), .unset] [(.int (3 : Int32)), (.int (2 : Int32))]) (fun _ k => XS.iconst X568.here hx rfl (hb hby at_208) k) ?_
          refine WinW.to T568 (mkF m 220 #[.val (.int p0), .val (.int p1), .val (.int p2), .val (.int p3), .val (.int p4), .val (.int (2 : Int32)), .val (.int c_403), .val (.int c_405), .val (.int c_407), .val (.int c_409), .val (.ref b520), .unset] []) (fun _ k => XS.icmpYes X568.here hx rfl (pc0 := 209) (pc' := 220) rfl (hb hby at_209) rfl (tlt (show (2 : Int32) < (3 : Int32) from by decide)).1 (by decide) (by decide) k) ?_
          refine WinW.to T568 (mkF m 222 #[.val (.int p0), .val (.int p1), .val (.int p2), .val (.int p3), .val (.int p4), .val (.int (2 : Int32)), .val (.int c_403), .val (.int c_405), .val (.int c_407), .val (.int c_409), .val (.ref b520), .unset] [(.int (2 : Int32))]) (fun _ k => XS.iload X568.here hx rfl (hb hby at_220) rfl k) ?_
          refine WinW.to T568 (mkF m 223 #[.val (.int p0), .val (.int p1), .val (.int p2), .val (.int p3), .val (.int p4), .val (.int (2 : Int32)), .val (.int c_403), .val (.int c_405), .val (.int c_407), .val (.int c_409), .val (.ref b520), .unset] [(.int (4 : Int32)), (.int (2 : Int32))]) (fun _ k => XS.iconst X568.here hx rfl (hb hby at_222) k) ?_
          refine WinW.to T568 (mkF m 234 #[.val (.int p0), .val (.int p1), .val (.int p2), .val (.int p3), .val (.int p4), .val (.int (2 : Int32)), .val (.int c_403), .val (.int c_405), .val (.int c_407), .val (.int c_409), .val (.ref b520), .unset] []) (fun _ k => XS.icmpYes X568.here hx rfl (pc0 := 223) (pc' := 234) rfl (hb hby at_223) rfl (tlt (show (2 : Int32) < (4 : Int32) from by decide)).1 (by decide) (by decide) k) ?_
          refine WinW.to T568 (mkF m 235 #[.val (.int p0), .val (.int p1), .val (.int p2), .val (.int p3), .val (.int p4), .val (.int (2 : Int32)), .val (.int c_403), .val (.int c_405), .val (.int c_407), .val (.int c_409), .val (.ref b520), .unset] [(.int (1 : Int32))]) (fun _ k => XS.iconst X568.here hx rfl (hb hby at_234) k) ?_
          refine WinW.to T568 (mkF m 239 #[.val (.int p0), .val (.int p1), .val (.int p2), .val (.int p3), .val (.int p4), .val (.int (2 : Int32)), .val (.int c_403), .val (.int c_405), .val (.int c_407), .val (.int c_409), .val (.ref b520), .unset] [(.int (1 : Int32))]) (fun _ k => XS.goto X568.here hx rfl (pc0 := 235) (pc' := 239) rfl (hb hby at_235) (by decide) (by decide) k) ?_
          refine WinW.to T568 (mkF m 241 #[.val (.int p0), .val (.int p1), .val (.int p2), .val (.int p3), .val (.int p4), .val (.int (2 : Int32)), .val (.int c_403), .val (.int c_405), .val (.int c_407), .val (.int c_409), .val (.ref b520), .val (.int (1 : Int32))] []) (fun _ k => XS.istore X568.here hx rfl (hb hby at_239) rfl (l' := #[.val (.int p0), .val (.int p1), .val (.int p2), .val (.int p3), .val (.int p4), .val (.int (2 : Int32)), .val (.int c_403), .val (.int c_405), .val (.int c_407), .val (.int c_409), .val (.ref b520), .val (.int (1 : Int32))]) rfl k) ?_
          refine WinW.to T568 (mkF m 243 #[.val (.int p0), .val (.int p1), .val (.int p2), .val (.int p3), .val (.int p4), .val (.int (2 : Int32)), .val (.int c_403), .val (.int c_405), .val (.int c_407), .val (.int c_409), .val (.ref b520), .val (.int (1 : Int32))] [(.ref b520)]) (fun _ k => XS.aload X568.here hx rfl (hb hby at_241) rfl rfl k) ?_
          have F570 : ArF Z h558 b529 k529 .char 2 (fun i => ([c_403, c_405] : List Int32).getD i (0 : Int32)) := (F554.keep r558_0 (ninS (Ne.symm ne530) nin0))
          have F571 : Exa Z h558 b520 "java/lang/String" := (F555.keep r558_0)
          obtain ⟨T572, h572, v572, L572, X572, e572, ⟨rfl, N572q, r572_0⟩, st572⟩ := N.static X568 hx hZ558 (y := (⟨"com/example/stylewright/stylewright/xdm/TreeBuilder", "isWhitespace", "(Ljava/lang/CharSequence;)Z"⟩ : MethodName)) hown558 (wk hw 27 rfl) (wk hw 28 rfl) (wk hw 29 rfl) (wk hw 30 rfl) (by decide) (isWs0 l Z a0 hw b520 t_558 kb_558 2 (fun i => ((fun i => ([c_403, c_405] : List Int32).getD i (0 : Int32)) i).toInt8.toInt32) (fun i => ([c_403, c_405] : List Int32).getD i (0 : Int32)) (1 : Int32) cs x1 h558 n0 O560 F571 r558_1 r558_2 r558_3 (fun i hi => own_b255 (hl i hi) (own_nc16 (own_fr F570 i hi).1 (own_fr F570 i hi).2)) (fun _ => rfl) ((fun q => absurd (fun i hi => by
            match i, hi with
            | 0, _ => exact hws564
            | 1, _ => exact hws567) q)) S_CS hcs S_SI hx1) e568 (g := (mkF m 243 #[.val (.int p0), .val (.int p1), .val (.int p2), .val (.int p3), .val (.int p4), .val (.int (2 : Int32)), .val (.int c_403), .val (.int c_405), .val (.int c_407), .val (.int c_409), .val (.ref b520), .val (.int (1 : Int32))] [(.ref b520)])) rfl (by rw [hml]; rfl) (argsL := [(.ref b520)]) (rest := []) rfl (lenOf pd__Ljava_lang_CharSequence__Z rfl) rfl (W := 0) (by show 2 * 0 + _ ≤ _; exact Nat.le_of_eq rfl) (hb hby at_243) (by decide) (by decide) (by decide) (by decide)
          have N573 := Fr.app N569 N572q
          have e572 := e572.trans r572_0
          refine WinW.to T572 (mkF m 246 #[.val (.int p0), .val (.int p1), .val (.int p2), .val (.int p3), .val (.int p4), .val (.int (2 : Int32)), .val (.int c_403), .val (.int c_405), .val (.int c_407), .val (.int c_409), .val (.ref b520), .val (.int (1 : Int32))] [(.int (1 : Int32))]) (fun _ k => st572 _ k) ?_
          refine WinW.to T572 (mkF m 248 #[.val (.int p0), .val (.int p1), .val (.int p2), .val (.int p3), .val (.int p4), .val (.int (2 : Int32)), .val (.int c_403), .val (.int c_405), .val (.int c_407), .val (.int c_409), .val (.ref b520), .val (.int (1 : Int32))] [(.int (1 : Int32)), (.int (1 : Int32))]) (fun _ k => XS.iload X572.here hx rfl (hb hby at_246) rfl k) ?_
          refine WinW.to T572 (mkF m 251 #[.val (.int p0), .val (.int p1), .val (.int p2), .val (.int p3), .val (.int p4), .val (.int (2 : Int32)), .val (.int c_403), .val (.int c_405), .val (.int c_407), .val (.int c_409), .val (.ref b520), .val (.int (1 : Int32))] []) (fun _ k => XS.icmpNo X572.here hx rfl (hb hby at_248) rfl (teq (show (1 : Int32) = (1 : Int32) from by decide)).2 k) ?_
          refine WinW.to T572 (mkF m 252 #[.val (.int p0), .val (.int p1), .val (.int p2), .val (.int p3), .val (.int p4), .val (.int (2 : Int32)), .val (.int c_403), .val (.int c_405), .val (.int c_407), .val (.int c_409), .val (.ref b520), .val (.int (1 : Int32))] [(.int (1 : Int32))]) (fun _ k => XS.iconst X572.here hx rfl (hb hby at_251) k) ?_
          refine WinW.to T572 (mkF m 256 #[.val (.int p0), .val (.int p1), .val (.int p2), .val (.int p3), .val (.int p4), .val (.int (2 : Int32)), .val (.int c_403), .val (.int c_405), .val (.int c_407), .val (.int c_409), .val (.ref b520), .val (.int (1 : Int32))] [(.int (1 : Int32))]) (fun _ k => XS.goto X572.here hx rfl (pc0 := 252) (pc' := 256) rfl (hb hby at_252) (by decide) (by decide) k) ?_
          exact WinW.retN X572 hS558 (by rw [e572]; exact hk558) hx hlk (t := .boolean) hret (by simp) rfl (hb hby at_256) hZ558 (own_EW hw) (by rw [e572]; exact C563) (by decide) (by decide) (by (try rw [e572]); exact ⟨rfl, N573, trivial⟩)
        · obtain ⟨T574, h574, v574, L574, X574, e574, ⟨rfl, N574q, r574_0⟩, st574⟩ := N.static X565 hx hZ558 (y := (⟨"com/example/stylewright/stylewright/xdm/TreeBuilderIsWhitespacePinLaw", "ws", "(C)Z"⟩ : MethodName)) hown558 (wk hw 56 rfl) (wk hw 57 rfl) (wk hw 3 rfl) (wk hw 58 rfl) (by decide) (ws0 l Z a0 hw c_405 h558 n0 O560 hws567) e565 (g := (mkF m 200 #[.val (.int p0), .val (.int p1), .val (.int p2), .val (.int p3), .val (.int p4), .val (.int (2 : Int32)), .val (.int c_403), .val (.int c_405), .val (.int c_407), .val (.int c_409), .val (.ref b520), .unset] [(.int c_405)])) rfl (by rw [hml]; rfl) (argsL := [(.int c_405)]) (rest := []) rfl (lenOf pd__C_Z rfl) rfl (W := 0) (by show 2 * 0 + _ ≤ _; exact Nat.le_of_eq rfl) (hb hby at_200) (by decide) (by decide) (by decide) (by decide)
          have N575 := Fr.app N566 N574q
          have e574 := e574.trans r574_0
          refine WinW.to T574 (mkF m 203 #[.val (.int p0), .val (.int p1), .val (.int p2), .val (.int p3), .val (.int p4), .val (.int (2 : Int32)), .val (.int c_403), .val (.int c_405), .val (.int c_407), .val (.int c_409), .val (.ref b520), .unset] [(.int (0 : Int32))]) (fun _ k => st574 _ k) ?_
          refine WinW.to T574 (mkF m 238 #[.val (.int p0), .val (.int p1), .val (.int p2), .val (.int p3), .val (.int p4), .val (.int (2 : Int32)), .val (.int c_403), .val (.int c_405), .val (.int c_407), .val (.int c_409), .val (.ref b520), .unset] []) (fun _ k => XS.ifYes X574.here hx rfl (pc0 := 203) (pc' := 238) rfl (hb hby at_203) rfl ((if0 _ _).trans (teq (show (0 : Int32) = (0 : Int32) from by decide)).1) (by decide) (by decide) k) ?_
          refine WinW.to T574 (mkF m 239 #[.val (.int p0), .val (.int p1), .val (.int p2), .val (.int p3), .val (.int p4), .val (.int (2 : Int32)), .val (.int c_403), .val (.int c_405), .val (.int c_407), .val (.int c_409), .val (.ref b520), .unset] [(.int (0 : Int32))]) (fun _ k => XS.iconst X574.here hx rfl (hb hby at_238) k) ?_
          refine WinW.to T574 (mkF m 241 #[.val (.int p0), .val (.int p1), .val (.int p2), .val (.int p3), .val (.int p4), .val (.int (2 : Int32)), .val (.int c_403), .val (.int c_405), .val (.int c_407), .val (.int c_409), .val (.ref b520), .val (.int (0 : Int32))] []) (fun _ k => XS.istore X574.here hx rfl (hb hby at_239) rfl (l' := #[.val (.int p0), .val (.int p1), .val (.int p2), .val (.int p3), .val (.int p4), .val (.int (2 : Int32)), .val (.int c_403), .val (.int c_405), .val (.int c_407), .val (.int c_409), .val (.ref b520), .val (.int (0 : Int32))]) rfl k) ?_
          refine WinW.to T574 (mkF m 243 #[.val (.int p0), .val (.int p1), .val (.int p2), .val (.int p3), .val (.int p4), .val (.int (2 : Int32)), .val (.int c_403), .val (.int c_405), .val (.int c_407), .val (.int c_409), .val (.ref b520), .val (.int (0 : Int32))] [(.ref b520)]) (fun _ k => XS.aload X574.here hx rfl (hb hby at_241) rfl rfl k) ?_
          have F576 : ArF Z h558 b529 k529 .char 2 (fun i => ([c_403, c_405] : List Int32).getD i (0 : Int32)) := (F554.keep r558_0 (ninS (Ne.symm ne530) nin0))
          have F577 : Exa Z h558 b520 "java/lang/String" := (F555.keep r558_0)
          obtain ⟨T578, h578, v578, L578, X578, e578, ⟨rfl, N578q, r578_0⟩, st578⟩ := N.static X574 hx hZ558 (y := (⟨"com/example/stylewright/stylewright/xdm/TreeBuilder", "isWhitespace", "(Ljava/lang/CharSequence;)Z"⟩ : MethodName)) hown558 (wk hw 27 rfl) (wk hw 28 rfl) (wk hw 29 rfl) (wk hw 30 rfl) (by decide) (isWs0 l Z a0 hw b520 t_558 kb_558 2 (fun i => ((fun i => ([c_403, c_405] : List Int32).getD i (0 : Int32)) i).toInt8.toInt32) (fun i => ([c_403, c_405] : List Int32).getD i (0 : Int32)) (0 : Int32) cs x1 h558 n0 O560 F577 r558_1 r558_2 r558_3 (fun i hi => own_b255 (hl i hi) (own_nc16 (own_fr F576 i hi).1 (own_fr F576 i hi).2)) (fun q => absurd (q 1 (by decide)) hws567) (fun _ => rfl) S_CS hcs S_SI hx1) e574 (g := (mkF m 243 #[.val (.int p0), .val (.int p1), .val (.int p2), .val (.int p3), .val (.int p4), .val (.int (2 : Int32)), .val (.int c_403), .val (.int c_405), .val (.int c_407), .val (.int c_409), .val (.ref b520), .val (.int (0 : Int32))] [(.ref b520)])) rfl (by rw [hml]; rfl) (argsL := [(.ref b520)]) (rest := []) rfl (lenOf pd__Ljava_lang_CharSequence__Z rfl) rfl (W := 0) (by show 2 * 0 + _ ≤ _; exact Nat.le_of_eq rfl) (hb hby at_243) (by decide) (by decide) (by decide) (by decide)
          have N579 := Fr.app N575 N578q
          have e578 := e578.trans r578_0
          refine WinW.to T578 (mkF m 246 #[.val (.int p0), .val (.int p1), .val (.int p2), .val (.int p3), .val (.int p4), .val (.int (2 : Int32)), .val (.int c_403), .val (.int c_405), .val (.int c_407), .val (.int c_409), .val (.ref b520), .val (.int (0 : Int32))] [(.int (0 : Int32))]) (fun _ k => st578 _ k) ?_
          refine WinW.to T578 (mkF m 248 #[.val (.int p0), .val (.int p1), .val (.int p2), .val (.int p3), .val (.int p4), .val (.int (2 : Int32)), .val (.int c_403), .val (.int c_405), .val (.int c_407), .val (.int c_409), .val (.ref b520), .val (.int (0 : Int32))] [(.int (0 : Int32)), (.int (0 : Int32))]) (fun _ k => XS.iload X578.here hx rfl (hb hby at_246) rfl k) ?_
          refine WinW.to T578 (mkF m 251 #[.val (.int p0), .val (.int p1), .val (.int p2), .val (.int p3), .val (.int p4), .val (.int (2 : Int32)), .val (.int c_403), .val (.int c_405), .val (.int c_407), .val (.int c_409), .val (.ref b520), .val (.int (0 : Int32))] []) (fun _ k => XS.icmpNo X578.here hx rfl (hb hby at_248) rfl (teq (show (0 : Int32) = (0 : Int32) from by decide)).2 k) ?_
          refine WinW.to T578 (mkF m 252 #[.val (.int p0), .val (.int p1), .val (.int p2), .val (.int p3), .val (.int p4), .val (.int (2 : Int32)), .val (.int c_403), .val (.int c_405), .val (.int c_407), .val (.int c_409), .val (.ref b520), .val (.int (0 : Int32))] [(.int (1 : Int32))]) (fun _ k => XS.iconst X578.here hx rfl (hb hby at_251) k) ?_
          refine WinW.to T578 (mkF m 256 #[.val (.int p0), .val (.int p1), .val (.int p2), .val (.int p3), .val (.int p4), .val (.int (2 : Int32)), .val (.int c_403), .val (.int c_405), .val (.int c_407), .val (.int c_409), .val (.ref b520), .val (.int (0 : Int32))] [(.int (1 : Int32))]) (fun _ k => XS.goto X578.here hx rfl (pc0 := 252) (pc' := 256) rfl (hb hby at_252) (by decide) (by decide) k) ?_
          exact WinW.retN X578 hS558 (by rw [e578]; exact hk558) hx hlk (t := .boolean) hret (by simp) rfl (hb hby at_256) hZ558 (own_EW hw) (by rw [e578]; exact C563) (by decide) (by decide) (by (try rw [e578]); exact ⟨rfl, N579, trivial⟩)
      · obtain ⟨T580, h580, v580, L580, X580, e580, ⟨rfl, N580q, r580_0⟩, st580⟩ := N.static X558 hx hZ558 (y := (⟨"com/example/stylewright/stylewright/xdm/TreeBuilderIsWhitespacePinLaw", "ws", "(C)Z"⟩ : MethodName)) hown558 (wk hw 56 rfl) (wk hw 57 rfl) (wk hw 3 rfl) (wk hw 58 rfl) (by decide) (ws0 l Z a0 hw c_403 h558 n0 O560 hws564) e558 (g := (mkF m 186 #[.val (.int p0), .val (.int p1), .val (.int p2), .val (.int p3), .val (.int p4), .val (.int (2 : Int32)), .val (.int c_403), .val (.int c_405), .val (.int c_407), .val (.int c_409), .val (.ref b520), .unset] [(.int c_403)])) rfl (by rw [hml]; rfl) (argsL := [(.int c_403)]) (rest := []) rfl (lenOf pd__C_Z rfl) rfl (W := 0) (by show 2 * 0 + _ ≤ _; exact Nat.le_of_eq rfl) (hb hby at_186) (by decide) (by decide) (by decide) (by decide)
        have N581 := Fr.app N559 N580q
        have e580 := e580.trans r580_0
        refine WinW.to T580 (mkF m 189 #[.val (.int p0), .val (.int p1), .val (.int p2), .val (.int p3), .val (.int p4), .val (.int (2 : Int32)), .val (.int c_403), .val (.int c_405), .val (.int c_407), .val (.int c_409), .val (.ref b520), .unset] [(.int (0 : Int32))]) (fun _ k => st580 _ k) ?_
        refine WinW.to T580 (mkF m 238 #[.val (.int p0), .val (.int p1), .val (.int p2), .val (.int p3), .val (.int p4), .val (.int (2 : Int32)), .val (.int c_403), .val (.int c_405), .val (.int c_407), .val (.int c_409), .val (.ref b520), .unset] []) (fun _ k => XS.ifYes X580.here hx rfl (pc0 := 189) (pc' := 238) rfl (hb hby at_189) rfl ((if0 _ _).trans (teq (show (0 : Int32) = (0 : Int32) from by decide)).1) (by decide) (by decide) k) ?_
        refine WinW.to T580 (mkF m 239 #[.val (.int p0), .val (.int p1), .val (.int p2), .val (.int p3), .val (.int p4), .val (.int (2 : Int32)), .val (.int c_403), .val (.int c_405), .val (.int c_407), .val (.int c_409), .val (.ref b520), .unset] [(.int (0 : Int32))]) (fun _ k => XS.iconst X580.here hx rfl (hb hby at_238) k) ?_
        refine WinW.to T580 (mkF m 241 #[.val (.int p0), .val (.int p1), .val (.int p2), .val (.int p3), .val (.int p4), .val (.int (2 : Int32)), .val (.int c_403), .val (.int c_405), .val (.int c_407), .val (.int c_409), .val (.ref b520), .val (.int (0 : Int32))] []) (fun _ k => XS.istore X580.here hx rfl (hb hby at_239) rfl (l' := #[.val (.int p0), .val (.int p1), .val (.int p2), .val (.int p3), .val (.int p4), .val (.int (2 : Int32)), .val (.int c_403), .val (.int c_405), .val (.int c_407), .val (.int c_409), .val (.ref b520), .val (.int (0 : Int32))]) rfl k) ?_
        refine WinW.to T580 (mkF m 243 #[.val (.int p0), .val (.int p1), .val (.int p2), .val (.int p3), .val (.int p4), .val (.int (2 : Int32)), .val (.int c_403), .val (.int c_405), .val (.int c_407), .val (.int c_409), .val (.ref b520), .val (.int (0 : Int32))] [(.ref b520)]) (fun _ k => XS.aload X580.here hx rfl (hb hby at_241) rfl rfl k) ?_
        have F582 : ArF Z h558 b529 k529 .char 2 (fun i => ([c_403, c_405] : List Int32).getD i (0 : Int32)) := (F554.keep r558_0 (ninS (Ne.symm ne530) nin0))
        have F583 : Exa Z h558 b520 "java/lang/String" := (F555.keep r558_0)
        obtain ⟨T584, h584, v584, L584, X584, e584, ⟨rfl, N584q, r584_0⟩, st584⟩ := N.static X580 hx hZ558 (y := (⟨"com/example/stylewright/stylewright/xdm/TreeBuilder", "isWhitespace", "(Ljava/lang/CharSequence;)Z"⟩ : MethodName)) hown558 (wk hw 27 rfl) (wk hw 28 rfl) (wk hw 29 rfl) (wk hw 30 rfl) (by decide) (isWs0 l Z a0 hw b520 t_558 kb_558 2 (fun i => ((fun i => ([c_403, c_405] : List Int32).getD i (0 : Int32)) i).toInt8.toInt32) (fun i => ([c_403, c_405] : List Int32).getD i (0 : Int32)) (0 : Int32) cs x1 h558 n0 O560 F583 r558_1 r558_2 r558_3 (fun i hi => own_b255 (hl i hi) (own_nc16 (own_fr F582 i hi).1 (own_fr F582 i hi).2)) (fun q => absurd (q 0 (by decide)) hws564) (fun _ => rfl) S_CS hcs S_SI hx1) e580 (g := (mkF m 243 #[.val (.int p0), .val (.int p1), .val (.int p2), .val (.int p3), .val (.int p4), .val (.int (2 : Int32)), .val (.int c_403), .val (.int c_405), .val (.int c_407), .val (.int c_409), .val (.ref b520), .val (.int (0 : Int32))] [(.ref b520)])) rfl (by rw [hml]; rfl) (argsL := [(.ref b520)]) (rest := []) rfl (lenOf pd__Ljava_lang_CharSequence__Z rfl) rfl (W := 0) (by show 2 * 0 + _ ≤ _; exact Nat.le_of_eq rfl) (hb hby at_243) (by decide) (by decide) (by decide) (by decide)
        have N585 := Fr.app N581 N584q
        have e584 := e584.trans r584_0
        refine WinW.to T584 (mkF m 246 #[.val (.int p0), .val (.int p1), .val (.int p2), .val (.int p3), .val (.int p4), .val (.int (2 : Int32)), .val (.int c_403), .val (.int c_405), .val (.int c_407), .val (.int c_409), .val (.ref b520), .val (.int (0 : Int32))] [(.int (0 : Int32))]) (fun _ k => st584 _ k) ?_
        refine WinW.to T584 (mkF m 248 #[.val (.int p0), .val (.int p1), .val (.int p2), .val (.int p3), .val (.int p4), .val (.int (2 : Int32)), .val (.int c_403), .val (.int c_405), .val (.int c_407), .val (.int c_409), .val (.ref b520), .val (.int (0 : Int32))] [(.int (0 : Int32)), (.int (0 : Int32))]) (fun _ k => XS.iload X584.here hx rfl (hb hby at_246) rfl k) ?_
        refine WinW.to T584 (mkF m 251 #[.val (.int p0), .val (.int p1), .val (.int p2), .val (.int p3), .val (.int p4), .val (.int (2 : Int32)), .val (.int c_403), .val (.int c_405), .val (.int c_407), .val (.int c_409), .val (.ref b520), .val (.int (0 : Int32))] []) (fun _ k => XS.icmpNo X584.here hx rfl (hb hby at_248) rfl (teq (show (0 : Int32) = (0 : Int32) from by decide)).2 k) ?_
        refine WinW.to T584 (mkF m 252 #[.val (.int p0), .val (.int p1), .val (.int p2), .val (.int p3), .val (.int p4), .val (.int (2 : Int32)), .val (.int c_403), .val (.int c_405), .val (.int c_407), .val (.int c_409), .val (.ref b520), .val (.int (0 : Int32))] [(.int (1 : Int32))]) (fun _ k => XS.iconst X584.here hx rfl (hb hby at_251) k) ?_
        refine WinW.to T584 (mkF m 256 #[.val (.int p0), .val (.int p1), .val (.int p2), .val (.int p3), .val (.int p4), .val (.int (2 : Int32)), .val (.int c_403), .val (.int c_405), .val (.int c_407), .val (.int c_409), .val (.ref b520), .val (.int (0 : Int32))] [(.int (1 : Int32))]) (fun _ k => XS.goto X584.here hx rfl (pc0 := 252) (pc' := 256) rfl (hb hby at_252) (by decide) (by decide) k) ?_
        exact WinW.retN X584 hS558 (by rw [e584]; exact hk558) hx hlk (t := .boolean) hret (by simp) rfl (hb hby at_256) hZ558 (own_EW hw) (by rw [e584]; exact C563) (by decide) (by decide) (by (try rw [e584]); exact ⟨rfl, N585, trivial⟩)
    · have F586 : Exa Z h547 b520 "java/lang/String" := (Exa.wr W547 (Exa.wr W539 (Exa.ext E529 A520)))
      have F587 : Fld Z h547 b520 "java/lang/String" "value" "[B" .null := (Fld.other W547 (Fld.other W539 (Fld.ext E529 F527) (Or.inl ne530)) (Or.inl ne530))
      have F588 : Fld Z h547 b520 "java/lang/String" "coder" "B" (.int (0 : Int32)) := (Fld.other W547 (Fld.other W539 (Fld.ext E529 F528) (Or.inl ne530)) (Or.inl ne530))
      have S590 : Safe Z EL1 (s.setVm s.vm).vm h547 b520 := own_safe hZ.alike F586 F587 (wk hw 6 rfl)
      obtain ⟨T589, h589, v589, L589, X589, e589, ⟨t_589, kb_589, rfl, N589q, r589_0, r589_1, r589_2, r589_3, r589_4⟩, st589⟩ := N.special X547 hx hZ (y := (⟨"java/lang/String", "<init>", "([C)V"⟩ : MethodName)) rfl hown (wk hw 9 rfl) (wk hw 10 rfl) (wk hw 7 rfl) (wk hw 11 rfl) (by decide) (ctor1u l Z a0 hw b520 b529 k529 2 (fun i => ([c_403, c_405] : List Int32).getD i (0 : Int32)) cs h547 n0 O549 F586 F587 F588 F554 (by decide) (Classical.byContradiction fun q => hl fun i hi hp => q ⟨i, hi, hp⟩) g521 S_AD S_HI S_LO S_CS hcs) e547 (g := (mkF m 102 #[.val (.int p0), .val (.int p1), .val (.int p2), .val (.int p3), .val (.int p4), .val (.int (2 : Int32)), .val (.int c_403), .val (.int c_405), .val (.int c_407), .val (.int c_409), .unset, .unset] [(.ref b529), (.ref b520), (.ref b520)])) rfl (by rw [hml]; rfl) (a := b520) (argsL := [(.ref b529)]) (rest := [(.ref b520)]) rfl (lenOf pd___C_V rfl) rfl (W := 1) (by show 2 * 0 + _ ≤ _; exact Nat.le_of_eq rfl) (hb hby at_102) (by decide) (by decide) (by decide) (by decide)
      have N591 := Fr.app N551 N589q
      have ne592 : b520 ≠ t_589 := Nat.ne_of_lt (Nat.lt_of_lt_of_le F586.lt r589_1)
      have ne593 : b529 ≠ t_589 := Nat.ne_of_lt (Nat.lt_of_lt_of_le F548.lt r589_1)
      have g594 : n0 ≤ t_589 := Nat.le_trans (own_le O549) r589_1
      have z595 : h0.size ≤ t_589 := Nat.le_trans K550.1 r589_1
      have O596 := Old.keep O549 r589_0 (allS g521 all0)
      have K597 : Keep h0 h589 [] := Keep.trans K550 r589_0 (allS (Or.inr z522) all0)
      have c598 := CHr.keep r589_0 (sfS S590 sf0) C553.1
      have C599 := CHr.trans C553 c598
      have S600 := CHr.safe c598 F586.lt S590
      refine WinW.to T589 (mkF m 105 #[.val (.int p0), .val (.int p1), .val (.int p2), .val (.int p3), .val (.int p4), .val (.int (2 : Int32)), .val (.int c_403), .val (.int c_405), .val (.int c_407), .val (.int c_409), .unset, .unset] [(.ref b520)]) (fun _ k => st589 _ k) ?_
      refine WinW.to T589 (mkF m 107 #[.val (.int p0), .val (.int p1), .val (.int p2), .val (.int p3), .val (.int p4), .val (.int (2 : Int32)), .val (.int c_403), .val (.int c_405), .val (.int c_407), .val (.int c_409), .val (.ref b520), .unset] []) (fun _ k => XS.astore X589.here hx rfl (hb hby at_105) rfl rfl (l' := #[.val (.int p0), .val (.int p1), .val (.int p2), .val (.int p3), .val (.int p4), .val (.int (2 : Int32)), .val (.int c_403), .val (.int c_405), .val (.int c_407), .val (.int c_409), .val (.ref b520), .unset]) rfl k) ?_
      refine WinW.to T589 (mkF m 178 #[.val (.int p0), .val (.int p1), .val (.int p2), .val (.int p3), .val (.int p4), .val (.int (2 : Int32)), .val (.int c_403), .val (.int c_405), .val (.int c_407), .val (.int c_409), .val (.ref b520), .unset] []) (fun _ k => XS.goto X589.here hx rfl (pc0 := 107) (pc' := 178) rfl (hb hby at_107) (by decide) (by decide) k) ?_
      refine WinW.to T589 (mkF m 180 #[.val (.int p0), .val (.int p1), .val (.int p2), .val (.int p3), .val (.int p4), .val (.int (2 : Int32)), .val (.int c_403), .val (.int c_405), .val (.int c_407), .val (.int c_409), .val (.ref b520), .unset] [(.int (2 : Int32))]) (fun _ k => XS.iload X589.here hx rfl (hb hby at_178) rfl k) ?_
      refine WinW.to T589 (mkF m 181 #[.val (.int p0), .val (.int p1), .val (.int p2), .val (.int p3), .val (.int p4), .val (.int (2 : Int32)), .val (.int c_403), .val (.int c_405), .val (.int c_407), .val (.int c_409), .val (.ref b520), .unset] [(.int (1 : Int32)), (.int (2 : Int32))]) (fun _ k => XS.iconst X589.here hx rfl (hb hby at_180) k) ?_
      refine WinW.to T589 (mkF m 184 #[.val (.int p0), .val (.int p1), .val (.int p2), .val (.int p3), .val (.int p4), .val (.int (2 : Int32)), .val (.int c_403), .val (.int c_405), .val (.int c_407), .val (.int c_409), .val (.ref b520), .unset] []) (fun _ k => XS.icmpNo X589.here hx rfl (hb hby at_181) rfl (flt (show ¬ ((2 : Int32) < (1 : Int32)) from by decide)).1 k) ?_
      refine WinW.to T589 (mkF m 186 #[.val (.int p0), .val (.int p1), .val (.int p2), .val (.int p3), .val (.int p4), .val (.int (2 : Int32)), .val (.int c_403), .val (.int c_405), .val (.int c_407), .val (.int c_409), .val (.ref b520), .unset] [(.int c_403)]) (fun _ k => XS.iload X589.here hx rfl (hb hby at_184) rfl k) ?_
      by_cases hws601 : wsp c_403
      · have F603 : Exa Z h589 b520 "java/lang/String" := (F586.keep r589_0)
        obtain ⟨T602, h602, v602, L602, X602, e602, ⟨rfl, N602q, r602_0⟩, st602⟩ := N.static X589 hx hZ (y := (⟨"com/example/stylewright/stylewright/xdm/TreeBuilderIsWhitespacePinLaw", "ws", "(C)Z"⟩ : MethodName)) hown (wk hw 56 rfl) (wk hw 57 rfl) (wk hw 3 rfl) (wk hw 58 rfl) (by decide) (ws1 l Z a0 hw c_403 h589 n0 O596 hws601) e589 (g := (mkF m 186 #[.val (.int p0), .val (.int p1), .val (.int p2), .val (.int p3), .val (.int p4), .val (.int (2 : Int32)), .val (.int c_403), .val (.int c_405), .val (.int c_407), .val (.int c_409), .val (.ref b520), .unset] [(.int c_403)])) rfl (by rw [hml]; rfl) (argsL := [(.int c_403)]) (rest := []) rfl (lenOf pd__C_Z rfl) rfl (W := 0) (by show 2 * 0 + _ ≤ _; exact Nat.le_of_eq rfl) (hb hby at_186) (by decide) (by decide) (by decide) (by decide)
        have N604 := Fr.app N591 N602q
        have e602 := e602.trans r602_0
        refine WinW.to T602 (mkF m 189 #[.val (.int p0), .val (.int p1), .val (.int p2), .val (.int p3), .val (.int p4), .val (.int (2 : Int32)), .val (.int c_403), .val (.int c_405), .val (.int c_407), .val (.int c_409), .val (.ref b520), .unset] [(.int (1 : Int32))]) (fun _ k => st602 _ k) ?_
        refine WinW.to T602 (mkF m 192 #[.val (.int p0), .val (.int p1), .val (.int p2), .val (.int p3), .val (.int p4), .val (.int (2 : Int32)), .val (.int c_403), .val (.int c_405), .val (.int c_407), .val (.int c_409), .val (.ref b520), .unset] []) (fun _ k => XS.ifNo X602.here hx rfl (hb hby at_189) rfl ((if0 _ _).trans (feq (show ¬ ((1 : Int32) = (0 : Int32)) from by decide)).1) k) ?_
        refine WinW.to T602 (mkF m 194 #[.val (.int p0), .val (.int p1), .val (.int p2), .val (.int p3), .val (.int p4), .val (.int (2 : Int32)), .val (.int c_403), .val (.int c_405), .val (.int c_407), .val (.int c_409), .val (.ref b520), .unset] [(.int (2 : Int32))]) (fun _ k => XS.iload X602.here hx rfl (hb hby at_192) rfl k) ?_
        refine WinW.to T602 (mkF m 195 #[.val (.int p0), .val (.int p1), .val (.int p2), .val (.int p3), .val (.int p4), .val (.int (2 : Int32)), .val (.int c_403), .val (.int c_405), .val (.int c_407), .val (.int c_409), .val (.ref b520), .unset] [(.int (2 : Int32)), (.int (2 : Int32))]) (fun _ k => XS.iconst X602.here hx rfl (hb hby at_194) k) ?_
        refine WinW.to T602 (mkF m 198 #[.val (.int p0), .val (.int p1), .val (.int p2), .val (.int p3), .val (.int p4), .val (.int (2 : Int32)), .val (.int c_403), .val (.int c_405), .val (.int c_407), .val (.int c_409), .val (.ref b520), .unset] []) (fun _ k => XS.icmpNo X602.here hx rfl (hb hby at_195) rfl (flt (show ¬ ((2 : Int32) < (2 : Int32)) from by decide)).1 k) ?_
        refine WinW.to T602 (mkF m 200 #[.val (.int p0), .val (.int p1), .val (.int p2), .val (.int p3), .val (.int p4), .val (.int (2 : Int32)), .val (.int c_403), .val (.int c_405), .val (.int c_407), .val (.int c_409), .val (.ref b520), .unset] [(.int c_405)]) (fun _ k => XS.iload X602.here hx rfl (hb hby at_198) rfl k) ?_
        by_cases hws605 : wsp c_405
        · obtain ⟨T606, h606, v606, L606, X606, e606, ⟨rfl, N606q, r606_0⟩, st606⟩ := N.static X602 hx hZ (y := (⟨"com/example/stylewright/stylewright/xdm/TreeBuilderIsWhitespacePinLaw", "ws", "(C)Z"⟩ : MethodName)) hown (wk hw 56 rfl) (wk hw 57 rfl) (wk hw 3 rfl) (wk hw 58 rfl) (by decide) (ws1 l Z a0 hw c_405 h589 n0 O596 hws605) e602 (g := (mkF m 200 #[.val (.int p0), .val (.int p1), .val (.int p2), .val (.int p3), .val (.int p4), .val (.int (2 : Int32)), .val (.int c_403), .val (.int c_405), .val (.int c_407), .val (.int c_409), .val (.ref b520), .unset] [(.int c_405)])) rfl (by rw [hml]; rfl) (argsL := [(.int c_405)]) (rest := []) rfl (lenOf pd__C_Z rfl) rfl (W := 0) (by show 2 * 0 + _ ≤ _; exact Nat.le_of_eq rfl) (hb hby at_200) (by decide) (by decide) (by decide) (by decide)
          have N607 := Fr.app N604 N606q
          have e606 := e606.trans r606_0
          refine WinW.to T606 (mkF m 203 #[.val (.int p0), .val (.int p1), .val (.int p2), .val (.int p3), .val (.int p4), .val (.int (2 : Int32)), .val (.int c_403), .val (.int c_405), .val (.int c_407), .val (.int c_409), .val (.ref b520), .unset] [(.int (1 : Int32))]) (fun _ k => st606 _ k) ?_
          refine WinW.to T606 (mkF m 206 #[.val (.int p0), .val (.int p1), .val (.int p2), .val (.int p3), .val (.int p4), .val (.int (2 : Int32)), .val (.int c_403), .val (.int c_405), .val (.int c_407), .val (.int c_409), .val (.ref b520), .unset] []) (fun _ k => XS.ifNo X606.here hx rfl (hb hby at_203) rfl ((if0 _ _).trans (feq (show ¬ ((1 : Int32) = (0 : Int32)) from by decide)).1) k) ?_
          refine WinW.to T606 (mkF m 208 #[.val (.int p0), .val (.int p1), .val (.int p2), .val (.int p3), .val (.int p4), .val (.int (2 : Int32)), .val (.int c_403), .val (.int c_405), .val (.int c_407), .val (.int c_409), .val (.ref b520), .unset] [(.int (2 : Int32))]) (fun _ k => XS.iload X606.here hx rfl (hb hby at_206) rfl k) ?_
          refine WinW.to T606 (mkF m 209 #[.val (.int p0), .val (.int p1), .val (.int p2), .val (.int p3), .val (.int p4), .val (.int (2 : Int32)), .val (.int c_403), .val (.int c_405), .val (.int c_407), .val (.int c_409), .val (.ref b520), .unset] [(.int (3 : Int32)), (.int (2 : Int32))]) (fun _ k => XS.iconst X606.here hx rfl (hb hby at_208) k) ?_
          refine WinW.to T606 (mkF m 220 #[.val (.int p0), .val (.int p1), .val (.int p2), .val (.int p3), .val (.int p4), .val (.int (2 : Int32)), .val (.int c_403), .val (.int c_405), .val (.int c_407), .val (.int c_409), .val (.ref b520), .unset] []) (fun _ k => XS.icmpYes X606.here hx rfl (pc0 := 209) (pc' := 220) rfl (hb hby at_209) rfl (tlt (show (2 : Int32) < (3 : Int32) from by decide)).1 (by decide) (by decide) k) ?_
          refine WinW.to T606 (mkF m 222 #[.val (.int p0), .val (.int p1), .val (.int p2), .val (.int p3), .val (.int p4), .val (.int (2 : Int32)), .val (.int c_403), .val (.int c_405), .val (.int c_407), .val (.int c_409), .val (.ref b520), .unset] [(.int (2 : Int32))]) (fun _ k => XS.iload X606.here hx rfl (hb hby at_220) rfl k) ?_
          refine WinW.to T606 (mkF m 223 #[.val (.int p0), .val (.int p1), .val (.int p2), .val (.int p3), .val (.int p4), .val (.int (2 : Int32)), .val (.int c_403), .val (.int c_405), .val (.int c_407), .val (.int c_409), .val (.ref b520), .unset] [(.int (4 : Int32)), (.int (2 : Int32))]) (fun _ k => XS.iconst X606.here hx rfl (hb hby at_222) k) ?_
          refine WinW.to T606 (mkF m 234 #[.val (.int p0), .val (.int p1), .val (.int p2), .val (.int p3), .val (.int p4), .val (.int (2 : Int32)), .val (.int c_403), .val (.int c_405), .val (.int c_407), .val (.int c_409), .val (.ref b520), .unset] []) (fun _ k => XS.icmpYes X606.here hx rfl (pc0 := 223) (pc' := 234) rfl (hb hby at_223) rfl (tlt (show (2 : Int32) < (4 : Int32) from by decide)).1 (by decide) (by decide) k) ?_
          refine WinW.to T606 (mkF m 235 #[.val (.int p0), .val (.int p1), .val (.int p2), .val (.int p3), .val (.int p4), .val (.int (2 : Int32)), .val (.int c_403), .val (.int c_405), .val (.int c_407), .val (.int c_409), .val (.ref b520), .unset] [(.int (1 : Int32))]) (fun _ k => XS.iconst X606.here hx rfl (hb hby at_234) k) ?_
          refine WinW.to T606 (mkF m 239 #[.val (.int p0), .val (.int p1), .val (.int p2), .val (.int p3), .val (.int p4), .val (.int (2 : Int32)), .val (.int c_403), .val (.int c_405), .val (.int c_407), .val (.int c_409), .val (.ref b520), .unset] [(.int (1 : Int32))]) (fun _ k => XS.goto X606.here hx rfl (pc0 := 235) (pc' := 239) rfl (hb hby at_235) (by decide) (by decide) k) ?_
          refine WinW.to T606 (mkF m 241 #[.val (.int p0), .val (.int p1), .val (.int p2), .val (.int p3), .val (.int p4), .val (.int (2 : Int32)), .val (.int c_403), .val (.int c_405), .val (.int c_407), .val (.int c_409), .val (.ref b520), .val (.int (1 : Int32))] []) (fun _ k => XS.istore X606.here hx rfl (hb hby at_239) rfl (l' := #[.val (.int p0), .val (.int p1), .val (.int p2), .val (.int p3), .val (.int p4), .val (.int (2 : Int32)), .val (.int c_403), .val (.int c_405), .val (.int c_407), .val (.int c_409), .val (.ref b520), .val (.int (1 : Int32))]) rfl k) ?_
          refine WinW.to T606 (mkF m 243 #[.val (.int p0), .val (.int p1), .val (.int p2), .val (.int p3), .val (.int p4), .val (.int (2 : Int32)), .val (.int c_403), .val (.int c_405), .val (.int c_407), .val (.int c_409), .val (.ref b520), .val (.int (1 : Int32))] [(.ref b520)]) (fun _ k => XS.aload X606.here hx rfl (hb hby at_241) rfl rfl k) ?_
          have F608 : ArF Z h589 b529 k529 .char 2 (fun i => ([c_403, c_405] : List Int32).getD i (0 : Int32)) := (F554.keep r589_0 (ninS (Ne.symm ne530) nin0))
          obtain ⟨T609, h609, v609, L609, X609, e609, ⟨rfl, N609q, r609_0⟩, st609⟩ := N.static X606 hx hZ (y := (⟨"com/example/stylewright/stylewright/xdm/TreeBuilder", "isWhitespace", "(Ljava/lang/CharSequence;)Z"⟩ : MethodName)) hown (wk hw 27 rfl) (wk hw 28 rfl) (wk hw 29 rfl) (wk hw 30 rfl) (by decide) (isWs1 l Z a0 hw b520 t_589 kb_589 2 (fun i => ([c_403, c_405] : List Int32).getD i (0 : Int32)) (fun i => ([c_403, c_405] : List Int32).getD i (0 : Int32)) (1 : Int32) cs x1 h589 n0 O596 F603 r589_2 r589_3 r589_4 (own_fr F608) (fun i _ => rfl) S_AD S_HI S_LO (fun _ => rfl) ((fun q => absurd (fun i hi => by
            match i, hi with
            | 0, _ => exact hws601
            | 1, _ => exact hws605) q)) S_CS hcs S_SI hx1) e606 (g := (mkF m 243 #[.val (.int p0), .val (.int p1), .val (.int p2), .val (.int p3), .val (.int p4), .val (.int (2 : Int32)), .val (.int c_403), .val (.int c_405), .val (.int c_407), .val (.int c_409), .val (.ref b520), .val (.int (1 : Int32))] [(.ref b520)])) rfl (by rw [hml]; rfl) (argsL := [(.ref b520)]) (rest := []) rfl (lenOf pd__Ljava_lang_CharSequence__Z rfl) rfl (W := 0) (by show 2 * 0 + _ ≤ _; exact Nat.le_of_eq rfl) (hb hby at_243) (by decide) (by decide) (by decide) (by decide)
          have N610 := Fr.app N607 N609q
          have e609 := e609.trans r609_0
          refine WinW.to T609 (mkF m 246 #[.val (.int p0), .val (.int p1), .val (.int p2), .val (.int p3), .val (.int p4), .val (.int (2 : Int32)), .val (.int c_403), .val (.int c_405), .val (.int c_407), .val (.int c_409), .val (.ref b520), .val (.int (1 : Int32))] [(.int (1 : Int32))]) (fun _ k => st609 _ k) ?_
          refine WinW.to T609 (mkF m 248 #[.val (.int p0), .val (.int p1), .val (.int p2), .val (.int p3), .val (.int p4), .val (.int (2 : Int32)), .val (.int c_403), .val (.int c_405), .val (.int c_407), .val (.int c_409), .val (.ref b520), .val (.int (1 : Int32))] [(.int (1 : Int32)), (.int (1 : Int32))]) (fun _ k => XS.iload X609.here hx rfl (hb hby at_246) rfl k) ?_
          refine WinW.to T609 (mkF m 251 #[.val (.int p0), .val (.int p1), .val (.int p2), .val (.int p3), .val (.int p4), .val (.int (2 : Int32)), .val (.int c_403), .val (.int c_405), .val (.int c_407), .val (.int c_409), .val (.ref b520), .val (.int (1 : Int32))] []) (fun _ k => XS.icmpNo X609.here hx rfl (hb hby at_248) rfl (teq (show (1 : Int32) = (1 : Int32) from by decide)).2 k) ?_
          refine WinW.to T609 (mkF m 252 #[.val (.int p0), .val (.int p1), .val (.int p2), .val (.int p3), .val (.int p4), .val (.int (2 : Int32)), .val (.int c_403), .val (.int c_405), .val (.int c_407), .val (.int c_409), .val (.ref b520), .val (.int (1 : Int32))] [(.int (1 : Int32))]) (fun _ k => XS.iconst X609.here hx rfl (hb hby at_251) k) ?_
          refine WinW.to T609 (mkF m 256 #[.val (.int p0), .val (.int p1), .val (.int p2), .val (.int p3), .val (.int p4), .val (.int (2 : Int32)), .val (.int c_403), .val (.int c_405), .val (.int c_407), .val (.int c_409), .val (.ref b520), .val (.int (1 : Int32))] [(.int (1 : Int32))]) (fun _ k => XS.goto X609.here hx rfl (pc0 := 252) (pc' := 256) rfl (hb hby at_252) (by decide) (by decide) k) ?_
          exact WinW.retN X609 hS0 (by rw [e609]; exact (Nat.zero_le _)) hx hlk (t := .boolean) hret (by simp) rfl (hb hby at_256) hZ (own_EW hw) (by rw [e609]; exact C599) (by decide) (by decide) (by (try rw [e609]); exact ⟨rfl, N610, trivial⟩)
        · obtain ⟨T611, h611, v611, L611, X611, e611, ⟨rfl, N611q, r611_0⟩, st611⟩ := N.static X602 hx hZ (y := (⟨"com/example/stylewright/stylewright/xdm/TreeBuilderIsWhitespacePinLaw", "ws", "(C)Z"⟩ : MethodName)) hown (wk hw 56 rfl) (wk hw 57 rfl) (wk hw 3 rfl) (wk hw 58 rfl) (by decide) (ws0 l Z a0 hw c_405 h589 n0 O596 hws605) e602 (g := (mkF m 200 #[.val (.int p0), .val (.int p1), .val (.int p2), .val (.int p3), .val (.int p4), .val (.int (2 : Int32)), .val (.int c_403), .val (.int c_405), .val (.int c_407), .val (.int c_409), .val (.ref b520), .unset] [(.int c_405)])) rfl (by rw [hml]; rfl) (argsL := [(.int c_405)]) (rest := []) rfl (lenOf pd__C_Z rfl) rfl (W := 0) (by show 2 * 0 + _ ≤ _; exact Nat.le_of_eq rfl) (hb hby at_200) (by decide) (by decide) (by decide) (by decide)
          have N612 := Fr.app N604 N611q
          have e611 := e611.trans r611_0
          refine WinW.to T611 (mkF m 203 #[.val (.int p0), .val (.int p1), .val (.int p2), .val (.int p3), .val (.int p4), .val (.int (2 : Int32)), .val (.int c_403), .val (.int c_405), .val (.int c_407), .val (.int c_409), .val (.ref b520), .unset] [(.int (0 : Int32))]) (fun _ k => st611 _ k) ?_
          refine WinW.to T611 (mkF m 238 #[.val (.int p0), .val (.int p1), .val (.int p2), .val (.int p3), .val (.int p4), .val (.int (2 : Int32)), .val (.int c_403), .val (.int c_405), .val (.int c_407), .val (.int c_409), .val (.ref b520), .unset] []) (fun _ k => XS.ifYes X611.here hx rfl (pc0 := 203) (pc' := 238) rfl (hb hby at_203) rfl ((if0 _ _).trans (teq (show (0 : Int32) = (0 : Int32) from by decide)).1) (by decide) (by decide) k) ?_
          refine WinW.to T611 (mkF m 239 #[.val (.int p0), .val (.int p1), .val (.int p2), .val (.int p3), .val (.int p4), .val (.int (2 : Int32)), .val (.int c_403), .val (.int c_405), .val (.int c_407), .val (.int c_409), .val (.ref b520), .unset] [(.int (0 : Int32))]) (fun _ k => XS.iconst X611.here hx rfl (hb hby at_238) k) ?_
          refine WinW.to T611 (mkF m 241 #[.val (.int p0), .val (.int p1), .val (.int p2), .val (.int p3), .val (.int p4), .val (.int (2 : Int32)), .val (.int c_403), .val (.int c_405), .val (.int c_407), .val (.int c_409), .val (.ref b520), .val (.int (0 : Int32))] []) (fun _ k => XS.istore X611.here hx rfl (hb hby at_239) rfl (l' := #[.val (.int p0), .val (.int p1), .val (.int p2), .val (.int p3), .val (.int p4), .val (.int (2 : Int32)), .val (.int c_403), .val (.int c_405), .val (.int c_407), .val (.int c_409), .val (.ref b520), .val (.int (0 : Int32))]) rfl k) ?_
          refine WinW.to T611 (mkF m 243 #[.val (.int p0), .val (.int p1), .val (.int p2), .val (.int p3), .val (.int p4), .val (.int (2 : Int32)), .val (.int c_403), .val (.int c_405), .val (.int c_407), .val (.int c_409), .val (.ref b520), .val (.int (0 : Int32))] [(.ref b520)]) (fun _ k => XS.aload X611.here hx rfl (hb hby at_241) rfl rfl k) ?_
          have F613 : ArF Z h589 b529 k529 .char 2 (fun i => ([c_403, c_405] : List Int32).getD i (0 : Int32)) := (F554.keep r589_0 (ninS (Ne.symm ne530) nin0))
          obtain ⟨T614, h614, v614, L614, X614, e614, ⟨rfl, N614q, r614_0⟩, st614⟩ := N.static X611 hx hZ (y := (⟨"com/example/stylewright/stylewright/xdm/TreeBuilder", "isWhitespace", "(Ljava/lang/CharSequence;)Z"⟩ : MethodName)) hown (wk hw 27 rfl) (wk hw 28 rfl) (wk hw 29 rfl) (wk hw 30 rfl) (by decide) (isWs1 l Z a0 hw b520 t_589 kb_589 2 (fun i => ([c_403, c_405] : List Int32).getD i (0 : Int32)) (fun i => ([c_403, c_405] : List Int32).getD i (0 : Int32)) (0 : Int32) cs x1 h589 n0 O596 F603 r589_2 r589_3 r589_4 (own_fr F613) (fun i _ => rfl) S_AD S_HI S_LO (fun q => absurd (q 1 (by decide)) hws605) (fun _ => rfl) S_CS hcs S_SI hx1) e611 (g := (mkF m 243 #[.val (.int p0), .val (.int p1), .val (.int p2), .val (.int p3), .val (.int p4), .val (.int (2 : Int32)), .val (.int c_403), .val (.int c_405), .val (.int c_407), .val (.int c_409), .val (.ref b520), .val (.int (0 : Int32))] [(.ref b520)])) rfl (by rw [hml]; rfl) (argsL := [(.ref b520)]) (rest := []) rfl (lenOf pd__Ljava_lang_CharSequence__Z rfl) rfl (W := 0) (by show 2 * 0 + _ ≤ _; exact Nat.le_of_eq rfl) (hb hby at_243) (by decide) (by decide) (by decide) (by decide)
          have N615 := Fr.app N612 N614q
          have e614 := e614.trans r614_0
          refine WinW.to T614 (mkF m 246 #[.val (.int p0), .val (.int p1), .val (.int p2), .val (.int p3), .val (.int p4), .val (.int (2 : Int32)), .val (.int c_403), .val (.int c_405), .val (.int c_407), .val (.int c_409), .val (.ref b520), .val (.int (0 : Int32))] [(.int (0 : Int32))]) (fun _ k => st614 _ k) ?_
          refine WinW.to T614 (mkF m 248 #[.val (.int p0), .val (.int p1), .val (.int p2), .val (.int p3), .val (.int p4), .val (.int (2 : Int32)), .val (.int c_403), .val (.int c_405), .val (.int c_407), .val (.int c_409), .val (.ref b520), .val (.int (0 : Int32))] [(.int (0 : Int32)), (.int (0 : Int32))]) (fun _ k => XS.iload X614.here hx rfl (hb hby at_246) rfl k) ?_
          refine WinW.to T614 (mkF m 251 #[.val (.int p0), .val (.int p1), .val (.int p2), .val (.int p3), .val (.int p4), .val (.int (2 : Int32)), .val (.int c_403), .val (.int c_405), .val (.int c_407), .val (.int c_409), .val (.ref b520), .val (.int (0 : Int32))] []) (fun _ k => XS.icmpNo X614.here hx rfl (hb hby at_248) rfl (teq (show (0 : Int32) = (0 : Int32) from by decide)).2 k) ?_
          refine WinW.to T614 (mkF m 252 #[.val (.int p0), .val (.int p1), .val (.int p2), .val (.int p3), .val (.int p4), .val (.int (2 : Int32)), .val (.int c_403), .val (.int c_405), .val (.int c_407), .val (.int c_409), .val (.ref b520), .val (.int (0 : Int32))] [(.int (1 : Int32))]) (fun _ k => XS.iconst X614.here hx rfl (hb hby at_251) k) ?_
          refine WinW.to T614 (mkF m 256 #[.val (.int p0), .val (.int p1), .val (.int p2), .val (.int p3), .val (.int p4), .val (.int (2 : Int32)), .val (.int c_403), .val (.int c_405), .val (.int c_407), .val (.int c_409), .val (.ref b520), .val (.int (0 : Int32))] [(.int (1 : Int32))]) (fun _ k => XS.goto X614.here hx rfl (pc0 := 252) (pc' := 256) rfl (hb hby at_252) (by decide) (by decide) k) ?_
          exact WinW.retN X614 hS0 (by rw [e614]; exact (Nat.zero_le _)) hx hlk (t := .boolean) hret (by simp) rfl (hb hby at_256) hZ (own_EW hw) (by rw [e614]; exact C599) (by decide) (by decide) (by (try rw [e614]); exact ⟨rfl, N615, trivial⟩)
      · have F617 : Exa Z h589 b520 "java/lang/String" := (F586.keep r589_0)
        obtain ⟨T616, h616, v616, L616, X616, e616, ⟨rfl, N616q, r616_0⟩, st616⟩ := N.static X589 hx hZ (y := (⟨"com/example/stylewright/stylewright/xdm/TreeBuilderIsWhitespacePinLaw", "ws", "(C)Z"⟩ : MethodName)) hown (wk hw 56 rfl) (wk hw 57 rfl) (wk hw 3 rfl) (wk hw 58 rfl) (by decide) (ws0 l Z a0 hw c_403 h589 n0 O596 hws601) e589 (g := (mkF m 186 #[.val (.int p0), .val (.int p1), .val (.int p2), .val (.int p3), .val (.int p4), .val (.int (2 : Int32)), .val (.int c_403), .val (.int c_405), .val (.int c_407), .val (.int c_409), .val (.ref b520), .unset] [(.int c_403)])) rfl (by rw [hml]; rfl) (argsL := [(.int c_403)]) (rest := []) rfl (lenOf pd__C_Z rfl) rfl (W := 0) (by show 2 * 0 + _ ≤ _; exact Nat.le_of_eq rfl) (hb hby at_186) (by decide) (by decide) (by decide) (by decide)
        have N618 := Fr.app N591 N616q
        have e616 := e616.trans r616_0
        refine WinW.to T616 (mkF m 189 #[.val (.int p0), .val (.int p1), .val (.int p2), .val (.int p3), .val (.int p4), .val (.int (2 : Int32)), .val (.int c_403), .val (.int c_405), .val (.int c_407), .val (.int c_409), .val (.ref b520), .unset] [(.int (0 : Int32))]) (fun _ k => st616 _ k) ?_
        refine WinW.to T616 (mkF m 238 #[.val (.int p0), .val (.int p1), .val (.int p2), .val (.int p3), .val (.int p4), .val (.int (2 : Int32)), .val (.int c_403), .val (.int c_405), .val (.int c_407), .val (.int c_409), .val (.ref b520), .unset] []) (fun _ k => XS.ifYes X616.here hx rfl (pc0 := 189) (pc' := 238) rfl (hb hby at_189) rfl ((if0 _ _).trans (teq (show (0 : Int32) = (0 : Int32) from by decide)).1) (by decide) (by decide) k) ?_
        refine WinW.to T616 (mkF m 239 #[.val (.int p0), .val (.int p1), .val (.int p2), .val (.int p3), .val (.int p4), .val (.int (2 : Int32)), .val (.int c_403), .val (.int c_405), .val (.int c_407), .val (.int c_409), .val (.ref b520), .unset] [(.int (0 : Int32))]) (fun _ k => XS.iconst X616.here hx rfl (hb hby at_238) k) ?_
        refine WinW.to T616 (mkF m 241 #[.val (.int p0), .val (.int p1), .val (.int p2), .val (.int p3), .val (.int p4), .val (.int (2 : Int32)), .val (.int c_403), .val (.int c_405), .val (.int c_407), .val (.int c_409), .val (.ref b520), .val (.int (0 : Int32))] []) (fun _ k => XS.istore X616.here hx rfl (hb hby at_239) rfl (l' := #[.val (.int p0), .val (.int p1), .val (.int p2), .val (.int p3), .val (.int p4), .val (.int (2 : Int32)), .val (.int c_403), .val (.int c_405), .val (.int c_407), .val (.int c_409), .val (.ref b520), .val (.int (0 : Int32))]) rfl k) ?_
        refine WinW.to T616 (mkF m 243 #[.val (.int p0), .val (.int p1), .val (.int p2), .val (.int p3), .val (.int p4), .val (.int (2 : Int32)), .val (.int c_403), .val (.int c_405), .val (.int c_407), .val (.int c_409), .val (.ref b520), .val (.int (0 : Int32))] [(.ref b520)]) (fun _ k => XS.aload X616.here hx rfl (hb hby at_241) rfl rfl k) ?_
        have F619 : ArF Z h589 b529 k529 .char 2 (fun i => ([c_403, c_405] : List Int32).getD i (0 : Int32)) := (F554.keep r589_0 (ninS (Ne.symm ne530) nin0))
        obtain ⟨T620, h620, v620, L620, X620, e620, ⟨rfl, N620q, r620_0⟩, st620⟩ := N.static X616 hx hZ (y := (⟨"com/example/stylewright/stylewright/xdm/TreeBuilder", "isWhitespace", "(Ljava/lang/CharSequence;)Z"⟩ : MethodName)) hown (wk hw 27 rfl) (wk hw 28 rfl) (wk hw 29 rfl) (wk hw 30 rfl) (by decide) (isWs1 l Z a0 hw b520 t_589 kb_589 2 (fun i => ([c_403, c_405] : List Int32).getD i (0 : Int32)) (fun i => ([c_403, c_405] : List Int32).getD i (0 : Int32)) (0 : Int32) cs x1 h589 n0 O596 F617 r589_2 r589_3 r589_4 (own_fr F619) (fun i _ => rfl) S_AD S_HI S_LO (fun q => absurd (q 0 (by decide)) hws601) (fun _ => rfl) S_CS hcs S_SI hx1) e616 (g := (mkF m 243 #[.val (.int p0), .val (.int p1), .val (.int p2), .val (.int p3), .val (.int p4), .val (.int (2 : Int32)), .val (.int c_403), .val (.int c_405), .val (.int c_407), .val (.int c_409), .val (.ref b520), .val (.int (0 : Int32))] [(.ref b520)])) rfl (by rw [hml]; rfl) (argsL := [(.ref b520)]) (rest := []) rfl (lenOf pd__Ljava_lang_CharSequence__Z rfl) rfl (W := 0) (by show 2 * 0 + _ ≤ _; exact Nat.le_of_eq rfl) (hb hby at_243) (by decide) (by decide) (by decide) (by decide)
        have N621 := Fr.app N618 N620q
        have e620 := e620.trans r620_0
        refine WinW.to T620 (mkF m 246 #[.val (.int p0), .val (.int p1), .val (.int p2), .val (.int p3), .val (.int p4), .val (.int (2 : Int32)), .val (.int c_403), .val (.int c_405), .val (.int c_407), .val (.int c_409), .val (.ref b520), .val (.int (0 : Int32))] [(.int (0 : Int32))]) (fun _ k => st620 _ k) ?_
        refine WinW.to T620 (mkF m 248 #[.val (.int p0), .val (.int p1), .val (.int p2), .val (.int p3), .val (.int p4), .val (.int (2 : Int32)), .val (.int c_403), .val (.int c_405), .val (.int c_407), .val (.int c_409), .val (.ref b520), .val (.int (0 : Int32))] [(.int (0 : Int32)), (.int (0 : Int32))]) (fun _ k => XS.iload X620.here hx rfl (hb hby at_246) rfl k) ?_
        refine WinW.to T620 (mkF m 251 #[.val (.int p0), .val (.int p1), .val (.int p2), .val (.int p3), .val (.int p4), .val (.int (2 : Int32)), .val (.int c_403), .val (.int c_405), .val (.int c_407), .val (.int c_409), .val (.ref b520), .val (.int (0 : Int32))] []) (fun _ k => XS.icmpNo X620.here hx rfl (hb hby at_248) rfl (teq (show (0 : Int32) = (0 : Int32) from by decide)).2 k) ?_
        refine WinW.to T620 (mkF m 252 #[.val (.int p0), .val (.int p1), .val (.int p2), .val (.int p3), .val (.int p4), .val (.int (2 : Int32)), .val (.int c_403), .val (.int c_405), .val (.int c_407), .val (.int c_409), .val (.ref b520), .val (.int (0 : Int32))] [(.int (1 : Int32))]) (fun _ k => XS.iconst X620.here hx rfl (hb hby at_251) k) ?_
        refine WinW.to T620 (mkF m 256 #[.val (.int p0), .val (.int p1), .val (.int p2), .val (.int p3), .val (.int p4), .val (.int (2 : Int32)), .val (.int c_403), .val (.int c_405), .val (.int c_407), .val (.int c_409), .val (.ref b520), .val (.int (0 : Int32))] [(.int (1 : Int32))]) (fun _ k => XS.goto X620.here hx rfl (pc0 := 252) (pc' := 256) rfl (hb hby at_252) (by decide) (by decide) k) ?_
        exact WinW.retN X620 hS0 (by rw [e620]; exact (Nat.zero_le _)) hx hlk (t := .boolean) hret (by simp) rfl (hb hby at_256) hZ (own_EW hw) (by rw [e620]; exact C599) (by decide) (by decide) (by (try rw [e620]); exact ⟨rfl, N621, trivial⟩)
  · rw [hk]
    refine WinW.to T409 (mkF m 35 #[.val (.int p0), .val (.int p1), .val (.int p2), .val (.int p3), .val (.int p4), .val (.int (3 : Int32)), .val (.int c_403), .val (.int c_405), .val (.int c_407), .val (.int c_409), .unset, .unset] [(.int (3 : Int32))]) (fun _ k => XS.iload X409.here hx rfl (hb hby at_33) rfl k) ?_
    refine WinW.to T409 (mkF m 53 #[.val (.int p0), .val (.int p1), .val (.int p2), .val (.int p3), .val (.int p4), .val (.int (3 : Int32)), .val (.int c_403), .val (.int c_405), .val (.int c_407), .val (.int c_409), .unset, .unset] []) (fun _ k => XS.ifYes X409.here hx rfl (pc0 := 35) (pc' := 53) rfl (hb hby at_35) rfl ((if0 _ _).trans (feq (show ¬ ((3 : Int32) = (0 : Int32)) from by decide)).2) (by decide) (by decide) k) ?_
    refine WinW.to T409 (mkF m 55 #[.val (.int p0), .val (.int p1), .val (.int p2), .val (.int p3), .val (.int p4), .val (.int (3 : Int32)), .val (.int c_403), .val (.int c_405), .val (.int c_407), .val (.int c_409), .unset, .unset] [(.int (3 : Int32))]) (fun _ k => XS.iload X409.here hx rfl (hb hby at_53) rfl k) ?_
    refine WinW.to T409 (mkF m 56 #[.val (.int p0), .val (.int p1), .val (.int p2), .val (.int p3), .val (.int p4), .val (.int (3 : Int32)), .val (.int c_403), .val (.int c_405), .val (.int c_407), .val (.int c_409), .unset, .unset] [(.int (1 : Int32)), (.int (3 : Int32))]) (fun _ k => XS.iconst X409.here hx rfl (hb hby at_55) k) ?_
    refine WinW.to T409 (mkF m 79 #[.val (.int p0), .val (.int p1), .val (.int p2), .val (.int p3), .val (.int p4), .val (.int (3 : Int32)), .val (.int c_403), .val (.int c_405), .val (.int c_407), .val (.int c_409), .unset, .unset] []) (fun _ k => XS.icmpYes X409.here hx rfl (pc0 := 56) (pc' := 79) rfl (hb hby at_56) rfl (feq (show ¬ ((3 : Int32) = (1 : Int32)) from by decide)).2 (by decide) (by decide) k) ?_
    refine WinW.to T409 (mkF m 81 #[.val (.int p0), .val (.int p1), .val (.int p2), .val (.int p3), .val (.int p4), .val (.int (3 : Int32)), .val (.int c_403), .val (.int c_405), .val (.int c_407), .val (.int c_409), .unset, .unset] [(.int (3 : Int32))]) (fun _ k => XS.iload X409.here hx rfl (hb hby at_79) rfl k) ?_
    refine WinW.to T409 (mkF m 82 #[.val (.int p0), .val (.int p1), .val (.int p2), .val (.int p3), .val (.int p4), .val (.int (3 : Int32)), .val (.int c_403), .val (.int c_405), .val (.int c_407), .val (.int c_409), .unset, .unset] [(.int (2 : Int32)), (.int (3 : Int32))]) (fun _ k => XS.iconst X409.here hx rfl (hb hby at_81) k) ?_
    refine WinW.to T409 (mkF m 110 #[.val (.int p0), .val (.int p1), .val (.int p2), .val (.int p3), .val (.int p4), .val (.int (3 : Int32)), .val (.int c_403), .val (.int c_405), .val (.int c_407), .val (.int c_409), .unset, .unset] []) (fun _ k => XS.icmpYes X409.here hx rfl (pc0 := 82) (pc' := 110) rfl (hb hby at_82) rfl (feq (show ¬ ((3 : Int32) = (2 : Int32)) from by decide)).2 (by decide) (by decide) k) ?_
    refine WinW.to T409 (mkF m 112 #[.val (.int p0), .val (.int p1), .val (.int p2), .val (.int p3), .val (.int p4), .val (.int (3 : Int32)), .val (.int c_403), .val (.int c_405), .val (.int c_407), .val (.int c_409), .unset, .unset] [(.int (3 : Int32))]) (fun _ k => XS.iload X409.here hx rfl (hb hby at_110) rfl k) ?_
    refine WinW.to T409 (mkF m 113 #[.val (.int p0), .val (.int p1), .val (.int p2), .val (.int p3), .val (.int p4), .val (.int (3 : Int32)), .val (.int c_403), .val (.int c_405), .val (.int c_407), .val (.int c_409), .unset, .unset] [(.int (3 : Int32)), (.int (3 : Int32))]) (fun _ k => XS.iconst X409.here hx rfl (hb hby at_112) k) ?_
    refine WinW.to T409 (mkF m 116 #[.val (.int p0), .val (.int p1), .val (.int p2), .val (.int p3), .val (.int p4), .val (.int (3 : Int32)), .val (.int c_403), .val (.int c_405), .val (.int c_407), .val (.int c_409), .unset, .unset] []) (fun _ k => XS.icmpNo X409.here hx rfl (hb hby at_113) rfl (teq (show (3 : Int32) = (3 : Int32) from by decide)).2 k) ?_
    obtain ⟨T622, h622, X622, e622, E622, A622, D622, -, st622⟩ := newO X409 hx hZ hown (wk hw 5 rfl) (wk hw 6 rfl) (wk hw 7 rfl) e409 (g := (mkF m 116 #[.val (.int p0), .val (.int p1), .val (.int p2), .val (.int p3), .val (.int p4), .val (.int (3 : Int32)), .val (.int c_403), .val (.int c_405), .val (.int c_407), .val (.int c_409), .unset, .unset] [])) rfl (hb hby at_116) (by decide) (by decide)
    obtain ⟨b622, g622⟩ : ∃ z, z = h0.size := ⟨_, rfl⟩
    rw [← g622] at A622 D622 st622
    have g623 : n0 ≤ b622 := Nat.le_trans (own_le O0) (Nat.le_of_eq g622.symm)
    have z624 : h0.size ≤ b622 := (Nat.le_of_eq g622.symm)
    have O625 := Old.ext O0 E622
    have K626 : Keep h0 h622 [] := (Keep.refl h0 []).ext E622
    have c627 := CHr.ext E622 C0.1
    have C628 := CHr.trans C0 c627
    have F629 : Fld Z h622 b622 "java/lang/String" "value" "[B" .null := D622 (Or.inr (wk hw 21 rfl)) (ty := (.array .byte)) (by decide)
    have F630 : Fld Z h622 b622 "java/lang/String" "coder" "B" (.int (0 : Int32)) := D622 (Or.inr (wk hw 22 rfl)) (ty := .byte) (by decide)
    refine WinW.to T622 (mkF m 119 #[.val (.int p0), .val (.int p1), .val (.int p2), .val (.int p3), .val (.int p4), .val (.int (3 : Int32)), .val (.int c_403), .val (.int c_405), .val (.int c_407), .val (.int c_409), .unset, .unset] [(.ref b622)]) (fun _ k => st622 _ k) ?_
    refine WinW.to T622 (mkF m 120 #[.val (.int p0), .val (.int p1), .val (.int p2), .val (.int p3), .val (.int p4), .val (.int (3 : Int32)), .val (.int c_403), .val (.int c_405), .val (.int c_407), .val (.int c_409), .unset, .unset] [(.ref b622), (.ref b622)]) (fun _ k => XS.dup X622.here hx rfl (hb hby at_119) rfl rfl k) ?_
    refine WinW.to T622 (mkF m 121 #[.val (.int p0), .val (.int p1), .val (.int p2), .val (.int p3), .val (.int p4), .val (.int (3 : Int32)), .val (.int c_403), .val (.int c_405), .val (.int c_407), .val (.int c_409), .unset, .unset] [(.int (3 : Int32)), (.ref b622), (.ref b622)]) (fun _ k => XS.iconst X622.here hx rfl (hb hby at_120) k) ?_
    obtain ⟨T631, h631, k631, X631, e631, E631, A631, st631⟩ := newP X622 hx hZ (wk hw 8 rfl) e622 (g := (mkF m 121 #[.val (.int p0), .val (.int p1), .val (.int p2), .val (.int p3), .val (.int p4), .val (.int (3 : Int32)), .val (.int c_403), .val (.int c_405), .val (.int c_407), .val (.int c_409), .unset, .unset] [(.int (3 : Int32)), (.ref b622), (.ref b622)])) rfl (hb hby at_121) rfl (by decide) (cap := 3) (by decide) (by decide) (by decide) (by decide)
    obtain ⟨b631, g631⟩ : ∃ z, z = h622.size := ⟨_, rfl⟩
    rw [← g631] at A631 st631
    have ne632 : b622 ≠ b631 := Nat.ne_of_lt (Nat.lt_of_lt_of_le A622.lt (Nat.le_of_eq g631.symm))
    have g633 : n0 ≤ b631 := Nat.le_trans (own_le O625) (Nat.le_of_eq g631.symm)
    have z634 : h0.size ≤ b631 := Nat.le_trans K626.1 (Nat.le_of_eq g631.symm)
    have O635 := Old.ext O625 E631
    have K636 : Keep h0 h631 [] := K626.ext E631
    have c637 := CHr.ext E631 C628.1
    have C638 := CHr.trans C628 c637
    have F639 : Arv Z h631 b631 k631 .char (3 : Int32) [(.int (0 : Int32)), (.int (0 : Int32)), (.int (0 : Int32))] (.int (0 : Int32)) := (Arv.new A631 (by decide)).pad (pad_rep [] (.int (0 : Int32)) 3)
    refine WinW.to T631 (mkF m 123 #[.val (.int p0), .val (.int p1), .val (.int p2), .val (.int p3), .val (.int p4), .val (.int (3 : Int32)), .val (.int c_403), .val (.int c_405), .val (.int c_407), .val (.int c_409), .unset, .unset] [(.ref b631), (.ref b622), (.ref b622)]) (fun _ k => st631 _ k) ?_
    refine WinW.to T631 (mkF m 124 #[.val (.int p0), .val (.int p1), .val (.int p2), .val (.int p3), .val (.int p4), .val (.int (3 : Int32)), .val (.int c_403), .val (.int c_405), .val (.int c_407), .val (.int c_409), .unset, .unset] [(.ref b631), (.ref b631), (.ref b622), (.ref b622)]) (fun _ k => XS.dup X631.here hx rfl (hb hby at_123) rfl rfl k) ?_
    refine WinW.to T631 (mkF m 125 #[.val (.int p0), .val (.int p1), .val (.int p2), .val (.int p3), .val (.int p4), .val (.int (3 : Int32)), .val (.int c_403), .val (.int c_405), .val (.int c_407), .val (.int c_409), .unset, .unset] [(.int (0 : Int32)), (.ref b631), (.ref b631), (.ref b622), (.ref b622)]) (fun _ k => XS.iconst X631.here hx rfl (hb hby at_124) k) ?_
    refine WinW.to T631 (mkF m 127 #[.val (.int p0), .val (.int p1), .val (.int p2), .val (.int p3), .val (.int p4), .val (.int (3 : Int32)), .val (.int c_403), .val (.int c_405), .val (.int c_407), .val (.int c_409), .unset, .unset] [(.int c_403), (.int (0 : Int32)), (.ref b631), (.ref b631), (.ref b622), (.ref b622)]) (fun _ k => XS.iload X631.here hx rfl (hb hby at_125) rfl k) ?_
    obtain ⟨cl640, Ar640, q640, S640, N640, H640, G640⟩ := id F639
    have hi640 : ¬ ((0 : Int32) < 0 ∨ cl640.slots.size ≤ ((0 : Int32)).toNatClampNeg) := inb_of S640 ⟨by decide, by decide⟩
    obtain ⟨T641, h641, X641, e641, W641, st641⟩ := stC X631 hx hZ e631 Ar640 (j := (0 : Int32)) hi640 (g := (mkF m 127 #[.val (.int p0), .val (.int p1), .val (.int p2), .val (.int p3), .val (.int p4), .val (.int (3 : Int32)), .val (.int c_403), .val (.int c_405), .val (.int c_407), .val (.int c_409), .unset, .unset] [(.int c_403), (.int (0 : Int32)), (.ref b631), (.ref b631), (.ref b622), (.ref b622)])) rfl rfl (hb hby at_127)
    have O643 := Old.wr O635 W641 g633
    have K644 : Keep h0 h641 [] := K636.wr W641 (Or.inr z634)
    have N645 := Fr.snoc X641 N410 g633
    have c646 := CHr.wr W641 (Safe.arv hZ.alike F639 (by decide)) C638.1
    have C647 := CHr.trans C638 c646
    have eq641 : nar .char c_403 = c_403 := r403_1
    have W641 := eq641 ▸ W641
    have F642 : Arv Z h641 b631 k631 .char (3 : Int32) [(.int c_403), (.int (0 : Int32)), (.int (0 : Int32))] (.int (0 : Int32)) := Arv.set Ar640 q640 S640 N640 H640 G640 (eq641 ▸ (fits_nar_char _)) W641 0 rfl (Nat.le_of_ble_eq_true rfl)
    refine WinW.to T641 (mkF m 128 #[.val (.int p0), .val (.int p1), .val (.int p2), .val (.int p3), .val (.int p4), .val (.int (3 : Int32)), .val (.int c_403), .val (.int c_405), .val (.int c_407), .val (.int c_409), .unset, .unset] [(.ref b631), (.ref b622), (.ref b622)]) (fun _ k => st641 _ k) ?_
    refine WinW.to T641 (mkF m 129 #[.val (.int p0), .val (.int p1), .val (.int p2), .val (.int p3), .val (.int p4), .val (.int (3 : Int32)), .val (.int c_403), .val (.int c_405), .val (.int c_407), .val (.int c_409), .unset, .unset] [(.ref b631), (.ref b631), (.ref b622), (.ref b622)]) (fun _ k => XS.dup X641.here hx rfl (hb hby at_128) rfl rfl k) ?_
    refine WinW.to T641 (mkF m 130 #[.val (.int p0), .val (.int p1), .val (.int p2), .val (.int p3), .val (.int p4), .val (.int (3 : Int32)), .val (.int c_403), .val (.int c_405), .val (.int c_407), .val (.int c_409), .unset, .unset] [(.int (1 : Int32)), (.ref b631), (.ref b631), (.ref b622), (.ref b622)]) (fun _ k => XS.iconst X641.here hx rfl (hb hby at_129) k) ?_
    refine WinW.to T641 (mkF m 132 #[.val (.int p0), .val (.int p1), .val (.int p2), .val (.int p3), .val (.int p4), .val (.int (3 : Int32)), .val (.int c_403), .val (.int c_405), .val (.int c_407), .val (.int c_409), .unset, .unset] [(.int c_405), (.int (1 : Int32)), (.ref b631), (.ref b631), (.ref b622), (.ref b622)]) (fun _ k => XS.iload X641.here hx rfl (hb hby at_130) rfl k) ?_
    obtain ⟨cl648, Ar648, q648, S648, N648, H648, G648⟩ := id F642
    have hi648 : ¬ ((1 : Int32) < 0 ∨ cl648.slots.size ≤ ((1 : Int32)).toNatClampNeg) := inb_of S648 ⟨by decide, by decide⟩
    obtain ⟨T649, h649, X649, e649, W649, st649⟩ := stC X641 hx hZ e641 Ar648 (j := (1 : Int32)) hi648 (g := (mkF m 132 #[.val (.int p0), .val (.int p1), .val (.int p2), .val (.int p3), .val (.int p4), .val (.int (3 : Int32)), .val (.int c_403), .val (.int c_405), .val (.int c_407), .val (.int c_409), .unset, .unset] [(.int c_405), (.int (1 : Int32)), (.ref b631), (.ref b631), (.ref b622), (.ref b622)])) rfl rfl (hb hby at_132)
    have O651 := Old.wr O643 W649 g633
    have K652 : Keep h0 h649 [] := K644.wr W649 (Or.inr z634)
    have N653 := Fr.snoc X649 N645 g633
    have c654 := CHr.wr W649 (Safe.arv hZ.alike F642 (by decide)) C647.1
    have C655 := CHr.trans C647 c654
    have eq649 : nar .char c_405 = c_405 := r405_1
    have W649 := eq649 ▸ W649
    have F650 : Arv Z h649 b631 k631 .char (3 : Int32) [(.int c_403), (.int c_405), (.int (0 : Int32))] (.int (0 : Int32)) := Arv.set Ar648 q648 S648 N648 H648 G648 (eq649 ▸ (fits_nar_char _)) W649 1 rfl (Nat.le_of_ble_eq_true rfl)
    refine WinW.to T649 (mkF m 133 #[.val (.int p0), .val (.int p1), .val (.int p2), .val (.int p3), .val (.int p4), .val (.int (3 : Int32)), .val (.int c_403), .val (.int c_405), .val (.int c_407), .val (.int c_409), .unset, .unset] [(.ref b631), (.ref b622), (.ref b622)]) (fun _ k => st649 _ k) ?_
    refine WinW.to T649 (mkF m 134 #[.val (.int p0), .val (.int p1), .val (.int p2), .val (.int p3), .val (.int p4), .val (.int (3 : Int32)), .val (.int c_403), .val (.int c_405), .val (.int c_407), .val (.int c_409), .unset, .unset] [(.ref b631), (.ref b631), (.ref b622), (.ref b622)]) (fun _ k => XS.dup X649.here hx rfl (hb hby at_133) rfl rfl k) ?_
    refine WinW.to T649 (mkF m 135 #[.val (.int p0), .val (.int p1), .val (.int p2), .val (.int p3), .val (.int p4), .val (.int (3 : Int32)), .val (.int c_403), .val (.int c_405), .val (.int c_407), .val (.int c_409), .unset, .unset] [(.int (2 : Int32)), (.ref b631), (.ref b631), (.ref b622), (.ref b622)]) (fun _ k => XS.iconst X649.here hx rfl (hb hby at_134) k) ?_
    refine WinW.to T649 (mkF m 137 #[.val (.int p0), .val (.int p1), .val (.int p2), .val (.int p3), .val (.int p4), .val (.int (3 : Int32)), .val (.int c_403), .val (.int c_405), .val (.int c_407), .val (.int c_409), .unset, .unset] [(.int c_407), (.int (2 : Int32)), (.ref b631), (.ref b631), (.ref b622), (.ref b622)]) (fun _ k => XS.iload X649.here hx rfl (hb hby at_135) rfl k) ?_
    obtain ⟨cl656, Ar656, q656, S656, N656, H656, G656⟩ := id F650
    have hi656 : ¬ ((2 : Int32) < 0 ∨ cl656.slots.size ≤ ((2 : Int32)).toNatClampNeg) := inb_of S656 ⟨by decide, by decide⟩
    obtain ⟨T657, h657, X657, e657, W657, st657⟩ := stC X649 hx hZ e649 Ar656 (j := (2 : Int32)) hi656 (g := (mkF m 137 #[.val (.int p0), .val (.int p1), .val (.int p2), .val (.int p3), .val (.int p4), .val (.int (3 : Int32)), .val (.int c_403), .val (.int c_405), .val (.int c_407), .val (.int c_409), .unset, .unset] [(.int c_407), (.int (2 : Int32)), (.ref b631), (.ref b631), (.ref b622), (.ref b622)])) rfl rfl (hb hby at_137)
    have O659 := Old.wr O651 W657 g633
    have K660 : Keep h0 h657 [] := K652.wr W657 (Or.inr z634)
    have N661 := Fr.snoc X657 N653 g633
    have c662 := CHr.wr W657 (Safe.arv hZ.alike F650 (by decide)) C655.1
    have C663 := CHr.trans C655 c662
    have eq657 : nar .char c_407 = c_407 := r407_1
    have W657 := eq657 ▸ W657
    have F658 : Arv Z h657 b631 k631 .char (3 : Int32) [(.int c_403), (.int c_405), (.int c_407)] (.int (0 : Int32)) := Arv.set Ar656 q656 S656 N656 H656 G656 (eq657 ▸ (fits_nar_char _)) W657 2 rfl (Nat.le_of_ble_eq_true rfl)
    refine WinW.to T657 (mkF m 138 #[.val (.int p0), .val (.int p1), .val (.int p2), .val (.int p3), .val (.int p4), .val (.int (3 : Int32)), .val (.int c_403), .val (.int c_405), .val (.int c_407), .val (.int c_409), .unset, .unset] [(.ref b631), (.ref b622), (.ref b622)]) (fun _ k => st657 _ k) ?_
    have F664 : ArF Z h657 b631 k631 .char 3 (fun i => ([c_403, c_405, c_407] : List Int32).getD i (0 : Int32)) := own_arf [c_403, c_405, c_407] F658 rfl
    by_cases hl : ∀ i, i < 3 → ¬ (255 : Int32) < ((fun i => ([c_403, c_405, c_407] : List Int32).getD i (0 : Int32)) : Nat → Int32) i
    · have F665 : Exa Z h657 b622 "java/lang/String" := (Exa.wr W657 (Exa.wr W649 (Exa.wr W641 (Exa.ext E631 A622))))
      have F666 : Fld Z h657 b622 "java/lang/String" "value" "[B" .null := (Fld.other W657 (Fld.other W649 (Fld.other W641 (Fld.ext E631 F629) (Or.inl ne632)) (Or.inl ne632)) (Or.inl ne632))
      have F667 : Fld Z h657 b622 "java/lang/String" "coder" "B" (.int (0 : Int32)) := (Fld.other W657 (Fld.other W649 (Fld.other W641 (Fld.ext E631 F630) (Or.inl ne632)) (Or.inl ne632)) (Or.inl ne632))
      obtain ⟨T668, h668, v668, L668, k668, X668, e668, hS668, hk668, hZ668, hown668, ⟨t_668, kb_668, rfl, N668q, r668_0, r668_1, r668_2, r668_3⟩, c668, st668⟩ := W.special X657 hS0 (Nat.zero_le _) hx hZ (y := (⟨"java/lang/String", "<init>", "([C)V"⟩ : MethodName)) rfl hown (wk hw 9 rfl) (wk hw 10 rfl) (wk hw 7 rfl) (wk hw 11 rfl) (by decide) (ctor1 l Z a0 hw b622 b631 k631 3 (fun i => ([c_403, c_405, c_407] : List Int32).getD i (0 : Int32)) cs h657 n0 O659 F665 F666 F667 F664 hl (by decide) g623 S_CS hcs) (own_EW hw) C663.1 e657 (g := (mkF m 138 #[.val (.int p0), .val (.int p1), .val (.int p2), .val (.int p3), .val (.int p4), .val (.int (3 : Int32)), .val (.int c_403), .val (.int c_405), .val (.int c_407), .val (.int c_409), .unset, .unset] [(.ref b631), (.ref b622), (.ref b622)])) rfl (by rw [hml]; rfl) (a := b622) (argsL := [(.ref b631)]) (rest := [(.ref b622)]) rfl (lenOf pd___C_V rfl) rfl (W := 1) (by show 2 * 0 + _ ≤ _; exact Nat.le_of_eq rfl) (hb hby at_138) (by decide) (by decide) (by decide) (by decide)
      have N669 := Fr.app N661 N668q
      have O670 := Old.keep O659 r668_0 (allS g623 all0)
      have K671 : Keep h0 h668 [] := Keep.trans K660 r668_0 (allS (Or.inr z624) all0)
      have c672 := c668
      have C673 := CHr.trans C663 c672
      refine WinW.to T668 (mkF m 141 #[.val (.int p0), .val (.int p1), .val (.int p2), .val (.int p3), .val (.int p4), .val (.int (3 : Int32)), .val (.int c_403), .val (.int c_405), .val (.int c_407), .val (.int c_409), .unset, .unset] [(.ref b622)]) (fun _ k => st668 _ k) ?_
      refine WinW.to T668 (mkF m 143 #[.val (.int p0), .val (.int p1), .val (.int p2), .val (.int p3), .val (.int p4), .val (.int (3 : Int32)), .val (.int c_403), .val (.int c_405), .val (.int c_407), .val (.int c_409), .val (.ref b622), .unset] []) (fun _ k => XS.astore X668.here hx rfl (hb hby at_141) rfl rfl (l' := #[.val (.int p0), .val (.int p1), .val (.int p2), .val (.int p3), .val (.int p4), .val (.int (3 : Int32)), .val (.int c_403), .val (.int c_405), .val (.int c_407), .val (.int c_409), .val (.ref b622), .unset]) rfl k) ?_
      refine WinW.to T668 (mkF m 178 #[.val (.int p0), .val (.int p1), .val (.int p2), .val (.int p3), .val (.int p4), .val (.int (3 : Int32)), .val (.int c_403), .val (.int c_405), .val (.int c_407), .val (.int c_409), .val (.ref b622), .unset] []) (fun _ k => XS.goto X668.here hx rfl (pc0 := 143) (pc' := 178) rfl (hb hby at_143) (by decide) (by decide) k) ?_
      refine WinW.to T668 (mkF m 180 #[.val (.int p0), .val (.int p1), .val (.int p2), .val (.int p3), .val (.int p4), .val (.int (3 : Int32)), .val (.int c_403), .val (.int c_405), .val (.int c_407), .val (.int c_409), .val (.ref b622), .unset] [(.int (3 : Int32))]) (fun _ k => XS.iload X668.here hx rfl (hb hby at_178) rfl k) ?_
      refine WinW.to T668 (mkF m 181 #[.val (.int p0), .val (.int p1), .val (.int p2), .val (.int p3), .val (.int p4), .val (.int (3 : Int32)), .val (.int c_403), .val (.int c_405), .val (.int c_407), .val (.int c_409), .val (.ref b622), .unset] [(.int (1 : Int32)), (.int (3 : Int32))]) (fun _ k => XS.iconst X668.here hx rfl (hb hby at_180) k) ?_
      refine WinW.to T668 (mkF m 184 #[.val (.int p0), .val (.int p1), .val (.int p2), .val (.int p3), .val (.int p4), .val (.int (3 : Int32)), .val (.int c_403), .val (.int c_405), .val (.int c_407), .val (.int c_409), .val (.ref b622), .unset] []) (fun _ k => XS.icmpNo X668.here hx rfl (hb hby at_181) rfl (flt (show ¬ ((3 : Int32) < (1 : Int32)) from by decide)).1 k) ?_
      refine WinW.to T668 (mkF m 186 #[.val (.int p0), .val (.int p1), .val (.int p2), .val (.int p3), .val (.int p4), .val (.int (3 : Int32)), .val (.int c_403), .val (.int c_405), .val (.int c_407), .val (.int c_409), .val (.ref b622), .unset] [(.int c_403)]) (fun _ k => XS.iload X668.here hx rfl (hb hby at_184) rfl k) ?_
      by_cases hws674 : wsp c_403
      · obtain ⟨T675, h675, v675, L675, X675, e675, ⟨rfl, N675q, r675_0⟩, st675⟩ := N.static X668 hx hZ668 (y := (⟨"com/example/stylewright/stylewright/xdm/TreeBuilderIsWhitespacePinLaw", "ws", "(C)Z"⟩ : MethodName)) hown668 (wk hw 56 rfl) (wk hw 57 rfl) (wk hw 3 rfl) (wk hw 58 rfl) (by decide) (ws1 l Z a0 hw c_403 h668 n0 O670 hws674) e668 (g := (mkF m 186 #[.val (.int p0), .val (.int p1), .val (.int p2), .val (.int p3), .val (.int p4), .val (.int (3 : Int32)), .val (.int c_403), .val (.int c_405), .val (.int c_407), .val (.int c_409), .val (.ref b622), .unset] [(.int c_403)])) rfl (by rw [hml]; rfl) (argsL := [(.int c_403)]) (rest := []) rfl (lenOf pd__C_Z rfl) rfl (W := 0) (by show 2 * 0 + _ ≤ _; exact Nat.le_of_eq rfl) (hb hby at_186) (by decide) (by decide) (by decide) (by decide)
        have N676 := Fr.app N669 N675q
        have e675 := e675.trans r675_0
        refine WinW.to T675 (mkF m 189 #[.val (.int p0), .val (.int p1), .val (.int p2), .val (.int p3), .val (.int p4), .val (.int (3 : Int32)), .val (.int c_403), .val (.int c_405), .val (.int c_407), .val (.int c_409), .val (.ref b622), .unset] [(.int (1 : Int32))]) (fun _ k => st675 _ k) ?_
        refine WinW.to T675 (mkF m 192 #[.val (.int p0), .val (.int p1), .val (.int p2), .val (.int p3), .val (.int p4), .val (.int (3 : Int32)), .val (.int c_403), .val (.int c_405), .val (.int c_407), .val (.int c_409), .val (.ref b622), .unset] []) (fun _ k => XS.ifNo X675.here hx rfl (hb hby at_189) rfl ((if0 _ _).trans (feq (show ¬ ((1 : Int32) = (0 : Int32)) from by decide)).1) k) ?_
        refine WinW.to T675 (mkF m 194 #[.val (.int p0), .val (.int p1), .val (.int p2), .val (.int p3), .val (.int p4), .val (.int (3 : Int32)), .val (.int c_403), .val (.int c_405), .val (.int c_407), .val (.int c_409), .val (.ref b622), .unset] [(.int (3 : Int32))]) (fun _ k => XS.iload X675.here hx rfl (hb hby at_192) rfl k) ?_
        refine WinW.to T675 (mkF m 195 #[.val (.int p0), .val (.int p1), .val (.int p2), .val (.int p3), .val (.int p4), .val (.int (3 : Int32)), .val (.int c_403), .val (.int c_405), .val (.int c_407), .val (.int c_409), .val (.ref b622), .unset] [(.int (2 : Int32)), (.int (3 : Int32))]) (fun _ k => XS.iconst X675.here hx rfl (hb hby at_194) k) ?_
        refine WinW.to T675 (mkF m 198 #[.val (.int p0), .val (.int p1), .val (.int p2), .val (.int p3), .val (.int p4), .val (.int (3 : Int32)), .val (.int c_403), .val (.int c_405), .val (.int c_407), .val (.int c_409), .val (.ref b622), .unset] []) (fun _ k => XS.icmpNo X675.here hx rfl (hb hby at_195) rfl (flt (show ¬ ((3 : Int32) < (2 : Int32)) from by decide)).1 k) ?_
        refine WinW.to T675 (mkF m 200 #[.val (.int p0), .val (.int p1), .val (.int p2), .val (.int p3), .val (.int p4), .val (.int (3 : Int32)), .val (.int c_403), .val (.int c_405), .val (.int c_407), .val (.int c_409), .val (.ref b622), .unset] [(.int c_405)]) (fun _ k => XS.iload X675.here hx rfl (hb hby at_198) rfl k) ?_
        by_cases hws677 : wsp c_405
        · obtain ⟨T678, h678, v678, L678, X678, e678, ⟨rfl, N678q, r678_0⟩, st678⟩ := N.static X675 hx hZ668 (y := (⟨"com/example/stylewright/stylewright/xdm/TreeBuilderIsWhitespacePinLaw", "ws", "(C)Z"⟩ : MethodName)) hown668 (wk hw 56 rfl) (wk hw 57 rfl) (wk hw 3 rfl) (wk hw 58 rfl) (by decide) (ws1 l Z a0 hw c_405 h668 n0 O670 hws677) e675 (g := (mkF m 200 #[.val (.int p0), .val (.int p1), .val (.int p2), .val (.int p3), .val (.int p4), .val (.int (3 : Int32)), .val (.int c_403), .val (.int c_405), .val (.int c_407), .val (.int c_409), .val (.ref b622), .unset] [(.int c_405)])) rfl (by rw [hml]; rfl) (argsL := [(.int c_405)]) (rest := []) rfl (lenOf pd__C_Z rfl) rfl (W := 0) (by show 2 * 0 + _ ≤ _; exact Nat.le_of_eq rfl) (hb hby at_200) (by decide) (by decide) (by decide) (by decide)
          have N679 := Fr.app N676 N678q
          have e678 := e678.trans r678_0
          refine WinW.to T678 (mkF m 203 #[.val (.int p0), .val (.int p1), .val (.int p2), .val (.int p3), .val (.int p4), .val (.int (3 : Int32)), .val (.int c_403), .val (.int c_405), .val (.int c_407), .val (.int c_409), .val (.ref b622), .unset] [(.int (1 : Int32))]) (fun _ k => st678 _ k) ?_
          refine WinW.to T678 (mkF m 206 #[.val (.int p0), .val (.int p1), .val (.int p2), .val (.int p3), .val (.int p4), .val (.int (3 : Int32)), .val (.int c_403), .val (.int c_405), .val (.int c_407), .val (.int c_409), .val (.ref b622), .unset] []) (fun _ k => XS.ifNo X678.here hx rfl (hb hby at_203) rfl ((if0 _ _).trans (feq (show ¬ ((1 : Int32) = (0 : Int32)) from by decide)).1) k) ?_
          refine WinW.to T678 (mkF m 208 #[.val (.int p0), .val (.int p1), .val (.int p2), .val (.int p3), .val (.int p4), .val (.int (3 : Int32)), .val (.int c_403), .val (.int c_405), .val (.int c_407), .val (.int c_409), .val (.ref b622), .unset] [(.int (3 : Int32))]) (fun _ k => XS.iload X678.here hx rfl (hb hby at_206) rfl k) ?_
          refine WinW.to T678 (mkF m 209 #[.val (.int p0), .val (.int p1), .val (.int p2), .val (.int p3), .val (.int p4), .val (.int (3 : Int32)), .val (.int c_403), .val (.int c_405), .val (.int c_407), .val (.int c_409), .val (.ref b622), .unset] [(.int (3 : Int32)), (.int (3 : Int32))]) (fun _ k => XS.iconst X678.here hx rfl (hb hby at_208) k) ?_
          refine WinW.to T678 (mkF m 212 #[.val (.int p0), .val (.int p1), .val (.int p2), .val (.int p3), .val (.int p4), .val (.int (3 : Int32)), .val (.int c_403), .val (.int c_405), .val (.int c_407), .val (.int c_409), .val (.ref b622), .unset] []) (fun _ k => XS.icmpNo X678.here hx rfl (hb hby at_209) rfl (flt (show ¬ ((3 : Int32) < (3 : Int32)) from by decide)).1 k) ?_
          refine WinW.to T678 (mkF m 214 #[.val (.int p0), .val (.int p1), .val (.int p2), .val (.int p3), .val (.int p4), .val (.int (3 : Int32)), .val (.int c_403), .val (.int c_405), .val (.int c_407), .val (.int c_409), .val (.ref b622), .unset] [(.int c_407)]) (fun _ k => XS.iload X678.here hx rfl (hb hby at_212) rfl k) ?_
          by_cases hws680 : wsp c_407
          · obtain ⟨T681, h681, v681, L681, X681, e681, ⟨rfl, N681q, r681_0⟩, st681⟩ := N.static X678 hx hZ668 (y := (⟨"com/example/stylewright/stylewright/xdm/TreeBuilderIsWhitespacePinLaw", "ws", "(C)Z"⟩ : MethodName)) hown668 (wk hw 56 rfl) (wk hw 57 rfl) (wk hw 3 rfl) (wk hw 58 rfl) (by decide) (ws1 l Z a0 hw c_407 h668 n0 O670 hws680) e678 (g := (mkF m 214 #[.val (.int p0), .val (.int p1), .val (.int p2), .val (.int p3), .val (.int p4), .val (.int (3 : Int32)), .val (.int c_403), .val (.int c_405), .val (.int c_407), .val (.int c_409), .val (.ref b622), .unset] [(.int c_407)])) rfl (by rw [hml]; rfl) (argsL := [(.int c_407)]) (rest := []) rfl (lenOf pd__C_Z rfl) rfl (W := 0) (by show 2 * 0 + _ ≤ _; exact Nat.le_of_eq rfl) (hb hby at_214) (by decide) (by decide) (by decide) (by decide)
            have N682 := Fr.app N679 N681q
            have e681 := e681.trans r681_0
            refine WinW.to T681 (mkF m 217 #[.val (.int p0), .val (.int p1), .val (.int p2), .val (.int p3), .val (.int p4), .val (.int (3 : Int32)), .val (.int c_403), .val (.int c_405), .val (.int c_407), .val (.int c_409), .val (.ref b622), .unset] [(.int (1 : Int32))]) (fun _ k => st681 _ k) ?_
            refine WinW.to T681 (mkF m 220 #[.val (.int p0), .val (.int p1), .val (.int p2), .val (.int p3), .val (.int p4), .val (.int (3 : Int32)), .val (.int c_403), .val (.int c_405), .val (.int c_407), .val (.int c_409), .val (.ref b622), .unset] []) (fun _ k => XS.ifNo X681.here hx rfl (hb hby at_217) rfl ((if0 _ _).trans (feq (show ¬ ((1 : Int32) = (0 : Int32)) from by decide)).1) k) ?_
            refine WinW.to T681 (mkF m 222 #[.val (.int p0), .val (.int p1), .val (.int p2), .val (.int p3), .val (.int p4), .val (.int (3 : Int32)), .val (.int c_403), .val (.int c_405), .val (.int c_407), .val (.int c_409), .val (.ref b622), .unset] [(.int (3 : Int32))]) (fun _ k => XS.iload X681.here hx rfl (hb hby at_220) rfl k) ?_
            refine WinW.to T681 (mkF m 223 #[.val (.int p0), .val (.int p1), .val (.int p2), .val (.int p3), .val (.int p4), .val (.int (3 : Int32)), .val (.int c_403), .val (.int c_405), .val (.int c_407), .val (.int c_409), .val (.ref b622), .unset] [(.int (4 : Int32)), (.int (3 : Int32))]) (fun _ k => XS.iconst X681.here hx rfl (hb hby at_222) k) ?_
            refine WinW.to T681 (mkF m 234 #[.val (.int p0), .val (.int p1), .val (.int p2), .val (.int p3), .val (.int p4), .val (.int (3 : Int32)), .val (.int c_403), .val (.int c_405), .val (.int c_407), .val (.int c_409), .val (.ref b622), .unset] []) (fun _ k => XS.icmpYes X681.here hx rfl (pc0 := 223) (pc' := 234) rfl (hb hby at_223) rfl (tlt (show (3 : Int32) < (4 : Int32) from by decide)).1 (by decide) (by decide) k) ?_
            refine WinW.to T681 (mkF m 235 #[.val (.int p0), .val (.int p1), .val (.int p2), .val (.int p3), .val (.int p4), .val (.int (3 : Int32)), .val (.int c_403), .val (.int c_405), .val (.int c_407), .val (.int c_409), .val (.ref b622), .unset] [(.int (1 : Int32))]) (fun _ k => XS.iconst X681.here hx rfl (hb hby at_234) k) ?_
            refine WinW.to T681 (mkF m 239 #[.val (.int p0), .val (.int p1), .val (.int p2), .val (.int p3), .val (.int p4), .val (.int (3 : Int32)), .val (.int c_403), .val (.int c_405), .val (.int c_407), .val (.int c_409), .val (.ref b622), .unset] [(.int (1 : Int32))]) (fun _ k => XS.goto X681.here hx rfl (pc0 := 235) (pc' := 239) rfl (hb hby at_235) (by decide) (by decide) k) ?_
            refine WinW.to T681 (mkF m 241 #[.val (.int p0), .val (.int p1), .val (.int p2), .val (.int p3), .val (.int p4), .val (.int (3 : Int32)), .val (.int c_403), .val (.int c_405), .val (.int c_407), .val (.int c_409), .val (.ref b622), .val (.int (1 : Int32))] []) (fun _ k => XS.istore X681.here hx rfl (hb hby at_239) rfl (l' := #[.val (.int p0), .val (.int p1), .val (.int p2), .val (.int p3), .val (.int p4), .val (.int (3 : Int32)), .val (.int c_403), .val (.int c_405), .val (.int c_407), .val (.int c_409), .val (.ref b622), .val (.int (1 : Int32))]) rfl k) ?_
            refine WinW.to T681 (mkF m 243 #[.val (.int p0), .val (.int p1), .val (.int p2), .val (.int p3), .val (.int p4), .val (.int (3 : Int32)), .val (.int c_403), .val (.int c_405), .val (.int c_407), .val (.int c_409), .val (.ref b622), .val (.int (1 : Int32))] [(.ref b622)]) (fun _ k => XS.aload X681.here hx rfl (hb hby at_241) rfl rfl k) ?_
            have F683 : ArF Z h668 b631 k631 .char 3 (fun i => ([c_403, c_405, c_407] : List Int32).getD i (0 : Int32)) := (F664.keep r668_0 (ninS (Ne.symm ne632) nin0))
            have F684 : Exa Z h668 b622 "java/lang/String" := (F665.keep r668_0)
            obtain ⟨T685, h685, v685, L685, X685, e685, ⟨rfl, N685q, r685_0⟩, st685⟩ := N.static X681 hx hZ668 (y := (⟨"com/example/stylewright/stylewright/xdm/TreeBuilder", "isWhitespace", "(Ljava/lang/CharSequence;)Z"⟩ : MethodName)) hown668 (wk hw 27 rfl) (wk hw 28 rfl) (wk hw 29 rfl) (wk hw 30 rfl) (by decide) (isWs0 l Z a0 hw b622 t_668 kb_668 3 (fun i => ((fun i => ([c_403, c_405, c_407] : List Int32).getD i (0 : Int32)) i).toInt8.toInt32) (fun i => ([c_403, c_405, c_407] : List Int32).getD i (0 : Int32)) (1 : Int32) cs x1 h668 n0 O670 F684 r668_1 r668_2 r668_3 (fun i hi => own_b255 (hl i hi) (own_nc16 (own_fr F683 i hi).1 (own_fr F683 i hi).2)) (fun _ => rfl) ((fun q => absurd (fun i hi => by
              match i, hi with
              | 0, _ => exact hws674
              | 1, _ => exact hws677
              | 2, _ => exact hws680) q)) S_CS hcs S_SI hx1) e681 (g := (mkF m 243 #[.val (.int p0), .val (.int p1), .val (.int p2), .val (.int p3), .val (.int p4), .val (.int (3 : Int32)), .val (.int c_403), .val (.int c_405), .val (.int c_407), .val (.int c_409), .val (.ref b622), .val (.int (1 : Int32))] [(.ref b622)])) rfl (by rw [hml]; rfl) (argsL := [(.ref b622)]) (rest := []) rfl (lenOf pd__Ljava_lang_CharSequence__Z rfl) rfl (W := 0) (by show 2 * 0 + _ ≤ _; exact Nat.le_of_eq rfl) (hb hby at_243) (by decide) (by decide) (by decide) (by decide)
            have N686 := Fr.app N682 N685q
            have e685 := e685.trans r685_0
            refine WinW.to T685 (mkF m 246 #[.val (.int p0), .val (.int p1), .val (.int p2), .val (.int p3), .val (.int p4), .val (.int (3 : Int32)), .val (.int c_403), .val (.int c_405), .val (.int c_407), .val (.int c_409), .val (.ref b622), .val (.int (1 : Int32))] [(.int (1 : Int32))]) (fun _ k => st685 _ k) ?_
            refine WinW.to T685 (mkF m 248 #[.val (.int p0), .val (.int p1), .val (.int p2), .val (.int p3), .val (.int p4), .val (.int (3 : Int32)), .val (.int c_403), .val (.int c_405), .val (.int c_407), .val (.int c_409), .val (.ref b622), .val (.int (1 : Int32))] [(.int (1 : Int32)), (.int (1 : Int32))]) (fun _ k => XS.iload X685.here hx rfl (hb hby at_246) rfl k) ?_
            refine WinW.to T685 (mkF m 251 #[.val (.int p0), .val (.int p1), .val (.int p2), .val (.int p3), .val (.int p4), .val (.int (3 : Int32)), .val (.int c_403), .val (.int c_405), .val (.int c_407), .val (.int c_409), .val (.ref b622), .val (.int (1 : Int32))] []) (fun _ k => XS.icmpNo X685.here hx rfl (hb hby at_248) rfl (teq (show (1 : Int32) = (1 : Int32) from by decide)).2 k) ?_
            refine WinW.to T685 (mkF m 252 #[.val (.int p0), .val (.int p1), .val (.int p2), .val (.int p3), .val (.int p4), .val (.int (3 : Int32)), .val (.int c_403), .val (.int c_405), .val (.int c_407), .val (.int c_409), .val (.ref b622), .val (.int (1 : Int32))] [(.int (1 : Int32))]) (fun _ k => XS.iconst X685.here hx rfl (hb hby at_251) k) ?_
            refine WinW.to T685 (mkF m 256 #[.val (.int p0), .val (.int p1), .val (.int p2), .val (.int p3), .val (.int p4), .val (.int (3 : Int32)), .val (.int c_403), .val (.int c_405), .val (.int c_407), .val (.int c_409), .val (.ref b622), .val (.int (1 : Int32))] [(.int (1 : Int32))]) (fun _ k => XS.goto X685.here hx rfl (pc0 := 252) (pc' := 256) rfl (hb hby at_252) (by decide) (by decide) k) ?_
            exact WinW.retN X685 hS668 (by rw [e685]; exact hk668) hx hlk (t := .boolean) hret (by simp) rfl (hb hby at_256) hZ668 (own_EW hw) (by rw [e685]; exact C673) (by decide) (by decide) (by (try rw [e685]); exact ⟨rfl, N686, trivial⟩)
          · obtain ⟨T687, h687, v687, L687, X687, e687, ⟨rfl, N687q, r687_0⟩, st687⟩ := N.static X678 hx hZ668 (y := (⟨"com/example/stylewright/stylewright/xdm/TreeBuilderIsWhitespacePinLaw", "ws", "(C)Z"⟩ : MethodName)) hown668 (wk hw 56 rfl) (wk hw 57 rfl) (wk hw 3 rfl) (wk hw 58 rfl) (by decide) (ws0 l Z a0 hw c_407 h668 n0 O670 hws680) e678 (g := (mkF m 214 #[.val (.int p0), .val (.int p1), .val (.int p2), .val (.int p3), .val (.int p4), .val (.int (3 : Int32)), .val (.int c_403), .val (.int c_405), .val (.int c_407), .val (.int c_409), .val (.ref b622), .unset] [(.int c_407)])) rfl (by rw [hml]; rfl) (argsL := [(.int c_407)]) (rest := []) rfl (lenOf pd__C_Z rfl) rfl (W := 0) (by show 2 * 0 + _ ≤ _; exact Nat.le_of_eq rfl) (hb hby at_214) (by decide) (by decide) (by decide) (by decide)
            have N688 := Fr.app N679 N687q
            have e687 := e687.trans r687_0
            refine WinW.to T687 (mkF m 217 #[.val (.int p0), .val (.int p1), .val (.int p2), .val (.int p3), .val (.int p4), .val (.int (3 : Int32)), .val (.int c_403), .val (.int c_405), .val (.int c_407), .val (.int c_409), .val (.ref b622), .unset] [(.int (0 : Int32))]) (fun _ k => st687 _ k) ?_
            refine WinW.to T687 (mkF m 238 #[.val (.int p0), .val (.int p1), .val (.int p2), .val (.int p3), .val (.int p4), .val (.int (3 : Int32)), .val (.int c_403), .val (.int c_405), .val (.int c_407), .val (.int c_409), .val (.ref b622), .unset] []) (fun _ k => XS.ifYes X687.here hx rfl (pc0 := 217) (pc' := 238) rfl (hb hby at_217) rfl ((if0 _ _).trans (teq (show (0 : Int32) = (0 : Int32) from by decide)).1) (by decide) (by decide) k) ?_
            refine WinW.to T687 (mkF m 239 #[.val (.int p0), .val (.int p1), .val (.int p2), .val (.int p3), .val (.int p4), .val (.int (3 : Int32)), .val (.int c_403), .val (.int c_405), .val (.int c_407), .val (.int c_409), .val (.ref b622), .unset] [(.int (0 : Int32))]) (fun _ k => XS.iconst X687.here hx rfl (hb hby at_238) k) ?_
            refine WinW.to T687 (mkF m 241 #[.val (.int p0), .val (.int p1), .val (.int p2), .val (.int p3), .val (.int p4), .val (.int (3 : Int32)), .val (.int c_403), .val (.int c_405), .val (.int c_407), .val (.int c_409), .val (.ref b622), .val (.int (0 : Int32))] []) (fun _ k => XS.istore X687.here hx rfl (hb hby at_239) rfl (l' := #[.val (.int p0), .val (.int p1), .val (.int p2), .val (.int p3), .val (.int p4), .val (.int (3 : Int32)), .val (.int c_403), .val (.int c_405), .val (.int c_407), .val (.int c_409), .val (.ref b622), .val (.int (0 : Int32))]) rfl k) ?_
            refine WinW.to T687 (mkF m 243 #[.val (.int p0), .val (.int p1), .val (.int p2), .val (.int p3), .val (.int p4), .val (.int (3 : Int32)), .val (.int c_403), .val (.int c_405), .val (.int c_407), .val (.int c_409), .val (.ref b622), .val (.int (0 : Int32))] [(.ref b622)]) (fun _ k => XS.aload X687.here hx rfl (hb hby at_241) rfl rfl k) ?_
            have F689 : ArF Z h668 b631 k631 .char 3 (fun i => ([c_403, c_405, c_407] : List Int32).getD i (0 : Int32)) := (F664.keep r668_0 (ninS (Ne.symm ne632) nin0))
            have F690 : Exa Z h668 b622 "java/lang/String" := (F665.keep r668_0)
            obtain ⟨T691, h691, v691, L691, X691, e691, ⟨rfl, N691q, r691_0⟩, st691⟩ := N.static X687 hx hZ668 (y := (⟨"com/example/stylewright/stylewright/xdm/TreeBuilder", "isWhitespace", "(Ljava/lang/CharSequence;)Z"⟩ : MethodName)) hown668 (wk hw 27 rfl) (wk hw 28 rfl) (wk hw 29 rfl) (wk hw 30 rfl) (by decide) (isWs0 l Z a0 hw b622 t_668 kb_668 3 (fun i => ((fun i => ([c_403, c_405, c_407] : List Int32).getD i (0 : Int32)) i).toInt8.toInt32) (fun i => ([c_403, c_405, c_407] : List Int32).getD i (0 : Int32)) (0 : Int32) cs x1 h668 n0 O670 F690 r668_1 r668_2 r668_3 (fun i hi => own_b255 (hl i hi) (own_nc16 (own_fr F689 i hi).1 (own_fr F689 i hi).2)) (fun q => absurd (q 2 (by decide)) hws680) (fun _ => rfl) S_CS hcs S_SI hx1) e687 (g := (mkF m 243 #[.val (.int p0), .val (.int p1), .val (.int p2), .val (.int p3), .val (.int p4), .val (.int (3 : Int32)), .val (.int c_403), .val (.int c_405), .val (.int c_407), .val (.int c_409), .val (.ref b622), .val (.int (0 : Int32))] [(.ref b622)])) rfl (by rw [hml]; rfl) (argsL := [(.ref b622)]) (rest := []) rfl (lenOf pd__Ljava_lang_CharSequence__Z rfl) rfl (W := 0) (by show 2 * 0 + _ ≤ _; exact Nat.le_of_eq rfl) (hb hby at_243) (by decide) (by decide) (by decide) (by decide)
            have N692 := Fr.app N688 N691q
            have e691 := e691.trans r691_0
            refine WinW.to T691 (mkF m 246 #[.val (.int p0), .val (.int p1), .val (.int p2), .val (.int p3), .val (.int p4), .val (.int (3 : Int32)), .val (.int c_403), .val (.int c_405), .val (.int c_407), .val (.int c_409), .val (.ref b622), .val (.int (0 : Int32))] [(.int (0 : Int32))]) (fun _ k => st691 _ k) ?_
            refine WinW.to T691 (mkF m 248 #[.val (.int p0), .val (.int p1), .val (.int p2), .val (.int p3), .val (.int p4), .val (.int (3 : Int32)), .val (.int c_403), .val (.int c_405), .val (.int c_407), .val (.int c_409), .val (.ref b622), .val (.int (0 : Int32))] [(.int (0 : Int32)), (.int (0 : Int32))]) (fun _ k => XS.iload X691.here hx rfl (hb hby at_246) rfl k) ?_
            refine WinW.to T691 (mkF m 251 #[.val (.int p0), .val (.int p1), .val (.int p2), .val (.int p3), .val (.int p4), .val (.int (3 : Int32)), .val (.int c_403), .val (.int c_405), .val (.int c_407), .val (.int c_409), .val (.ref b622), .val (.int (0 : Int32))] []) (fun _ k => XS.icmpNo X691.here hx rfl (hb hby at_248) rfl (teq (show (0 : Int32) = (0 : Int32) from by decide)).2 k) ?_
            refine WinW.to T691 (mkF m 252 #[.val (.int p0), .val (.int p1), .val (.int p2), .val (.int p3), .val (.int p4), .val (.int (3 : Int32)), .val (.int c_403), .val (.int c_405), .val (.int c_407), .val (.int c_409), .val (.ref b622), .val (.int (0 : Int32))] [(.int (1 : Int32))]) (fun _ k => XS.iconst X691.here hx rfl (hb hby at_251) k) ?_
            refine WinW.to T691 (mkF m 256 #[.val (.int p0), .val (.int p1), .val (.int p2), .val (.int p3), .val (.int p4), .val (.int (3 : Int32)), .val (.int c_403), .val (.int c_405), .val (.int c_407), .val (.int c_409), .val (.ref b622), .val (.int (0 : Int32))] [(.int (1 : Int32))]) (fun _ k => XS.goto X691.here hx rfl (pc0 := 252) (pc' := 256) rfl (hb hby at_252) (by decide) (by decide) k) ?_
            exact WinW.retN X691 hS668 (by rw [e691]; exact hk668) hx hlk (t := .boolean) hret (by simp) rfl (hb hby at_256) hZ668 (own_EW hw) (by rw [e691]; exact C673) (by decide) (by decide) (by (try rw [e691]); exact ⟨rfl, N692, trivial⟩)
        · obtain ⟨T693, h693, v693, L693, X693, e693, ⟨rfl, N693q, r693_0⟩, st693⟩ := N.static X675 hx hZ668 (y := (⟨"com/example/stylewright/stylewright/xdm/TreeBuilderIsWhitespacePinLaw", "ws", "(C)Z"⟩ : MethodName)) hown668 (wk hw 56 rfl) (wk hw 57 rfl) (wk hw 3 rfl) (wk hw 58 rfl) (by decide) (ws0 l Z a0 hw c_405 h668 n0 O670 hws677) e675 (g := (mkF m 200 #[.val (.int p0), .val (.int p1), .val (.int p2), .val (.int p3), .val (.int p4), .val (.int (3 : Int32)), .val (.int c_403), .val (.int c_405), .val (.int c_407), .val (.int c_409), .val (.ref b622), .unset] [(.int c_405)])) rfl (by rw [hml]; rfl) (argsL := [(.int c_405)]) (rest := []) rfl (lenOf pd__C_Z rfl) rfl (W := 0) (by show 2 * 0 + _ ≤ _; exact Nat.le_of_eq rfl) (hb hby at_200) (by decide) (by decide) (by decide) (by decide)
          have N694 := Fr.app N676 N693q
          have e693 := e693.trans r693_0
          refine WinW.to T693 (mkF m 203 #[.val (.int p0), .val (.int p1), .val (.int p2), .val (.int p3), .val (.int p4), .val (.int (3 : Int32)), .val (.int c_403), .val (.int c_405), .val (.int c_407), .val (.int c_409), .val (.ref b622), .unset] [(.int (0 : Int32))]) (fun _ k => st693 _ k) ?_
          refine WinW.to T693 (mkF m 238 #[.val (.int p0), .val (.int p1), .val (.int p2), .val (.int p3), .val (.int p4), .val (.int (3 : Int32)), .val (.int c_403), .val (.int c_405), .val (.int c_407), .val (.int c_409), .val (.ref b622), .unset] []) (fun _ k => XS.ifYes X693.here hx rfl (pc0 := 203) (pc' := 238) rfl (hb hby at_203) rfl ((if0 _ _).trans (teq (show (0 : Int32) = (0 : Int32) from by decide)).1) (by decide) (by decide) k) ?_
          refine WinW.to T693 (mkF m 239 #[.val (.int p0), .val (.int p1), .val (.int p2), .val (.int p3), .val (.int p4), .val (.int (3 : Int32)), .val (.int c_403), .val (.int c_405), .val (.int c_407), .val (.int c_409), .val (.ref b622), .unset] [(.int (0 : Int32))]) (fun _ k => XS.iconst X693.here hx rfl (hb hby at_238) k) ?_
          refine WinW.to T693 (mkF m 241 #[.val (.int p0), .val (.int p1), .val (.int p2), .val (.int p3), .val (.int p4), .val (.int (3 : Int32)), .val (.int c_403), .val (.int c_405), .val (.int c_407), .val (.int c_409), .val (.ref b622), .val (.int (0 : Int32))] []) (fun _ k => XS.istore X693.here hx rfl (hb hby at_239) rfl (l' := #[.val (.int p0), .val (.int p1), .val (.int p2), .val (.int p3), .val (.int p4), .val (.int (3 : Int32)), .val (.int c_403), .val (.int c_405), .val (.int c_407), .val (.int c_409), .val (.ref b622), .val (.int (0 : Int32))]) rfl k) ?_
          refine WinW.to T693 (mkF m 243 #[.val (.int p0), .val (.int p1), .val (.int p2), .val (.int p3), .val (.int p4), .val (.int (3 : Int32)), .val (.int c_403), .val (.int c_405), .val (.int c_407), .val (.int c_409), .val (.ref b622), .val (.int (0 : Int32))] [(.ref b622)]) (fun _ k => XS.aload X693.here hx rfl (hb hby at_241) rfl rfl k) ?_
          have F695 : ArF Z h668 b631 k631 .char 3 (fun i => ([c_403, c_405, c_407] : List Int32).getD i (0 : Int32)) := (F664.keep r668_0 (ninS (Ne.symm ne632) nin0))
          have F696 : Exa Z h668 b622 "java/lang/String" := (F665.keep r668_0)
          obtain ⟨T697, h697, v697, L697, X697, e697, ⟨rfl, N697q, r697_0⟩, st697⟩ := N.static X693 hx hZ668 (y := (⟨"com/example/stylewright/stylewright/xdm/TreeBuilder", "isWhitespace", "(Ljava/lang/CharSequence;)Z"⟩ : MethodName)) hown668 (wk hw 27 rfl) (wk hw 28 rfl) (wk hw 29 rfl) (wk hw 30 rfl) (by decide) (isWs0 l Z a0 hw b622 t_668 kb_668 3 (fun i => ((fun i => ([c_403, c_405, c_407] : List Int32).getD i (0 : Int32)) i).toInt8.toInt32) (fun i => ([c_403, c_405, c_407] : List Int32).getD i (0 : Int32)) (0 : Int32) cs x1 h668 n0 O670 F696 r668_1 r668_2 r668_3 (fun i hi => own_b255 (hl i hi) (own_nc16 (own_fr F695 i hi).1 (own_fr F695 i hi).2)) (fun q => absurd (q 1 (by decide)) hws677) (fun _ => rfl) S_CS hcs S_SI hx1) e693 (g := (mkF m 243 #[.val (.int p0), .val (.int p1), .val (.int p2), .val (.int p3), .val (.int p4), .val (.int (3 : Int32)), .val (.int c_403), .val (.int c_405), .val (.int c_407), .val (.int c_409), .val (.ref b622), .val (.int (0 : Int32))] [(.ref b622)])) rfl (by rw [hml]; rfl) (argsL := [(.ref b622)]) (rest := []) rfl (lenOf pd__Ljava_lang_CharSequence__Z rfl) rfl (W := 0) (by show 2 * 0 + _ ≤ _; exact Nat.le_of_eq rfl) (hb hby at_243) (by decide) (by decide) (by decide) (by decide)
          have N698 := Fr.app N694 N697q
          have e697 := e697.trans r697_0
          refine WinW.to T697 (mkF m 246 #[.val (.int p0), .val (.int p1), .val (.int p2), .val (.int p3), .val (.int p4), .val (.int (3 : Int32)), .val (.int c_403), .val (.int c_405), .val (.int c_407), .val (.int c_409), .val (.ref b622), .val (.int (0 : Int32))] [(.int (0 : Int32))]) (fun _ k => st697 _ k) ?_
          refine WinW.to T697 (mkF m 248 #[.val (.int p0), .val (.int p1), .val (.int p2), .val (.int p3), .val (.int p4), .val (.int (3 : Int32)), .val (.int c_403), .val (.int c_405), .val (.int c_407), .val (.int c_409), .val (.ref b622), .val (.int (0 : Int32))] [(.int (0 : Int32)), (.int (0 : Int32))]) (fun _ k => XS.iload X697.here hx rfl (hb hby at_246) rfl k) ?_
          refine WinW.to T697 (mkF m 251 #[.val (.int p0), .val (.int p1), .val (.int p2), .val (.int p3), .val (.int p4), .val (.int (3 : Int32)), .val (.int c_403), .val (.int c_405), .val (.int c_407), .val (.int c_409), .val (.ref b622), .val (.int (0 : Int32))] []) (fun _ k => XS.icmpNo X697.here hx rfl (hb hby at_248) rfl (teq (show (0 : Int32) = (0 : Int32) from by decide)).2 k) ?_
          refine WinW.to T697 (mkF m 252 #[.val (.int p0), .val (.int p1), .val (.int p2), .val (.int p3), .val (.int p4), .val (.int (3 : Int32)), .val (.int c_403), .val (.int c_405), .val (.int c_407), .val (.int c_409), .val (.ref b622), .val (.int (0 : Int32))] [(.int (1 : Int32))]) (fun _ k => XS.iconst X697.here hx rfl (hb hby at_251) k) ?_
          refine WinW.to T697 (mkF m 256 #[.val (.int p0), .val (.int p1), .val (.int p2), .val (.int p3), .val (.int p4), .val (.int (3 : Int32)), .val (.int c_403), .val (.int c_405), .val (.int c_407), .val (.int c_409), .val (.ref b622), .val (.int (0 : Int32))] [(.int (1 : Int32))]) (fun _ k => XS.goto X697.here hx rfl (pc0 := 252) (pc' := 256) rfl (hb hby at_252) (by decide) (by decide) k) ?_
          exact WinW.retN X697 hS668 (by rw [e697]; exact hk668) hx hlk (t := .boolean) hret (by simp) rfl (hb hby at_256) hZ668 (own_EW hw) (by rw [e697]; exact C673) (by decide) (by decide) (by (try rw [e697]); exact ⟨rfl, N698, trivial⟩)
      · obtain ⟨T699, h699, v699, L699, X699, e699, ⟨rfl, N699q, r699_0⟩, st699⟩ := N.static X668 hx hZ668 (y := (⟨"com/example/stylewright/stylewright/xdm/TreeBuilderIsWhitespacePinLaw", "ws", "(C)Z"⟩ : MethodName)) hown668 (wk hw 56 rfl) (wk hw 57 rfl) (wk hw 3 rfl) (wk hw 58 rfl) (by decide) (ws0 l Z a0 hw c_403 h668 n0 O670 hws674) e668 (g := (mkF m 186 #[.val (.int p0), .val (.int p1), .val (.int p2), .val (.int p3), .val (.int p4), .val (.int (3 : Int32)), .val (.int c_403), .val (.int c_405), .val (.int c_407), .val (.int c_409), .val (.ref b622), .unset] [(.int c_403)])) rfl (by rw [hml]; rfl) (argsL := [(.int c_403)]) (rest := []) rfl (lenOf pd__C_Z rfl) rfl (W := 0) (by show 2 * 0 + _ ≤ _; exact Nat.le_of_eq rfl) (hb hby at_186) (by decide) (by decide) (by decide) (by decide)
        have N700 := Fr.app N669 N699q
        have e699 := e699.trans r699_0
        refine WinW.to T699 (mkF m 189 #[.val (.int p0), .val (.int p1), .val (.int p2), .val (.int p3), .val (.int p4), .val (.int (3 : Int32)), .val (.int c_403), .val (.int c_405), .val (.int c_407), .val (.int c_409), .val (.ref b622), .unset] [(.int (0 : Int32))]) (fun _ k => st699 _ k) ?_
        refine WinW.to T699 (mkF m 238 #[.val (.int p0), .val (.int p1), .val (.int p2), .val (.int p3), .val (.int p4), .val (.int (3 : Int32)), .val (.int c_403), .val (.int c_405), .val (.int c_407), .val (.int c_409), .val (.ref b622), .unset] []) (fun _ k => XS.ifYes X699.here hx rfl (pc0 := 189) (pc' := 238) rfl (hb hby at_189) rfl ((if0 _ _).trans (teq (show (0 : Int32) = (0 : Int32) from by decide)).1) (by decide) (by decide) k) ?_
        refine WinW.to T699 (mkF m 239 #[.val (.int p0), .val (.int p1), .val (.int p2), .val (.int p3), .val (.int p4), .val (.int (3 : Int32)), .val (.int c_403), .val (.int c_405), .val (.int c_407), .val (.int c_409), .val (.ref b622), .unset] [(.int (0 : Int32))]) (fun _ k => XS.iconst X699.here hx rfl (hb hby at_238) k) ?_
        refine WinW.to T699 (mkF m 241 #[.val (.int p0), .val (.int p1), .val (.int p2), .val (.int p3), .val (.int p4), .val (.int (3 : Int32)), .val (.int c_403), .val (.int c_405), .val (.int c_407), .val (.int c_409), .val (.ref b622), .val (.int (0 : Int32))] []) (fun _ k => XS.istore X699.here hx rfl (hb hby at_239) rfl (l' := #[.val (.int p0), .val (.int p1), .val (.int p2), .val (.int p3), .val (.int p4), .val (.int (3 : Int32)), .val (.int c_403), .val (.int c_405), .val (.int c_407), .val (.int c_409), .val (.ref b622), .val (.int (0 : Int32))]) rfl k) ?_
        refine WinW.to T699 (mkF m 243 #[.val (.int p0), .val (.int p1), .val (.int p2), .val (.int p3), .val (.int p4), .val (.int (3 : Int32)), .val (.int c_403), .val (.int c_405), .val (.int c_407), .val (.int c_409), .val (.ref b622), .val (.int (0 : Int32))] [(.ref b622)]) (fun _ k => XS.aload X699.here hx rfl (hb hby at_241) rfl rfl k) ?_
        have F701 : ArF Z h668 b631 k631 .char 3 (fun i => ([c_403, c_405, c_407] : List Int32).getD i (0 : Int32)) := (F664.keep r668_0 (ninS (Ne.symm ne632) nin0))
        have F702 : Exa Z h668 b622 "java/lang/String" := (F665.keep r668_0)
        obtain ⟨T703, h703, v703, L703, X703, e703, ⟨rfl, N703q, r703_0⟩, st703⟩ := N.static X699 hx hZ668 (y := (⟨"com/example/stylewright/stylewright/xdm/TreeBuilder", "isWhitespace", "(Ljava/lang/CharSequence;)Z"⟩ : MethodName)) hown668 (wk hw 27 rfl) (wk hw 28 rfl) (wk hw 29 rfl) (wk hw 30 rfl) (by decide) (isWs0 l Z a0 hw b622 t_668 kb_668 3 (fun i => ((fun i => ([c_403, c_405, c_407] : List Int32).getD i (0 : Int32)) i).toInt8.toInt32) (fun i => ([c_403, c_405, c_407] : List Int32).getD i (0 : Int32)) (0 : Int32) cs x1 h668 n0 O670 F702 r668_1 r668_2 r668_3 (fun i hi => own_b255 (hl i hi) (own_nc16 (own_fr F701 i hi).1 (own_fr F701 i hi).2)) (fun q => absurd (q 0 (by decide)) hws674) (fun _ => rfl) S_CS hcs S_SI hx1) e699 (g := (mkF m 243 #[.val (.int p0), .val (.int p1), .val (.int p2), .val (.int p3), .val (.int p4), .val (.int (3 : Int32)), .val (.int c_403), .val (.int c_405), .val (.int c_407), .val (.int c_409), .val (.ref b622), .val (.int (0 : Int32))] [(.ref b622)])) rfl (by rw [hml]; rfl) (argsL := [(.ref b622)]) (rest := []) rfl (lenOf pd__Ljava_lang_CharSequence__Z rfl) rfl (W := 0) (by show 2 * 0 + _ ≤ _; exact Nat.le_of_eq rfl) (hb hby at_243) (by decide) (by decide) (by decide) (by decide)
        have N704 := Fr.app N700 N703q
        have e703 := e703.trans r703_0
        refine WinW.to T703 (mkF m 246 #[.val (.int p0), .val (.int p1), .val (.int p2), .val (.int p3), .val (.int p4), .val (.int (3 : Int32)), .val (.int c_403), .val (.int c_405), .val (.int c_407), .val (.int c_409), .val (.ref b622), .val (.int (0 : Int32))] [(.int (0 : Int32))]) (fun _ k => st703 _ k) ?_
        refine WinW.to T703 (mkF m 248 #[.val (.int p0), .val (.int p1), .val (.int p2), .val (.int p3), .val (.int p4), .val (.int (3 : Int32)), .val (.int c_403), .val (.int c_405), .val (.int c_407), .val (.int c_409), .val (.ref b622), .val (.int (0 : Int32))] [(.int (0 : Int32)), (.int (0 : Int32))]) (fun _ k => XS.iload X703.here hx rfl (hb hby at_246) rfl k) ?_
        refine WinW.to T703 (mkF m 251 #[.val (.int p0), .val (.int p1), .val (.int p2), .val (.int p3), .val (.int p4), .val (.int (3 : Int32)), .val (.int c_403), .val (.int c_405), .val (.int c_407), .val (.int c_409), .val (.ref b622), .val (.int (0 : Int32))] []) (fun _ k => XS.icmpNo X703.here hx rfl (hb hby at_248) rfl (teq (show (0 : Int32) = (0 : Int32) from by decide)).2 k) ?_
        refine WinW.to T703 (mkF m 252 #[.val (.int p0), .val (.int p1), .val (.int p2), .val (.int p3), .val (.int p4), .val (.int (3 : Int32)), .val (.int c_403), .val (.int c_405), .val (.int c_407), .val (.int c_409), .val (.ref b622), .val (.int (0 : Int32))] [(.int (1 : Int32))]) (fun _ k => XS.iconst X703.here hx rfl (hb hby at_251) k) ?_
        refine WinW.to T703 (mkF m 256 #[.val (.int p0), .val (.int p1), .val (.int p2), .val (.int p3), .val (.int p4), .val (.int (3 : Int32)), .val (.int c_403), .val (.int c_405), .val (.int c_407), .val (.int c_409), .val (.ref b622), .val (.int (0 : Int32))] [(.int (1 : Int32))]) (fun _ k => XS.goto X703.here hx rfl (pc0 := 252) (pc' := 256) rfl (hb hby at_252) (by decide) (by decide) k) ?_
        exact WinW.retN X703 hS668 (by rw [e703]; exact hk668) hx hlk (t := .boolean) hret (by simp) rfl (hb hby at_256) hZ668 (own_EW hw) (by rw [e703]; exact C673) (by decide) (by decide) (by (try rw [e703]); exact ⟨rfl, N704, trivial⟩)
    · have F705 : Exa Z h657 b622 "java/lang/String" := (Exa.wr W657 (Exa.wr W649 (Exa.wr W641 (Exa.ext E631 A622))))
      have F706 : Fld Z h657 b622 "java/lang/String" "value" "[B" .null := (Fld.other W657 (Fld.other W649 (Fld.other W641 (Fld.ext E631 F629) (Or.inl ne632)) (Or.inl ne632)) (Or.inl ne632))
      have F707 : Fld Z h657 b622 "java/lang/String" "coder" "B" (.int (0 : Int32)) := (Fld.other W657 (Fld.other W649 (Fld.other W641 (Fld.ext E631 F630) (Or.inl ne632)) (Or.inl ne632)) (Or.inl ne632))
      have S709 : Safe Z EL1 (s.setVm s.vm).vm h657 b622 := own_safe hZ.alike F705 F706 (wk hw 6 rfl)
      obtain ⟨T708, h708, v708, L708, X708, e708, ⟨t_708, kb_708, rfl, N708q, r708_0, r708_1, r708_2, r708_3, r708_4⟩, st708⟩ := N.special X657 hx hZ (y := (⟨"java/lang/String", "<init>", "([C)V"⟩ : MethodName)) rfl hown (wk hw 9 rfl) (wk hw 10 rfl) (wk hw 7 rfl) (wk hw 11 rfl) (by decide) (ctor1u l Z a0 hw b622 b631 k631 3 (fun i => ([c_403, c_405, c_407] : List Int32).getD i (0 : Int32)) cs h657 n0 O659 F705 F706 F707 F664 (by decide) (Classical.byContradiction fun q => hl fun i hi hp => q ⟨i, hi, hp⟩) g623 S_AD S_HI S_LO S_CS hcs) e657 (g := (mkF m 138 #[.val (.int p0), .val (.int p1), .val (.int p2), .val (.int p3), .val (.int p4), .val (.int (3 : Int32)), .val (.int c_403), .val (.int c_405), .val (.int c_407), .val (.int c_409), .unset, .unset] [(.ref b631), (.ref b622), (.ref b622)])) rfl (by rw [hml]; rfl) (a := b622) (argsL := [(.ref b631)]) (rest := [(.ref b622)]) rfl (lenOf pd___C_V rfl) rfl (W := 1) (by show 2 * 0 + _ ≤ _; exact Nat.le_of_eq rfl) (hb hby at_138) (by decide) (by decide) (by decide) (by decide)
      have N710 := Fr.app N661 N708q
      have ne711 : b622 ≠ t_708 := Nat.ne_of_lt (Nat.lt_of_lt_of_le F705.lt r708_1)
      have ne712 : b631 ≠ t_708 := Nat.ne_of_lt (Nat.lt_of_lt_of_le F658.lt r708_1)
      have g713 : n0 ≤ t_708 := Nat.le_trans (own_le O659) r708_1
      have z714 : h0.size ≤ t_708 := Nat.le_trans K660.1 r708_1
      have O715 := Old.keep O659 r708_0 (allS g623 all0)
      have K716 : Keep h0 h708 [] := Keep.trans K660 r708_0 (allS (Or.inr z624) all0)
      have c717 := CHr.keep r708_0 (sfS S709 sf0) C663.1
      have C718 := CHr.trans C663 c717
      have S719 := CHr.safe c717 F705.lt S709
      refine WinW.to T708 (mkF m 141 #[.val (.int p0), .val (.int p1), .val (.int p2), .val (.int p3), .val (.int p4), .val (.int (3 : Int32)), .val (.int c_403), .val (.int c_405), .val (.int c_407), .val (.int c_409), .unset, .unset] [(.ref b622)]) (fun _ k => st708 _ k) ?_
      refine WinW.to T708 (mkF m 143 #[.val (.int p0), .val (.int p1), .val (.int p2), .val (.int p3), .val (.int p4), .val (.int (3 : Int32)), .val (.int c_403), .val (.int c_405), .val (.int c_407), .val (.int c_409), .val (.ref b622), .unset] []) (fun _ k => XS.astore X708.here hx rfl (hb hby at_141) rfl rfl (l' := #[.val (.int p0), .val (.int p1), .val (.int p2), .val (.int p3), .val (.int p4), .val (.int (3 : Int32)), .val (.int c_403), .val (.int c_405), .val (.int c_407), .val (.int c_409), .val (.ref b622), .unset]) rfl k) ?_
      refine WinW.to T708 (mkF m 178 #[.val (.int p0), .val (.int p1), .val (.int p2), .val (.int p3), .val (.int p4), .val (.int (3 : Int32)), .val (.int c_403), .val (.int c_405), .val (.int c_407), .val (.int c_409), .val (.ref b622), .unset] []) (fun _ k => XS.goto X708.here hx rfl (pc0 := 143) (pc' := 178) rfl (hb hby at_143) (by decide) (by decide) k) ?_
      refine WinW.to T708 (mkF m 180 #[.val (.int p0), .val (.int p1), .val (.int p2), .val (.int p3), .val (.int p4), .val (.int (3 : Int32)), .val (.int c_403), .val (.int c_405), .val (.int c_407), .val (.int c_409), .val (.ref b622), .unset] [(.int (3 : Int32))]) (fun _ k => XS.iload X708.here hx rfl (hb hby at_178) rfl k) ?_
      refine WinW.to T708 (mkF m 181 #[.val (.int p0), .val (.int p1), .val (.int p2), .val (.int p3), .val (.int p4), .val (.int (3 : Int32)), .val (.int c_403), .val (.int c_405), .val (.int c_407), .val (.int c_409), .val (.ref b622), .unset] [(.int (1 : Int32)), (.int (3 : Int32))]) (fun _ k => XS.iconst X708.here hx rfl (hb hby at_180) k) ?_
      refine WinW.to T708 (mkF m 184 #[.val (.int p0), .val (.int p1), .val (.int p2), .val (.int p3), .val (.int p4), .val (.int (3 : Int32)), .val (.int c_403), .val (.int c_405), .val (.int c_407), .val (.int c_409), .val (.ref b622), .unset] []) (fun _ k => XS.icmpNo X708.here hx rfl (hb hby at_181) rfl (flt (show ¬ ((3 : Int32) < (1 : Int32)) from by decide)).1 k) ?_
      refine WinW.to T708 (mkF m 186 #[.val (.int p0), .val (.int p1), .val (.int p2), .val (.int p3), .val (.int p4), .val (.int (3 : Int32)), .val (.int c_403), .val (.int c_405), .val (.int c_407), .val (.int c_409), .val (.ref b622), .unset] [(.int c_403)]) (fun _ k => XS.iload X708.here hx rfl (hb hby at_184) rfl k) ?_
      by_cases hws720 : wsp c_403
      · have F722 : Exa Z h708 b622 "java/lang/String" := (F705.keep r708_0)
        obtain ⟨T721, h721, v721, L721, X721, e721, ⟨rfl, N721q, r721_0⟩, st721⟩ := N.static X708 hx hZ (y := (⟨"com/example/stylewright/stylewright/xdm/TreeBuilderIsWhitespacePinLaw", "ws", "(C)Z"⟩ : MethodName)) hown (wk hw 56 rfl) (wk hw 57 rfl) (wk hw 3 rfl) (wk hw 58 rfl) (by decide) (ws1 l Z a0 hw c_403 h708 n0 O715 hws720) e708 (g := (mkF m 186 #[.val (.int p0), .val (.int p1), .val (.int p2), .val (.int p3), .val (.int p4), .val (.int (3 : Int32)), .val (.int c_403), .val (.int c_405), .val (.int c_407), .val (.int c_409), .val (.ref b622), .unset] [(.int c_403)])) rfl (by rw [hml]; rfl) (argsL := [(.int c_403)]) (rest := []) rfl (lenOf pd__C_Z rfl) rfl (W := 0) (by show 2 * 0 + _ ≤ _; exact Nat.le_of_eq rfl) (hb hby at_186) (by decide) (by decide) (by decide) (by decide)
        have N723 := Fr.app N710 N721q
        have e721 := e721.trans r721_0
        refine WinW.to T721 (mkF m 189 #[.val (.int p0), .val (.int p1), .val (.int p2), .val (.int p3), .val (.int p4), .val (.int (3 : Int32)), .val (.int c_403), .val (.int c_405), .val (.int c_407), .val (.int c_409), .val (.ref b622), .unset] [(.int (1 : Int32))]) (fun _ k => st721 _ k) ?_
        refine WinW.to T721 (mkF m 192 #[.val (.int p0), .val (.int p1), .val (.int p2), .val (.int p3), .val (.int p4), .val (.int (3 : Int32)), .val (.int c_403), .val (.int c_405), .val (.int c_407), .val (.int c_409), .val (.ref b622), .unset] []) (fun _ k => XS.ifNo X721.here hx rfl (hb hby at_189) rfl ((if0 _ _).trans (feq (show ¬ ((1 : Int32) = (0 : Int32)) from by decide)).1) k) ?_
        refine WinW.to T721 (mkF m 194 #[.val (.int p0), .val (.int p1), .val (.int p2), .val (.int p3), .val (.int p4), .val (.int (3 : Int32)), .val (.int c_403), .val (.int c_405), .val (.int c_407), .val (.int c_409), .val (.ref b622), .unset] [(.int (3 : Int32))]) (fun _ k => XS.iload X721.here hx rfl (hb hby at_192) rfl k) ?_
        refine WinW.to T721 (mkF m 195 #[.val (.int p0), .val (.int p1), .val (.int p2), .val (.int p3), .val (.int p4), .val (.int (3 : Int32)), .val (.int c_403), .val (.int c_405), .val (.int c_407), .val (.int c_409), .val (.ref b622), .unset] [(.int (2 : Int32)), (.int (3 : Int32))]) (fun _ k => XS.iconst X721.here hx rfl (hb hby at_194) k) ?_
        refine WinW.to T721 (mkF m 198 #[.val (.int p0), .val (.int p1), .val (.int p2), .val (.int p3), .val (.int p4), .val (.int (3 : Int32)), .val (.int c_403), .val (.int c_405), .val (.int c_407), .val (.int c_409), .val (.ref b622), .unset] []) (fun _ k => XS.icmpNo X721.here hx rfl (hb hby at_195) rfl (flt (show ¬ ((3 : Int32) < (2 : Int32)) from by decide)).1 k) ?_
        refine WinW.to T721 (mkF m 200 #[.val (.int p0), .val (.int p1), .val (.int p2), .val (.int p3), .val (.int p4), .val (.int (3 : Int32)), .val (.int c_403), .val (.int c_405), .val (.int c_407), .val (.int c_409), .val (.ref b622), .unset] [(.int c_405)]) (fun _ k => XS.iload X721.here hx rfl (hb hby at_198) rfl k) ?_
        by_cases hws724 : wsp c_405
        · obtain ⟨T725, h725, v725, L725, X725, e725, ⟨rfl, N725q, r725_0⟩, st725⟩ := N.static X721 hx hZ (y := (⟨"com/example/stylewright/stylewright/xdm/TreeBuilderIsWhitespacePinLaw", "ws", "(C)Z"⟩ : MethodName)) hown (wk hw 56 rfl) (wk hw 57 rfl) (wk hw 3 rfl) (wk hw 58 rfl) (by decide) (ws1 l Z a0 hw c_405 h708 n0 O715 hws724) e721 (g := (mkF m 200 #[.val (.int p0), .val (.int p1), .val (.int p2), .val (.int p3), .val (.int p4), .val (.int (3 : Int32)), .val (.int c_403), .val (.int c_405), .val (.int c_407), .val (.int c_409), .val (.ref b622), .unset] [(.int c_405)])) rfl (by rw [hml]; rfl) (argsL := [(.int c_405)]) (rest := []) rfl (lenOf pd__C_Z rfl) rfl (W := 0) (by show 2 * 0 + _ ≤ _; exact Nat.le_of_eq rfl) (hb hby at_200) (by decide) (by decide) (by decide) (by decide)
          have N726 := Fr.app N723 N725q
          have e725 := e725.trans r725_0
          refine WinW.to T725 (mkF m 203 #[.val (.int p0), .val (.int p1), .val (.int p2), .val (.int p3), .val (.int p4), .val (.int (3 : Int32)), .val (.int c_403), .val (.int c_405), .val (.int c_407), .val (.int c_409), .val (.ref b622), .unset] [(.int (1 : Int32))]) (fun _ k => st725 _ k) ?_
          refine WinW.to T725 (mkF m 206 #[.val (.int p0), .val (.int p1), .val (.int p2), .val (.int p3), .val (.int p4), .val (.int (3 : Int32)), .val (.int c_403), .val (.int c_405), .val (.int c_407), .val (.int c_409), .val (.ref b622), .unset] []) (fun _ k => XS.ifNo X725.here hx rfl (hb hby at_203) rfl ((if0 _ _).trans (feq (show ¬ ((1 : Int32) = (0 : Int32)) from by decide)).1) k) ?_
          refine WinW.to T725 (mkF m 208 #[.val (.int p0), .val (.int p1), .val (.int p2), .val (.int p3), .val (.int p4), .val (.int (3 : Int32)), .val (.int c_403), .val (.int c_405), .val (.int c_407), .val (.int c_409), .val (.ref b622), .unset] [(.int (3 : Int32))]) (fun _ k => XS.iload X725.here hx rfl (hb hby at_206) rfl k) ?_
          refine WinW.to T725 (mkF m 209 #[.val (.int p0), .val (.int p1), .val (.int p2), .val (.int p3), .val (.int p4), .val (.int (3 : Int32)), .val (.int c_403), .val (.int c_405), .val (.int c_407), .val (.int c_409), .val (.ref b622), .unset] [(.int (3 : Int32)), (.int (3 : Int32))]) (fun _ k => XS.iconst X725.here hx rfl (hb hby at_208) k) ?_
          refine WinW.to T725 (mkF m 212 #[.val (.int p0), .val (.int p1), .val (.int p2), .val (.int p3), .val (.int p4), .val (.int (3 : Int32)), .val (.int c_403), .val (.int c_405), .val (.int c_407), .val (.int c_409), .val (.ref b622), .unset] []) (fun _ k => XS.icmpNo X725.here hx rfl (hb hby at_209) rfl (flt (show ¬ ((3 : Int32) < (3 : Int32)) from by decide)).1 k) ?_
          refine WinW.to T725 (mkF m 214 #[.val (.int p0), .val (.int p1), .val (.int p2), .val (.int p3), .val (.int p4), .val (.int (3 : Int32)), .val (.int c_403), .val (.int c_405), .val (.int c_407), .val (.int c_409), .val (.ref b622), .unset] [(.int c_407)]) (fun _ k => XS.iload X725.here hx rfl (hb hby at_212) rfl k) ?_
          by_cases hws727 : wsp c_407
          · obtain ⟨T728, h728, v728, L728, X728, e728, ⟨rfl, N728q, r728_0⟩, st728⟩ := N.static X725 hx hZ (y := (⟨"com/example/stylewright/stylewright/xdm/TreeBuilderIsWhitespacePinLaw", "ws", "(C)Z"⟩ : MethodName)) hown (wk hw 56 rfl) (wk hw 57 rfl) (wk hw 3 rfl) (wk hw 58 rfl) (by decide) (ws1 l Z a0 hw c_407 h708 n0 O715 hws727) e725 (g := (mkF m 214 #[.val (.int p0), .val (.int p1), .val (.int p2), .val (.int p3), .val (.int p4), .val (.int (3 : Int32)), .val (.int c_403), .val (.int c_405), .val (.int c_407), .val (.int c_409), .val (.ref b622), .unset] [(.int c_407)])) rfl (by rw [hml]; rfl) (argsL := [(.int c_407)]) (rest := []) rfl (lenOf pd__C_Z rfl) rfl (W := 0) (by show 2 * 0 + _ ≤ _; exact Nat.le_of_eq rfl) (hb hby at_214) (by decide) (by decide) (by decide) (by decide)
            have N729 := Fr.app N726 N728q
            have e728 := e728.trans r728_0
            refine WinW.to T728 (mkF m 217 #[.val (.int p0), .val (.int p1), .val (.int p2), .val (.int p3), .val (.int p4), .val (.int (3 : Int32)), .val (.int c_403), .val (.int c_405), .val (.int c_407), .val (.int c_409), .val (.ref b622), .unset] [(.int (1 : Int32))]) (fun _ k => st728 _ k) ?_
            refine WinW.to T728 (mkF m 220 #[.val (.int p0), .val (.int p1), .val (.int p2), .val (.int p3), .val (.int p4), .val (.int (3 : Int32)), .val (.int c_403), .val (.int c_405), .val (.int c_407), .val (.int c_409), .val (.ref b622), .unset] []) (fun _ k => XS.ifNo X728.here hx rfl (hb hby at_217) rfl ((if0 _ _).trans (feq (show ¬ ((1 : Int32) = (0 : Int32)) from by decide)).1) k) ?_
            refine WinW.to T728 (mkF m 222 #[.val (.int p0), .val (.int p1), .val (.int p2), .val (.int p3), .val (.int p4), .val (.int (3 : Int32)), .val (.int c_403), .val (.int c_405), .val (.int c_407), .val (.int c_409), .val (.ref b622), .unset] [(.int (3 : Int32))]) (fun _ k => XS.iload X728.here hx rfl (hb hby at_220) rfl k) ?_
            refine WinW.to T728 (mkF m 223 #[.val (.int p0), .val (.int p1), .val (.int p2), .val (.int p3), .val (.int p4), .val (.int (3 : Int32)), .val (.int c_403), .val (.int c_405), .val (.int c_407), .val (.int c_409), .val (.ref b622), .unset] [(.int (4 : Int32)), (.int (3 : Int32))]) (fun _ k => XS.iconst X728.here hx rfl (hb hby at_222) k) ?_
            refine WinW.to T728 (mkF m 234 #[.val (.int p0), .val (.int p1), .val (.int p2), .val (.int p3), .val (.int p4), .val (.int (3 : Int32)), .val (.int c_403), .val (.int c_405), .val (.int c_407), .val (.int c_409), .val (.ref b622), .unset] []) (fun _ k => XS.icmpYes X728.here hx rfl (pc0 := 223) (pc' := 234) rfl (hb hby at_223) rfl (tlt (show (3 : Int32) < (4 : Int32) from by decide)).1 (by decide) (by decide) k) ?_
            refine WinW.to T728 (mkF m 235 #[.val (.int p0), .val (.int p1), .val (.int p2), .val (.int p3), .val (.int p4), .val (.int (3 : Int32)), .val (.int c_403), .val (.int c_405), .val (.int c_407), .val (.int c_409), .val (.ref b622), .unset] [(.int (1 : Int32))]) (fun _ k => XS.iconst X728.here hx rfl (hb hby at_234) k) ?_
            refine WinW.to T728 (mkF m 239 #[.val (.int p0), .val (.int p1), .val (.int p2), .val (.int p3), .val (.int p4), .val (.int (3 : Int32)), .val (.int c_403), .val (.int c_405), .val (.int c_407), .val (.int c_409), .val (.ref b622), .unset] [(.int (1 : Int32))]) (fun _ k => XS.goto X728.here hx rfl (pc0 := 235) (pc' := 239) rfl (hb hby at_235) (by decide) (by decide) k) ?_
            refine WinW.to T728 (mkF m 241 #[.val (.int p0), .val (.int p1), .val (.int p2), .val (.int p3), .val (.int p4), .val (.int (3 : Int32)), .val (.int c_403), .val (.int c_405), .val (.int c_407), .val (.int c_409), .val (.ref b622), .val (.int (1 : Int32))] []) (fun _ k => XS.istore X728.here hx rfl (hb hby at_239) rfl (l' := #[.val (.int p0), .val (.int p1), .val (.int p2), .val (.int p3), .val (.int p4), .val (.int (3 : Int32)), .val (.int c_403), .val (.int c_405), .val (.int c_407), .val (.int c_409), .val (.ref b622), .val (.int (1 : Int32))]) rfl k) ?_
            refine WinW.to T728 (mkF m 243 #[.val (.int p0), .val (.int p1), .val (.int p2), .val (.int p3), .val (.int p4), .val (.int (3 : Int32)), .val (.int c_403), .val (.int c_405), .val (.int c_407), .val (.int c_409), .val (.ref b622), .val (.int (1 : Int32))] [(.ref b622)]) (fun _ k => XS.aload X728.here hx rfl (hb hby at_241) rfl rfl k) ?_
            have F730 : ArF Z h708 b631 k631 .char 3 (fun i => ([c_403, c_405, c_407] : List Int32).getD i (0 : Int32)) := (F664.keep r708_0 (ninS (Ne.symm ne632) nin0))
            obtain ⟨T731, h731, v731, L731, X731, e731, ⟨rfl, N731q, r731_0⟩, st731⟩ := N.static X728 hx hZ (y := (⟨"com/example/stylewright/stylewright/xdm/TreeBuilder", "isWhitespace", "(Ljava/lang/CharSequence;)Z"⟩ : MethodName)) hown (wk hw 27 rfl) (wk hw 28 rfl) (wk hw 29 rfl) (wk hw 30 rfl) (by decide) (isWs1 l Z a0 hw b622 t_708 kb_708 3 (fun i => ([c_403, c_405, c_407] : List Int32).getD i (0 : Int32)) (fun i => ([c_403, c_405, c_407] : List Int32).getD i (0 : Int32)) (1 : Int32) cs x1 h708 n0 O715 F722 r708_2 r708_3 r708_4 (own_fr F730) (fun i _ => rfl) S_AD S_HI S_LO (fun _ => rfl) ((fun q => absurd (fun i hi => by
              match i, hi with
              | 0, _ => exact hws720
              | 1, _ => exact hws724
              | 2, _ => exact hws727) q)) S_CS hcs S_SI hx1) e728 (g := (mkF m 243 #[.val (.int p0), .val (.int p1), .val (.int p2), .val (.int p3), .val (.int p4), .val (.int (3 : Int32)), .val (.int c_403), .val (.int c_405), .val (.int c_407), .val (.int c_409), .val (.ref b622), .val (.int (1 : Int32))] [(.ref b622)])) rfl (by rw [hml]; rfl) (argsL := [(.ref b622)]) (rest := []) rfl (lenOf pd__Ljava_lang_CharSequence__Z rfl) rfl (W := 0) (by show 2 * 0 + _ ≤ _; exact Nat.le_of_eq rfl) (hb hby at_243) (by decide) (by decide) (by decide) (by decide)
            have N732 := Fr.app N729 N731q
            have e731 := e731.trans r731_0
            refine WinW.to T731 (mkF m 246 #[.val (.int p0), .val (.int p1), .val (.int p2), .val (.int p3), .val (.int p4), .val (.int (3 : Int32)), .val (.int c_403), .val (.int c_405), .val (.int c_407), .val (.int c_409), .val (.ref b622), .val (.int (1 : Int32))] [(.int (1 : Int32))]) (fun _ k => st731 _ k) ?_
            refine WinW.to T731 (mkF m 248 #[.val (.int p0), .val (.int p1), .val (.int p2), .val (.int p3), .val (.int p4), .val (.int (3 : Int32)), .val (.int c_403), .val (.int c_405), .val (.int c_407), .val (.int c_409), .val (.ref b622), .val (.int (1 : Int32))] [(.int (1 : Int32)), (.int (1 : Int32))]) (fun _ k => XS.iload X731.here hx rfl (hb hby at_246) rfl k) ?_
            refine WinW.to T731 (mkF m 251 #[.val (.int p0), .val (.int p1), .val (.int p2), .val (.int p3), .val (.int p4), .val (.int (3 : Int32)), .val (.int c_403), .val (.int c_405), .val (.int c_407), .val (.int c_409), .val (.ref b622), .val (.int (1 : Int32))] []) (fun _ k => XS.icmpNo X731.here hx rfl (hb hby at_248) rfl (teq (show (1 : Int32) = (1 : Int32) from by decide)).2 k) ?_
            refine WinW.to T731 (mkF m 252 #[.val (.int p0), .val (.int p1), .val (.int p2), .val (.int p3), .val (.int p4), .val (.int (3 : Int32)), .val (.int c_403), .val (.int c_405), .val (.int c_407), .val (.int c_409), .val (.ref b622), .val (.int (1 : Int32))] [(.int (1 : Int32))]) (fun _ k => XS.iconst X731.here hx rfl (hb hby at_251) k) ?_
            refine WinW.to T731 (mkF m 256 #[.val (.int p0), .val (.int p1), .val (.int p2), .val (.int p3), .val (.int p4), .val (.int (3 : Int32)), .val (.int c_403), .val (.int c_405), .val (.int c_407), .val (.int c_409), .val (.ref b622), .val (.int (1 : Int32))] [(.int (1 : Int32))]) (fun _ k => XS.goto X731.here hx rfl (pc0 := 252) (pc' := 256) rfl (hb hby at_252) (by decide) (by decide) k) ?_
            exact WinW.retN X731 hS0 (by rw [e731]; exact (Nat.zero_le _)) hx hlk (t := .boolean) hret (by simp) rfl (hb hby at_256) hZ (own_EW hw) (by rw [e731]; exact C718) (by decide) (by decide) (by (try rw [e731]); exact ⟨rfl, N732, trivial⟩)
          · obtain ⟨T733, h733, v733, L733, X733, e733, ⟨rfl, N733q, r733_0⟩, st733⟩ := N.static X725 hx hZ (y := (⟨"com/example/stylewright/stylewright/xdm/TreeBuilderIsWhitespacePinLaw", "ws", "(C)Z"⟩ : MethodName)) hown (wk hw 56 rfl) (wk hw 57 rfl) (wk hw 3 rfl) (wk hw 58 rfl) (by decide) (ws0 l Z a0 hw c_407 h708 n0 O715 hws727) e725 (g := (mkF m 214 #[.val (.int p0), .val (.int p1), .val (.int p2), .val (.int p3), .val (.int p4), .val (.int (3 : Int32)), .val (.int c_403), .val (.int c_405), .val (.int c_407), .val (.int c_409), .val (.ref b622), .unset] [(.int c_407)])) rfl (by rw [hml]; rfl) (argsL := [(.int c_407)]) (rest := []) rfl (lenOf pd__C_Z rfl) rfl (W := 0) (by show 2 * 0 + _ ≤ _; exact Nat.le_of_eq rfl) (hb hby at_214) (by decide) (by decide) (by decide) (by decide)
            have N734 := Fr.app N726 N733q
            have e733 := e733.trans r733_0
            refine WinW.to T733 (mkF m 217 #[.val (.int p0), .val (.int p1), .val (.int p2), .val (.int p3), .val (.int p4), .val (.int (3 : Int32)), .val (.int c_403), .val (.int c_405), .val (.int c_407), .val (.int c_409), .val (.ref b622), .unset] [(.int (0 : Int32))]) (fun _ k => st733 _ k) ?_
            refine WinW.to T733 (mkF m 238 #[.val (.int p0), .val (.int p1), .val (.int p2), .val (.int p3), .val (.int p4), .val (.int (3 : Int32)), .val (.int c_403), .val (.int c_405), .val (.int c_407), .val (.int c_409), .val (.ref b622), .unset] []) (fun _ k => XS.ifYes X733.here hx rfl (pc0 := 217) (pc' := 238) rfl (hb hby at_217) rfl ((if0 _ _).trans (teq (show (0 : Int32) = (0 : Int32) from by decide)).1) (by decide) (by decide) k) ?_
            refine WinW.to T733 (mkF m 239 #[.val (.int p0), .val (.int p1), .val (.int p2), .val (.int p3), .val (.int p4), .val (.int (3 : Int32)), .val (.int c_403), .val (.int c_405), .val (.int c_407), .val (.int c_409), .val (.ref b622), .unset] [(.int (0 : Int32))]) (fun _ k => XS.iconst X733.here hx rfl (hb hby at_238) k) ?_
            refine WinW.to T733 (mkF m 241 #[.val (.int p0), .val (.int p1), .val (.int p2), .val (.int p3), .val (.int p4), .val (.int (3 : Int32)), .val (.int c_403), .val (.int c_405), .val (.int c_407), .val (.int c_409), .val (.ref b622), .val (.int (0 : Int32))] []) (fun _ k => XS.istore X733.here hx rfl (hb hby at_239) rfl (l' := #[.val (.int p0), .val (.int p1), .val (.int p2), .val (.int p3), .val (.int p4), .val (.int (3 : Int32)), .val (.int c_403), .val (.int c_405), .val (.int c_407), .val (.int c_409), .val (.ref b622), .val (.int (0 : Int32))]) rfl k) ?_
            refine WinW.to T733 (mkF m 243 #[.val (.int p0), .val (.int p1), .val (.int p2), .val (.int p3), .val (.int p4), .val (.int (3 : Int32)), .val (.int c_403), .val (.int c_405), .val (.int c_407), .val (.int c_409), .val (.ref b622), .val (.int (0 : Int32))] [(.ref b622)]) (fun _ k => XS.aload X733.here hx rfl (hb hby at_241) rfl rfl k) ?_
            have F735 : ArF Z h708 b631 k631 .char 3 (fun i => ([c_403, c_405, c_407] : List Int32).getD i (0 : Int32)) := (F664.keep r708_0 (ninS (Ne.symm ne632) nin0))
            obtain ⟨T736, h736, v736, L736, X736, e736, ⟨rfl, N736q, r736_0⟩, st736⟩ := N.static X733 hx hZ (y := (⟨"com/example/stylewright/stylewright/xdm/TreeBuilder", "isWhitespace", "(Ljava/lang/CharSequence;)Z"⟩ : MethodName)) hown (wk hw 27 rfl) (wk hw 28 rfl) (wk hw 29 rfl) (wk hw 30 rfl) (by decide) (isWs1 l Z a0 hw b622 t_708 kb_708 3 (fun i => ([c_403, c_405, c_407] : List Int32).getD i (0 : Int32)) (fun i => ([c_403, c_405, c_407] : List Int32).getD i (0 : Int32)) (0 : Int32) cs x1 h708 n0 O715 F722 r708_2 r708_3 r708_4 (own_fr F735) (fun i _ => rfl) S_AD S_HI S_LO (fun q => absurd (q 2 (by decide)) hws727) (fun _ => rfl) S_CS hcs S_SI hx1) e733 (g := (mkF m 243 #[.val (.int p0), .val (.int p1), .val (.int p2), .val (.int p3), .val (.int p4), .val (.int (3 : Int32)), .val (.int c_403), .val (.int c_405), .val (.int c_407), .val (.int c_409), .val (.ref b622), .val (.int (0 : Int32))] [(.ref b622)])) rfl (by rw [hml]; rfl) (argsL := [(.ref b622)]) (rest := []) rfl (lenOf pd__Ljava_lang_CharSequence__Z rfl) rfl (W := 0) (by show 2 * 0 + _ ≤ _; exact Nat.le_of_eq rfl) (hb hby at_243) (by decide) (by decide) (by decide) (by decide)
            have N737 := Fr.app N734 N736q
            have e736 := e736.trans r736_0
            refine WinW.to T736 (mkF m 246 #[.val (.int p0), .val (.int p1), .val (.int p2), .val (.int p3), .val (.int p4), .val (.int (3 : Int32)), .val (.int c_403), .val (.int c_405), .val (.int c_407), .val (.int c_409), .val (.ref b622), .val (.int (0 : Int32))] [(.int (0 : Int32))]) (fun _ k => st736 _ k) ?_
            refine WinW.to T736 (mkF m 248 #[.val (.int p0), .val (.int p1), .val (.int p2), .val (.int p3), .val (.int p4), .val (.int (3 : Int32)), .val (.int c_403), .val (.int c_405), .val (.int c_407), .val (.int c_409), .val (.ref b622), .val (.int (0 : Int32))] [(.int (0 : Int32)), (.int (0 : Int32))]) (fun _ k => XS.iload X736.here hx rfl (hb hby at_246) rfl k) ?_
            refine WinW.to T736 (mkF m 251 #[.val (.int p0), .val (.int p1), .val (.int p2), .val (.int p3), .val (.int p4), .val (.int (3 : Int32)), .val (.int c_403), .val (.int c_405), .val (.int c_407), .val (.int c_409), .val (.ref b622), .val (.int (0 : Int32))] []) (fun _ k => XS.icmpNo X736.here hx rfl (hb hby at_248) rfl (teq (show (0 : Int32) = (0 : Int32) from by decide)).2 k) ?_
            refine WinW.to T736 (mkF m 252 #[.val (.int p0), .val (.int p1), .val (.int p2), .val (.int p3), .val (.int p4), .val (.int (3 : Int32)), .val (.int c_403), .val (.int c_405), .val (.int c_407), .val (.int c_409), .val (.ref b622), .val (.int (0 : Int32))] [(.int (1 : Int32))]) (fun _ k => XS.iconst X736.here hx rfl (hb hby at_251) k) ?_
            refine WinW.to T736 (mkF m 256 #[.val (.int p0), .val (.int p1), .val (.int p2), .val (.int p3), .val (.int p4), .val (.int (3 : Int32)), .val (.int c_403), .val (.int c_405), .val (.int c_407), .val (.int c_409), .val (.ref b622), .val (.int (0 : Int32))] [(.int (1 : Int32))]) (fun _ k => XS.goto X736.here hx rfl (pc0 := 252) (pc' := 256) rfl (hb hby at_252) (by decide) (by decide) k) ?_
            exact WinW.retN X736 hS0 (by rw [e736]; exact (Nat.zero_le _)) hx hlk (t := .boolean) hret (by simp) rfl (hb hby at_256) hZ (own_EW hw) (by rw [e736]; exact C718) (by decide) (by decide) (by (try rw [e736]); exact ⟨rfl, N737, trivial⟩)
        · obtain ⟨T738, h738, v738, L738, X738, e738, ⟨rfl, N738q, r738_0⟩, st738⟩ := N.static X721 hx hZ (y := (⟨"com/example/stylewright/stylewright/xdm/TreeBuilderIsWhitespacePinLaw", "ws", "(C)Z"⟩ : MethodName)) hown (wk hw 56 rfl) (wk hw 57 rfl) (wk hw 3 rfl) (wk hw 58 rfl) (by decide) (ws0 l Z a0 hw c_405 h708 n0 O715 hws724) e721 (g := (mkF m 200 #[.val (.int p0), .val (.int p1), .val (.int p2), .val (.int p3), .val (.int p4), .val (.int (3 : Int32)), .val (.int c_403), .val (.int c_405), .val (.int c_407), .val (.int c_409), .val (.ref b622), .unset] [(.int c_405)])) rfl (by rw [hml]; rfl) (argsL := [(.int c_405)]) (rest := []) rfl (lenOf pd__C_Z rfl) rfl (W := 0) (by show 2 * 0 + _ ≤ _; exact Nat.le_of_eq rfl) (hb hby at_200) (by decide) (by decide) (by decide) (by decide)
          have N739 := Fr.app N723 N738q
          have e738 := e738.trans r738_0
          refine WinW.to T738 (mkF m 203 #[.val (.int p0), .val (.int p1), .val (.int p2), .val (.int p3), .val (.int p4), .val (.int (3 : Int32)), .val (.int c_403), .val (.int c_405), .val (.int c_407), .val (.int c_409), .val (.ref b622), .unset] [(.int (0 : Int32))]) (fun _ k => st738 _ k) ?_
          refine WinW.to T738 (mkF m 238 #[.val (.int p0), .val (.int p1), .val (.int p2), .val (.int p3), .val (.int p4), .val (.int (3 : Int32)), .val (.int c_403), .val (.int c_405), .val (.int c_407), .val (.int c_409), .val (.ref b622), .unset] []) (fun _ k => XS.ifYes X738.here hx rfl (pc0 := 203) (pc' := 238) rfl (hb hby at_203) rfl ((if0 _ _).trans (teq (show (0 : Int32) = (0 : Int32) from by decide)).1) (by decide) (by decide) k) ?_
          refine WinW.to T738 (mkF m 239 #[.val (.int p0), .val (.int p1), .val (.int p2), .val (.int p3), .val (.int p4), .val (.int (3 : Int32)), .val (.int c_403), .val (.int c_405), .val (.int c_407), .val (.int c_409), .val (.ref b622), .unset] [(.int (0 : Int32))]) (fun _ k => XS.iconst X738.here hx rfl (hb hby at_238) k) ?_
          refine WinW.to T738 (mkF m 241 #[.val (.int p0), .val (.int p1), .val (.int p2), .val (.int p3), .val (.int p4), .val (.int (3 : Int32)), .val (.int c_403), .val (.int c_405), .val (.int c_407), .val (.int c_409), .val (.ref b622), .val (.int (0 : Int32))] []) (fun _ k => XS.istore X738.here hx rfl (hb hby at_239) rfl (l' := #[.val (.int p0), .val (.int p1), .val (.int p2), .val (.int p3), .val (.int p4), .val (.int (3 : Int32)), .val (.int c_403), .val (.int c_405), .val (.int c_407), .val (.int c_409), .val (.ref b622), .val (.int (0 : Int32))]) rfl k) ?_
          refine WinW.to T738 (mkF m 243 #[.val (.int p0), .val (.int p1), .val (.int p2), .val (.int p3), .val (.int p4), .val (.int (3 : Int32)), .val (.int c_403), .val (.int c_405), .val (.int c_407), .val (.int c_409), .val (.ref b622), .val (.int (0 : Int32))] [(.ref b622)]) (fun _ k => XS.aload X738.here hx rfl (hb hby at_241) rfl rfl k) ?_
          have F740 : ArF Z h708 b631 k631 .char 3 (fun i => ([c_403, c_405, c_407] : List Int32).getD i (0 : Int32)) := (F664.keep r708_0 (ninS (Ne.symm ne632) nin0))
          obtain ⟨T741, h741, v741, L741, X741, e741, ⟨rfl, N741q, r741_0⟩, st741⟩ := N.static X738 hx hZ (y := (⟨"com/example/stylewright/stylewright/xdm/TreeBuilder", "isWhitespace", "(Ljava/lang/CharSequence;)Z"⟩ : MethodName)) hown (wk hw 27 rfl) (wk hw 28 rfl) (wk hw 29 rfl) (wk hw 30 rfl) (by decide) (isWs1 l Z a0 hw b622 t_708 kb_708 3 (fun i => ([c_403, c_405, c_407] : List Int32).getD i (0 : Int32)) (fun i => ([c_403, c_405, c_407] : List Int32).getD i (0 : Int32)) (0 : Int32) cs x1 h708 n0 O715 F722 r708_2 r708_3 r708_4 (own_fr F740) (fun i _ => rfl) S_AD S_HI S_LO (fun q => absurd (q 1 (by decide)) hws724) (fun _ => rfl) S_CS hcs S_SI hx1) e738 (g := (mkF m 243 #[.val (.int p0), .val (.int p1), .val (.int p2), .val (.int p3), .val (.int p4), .val (.int (3 : Int32)), .val (.int c_403), .val (.int c_405), .val (.int c_407), .val (.int c_409), .val (.ref b622), .val (.int (0 : Int32))] [(.ref b622)])) rfl (by rw [hml]; rfl) (argsL := [(.ref b622)]) (rest := []) rfl (lenOf pd__Ljava_lang_CharSequence__Z rfl) rfl (W := 0) (by show 2 * 0 + _ ≤ _; exact Nat.le_of_eq rfl) (hb hby at_243) (by decide) (by decide) (by decide) (by decide)
          have N742 := Fr.app N739 N741q
          have e741 := e741.trans r741_0
          refine WinW.to T741 (mkF m 246 #[.val (.int p0), .val (.int p1), .val (.int p2), .val (.int p3), .val (.int p4), .val (.int (3 : Int32)), .val (.int c_403), .val (.int c_405), .val (.int c_407), .val (.int c_409), .val (.ref b622), .val (.int (0 : Int32))] [(.int (0 : Int32))]) (fun _ k => st741 _ k) ?_
          refine WinW.to T741 (mkF m 248 #[.val (.int p0), .val (.int p1), .val (.int p2), .val (.int p3), .val (.int p4), .val (.int (3 : Int32)), .val (.int c_403), .val (.int c_405), .val (.int c_407), .val (.int c_409), .val (.ref b622), .val (.int (0 : Int32))] [(.int (0 : Int32)), (.int (0 : Int32))]) (fun _ k => XS.iload X741.here hx rfl (hb hby at_246) rfl k) ?_
          refine WinW.to T741 (mkF m 251 #[.val (.int p0), .val (.int p1), .val (.int p2), .val (.int p3), .val (.int p4), .val (.int (3 : Int32)), .val (.int c_403), .val (.int c_405), .val (.int c_407), .val (.int c_409), .val (.ref b622), .val (.int (0 : Int32))] []) (fun _ k => XS.icmpNo X741.here hx rfl (hb hby at_248) rfl (teq (show (0 : Int32) = (0 : Int32) from by decide)).2 k) ?_
          refine WinW.to T741 (mkF m 252 #[.val (.int p0), .val (.int p1), .val (.int p2), .val (.int p3), .val (.int p4), .val (.int (3 : Int32)), .val (.int c_403), .val (.int c_405), .val (.int c_407), .val (.int c_409), .val (.ref b622), .val (.int (0 : Int32))] [(.int (1 : Int32))]) (fun _ k => XS.iconst X741.here hx rfl (hb hby at_251) k) ?_
          refine WinW.to T741 (mkF m 256 #[.val (.int p0), .val (.int p1), .val (.int p2), .val (.int p3), .val (.int p4), .val (.int (3 : Int32)), .val (.int c_403), .val (.int c_405), .val (.int c_407), .val (.int c_409), .val (.ref b622), .val (.int (0 : Int32))] [(.int (1 : Int32))]) (fun _ k => XS.goto X741.here hx rfl (pc0 := 252) (pc' := 256) rfl (hb hby at_252) (by decide) (by decide) k) ?_
          exact WinW.retN X741 hS0 (by rw [e741]; exact (Nat.zero_le _)) hx hlk (t := .boolean) hret (by simp) rfl (hb hby at_256) hZ (own_EW hw) (by rw [e741]; exact C718) (by decide) (by decide) (by (try rw [e741]); exact ⟨rfl, N742, trivial⟩)
      · have F744 : Exa Z h708 b622 "java/lang/String" := (F705.keep r708_0)
        obtain ⟨T743, h743, v743, L743, X743, e743, ⟨rfl, N743q, r743_0⟩, st743⟩ := N.static X708 hx hZ (y := (⟨"com/example/stylewright/stylewright/xdm/TreeBuilderIsWhitespacePinLaw", "ws", "(C)Z"⟩ : MethodName)) hown (wk hw 56 rfl) (wk hw 57 rfl) (wk hw 3 rfl) (wk hw 58 rfl) (by decide) (ws0 l Z a0 hw c_403 h708 n0 O715 hws720) e708 (g := (mkF m 186 #[.val (.int p0), .val (.int p1), .val (.int p2), .val (.int p3), .val (.int p4), .val (.int (3 : Int32)), .val (.int c_403), .val (.int c_405), .val (.int c_407), .val (.int c_409), .val (.ref b622), .unset] [(.int c_403)])) rfl (by rw [hml]; rfl) (argsL := [(.int c_403)]) (rest := []) rfl (lenOf pd__C_Z rfl) rfl (W := 0) (by show 2 * 0 + _ ≤ _; exact Nat.le_of_eq rfl) (hb hby at_186) (by decide) (by decide) (by decide) (by decide)
        have N745 := Fr.app N710 N743q
        have e743 := e743.trans r743_0
        refine WinW.to T743 (mkF m 189 #[.val (.int p0), .val (.int p1), .val (.int p2), .val (.int p3), .val (.int p4), .val (.int (3 : Int32)), .val (.int c_403), .val (.int c_405), .val (.int c_407), .val (.int c_409), .val (.ref b622), .unset] [(.int (0 : Int32))]) (fun _ k => st743 _ k) ?_
        refine WinW.to T743 (mkF m 238 #[.val (.int p0), .val (.int p1), .val (.int p2), .val (.int p3), .val (.int p4), .val (.int (3 : Int32)), .val (.int c_403), .val (.int c_405), .val (.int c_407), .val (.int c_409), .val (.ref b622), .unset] []) (fun _ k => XS.ifYes X743.here hx rfl (pc0 := 189) (pc' := 238) rfl (hb hby at_189) rfl ((if0 _ _).trans (teq (show (0 : Int32) = (0 : Int32) from by decide)).1) (by decide) (by decide) k) ?_
        refine WinW.to T743 (mkF m 239 #[.val (.int p0), .val (.int p1), .val (.int p2), .val (.int p3), .val (.int p4), .val (.int (3 : Int32)), .val (.int c_403), .val (.int c_405), .val (.int c_407), .val (.int c_409), .val (.ref b622), .unset] [(.int (0 : Int32))]) (fun _ k => XS.iconst X743.here hx rfl (hb hby at_238) k) ?_
        refine WinW.to T743 (mkF m 241 #[.val (.int p0), .val (.int p1), .val (.int p2), .val (.int p3), .val (.int p4), .val (.int (3 : Int32)), .val (.int c_403), .val (.int c_405), .val (.int c_407), .val (.int c_409), .val (.ref b622), .val (.int (0 : Int32))] []) (fun _ k => XS.istore X743.here hx rfl (hb hby at_239) rfl (l' := #[.val (.int p0), .val (.int p1), .val (.int p2), .val (.int p3), .val (.int p4), .val (.int (3 : Int32)), .val (.int c_403), .val (.int c_405), .val (.int c_407), .val (.int c_409), .val (.ref b622), .val (.int (0 : Int32))]) rfl k) ?_
        refine WinW.to T743 (mkF m 243 #[.val (.int p0), .val (.int p1), .val (.int p2), .val (.int p3), .val (.int p4), .val (.int (3 : Int32)), .val (.int c_403), .val (.int c_405), .val (.int c_407), .val (.int c_409), .val (.ref b622), .val (.int (0 : Int32))] [(.ref b622)]) (fun _ k => XS.aload X743.here hx rfl (hb hby at_241) rfl rfl k) ?_
        have F746 : ArF Z h708 b631 k631 .char 3 (fun i => ([c_403, c_405, c_407] : List Int32).getD i (0 : Int32)) := (F664.keep r708_0 (ninS (Ne.symm ne632) nin0))
        obtain ⟨T747, h747, v747, L747, X747, e747, ⟨rfl, N747q, r747_0⟩, st747⟩ := N.static X743 hx hZ (y := (⟨"com/example/stylewright/stylewright/xdm/TreeBuilder", "isWhitespace", "(Ljava/lang/CharSequence;)Z"⟩ : MethodName)) hown (wk hw 27 rfl) (wk hw 28 rfl) (wk hw 29 rfl) (wk hw 30 rfl) (by decide) (isWs1 l Z a0 hw b622 t_708 kb_708 3 (fun i => ([c_403, c_405, c_407] : List Int32).getD i (0 : Int32)) (fun i => ([c_403, c_405, c_407] : List Int32).getD i (0 : Int32)) (0 : Int32) cs x1 h708 n0 O715 F744 r708_2 r708_3 r708_4 (own_fr F746) (fun i _ => rfl) S_AD S_HI S_LO (fun q => absurd (q 0 (by decide)) hws720) (fun _ => rfl) S_CS hcs S_SI hx1) e743 (g := (mkF m 243 #[.val (.int p0), .val (.int p1), .val (.int p2), .val (.int p3), .val (.int p4), .val (.int (3 : Int32)), .val (.int c_403), .val (.int c_405), .val (.int c_407), .val (.int c_409), .val (.ref b622), .val (.int (0 : Int32))] [(.ref b622)])) rfl (by rw [hml]; rfl) (argsL := [(.ref b622)]) (rest := []) rfl (lenOf pd__Ljava_lang_CharSequence__Z rfl) rfl (W := 0) (by show 2 * 0 + _ ≤ _; exact Nat.le_of_eq rfl) (hb hby at_243) (by decide) (by decide) (by decide) (by decide)
        have N748 := Fr.app N745 N747q
        have e747 := e747.trans r747_0
        refine WinW.to T747 (mkF m 246 #[.val (.int p0), .val (.int p1), .val (.int p2), .val (.int p3), .val (.int p4), .val (.int (3 : Int32)), .val (.int c_403), .val (.int c_405), .val (.int c_407), .val (.int c_409), .val (.ref b622), .val (.int (0 : Int32))] [(.int (0 : Int32))]) (fun _ k => st747 _ k) ?_
        refine WinW.to T747 (mkF m 248 #[.val (.int p0), .val (.int p1), .val (.int p2), .val (.int p3), .val (.int p4), .val (.int (3 : Int32)), .val (.int c_403), .val (.int c_405), .val (.int c_407), .val (.int c_409), .val (.ref b622), .val (.int (0 : Int32))] [(.int (0 : Int32)), (.int (0 : Int32))]) (fun _ k => XS.iload X747.here hx rfl (hb hby at_246) rfl k) ?_
        refine WinW.to T747 (mkF m 251 #[.val (.int p0), .val (.int p1), .val (.int p2), .val (.int p3), .val (.int p4), .val (.int (3 : Int32)), .val (.int c_403), .val (.int c_405), .val (.int c_407), .val (.int c_409), .val (.ref b622), .val (.int (0 : Int32))] []) (fun _ k => XS.icmpNo X747.here hx rfl (hb hby at_248) rfl (teq (show (0 : Int32) = (0 : Int32) from by decide)).2 k) ?_
        refine WinW.to T747 (mkF m 252 #[.val (.int p0), .val (.int p1), .val (.int p2), .val (.int p3), .val (.int p4), .val (.int (3 : Int32)), .val (.int c_403), .val (.int c_405), .val (.int c_407), .val (.int c_409), .val (.ref b622), .val (.int (0 : Int32))] [(.int (1 : Int32))]) (fun _ k => XS.iconst X747.here hx rfl (hb hby at_251) k) ?_
        refine WinW.to T747 (mkF m 256 #[.val (.int p0), .val (.int p1), .val (.int p2), .val (.int p3), .val (.int p4), .val (.int (3 : Int32)), .val (.int c_403), .val (.int c_405), .val (.int c_407), .val (.int c_409), .val (.ref b622), .val (.int (0 : Int32))] [(.int (1 : Int32))]) (fun _ k => XS.goto X747.here hx rfl (pc0 := 252) (pc' := 256) rfl (hb hby at_252) (by decide) (by decide) k) ?_
        exact WinW.retN X747 hS0 (by rw [e747]; exact (Nat.zero_le _)) hx hlk (t := .boolean) hret (by simp) rfl (hb hby at_256) hZ (own_EW hw) (by rw [e747]; exact C718) (by decide) (by decide) (by (try rw [e747]); exact ⟨rfl, N748, trivial⟩)
  · rw [hk]
    refine WinW.to T409 (mkF m 35 #[.val (.int p0), .val (.int p1), .val (.int p2), .val (.int p3), .val (.int p4), .val (.int (4 : Int32)), .val (.int c_403), .val (.int c_405), .val (.int c_407), .val (.int c_409), .unset, .unset] [(.int (4 : Int32))]) (fun _ k => XS.iload X409.here hx rfl (hb hby at_33) rfl k) ?_
    refine WinW.to T409 (mkF m 53 #[.val (.int p0), .val (.int p1), .val (.int p2), .val (.int p3), .val (.int p4), .val (.int (4 : Int32)), .val (.int c_403), .val (.int c_405), .val (.int c_407), .val (.int c_409), .unset, .unset] []) (fun _ k => XS.ifYes X409.here hx rfl (pc0 := 35) (pc' := 53) rfl (hb hby at_35) rfl ((if0 _ _).trans (feq (show ¬ ((4 : Int32) = (0 : Int32)) from by decide)).2) (by decide) (by decide) k) ?_
    refine WinW.to T409 (mkF m 55 #[.val (.int p0), .val (.int p1), .val (.int p2), .val (.int p3), .val (.int p4), .val (.int (4 : Int32)), .val (.int c_403), .val (.int c_405), .val (.int c_407), .val (.int c_409), .unset, .unset] [(.int (4 : Int32))]) (fun _ k => XS.iload X409.here hx rfl (hb hby at_53) rfl k) ?_
    refine WinW.to T409 (mkF m 56 #[.val (.int p0), .val (.int p1), .val (.int p2), .val (.int p3), .val (.int p4), .val (.int (4 : Int32)), .val (.int c_403), .val (.int c_405), .val (.int c_407), .val (.int c_409), .unset, .unset] [(.int (1 : Int32)), (.int (4 : Int32))]) (fun _ k => XS.iconst X409.here hx rfl (hb hby at_55) k) ?_
    refine WinW.to T409 (mkF m 79 #[.val (.int p0), .val (.int p1), .val (.int p2), .val (.int p3), .val (.int p4), .val (.int (4 : Int32)), .val (.int c_403), .val (.int c_405), .val (.int c_407), .val (.int c_409), .unset, .unset] []) (fun _ k => XS.icmpYes X409.here hx rfl (pc0 := 56) (pc' := 79) rfl (hb hby at_56) rfl (feq (show ¬ ((4 : Int32) = (1 : Int32)) from by decide)).2 (by decide) (by decide) k) ?_
    refine WinW.to T409 (mkF m 81 #[.val (.int p0), .val (.int p1), .val (.int p2), .val (.int p3), .val (.int p4), .val (.int (4 : Int32)), .val (.int c_403), .val (.int c_405), .val (.int c_407), .val (.int c_409), .unset, .unset] [(.int (4 : Int32))]) (fun _ k => XS.iload X409.here hx rfl (hb hby at_79) rfl k) ?_
    refine WinW.to T409 (mkF m 82 #[.val (.int p0), .val (.int p1), .val (.int p2), .val (.int p3), .val (.int p4), .val (.int (4 : Int32)), .val (.int c_403), .val (.int c_405), .val (.int c_407), .val (.int c_409), .unset, .unset] [(.int (2 : Int32)), (.int (4 : Int32))]) (fun _ k => XS.iconst X409.here hx rfl (hb hby at_81) k) ?_
    refine WinW.to T409 (mkF m 110 #[.val (.int p0), .val (.int p1), .val (.int p2), .val (.int p3), .val (.int p4), .val (.int (4 : Int32)), .val (.int c_403), .val (.int c_405), .val (.int c_407), .val (.int c_409), .unset, .unset] []) (fun _ k => XS.icmpYes X409.here hx rfl (pc0 := 82) (pc' := 110) rfl (hb hby at_82) rfl (feq (show ¬ ((4 : Int32) = (2 : Int32)) from by decide)).2 (by decide) (by decide) k) ?_
    refine WinW.to T409 (mkF m 112 #[.val (.int p0), .val (.int p1), .val (.int p2), .val (.int p3), .val (.int p4), .val (.int (4 : Int32)), .val (.int c_403), .val (.int c_405), .val (.int c_407), .val (.int c_409), .unset, .unset] [(.int (4 : Int32))]) (fun _ k => XS.iload X409.here hx rfl (hb hby at_110) rfl k) ?_
    refine WinW.to T409 (mkF m 113 #[.val (.int p0), .val (.int p1), .val (.int p2), .val (.int p3), .val (.int p4), .val (.int (4 : Int32)), .val (.int c_403), .val (.int c_405), .val (.int c_407), .val (.int c_409), .unset, .unset] [(.int (3 : Int32)), (.int (4 : Int32))]) (fun _ k => XS.iconst X409.here hx rfl (hb hby at_112) k) ?_
    refine WinW.to T409 (mkF m 146 #[.val (.int p0), .val (.int p1), .val (.int p2), .val (.int p3), .val (.int p4), .val (.int (4 : Int32)), .val (.int c_403), .val (.int c_405), .val (.int c_407), .val (.int c_409), .unset, .unset] []) (fun _ k => XS.icmpYes X409.here hx rfl (pc0 := 113) (pc' := 146) rfl (hb hby at_113) rfl (feq (show ¬ ((4 : Int32) = (3 : Int32)) from by decide)).2 (by decide) (by decide) k) ?_
    obtain ⟨T749, h749, X749, e749, E749, A749, D749, -, st749⟩ := newO X409 hx hZ hown (wk hw 5 rfl) (wk hw 6 rfl) (wk hw 7 rfl) e409 (g := (mkF m 146 #[.val (.int p0), .val (.int p1), .val (.int p2), .val (.int p3), .val (.int p4), .val (.int (4 : Int32)), .val (.int c_403), .val (.int c_405), .val (.int c_407), .val (.int c_409), .unset, .unset] [])) rfl (hb hby at_146) (by decide) (by decide)
    obtain ⟨b749, g749⟩ : ∃ z, z = h0.size := ⟨_, rfl⟩
    rw [← g749] at A749 D749 st749
    have g750 : n0 ≤ b749 := Nat.le_trans (own_le O0) (Nat.le_of_eq g749.symm)
    have z751 : h0.size ≤ b749 := (Nat.le_of_eq g749.symm)
    have O752 := Old.ext O0 E749
    have K753 : Keep h0 h749 [] := (Keep.refl h0 []).ext E749
    have c754 := CHr.ext E749 C0.1
    have C755 := CHr.trans C0 c754
    have F756 : Fld Z h749 b749 "java/lang/String" "value" "[B" .null := D749 (Or.inr (wk hw 21 rfl)) (ty := (.array .byte)) (by decide)
    have F757 : Fld Z h749 b749 "java/lang/String" "coder" "B" (.int (0 : Int32)) := D749 (Or.inr (wk hw 22 rfl)) (ty := .byte) (by decide)
    refine WinW.to T749 (mkF m 149 #[.val (.int p0), .val (.int p1), .val (.int p2), .val (.int p3), .val (.int p4), .val (.int (4 : Int32)), .val (.int c_403), .val (.int c_405), .val (.int c_407), .val (.int c_409), .unset, .unset] [(.ref b749)]) (fun _ k => st749 _ k) ?_
    refine WinW.to T749 (mkF m 150 #[.val (.int p0), .val (.int p1), .val (.int p2), .val (.int p3), .val (.int p4), .val (.int (4 : Int32)), .val (.int c_403), .val (.int c_405), .val (.int c_407), .val (.int c_409), .unset, .unset] [(.ref b749), (.ref b749)]) (fun _ k => XS.dup X749.here hx rfl (hb hby at_149) rfl rfl k) ?_
    refine WinW.to T749 (mkF m 151 #[.val (.int p0), .val (.int p1), .val (.int p2), .val (.int p3), .val (.int p4), .val (.int (4 : Int32)), .val (.int c_403), .val (.int c_405), .val (.int c_407), .val (.int c_409), .unset, .unset] [(.int (4 : Int32)), (.ref b749), (.ref b749)]) (fun _ k => XS.iconst X749.here hx rfl (hb hby at_150) k) ?_
    obtain ⟨T758, h758, k758, X758, e758, E758, A758, st758⟩ := newP X749 hx hZ (wk hw 8 rfl) e749 (g := (mkF m 151 #[.val (.int p0), .val (.int p1), .val (.int p2), .val (.int p3), .val (.int p4), .val (.int (4 : Int32)), .val (.int c_403), .val (.int c_405), .val (.int c_407), .val (.int c_409), .unset, .unset] [(.int (4 : Int32)), (.ref b749), (.ref b749)])) rfl (hb hby at_151) rfl (by decide) (cap := 4) (by decide) (by decide) (by decide) (by decide)
    obtain ⟨b758, g758⟩ : ∃ z, z = h749.size := ⟨_, rfl⟩
    rw [← g758] at A758 st758
    have ne759 : b749 ≠ b758 := Nat.ne_of_lt (Nat.lt_of_lt_of_le A749.lt (Nat.le_of_eq g758.symm))
    have g760 : n0 ≤ b758 := Nat.le_trans (own_le O752) (Nat.le_of_eq g758.symm)
    have z761 : h0.size ≤ b758 := Nat.le_trans K753.1 (Nat.le_of_eq g758.symm)
    have O762 := Old.ext O752 E758
    have K763 : Keep h0 h758 [] := K753.ext E758
    have c764 := CHr.ext E758 C755.1
    have C765 := CHr.trans C755 c764
    have F766 : Arv Z h758 b758 k758 .char (4 : Int32) [(.int (0 : Int32)), (.int (0 : Int32)), (.int (0 : Int32)), (.int (0 : Int32))] (.int (0 : Int32)) := (Arv.new A758 (by decide)).pad (pad_rep [] (.int (0 : Int32)) 4)
    refine WinW.to T758 (mkF m 153 #[.val (.int p0), .val (.int p1), .val (.int p2), .val (.int p3), .val (.int p4), .val (.int (4 : Int32)), .val (.int c_403), .val (.int c_405), .val (.int c_407), .val (.int c_409), .unset, .unset] [(.ref b758), (.ref b749), (.ref b749)]) (fun _ k => st758 _ k) ?_
    refine WinW.to T758 (mkF m 154 #[.val (.int p0), .val (.int p1), .val (.int p2), .val (.int p3), .val (.int p4), .val (.int (4 : Int32)), .val (.int c_403), .val (.int c_405), .val (.int c_407), .val (.int c_409), .unset, .unset] [(.ref b758), (.ref b758), (.ref b749), (.ref b749)]) (fun _ k => XS.dup X758.here hx rfl (hb hby at_153) rfl rfl k) ?_
    refine WinW.to T758 (mkF m 155 #[.val (.int p0), .val (.int p1), .val (.int p2), .val (.int p3), .val (.int p4), .val (.int (4 : Int32)), .val (.int c_403), .val (.int c_405), .val (.int c_407), .val (.int c_409), .unset, .unset] [(.int (0 : Int32)), (.ref b758), (.ref b758), (.ref b749), (.ref b749)]) (fun _ k => XS.iconst X758.here hx rfl (hb hby at_154) k) ?_
    refine WinW.to T758 (mkF m 157 #[.val (.int p0), .val (.int p1), .val (.int p2), .val (.int p3), .val (.int p4), .val (.int (4 : Int32)), .val (.int c_403), .val (.int c_405), .val (.int c_407), .val (.int c_409), .unset, .unset] [(.int c_403), (.int (0 : Int32)), (.ref b758), (.ref b758), (.ref b749), (.ref b749)]) (fun _ k => XS.iload X758.here hx rfl (hb hby at_155) rfl k) ?_
    obtain ⟨cl767, Ar767, q767, S767, N767, H767, G767⟩ := id F766
    have hi767 : ¬ ((0 : Int32) < 0 ∨ cl767.slots.size ≤ ((0 : Int32)).toNatClampNeg) := inb_of S767 ⟨by decide, by decide⟩
    obtain ⟨T768, h768, X768, e768, W768, st768⟩ := stC X758 hx hZ e758 Ar767 (j := (0 : Int32)) hi767 (g := (mkF m 157 #[.val (.int p0), .val (.int p1), .val (.int p2), .val (.int p3), .val (.int p4), .val (.int (4 : Int32)), .val (.int c_403), .val (.int c_405), .val (.int c_407), .val (.int c_409), .unset, .unset] [(.int c_403), (.int (0 : Int32)), (.ref b758), (.ref b758), (.ref b749), (.ref b749)])) rfl rfl (hb hby at_157)
    have O770 := Old.wr O762 W768 g760
    have K771 : Keep h0 h768 [] := K763.wr W768 (Or.inr z761)
    have N772 := Fr.snoc X768 N410 g760
    have c773 := CHr.wr W768 (Safe.arv hZ.alike F766 (by decide)) C765.1
    have C774 := CHr.trans C765 c773
    have eq768 : nar .char c_403 = c_403 := r403_1
    have W768 := eq768 ▸ W768
    have F769 : Arv Z h768 b758 k758 .char (4 : Int32) [(.int c_403), (.int (0 : Int32)), (.int (0 : Int32)), (.int (0 : Int32))] (.int (0 : Int32)) := Arv.set Ar767 q767 S767 N767 H767 G767 (eq768 ▸ (fits_nar_char _)) W768 0 rfl (Nat.le_of_ble_eq_true rfl)
    refine WinW.to T768 (mkF m 158 #[.val (.int p0), .val (.int p1), .val (.int p2), .val (.int p3), .val (.int p4), .val (.int (4 : Int32)), .val (.int c_403), .val (.int c_405), .val (.int c_407), .val (.int c_409), .unset, .unset] [(.ref b758), (.ref b749), (.ref b749)]) (fun _ k => st768 _ k) ?_
    refine WinW.to T768 (mkF m 159 #[.val (.int p0), .val (.int p1), .val (.int p2), .val (.int p3), .val (.int p4), .val (.int (4 : Int32)), .val (.int c_403), .val (.int c_405), .val (.int c_407), .val (.int c_409), .unset, .unset] [(.ref b758), (.ref b758), (.ref b749), (.ref b749)]) (fun _ k => XS.dup X768.here hx rfl (hb hby at_158) rfl rfl k) ?_
    refine WinW.to T768 (mkF m 160 #[.val (.int p0), .val (.int p1), .val (.int p2), .val (.int p3), .val (.int p4), .val (.int (4 : Int32)), .val (.int c_403), .val (.int c_405), .val (.int c_407), .val (.int c_409), .unset, .unset] [(.int (1 : Int32)), (.ref b758), (.ref b758), (.ref b749), (.ref b749)]) (fun _ k => XS.iconst X768.here hx rfl (hb hby at_159) k) ?_
    refine WinW.to T768 (mkF m 162 #[.val (.int p0), .val (.int p1), .val (.int p2), .val (.int p3), .val (.int p4), .val (.int (4 : Int32)), .val (.int c_403), .val (.int c_405), .val (.int c_407), .val (.int c_409), .unset, .unset] [(.int c_405), (.int (1 : Int32)), (.ref b758), (.ref b758), (.ref b749), (.ref b749)]) (fun _ k => XS.iload X768.here hx rfl (hb hby at_160) rfl k) ?_
    obtain ⟨cl775, Ar775, q775, S775, N775, H775, G775⟩ := id F769
    have hi775 : ¬ ((1 : Int32) < 0 ∨ cl775.slots.size ≤ ((1 : Int32)).toNatClampNeg) := inb_of S775 ⟨by decide, by decide⟩
    obtain ⟨T776, h776, X776, e776, W776, st776⟩ := stC X768 hx hZ e768 Ar775 (j := (1 : Int32)) hi775 (g := (mkF m 162 #[.val (.int p0), .val (.int p1), .val (.int p2), .val (.int p3), .val (.int p4), .val (.int (4 : Int32)), .val (.int c_403), .val (.int c_405), .val (.int c_407), .val (.int c_409), .unset, .unset] [(.int c_405), (.int (1 : Int32)), (.ref b758), (.ref b758), (.ref b749), (.ref b749)])) rfl rfl (hb hby at_162)
    have O778 := Old.wr O770 W776 g760
    have K779 : Keep h0 h776 [] := K771.wr W776 (Or.inr z761)
    have N780 := Fr.snoc X776 N772 g760
    have c781 := CHr.wr W776 (Safe.arv hZ.alike F769 (by decide)) C774.1
    have C782 := CHr.trans C774 c781
    have eq776 : nar .char c_405 = c_405 := r405_1
    have W776 := eq776 ▸ W776
    have F777 : Arv Z h776 b758 k758 .char (4 : Int32) [(.int c_403), (.int c_405), (.int (0 : Int32)), (.int (0 : Int32))] (.int (0 : Int32)) := Arv.set Ar775 q775 S775 N775 H775 G775 (eq776 ▸ (fits_nar_char _)) W776 1 rfl (Nat.le_of_ble_eq_true rfl)
    refine WinW.to T776 (mkF m 163 #[.val (.int p0), .val (.int p1), .val (.int p2), .val (.int p3), .val (.int p4), .val (.int (4 : Int32)), .val (.int c_403), .val (.int c_405), .val (.int c_407), .val (.int c_409), .unset, .unset] [(.ref b758), (.ref b749), (.ref b749)]) (fun _ k => st776 _ k) ?_
    refine WinW.to T776 (mkF m 164 #[.val (.int p0), .val (.int p1), .val (.int p2), .val (.int p3), .val (.int p4), .val (.int (4 : Int32)), .val (.int c_403), .val (.int c_405), .val (.int c_407), .val (.int c_409), .unset, .unset] [(.ref b758), (.ref b758), (.ref b749), (.ref b749)]) (fun _ k => XS.dup X776.here hx rfl (hb hby at_163) rfl rfl k) ?_
    refine WinW.to T776 (mkF m 165 #[.val (.int p0), .val (.int p1), .val (.int p2), .val (.int p3), .val (.int p4), .val (.int (4 : Int32)), .val (.int c_403), .val (.int c_405), .val (.int c_407), .val (.int c_409), .unset, .unset] [(.int (2 : Int32)), (.ref b758), (.ref b758), (.ref b749), (.ref b749)]) (fun _ k => XS.iconst X776.here hx rfl (hb hby at_164) k) ?_
    refine WinW.to T776 (mkF m 167 #[.val (.int p0), .val (.int p1), .val (.int p2), .val (.int p3), .val (.int p4), .val (.int (4 : Int32)), .val (.int c_403), .val (.int c_405), .val (.int c_407), .val (.int c_409), .unset, .unset] [(.int c_407), (.int (2 : Int32)), (.ref b758), (.ref b758), (.ref b749), (.ref b749)]) (fun _ k => XS.iload X776.here hx rfl (hb hby at_165) rfl k) ?_
    obtain ⟨cl783, Ar783, q783, S783, N783, H783, G783⟩ := id F777
    have hi783 : ¬ ((2 : Int32) < 0 ∨ cl783.slots.size ≤ ((2 : Int32)).toNatClampNeg) := inb_of S783 ⟨by decide, by decide⟩
    obtain ⟨T784, h784, X784, e784, W784, st784⟩ := stC X776 hx hZ e776 Ar783 (j := (2 : Int32)) hi783 (g := (mkF m 167 #[.val (.int p0), .val (.int p1), .val (.int p2), .val (.int p3), .val (.int p4), .val (.int (4 : Int32)), .val (.int c_403), .val (.int c_405), .val (.int c_407), .val (.int c_409), .unset, .unset] [(.int c_407), (.int (2 : Int32)), (.ref b758), (.ref b758), (.ref b749), (.ref b749)])) rfl rfl (hb hby at_167)
    have O786 := Old.wr O778 W784 g760
    have K787 : Keep h0 h784 [] := K779.wr W784 (Or.inr z761)
    have N788 := Fr.snoc X784 N780 g760
    have c789 := CHr.wr W784 (Safe.arv hZ.alike F777 (by decide)) C782.1
    have C790 := CHr.trans C782 c789
    have eq784 : nar .char c_407 = c_407 := r407_1
    have W784 := eq784 ▸ W784
    have F785 : Arv Z h784 b758 k758 .char (4 : Int32) [(.int c_403), (.int c_405), (.int c_407), (.int (0 : Int32))] (.int (0 : Int32)) := Arv.set Ar783 q783 S783 N783 H783 G783 (eq784 ▸ (fits_nar_char _)) W784 2 rfl (Nat.le_of_ble_eq_true rfl)
    refine WinW.to T784 (mkF m 168 #[.val (.int p0), .val (.int p1), .val (.int p2), .val (.int p3), .val (.int p4), .val (.int (4 : Int32)), .val (.int c_403), .val (.int c_405), .val (.int c_407), .val (.int c_409), .unset, .unset] [(.ref b758), (.ref b749), (.ref b749)]) (fun _ k => st784 _ k) ?_
    refine WinW.to T784 (mkF m 169 #[.val (.int p0), .val (.int p1), .val (.int p2), .val (.int p3), .val (.int p4), .val (.int (4 : Int32)), .val (.int c_403), .val (.int c_405), .val (.int c_407), .val (.int c_409), .unset, .unset] [(.ref b758), (.ref b758), (.ref b749), (.ref b749)]) (fun _ k => XS.dup X784.here hx rfl (hb hby at_168) rfl rfl k) ?_
    refine WinW.to T784 (mkF m 170 #[.val (.int p0), .val (.int p1), .val (.int p2), .val (.int p3), .val (.int p4), .val (.int (4 : Int32)), .val (.int c_403), .val (.int c_405), .val (.int c_407), .val (.int c_409), .unset, .unset] [(.int (3 : Int32)), (.ref b758), (.ref b758), (.ref b749), (.ref b749)]) (fun _ k => XS.iconst X784.here hx rfl (hb hby at_169) k) ?_
    refine WinW.to T784 (mkF m 172 #[.val (.int p0), .val (.int p1), .val (.int p2), .val (.int p3), .val (.int p4), .val (.int (4 : Int32)), .val (.int c_403), .val (.int c_405), .val (.int c_407), .val (.int c_409), .unset, .unset] [(.int c_409), (.int (3 : Int32)), (.ref b758), (.ref b758), (.ref b749), (.ref b749)]) (fun _ k => XS.iload X784.here hx rfl (hb hby at_170) rfl k) ?_
    obtain ⟨cl791, Ar791, q791, S791, N791, H791, G791⟩ := id F785
    have hi791 : ¬ ((3 : Int32) < 0 ∨ cl791.slots.size ≤ ((3 : Int32)).toNatClampNeg) := inb_of S791 ⟨by decide, by decide⟩
    obtain ⟨T792, h792, X792, e792, W792, st792⟩ := stC X784 hx hZ e784 Ar791 (j := (3 : Int32)) hi791 (g := (mkF m 172 #[.val (.int p0), .val (.int p1), .val (.int p2), .val (.int p3), .val (.int p4), .val (.int (4 : Int32)), .val (.int c_403), .val (.int c_405), .val (.int c_407), .val (.int c_409), .unset, .unset] [(.int c_409), (.int (3 : Int32)), (.ref b758), (.ref b758), (.ref b749), (.ref b749)])) rfl rfl (hb hby at_172)
    have O794 := Old.wr O786 W792 g760
    have K795 : Keep h0 h792 [] := K787.wr W792 (Or.inr z761)
    have N796 := Fr.snoc X792 N788 g760
    have c797 := CHr.wr W792 (Safe.arv hZ.alike F785 (by decide)) C790.1
    have C798 := CHr.trans C790 c797
    have eq792 : nar .char c_409 = c_409 := r409_1
    have W792 := eq792 ▸ W792
    have F793 : Arv Z h792 b758 k758 .char (4 : Int32) [(.int c_403), (.int c_405), (.int c_407), (.int c_409)] (.int (0 : Int32)) := Arv.set Ar791 q791 S791 N791 H791 G791 (eq792 ▸ (fits_nar_char _)) W792 3 rfl (Nat.le_of_ble_eq_true rfl)
    refine WinW.to T792 (mkF m 173 #[.val (.int p0), .val (.int p1), .val (.int p2), .val (.int p3), .val (.int p4), .val (.int (4 : Int32)), .val (.int c_403), .val (.int c_405), .val (.int c_407), .val (.int c_409), .unset, .unset] [(.ref b758), (.ref b749), (.ref b749)]) (fun _ k => st792 _ k) ?_
    have F799 : ArF Z h792 b758 k758 .char 4 (fun i => ([c_403, c_405, c_407, c_409] : List Int32).getD i (0 : Int32)) := own_arf [c_403, c_405, c_407, c_409] F793 rfl
    by_cases hl : ∀ i, i < 4 → ¬ (255 : Int32) < ((fun i => ([c_403, c_405, c_407, c_409] : List Int32).getD i (0 : Int32)) : Nat → Int32) i
    · have F800 : Exa Z h792 b749 "java/lang/String" := (Exa.wr W792 (Exa.wr W784 (Exa.wr W776 (Exa.wr W768 (Exa.ext E758 A749)))))
      have F801 : Fld Z h792 b749 "java/lang/String" "value" "[B" .null := (Fld.other W792 (Fld.other W784 (Fld.other W776 (Fld.other W768 (Fld.ext E758 F756) (Or.inl ne759)) (Or.inl ne759)) (Or.inl ne759)) (Or.inl ne759))
      have F802 : Fld Z h792 b749 "java/lang/String" "coder" "B" (.int (0 : Int32)) := (Fld.other W792 (Fld.other W784 (Fld.other W776 (Fld.other W768 (Fld.ext E758 F757) (Or.inl ne759)) (Or.inl ne759)) (Or.inl ne759)) (Or.inl ne759))
      obtain ⟨T803, h803, v803, L803, k803, X803, e803, hS803, hk803, hZ803, hown803, ⟨t_803, kb_803, rfl, N803q, r803_0, r803_1, r803_2, r803_3⟩, c803, st803⟩ := W.special X792 hS0 (Nat.zero_le _) hx hZ (y := (⟨"java/lang/String", "<init>", "([C)V"⟩ : MethodName)) rfl hown (wk hw 9 rfl) (wk hw 10 rfl) (wk hw 7 rfl) (wk hw 11 rfl) (by decide) (ctor1 l Z a0 hw b749 b758 k758 4 (fun i => ([c_403, c_405, c_407, c_409] : List Int32).getD i (0 : Int32)) cs h792 n0 O794 F800 F801 F802 F799 hl (by decide) g750 S_CS hcs) (own_EW hw) C798.1 e792 (g := (mkF m 173 #[.val (.int p0), .val (.int p1), .val (.int p2), .val (.int p3), .val (.int p4), .val (.int (4 : Int32)), .val (.int c_403), .val (.int c_405), .val (.int c_407), .val (.int c_409), .unset, .unset] [(.ref b758), (.ref b749), (.ref b749)])) rfl (by rw [hml]; rfl) (a := b749) (argsL := [(.ref b758)]) (rest := [(.ref b749)]) rfl (lenOf pd___C_V rfl) rfl (W := 1) (by show 2 * 0 + _ ≤ _; exact Nat.le_of_eq rfl) (hb hby at_173) (by decide) (by decide) (by decide) (by decide)
      have N804 := Fr.app N796 N803q
      have O805 := Old.keep O794 r803_0 (allS g750 all0)
      have K806 : Keep h0 h803 [] := Keep.trans K795 r803_0 (allS (Or.inr z751) all0)
      have c807 := c803
      have C808 := CHr.trans C798 c807
      refine WinW.to T803 (mkF m 176 #[.val (.int p0), .val (.int p1), .val (.int p2), .val (.int p3), .val (.int p4), .val (.int (4 : Int32)), .val (.int c_403), .val (.int c_405), .val (.int c_407), .val (.int c_409), .unset, .unset] [(.ref b749)]) (fun _ k => st803 _ k) ?_
      refine WinW.to T803 (mkF m 178 #[.val (.int p0), .val (.int p1), .val (.int p2), .val (.int p3), .val (.int p4), .val (.int (4 : Int32)), .val (.int c_403), .val (.int c_405), .val (.int c_407), .val (.int c_409), .val (.ref b749), .unset] []) (fun _ k => XS.astore X803.here hx rfl (hb hby at_176) rfl rfl (l' := #[.val (.int p0), .val (.int p1), .val (.int p2), .val (.int p3), .val (.int p4), .val (.int (4 : Int32)), .val (.int c_403), .val (.int c_405), .val (.int c_407), .val (.int c_409), .val (.ref b749), .unset]) rfl k) ?_
      refine WinW.to T803 (mkF m 180 #[.val (.int p0), .val (.int p1), .val (.int p2), .val (.int p3), .val (.int p4), .val (.int (4 : Int32)), .val (.int c_403), .val (.int c_405), .val (.int c_407), .val (.int c_409), .val (.ref b749), .unset] [(.int (4 : Int32))]) (fun _ k => XS.iload X803.here hx rfl (hb hby at_178) rfl k) ?_
      refine WinW.to T803 (mkF m 181 #[.val (.int p0), .val (.int p1), .val (.int p2), .val (.int p3), .val (.int p4), .val (.int (4 : Int32)), .val (.int c_403), .val (.int c_405), .val (.int c_407), .val (.int c_409), .val (.ref b749), .unset] [(.int (1 : Int32)), (.int (4 : Int32))]) (fun _ k => XS.iconst X803.here hx rfl (hb hby at_180) k) ?_
      refine WinW.to T803 (mkF m 184 #[.val (.int p0), .val (.int p1), .val (.int p2), .val (.int p3), .val (.int p4), .val (.int (4 : Int32)), .val (.int c_403), .val (.int c_405), .val (.int c_407), .val (.int c_409), .val (.ref b749), .unset] []) (fun _ k => XS.icmpNo X803.here hx rfl (hb hby at_181) rfl (flt (show ¬ ((4 : Int32) < (1 : Int32)) from by decide)).1 k) ?_
      refine WinW.to T803 (mkF m 186 #[.val (.int p0), .val (.int p1), .val (.int p2), .val (.int p3), .val (.int p4), .val (.int (4 : Int32)), .val (.int c_403), .val (.int c_405), .val (.int c_407), .val (.int c_409), .val (.ref b749), .unset] [(.int c_403)]) (fun _ k => XS.iload X803.here hx rfl (hb hby at_184) rfl k) ?_
      by_cases hws809 : wsp c_403
      · obtain ⟨T810, h810, v810, L810, X810, e810, ⟨rfl, N810q, r810_0⟩, st810⟩ := N.static X803 hx hZ803 (y := (⟨"com/example/stylewright/stylewright/xdm/TreeBuilderIsWhitespacePinLaw", "ws", "(C)Z"⟩ : MethodName)) hown803 (wk hw 56 rfl) (wk hw 57 rfl) (wk hw 3 rfl) (wk hw 58 rfl) (by decide) (ws1 l Z a0 hw c_403 h803 n0 O805 hws809) e803 (g := (mkF m 186 #[.val (.int p0), .val (.int p1), .val (.int p2), .val (.int p3), .val (.int p4), .val (.int (4 : Int32)), .val (.int c_403), .val (.int c_405), .val (.int c_407), .val (.int c_409), .val (.ref b749), .unset] [(.int c_403)])) rfl (by rw [hml]; rfl) (argsL := [(.int c_403)]) (rest := []) rfl (lenOf pd__C_Z rfl) rfl (W := 0) (by show 2 * 0 + _ ≤ _; exact Nat.le_of_eq rfl) (hb hby at_186) (by decide) (by decide) (by decide) (by decide)
        have N811 := Fr.app N804 N810q
        have e810 := e810.trans r810_0
        refine WinW.to T810 (mkF m 189 #[.val (.int p0), .val (.int p1), .val (.int p2), .val (.int p3), .val (.int p4), .val (.int (4 : Int32)), .val (.int c_403), .val (.int c_405), .val (.int c_407), .val (.int c_409), .val (.ref b749), .unset] [(.int (1 : Int32))]) (fun _ k => st810 _ k) ?_
        refine WinW.to T810 (mkF m 192 #[.val (.int p0), .val (.int p1), .val (.int p2), .val (.int p3), .val (.int p4), .val (.int (4 : Int32)), .val (.int c_403), .val (.int c_405), .val (.int c_407), .val (.int c_409), .val (.ref b749), .unset] []) (fun _ k => XS.ifNo X810.here hx rfl (hb hby at_189) rfl ((if0 _ _).trans (feq (show ¬ ((1 : Int32) = (0 : Int32)) from by decide)).1) k) ?_
        refine WinW.to T810 (mkF m 194 #[.val (.int p0), .val (.int p1), .val (.int p2), .val (.int p3), .val (.int p4), .val (.int (4 : Int32)), .val (.int c_403), .val (.int c_405), .val (.int c_407), .val (.int c_409), .val (.ref b749), .unset] [(.int (4 : Int32))]) (fun _ k => XS.iload X810.here hx rfl (hb hby at_192) rfl k) ?_
        refine WinW.to T810 (mkF m 195 #[.val (.int p0), .val (.int p1), .val (.int p2), .val (.int p3), .val (.int p4), .val (.int (4 : Int32)), .val (.int c_403), .val (.int c_405), .val (.int c_407), .val (.int c_409), .val (.ref b749), .unset] [(.int (2 : Int32)), (.int (4 : Int32))]) (fun _ k => XS.iconst X810.here hx rfl (hb hby at_194) k) ?_
        refine WinW.to T810 (mkF m 198 #[.val (.int p0), .val (.int p1), .val (.int p2), .val (.int p3), .val (.int p4), .val (.int (4 : Int32)), .val (.int c_403), .val (.int c_405), .val (.int c_407), .val (.int c_409), .val (.ref b749), .unset] []) (fun _ k => XS.icmpNo X810.here hx rfl (hb hby at_195) rfl (flt (show ¬ ((4 : Int32) < (2 : Int32)) from by decide)).1 k) ?_
        refine WinW.to T810 (mkF m 200 #[.val (.int p0), .val (.int p1), .val (.int p2), .val (.int p3), .val (.int p4), .val (.int (4 : Int32)), .val (.int c_403), .val (.int c_405), .val (.int c_407), .val (.int c_409), .val (.ref b749), .unset] [(.int c_405)]) (fun _ k => XS.iload X810.here hx rfl (hb hby at_198) rfl k) ?_
        by_cases hws812 : wsp c_405
        · obtain ⟨T813, h813, v813, L813, X813, e813, ⟨rfl, N813q, r813_0⟩, st813⟩ := N.static X810 hx hZ803 (y := (⟨"com/example/stylewright/stylewright/xdm/TreeBuilderIsWhitespacePinLaw", "ws", "(C)Z"⟩ : MethodName)) hown803 (wk hw 56 rfl) (wk hw 57 rfl) (wk hw 3 rfl) (wk hw 58 rfl) (by decide) (ws1 l Z a0 hw c_405 h803 n0 O805 hws812) e810 (g := (mkF m 200 #[.val (.int p0), .val (.int p1), .val (.int p2), .val (.int p3), .val (.int p4), .val (.int (4 : Int32)), .val (.int c_403), .val (.int c_405), .val (.int c_407), .val (.int c_409), .val (.ref b749), .unset] [(.int c_405)])) rfl (by rw [hml]; rfl) (argsL := [(.int c_405)]) (rest := []) rfl (lenOf pd__C_Z rfl) rfl (W := 0) (by show 2 * 0 + _ ≤ _; exact Nat.le_of_eq rfl) (hb hby at_200) (by decide) (by decide) (by decide) (by decide)
          have N814 := Fr.app N811 N813q
          have e813 := e813.trans r813_0
          refine WinW.to T813 (mkF m 203 #[.val (.int p0), .val (.int p1), .val (.int p2), .val (.int p3), .val (.int p4), .val (.int (4 : Int32)), .val (.int c_403), .val (.int c_405), .val (.int c_407), .val (.int c_409), .val (.ref b749), .unset] [(.int (1 : Int32))]) (fun _ k => st813 _ k) ?_
          refine WinW.to T813 (mkF m 206 #[.val (.int p0), .val (.int p1), .val (.int p2), .val (.int p3), .val (.int p4), .val (.int (4 : Int32)), .val (.int c_403), .val (.int c_405), .val (.int c_407), .val (.int c_409), .val (.ref b749), .unset] []) (fun _ k => XS.ifNo X813.here hx rfl (hb hby at_203) rfl ((if0 _ _).trans (feq (show ¬ ((1 : Int32) = (0 : Int32)) from by decide)).1) k) ?_
          refine WinW.to T813 (mkF m 208 #[.val (.int p0), .val (.int p1), .val (.int p2), .val (.int p3), .val (.int p4), .val (.int (4 : Int32)), .val (.int c_403), .val (.int c_405), .val (.int c_407), .val (.int c_409), .val (.ref b749), .unset] [(.int (4 : Int32))]) (fun _ k => XS.iload X813.here hx rfl (hb hby at_206) rfl k) ?_
          refine WinW.to T813 (mkF m 209 #[.val (.int p0), .val (.int p1), .val (.int p2), .val (.int p3), .val (.int p4), .val (.int (4 : Int32)), .val (.int c_403), .val (.int c_405), .val (.int c_407), .val (.int c_409), .val (.ref b749), .unset] [(.int (3 : Int32)), (.int (4 : Int32))]) (fun _ k => XS.iconst X813.here hx rfl (hb hby at_208) k) ?_
          refine WinW.to T813 (mkF m 212 #[.val (.int p0), .val (.int p1), .val (.int p2), .val (.int p3), .val (.int p4), .val (.int (4 : Int32)), .val (.int c_403), .val (.int c_405), .val (.int c_407), .val (.int c_409), .val (.ref b749), .unset] []) (fun _ k => XS.icmpNo X813.here hx rfl (hb hby at_209) rfl (flt (show ¬ ((4 : Int32) < (3 : Int32)) from by decide)).1 k) ?_
          refine WinW.to T813 (mkF m 214 #[.val (.int p0), .val (.int p1), .val (.int p2), .val (.int p3), .val (.int p4), .val (.int (4 : Int32)), .val (.int c_403), .val (.int c_405), .val (.int c_407), .val (.int c_409), .val (.ref b749), .unset] [(.int c_407)]) (fun _ k => XS.iload X813.here hx rfl (hb hby at_212) rfl k) ?_
          by_cases hws815 : wsp c_407
          · obtain ⟨T816, h816, v816, L816, X816, e816, ⟨rfl, N816q, r816_0⟩, st816⟩ := N.static X813 hx hZ803 (y := (⟨"com/example/stylewright/stylewright/xdm/TreeBuilderIsWhitespacePinLaw", "ws", "(C)Z"⟩ : MethodName)) hown803 (wk hw 56 rfl) (wk hw 57 rfl) (wk hw 3 rfl) (wk hw 58 rfl) (by decide) (ws1 l Z a0 hw c_407 h803 n0 O805 hws815) e813 (g := (mkF m 214 #[.val (.int p0), .val (.int p1), .val (.int p2), .val (.int p3), .val (.int p4), .val (.int (4 : Int32)), .val (.int c_403), .val (.int c_405), .val (.int c_407), .val (.int c_409), .val (.ref b749), .unset] [(.int c_407)])) rfl (by rw [hml]; rfl) (argsL := [(.int c_407)]) (rest := []) rfl (lenOf pd__C_Z rfl) rfl (W := 0) (by show 2 * 0 + _ ≤ _; exact Nat.le_of_eq rfl) (hb hby at_214) (by decide) (by decide) (by decide) (by decide)
            have N817 := Fr.app N814 N816q
            have e816 := e816.trans r816_0
            refine WinW.to T816 (mkF m 217 #[.val (.int p0), .val (.int p1), .val (.int p2), .val (.int p3), .val (.int p4), .val (.int (4 : Int32)), .val (.int c_403), .val (.int c_405), .val (.int c_407), .val (.int c_409), .val (.ref b749), .unset] [(.int (1 : Int32))]) (fun _ k => st816 _ k) ?_
            refine WinW.to T816 (mkF m 220 #[.val (.int p0), .val (.int p1), .val (.int p2), .val (.int p3), .val (.int p4), .val (.int (4 : Int32)), .val (.int c_403), .val (.int c_405), .val (.int c_407), .val (.int c_409), .val (.ref b749), .unset] []) (fun _ k => XS.ifNo X816.here hx rfl (hb hby at_217) rfl ((if0 _ _).trans (feq (show ¬ ((1 : Int32) = (0 : Int32)) from by decide)).1) k) ?_
            refine WinW.to T816 (mkF m 222 #[.val (.int p0), .val (.int p1), .val (.int p2), .val (.int p3), .val (.int p4), .val (.int (4 : Int32)), .val (.int c_403), .val (.int c_405), .val (.int c_407), .val (.int c_409), .val (.ref b749), .unset] [(.int (4 : Int32))]) (fun _ k => XS.iload X816.here hx rfl (hb hby at_220) rfl k) ?_
            refine WinW.to T816 (mkF m 223 #[.val (.int p0), .val (.int p1), .val (.int p2), .val (.int p3), .val (.int p4), .val (.int (4 : Int32)), .val (.int c_403), .val (.int c_405), .val (.int c_407), .val (.int c_409), .val (.ref b749), .unset] [(.int (4 : Int32)), (.int (4 : Int32))]) (fun _ k => XS.iconst X816.here hx rfl (hb hby at_222) k) ?_
            refine WinW.to T816 (mkF m 226 #[.val (.int p0), .val (.int p1), .val (.int p2), .val (.int p3), .val (.int p4), .val (.int (4 : Int32)), .val (.int c_403), .val (.int c_405), .val (.int c_407), .val (.int c_409), .val (.ref b749), .unset] []) (fun _ k => XS.icmpNo X816.here hx rfl (hb hby at_223) rfl (flt (show ¬ ((4 : Int32) < (4 : Int32)) from by decide)).1 k) ?_
            refine WinW.to T816 (mkF m 228 #[.val (.int p0), .val (.int p1), .val (.int p2), .val (.int p3), .val (.int p4), .val (.int (4 : Int32)), .val (.int c_403), .val (.int c_405), .val (.int c_407), .val (.int c_409), .val (.ref b749), .unset] [(.int c_409)]) (fun _ k => XS.iload X816.here hx rfl (hb hby at_226) rfl k) ?_
            by_cases hws818 : wsp c_409
            · obtain ⟨T819, h819, v819, L819, X819, e819, ⟨rfl, N819q, r819_0⟩, st819⟩ := N.static X816 hx hZ803 (y := (⟨"com/example/stylewright/stylewright/xdm/TreeBuilderIsWhitespacePinLaw", "ws", "(C)Z"⟩ : MethodName)) hown803 (wk hw 56 rfl) (wk hw 57 rfl) (wk hw 3 rfl) (wk hw 58 rfl) (by decide) (ws1 l Z a0 hw c_409 h803 n0 O805 hws818) e816 (g := (mkF m 228 #[.val (.int p0), .val (.int p1), .val (.int p2), .val (.int p3), .val (.int p4), .val (.int (4 : Int32)), .val (.int c_403), .val (.int c_405), .val (.int c_407), .val (.int c_409), .val (.ref b749), .unset] [(.int c_409)])) rfl (by rw [hml]; rfl) (argsL := [(.int c_409)]) (rest := []) rfl (lenOf pd__C_Z rfl) rfl (W := 0) (by show 2 * 0 + _ ≤ _; exact Nat.le_of_eq rfl) (hb hby at_228) (by decide) (by decide) (by decide) (by decide)
              have N820 := Fr.app N817 N819q
              have e819 := e819.trans r819_0
              refine WinW.to T819 (mkF m 231 #[.val (.int p0), .val (.int p1), .val (.int p2), .val (.int p3), .val (.int p4), .val (.int (4 : Int32)), .val (.int c_403), .val (.int c_405), .val (.int c_407), .val (.int c_409), .val (.ref b749), .unset] [(.int (1 : Int32))]) (fun _ k => st819 _ k) ?_
              refine WinW.to T819 (mkF m 234 #[.val (.int p0), .val (.int p1), .val (.int p2), .val (.int p3), .val (.int p4), .val (.int (4 : Int32)), .val (.int c_403), .val (.int c_405), .val (.int c_407), .val (.int c_409), .val (.ref b749), .unset] []) (fun _ k => XS.ifNo X819.here hx rfl (hb hby at_231) rfl ((if0 _ _).trans (feq (show ¬ ((1 : Int32) = (0 : Int32)) from by decide)).1) k) ?_
              refine WinW.to T819 (mkF m 235 #[.val (.int p0), .val (.int p1), .val (.int p2), .val (.int p3), .val (.int p4), .val (.int (4 : Int32)), .val (.int c_403), .val (.int c_405), .val (.int c_407), .val (.int c_409), .val (.ref b749), .unset] [(.int (1 : Int32))]) (fun _ k => XS.iconst X819.here hx rfl (hb hby at_234) k) ?_
              refine WinW.to T819 (mkF m 239 #[.val (.int p0), .val (.int p1), .val (.int p2), .val (.int p3), .val (.int p4), .val (.int (4 : Int32)), .val (.int c_403), .val (.int c_405), .val (.int c_407), .val (.int c_409), .val (.ref b749), .unset] [(.int (1 : Int32))]) (fun _ k => XS.goto X819.here hx rfl (pc0 := 235) (pc' := 239) rfl (hb hby at_235) (by decide) (by decide) k) ?_
              refine WinW.to T819 (mkF m 241 #[.val (.int p0), .val (.int p1), .val (.int p2), .val (.int p3), .val (.int p4), .val (.int (4 : Int32)), .val (.int c_403), .val (.int c_405), .val (.int c_407), .val (.int c_409), .val (.ref b749), .val (.int (1 : Int32))] []) (fun _ k => XS.istore X819.here hx rfl (hb hby at_239) rfl (l' := #[.val (.int p0), .val (.int p1), .val (.int p2), .val (.int p3), .val (.int p4), .val (.int (4 : Int32)), .val (.int c_403), .val (.int c_405), .val (.int c_407), .val (.int c_409), .val (.ref b749), .val (.int (1 : Int32))]) rfl k) ?_
              refine WinW.to T819 (mkF m 243 #[.val (.int p0), .val (.int p1), .val (.int p2), .val (.int p3), .val (.int p4), .val (.int (4 : Int32)), .val (.int c_403), .val (.int c_405), .val (.int c_407), .val (.int c_409), .val (.ref b749), .val (.int (1 : Int32))] [(.ref b749)]) (fun _ k => XS.aload X819.here hx rfl (hb hby at_241) rfl rfl k) ?_
              have F821 : ArF Z h803 b758 k758 .char 4 (fun i => ([c_403, c_405, c_407, c_409] : List Int32).getD i (0 : Int32)) := (F799.keep r803_0 (ninS (Ne.symm ne759) nin0))
              have F822 : Exa Z h803 b749 "java/lang/String" := (F800.keep r803_0)
              obtain ⟨T823, h823, v823, L823, X823, e823, ⟨rfl, N823q, r823_0⟩, st823⟩ := N.static X819 hx hZ803 (y := (⟨"com/example/stylewright/stylewright/xdm/TreeBuilder", "isWhitespace", "(Ljava/lang/CharSequence;)Z"⟩ : MethodName)) hown803 (wk hw 27 rfl) (wk hw 28 rfl) (wk hw 29 rfl) (wk hw 30 rfl) (by decide) (isWs0 l Z a0 hw b749 t_803 kb_803 4 (fun i => ((fun i => ([c_403, c_405, c_407, c_409] : List Int32).getD i (0 : Int32)) i).toInt8.toInt32) (fun i => ([c_403, c_405, c_407, c_409] : List Int32).getD i (0 : Int32)) (1 : Int32) cs x1 h803 n0 O805 F822 r803_1 r803_2 r803_3 (fun i hi => own_b255 (hl i hi) (own_nc16 (own_fr F821 i hi).1 (own_fr F821 i hi).2)) (fun _ => rfl) ((fun q => absurd (fun i hi => by
                match i, hi with
                | 0, _ => exact hws809
                | 1, _ => exact hws812
                | 2, _ => exact hws815
                | 3, _ => exact hws818) q)) S_CS hcs S_SI hx1) e819 (g := (mkF m 243 #[.val (.int p0), .val (.int p1), .val (.int p2), .val (.int p3), .val (.int p4), .val (.int (4 : Int32)), .val (.int c_403), .val (.int c_405), .val (.int c_407), .val (.int c_409), .val (.ref b749), .val (.int (1 : Int32))] [(.ref b749)])) rfl (by rw [hml]; rfl) (argsL := [(.ref b749)]) (rest := []) rfl (lenOf pd__Ljava_lang_CharSequence__Z rfl) rfl (W := 0) (by show 2 * 0 + _ ≤ _; exact Nat.le_of_eq rfl) (hb hby at_243) (by decide) (by decide) (by decide) (by decide)
              have N824 := Fr.app N820 N823q
              have e823 := e823.trans r823_0
              refine WinW.to T823 (mkF m 246 #[.val (.int p0), .val (.int p1), .val (.int p2), .val (.int p3), .val (.int p4), .val (.int (4 : Int32)), .val (.int c_403), .val (.int c_405), .val (.int c_407), .val (.int c_409), .val (.ref b749), .val (.int (1 : Int32))] [(.int (1 : Int32))]) (fun _ k => st823 _ k) ?_
              refine WinW.to T823 (mkF m 248 #[.val (.int p0), .val (.int p1), .val (.int p2), .val (.int p3), .val (.int p4), .val (.int (4 : Int32)), .val (.int c_403), .val (.int c_405), .val (.int c_407), .val (.int c_409), .val (.ref b749), .val (.int (1 : Int32))] [(.int (1 : Int32)), (.int (1 : Int32))]) (fun _ k => XS.iload X823.here hx rfl (hb hby at_246) rfl k) ?_
              refine WinW.to T823 (mkF m 251 #[.val (.int p0), .val (.int p1), .val (.int p2), .val (.int p3), .val (.int p4), .val (.int (4 : Int32)), .val (.int c_403), .val (.int c_405), .val (.int c_407), .val (.int c_409), .val (.ref b749), .val (.int (1 : Int32))] []) (fun _ k => XS.icmpNo X823.here hx rfl (hb hby at_248) rfl (teq (show (1 : Int32) = (1 : Int32) from by decide)).2 k) ?_
              refine WinW.to T823 (mkF m 252 #[.val (.int p0), .val (.int p1), .val (.int p2), .val (.int p3), .val (.int p4), .val (.int (4 : Int32)), .val (.int c_403), .val (.int c_405), .val (.int c_407), .val (.int c_409), .val (.ref b749), .val (.int (1 : Int32))] [(.int (1 : Int32))]) (fun _ k => XS.iconst X823.here hx rfl (hb hby at_251) k) ?_
              refine WinW.to T823 (mkF m 256 #[.val (.int p0), .val (.int p1), .val (.int p2), .val (.int p3), .val (.int p4), .val (.int (4 : Int32)), .val (.int c_403), .val (.int c_405), .val (.int c_407), .val (.int c_409), .val (.ref b749), .val (.int (1 : Int32))] [(.int (1 : Int32))]) (fun _ k => XS.goto X823.here hx rfl (pc0 := 252) (pc' := 256) rfl (hb hby at_252) (by decide) (by decide) k) ?_
              exact WinW.retN X823 hS803 (by rw [e823]; exact hk803) hx hlk (t := .boolean) hret (by simp) rfl (hb hby at_256) hZ803 (own_EW hw) (by rw [e823]; exact C808) (by decide) (by decide) (by (try rw [e823]); exact ⟨rfl, N824, trivial⟩)
            · obtain ⟨T825, h825, v825, L825, X825, e825, ⟨rfl, N825q, r825_0⟩, st825⟩ := N.static X816 hx hZ803 (y := (⟨"com/example/stylewright/stylewright/xdm/TreeBuilderIsWhitespacePinLaw", "ws", "(C)Z"⟩ : MethodName)) hown803 (wk hw 56 rfl) (wk hw 57 rfl) (wk hw 3 rfl) (wk hw 58 rfl) (by decide) (ws0 l Z a0 hw c_409 h803 n0 O805 hws818) e816 (g := (mkF m 228 #[.val (.int p0), .val (.int p1), .val (.int p2), .val (.int p3), .val (.int p4), .val (.int (4 : Int32)), .val (.int c_403), .val (.int c_405), .val (.int c_407), .val (.int c_409), .val (.ref b749), .unset] [(.int c_409)])) rfl (by rw [hml]; rfl) (argsL := [(.int c_409)]) (rest := []) rfl (lenOf pd__C_Z rfl) rfl (W := 0) (by show 2 * 0 + _ ≤ _; exact Nat.le_of_eq rfl) (hb hby at_228) (by decide) (by decide) (by decide) (by decide)
              have N826 := Fr.app N817 N825q
              have e825 := e825.trans r825_0
              refine WinW.to T825 (mkF m 231 #[.val (.int p0), .val (.int p1), .val (.int p2), .val (.int p3), .val (.int p4), .val (.int (4 : Int32)), .val (.int c_403), .val (.int c_405), .val (.int c_407), .val (.int c_409), .val (.ref b749), .unset] [(.int (0 : Int32))]) (fun _ k => st825 _ k) ?_
              refine WinW.to T825 (mkF m 238 #[.val (.int p0), .val (.int p1), .val (.int p2), .val (.int p3), .val (.int p4), .val (.int (4 : Int32)), .val (.int c_403), .val (.int c_405), .val (.int c_407), .val (.int c_409), .val (.ref b749), .unset] []) (fun _ k => XS.ifYes X825.here hx rfl (pc0 := 231) (pc' := 238) rfl (hb hby at_231) rfl ((if0 _ _).trans (teq (show (0 : Int32) = (0 : Int32) from by decide)).1) (by decide) (by decide) k) ?_
              refine WinW.to T825 (mkF m 239 #[.val (.int p0), .val (.int p1), .val (.int p2), .val (.int p3), .val (.int p4), .val (.int (4 : Int32)), .val (.int c_403), .val (.int c_405), .val (.int c_407), .val (.int c_409), .val (.ref b749), .unset] [(.int (0 : Int32))]) (fun _ k => XS.iconst X825.here hx rfl (hb hby at_238) k) ?_
              refine WinW.to T825 (mkF m 241 #[.val (.int p0), .val (.int p1), .val (.int p2), .val (.int p3), .val (.int p4), .val (.int (4 : Int32)), .val (.int c_403), .val (.int c_405), .val (.int c_407), .val (.int c_409), .val (.ref b749), .val (.int (0 : Int32))] []) (fun _ k => XS.istore X825.here hx rfl (hb hby at_239) rfl (l' := #[.val (.int p0), .val (.int p1), .val (.int p2), .val (.int p3), .val (.int p4), .val (.int (4 : Int32)), .val (.int c_403), .val (.int c_405), .val (.int c_407), .val (.int c_409), .val (.ref b749), .val (.int (0 : Int32))]) rfl k) ?_
              refine WinW.to T825 (mkF m 243 #[.val (.int p0), .val (.int p1), .val (.int p2), .val (.int p3), .val (.int p4), .val (.int (4 : Int32)), .val (.int c_403), .val (.int c_405), .val (.int c_407), .val (.int c_409), .val (.ref b749), .val (.int (0 : Int32))] [(.ref b749)]) (fun _ k => XS.aload X825.here hx rfl (hb hby at_241) rfl rfl k) ?_
              have F827 : ArF Z h803 b758 k758 .char 4 (fun i => ([c_403, c_405, c_407, c_409] : List Int32).getD i (0 : Int32)) := (F799.keep r803_0 (ninS (Ne.symm ne759) nin0))
              have F828 : Exa Z h803 b749 "java/lang/String" := (F800.keep r803_0)
              obtain ⟨T829, h829, v829, L829, X829, e829, ⟨rfl, N829q, r829_0⟩, st829⟩ := N.static X825 hx hZ803 (y := (⟨"com/example/stylewright/stylewright/xdm/TreeBuilder", "isWhitespace", "(Ljava/lang/CharSequence;)Z"⟩ : MethodName)) hown803 (wk hw 27 rfl) (wk hw 28 rfl) (wk hw 29 rfl) (wk hw 30 rfl) (by decide) (isWs0 l Z a0 hw b749 t_803 kb_803 4 (fun i => ((fun i => ([c_403, c_405, c_407, c_409] : List Int32).getD i (0 : Int32)) i).toInt8.toInt32) (fun i => ([c_403, c_405, c_407, c_409] : List Int32).getD i (0 : Int32)) (0 : Int32) cs x1 h803 n0 O805 F828 r803_1 r803_2 r803_3 (fun i hi => own_b255 (hl i hi) (own_nc16 (own_fr F827 i hi).1 (own_fr F827 i hi).2)) (fun q => absurd (q 3 (by decide)) hws818) (fun _ => rfl) S_CS hcs S_SI hx1) e825 (g := (mkF m 243 #[.val (.int p0), .val (.int p1), .val (.int p2), .val (.int p3), .val (.int p4), .val (.int (4 : Int32)), .val (.int c_403), .val (.int c_405), .val (.int c_407), .val (.int c_409), .val (.ref b749), .val (.int (0 : Int32))] [(.ref b749)])) rfl (by rw [hml]; rfl) (argsL := [(.ref b749)]) (rest := []) rfl (lenOf pd__Ljava_lang_CharSequence__Z rfl) rfl (W := 0) (by show 2 * 0 + _ ≤ _; exact Nat.le_of_eq rfl) (hb hby at_243) (by decide) (by decide) (by decide) (by decide)
              have N830 := Fr.app N826 N829q
              have e829 := e829.trans r829_0
              refine WinW.to T829 (mkF m 246 #[.val (.int p0), .val (.int p1), .val (.int p2), .val (.int p3), .val (.int p4), .val (.int (4 : Int32)), .val (.int c_403), .val (.int c_405), .val (.int c_407), .val (.int c_409), .val (.ref b749), .val (.int (0 : Int32))] [(.int (0 : Int32))]) (fun _ k => st829 _ k) ?_
              refine WinW.to T829 (mkF m 248 #[.val (.int p0), .val (.int p1), .val (.int p2), .val (.int p3), .val (.int p4), .val (.int (4 : Int32)), .val (.int c_403), .val (.int c_405), .val (.int c_407), .val (.int c_409), .val (.ref b749), .val (.int (0 : Int32))] [(.int (0 : Int32)), (.int (0 : Int32))]) (fun _ k => XS.iload X829.here hx rfl (hb hby at_246) rfl k) ?_
              refine WinW.to T829 (mkF m 251 #[.val (.int p0), .val (.int p1), .val (.int p2), .val (.int p3), .val (.int p4), .val (.int (4 : Int32)), .val (.int c_403), .val (.int c_405), .val (.int c_407), .val (.int c_409), .val (.ref b749), .val (.int (0 : Int32))] []) (fun _ k => XS.icmpNo X829.here hx rfl (hb hby at_248) rfl (teq (show (0 : Int32) = (0 : Int32) from by decide)).2 k) ?_
              refine WinW.to T829 (mkF m 252 #[.val (.int p0), .val (.int p1), .val (.int p2), .val (.int p3), .val (.int p4), .val (.int (4 : Int32)), .val (.int c_403), .val (.int c_405), .val (.int c_407), .val (.int c_409), .val (.ref b749), .val (.int (0 : Int32))] [(.int (1 : Int32))]) (fun _ k => XS.iconst X829.here hx rfl (hb hby at_251) k) ?_
              refine WinW.to T829 (mkF m 256 #[.val (.int p0), .val (.int p1), .val (.int p2), .val (.int p3), .val (.int p4), .val (.int (4 : Int32)), .val (.int c_403), .val (.int c_405), .val (.int c_407), .val (.int c_409), .val (.ref b749), .val (.int (0 : Int32))] [(.int (1 : Int32))]) (fun _ k => XS.goto X829.here hx rfl (pc0 := 252) (pc' := 256) rfl (hb hby at_252) (by decide) (by decide) k) ?_
              exact WinW.retN X829 hS803 (by rw [e829]; exact hk803) hx hlk (t := .boolean) hret (by simp) rfl (hb hby at_256) hZ803 (own_EW hw) (by rw [e829]; exact C808) (by decide) (by decide) (by (try rw [e829]); exact ⟨rfl, N830, trivial⟩)
          · obtain ⟨T831, h831, v831, L831, X831, e831, ⟨rfl, N831q, r831_0⟩, st831⟩ := N.static X813 hx hZ803 (y := (⟨"com/example/stylewright/stylewright/xdm/TreeBuilderIsWhitespacePinLaw", "ws", "(C)Z"⟩ : MethodName)) hown803 (wk hw 56 rfl) (wk hw 57 rfl) (wk hw 3 rfl) (wk hw 58 rfl) (by decide) (ws0 l Z a0 hw c_407 h803 n0 O805 hws815) e813 (g := (mkF m 214 #[.val (.int p0), .val (.int p1), .val (.int p2), .val (.int p3), .val (.int p4), .val (.int (4 : Int32)), .val (.int c_403), .val (.int c_405), .val (.int c_407), .val (.int c_409), .val (.ref b749), .unset] [(.int c_407)])) rfl (by rw [hml]; rfl) (argsL := [(.int c_407)]) (rest := []) rfl (lenOf pd__C_Z rfl) rfl (W := 0) (by show 2 * 0 + _ ≤ _; exact Nat.le_of_eq rfl) (hb hby at_214) (by decide) (by decide) (by decide) (by decide)
            have N832 := Fr.app N814 N831q
            have e831 := e831.trans r831_0
            refine WinW.to T831 (mkF m 217 #[.val (.int p0), .val (.int p1), .val (.int p2), .val (.int p3), .val (.int p4), .val (.int (4 : Int32)), .val (.int c_403), .val (.int c_405), .val (.int c_407), .val (.int c_409), .val (.ref b749), .unset] [(.int (0 : Int32))]) (fun _ k => st831 _ k) ?_
            refine WinW.to T831 (mkF m 238 #[.val (.int p0), .val (.int p1), .val (.int p2), .val (.int p3), .val (.int p4), .val (.int (4 : Int32)), .val (.int c_403), .val (.int c_405), .val (.int c_407), .val (.int c_409), .val (.ref b749), .unset] []) (fun _ k => XS.ifYes X831.here hx rfl (pc0 := 217) (pc' := 238) rfl (hb hby at_217) rfl ((if0 _ _).trans (teq (show (0 : Int32) = (0 : Int32) from by decide)).1) (by decide) (by decide) k) ?_
            refine WinW.to T831 (mkF m 239 #[.val (.int p0), .val (.int p1), .val (.int p2), .val (.int p3), .val (.int p4), .val (.int (4 : Int32)), .val (.int c_403), .val (.int c_405), .val (.int c_407), .val (.int c_409), .val (.ref b749), .unset] [(.int (0 : Int32))]) (fun _ k => XS.iconst X831.here hx rfl (hb hby at_238) k) ?_
            refine WinW.to T831 (mkF m 241 #[.val (.int p0), .val (.int p1), .val (.int p2), .val (.int p3), .val (.int p4), .val (.int (4 : Int32)), .val (.int c_403), .val (.int c_405), .val (.int c_407), .val (.int c_409), .val (.ref b749), .val (.int (0 : Int32))] []) (fun _ k => XS.istore X831.here hx rfl (hb hby at_239) rfl (l' := #[.val (.int p0), .val (.int p1), .val (.int p2), .val (.int p3), .val (.int p4), .val (.int (4 : Int32)), .val (.int c_403), .val (.int c_405), .val (.int c_407), .val (.int c_409), .val (.ref b749), .val (.int (0 : Int32))]) rfl k) ?_
            refine WinW.to T831 (mkF m 243 #[.val (.int p0), .val (.int p1), .val (.int p2), .val (.int p3), .val (.int p4), .val (.int (4 : Int32)), .val (.int c_403), .val (.int c_405), .val (.int c_407), .val (.int c_409), .val (.ref b749), .val (.int (0 : Int32))] [(.ref b749)]) (fun _ k => XS.aload X831.here hx rfl (hb hby at_241) rfl rfl k) ?_
            have F833 : ArF Z h803 b758 k758 .char 4 (fun i => ([c_403, c_405, c_407, c_409] : List Int32).getD i (0 : Int32)) := (F799.keep r803_0 (ninS (Ne.symm ne759) nin0))
            have F834 : Exa Z h803 b749 "java/lang/String" := (F800.keep r803_0)
            obtain ⟨T835, h835, v835, L835, X835, e835, ⟨rfl, N835q, r835_0⟩, st835⟩ := N.static X831 hx hZ803 (y := (⟨"com/example/stylewright/stylewright/xdm/TreeBuilder", "isWhitespace", "(Ljava/lang/CharSequence;)Z"⟩ : MethodName)) hown803 (wk hw 27 rfl) (wk hw 28 rfl) (wk hw 29 rfl) (wk hw 30 rfl) (by decide) (isWs0 l Z a0 hw b749 t_803 kb_803 4 (fun i => ((fun i => ([c_403, c_405, c_407, c_409] : List Int32).getD i (0 : Int32)) i).toInt8.toInt32) (fun i => ([c_403, c_405, c_407, c_409] : List Int32).getD i (0 : Int32)) (0 : Int32) cs x1 h803 n0 O805 F834 r803_1 r803_2 r803_3 (fun i hi => own_b255 (hl i hi) (own_nc16 (own_fr F833 i hi).1 (own_fr F833 i hi).2)) (fun q => absurd (q 2 (by decide)) hws815) (fun _ => rfl) S_CS hcs S_SI hx1) e831 (g := (mkF m 243 #[.val (.int p0), .val (.int p1), .val (.int p2), .val (.int p3), .val (.int p4), .val (.int (4 : Int32)), .val (.int c_403), .val (.int c_405), .val (.int c_407), .val (.int c_409), .val (.ref b749), .val (.int (0 : Int32))] [(.ref b749)])) rfl (by rw [hml]; rfl) (argsL := [(.ref b749)]) (rest := []) rfl (lenOf pd__Ljava_lang_CharSequence__Z rfl) rfl (W := 0) (by show 2 * 0 + _ ≤ _; exact Nat.le_of_eq rfl) (hb hby at_243) (by decide) (by decide) (by decide) (by decide)
            have N836 := Fr.app N832 N835q
            have e835 := e835.trans r835_0
            refine WinW.to T835 (mkF m 246 #[.val (.int p0), .val (.int p1), .val (.int p2), .val (.int p3), .val (.int p4), .val (.int (4 : Int32)), .val (.int c_403), .val (.int c_405), .val (.int c_407), .val (.int c_409), .val (.ref b749), .val (.int (0 : Int32))] [(.int (0 : Int32))]) (fun _ k => st835 _ k) ?_
            refine WinW.to T835 (mkF m 248 #[.val (.int p0), .val (.int p1), .val (.int p2), .val (.int p3), .val (.int p4), .val (.int (4 : Int32)), .val (.int c_403), .val (.int c_405), .val (.int c_407), .val (.int c_409), .val (.ref b749), .val (.int (0 : Int32))] [(.int (0 : Int32)), (.int (0 : Int32))]) (fun _ k => XS.iload X835.here hx rfl (hb hby at_246) rfl k) ?_
            refine WinW.to T835 (mkF m 251 #[.val (.int p0), .val (.int p1), .val (.int p2), .val (.int p3), .val (.int p4), .val (.int (4 : Int32)), .val (.int c_403), .val (.int c_405), .val (.int c_407), .val (.int c_409), .val (.ref b749), .val (.int (0 : Int32))] []) (fun _ k => XS.icmpNo X835.here hx rfl (hb hby at_248) rfl (teq (show (0 : Int32) = (0 : Int32) from by decide)).2 k) ?_
            refine WinW.to T835 (mkF m 252 #[.val (.int p0), .val (.int p1), .val (.int p2), .val (.int p3), .val (.int p4), .val (.int (4 : Int32)), .val (.int c_403), .val (.int c_405), .val (.int c_407), .val (.int c_409), .val (.ref b749), .val (.int (0 : Int32))] [(.int (1 : Int32))]) (fun _ k => XS.iconst X835.here hx rfl (hb hby at_251) k) ?_
            refine WinW.to T835 (mkF m 256 #[.val (.int p0), .val (.int p1), .val (.int p2), .val (.int p3), .val (.int p4), .val (.int (4 : Int32)), .val (.int c_403), .val (.int c_405), .val (.int c_407), .val (.int c_409), .val (.ref b749), .val (.int (0 : Int32))] [(.int (1 : Int32))]) (fun _ k => XS.goto X835.here hx rfl (pc0 := 252) (pc' := 256) rfl (hb hby at_252) (by decide) (by decide) k) ?_
            exact WinW.retN X835 hS803 (by rw [e835]; exact hk803) hx hlk (t := .boolean) hret (by simp) rfl (hb hby at_256) hZ803 (own_EW hw) (by rw [e835]; exact C808) (by decide) (by decide) (by (try rw [e835]); exact ⟨rfl, N836, trivial⟩)
        · obtain ⟨T837, h837, v837, L837, X837, e837, ⟨rfl, N837q, r837_0⟩, st837⟩ := N.static X810 hx hZ803 (y := (⟨"com/example/stylewright/stylewright/xdm/TreeBuilderIsWhitespacePinLaw", "ws", "(C)Z"⟩ : MethodName)) hown803 (wk hw 56 rfl) (wk hw 57 rfl) (wk hw 3 rfl) (wk hw 58 rfl) (by decide) (ws0 l Z a0 hw c_405 h803 n0 O805 hws812) e810 (g := (mkF m 200 #[.val (.int p0), .val (.int p1), .val (.int p2), .val (.int p3), .val (.int p4), .val (.int (4 : Int32)), .val (.int c_403), .val (.int c_405), .val (.int c_407), .val (.int c_409), .val (.ref b749), .unset] [(.int c_405)])) rfl (by rw [hml]; rfl) (argsL := [(.int c_405)]) (rest := []) rfl (lenOf pd__C_Z rfl) rfl (W := 0) (by show 2 * 0 + _ ≤ _; exact Nat.le_of_eq rfl) (hb hby at_200) (by decide) (by decide) (by decide) (by decide)
          have N838 := Fr.app N811 N837q
          have e837 := e837.trans r837_0
          refine WinW.to T837 (mkF m 203 #[.val (.int p0), .val (.int p1), .val (.int p2), .val (.int p3), .val (.int p4), .val (.int (4 : Int32)), .val (.int c_403), .val (.int c_405), .val (.int c_407), .val (.int c_409), .val (.ref b749), .unset] [(.int (0 : Int32))]) (fun _ k => st837 _ k) ?_
          refine WinW.to T837 (mkF m 238 #[.val (.int p0), .val (.int p1), .val (.int p2), .val (.int p3), .val (.int p4), .val (.int (4 : Int32)), .val (.int c_403), .val (.int c_405), .val (.int c_407), .val (.int c_409), .val (.ref b749), .unset] []) (fun _ k => XS.ifYes X837.here hx rfl (pc0 := 203) (pc' := 238) rfl (hb hby at_203) rfl ((if0 _ _).trans (teq (show (0 : Int32) = (0 : Int32) from by decide)).1) (by decide) (by decide) k) ?_
          refine WinW.to T837 (mkF m 239 #[.val (.int p0), .val (.int p1), .val (.int p2), .val (.int p3), .val (.int p4), .val (.int (4 : Int32)), .val (.int c_403), .val (.int c_405), .val (.int c_407), .val (.int c_409), .val (.ref b749), .unset] [(.int (0 : Int32))]) (fun _ k => XS.iconst X837.here hx rfl (hb hby at_238) k) ?_
          refine WinW.to T837 (mkF m 241 #[.val (.int p0), .val (.int p1), .val (.int p2), .val (.int p3), .val (.int p4), .val (.int (4 : Int32)), .val (.int c_403), .val (.int c_405), .val (.int c_407), .val (.int c_409), .val (.ref b749), .val (.int (0 : Int32))] []) (fun _ k => XS.istore X837.here hx rfl (hb hby at_239) rfl (l' := #[.val (.int p0), .val (.int p1), .val (.int p2), .val (.int p3), .val (.int p4), .val (.int (4 : Int32)), .val (.int c_403), .val (.int c_405), .val (.int c_407), .val (.int c_409), .val (.ref b749), .val (.int (0 : Int32))]) rfl k) ?_
          refine WinW.to T837 (mkF m 243 #[.val (.int p0), .val (.int p1), .val (.int p2), .val (.int p3), .val (.int p4), .val (.int (4 : Int32)), .val (.int c_403), .val (.int c_405), .val (.int c_407), .val (.int c_409), .val (.ref b749), .val (.int (0 : Int32))] [(.ref b749)]) (fun _ k => XS.aload X837.here hx rfl (hb hby at_241) rfl rfl k) ?_
          have F839 : ArF Z h803 b758 k758 .char 4 (fun i => ([c_403, c_405, c_407, c_409] : List Int32).getD i (0 : Int32)) := (F799.keep r803_0 (ninS (Ne.symm ne759) nin0))
          have F840 : Exa Z h803 b749 "java/lang/String" := (F800.keep r803_0)
          obtain ⟨T841, h841, v841, L841, X841, e841, ⟨rfl, N841q, r841_0⟩, st841⟩ := N.static X837 hx hZ803 (y := (⟨"com/example/stylewright/stylewright/xdm/TreeBuilder", "isWhitespace", "(Ljava/lang/CharSequence;)Z"⟩ : MethodName)) hown803 (wk hw 27 rfl) (wk hw 28 rfl) (wk hw 29 rfl) (wk hw 30 rfl) (by decide) (isWs0 l Z a0 hw b749 t_803 kb_803 4 (fun i => ((fun i => ([c_403, c_405, c_407, c_409] : List Int32).getD i (0 : Int32)) i).toInt8.toInt32) (fun i => ([c_403, c_405, c_407, c_409] : List Int32).getD i (0 : Int32)) (0 : Int32) cs x1 h803 n0 O805 F840 r803_1 r803_2 r803_3 (fun i hi => own_b255 (hl i hi) (own_nc16 (own_fr F839 i hi).1 (own_fr F839 i hi).2)) (fun q => absurd (q 1 (by decide)) hws812) (fun _ => rfl) S_CS hcs S_SI hx1) e837 (g := (mkF m 243 #[.val (.int p0), .val (.int p1), .val (.int p2), .val (.int p3), .val (.int p4), .val (.int (4 : Int32)), .val (.int c_403), .val (.int c_405), .val (.int c_407), .val (.int c_409), .val (.ref b749), .val (.int (0 : Int32))] [(.ref b749)])) rfl (by rw [hml]; rfl) (argsL := [(.ref b749)]) (rest := []) rfl (lenOf pd__Ljava_lang_CharSequence__Z rfl) rfl (W := 0) (by show 2 * 0 + _ ≤ _; exact Nat.le_of_eq rfl) (hb hby at_243) (by decide) (by decide) (by decide) (by decide)
          have N842 := Fr.app N838 N841q
          have e841 := e841.trans r841_0
          refine WinW.to T841 (mkF m 246 #[.val (.int p0), .val (.int p1), .val (.int p2), .val (.int p3), .val (.int p4), .val (.int (4 : Int32)), .val (.int c_403), .val (.int c_405), .val (.int c_407), .val (.int c_409), .val (.ref b749), .val (.int (0 : Int32))] [(.int (0 : Int32))]) (fun _ k => st841 _ k) ?_
          refine WinW.to T841 (mkF m 248 #[.val (.int p0), .val (.int p1), .val (.int p2), .val (.int p3), .val (.int p4), .val (.int (4 : Int32)), .val (.int c_403), .val (.int c_405), .val (.int c_407), .val (.int c_409), .val (.ref b749), .val (.int (0 : Int32))] [(.int (0 : Int32)), (.int (0 : Int32))]) (fun _ k => XS.iload X841.here hx rfl (hb hby at_246) rfl k) ?_
          refine WinW.to T841 (mkF m 251 #[.val (.int p0), .val (.int p1), .val (.int p2), .val (.int p3), .val (.int p4), .val (.int (4 : Int32)), .val (.int c_403), .val (.int c_405), .val (.int c_407), .val (.int c_409), .val (.ref b749), .val (.int (0 : Int32))] []) (fun _ k => XS.icmpNo X841.here hx rfl (hb hby at_248) rfl (teq (show (0 : Int32) = (0 : Int32) from by decide)).2 k) ?_
          refine WinW.to T841 (mkF m 252 #[.val (.int p0), .val (.int p1), .val (.int p2), .val (.int p3), .val (.int p4), .val (.int (4 : Int32)), .val (.int c_403), .val (.int c_405), .val (.int c_407), .val (.int c_409), .val (.ref b749), .val (.int (0 : Int32))] [(.int (1 : Int32))]) (fun _ k => XS.iconst X841.here hx rfl (hb hby at_251) k) ?_
          refine WinW.to T841 (mkF m 256 #[.val (.int p0), .val (.int p1), .val (.int p2), .val (.int p3), .val (.int p4), .val (.int (4 : Int32)), .val (.int c_403), .val (.int c_405), .val (.int c_407), .val (.int c_409), .val (.ref b749), .val (.int (0 : Int32))] [(.int (1 : Int32))]) (fun _ k => XS.goto X841.here hx rfl (pc0 := 252) (pc' := 256) rfl (hb hby at_252) (by decide) (by decide) k) ?_
          exact WinW.retN X841 hS803 (by rw [e841]; exact hk803) hx hlk (t := .boolean) hret (by simp) rfl (hb hby at_256) hZ803 (own_EW hw) (by rw [e841]; exact C808) (by decide) (by decide) (by (try rw [e841]); exact ⟨rfl, N842, trivial⟩)
      · obtain ⟨T843, h843, v843, L843, X843, e843, ⟨rfl, N843q, r843_0⟩, st843⟩ := N.static X803 hx hZ803 (y := (⟨"com/example/stylewright/stylewright/xdm/TreeBuilderIsWhitespacePinLaw", "ws", "(C)Z"⟩ : MethodName)) hown803 (wk hw 56 rfl) (wk hw 57 rfl) (wk hw 3 rfl) (wk hw 58 rfl) (by decide) (ws0 l Z a0 hw c_403 h803 n0 O805 hws809) e803 (g := (mkF m 186 #[.val (.int p0), .val (.int p1), .val (.int p2), .val (.int p3), .val (.int p4), .val (.int (4 : Int32)), .val (.int c_403), .val (.int c_405), .val (.int c_407), .val (.int c_409), .val (.ref b749), .unset] [(.int c_403)])) rfl (by rw [hml]; rfl) (argsL := [(.int c_403)]) (rest := []) rfl (lenOf pd__C_Z rfl) rfl (W := 0) (by show 2 * 0 + _ ≤ _; exact Nat.le_of_eq rfl) (hb hby at_186) (by decide) (by decide) (by decide) (by decide)
        have N844 := Fr.app N804 N843q
        have e843 := e843.trans r843_0
        refine WinW.to T843 (mkF m 189 #[.val (.int p0), .val (.int p1), .val (.int p2), .val (.int p3), .val (.int p4), .val (.int (4 : Int32)), .val (.int c_403), .val (.int c_405), .val (.int c_407), .val (.int c_409), .val (.ref b749), .unset] [(.int (0 : Int32))]) (fun _ k => st843 _ k) ?_
        refine WinW.to T843 (mkF m 238 #[.val (.int p0), .val (.int p1), .val (.int p2), .val (.int p3), .val (.int p4), .val (.int (4 : Int32)), .val (.int c_403), .val (.int c_405), .val (.int c_407), .val (.int c_409), .val (.ref b749), .unset] []) (fun _ k => XS.ifYes X843.here hx rfl (pc0 := 189) (pc' := 238) rfl (hb hby at_189) rfl ((if0 _ _).trans (teq (show (0 : Int32) = (0 : Int32) from by decide)).1) (by decide) (by decide) k) ?_
        refine WinW.to T843 (mkF m 239 #[.val (.int p0), .val (.int p1), .val (.int p2), .val (.int p3), .val (.int p4), .val (.int (4 : Int32)), .val (.int c_403), .val (.int c_405), .val (.int c_407), .val (.int c_409), .val (.ref b749), .unset] [(.int (0 : Int32))]) (fun _ k => XS.iconst X843.here hx rfl (hb hby at_238) k) ?_
        refine WinW.to T843 (mkF m 241 #[.val (.int p0), .val (.int p1), .val (.int p2), .val (.int p3), .val (.int p4), .val (.int (4 : Int32)), .val (.int c_403), .val (.int c_405), .val (.int c_407), .val (.int c_409), .val (.ref b749), .val (.int (0 : Int32))] []) (fun _ k => XS.istore X843.here hx rfl (hb hby at_239) rfl (l' := #[.val (.int p0), .val (.int p1), .val (.int p2), .val (.int p3), .val (.int p4), .val (.int (4 : Int32)), .val (.int c_403), .val (.int c_405), .val (.int c_407), .val (.int c_409), .val (.ref b749), .val (.int (0 : Int32))]) rfl k) ?_
        refine WinW.to T843 (mkF m 243 #[.val (.int p0), .val (.int p1), .val (.int p2), .val (.int p3), .val (.int p4), .val (.int (4 : Int32)), .val (.int c_403), .val (.int c_405), .val (.int c_407), .val (.int c_409), .val (.ref b749), .val (.int (0 : Int32))] [(.ref b749)]) (fun _ k => XS.aload X843.here hx rfl (hb hby at_241) rfl rfl k) ?_
        have F845 : ArF Z h803 b758 k758 .char 4 (fun i => ([c_403, c_405, c_407, c_409] : List Int32).getD i (0 : Int32)) := (F799.keep r803_0 (ninS (Ne.symm ne759) nin0))
        have F846 : Exa Z h803 b749 "java/lang/String" := (F800.keep r803_0)
        obtain ⟨T847, h847, v847, L847, X847, e847, ⟨rfl, N847q, r847_0⟩, st847⟩ := N.static X843 hx hZ803 (y := (⟨"com/example/stylewright/stylewright/xdm/TreeBuilder", "isWhitespace", "(Ljava/lang/CharSequence;)Z"⟩ : MethodName)) hown803 (wk hw 27 rfl) (wk hw 28 rfl) (wk hw 29 rfl) (wk hw 30 rfl) (by decide) (isWs0 l Z a0 hw b749 t_803 kb_803 4 (fun i => ((fun i => ([c_403, c_405, c_407, c_409] : List Int32).getD i (0 : Int32)) i).toInt8.toInt32) (fun i => ([c_403, c_405, c_407, c_409] : List Int32).getD i (0 : Int32)) (0 : Int32) cs x1 h803 n0 O805 F846 r803_1 r803_2 r803_3 (fun i hi => own_b255 (hl i hi) (own_nc16 (own_fr F845 i hi).1 (own_fr F845 i hi).2)) (fun q => absurd (q 0 (by decide)) hws809) (fun _ => rfl) S_CS hcs S_SI hx1) e843 (g := (mkF m 243 #[.val (.int p0), .val (.int p1), .val (.int p2), .val (.int p3), .val (.int p4), .val (.int (4 : Int32)), .val (.int c_403), .val (.int c_405), .val (.int c_407), .val (.int c_409), .val (.ref b749), .val (.int (0 : Int32))] [(.ref b749)])) rfl (by rw [hml]; rfl) (argsL := [(.ref b749)]) (rest := []) rfl (lenOf pd__Ljava_lang_CharSequence__Z rfl) rfl (W := 0) (by show 2 * 0 + _ ≤ _; exact Nat.le_of_eq rfl) (hb hby at_243) (by decide) (by decide) (by decide) (by decide)
        have N848 := Fr.app N844 N847q
        have e847 := e847.trans r847_0
        refine WinW.to T847 (mkF m 246 #[.val (.int p0), .val (.int p1), .val (.int p2), .val (.int p3), .val (.int p4), .val (.int (4 : Int32)), .val (.int c_403), .val (.int c_405), .val (.int c_407), .val (.int c_409), .val (.ref b749), .val (.int (0 : Int32))] [(.int (0 : Int32))]) (fun _ k => st847 _ k) ?_
        refine WinW.to T847 (mkF m 248 #[.val (.int p0), .val (.int p1), .val (.int p2), .val (.int p3), .val (.int p4), .val (.int (4 : Int32)), .val (.int c_403), .val (.int c_405), .val (.int c_407), .val (.int c_409), .val (.ref b749), .val (.int (0 : Int32))] [(.int (0 : Int32)), (.int (0 : Int32))]) (fun _ k => XS.iload X847.here hx rfl (hb hby at_246) rfl k) ?_
        refine WinW.to T847 (mkF m 251 #[.val (.int p0), .val (.int p1), .val (.int p2), .val (.int p3), .val (.int p4), .val (.int (4 : Int32)), .val (.int c_403), .val (.int c_405), .val (.int c_407), .val (.int c_409), .val (.ref b749), .val (.int (0 : Int32))] []) (fun _ k => XS.icmpNo X847.here hx rfl (hb hby at_248) rfl (teq (show (0 : Int32) = (0 : Int32) from by decide)).2 k) ?_
        refine WinW.to T847 (mkF m 252 #[.val (.int p0), .val (.int p1), .val (.int p2), .val (.int p3), .val (.int p4), .val (.int (4 : Int32)), .val (.int c_403), .val (.int c_405), .val (.int c_407), .val (.int c_409), .val (.ref b749), .val (.int (0 : Int32))] [(.int (1 : Int32))]) (fun _ k => XS.iconst X847.here hx rfl (hb hby at_251) k) ?_
        refine WinW.to T847 (mkF m 256 #[.val (.int p0), .val (.int p1), .val (.int p2), .val (.int p3), .val (.int p4), .val (.int (4 : Int32)), .val (.int c_403), .val (.int c_405), .val (.int c_407), .val (.int c_409), .val (.ref b749), .val (.int (0 : Int32))] [(.int (1 : Int32))]) (fun _ k => XS.goto X847.here hx rfl (pc0 := 252) (pc' := 256) rfl (hb hby at_252) (by decide) (by decide) k) ?_
        exact WinW.retN X847 hS803 (by rw [e847]; exact hk803) hx hlk (t := .boolean) hret (by simp) rfl (hb hby at_256) hZ803 (own_EW hw) (by rw [e847]; exact C808) (by decide) (by decide) (by (try rw [e847]); exact ⟨rfl, N848, trivial⟩)
    · have F849 : Exa Z h792 b749 "java/lang/String" := (Exa.wr W792 (Exa.wr W784 (Exa.wr W776 (Exa.wr W768 (Exa.ext E758 A749)))))
      have F850 : Fld Z h792 b749 "java/lang/String" "value" "[B" .null := (Fld.other W792 (Fld.other W784 (Fld.other W776 (Fld.other W768 (Fld.ext E758 F756) (Or.inl ne759)) (Or.inl ne759)) (Or.inl ne759)) (Or.inl ne759))
      have F851 : Fld Z h792 b749 "java/lang/String" "coder" "B" (.int (0 : Int32)) := (Fld.other W792 (Fld.other W784 (Fld.other W776 (Fld.other W768 (Fld.ext E758 F757) (Or.inl ne759)) (Or.inl ne759)) (Or.inl ne759)) (Or.inl ne759))
      have S853 : Safe Z EL1 (s.setVm s.vm).vm h792 b749 := own_safe hZ.alike F849 F850 (wk hw 6 rfl)
      obtain ⟨T852, h852, v852, L852, X852, e852, ⟨t_852, kb_852, rfl, N852q, r852_0, r852_1, r852_2, r852_3, r852_4⟩, st852⟩ := N.special X792 hx hZ (y := (⟨"java/lang/String", "<init>", "([C)V"⟩ : MethodName)) rfl hown (wk hw 9 rfl) (wk hw 10 rfl) (wk hw 7 rfl) (wk hw 11 rfl) (by decide) (ctor1u l Z a0 hw b749 b758 k758 4 (fun i => ([c_403, c_405, c_407, c_409] : List Int32).getD i (0 : Int32)) cs h792 n0 O794 F849 F850 F851 F799 (by decide) (Classical.byContradiction fun q => hl fun i hi hp => q ⟨i, hi, hp⟩) g750 S_AD S_HI S_LO S_CS hcs) e792 (g := (mkF m 173 #[.val (.int p0), .val (.int p1), .val (.int p2), .val (.int p3), .val (.int p4), .val (.int (4 : Int32)), .val (.int c_403), .val (.int c_405), .val (.int c_407), .val (.int c_409), .unset, .unset] [(.ref b758), (.ref b749), (.ref b749)])) rfl (by rw [hml]; rfl) (a := b749) (argsL := [(.ref b758)]) (rest := [(.ref b749)]) rfl (lenOf pd___C_V rfl) rfl (W := 1) (by show 2 * 0 + _ ≤ _; exact Nat.le_of_eq rfl) (hb hby at_173) (by decide) (by decide) (by decide) (by decide)
      have N854 := Fr.app N796 N852q
      have ne855 : b749 ≠ t_852 := Nat.ne_of_lt (Nat.lt_of_lt_of_le F849.lt r852_1)
      have ne856 : b758 ≠ t_852 := Nat.ne_of_lt (Nat.lt_of_lt_of_le F793.lt r852_1)
      have g857 : n0 ≤ t_852 := Nat.le_trans (own_le O794) r852_1
      have z858 : h0.size ≤ t_852 := Nat.le_trans K795.1 r852_1
      have O859 := Old.keep O794 r852_0 (allS g750 all0)
      have K860 : Keep h0 h852 [] := Keep.trans K795 r852_0 (allS (Or.inr z751) all0)
      have c861 := CHr.keep r852_0 (sfS S853 sf0) C798.1
      have C862 := CHr.trans C798 c861
      have S863 := CHr.safe c861 F849.lt S853
      refine WinW.to T852 (mkF m 176 #[.val (.int p0), .val (.int p1), .val (.int p2), .val (.int p3), .val (.int p4), .val (.int (4 : Int32)), .val (.int c_403), .val (.int c_405), .val (.int c_407), .val (.int c_409), .unset, .unset] [(.ref b749)]) (fun _ k => st852 _ k) ?_
      refine WinW.to T852 (mkF m 178 #[.val (.int p0), .val (.int p1), .val (.int p2), .val (.int p3), .val (.int p4), .val (.int (4 : Int32)), .val (.int c_403), .val (.int c_405), .val (.int c_407), .val (.int c_409), .val (.ref b749), .unset] []) (fun _ k => XS.astore X852.here hx rfl (hb hby at_176) rfl rfl (l' := #[.val (.int p0), .val (.int p1), .val (.int p2), .val (.int p3), .val (.int p4), .val (.int (4 : Int32)), .val (.int c_403), .val (.int c_405), .val (.int c_407), .val (.int c_409), .val (.ref b749), .unset]) rfl k) ?_
      refine WinW.to T852 (mkF m 180 #[.val (.int p0), .val (.int p1), .val (.int p2), .val (.int p3), .val (.int p4), .val (.int (4 : Int32)), .val (.int c_403), .val (.int c_405), .val (.int c_407), .val (.int c_409), .val (.ref b749), .unset] [(.int (4 : Int32))]) (fun _ k => XS.iload X852.here hx rfl (hb hby at_178) rfl k) ?_
      refine WinW.to T852 (mkF m 181 #[.val (.int p0), .val (.int p1), .val (.int p2), .val (.int p3), .val (.int p4), .val (.int (4 : Int32)), .val (.int c_403), .val (.int c_405), .val (.int c_407), .val (.int c_409), .val (.ref b749), .unset] [(.int (1 : Int32)), (.int (4 : Int32))]) (fun _ k => XS.iconst X852.here hx rfl (hb hby at_180) k) ?_
      refine WinW.to T852 (mkF m 184 #[.val (.int p0), .val (.int p1), .val (.int p2), .val (.int p3), .val (.int p4), .val (.int (4 : Int32)), .val (.int c_403), .val (.int c_405), .val (.int c_407), .val (.int c_409), .val (.ref b749), .unset] []) (fun _ k => XS.icmpNo X852.here hx rfl (hb hby at_181) rfl (flt (show ¬ ((4 : Int32) < (1 : Int32)) from by decide)).1 k) ?_
      refine WinW.to T852 (mkF m 186 #[.val (.int p0), .val (.int p1), .val (.int p2), .val (.int p3), .val (.int p4), .val (.int (4 : Int32)), .val (.int c_403), .val (.int c_405), .val (.int c_407), .val (.int c_409), .val (.ref b749), .unset] [(.int c_403)]) (fun _ k => XS.iload X852.here hx rfl (hb hby at_184) rfl k) ?_
      by_cases hws864 : wsp c_403
      · have F866 : Exa Z h852 b749 "java/lang/String" := (F849.keep r852_0)
        obtain ⟨T865, h865, v865, L865, X865, e865, ⟨rfl, N865q, r865_0⟩, st865⟩ := N.static X852 hx hZ (y := (⟨"com/example/stylewright/stylewright/xdm/TreeBuilderIsWhitespacePinLaw", "ws", "(C)Z"⟩ : MethodName)) hown (wk hw 56 rfl) (wk hw 57 rfl) (wk hw 3 rfl) (wk hw 58 rfl) (by decide) (ws1 l Z a0 hw c_403 h852 n0 O859 hws864) e852 (g := (mkF m 186 #[.val (.int p0), .val (.int p1), .val (.int p2), .val (.int p3), .val (.int p4), .val (.int (4 : Int32)), .val (.int c_403), .val (.int c_405), .val (.int c_407), .val (.int c_409), .val (.ref b749), .unset] [(.int c_403)])) rfl (by rw [hml]; rfl) (argsL := [(.int c_403)]) (rest := []) rfl (lenOf pd__C_Z rfl) rfl (W := 0) (by show 2 * 0 + _ ≤ _; exact Nat.le_of_eq rfl) (hb hby at_186) (by decide) (by decide) (by decide) (by decide)
        have N867 := Fr.app N854 N865q
        have e865 := e865.trans r865_0
        refine WinW.to T865 (mkF m 189 #[.val (.int p0), .val (.int p1), .val (.int p2), .val (.int p3), .val (.int p4), .val (.int (4 : Int32)), .val (.int c_403), .val (.int c_405), .val (.int c_407), .val (.int c_409), .val (.ref b749), .unset] [(.int (1 : Int32))]) (fun _ k => st865 _ k) ?_
        refine WinW.to T865 (mkF m 192 #[.val (.int p0), .val (.int p1), .val (.int p2), .val (.int p3), .val (.int p4), .val (.int (4 : Int32)), .val (.int c_403), .val (.int c_405), .val (.int c_407), .val (.int c_409), .val (.ref b749), .unset] []) (fun _ k => XS.ifNo X865.here hx rfl (hb hby at_189) rfl ((if0 _ _).trans (feq (show ¬ ((1 : Int32) = (0 : Int32)) from by decide)).1) k) ?_
        refine WinW.to T865 (mkF m 194 #[.val (.int p0), .val (.int p1), .val (.int p2), .val (.int p3), .val (.int p4), .val (.int (4 : Int32)), .val (.int c_403), .val (.int c_405), .val (.int c_407), .val (.int c_409), .val (.ref b749), .unset] [(.int (4 : Int32))]) (fun _ k => XS.iload X865.here hx rfl (hb hby at_192) rfl k) ?_
        refine WinW.to T865 (mkF m 195 #[.val (.int p0), .val (.int p1), .val (.int p2), .val (.int p3), .val (.int p4), .val (.int (4 : Int32)), .val (.int c_403), .val (.int c_405), .val (.int c_407), .val (.int c_409), .val (.ref b749), .unset] [(.int (2 : Int32)), (.int (4 : Int32))]) (fun _ k => XS.iconst X865.here hx rfl (hb hby at_194) k) ?_
        refine WinW.to T865 (mkF m 198 #[.val (.int p0), .val (.int p1), .val (.int p2), .val (.int p3), .val (.int p4), .val (.int (4 : Int32)), .val (.int c_403), .val (.int c_405), .val (.int c_407), .val (.int c_409), .val (.ref b749), .unset] []) (fun _ k => XS.icmpNo X865.here hx rfl (hb hby at_195) rfl (flt (show ¬ ((4 : Int32) < (2 : Int32)) from by decide)).1 k) ?_
        refine WinW.to T865 (mkF m 200 #[.val (.int p0), .val (.int p1), .val (.int p2), .val (.int p3), .val (.int p4), .val (.int (4 : Int32)), .val (.int c_403), .val (.int c_405), .val (.int c_407), .val (.int c_409), .val (.ref b749), .unset] [(.int c_405)]) (fun _ k => XS.iload X865.here hx rfl (hb hby at_198) rfl k) ?_
        by_cases hws868 : wsp c_405
        · obtain ⟨T869, h869, v869, L869, X869, e869, ⟨rfl, N869q, r869_0⟩, st869⟩ := N.static X865 hx hZ (y := (⟨"com/example/stylewright/stylewright/xdm/TreeBuilderIsWhitespacePinLaw", "ws", "(C)Z"⟩ : MethodName)) hown (wk hw 56 rfl) (wk hw 57 rfl) (wk hw 3 rfl) (wk hw 58 rfl) (by decide) (ws1 l Z a0 hw c_405 h852 n0 O859 hws868) e865 (g := (mkF m 200 #[.val (.int p0), .val (.int p1), .val (.int p2), .val (.int p3), .val (.int p4), .val (.int (4 : Int32)), .val (.int c_403), .val (.int c_405), .val (.int c_407), .val (.int c_409), .val (.ref b749), .unset] [(.int c_405)])) rfl (by rw [hml]; rfl) (argsL := [(.int c_405)]) (rest := []) rfl (lenOf pd__C_Z rfl) rfl (W := 0) (by show 2 * 0 + _ ≤ _; exact Nat.le_of_eq rfl) (hb hby at_200) (by decide) (by decide) (by decide) (by decide)
          have N870 := Fr.app N867 N869q
          have e869 := e869.trans r869_0
          refine WinW.to T869 (mkF m 203 #[.val (.int p0), .val (.int p1), .val (.int p2), .val (.int p3), .val (.int p4), .val (.int (4 : Int32)), .val (.int c_403), .val (.int c_405), .val (.int c_407), .val (.int c_409), .val (.ref b749), .unset] [(.int (1 : Int32))]) (fun _ k => st869 _ k) ?_
          refine WinW.to T869 (mkF m 206 #[.val (.int p0), .val (.int p1), .val (.int p2), .val (.int p3), .val (.int p4), .val (.int (4 : Int32)), .val (.int c_403), .val (.int c_405), .val (.int c_407), .val (.int c_409), .val (.ref b749), .unset] []) (fun _ k => XS.ifNo X869.here hx rfl (hb hby at_203) rfl ((if0 _ _).trans (feq (show ¬ ((1 : Int32) = (0 : Int32)) from by decide)).1) k) ?_
          refine WinW.to T869 (mkF m 208 #[.val (.int p0), .val (.int p1), .val (.int p2), .val (.int p3), .val (.int p4), .val (.int (4 : Int32)), .val (.int c_403), .val (.int c_405), .val (.int c_407), .val (.int c_409), .val (.ref b749), .unset] [(.int (4 : Int32))]) (fun _ k => XS.iload X869.here hx rfl (hb hby at_206) rfl k) ?_
          refine WinW.to T869 (mkF m 209 #[.val (.int p0), .val (.int p1), .val (.int p2), .val (.int p3), .val (.int p4), .val (.int (4 : Int32)), .val (.int c_403), .val (.int c_405), .val (.int c_407), .val (.int c_409), .val (.ref b749), .unset] [(.int (3 : Int32)), (.int (4 : Int32))]) (fun _ k => XS.iconst X869.here hx rfl (hb hby at_208) k) ?_
          refine WinW.to T869 (mkF m 212 #[.val (.int p0), .val (.int p1), .val (.int p2), .val (.int p3), .val (.int p4), .val (.int (4 : Int32)), .val (.int c_403), .val (.int c_405), .val (.int c_407), .val (.int c_409), .val (.ref b749), .unset] []) (fun _ k => XS.icmpNo X869.here hx rfl (hb hby at_209) rfl (flt (show ¬ ((4 : Int32) < (3 : Int32)) from by decide)).1 k) ?_
          refine WinW.to T869 (mkF m 214 #[.val (.int p0), .val (.int p1), .val (.int p2), .val (.int p3), .val (.int p4), .val (.int (4 : Int32)), .val (.int c_403), .val (.int c_405), .val (.int c_407), .val (.int c_409), .val (.ref b749), .unset] [(.int c_407)]) (fun _ k => XS.iload X869.here hx rfl (hb hby at_212) rfl k) ?_
          by_cases hws871 : wsp c_407
          · obtain ⟨T872, h872, v872, L872, X872, e872, ⟨rfl, N872q, r872_0⟩, st872⟩ := N.static X869 hx hZ (y := (⟨"com/example/stylewright/stylewright/xdm/TreeBuilderIsWhitespacePinLaw", "ws", "(C)Z"⟩ : MethodName)) hown (wk hw 56 rfl) (wk hw 57 rfl) (wk hw 3 rfl) (wk hw 58 rfl) (by decide) (ws1 l Z a0 hw c_407 h852 n0 O859 hws871) e869 (g := (mkF m 214 #[.val (.int p0), .val (.int p1), .val (.int p2), .val (.int p3), .val (.int p4), .val (.int (4 : Int32)), .val (.int c_403), .val (.int c_405), .val (.int c_407), .val (.int c_409), .val (.ref b749), .unset] [(.int c_407)])) rfl (by rw [hml]; rfl) (argsL := [(.int c_407)]) (rest := []) rfl (lenOf pd__C_Z rfl) rfl (W := 0) (by show 2 * 0 + _ ≤ _; exact Nat.le_of_eq rfl) (hb hby at_214) (by decide) (by decide) (by decide) (by decide)
            have N873 := Fr.app N870 N872q
            have e872 := e872.trans r872_0
            refine WinW.to T872 (mkF m 217 #[.val (.int p0), .val (.int p1), .val (.int p2), .val (.int p3), .val (.int p4), .val (.int (4 : Int32)), .val (.int c_403), .val (.int c_405), .val (.int c_407), .val (.int c_409), .val (.ref b749), .unset] [(.int (1 : Int32))]) (fun _ k => st872 _ k) ?_
            refine WinW.to T872 (mkF m 220 #[.val (.int p0), .val (.int p1), .val (.int p2), .val (.int p3), .val (.int p4), .val (.int (4 : Int32)), .val (.int c_403), .val (.int c_405), .val (.int c_407), .val (.int c_409), .val (.ref b749), .unset] []) (fun _ k => XS.ifNo X872.here hx rfl (hb hby at_217) rfl ((if0 _ _).trans (feq (show ¬ ((1 : Int32) = (0 : Int32)) from by decide)).1) k) ?_
            refine WinW.to T872 (mkF m 222 #[.val (.int p0), .val (.int p1), .val (.int p2), .val (.int p3), .val (.int p4), .val (.int (4 : Int32)), .val (.int c_403), .val (.int c_405), .val (.int c_407), .val (.int c_409), .val (.ref b749), .unset] [(.int (4 : Int32))]) (fun _ k => XS.iload X872.here hx rfl (hb hby at_220) rfl k) ?_
            refine WinW.to T872 (mkF m 223 #[.val (.int p0), .val (.int p1), .val (.int p2), .val (.int p3), .val (.int p4), .val (.int (4 : Int32)), .val (.int c_403), .val (.int c_405), .val (.int c_407), .val (.int c_409), .val (.ref b749), .unset] [(.int (4 : Int32)), (.int (4 : Int32))]) (fun _ k => XS.iconst X872.here hx rfl (hb hby at_222) k) ?_
            refine WinW.to T872 (mkF m 226 #[.val (.int p0), .val (.int p1), .val (.int p2), .val (.int p3), .val (.int p4), .val (.int (4 : Int32)), .val (.int c_403), .val (.int c_405), .val (.int c_407), .val (.int c_409), .val (.ref b749), .unset] []) (fun _ k => XS.icmpNo X872.here hx rfl (hb hby at_223) rfl (flt (show ¬ ((4 : Int32) < (4 : Int32)) from by decide)).1 k) ?_
            refine WinW.to T872 (mkF m 228 #[.val (.int p0), .val (.int p1), .val (.int p2), .val (.int p3), .val (.int p4), .val (.int (4 : Int32)), .val (.int c_403), .val (.int c_405), .val (.int c_407), .val (.int c_409), .val (.ref b749), .unset] [(.int c_409)]) (fun _ k => XS.iload X872.here hx rfl (hb hby at_226) rfl k) ?_
            by_cases hws874 : wsp c_409
            · obtain ⟨T875, h875, v875, L875, X875, e875, ⟨rfl, N875q, r875_0⟩, st875⟩ := N.static X872 hx hZ (y := (⟨"com/example/stylewright/stylewright/xdm/TreeBuilderIsWhitespacePinLaw", "ws", "(C)Z"⟩ : MethodName)) hown (wk hw 56 rfl) (wk hw 57 rfl) (wk hw 3 rfl) (wk hw 58 rfl) (by decide) (ws1 l Z a0 hw c_409 h852 n0 O859 hws874) e872 (g := (mkF m 228 #[.val (.int p0), .val (.int p1), .val (.int p2), .val (.int p3), .val (.int p4), .val (.int (4 : Int32)), .val (.int c_403), .val (.int c_405), .val (.int c_407), .val (.int c_409), .val (.ref b749), .unset] [(.int c_409)])) rfl (by rw [hml]; rfl) (argsL := [(.int c_409)]) (rest := []) rfl (lenOf pd__C_Z rfl) rfl (W := 0) (by show 2 * 0 + _ ≤ _; exact Nat.le_of_eq rfl) (hb hby at_228) (by decide) (by decide) (by decide) (by decide)
              have N876 := Fr.app N873 N875q
              have e875 := e875.trans r875_0
              refine WinW.to T875 (mkF m 231 #[.val (.int p0), .val (.int p1), .val (.int p2), .val (.int p3), .val (.int p4), .val (.int (4 : Int32)), .val (.int c_403), .val (.int c_405), .val (.int c_407), .val (.int c_409), .val (.ref b749), .unset] [(.int (1 : Int32))]) (fun _ k => st875 _ k) ?_
              refine WinW.to T875 (mkF m 234 #[.val (.int p0), .val (.int p1), .val (.int p2), .val (.int p3), .val (.int p4), .val (.int (4 : Int32)), .val (.int c_403), .val (.int c_405), .val (.int c_407), .val (.int c_409), .val (.ref b749), .unset] []) (fun _ k => XS.ifNo X875.here hx rfl (hb hby at_231) rfl ((if0 _ _).trans (feq (show ¬ ((1 : Int32) = (0 : Int32)) from by decide)).1) k) ?_
              refine WinW.to T875 (mkF m 235 #[.val (.int p0), .val (.int p1), .val (.int p2), .val (.int p3), .val (.int p4), .val (.int (4 : Int32)), .val (.int c_403), .val (.int c_405), .val (.int c_407), .val (.int c_409), .val (.ref b749), .unset] [(.int (1 : Int32))]) (fun _ k => XS.iconst X875.here hx rfl (hb hby at_234) k) ?_
              refine WinW.to T875 (mkF m 239 #[.val (.int p0), .val (.int p1), .val (.int p2), .val (.int p3), .val (.int p4), .val (.int (4 : Int32)), .val (.int c_403), .val (.int c_405), .val (.int c_407), .val (.int c_409), .val (.ref b749), .unset] [(.int (1 : Int32))]) (fun _ k => XS.goto X875.here hx rfl (pc0 := 235) (pc' := 239) rfl (hb hby at_235) (by decide) (by decide) k) ?_
              refine WinW.to T875 (mkF m 241 #[.val (.int p0), .val (.int p1), .val (.int p2), .val (.int p3), .val (.int p4), .val (.int (4 : Int32)), .val (.int c_403), .val (.int c_405), .val (.int c_407), .val (.int c_409), .val (.ref b749), .val (.int (1 : Int32))] []) (fun _ k => XS.istore X875.here hx rfl (hb hby at_239) rfl (l' := #[.val (.int p0), .val (.int p1), .val (.int p2), .val (.int p3), .val (.int p4), .val (.int (4 : Int32)), .val (.int c_403), .val (.int c_405), .val (.int c_407), .val (.int c_409), .val (.ref b749), .val (.int (1 : Int32))]) rfl k) ?_
              refine WinW.to T875 (mkF m 243 #[.val (.int p0), .val (.int p1), .val (.int p2), .val (.int p3), .val (.int p4), .val (.int (4 : Int32)), .val (.int c_403), .val (.int c_405), .val (.int c_407), .val (.int c_409), .val (.ref b749), .val (.int (1 : Int32))] [(.ref b749)]) (fun _ k => XS.aload X875.here hx rfl (hb hby at_241) rfl rfl k) ?_
              have F877 : ArF Z h852 b758 k758 .char 4 (fun i => ([c_403, c_405, c_407, c_409] : List Int32).getD i (0 : Int32)) := (F799.keep r852_0 (ninS (Ne.symm ne759) nin0))
              obtain ⟨T878, h878, v878, L878, X878, e878, ⟨rfl, N878q, r878_0⟩, st878⟩ := N.static X875 hx hZ (y := (⟨"com/example/stylewright/stylewright/xdm/TreeBuilder", "isWhitespace", "(Ljava/lang/CharSequence;)Z"⟩ : MethodName)) hown (wk hw 27 rfl) (wk hw 28 rfl) (wk hw 29 rfl) (wk hw 30 rfl) (by decide) (isWs1 l Z a0 hw b749 t_852 kb_852 4 (fun i => ([c_403, c_405, c_407, c_409] : List Int32).getD i (0 : Int32)) (fun i => ([c_403, c_405, c_407, c_409] : List Int32).getD i (0 : Int32)) (1 : Int32) cs x1 h852 n0 O859 F866 r852_2 r852_3 r852_4 (own_fr F877) (fun i _ => rfl) S_AD S_HI S_LO (fun _ => rfl) ((fun q => absurd (fun i hi => by
                match i, hi with
                | 0, _ => exact hws864
                | 1, _ => exact hws868
                | 2, _ => exact hws871
                | 3, _ => exact hws874) q)) S_CS hcs S_SI hx1) e875 (g := (mkF m 243 #[.val (.int p0), .val (.int p1), .val (.int p2), .val (.int p3), .val (.int p4), .val (.int (4 : Int32)), .val (.int c_403), .val (.int c_405), .val (.int c_407), .val (.int c_409), .val (.ref b749), .val (.int (1 : Int32))] [(.ref b749)])) rfl (by rw [hml]; rfl) (argsL := [(.ref b749)]) (rest := []) rfl (lenOf pd__Ljava_lang_CharSequence__Z rfl) rfl (W := 0) (by show 2 * 0 + _ ≤ _; exact Nat.le_of_eq rfl) (hb hby at_243) (by decide) (by decide) (by decide) (by decide)
              have N879 := Fr.app N876 N878q
              have e878 := e878.trans r878_0
              refine WinW.to T878 (mkF m 246 #[.val (.int p0), .val (.int p1), .val (.int p2), .val (.int p3), .val (.int p4), .val (.int (4 : Int32)), .val (.int c_403), .val (.int c_405), .val (.int c_407), .val (.int c_409), .val (.ref b749), .val (.int (1 : Int32))] [(.int (1 : Int32))]) (fun _ k => st878 _ k) ?_
              refine WinW.to T878 (mkF m 248 #[.val (.int p0), .val (.int p1), .val (.int p2), .val (.int p3), .val (.int p4), .val (.int (4 : Int32)), .val (.int c_403), .val (.int c_405), .val (.int c_407), .val (.int c_409), .val (.ref b749), .val (.int (1 : Int32))] [(.int (1 : Int32)), (.int (1 : Int32))]) (fun _ k => XS.iload X878.here hx rfl (hb hby at_246) rfl k) ?_
              refine WinW.to T878 (mkF m 251 #[.val (.int p0), .val (.int p1), .val (.int p2), .val (.int p3), .val (.int p4), .val (.int (4 : Int32)), .val (.int c_403), .val (.int c_405), .val (.int c_407), .val (.int c_409), .val (.ref b749), .val (.int (1 : Int32))] []) (fun _ k => XS.icmpNo X878.here hx rfl (hb hby at_248) rfl (teq (show (1 : Int32) = (1 : Int32) from by decide)).2 k) ?_
              refine WinW.to T878 (mkF m 252 #[.val (.int p0), .val (.int p1), .val (.int p2), .val (.int p3), .val (.int p4), .val (.int (4 : Int32)), .val (.int c_403), .val (.int c_405), .val (.int c_407), .val (.int c_409), .val (.ref b749), .val (.int (1 : Int32))] [(.int (1 : Int32))]) (fun _ k => XS.iconst X878.here hx rfl (hb hby at_251) k) ?_
              refine WinW.to T878 (mkF m 256 #[.val (.int p0), .val (.int p1), .val (.int p2), .val (.int p3), .val (.int p4), .val (.int (4 : Int32)), .val (.int c_403), .val (.int c_405), .val (.int c_407), .val (.int c_409), .val (.ref b749), .val (.int (1 : Int32))] [(.int (1 : Int32))]) (fun _ k => XS.goto X878.here hx rfl (pc0 := 252) (pc' := 256) rfl (hb hby at_252) (by decide) (by decide) k) ?_
              exact WinW.retN X878 hS0 (by rw [e878]; exact (Nat.zero_le _)) hx hlk (t := .boolean) hret (by simp) rfl (hb hby at_256) hZ (own_EW hw) (by rw [e878]; exact C862) (by decide) (by decide) (by (try rw [e878]); exact ⟨rfl, N879, trivial⟩)
            · obtain ⟨T880, h880, v880, L880, X880, e880, ⟨rfl, N880q, r880_0⟩, st880⟩ := N.static X872 hx hZ (y := (⟨"com/example/stylewright/stylewright/xdm/TreeBuilderIsWhitespacePinLaw", "ws", "(C)Z"⟩ : MethodName)) hown (wk hw 56 rfl) (wk hw 57 rfl) (wk hw 3 rfl) (wk hw 58 rfl) (by decide) (ws0 l Z a0 hw c_409 h852 n0 O859 hws874) e872 (g := (mkF m 228 #[.val (.int p0), .val (.int p1), .val (.int p2), .val (.int p3), .val (.int p4), .val (.int (4 : Int32)), .val (.int c_403), .val (.int c_405), .val (.int c_407), .val (.int c_409), .val (.ref b749), .unset] [(.int c_409)])) rfl (by rw [hml]; rfl) (argsL := [(.int c_409)]) (rest := []) rfl (lenOf pd__C_Z rfl) rfl (W := 0) (by show 2 * 0 + _ ≤ _; exact Nat.le_of_eq rfl) (hb hby at_228) (by decide) (by decide) (by decide) (by decide)
              have N881 := Fr.app N873 N880q
              have e880 := e880.trans r880_0
              refine WinW.to T880 (mkF m 231 #[.val (.int p0), .val (.int p1), .val (.int p2), .val (.int p3), .val (.int p4), .val (.int (4 : Int32)), .val (.int c_403), .val (.int c_405), .val (.int c_407), .val (.int c_409), .val (.ref b749), .unset] [(.int (0 : Int32))]) (fun _ k => st880 _ k) ?_
              refine WinW.to T880 (mkF m 238 #[.val (.int p0), .val (.int p1), .val (.int p2), .val (.int p3), .val (.int p4), .val (.int (4 : Int32)), .val (.int c_403), .val (.int c_405), .val (.int c_407), .val (.int c_409), .val (.ref b749), .unset] []) (fun _ k => XS.ifYes X880.here hx rfl (pc0 := 231) (pc' := 238) rfl (hb hby at_231) rfl ((if0 _ _).trans (teq (show (0 : Int32) = (0 : Int32) from by decide)).1) (by decide) (by decide) k) ?_
              refine WinW.to T880 (mkF m 239 #[.val (.int p0), .val (.int p1), .val (.int p2), .val (.int p3), .val (.int p4), .val (.int (4 : Int32)), .val (.int c_403), .val (.int c_405), .val (.int c_407), .val (.int c_409), .val (.ref b749), .unset] [(.int (0 : Int32))]) (fun _ k => XS.iconst X880.here hx rfl (hb hby at_238) k) ?_
              refine WinW.to T880 (mkF m 241 #[.val (.int p0), .val (.int p1), .val (.int p2), .val (.int p3), .val (.int p4), .val (.int (4 : Int32)), .val (.int c_403), .val (.int c_405), .val (.int c_407), .val (.int c_409), .val (.ref b749), .val (.int (0 : Int32))] []) (fun _ k => XS.istore X880.here hx rfl (hb hby at_239) rfl (l' := #[.val (.int p0), .val (.int p1), .val (.int p2), .val (.int p3), .val (.int p4), .val (.int (4 : Int32)), .val (.int c_403), .val (.int c_405), .val (.int c_407), .val (.int c_409), .val (.ref b749), .val (.int (0 : Int32))]) rfl k) ?_
              refine WinW.to T880 (mkF m 243 #[.val (.int p0), .val (.int p1), .val (.int p2), .val (.int p3), .val (.int p4), .val (.int (4 : Int32)), .val (.int c_403), .val (.int c_405), .val (.int c_407), .val (.int c_409), .val (.ref b749), .val (.int (0 : Int32))] [(.ref b749)]) (fun _ k => XS.aload X880.here hx rfl (hb hby at_241) rfl rfl k) ?_
              have F882 : ArF Z h852 b758 k758 .char 4 (fun i => ([c_403, c_405, c_407, c_409] : List Int32).getD i (0 : Int32)) := (F799.keep r852_0 (ninS (Ne.symm ne759) nin0))
              obtain ⟨T883, h883, v883, L883, X883, e883, ⟨rfl, N883q, r883_0⟩, st883⟩ := N.static X880 hx hZ (y := (⟨"com/example/stylewright/stylewright/xdm/TreeBuilder", "isWhitespace", "(Ljava/lang/CharSequence;)Z"⟩ : MethodName)) hown (wk hw 27 rfl) (wk hw 28 rfl) (wk hw 29 rfl) (wk hw 30 rfl) (by decide) (isWs1 l Z a0 hw b749 t_852 kb_852 4 (fun i => ([c_403, c_405, c_407, c_409] : List Int32).getD i (0 : Int32)) (fun i => ([c_403, c_405, c_407, c_409] : List Int32).getD i (0 : Int32)) (0 : Int32) cs x1 h852 n0 O859 F866 r852_2 r852_3 r852_4 (own_fr F882) (fun i _ => rfl) S_AD S_HI S_LO (fun q => absurd (q 3 (by decide)) hws874) (fun _ => rfl) S_CS hcs S_SI hx1) e880 (g := (mkF m 243 #[.val (.int p0), .val (.int p1), .val (.int p2), .val (.int p3), .val (.int p4), .val (.int (4 : Int32)), .val (.int c_403), .val (.int c_405), .val (.int c_407), .val (.int c_409), .val (.ref b749), .val (.int (0 : Int32))] [(.ref b749)])) rfl (by rw [hml]; rfl) (argsL := [(.ref b749)]) (rest := []) rfl (lenOf pd__Ljava_lang_CharSequence__Z rfl) rfl (W := 0) (by show 2 * 0 + _ ≤ _; exact Nat.le_of_eq rfl) (hb hby at_243) (by decide) (by decide) (by decide) (by decide)
              have N884 := Fr.app N881 N883q
              have e883 := e883.trans r883_0
              refine WinW.to T883 (mkF m 246 #[.val (.int p0), .val (.int p1), .val (.int p2), .val (.int p3), .val (.int p4), .val (.int (4 : Int32)), .val (.int c_403), .val (.int c_405), .val (.int c_407), .val (.int c_409), .val (.ref b749), .val (.int (0 : Int32))] [(.int (0 : Int32))]) (fun _ k => st883 _ k) ?_
              refine WinW.to T883 (mkF m 248 #[.val (.int p0), .val (.int p1), .val (.int p2), .val (.int p3), .val (.int p4), .val (.int (4 : Int32)), .val (.int c_403), .val (.int c_405), .val (.int c_407), .val (.int c_409), .val (.ref b749), .val (.int (0 : Int32))] [(.int (0 : Int32)), (.int (0 : Int32))]) (fun _ k => XS.iload X883.here hx rfl (hb hby at_246) rfl k) ?_
              refine WinW.to T883 (mkF m 251 #[.val (.int p0), .val (.int p1), .val (.int p2), .val (.int p3), .val (.int p4), .val (.int (4 : Int32)), .val (.int c_403), .val (.int c_405), .val (.int c_407), .val (.int c_409), .val (.ref b749), .val (.int (0 : Int32))] []) (fun _ k => XS.icmpNo X883.here hx rfl (hb hby at_248) rfl (teq (show (0 : Int32) = (0 : Int32) from by decide)).2 k) ?_
              refine WinW.to T883 (mkF m 252 #[.val (.int p0), .val (.int p1), .val (.int p2), .val (.int p3), .val (.int p4), .val (.int (4 : Int32)), .val (.int c_403), .val (.int c_405), .val (.int c_407), .val (.int c_409), .val (.ref b749), .val (.int (0 : Int32))] [(.int (1 : Int32))]) (fun _ k => XS.iconst X883.here hx rfl (hb hby at_251) k) ?_
              refine WinW.to T883 (mkF m 256 #[.val (.int p0), .val (.int p1), .val (.int p2), .val (.int p3), .val (.int p4), .val (.int (4 : Int32)), .val (.int c_403), .val (.int c_405), .val (.int c_407), .val (.int c_409), .val (.ref b749), .val (.int (0 : Int32))] [(.int (1 : Int32))]) (fun _ k => XS.goto X883.here hx rfl (pc0 := 252) (pc' := 256) rfl (hb hby at_252) (by decide) (by decide) k) ?_
              exact WinW.retN X883 hS0 (by rw [e883]; exact (Nat.zero_le _)) hx hlk (t := .boolean) hret (by simp) rfl (hb hby at_256) hZ (own_EW hw) (by rw [e883]; exact C862) (by decide) (by decide) (by (try rw [e883]); exact ⟨rfl, N884, trivial⟩)
          · obtain ⟨T885, h885, v885, L885, X885, e885, ⟨rfl, N885q, r885_0⟩, st885⟩ := N.static X869 hx hZ (y := (⟨"com/example/stylewright/stylewright/xdm/TreeBuilderIsWhitespacePinLaw", "ws", "(C)Z"⟩ : MethodName)) hown (wk hw 56 rfl) (wk hw 57 rfl) (wk hw 3 rfl) (wk hw 58 rfl) (by decide) (ws0 l Z a0 hw c_407 h852 n0 O859 hws871) e869 (g := (mkF m 214 #[.val (.int p0), .val (.int p1), .val (.int p2), .val (.int p3), .val (.int p4), .val (.int (4 : Int32)), .val (.int c_403), .val (.int c_405), .val (.int c_407), .val (.int c_409), .val (.ref b749), .unset] [(.int c_407)])) rfl (by rw [hml]; rfl) (argsL := [(.int c_407)]) (rest := []) rfl (lenOf pd__C_Z rfl) rfl (W := 0) (by show 2 * 0 + _ ≤ _; exact Nat.le_of_eq rfl) (hb hby at_214) (by decide) (by decide) (by decide) (by decide)
            have N886 := Fr.app N870 N885q
            have e885 := e885.trans r885_0
            refine WinW.to T885 (mkF m 217 #[.val (.int p0), .val (.int p1), .val (.int p2), .val (.int p3), .val (.int p4), .val (.int (4 : Int32)), .val (.int c_403), .val (.int c_405), .val (.int c_407), .val (.int c_409), .val (.ref b749), .unset] [(.int (0 : Int32))]) (fun _ k => st885 _ k) ?_
            refine WinW.to T885 (mkF m 238 #[.val (.int p0), .val (.int p1), .val (.int p2), .val (.int p3), .val (.int p4), .val (.int (4 : Int32)), .val (.int c_403), .val (.int c_405), .val (.int c_407), .val (.int c_409), .val (.ref b749), .unset] []) (fun _ k => XS.ifYes X885.here hx rfl (pc0 := 217) (pc' := 238) rfl (hb hby at_217) rfl ((if0 _ _).trans (teq (show (0 : Int32) = (0 : Int32) from by decide)).1) (by decide) (by decide) k) ?_
            refine WinW.to T885 (mkF m 239 #[.val (.int p0), .val (.int p1), .val (.int p2), .val (.int p3), .val (.int p4), .val (.int (4 : Int32)), .val (.int c_403), .val (.int c_405), .val (.int c_407), .val (.int c_409), .val (.ref b749), .unset] [(.int (0 : Int32))]) (fun _ k => XS.iconst X885.here hx rfl (hb hby at_238) k) ?_
            refine WinW.to T885 (mkF m 241 #[.val (.int p0), .val (.int p1), .val (.int p2), .val (.int p3), .val (.int p4), .val (.int (4 : Int32)), .val (.int c_403), .val (.int c_405), .val (.int c_407), .val (.int c_409), .val (.ref b749), .val (.int (0 : Int32))] []) (fun _ k => XS.istore X885.here hx rfl (hb hby at_239) rfl (l' := #[.val (.int p0), .val (.int p1), .val (.int p2), .val (.int p3), .val (.int p4), .val (.int (4 : Int32)), .val (.int c_403), .val (.int c_405), .val (.int c_407), .val (.int c_409), .val (.ref b749), .val (.int (0 : Int32))]) rfl k) ?_
            refine WinW.to T885 (mkF m 243 #[.val (.int p0), .val (.int p1), .val (.int p2), .val (.int p3), .val (.int p4), .val (.int (4 : Int32)), .val (.int c_403), .val (.int c_405), .val (.int c_407), .val (.int c_409), .val (.ref b749), .val (.int (0 : Int32))] [(.ref b749)]) (fun _ k => XS.aload X885.here hx rfl (hb hby at_241) rfl rfl k) ?_
            have F887 : ArF Z h852 b758 k758 .char 4 (fun i => ([c_403, c_405, c_407, c_409] : List Int32).getD i (0 : Int32)) := (F799.keep r852_0 (ninS (Ne.symm ne759) nin0))
            obtain ⟨T888, h888, v888, L888, X888, e888, ⟨rfl, N888q, r888_0⟩, st888⟩ := N.static X885 hx hZ (y := (⟨"com/example/stylewright/stylewright/xdm/TreeBuilder", "isWhitespace", "(Ljava/lang/CharSequence;)Z"⟩ : MethodName)) hown (wk hw 27 rfl) (wk hw 28 rfl) (wk hw 29 rfl) (wk hw 30 rfl) (by decide) (isWs1 l Z a0 hw b749 t_852 kb_852 4 (fun i => ([c_403, c_405, c_407, c_409] : List Int32).getD i (0 : Int32)) (fun i => ([c_403, c_405, c_407, c_409] : List Int32).getD i (0 : Int32)) (0 : Int32) cs x1 h852 n0 O859 F866 r852_2 r852_3 r852_4 (own_fr F887) (fun i _ => rfl) S_AD S_HI S_LO (fun q => absurd (q 2 (by decide)) hws871) (fun _ => rfl) S_CS hcs S_SI hx1) e885 (g := (mkF m 243 #[.val (.int p0), .val (.int p1), .val (.int p2), .val (.int p3), .val (.int p4), .val (.int (4 : Int32)), .val (.int c_403), .val (.int c_405), .val (.int c_407), .val (.int c_409), .val (.ref b749), .val (.int (0 : Int32))] [(.ref b749)])) rfl (by rw [hml]; rfl) (argsL := [(.ref b749)]) (rest := []) rfl (lenOf pd__Ljava_lang_CharSequence__Z rfl) rfl (W := 0) (by show 2 * 0 + _ ≤ _; exact Nat.le_of_eq rfl) (hb hby at_243) (by decide) (by decide) (by decide) (by decide)
            have N889 := Fr.app N886 N888q
            have e888 := e888.trans r888_0
            refine WinW.to T888 (mkF m 246 #[.val (.int p0), .val (.int p1), .val (.int p2), .val (.int p3), .val (.int p4), .val (.int (4 : Int32)), .val (.int c_403), .val (.int c_405), .val (.int c_407), .val (.int c_409), .val (.ref b749), .val (.int (0 : Int32))] [(.int (0 : Int32))]) (fun _ k => st888 _ k) ?_
            refine WinW.to T888 (mkF m 248 #[.val (.int p0), .val (.int p1), .val (.int p2), .val (.int p3), .val (.int p4), .val (.int (4 : Int32)), .val (.int c_403), .val (.int c_405), .val (.int c_407), .val (.int c_409), .val (.ref b749), .val (.int (0 : Int32))] [(.int (0 : Int32)), (.int (0 : Int32))]) (fun _ k => XS.iload X888.here hx rfl (hb hby at_246) rfl k) ?_
            refine WinW.to T888 (mkF m 251 #[.val (.int p0), .val (.int p1), .val (.int p2), .val (.int p3), .val (.int p4), .val (.int (4 : Int32)), .val (.int c_403), .val (.int c_405), .val (.int c_407), .val (.int c_409), .val (.ref b749), .val (.int (0 : Int32))] []) (fun _ k => XS.icmpNo X888.here hx rfl (hb hby at_248) rfl (teq (show (0 : Int32) = (0 : Int32) from by decide)).2 k) ?_
            refine WinW.to T888 (mkF m 252 #[.val (.int p0), .val (.int p1), .val (.int p2), .val (.int p3), .val (.int p4), .val (.int (4 : Int32)), .val (.int c_403), .val (.int c_405), .val (.int c_407), .val (.int c_409), .val (.ref b749), .val (.int (0 : Int32))] [(.int (1 : Int32))]) (fun _ k => XS.iconst X888.here hx rfl (hb hby at_251) k) ?_
            refine WinW.to T888 (mkF m 256 #[.val (.int p0), .val (.int p1), .val (.int p2), .val (.int p3), .val (.int p4), .val (.int (4 : Int32)), .val (.int c_403), .val (.int c_405), .val (.int c_407), .val (.int c_409), .val (.ref b749), .val (.int (0 : Int32))] [(.int (1 : Int32))]) (fun _ k => XS.goto X888.here hx rfl (pc0 := 252) (pc' := 256) rfl (hb hby at_252) (by decide) (by decide) k) ?_
            exact WinW.retN X888 hS0 (by rw [e888]; exact (Nat.zero_le _)) hx hlk (t := .boolean) hret (by simp) rfl (hb hby at_256) hZ (own_EW hw) (by rw [e888]; exact C862) (by decide) (by decide) (by (try rw [e888]); exact ⟨rfl, N889, trivial⟩)
        · obtain ⟨T890, h890, v890, L890, X890, e890, ⟨rfl, N890q, r890_0⟩, st890⟩ := N.static X865 hx hZ (y := (⟨"com/example/stylewright/stylewright/xdm/TreeBuilderIsWhitespacePinLaw", "ws", "(C)Z"⟩ : MethodName)) hown (wk hw 56 rfl) (wk hw 57 rfl) (wk hw 3 rfl) (wk hw 58 rfl) (by decide) (ws0 l Z a0 hw c_405 h852 n0 O859 hws868) e865 (g := (mkF m 200 #[.val (.int p0), .val (.int p1), .val (.int p2), .val (.int p3), .val (.int p4), .val (.int (4 : Int32)), .val (.int c_403), .val (.int c_405), .val (.int c_407), .val (.int c_409), .val (.ref b749), .unset] [(.int c_405)])) rfl (by rw [hml]; rfl) (argsL := [(.int c_405)]) (rest := []) rfl (lenOf pd__C_Z rfl) rfl (W := 0) (by show 2 * 0 + _ ≤ _; exact Nat.le_of_eq rfl) (hb hby at_200) (by decide) (by decide) (by decide) (by decide)
          have N891 := Fr.app N867 N890q
          have e890 := e890.trans r890_0
          refine WinW.to T890 (mkF m 203 #[.val (.int p0), .val (.int p1), .val (.int p2), .val (.int p3), .val (.int p4), .val (.int (4 : Int32)), .val (.int c_403), .val (.int c_405), .val (.int c_407), .val (.int c_409), .val (.ref b749), .unset] [(.int (0 : Int32))]) (fun _ k => st890 _ k) ?_
          refine WinW.to T890 (mkF m 238 #[.val (.int p0), .val (.int p1), .val (.int p2), .val (.int p3), .val (.int p4), .val (.int (4 : Int32)), .val (.int c_403), .val (.int c_405), .val (.int c_407), .val (.int c_409), .val (.ref b749), .unset] []) (fun _ k => XS.ifYes X890.here hx rfl (pc0 := 203) (pc' := 238) rfl (hb hby at_203) rfl ((if0 _ _).trans (teq (show (0 : Int32) = (0 : Int32) from by decide)).1) (by decide) (by decide) k) ?_
          refine WinW.to T890 (mkF m 239 #[.val (.int p0), .val (.int p1), .val (.int p2), .val (.int p3), .val (.int p4), .val (.int (4 : Int32)), .val (.int c_403), .val (.int c_405), .val (.int c_407), .val (.int c_409), .val (.ref b749), .unset] [(.int (0 : Int32))]) (fun _ k => XS.iconst X890.here hx rfl (hb hby at_238) k) ?_
          refine WinW.to T890 (mkF m 241 #[.val (.int p0), .val (.int p1), .val (.int p2), .val (.int p3), .val (.int p4), .val (.int (4 : Int32)), .val (.int c_403), .val (.int c_405), .val (.int c_407), .val (.int c_409), .val (.ref b749), .val (.int (0 : Int32))] []) (fun _ k => XS.istore X890.here hx rfl (hb hby at_239) rfl (l' := #[.val (.int p0), .val (.int p1), .val (.int p2), .val (.int p3), .val (.int p4), .val (.int (4 : Int32)), .val (.int c_403), .val (.int c_405), .val (.int c_407), .val (.int c_409), .val (.ref b749), .val (.int (0 : Int32))]) rfl k) ?_
          refine WinW.to T890 (mkF m 243 #[.val (.int p0), .val (.int p1), .val (.int p2), .val (.int p3), .val (.int p4), .val (.int (4 : Int32)), .val (.int c_403), .val (.int c_405), .val (.int c_407), .val (.int c_409), .val (.ref b749), .val (.int (0 : Int32))] [(.ref b749)]) (fun _ k => XS.aload X890.here hx rfl (hb hby at_241) rfl rfl k) ?_
          have F892 : ArF Z h852 b758 k758 .char 4 (fun i => ([c_403, c_405, c_407, c_409] : List Int32).getD i (0 : Int32)) := (F799.keep r852_0 (ninS (Ne.symm ne759) nin0))
          obtain ⟨T893, h893, v893, L893, X893, e893, ⟨rfl, N893q, r893_0⟩, st893⟩ := N.static X890 hx hZ (y := (⟨"com/example/stylewright/stylewright/xdm/TreeBuilder", "isWhitespace", "(Ljava/lang/CharSequence;)Z"⟩ : MethodName)) hown (wk hw 27 rfl) (wk hw 28 rfl) (wk hw 29 rfl) (wk hw 30 rfl) (by decide) (isWs1 l Z a0 hw b749 t_852 kb_852 4 (fun i => ([c_403, c_405, c_407, c_409] : List Int32).getD i (0 : Int32)) (fun i => ([c_403, c_405, c_407, c_409] : List Int32).getD i (0 : Int32)) (0 : Int32) cs x1 h852 n0 O859 F866 r852_2 r852_3 r852_4 (own_fr F892) (fun i _ => rfl) S_AD S_HI S_LO (fun q => absurd (q 1 (by decide)) hws868) (fun _ => rfl) S_CS hcs S_SI hx1) e890 (g := (mkF m 243 #[.val (.int p0), .val (.int p1), .val (.int p2), .val (.int p3), .val (.int p4), .val (.int (4 : Int32)), .val (.int c_403), .val (.int c_405), .val (.int c_407), .val (.int c_409), .val (.ref b749), .val (.int (0 : Int32))] [(.ref b749)])) rfl (by rw [hml]; rfl) (argsL := [(.ref b749)]) (rest := []) rfl (lenOf pd__Ljava_lang_CharSequence__Z rfl) rfl (W := 0) (by show 2 * 0 + _ ≤ _; exact Nat.le_of_eq rfl) (hb hby at_243) (by decide) (by decide) (by decide) (by decide)
          have N894 := Fr.app N891 N893q
          have e893 := e893.trans r893_0
          refine WinW.to T893 (mkF m 246 #[.val (.int p0), .val (.int p1), .val (.int p2), .val (.int p3), .val (.int p4), .val (.int (4 : Int32)), .val (.int c_403), .val (.int c_405), .val (.int c_407), .val (.int c_409), .val (.ref b749), .val (.int (0 : Int32))] [(.int (0 : Int32))]) (fun _ k => st893 _ k) ?_
          refine WinW.to T893 (mkF m 248 #[.val (.int p0), .val (.int p1), .val (.int p2), .val (.int p3), .val (.int p4), .val (.int (4 : Int32)), .val (.int c_403), .val (.int c_405), .val (.int c_407), .val (.int c_409), .val (.ref b749), .val (.int (0 : Int32))] [(.int (0 : Int32)), (.int (0 : Int32))]) (fun _ k => XS.iload X893.here hx rfl (hb hby at_246) rfl k) ?_
          refine WinW.to T893 (mkF m 251 #[.val (.int p0), .val (.int p1), .val (.int p2), .val (.int p3), .val (.int p4), .val (.int (4 : Int32)), .val (.int c_403), .val (.int c_405), .val (.int c_407), .val (.int c_409), .val (.ref b749), .val (.int (0 : Int32))] []) (fun _ k => XS.icmpNo X893.here hx rfl (hb hby at_248) rfl (teq (show (0 : Int32) = (0 : Int32) from by decide)).2 k) ?_
          refine WinW.to T893 (mkF m 252 #[.val (.int p0), .val (.int p1), .val (.int p2), .val (.int p3), .val (.int p4), .val (.int (4 : Int32)), .val (.int c_403), .val (.int c_405), .val (.int c_407), .val (.int c_409), .val (.ref b749), .val (.int (0 : Int32))] [(.int (1 : Int32))]) (fun _ k => XS.iconst X893.here hx rfl (hb hby at_251) k) ?_
          refine WinW.to T893 (mkF m 256 #[.val (.int p0), .val (.int p1), .val (.int p2), .val (.int p3), .val (.int p4), .val (.int (4 : Int32)), .val (.int c_403), .val (.int c_405), .val (.int c_407), .val (.int c_409), .val (.ref b749), .val (.int (0 : Int32))] [(.int (1 : Int32))]) (fun _ k => XS.goto X893.here hx rfl (pc0 := 252) (pc' := 256) rfl (hb hby at_252) (by decide) (by decide) k) ?_
          exact WinW.retN X893 hS0 (by rw [e893]; exact (Nat.zero_le _)) hx hlk (t := .boolean) hret (by simp) rfl (hb hby at_256) hZ (own_EW hw) (by rw [e893]; exact C862) (by decide) (by decide) (by (try rw [e893]); exact ⟨rfl, N894, trivial⟩)
      · have F896 : Exa Z h852 b749 "java/lang/String" := (F849.keep r852_0)
        obtain ⟨T895, h895, v895, L895, X895, e895, ⟨rfl, N895q, r895_0⟩, st895⟩ := N.static X852 hx hZ (y := (⟨"com/example/stylewright/stylewright/xdm/TreeBuilderIsWhitespacePinLaw", "ws", "(C)Z"⟩ : MethodName)) hown (wk hw 56 rfl) (wk hw 57 rfl) (wk hw 3 rfl) (wk hw 58 rfl) (by decide) (ws0 l Z a0 hw c_403 h852 n0 O859 hws864) e852 (g := (mkF m 186 #[.val (.int p0), .val (.int p1), .val (.int p2), .val (.int p3), .val (.int p4), .val (.int (4 : Int32)), .val (.int c_403), .val (.int c_405), .val (.int c_407), .val (.int c_409), .val (.ref b749), .unset] [(.int c_403)])) rfl (by rw [hml]; rfl) (argsL := [(.int c_403)]) (rest := []) rfl (lenOf pd__C_Z rfl) rfl (W := 0) (by show 2 * 0 + _ ≤ _; exact Nat.le_of_eq rfl) (hb hby at_186) (by decide) (by decide) (by decide) (by decide)
        have N897 := Fr.app N854 N895q
        have e895 := e895.trans r895_0
        refine WinW.to T895 (mkF m 189 #[.val (.int p0), .val (.int p1), .val (.int p2), .val (.int p3), .val (.int p4), .val (.int (4 : Int32)), .val (.int c_403), .val (.int c_405), .val (.int c_407), .val (.int c_409), .val (.ref b749), .unset] [(.int (0 : Int32))]) (fun _ k => st895 _ k) ?_
        refine WinW.to T895 (mkF m 238 #[.val (.int p0), .val (.int p1), .val (.int p2), .val (.int p3), .val (.int p4), .val (.int (4 : Int32)), .val (.int c_403), .val (.int c_405), .val (.int c_407), .val (.int c_409), .val (.ref b749), .unset] []) (fun _ k => XS.ifYes X895.here hx rfl (pc0 := 189) (pc' := 238) rfl (hb hby at_189) rfl ((if0 _ _).trans (teq (show (0 : Int32) = (0 : Int32) from by decide)).1) (by decide) (by decide) k) ?_
        refine WinW.to T895 (mkF m 239 #[.val (.int p0), .val (.int p1), .val (.int p2), .val (.int p3), .val (.int p4), .val (.int (4 : Int32)), .val (.int c_403), .val (.int c_405), .val (.int c_407), .val (.int c_409), .val (.ref b749), .unset] [(.int (0 : Int32))]) (fun _ k => XS.iconst X895.here hx rfl (hb hby at_238) k) ?_
        refine WinW.to T895 (mkF m 241 #[.val (.int p0), .val (.int p1), .val (.int p2), .val (.int p3), .val (.int p4), .val (.int (4 : Int32)), .val (.int c_403), .val (.int c_405), .val (.int c_407), .val (.int c_409), .val (.ref b749), .val (.int (0 : Int32))] []) (fun _ k => XS.istore X895.here hx rfl (hb hby at_239) rfl (l' := #[.val (.int p0), .val (.int p1), .val (.int p2), .val (.int p3), .val (.int p4), .val (.int (4 : Int32)), .val (.int c_403), .val (.int c_405), .val (.int c_407), .val (.int c_409), .val (.ref b749), .val (.int (0 : Int32))]) rfl k) ?_
        refine WinW.to T895 (mkF m 243 #[.val (.int p0), .val (.int p1), .val (.int p2), .val (.int p3), .val (.int p4), .val (.int (4 : Int32)), .val (.int c_403), .val (.int c_405), .val (.int c_407), .val (.int c_409), .val (.ref b749), .val (.int (0 : Int32))] [(.ref b749)]) (fun _ k => XS.aload X895.here hx rfl (hb hby at_241) rfl rfl k) ?_
        have F898 : ArF Z h852 b758 k758 .char 4 (fun i => ([c_403, c_405, c_407, c_409] : List Int32).getD i (0 : Int32)) := (F799.keep r852_0 (ninS (Ne.symm ne759) nin0))
        obtain ⟨T899, h899, v899, L899, X899, e899, ⟨rfl, N899q, r899_0⟩, st899⟩ := N.static X895 hx hZ (y := (⟨"com/example/stylewright/stylewright/xdm/TreeBuilder", "isWhitespace", "(Ljava/lang/CharSequence;)Z"⟩ : MethodName)) hown (wk hw 27 rfl) (wk hw 28 rfl) (wk hw 29 rfl) (wk hw 30 rfl) (by decide) (isWs1 l Z a0 hw b749 t_852 kb_852 4 (fun i => ([c_403, c_405, c_407, c_409] : List Int32).getD i (0 : Int32)) (fun i => ([c_403, c_405, c_407, c_409] : List Int32).getD i (0 : Int32)) (0 : Int32) cs x1 h852 n0 O859 F896 r852_2 r852_3 r852_4 (own_fr F898) (fun i _ => rfl) S_AD S_HI S_LO (fun q => absurd (q 0 (by decide)) hws864) (fun _ => rfl) S_CS hcs S_SI hx1) e895 (g := (mkF m 243 #[.val (.int p0), .val (.int p1), .val (.int p2), .val (.int p3), .val (.int p4), .val (.int (4 : Int32)), .val (.int c_403), .val (.int c_405), .val (.int c_407), .val (.int c_409), .val (.ref b749), .val (.int (0 : Int32))] [(.ref b749)])) rfl (by rw [hml]; rfl) (argsL := [(.ref b749)]) (rest := []) rfl (lenOf pd__Ljava_lang_CharSequence__Z rfl) rfl (W := 0) (by show 2 * 0 + _ ≤ _; exact Nat.le_of_eq rfl) (hb hby at_243) (by decide) (by decide) (by decide) (by decide)
        have N900 := Fr.app N897 N899q
        have e899 := e899.trans r899_0
        refine WinW.to T899 (mkF m 246 #[.val (.int p0), .val (.int p1), .val (.int p2), .val (.int p3), .val (.int p4), .val (.int (4 : Int32)), .val (.int c_403), .val (.int c_405), .val (.int c_407), .val (.int c_409), .val (.ref b749), .val (.int (0 : Int32))] [(.int (0 : Int32))]) (fun _ k => st899 _ k) ?_
        refine WinW.to T899 (mkF m 248 #[.val (.int p0), .val (.int p1), .val (.int p2), .val (.int p3), .val (.int p4), .val (.int (4 : Int32)), .val (.int c_403), .val (.int c_405), .val (.int c_407), .val (.int c_409), .val (.ref b749), .val (.int (0 : Int32))] [(.int (0 : Int32)), (.int (0 : Int32))]) (fun _ k => XS.iload X899.here hx rfl (hb hby at_246) rfl k) ?_
        refine WinW.to T899 (mkF m 251 #[.val (.int p0), .val (.int p1), .val (.int p2), .val (.int p3), .val (.int p4), .val (.int (4 : Int32)), .val (.int c_403), .val (.int c_405), .val (.int c_407), .val (.int c_409), .val (.ref b749), .val (.int (0 : Int32))] []) (fun _ k => XS.icmpNo X899.here hx rfl (hb hby at_248) rfl (teq (show (0 : Int32) = (0 : Int32) from by decide)).2 k) ?_
        refine WinW.to T899 (mkF m 252 #[.val (.int p0), .val (.int p1), .val (.int p2), .val (.int p3), .val (.int p4), .val (.int (4 : Int32)), .val (.int c_403), .val (.int c_405), .val (.int c_407), .val (.int c_409), .val (.ref b749), .val (.int (0 : Int32))] [(.int (1 : Int32))]) (fun _ k => XS.iconst X899.here hx rfl (hb hby at_251) k) ?_
        refine WinW.to T899 (mkF m 256 #[.val (.int p0), .val (.int p1), .val (.int p2), .val (.int p3), .val (.int p4), .val (.int (4 : Int32)), .val (.int c_403), .val (.int c_405), .val (.int c_407), .val (.int c_409), .val (.ref b749), .val (.int (0 : Int32))] [(.int (1 : Int32))]) (fun _ k => XS.goto X899.here hx rfl (pc0 := 252) (pc' := 256) rfl (hb hby at_252) (by decide) (by decide) k) ?_
        exact WinW.retN X899 hS0 (by rw [e899]; exact (Nat.zero_le _)) hx hlk (t := .boolean) hret (by simp) rfl (hb hby at_256) hZ (own_EW hw) (by rw [e899]; exact C862) (by decide) (by decide) (by (try rw [e899]); exact ⟨rfl, N900, trivial⟩)
set_option maxRecDepth 65536 in
set_option maxHeartbeats 40000000 in
theorem comes_1 {Post : Tables → Env → Array Value → State → Outcome → State → Prop} (hpost : ∀ tb e args s v u, (limb_1_1.after args s (.returned v) u = true ∧ limb_1_2.after args s (.returned v) u = true ∧ True) → ReturnedEndW s (.returned v) u (Jvm.fieldLocs frame_1_writes args s ++ Jvm.arrayLocs frame_1_arrays args s ++ Jvm.staticLocs frame_1_statics s) 24 1152 → Post tb e args s (.returned v) u) :
    ArmFor flags0 classFile x code maxLocals ret World_1 tables_1 room_1 Calls_1 rest_1 Pre_1 Post := by
  intro l hfl _ hworld p e ha hc hk s m args below hf hA hF happ hP
  obtain ⟨hcalls, hrest, hpre⟩ := hP
  obtain ⟨-, -, -, hnamed, -, -, -, hat⟩ := (Spec.applies_iff hf).mp happ
  obtain ⟨hg, hn⟩ := and_e (Cond.before_iff.mp (show (Jvm.Cond.and given_1 narrow_1).before args s = true from hpre))
  obtain ⟨gc, hg⟩ := and_e hg
  obtain ⟨ga0, hg⟩ := and_e hg
  obtain ⟨ga1, hg⟩ := and_e hg
  obtain ⟨ga2, hg⟩ := and_e hg
  obtain ⟨ga3, hg⟩ := and_e hg
  obtain ⟨w0, w1, w2, w3, w4, rfl⟩ : ∃ w0 w1 w2 w3 w4 : Value, args = #[w0, w1, w2, w3, w4] := by
    have hs : args.size = 5 := by simpa [Cond.value, given_1] using gc
    obtain ⟨L⟩ := args
    match L, hs with
    | [w0, w1, w2, w3, w4], _ => exact ⟨w0, w1, w2, w3, w4, rfl⟩
  have hw := fun d (hd : d ∈ tables_1) => atoms_spec (ws := Jvm.Cond.code x code maxLocals ret :: tables_1) hat d (List.mem_cons_of_mem _ hd)
  have hfit : Fit s := fun {y c} hc i hi => by
    obtain ⟨ha, rfl⟩ := Array.getElem?_eq_some_iff.mp hc
    have q := List.all_eq_true.mp ((Array.all_eq_true_iff_forall_mem.mp hF) _ (Array.getElem_mem ha)) i (List.mem_range.mpr hi)
    simpa [Array.getElem?_eq_getElem hi] using q
  obtain ⟨hsets, hown0⟩ := atoms_of _ (rest_1_c_eq ▸ (show rest_1_c.before _ s = true from hrest))
  have hr0 := Cond.before_iff.mp hown0
  obtain ⟨i0, ei0⟩ := is_v ga0
  obtain rfl : w0 = (.int i0) := Option.some.inj ei0
  obtain ⟨i1, ei1⟩ := is_v ga1
  obtain rfl : w1 = (.int i1) := Option.some.inj ei1
  obtain ⟨i2, ei2⟩ := is_v ga2
  obtain rfl : w2 = (.int i2) := Option.some.inj ei2
  obtain ⟨i3, ei3⟩ := is_v ga3
  obtain rfl : w3 = (.int i3) := Option.some.inj ei3
  obtain ⟨i4, ei4⟩ := is_v hg
  obtain rfl : w4 = (.int i4) := Option.some.inj ei4
  have hs := fun i (d : Jvm.Cond) (hd : jdkStatics_1[i]? = some d) => hsets d (List.mem_of_getElem? hd)
  obtain ⟨cs, ev_cs⟩ := is_v (Cond.before_iff.mp (hs 1 _ rfl))
  have S_CS : Sta s s.heap "java/lang/String" "COMPACT_STRINGS" "Z" (.int cs) := Sta.start ev_cs (Or.inl (hs 0 _ rfl))
  have hcs : ¬ (cs = (0 : Int32)) := gotF (Cond.eq_ints ev_cs rfl) (not_v (Cond.before_iff.mp (hs 2 _ rfl)))
  obtain ⟨x1, ev_x1, hx1⟩ := isR_v (Cond.before_iff.mp (hs 8 _ rfl))
  have S_SI : Sta s s.heap "jdk/internal/util/Preconditions" "SIOOBE_FORMATTER" "Ljava/util/function/BiFunction;" x1 := Sta.start ev_x1 (Or.inl (hs 7 _ rfl))
  have hch : CHv s EL1 s.vm s.heap := CHv.start (own_EW hw) (fun p hp => hcalls.1 p hp) (hs 2 _ rfl) (wk hw 20 rfl) (wk hw 6 rfl)
  have S_AD : Sta s s.heap "java/lang/StringUTF16" "$assertionsDisabled" "Z" (.int (1 : Int32)) := Sta.start (Cond.eq_int (hs 12 _ rfl) rfl) (Or.inl (hs 11 _ rfl))
  have S_HI : Sta s s.heap "java/lang/StringUTF16" "HI_BYTE_SHIFT" "I" (.int (0 : Int32)) := Sta.start (Cond.eq_int (hs 15 _ rfl) rfl) (Or.inl (hs 14 _ rfl))
  have S_LO : Sta s s.heap "java/lang/StringUTF16" "LO_BYTE_SHIFT" "I" (.int (8 : Int32)) := Sta.start (Cond.eq_int (hs 18 _ rfl) rfl) (Or.inl (hs 17 _ rfl))
  obtain ⟨n, o, h1, h2, h3, v, L, rfl, hQ, -, hq⟩ := rm0 l s _ hw tables_1 i0 i1 i2 i3 i4 cs x1 s.heap s.heap.size (Old.start s) S_CS hcs S_SI hx1 S_AD S_HI S_LO p e ha hc hk s m _ below hf ((Spec.applies_iff_loose hf).mp happ).1 ⟨rfl, State.Warmed39.refl s, rfl, hch⟩ trivial
  obtain ⟨rfl, N, -⟩ := hQ
  refine ⟨n, _, h1, h2, h3, hpost _ _ _ _ _ _ ⟨Cond.after_iff.mpr rfl, Cond.after_iff.mpr (eq_i res_at (Term.int_eval (1)) rfl), trivial⟩ ⟨hq.1, hq.2.1, hq.2.2.1, (hq.2.2.2.sift fun y hy => Or.inr (N y hy)).mono (by decide) (by decide)⟩⟩
theorem main_1_1 : Claimed_1_1 := comes_1 fun _ _ _ _ _ _ h hF => ⟨h.1, hF⟩
theorem main_1_2 : Claimed_1_2 := comes_1 fun _ _ _ _ _ _ h hF => ⟨h.2.1, hF⟩
end Jvm.Pilot.@@N@@
namespace Jvm.Pilot.@@N@@
open Jvm Jvm.ClassFile Sem Op Lib Jvm.Free Jvm.Stand Jvm.Pilot.@@N@@.Jvm.D
/-! MADE BY PROGRAM (witnessworld.py) out of the Statement's table words and the real class files: 20 classes; the members and pool entries that the words name. The judged class is class 1, her method 3. -/
namespace start1
open Jvm.ClassFile
def u (s : String) : CpInfo := .utf8 (stringToUtf16 s)
/-- a pool by its gaps: so many unusable entries, then the entry; so many at the end -/
def gap : Nat → List CpInfo → List CpInfo
  | 0, r => r
  | n + 1, r => .unusable :: gap n r
def poolList (es : List (Nat × CpInfo)) (last : Nat) : List CpInfo := es.foldr (fun e r => gap e.1 (e.2 :: r)) (gap last [])
def pool (es : List (Nat × CpInfo)) (last : Nat) : Array CpInfo := ⟨poolList es last⟩
def fileOf (pool : Array CpInfo) (this : Nat) (attrs : Array Attribute := #[]) (ms : Array MethodInfo := #[]) (fl : Nat := 33) (sup : Nat := 0) (ifs : Array Nat := #[]) (fds : Array FieldInfo := #[]) : ClassFile where
  minorVersion := 0
  majorVersion := 65
  constantPool := pool
  accessFlags := fl
  thisClass := this
  superClass := sup
  interfaces := ifs
  fields := fds
  methods := ms
  attributes := attrs
def plain (name : String) (sup : Option ClassId) : Class where
  name := name
  kind := .ordinary
  loader := none
  accessFlags := 33
  super := sup
  interfaces := #[]
  cf := none
  fields := #[]
  methods := #[]
  instanceTypes := #[]
  staticTypes := #[]
  resolved := #[]
  callSites := []
  init := .initialized
  statics := none
  mirror := none

def pool0 : Array CpInfo := pool [(5, u "<init>"), (0, u "()V"), (1, .class_ 10), (1, u "java/lang/Object")] 113

def k0c0 : Code := { maxStack := 0, maxLocals := 1, code := object_method_1_code, exceptionTable := #[], attributes := #[] }
def k0m0 : Method := { name := "<init>", desc := "()V", sig := { parameters := [], returnType := none }, accessFlags := 1, code := some k0c0 }
/-- java/lang/Object -/
def k0 : Class := { plain "java/lang/Object" none with
  accessFlags := 33
  interfaces := #[]
  cf := some (fileOf pool0 8 #[] #[{ accessFlags := 1, nameIndex := 5, descriptorIndex := 6, attributes := #[] }] 33 0 #[] #[])
  fields := #[]
  methods := #[k0m0]
  instanceTypes := #[]
  staticTypes := #[]
  resolved := Array.replicate 124 none
  statics := none }

def pool1 : Array CpInfo := pool [(2, .class_ 4), (1, u "java/lang/Object"), (0, u "<init>"), (0, u "()V"), (0, .integer 2147483647), (0, .methodref 9 10), (0, .class_ 11), (0, .nameAndType 12 13), (0, u "com/example/stylewright/stylewright/xdm/TreeBuilderIsWhitespacePinLaw"), (0, u "pick"), (0, u "(I)C"), (0, .class_ 15), (0, u "java/lang/String"), (0, .methodref 14 17), (0, .nameAndType 5 18), (0, u "([C)V"), (0, .methodref 9 20), (0, .nameAndType 21 22), (0, u "ws"), (0, u "(C)Z"), (0, .methodref 24 25), (0, .class_ 26), (0, .nameAndType 27 28), (0, u "com/example/stylewright/stylewright/xdm/TreeBuilder"), (0, u "isWhitespace"), (0, u "(Ljava/lang/CharSequence;)Z"), (3, u "law"), (0, u "(IIIII)Z")] 2

def k1m0 : Method := { name := "<init>", desc := "()V", sig := { parameters := [], returnType := none }, accessFlags := 1, code := none }
def k1c1 : Code := { maxStack := 2, maxLocals := 3, code := method_2_code, exceptionTable := #[], attributes := #[] }
def k1m1 : Method := { name := "pick", desc := "(I)C", sig := { parameters := [.int], returnType := some .char }, accessFlags := 10, code := some k1c1 }
def k1c2 : Code := { maxStack := 2, maxLocals := 1, code := method_3_code, exceptionTable := #[], attributes := #[] }
def k1m2 : Method := { name := "ws", desc := "(C)Z", sig := { parameters := [.char], returnType := some .boolean }, accessFlags := 10, code := some k1c2 }
def k1c3 : Code := { maxStack := 6, maxLocals := 12, code := code, exceptionTable := #[], attributes := #[] }
def k1m3 : Method := { name := "law", desc := "(IIIII)Z", sig := { parameters := [.int, .int, .int, .int, .int], returnType := some .boolean }, accessFlags := 9, code := some k1c3 }
/-- com/example/stylewright/stylewright/xdm/TreeBuilderIsWhitespacePinLaw -/
def k1 : Class := { plain "com/example/stylewright/stylewright/xdm/TreeBuilderIsWhitespacePinLaw" (some 0) with
  accessFlags := 49
  interfaces := #[]
  cf := some (fileOf pool1 9 #[] #[{ accessFlags := 1, nameIndex := 5, descriptorIndex := 6, attributes := #[] }, { accessFlags := 10, nameIndex := 12, descriptorIndex := 13, attributes := #[] }, { accessFlags := 10, nameIndex := 21, descriptorIndex := 22, attributes := #[] }, { accessFlags := 9, nameIndex := 32, descriptorIndex := 33, attributes := #[] }] 49 2 #[] #[])
  fields := #[]
  methods := #[k1m0, k1m1, k1m2, k1m3]
  instanceTypes := #[]
  staticTypes := #[]
  resolved := Array.replicate 36 none
  statics := none }

def pool2 : Array CpInfo := pool [(1, .class_ 2), (0, u "java/io/Serializable"), (0, .class_ 4), (0, u "java/lang/Object")] 2

/-- java/io/Serializable -/
def k2 : Class := { plain "java/io/Serializable" (some 0) with
  accessFlags := 1537
  interfaces := #[]
  cf := some (fileOf pool2 1 #[] #[] 1537 3 #[] #[])
  fields := #[]
  methods := #[]
  instanceTypes := #[]
  staticTypes := #[]
  resolved := Array.replicate 7 none
  statics := none }

def pool3 : Array CpInfo := pool [(1, .class_ 2), (0, u "java/lang/Comparable"), (0, .class_ 4), (0, u "java/lang/Object")] 7

/-- java/lang/Comparable -/
def k3 : Class := { plain "java/lang/Comparable" (some 0) with
  accessFlags := 1537
  interfaces := #[]
  cf := some (fileOf pool3 1 #[] #[] 1537 3 #[] #[])
  fields := #[]
  methods := #[]
  instanceTypes := #[]
  staticTypes := #[]
  resolved := Array.replicate 12 none
  statics := none }

def pool4 : Array CpInfo := pool [(2, .class_ 4), (1, u "java/lang/CharSequence"), (0, u "length"), (0, u "()I"), (38, u "charAt"), (0, u "(I)C"), (0, .class_ 48), (0, u "java/lang/CharSequence$1CodePointIterator"), (10, .class_ 60), (0, u "java/lang/CharSequence$1CharIterator"), (5, .class_ 67), (0, u "java/lang/Object")] 63

def k4m0 : Method := { name := "length", desc := "()I", sig := { parameters := [], returnType := some .int }, accessFlags := 1025, code := none }
def k4m1 : Method := { name := "charAt", desc := "(I)C", sig := { parameters := [.int], returnType := some .char }, accessFlags := 1025, code := none }
/-- java/lang/CharSequence -/
def k4 : Class := { plain "java/lang/CharSequence" (some 0) with
  accessFlags := 1537
  interfaces := #[]
  cf := some (fileOf pool4 2 #[.nestMembers #[47, 59]] #[{ accessFlags := 1025, nameIndex := 5, descriptorIndex := 6, attributes := #[] }, { accessFlags := 1025, nameIndex := 45, descriptorIndex := 46, attributes := #[] }] 1537 66 #[] #[])
  fields := #[]
  methods := #[k4m0, k4m1]
  instanceTypes := #[]
  staticTypes := #[]
  resolved := Array.replicate 131 none
  statics := none }

def pool5 : Array CpInfo := pool [(1, .class_ 2), (0, u "java/lang/constant/Constable"), (0, .class_ 4), (0, u "java/lang/Object")] 6

/-- java/lang/constant/Constable -/
def k5 : Class := { plain "java/lang/constant/Constable" (some 0) with
  accessFlags := 1537
  interfaces := #[]
  cf := some (fileOf pool5 1 #[] #[] 1537 3 #[] #[])
  fields := #[]
  methods := #[]
  instanceTypes := #[]
  staticTypes := #[]
  resolved := Array.replicate 11 none
  statics := none }

def pool6 : Array CpInfo := pool [(1, .class_ 2), (0, u "java/lang/constant/ConstantDesc"), (0, .class_ 4), (0, u "java/lang/Object")] 32

/-- java/lang/constant/ConstantDesc -/
def k6 : Class := { plain "java/lang/constant/ConstantDesc" (some 0) with
  accessFlags := 1537
  interfaces := #[]
  cf := some (fileOf pool6 1 #[] #[] 1537 3 #[] #[])
  fields := #[]
  methods := #[]
  instanceTypes := #[]
  staticTypes := #[]
  resolved := Array.replicate 37 none
  statics := none }

def pool7 : Array CpInfo := pool [(1, .methodref 2 3), (0, .class_ 4), (0, .nameAndType 5 6), (0, u "java/lang/Object"), (0, u "<init>"), (0, u "()V"), (0, .string 8), (0, u ""), (0, .fieldref 10 11), (0, .class_ 12), (0, .nameAndType 13 14), (0, u "java/lang/String"), (0, u "value"), (0, u "[B"), (0, .fieldref 10 16), (0, .nameAndType 17 18), (0, u "coder"), (0, u "B"), (2, u "hash"), (0, u "I"), (2, u "hashIsZero"), (0, u "Z"), (0, .methodref 10 28), (0, .nameAndType 5 29), (0, u "([CIILjava/lang/Void;)V"), (8, .fieldref 10 39), (0, .nameAndType 40 26), (0, u "COMPACT_STRINGS"), (1, .class_ 44), (1, u "java/lang/StringUTF16"), (0, u "compress"), (1, .methodref 42 48), (0, .nameAndType 49 50), (0, u "coderFromArrayLen"), (0, u "([BI)B"), (56, .class_ 109), (1, u "java/lang/StringLatin1"), (32, u "()Z"), (34, .methodref 42 178), (0, .nameAndType 45 179), (0, u "([CII)[B"), (154, u "()I"), (0, .methodref 10 336), (0, .nameAndType 17 337), (0, u "()B"), (25, u "([BI)C"), (27, u "(II)V"), (35, u "(I)C"), (64, .methodref 10 493), (0, .nameAndType 494 142), (0, u "isLatin1"), (0, .methodref 107 496), (0, .nameAndType 497 363), (0, u "charAt"), (0, .methodref 42 496), (2, u "checkIndex"), (5, u "length"), (67, .class_ 576), (0, u "java/lang/CharSequence"), (22, u "CASE_INSENSITIVE_ORDER"), (0, u "Ljava/util/Comparator;"), (409, u "([C)V"), (42, .fieldref 1054 1055), (0, .class_ 1056), (0, .nameAndType 1057 1058), (0, u "jdk/internal/util/Preconditions"), (0, u "SIOOBE_FORMATTER"), (0, u "Ljava/util/function/BiFunction;"), (0, .methodref 1054 1060), (0, .nameAndType 501 1061), (0, u "(IILjava/util/function/BiFunction;)I"), (39, u "serialPersistentFields"), (0, u "[Ljava/io/ObjectStreamField;"), (0, .class_ 1104), (0, u "java/lang/String$CaseInsensitiveComparator"), (1, .class_ 1107), (0, u "java/io/Serializable"), (0, .class_ 1109), (0, u "java/lang/Comparable"), (0, .class_ 1111), (0, u "java/lang/constant/Constable"), (0, .class_ 1113), (0, u "java/lang/constant/ConstantDesc"), (2, u "serialVersionUID"), (0, u "J"), (3, u "REPL"), (0, u "C"), (2, u "LATIN1"), (1, u "UTF16")] 323

def k7m0 : Method := { name := "<init>", desc := "()V", sig := { parameters := [], returnType := none }, accessFlags := 1, code := none }
def k7c1 : Code := { maxStack := 5, maxLocals := 2, code := jdk_42_method_3_code, exceptionTable := #[], attributes := #[] }
def k7m1 : Method := { name := "<init>", desc := "([C)V", sig := { parameters := [(.array .char)], returnType := none }, accessFlags := 1, code := some k7c1 }
def k7c2 : Code := { maxStack := 2, maxLocals := 1, code := jdk_42_method_54_code, exceptionTable := #[], attributes := #[] }
def k7m2 : Method := { name := "length", desc := "()I", sig := { parameters := [], returnType := some .int }, accessFlags := 1, code := some k7c2 }
def k7c3 : Code := { maxStack := 2, maxLocals := 2, code := jdk_42_method_56_code, exceptionTable := #[], attributes := #[] }
def k7m3 : Method := { name := "charAt", desc := "(I)C", sig := { parameters := [.int], returnType := some .char }, accessFlags := 1, code := some k7c3 }
def k7c4 : Code := { maxStack := 4, maxLocals := 6, code := jdk_42_method_149_code, exceptionTable := #[], attributes := #[] }
def k7m4 : Method := { name := "<init>", desc := "([CIILjava/lang/Void;)V", sig := { parameters := [(.array .char), .int, .int, (.object "java/lang/Void")], returnType := none }, accessFlags := 2, code := some k7c4 }
def k7c5 : Code := { maxStack := 1, maxLocals := 1, code := jdk_42_method_152_code, exceptionTable := #[], attributes := #[] }
def k7m5 : Method := { name := "coder", desc := "()B", sig := { parameters := [], returnType := some .byte }, accessFlags := 0, code := some k7c5 }
def k7c6 : Code := { maxStack := 1, maxLocals := 1, code := jdk_42_method_154_code, exceptionTable := #[], attributes := #[] }
def k7m6 : Method := { name := "isLatin1", desc := "()Z", sig := { parameters := [], returnType := some .boolean }, accessFlags := 0, code := some k7c6 }
def k7c7 : Code := { maxStack := 3, maxLocals := 2, code := jdk_42_method_155_code, exceptionTable := #[], attributes := #[] }
def k7m7 : Method := { name := "checkIndex", desc := "(II)V", sig := { parameters := [.int, .int], returnType := none }, accessFlags := 8, code := some k7c7 }
/-- java/lang/String -/
def k7 : Class := { plain "java/lang/String" (some 0) with
  accessFlags := 49
  interfaces := #[2, 3, 4, 5, 6]
  cf := some (fileOf pool7 10 #[.nestMembers #[1103]] #[{ accessFlags := 1, nameIndex := 5, descriptorIndex := 6, attributes := #[] }, { accessFlags := 1, nameIndex := 5, descriptorIndex := 1010, attributes := #[] }, { accessFlags := 1, nameIndex := 507, descriptorIndex := 334, attributes := #[] }, { accessFlags := 1, nameIndex := 497, descriptorIndex := 427, attributes := #[] }, { accessFlags := 2, nameIndex := 5, descriptorIndex := 29, attributes := #[] }, { accessFlags := 0, nameIndex := 17, descriptorIndex := 337, attributes := #[] }, { accessFlags := 0, nameIndex := 494, descriptorIndex := 142, attributes := #[] }, { accessFlags := 8, nameIndex := 501, descriptorIndex := 391, attributes := #[] }] 49 2 #[1106, 1108, 575, 1110, 1112] #[{ accessFlags := 18, nameIndex := 13, descriptorIndex := 14, attributes := #[] }, { accessFlags := 18, nameIndex := 17, descriptorIndex := 18, attributes := #[] }, { accessFlags := 2, nameIndex := 21, descriptorIndex := 22, attributes := #[] }, { accessFlags := 2, nameIndex := 25, descriptorIndex := 26, attributes := #[] }, { accessFlags := 26, nameIndex := 1116, descriptorIndex := 1117, attributes := #[] }, { accessFlags := 24, nameIndex := 40, descriptorIndex := 26, attributes := #[] }, { accessFlags := 26, nameIndex := 1101, descriptorIndex := 1102, attributes := #[] }, { accessFlags := 26, nameIndex := 1121, descriptorIndex := 1122, attributes := #[] }, { accessFlags := 25, nameIndex := 599, descriptorIndex := 600, attributes := #[] }, { accessFlags := 24, nameIndex := 1125, descriptorIndex := 18, attributes := #[] }, { accessFlags := 24, nameIndex := 1127, descriptorIndex := 18, attributes := #[] }])
  fields := #[{ name := "value", type := (.array .byte), accessFlags := 18, slot := 0, constantValue := 0 }, { name := "coder", type := .byte, accessFlags := 18, slot := 1, constantValue := 0 }, { name := "hash", type := .int, accessFlags := 2, slot := 2, constantValue := 0 }, { name := "hashIsZero", type := .boolean, accessFlags := 2, slot := 3, constantValue := 0 }, { name := "serialVersionUID", type := .long, accessFlags := 26, slot := 0, constantValue := 0 }, { name := "COMPACT_STRINGS", type := .boolean, accessFlags := 24, slot := 1, constantValue := 0 }, { name := "serialPersistentFields", type := (.array (.object "java/io/ObjectStreamField")), accessFlags := 26, slot := 2, constantValue := 0 }, { name := "REPL", type := .char, accessFlags := 26, slot := 3, constantValue := 0 }, { name := "CASE_INSENSITIVE_ORDER", type := (.object "java/util/Comparator"), accessFlags := 25, slot := 4, constantValue := 0 }, { name := "LATIN1", type := .byte, accessFlags := 24, slot := 5, constantValue := 0 }, { name := "UTF16", type := .byte, accessFlags := 24, slot := 6, constantValue := 0 }]
  methods := #[k7m0, k7m1, k7m2, k7m3, k7m4, k7m5, k7m6, k7m7]
  instanceTypes := #[(.array .byte), .byte, .int, .boolean]
  staticTypes := #[.long, .boolean, (.array (.object "java/io/ObjectStreamField")), .char, (.object "java/util/Comparator"), .byte, .byte]
  resolved := Array.replicate 1451 none
  statics := some 0 }

def pool8 : Array CpInfo := pool [(2, .class_ 4), (1, u "java/lang/Object"), (0, u "<init>"), (0, u "()V"), (4, .class_ 13), (1, u "com/example/stylewright/stylewright/xdm/TreeBuilder"), (0, u "roots"), (0, u "Ljava/util/List;"), (4, u "pending"), (0, u "[Lcom/example/stylewright/stylewright/xdm/Node;"), (2, u "childrenStarts"), (0, u "[I"), (5, u "text"), (0, u "Ljava/lang/StringBuilder;"), (5, u "whitespace"), (0, u "Ljava/util/Map;"), (2, u "unescaped"), (2, u "stripsWhitespace"), (0, u "Ljava/util/function/Predicate;"), (2, u "TREES"), (0, u "Ljava/util/concurrent/atomic/AtomicLong;"), (8, u "treeBase"), (0, u "J"), (10, u "document"), (0, u "Lcom/example/stylewright/stylewright/xdm/DocumentNode;"), (2, u "current"), (0, u "Lcom/example/stylewright/stylewright/xdm/ParentNode;"), (100, u "()I"), (55, u "nodes"), (0, u "I"), (18, u "pendingCount"), (9, u "openCount"), (62, u "piece"), (0, u "Ljava/lang/String;"), (1, .nameAndType 330 177), (0, u "length"), (43, .interfaceMethodref 375 329), (0, .class_ 376), (0, u "java/lang/CharSequence"), (58, u "isWhitespace"), (0, u "(Ljava/lang/CharSequence;)Z"), (41, .interfaceMethodref 375 479), (0, .nameAndType 480 481), (0, u "charAt"), (0, u "(I)C"), (0, .methodref 11 483), (0, .nameAndType 435 484), (0, u "(C)Z"), (1, u "SHARED_WHITESPACE_LENGTH")] 60

def k8m0 : Method := { name := "<init>", desc := "()V", sig := { parameters := [], returnType := none }, accessFlags := 2, code := none }
def k8c1 : Code := { maxStack := 2, maxLocals := 2, code := prog_50_method_28_code, exceptionTable := #[], attributes := #[] }
def k8m1 : Method := { name := "isWhitespace", desc := "(Ljava/lang/CharSequence;)Z", sig := { parameters := [(.object "java/lang/CharSequence")], returnType := some .boolean }, accessFlags := 9, code := some k8c1 }
def k8c2 : Code := { maxStack := 2, maxLocals := 1, code := prog_50_method_29_code, exceptionTable := #[], attributes := #[] }
def k8m2 : Method := { name := "isWhitespace", desc := "(C)Z", sig := { parameters := [.char], returnType := some .boolean }, accessFlags := 9, code := some k8c2 }
/-- com/example/stylewright/stylewright/xdm/TreeBuilder -/
def k8 : Class := { plain "com/example/stylewright/stylewright/xdm/TreeBuilder" (some 0) with
  accessFlags := 49
  interfaces := #[]
  cf := some (fileOf pool8 11 #[] #[{ accessFlags := 2, nameIndex := 5, descriptorIndex := 6, attributes := #[] }, { accessFlags := 9, nameIndex := 435, descriptorIndex := 436, attributes := #[] }, { accessFlags := 9, nameIndex := 435, descriptorIndex := 484, attributes := #[] }] 49 2 #[] #[{ accessFlags := 26, nameIndex := 49, descriptorIndex := 50, attributes := #[] }, { accessFlags := 26, nameIndex := 486, descriptorIndex := 234, attributes := #[] }, { accessFlags := 18, nameIndex := 45, descriptorIndex := 46, attributes := #[] }, { accessFlags := 18, nameIndex := 59, descriptorIndex := 60, attributes := #[] }, { accessFlags := 2, nameIndex := 233, descriptorIndex := 234, attributes := #[] }, { accessFlags := 18, nameIndex := 71, descriptorIndex := 72, attributes := #[] }, { accessFlags := 2, nameIndex := 75, descriptorIndex := 76, attributes := #[] }, { accessFlags := 18, nameIndex := 14, descriptorIndex := 15, attributes := #[] }, { accessFlags := 2, nameIndex := 20, descriptorIndex := 21, attributes := #[] }, { accessFlags := 2, nameIndex := 253, descriptorIndex := 234, attributes := #[] }, { accessFlags := 2, nameIndex := 24, descriptorIndex := 25, attributes := #[] }, { accessFlags := 2, nameIndex := 263, descriptorIndex := 234, attributes := #[] }, { accessFlags := 18, nameIndex := 31, descriptorIndex := 32, attributes := #[] }, { accessFlags := 2, nameIndex := 326, descriptorIndex := 327, attributes := #[] }, { accessFlags := 18, nameIndex := 38, descriptorIndex := 39, attributes := #[] }, { accessFlags := 18, nameIndex := 42, descriptorIndex := 15, attributes := #[] }])
  fields := #[{ name := "TREES", type := (.object "java/util/concurrent/atomic/AtomicLong"), accessFlags := 26, slot := 0, constantValue := 0 }, { name := "SHARED_WHITESPACE_LENGTH", type := .int, accessFlags := 26, slot := 1, constantValue := 0 }, { name := "stripsWhitespace", type := (.object "java/util/function/Predicate"), accessFlags := 18, slot := 0, constantValue := 0 }, { name := "treeBase", type := .long, accessFlags := 18, slot := 1, constantValue := 0 }, { name := "nodes", type := .int, accessFlags := 2, slot := 2, constantValue := 0 }, { name := "document", type := (.object "com/example/stylewright/stylewright/xdm/DocumentNode"), accessFlags := 18, slot := 3, constantValue := 0 }, { name := "current", type := (.object "com/example/stylewright/stylewright/xdm/ParentNode"), accessFlags := 2, slot := 4, constantValue := 0 }, { name := "roots", type := (.object "java/util/List"), accessFlags := 18, slot := 5, constantValue := 0 }, { name := "pending", type := (.array (.object "com/example/stylewright/stylewright/xdm/Node")), accessFlags := 2, slot := 6, constantValue := 0 }, { name := "pendingCount", type := .int, accessFlags := 2, slot := 7, constantValue := 0 }, { name := "childrenStarts", type := (.array .int), accessFlags := 2, slot := 8, constantValue := 0 }, { name := "openCount", type := .int, accessFlags := 2, slot := 9, constantValue := 0 }, { name := "text", type := (.object "java/lang/StringBuilder"), accessFlags := 18, slot := 10, constantValue := 0 }, { name := "piece", type := (.object "java/lang/String"), accessFlags := 2, slot := 11, constantValue := 0 }, { name := "whitespace", type := (.object "java/util/Map"), accessFlags := 18, slot := 12, constantValue := 0 }, { name := "unescaped", type := (.object "java/util/List"), accessFlags := 18, slot := 13, constantValue := 0 }]
  methods := #[k8m0, k8m1, k8m2]
  instanceTypes := #[(.object "java/util/function/Predicate"), .long, .int, (.object "com/example/stylewright/stylewright/xdm/DocumentNode"), (.object "com/example/stylewright/stylewright/xdm/ParentNode"), (.object "java/util/List"), (.array (.object "com/example/stylewright/stylewright/xdm/Node")), .int, (.array .int), .int, (.object "java/lang/StringBuilder"), (.object "java/lang/String"), (.object "java/util/Map"), (.object "java/util/List")]
  staticTypes := #[(.object "java/util/concurrent/atomic/AtomicLong"), .int]
  resolved := Array.replicate 547 none
  statics := none }

def pool9 : Array CpInfo := pool [(3, .class_ 4), (0, u "java/lang/String"), (1, .class_ 8), (1, u "java/lang/Object"), (0, u "<init>"), (0, u "()V"), (0, .methodref 12 13), (0, .class_ 14), (0, .nameAndType 15 16), (0, u "java/lang/StringUTF16"), (0, u "newBytesLength"), (0, u "(I)I"), (3, .integer 1073741823), (23, .fieldref 12 45), (0, .nameAndType 46 47), (0, u "$assertionsDisabled"), (0, u "Z"), (0, .methodref 12 49), (0, .nameAndType 50 51), (0, u "length"), (0, u "([B)I"), (7, .fieldref 12 60), (0, .nameAndType 61 62), (0, u "HI_BYTE_SHIFT"), (0, u "I"), (0, .fieldref 12 64), (0, .nameAndType 65 62), (0, u "LO_BYTE_SHIFT"), (1, .methodref 12 68), (0, .nameAndType 69 70), (0, u "checkIndex"), (0, u "(I[B)V"), (0, .methodref 12 72), (0, .nameAndType 73 74), (0, u "getChar"), (0, u "([BI)C"), (32, .methodref 12 108), (0, .nameAndType 109 110), (0, u "newBytesFor"), (0, u "(I)[B"), (0, .methodref 12 112), (0, .nameAndType 113 114), (0, u "putChar"), (0, u "([BII)V"), (0, .methodref 12 116), (0, .nameAndType 117 118), (0, u "compress"), (0, u "([CI[BII)I"), (0, .methodref 12 120), (0, .nameAndType 121 122), (0, u "toBytes"), (0, u "([CII)[B"), (138, u "coderFromArrayLen"), (0, u "([BI)B"), (106, .class_ 371), (1, u "java/lang/StringUTF16$LinesSpliterator"), (20, u "charAt"), (21, .methodref 3 415), (0, .nameAndType 69 416), (0, u "(II)V"), (13, u "MAX_LENGTH"), (196, .class_ 628), (0, u "java/lang/StringUTF16$CodePointsSpliterator"), (0, .class_ 630), (0, u "java/lang/StringUTF16$CharsSpliterator")] 4

def k9m0 : Method := { name := "<init>", desc := "()V", sig := { parameters := [], returnType := none }, accessFlags := 0, code := none }
def k9c1 : Code := { maxStack := 1, maxLocals := 1, code := jdk_52_method_2_code, exceptionTable := #[], attributes := #[] }
def k9m1 : Method := { name := "newBytesFor", desc := "(I)[B", sig := { parameters := [.int], returnType := some (.array .byte) }, accessFlags := 9, code := some k9c1 }
def k9c2 : Code := { maxStack := 4, maxLocals := 1, code := jdk_52_method_3_code, exceptionTable := #[], attributes := #[] }
def k9m2 : Method := { name := "newBytesLength", desc := "(I)I", sig := { parameters := [.int], returnType := some .int }, accessFlags := 9, code := some k9c2 }
def k9c3 : Code := { maxStack := 4, maxLocals := 3, code := jdk_52_method_4_code, exceptionTable := #[], attributes := #[] }
def k9m3 : Method := { name := "putChar", desc := "([BII)V", sig := { parameters := [(.array .byte), .int, .int], returnType := none }, accessFlags := 8, code := some k9c3 }
def k9c4 : Code := { maxStack := 3, maxLocals := 2, code := jdk_52_method_5_code, exceptionTable := #[], attributes := #[] }
def k9m4 : Method := { name := "getChar", desc := "([BI)C", sig := { parameters := [(.array .byte), .int], returnType := some .char }, accessFlags := 8, code := some k9c4 }
def k9c5 : Code := { maxStack := 2, maxLocals := 1, code := jdk_52_method_6_code, exceptionTable := #[], attributes := #[] }
def k9m5 : Method := { name := "length", desc := "([B)I", sig := { parameters := [(.array .byte)], returnType := some .int }, accessFlags := 9, code := some k9c5 }
def k9c6 : Code := { maxStack := 4, maxLocals := 5, code := jdk_52_method_14_code, exceptionTable := #[], attributes := #[] }
def k9m6 : Method := { name := "toBytes", desc := "([CII)[B", sig := { parameters := [(.array .char), .int, .int], returnType := some (.array .byte) }, accessFlags := 9, code := some k9c6 }
def k9c7 : Code := { maxStack := 2, maxLocals := 2, code := jdk_52_method_15_code, exceptionTable := #[], attributes := #[] }
def k9m7 : Method := { name := "coderFromArrayLen", desc := "([BI)B", sig := { parameters := [(.array .byte), .int], returnType := some .byte }, accessFlags := 8, code := some k9c7 }
def k9c8 : Code := { maxStack := 5, maxLocals := 6, code := jdk_52_method_16_code, exceptionTable := #[], attributes := #[] }
def k9m8 : Method := { name := "compress", desc := "([CII)[B", sig := { parameters := [(.array .char), .int, .int], returnType := some (.array .byte) }, accessFlags := 9, code := some k9c8 }
def k9c9 : Code := { maxStack := 3, maxLocals := 7, code := jdk_52_method_21_code, exceptionTable := #[], attributes := #[] }
def k9m9 : Method := { name := "compress", desc := "([CI[BII)I", sig := { parameters := [(.array .char), .int, (.array .byte), .int, .int], returnType := some .int }, accessFlags := 9, code := some k9c9 }
def k9c10 : Code := { maxStack := 2, maxLocals := 2, code := jdk_52_method_83_code, exceptionTable := #[], attributes := #[] }
def k9m10 : Method := { name := "charAt", desc := "([BI)C", sig := { parameters := [(.array .byte), .int], returnType := some .char }, accessFlags := 9, code := some k9c10 }
def k9c11 : Code := { maxStack := 2, maxLocals := 2, code := jdk_52_method_91_code, exceptionTable := #[], attributes := #[] }
def k9m11 : Method := { name := "checkIndex", desc := "(I[B)V", sig := { parameters := [.int, (.array .byte)], returnType := none }, accessFlags := 9, code := some k9c11 }
/-- java/lang/StringUTF16 -/
def k9 : Class := { plain "java/lang/StringUTF16" (some 0) with
  accessFlags := 48
  interfaces := #[]
  cf := some (fileOf pool9 12 #[.nestMembers #[627, 629, 369]] #[{ accessFlags := 0, nameIndex := 9, descriptorIndex := 10, attributes := #[] }, { accessFlags := 9, nameIndex := 109, descriptorIndex := 110, attributes := #[] }, { accessFlags := 9, nameIndex := 15, descriptorIndex := 16, attributes := #[] }, { accessFlags := 8, nameIndex := 113, descriptorIndex := 114, attributes := #[] }, { accessFlags := 8, nameIndex := 73, descriptorIndex := 74, attributes := #[] }, { accessFlags := 9, nameIndex := 50, descriptorIndex := 51, attributes := #[] }, { accessFlags := 9, nameIndex := 121, descriptorIndex := 122, attributes := #[] }, { accessFlags := 8, nameIndex := 261, descriptorIndex := 262, attributes := #[] }, { accessFlags := 9, nameIndex := 117, descriptorIndex := 122, attributes := #[] }, { accessFlags := 9, nameIndex := 117, descriptorIndex := 118, attributes := #[] }, { accessFlags := 9, nameIndex := 392, descriptorIndex := 74, attributes := #[] }, { accessFlags := 9, nameIndex := 69, descriptorIndex := 70, attributes := #[] }] 48 6 #[] #[{ accessFlags := 26, nameIndex := 61, descriptorIndex := 62, attributes := #[] }, { accessFlags := 26, nameIndex := 65, descriptorIndex := 62, attributes := #[] }, { accessFlags := 24, nameIndex := 430, descriptorIndex := 62, attributes := #[] }, { accessFlags := 4120, nameIndex := 46, descriptorIndex := 47, attributes := #[] }])
  fields := #[{ name := "HI_BYTE_SHIFT", type := .int, accessFlags := 26, slot := 0, constantValue := 0 }, { name := "LO_BYTE_SHIFT", type := .int, accessFlags := 26, slot := 1, constantValue := 0 }, { name := "MAX_LENGTH", type := .int, accessFlags := 24, slot := 2, constantValue := 0 }, { name := "$assertionsDisabled", type := .boolean, accessFlags := 4120, slot := 3, constantValue := 0 }]
  methods := #[k9m0, k9m1, k9m2, k9m3, k9m4, k9m5, k9m6, k9m7, k9m8, k9m9, k9m10, k9m11]
  instanceTypes := #[]
  staticTypes := #[.int, .int, .int, .boolean]
  resolved := Array.replicate 635 none
  statics := some 1 }

def pool10 : Array CpInfo := pool [(1, .class_ 2), (0, u "java/lang/String"), (1, .class_ 6), (1, u "java/lang/Object"), (0, u "<init>"), (0, u "()V"), (0, .methodref 1 10), (0, .nameAndType 11 12), (0, u "checkIndex"), (0, u "(II)V"), (1, .class_ 16), (1, u "java/lang/StringLatin1"), (36, u "([BI)C"), (67, u "$assertionsDisabled"), (0, u "Z"), (98, .class_ 223), (1, u "java/lang/StringLatin1$LinesSpliterator"), (28, u "charAt"), (137, .class_ 391), (0, u "java/lang/StringLatin1$CharsSpliterator")] 3

def k10m0 : Method := { name := "<init>", desc := "()V", sig := { parameters := [], returnType := none }, accessFlags := 0, code := none }
def k10c1 : Code := { maxStack := 2, maxLocals := 2, code := jdk_43_method_2_code, exceptionTable := #[], attributes := #[] }
def k10m1 : Method := { name := "charAt", desc := "([BI)C", sig := { parameters := [(.array .byte), .int], returnType := some .char }, accessFlags := 9, code := some k10c1 }
/-- java/lang/StringLatin1 -/
def k10 : Class := { plain "java/lang/StringLatin1" (some 0) with
  accessFlags := 48
  interfaces := #[]
  cf := some (fileOf pool10 14 #[.nestMembers #[390, 221]] #[{ accessFlags := 0, nameIndex := 7, descriptorIndex := 8, attributes := #[] }, { accessFlags := 9, nameIndex := 252, descriptorIndex := 53, attributes := #[] }] 48 4 #[] #[{ accessFlags := 4120, nameIndex := 121, descriptorIndex := 122, attributes := #[] }])
  fields := #[{ name := "$assertionsDisabled", type := .boolean, accessFlags := 4120, slot := 0, constantValue := 0 }]
  methods := #[k10m0, k10m1]
  instanceTypes := #[]
  staticTypes := #[.boolean]
  resolved := Array.replicate 395 none
  statics := none }

def pool11 : Array CpInfo := pool [(2, .class_ 4), (1, u "java/lang/Object"), (0, u "<init>"), (0, u "()V"), (17, .class_ 26), (1, u "jdk/internal/util/Preconditions"), (6, u "checkIndex"), (21, .class_ 56), (0, u "jdk/internal/util/Preconditions$4"), (57, .class_ 115), (0, u "jdk/internal/util/Preconditions$1"), (7, u "SIOOBE_FORMATTER"), (0, u "Ljava/util/function/BiFunction;"), (0, .class_ 126), (0, u "jdk/internal/util/Preconditions$2"), (3, u "AIOOBE_FORMATTER"), (0, .class_ 132), (0, u "jdk/internal/util/Preconditions$3"), (3, u "IOOBE_FORMATTER"), (41, u "(IILjava/util/function/BiFunction;)I")] 15

def k11m0 : Method := { name := "<init>", desc := "()V", sig := { parameters := [], returnType := none }, accessFlags := 1, code := none }
def k11c1 : Code := { maxStack := 3, maxLocals := 3, code := jdk_41_method_11_code, exceptionTable := #[], attributes := #[] }
def k11m1 : Method := { name := "checkIndex", desc := "(IILjava/util/function/BiFunction;)I", sig := { parameters := [.int, .int, (.object "java/util/function/BiFunction")], returnType := some .int }, accessFlags := 9, code := some k11c1 }
/-- jdk/internal/util/Preconditions -/
def k11 : Class := { plain "jdk/internal/util/Preconditions" (some 0) with
  accessFlags := 33
  interfaces := #[]
  cf := some (fileOf pool11 24 #[.nestMembers #[55, 131, 125, 114]] #[{ accessFlags := 1, nameIndex := 5, descriptorIndex := 6, attributes := #[] }, { accessFlags := 9, nameIndex := 33, descriptorIndex := 178, attributes := #[] }] 33 2 #[] #[{ accessFlags := 25, nameIndex := 123, descriptorIndex := 124, attributes := #[] }, { accessFlags := 25, nameIndex := 130, descriptorIndex := 124, attributes := #[] }, { accessFlags := 25, nameIndex := 136, descriptorIndex := 124, attributes := #[] }])
  fields := #[{ name := "SIOOBE_FORMATTER", type := (.object "java/util/function/BiFunction"), accessFlags := 25, slot := 0, constantValue := 0 }, { name := "AIOOBE_FORMATTER", type := (.object "java/util/function/BiFunction"), accessFlags := 25, slot := 1, constantValue := 0 }, { name := "IOOBE_FORMATTER", type := (.object "java/util/function/BiFunction"), accessFlags := 25, slot := 2, constantValue := 0 }]
  methods := #[k11m0, k11m1]
  instanceTypes := #[]
  staticTypes := #[(.object "java/util/function/BiFunction"), (.object "java/util/function/BiFunction"), (.object "java/util/function/BiFunction")]
  resolved := Array.replicate 194 none
  statics := some 2 }

def pool12 : Array CpInfo := pool [(9, u "<init>"), (6, .class_ 18), (1, u "java/lang/Object"), (0, u "()V"), (1, .class_ 23), (1, u "jdk/internal/util/ArraysSupport"), (0, u "LOG2_ARRAY_LONG_INDEX_SCALE"), (0, u "I"), (2, u "U"), (0, u "Ljdk/internal/misc/Unsafe;"), (8, u "BIG_ENDIAN"), (0, u "Z"), (8, u "LOG2_BYTE_BIT_SIZE"), (4, u "LOG2_ARRAY_INT_INDEX_SCALE"), (54, u "JLA"), (0, u "Ljdk/internal/access/JavaLangAccess;"), (11, u "LOG2_ARRAY_BOOLEAN_INDEX_SCALE"), (9, u "LOG2_ARRAY_BYTE_INDEX_SCALE"), (5, u "LOG2_ARRAY_CHAR_INDEX_SCALE"), (5, u "LOG2_ARRAY_SHORT_INDEX_SCALE"), (18, u "LOG2_ARRAY_FLOAT_INDEX_SCALE"), (24, u "LOG2_ARRAY_DOUBLE_INDEX_SCALE"), (89, u "T_BOOLEAN"), (2, u "T_CHAR"), (1, u "T_FLOAT"), (1, u "T_DOUBLE"), (1, u "T_BYTE"), (1, u "T_SHORT"), (1, u "T_INT"), (1, u "T_LONG"), (1, u "SOFT_MAX_ARRAY_LENGTH")] 83

def k12m0 : Method := { name := "<init>", desc := "()V", sig := { parameters := [], returnType := none }, accessFlags := 2, code := none }
/-- jdk/internal/util/ArraysSupport -/
def k12 : Class := { plain "jdk/internal/util/ArraysSupport" (some 0) with
  accessFlags := 33
  interfaces := #[]
  cf := some (fileOf pool12 21 #[] #[{ accessFlags := 2, nameIndex := 9, descriptorIndex := 19, attributes := #[] }] 33 16 #[] #[{ accessFlags := 24, nameIndex := 28, descriptorIndex := 29, attributes := #[] }, { accessFlags := 26, nameIndex := 38, descriptorIndex := 39, attributes := #[] }, { accessFlags := 25, nameIndex := 121, descriptorIndex := 25, attributes := #[] }, { accessFlags := 25, nameIndex := 131, descriptorIndex := 25, attributes := #[] }, { accessFlags := 25, nameIndex := 137, descriptorIndex := 25, attributes := #[] }, { accessFlags := 25, nameIndex := 143, descriptorIndex := 25, attributes := #[] }, { accessFlags := 25, nameIndex := 53, descriptorIndex := 25, attributes := #[] }, { accessFlags := 25, nameIndex := 24, descriptorIndex := 25, attributes := #[] }, { accessFlags := 25, nameIndex := 162, descriptorIndex := 25, attributes := #[] }, { accessFlags := 25, nameIndex := 187, descriptorIndex := 25, attributes := #[] }, { accessFlags := 26, nameIndex := 48, descriptorIndex := 25, attributes := #[] }, { accessFlags := 25, nameIndex := 277, descriptorIndex := 25, attributes := #[] }, { accessFlags := 25, nameIndex := 280, descriptorIndex := 25, attributes := #[] }, { accessFlags := 25, nameIndex := 282, descriptorIndex := 25, attributes := #[] }, { accessFlags := 25, nameIndex := 284, descriptorIndex := 25, attributes := #[] }, { accessFlags := 25, nameIndex := 286, descriptorIndex := 25, attributes := #[] }, { accessFlags := 25, nameIndex := 288, descriptorIndex := 25, attributes := #[] }, { accessFlags := 25, nameIndex := 290, descriptorIndex := 25, attributes := #[] }, { accessFlags := 25, nameIndex := 292, descriptorIndex := 25, attributes := #[] }, { accessFlags := 26, nameIndex := 108, descriptorIndex := 109, attributes := #[] }, { accessFlags := 25, nameIndex := 294, descriptorIndex := 25, attributes := #[] }])
  fields := #[{ name := "U", type := (.object "jdk/internal/misc/Unsafe"), accessFlags := 24, slot := 0, constantValue := 0 }, { name := "BIG_ENDIAN", type := .boolean, accessFlags := 26, slot := 1, constantValue := 0 }, { name := "LOG2_ARRAY_BOOLEAN_INDEX_SCALE", type := .int, accessFlags := 25, slot := 2, constantValue := 0 }, { name := "LOG2_ARRAY_BYTE_INDEX_SCALE", type := .int, accessFlags := 25, slot := 3, constantValue := 0 }, { name := "LOG2_ARRAY_CHAR_INDEX_SCALE", type := .int, accessFlags := 25, slot := 4, constantValue := 0 }, { name := "LOG2_ARRAY_SHORT_INDEX_SCALE", type := .int, accessFlags := 25, slot := 5, constantValue := 0 }, { name := "LOG2_ARRAY_INT_INDEX_SCALE", type := .int, accessFlags := 25, slot := 6, constantValue := 0 }, { name := "LOG2_ARRAY_LONG_INDEX_SCALE", type := .int, accessFlags := 25, slot := 7, constantValue := 0 }, { name := "LOG2_ARRAY_FLOAT_INDEX_SCALE", type := .int, accessFlags := 25, slot := 8, constantValue := 0 }, { name := "LOG2_ARRAY_DOUBLE_INDEX_SCALE", type := .int, accessFlags := 25, slot := 9, constantValue := 0 }, { name := "LOG2_BYTE_BIT_SIZE", type := .int, accessFlags := 26, slot := 10, constantValue := 0 }, { name := "T_BOOLEAN", type := .int, accessFlags := 25, slot := 11, constantValue := 0 }, { name := "T_CHAR", type := .int, accessFlags := 25, slot := 12, constantValue := 0 }, { name := "T_FLOAT", type := .int, accessFlags := 25, slot := 13, constantValue := 0 }, { name := "T_DOUBLE", type := .int, accessFlags := 25, slot := 14, constantValue := 0 }, { name := "T_BYTE", type := .int, accessFlags := 25, slot := 15, constantValue := 0 }, { name := "T_SHORT", type := .int, accessFlags := 25, slot := 16, constantValue := 0 }, { name := "T_INT", type := .int, accessFlags := 25, slot := 17, constantValue := 0 }, { name := "T_LONG", type := .int, accessFlags := 25, slot := 18, constantValue := 0 }, { name := "JLA", type := (.object "jdk/internal/access/JavaLangAccess"), accessFlags := 26, slot := 19, constantValue := 0 }, { name := "SOFT_MAX_ARRAY_LENGTH", type := .int, accessFlags := 25, slot := 20, constantValue := 0 }]
  methods := #[k12m0]
  instanceTypes := #[]
  staticTypes := #[(.object "jdk/internal/misc/Unsafe"), .boolean, .int, .int, .int, .int, .int, .int, .int, .int, .int, .int, .int, .int, .int, .int, .int, .int, .int, (.object "jdk/internal/access/JavaLangAccess"), .int]
  resolved := Array.replicate 378 none
  statics := none }

def pool13 : Array CpInfo := pool [(1, u "java/lang/Cloneable"), (0, .class_ 1), (0, u "java/lang/Object"), (0, .class_ 3)] 3

/-- java/lang/Cloneable -/
def k13 : Class := { plain "java/lang/Cloneable" (some 0) with
  accessFlags := 1537
  interfaces := #[]
  cf := some (fileOf pool13 2 #[] #[] 1537 4 #[] #[])
  fields := #[]
  methods := #[]
  instanceTypes := #[]
  staticTypes := #[]
  resolved := Array.replicate 8 none
  statics := none }

/-- the primitive byte -/
def k14 : Class := { plain "byte" none with kind := .primitive 'B', accessFlags := 0x411 }
/-- [B -/
def k15 : Class := { plain "[B" (some 0) with kind := .array 14 .byte, interfaces := #[13, 2], accessFlags := 1041 }

/-- the primitive char -/
def k16 : Class := { plain "char" none with kind := .primitive 'C', accessFlags := 0x411 }
/-- [C -/
def k17 : Class := { plain "[C" (some 0) with kind := .array 16 .char, interfaces := #[13, 2], accessFlags := 1041 }

/-- the primitive int -/
def k18 : Class := { plain "int" none with kind := .primitive 'I', accessFlags := 0x411 }
/-- [I -/
def k19 : Class := { plain "[I" (some 0) with kind := .array 18 .int, interfaces := #[13, 2], accessFlags := 1041 }

def heap : Heap := #[{ cls := 7, slots := #[.long 0, .int 1, .null, .int 0, .null, .int 0, .int 0], vm := .statics 7 },
  { cls := 9, slots := #[.int 0, .int 8, .int 0, .int 1], vm := .statics 9 },
  { cls := 11, slots := #[.null, .null, .null], vm := .statics 11 }]
def classes : Array Class := #[k0, k1, k2, k3, k4, k5, k6, k7, k8, k9, k10, k11, k12, k13, k14, k15, k16, k17, k18, k19]
def interned : List (Array UInt16 × Addr) := []
def slotsUsed : Nat := 14
def theMethod : MethodId := ⟨1, 3⟩
def args0 : Array Value := #[.int 5, .int 5, .int 5, .int 5, .int 5]
def aboutOver (below : List Frame) : State where
  vm := { classes := classes, interned := interned.toArray }
  heap := heap
  slotsUsed := slotsUsed
  threads := #[{ frames := .invoking theMethod args0 :: below }]
def below0 : List Frame := [.native { method := ⟨0, 0⟩, args := #[] }]
def about1 : State := aboutOver below0
def p0 : Program := .bare "" "" ""
def e0 : Env := launch0.env 0 0 0
theorem w_frames : about1.frames = Frame.invoking theMethod args0 :: below0 := rfl
set_option maxRecDepth 65536 in
theorem w_args : argsFit about1.vm theMethod args0 = true := by decide +kernel
set_option maxRecDepth 65536 in
theorem w_heap : heapFits about1 = true := by decide +kernel
set_option maxRecDepth 65536 in
theorem w_runnable : about1.curStatus? = some .runnable := by decide +kernel
set_option maxRecDepth 65536 in
theorem w_alone : about1.alone = true := by decide +kernel
set_option maxRecDepth 65536 in
theorem w_named : about1.methodNamed? x = some theMethod := by decide +kernel
set_option maxRecDepth 65536 in
theorem w_hears : about1.hears theMethod below0 = true := by decide +kernel
set_option maxRecDepth 65536 in
theorem w_ripe : about1.ripe theMethod args0 below0 = true := by decide +kernel
theorem w_running : about1.status = .running := rfl
set_option maxRecDepth 65536 in
theorem w_room : about1.hasRoom e0.platform room_1 = true :=
  launch0.hasRoom_least _ room_1 (by decide +kernel) (by decide +kernel) (by decide +kernel) (by decide +kernel) (by decide +kernel) (by decide +kernel)
theorem allAtoms_all (ts : List Jvm.Cond) (a : Array Jvm.Value) (st : Jvm.State) : (allAtoms ts).before a st = ts.all (fun c => c.before a st) := by
  induction ts with
  | nil => rfl
  | cons c t ih =>
    show (Jvm.Cond.and c (allAtoms t)).before a st = _
    rw [Jvm.Cond.before_and, ih, List.all_cons]
def words1 : List Jvm.Cond := Jvm.Cond.code x code maxLocals ret :: tables_1
/-- a 'code' word, met by the world's own term for the bytes: nothing is compared byte by byte -/
theorem code_word {y : MethodName} {bytes : ByteArray} {mx : Nat} {rt : Option FieldType} {a : Array Value} {s : State} {m : MethodId} {meth : Method} {c : Code} (h1 : s.methodNamed? y = some m) (h2 : s.vm.method? m = some meth) (h3 : meth.code = some c) (h4 : c.code = bytes)
    (h5 : (c.maxLocals == mx && c.exceptionTable.isEmpty && decide (c.maxStack ≤ mostOperands) && decide (meth.sig.returnType = rt) && !meth.locks && decide (parseMethodDescriptor y.desc = some meth.sig)) = true) : (Jvm.Cond.code y bytes mx rt).before a s = true := by
  simp only [Bool.and_eq_true, beq_iff_eq, Bool.not_eq_true', decide_eq_true_eq] at h5
  obtain ⟨⟨⟨⟨⟨g1, g2⟩, g3⟩, g4⟩, g5⟩, g6⟩ := h5
  simp [Cond.before, Cond.holds, Cond.value, h1, h2, h3, h4, g1, g2, g3, g4, g5, g6]
def isCode : Jvm.Cond → Bool
  | .code _ _ _ _ => true
  | _ => false
theorem all_split {L : List Jvm.Cond} {P : Jvm.Cond → Bool} (h1 : L.all (fun c => isCode c || P c) = true) (h2 : ∀ c ∈ L.filter isCode, P c = true) : L.all P = true := by
  refine List.all_eq_true.mpr fun c hc => ?_
  have h := List.all_eq_true.mp h1 c hc
  rcases Bool.eq_false_or_eq_true (isCode c) with hi | hi
  · exact h2 c (List.mem_filter.mpr ⟨hc, hi⟩)
  · simpa [hi] using h
set_option maxRecDepth 65536 in
theorem w_c0 : (Jvm.Cond.code x code maxLocals ret).before args0 about1 = true := code_word (m := ⟨1, 3⟩) (meth := k1m3) (c := k1c3) (by decide +kernel) rfl rfl rfl (by decide +kernel)
set_option maxRecDepth 65536 in
theorem w_c1 : (Jvm.Cond.code ({ cls := "com/example/stylewright/stylewright/xdm/TreeBuilderIsWhitespacePinLaw", name := "pick", desc := "(I)C" } : Jvm.MethodName) method_2_code (3 : Nat) (Option.some Jvm.ClassFile.FieldType.char)).before args0 about1 = true := code_word (m := ⟨1, 1⟩) (meth := k1m1) (c := k1c1) (by decide +kernel) rfl rfl rfl (by decide +kernel)
set_option maxRecDepth 65536 in
theorem w_c2 : (Jvm.Cond.code ({ cls := "java/lang/String", name := "<init>", desc := "([C)V" } : Jvm.MethodName) jdk_42_method_3_code (2 : Nat) (Option.none : Option Jvm.ClassFile.FieldType)).before args0 about1 = true := code_word (m := ⟨7, 1⟩) (meth := k7m1) (c := k7c1) (by decide +kernel) rfl rfl rfl (by decide +kernel)
set_option maxRecDepth 65536 in
theorem w_c3 : (Jvm.Cond.code ({ cls := "java/lang/String", name := "<init>", desc := "([CIILjava/lang/Void;)V" } : Jvm.MethodName) jdk_42_method_149_code (6 : Nat) (Option.none : Option Jvm.ClassFile.FieldType)).before args0 about1 = true := code_word (m := ⟨7, 4⟩) (meth := k7m4) (c := k7c4) (by decide +kernel) rfl rfl rfl (by decide +kernel)
set_option maxRecDepth 65536 in
theorem w_c4 : (Jvm.Cond.code ({ cls := "java/lang/Object", name := "<init>", desc := "()V" } : Jvm.MethodName) object_method_1_code (1 : Nat) (Option.none : Option Jvm.ClassFile.FieldType)).before args0 about1 = true := code_word (m := ⟨0, 0⟩) (meth := k0m0) (c := k0c0) (by decide +kernel) rfl rfl rfl (by decide +kernel)
set_option maxRecDepth 65536 in
theorem w_c5 : (Jvm.Cond.code ({ cls := "com/example/stylewright/stylewright/xdm/TreeBuilder", name := "isWhitespace", desc := "(Ljava/lang/CharSequence;)Z" } : Jvm.MethodName) prog_50_method_28_code (2 : Nat) (Option.some Jvm.ClassFile.FieldType.boolean)).before args0 about1 = true := code_word (m := ⟨8, 1⟩) (meth := k8m1) (c := k8c1) (by decide +kernel) rfl rfl rfl (by decide +kernel)
set_option maxRecDepth 65536 in
theorem w_c6 : (Jvm.Cond.code ({ cls := "java/lang/String", name := "length", desc := "()I" } : Jvm.MethodName) jdk_42_method_54_code (1 : Nat) (Option.some Jvm.ClassFile.FieldType.int)).before args0 about1 = true := code_word (m := ⟨7, 2⟩) (meth := k7m2) (c := k7c2) (by decide +kernel) rfl rfl rfl (by decide +kernel)
set_option maxRecDepth 65536 in
theorem w_c7 : (Jvm.Cond.code ({ cls := "java/lang/String", name := "coder", desc := "()B" } : Jvm.MethodName) jdk_42_method_152_code (1 : Nat) (Option.some Jvm.ClassFile.FieldType.byte)).before args0 about1 = true := code_word (m := ⟨7, 5⟩) (meth := k7m5) (c := k7c5) (by decide +kernel) rfl rfl rfl (by decide +kernel)
set_option maxRecDepth 65536 in
theorem w_c8 : (Jvm.Cond.code ({ cls := "java/lang/StringUTF16", name := "compress", desc := "([CII)[B" } : Jvm.MethodName) jdk_52_method_16_code (6 : Nat) (Option.some (Jvm.ClassFile.FieldType.array Jvm.ClassFile.FieldType.byte))).before args0 about1 = true := code_word (m := ⟨9, 8⟩) (meth := k9m8) (c := k9c8) (by decide +kernel) rfl rfl rfl (by decide +kernel)
set_option maxRecDepth 65536 in
theorem w_c9 : (Jvm.Cond.code ({ cls := "java/lang/StringUTF16", name := "compress", desc := "([CI[BII)I" } : Jvm.MethodName) jdk_52_method_21_code (7 : Nat) (Option.some Jvm.ClassFile.FieldType.int)).before args0 about1 = true := code_word (m := ⟨9, 9⟩) (meth := k9m9) (c := k9c9) (by decide +kernel) rfl rfl rfl (by decide +kernel)
set_option maxRecDepth 65536 in
theorem w_c10 : (Jvm.Cond.code ({ cls := "java/lang/StringUTF16", name := "coderFromArrayLen", desc := "([BI)B" } : Jvm.MethodName) jdk_52_method_15_code (2 : Nat) (Option.some Jvm.ClassFile.FieldType.byte)).before args0 about1 = true := code_word (m := ⟨9, 7⟩) (meth := k9m7) (c := k9c7) (by decide +kernel) rfl rfl rfl (by decide +kernel)
set_option maxRecDepth 65536 in
theorem w_c11 : (Jvm.Cond.code ({ cls := "com/example/stylewright/stylewright/xdm/TreeBuilderIsWhitespacePinLaw", name := "ws", desc := "(C)Z" } : Jvm.MethodName) method_3_code (1 : Nat) (Option.some Jvm.ClassFile.FieldType.boolean)).before args0 about1 = true := code_word (m := ⟨1, 2⟩) (meth := k1m2) (c := k1c2) (by decide +kernel) rfl rfl rfl (by decide +kernel)
set_option maxRecDepth 65536 in
theorem w_c12 : (Jvm.Cond.code ({ cls := "java/lang/String", name := "charAt", desc := "(I)C" } : Jvm.MethodName) jdk_42_method_56_code (2 : Nat) (Option.some Jvm.ClassFile.FieldType.char)).before args0 about1 = true := code_word (m := ⟨7, 3⟩) (meth := k7m3) (c := k7c3) (by decide +kernel) rfl rfl rfl (by decide +kernel)
set_option maxRecDepth 65536 in
theorem w_c13 : (Jvm.Cond.code ({ cls := "java/lang/String", name := "isLatin1", desc := "()Z" } : Jvm.MethodName) jdk_42_method_154_code (1 : Nat) (Option.some Jvm.ClassFile.FieldType.boolean)).before args0 about1 = true := code_word (m := ⟨7, 6⟩) (meth := k7m6) (c := k7c6) (by decide +kernel) rfl rfl rfl (by decide +kernel)
set_option maxRecDepth 65536 in
theorem w_c14 : (Jvm.Cond.code ({ cls := "java/lang/StringLatin1", name := "charAt", desc := "([BI)C" } : Jvm.MethodName) jdk_43_method_2_code (2 : Nat) (Option.some Jvm.ClassFile.FieldType.char)).before args0 about1 = true := code_word (m := ⟨10, 1⟩) (meth := k10m1) (c := k10c1) (by decide +kernel) rfl rfl rfl (by decide +kernel)
set_option maxRecDepth 65536 in
theorem w_c15 : (Jvm.Cond.code ({ cls := "java/lang/String", name := "checkIndex", desc := "(II)V" } : Jvm.MethodName) jdk_42_method_155_code (2 : Nat) (Option.none : Option Jvm.ClassFile.FieldType)).before args0 about1 = true := code_word (m := ⟨7, 7⟩) (meth := k7m7) (c := k7c7) (by decide +kernel) rfl rfl rfl (by decide +kernel)
set_option maxRecDepth 65536 in
theorem w_c16 : (Jvm.Cond.code ({ cls := "jdk/internal/util/Preconditions", name := "checkIndex", desc := "(IILjava/util/function/BiFunction;)I" } : Jvm.MethodName) jdk_41_method_11_code (3 : Nat) (Option.some Jvm.ClassFile.FieldType.int)).before args0 about1 = true := code_word (m := ⟨11, 1⟩) (meth := k11m1) (c := k11c1) (by decide +kernel) rfl rfl rfl (by decide +kernel)
set_option maxRecDepth 65536 in
theorem w_c17 : (Jvm.Cond.code ({ cls := "com/example/stylewright/stylewright/xdm/TreeBuilder", name := "isWhitespace", desc := "(C)Z" } : Jvm.MethodName) prog_50_method_29_code (1 : Nat) (Option.some Jvm.ClassFile.FieldType.boolean)).before args0 about1 = true := code_word (m := ⟨8, 2⟩) (meth := k8m2) (c := k8c2) (by decide +kernel) rfl rfl rfl (by decide +kernel)
set_option maxRecDepth 65536 in
theorem w_c18 : (Jvm.Cond.code ({ cls := "java/lang/StringUTF16", name := "toBytes", desc := "([CII)[B" } : Jvm.MethodName) jdk_52_method_14_code (5 : Nat) (Option.some (Jvm.ClassFile.FieldType.array Jvm.ClassFile.FieldType.byte))).before args0 about1 = true := code_word (m := ⟨9, 6⟩) (meth := k9m6) (c := k9c6) (by decide +kernel) rfl rfl rfl (by decide +kernel)
set_option maxRecDepth 65536 in
theorem w_c19 : (Jvm.Cond.code ({ cls := "java/lang/StringUTF16", name := "newBytesFor", desc := "(I)[B" } : Jvm.MethodName) jdk_52_method_2_code (1 : Nat) (Option.some (Jvm.ClassFile.FieldType.array Jvm.ClassFile.FieldType.byte))).before args0 about1 = true := code_word (m := ⟨9, 1⟩) (meth := k9m1) (c := k9c1) (by decide +kernel) rfl rfl rfl (by decide +kernel)
set_option maxRecDepth 65536 in
theorem w_c20 : (Jvm.Cond.code ({ cls := "java/lang/StringUTF16", name := "newBytesLength", desc := "(I)I" } : Jvm.MethodName) jdk_52_method_3_code (1 : Nat) (Option.some Jvm.ClassFile.FieldType.int)).before args0 about1 = true := code_word (m := ⟨9, 2⟩) (meth := k9m2) (c := k9c2) (by decide +kernel) rfl rfl rfl (by decide +kernel)
set_option maxRecDepth 65536 in
theorem w_c21 : (Jvm.Cond.code ({ cls := "java/lang/StringUTF16", name := "putChar", desc := "([BII)V" } : Jvm.MethodName) jdk_52_method_4_code (3 : Nat) (Option.none : Option Jvm.ClassFile.FieldType)).before args0 about1 = true := code_word (m := ⟨9, 3⟩) (meth := k9m3) (c := k9c3) (by decide +kernel) rfl rfl rfl (by decide +kernel)
set_option maxRecDepth 65536 in
theorem w_c22 : (Jvm.Cond.code ({ cls := "java/lang/StringUTF16", name := "getChar", desc := "([BI)C" } : Jvm.MethodName) jdk_52_method_5_code (2 : Nat) (Option.some Jvm.ClassFile.FieldType.char)).before args0 about1 = true := code_word (m := ⟨9, 4⟩) (meth := k9m4) (c := k9c4) (by decide +kernel) rfl rfl rfl (by decide +kernel)
set_option maxRecDepth 65536 in
theorem w_c23 : (Jvm.Cond.code ({ cls := "java/lang/StringUTF16", name := "charAt", desc := "([BI)C" } : Jvm.MethodName) jdk_52_method_83_code (2 : Nat) (Option.some Jvm.ClassFile.FieldType.char)).before args0 about1 = true := code_word (m := ⟨9, 10⟩) (meth := k9m10) (c := k9c10) (by decide +kernel) rfl rfl rfl (by decide +kernel)
set_option maxRecDepth 65536 in
theorem w_c24 : (Jvm.Cond.code ({ cls := "java/lang/StringUTF16", name := "checkIndex", desc := "(I[B)V" } : Jvm.MethodName) jdk_52_method_91_code (2 : Nat) (Option.none : Option Jvm.ClassFile.FieldType)).before args0 about1 = true := code_word (m := ⟨9, 11⟩) (meth := k9m11) (c := k9c11) (by decide +kernel) rfl rfl rfl (by decide +kernel)
set_option maxRecDepth 65536 in
theorem w_c25 : (Jvm.Cond.code ({ cls := "java/lang/StringUTF16", name := "length", desc := "([B)I" } : Jvm.MethodName) jdk_52_method_6_code (1 : Nat) (Option.some Jvm.ClassFile.FieldType.int)).before args0 about1 = true := code_word (m := ⟨9, 5⟩) (meth := k9m5) (c := k9c5) (by decide +kernel) rfl rfl rfl (by decide +kernel)
def codes1 : List Jvm.Cond := [Jvm.Cond.code x code maxLocals ret, Jvm.Cond.code ({ cls := "com/example/stylewright/stylewright/xdm/TreeBuilderIsWhitespacePinLaw", name := "pick", desc := "(I)C" } : Jvm.MethodName) method_2_code (3 : Nat) (Option.some Jvm.ClassFile.FieldType.char), Jvm.Cond.code ({ cls := "java/lang/String", name := "<init>", desc := "([C)V" } : Jvm.MethodName) jdk_42_method_3_code (2 : Nat) (Option.none : Option Jvm.ClassFile.FieldType), Jvm.Cond.code ({ cls := "java/lang/String", name := "<init>", desc := "([CIILjava/lang/Void;)V" } : Jvm.MethodName) jdk_42_method_149_code (6 : Nat) (Option.none : Option Jvm.ClassFile.FieldType), Jvm.Cond.code ({ cls := "java/lang/Object", name := "<init>", desc := "()V" } : Jvm.MethodName) object_method_1_code (1 : Nat) (Option.none : Option Jvm.ClassFile.FieldType), Jvm.Cond.code ({ cls := "com/example/stylewright/stylewright/xdm/TreeBuilder", name := "isWhitespace", desc := "(Ljava/lang/CharSequence;)Z" } : Jvm.MethodName) prog_50_method_28_code (2 : Nat) (Option.some Jvm.ClassFile.FieldType.boolean), Jvm.Cond.code ({ cls := "java/lang/String", name := "length", desc := "()I" } : Jvm.MethodName) jdk_42_method_54_code (1 : Nat) (Option.some Jvm.ClassFile.FieldType.int), Jvm.Cond.code ({ cls := "java/lang/String", name := "coder", desc := "()B" } : Jvm.MethodName) jdk_42_method_152_code (1 : Nat) (Option.some Jvm.ClassFile.FieldType.byte), Jvm.Cond.code ({ cls := "java/lang/StringUTF16", name := "compress", desc := "([CII)[B" } : Jvm.MethodName) jdk_52_method_16_code (6 : Nat) (Option.some (Jvm.ClassFile.FieldType.array Jvm.ClassFile.FieldType.byte)), Jvm.Cond.code ({ cls := "java/lang/StringUTF16", name := "compress", desc := "([CI[BII)I" } : Jvm.MethodName) jdk_52_method_21_code (7 : Nat) (Option.some Jvm.ClassFile.FieldType.int), Jvm.Cond.code ({ cls := "java/lang/StringUTF16", name := "coderFromArrayLen", desc := "([BI)B" } : Jvm.MethodName) jdk_52_method_15_code (2 : Nat) (Option.some Jvm.ClassFile.FieldType.byte), Jvm.Cond.code ({ cls := "com/example/stylewright/stylewright/xdm/TreeBuilderIsWhitespacePinLaw", name := "ws", desc := "(C)Z" } : Jvm.MethodName) method_3_code (1 : Nat) (Option.some Jvm.ClassFile.FieldType.boolean), Jvm.Cond.code ({ cls := "java/lang/String", name := "charAt", desc := "(I)C" } : Jvm.MethodName) jdk_42_method_56_code (2 : Nat) (Option.some Jvm.ClassFile.FieldType.char), Jvm.Cond.code ({ cls := "java/lang/String", name := "isLatin1", desc := "()Z" } : Jvm.MethodName) jdk_42_method_154_code (1 : Nat) (Option.some Jvm.ClassFile.FieldType.boolean), Jvm.Cond.code ({ cls := "java/lang/StringLatin1", name := "charAt", desc := "([BI)C" } : Jvm.MethodName) jdk_43_method_2_code (2 : Nat) (Option.some Jvm.ClassFile.FieldType.char), Jvm.Cond.code ({ cls := "java/lang/String", name := "checkIndex", desc := "(II)V" } : Jvm.MethodName) jdk_42_method_155_code (2 : Nat) (Option.none : Option Jvm.ClassFile.FieldType), Jvm.Cond.code ({ cls := "jdk/internal/util/Preconditions", name := "checkIndex", desc := "(IILjava/util/function/BiFunction;)I" } : Jvm.MethodName) jdk_41_method_11_code (3 : Nat) (Option.some Jvm.ClassFile.FieldType.int), Jvm.Cond.code ({ cls := "com/example/stylewright/stylewright/xdm/TreeBuilder", name := "isWhitespace", desc := "(C)Z" } : Jvm.MethodName) prog_50_method_29_code (1 : Nat) (Option.some Jvm.ClassFile.FieldType.boolean), Jvm.Cond.code ({ cls := "java/lang/StringUTF16", name := "toBytes", desc := "([CII)[B" } : Jvm.MethodName) jdk_52_method_14_code (5 : Nat) (Option.some (Jvm.ClassFile.FieldType.array Jvm.ClassFile.FieldType.byte)), Jvm.Cond.code ({ cls := "java/lang/StringUTF16", name := "newBytesFor", desc := "(I)[B" } : Jvm.MethodName) jdk_52_method_2_code (1 : Nat) (Option.some (Jvm.ClassFile.FieldType.array Jvm.ClassFile.FieldType.byte)), Jvm.Cond.code ({ cls := "java/lang/StringUTF16", name := "newBytesLength", desc := "(I)I" } : Jvm.MethodName) jdk_52_method_3_code (1 : Nat) (Option.some Jvm.ClassFile.FieldType.int), Jvm.Cond.code ({ cls := "java/lang/StringUTF16", name := "putChar", desc := "([BII)V" } : Jvm.MethodName) jdk_52_method_4_code (3 : Nat) (Option.none : Option Jvm.ClassFile.FieldType), Jvm.Cond.code ({ cls := "java/lang/StringUTF16", name := "getChar", desc := "([BI)C" } : Jvm.MethodName) jdk_52_method_5_code (2 : Nat) (Option.some Jvm.ClassFile.FieldType.char), Jvm.Cond.code ({ cls := "java/lang/StringUTF16", name := "charAt", desc := "([BI)C" } : Jvm.MethodName) jdk_52_method_83_code (2 : Nat) (Option.some Jvm.ClassFile.FieldType.char), Jvm.Cond.code ({ cls := "java/lang/StringUTF16", name := "checkIndex", desc := "(I[B)V" } : Jvm.MethodName) jdk_52_method_91_code (2 : Nat) (Option.none : Option Jvm.ClassFile.FieldType), Jvm.Cond.code ({ cls := "java/lang/StringUTF16", name := "length", desc := "([B)I" } : Jvm.MethodName) jdk_52_method_6_code (1 : Nat) (Option.some Jvm.ClassFile.FieldType.int)]
set_option maxRecDepth 65536 in
theorem codes_eq : words1.filter isCode = codes1 := rfl
theorem w_codes : ∀ c ∈ words1.filter isCode, c.before args0 about1 = true := by
  rw [codes_eq]
  intro c hc
  simp only [codes1, List.mem_cons, List.not_mem_nil, or_false] at hc
  rcases hc with rfl | rfl | rfl | rfl | rfl | rfl | rfl | rfl | rfl | rfl | rfl | rfl | rfl | rfl | rfl | rfl | rfl | rfl | rfl | rfl | rfl | rfl | rfl | rfl | rfl | rfl
  · exact w_c0
  · exact w_c1
  · exact w_c2
  · exact w_c3
  · exact w_c4
  · exact w_c5
  · exact w_c6
  · exact w_c7
  · exact w_c8
  · exact w_c9
  · exact w_c10
  · exact w_c11
  · exact w_c12
  · exact w_c13
  · exact w_c14
  · exact w_c15
  · exact w_c16
  · exact w_c17
  · exact w_c18
  · exact w_c19
  · exact w_c20
  · exact w_c21
  · exact w_c22
  · exact w_c23
  · exact w_c24
  · exact w_c25
set_option maxRecDepth 65536 in
theorem w_t1 : (words1.take 24).all (fun c => isCode c || c.before args0 about1) = true := by decide +kernel
set_option maxRecDepth 65536 in
theorem w_t2 : ((words1.drop 24).take 24).all (fun c => isCode c || c.before args0 about1) = true := by decide +kernel
set_option maxRecDepth 65536 in
theorem w_t3 : (((words1.drop 24).drop 24).take 24).all (fun c => isCode c || c.before args0 about1) = true := by decide +kernel
set_option maxRecDepth 65536 in
theorem w_t4 : ((((words1.drop 24).drop 24).drop 24).take 24).all (fun c => isCode c || c.before args0 about1) = true := by decide +kernel
set_option maxRecDepth 65536 in
theorem w_t5 : ((((words1.drop 24).drop 24).drop 24).drop 24).all (fun c => isCode c || c.before args0 about1) = true := by decide +kernel
theorem w_tables : (allAtoms (Jvm.Cond.code x code maxLocals ret :: tables_1)).before args0 about1 = true := by
  rw [allAtoms_all]
  show words1.all (fun c => c.before args0 about1) = true
  refine all_split ?_ w_codes
  rw [← List.take_append_drop 24 words1, List.all_append, w_t1, ← List.take_append_drop 24 (words1.drop 24), List.all_append, w_t2, ← List.take_append_drop 24 ((words1.drop 24).drop 24), List.all_append, w_t3, ← List.take_append_drop 24 (((words1.drop 24).drop 24).drop 24), List.all_append, w_t4, w_t5]
  rfl
set_option maxRecDepth 65536 in
theorem w_rest : rest_1_c.before args0 about1 = true := by decide +kernel
set_option maxRecDepth 65536 in
theorem w_case : (Jvm.Cond.and given_1 narrow_1).before args0 about1 = true := by decide +kernel
set_option maxRecDepth 65536 in
theorem w_consts : constsHeld consts_1 about1 := Jvm.Lit.constsHeldB_iff.mp (by decide +kernel)
theorem w_applies : (headSpec (Jvm.Cond.code x code maxLocals ret :: tables_1) room_1).applies x e0.platform about1 = true :=
  (Spec.applies_iff w_frames).mpr ⟨w_running, w_runnable, w_alone, w_named, w_hears, w_ripe, w_room, w_tables⟩
theorem atStart : AtStart classFile x code maxLocals ret World_1 tables_1 room_1 Calls_1 rest_1 Pre_1 launch0 p0 e0 about1 theMethod args0 below0 :=
  ⟨lists_1, trivial, launch0.admits_env _ _ _, launch0.least_env, fairChoices_fair.cas, fairChoices_fair.clock, w_frames, w_args, w_heap, w_applies, ⟨w_consts, trivial⟩, w_rest, w_case⟩
end start1
theorem witness_1 : WitnessClaimed_1 := ⟨start1.p0, start1.e0, start1.about1, start1.theMethod, start1.args0, start1.below0, start1.atStart⟩
end Jvm.Pilot.@@N@@
