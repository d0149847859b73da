import JvmDerived
import JvmDerived.Pilot.@@N@@Statement
import JvmDerived.Pilot.@@N@@Code
set_option linter.unusedVariables false
set_option linter.unusedSimpArgs false
namespace Jvm.Pilot.@@N@@
open Jvm Jvm.ClassFile Sem Op Lib Jvm.Free Jvm.Stand Jvm.LawKit Jvm.RoadKit Bundle Jvm.Pilot.@@N@@.Jvm.D
/-! a thin layer of one form a step, over the library's road laws -/
def MetN (l : Launch) (Z : State) (y : MethodName) (bytes : ByteArray) (maxL : Nat) (ret : Option FieldType) (rm : Room) (ws : List Jvm.Cond) (as' : Array Value) (h : Heap) (Q : Option Value → Heap → List Loc → Prop) : Prop :=
  MetFree l y (head1 (Jvm.Cond.code y bytes maxL ret :: ws) rm) (fun a U => a = as' ∧ Z.Warmed39 U.vm ∧ U.heap = h) (fun _ _ _ _ _ => True) (fun _ U o U' => ∃ v L, o = .returned v ∧ Q v U'.heap L ∧ FrameEnd U o U' L rm.cells rm.slots)
def Win (p : Program) (e : Env) (below : List Frame) (s : State) (rm : Room) (Q : Option Value → Heap → List Loc → Prop) (st : State) : Prop :=
  ∃ s₂ o, Steps p.tables e below st s₂ ∧ s₂.status = .running ∧ Ended s₂ below o ∧ ∃ v L, o = .returned v ∧ Q v s₂.heap L ∧ FrameEnd s o s₂ L rm.cells rm.slots
section Own
variable {p : Program} {l : Launch} {e : Env} {R rm : Room} {s : State} {m : MethodId} {args : Array Value} {below : List Frame} {meth : Method} {c : Code} {T : State} {locs : List Loc} {cells slots : Nat} {Z : State} {a0 : Array Value} {h : Heap} {Q : Option Value → Heap → List Loc → Prop}
theorem Win.to {A : State} (T : State) (g : JFrame) (k : ∀ t, Steps p.tables e below (T.setTop g) t → Steps p.tables e below A t) (w : Win p e below s rm Q (T.setTop g)) : Win p e below s rm Q A := by
  obtain ⟨s₂, o, h1, r⟩ := w
  exact ⟨s₂, o, k _ h1, r⟩
theorem Win.out (X : Stand p l e R s m args below meth c T locs cells slots) {A : State} {v : Option Value} (hlk : meth.locks = false) (hv : meth.sig.returnType = none → v = none)
    (hst : ∀ fs, (∀ (f : JFrame) (acts : List Action), f.method = m → f.locked = none → f.entered = [] → (doReturn e (T.setTop f) acts v).1 = T.setFrames fs) → Steps p.tables e below A (T.setFrames fs))
    (hc : cells ≤ rm.cells) (hs : slots ≤ rm.slots) (hq : Q v T.heap locs) : Win p e below s rm Q A := by
  obtain ⟨fs, hr, hrun, hended, hW, hsame⟩ := X.leave (v := v) hv
  exact ⟨_, _, hst fs hr, hrun, hended, _, _, rfl, hq, ⟨_, rfl⟩, hW, hsame.mono hc hs⟩
theorem Win.retN (X : Stand p l e R s m args below meth c T locs cells slots) (hx : p.tables.exec = Jvm.exec) (hlk : meth.locks = false) {pc : Nat} {Ls : Array Slot} {z z' : Int32} {t : FieldType} {rest : List Value} (hret : meth.sig.returnType = some t) (ht : t = .boolean ∨ t = .byte ∨ t = .char ∨ t = .short) (hz : nar t z = z')
    (hd : decode c.code pc = .ok (.ireturn, 1)) (hc : cells ≤ rm.cells) (hs : slots ≤ rm.slots) (hq : Q (some (.int z')) T.heap locs) : Win p e below s rm Q (T.setTop (mkF m pc Ls (.int z :: rest))) := by
  subst hz
  exact Win.out X (v := some (.int (nar t z))) hlk (fun q => by rw [hret] at q; cases q) (fun fs hr => Jvm.RoadKit.retN X hx (t := t) hret ht hd hr) hc hs hq
theorem Win.retI (X : Stand p l e R s m args below meth c T locs cells slots) (hx : p.tables.exec = Jvm.exec) (hlk : meth.locks = false) {pc : Nat} {Ls : Array Slot} {z : Int32} {rest : List Value} (hret : meth.sig.returnType = some .int)
    (hd : decode c.code pc = .ok (.ireturn, 1)) (hc : cells ≤ rm.cells) (hs : slots ≤ rm.slots) (hq : Q (some (.int z)) T.heap locs) : Win p e below s rm Q (T.setTop (mkF m pc Ls (.int z :: rest))) :=
  Win.out X (v := some (.int z)) hlk (fun q => by rw [hret] at q; cases q) (fun fs hr => retOut X hx hret rfl (Or.inl ⟨rfl, Or.inl rfl, z, rfl⟩) hd hr) hc hs hq
theorem Win.retJ (X : Stand p l e R s m args below meth c T locs cells slots) (hx : p.tables.exec = Jvm.exec) (hlk : meth.locks = false) {pc : Nat} {Ls : Array Slot} {z : Int64} {rest : List Value} (hret : meth.sig.returnType = some .long)
    (hd : decode c.code pc = .ok (.lreturn, 1)) (hc : cells ≤ rm.cells) (hs : slots ≤ rm.slots) (hq : Q (some (.long z)) T.heap locs) : Win p e below s rm Q (T.setTop (mkF m pc Ls (.long z :: rest))) :=
  Win.out X (v := some (.long z)) hlk (fun q => by rw [hret] at q; cases q) (fun fs hr => retOut X hx hret rfl (Or.inr (Or.inl ⟨rfl, rfl, z, rfl⟩)) hd hr) hc hs hq
theorem Win.retD (X : Stand p l e R s m args below meth c T locs cells slots) (hx : p.tables.exec = Jvm.exec) (hlk : meth.locks = false) {pc : Nat} {Ls : Array Slot} {z : UInt64} {rest : List Value} (hret : meth.sig.returnType = some .double)
    (hd : decode c.code pc = .ok (.dreturn, 1)) (hc : cells ≤ rm.cells) (hs : slots ≤ rm.slots) (hq : Q (some (.double z)) T.heap locs) : Win p e below s rm Q (T.setTop (mkF m pc Ls (.double z :: rest))) :=
  Win.out X (v := some (.double z)) hlk (fun q => by rw [hret] at q; cases q) (fun fs hr => retOut X hx hret rfl (Or.inr (Or.inr (Or.inl ⟨rfl, rfl, z, rfl⟩))) hd hr) hc hs hq
theorem Win.retA (X : Stand p l e R s m args below meth c T locs cells slots) (hx : p.tables.exec = Jvm.exec) (hlk : meth.locks = false) {pc : Nat} {Ls : Array Slot} {w : Value} {t : FieldType} {rest : List Value} (hret : meth.sig.returnType = some t) (ht : t.isReference = true) (hw : w.isRef = true)
    (hd : decode c.code pc = .ok (.areturn, 1)) (hc : cells ≤ rm.cells) (hs : slots ≤ rm.slots) (hq : Q (some w) T.heap locs) : Win p e below s rm Q (T.setTop (mkF m pc Ls (w :: rest))) :=
  Win.out X (v := some w) hlk (fun q => by rw [hret] at q; cases q) (fun fs hr => retOut X hx hret (by rcases ref_cases hw with rfl | ⟨_, rfl⟩ <;> cases t <;> first | rfl | cases ht) (Or.inr (Or.inr (Or.inr (Or.inr ⟨rfl, ht, hw⟩)))) hd hr) hc hs hq
theorem Win.retV (X : Stand p l e R s m args below meth c T locs cells slots) (hx : p.tables.exec = Jvm.exec) (hlk : meth.locks = false) {pc : Nat} {Ls : Array Slot} (hret : meth.sig.returnType = none)
    (hd : decode c.code pc = .ok (.return_, 1)) (hc : cells ≤ rm.cells) (hs : slots ≤ rm.slots) (hq : Q none T.heap locs) : Win p e below s rm Q (T.setTop (mkF m pc Ls [])) :=
  Win.out X (v := none) hlk (fun _ => rfl) (fun fs hr => X.returnOut hx hret hd hr) hc hs hq
theorem MetN.walk {y : MethodName} {bytes : ByteArray} {maxL : Nat} {ret : Option FieldType} {ws : List Jvm.Cond} {as' : Array Value} (hp : plainFor y = true)
    (b : ∀ (p : Program) (e : Env) (s : State) (m : MethodId) (below : List Frame) (meth : Method) (c : Code) (s₁ : State), p.tables.exec = Jvm.exec → Z.Warmed39 s.vm → c.code = bytes → c.maxLocals = maxL → s.vm.findClass y.cls = some m.cls → meth.name = y.name → meth.sig.returnType = ret → meth.locks = false →
      Stand p l e rm s m as' below meth c s₁ [] 0 0 → s₁.heap = h → Win p e below s rm Q (s₁.setTop (entryFrame m as' maxL))) : MetN l Z y bytes maxL ret rm ws as' h Q := by
  refine MetFree.of_bodySF hp hisR ?_
  intro p e s m args below meth c s₁ Bd hml0 hP hK
  obtain ⟨rfl, hZ, hh⟩ := hP
  exact b p e s m below meth c s₁ Bd.exec hZ Bd.bytes hml0 (findClass_of_methodNamed Bd.named) (name_of_methodNamed Bd.named Bd.method).1 Bd.returns Bd.notSynchronized (Stand.of_body Bd) (by rw [← hh, Bd.state]; rfl)
theorem N.static (X : Stand p l e R s m args below meth c T locs cells slots) (hx : p.tables.exec = Jvm.exec) (hZ : Z.Warmed39 s.vm) {own : String} {index : Nat} {y : MethodName} {bytes : ByteArray} {maxL : Nat} {ret : Option FieldType} {as' : Array Value}
    (hown : s.vm.findClass own = some m.cls) (w1 : (Jvm.Cond.methodLink own index y).before a0 Z = true) (w2 : (Jvm.Cond.static y).before a0 Z = true) (w3 : (Jvm.Cond.initialized y.cls).before a0 Z = true) (w4 : (Jvm.Cond.code y bytes maxL ret).before a0 Z = true)
    (hy : y.cls ≠ "java/lang/invoke/MethodHandle" ∧ y.cls ≠ "java/lang/invoke/VarHandle") (M : MetN l Z y bytes maxL ret rm [] as' h Q) (eT : T.heap = h) {g : JFrame} (hg : g.method = m) (hsize : g.locals.size = c.maxLocals) {argsL rest : List Value} (has : argsL.toArray = as')
    (hlen : ∀ sig, parseMethodDescriptor y.desc = some sig → argsL.length = sig.parameters.length) (hstack : g.stack = argsL.reverse ++ rest) {W : Nat} (hW : 2 * g.monitorRoom + (rest.map fun v => v.category).sum ≤ W) (hd : decode c.code g.pc = .ok (.invokestatic index, 3))
    (hf : rm.frames + 1 ≤ R.frames) (hl : W + (maxL + 11) + rm.locals ≤ R.locals) (hc : cells + rm.cells ≤ R.cells) (hs : slots + rm.slots ≤ R.slots) :
    ∃ (T' : State) (h' : Heap) (v : Option Value) (L : List Loc), Stand p l e R s m args below meth c T' (locs ++ L) (cells + rm.cells) (slots + rm.slots) ∧ T'.heap = h' ∧ Q v h' L ∧ ∀ t, Steps p.tables e below (T'.setTop { g with pc := g.pc + 3, stack := v.toList ++ rest }) t → Steps p.tables e below (T.setTop g) t := by
  obtain ⟨v, _, ⟨T', L', k', n'⟩, -, X', ⟨Lc, hQ, l', y', z'⟩, st⟩ := Jvm.LawKit.callS X hx hown (mvT hZ w1) (mvT hZ w2) (mvT hZ w3) (mvT hZ w4) hy (backOf (W := W) M hZ w4 w3 hf hl) hg hsize hlen hstack hW hd (fun _ _ => ⟨has, eT, hc, hs⟩)
  dsimp only [Pt.U, Pt.locs, Pt.cells, Pt.slots] at X' l' y' z' st hQ
  subst l' y' z'
  exact ⟨T', _, v, Lc, X', rfl, hQ, st⟩
theorem N.special (X : Stand p l e R s m args below meth c T locs cells slots) (hx : p.tables.exec = Jvm.exec) (hZ : Z.Warmed39 s.vm) {own : String} {index : Nat} {y : MethodName} {bytes : ByteArray} {maxL : Nat} {as' : Array Value} (hy1 : y.name = "<init>")
    (hown : s.vm.findClass own = some m.cls) (w1 : (Jvm.Cond.methodLink own index y).before a0 Z = true) (w2 : (Jvm.Cond.instanceMethod y).before a0 Z = true) (w3 : (Jvm.Cond.initialized y.cls).before a0 Z = true) (w4 : (Jvm.Cond.code y bytes maxL none).before a0 Z = true)
    (hy : y.cls ≠ "java/lang/invoke/MethodHandle" ∧ y.cls ≠ "java/lang/invoke/VarHandle") (M : MetN l Z y bytes maxL none rm [] as' h Q) (eT : T.heap = h) {g : JFrame} (hg : g.method = m) (hsize : g.locals.size = c.maxLocals) {a : Addr} {argsL rest : List Value} (has : (Value.ref a :: argsL).toArray = as')
    (hlen : ∀ sig, parseMethodDescriptor y.desc = some sig → argsL.length = sig.parameters.length) (hstack : g.stack = argsL.reverse ++ .ref a :: rest) {W : Nat} (hW : 2 * g.monitorRoom + (rest.map fun v => v.category).sum ≤ W) (hd : decode c.code g.pc = .ok (.invokespecial index, 3))
    (hf : rm.frames + 1 ≤ R.frames) (hl : W + (maxL + 11) + rm.locals ≤ R.locals) (hc : cells + rm.cells ≤ R.cells) (hs : slots + rm.slots ≤ R.slots) :
    ∃ (T' : State) (h' : Heap) (v : Option Value) (L : List Loc), Stand p l e R s m args below meth c T' (locs ++ L) (cells + rm.cells) (slots + rm.slots) ∧ T'.heap = h' ∧ Q v h' L ∧ ∀ t, Steps p.tables e below (T'.setTop { g with pc := g.pc + 3, stack := v.toList ++ rest }) t → Steps p.tables e below (T.setTop g) t := by
  obtain ⟨v, _, ⟨T', L', k', n'⟩, -, X', ⟨Lc, hQ, l', y', z'⟩, st⟩ := X.specialBack hx hy1 hown (mvT hZ w1) (mvT hZ w2) (mvT hZ w4) hy (backOf (W := W) M hZ w4 w3 hf hl) hg hsize (Steps.refl _) (a := a) hlen hstack hW hd (fun _ _ => ⟨has, eT, hc, hs⟩)
  dsimp only [Pt.U, Pt.locs, Pt.cells, Pt.slots] at X' l' y' z' st hQ
  subst l' y' z'
  exact ⟨T', _, v, Lc, X', rfl, hQ, fun t k => st.trans k⟩
theorem N.virtual (X : Stand p l e R s m args below meth c T locs cells slots) (hx : p.tables.exec = Jvm.exec) (hZ : Z.Warmed39 s.vm) {own C : String} {index : Nat} {y z : MethodName} {bytes : ByteArray} {maxL : Nat} {ret : Option FieldType} {as' : Array Value}
    (hown : s.vm.findClass own = some m.cls) (w1 : (Jvm.Cond.methodLink own index y).before a0 Z = true) (w5 : (Jvm.Cond.declares y).before a0 Z = true) (nf : NotFace s y) (w6 : (Jvm.Cond.selects C y z).before a0 Z = true) (w2 : (Jvm.Cond.instanceMethod z).before a0 Z = true) (w3 : (Jvm.Cond.initialized z.cls).before a0 Z = true) (w4 : (Jvm.Cond.code z bytes maxL ret).before a0 Z = true)
    (hy : y.cls ≠ "java/lang/invoke/MethodHandle" ∧ y.cls ≠ "java/lang/invoke/VarHandle") (M : MetN l Z z bytes maxL ret rm [] as' h Q) (eT : T.heap = h) {a : Addr} (E : Exa Z h a C) {g : JFrame} (hg : g.method = m) (hsize : g.locals.size = c.maxLocals) {argsL rest : List Value} (has : (Value.ref a :: argsL).toArray = as')
    (hlen : ∀ sig, parseMethodDescriptor y.desc = some sig → argsL.length = sig.parameters.length) (hstack : g.stack = argsL.reverse ++ .ref a :: rest) {W : Nat} (hW : 2 * g.monitorRoom + (rest.map fun v => v.category).sum ≤ W) (hd : decode c.code g.pc = .ok (.invokevirtual index, 3))
    (hf : rm.frames + 1 ≤ R.frames) (hl : W + (maxL + 11) + rm.locals ≤ R.locals) (hc : cells + rm.cells ≤ R.cells) (hs : slots + rm.slots ≤ R.slots) :
    ∃ (T' : State) (h' : Heap) (v : Option Value) (L : List Loc), Stand p l e R s m args below meth c T' (locs ++ L) (cells + rm.cells) (slots + rm.slots) ∧ T'.heap = h' ∧ Q v h' L ∧ ∀ t, Steps p.tables e below (T'.setTop { g with pc := g.pc + 3, stack := v.toList ++ rest }) t → Steps p.tables e below (T.setTop g) t := by
  obtain ⟨cq, kq, qa, qb, qc⟩ := isOf hZ eT E
  obtain ⟨v, _, ⟨T', L', k', n'⟩, -, X', ⟨Lc, hQ, l', y', z'⟩, st⟩ := X.virtualBack hx (y := y) (z := z) hown (mvT hZ w1) (mvT hZ w5) nf (mvT hZ w6) (mvT hZ w2) hy (backOf (W := W) M hZ w4 w3 hf hl) qa qc hg hsize (Steps.refl _) (argsL := argsL) hlen hstack hW hd (fun _ _ => ⟨has, eT, hc, hs⟩)
  dsimp only [Pt.U, Pt.locs, Pt.cells, Pt.slots] at X' l' y' z' st hQ
  subst l' y' z'
  exact ⟨T', _, v, Lc, X', rfl, hQ, fun t k => st.trans k⟩
theorem own_eqi {a b : Int32} (q : a = b) : (some (Value.int b) : Option Value) = some (Value.int a) := by rw [q]
theorem own_le {n0 : Nat} (X : Old Z n0 h) : n0 ≤ h.size := X.1 ▸ X.2.1
end Own
/-! the same layer for walks that may load String constants -/
def MetW (l : Launch) (Z : State) (y : MethodName) (bytes : ByteArray) (maxL : Nat) (ret : Option FieldType) (rm : Room) (ws : List Jvm.Cond) (as' : Array Value) (h : Heap) (EL : List (String × Nat)) (Q : Option Value → Heap → List Loc → Prop) : Prop :=
  MetFree l y (head1 (Jvm.Cond.code y bytes maxL ret :: ws) rm) (fun a U => a = as' ∧ Z.Warmed39 U.vm ∧ U.heap = h ∧ CHv Z EL U.vm h) (fun _ _ _ _ _ => True) (fun _ U o U' => ∃ v L, o = .returned v ∧ Q v U'.heap L ∧ CHr Z EL U.vm U.heap U'.vm U'.heap ∧ ReturnedEndW U o U' L rm.cells rm.slots)
def WinW (p : Program) (e : Env) (below : List Frame) (s : State) (rm : Room) (Z : State) (EL : List (String × Nat)) (Q : Option Value → Heap → List Loc → Prop) (st : State) : Prop :=
  ∃ s₂ o, Steps p.tables e below st s₂ ∧ s₂.status = .running ∧ Ended s₂ below o ∧ ∃ v L, o = .returned v ∧ Q v s₂.heap L ∧ CHr Z EL s.vm s.heap s₂.vm s₂.heap ∧ ReturnedEndW s o s₂ L rm.cells rm.slots
section OwnW
variable {p : Program} {l : Launch} {e : Env} {R rm : Room} {s : State} {m : MethodId} {args : Array Value} {below : List Frame} {meth : Method} {c : Code} {T : State} {locs : List Loc} {cells slots : Nat} {Z : State} {a0 : Array Value} {h : Heap} {Q : Option Value → Heap → List Loc → Prop} {EL : List (String × Nat)} {vm0 : Vm}
theorem WinW.to {A : State} (T : State) (g : JFrame) (k : ∀ t, Steps p.tables e below (T.setTop g) t → Steps p.tables e below A t) (w : WinW p e below s rm Z EL Q (T.setTop g)) : WinW p e below s rm Z EL Q A := by
  obtain ⟨s₂, o, h1, r⟩ := w
  exact ⟨s₂, o, k _ h1, r⟩
theorem WinW.out (X : Stand p l e R (s.setVm vm0) m args below meth c T locs cells slots) {n : Nat} (hS : s.Since vm0 n) (hn : n ≤ T.heap.size) {A : State} {v : Option Value} (hlk : meth.locks = false) (hv : meth.sig.returnType = none → v = none)
    (hst : ∀ fs, (∀ (f : JFrame) (acts : List Action), f.method = m → f.locked = none → f.entered = [] → (doReturn e (T.setTop f) acts v).1 = T.setFrames fs) → Steps p.tables e below A (T.setFrames fs))
    (hZ : Z.Warmed39 (s.setVm vm0).vm) (hE : EW Z a0 EL) (hC : CHr Z EL s.vm s.heap vm0 T.heap) (hc : cells ≤ rm.cells) (hs : slots ≤ rm.slots) (hq : Q v T.heap locs) : WinW p e below s rm Z EL Q A := by
  obtain ⟨fs, hr, hrun, hended, h1, h2, h3, h4⟩ := X.leaveW hS hn (v := v) hv
  exact ⟨_, _, hst fs hr, hrun, hended, _, _, rfl, hq, (show CHr Z EL s.vm s.heap T.vm T.heap from hC.trans (CHv.at X hZ hE hC.1)), h1, h2, h3, h4.mono hc hs⟩
theorem WinW.retN (X : Stand p l e R (s.setVm vm0) m args below meth c T locs cells slots) {n : Nat} (hS : s.Since vm0 n) (hn : n ≤ T.heap.size) (hx : p.tables.exec = Jvm.exec) (hlk : meth.locks = false) {pc : Nat} {Ls : Array Slot} {z z' : Int32} {t : FieldType} {rest : List Value} (hret : meth.sig.returnType = some t) (ht : t = .boolean ∨ t = .byte ∨ t = .char ∨ t = .short) (hz : nar t z = z')
    (hd : decode c.code pc = .ok (.ireturn, 1)) (hZ : Z.Warmed39 (s.setVm vm0).vm) (hE : EW Z a0 EL) (hC : CHr Z EL s.vm s.heap vm0 T.heap) (hc : cells ≤ rm.cells) (hs : slots ≤ rm.slots) (hq : Q (some (.int z')) T.heap locs) : WinW p e below s rm Z EL Q (T.setTop (mkF m pc Ls (.int z :: rest))) := by
  subst hz
  exact WinW.out X hS hn (v := some (.int (nar t z))) hlk (fun q => by rw [hret] at q; cases q) (fun fs hr => Jvm.RoadKit.retN X hx (t := t) hret ht hd hr) hZ hE hC hc hs hq
theorem WinW.retI (X : Stand p l e R (s.setVm vm0) m args below meth c T locs cells slots) {n : Nat} (hS : s.Since vm0 n) (hn : n ≤ T.heap.size) (hx : p.tables.exec = Jvm.exec) (hlk : meth.locks = false) {pc : Nat} {Ls : Array Slot} {z : Int32} {rest : List Value} (hret : meth.sig.returnType = some .int)
    (hd : decode c.code pc = .ok (.ireturn, 1)) (hZ : Z.Warmed39 (s.setVm vm0).vm) (hE : EW Z a0 EL) (hC : CHr Z EL s.vm s.heap vm0 T.heap) (hc : cells ≤ rm.cells) (hs : slots ≤ rm.slots) (hq : Q (some (.int z)) T.heap locs) : WinW p e below s rm Z EL Q (T.setTop (mkF m pc Ls (.int z :: rest))) :=
  WinW.out X hS hn (v := some (.int z)) hlk (fun q => by rw [hret] at q; cases q) (fun fs hr => retOut X hx hret rfl (Or.inl ⟨rfl, Or.inl rfl, z, rfl⟩) hd hr) hZ hE hC hc hs hq
theorem WinW.retA (X : Stand p l e R (s.setVm vm0) m args below meth c T locs cells slots) {n : Nat} (hS : s.Since vm0 n) (hn : n ≤ T.heap.size) (hx : p.tables.exec = Jvm.exec) (hlk : meth.locks = false) {pc : Nat} {Ls : Array Slot} {w : Value} {t : FieldType} {rest : List Value} (hret : meth.sig.returnType = some t) (ht : t.isReference = true) (hw : w.isRef = true)
    (hd : decode c.code pc = .ok (.areturn, 1)) (hZ : Z.Warmed39 (s.setVm vm0).vm) (hE : EW Z a0 EL) (hC : CHr Z EL s.vm s.heap vm0 T.heap) (hc : cells ≤ rm.cells) (hs : slots ≤ rm.slots) (hq : Q (some w) T.heap locs) : WinW p e below s rm Z EL Q (T.setTop (mkF m pc Ls (w :: rest))) :=
  WinW.out X hS hn (v := some w) hlk (fun q => by rw [hret] at q; cases q) (fun fs hr => retOut X hx hret (by rcases ref_cases hw with rfl | ⟨_, rfl⟩ <;> cases t <;> first | rfl | cases ht) (Or.inr (Or.inr (Or.inr (Or.inr ⟨rfl, ht, hw⟩)))) hd hr) hZ hE hC hc hs hq
theorem WinW.retV (X : Stand p l e R (s.setVm vm0) m args below meth c T locs cells slots) {n : Nat} (hS : s.Since vm0 n) (hn : n ≤ T.heap.size) (hx : p.tables.exec = Jvm.exec) (hlk : meth.locks = false) {pc : Nat} {Ls : Array Slot} (hret : meth.sig.returnType = none)
    (hd : decode c.code pc = .ok (.return_, 1)) (hZ : Z.Warmed39 (s.setVm vm0).vm) (hE : EW Z a0 EL) (hC : CHr Z EL s.vm s.heap vm0 T.heap) (hc : cells ≤ rm.cells) (hs : slots ≤ rm.slots) (hq : Q none T.heap locs) : WinW p e below s rm Z EL Q (T.setTop (mkF m pc Ls [])) :=
  WinW.out X hS hn (v := none) hlk (fun _ => rfl) (fun fs hr => X.returnOut hx hret hd hr) hZ hE hC hc hs hq
theorem MetW.walk {y : MethodName} {bytes : ByteArray} {maxL : Nat} {ret : Option FieldType} {ws : List Jvm.Cond} {as' : Array Value} (hp : plainFor y = true)
    (b : ∀ (p : Program) (e : Env) (s : State) (m : MethodId) (below : List Frame) (meth : Method) (c : Code) (s₁ : State), p.tables.exec = Jvm.exec → Z.Warmed39 (s.setVm s.vm).vm → c.code = bytes → c.maxLocals = maxL → (s.setVm s.vm).vm.findClass y.cls = some m.cls → meth.name = y.name → meth.sig.returnType = ret → meth.locks = false → CHr Z EL s.vm s.heap s.vm h → s.Since s.vm 0 →
      Stand p l e rm (s.setVm s.vm) m as' below meth c s₁ [] 0 0 → s₁.heap = h → WinW p e below s rm Z EL Q (s₁.setTop (entryFrame m as' maxL))) : MetW l Z y bytes maxL ret rm ws as' h EL Q := by
  refine MetFree.of_bodySF hp hisR ?_
  intro p e s m args below meth c s₁ Bd hml0 hP hK
  obtain ⟨rfl, hZ, hh, hV⟩ := hP
  exact b p e s m below meth c s₁ Bd.exec hZ Bd.bytes hml0 (findClass_of_methodNamed Bd.named) (name_of_methodNamed Bd.named Bd.method).1 Bd.returns Bd.notSynchronized (hh ▸ CHr.refl (hh ▸ hV)) ((State.WarmedH.refl s).since 0) (Stand.of_body Bd) (by rw [← hh, Bd.state]; rfl)
theorem W.static (X : Stand p l e R (s.setVm vm0) m args below meth c T locs cells slots) {k0 : Nat} (hS : s.Since vm0 k0) (hk : k0 ≤ h.size) (hx : p.tables.exec = Jvm.exec) (hZ : Z.Warmed39 (s.setVm vm0).vm) {own : String} {index : Nat} {y : MethodName} {bytes : ByteArray} {maxL : Nat} {ret : Option FieldType} {as' : Array Value}
    (hown : (s.setVm vm0).vm.findClass own = some m.cls) (w1 : (Jvm.Cond.methodLink own index y).before a0 Z = true) (w2 : (Jvm.Cond.static y).before a0 Z = true) (w3 : (Jvm.Cond.initialized y.cls).before a0 Z = true) (w4 : (Jvm.Cond.code y bytes maxL ret).before a0 Z = true)
    (hy : y.cls ≠ "java/lang/invoke/MethodHandle" ∧ y.cls ≠ "java/lang/invoke/VarHandle") (M : MetW l Z y bytes maxL ret rm [] as' h EL Q) (hE : EW Z a0 EL) (hC : CHv Z EL vm0 h) (eT : T.heap = h) {g : JFrame} (hg : g.method = m) (hsize : g.locals.size = c.maxLocals) {argsL rest : List Value} (has : argsL.toArray = as')
    (hlen : ∀ sig, parseMethodDescriptor y.desc = some sig → argsL.length = sig.parameters.length) (hstack : g.stack = argsL.reverse ++ rest) {W : Nat} (hW : 2 * g.monitorRoom + (rest.map fun v => v.category).sum ≤ W) (hd : decode c.code g.pc = .ok (.invokestatic index, 3))
    (hf : rm.frames + 1 ≤ R.frames) (hl : W + (maxL + 11) + rm.locals ≤ R.locals) (hc : cells + rm.cells ≤ R.cells) (hs : slots + rm.slots ≤ R.slots) :
    ∃ (T' : State) (h' : Heap) (v : Option Value) (L : List Loc) (k1 : Nat), Stand p l e R (s.setVm T'.vm) m args below meth c T' (locs ++ L) (cells + rm.cells) (slots + rm.slots) ∧ T'.heap = h' ∧ s.Since T'.vm k1 ∧ k1 ≤ h'.size ∧ Z.Warmed39 (s.setVm T'.vm).vm ∧ (s.setVm T'.vm).vm.findClass own = some m.cls ∧ Q v h' L ∧ CHr Z EL vm0 h T'.vm h' ∧
      ∀ t, Steps p.tables e below (T'.setTop { g with pc := g.pc + 3, stack := v.toList ++ rest }) t → Steps p.tables e below (T.setTop g) t := by
  obtain ⟨v, _, ⟨T', L', k', n'⟩, -, X', hS', hgr, ⟨Lc, hQ, l', y', z', hC2⟩, st⟩ := callSS X hx hown (mvT hZ w1) (mvT hZ w2) (mvT hZ w3) (mvT hZ w4) hy (backOfSH (W := W) M hZ w4 w3 hf hl hE hC) hg hsize hlen hstack hW hd (fun _ _ => ⟨has, eT, hc, hs⟩)
  dsimp only [Pt.U, Pt.locs, Pt.cells, Pt.slots] at X' l' y' z' st hQ hS' hgr hC2
  subst l' y' z'
  obtain ⟨X2, hS2, hZ2, hown2⟩ := rebS hS hk X' hS' (by rw [← eT]; exact hgr) hZ hown
  exact ⟨T', _, v, Lc, _, X2, rfl, hS2, Nat.le_refl _, hZ2, hown2, hQ, hC2, fun t k => st.trans k⟩
theorem W.special (X : Stand p l e R (s.setVm vm0) m args below meth c T locs cells slots) {k0 : Nat} (hS : s.Since vm0 k0) (hk : k0 ≤ h.size) (hx : p.tables.exec = Jvm.exec) (hZ : Z.Warmed39 (s.setVm vm0).vm) {own : String} {index : Nat} {y : MethodName} {bytes : ByteArray} {maxL : Nat} {as' : Array Value} (hy1 : y.name = "<init>")
    (hown : (s.setVm vm0).vm.findClass own = some m.cls) (w1 : (Jvm.Cond.methodLink own index y).before a0 Z = true) (w2 : (Jvm.Cond.instanceMethod y).before a0 Z = true) (w3 : (Jvm.Cond.initialized y.cls).before a0 Z = true) (w4 : (Jvm.Cond.code y bytes maxL none).before a0 Z = true)
    (hy : y.cls ≠ "java/lang/invoke/MethodHandle" ∧ y.cls ≠ "java/lang/invoke/VarHandle") (M : MetW l Z y bytes maxL none rm [] as' h EL Q) (hE : EW Z a0 EL) (hC : CHv Z EL vm0 h) (eT : T.heap = h) {g : JFrame} (hg : g.method = m) (hsize : g.locals.size = c.maxLocals) {a : Addr} {argsL rest : List Value} (has : (Value.ref a :: argsL).toArray = as')
    (hlen : ∀ sig, parseMethodDescriptor y.desc = some sig → argsL.length = sig.parameters.length) (hstack : g.stack = argsL.reverse ++ .ref a :: rest) {W : Nat} (hW : 2 * g.monitorRoom + (rest.map fun v => v.category).sum ≤ W) (hd : decode c.code g.pc = .ok (.invokespecial index, 3))
    (hf : rm.frames + 1 ≤ R.frames) (hl : W + (maxL + 11) + rm.locals ≤ R.locals) (hc : cells + rm.cells ≤ R.cells) (hs : slots + rm.slots ≤ R.slots) :
    ∃ (T' : State) (h' : Heap) (v : Option Value) (L : List Loc) (k1 : Nat), Stand p l e R (s.setVm T'.vm) m args below meth c T' (locs ++ L) (cells + rm.cells) (slots + rm.slots) ∧ T'.heap = h' ∧ s.Since T'.vm k1 ∧ k1 ≤ h'.size ∧ Z.Warmed39 (s.setVm T'.vm).vm ∧ (s.setVm T'.vm).vm.findClass own = some m.cls ∧ Q v h' L ∧ CHr Z EL vm0 h T'.vm h' ∧
      ∀ t, Steps p.tables e below (T'.setTop { g with pc := g.pc + 3, stack := v.toList ++ rest }) t → Steps p.tables e below (T.setTop g) t := by
  obtain ⟨v, _, ⟨T', L', k', n'⟩, -, X', hS', hgr, ⟨Lc, hQ, l', y', z', hC2⟩, st⟩ := X.specialBackS hx hy1 hown (mvT hZ w1) (mvT hZ w2) (mvT hZ w4) hy (backOfSH (W := W) M hZ w4 w3 hf hl hE hC) hg hsize (Steps.refl _) (a := a) hlen hstack hW hd (fun _ _ => ⟨has, eT, hc, hs⟩)
  dsimp only [Pt.U, Pt.locs, Pt.cells, Pt.slots] at X' l' y' z' st hQ hS' hgr hC2
  subst l' y' z'
  obtain ⟨X2, hS2, hZ2, hown2⟩ := rebS hS hk X' hS' (by rw [← eT]; exact hgr) hZ hown
  exact ⟨T', _, v, Lc, _, X2, rfl, hS2, Nat.le_refl _, hZ2, hown2, hQ, hC2, fun t k => st.trans k⟩
theorem W.virtual (X : Stand p l e R (s.setVm vm0) m args below meth c T locs cells slots) {k0 : Nat} (hS : s.Since vm0 k0) (hk : k0 ≤ h.size) (hx : p.tables.exec = Jvm.exec) (hZ : Z.Warmed39 (s.setVm vm0).vm) {own C : String} {index : Nat} {y z : MethodName} {bytes : ByteArray} {maxL : Nat} {ret : Option FieldType} {as' : Array Value}
    (hown : (s.setVm vm0).vm.findClass own = some m.cls) (w1 : (Jvm.Cond.methodLink own index y).before a0 Z = true) (w5 : (Jvm.Cond.declares y).before a0 Z = true) (nf : NotFace (s.setVm vm0) y) (w6 : (Jvm.Cond.selects C y z).before a0 Z = true) (w2 : (Jvm.Cond.instanceMethod z).before a0 Z = true) (w3 : (Jvm.Cond.initialized z.cls).before a0 Z = true) (w4 : (Jvm.Cond.code z bytes maxL ret).before a0 Z = true)
    (hy : y.cls ≠ "java/lang/invoke/MethodHandle" ∧ y.cls ≠ "java/lang/invoke/VarHandle") (M : MetW l Z z bytes maxL ret rm [] as' h EL Q) (hE : EW Z a0 EL) (hC : CHv Z EL vm0 h) (eT : T.heap = h) {a : Addr} (E : Exa Z h a C) {g : JFrame} (hg : g.method = m) (hsize : g.locals.size = c.maxLocals) {argsL rest : List Value} (has : (Value.ref a :: argsL).toArray = as')
    (hlen : ∀ sig, parseMethodDescriptor y.desc = some sig → argsL.length = sig.parameters.length) (hstack : g.stack = argsL.reverse ++ .ref a :: rest) {W : Nat} (hW : 2 * g.monitorRoom + (rest.map fun v => v.category).sum ≤ W) (hd : decode c.code g.pc = .ok (.invokevirtual index, 3))
    (hf : rm.frames + 1 ≤ R.frames) (hl : W + (maxL + 11) + rm.locals ≤ R.locals) (hc : cells + rm.cells ≤ R.cells) (hs : slots + rm.slots ≤ R.slots) :
    ∃ (T' : State) (h' : Heap) (v : Option Value) (L : List Loc) (k1 : Nat), Stand p l e R (s.setVm T'.vm) m args below meth c T' (locs ++ L) (cells + rm.cells) (slots + rm.slots) ∧ T'.heap = h' ∧ s.Since T'.vm k1 ∧ k1 ≤ h'.size ∧ Z.Warmed39 (s.setVm T'.vm).vm ∧ (s.setVm T'.vm).vm.findClass own = some m.cls ∧ Q v h' L ∧ CHr Z EL vm0 h T'.vm h' ∧
      ∀ t, Steps p.tables e below (T'.setTop { g with pc := g.pc + 3, stack := v.toList ++ rest }) t → Steps p.tables e below (T.setTop g) t := by
  obtain ⟨cq, kq, qa, qb, qc⟩ := isOf hZ eT E
  obtain ⟨v, _, ⟨T', L', k', n'⟩, -, X', hS', hgr, ⟨Lc, hQ, l', y', z', hC2⟩, st⟩ := X.virtualBackS hx (y := y) (z := z) hown (mvT hZ w1) (mvT hZ w5) nf (mvT hZ w6) (mvT hZ w2) hy (backOfSH (W := W) M hZ w4 w3 hf hl hE hC) qa qc hg hsize (Steps.refl _) (argsL := argsL) hlen hstack hW hd (fun _ _ => ⟨has, eT, hc, hs⟩)
  dsimp only [Pt.U, Pt.locs, Pt.cells, Pt.slots] at X' l' y' z' st hQ hS' hgr hC2
  subst l' y' z'
  obtain ⟨X2, hS2, hZ2, hown2⟩ := rebS hS hk X' hS' (by rw [← eT]; exact hgr) hZ hown
  exact ⟨T', _, v, Lc, _, X2, rfl, hS2, Nat.le_refl _, hZ2, hown2, hQ, hC2, fun t k => st.trans k⟩
theorem own_safe {x : Addr} {n : Nat} {vm : Vm} (hal : Z.vm.Alike vm) (E : Exa Z h x "java/lang/String") (F : Fld Z h x "java/lang/String" "value" "[B" .null) (wi : (Jvm.Cond.instantiable "java/lang/String" n).before a0 Z = true) : Safe Z EL vm h x := fun B => by
  obtain ⟨cell, cf, k, i, f, f1, f2, f3, f4, f5, f6, f7⟩ := F
  obtain ⟨p, -, u, a, -, q, -, ⟨cS, ⟨⟨s1, s2, s3, ⟨cv, kv, iv, s4, s4'⟩, -, s6, s7, s8, s9, s10, s11, s12, s13, s14, s15, s16⟩, hfS, hcS⟩, -, hB, -⟩, hy⟩ := B
  rcases hy with rfl | rfl
  · obtain ⟨kv', z4⟩ := ff_back (U := Wst Z vm h) hal s4
    cases f1.symm.trans s1
    cases f2.symm.trans z4
    cases f7.symm.trans s8
  · have A : Arr Z h q.sd q.SA .byte := by
      have hB : vm.findClass "[B" = some q.SA.cls := hB
      have hBZ : Z.vm.findClass "[B" = some q.SA.cls := by rw [← hal.findClass]; exact hB
      obtain ⟨kb, hkb, -⟩ := Vm.findClass_spec hBZ
      obtain ⟨kb', hkb', ekb⟩ := hal.2.2 _ _ hkb
      obtain ⟨hst, k9, hk9, comp, hkind9⟩ := s11
      have hk9 : vm.classes[q.SA.cls]? = some k9 := hk9
      have ek9 : k9 = kb' := Option.some.inj (hk9.symm.trans hkb')
      exact ⟨s10, ⟨hst, kb, hkb, comp, by rw [ek9, ekb] at hkind9; exact hkind9⟩, s12⟩
    exact ne_arr E wi A rfl
end OwnW
def EL1 : List (String × Nat) := []
theorem own_wS {Z : State} {a0 : Array Value} (hw : ∀ d ∈ tables_1, d.before a0 Z = true) : ∀ a ∈ Bundle.stringAtoms, a.before a0 Z = true := by
  intro a ha
  simp only [Bundle.stringAtoms, List.mem_cons, List.not_mem_nil, or_false] at ha
  rcases ha with rfl | rfl | rfl | rfl | rfl | rfl | rfl
  · exact (hw _ (List.mem_of_getElem? (i := 16) rfl))
  · exact (hw _ (List.mem_of_getElem? (i := 17) rfl))
  · exact (hw _ (List.mem_of_getElem? (i := 18) rfl))
  · exact (hw _ (List.mem_of_getElem? (i := 19) rfl))
  · exact (hw _ (List.mem_of_getElem? (i := 20) rfl))
  · exact (hw _ (List.mem_of_getElem? (i := 21) rfl))
  · exact (hw _ (List.mem_of_getElem? (i := 22) rfl))
theorem own_EW {Z : State} {a0 : Array Value} (hw : ∀ d ∈ tables_1, d.before a0 Z = true) : EW Z a0 EL1 := EW.nil
theorem own_in {cl : Cell} {p1 : Int32} (hL : cl.slots.size = 256) (h1 : ¬ p1 < (-128 : Int32)) (h2 : ¬ (127 : Int32) < p1) : ¬ (p1 + (128 : Int32) < 0 ∨ cl.slots.size ≤ (p1 + (128 : Int32)).toNatClampNeg) := by
  have a := c_iadd p1 (128 : Int32)
  have b := rng32 p1
  have c := rng32 (p1 + (128 : Int32))
  rw [Int32.lt_iff_toInt_lt] at h1 h2
  have e1 : (-128 : Int32).toInt = -128 := by decide
  have e2 : (127 : Int32).toInt = 127 := by decide
  have e3 : (128 : Int32).toInt = 128 := by decide
  have d : (p1 + (128 : Int32)).toInt = p1.toInt + 128 := by omega
  have z : (0 : Int32).toInt = 0 := by decide
  rintro (q | q)
  · rw [Int32.lt_iff_toInt_lt] at q; omega
  · rw [hL] at q
    have u : (p1 + (128 : Int32)).toNatClampNeg = ((p1 + (128 : Int32)).toInt).toNat := rfl
    omega
theorem own_no {Z : State} {a0 : Array Value} (hw : ∀ d ∈ tables_1, d.before a0 Z = true) : ∃ c t, Z.vm.findClass "java/lang/Integer" = some c ∧ Z.vm.findClass "com/example/tariffic/tariffic/engine/PriceClass" = some t ∧ Z.vm.assignable c t = false := by
  obtain ⟨t, kt, t1, t2, t3, t4, -⟩ := Cond.instantiable_spec (s := Z) (hw _ (List.mem_of_getElem? (i := 7) rfl))
  simp only [Bool.or_eq_false_iff] at t4
  obtain ⟨o, ko, o1, o2, o3, -, -⟩ := Cond.noSuperclass_spec (hw _ (List.mem_of_getElem? (i := 56) rfl))
  have n0 : NS Z "java/lang/Object" "com/example/tariffic/tariffic/engine/PriceClass" := by
    have ne := ids_ne o1 t1 (by decide)
    refine ⟨o, t, o1, t1, fun fuel => ?_⟩
    cases fuel with
    | zero => rfl
    | succ f => simp [Vm.isSubclassAux, ne, o2, o3]
  have n1 := NS.step (hw _ (List.mem_of_getElem? (i := 55) rfl)) n0 (by decide)
  have n2 := NS.step (hw _ (List.mem_of_getElem? (i := 54) rfl)) n1 (by decide)
  obtain ⟨c, t', c1, g0, n3⟩ := n2
  cases t1.symm.trans g0
  obtain ⟨p, k, kp, h1, h2, h3, h4, h5, -, h7⟩ := Cond.superclass_spec c1 (hw _ (List.mem_of_getElem? (i := 54) rfl))
  have ne := ids_ne c1 t1 (by decide)
  refine ⟨c, t, c1, t1, ?_⟩
  show Z.vm.assignableAux (255 + 1) c t = false
  simp [Vm.assignableAux, ne, h2, t2, h5, t3, t4.1, Vm.isSubclass, n3]
theorem own_len {s : State} {args : Array Value} {t : Term} {a : Addr} {cl : Cell} {ty : FieldType} (A : Arr s s.heap a cl ty) (ev : t.eval args s none [] s = some (.ref a)) (el : (Term.length t).eval args s none [] s = some (.int (256 : Int32))) : cl.slots.size = 256 := by
  have q := A.fin (Vm.Alike.refl _)
  have h31 := SBG.length_lt ev q el
  have e := len_f (o := none) (first := s) (args := args) (idx := []) ev q h31
  have h2 := Value.int.inj (Option.some.inj (e.symm.trans el))
  have h3 := congrArg Int32.toInt h2
  rw [len_toInt h31] at h3
  have h4 : (256 : Int32).toInt = 256 := by decide
  omega
theorem own_ch0 {Z : State} {vm : Vm} {h : Heap} : CHv Z EL1 vm h := fun p hp => by cases hp
theorem pn_3 : plainName "java/util/Objects" = true := by first | (simp [plainName, overriddenIn]; done) | decide +kernel
theorem d3_0 : decode jdk_31_method_11_code 0 = .ok (.aload_n 0, 1) := by decide +kernel
theorem d3_1 : decode jdk_31_method_11_code 1 = .ok (.ifnonnull 12, 3) := by decide +kernel
theorem d3_13 : decode jdk_31_method_11_code 13 = .ok (.aload_n 0, 1) := by decide +kernel
theorem d3_14 : decode jdk_31_method_11_code 14 = .ok (.areturn, 1) := by decide +kernel
theorem pn_1 : plainName "com/example/tariffic/tariffic/engine/PriceClass" = true := by first | (simp [plainName, overriddenIn]; done) | decide +kernel
theorem d1_0 : decode prog_37_method_1_code 0 = .ok (.aload_n 0, 1) := by decide +kernel
theorem d1_1 : decode prog_37_method_1_code 1 = .ok (.invokespecial 1, 3) := by decide +kernel
theorem d1_4 : decode prog_37_method_1_code 4 = .ok (.aload_n 0, 1) := by decide +kernel
theorem d1_5 : decode prog_37_method_1_code 5 = .ok (.aload_n 1, 1) := by decide +kernel
theorem d1_6 : decode prog_37_method_1_code 6 = .ok (.ldc 7, 2) := by decide +kernel
theorem d1_8 : decode prog_37_method_1_code 8 = .ok (.invokestatic 9, 3) := by decide +kernel
theorem pd__Ljava_lang_Object_Ljava_lang_String__Ljava_lang_Object_ : parseMethodDescriptor "(Ljava/lang/Object;Ljava/lang/String;)Ljava/lang/Object;" = some ⟨[(.object "java/lang/Object"), (.object "java/lang/String")], some (.object "java/lang/Object")⟩ := by decide +kernel
theorem d1_11 : decode prog_37_method_1_code 11 = .ok (.checkcast 15, 3) := by decide +kernel
theorem d1_14 : decode prog_37_method_1_code 14 = .ok (.putfield 17, 3) := by decide +kernel
theorem d1_17 : decode prog_37_method_1_code 17 = .ok (.aload_n 0, 1) := by decide +kernel
theorem d1_18 : decode prog_37_method_1_code 18 = .ok (.aload_n 2, 1) := by decide +kernel
theorem d1_19 : decode prog_37_method_1_code 19 = .ok (.ldc 22, 2) := by decide +kernel
theorem d1_21 : decode prog_37_method_1_code 21 = .ok (.invokestatic 9, 3) := by decide +kernel
theorem d1_24 : decode prog_37_method_1_code 24 = .ok (.checkcast 24, 3) := by decide +kernel
theorem d1_27 : decode prog_37_method_1_code 27 = .ok (.putfield 26, 3) := by decide +kernel
theorem d1_30 : decode prog_37_method_1_code 30 = .ok (.return_, 1) := by decide +kernel
theorem pn_4 : plainName "com/example/tariffic/tariffic/engine/PriceClass" = true := by first | (simp [plainName, overriddenIn]; done) | decide +kernel
theorem d4_0 : decode prog_37_method_4_code 0 = .ok (.aload_n 1, 1) := by decide +kernel
theorem d4_1 : decode prog_37_method_4_code 1 = .ok (.instanceof 18, 3) := by decide +kernel
theorem d4_4 : decode prog_37_method_4_code 4 = .ok (.ifCond .eq 35, 3) := by decide +kernel
theorem d4_39 : decode prog_37_method_4_code 39 = .ok (.iconst 0, 1) := by decide +kernel
theorem d4_40 : decode prog_37_method_4_code 40 = .ok (.ireturn, 1) := by decide +kernel
theorem d4_7 : decode prog_37_method_4_code 7 = .ok (.aload_n 1, 1) := by decide +kernel
theorem d4_8 : decode prog_37_method_4_code 8 = .ok (.checkcast 18, 3) := by decide +kernel
theorem d4_11 : decode prog_37_method_4_code 11 = .ok (.getfield 17, 3) := by decide +kernel
theorem d4_14 : decode prog_37_method_4_code 14 = .ok (.aload_n 0, 1) := by decide +kernel
theorem d4_15 : decode prog_37_method_4_code 15 = .ok (.getfield 17, 3) := by decide +kernel
theorem d4_18 : decode prog_37_method_4_code 18 = .ok (.if_acmp .ne 21, 3) := by decide +kernel
theorem d4_21 : decode prog_37_method_4_code 21 = .ok (.aload_n 1, 1) := by decide +kernel
theorem d4_22 : decode prog_37_method_4_code 22 = .ok (.checkcast 18, 3) := by decide +kernel
theorem d4_25 : decode prog_37_method_4_code 25 = .ok (.getfield 26, 3) := by decide +kernel
theorem d4_28 : decode prog_37_method_4_code 28 = .ok (.aload_n 0, 1) := by decide +kernel
theorem d4_29 : decode prog_37_method_4_code 29 = .ok (.getfield 26, 3) := by decide +kernel
theorem d4_32 : decode prog_37_method_4_code 32 = .ok (.if_acmp .ne 7, 3) := by decide +kernel
theorem d4_35 : decode prog_37_method_4_code 35 = .ok (.iconst 1, 1) := by decide +kernel
theorem d4_36 : decode prog_37_method_4_code 36 = .ok (.goto 4, 3) := by decide +kernel
theorem pn_7 : plainName "java/lang/Number" = true := by first | (simp [plainName, overriddenIn]; done) | decide +kernel
theorem d7_0 : decode jdk_18_method_1_code 0 = .ok (.aload_n 0, 1) := by decide +kernel
theorem d7_1 : decode jdk_18_method_1_code 1 = .ok (.invokespecial 1, 3) := by decide +kernel
theorem d7_4 : decode jdk_18_method_1_code 4 = .ok (.return_, 1) := by decide +kernel
theorem pn_6 : plainName "java/lang/Integer" = true := by first | (simp [plainName, overriddenIn]; done) | decide +kernel
theorem d6_0 : decode jdk_33_method_23_code 0 = .ok (.aload_n 0, 1) := by decide +kernel
theorem d6_1 : decode jdk_33_method_23_code 1 = .ok (.invokespecial 202, 3) := by decide +kernel
theorem pd___V : parseMethodDescriptor "()V" = some ⟨[], none⟩ := by decide +kernel
theorem d6_4 : decode jdk_33_method_23_code 4 = .ok (.aload_n 0, 1) := by decide +kernel
theorem d6_5 : decode jdk_33_method_23_code 5 = .ok (.iload_n 1, 1) := by decide +kernel
theorem d6_6 : decode jdk_33_method_23_code 6 = .ok (.putfield 205, 3) := by decide +kernel
theorem d6_9 : decode jdk_33_method_23_code 9 = .ok (.return_, 1) := by decide +kernel
theorem pn_5 : plainName "java/lang/Integer" = true := by first | (simp [plainName, overriddenIn]; done) | decide +kernel
theorem d5_0 : decode jdk_33_method_22_code 0 = .ok (.iload_n 0, 1) := by decide +kernel
theorem d5_1 : decode jdk_33_method_22_code 1 = .ok (.bipush (-128), 2) := by decide +kernel
theorem d5_3 : decode jdk_33_method_22_code 3 = .ok (.if_icmp .lt 20, 3) := by decide +kernel
theorem d5_23 : decode jdk_33_method_22_code 23 = .ok (.new 1, 3) := by decide +kernel
theorem d5_26 : decode jdk_33_method_22_code 26 = .ok (.dup, 1) := by decide +kernel
theorem d5_27 : decode jdk_33_method_22_code 27 = .ok (.iload_n 0, 1) := by decide +kernel
theorem d5_28 : decode jdk_33_method_22_code 28 = .ok (.invokespecial 199, 3) := by decide +kernel
theorem pd__I_V : parseMethodDescriptor "(I)V" = some ⟨[.int], none⟩ := by decide +kernel
theorem d5_31 : decode jdk_33_method_22_code 31 = .ok (.areturn, 1) := by decide +kernel
theorem d5_6 : decode jdk_33_method_22_code 6 = .ok (.iload_n 0, 1) := by decide +kernel
theorem d5_7 : decode jdk_33_method_22_code 7 = .ok (.getstatic 191, 3) := by decide +kernel
theorem d5_10 : decode jdk_33_method_22_code 10 = .ok (.if_icmp .gt 13, 3) := by decide +kernel
theorem d5_13 : decode jdk_33_method_22_code 13 = .ok (.getstatic 195, 3) := by decide +kernel
theorem d5_16 : decode jdk_33_method_22_code 16 = .ok (.iload_n 0, 1) := by decide +kernel
theorem d5_17 : decode jdk_33_method_22_code 17 = .ok (.sipush 128, 3) := by decide +kernel
theorem d5_20 : decode jdk_33_method_22_code 20 = .ok (.iadd, 1) := by decide +kernel
theorem d5_21 : decode jdk_33_method_22_code 21 = .ok (.aaload, 1) := by decide +kernel
theorem d5_22 : decode jdk_33_method_22_code 22 = .ok (.areturn, 1) := by decide +kernel
theorem pn_0 : plainName "com/example/tariffic/tariffic/engine/PriceClassEqualsPinLaw" = true := by first | (simp [plainName, overriddenIn]; done) | decide +kernel
theorem pd__Lcom_example_tariffic_tariffic_engine_ComputeModel_Lcom_example_tariffic_tariffic_engine_Workload__V : parseMethodDescriptor "(Lcom/example/tariffic/tariffic/engine/ComputeModel;Lcom/example/tariffic/tariffic/engine/Workload;)V" = some ⟨[(.object "com/example/tariffic/tariffic/engine/ComputeModel"), (.object "com/example/tariffic/tariffic/engine/Workload")], none⟩ := by decide +kernel
theorem pd__Ljava_lang_Object__Z : parseMethodDescriptor "(Ljava/lang/Object;)Z" = some ⟨[(.object "java/lang/Object")], some .boolean⟩ := by decide +kernel
theorem pd__I_Ljava_lang_Integer_ : parseMethodDescriptor "(I)Ljava/lang/Integer;" = some ⟨[.int], some (.object "java/lang/Integer")⟩ := by decide +kernel
abbrev R_rnn : Room := ⟨0, 0, 0, 0⟩
set_option maxRecDepth 65536 in
set_option maxHeartbeats 40000000 in
theorem rnn (l : Launch) (Z : State) (a0 : Array Value) (hw : ∀ d ∈ tables_1, d.before a0 Z = true) (a1 : Addr) (a2 : Addr) (h0 : Heap) (n0 : Nat) (O0 : Old Z n0 h0)  :
    MetN l Z (⟨"java/util/Objects", "requireNonNull", "(Ljava/lang/Object;Ljava/lang/String;)Ljava/lang/Object;"⟩ : MethodName) jdk_31_method_11_code 2 (some (.object "java/lang/Object")) R_rnn [] #[(.ref a1), (.ref a2)] h0 (fun v h L => v = some (.ref a1) ∧ Fr n0 L ∧ h = h0) := by
  refine MetN.walk (plainFor_of_name pn_3) ?_
  intro p e s m below meth c s₁ hx hZ hby hml hown hnm hret hlk X0 e0
  have N0 := Fr.nil n0
  refine Win.to s₁ (mkF m 0 #[.val (.ref a1), .val (.ref a2)] []) (fun _ k => castTop (by first | (simp [entryFrame, mkF, argsToLocals, Value.category]; done) | rfl) k) ?_
  refine Win.to s₁ (mkF m 1 #[.val (.ref a1), .val (.ref a2)] [(.ref a1)]) (fun _ k => XS.aloadN X0.here hx rfl (hb hby d3_0) rfl rfl k) ?_
  refine Win.to s₁ (mkF m 13 #[.val (.ref a1), .val (.ref a2)] []) (fun _ k => XS.ifnonnullYes X0.here hx rfl (pc0 := 1) (pc' := 13) rfl (hb hby d3_1) rfl (by decide) (by decide) k) ?_
  refine Win.to s₁ (mkF m 14 #[.val (.ref a1), .val (.ref a2)] [(.ref a1)]) (fun _ k => XS.aloadN X0.here hx rfl (hb hby d3_13) rfl rfl k) ?_
  exact Win.retA X0 hx hlk hret rfl rfl (hb hby d3_14) (by decide) (by decide) (by (try rw [e0]); exact ⟨rfl, N0, rfl⟩)
abbrev R_mkPC : Room := ⟨1, 4, 60, 14⟩
set_option maxRecDepth 65536 in
set_option maxHeartbeats 40000000 in
theorem mkPC (l : Launch) (Z : State) (a0 : Array Value) (hw : ∀ d ∈ tables_1, d.before a0 Z = true) (a1 : Addr) (m1 : Addr) (w1 : Addr) (h0 : Heap) (n0 : Nat) (O0 : Old Z n0 h0) (E1 : Exa Z h0 a1 "com/example/tariffic/tariffic/engine/PriceClass") (F1 : Fld Z h0 a1 "com/example/tariffic/tariffic/engine/PriceClass" "model" "Lcom/example/tariffic/tariffic/engine/ComputeModel;" .null) (F2 : Fld Z h0 a1 "com/example/tariffic/tariffic/engine/PriceClass" "workload" "Lcom/example/tariffic/tariffic/engine/Workload;" .null) (E2 : Exa Z h0 m1 "com/example/tariffic/tariffic/engine/ComputeModel") (E3 : Exa Z h0 w1 "com/example/tariffic/tariffic/engine/Workload") (g1 : n0 ≤ a1) :
    MetW l Z (⟨"com/example/tariffic/tariffic/engine/PriceClass", "<init>", "(Lcom/example/tariffic/tariffic/engine/ComputeModel;Lcom/example/tariffic/tariffic/engine/Workload;)V"⟩ : MethodName) prog_37_method_1_code 3 none R_mkPC [] #[(.ref a1), (.ref m1), (.ref w1)] h0 EL1 (fun v h L => v = none ∧ Fr n0 L ∧ Keep h0 h [a1] ∧ Fld Z h a1 "com/example/tariffic/tariffic/engine/PriceClass" "model" "Lcom/example/tariffic/tariffic/engine/ComputeModel;" (.ref m1) ∧ Fld Z h a1 "com/example/tariffic/tariffic/engine/PriceClass" "workload" "Lcom/example/tariffic/tariffic/engine/Workload;" (.ref w1)) := by
  refine MetW.walk (plainFor_of_name pn_1) ?_
  intro p e s m below meth c s₁ hx hZ hby hml hown hnm hret hlk C0 hS0 X0 e0
  have N0 := Fr.nil n0
  refine WinW.to s₁ (mkF m 0 #[.val (.ref a1), .val (.ref m1), .val (.ref w1)] []) (fun _ k => castTop (by first | (simp [entryFrame, mkF, argsToLocals, Value.category]; done) | rfl) k) ?_
  refine WinW.to s₁ (mkF m 1 #[.val (.ref a1), .val (.ref m1), .val (.ref w1)] [(.ref a1)]) (fun _ k => XS.aloadN X0.here hx rfl (hb hby d1_0) rfl rfl k) ?_
  obtain ⟨T101, X101, e101, st101⟩ := initO X0 hx hZ hown (hw _ (List.mem_of_getElem? (i := 12) rfl)) (hw _ (List.mem_of_getElem? (i := 13) rfl)) (hw _ (List.mem_of_getElem? (i := 14) rfl)) e0 (g := (mkF m 1 #[.val (.ref a1), .val (.ref m1), .val (.ref w1)] [(.ref a1)])) rfl (by rw [hml]; rfl) rfl (hb hby d1_1) (by decide) (W := 0) (by show 2 * 0 + _ ≤ _; exact Nat.le_of_eq rfl) (by decide)
  refine WinW.to T101 (mkF m 4 #[.val (.ref a1), .val (.ref m1), .val (.ref w1)] []) (fun _ k => st101 _ k) ?_
  refine WinW.to T101 (mkF m 5 #[.val (.ref a1), .val (.ref m1), .val (.ref w1)] [(.ref a1)]) (fun _ k => XS.aloadN X101.here hx rfl (hb hby d1_4) rfl rfl k) ?_
  refine WinW.to T101 (mkF m 6 #[.val (.ref a1), .val (.ref m1), .val (.ref w1)] [(.ref m1), (.ref a1)]) (fun _ k => XS.aloadN X101.here hx rfl (hb hby d1_5) rfl rfl k) ?_
  obtain ⟨b102, T102, h102, k102, X102, e102, E102, hS102, hk102, hZ102, hown102, c102, -, st102⟩ := ldcOH X101 hx hZ hown (hw _ (List.mem_of_getElem? (i := 15) rfl)) (own_wS hw) e101 hS0 (Nat.zero_le _) (own_EW hw) C0.1 (g := (mkF m 6 #[.val (.ref a1), .val (.ref m1), .val (.ref w1)] [(.ref m1), (.ref a1)])) rfl (hb hby d1_6) (n := 20) (by decide) (by decide) (by decide) (by decide)
  have O103 := Old.ext O0 E102
  have K104 : Keep h0 h102 [a1] := (Keep.refl h0 [a1]).ext E102
  have c105 := c102
  have C106 := CHr.trans C0 c105
  refine WinW.to T102 (mkF m 8 #[.val (.ref a1), .val (.ref m1), .val (.ref w1)] [(.ref b102), (.ref m1), (.ref a1)]) (fun _ k => st102 _ k) ?_
  obtain ⟨T107, h107, v107, L107, X107, e107, ⟨rfl, N107q, r107_0⟩, st107⟩ := N.static X102 hx hZ102 (y := (⟨"java/util/Objects", "requireNonNull", "(Ljava/lang/Object;Ljava/lang/String;)Ljava/lang/Object;"⟩ : MethodName)) hown102 (hw _ (List.mem_of_getElem? (i := 23) rfl)) (hw _ (List.mem_of_getElem? (i := 24) rfl)) (hw _ (List.mem_of_getElem? (i := 25) rfl)) (hw _ (List.mem_of_getElem? (i := 26) rfl)) (by decide) (rnn l Z a0 hw m1 b102 h102 n0 O103 ) e102 (g := (mkF m 8 #[.val (.ref a1), .val (.ref m1), .val (.ref w1)] [(.ref b102), (.ref m1), (.ref a1)])) rfl (by rw [hml]; rfl) (argsL := [(.ref m1), (.ref b102)]) (rest := [(.ref a1)]) rfl (lenOf pd__Ljava_lang_Object_Ljava_lang_String__Ljava_lang_Object_ rfl) rfl (W := 1) (by show 2 * 0 + _ ≤ _; exact Nat.le_of_eq rfl) (hb hby d1_8) (by decide) (by decide) (by decide) (by decide)
  have N108 := Fr.app N0 N107q
  have e107 := e107.trans r107_0
  refine WinW.to T107 (mkF m 11 #[.val (.ref a1), .val (.ref m1), .val (.ref w1)] [(.ref m1), (.ref a1)]) (fun _ k => st107 _ k) ?_
  have F109 : Exa Z h102 m1 "com/example/tariffic/tariffic/engine/ComputeModel" := (Exa.ext E102 E2)
  obtain ⟨T110, X110, e110, st110⟩ := castY X107 hx hZ102 hown102 (hw _ (List.mem_of_getElem? (i := 27) rfl)) e107 (Ins.self F109) (g := (mkF m 11 #[.val (.ref a1), .val (.ref m1), .val (.ref w1)] [(.ref m1), (.ref a1)])) rfl rfl (hb hby d1_11)
  refine WinW.to T110 (mkF m 14 #[.val (.ref a1), .val (.ref m1), .val (.ref w1)] [(.ref m1), (.ref a1)]) (fun _ k => st110 _ k) ?_
  have F111 : Exa Z h102 a1 "com/example/tariffic/tariffic/engine/PriceClass" := (Exa.ext E102 E1)
  have F112 : Fld Z h102 a1 "com/example/tariffic/tariffic/engine/PriceClass" "model" "Lcom/example/tariffic/tariffic/engine/ComputeModel;" .null := (Fld.ext E102 F1)
  have ne113 : a1 ≠ m1 := Exa.ne F111 F109 (by decide)
  have F114 : Exa Z h102 w1 "com/example/tariffic/tariffic/engine/Workload" := (Exa.ext E102 E3)
  have ne115 : a1 ≠ w1 := Exa.ne F111 F114 (by decide)
  obtain ⟨T116, h116, X116, e116, W116, st116⟩ := putF X110 hx hZ102 hown102 (host := "") (Or.inl (hw _ (List.mem_of_getElem? (i := 29) rfl))) Via.refl e110 F112 F111 (Or.inr ⟨(hw _ (List.mem_of_getElem? (i := 30) rfl)), rfl, hnm⟩) (hw _ (List.mem_of_getElem? (i := 7) rfl)) (ty := (.object "com/example/tariffic/tariffic/engine/ComputeModel")) (by decide) rfl rfl (g := (mkF m 14 #[.val (.ref a1), .val (.ref m1), .val (.ref w1)] [(.ref m1), (.ref a1)])) rfl rfl (hb hby d1_14)
  have O118 := Old.wr O103 W116 g1
  have hk119 := Nat.le_trans hk102 (Nat.le_of_eq (Wr.size W116).symm)
  have K120 : Keep h0 h116 [a1] := K104.wr W116 (Or.inl (List.mem_of_getElem? (i := 0) rfl))
  have N121 := Fr.snoc X116 N108 g1
  have c122 := CHr.wr W116 (Safe.exa hZ102.alike F111 (by decide) (by decide)) C106.1
  have C123 := CHr.trans C106 c122
  have F117 : Fld Z h116 a1 "com/example/tariffic/tariffic/engine/PriceClass" "model" "Lcom/example/tariffic/tariffic/engine/ComputeModel;" (.ref m1) := Fld.same W116 F112
  refine WinW.to T116 (mkF m 17 #[.val (.ref a1), .val (.ref m1), .val (.ref w1)] []) (fun _ k => st116 _ k) ?_
  refine WinW.to T116 (mkF m 18 #[.val (.ref a1), .val (.ref m1), .val (.ref w1)] [(.ref a1)]) (fun _ k => XS.aloadN X116.here hx rfl (hb hby d1_17) rfl rfl k) ?_
  refine WinW.to T116 (mkF m 19 #[.val (.ref a1), .val (.ref m1), .val (.ref w1)] [(.ref w1), (.ref a1)]) (fun _ k => XS.aloadN X116.here hx rfl (hb hby d1_18) rfl rfl k) ?_
  obtain ⟨b124, T124, h124, k124, X124, e124, E124, hS124, hk124, hZ124, hown124, c124, -, st124⟩ := ldcOH X116 hx hZ102 hown102 (hw _ (List.mem_of_getElem? (i := 31) rfl)) (own_wS hw) e116 hS102 hk119 (own_EW hw) C123.1 (g := (mkF m 19 #[.val (.ref a1), .val (.ref m1), .val (.ref w1)] [(.ref w1), (.ref a1)])) rfl (hb hby d1_19) (n := 32) (by decide) (by decide) (by decide) (by decide)
  have O125 := Old.ext O118 E124
  have K126 : Keep h0 h124 [a1] := K120.ext E124
  have c127 := c124
  have C128 := CHr.trans C123 c127
  refine WinW.to T124 (mkF m 21 #[.val (.ref a1), .val (.ref m1), .val (.ref w1)] [(.ref b124), (.ref w1), (.ref a1)]) (fun _ k => st124 _ k) ?_
  obtain ⟨T129, h129, v129, L129, X129, e129, ⟨rfl, N129q, r129_0⟩, st129⟩ := N.static X124 hx hZ124 (y := (⟨"java/util/Objects", "requireNonNull", "(Ljava/lang/Object;Ljava/lang/String;)Ljava/lang/Object;"⟩ : MethodName)) hown124 (hw _ (List.mem_of_getElem? (i := 23) rfl)) (hw _ (List.mem_of_getElem? (i := 24) rfl)) (hw _ (List.mem_of_getElem? (i := 25) rfl)) (hw _ (List.mem_of_getElem? (i := 26) rfl)) (by decide) (rnn l Z a0 hw w1 b124 h124 n0 O125 ) e124 (g := (mkF m 21 #[.val (.ref a1), .val (.ref m1), .val (.ref w1)] [(.ref b124), (.ref w1), (.ref a1)])) rfl (by rw [hml]; rfl) (argsL := [(.ref w1), (.ref b124)]) (rest := [(.ref a1)]) rfl (lenOf pd__Ljava_lang_Object_Ljava_lang_String__Ljava_lang_Object_ rfl) rfl (W := 1) (by show 2 * 0 + _ ≤ _; exact Nat.le_of_eq rfl) (hb hby d1_21) (by decide) (by decide) (by decide) (by decide)
  have N130 := Fr.app N121 N129q
  have e129 := e129.trans r129_0
  refine WinW.to T129 (mkF m 24 #[.val (.ref a1), .val (.ref m1), .val (.ref w1)] [(.ref w1), (.ref a1)]) (fun _ k => st129 _ k) ?_
  have F131 : Exa Z h124 w1 "com/example/tariffic/tariffic/engine/Workload" := (Exa.ext E124 (Exa.wr W116 F114))
  obtain ⟨T132, X132, e132, st132⟩ := castY X129 hx hZ124 hown124 (hw _ (List.mem_of_getElem? (i := 32) rfl)) e129 (Ins.self F131) (g := (mkF m 24 #[.val (.ref a1), .val (.ref m1), .val (.ref w1)] [(.ref w1), (.ref a1)])) rfl rfl (hb hby d1_24)
  refine WinW.to T132 (mkF m 27 #[.val (.ref a1), .val (.ref m1), .val (.ref w1)] [(.ref w1), (.ref a1)]) (fun _ k => st132 _ k) ?_
  have F133 : Exa Z h124 a1 "com/example/tariffic/tariffic/engine/PriceClass" := (Exa.ext E124 (Exa.wr W116 F111))
  have F134 : Fld Z h124 a1 "com/example/tariffic/tariffic/engine/PriceClass" "workload" "Lcom/example/tariffic/tariffic/engine/Workload;" .null := (Fld.ext E124 (Fld.other W116 (Fld.ext E102 F2) (Or.inr (slot_ne (Or.inr (hw _ (List.mem_of_getElem? (i := 35) rfl))) (Or.inr (hw _ (List.mem_of_getElem? (i := 30) rfl))) (by decide) (t := (.object "com/example/tariffic/tariffic/engine/Workload")) (t' := (.object "com/example/tariffic/tariffic/engine/ComputeModel")) (by decide) (by decide)))))
  obtain ⟨T135, h135, X135, e135, W135, st135⟩ := putF X132 hx hZ124 hown124 (host := "") (Or.inl (hw _ (List.mem_of_getElem? (i := 34) rfl))) Via.refl e132 F134 F133 (Or.inr ⟨(hw _ (List.mem_of_getElem? (i := 35) rfl)), rfl, hnm⟩) (hw _ (List.mem_of_getElem? (i := 7) rfl)) (ty := (.object "com/example/tariffic/tariffic/engine/Workload")) (by decide) rfl rfl (g := (mkF m 27 #[.val (.ref a1), .val (.ref m1), .val (.ref w1)] [(.ref w1), (.ref a1)])) rfl rfl (hb hby d1_27)
  have O137 := Old.wr O125 W135 g1
  have hk138 := Nat.le_trans hk124 (Nat.le_of_eq (Wr.size W135).symm)
  have K139 : Keep h0 h135 [a1] := K126.wr W135 (Or.inl (List.mem_of_getElem? (i := 0) rfl))
  have N140 := Fr.snoc X135 N130 g1
  have c141 := CHr.wr W135 (Safe.exa hZ124.alike F133 (by decide) (by decide)) C128.1
  have C142 := CHr.trans C128 c141
  have F136 : Fld Z h135 a1 "com/example/tariffic/tariffic/engine/PriceClass" "workload" "Lcom/example/tariffic/tariffic/engine/Workload;" (.ref w1) := Fld.same W135 F134
  refine WinW.to T135 (mkF m 30 #[.val (.ref a1), .val (.ref m1), .val (.ref w1)] []) (fun _ k => st135 _ k) ?_
  have F143 : Fld Z h135 a1 "com/example/tariffic/tariffic/engine/PriceClass" "model" "Lcom/example/tariffic/tariffic/engine/ComputeModel;" (.ref m1) := (Fld.other W135 (Fld.ext E124 F117) (Or.inr (slot_ne (Or.inr (hw _ (List.mem_of_getElem? (i := 30) rfl))) (Or.inr (hw _ (List.mem_of_getElem? (i := 35) rfl))) (by decide) (t := (.object "com/example/tariffic/tariffic/engine/ComputeModel")) (t' := (.object "com/example/tariffic/tariffic/engine/Workload")) (by decide) (by decide))))
  exact WinW.retV X135 hS124 (by rw [e135]; exact hk138) hx hlk hret (hb hby d1_30) hZ124 (own_EW hw) (by rw [e135]; exact C142) (by decide) (by decide) (by (try rw [e135]); exact ⟨rfl, N140, K139, F143, F136⟩)
abbrev R_eqNull : Room := ⟨0, 0, 0, 0⟩
set_option maxRecDepth 65536 in
set_option maxHeartbeats 40000000 in
theorem eqNull (l : Launch) (Z : State) (a0 : Array Value) (hw : ∀ d ∈ tables_1, d.before a0 Z = true) (a1 : Addr) (h0 : Heap) (n0 : Nat) (O0 : Old Z n0 h0)  :
    MetN l Z (⟨"com/example/tariffic/tariffic/engine/PriceClass", "equals", "(Ljava/lang/Object;)Z"⟩ : MethodName) prog_37_method_4_code 2 (some .boolean) R_eqNull [] #[(.ref a1), .null] h0 (fun v h L => v = some (.int (0 : Int32)) ∧ Fr n0 L ∧ h = h0) := by
  refine MetN.walk (plainFor_of_name pn_4) ?_
  intro p e s m below meth c s₁ hx hZ hby hml hown hnm hret hlk X0 e0
  have N0 := Fr.nil n0
  refine Win.to s₁ (mkF m 0 #[.val (.ref a1), .val .null] []) (fun _ k => castTop (by first | (simp [entryFrame, mkF, argsToLocals, Value.category]; done) | rfl) k) ?_
  refine Win.to s₁ (mkF m 1 #[.val (.ref a1), .val .null] [.null]) (fun _ k => XS.aloadN X0.here hx rfl (hb hby d4_0) rfl rfl k) ?_
  refine Win.to s₁ (mkF m 4 #[.val (.ref a1), .val .null] [(.int (0 : Int32))]) (fun _ k => X0.instanceofNull hx (g := (mkF m 1 #[.val (.ref a1), .val .null] [.null])) rfl rfl (hb hby d4_1) _ k) ?_
  refine Win.to s₁ (mkF m 39 #[.val (.ref a1), .val .null] []) (fun _ k => XS.ifYes X0.here hx rfl (pc0 := 4) (pc' := 39) rfl (hb hby d4_4) rfl ((if0 _ _).trans (teq (show (0 : Int32) = (0 : Int32) from by decide)).1) (by decide) (by decide) k) ?_
  refine Win.to s₁ (mkF m 40 #[.val (.ref a1), .val .null] [(.int (0 : Int32))]) (fun _ k => XS.iconst X0.here hx rfl (hb hby d4_39) k) ?_
  exact Win.retN X0 hx hlk (t := .boolean) hret (by simp) rfl (hb hby d4_40) (by decide) (by decide) (by (try rw [e0]); exact ⟨rfl, N0, rfl⟩)
abbrev R_eqInt : Room := ⟨0, 0, 0, 0⟩
set_option maxRecDepth 65536 in
set_option maxHeartbeats 40000000 in
theorem eqInt (l : Launch) (Z : State) (a0 : Array Value) (hw : ∀ d ∈ tables_1, d.before a0 Z = true) (a1 : Addr) (a2 : Addr) (h0 : Heap) (n0 : Nat) (O0 : Old Z n0 h0) (E2 : Exa Z h0 a2 "java/lang/Integer") :
    MetN l Z (⟨"com/example/tariffic/tariffic/engine/PriceClass", "equals", "(Ljava/lang/Object;)Z"⟩ : MethodName) prog_37_method_4_code 2 (some .boolean) R_eqInt [] #[(.ref a1), (.ref a2)] h0 (fun v h L => v = some (.int (0 : Int32)) ∧ Fr n0 L ∧ h = h0) := by
  refine MetN.walk (plainFor_of_name pn_4) ?_
  intro p e s m below meth c s₁ hx hZ hby hml hown hnm hret hlk X0 e0
  have N0 := Fr.nil n0
  refine Win.to s₁ (mkF m 0 #[.val (.ref a1), .val (.ref a2)] []) (fun _ k => castTop (by first | (simp [entryFrame, mkF, argsToLocals, Value.category]; done) | rfl) k) ?_
  refine Win.to s₁ (mkF m 1 #[.val (.ref a1), .val (.ref a2)] [(.ref a2)]) (fun _ k => XS.aloadN X0.here hx rfl (hb hby d4_0) rfl rfl k) ?_
  obtain ⟨T144, X144, e144, st144⟩ := instNo X0 hx hZ hown (hw _ (List.mem_of_getElem? (i := 41) rfl)) e0 E2 (own_no hw) (g := (mkF m 1 #[.val (.ref a1), .val (.ref a2)] [(.ref a2)])) rfl rfl (hb hby d4_1)
  refine Win.to T144 (mkF m 4 #[.val (.ref a1), .val (.ref a2)] [(.int (0 : Int32))]) (fun _ k => st144 _ k) ?_
  refine Win.to T144 (mkF m 39 #[.val (.ref a1), .val (.ref a2)] []) (fun _ k => XS.ifYes X144.here hx rfl (pc0 := 4) (pc' := 39) rfl (hb hby d4_4) rfl ((if0 _ _).trans (teq (show (0 : Int32) = (0 : Int32) from by decide)).1) (by decide) (by decide) k) ?_
  refine Win.to T144 (mkF m 40 #[.val (.ref a1), .val (.ref a2)] [(.int (0 : Int32))]) (fun _ k => XS.iconst X144.here hx rfl (hb hby d4_39) k) ?_
  exact Win.retN X144 hx hlk (t := .boolean) hret (by simp) rfl (hb hby d4_40) (by decide) (by decide) (by (try rw [e144]); exact ⟨rfl, N0, rfl⟩)
abbrev R_eqPC : Room := ⟨0, 0, 0, 0⟩
set_option maxRecDepth 65536 in
set_option maxHeartbeats 40000000 in
theorem eqPC (l : Launch) (Z : State) (a0 : Array Value) (hw : ∀ d ∈ tables_1, d.before a0 Z = true) (a1 : Addr) (a2 : Addr) (m1 : Addr) (w1 : Addr) (m2 : Addr) (w2 : Addr) (r : Int32) (h0 : Heap) (n0 : Nat) (O0 : Old Z n0 h0) (E2 : Exa Z h0 a2 "com/example/tariffic/tariffic/engine/PriceClass") (F1 : Fld Z h0 a1 "com/example/tariffic/tariffic/engine/PriceClass" "model" "Lcom/example/tariffic/tariffic/engine/ComputeModel;" (.ref m1)) (F2 : Fld Z h0 a1 "com/example/tariffic/tariffic/engine/PriceClass" "workload" "Lcom/example/tariffic/tariffic/engine/Workload;" (.ref w1)) (F3 : Fld Z h0 a2 "com/example/tariffic/tariffic/engine/PriceClass" "model" "Lcom/example/tariffic/tariffic/engine/ComputeModel;" (.ref m2)) (F4 : Fld Z h0 a2 "com/example/tariffic/tariffic/engine/PriceClass" "workload" "Lcom/example/tariffic/tariffic/engine/Workload;" (.ref w2)) (h1 : m2 = m1 → w2 = w1 → r = 1) (h2 : ¬ m2 = m1 → r = 0) (h3 : ¬ w2 = w1 → r = 0) :
    MetN l Z (⟨"com/example/tariffic/tariffic/engine/PriceClass", "equals", "(Ljava/lang/Object;)Z"⟩ : MethodName) prog_37_method_4_code 2 (some .boolean) R_eqPC [] #[(.ref a1), (.ref a2)] h0 (fun v h L => v = some (.int r) ∧ Fr n0 L ∧ h = h0) := by
  refine MetN.walk (plainFor_of_name pn_4) ?_
  intro p e s m below meth c s₁ hx hZ hby hml hown hnm hret hlk X0 e0
  have N0 := Fr.nil n0
  refine Win.to s₁ (mkF m 0 #[.val (.ref a1), .val (.ref a2)] []) (fun _ k => castTop (by first | (simp [entryFrame, mkF, argsToLocals, Value.category]; done) | rfl) k) ?_
  refine Win.to s₁ (mkF m 1 #[.val (.ref a1), .val (.ref a2)] [(.ref a2)]) (fun _ k => XS.aloadN X0.here hx rfl (hb hby d4_0) rfl rfl k) ?_
  obtain ⟨T145, X145, e145, st145⟩ := instY X0 hx hZ hown (hw _ (List.mem_of_getElem? (i := 41) rfl)) e0 (Ins.self E2) (g := (mkF m 1 #[.val (.ref a1), .val (.ref a2)] [(.ref a2)])) rfl rfl (hb hby d4_1)
  refine Win.to T145 (mkF m 4 #[.val (.ref a1), .val (.ref a2)] [(.int (1 : Int32))]) (fun _ k => st145 _ k) ?_
  refine Win.to T145 (mkF m 7 #[.val (.ref a1), .val (.ref a2)] []) (fun _ k => XS.ifNo X145.here hx rfl (hb hby d4_4) rfl ((if0 _ _).trans (feq (show ¬ ((1 : Int32) = (0 : Int32)) from by decide)).1) k) ?_
  refine Win.to T145 (mkF m 8 #[.val (.ref a1), .val (.ref a2)] [(.ref a2)]) (fun _ k => XS.aloadN X145.here hx rfl (hb hby d4_7) rfl rfl k) ?_
  obtain ⟨T146, X146, e146, st146⟩ := castY X145 hx hZ hown (hw _ (List.mem_of_getElem? (i := 41) rfl)) e145 (Ins.self E2) (g := (mkF m 8 #[.val (.ref a1), .val (.ref a2)] [(.ref a2)])) rfl rfl (hb hby d4_8)
  refine Win.to T146 (mkF m 11 #[.val (.ref a1), .val (.ref a2)] [(.ref a2)]) (fun _ k => st146 _ k) ?_
  obtain ⟨T147, X147, e147, st147⟩ := getF X146 hx hZ hown (host := "") (Or.inl (hw _ (List.mem_of_getElem? (i := 29) rfl))) Via.refl e146 F3 (g := (mkF m 11 #[.val (.ref a1), .val (.ref a2)] [(.ref a2)])) rfl rfl (hb hby d4_11)
  refine Win.to T147 (mkF m 14 #[.val (.ref a1), .val (.ref a2)] [(.ref m2)]) (fun _ k => st147 _ k) ?_
  refine Win.to T147 (mkF m 15 #[.val (.ref a1), .val (.ref a2)] [(.ref a1), (.ref m2)]) (fun _ k => XS.aloadN X147.here hx rfl (hb hby d4_14) rfl rfl k) ?_
  obtain ⟨T148, X148, e148, st148⟩ := getF X147 hx hZ hown (host := "") (Or.inl (hw _ (List.mem_of_getElem? (i := 29) rfl))) Via.refl e147 F1 (g := (mkF m 15 #[.val (.ref a1), .val (.ref a2)] [(.ref a1), (.ref m2)])) rfl rfl (hb hby d4_15)
  refine Win.to T148 (mkF m 18 #[.val (.ref a1), .val (.ref a2)] [(.ref m1), (.ref m2)]) (fun _ k => st148 _ k) ?_
  by_cases hc149 : m2 = m1
  · refine Win.to T148 (mkF m 21 #[.val (.ref a1), .val (.ref a2)] []) (fun _ k => Jvm.RoadKit.acmp (g := (mkF m 18 #[.val (.ref a1), .val (.ref a2)] [(.ref m1), (.ref m2)])) X148 hx rfl rfl rfl (pc0 := 18) (pc' := 21) (same := true) rfl (hb hby d4_18) rfl (decide_eq_true (congrArg Value.ref hc149)) (by decide) (by decide) k) ?_
    refine Win.to T148 (mkF m 22 #[.val (.ref a1), .val (.ref a2)] [(.ref a2)]) (fun _ k => XS.aloadN X148.here hx rfl (hb hby d4_21) rfl rfl k) ?_
    obtain ⟨T150, X150, e150, st150⟩ := castY X148 hx hZ hown (hw _ (List.mem_of_getElem? (i := 41) rfl)) e148 (Ins.self E2) (g := (mkF m 22 #[.val (.ref a1), .val (.ref a2)] [(.ref a2)])) rfl rfl (hb hby d4_22)
    refine Win.to T150 (mkF m 25 #[.val (.ref a1), .val (.ref a2)] [(.ref a2)]) (fun _ k => st150 _ k) ?_
    obtain ⟨T151, X151, e151, st151⟩ := getF X150 hx hZ hown (host := "") (Or.inl (hw _ (List.mem_of_getElem? (i := 34) rfl))) Via.refl e150 F4 (g := (mkF m 25 #[.val (.ref a1), .val (.ref a2)] [(.ref a2)])) rfl rfl (hb hby d4_25)
    refine Win.to T151 (mkF m 28 #[.val (.ref a1), .val (.ref a2)] [(.ref w2)]) (fun _ k => st151 _ k) ?_
    refine Win.to T151 (mkF m 29 #[.val (.ref a1), .val (.ref a2)] [(.ref a1), (.ref w2)]) (fun _ k => XS.aloadN X151.here hx rfl (hb hby d4_28) rfl rfl k) ?_
    obtain ⟨T152, X152, e152, st152⟩ := getF X151 hx hZ hown (host := "") (Or.inl (hw _ (List.mem_of_getElem? (i := 34) rfl))) Via.refl e151 F2 (g := (mkF m 29 #[.val (.ref a1), .val (.ref a2)] [(.ref a1), (.ref w2)])) rfl rfl (hb hby d4_29)
    refine Win.to T152 (mkF m 32 #[.val (.ref a1), .val (.ref a2)] [(.ref w1), (.ref w2)]) (fun _ k => st152 _ k) ?_
    by_cases hc153 : w2 = w1
    · refine Win.to T152 (mkF m 35 #[.val (.ref a1), .val (.ref a2)] []) (fun _ k => Jvm.RoadKit.acmp (g := (mkF m 32 #[.val (.ref a1), .val (.ref a2)] [(.ref w1), (.ref w2)])) X152 hx rfl rfl rfl (pc0 := 32) (pc' := 35) (same := true) rfl (hb hby d4_32) rfl (decide_eq_true (congrArg Value.ref hc153)) (by decide) (by decide) k) ?_
      refine Win.to T152 (mkF m 36 #[.val (.ref a1), .val (.ref a2)] [(.int (1 : Int32))]) (fun _ k => XS.iconst X152.here hx rfl (hb hby d4_35) k) ?_
      refine Win.to T152 (mkF m 40 #[.val (.ref a1), .val (.ref a2)] [(.int (1 : Int32))]) (fun _ k => XS.goto X152.here hx rfl (pc0 := 36) (pc' := 40) rfl (hb hby d4_36) (by decide) (by decide) k) ?_
      exact Win.retN X152 hx hlk (t := .boolean) hret (by simp) rfl (hb hby d4_40) (by decide) (by decide) (by (try rw [e152]); exact ⟨(own_eqi (h1 hc149 hc153)), N0, rfl⟩)
    · refine Win.to T152 (mkF m 39 #[.val (.ref a1), .val (.ref a2)] []) (fun _ k => Jvm.RoadKit.acmp (g := (mkF m 32 #[.val (.ref a1), .val (.ref a2)] [(.ref w1), (.ref w2)])) X152 hx rfl rfl rfl (pc0 := 32) (pc' := 39) (same := false) rfl (hb hby d4_32) rfl (decide_eq_false fun q => hc153 (Value.ref.inj q)) (by decide) (by decide) k) ?_
      refine Win.to T152 (mkF m 40 #[.val (.ref a1), .val (.ref a2)] [(.int (0 : Int32))]) (fun _ k => XS.iconst X152.here hx rfl (hb hby d4_39) k) ?_
      exact Win.retN X152 hx hlk (t := .boolean) hret (by simp) rfl (hb hby d4_40) (by decide) (by decide) (by (try rw [e152]); exact ⟨(own_eqi (h3 hc153)), N0, rfl⟩)
  · refine Win.to T148 (mkF m 39 #[.val (.ref a1), .val (.ref a2)] []) (fun _ k => Jvm.RoadKit.acmp (g := (mkF m 18 #[.val (.ref a1), .val (.ref a2)] [(.ref m1), (.ref m2)])) X148 hx rfl rfl rfl (pc0 := 18) (pc' := 39) (same := false) rfl (hb hby d4_18) rfl (decide_eq_false fun q => hc149 (Value.ref.inj q)) (by decide) (by decide) k) ?_
    refine Win.to T148 (mkF m 40 #[.val (.ref a1), .val (.ref a2)] [(.int (0 : Int32))]) (fun _ k => XS.iconst X148.here hx rfl (hb hby d4_39) k) ?_
    exact Win.retN X148 hx hlk (t := .boolean) hret (by simp) rfl (hb hby d4_40) (by decide) (by decide) (by (try rw [e148]); exact ⟨(own_eqi (h2 hc149)), N0, rfl⟩)
abbrev R_mkNum : Room := ⟨1, 0, 0, 12⟩
set_option maxRecDepth 65536 in
set_option maxHeartbeats 40000000 in
theorem mkNum (l : Launch) (Z : State) (a0 : Array Value) (hw : ∀ d ∈ tables_1, d.before a0 Z = true) (a1 : Addr) (h0 : Heap) (n0 : Nat) (O0 : Old Z n0 h0)  :
    MetN l Z (⟨"java/lang/Number", "<init>", "()V"⟩ : MethodName) jdk_18_method_1_code 1 none R_mkNum [] #[(.ref a1)] h0 (fun v h L => v = none ∧ Fr n0 L ∧ h = h0) := by
  refine MetN.walk (plainFor_of_name pn_7) ?_
  intro p e s m below meth c s₁ hx hZ hby hml hown hnm hret hlk X0 e0
  have N0 := Fr.nil n0
  refine Win.to s₁ (mkF m 0 #[.val (.ref a1)] []) (fun _ k => castTop (by first | (simp [entryFrame, mkF, argsToLocals, Value.category]; done) | rfl) k) ?_
  refine Win.to s₁ (mkF m 1 #[.val (.ref a1)] [(.ref a1)]) (fun _ k => XS.aloadN X0.here hx rfl (hb hby d7_0) rfl rfl k) ?_
  obtain ⟨T154, X154, e154, st154⟩ := initO X0 hx hZ hown (hw _ (List.mem_of_getElem? (i := 69) rfl)) (hw _ (List.mem_of_getElem? (i := 13) rfl)) (hw _ (List.mem_of_getElem? (i := 14) rfl)) e0 (g := (mkF m 1 #[.val (.ref a1)] [(.ref a1)])) rfl (by rw [hml]; rfl) rfl (hb hby d7_1) (by decide) (W := 0) (by show 2 * 0 + _ ≤ _; exact Nat.le_of_eq rfl) (by decide)
  refine Win.to T154 (mkF m 4 #[.val (.ref a1)] []) (fun _ k => st154 _ k) ?_
  exact Win.retV X154 hx hlk hret (hb hby d7_4) (by decide) (by decide) (by (try rw [e154]); exact ⟨rfl, N0, rfl⟩)
abbrev R_mkInt : Room := ⟨2, 0, 0, 24⟩
set_option maxRecDepth 65536 in
set_option maxHeartbeats 40000000 in
theorem mkInt (l : Launch) (Z : State) (a0 : Array Value) (hw : ∀ d ∈ tables_1, d.before a0 Z = true) (a1 : Addr) (p1 : Int32) (h0 : Heap) (n0 : Nat) (O0 : Old Z n0 h0) (E1 : Exa Z h0 a1 "java/lang/Integer") (F1 : Fld Z h0 a1 "java/lang/Integer" "value" "I" (.int (0 : Int32))) (g1 : n0 ≤ a1) :
    MetN l Z (⟨"java/lang/Integer", "<init>", "(I)V"⟩ : MethodName) jdk_33_method_23_code 2 none R_mkInt [] #[(.ref a1), (.int p1)] h0 (fun v h L => v = none ∧ Fr n0 L ∧ Keep h0 h [a1]) := by
  refine MetN.walk (plainFor_of_name pn_6) ?_
  intro p e s m below meth c s₁ hx hZ hby hml hown hnm hret hlk X0 e0
  have N0 := Fr.nil n0
  refine Win.to s₁ (mkF m 0 #[.val (.ref a1), .val (.int p1)] []) (fun _ k => castTop (by first | (simp [entryFrame, mkF, argsToLocals, Value.category]; done) | rfl) k) ?_
  refine Win.to s₁ (mkF m 1 #[.val (.ref a1), .val (.int p1)] [(.ref a1)]) (fun _ k => XS.aloadN X0.here hx rfl (hb hby d6_0) rfl rfl k) ?_
  obtain ⟨T155, h155, v155, L155, X155, e155, ⟨rfl, N155q, r155_0⟩, st155⟩ := N.special X0 hx hZ (y := (⟨"java/lang/Number", "<init>", "()V"⟩ : MethodName)) rfl hown (hw _ (List.mem_of_getElem? (i := 63) rfl)) (hw _ (List.mem_of_getElem? (i := 64) rfl)) (hw _ (List.mem_of_getElem? (i := 67) rfl)) (hw _ (List.mem_of_getElem? (i := 68) rfl)) (by decide) (mkNum l Z a0 hw a1 h0 n0 O0 ) e0 (g := (mkF m 1 #[.val (.ref a1), .val (.int p1)] [(.ref a1)])) rfl (by rw [hml]; rfl) (a := a1) (argsL := []) (rest := []) rfl (lenOf pd___V rfl) rfl (W := 0) (by show 2 * 0 + _ ≤ _; exact Nat.le_of_eq rfl) (hb hby d6_1) (by decide) (by decide) (by decide) (by decide)
  have N156 := Fr.app N0 N155q
  have e155 := e155.trans r155_0
  refine Win.to T155 (mkF m 4 #[.val (.ref a1), .val (.int p1)] []) (fun _ k => st155 _ k) ?_
  refine Win.to T155 (mkF m 5 #[.val (.ref a1), .val (.int p1)] [(.ref a1)]) (fun _ k => XS.aloadN X155.here hx rfl (hb hby d6_4) rfl rfl k) ?_
  refine Win.to T155 (mkF m 6 #[.val (.ref a1), .val (.int p1)] [(.int p1), (.ref a1)]) (fun _ k => XS.iloadN X155.here hx rfl (hb hby d6_5) rfl k) ?_
  obtain ⟨T157, h157, X157, e157, W157, st157⟩ := putF X155 hx hZ hown (host := "") (Or.inl (hw _ (List.mem_of_getElem? (i := 70) rfl))) Via.refl e155 F1 E1 (Or.inr ⟨(hw _ (List.mem_of_getElem? (i := 71) rfl)), rfl, hnm⟩) (hw _ (List.mem_of_getElem? (i := 58) rfl)) (ty := .int) (by decide) rfl rfl (g := (mkF m 6 #[.val (.ref a1), .val (.int p1)] [(.int p1), (.ref a1)])) rfl rfl (hb hby d6_6)
  have O159 := Old.wr O0 W157 g1
  have K160 : Keep h0 h157 [a1] := (Keep.refl h0 [a1]).wr W157 (Or.inl (List.mem_of_getElem? (i := 0) rfl))
  have N161 := Fr.snoc X157 N156 g1
  have F158 : Fld Z h157 a1 "java/lang/Integer" "value" "I" (.int p1) := Fld.same W157 F1
  refine Win.to T157 (mkF m 9 #[.val (.ref a1), .val (.int p1)] []) (fun _ k => st157 _ k) ?_
  exact Win.retV X157 hx hlk hret (hb hby d6_9) (by decide) (by decide) (by (try rw [e157]); exact ⟨rfl, N161, K160⟩)
abbrev R_valOf : Room := ⟨3, 1, 1, 38⟩
set_option maxRecDepth 65536 in
set_option maxHeartbeats 40000000 in
theorem valOf (l : Launch) (Z : State) (a0 : Array Value) (hw : ∀ d ∈ tables_1, d.before a0 Z = true) (p1 : Int32) (cA : Addr) (cl : Cell) (h0 : Heap) (n0 : Nat) (O0 : Old Z n0 h0) (S_high : Sta Z Z.heap "java/lang/Integer$IntegerCache" "high" "I" (.int (127 : Int32))) (S_cache : Sta Z Z.heap "java/lang/Integer$IntegerCache" "cache" "[Ljava/lang/Integer;" (.ref cA)) (hA : Arr Z Z.heap cA cl (.object "java/lang/Integer")) (hL : cl.slots.size = 256) (hC : ∀ j : Int32, ¬ (j < 0 ∨ cl.slots.size ≤ j.toNatClampNeg) → ∃ x, cl.slots[j.toNatClampNeg]? = some (.ref x) ∧ Exa Z Z.heap x "java/lang/Integer") :
    MetN l Z (⟨"java/lang/Integer", "valueOf", "(I)Ljava/lang/Integer;"⟩ : MethodName) jdk_33_method_22_code 1 (some (.object "java/lang/Integer")) R_valOf [] #[(.int p1)] h0 (fun v h L => ∃ (r : Addr), v = some (.ref r) ∧ Fr n0 L ∧ Keep h0 h [] ∧ Exa Z h r "java/lang/Integer") := by
  refine MetN.walk (plainFor_of_name pn_5) ?_
  intro p e s m below meth c s₁ hx hZ hby hml hown hnm hret hlk X0 e0
  have N0 := Fr.nil n0
  refine Win.to s₁ (mkF m 0 #[.val (.int p1)] []) (fun _ k => castTop (by first | (simp [entryFrame, mkF, argsToLocals, Value.category]; done) | rfl) k) ?_
  refine Win.to s₁ (mkF m 1 #[.val (.int p1)] [(.int p1)]) (fun _ k => XS.iloadN X0.here hx rfl (hb hby d5_0) rfl k) ?_
  refine Win.to s₁ (mkF m 3 #[.val (.int p1)] [(.int (-128 : Int32)), (.int p1)]) (fun _ k => XS.bipush X0.here hx rfl (hb hby d5_1) k) ?_
  by_cases hc162 : p1 < (-128 : Int32)
  · refine Win.to s₁ (mkF m 23 #[.val (.int p1)] []) (fun _ k => XS.icmpYes X0.here hx rfl (pc0 := 3) (pc' := 23) rfl (hb hby d5_3) rfl (tlt hc162).1 (by decide) (by decide) k) ?_
    obtain ⟨T163, h163, X163, e163, E163, A163, D163, -, st163⟩ := newO X0 hx hZ hown (hw _ (List.mem_of_getElem? (i := 57) rfl)) (hw _ (List.mem_of_getElem? (i := 58) rfl)) (hw _ (List.mem_of_getElem? (i := 49) rfl)) e0 (g := (mkF m 23 #[.val (.int p1)] [])) rfl (hb hby d5_23) (by decide) (by decide)
    obtain ⟨b163, g163⟩ : ∃ z, z = h0.size := ⟨_, rfl⟩
    rw [← g163] at A163 D163 st163
    have g164 : n0 ≤ b163 := Nat.le_trans (own_le O0) (Nat.le_of_eq g163.symm)
    have z165 : h0.size ≤ b163 := (Nat.le_of_eq g163.symm)
    have O166 := Old.ext O0 E163
    have K167 : Keep h0 h163 [] := (Keep.refl h0 []).ext E163
    have F168 : Fld Z h163 b163 "java/lang/Integer" "value" "I" (.int (0 : Int32)) := D163 (Or.inr (hw _ (List.mem_of_getElem? (i := 71) rfl))) (ty := .int) (by decide)
    refine Win.to T163 (mkF m 26 #[.val (.int p1)] [(.ref b163)]) (fun _ k => st163 _ k) ?_
    refine Win.to T163 (mkF m 27 #[.val (.int p1)] [(.ref b163), (.ref b163)]) (fun _ k => XS.dup X163.here hx rfl (hb hby d5_26) rfl rfl k) ?_
    refine Win.to T163 (mkF m 28 #[.val (.int p1)] [(.int p1), (.ref b163), (.ref b163)]) (fun _ k => XS.iloadN X163.here hx rfl (hb hby d5_27) rfl k) ?_
    obtain ⟨T169, h169, v169, L169, X169, e169, ⟨rfl, N169q, r169_0⟩, st169⟩ := N.special X163 hx hZ (y := (⟨"java/lang/Integer", "<init>", "(I)V"⟩ : MethodName)) rfl hown (hw _ (List.mem_of_getElem? (i := 59) rfl)) (hw _ (List.mem_of_getElem? (i := 60) rfl)) (hw _ (List.mem_of_getElem? (i := 49) rfl)) (hw _ (List.mem_of_getElem? (i := 62) rfl)) (by decide) (mkInt l Z a0 hw b163 p1 h163 n0 O166 A163 F168 g164) e163 (g := (mkF m 28 #[.val (.int p1)] [(.int p1), (.ref b163), (.ref b163)])) rfl (by rw [hml]; rfl) (a := b163) (argsL := [(.int p1)]) (rest := [(.ref b163)]) rfl (lenOf pd__I_V rfl) rfl (W := 1) (by show 2 * 0 + _ ≤ _; exact Nat.le_of_eq rfl) (hb hby d5_28) (by decide) (by decide) (by decide) (by decide)
    have N170 := Fr.app N0 N169q
    have O171 := Old.keep O166 r169_0 (allS g164 all0)
    have K172 : Keep h0 h169 [] := Keep.trans K167 r169_0 (allS (Or.inr z165) all0)
    refine Win.to T169 (mkF m 31 #[.val (.int p1)] [(.ref b163)]) (fun _ k => st169 _ k) ?_
    have F173 : Exa Z h169 b163 "java/lang/Integer" := (A163.keep r169_0)
    exact Win.retA X169 hx hlk hret rfl rfl (hb hby d5_31) (by decide) (by decide) (by (try rw [e169]); exact ⟨b163, rfl, N170, K172, F173⟩)
  · refine Win.to s₁ (mkF m 6 #[.val (.int p1)] []) (fun _ k => XS.icmpNo X0.here hx rfl (hb hby d5_3) rfl (flt hc162).1 k) ?_
    refine Win.to s₁ (mkF m 7 #[.val (.int p1)] [(.int p1)]) (fun _ k => XS.iloadN X0.here hx rfl (hb hby d5_6) rfl k) ?_
    obtain ⟨T174, X174, e174, st174⟩ := getS2 X0 hx hZ hown (host := "") (Or.inl (hw _ (List.mem_of_getElem? (i := 51) rfl))) Via.refl e0 (Sta.ext O0.2 S_high) (g := (mkF m 7 #[.val (.int p1)] [(.int p1)])) rfl (hb hby d5_7)
    refine Win.to T174 (mkF m 10 #[.val (.int p1)] [(.int (127 : Int32)), (.int p1)]) (fun _ k => st174 _ k) ?_
    by_cases hc175 : (127 : Int32) < p1
    · refine Win.to T174 (mkF m 23 #[.val (.int p1)] []) (fun _ k => XS.icmpYes X174.here hx rfl (pc0 := 10) (pc' := 23) rfl (hb hby d5_10) rfl (tlt hc175).2.2.1 (by decide) (by decide) k) ?_
      obtain ⟨T176, h176, X176, e176, E176, A176, D176, -, st176⟩ := newO X174 hx hZ hown (hw _ (List.mem_of_getElem? (i := 57) rfl)) (hw _ (List.mem_of_getElem? (i := 58) rfl)) (hw _ (List.mem_of_getElem? (i := 49) rfl)) e174 (g := (mkF m 23 #[.val (.int p1)] [])) rfl (hb hby d5_23) (by decide) (by decide)
      obtain ⟨b176, g176⟩ : ∃ z, z = h0.size := ⟨_, rfl⟩
      rw [← g176] at A176 D176 st176
      have g177 : n0 ≤ b176 := Nat.le_trans (own_le O0) (Nat.le_of_eq g176.symm)
      have z178 : h0.size ≤ b176 := (Nat.le_of_eq g176.symm)
      have O179 := Old.ext O0 E176
      have K180 : Keep h0 h176 [] := (Keep.refl h0 []).ext E176
      have F181 : Fld Z h176 b176 "java/lang/Integer" "value" "I" (.int (0 : Int32)) := D176 (Or.inr (hw _ (List.mem_of_getElem? (i := 71) rfl))) (ty := .int) (by decide)
      refine Win.to T176 (mkF m 26 #[.val (.int p1)] [(.ref b176)]) (fun _ k => st176 _ k) ?_
      refine Win.to T176 (mkF m 27 #[.val (.int p1)] [(.ref b176), (.ref b176)]) (fun _ k => XS.dup X176.here hx rfl (hb hby d5_26) rfl rfl k) ?_
      refine Win.to T176 (mkF m 28 #[.val (.int p1)] [(.int p1), (.ref b176), (.ref b176)]) (fun _ k => XS.iloadN X176.here hx rfl (hb hby d5_27) rfl k) ?_
      obtain ⟨T182, h182, v182, L182, X182, e182, ⟨rfl, N182q, r182_0⟩, st182⟩ := N.special X176 hx hZ (y := (⟨"java/lang/Integer", "<init>", "(I)V"⟩ : MethodName)) rfl hown (hw _ (List.mem_of_getElem? (i := 59) rfl)) (hw _ (List.mem_of_getElem? (i := 60) rfl)) (hw _ (List.mem_of_getElem? (i := 49) rfl)) (hw _ (List.mem_of_getElem? (i := 62) rfl)) (by decide) (mkInt l Z a0 hw b176 p1 h176 n0 O179 A176 F181 g177) e176 (g := (mkF m 28 #[.val (.int p1)] [(.int p1), (.ref b176), (.ref b176)])) rfl (by rw [hml]; rfl) (a := b176) (argsL := [(.int p1)]) (rest := [(.ref b176)]) rfl (lenOf pd__I_V rfl) rfl (W := 1) (by show 2 * 0 + _ ≤ _; exact Nat.le_of_eq rfl) (hb hby d5_28) (by decide) (by decide) (by decide) (by decide)
      have N183 := Fr.app N0 N182q
      have O184 := Old.keep O179 r182_0 (allS g177 all0)
      have K185 : Keep h0 h182 [] := Keep.trans K180 r182_0 (allS (Or.inr z178) all0)
      refine Win.to T182 (mkF m 31 #[.val (.int p1)] [(.ref b176)]) (fun _ k => st182 _ k) ?_
      have F186 : Exa Z h182 b176 "java/lang/Integer" := (A176.keep r182_0)
      exact Win.retA X182 hx hlk hret rfl rfl (hb hby d5_31) (by decide) (by decide) (by (try rw [e182]); exact ⟨b176, rfl, N183, K185, F186⟩)
    · refine Win.to T174 (mkF m 13 #[.val (.int p1)] []) (fun _ k => XS.icmpNo X174.here hx rfl (hb hby d5_10) rfl (flt hc175).2.2.1 k) ?_
      obtain ⟨T187, X187, e187, st187⟩ := getS2 X174 hx hZ hown (host := "") (Or.inl (hw _ (List.mem_of_getElem? (i := 53) rfl))) Via.refl e174 (Sta.ext O0.2 S_cache) (g := (mkF m 13 #[.val (.int p1)] [])) rfl (hb hby d5_13)
      refine Win.to T187 (mkF m 16 #[.val (.int p1)] [(.ref cA)]) (fun _ k => st187 _ k) ?_
      refine Win.to T187 (mkF m 17 #[.val (.int p1)] [(.int p1), (.ref cA)]) (fun _ k => XS.iloadN X187.here hx rfl (hb hby d5_16) rfl k) ?_
      refine Win.to T187 (mkF m 20 #[.val (.int p1)] [(.int (128 : Int32)), (.int p1), (.ref cA)]) (fun _ k => XS.sipush X187.here hx rfl (hb hby d5_17) k) ?_
      refine Win.to T187 (mkF m 21 #[.val (.int p1)] [(.int (p1 + (128 : Int32))), (.ref cA)]) (fun _ k => XS.iadd X187.here hx rfl (hb hby d5_20) rfl k) ?_
      have hin : ¬ ((p1 + (128 : Int32)) < 0 ∨ cl.slots.size ≤ ((p1 + (128 : Int32))).toNatClampNeg) := own_in hL hc162 hc175
      obtain ⟨x1, hx1, hE1⟩ := hC _ hin
      have Ar := Arr.ext O0.2 hA
      have Fx : Exa Z h0 x1 "java/lang/Integer" := Exa.ext O0.2 hE1
      refine Win.to T187 (mkF m 22 #[.val (.int p1)] [(.ref x1)]) (fun _ k => X187.aaload hx (j := (p1 + (128 : Int32))) (v := (.ref x1)) (by rw [e187]; exact Ar.1) (State.isArrayOf_alike hZ.alike Ar.2.1) rfl Ar.2.2 hin hx1 (g := (mkF m 21 #[.val (.int p1)] [(.int (p1 + (128 : Int32))), (.ref cA)])) rfl rfl (hb hby d5_21) _ k) ?_
      exact Win.retA X187 hx hlk hret rfl rfl (hb hby d5_22) (by decide) (by decide) (by (try rw [e187]); exact ⟨x1, rfl, N0, (Keep.refl _ _), Fx⟩)
set_option maxRecDepth 65536 in
set_option maxHeartbeats 40000000 in
theorem rm0 (l : Launch) (Z : State) (a0 : Array Value) (hw : ∀ d ∈ tables_1, d.before a0 Z = true) (ws : List Jvm.Cond) (p1 : Int32) (w_CORE : Addr) (w_ELASTIC : Addr) (w_DATA_WAREHOUSE : Addr) (w_TRANSACTION_PROCESSING : Addr) (cA : Addr) (cl : Cell) (h0 : Heap) (n0 : Nat) (O0 : Old Z n0 h0) (S_CORE : Sta Z Z.heap "com/example/tariffic/tariffic/engine/ComputeModel" "CORE" "Lcom/example/tariffic/tariffic/engine/ComputeModel;" (.ref w_CORE)) (S_ELASTIC : Sta Z Z.heap "com/example/tariffic/tariffic/engine/ComputeModel" "ELASTIC" "Lcom/example/tariffic/tariffic/engine/ComputeModel;" (.ref w_ELASTIC)) (S_DATA_WAREHOUSE : Sta Z Z.heap "com/example/tariffic/tariffic/engine/Workload" "DATA_WAREHOUSE" "Lcom/example/tariffic/tariffic/engine/Workload;" (.ref w_DATA_WAREHOUSE)) (S_TRANSACTION_PROCESSING : Sta Z Z.heap "com/example/tariffic/tariffic/engine/Workload" "TRANSACTION_PROCESSING" "Lcom/example/tariffic/tariffic/engine/Workload;" (.ref w_TRANSACTION_PROCESSING)) (E_CORE : Exa Z Z.heap w_CORE "com/example/tariffic/tariffic/engine/ComputeModel") (E_ELASTIC : Exa Z Z.heap w_ELASTIC "com/example/tariffic/tariffic/engine/ComputeModel") (E_DATA_WAREHOUSE : Exa Z Z.heap w_DATA_WAREHOUSE "com/example/tariffic/tariffic/engine/Workload") (E_TRANSACTION_PROCESSING : Exa Z Z.heap w_TRANSACTION_PROCESSING "com/example/tariffic/tariffic/engine/Workload") (S_high : Sta Z Z.heap "java/lang/Integer$IntegerCache" "high" "I" (.int (127 : Int32))) (S_cache : Sta Z Z.heap "java/lang/Integer$IntegerCache" "cache" "[Ljava/lang/Integer;" (.ref cA)) (hA : Arr Z Z.heap cA cl (.object "java/lang/Integer")) (hL : cl.slots.size = 256) (hC : ∀ j : Int32, ¬ (j < 0 ∨ cl.slots.size ≤ j.toNatClampNeg) → ∃ x, cl.slots[j.toNatClampNeg]? = some (.ref x) ∧ Exa Z Z.heap x "java/lang/Integer") :
    MetW l Z x code maxLocals ret room_1 ws #[(.int p1)] h0 EL1 (fun v h L => v = some (.int (1 : Int32)) ∧ Fr n0 L ∧ (True)) := by
  refine MetW.walk (plainFor_of_name pn_0) ?_
  intro p e s m below meth c s₁ hx hZ hby hml hown hnm hret hlk C0 hS0 X0 e0
  have N0 := Fr.nil n0
  refine WinW.to s₁ (mkF m 0 #[.val (.int p1), .unset, .unset, .unset, .unset, .unset, .unset, .unset, .unset, .unset, .unset, .unset] []) (fun _ k => castTop (by first | (simp [entryFrame, mkF, argsToLocals, Value.category, maxLocals]; done) | rfl) k) ?_
  have F188 : Exa Z h0 w_CORE "com/example/tariffic/tariffic/engine/ComputeModel" := (Exa.ext O0.2 E_CORE)
  have F189 : Exa Z h0 w_ELASTIC "com/example/tariffic/tariffic/engine/ComputeModel" := (Exa.ext O0.2 E_ELASTIC)
  have F190 : Exa Z h0 w_DATA_WAREHOUSE "com/example/tariffic/tariffic/engine/Workload" := (Exa.ext O0.2 E_DATA_WAREHOUSE)
  have F191 : Exa Z h0 w_TRANSACTION_PROCESSING "com/example/tariffic/tariffic/engine/Workload" := (Exa.ext O0.2 E_TRANSACTION_PROCESSING)
  have Jc66 : ∀ (vmc66 : Vm) (kc66 : Nat) (Tc66 : State) (locsc66 : List Loc) (hc66 : Heap) (Xc66 : Stand p l e room_1 (s.setVm vmc66) m #[(.int p1)] below meth c Tc66 locsc66 0 0) (Nc66 : Fr n0 locsc66) (ec66 : Tc66.heap = hc66) (Oc66 : Old Z n0 hc66) (Kc66 : Keep h0 hc66 []) (hSc66 : s.Since vmc66 kc66) (hkc66 : kc66 ≤ hc66.size) (hZc66 : Z.Warmed39 (s.setVm vmc66).vm) (hownc66 : (s.setVm vmc66).vm.findClass "com/example/tariffic/tariffic/engine/PriceClassEqualsPinLaw" = some m.cls) (Cc66 : CHr Z EL1 s.vm s.heap vmc66 hc66) (m1 : Addr) (w1 : Addr) (m2 : Addr) (w2 : Addr)  (Fc66_0 : Exa Z hc66 m1 "com/example/tariffic/tariffic/engine/ComputeModel") (Fc66_1 : Exa Z hc66 w1 "com/example/tariffic/tariffic/engine/Workload") (Fc66_2 : Exa Z hc66 m2 "com/example/tariffic/tariffic/engine/ComputeModel") (Fc66_3 : Exa Z hc66 w2 "com/example/tariffic/tariffic/engine/Workload"), WinW p e below s room_1 Z EL1 (fun v h L => v = some (.int (1 : Int32)) ∧ Fr n0 L ∧ (True)) (Tc66.setTop (mkF m 66 #[.val (.int p1), .val (.ref m1), .val (.ref w1), .val (.ref m2), .val (.ref w2), .unset, .unset, .unset, .unset, .unset, .unset, .unset] [])) := by
    intro vmc66 kc66 Tc66 locsc66 hc66 Xc66 Nc66 ec66 Oc66 Kc66 hSc66 hkc66 hZc66 hownc66 Cc66 m1 w1 m2 w2 Fc66_0 Fc66_1 Fc66_2 Fc66_3
    refine WinW.to Tc66 (mkF m 67 #[.val (.int p1), .val (.ref m1), .val (.ref w1), .val (.ref m2), .val (.ref w2), .unset, .unset, .unset, .unset, .unset, .unset, .unset] [(.int p1)]) (fun _ k => XS.iloadN Xc66.here hx rfl (hb hby at_66) rfl k) ?_
    refine WinW.to Tc66 (mkF m 68 #[.val (.int p1), .val (.ref m1), .val (.ref w1), .val (.ref m2), .val (.ref w2), .unset, .unset, .unset, .unset, .unset, .unset, .unset] [(.int (4 : Int32)), (.int p1)]) (fun _ k => XS.iconst Xc66.here hx rfl (hb hby at_67) k) ?_
    refine WinW.to Tc66 (mkF m 69 #[.val (.int p1), .val (.ref m1), .val (.ref w1), .val (.ref m2), .val (.ref w2), .unset, .unset, .unset, .unset, .unset, .unset, .unset] [(.int ((p1.toUInt32 >>> ((4 : Int32) &&& 31).toUInt32).toInt32))]) (fun _ k => XS.iushr Xc66.here hx rfl (hb hby at_68) rfl k) ?_
    refine WinW.to Tc66 (mkF m 70 #[.val (.int p1), .val (.ref m1), .val (.ref w1), .val (.ref m2), .val (.ref w2), .unset, .unset, .unset, .unset, .unset, .unset, .unset] [(.int (3 : Int32)), (.int ((p1.toUInt32 >>> ((4 : Int32) &&& 31).toUInt32).toInt32))]) (fun _ k => XS.iconst Xc66.here hx rfl (hb hby at_69) k) ?_
    refine WinW.to Tc66 (mkF m 71 #[.val (.int p1), .val (.ref m1), .val (.ref w1), .val (.ref m2), .val (.ref w2), .unset, .unset, .unset, .unset, .unset, .unset, .unset] [(.int (((p1.toUInt32 >>> ((4 : Int32) &&& 31).toUInt32).toInt32) &&& (3 : Int32)))]) (fun _ k => XS.iand Xc66.here hx rfl (hb hby at_70) rfl k) ?_
    refine WinW.to Tc66 (mkF m 73 #[.val (.int p1), .val (.ref m1), .val (.ref w1), .val (.ref m2), .val (.ref w2), .val (.int (((p1.toUInt32 >>> ((4 : Int32) &&& 31).toUInt32).toInt32) &&& (3 : Int32))), .unset, .unset, .unset, .unset, .unset, .unset] []) (fun _ k => XS.istore Xc66.here hx rfl (hb hby at_71) rfl (l' := #[.val (.int p1), .val (.ref m1), .val (.ref w1), .val (.ref m2), .val (.ref w2), .val (.int (((p1.toUInt32 >>> ((4 : Int32) &&& 31).toUInt32).toInt32) &&& (3 : Int32))), .unset, .unset, .unset, .unset, .unset, .unset]) rfl k) ?_
    obtain ⟨T192, h192, X192, e192, E192, A192, D192, -, st192⟩ := newO Xc66 hx hZc66 hownc66 (hw _ (List.mem_of_getElem? (i := 6) rfl)) (hw _ (List.mem_of_getElem? (i := 7) rfl)) (hw _ (List.mem_of_getElem? (i := 8) rfl)) ec66 (g := (mkF m 73 #[.val (.int p1), .val (.ref m1), .val (.ref w1), .val (.ref m2), .val (.ref w2), .val (.int (((p1.toUInt32 >>> ((4 : Int32) &&& 31).toUInt32).toInt32) &&& (3 : Int32))), .unset, .unset, .unset, .unset, .unset, .unset] [])) rfl (hb hby at_73) (by decide) (by decide)
    obtain ⟨b192, g192⟩ : ∃ z, z = hc66.size := ⟨_, rfl⟩
    rw [← g192] at A192 D192 st192
    have ne193 : m1 ≠ b192 := Nat.ne_of_lt (Nat.lt_of_lt_of_le Fc66_0.lt (Nat.le_of_eq g192.symm))
    have ne194 : w1 ≠ b192 := Nat.ne_of_lt (Nat.lt_of_lt_of_le Fc66_1.lt (Nat.le_of_eq g192.symm))
    have ne195 : m2 ≠ b192 := Nat.ne_of_lt (Nat.lt_of_lt_of_le Fc66_2.lt (Nat.le_of_eq g192.symm))
    have ne196 : w2 ≠ b192 := Nat.ne_of_lt (Nat.lt_of_lt_of_le Fc66_3.lt (Nat.le_of_eq g192.symm))
    have ne197 : w_CORE ≠ b192 := Nat.ne_of_lt (Nat.lt_of_lt_of_le (Exa.ext Oc66.2 E_CORE).lt (Nat.le_of_eq g192.symm))
    have ne198 : w_ELASTIC ≠ b192 := Nat.ne_of_lt (Nat.lt_of_lt_of_le (Exa.ext Oc66.2 E_ELASTIC).lt (Nat.le_of_eq g192.symm))
    have ne199 : w_DATA_WAREHOUSE ≠ b192 := Nat.ne_of_lt (Nat.lt_of_lt_of_le (Exa.ext Oc66.2 E_DATA_WAREHOUSE).lt (Nat.le_of_eq g192.symm))
    have ne200 : w_TRANSACTION_PROCESSING ≠ b192 := Nat.ne_of_lt (Nat.lt_of_lt_of_le (Exa.ext Oc66.2 E_TRANSACTION_PROCESSING).lt (Nat.le_of_eq g192.symm))
    have g201 : n0 ≤ b192 := Nat.le_trans (own_le Oc66) (Nat.le_of_eq g192.symm)
    have z202 : h0.size ≤ b192 := Nat.le_trans Kc66.1 (Nat.le_of_eq g192.symm)
    have O203 := Old.ext Oc66 E192
    have hk204 := Nat.le_trans hkc66 E192.1
    have K205 : Keep h0 h192 [] := Kc66.ext E192
    have c206 := CHr.ext E192 Cc66.1
    have C207 := CHr.trans Cc66 c206
    have F208 : Fld Z h192 b192 "com/example/tariffic/tariffic/engine/PriceClass" "model" "Lcom/example/tariffic/tariffic/engine/ComputeModel;" .null := D192 (Or.inr (hw _ (List.mem_of_getElem? (i := 30) rfl))) (ty := (.object "com/example/tariffic/tariffic/engine/ComputeModel")) (by decide)
    have F209 : Fld Z h192 b192 "com/example/tariffic/tariffic/engine/PriceClass" "workload" "Lcom/example/tariffic/tariffic/engine/Workload;" .null := D192 (Or.inr (hw _ (List.mem_of_getElem? (i := 35) rfl))) (ty := (.object "com/example/tariffic/tariffic/engine/Workload")) (by decide)
    refine WinW.to T192 (mkF m 76 #[.val (.int p1), .val (.ref m1), .val (.ref w1), .val (.ref m2), .val (.ref w2), .val (.int (((p1.toUInt32 >>> ((4 : Int32) &&& 31).toUInt32).toInt32) &&& (3 : Int32))), .unset, .unset, .unset, .unset, .unset, .unset] [(.ref b192)]) (fun _ k => st192 _ k) ?_
    refine WinW.to T192 (mkF m 77 #[.val (.int p1), .val (.ref m1), .val (.ref w1), .val (.ref m2), .val (.ref w2), .val (.int (((p1.toUInt32 >>> ((4 : Int32) &&& 31).toUInt32).toInt32) &&& (3 : Int32))), .unset, .unset, .unset, .unset, .unset, .unset] [(.ref b192), (.ref b192)]) (fun _ k => XS.dup X192.here hx rfl (hb hby at_76) rfl rfl k) ?_
    refine WinW.to T192 (mkF m 78 #[.val (.int p1), .val (.ref m1), .val (.ref w1), .val (.ref m2), .val (.ref w2), .val (.int (((p1.toUInt32 >>> ((4 : Int32) &&& 31).toUInt32).toInt32) &&& (3 : Int32))), .unset, .unset, .unset, .unset, .unset, .unset] [(.ref m1), (.ref b192), (.ref b192)]) (fun _ k => XS.aloadN X192.here hx rfl (hb hby at_77) rfl rfl k) ?_
    refine WinW.to T192 (mkF m 79 #[.val (.int p1), .val (.ref m1), .val (.ref w1), .val (.ref m2), .val (.ref w2), .val (.int (((p1.toUInt32 >>> ((4 : Int32) &&& 31).toUInt32).toInt32) &&& (3 : Int32))), .unset, .unset, .unset, .unset, .unset, .unset] [(.ref w1), (.ref m1), (.ref b192), (.ref b192)]) (fun _ k => XS.aloadN X192.here hx rfl (hb hby at_78) rfl rfl k) ?_
    have F210 : Exa Z h192 m1 "com/example/tariffic/tariffic/engine/ComputeModel" := (Exa.ext E192 Fc66_0)
    have F211 : Exa Z h192 w1 "com/example/tariffic/tariffic/engine/Workload" := (Exa.ext E192 Fc66_1)
    obtain ⟨T212, h212, v212, L212, k212, X212, e212, hS212, hk212, hZ212, hown212, ⟨rfl, N212q, r212_0, r212_1, r212_2⟩, c212, st212⟩ := W.special X192 hSc66 hk204 hx hZc66 (y := (⟨"com/example/tariffic/tariffic/engine/PriceClass", "<init>", "(Lcom/example/tariffic/tariffic/engine/ComputeModel;Lcom/example/tariffic/tariffic/engine/Workload;)V"⟩ : MethodName)) rfl hownc66 (hw _ (List.mem_of_getElem? (i := 9) rfl)) (hw _ (List.mem_of_getElem? (i := 10) rfl)) (hw _ (List.mem_of_getElem? (i := 8) rfl)) (hw _ (List.mem_of_getElem? (i := 11) rfl)) (by decide) (mkPC l Z a0 hw b192 m1 w1 h192 n0 O203 A192 F208 F209 F210 F211 g201) (own_EW hw) C207.1 e192 (g := (mkF m 79 #[.val (.int p1), .val (.ref m1), .val (.ref w1), .val (.ref m2), .val (.ref w2), .val (.int (((p1.toUInt32 >>> ((4 : Int32) &&& 31).toUInt32).toInt32) &&& (3 : Int32))), .unset, .unset, .unset, .unset, .unset, .unset] [(.ref w1), (.ref m1), (.ref b192), (.ref b192)])) rfl (by rw [hml]; rfl) (a := b192) (argsL := [(.ref m1), (.ref w1)]) (rest := [(.ref b192)]) rfl (lenOf pd__Lcom_example_tariffic_tariffic_engine_ComputeModel_Lcom_example_tariffic_tariffic_engine_Workload__V rfl) rfl (W := 1) (by show 2 * 0 + _ ≤ _; exact Nat.le_of_eq rfl) (hb hby at_79) (by decide) (by decide) (by decide) (by decide)
    have N213 := Fr.app Nc66 N212q
    have O214 := Old.keep O203 r212_0 (allS g201 all0)
    have K215 : Keep h0 h212 [] := Keep.trans K205 r212_0 (allS (Or.inr z202) all0)
    have c216 := c212
    have C217 := CHr.trans C207 c216
    refine WinW.to T212 (mkF m 82 #[.val (.int p1), .val (.ref m1), .val (.ref w1), .val (.ref m2), .val (.ref w2), .val (.int (((p1.toUInt32 >>> ((4 : Int32) &&& 31).toUInt32).toInt32) &&& (3 : Int32))), .unset, .unset, .unset, .unset, .unset, .unset] [(.ref b192)]) (fun _ k => st212 _ k) ?_
    refine WinW.to T212 (mkF m 84 #[.val (.int p1), .val (.ref m1), .val (.ref w1), .val (.ref m2), .val (.ref w2), .val (.int (((p1.toUInt32 >>> ((4 : Int32) &&& 31).toUInt32).toInt32) &&& (3 : Int32))), .val (.ref b192), .unset, .unset, .unset, .unset, .unset] []) (fun _ k => XS.astore X212.here hx rfl (hb hby at_82) rfl rfl (l' := #[.val (.int p1), .val (.ref m1), .val (.ref w1), .val (.ref m2), .val (.ref w2), .val (.int (((p1.toUInt32 >>> ((4 : Int32) &&& 31).toUInt32).toInt32) &&& (3 : Int32))), .val (.ref b192), .unset, .unset, .unset, .unset, .unset]) rfl k) ?_
    obtain ⟨T218, h218, X218, e218, E218, A218, D218, -, st218⟩ := newO X212 hx hZ212 hown212 (hw _ (List.mem_of_getElem? (i := 6) rfl)) (hw _ (List.mem_of_getElem? (i := 7) rfl)) (hw _ (List.mem_of_getElem? (i := 8) rfl)) e212 (g := (mkF m 84 #[.val (.int p1), .val (.ref m1), .val (.ref w1), .val (.ref m2), .val (.ref w2), .val (.int (((p1.toUInt32 >>> ((4 : Int32) &&& 31).toUInt32).toInt32) &&& (3 : Int32))), .val (.ref b192), .unset, .unset, .unset, .unset, .unset] [])) rfl (hb hby at_84) (by decide) (by decide)
    obtain ⟨b218, g218⟩ : ∃ z, z = h212.size := ⟨_, rfl⟩
    rw [← g218] at A218 D218 st218
    have F219 : Exa Z h212 m1 "com/example/tariffic/tariffic/engine/ComputeModel" := (F210.keep r212_0)
    have ne220 : m1 ≠ b218 := Nat.ne_of_lt (Nat.lt_of_lt_of_le F219.lt (Nat.le_of_eq g218.symm))
    have F221 : Exa Z h212 w1 "com/example/tariffic/tariffic/engine/Workload" := (F211.keep r212_0)
    have ne222 : w1 ≠ b218 := Nat.ne_of_lt (Nat.lt_of_lt_of_le F221.lt (Nat.le_of_eq g218.symm))
    have F223 : Exa Z h212 m2 "com/example/tariffic/tariffic/engine/ComputeModel" := ((Exa.ext E192 Fc66_2).keep r212_0)
    have ne224 : m2 ≠ b218 := Nat.ne_of_lt (Nat.lt_of_lt_of_le F223.lt (Nat.le_of_eq g218.symm))
    have F225 : Exa Z h212 w2 "com/example/tariffic/tariffic/engine/Workload" := ((Exa.ext E192 Fc66_3).keep r212_0)
    have ne226 : w2 ≠ b218 := Nat.ne_of_lt (Nat.lt_of_lt_of_le F225.lt (Nat.le_of_eq g218.symm))
    have F227 : Exa Z h212 w_CORE "com/example/tariffic/tariffic/engine/ComputeModel" := ((Exa.ext E192 (Exa.ext Oc66.2 E_CORE)).keep r212_0)
    have ne228 : w_CORE ≠ b218 := Nat.ne_of_lt (Nat.lt_of_lt_of_le F227.lt (Nat.le_of_eq g218.symm))
    have F229 : Exa Z h212 w_ELASTIC "com/example/tariffic/tariffic/engine/ComputeModel" := ((Exa.ext E192 (Exa.ext Oc66.2 E_ELASTIC)).keep r212_0)
    have ne230 : w_ELASTIC ≠ b218 := Nat.ne_of_lt (Nat.lt_of_lt_of_le F229.lt (Nat.le_of_eq g218.symm))
    have F231 : Exa Z h212 w_DATA_WAREHOUSE "com/example/tariffic/tariffic/engine/Workload" := ((Exa.ext E192 (Exa.ext Oc66.2 E_DATA_WAREHOUSE)).keep r212_0)
    have ne232 : w_DATA_WAREHOUSE ≠ b218 := Nat.ne_of_lt (Nat.lt_of_lt_of_le F231.lt (Nat.le_of_eq g218.symm))
    have F233 : Exa Z h212 w_TRANSACTION_PROCESSING "com/example/tariffic/tariffic/engine/Workload" := ((Exa.ext E192 (Exa.ext Oc66.2 E_TRANSACTION_PROCESSING)).keep r212_0)
    have ne234 : w_TRANSACTION_PROCESSING ≠ b218 := Nat.ne_of_lt (Nat.lt_of_lt_of_le F233.lt (Nat.le_of_eq g218.symm))
    have F235 : Exa Z h212 b192 "com/example/tariffic/tariffic/engine/PriceClass" := (A192.keep r212_0)
    have ne236 : b192 ≠ b218 := Nat.ne_of_lt (Nat.lt_of_lt_of_le F235.lt (Nat.le_of_eq g218.symm))
    have g237 : n0 ≤ b218 := Nat.le_trans (own_le O214) (Nat.le_of_eq g218.symm)
    have z238 : h0.size ≤ b218 := Nat.le_trans K215.1 (Nat.le_of_eq g218.symm)
    have O239 := Old.ext O214 E218
    have hk240 := Nat.le_trans hk212 E218.1
    have K241 : Keep h0 h218 [] := K215.ext E218
    have c242 := CHr.ext E218 C217.1
    have C243 := CHr.trans C217 c242
    have F244 : Fld Z h218 b218 "com/example/tariffic/tariffic/engine/PriceClass" "model" "Lcom/example/tariffic/tariffic/engine/ComputeModel;" .null := D218 (Or.inr (hw _ (List.mem_of_getElem? (i := 30) rfl))) (ty := (.object "com/example/tariffic/tariffic/engine/ComputeModel")) (by decide)
    have F245 : Fld Z h218 b218 "com/example/tariffic/tariffic/engine/PriceClass" "workload" "Lcom/example/tariffic/tariffic/engine/Workload;" .null := D218 (Or.inr (hw _ (List.mem_of_getElem? (i := 35) rfl))) (ty := (.object "com/example/tariffic/tariffic/engine/Workload")) (by decide)
    refine WinW.to T218 (mkF m 87 #[.val (.int p1), .val (.ref m1), .val (.ref w1), .val (.ref m2), .val (.ref w2), .val (.int (((p1.toUInt32 >>> ((4 : Int32) &&& 31).toUInt32).toInt32) &&& (3 : Int32))), .val (.ref b192), .unset, .unset, .unset, .unset, .unset] [(.ref b218)]) (fun _ k => st218 _ k) ?_
    refine WinW.to T218 (mkF m 88 #[.val (.int p1), .val (.ref m1), .val (.ref w1), .val (.ref m2), .val (.ref w2), .val (.int (((p1.toUInt32 >>> ((4 : Int32) &&& 31).toUInt32).toInt32) &&& (3 : Int32))), .val (.ref b192), .unset, .unset, .unset, .unset, .unset] [(.ref b218), (.ref b218)]) (fun _ k => XS.dup X218.here hx rfl (hb hby at_87) rfl rfl k) ?_
    refine WinW.to T218 (mkF m 89 #[.val (.int p1), .val (.ref m1), .val (.ref w1), .val (.ref m2), .val (.ref w2), .val (.int (((p1.toUInt32 >>> ((4 : Int32) &&& 31).toUInt32).toInt32) &&& (3 : Int32))), .val (.ref b192), .unset, .unset, .unset, .unset, .unset] [(.ref m2), (.ref b218), (.ref b218)]) (fun _ k => XS.aloadN X218.here hx rfl (hb hby at_88) rfl rfl k) ?_
    refine WinW.to T218 (mkF m 91 #[.val (.int p1), .val (.ref m1), .val (.ref w1), .val (.ref m2), .val (.ref w2), .val (.int (((p1.toUInt32 >>> ((4 : Int32) &&& 31).toUInt32).toInt32) &&& (3 : Int32))), .val (.ref b192), .unset, .unset, .unset, .unset, .unset] [(.ref w2), (.ref m2), (.ref b218), (.ref b218)]) (fun _ k => XS.aload X218.here hx rfl (hb hby at_89) rfl rfl k) ?_
    have F246 : Exa Z h218 m2 "com/example/tariffic/tariffic/engine/ComputeModel" := (Exa.ext E218 F223)
    have F247 : Exa Z h218 w2 "com/example/tariffic/tariffic/engine/Workload" := (Exa.ext E218 F225)
    obtain ⟨T248, h248, v248, L248, k248, X248, e248, hS248, hk248, hZ248, hown248, ⟨rfl, N248q, r248_0, r248_1, r248_2⟩, c248, st248⟩ := W.special X218 hS212 hk240 hx hZ212 (y := (⟨"com/example/tariffic/tariffic/engine/PriceClass", "<init>", "(Lcom/example/tariffic/tariffic/engine/ComputeModel;Lcom/example/tariffic/tariffic/engine/Workload;)V"⟩ : MethodName)) rfl hown212 (hw _ (List.mem_of_getElem? (i := 9) rfl)) (hw _ (List.mem_of_getElem? (i := 10) rfl)) (hw _ (List.mem_of_getElem? (i := 8) rfl)) (hw _ (List.mem_of_getElem? (i := 11) rfl)) (by decide) (mkPC l Z a0 hw b218 m2 w2 h218 n0 O239 A218 F244 F245 F246 F247 g237) (own_EW hw) C243.1 e218 (g := (mkF m 91 #[.val (.int p1), .val (.ref m1), .val (.ref w1), .val (.ref m2), .val (.ref w2), .val (.int (((p1.toUInt32 >>> ((4 : Int32) &&& 31).toUInt32).toInt32) &&& (3 : Int32))), .val (.ref b192), .unset, .unset, .unset, .unset, .unset] [(.ref w2), (.ref m2), (.ref b218), (.ref b218)])) rfl (by rw [hml]; rfl) (a := b218) (argsL := [(.ref m2), (.ref w2)]) (rest := [(.ref b218)]) rfl (lenOf pd__Lcom_example_tariffic_tariffic_engine_ComputeModel_Lcom_example_tariffic_tariffic_engine_Workload__V rfl) rfl (W := 1) (by show 2 * 0 + _ ≤ _; exact Nat.le_of_eq rfl) (hb hby at_91) (by decide) (by decide) (by decide) (by decide)
    have N249 := Fr.app N213 N248q
    have O250 := Old.keep O239 r248_0 (allS g237 all0)
    have K251 : Keep h0 h248 [] := Keep.trans K241 r248_0 (allS (Or.inr z238) all0)
    have c252 := c248
    have C253 := CHr.trans C243 c252
    refine WinW.to T248 (mkF m 94 #[.val (.int p1), .val (.ref m1), .val (.ref w1), .val (.ref m2), .val (.ref w2), .val (.int (((p1.toUInt32 >>> ((4 : Int32) &&& 31).toUInt32).toInt32) &&& (3 : Int32))), .val (.ref b192), .unset, .unset, .unset, .unset, .unset] [(.ref b218)]) (fun _ k => st248 _ k) ?_
    refine WinW.to T248 (mkF m 96 #[.val (.int p1), .val (.ref m1), .val (.ref w1), .val (.ref m2), .val (.ref w2), .val (.int (((p1.toUInt32 >>> ((4 : Int32) &&& 31).toUInt32).toInt32) &&& (3 : Int32))), .val (.ref b192), .val (.ref b218), .unset, .unset, .unset, .unset] []) (fun _ k => XS.astore X248.here hx rfl (hb hby at_94) rfl rfl (l' := #[.val (.int p1), .val (.ref m1), .val (.ref w1), .val (.ref m2), .val (.ref w2), .val (.int (((p1.toUInt32 >>> ((4 : Int32) &&& 31).toUInt32).toInt32) &&& (3 : Int32))), .val (.ref b192), .val (.ref b218), .unset, .unset, .unset, .unset]) rfl k) ?_
    refine WinW.to T248 (mkF m 98 #[.val (.int p1), .val (.ref m1), .val (.ref w1), .val (.ref m2), .val (.ref w2), .val (.int (((p1.toUInt32 >>> ((4 : Int32) &&& 31).toUInt32).toInt32) &&& (3 : Int32))), .val (.ref b192), .val (.ref b218), .unset, .unset, .unset, .unset] [(.int (((p1.toUInt32 >>> ((4 : Int32) &&& 31).toUInt32).toInt32) &&& (3 : Int32)))]) (fun _ k => XS.iload X248.here hx rfl (hb hby at_96) rfl k) ?_
    refine WinW.to T248 (mkF m 99 #[.val (.int p1), .val (.ref m1), .val (.ref w1), .val (.ref m2), .val (.ref w2), .val (.int (((p1.toUInt32 >>> ((4 : Int32) &&& 31).toUInt32).toInt32) &&& (3 : Int32))), .val (.ref b192), .val (.ref b218), .unset, .unset, .unset, .unset] [(.int (1 : Int32)), (.int (((p1.toUInt32 >>> ((4 : Int32) &&& 31).toUInt32).toInt32) &&& (3 : Int32)))]) (fun _ k => XS.iconst X248.here hx rfl (hb hby at_98) k) ?_
    by_cases hc254 : (((p1.toUInt32 >>> ((4 : Int32) &&& 31).toUInt32).toInt32) &&& (3 : Int32)) = (1 : Int32)
    · refine WinW.to T248 (mkF m 102 #[.val (.int p1), .val (.ref m1), .val (.ref w1), .val (.ref m2), .val (.ref w2), .val (.int (((p1.toUInt32 >>> ((4 : Int32) &&& 31).toUInt32).toInt32) &&& (3 : Int32))), .val (.ref b192), .val (.ref b218), .unset, .unset, .unset, .unset] []) (fun _ k => XS.icmpNo X248.here hx rfl (hb hby at_99) rfl (teq hc254).2 k) ?_
      refine WinW.to T248 (mkF m 103 #[.val (.int p1), .val (.ref m1), .val (.ref w1), .val (.ref m2), .val (.ref w2), .val (.int (((p1.toUInt32 >>> ((4 : Int32) &&& 31).toUInt32).toInt32) &&& (3 : Int32))), .val (.ref b192), .val (.ref b218), .unset, .unset, .unset, .unset] [.null]) (fun _ k => XS.aconstNull X248.here hx rfl (hb hby at_102) k) ?_
      refine WinW.to T248 (mkF m 105 #[.val (.int p1), .val (.ref m1), .val (.ref w1), .val (.ref m2), .val (.ref w2), .val (.int (((p1.toUInt32 >>> ((4 : Int32) &&& 31).toUInt32).toInt32) &&& (3 : Int32))), .val (.ref b192), .val (.ref b218), .val .null, .unset, .unset, .unset] []) (fun _ k => XS.astore X248.here hx rfl (hb hby at_103) rfl rfl (l' := #[.val (.int p1), .val (.ref m1), .val (.ref w1), .val (.ref m2), .val (.ref w2), .val (.int (((p1.toUInt32 >>> ((4 : Int32) &&& 31).toUInt32).toInt32) &&& (3 : Int32))), .val (.ref b192), .val (.ref b218), .val .null, .unset, .unset, .unset]) rfl k) ?_
      refine WinW.to T248 (mkF m 106 #[.val (.int p1), .val (.ref m1), .val (.ref w1), .val (.ref m2), .val (.ref w2), .val (.int (((p1.toUInt32 >>> ((4 : Int32) &&& 31).toUInt32).toInt32) &&& (3 : Int32))), .val (.ref b192), .val (.ref b218), .val .null, .unset, .unset, .unset] [(.int (0 : Int32))]) (fun _ k => XS.iconst X248.here hx rfl (hb hby at_105) k) ?_
      refine WinW.to T248 (mkF m 108 #[.val (.int p1), .val (.ref m1), .val (.ref w1), .val (.ref m2), .val (.ref w2), .val (.int (((p1.toUInt32 >>> ((4 : Int32) &&& 31).toUInt32).toInt32) &&& (3 : Int32))), .val (.ref b192), .val (.ref b218), .val .null, .val (.int (0 : Int32)), .unset, .unset] []) (fun _ k => XS.istore X248.here hx rfl (hb hby at_106) rfl (l' := #[.val (.int p1), .val (.ref m1), .val (.ref w1), .val (.ref m2), .val (.ref w2), .val (.int (((p1.toUInt32 >>> ((4 : Int32) &&& 31).toUInt32).toInt32) &&& (3 : Int32))), .val (.ref b192), .val (.ref b218), .val .null, .val (.int (0 : Int32)), .unset, .unset]) rfl k) ?_
      refine WinW.to T248 (mkF m 167 #[.val (.int p1), .val (.ref m1), .val (.ref w1), .val (.ref m2), .val (.ref w2), .val (.int (((p1.toUInt32 >>> ((4 : Int32) &&& 31).toUInt32).toInt32) &&& (3 : Int32))), .val (.ref b192), .val (.ref b218), .val .null, .val (.int (0 : Int32)), .unset, .unset] []) (fun _ k => XS.goto X248.here hx rfl (pc0 := 108) (pc' := 167) rfl (hb hby at_108) (by decide) (by decide) k) ?_
      refine WinW.to T248 (mkF m 169 #[.val (.int p1), .val (.ref m1), .val (.ref w1), .val (.ref m2), .val (.ref w2), .val (.int (((p1.toUInt32 >>> ((4 : Int32) &&& 31).toUInt32).toInt32) &&& (3 : Int32))), .val (.ref b192), .val (.ref b218), .val .null, .val (.int (0 : Int32)), .unset, .unset] [(.ref b192)]) (fun _ k => XS.aload X248.here hx rfl (hb hby at_167) rfl rfl k) ?_
      refine WinW.to T248 (mkF m 171 #[.val (.int p1), .val (.ref m1), .val (.ref w1), .val (.ref m2), .val (.ref w2), .val (.int (((p1.toUInt32 >>> ((4 : Int32) &&& 31).toUInt32).toInt32) &&& (3 : Int32))), .val (.ref b192), .val (.ref b218), .val .null, .val (.int (0 : Int32)), .unset, .unset] [.null, (.ref b192)]) (fun _ k => XS.aload X248.here hx rfl (hb hby at_169) rfl rfl k) ?_
      have F256 : Exa Z h248 b192 "com/example/tariffic/tariffic/engine/PriceClass" := ((Exa.ext E218 F235).keep r248_0)
      obtain ⟨T255, h255, v255, L255, X255, e255, ⟨rfl, N255q, r255_0⟩, st255⟩ := N.virtual X248 hx hZ248 (y := (⟨"com/example/tariffic/tariffic/engine/PriceClass", "equals", "(Ljava/lang/Object;)Z"⟩ : MethodName)) (z := (⟨"com/example/tariffic/tariffic/engine/PriceClass", "equals", "(Ljava/lang/Object;)Z"⟩ : MethodName)) hown248 (hw _ (List.mem_of_getElem? (i := 36) rfl)) (hw _ (List.mem_of_getElem? (i := 37) rfl)) (notFace_of_selects (args := #[]) (mvT hZ248 (hw _ (List.mem_of_getElem? (i := 39) rfl)))) (hw _ (List.mem_of_getElem? (i := 39) rfl)) (hw _ (List.mem_of_getElem? (i := 38) rfl)) (hw _ (List.mem_of_getElem? (i := 8) rfl)) (hw _ (List.mem_of_getElem? (i := 40) rfl)) (by decide) (eqNull l Z a0 hw b192 h248 n0 O250 ) e248 F256 (g := (mkF m 171 #[.val (.int p1), .val (.ref m1), .val (.ref w1), .val (.ref m2), .val (.ref w2), .val (.int (((p1.toUInt32 >>> ((4 : Int32) &&& 31).toUInt32).toInt32) &&& (3 : Int32))), .val (.ref b192), .val (.ref b218), .val .null, .val (.int (0 : Int32)), .unset, .unset] [.null, (.ref b192)])) rfl (by rw [hml]; rfl) (argsL := [.null]) (rest := []) rfl (lenOf pd__Ljava_lang_Object__Z rfl) rfl (W := 0) (by show 2 * 0 + _ ≤ _; exact Nat.le_of_eq rfl) (hb hby at_171) (by decide) (by decide) (by decide) (by decide)
      have N257 := Fr.app N249 N255q
      have e255 := e255.trans r255_0
      refine WinW.to T255 (mkF m 174 #[.val (.int p1), .val (.ref m1), .val (.ref w1), .val (.ref m2), .val (.ref w2), .val (.int (((p1.toUInt32 >>> ((4 : Int32) &&& 31).toUInt32).toInt32) &&& (3 : Int32))), .val (.ref b192), .val (.ref b218), .val .null, .val (.int (0 : Int32)), .unset, .unset] [(.int (0 : Int32))]) (fun _ k => st255 _ k) ?_
      refine WinW.to T255 (mkF m 176 #[.val (.int p1), .val (.ref m1), .val (.ref w1), .val (.ref m2), .val (.ref w2), .val (.int (((p1.toUInt32 >>> ((4 : Int32) &&& 31).toUInt32).toInt32) &&& (3 : Int32))), .val (.ref b192), .val (.ref b218), .val .null, .val (.int (0 : Int32)), .val (.int (0 : Int32)), .unset] []) (fun _ k => XS.istore X255.here hx rfl (hb hby at_174) rfl (l' := #[.val (.int p1), .val (.ref m1), .val (.ref w1), .val (.ref m2), .val (.ref w2), .val (.int (((p1.toUInt32 >>> ((4 : Int32) &&& 31).toUInt32).toInt32) &&& (3 : Int32))), .val (.ref b192), .val (.ref b218), .val .null, .val (.int (0 : Int32)), .val (.int (0 : Int32)), .unset]) rfl k) ?_
      refine WinW.to T255 (mkF m 178 #[.val (.int p1), .val (.ref m1), .val (.ref w1), .val (.ref m2), .val (.ref w2), .val (.int (((p1.toUInt32 >>> ((4 : Int32) &&& 31).toUInt32).toInt32) &&& (3 : Int32))), .val (.ref b192), .val (.ref b218), .val .null, .val (.int (0 : Int32)), .val (.int (0 : Int32)), .unset] [(.int (((p1.toUInt32 >>> ((4 : Int32) &&& 31).toUInt32).toInt32) &&& (3 : Int32)))]) (fun _ k => XS.iload X255.here hx rfl (hb hby at_176) rfl k) ?_
      refine WinW.to T255 (mkF m 191 #[.val (.int p1), .val (.ref m1), .val (.ref w1), .val (.ref m2), .val (.ref w2), .val (.int (((p1.toUInt32 >>> ((4 : Int32) &&& 31).toUInt32).toInt32) &&& (3 : Int32))), .val (.ref b192), .val (.ref b218), .val .null, .val (.int (0 : Int32)), .val (.int (0 : Int32)), .unset] []) (fun _ k => XS.ifYes X255.here hx rfl (pc0 := 178) (pc' := 191) rfl (hb hby at_178) rfl ((if0 _ _).trans (feq (show ¬ ((((p1.toUInt32 >>> ((4 : Int32) &&& 31).toUInt32).toInt32) &&& (3 : Int32)) = (0 : Int32)) from fun q => absurd (hc254.symm.trans q) (by decide))).2) (by decide) (by decide) k) ?_
      refine WinW.to T255 (mkF m 193 #[.val (.int p1), .val (.ref m1), .val (.ref w1), .val (.ref m2), .val (.ref w2), .val (.int (((p1.toUInt32 >>> ((4 : Int32) &&& 31).toUInt32).toInt32) &&& (3 : Int32))), .val (.ref b192), .val (.ref b218), .val .null, .val (.int (0 : Int32)), .val (.int (0 : Int32)), .unset] [(.int (0 : Int32))]) (fun _ k => XS.iload X255.here hx rfl (hb hby at_191) rfl k) ?_
      refine WinW.to T255 (mkF m 195 #[.val (.int p1), .val (.ref m1), .val (.ref w1), .val (.ref m2), .val (.ref w2), .val (.int (((p1.toUInt32 >>> ((4 : Int32) &&& 31).toUInt32).toInt32) &&& (3 : Int32))), .val (.ref b192), .val (.ref b218), .val .null, .val (.int (0 : Int32)), .val (.int (0 : Int32)), .val (.int (0 : Int32))] []) (fun _ k => XS.istore X255.here hx rfl (hb hby at_193) rfl (l' := #[.val (.int p1), .val (.ref m1), .val (.ref w1), .val (.ref m2), .val (.ref w2), .val (.int (((p1.toUInt32 >>> ((4 : Int32) &&& 31).toUInt32).toInt32) &&& (3 : Int32))), .val (.ref b192), .val (.ref b218), .val .null, .val (.int (0 : Int32)), .val (.int (0 : Int32)), .val (.int (0 : Int32))]) rfl k) ?_
      refine WinW.to T255 (mkF m 197 #[.val (.int p1), .val (.ref m1), .val (.ref w1), .val (.ref m2), .val (.ref w2), .val (.int (((p1.toUInt32 >>> ((4 : Int32) &&& 31).toUInt32).toInt32) &&& (3 : Int32))), .val (.ref b192), .val (.ref b218), .val .null, .val (.int (0 : Int32)), .val (.int (0 : Int32)), .val (.int (0 : Int32))] [(.int (0 : Int32))]) (fun _ k => XS.iload X255.here hx rfl (hb hby at_195) rfl k) ?_
      refine WinW.to T255 (mkF m 199 #[.val (.int p1), .val (.ref m1), .val (.ref w1), .val (.ref m2), .val (.ref w2), .val (.int (((p1.toUInt32 >>> ((4 : Int32) &&& 31).toUInt32).toInt32) &&& (3 : Int32))), .val (.ref b192), .val (.ref b218), .val .null, .val (.int (0 : Int32)), .val (.int (0 : Int32)), .val (.int (0 : Int32))] [(.int (0 : Int32)), (.int (0 : Int32))]) (fun _ k => XS.iload X255.here hx rfl (hb hby at_197) rfl k) ?_
      refine WinW.to T255 (mkF m 202 #[.val (.int p1), .val (.ref m1), .val (.ref w1), .val (.ref m2), .val (.ref w2), .val (.int (((p1.toUInt32 >>> ((4 : Int32) &&& 31).toUInt32).toInt32) &&& (3 : Int32))), .val (.ref b192), .val (.ref b218), .val .null, .val (.int (0 : Int32)), .val (.int (0 : Int32)), .val (.int (0 : Int32))] []) (fun _ k => XS.icmpNo X255.here hx rfl (hb hby at_199) rfl (teq (show (0 : Int32) = (0 : Int32) from by decide)).2 k) ?_
      refine WinW.to T255 (mkF m 204 #[.val (.int p1), .val (.ref m1), .val (.ref w1), .val (.ref m2), .val (.ref w2), .val (.int (((p1.toUInt32 >>> ((4 : Int32) &&& 31).toUInt32).toInt32) &&& (3 : Int32))), .val (.ref b192), .val (.ref b218), .val .null, .val (.int (0 : Int32)), .val (.int (0 : Int32)), .val (.int (0 : Int32))] [(.int (0 : Int32))]) (fun _ k => XS.iload X255.here hx rfl (hb hby at_202) rfl k) ?_
      refine WinW.to T255 (mkF m 206 #[.val (.int p1), .val (.ref m1), .val (.ref w1), .val (.ref m2), .val (.ref w2), .val (.int (((p1.toUInt32 >>> ((4 : Int32) &&& 31).toUInt32).toInt32) &&& (3 : Int32))), .val (.ref b192), .val (.ref b218), .val .null, .val (.int (0 : Int32)), .val (.int (0 : Int32)), .val (.int (0 : Int32))] [(.int (0 : Int32)), (.int (0 : Int32))]) (fun _ k => XS.iload X255.here hx rfl (hb hby at_204) rfl k) ?_
      refine WinW.to T255 (mkF m 209 #[.val (.int p1), .val (.ref m1), .val (.ref w1), .val (.ref m2), .val (.ref w2), .val (.int (((p1.toUInt32 >>> ((4 : Int32) &&& 31).toUInt32).toInt32) &&& (3 : Int32))), .val (.ref b192), .val (.ref b218), .val .null, .val (.int (0 : Int32)), .val (.int (0 : Int32)), .val (.int (0 : Int32))] []) (fun _ k => XS.icmpNo X255.here hx rfl (hb hby at_206) rfl (teq (show (0 : Int32) = (0 : Int32) from by decide)).2 k) ?_
      refine WinW.to T255 (mkF m 210 #[.val (.int p1), .val (.ref m1), .val (.ref w1), .val (.ref m2), .val (.ref w2), .val (.int (((p1.toUInt32 >>> ((4 : Int32) &&& 31).toUInt32).toInt32) &&& (3 : Int32))), .val (.ref b192), .val (.ref b218), .val .null, .val (.int (0 : Int32)), .val (.int (0 : Int32)), .val (.int (0 : Int32))] [(.int (1 : Int32))]) (fun _ k => XS.iconst X255.here hx rfl (hb hby at_209) k) ?_
      refine WinW.to T255 (mkF m 214 #[.val (.int p1), .val (.ref m1), .val (.ref w1), .val (.ref m2), .val (.ref w2), .val (.int (((p1.toUInt32 >>> ((4 : Int32) &&& 31).toUInt32).toInt32) &&& (3 : Int32))), .val (.ref b192), .val (.ref b218), .val .null, .val (.int (0 : Int32)), .val (.int (0 : Int32)), .val (.int (0 : Int32))] [(.int (1 : Int32))]) (fun _ k => XS.goto X255.here hx rfl (pc0 := 210) (pc' := 214) rfl (hb hby at_210) (by decide) (by decide) k) ?_
      exact WinW.retN X255 hS248 (by rw [e255]; exact hk248) hx hlk (t := .boolean) hret (by simp) rfl (hb hby at_214) hZ248 (own_EW hw) (by rw [e255]; exact C253) (by decide) (by decide) (by (try rw [e255]); exact ⟨rfl, N257, trivial⟩)
    · refine WinW.to T248 (mkF m 111 #[.val (.int p1), .val (.ref m1), .val (.ref w1), .val (.ref m2), .val (.ref w2), .val (.int (((p1.toUInt32 >>> ((4 : Int32) &&& 31).toUInt32).toInt32) &&& (3 : Int32))), .val (.ref b192), .val (.ref b218), .unset, .unset, .unset, .unset] []) (fun _ k => XS.icmpYes X248.here hx rfl (pc0 := 99) (pc' := 111) rfl (hb hby at_99) rfl (feq hc254).2 (by decide) (by decide) k) ?_
      refine WinW.to T248 (mkF m 113 #[.val (.int p1), .val (.ref m1), .val (.ref w1), .val (.ref m2), .val (.ref w2), .val (.int (((p1.toUInt32 >>> ((4 : Int32) &&& 31).toUInt32).toInt32) &&& (3 : Int32))), .val (.ref b192), .val (.ref b218), .unset, .unset, .unset, .unset] [(.int (((p1.toUInt32 >>> ((4 : Int32) &&& 31).toUInt32).toInt32) &&& (3 : Int32)))]) (fun _ k => XS.iload X248.here hx rfl (hb hby at_111) rfl k) ?_
      refine WinW.to T248 (mkF m 114 #[.val (.int p1), .val (.ref m1), .val (.ref w1), .val (.ref m2), .val (.ref w2), .val (.int (((p1.toUInt32 >>> ((4 : Int32) &&& 31).toUInt32).toInt32) &&& (3 : Int32))), .val (.ref b192), .val (.ref b218), .unset, .unset, .unset, .unset] [(.int (2 : Int32)), (.int (((p1.toUInt32 >>> ((4 : Int32) &&& 31).toUInt32).toInt32) &&& (3 : Int32)))]) (fun _ k => XS.iconst X248.here hx rfl (hb hby at_113) k) ?_
      by_cases hc258 : (((p1.toUInt32 >>> ((4 : Int32) &&& 31).toUInt32).toInt32) &&& (3 : Int32)) = (2 : Int32)
      · refine WinW.to T248 (mkF m 117 #[.val (.int p1), .val (.ref m1), .val (.ref w1), .val (.ref m2), .val (.ref w2), .val (.int (((p1.toUInt32 >>> ((4 : Int32) &&& 31).toUInt32).toInt32) &&& (3 : Int32))), .val (.ref b192), .val (.ref b218), .unset, .unset, .unset, .unset] []) (fun _ k => XS.icmpNo X248.here hx rfl (hb hby at_114) rfl (teq hc258).2 k) ?_
        refine WinW.to T248 (mkF m 118 #[.val (.int p1), .val (.ref m1), .val (.ref w1), .val (.ref m2), .val (.ref w2), .val (.int (((p1.toUInt32 >>> ((4 : Int32) &&& 31).toUInt32).toInt32) &&& (3 : Int32))), .val (.ref b192), .val (.ref b218), .unset, .unset, .unset, .unset] [(.int p1)]) (fun _ k => XS.iloadN X248.here hx rfl (hb hby at_117) rfl k) ?_
        obtain ⟨T259, h259, v259, L259, X259, e259, ⟨r_259, rfl, N259q, r259_0, r259_1⟩, st259⟩ := N.static X248 hx hZ248 (y := (⟨"java/lang/Integer", "valueOf", "(I)Ljava/lang/Integer;"⟩ : MethodName)) hown248 (hw _ (List.mem_of_getElem? (i := 47) rfl)) (hw _ (List.mem_of_getElem? (i := 48) rfl)) (hw _ (List.mem_of_getElem? (i := 49) rfl)) (hw _ (List.mem_of_getElem? (i := 50) rfl)) (by decide) (valOf l Z a0 hw p1 cA cl h248 n0 O250 S_high S_cache hA hL hC) e248 (g := (mkF m 118 #[.val (.int p1), .val (.ref m1), .val (.ref w1), .val (.ref m2), .val (.ref w2), .val (.int (((p1.toUInt32 >>> ((4 : Int32) &&& 31).toUInt32).toInt32) &&& (3 : Int32))), .val (.ref b192), .val (.ref b218), .unset, .unset, .unset, .unset] [(.int p1)])) rfl (by rw [hml]; rfl) (argsL := [(.int p1)]) (rest := []) rfl (lenOf pd__I_Ljava_lang_Integer_ rfl) rfl (W := 0) (by show 2 * 0 + _ ≤ _; exact Nat.le_of_eq rfl) (hb hby at_118) (by decide) (by decide) (by decide) (by decide)
        have N260 := Fr.app N249 N259q
        have O261 := Old.keep O250 r259_0 all0
        have hk262 := Nat.le_trans hk248 r259_0.1
        have K263 : Keep h0 h259 [] := Keep.trans K251 r259_0 all0
        have c264 := CHr.keep r259_0 sf0 C253.1
        have C265 := CHr.trans C253 c264
        refine WinW.to T259 (mkF m 121 #[.val (.int p1), .val (.ref m1), .val (.ref w1), .val (.ref m2), .val (.ref w2), .val (.int (((p1.toUInt32 >>> ((4 : Int32) &&& 31).toUInt32).toInt32) &&& (3 : Int32))), .val (.ref b192), .val (.ref b218), .unset, .unset, .unset, .unset] [(.ref r_259)]) (fun _ k => st259 _ k) ?_
        refine WinW.to T259 (mkF m 123 #[.val (.int p1), .val (.ref m1), .val (.ref w1), .val (.ref m2), .val (.ref w2), .val (.int (((p1.toUInt32 >>> ((4 : Int32) &&& 31).toUInt32).toInt32) &&& (3 : Int32))), .val (.ref b192), .val (.ref b218), .val (.ref r_259), .unset, .unset, .unset] []) (fun _ k => XS.astore X259.here hx rfl (hb hby at_121) rfl rfl (l' := #[.val (.int p1), .val (.ref m1), .val (.ref w1), .val (.ref m2), .val (.ref w2), .val (.int (((p1.toUInt32 >>> ((4 : Int32) &&& 31).toUInt32).toInt32) &&& (3 : Int32))), .val (.ref b192), .val (.ref b218), .val (.ref r_259), .unset, .unset, .unset]) rfl k) ?_
        refine WinW.to T259 (mkF m 124 #[.val (.int p1), .val (.ref m1), .val (.ref w1), .val (.ref m2), .val (.ref w2), .val (.int (((p1.toUInt32 >>> ((4 : Int32) &&& 31).toUInt32).toInt32) &&& (3 : Int32))), .val (.ref b192), .val (.ref b218), .val (.ref r_259), .unset, .unset, .unset] [(.int (0 : Int32))]) (fun _ k => XS.iconst X259.here hx rfl (hb hby at_123) k) ?_
        refine WinW.to T259 (mkF m 126 #[.val (.int p1), .val (.ref m1), .val (.ref w1), .val (.ref m2), .val (.ref w2), .val (.int (((p1.toUInt32 >>> ((4 : Int32) &&& 31).toUInt32).toInt32) &&& (3 : Int32))), .val (.ref b192), .val (.ref b218), .val (.ref r_259), .val (.int (0 : Int32)), .unset, .unset] []) (fun _ k => XS.istore X259.here hx rfl (hb hby at_124) rfl (l' := #[.val (.int p1), .val (.ref m1), .val (.ref w1), .val (.ref m2), .val (.ref w2), .val (.int (((p1.toUInt32 >>> ((4 : Int32) &&& 31).toUInt32).toInt32) &&& (3 : Int32))), .val (.ref b192), .val (.ref b218), .val (.ref r_259), .val (.int (0 : Int32)), .unset, .unset]) rfl k) ?_
        refine WinW.to T259 (mkF m 167 #[.val (.int p1), .val (.ref m1), .val (.ref w1), .val (.ref m2), .val (.ref w2), .val (.int (((p1.toUInt32 >>> ((4 : Int32) &&& 31).toUInt32).toInt32) &&& (3 : Int32))), .val (.ref b192), .val (.ref b218), .val (.ref r_259), .val (.int (0 : Int32)), .unset, .unset] []) (fun _ k => XS.goto X259.here hx rfl (pc0 := 126) (pc' := 167) rfl (hb hby at_126) (by decide) (by decide) k) ?_
        refine WinW.to T259 (mkF m 169 #[.val (.int p1), .val (.ref m1), .val (.ref w1), .val (.ref m2), .val (.ref w2), .val (.int (((p1.toUInt32 >>> ((4 : Int32) &&& 31).toUInt32).toInt32) &&& (3 : Int32))), .val (.ref b192), .val (.ref b218), .val (.ref r_259), .val (.int (0 : Int32)), .unset, .unset] [(.ref b192)]) (fun _ k => XS.aload X259.here hx rfl (hb hby at_167) rfl rfl k) ?_
        refine WinW.to T259 (mkF m 171 #[.val (.int p1), .val (.ref m1), .val (.ref w1), .val (.ref m2), .val (.ref w2), .val (.int (((p1.toUInt32 >>> ((4 : Int32) &&& 31).toUInt32).toInt32) &&& (3 : Int32))), .val (.ref b192), .val (.ref b218), .val (.ref r_259), .val (.int (0 : Int32)), .unset, .unset] [(.ref r_259), (.ref b192)]) (fun _ k => XS.aload X259.here hx rfl (hb hby at_169) rfl rfl k) ?_
        have F267 : Exa Z h259 b192 "com/example/tariffic/tariffic/engine/PriceClass" := (((Exa.ext E218 F235).keep r248_0).keep r259_0)
        obtain ⟨T266, h266, v266, L266, X266, e266, ⟨rfl, N266q, r266_0⟩, st266⟩ := N.virtual X259 hx hZ248 (y := (⟨"com/example/tariffic/tariffic/engine/PriceClass", "equals", "(Ljava/lang/Object;)Z"⟩ : MethodName)) (z := (⟨"com/example/tariffic/tariffic/engine/PriceClass", "equals", "(Ljava/lang/Object;)Z"⟩ : MethodName)) hown248 (hw _ (List.mem_of_getElem? (i := 36) rfl)) (hw _ (List.mem_of_getElem? (i := 37) rfl)) (notFace_of_selects (args := #[]) (mvT hZ248 (hw _ (List.mem_of_getElem? (i := 39) rfl)))) (hw _ (List.mem_of_getElem? (i := 39) rfl)) (hw _ (List.mem_of_getElem? (i := 38) rfl)) (hw _ (List.mem_of_getElem? (i := 8) rfl)) (hw _ (List.mem_of_getElem? (i := 40) rfl)) (by decide) (eqInt l Z a0 hw b192 r_259 h259 n0 O261 r259_1) e259 F267 (g := (mkF m 171 #[.val (.int p1), .val (.ref m1), .val (.ref w1), .val (.ref m2), .val (.ref w2), .val (.int (((p1.toUInt32 >>> ((4 : Int32) &&& 31).toUInt32).toInt32) &&& (3 : Int32))), .val (.ref b192), .val (.ref b218), .val (.ref r_259), .val (.int (0 : Int32)), .unset, .unset] [(.ref r_259), (.ref b192)])) rfl (by rw [hml]; rfl) (argsL := [(.ref r_259)]) (rest := []) rfl (lenOf pd__Ljava_lang_Object__Z rfl) rfl (W := 0) (by show 2 * 0 + _ ≤ _; exact Nat.le_of_eq rfl) (hb hby at_171) (by decide) (by decide) (by decide) (by decide)
        have N268 := Fr.app N260 N266q
        have e266 := e266.trans r266_0
        refine WinW.to T266 (mkF m 174 #[.val (.int p1), .val (.ref m1), .val (.ref w1), .val (.ref m2), .val (.ref w2), .val (.int (((p1.toUInt32 >>> ((4 : Int32) &&& 31).toUInt32).toInt32) &&& (3 : Int32))), .val (.ref b192), .val (.ref b218), .val (.ref r_259), .val (.int (0 : Int32)), .unset, .unset] [(.int (0 : Int32))]) (fun _ k => st266 _ k) ?_
        refine WinW.to T266 (mkF m 176 #[.val (.int p1), .val (.ref m1), .val (.ref w1), .val (.ref m2), .val (.ref w2), .val (.int (((p1.toUInt32 >>> ((4 : Int32) &&& 31).toUInt32).toInt32) &&& (3 : Int32))), .val (.ref b192), .val (.ref b218), .val (.ref r_259), .val (.int (0 : Int32)), .val (.int (0 : Int32)), .unset] []) (fun _ k => XS.istore X266.here hx rfl (hb hby at_174) rfl (l' := #[.val (.int p1), .val (.ref m1), .val (.ref w1), .val (.ref m2), .val (.ref w2), .val (.int (((p1.toUInt32 >>> ((4 : Int32) &&& 31).toUInt32).toInt32) &&& (3 : Int32))), .val (.ref b192), .val (.ref b218), .val (.ref r_259), .val (.int (0 : Int32)), .val (.int (0 : Int32)), .unset]) rfl k) ?_
        refine WinW.to T266 (mkF m 178 #[.val (.int p1), .val (.ref m1), .val (.ref w1), .val (.ref m2), .val (.ref w2), .val (.int (((p1.toUInt32 >>> ((4 : Int32) &&& 31).toUInt32).toInt32) &&& (3 : Int32))), .val (.ref b192), .val (.ref b218), .val (.ref r_259), .val (.int (0 : Int32)), .val (.int (0 : Int32)), .unset] [(.int (((p1.toUInt32 >>> ((4 : Int32) &&& 31).toUInt32).toInt32) &&& (3 : Int32)))]) (fun _ k => XS.iload X266.here hx rfl (hb hby at_176) rfl k) ?_
        refine WinW.to T266 (mkF m 191 #[.val (.int p1), .val (.ref m1), .val (.ref w1), .val (.ref m2), .val (.ref w2), .val (.int (((p1.toUInt32 >>> ((4 : Int32) &&& 31).toUInt32).toInt32) &&& (3 : Int32))), .val (.ref b192), .val (.ref b218), .val (.ref r_259), .val (.int (0 : Int32)), .val (.int (0 : Int32)), .unset] []) (fun _ k => XS.ifYes X266.here hx rfl (pc0 := 178) (pc' := 191) rfl (hb hby at_178) rfl ((if0 _ _).trans (feq (show ¬ ((((p1.toUInt32 >>> ((4 : Int32) &&& 31).toUInt32).toInt32) &&& (3 : Int32)) = (0 : Int32)) from fun q => absurd (hc258.symm.trans q) (by decide))).2) (by decide) (by decide) k) ?_
        refine WinW.to T266 (mkF m 193 #[.val (.int p1), .val (.ref m1), .val (.ref w1), .val (.ref m2), .val (.ref w2), .val (.int (((p1.toUInt32 >>> ((4 : Int32) &&& 31).toUInt32).toInt32) &&& (3 : Int32))), .val (.ref b192), .val (.ref b218), .val (.ref r_259), .val (.int (0 : Int32)), .val (.int (0 : Int32)), .unset] [(.int (0 : Int32))]) (fun _ k => XS.iload X266.here hx rfl (hb hby at_191) rfl k) ?_
        refine WinW.to T266 (mkF m 195 #[.val (.int p1), .val (.ref m1), .val (.ref w1), .val (.ref m2), .val (.ref w2), .val (.int (((p1.toUInt32 >>> ((4 : Int32) &&& 31).toUInt32).toInt32) &&& (3 : Int32))), .val (.ref b192), .val (.ref b218), .val (.ref r_259), .val (.int (0 : Int32)), .val (.int (0 : Int32)), .val (.int (0 : Int32))] []) (fun _ k => XS.istore X266.here hx rfl (hb hby at_193) rfl (l' := #[.val (.int p1), .val (.ref m1), .val (.ref w1), .val (.ref m2), .val (.ref w2), .val (.int (((p1.toUInt32 >>> ((4 : Int32) &&& 31).toUInt32).toInt32) &&& (3 : Int32))), .val (.ref b192), .val (.ref b218), .val (.ref r_259), .val (.int (0 : Int32)), .val (.int (0 : Int32)), .val (.int (0 : Int32))]) rfl k) ?_
        refine WinW.to T266 (mkF m 197 #[.val (.int p1), .val (.ref m1), .val (.ref w1), .val (.ref m2), .val (.ref w2), .val (.int (((p1.toUInt32 >>> ((4 : Int32) &&& 31).toUInt32).toInt32) &&& (3 : Int32))), .val (.ref b192), .val (.ref b218), .val (.ref r_259), .val (.int (0 : Int32)), .val (.int (0 : Int32)), .val (.int (0 : Int32))] [(.int (0 : Int32))]) (fun _ k => XS.iload X266.here hx rfl (hb hby at_195) rfl k) ?_
        refine WinW.to T266 (mkF m 199 #[.val (.int p1), .val (.ref m1), .val (.ref w1), .val (.ref m2), .val (.ref w2), .val (.int (((p1.toUInt32 >>> ((4 : Int32) &&& 31).toUInt32).toInt32) &&& (3 : Int32))), .val (.ref b192), .val (.ref b218), .val (.ref r_259), .val (.int (0 : Int32)), .val (.int (0 : Int32)), .val (.int (0 : Int32))] [(.int (0 : Int32)), (.int (0 : Int32))]) (fun _ k => XS.iload X266.here hx rfl (hb hby at_197) rfl k) ?_
        refine WinW.to T266 (mkF m 202 #[.val (.int p1), .val (.ref m1), .val (.ref w1), .val (.ref m2), .val (.ref w2), .val (.int (((p1.toUInt32 >>> ((4 : Int32) &&& 31).toUInt32).toInt32) &&& (3 : Int32))), .val (.ref b192), .val (.ref b218), .val (.ref r_259), .val (.int (0 : Int32)), .val (.int (0 : Int32)), .val (.int (0 : Int32))] []) (fun _ k => XS.icmpNo X266.here hx rfl (hb hby at_199) rfl (teq (show (0 : Int32) = (0 : Int32) from by decide)).2 k) ?_
        refine WinW.to T266 (mkF m 204 #[.val (.int p1), .val (.ref m1), .val (.ref w1), .val (.ref m2), .val (.ref w2), .val (.int (((p1.toUInt32 >>> ((4 : Int32) &&& 31).toUInt32).toInt32) &&& (3 : Int32))), .val (.ref b192), .val (.ref b218), .val (.ref r_259), .val (.int (0 : Int32)), .val (.int (0 : Int32)), .val (.int (0 : Int32))] [(.int (0 : Int32))]) (fun _ k => XS.iload X266.here hx rfl (hb hby at_202) rfl k) ?_
        refine WinW.to T266 (mkF m 206 #[.val (.int p1), .val (.ref m1), .val (.ref w1), .val (.ref m2), .val (.ref w2), .val (.int (((p1.toUInt32 >>> ((4 : Int32) &&& 31).toUInt32).toInt32) &&& (3 : Int32))), .val (.ref b192), .val (.ref b218), .val (.ref r_259), .val (.int (0 : Int32)), .val (.int (0 : Int32)), .val (.int (0 : Int32))] [(.int (0 : Int32)), (.int (0 : Int32))]) (fun _ k => XS.iload X266.here hx rfl (hb hby at_204) rfl k) ?_
        refine WinW.to T266 (mkF m 209 #[.val (.int p1), .val (.ref m1), .val (.ref w1), .val (.ref m2), .val (.ref w2), .val (.int (((p1.toUInt32 >>> ((4 : Int32) &&& 31).toUInt32).toInt32) &&& (3 : Int32))), .val (.ref b192), .val (.ref b218), .val (.ref r_259), .val (.int (0 : Int32)), .val (.int (0 : Int32)), .val (.int (0 : Int32))] []) (fun _ k => XS.icmpNo X266.here hx rfl (hb hby at_206) rfl (teq (show (0 : Int32) = (0 : Int32) from by decide)).2 k) ?_
        refine WinW.to T266 (mkF m 210 #[.val (.int p1), .val (.ref m1), .val (.ref w1), .val (.ref m2), .val (.ref w2), .val (.int (((p1.toUInt32 >>> ((4 : Int32) &&& 31).toUInt32).toInt32) &&& (3 : Int32))), .val (.ref b192), .val (.ref b218), .val (.ref r_259), .val (.int (0 : Int32)), .val (.int (0 : Int32)), .val (.int (0 : Int32))] [(.int (1 : Int32))]) (fun _ k => XS.iconst X266.here hx rfl (hb hby at_209) k) ?_
        refine WinW.to T266 (mkF m 214 #[.val (.int p1), .val (.ref m1), .val (.ref w1), .val (.ref m2), .val (.ref w2), .val (.int (((p1.toUInt32 >>> ((4 : Int32) &&& 31).toUInt32).toInt32) &&& (3 : Int32))), .val (.ref b192), .val (.ref b218), .val (.ref r_259), .val (.int (0 : Int32)), .val (.int (0 : Int32)), .val (.int (0 : Int32))] [(.int (1 : Int32))]) (fun _ k => XS.goto X266.here hx rfl (pc0 := 210) (pc' := 214) rfl (hb hby at_210) (by decide) (by decide) k) ?_
        exact WinW.retN X266 hS248 (by rw [e266]; exact hk262) hx hlk (t := .boolean) hret (by simp) rfl (hb hby at_214) hZ248 (own_EW hw) (by rw [e266]; exact C265) (by decide) (by decide) (by (try rw [e266]); exact ⟨rfl, N268, trivial⟩)
      · refine WinW.to T248 (mkF m 129 #[.val (.int p1), .val (.ref m1), .val (.ref w1), .val (.ref m2), .val (.ref w2), .val (.int (((p1.toUInt32 >>> ((4 : Int32) &&& 31).toUInt32).toInt32) &&& (3 : Int32))), .val (.ref b192), .val (.ref b218), .unset, .unset, .unset, .unset] []) (fun _ k => XS.icmpYes X248.here hx rfl (pc0 := 114) (pc' := 129) rfl (hb hby at_114) rfl (feq hc258).2 (by decide) (by decide) k) ?_
        refine WinW.to T248 (mkF m 131 #[.val (.int p1), .val (.ref m1), .val (.ref w1), .val (.ref m2), .val (.ref w2), .val (.int (((p1.toUInt32 >>> ((4 : Int32) &&& 31).toUInt32).toInt32) &&& (3 : Int32))), .val (.ref b192), .val (.ref b218), .unset, .unset, .unset, .unset] [(.int (((p1.toUInt32 >>> ((4 : Int32) &&& 31).toUInt32).toInt32) &&& (3 : Int32)))]) (fun _ k => XS.iload X248.here hx rfl (hb hby at_129) rfl k) ?_
        refine WinW.to T248 (mkF m 132 #[.val (.int p1), .val (.ref m1), .val (.ref w1), .val (.ref m2), .val (.ref w2), .val (.int (((p1.toUInt32 >>> ((4 : Int32) &&& 31).toUInt32).toInt32) &&& (3 : Int32))), .val (.ref b192), .val (.ref b218), .unset, .unset, .unset, .unset] [(.int (3 : Int32)), (.int (((p1.toUInt32 >>> ((4 : Int32) &&& 31).toUInt32).toInt32) &&& (3 : Int32)))]) (fun _ k => XS.iconst X248.here hx rfl (hb hby at_131) k) ?_
        by_cases hc269 : (((p1.toUInt32 >>> ((4 : Int32) &&& 31).toUInt32).toInt32) &&& (3 : Int32)) = (3 : Int32)
        · refine WinW.to T248 (mkF m 135 #[.val (.int p1), .val (.ref m1), .val (.ref w1), .val (.ref m2), .val (.ref w2), .val (.int (((p1.toUInt32 >>> ((4 : Int32) &&& 31).toUInt32).toInt32) &&& (3 : Int32))), .val (.ref b192), .val (.ref b218), .unset, .unset, .unset, .unset] []) (fun _ k => XS.icmpNo X248.here hx rfl (hb hby at_132) rfl (teq hc269).2 k) ?_
          refine WinW.to T248 (mkF m 137 #[.val (.int p1), .val (.ref m1), .val (.ref w1), .val (.ref m2), .val (.ref w2), .val (.int (((p1.toUInt32 >>> ((4 : Int32) &&& 31).toUInt32).toInt32) &&& (3 : Int32))), .val (.ref b192), .val (.ref b218), .unset, .unset, .unset, .unset] [(.ref b192)]) (fun _ k => XS.aload X248.here hx rfl (hb hby at_135) rfl rfl k) ?_
          refine WinW.to T248 (mkF m 139 #[.val (.int p1), .val (.ref m1), .val (.ref w1), .val (.ref m2), .val (.ref w2), .val (.int (((p1.toUInt32 >>> ((4 : Int32) &&& 31).toUInt32).toInt32) &&& (3 : Int32))), .val (.ref b192), .val (.ref b218), .val (.ref b192), .unset, .unset, .unset] []) (fun _ k => XS.astore X248.here hx rfl (hb hby at_137) rfl rfl (l' := #[.val (.int p1), .val (.ref m1), .val (.ref w1), .val (.ref m2), .val (.ref w2), .val (.int (((p1.toUInt32 >>> ((4 : Int32) &&& 31).toUInt32).toInt32) &&& (3 : Int32))), .val (.ref b192), .val (.ref b218), .val (.ref b192), .unset, .unset, .unset]) rfl k) ?_
          refine WinW.to T248 (mkF m 140 #[.val (.int p1), .val (.ref m1), .val (.ref w1), .val (.ref m2), .val (.ref w2), .val (.int (((p1.toUInt32 >>> ((4 : Int32) &&& 31).toUInt32).toInt32) &&& (3 : Int32))), .val (.ref b192), .val (.ref b218), .val (.ref b192), .unset, .unset, .unset] [(.int (1 : Int32))]) (fun _ k => XS.iconst X248.here hx rfl (hb hby at_139) k) ?_
          refine WinW.to T248 (mkF m 142 #[.val (.int p1), .val (.ref m1), .val (.ref w1), .val (.ref m2), .val (.ref w2), .val (.int (((p1.toUInt32 >>> ((4 : Int32) &&& 31).toUInt32).toInt32) &&& (3 : Int32))), .val (.ref b192), .val (.ref b218), .val (.ref b192), .val (.int (1 : Int32)), .unset, .unset] []) (fun _ k => XS.istore X248.here hx rfl (hb hby at_140) rfl (l' := #[.val (.int p1), .val (.ref m1), .val (.ref w1), .val (.ref m2), .val (.ref w2), .val (.int (((p1.toUInt32 >>> ((4 : Int32) &&& 31).toUInt32).toInt32) &&& (3 : Int32))), .val (.ref b192), .val (.ref b218), .val (.ref b192), .val (.int (1 : Int32)), .unset, .unset]) rfl k) ?_
          refine WinW.to T248 (mkF m 167 #[.val (.int p1), .val (.ref m1), .val (.ref w1), .val (.ref m2), .val (.ref w2), .val (.int (((p1.toUInt32 >>> ((4 : Int32) &&& 31).toUInt32).toInt32) &&& (3 : Int32))), .val (.ref b192), .val (.ref b218), .val (.ref b192), .val (.int (1 : Int32)), .unset, .unset] []) (fun _ k => XS.goto X248.here hx rfl (pc0 := 142) (pc' := 167) rfl (hb hby at_142) (by decide) (by decide) k) ?_
          refine WinW.to T248 (mkF m 169 #[.val (.int p1), .val (.ref m1), .val (.ref w1), .val (.ref m2), .val (.ref w2), .val (.int (((p1.toUInt32 >>> ((4 : Int32) &&& 31).toUInt32).toInt32) &&& (3 : Int32))), .val (.ref b192), .val (.ref b218), .val (.ref b192), .val (.int (1 : Int32)), .unset, .unset] [(.ref b192)]) (fun _ k => XS.aload X248.here hx rfl (hb hby at_167) rfl rfl k) ?_
          refine WinW.to T248 (mkF m 171 #[.val (.int p1), .val (.ref m1), .val (.ref w1), .val (.ref m2), .val (.ref w2), .val (.int (((p1.toUInt32 >>> ((4 : Int32) &&& 31).toUInt32).toInt32) &&& (3 : Int32))), .val (.ref b192), .val (.ref b218), .val (.ref b192), .val (.int (1 : Int32)), .unset, .unset] [(.ref b192), (.ref b192)]) (fun _ k => XS.aload X248.here hx rfl (hb hby at_169) rfl rfl k) ?_
          have F270 : Exa Z h248 b192 "com/example/tariffic/tariffic/engine/PriceClass" := ((Exa.ext E218 F235).keep r248_0)
          have F271 : Fld Z h248 b192 "com/example/tariffic/tariffic/engine/PriceClass" "model" "Lcom/example/tariffic/tariffic/engine/ComputeModel;" (.ref m1) := ((Fld.ext E218 r212_1).keep r248_0 (ninS ne236 nin0))
          have F272 : Fld Z h248 b192 "com/example/tariffic/tariffic/engine/PriceClass" "workload" "Lcom/example/tariffic/tariffic/engine/Workload;" (.ref w1) := ((Fld.ext E218 r212_2).keep r248_0 (ninS ne236 nin0))
          obtain ⟨T273, h273, v273, L273, X273, e273, ⟨rfl, N273q, r273_0⟩, st273⟩ := N.virtual X248 hx hZ248 (y := (⟨"com/example/tariffic/tariffic/engine/PriceClass", "equals", "(Ljava/lang/Object;)Z"⟩ : MethodName)) (z := (⟨"com/example/tariffic/tariffic/engine/PriceClass", "equals", "(Ljava/lang/Object;)Z"⟩ : MethodName)) hown248 (hw _ (List.mem_of_getElem? (i := 36) rfl)) (hw _ (List.mem_of_getElem? (i := 37) rfl)) (notFace_of_selects (args := #[]) (mvT hZ248 (hw _ (List.mem_of_getElem? (i := 39) rfl)))) (hw _ (List.mem_of_getElem? (i := 39) rfl)) (hw _ (List.mem_of_getElem? (i := 38) rfl)) (hw _ (List.mem_of_getElem? (i := 8) rfl)) (hw _ (List.mem_of_getElem? (i := 40) rfl)) (by decide) (eqPC l Z a0 hw b192 b192 m1 w1 m1 w1 (1 : Int32) h248 n0 O250 F270 F271 F272 F271 F272 (fun _ _ => rfl) (fun q => absurd rfl q) (fun q => absurd rfl q)) e248 F270 (g := (mkF m 171 #[.val (.int p1), .val (.ref m1), .val (.ref w1), .val (.ref m2), .val (.ref w2), .val (.int (((p1.toUInt32 >>> ((4 : Int32) &&& 31).toUInt32).toInt32) &&& (3 : Int32))), .val (.ref b192), .val (.ref b218), .val (.ref b192), .val (.int (1 : Int32)), .unset, .unset] [(.ref b192), (.ref b192)])) rfl (by rw [hml]; rfl) (argsL := [(.ref b192)]) (rest := []) rfl (lenOf pd__Ljava_lang_Object__Z rfl) rfl (W := 0) (by show 2 * 0 + _ ≤ _; exact Nat.le_of_eq rfl) (hb hby at_171) (by decide) (by decide) (by decide) (by decide)
          have N274 := Fr.app N249 N273q
          have e273 := e273.trans r273_0
          refine WinW.to T273 (mkF m 174 #[.val (.int p1), .val (.ref m1), .val (.ref w1), .val (.ref m2), .val (.ref w2), .val (.int (((p1.toUInt32 >>> ((4 : Int32) &&& 31).toUInt32).toInt32) &&& (3 : Int32))), .val (.ref b192), .val (.ref b218), .val (.ref b192), .val (.int (1 : Int32)), .unset, .unset] [(.int (1 : Int32))]) (fun _ k => st273 _ k) ?_
          refine WinW.to T273 (mkF m 176 #[.val (.int p1), .val (.ref m1), .val (.ref w1), .val (.ref m2), .val (.ref w2), .val (.int (((p1.toUInt32 >>> ((4 : Int32) &&& 31).toUInt32).toInt32) &&& (3 : Int32))), .val (.ref b192), .val (.ref b218), .val (.ref b192), .val (.int (1 : Int32)), .val (.int (1 : Int32)), .unset] []) (fun _ k => XS.istore X273.here hx rfl (hb hby at_174) rfl (l' := #[.val (.int p1), .val (.ref m1), .val (.ref w1), .val (.ref m2), .val (.ref w2), .val (.int (((p1.toUInt32 >>> ((4 : Int32) &&& 31).toUInt32).toInt32) &&& (3 : Int32))), .val (.ref b192), .val (.ref b218), .val (.ref b192), .val (.int (1 : Int32)), .val (.int (1 : Int32)), .unset]) rfl k) ?_
          refine WinW.to T273 (mkF m 178 #[.val (.int p1), .val (.ref m1), .val (.ref w1), .val (.ref m2), .val (.ref w2), .val (.int (((p1.toUInt32 >>> ((4 : Int32) &&& 31).toUInt32).toInt32) &&& (3 : Int32))), .val (.ref b192), .val (.ref b218), .val (.ref b192), .val (.int (1 : Int32)), .val (.int (1 : Int32)), .unset] [(.int (((p1.toUInt32 >>> ((4 : Int32) &&& 31).toUInt32).toInt32) &&& (3 : Int32)))]) (fun _ k => XS.iload X273.here hx rfl (hb hby at_176) rfl k) ?_
          refine WinW.to T273 (mkF m 191 #[.val (.int p1), .val (.ref m1), .val (.ref w1), .val (.ref m2), .val (.ref w2), .val (.int (((p1.toUInt32 >>> ((4 : Int32) &&& 31).toUInt32).toInt32) &&& (3 : Int32))), .val (.ref b192), .val (.ref b218), .val (.ref b192), .val (.int (1 : Int32)), .val (.int (1 : Int32)), .unset] []) (fun _ k => XS.ifYes X273.here hx rfl (pc0 := 178) (pc' := 191) rfl (hb hby at_178) rfl ((if0 _ _).trans (feq (show ¬ ((((p1.toUInt32 >>> ((4 : Int32) &&& 31).toUInt32).toInt32) &&& (3 : Int32)) = (0 : Int32)) from fun q => absurd (hc269.symm.trans q) (by decide))).2) (by decide) (by decide) k) ?_
          refine WinW.to T273 (mkF m 193 #[.val (.int p1), .val (.ref m1), .val (.ref w1), .val (.ref m2), .val (.ref w2), .val (.int (((p1.toUInt32 >>> ((4 : Int32) &&& 31).toUInt32).toInt32) &&& (3 : Int32))), .val (.ref b192), .val (.ref b218), .val (.ref b192), .val (.int (1 : Int32)), .val (.int (1 : Int32)), .unset] [(.int (1 : Int32))]) (fun _ k => XS.iload X273.here hx rfl (hb hby at_191) rfl k) ?_
          refine WinW.to T273 (mkF m 195 #[.val (.int p1), .val (.ref m1), .val (.ref w1), .val (.ref m2), .val (.ref w2), .val (.int (((p1.toUInt32 >>> ((4 : Int32) &&& 31).toUInt32).toInt32) &&& (3 : Int32))), .val (.ref b192), .val (.ref b218), .val (.ref b192), .val (.int (1 : Int32)), .val (.int (1 : Int32)), .val (.int (1 : Int32))] []) (fun _ k => XS.istore X273.here hx rfl (hb hby at_193) rfl (l' := #[.val (.int p1), .val (.ref m1), .val (.ref w1), .val (.ref m2), .val (.ref w2), .val (.int (((p1.toUInt32 >>> ((4 : Int32) &&& 31).toUInt32).toInt32) &&& (3 : Int32))), .val (.ref b192), .val (.ref b218), .val (.ref b192), .val (.int (1 : Int32)), .val (.int (1 : Int32)), .val (.int (1 : Int32))]) rfl k) ?_
          refine WinW.to T273 (mkF m 197 #[.val (.int p1), .val (.ref m1), .val (.ref w1), .val (.ref m2), .val (.ref w2), .val (.int (((p1.toUInt32 >>> ((4 : Int32) &&& 31).toUInt32).toInt32) &&& (3 : Int32))), .val (.ref b192), .val (.ref b218), .val (.ref b192), .val (.int (1 : Int32)), .val (.int (1 : Int32)), .val (.int (1 : Int32))] [(.int (1 : Int32))]) (fun _ k => XS.iload X273.here hx rfl (hb hby at_195) rfl k) ?_
          refine WinW.to T273 (mkF m 199 #[.val (.int p1), .val (.ref m1), .val (.ref w1), .val (.ref m2), .val (.ref w2), .val (.int (((p1.toUInt32 >>> ((4 : Int32) &&& 31).toUInt32).toInt32) &&& (3 : Int32))), .val (.ref b192), .val (.ref b218), .val (.ref b192), .val (.int (1 : Int32)), .val (.int (1 : Int32)), .val (.int (1 : Int32))] [(.int (1 : Int32)), (.int (1 : Int32))]) (fun _ k => XS.iload X273.here hx rfl (hb hby at_197) rfl k) ?_
          refine WinW.to T273 (mkF m 202 #[.val (.int p1), .val (.ref m1), .val (.ref w1), .val (.ref m2), .val (.ref w2), .val (.int (((p1.toUInt32 >>> ((4 : Int32) &&& 31).toUInt32).toInt32) &&& (3 : Int32))), .val (.ref b192), .val (.ref b218), .val (.ref b192), .val (.int (1 : Int32)), .val (.int (1 : Int32)), .val (.int (1 : Int32))] []) (fun _ k => XS.icmpNo X273.here hx rfl (hb hby at_199) rfl (teq (show (1 : Int32) = (1 : Int32) from by decide)).2 k) ?_
          refine WinW.to T273 (mkF m 204 #[.val (.int p1), .val (.ref m1), .val (.ref w1), .val (.ref m2), .val (.ref w2), .val (.int (((p1.toUInt32 >>> ((4 : Int32) &&& 31).toUInt32).toInt32) &&& (3 : Int32))), .val (.ref b192), .val (.ref b218), .val (.ref b192), .val (.int (1 : Int32)), .val (.int (1 : Int32)), .val (.int (1 : Int32))] [(.int (1 : Int32))]) (fun _ k => XS.iload X273.here hx rfl (hb hby at_202) rfl k) ?_
          refine WinW.to T273 (mkF m 206 #[.val (.int p1), .val (.ref m1), .val (.ref w1), .val (.ref m2), .val (.ref w2), .val (.int (((p1.toUInt32 >>> ((4 : Int32) &&& 31).toUInt32).toInt32) &&& (3 : Int32))), .val (.ref b192), .val (.ref b218), .val (.ref b192), .val (.int (1 : Int32)), .val (.int (1 : Int32)), .val (.int (1 : Int32))] [(.int (1 : Int32)), (.int (1 : Int32))]) (fun _ k => XS.iload X273.here hx rfl (hb hby at_204) rfl k) ?_
          refine WinW.to T273 (mkF m 209 #[.val (.int p1), .val (.ref m1), .val (.ref w1), .val (.ref m2), .val (.ref w2), .val (.int (((p1.toUInt32 >>> ((4 : Int32) &&& 31).toUInt32).toInt32) &&& (3 : Int32))), .val (.ref b192), .val (.ref b218), .val (.ref b192), .val (.int (1 : Int32)), .val (.int (1 : Int32)), .val (.int (1 : Int32))] []) (fun _ k => XS.icmpNo X273.here hx rfl (hb hby at_206) rfl (teq (show (1 : Int32) = (1 : Int32) from by decide)).2 k) ?_
          refine WinW.to T273 (mkF m 210 #[.val (.int p1), .val (.ref m1), .val (.ref w1), .val (.ref m2), .val (.ref w2), .val (.int (((p1.toUInt32 >>> ((4 : Int32) &&& 31).toUInt32).toInt32) &&& (3 : Int32))), .val (.ref b192), .val (.ref b218), .val (.ref b192), .val (.int (1 : Int32)), .val (.int (1 : Int32)), .val (.int (1 : Int32))] [(.int (1 : Int32))]) (fun _ k => XS.iconst X273.here hx rfl (hb hby at_209) k) ?_
          refine WinW.to T273 (mkF m 214 #[.val (.int p1), .val (.ref m1), .val (.ref w1), .val (.ref m2), .val (.ref w2), .val (.int (((p1.toUInt32 >>> ((4 : Int32) &&& 31).toUInt32).toInt32) &&& (3 : Int32))), .val (.ref b192), .val (.ref b218), .val (.ref b192), .val (.int (1 : Int32)), .val (.int (1 : Int32)), .val (.int (1 : Int32))] [(.int (1 : Int32))]) (fun _ k => XS.goto X273.here hx rfl (pc0 := 210) (pc' := 214) rfl (hb hby at_210) (by decide) (by decide) k) ?_
          exact WinW.retN X273 hS248 (by rw [e273]; exact hk248) hx hlk (t := .boolean) hret (by simp) rfl (hb hby at_214) hZ248 (own_EW hw) (by rw [e273]; exact C253) (by decide) (by decide) (by (try rw [e273]); exact ⟨rfl, N274, trivial⟩)
        · refine WinW.to T248 (mkF m 145 #[.val (.int p1), .val (.ref m1), .val (.ref w1), .val (.ref m2), .val (.ref w2), .val (.int (((p1.toUInt32 >>> ((4 : Int32) &&& 31).toUInt32).toInt32) &&& (3 : Int32))), .val (.ref b192), .val (.ref b218), .unset, .unset, .unset, .unset] []) (fun _ k => XS.icmpYes X248.here hx rfl (pc0 := 132) (pc' := 145) rfl (hb hby at_132) rfl (feq hc269).2 (by decide) (by decide) k) ?_
          refine WinW.to T248 (mkF m 147 #[.val (.int p1), .val (.ref m1), .val (.ref w1), .val (.ref m2), .val (.ref w2), .val (.int (((p1.toUInt32 >>> ((4 : Int32) &&& 31).toUInt32).toInt32) &&& (3 : Int32))), .val (.ref b192), .val (.ref b218), .unset, .unset, .unset, .unset] [(.ref b218)]) (fun _ k => XS.aload X248.here hx rfl (hb hby at_145) rfl rfl k) ?_
          refine WinW.to T248 (mkF m 149 #[.val (.int p1), .val (.ref m1), .val (.ref w1), .val (.ref m2), .val (.ref w2), .val (.int (((p1.toUInt32 >>> ((4 : Int32) &&& 31).toUInt32).toInt32) &&& (3 : Int32))), .val (.ref b192), .val (.ref b218), .val (.ref b218), .unset, .unset, .unset] []) (fun _ k => XS.astore X248.here hx rfl (hb hby at_147) rfl rfl (l' := #[.val (.int p1), .val (.ref m1), .val (.ref w1), .val (.ref m2), .val (.ref w2), .val (.int (((p1.toUInt32 >>> ((4 : Int32) &&& 31).toUInt32).toInt32) &&& (3 : Int32))), .val (.ref b192), .val (.ref b218), .val (.ref b218), .unset, .unset, .unset]) rfl k) ?_
          refine WinW.to T248 (mkF m 150 #[.val (.int p1), .val (.ref m1), .val (.ref w1), .val (.ref m2), .val (.ref w2), .val (.int (((p1.toUInt32 >>> ((4 : Int32) &&& 31).toUInt32).toInt32) &&& (3 : Int32))), .val (.ref b192), .val (.ref b218), .val (.ref b218), .unset, .unset, .unset] [(.ref m1)]) (fun _ k => XS.aloadN X248.here hx rfl (hb hby at_149) rfl rfl k) ?_
          refine WinW.to T248 (mkF m 151 #[.val (.int p1), .val (.ref m1), .val (.ref w1), .val (.ref m2), .val (.ref w2), .val (.int (((p1.toUInt32 >>> ((4 : Int32) &&& 31).toUInt32).toInt32) &&& (3 : Int32))), .val (.ref b192), .val (.ref b218), .val (.ref b218), .unset, .unset, .unset] [(.ref m2), (.ref m1)]) (fun _ k => XS.aloadN X248.here hx rfl (hb hby at_150) rfl rfl k) ?_
          by_cases hc275 : m1 = m2
          · refine WinW.to T248 (mkF m 154 #[.val (.int p1), .val (.ref m1), .val (.ref w1), .val (.ref m2), .val (.ref w2), .val (.int (((p1.toUInt32 >>> ((4 : Int32) &&& 31).toUInt32).toInt32) &&& (3 : Int32))), .val (.ref b192), .val (.ref b218), .val (.ref b218), .unset, .unset, .unset] []) (fun _ k => Jvm.RoadKit.acmp (g := (mkF m 151 #[.val (.int p1), .val (.ref m1), .val (.ref w1), .val (.ref m2), .val (.ref w2), .val (.int (((p1.toUInt32 >>> ((4 : Int32) &&& 31).toUInt32).toInt32) &&& (3 : Int32))), .val (.ref b192), .val (.ref b218), .val (.ref b218), .unset, .unset, .unset] [(.ref m2), (.ref m1)])) X248 hx rfl rfl rfl (pc0 := 151) (pc' := 154) (same := true) rfl (hb hby at_151) rfl (decide_eq_true (congrArg Value.ref hc275)) (by decide) (by decide) k) ?_
            refine WinW.to T248 (mkF m 155 #[.val (.int p1), .val (.ref m1), .val (.ref w1), .val (.ref m2), .val (.ref w2), .val (.int (((p1.toUInt32 >>> ((4 : Int32) &&& 31).toUInt32).toInt32) &&& (3 : Int32))), .val (.ref b192), .val (.ref b218), .val (.ref b218), .unset, .unset, .unset] [(.ref w1)]) (fun _ k => XS.aloadN X248.here hx rfl (hb hby at_154) rfl rfl k) ?_
            refine WinW.to T248 (mkF m 157 #[.val (.int p1), .val (.ref m1), .val (.ref w1), .val (.ref m2), .val (.ref w2), .val (.int (((p1.toUInt32 >>> ((4 : Int32) &&& 31).toUInt32).toInt32) &&& (3 : Int32))), .val (.ref b192), .val (.ref b218), .val (.ref b218), .unset, .unset, .unset] [(.ref w2), (.ref w1)]) (fun _ k => XS.aload X248.here hx rfl (hb hby at_155) rfl rfl k) ?_
            by_cases hc276 : w1 = w2
            · refine WinW.to T248 (mkF m 160 #[.val (.int p1), .val (.ref m1), .val (.ref w1), .val (.ref m2), .val (.ref w2), .val (.int (((p1.toUInt32 >>> ((4 : Int32) &&& 31).toUInt32).toInt32) &&& (3 : Int32))), .val (.ref b192), .val (.ref b218), .val (.ref b218), .unset, .unset, .unset] []) (fun _ k => Jvm.RoadKit.acmp (g := (mkF m 157 #[.val (.int p1), .val (.ref m1), .val (.ref w1), .val (.ref m2), .val (.ref w2), .val (.int (((p1.toUInt32 >>> ((4 : Int32) &&& 31).toUInt32).toInt32) &&& (3 : Int32))), .val (.ref b192), .val (.ref b218), .val (.ref b218), .unset, .unset, .unset] [(.ref w2), (.ref w1)])) X248 hx rfl rfl rfl (pc0 := 157) (pc' := 160) (same := true) rfl (hb hby at_157) rfl (decide_eq_true (congrArg Value.ref hc276)) (by decide) (by decide) k) ?_
              refine WinW.to T248 (mkF m 161 #[.val (.int p1), .val (.ref m1), .val (.ref w1), .val (.ref m2), .val (.ref w2), .val (.int (((p1.toUInt32 >>> ((4 : Int32) &&& 31).toUInt32).toInt32) &&& (3 : Int32))), .val (.ref b192), .val (.ref b218), .val (.ref b218), .unset, .unset, .unset] [(.int (1 : Int32))]) (fun _ k => XS.iconst X248.here hx rfl (hb hby at_160) k) ?_
              refine WinW.to T248 (mkF m 165 #[.val (.int p1), .val (.ref m1), .val (.ref w1), .val (.ref m2), .val (.ref w2), .val (.int (((p1.toUInt32 >>> ((4 : Int32) &&& 31).toUInt32).toInt32) &&& (3 : Int32))), .val (.ref b192), .val (.ref b218), .val (.ref b218), .unset, .unset, .unset] [(.int (1 : Int32))]) (fun _ k => XS.goto X248.here hx rfl (pc0 := 161) (pc' := 165) rfl (hb hby at_161) (by decide) (by decide) k) ?_
              refine WinW.to T248 (mkF m 167 #[.val (.int p1), .val (.ref m1), .val (.ref w1), .val (.ref m2), .val (.ref w2), .val (.int (((p1.toUInt32 >>> ((4 : Int32) &&& 31).toUInt32).toInt32) &&& (3 : Int32))), .val (.ref b192), .val (.ref b218), .val (.ref b218), .val (.int (1 : Int32)), .unset, .unset] []) (fun _ k => XS.istore X248.here hx rfl (hb hby at_165) rfl (l' := #[.val (.int p1), .val (.ref m1), .val (.ref w1), .val (.ref m2), .val (.ref w2), .val (.int (((p1.toUInt32 >>> ((4 : Int32) &&& 31).toUInt32).toInt32) &&& (3 : Int32))), .val (.ref b192), .val (.ref b218), .val (.ref b218), .val (.int (1 : Int32)), .unset, .unset]) rfl k) ?_
              refine WinW.to T248 (mkF m 169 #[.val (.int p1), .val (.ref m1), .val (.ref w1), .val (.ref m2), .val (.ref w2), .val (.int (((p1.toUInt32 >>> ((4 : Int32) &&& 31).toUInt32).toInt32) &&& (3 : Int32))), .val (.ref b192), .val (.ref b218), .val (.ref b218), .val (.int (1 : Int32)), .unset, .unset] [(.ref b192)]) (fun _ k => XS.aload X248.here hx rfl (hb hby at_167) rfl rfl k) ?_
              refine WinW.to T248 (mkF m 171 #[.val (.int p1), .val (.ref m1), .val (.ref w1), .val (.ref m2), .val (.ref w2), .val (.int (((p1.toUInt32 >>> ((4 : Int32) &&& 31).toUInt32).toInt32) &&& (3 : Int32))), .val (.ref b192), .val (.ref b218), .val (.ref b218), .val (.int (1 : Int32)), .unset, .unset] [(.ref b218), (.ref b192)]) (fun _ k => XS.aload X248.here hx rfl (hb hby at_169) rfl rfl k) ?_
              have F277 : Exa Z h248 b218 "com/example/tariffic/tariffic/engine/PriceClass" := (A218.keep r248_0)
              have F278 : Fld Z h248 b192 "com/example/tariffic/tariffic/engine/PriceClass" "model" "Lcom/example/tariffic/tariffic/engine/ComputeModel;" (.ref m1) := ((Fld.ext E218 r212_1).keep r248_0 (ninS ne236 nin0))
              have F279 : Fld Z h248 b192 "com/example/tariffic/tariffic/engine/PriceClass" "workload" "Lcom/example/tariffic/tariffic/engine/Workload;" (.ref w1) := ((Fld.ext E218 r212_2).keep r248_0 (ninS ne236 nin0))
              have F281 : Exa Z h248 b192 "com/example/tariffic/tariffic/engine/PriceClass" := ((Exa.ext E218 F235).keep r248_0)
              obtain ⟨T280, h280, v280, L280, X280, e280, ⟨rfl, N280q, r280_0⟩, st280⟩ := N.virtual X248 hx hZ248 (y := (⟨"com/example/tariffic/tariffic/engine/PriceClass", "equals", "(Ljava/lang/Object;)Z"⟩ : MethodName)) (z := (⟨"com/example/tariffic/tariffic/engine/PriceClass", "equals", "(Ljava/lang/Object;)Z"⟩ : MethodName)) hown248 (hw _ (List.mem_of_getElem? (i := 36) rfl)) (hw _ (List.mem_of_getElem? (i := 37) rfl)) (notFace_of_selects (args := #[]) (mvT hZ248 (hw _ (List.mem_of_getElem? (i := 39) rfl)))) (hw _ (List.mem_of_getElem? (i := 39) rfl)) (hw _ (List.mem_of_getElem? (i := 38) rfl)) (hw _ (List.mem_of_getElem? (i := 8) rfl)) (hw _ (List.mem_of_getElem? (i := 40) rfl)) (by decide) (eqPC l Z a0 hw b192 b218 m1 w1 m2 w2 (1 : Int32) h248 n0 O250 F277 F278 F279 r248_1 r248_2 (fun _ _ => rfl) (fun q => absurd (Eq.symm hc275) q) (fun q => absurd (Eq.symm hc276) q)) e248 F281 (g := (mkF m 171 #[.val (.int p1), .val (.ref m1), .val (.ref w1), .val (.ref m2), .val (.ref w2), .val (.int (((p1.toUInt32 >>> ((4 : Int32) &&& 31).toUInt32).toInt32) &&& (3 : Int32))), .val (.ref b192), .val (.ref b218), .val (.ref b218), .val (.int (1 : Int32)), .unset, .unset] [(.ref b218), (.ref b192)])) rfl (by rw [hml]; rfl) (argsL := [(.ref b218)]) (rest := []) rfl (lenOf pd__Ljava_lang_Object__Z rfl) rfl (W := 0) (by show 2 * 0 + _ ≤ _; exact Nat.le_of_eq rfl) (hb hby at_171) (by decide) (by decide) (by decide) (by decide)
              have N282 := Fr.app N249 N280q
              have e280 := e280.trans r280_0
              refine WinW.to T280 (mkF m 174 #[.val (.int p1), .val (.ref m1), .val (.ref w1), .val (.ref m2), .val (.ref w2), .val (.int (((p1.toUInt32 >>> ((4 : Int32) &&& 31).toUInt32).toInt32) &&& (3 : Int32))), .val (.ref b192), .val (.ref b218), .val (.ref b218), .val (.int (1 : Int32)), .unset, .unset] [(.int (1 : Int32))]) (fun _ k => st280 _ k) ?_
              refine WinW.to T280 (mkF m 176 #[.val (.int p1), .val (.ref m1), .val (.ref w1), .val (.ref m2), .val (.ref w2), .val (.int (((p1.toUInt32 >>> ((4 : Int32) &&& 31).toUInt32).toInt32) &&& (3 : Int32))), .val (.ref b192), .val (.ref b218), .val (.ref b218), .val (.int (1 : Int32)), .val (.int (1 : Int32)), .unset] []) (fun _ k => XS.istore X280.here hx rfl (hb hby at_174) rfl (l' := #[.val (.int p1), .val (.ref m1), .val (.ref w1), .val (.ref m2), .val (.ref w2), .val (.int (((p1.toUInt32 >>> ((4 : Int32) &&& 31).toUInt32).toInt32) &&& (3 : Int32))), .val (.ref b192), .val (.ref b218), .val (.ref b218), .val (.int (1 : Int32)), .val (.int (1 : Int32)), .unset]) rfl k) ?_
              refine WinW.to T280 (mkF m 178 #[.val (.int p1), .val (.ref m1), .val (.ref w1), .val (.ref m2), .val (.ref w2), .val (.int (((p1.toUInt32 >>> ((4 : Int32) &&& 31).toUInt32).toInt32) &&& (3 : Int32))), .val (.ref b192), .val (.ref b218), .val (.ref b218), .val (.int (1 : Int32)), .val (.int (1 : Int32)), .unset] [(.int (((p1.toUInt32 >>> ((4 : Int32) &&& 31).toUInt32).toInt32) &&& (3 : Int32)))]) (fun _ k => XS.iload X280.here hx rfl (hb hby at_176) rfl k) ?_
              by_cases hc283 : (((p1.toUInt32 >>> ((4 : Int32) &&& 31).toUInt32).toInt32) &&& (3 : Int32)) = (0 : Int32)
              · refine WinW.to T280 (mkF m 181 #[.val (.int p1), .val (.ref m1), .val (.ref w1), .val (.ref m2), .val (.ref w2), .val (.int (((p1.toUInt32 >>> ((4 : Int32) &&& 31).toUInt32).toInt32) &&& (3 : Int32))), .val (.ref b192), .val (.ref b218), .val (.ref b218), .val (.int (1 : Int32)), .val (.int (1 : Int32)), .unset] []) (fun _ k => XS.ifNo X280.here hx rfl (hb hby at_178) rfl ((if0 _ _).trans (teq hc283).2) k) ?_
                refine WinW.to T280 (mkF m 183 #[.val (.int p1), .val (.ref m1), .val (.ref w1), .val (.ref m2), .val (.ref w2), .val (.int (((p1.toUInt32 >>> ((4 : Int32) &&& 31).toUInt32).toInt32) &&& (3 : Int32))), .val (.ref b192), .val (.ref b218), .val (.ref b218), .val (.int (1 : Int32)), .val (.int (1 : Int32)), .unset] [(.ref b218)]) (fun _ k => XS.aload X280.here hx rfl (hb hby at_181) rfl rfl k) ?_
                refine WinW.to T280 (mkF m 185 #[.val (.int p1), .val (.ref m1), .val (.ref w1), .val (.ref m2), .val (.ref w2), .val (.int (((p1.toUInt32 >>> ((4 : Int32) &&& 31).toUInt32).toInt32) &&& (3 : Int32))), .val (.ref b192), .val (.ref b218), .val (.ref b218), .val (.int (1 : Int32)), .val (.int (1 : Int32)), .unset] [(.ref b192), (.ref b218)]) (fun _ k => XS.aload X280.here hx rfl (hb hby at_183) rfl rfl k) ?_
                obtain ⟨T284, h284, v284, L284, X284, e284, ⟨rfl, N284q, r284_0⟩, st284⟩ := N.virtual X280 hx hZ248 (y := (⟨"com/example/tariffic/tariffic/engine/PriceClass", "equals", "(Ljava/lang/Object;)Z"⟩ : MethodName)) (z := (⟨"com/example/tariffic/tariffic/engine/PriceClass", "equals", "(Ljava/lang/Object;)Z"⟩ : MethodName)) hown248 (hw _ (List.mem_of_getElem? (i := 36) rfl)) (hw _ (List.mem_of_getElem? (i := 37) rfl)) (notFace_of_selects (args := #[]) (mvT hZ248 (hw _ (List.mem_of_getElem? (i := 39) rfl)))) (hw _ (List.mem_of_getElem? (i := 39) rfl)) (hw _ (List.mem_of_getElem? (i := 38) rfl)) (hw _ (List.mem_of_getElem? (i := 8) rfl)) (hw _ (List.mem_of_getElem? (i := 40) rfl)) (by decide) (eqPC l Z a0 hw b218 b192 m2 w2 m1 w1 (1 : Int32) h248 n0 O250 F281 r248_1 r248_2 F278 F279 (fun _ _ => rfl) (fun q => absurd hc275 q) (fun q => absurd hc276 q)) e280 F277 (g := (mkF m 185 #[.val (.int p1), .val (.ref m1), .val (.ref w1), .val (.ref m2), .val (.ref w2), .val (.int (((p1.toUInt32 >>> ((4 : Int32) &&& 31).toUInt32).toInt32) &&& (3 : Int32))), .val (.ref b192), .val (.ref b218), .val (.ref b218), .val (.int (1 : Int32)), .val (.int (1 : Int32)), .unset] [(.ref b192), (.ref b218)])) rfl (by rw [hml]; rfl) (argsL := [(.ref b192)]) (rest := []) rfl (lenOf pd__Ljava_lang_Object__Z rfl) rfl (W := 0) (by show 2 * 0 + _ ≤ _; exact Nat.le_of_eq rfl) (hb hby at_185) (by decide) (by decide) (by decide) (by decide)
                have N285 := Fr.app N282 N284q
                have e284 := e284.trans r284_0
                refine WinW.to T284 (mkF m 188 #[.val (.int p1), .val (.ref m1), .val (.ref w1), .val (.ref m2), .val (.ref w2), .val (.int (((p1.toUInt32 >>> ((4 : Int32) &&& 31).toUInt32).toInt32) &&& (3 : Int32))), .val (.ref b192), .val (.ref b218), .val (.ref b218), .val (.int (1 : Int32)), .val (.int (1 : Int32)), .unset] [(.int (1 : Int32))]) (fun _ k => st284 _ k) ?_
                refine WinW.to T284 (mkF m 193 #[.val (.int p1), .val (.ref m1), .val (.ref w1), .val (.ref m2), .val (.ref w2), .val (.int (((p1.toUInt32 >>> ((4 : Int32) &&& 31).toUInt32).toInt32) &&& (3 : Int32))), .val (.ref b192), .val (.ref b218), .val (.ref b218), .val (.int (1 : Int32)), .val (.int (1 : Int32)), .unset] [(.int (1 : Int32))]) (fun _ k => XS.goto X284.here hx rfl (pc0 := 188) (pc' := 193) rfl (hb hby at_188) (by decide) (by decide) k) ?_
                refine WinW.to T284 (mkF m 195 #[.val (.int p1), .val (.ref m1), .val (.ref w1), .val (.ref m2), .val (.ref w2), .val (.int (((p1.toUInt32 >>> ((4 : Int32) &&& 31).toUInt32).toInt32) &&& (3 : Int32))), .val (.ref b192), .val (.ref b218), .val (.ref b218), .val (.int (1 : Int32)), .val (.int (1 : Int32)), .val (.int (1 : Int32))] []) (fun _ k => XS.istore X284.here hx rfl (hb hby at_193) rfl (l' := #[.val (.int p1), .val (.ref m1), .val (.ref w1), .val (.ref m2), .val (.ref w2), .val (.int (((p1.toUInt32 >>> ((4 : Int32) &&& 31).toUInt32).toInt32) &&& (3 : Int32))), .val (.ref b192), .val (.ref b218), .val (.ref b218), .val (.int (1 : Int32)), .val (.int (1 : Int32)), .val (.int (1 : Int32))]) rfl k) ?_
                refine WinW.to T284 (mkF m 197 #[.val (.int p1), .val (.ref m1), .val (.ref w1), .val (.ref m2), .val (.ref w2), .val (.int (((p1.toUInt32 >>> ((4 : Int32) &&& 31).toUInt32).toInt32) &&& (3 : Int32))), .val (.ref b192), .val (.ref b218), .val (.ref b218), .val (.int (1 : Int32)), .val (.int (1 : Int32)), .val (.int (1 : Int32))] [(.int (1 : Int32))]) (fun _ k => XS.iload X284.here hx rfl (hb hby at_195) rfl k) ?_
                refine WinW.to T284 (mkF m 199 #[.val (.int p1), .val (.ref m1), .val (.ref w1), .val (.ref m2), .val (.ref w2), .val (.int (((p1.toUInt32 >>> ((4 : Int32) &&& 31).toUInt32).toInt32) &&& (3 : Int32))), .val (.ref b192), .val (.ref b218), .val (.ref b218), .val (.int (1 : Int32)), .val (.int (1 : Int32)), .val (.int (1 : Int32))] [(.int (1 : Int32)), (.int (1 : Int32))]) (fun _ k => XS.iload X284.here hx rfl (hb hby at_197) rfl k) ?_
                refine WinW.to T284 (mkF m 202 #[.val (.int p1), .val (.ref m1), .val (.ref w1), .val (.ref m2), .val (.ref w2), .val (.int (((p1.toUInt32 >>> ((4 : Int32) &&& 31).toUInt32).toInt32) &&& (3 : Int32))), .val (.ref b192), .val (.ref b218), .val (.ref b218), .val (.int (1 : Int32)), .val (.int (1 : Int32)), .val (.int (1 : Int32))] []) (fun _ k => XS.icmpNo X284.here hx rfl (hb hby at_199) rfl (teq (show (1 : Int32) = (1 : Int32) from by decide)).2 k) ?_
                refine WinW.to T284 (mkF m 204 #[.val (.int p1), .val (.ref m1), .val (.ref w1), .val (.ref m2), .val (.ref w2), .val (.int (((p1.toUInt32 >>> ((4 : Int32) &&& 31).toUInt32).toInt32) &&& (3 : Int32))), .val (.ref b192), .val (.ref b218), .val (.ref b218), .val (.int (1 : Int32)), .val (.int (1 : Int32)), .val (.int (1 : Int32))] [(.int (1 : Int32))]) (fun _ k => XS.iload X284.here hx rfl (hb hby at_202) rfl k) ?_
                refine WinW.to T284 (mkF m 206 #[.val (.int p1), .val (.ref m1), .val (.ref w1), .val (.ref m2), .val (.ref w2), .val (.int (((p1.toUInt32 >>> ((4 : Int32) &&& 31).toUInt32).toInt32) &&& (3 : Int32))), .val (.ref b192), .val (.ref b218), .val (.ref b218), .val (.int (1 : Int32)), .val (.int (1 : Int32)), .val (.int (1 : Int32))] [(.int (1 : Int32)), (.int (1 : Int32))]) (fun _ k => XS.iload X284.here hx rfl (hb hby at_204) rfl k) ?_
                refine WinW.to T284 (mkF m 209 #[.val (.int p1), .val (.ref m1), .val (.ref w1), .val (.ref m2), .val (.ref w2), .val (.int (((p1.toUInt32 >>> ((4 : Int32) &&& 31).toUInt32).toInt32) &&& (3 : Int32))), .val (.ref b192), .val (.ref b218), .val (.ref b218), .val (.int (1 : Int32)), .val (.int (1 : Int32)), .val (.int (1 : Int32))] []) (fun _ k => XS.icmpNo X284.here hx rfl (hb hby at_206) rfl (teq (show (1 : Int32) = (1 : Int32) from by decide)).2 k) ?_
                refine WinW.to T284 (mkF m 210 #[.val (.int p1), .val (.ref m1), .val (.ref w1), .val (.ref m2), .val (.ref w2), .val (.int (((p1.toUInt32 >>> ((4 : Int32) &&& 31).toUInt32).toInt32) &&& (3 : Int32))), .val (.ref b192), .val (.ref b218), .val (.ref b218), .val (.int (1 : Int32)), .val (.int (1 : Int32)), .val (.int (1 : Int32))] [(.int (1 : Int32))]) (fun _ k => XS.iconst X284.here hx rfl (hb hby at_209) k) ?_
                refine WinW.to T284 (mkF m 214 #[.val (.int p1), .val (.ref m1), .val (.ref w1), .val (.ref m2), .val (.ref w2), .val (.int (((p1.toUInt32 >>> ((4 : Int32) &&& 31).toUInt32).toInt32) &&& (3 : Int32))), .val (.ref b192), .val (.ref b218), .val (.ref b218), .val (.int (1 : Int32)), .val (.int (1 : Int32)), .val (.int (1 : Int32))] [(.int (1 : Int32))]) (fun _ k => XS.goto X284.here hx rfl (pc0 := 210) (pc' := 214) rfl (hb hby at_210) (by decide) (by decide) k) ?_
                exact WinW.retN X284 hS248 (by rw [e284]; exact hk248) hx hlk (t := .boolean) hret (by simp) rfl (hb hby at_214) hZ248 (own_EW hw) (by rw [e284]; exact C253) (by decide) (by decide) (by (try rw [e284]); exact ⟨rfl, N285, trivial⟩)
              · refine WinW.to T280 (mkF m 191 #[.val (.int p1), .val (.ref m1), .val (.ref w1), .val (.ref m2), .val (.ref w2), .val (.int (((p1.toUInt32 >>> ((4 : Int32) &&& 31).toUInt32).toInt32) &&& (3 : Int32))), .val (.ref b192), .val (.ref b218), .val (.ref b218), .val (.int (1 : Int32)), .val (.int (1 : Int32)), .unset] []) (fun _ k => XS.ifYes X280.here hx rfl (pc0 := 178) (pc' := 191) rfl (hb hby at_178) rfl ((if0 _ _).trans (feq hc283).2) (by decide) (by decide) k) ?_
                refine WinW.to T280 (mkF m 193 #[.val (.int p1), .val (.ref m1), .val (.ref w1), .val (.ref m2), .val (.ref w2), .val (.int (((p1.toUInt32 >>> ((4 : Int32) &&& 31).toUInt32).toInt32) &&& (3 : Int32))), .val (.ref b192), .val (.ref b218), .val (.ref b218), .val (.int (1 : Int32)), .val (.int (1 : Int32)), .unset] [(.int (1 : Int32))]) (fun _ k => XS.iload X280.here hx rfl (hb hby at_191) rfl k) ?_
                refine WinW.to T280 (mkF m 195 #[.val (.int p1), .val (.ref m1), .val (.ref w1), .val (.ref m2), .val (.ref w2), .val (.int (((p1.toUInt32 >>> ((4 : Int32) &&& 31).toUInt32).toInt32) &&& (3 : Int32))), .val (.ref b192), .val (.ref b218), .val (.ref b218), .val (.int (1 : Int32)), .val (.int (1 : Int32)), .val (.int (1 : Int32))] []) (fun _ k => XS.istore X280.here hx rfl (hb hby at_193) rfl (l' := #[.val (.int p1), .val (.ref m1), .val (.ref w1), .val (.ref m2), .val (.ref w2), .val (.int (((p1.toUInt32 >>> ((4 : Int32) &&& 31).toUInt32).toInt32) &&& (3 : Int32))), .val (.ref b192), .val (.ref b218), .val (.ref b218), .val (.int (1 : Int32)), .val (.int (1 : Int32)), .val (.int (1 : Int32))]) rfl k) ?_
                refine WinW.to T280 (mkF m 197 #[.val (.int p1), .val (.ref m1), .val (.ref w1), .val (.ref m2), .val (.ref w2), .val (.int (((p1.toUInt32 >>> ((4 : Int32) &&& 31).toUInt32).toInt32) &&& (3 : Int32))), .val (.ref b192), .val (.ref b218), .val (.ref b218), .val (.int (1 : Int32)), .val (.int (1 : Int32)), .val (.int (1 : Int32))] [(.int (1 : Int32))]) (fun _ k => XS.iload X280.here hx rfl (hb hby at_195) rfl k) ?_
                refine WinW.to T280 (mkF m 199 #[.val (.int p1), .val (.ref m1), .val (.ref w1), .val (.ref m2), .val (.ref w2), .val (.int (((p1.toUInt32 >>> ((4 : Int32) &&& 31).toUInt32).toInt32) &&& (3 : Int32))), .val (.ref b192), .val (.ref b218), .val (.ref b218), .val (.int (1 : Int32)), .val (.int (1 : Int32)), .val (.int (1 : Int32))] [(.int (1 : Int32)), (.int (1 : Int32))]) (fun _ k => XS.iload X280.here hx rfl (hb hby at_197) rfl k) ?_
                refine WinW.to T280 (mkF m 202 #[.val (.int p1), .val (.ref m1), .val (.ref w1), .val (.ref m2), .val (.ref w2), .val (.int (((p1.toUInt32 >>> ((4 : Int32) &&& 31).toUInt32).toInt32) &&& (3 : Int32))), .val (.ref b192), .val (.ref b218), .val (.ref b218), .val (.int (1 : Int32)), .val (.int (1 : Int32)), .val (.int (1 : Int32))] []) (fun _ k => XS.icmpNo X280.here hx rfl (hb hby at_199) rfl (teq (show (1 : Int32) = (1 : Int32) from by decide)).2 k) ?_
                refine WinW.to T280 (mkF m 204 #[.val (.int p1), .val (.ref m1), .val (.ref w1), .val (.ref m2), .val (.ref w2), .val (.int (((p1.toUInt32 >>> ((4 : Int32) &&& 31).toUInt32).toInt32) &&& (3 : Int32))), .val (.ref b192), .val (.ref b218), .val (.ref b218), .val (.int (1 : Int32)), .val (.int (1 : Int32)), .val (.int (1 : Int32))] [(.int (1 : Int32))]) (fun _ k => XS.iload X280.here hx rfl (hb hby at_202) rfl k) ?_
                refine WinW.to T280 (mkF m 206 #[.val (.int p1), .val (.ref m1), .val (.ref w1), .val (.ref m2), .val (.ref w2), .val (.int (((p1.toUInt32 >>> ((4 : Int32) &&& 31).toUInt32).toInt32) &&& (3 : Int32))), .val (.ref b192), .val (.ref b218), .val (.ref b218), .val (.int (1 : Int32)), .val (.int (1 : Int32)), .val (.int (1 : Int32))] [(.int (1 : Int32)), (.int (1 : Int32))]) (fun _ k => XS.iload X280.here hx rfl (hb hby at_204) rfl k) ?_
                refine WinW.to T280 (mkF m 209 #[.val (.int p1), .val (.ref m1), .val (.ref w1), .val (.ref m2), .val (.ref w2), .val (.int (((p1.toUInt32 >>> ((4 : Int32) &&& 31).toUInt32).toInt32) &&& (3 : Int32))), .val (.ref b192), .val (.ref b218), .val (.ref b218), .val (.int (1 : Int32)), .val (.int (1 : Int32)), .val (.int (1 : Int32))] []) (fun _ k => XS.icmpNo X280.here hx rfl (hb hby at_206) rfl (teq (show (1 : Int32) = (1 : Int32) from by decide)).2 k) ?_
                refine WinW.to T280 (mkF m 210 #[.val (.int p1), .val (.ref m1), .val (.ref w1), .val (.ref m2), .val (.ref w2), .val (.int (((p1.toUInt32 >>> ((4 : Int32) &&& 31).toUInt32).toInt32) &&& (3 : Int32))), .val (.ref b192), .val (.ref b218), .val (.ref b218), .val (.int (1 : Int32)), .val (.int (1 : Int32)), .val (.int (1 : Int32))] [(.int (1 : Int32))]) (fun _ k => XS.iconst X280.here hx rfl (hb hby at_209) k) ?_
                refine WinW.to T280 (mkF m 214 #[.val (.int p1), .val (.ref m1), .val (.ref w1), .val (.ref m2), .val (.ref w2), .val (.int (((p1.toUInt32 >>> ((4 : Int32) &&& 31).toUInt32).toInt32) &&& (3 : Int32))), .val (.ref b192), .val (.ref b218), .val (.ref b218), .val (.int (1 : Int32)), .val (.int (1 : Int32)), .val (.int (1 : Int32))] [(.int (1 : Int32))]) (fun _ k => XS.goto X280.here hx rfl (pc0 := 210) (pc' := 214) rfl (hb hby at_210) (by decide) (by decide) k) ?_
                exact WinW.retN X280 hS248 (by rw [e280]; exact hk248) hx hlk (t := .boolean) hret (by simp) rfl (hb hby at_214) hZ248 (own_EW hw) (by rw [e280]; exact C253) (by decide) (by decide) (by (try rw [e280]); exact ⟨rfl, N282, trivial⟩)
            · refine WinW.to T248 (mkF m 164 #[.val (.int p1), .val (.ref m1), .val (.ref w1), .val (.ref m2), .val (.ref w2), .val (.int (((p1.toUInt32 >>> ((4 : Int32) &&& 31).toUInt32).toInt32) &&& (3 : Int32))), .val (.ref b192), .val (.ref b218), .val (.ref b218), .unset, .unset, .unset] []) (fun _ k => Jvm.RoadKit.acmp (g := (mkF m 157 #[.val (.int p1), .val (.ref m1), .val (.ref w1), .val (.ref m2), .val (.ref w2), .val (.int (((p1.toUInt32 >>> ((4 : Int32) &&& 31).toUInt32).toInt32) &&& (3 : Int32))), .val (.ref b192), .val (.ref b218), .val (.ref b218), .unset, .unset, .unset] [(.ref w2), (.ref w1)])) X248 hx rfl rfl rfl (pc0 := 157) (pc' := 164) (same := false) rfl (hb hby at_157) rfl (decide_eq_false fun q => hc276 (Value.ref.inj q)) (by decide) (by decide) k) ?_
              refine WinW.to T248 (mkF m 165 #[.val (.int p1), .val (.ref m1), .val (.ref w1), .val (.ref m2), .val (.ref w2), .val (.int (((p1.toUInt32 >>> ((4 : Int32) &&& 31).toUInt32).toInt32) &&& (3 : Int32))), .val (.ref b192), .val (.ref b218), .val (.ref b218), .unset, .unset, .unset] [(.int (0 : Int32))]) (fun _ k => XS.iconst X248.here hx rfl (hb hby at_164) k) ?_
              refine WinW.to T248 (mkF m 167 #[.val (.int p1), .val (.ref m1), .val (.ref w1), .val (.ref m2), .val (.ref w2), .val (.int (((p1.toUInt32 >>> ((4 : Int32) &&& 31).toUInt32).toInt32) &&& (3 : Int32))), .val (.ref b192), .val (.ref b218), .val (.ref b218), .val (.int (0 : Int32)), .unset, .unset] []) (fun _ k => XS.istore X248.here hx rfl (hb hby at_165) rfl (l' := #[.val (.int p1), .val (.ref m1), .val (.ref w1), .val (.ref m2), .val (.ref w2), .val (.int (((p1.toUInt32 >>> ((4 : Int32) &&& 31).toUInt32).toInt32) &&& (3 : Int32))), .val (.ref b192), .val (.ref b218), .val (.ref b218), .val (.int (0 : Int32)), .unset, .unset]) rfl k) ?_
              refine WinW.to T248 (mkF m 169 #[.val (.int p1), .val (.ref m1), .val (.ref w1), .val (.ref m2), .val (.ref w2), .val (.int (((p1.toUInt32 >>> ((4 : Int32) &&& 31).toUInt32).toInt32) &&& (3 : Int32))), .val (.ref b192), .val (.ref b218), .val (.ref b218), .val (.int (0 : Int32)), .unset, .unset] [(.ref b192)]) (fun _ k => XS.aload X248.here hx rfl (hb hby at_167) rfl rfl k) ?_
              refine WinW.to T248 (mkF m 171 #[.val (.int p1), .val (.ref m1), .val (.ref w1), .val (.ref m2), .val (.ref w2), .val (.int (((p1.toUInt32 >>> ((4 : Int32) &&& 31).toUInt32).toInt32) &&& (3 : Int32))), .val (.ref b192), .val (.ref b218), .val (.ref b218), .val (.int (0 : Int32)), .unset, .unset] [(.ref b218), (.ref b192)]) (fun _ k => XS.aload X248.here hx rfl (hb hby at_169) rfl rfl k) ?_
              have F286 : Exa Z h248 b218 "com/example/tariffic/tariffic/engine/PriceClass" := (A218.keep r248_0)
              have F287 : Fld Z h248 b192 "com/example/tariffic/tariffic/engine/PriceClass" "model" "Lcom/example/tariffic/tariffic/engine/ComputeModel;" (.ref m1) := ((Fld.ext E218 r212_1).keep r248_0 (ninS ne236 nin0))
              have F288 : Fld Z h248 b192 "com/example/tariffic/tariffic/engine/PriceClass" "workload" "Lcom/example/tariffic/tariffic/engine/Workload;" (.ref w1) := ((Fld.ext E218 r212_2).keep r248_0 (ninS ne236 nin0))
              have F290 : Exa Z h248 b192 "com/example/tariffic/tariffic/engine/PriceClass" := ((Exa.ext E218 F235).keep r248_0)
              obtain ⟨T289, h289, v289, L289, X289, e289, ⟨rfl, N289q, r289_0⟩, st289⟩ := N.virtual X248 hx hZ248 (y := (⟨"com/example/tariffic/tariffic/engine/PriceClass", "equals", "(Ljava/lang/Object;)Z"⟩ : MethodName)) (z := (⟨"com/example/tariffic/tariffic/engine/PriceClass", "equals", "(Ljava/lang/Object;)Z"⟩ : MethodName)) hown248 (hw _ (List.mem_of_getElem? (i := 36) rfl)) (hw _ (List.mem_of_getElem? (i := 37) rfl)) (notFace_of_selects (args := #[]) (mvT hZ248 (hw _ (List.mem_of_getElem? (i := 39) rfl)))) (hw _ (List.mem_of_getElem? (i := 39) rfl)) (hw _ (List.mem_of_getElem? (i := 38) rfl)) (hw _ (List.mem_of_getElem? (i := 8) rfl)) (hw _ (List.mem_of_getElem? (i := 40) rfl)) (by decide) (eqPC l Z a0 hw b192 b218 m1 w1 m2 w2 (0 : Int32) h248 n0 O250 F286 F287 F288 r248_1 r248_2 (fun _ q => absurd q (fun q => hc276 q.symm)) (fun q => absurd (Eq.symm hc275) q) (fun _ => rfl)) e248 F290 (g := (mkF m 171 #[.val (.int p1), .val (.ref m1), .val (.ref w1), .val (.ref m2), .val (.ref w2), .val (.int (((p1.toUInt32 >>> ((4 : Int32) &&& 31).toUInt32).toInt32) &&& (3 : Int32))), .val (.ref b192), .val (.ref b218), .val (.ref b218), .val (.int (0 : Int32)), .unset, .unset] [(.ref b218), (.ref b192)])) rfl (by rw [hml]; rfl) (argsL := [(.ref b218)]) (rest := []) rfl (lenOf pd__Ljava_lang_Object__Z rfl) rfl (W := 0) (by show 2 * 0 + _ ≤ _; exact Nat.le_of_eq rfl) (hb hby at_171) (by decide) (by decide) (by decide) (by decide)
              have N291 := Fr.app N249 N289q
              have e289 := e289.trans r289_0
              refine WinW.to T289 (mkF m 174 #[.val (.int p1), .val (.ref m1), .val (.ref w1), .val (.ref m2), .val (.ref w2), .val (.int (((p1.toUInt32 >>> ((4 : Int32) &&& 31).toUInt32).toInt32) &&& (3 : Int32))), .val (.ref b192), .val (.ref b218), .val (.ref b218), .val (.int (0 : Int32)), .unset, .unset] [(.int (0 : Int32))]) (fun _ k => st289 _ k) ?_
              refine WinW.to T289 (mkF m 176 #[.val (.int p1), .val (.ref m1), .val (.ref w1), .val (.ref m2), .val (.ref w2), .val (.int (((p1.toUInt32 >>> ((4 : Int32) &&& 31).toUInt32).toInt32) &&& (3 : Int32))), .val (.ref b192), .val (.ref b218), .val (.ref b218), .val (.int (0 : Int32)), .val (.int (0 : Int32)), .unset] []) (fun _ k => XS.istore X289.here hx rfl (hb hby at_174) rfl (l' := #[.val (.int p1), .val (.ref m1), .val (.ref w1), .val (.ref m2), .val (.ref w2), .val (.int (((p1.toUInt32 >>> ((4 : Int32) &&& 31).toUInt32).toInt32) &&& (3 : Int32))), .val (.ref b192), .val (.ref b218), .val (.ref b218), .val (.int (0 : Int32)), .val (.int (0 : Int32)), .unset]) rfl k) ?_
              refine WinW.to T289 (mkF m 178 #[.val (.int p1), .val (.ref m1), .val (.ref w1), .val (.ref m2), .val (.ref w2), .val (.int (((p1.toUInt32 >>> ((4 : Int32) &&& 31).toUInt32).toInt32) &&& (3 : Int32))), .val (.ref b192), .val (.ref b218), .val (.ref b218), .val (.int (0 : Int32)), .val (.int (0 : Int32)), .unset] [(.int (((p1.toUInt32 >>> ((4 : Int32) &&& 31).toUInt32).toInt32) &&& (3 : Int32)))]) (fun _ k => XS.iload X289.here hx rfl (hb hby at_176) rfl k) ?_
              by_cases hc292 : (((p1.toUInt32 >>> ((4 : Int32) &&& 31).toUInt32).toInt32) &&& (3 : Int32)) = (0 : Int32)
              · refine WinW.to T289 (mkF m 181 #[.val (.int p1), .val (.ref m1), .val (.ref w1), .val (.ref m2), .val (.ref w2), .val (.int (((p1.toUInt32 >>> ((4 : Int32) &&& 31).toUInt32).toInt32) &&& (3 : Int32))), .val (.ref b192), .val (.ref b218), .val (.ref b218), .val (.int (0 : Int32)), .val (.int (0 : Int32)), .unset] []) (fun _ k => XS.ifNo X289.here hx rfl (hb hby at_178) rfl ((if0 _ _).trans (teq hc292).2) k) ?_
                refine WinW.to T289 (mkF m 183 #[.val (.int p1), .val (.ref m1), .val (.ref w1), .val (.ref m2), .val (.ref w2), .val (.int (((p1.toUInt32 >>> ((4 : Int32) &&& 31).toUInt32).toInt32) &&& (3 : Int32))), .val (.ref b192), .val (.ref b218), .val (.ref b218), .val (.int (0 : Int32)), .val (.int (0 : Int32)), .unset] [(.ref b218)]) (fun _ k => XS.aload X289.here hx rfl (hb hby at_181) rfl rfl k) ?_
                refine WinW.to T289 (mkF m 185 #[.val (.int p1), .val (.ref m1), .val (.ref w1), .val (.ref m2), .val (.ref w2), .val (.int (((p1.toUInt32 >>> ((4 : Int32) &&& 31).toUInt32).toInt32) &&& (3 : Int32))), .val (.ref b192), .val (.ref b218), .val (.ref b218), .val (.int (0 : Int32)), .val (.int (0 : Int32)), .unset] [(.ref b192), (.ref b218)]) (fun _ k => XS.aload X289.here hx rfl (hb hby at_183) rfl rfl k) ?_
                obtain ⟨T293, h293, v293, L293, X293, e293, ⟨rfl, N293q, r293_0⟩, st293⟩ := N.virtual X289 hx hZ248 (y := (⟨"com/example/tariffic/tariffic/engine/PriceClass", "equals", "(Ljava/lang/Object;)Z"⟩ : MethodName)) (z := (⟨"com/example/tariffic/tariffic/engine/PriceClass", "equals", "(Ljava/lang/Object;)Z"⟩ : MethodName)) hown248 (hw _ (List.mem_of_getElem? (i := 36) rfl)) (hw _ (List.mem_of_getElem? (i := 37) rfl)) (notFace_of_selects (args := #[]) (mvT hZ248 (hw _ (List.mem_of_getElem? (i := 39) rfl)))) (hw _ (List.mem_of_getElem? (i := 39) rfl)) (hw _ (List.mem_of_getElem? (i := 38) rfl)) (hw _ (List.mem_of_getElem? (i := 8) rfl)) (hw _ (List.mem_of_getElem? (i := 40) rfl)) (by decide) (eqPC l Z a0 hw b218 b192 m2 w2 m1 w1 (0 : Int32) h248 n0 O250 F290 r248_1 r248_2 F287 F288 (fun _ q => absurd q hc276) (fun q => absurd hc275 q) (fun _ => rfl)) e289 F286 (g := (mkF m 185 #[.val (.int p1), .val (.ref m1), .val (.ref w1), .val (.ref m2), .val (.ref w2), .val (.int (((p1.toUInt32 >>> ((4 : Int32) &&& 31).toUInt32).toInt32) &&& (3 : Int32))), .val (.ref b192), .val (.ref b218), .val (.ref b218), .val (.int (0 : Int32)), .val (.int (0 : Int32)), .unset] [(.ref b192), (.ref b218)])) rfl (by rw [hml]; rfl) (argsL := [(.ref b192)]) (rest := []) rfl (lenOf pd__Ljava_lang_Object__Z rfl) rfl (W := 0) (by show 2 * 0 + _ ≤ _; exact Nat.le_of_eq rfl) (hb hby at_185) (by decide) (by decide) (by decide) (by decide)
                have N294 := Fr.app N291 N293q
                have e293 := e293.trans r293_0
                refine WinW.to T293 (mkF m 188 #[.val (.int p1), .val (.ref m1), .val (.ref w1), .val (.ref m2), .val (.ref w2), .val (.int (((p1.toUInt32 >>> ((4 : Int32) &&& 31).toUInt32).toInt32) &&& (3 : Int32))), .val (.ref b192), .val (.ref b218), .val (.ref b218), .val (.int (0 : Int32)), .val (.int (0 : Int32)), .unset] [(.int (0 : Int32))]) (fun _ k => st293 _ k) ?_
                refine WinW.to T293 (mkF m 193 #[.val (.int p1), .val (.ref m1), .val (.ref w1), .val (.ref m2), .val (.ref w2), .val (.int (((p1.toUInt32 >>> ((4 : Int32) &&& 31).toUInt32).toInt32) &&& (3 : Int32))), .val (.ref b192), .val (.ref b218), .val (.ref b218), .val (.int (0 : Int32)), .val (.int (0 : Int32)), .unset] [(.int (0 : Int32))]) (fun _ k => XS.goto X293.here hx rfl (pc0 := 188) (pc' := 193) rfl (hb hby at_188) (by decide) (by decide) k) ?_
                refine WinW.to T293 (mkF m 195 #[.val (.int p1), .val (.ref m1), .val (.ref w1), .val (.ref m2), .val (.ref w2), .val (.int (((p1.toUInt32 >>> ((4 : Int32) &&& 31).toUInt32).toInt32) &&& (3 : Int32))), .val (.ref b192), .val (.ref b218), .val (.ref b218), .val (.int (0 : Int32)), .val (.int (0 : Int32)), .val (.int (0 : Int32))] []) (fun _ k => XS.istore X293.here hx rfl (hb hby at_193) rfl (l' := #[.val (.int p1), .val (.ref m1), .val (.ref w1), .val (.ref m2), .val (.ref w2), .val (.int (((p1.toUInt32 >>> ((4 : Int32) &&& 31).toUInt32).toInt32) &&& (3 : Int32))), .val (.ref b192), .val (.ref b218), .val (.ref b218), .val (.int (0 : Int32)), .val (.int (0 : Int32)), .val (.int (0 : Int32))]) rfl k) ?_
                refine WinW.to T293 (mkF m 197 #[.val (.int p1), .val (.ref m1), .val (.ref w1), .val (.ref m2), .val (.ref w2), .val (.int (((p1.toUInt32 >>> ((4 : Int32) &&& 31).toUInt32).toInt32) &&& (3 : Int32))), .val (.ref b192), .val (.ref b218), .val (.ref b218), .val (.int (0 : Int32)), .val (.int (0 : Int32)), .val (.int (0 : Int32))] [(.int (0 : Int32))]) (fun _ k => XS.iload X293.here hx rfl (hb hby at_195) rfl k) ?_
                refine WinW.to T293 (mkF m 199 #[.val (.int p1), .val (.ref m1), .val (.ref w1), .val (.ref m2), .val (.ref w2), .val (.int (((p1.toUInt32 >>> ((4 : Int32) &&& 31).toUInt32).toInt32) &&& (3 : Int32))), .val (.ref b192), .val (.ref b218), .val (.ref b218), .val (.int (0 : Int32)), .val (.int (0 : Int32)), .val (.int (0 : Int32))] [(.int (0 : Int32)), (.int (0 : Int32))]) (fun _ k => XS.iload X293.here hx rfl (hb hby at_197) rfl k) ?_
                refine WinW.to T293 (mkF m 202 #[.val (.int p1), .val (.ref m1), .val (.ref w1), .val (.ref m2), .val (.ref w2), .val (.int (((p1.toUInt32 >>> ((4 : Int32) &&& 31).toUInt32).toInt32) &&& (3 : Int32))), .val (.ref b192), .val (.ref b218), .val (.ref b218), .val (.int (0 : Int32)), .val (.int (0 : Int32)), .val (.int (0 : Int32))] []) (fun _ k => XS.icmpNo X293.here hx rfl (hb hby at_199) rfl (teq (show (0 : Int32) = (0 : Int32) from by decide)).2 k) ?_
                refine WinW.to T293 (mkF m 204 #[.val (.int p1), .val (.ref m1), .val (.ref w1), .val (.ref m2), .val (.ref w2), .val (.int (((p1.toUInt32 >>> ((4 : Int32) &&& 31).toUInt32).toInt32) &&& (3 : Int32))), .val (.ref b192), .val (.ref b218), .val (.ref b218), .val (.int (0 : Int32)), .val (.int (0 : Int32)), .val (.int (0 : Int32))] [(.int (0 : Int32))]) (fun _ k => XS.iload X293.here hx rfl (hb hby at_202) rfl k) ?_
                refine WinW.to T293 (mkF m 206 #[.val (.int p1), .val (.ref m1), .val (.ref w1), .val (.ref m2), .val (.ref w2), .val (.int (((p1.toUInt32 >>> ((4 : Int32) &&& 31).toUInt32).toInt32) &&& (3 : Int32))), .val (.ref b192), .val (.ref b218), .val (.ref b218), .val (.int (0 : Int32)), .val (.int (0 : Int32)), .val (.int (0 : Int32))] [(.int (0 : Int32)), (.int (0 : Int32))]) (fun _ k => XS.iload X293.here hx rfl (hb hby at_204) rfl k) ?_
                refine WinW.to T293 (mkF m 209 #[.val (.int p1), .val (.ref m1), .val (.ref w1), .val (.ref m2), .val (.ref w2), .val (.int (((p1.toUInt32 >>> ((4 : Int32) &&& 31).toUInt32).toInt32) &&& (3 : Int32))), .val (.ref b192), .val (.ref b218), .val (.ref b218), .val (.int (0 : Int32)), .val (.int (0 : Int32)), .val (.int (0 : Int32))] []) (fun _ k => XS.icmpNo X293.here hx rfl (hb hby at_206) rfl (teq (show (0 : Int32) = (0 : Int32) from by decide)).2 k) ?_
                refine WinW.to T293 (mkF m 210 #[.val (.int p1), .val (.ref m1), .val (.ref w1), .val (.ref m2), .val (.ref w2), .val (.int (((p1.toUInt32 >>> ((4 : Int32) &&& 31).toUInt32).toInt32) &&& (3 : Int32))), .val (.ref b192), .val (.ref b218), .val (.ref b218), .val (.int (0 : Int32)), .val (.int (0 : Int32)), .val (.int (0 : Int32))] [(.int (1 : Int32))]) (fun _ k => XS.iconst X293.here hx rfl (hb hby at_209) k) ?_
                refine WinW.to T293 (mkF m 214 #[.val (.int p1), .val (.ref m1), .val (.ref w1), .val (.ref m2), .val (.ref w2), .val (.int (((p1.toUInt32 >>> ((4 : Int32) &&& 31).toUInt32).toInt32) &&& (3 : Int32))), .val (.ref b192), .val (.ref b218), .val (.ref b218), .val (.int (0 : Int32)), .val (.int (0 : Int32)), .val (.int (0 : Int32))] [(.int (1 : Int32))]) (fun _ k => XS.goto X293.here hx rfl (pc0 := 210) (pc' := 214) rfl (hb hby at_210) (by decide) (by decide) k) ?_
                exact WinW.retN X293 hS248 (by rw [e293]; exact hk248) hx hlk (t := .boolean) hret (by simp) rfl (hb hby at_214) hZ248 (own_EW hw) (by rw [e293]; exact C253) (by decide) (by decide) (by (try rw [e293]); exact ⟨rfl, N294, trivial⟩)
              · refine WinW.to T289 (mkF m 191 #[.val (.int p1), .val (.ref m1), .val (.ref w1), .val (.ref m2), .val (.ref w2), .val (.int (((p1.toUInt32 >>> ((4 : Int32) &&& 31).toUInt32).toInt32) &&& (3 : Int32))), .val (.ref b192), .val (.ref b218), .val (.ref b218), .val (.int (0 : Int32)), .val (.int (0 : Int32)), .unset] []) (fun _ k => XS.ifYes X289.here hx rfl (pc0 := 178) (pc' := 191) rfl (hb hby at_178) rfl ((if0 _ _).trans (feq hc292).2) (by decide) (by decide) k) ?_
                refine WinW.to T289 (mkF m 193 #[.val (.int p1), .val (.ref m1), .val (.ref w1), .val (.ref m2), .val (.ref w2), .val (.int (((p1.toUInt32 >>> ((4 : Int32) &&& 31).toUInt32).toInt32) &&& (3 : Int32))), .val (.ref b192), .val (.ref b218), .val (.ref b218), .val (.int (0 : Int32)), .val (.int (0 : Int32)), .unset] [(.int (0 : Int32))]) (fun _ k => XS.iload X289.here hx rfl (hb hby at_191) rfl k) ?_
                refine WinW.to T289 (mkF m 195 #[.val (.int p1), .val (.ref m1), .val (.ref w1), .val (.ref m2), .val (.ref w2), .val (.int (((p1.toUInt32 >>> ((4 : Int32) &&& 31).toUInt32).toInt32) &&& (3 : Int32))), .val (.ref b192), .val (.ref b218), .val (.ref b218), .val (.int (0 : Int32)), .val (.int (0 : Int32)), .val (.int (0 : Int32))] []) (fun _ k => XS.istore X289.here hx rfl (hb hby at_193) rfl (l' := #[.val (.int p1), .val (.ref m1), .val (.ref w1), .val (.ref m2), .val (.ref w2), .val (.int (((p1.toUInt32 >>> ((4 : Int32) &&& 31).toUInt32).toInt32) &&& (3 : Int32))), .val (.ref b192), .val (.ref b218), .val (.ref b218), .val (.int (0 : Int32)), .val (.int (0 : Int32)), .val (.int (0 : Int32))]) rfl k) ?_
                refine WinW.to T289 (mkF m 197 #[.val (.int p1), .val (.ref m1), .val (.ref w1), .val (.ref m2), .val (.ref w2), .val (.int (((p1.toUInt32 >>> ((4 : Int32) &&& 31).toUInt32).toInt32) &&& (3 : Int32))), .val (.ref b192), .val (.ref b218), .val (.ref b218), .val (.int (0 : Int32)), .val (.int (0 : Int32)), .val (.int (0 : Int32))] [(.int (0 : Int32))]) (fun _ k => XS.iload X289.here hx rfl (hb hby at_195) rfl k) ?_
                refine WinW.to T289 (mkF m 199 #[.val (.int p1), .val (.ref m1), .val (.ref w1), .val (.ref m2), .val (.ref w2), .val (.int (((p1.toUInt32 >>> ((4 : Int32) &&& 31).toUInt32).toInt32) &&& (3 : Int32))), .val (.ref b192), .val (.ref b218), .val (.ref b218), .val (.int (0 : Int32)), .val (.int (0 : Int32)), .val (.int (0 : Int32))] [(.int (0 : Int32)), (.int (0 : Int32))]) (fun _ k => XS.iload X289.here hx rfl (hb hby at_197) rfl k) ?_
                refine WinW.to T289 (mkF m 202 #[.val (.int p1), .val (.ref m1), .val (.ref w1), .val (.ref m2), .val (.ref w2), .val (.int (((p1.toUInt32 >>> ((4 : Int32) &&& 31).toUInt32).toInt32) &&& (3 : Int32))), .val (.ref b192), .val (.ref b218), .val (.ref b218), .val (.int (0 : Int32)), .val (.int (0 : Int32)), .val (.int (0 : Int32))] []) (fun _ k => XS.icmpNo X289.here hx rfl (hb hby at_199) rfl (teq (show (0 : Int32) = (0 : Int32) from by decide)).2 k) ?_
                refine WinW.to T289 (mkF m 204 #[.val (.int p1), .val (.ref m1), .val (.ref w1), .val (.ref m2), .val (.ref w2), .val (.int (((p1.toUInt32 >>> ((4 : Int32) &&& 31).toUInt32).toInt32) &&& (3 : Int32))), .val (.ref b192), .val (.ref b218), .val (.ref b218), .val (.int (0 : Int32)), .val (.int (0 : Int32)), .val (.int (0 : Int32))] [(.int (0 : Int32))]) (fun _ k => XS.iload X289.here hx rfl (hb hby at_202) rfl k) ?_
                refine WinW.to T289 (mkF m 206 #[.val (.int p1), .val (.ref m1), .val (.ref w1), .val (.ref m2), .val (.ref w2), .val (.int (((p1.toUInt32 >>> ((4 : Int32) &&& 31).toUInt32).toInt32) &&& (3 : Int32))), .val (.ref b192), .val (.ref b218), .val (.ref b218), .val (.int (0 : Int32)), .val (.int (0 : Int32)), .val (.int (0 : Int32))] [(.int (0 : Int32)), (.int (0 : Int32))]) (fun _ k => XS.iload X289.here hx rfl (hb hby at_204) rfl k) ?_
                refine WinW.to T289 (mkF m 209 #[.val (.int p1), .val (.ref m1), .val (.ref w1), .val (.ref m2), .val (.ref w2), .val (.int (((p1.toUInt32 >>> ((4 : Int32) &&& 31).toUInt32).toInt32) &&& (3 : Int32))), .val (.ref b192), .val (.ref b218), .val (.ref b218), .val (.int (0 : Int32)), .val (.int (0 : Int32)), .val (.int (0 : Int32))] []) (fun _ k => XS.icmpNo X289.here hx rfl (hb hby at_206) rfl (teq (show (0 : Int32) = (0 : Int32) from by decide)).2 k) ?_
                refine WinW.to T289 (mkF m 210 #[.val (.int p1), .val (.ref m1), .val (.ref w1), .val (.ref m2), .val (.ref w2), .val (.int (((p1.toUInt32 >>> ((4 : Int32) &&& 31).toUInt32).toInt32) &&& (3 : Int32))), .val (.ref b192), .val (.ref b218), .val (.ref b218), .val (.int (0 : Int32)), .val (.int (0 : Int32)), .val (.int (0 : Int32))] [(.int (1 : Int32))]) (fun _ k => XS.iconst X289.here hx rfl (hb hby at_209) k) ?_
                refine WinW.to T289 (mkF m 214 #[.val (.int p1), .val (.ref m1), .val (.ref w1), .val (.ref m2), .val (.ref w2), .val (.int (((p1.toUInt32 >>> ((4 : Int32) &&& 31).toUInt32).toInt32) &&& (3 : Int32))), .val (.ref b192), .val (.ref b218), .val (.ref b218), .val (.int (0 : Int32)), .val (.int (0 : Int32)), .val (.int (0 : Int32))] [(.int (1 : Int32))]) (fun _ k => XS.goto X289.here hx rfl (pc0 := 210) (pc' := 214) rfl (hb hby at_210) (by decide) (by decide) k) ?_
                exact WinW.retN X289 hS248 (by rw [e289]; exact hk248) hx hlk (t := .boolean) hret (by simp) rfl (hb hby at_214) hZ248 (own_EW hw) (by rw [e289]; exact C253) (by decide) (by decide) (by (try rw [e289]); exact ⟨rfl, N291, trivial⟩)
          · refine WinW.to T248 (mkF m 164 #[.val (.int p1), .val (.ref m1), .val (.ref w1), .val (.ref m2), .val (.ref w2), .val (.int (((p1.toUInt32 >>> ((4 : Int32) &&& 31).toUInt32).toInt32) &&& (3 : Int32))), .val (.ref b192), .val (.ref b218), .val (.ref b218), .unset, .unset, .unset] []) (fun _ k => Jvm.RoadKit.acmp (g := (mkF m 151 #[.val (.int p1), .val (.ref m1), .val (.ref w1), .val (.ref m2), .val (.ref w2), .val (.int (((p1.toUInt32 >>> ((4 : Int32) &&& 31).toUInt32).toInt32) &&& (3 : Int32))), .val (.ref b192), .val (.ref b218), .val (.ref b218), .unset, .unset, .unset] [(.ref m2), (.ref m1)])) X248 hx rfl rfl rfl (pc0 := 151) (pc' := 164) (same := false) rfl (hb hby at_151) rfl (decide_eq_false fun q => hc275 (Value.ref.inj q)) (by decide) (by decide) k) ?_
            refine WinW.to T248 (mkF m 165 #[.val (.int p1), .val (.ref m1), .val (.ref w1), .val (.ref m2), .val (.ref w2), .val (.int (((p1.toUInt32 >>> ((4 : Int32) &&& 31).toUInt32).toInt32) &&& (3 : Int32))), .val (.ref b192), .val (.ref b218), .val (.ref b218), .unset, .unset, .unset] [(.int (0 : Int32))]) (fun _ k => XS.iconst X248.here hx rfl (hb hby at_164) k) ?_
            refine WinW.to T248 (mkF m 167 #[.val (.int p1), .val (.ref m1), .val (.ref w1), .val (.ref m2), .val (.ref w2), .val (.int (((p1.toUInt32 >>> ((4 : Int32) &&& 31).toUInt32).toInt32) &&& (3 : Int32))), .val (.ref b192), .val (.ref b218), .val (.ref b218), .val (.int (0 : Int32)), .unset, .unset] []) (fun _ k => XS.istore X248.here hx rfl (hb hby at_165) rfl (l' := #[.val (.int p1), .val (.ref m1), .val (.ref w1), .val (.ref m2), .val (.ref w2), .val (.int (((p1.toUInt32 >>> ((4 : Int32) &&& 31).toUInt32).toInt32) &&& (3 : Int32))), .val (.ref b192), .val (.ref b218), .val (.ref b218), .val (.int (0 : Int32)), .unset, .unset]) rfl k) ?_
            refine WinW.to T248 (mkF m 169 #[.val (.int p1), .val (.ref m1), .val (.ref w1), .val (.ref m2), .val (.ref w2), .val (.int (((p1.toUInt32 >>> ((4 : Int32) &&& 31).toUInt32).toInt32) &&& (3 : Int32))), .val (.ref b192), .val (.ref b218), .val (.ref b218), .val (.int (0 : Int32)), .unset, .unset] [(.ref b192)]) (fun _ k => XS.aload X248.here hx rfl (hb hby at_167) rfl rfl k) ?_
            refine WinW.to T248 (mkF m 171 #[.val (.int p1), .val (.ref m1), .val (.ref w1), .val (.ref m2), .val (.ref w2), .val (.int (((p1.toUInt32 >>> ((4 : Int32) &&& 31).toUInt32).toInt32) &&& (3 : Int32))), .val (.ref b192), .val (.ref b218), .val (.ref b218), .val (.int (0 : Int32)), .unset, .unset] [(.ref b218), (.ref b192)]) (fun _ k => XS.aload X248.here hx rfl (hb hby at_169) rfl rfl k) ?_
            have F295 : Exa Z h248 b218 "com/example/tariffic/tariffic/engine/PriceClass" := (A218.keep r248_0)
            have F296 : Fld Z h248 b192 "com/example/tariffic/tariffic/engine/PriceClass" "model" "Lcom/example/tariffic/tariffic/engine/ComputeModel;" (.ref m1) := ((Fld.ext E218 r212_1).keep r248_0 (ninS ne236 nin0))
            have F297 : Fld Z h248 b192 "com/example/tariffic/tariffic/engine/PriceClass" "workload" "Lcom/example/tariffic/tariffic/engine/Workload;" (.ref w1) := ((Fld.ext E218 r212_2).keep r248_0 (ninS ne236 nin0))
            have F299 : Exa Z h248 b192 "com/example/tariffic/tariffic/engine/PriceClass" := ((Exa.ext E218 F235).keep r248_0)
            obtain ⟨T298, h298, v298, L298, X298, e298, ⟨rfl, N298q, r298_0⟩, st298⟩ := N.virtual X248 hx hZ248 (y := (⟨"com/example/tariffic/tariffic/engine/PriceClass", "equals", "(Ljava/lang/Object;)Z"⟩ : MethodName)) (z := (⟨"com/example/tariffic/tariffic/engine/PriceClass", "equals", "(Ljava/lang/Object;)Z"⟩ : MethodName)) hown248 (hw _ (List.mem_of_getElem? (i := 36) rfl)) (hw _ (List.mem_of_getElem? (i := 37) rfl)) (notFace_of_selects (args := #[]) (mvT hZ248 (hw _ (List.mem_of_getElem? (i := 39) rfl)))) (hw _ (List.mem_of_getElem? (i := 39) rfl)) (hw _ (List.mem_of_getElem? (i := 38) rfl)) (hw _ (List.mem_of_getElem? (i := 8) rfl)) (hw _ (List.mem_of_getElem? (i := 40) rfl)) (by decide) (eqPC l Z a0 hw b192 b218 m1 w1 m2 w2 (0 : Int32) h248 n0 O250 F295 F296 F297 r248_1 r248_2 (fun q _ => absurd q (fun q => hc275 q.symm)) (fun _ => rfl) (fun _ => rfl)) e248 F299 (g := (mkF m 171 #[.val (.int p1), .val (.ref m1), .val (.ref w1), .val (.ref m2), .val (.ref w2), .val (.int (((p1.toUInt32 >>> ((4 : Int32) &&& 31).toUInt32).toInt32) &&& (3 : Int32))), .val (.ref b192), .val (.ref b218), .val (.ref b218), .val (.int (0 : Int32)), .unset, .unset] [(.ref b218), (.ref b192)])) rfl (by rw [hml]; rfl) (argsL := [(.ref b218)]) (rest := []) rfl (lenOf pd__Ljava_lang_Object__Z rfl) rfl (W := 0) (by show 2 * 0 + _ ≤ _; exact Nat.le_of_eq rfl) (hb hby at_171) (by decide) (by decide) (by decide) (by decide)
            have N300 := Fr.app N249 N298q
            have e298 := e298.trans r298_0
            refine WinW.to T298 (mkF m 174 #[.val (.int p1), .val (.ref m1), .val (.ref w1), .val (.ref m2), .val (.ref w2), .val (.int (((p1.toUInt32 >>> ((4 : Int32) &&& 31).toUInt32).toInt32) &&& (3 : Int32))), .val (.ref b192), .val (.ref b218), .val (.ref b218), .val (.int (0 : Int32)), .unset, .unset] [(.int (0 : Int32))]) (fun _ k => st298 _ k) ?_
            refine WinW.to T298 (mkF m 176 #[.val (.int p1), .val (.ref m1), .val (.ref w1), .val (.ref m2), .val (.ref w2), .val (.int (((p1.toUInt32 >>> ((4 : Int32) &&& 31).toUInt32).toInt32) &&& (3 : Int32))), .val (.ref b192), .val (.ref b218), .val (.ref b218), .val (.int (0 : Int32)), .val (.int (0 : Int32)), .unset] []) (fun _ k => XS.istore X298.here hx rfl (hb hby at_174) rfl (l' := #[.val (.int p1), .val (.ref m1), .val (.ref w1), .val (.ref m2), .val (.ref w2), .val (.int (((p1.toUInt32 >>> ((4 : Int32) &&& 31).toUInt32).toInt32) &&& (3 : Int32))), .val (.ref b192), .val (.ref b218), .val (.ref b218), .val (.int (0 : Int32)), .val (.int (0 : Int32)), .unset]) rfl k) ?_
            refine WinW.to T298 (mkF m 178 #[.val (.int p1), .val (.ref m1), .val (.ref w1), .val (.ref m2), .val (.ref w2), .val (.int (((p1.toUInt32 >>> ((4 : Int32) &&& 31).toUInt32).toInt32) &&& (3 : Int32))), .val (.ref b192), .val (.ref b218), .val (.ref b218), .val (.int (0 : Int32)), .val (.int (0 : Int32)), .unset] [(.int (((p1.toUInt32 >>> ((4 : Int32) &&& 31).toUInt32).toInt32) &&& (3 : Int32)))]) (fun _ k => XS.iload X298.here hx rfl (hb hby at_176) rfl k) ?_
            by_cases hc301 : (((p1.toUInt32 >>> ((4 : Int32) &&& 31).toUInt32).toInt32) &&& (3 : Int32)) = (0 : Int32)
            · refine WinW.to T298 (mkF m 181 #[.val (.int p1), .val (.ref m1), .val (.ref w1), .val (.ref m2), .val (.ref w2), .val (.int (((p1.toUInt32 >>> ((4 : Int32) &&& 31).toUInt32).toInt32) &&& (3 : Int32))), .val (.ref b192), .val (.ref b218), .val (.ref b218), .val (.int (0 : Int32)), .val (.int (0 : Int32)), .unset] []) (fun _ k => XS.ifNo X298.here hx rfl (hb hby at_178) rfl ((if0 _ _).trans (teq hc301).2) k) ?_
              refine WinW.to T298 (mkF m 183 #[.val (.int p1), .val (.ref m1), .val (.ref w1), .val (.ref m2), .val (.ref w2), .val (.int (((p1.toUInt32 >>> ((4 : Int32) &&& 31).toUInt32).toInt32) &&& (3 : Int32))), .val (.ref b192), .val (.ref b218), .val (.ref b218), .val (.int (0 : Int32)), .val (.int (0 : Int32)), .unset] [(.ref b218)]) (fun _ k => XS.aload X298.here hx rfl (hb hby at_181) rfl rfl k) ?_
              refine WinW.to T298 (mkF m 185 #[.val (.int p1), .val (.ref m1), .val (.ref w1), .val (.ref m2), .val (.ref w2), .val (.int (((p1.toUInt32 >>> ((4 : Int32) &&& 31).toUInt32).toInt32) &&& (3 : Int32))), .val (.ref b192), .val (.ref b218), .val (.ref b218), .val (.int (0 : Int32)), .val (.int (0 : Int32)), .unset] [(.ref b192), (.ref b218)]) (fun _ k => XS.aload X298.here hx rfl (hb hby at_183) rfl rfl k) ?_
              obtain ⟨T302, h302, v302, L302, X302, e302, ⟨rfl, N302q, r302_0⟩, st302⟩ := N.virtual X298 hx hZ248 (y := (⟨"com/example/tariffic/tariffic/engine/PriceClass", "equals", "(Ljava/lang/Object;)Z"⟩ : MethodName)) (z := (⟨"com/example/tariffic/tariffic/engine/PriceClass", "equals", "(Ljava/lang/Object;)Z"⟩ : MethodName)) hown248 (hw _ (List.mem_of_getElem? (i := 36) rfl)) (hw _ (List.mem_of_getElem? (i := 37) rfl)) (notFace_of_selects (args := #[]) (mvT hZ248 (hw _ (List.mem_of_getElem? (i := 39) rfl)))) (hw _ (List.mem_of_getElem? (i := 39) rfl)) (hw _ (List.mem_of_getElem? (i := 38) rfl)) (hw _ (List.mem_of_getElem? (i := 8) rfl)) (hw _ (List.mem_of_getElem? (i := 40) rfl)) (by decide) (eqPC l Z a0 hw b218 b192 m2 w2 m1 w1 (0 : Int32) h248 n0 O250 F299 r248_1 r248_2 F296 F297 (fun q _ => absurd q hc275) (fun _ => rfl) (fun _ => rfl)) e298 F295 (g := (mkF m 185 #[.val (.int p1), .val (.ref m1), .val (.ref w1), .val (.ref m2), .val (.ref w2), .val (.int (((p1.toUInt32 >>> ((4 : Int32) &&& 31).toUInt32).toInt32) &&& (3 : Int32))), .val (.ref b192), .val (.ref b218), .val (.ref b218), .val (.int (0 : Int32)), .val (.int (0 : Int32)), .unset] [(.ref b192), (.ref b218)])) rfl (by rw [hml]; rfl) (argsL := [(.ref b192)]) (rest := []) rfl (lenOf pd__Ljava_lang_Object__Z rfl) rfl (W := 0) (by show 2 * 0 + _ ≤ _; exact Nat.le_of_eq rfl) (hb hby at_185) (by decide) (by decide) (by decide) (by decide)
              have N303 := Fr.app N300 N302q
              have e302 := e302.trans r302_0
              refine WinW.to T302 (mkF m 188 #[.val (.int p1), .val (.ref m1), .val (.ref w1), .val (.ref m2), .val (.ref w2), .val (.int (((p1.toUInt32 >>> ((4 : Int32) &&& 31).toUInt32).toInt32) &&& (3 : Int32))), .val (.ref b192), .val (.ref b218), .val (.ref b218), .val (.int (0 : Int32)), .val (.int (0 : Int32)), .unset] [(.int (0 : Int32))]) (fun _ k => st302 _ k) ?_
              refine WinW.to T302 (mkF m 193 #[.val (.int p1), .val (.ref m1), .val (.ref w1), .val (.ref m2), .val (.ref w2), .val (.int (((p1.toUInt32 >>> ((4 : Int32) &&& 31).toUInt32).toInt32) &&& (3 : Int32))), .val (.ref b192), .val (.ref b218), .val (.ref b218), .val (.int (0 : Int32)), .val (.int (0 : Int32)), .unset] [(.int (0 : Int32))]) (fun _ k => XS.goto X302.here hx rfl (pc0 := 188) (pc' := 193) rfl (hb hby at_188) (by decide) (by decide) k) ?_
              refine WinW.to T302 (mkF m 195 #[.val (.int p1), .val (.ref m1), .val (.ref w1), .val (.ref m2), .val (.ref w2), .val (.int (((p1.toUInt32 >>> ((4 : Int32) &&& 31).toUInt32).toInt32) &&& (3 : Int32))), .val (.ref b192), .val (.ref b218), .val (.ref b218), .val (.int (0 : Int32)), .val (.int (0 : Int32)), .val (.int (0 : Int32))] []) (fun _ k => XS.istore X302.here hx rfl (hb hby at_193) rfl (l' := #[.val (.int p1), .val (.ref m1), .val (.ref w1), .val (.ref m2), .val (.ref w2), .val (.int (((p1.toUInt32 >>> ((4 : Int32) &&& 31).toUInt32).toInt32) &&& (3 : Int32))), .val (.ref b192), .val (.ref b218), .val (.ref b218), .val (.int (0 : Int32)), .val (.int (0 : Int32)), .val (.int (0 : Int32))]) rfl k) ?_
              refine WinW.to T302 (mkF m 197 #[.val (.int p1), .val (.ref m1), .val (.ref w1), .val (.ref m2), .val (.ref w2), .val (.int (((p1.toUInt32 >>> ((4 : Int32) &&& 31).toUInt32).toInt32) &&& (3 : Int32))), .val (.ref b192), .val (.ref b218), .val (.ref b218), .val (.int (0 : Int32)), .val (.int (0 : Int32)), .val (.int (0 : Int32))] [(.int (0 : Int32))]) (fun _ k => XS.iload X302.here hx rfl (hb hby at_195) rfl k) ?_
              refine WinW.to T302 (mkF m 199 #[.val (.int p1), .val (.ref m1), .val (.ref w1), .val (.ref m2), .val (.ref w2), .val (.int (((p1.toUInt32 >>> ((4 : Int32) &&& 31).toUInt32).toInt32) &&& (3 : Int32))), .val (.ref b192), .val (.ref b218), .val (.ref b218), .val (.int (0 : Int32)), .val (.int (0 : Int32)), .val (.int (0 : Int32))] [(.int (0 : Int32)), (.int (0 : Int32))]) (fun _ k => XS.iload X302.here hx rfl (hb hby at_197) rfl k) ?_
              refine WinW.to T302 (mkF m 202 #[.val (.int p1), .val (.ref m1), .val (.ref w1), .val (.ref m2), .val (.ref w2), .val (.int (((p1.toUInt32 >>> ((4 : Int32) &&& 31).toUInt32).toInt32) &&& (3 : Int32))), .val (.ref b192), .val (.ref b218), .val (.ref b218), .val (.int (0 : Int32)), .val (.int (0 : Int32)), .val (.int (0 : Int32))] []) (fun _ k => XS.icmpNo X302.here hx rfl (hb hby at_199) rfl (teq (show (0 : Int32) = (0 : Int32) from by decide)).2 k) ?_
              refine WinW.to T302 (mkF m 204 #[.val (.int p1), .val (.ref m1), .val (.ref w1), .val (.ref m2), .val (.ref w2), .val (.int (((p1.toUInt32 >>> ((4 : Int32) &&& 31).toUInt32).toInt32) &&& (3 : Int32))), .val (.ref b192), .val (.ref b218), .val (.ref b218), .val (.int (0 : Int32)), .val (.int (0 : Int32)), .val (.int (0 : Int32))] [(.int (0 : Int32))]) (fun _ k => XS.iload X302.here hx rfl (hb hby at_202) rfl k) ?_
              refine WinW.to T302 (mkF m 206 #[.val (.int p1), .val (.ref m1), .val (.ref w1), .val (.ref m2), .val (.ref w2), .val (.int (((p1.toUInt32 >>> ((4 : Int32) &&& 31).toUInt32).toInt32) &&& (3 : Int32))), .val (.ref b192), .val (.ref b218), .val (.ref b218), .val (.int (0 : Int32)), .val (.int (0 : Int32)), .val (.int (0 : Int32))] [(.int (0 : Int32)), (.int (0 : Int32))]) (fun _ k => XS.iload X302.here hx rfl (hb hby at_204) rfl k) ?_
              refine WinW.to T302 (mkF m 209 #[.val (.int p1), .val (.ref m1), .val (.ref w1), .val (.ref m2), .val (.ref w2), .val (.int (((p1.toUInt32 >>> ((4 : Int32) &&& 31).toUInt32).toInt32) &&& (3 : Int32))), .val (.ref b192), .val (.ref b218), .val (.ref b218), .val (.int (0 : Int32)), .val (.int (0 : Int32)), .val (.int (0 : Int32))] []) (fun _ k => XS.icmpNo X302.here hx rfl (hb hby at_206) rfl (teq (show (0 : Int32) = (0 : Int32) from by decide)).2 k) ?_
              refine WinW.to T302 (mkF m 210 #[.val (.int p1), .val (.ref m1), .val (.ref w1), .val (.ref m2), .val (.ref w2), .val (.int (((p1.toUInt32 >>> ((4 : Int32) &&& 31).toUInt32).toInt32) &&& (3 : Int32))), .val (.ref b192), .val (.ref b218), .val (.ref b218), .val (.int (0 : Int32)), .val (.int (0 : Int32)), .val (.int (0 : Int32))] [(.int (1 : Int32))]) (fun _ k => XS.iconst X302.here hx rfl (hb hby at_209) k) ?_
              refine WinW.to T302 (mkF m 214 #[.val (.int p1), .val (.ref m1), .val (.ref w1), .val (.ref m2), .val (.ref w2), .val (.int (((p1.toUInt32 >>> ((4 : Int32) &&& 31).toUInt32).toInt32) &&& (3 : Int32))), .val (.ref b192), .val (.ref b218), .val (.ref b218), .val (.int (0 : Int32)), .val (.int (0 : Int32)), .val (.int (0 : Int32))] [(.int (1 : Int32))]) (fun _ k => XS.goto X302.here hx rfl (pc0 := 210) (pc' := 214) rfl (hb hby at_210) (by decide) (by decide) k) ?_
              exact WinW.retN X302 hS248 (by rw [e302]; exact hk248) hx hlk (t := .boolean) hret (by simp) rfl (hb hby at_214) hZ248 (own_EW hw) (by rw [e302]; exact C253) (by decide) (by decide) (by (try rw [e302]); exact ⟨rfl, N303, trivial⟩)
            · refine WinW.to T298 (mkF m 191 #[.val (.int p1), .val (.ref m1), .val (.ref w1), .val (.ref m2), .val (.ref w2), .val (.int (((p1.toUInt32 >>> ((4 : Int32) &&& 31).toUInt32).toInt32) &&& (3 : Int32))), .val (.ref b192), .val (.ref b218), .val (.ref b218), .val (.int (0 : Int32)), .val (.int (0 : Int32)), .unset] []) (fun _ k => XS.ifYes X298.here hx rfl (pc0 := 178) (pc' := 191) rfl (hb hby at_178) rfl ((if0 _ _).trans (feq hc301).2) (by decide) (by decide) k) ?_
              refine WinW.to T298 (mkF m 193 #[.val (.int p1), .val (.ref m1), .val (.ref w1), .val (.ref m2), .val (.ref w2), .val (.int (((p1.toUInt32 >>> ((4 : Int32) &&& 31).toUInt32).toInt32) &&& (3 : Int32))), .val (.ref b192), .val (.ref b218), .val (.ref b218), .val (.int (0 : Int32)), .val (.int (0 : Int32)), .unset] [(.int (0 : Int32))]) (fun _ k => XS.iload X298.here hx rfl (hb hby at_191) rfl k) ?_
              refine WinW.to T298 (mkF m 195 #[.val (.int p1), .val (.ref m1), .val (.ref w1), .val (.ref m2), .val (.ref w2), .val (.int (((p1.toUInt32 >>> ((4 : Int32) &&& 31).toUInt32).toInt32) &&& (3 : Int32))), .val (.ref b192), .val (.ref b218), .val (.ref b218), .val (.int (0 : Int32)), .val (.int (0 : Int32)), .val (.int (0 : Int32))] []) (fun _ k => XS.istore X298.here hx rfl (hb hby at_193) rfl (l' := #[.val (.int p1), .val (.ref m1), .val (.ref w1), .val (.ref m2), .val (.ref w2), .val (.int (((p1.toUInt32 >>> ((4 : Int32) &&& 31).toUInt32).toInt32) &&& (3 : Int32))), .val (.ref b192), .val (.ref b218), .val (.ref b218), .val (.int (0 : Int32)), .val (.int (0 : Int32)), .val (.int (0 : Int32))]) rfl k) ?_
              refine WinW.to T298 (mkF m 197 #[.val (.int p1), .val (.ref m1), .val (.ref w1), .val (.ref m2), .val (.ref w2), .val (.int (((p1.toUInt32 >>> ((4 : Int32) &&& 31).toUInt32).toInt32) &&& (3 : Int32))), .val (.ref b192), .val (.ref b218), .val (.ref b218), .val (.int (0 : Int32)), .val (.int (0 : Int32)), .val (.int (0 : Int32))] [(.int (0 : Int32))]) (fun _ k => XS.iload X298.here hx rfl (hb hby at_195) rfl k) ?_
              refine WinW.to T298 (mkF m 199 #[.val (.int p1), .val (.ref m1), .val (.ref w1), .val (.ref m2), .val (.ref w2), .val (.int (((p1.toUInt32 >>> ((4 : Int32) &&& 31).toUInt32).toInt32) &&& (3 : Int32))), .val (.ref b192), .val (.ref b218), .val (.ref b218), .val (.int (0 : Int32)), .val (.int (0 : Int32)), .val (.int (0 : Int32))] [(.int (0 : Int32)), (.int (0 : Int32))]) (fun _ k => XS.iload X298.here hx rfl (hb hby at_197) rfl k) ?_
              refine WinW.to T298 (mkF m 202 #[.val (.int p1), .val (.ref m1), .val (.ref w1), .val (.ref m2), .val (.ref w2), .val (.int (((p1.toUInt32 >>> ((4 : Int32) &&& 31).toUInt32).toInt32) &&& (3 : Int32))), .val (.ref b192), .val (.ref b218), .val (.ref b218), .val (.int (0 : Int32)), .val (.int (0 : Int32)), .val (.int (0 : Int32))] []) (fun _ k => XS.icmpNo X298.here hx rfl (hb hby at_199) rfl (teq (show (0 : Int32) = (0 : Int32) from by decide)).2 k) ?_
              refine WinW.to T298 (mkF m 204 #[.val (.int p1), .val (.ref m1), .val (.ref w1), .val (.ref m2), .val (.ref w2), .val (.int (((p1.toUInt32 >>> ((4 : Int32) &&& 31).toUInt32).toInt32) &&& (3 : Int32))), .val (.ref b192), .val (.ref b218), .val (.ref b218), .val (.int (0 : Int32)), .val (.int (0 : Int32)), .val (.int (0 : Int32))] [(.int (0 : Int32))]) (fun _ k => XS.iload X298.here hx rfl (hb hby at_202) rfl k) ?_
              refine WinW.to T298 (mkF m 206 #[.val (.int p1), .val (.ref m1), .val (.ref w1), .val (.ref m2), .val (.ref w2), .val (.int (((p1.toUInt32 >>> ((4 : Int32) &&& 31).toUInt32).toInt32) &&& (3 : Int32))), .val (.ref b192), .val (.ref b218), .val (.ref b218), .val (.int (0 : Int32)), .val (.int (0 : Int32)), .val (.int (0 : Int32))] [(.int (0 : Int32)), (.int (0 : Int32))]) (fun _ k => XS.iload X298.here hx rfl (hb hby at_204) rfl k) ?_
              refine WinW.to T298 (mkF m 209 #[.val (.int p1), .val (.ref m1), .val (.ref w1), .val (.ref m2), .val (.ref w2), .val (.int (((p1.toUInt32 >>> ((4 : Int32) &&& 31).toUInt32).toInt32) &&& (3 : Int32))), .val (.ref b192), .val (.ref b218), .val (.ref b218), .val (.int (0 : Int32)), .val (.int (0 : Int32)), .val (.int (0 : Int32))] []) (fun _ k => XS.icmpNo X298.here hx rfl (hb hby at_206) rfl (teq (show (0 : Int32) = (0 : Int32) from by decide)).2 k) ?_
              refine WinW.to T298 (mkF m 210 #[.val (.int p1), .val (.ref m1), .val (.ref w1), .val (.ref m2), .val (.ref w2), .val (.int (((p1.toUInt32 >>> ((4 : Int32) &&& 31).toUInt32).toInt32) &&& (3 : Int32))), .val (.ref b192), .val (.ref b218), .val (.ref b218), .val (.int (0 : Int32)), .val (.int (0 : Int32)), .val (.int (0 : Int32))] [(.int (1 : Int32))]) (fun _ k => XS.iconst X298.here hx rfl (hb hby at_209) k) ?_
              refine WinW.to T298 (mkF m 214 #[.val (.int p1), .val (.ref m1), .val (.ref w1), .val (.ref m2), .val (.ref w2), .val (.int (((p1.toUInt32 >>> ((4 : Int32) &&& 31).toUInt32).toInt32) &&& (3 : Int32))), .val (.ref b192), .val (.ref b218), .val (.ref b218), .val (.int (0 : Int32)), .val (.int (0 : Int32)), .val (.int (0 : Int32))] [(.int (1 : Int32))]) (fun _ k => XS.goto X298.here hx rfl (pc0 := 210) (pc' := 214) rfl (hb hby at_210) (by decide) (by decide) k) ?_
              exact WinW.retN X298 hS248 (by rw [e298]; exact hk248) hx hlk (t := .boolean) hret (by simp) rfl (hb hby at_214) hZ248 (own_EW hw) (by rw [e298]; exact C253) (by decide) (by decide) (by (try rw [e298]); exact ⟨rfl, N300, trivial⟩)
  have Jc48 : ∀ (vmc48 : Vm) (kc48 : Nat) (Tc48 : State) (locsc48 : List Loc) (hc48 : Heap) (Xc48 : Stand p l e room_1 (s.setVm vmc48) m #[(.int p1)] below meth c Tc48 locsc48 0 0) (Nc48 : Fr n0 locsc48) (ec48 : Tc48.heap = hc48) (Oc48 : Old Z n0 hc48) (Kc48 : Keep h0 hc48 []) (hSc48 : s.Since vmc48 kc48) (hkc48 : kc48 ≤ hc48.size) (hZc48 : Z.Warmed39 (s.setVm vmc48).vm) (hownc48 : (s.setVm vmc48).vm.findClass "com/example/tariffic/tariffic/engine/PriceClassEqualsPinLaw" = some m.cls) (Cc48 : CHr Z EL1 s.vm s.heap vmc48 hc48) (m1 : Addr) (w1 : Addr) (m2 : Addr)  (Fc48_0 : Exa Z hc48 m1 "com/example/tariffic/tariffic/engine/ComputeModel") (Fc48_1 : Exa Z hc48 w1 "com/example/tariffic/tariffic/engine/Workload") (Fc48_2 : Exa Z hc48 m2 "com/example/tariffic/tariffic/engine/ComputeModel"), WinW p e below s room_1 Z EL1 (fun v h L => v = some (.int (1 : Int32)) ∧ Fr n0 L ∧ (True)) (Tc48.setTop (mkF m 48 #[.val (.int p1), .val (.ref m1), .val (.ref w1), .val (.ref m2), .unset, .unset, .unset, .unset, .unset, .unset, .unset, .unset] [])) := by
    intro vmc48 kc48 Tc48 locsc48 hc48 Xc48 Nc48 ec48 Oc48 Kc48 hSc48 hkc48 hZc48 hownc48 Cc48 m1 w1 m2 Fc48_0 Fc48_1 Fc48_2
    refine WinW.to Tc48 (mkF m 49 #[.val (.int p1), .val (.ref m1), .val (.ref w1), .val (.ref m2), .unset, .unset, .unset, .unset, .unset, .unset, .unset, .unset] [(.int p1)]) (fun _ k => XS.iloadN Xc48.here hx rfl (hb hby at_48) rfl k) ?_
    refine WinW.to Tc48 (mkF m 51 #[.val (.int p1), .val (.ref m1), .val (.ref w1), .val (.ref m2), .unset, .unset, .unset, .unset, .unset, .unset, .unset, .unset] [(.int (8 : Int32)), (.int p1)]) (fun _ k => XS.bipush Xc48.here hx rfl (hb hby at_49) k) ?_
    refine WinW.to Tc48 (mkF m 52 #[.val (.int p1), .val (.ref m1), .val (.ref w1), .val (.ref m2), .unset, .unset, .unset, .unset, .unset, .unset, .unset, .unset] [(.int (p1 &&& (8 : Int32)))]) (fun _ k => XS.iand Xc48.here hx rfl (hb hby at_51) rfl k) ?_
    by_cases hc304 : (p1 &&& (8 : Int32)) = (0 : Int32)
    · refine WinW.to Tc48 (mkF m 61 #[.val (.int p1), .val (.ref m1), .val (.ref w1), .val (.ref m2), .unset, .unset, .unset, .unset, .unset, .unset, .unset, .unset] []) (fun _ k => XS.ifYes Xc48.here hx rfl (pc0 := 52) (pc' := 61) rfl (hb hby at_52) rfl ((if0 _ _).trans (teq hc304).1) (by decide) (by decide) k) ?_
      obtain ⟨T305, X305, e305, st305⟩ := getS2 Xc48 hx hZc48 hownc48 (host := "") (Or.inl (hw _ (List.mem_of_getElem? (i := 3) rfl))) Via.refl ec48 (Sta.ext Oc48.2 S_TRANSACTION_PROCESSING) (g := (mkF m 61 #[.val (.int p1), .val (.ref m1), .val (.ref w1), .val (.ref m2), .unset, .unset, .unset, .unset, .unset, .unset, .unset, .unset] [])) rfl (hb hby at_61)
      refine WinW.to T305 (mkF m 64 #[.val (.int p1), .val (.ref m1), .val (.ref w1), .val (.ref m2), .unset, .unset, .unset, .unset, .unset, .unset, .unset, .unset] [(.ref w_TRANSACTION_PROCESSING)]) (fun _ k => st305 _ k) ?_
      refine WinW.to T305 (mkF m 66 #[.val (.int p1), .val (.ref m1), .val (.ref w1), .val (.ref m2), .val (.ref w_TRANSACTION_PROCESSING), .unset, .unset, .unset, .unset, .unset, .unset, .unset] []) (fun _ k => XS.astore X305.here hx rfl (hb hby at_64) rfl rfl (l' := #[.val (.int p1), .val (.ref m1), .val (.ref w1), .val (.ref m2), .val (.ref w_TRANSACTION_PROCESSING), .unset, .unset, .unset, .unset, .unset, .unset, .unset]) rfl k) ?_
      exact Jc66 _ _ T305 _ hc48 X305 Nc48 e305 Oc48 Kc48 hSc48 hkc48 hZc48 hownc48 Cc48 m1 w1 m2 w_TRANSACTION_PROCESSING Fc48_0 Fc48_1 Fc48_2 (Exa.ext Oc48.2 E_TRANSACTION_PROCESSING)
    · refine WinW.to Tc48 (mkF m 55 #[.val (.int p1), .val (.ref m1), .val (.ref w1), .val (.ref m2), .unset, .unset, .unset, .unset, .unset, .unset, .unset, .unset] []) (fun _ k => XS.ifNo Xc48.here hx rfl (hb hby at_52) rfl ((if0 _ _).trans (feq hc304).1) k) ?_
      obtain ⟨T306, X306, e306, st306⟩ := getS2 Xc48 hx hZc48 hownc48 (host := "") (Or.inl (hw _ (List.mem_of_getElem? (i := 45) rfl))) Via.refl ec48 (Sta.ext Oc48.2 S_DATA_WAREHOUSE) (g := (mkF m 55 #[.val (.int p1), .val (.ref m1), .val (.ref w1), .val (.ref m2), .unset, .unset, .unset, .unset, .unset, .unset, .unset, .unset] [])) rfl (hb hby at_55)
      refine WinW.to T306 (mkF m 58 #[.val (.int p1), .val (.ref m1), .val (.ref w1), .val (.ref m2), .unset, .unset, .unset, .unset, .unset, .unset, .unset, .unset] [(.ref w_DATA_WAREHOUSE)]) (fun _ k => st306 _ k) ?_
      refine WinW.to T306 (mkF m 64 #[.val (.int p1), .val (.ref m1), .val (.ref w1), .val (.ref m2), .unset, .unset, .unset, .unset, .unset, .unset, .unset, .unset] [(.ref w_DATA_WAREHOUSE)]) (fun _ k => XS.goto X306.here hx rfl (pc0 := 58) (pc' := 64) rfl (hb hby at_58) (by decide) (by decide) k) ?_
      refine WinW.to T306 (mkF m 66 #[.val (.int p1), .val (.ref m1), .val (.ref w1), .val (.ref m2), .val (.ref w_DATA_WAREHOUSE), .unset, .unset, .unset, .unset, .unset, .unset, .unset] []) (fun _ k => XS.astore X306.here hx rfl (hb hby at_64) rfl rfl (l' := #[.val (.int p1), .val (.ref m1), .val (.ref w1), .val (.ref m2), .val (.ref w_DATA_WAREHOUSE), .unset, .unset, .unset, .unset, .unset, .unset, .unset]) rfl k) ?_
      exact Jc66 _ _ T306 _ hc48 X306 Nc48 e306 Oc48 Kc48 hSc48 hkc48 hZc48 hownc48 Cc48 m1 w1 m2 w_DATA_WAREHOUSE Fc48_0 Fc48_1 Fc48_2 (Exa.ext Oc48.2 E_DATA_WAREHOUSE)
  have Jc32 : ∀ (vmc32 : Vm) (kc32 : Nat) (Tc32 : State) (locsc32 : List Loc) (hc32 : Heap) (Xc32 : Stand p l e room_1 (s.setVm vmc32) m #[(.int p1)] below meth c Tc32 locsc32 0 0) (Nc32 : Fr n0 locsc32) (ec32 : Tc32.heap = hc32) (Oc32 : Old Z n0 hc32) (Kc32 : Keep h0 hc32 []) (hSc32 : s.Since vmc32 kc32) (hkc32 : kc32 ≤ hc32.size) (hZc32 : Z.Warmed39 (s.setVm vmc32).vm) (hownc32 : (s.setVm vmc32).vm.findClass "com/example/tariffic/tariffic/engine/PriceClassEqualsPinLaw" = some m.cls) (Cc32 : CHr Z EL1 s.vm s.heap vmc32 hc32) (m1 : Addr) (w1 : Addr)  (Fc32_0 : Exa Z hc32 m1 "com/example/tariffic/tariffic/engine/ComputeModel") (Fc32_1 : Exa Z hc32 w1 "com/example/tariffic/tariffic/engine/Workload"), WinW p e below s room_1 Z EL1 (fun v h L => v = some (.int (1 : Int32)) ∧ Fr n0 L ∧ (True)) (Tc32.setTop (mkF m 32 #[.val (.int p1), .val (.ref m1), .val (.ref w1), .unset, .unset, .unset, .unset, .unset, .unset, .unset, .unset, .unset] [])) := by
    intro vmc32 kc32 Tc32 locsc32 hc32 Xc32 Nc32 ec32 Oc32 Kc32 hSc32 hkc32 hZc32 hownc32 Cc32 m1 w1 Fc32_0 Fc32_1
    refine WinW.to Tc32 (mkF m 33 #[.val (.int p1), .val (.ref m1), .val (.ref w1), .unset, .unset, .unset, .unset, .unset, .unset, .unset, .unset, .unset] [(.int p1)]) (fun _ k => XS.iloadN Xc32.here hx rfl (hb hby at_32) rfl k) ?_
    refine WinW.to Tc32 (mkF m 34 #[.val (.int p1), .val (.ref m1), .val (.ref w1), .unset, .unset, .unset, .unset, .unset, .unset, .unset, .unset, .unset] [(.int (4 : Int32)), (.int p1)]) (fun _ k => XS.iconst Xc32.here hx rfl (hb hby at_33) k) ?_
    refine WinW.to Tc32 (mkF m 35 #[.val (.int p1), .val (.ref m1), .val (.ref w1), .unset, .unset, .unset, .unset, .unset, .unset, .unset, .unset, .unset] [(.int (p1 &&& (4 : Int32)))]) (fun _ k => XS.iand Xc32.here hx rfl (hb hby at_34) rfl k) ?_
    by_cases hc307 : (p1 &&& (4 : Int32)) = (0 : Int32)
    · refine WinW.to Tc32 (mkF m 44 #[.val (.int p1), .val (.ref m1), .val (.ref w1), .unset, .unset, .unset, .unset, .unset, .unset, .unset, .unset, .unset] []) (fun _ k => XS.ifYes Xc32.here hx rfl (pc0 := 35) (pc' := 44) rfl (hb hby at_35) rfl ((if0 _ _).trans (teq hc307).1) (by decide) (by decide) k) ?_
      obtain ⟨T308, X308, e308, st308⟩ := getS2 Xc32 hx hZc32 hownc32 (host := "") (Or.inl (hw _ (List.mem_of_getElem? (i := 0) rfl))) Via.refl ec32 (Sta.ext Oc32.2 S_ELASTIC) (g := (mkF m 44 #[.val (.int p1), .val (.ref m1), .val (.ref w1), .unset, .unset, .unset, .unset, .unset, .unset, .unset, .unset, .unset] [])) rfl (hb hby at_44)
      refine WinW.to T308 (mkF m 47 #[.val (.int p1), .val (.ref m1), .val (.ref w1), .unset, .unset, .unset, .unset, .unset, .unset, .unset, .unset, .unset] [(.ref w_ELASTIC)]) (fun _ k => st308 _ k) ?_
      refine WinW.to T308 (mkF m 48 #[.val (.int p1), .val (.ref m1), .val (.ref w1), .val (.ref w_ELASTIC), .unset, .unset, .unset, .unset, .unset, .unset, .unset, .unset] []) (fun _ k => XS.astoreN X308.here hx rfl (hb hby at_47) rfl rfl (l' := #[.val (.int p1), .val (.ref m1), .val (.ref w1), .val (.ref w_ELASTIC), .unset, .unset, .unset, .unset, .unset, .unset, .unset, .unset]) rfl k) ?_
      exact Jc48 _ _ T308 _ hc32 X308 Nc32 e308 Oc32 Kc32 hSc32 hkc32 hZc32 hownc32 Cc32 m1 w1 w_ELASTIC Fc32_0 Fc32_1 (Exa.ext Oc32.2 E_ELASTIC)
    · refine WinW.to Tc32 (mkF m 38 #[.val (.int p1), .val (.ref m1), .val (.ref w1), .unset, .unset, .unset, .unset, .unset, .unset, .unset, .unset, .unset] []) (fun _ k => XS.ifNo Xc32.here hx rfl (hb hby at_35) rfl ((if0 _ _).trans (feq hc307).1) k) ?_
      obtain ⟨T309, X309, e309, st309⟩ := getS2 Xc32 hx hZc32 hownc32 (host := "") (Or.inl (hw _ (List.mem_of_getElem? (i := 43) rfl))) Via.refl ec32 (Sta.ext Oc32.2 S_CORE) (g := (mkF m 38 #[.val (.int p1), .val (.ref m1), .val (.ref w1), .unset, .unset, .unset, .unset, .unset, .unset, .unset, .unset, .unset] [])) rfl (hb hby at_38)
      refine WinW.to T309 (mkF m 41 #[.val (.int p1), .val (.ref m1), .val (.ref w1), .unset, .unset, .unset, .unset, .unset, .unset, .unset, .unset, .unset] [(.ref w_CORE)]) (fun _ k => st309 _ k) ?_
      refine WinW.to T309 (mkF m 47 #[.val (.int p1), .val (.ref m1), .val (.ref w1), .unset, .unset, .unset, .unset, .unset, .unset, .unset, .unset, .unset] [(.ref w_CORE)]) (fun _ k => XS.goto X309.here hx rfl (pc0 := 41) (pc' := 47) rfl (hb hby at_41) (by decide) (by decide) k) ?_
      refine WinW.to T309 (mkF m 48 #[.val (.int p1), .val (.ref m1), .val (.ref w1), .val (.ref w_CORE), .unset, .unset, .unset, .unset, .unset, .unset, .unset, .unset] []) (fun _ k => XS.astoreN X309.here hx rfl (hb hby at_47) rfl rfl (l' := #[.val (.int p1), .val (.ref m1), .val (.ref w1), .val (.ref w_CORE), .unset, .unset, .unset, .unset, .unset, .unset, .unset, .unset]) rfl k) ?_
      exact Jc48 _ _ T309 _ hc32 X309 Nc32 e309 Oc32 Kc32 hSc32 hkc32 hZc32 hownc32 Cc32 m1 w1 w_CORE Fc32_0 Fc32_1 (Exa.ext Oc32.2 E_CORE)
  have Jc16 : ∀ (vmc16 : Vm) (kc16 : Nat) (Tc16 : State) (locsc16 : List Loc) (hc16 : Heap) (Xc16 : Stand p l e room_1 (s.setVm vmc16) m #[(.int p1)] below meth c Tc16 locsc16 0 0) (Nc16 : Fr n0 locsc16) (ec16 : Tc16.heap = hc16) (Oc16 : Old Z n0 hc16) (Kc16 : Keep h0 hc16 []) (hSc16 : s.Since vmc16 kc16) (hkc16 : kc16 ≤ hc16.size) (hZc16 : Z.Warmed39 (s.setVm vmc16).vm) (hownc16 : (s.setVm vmc16).vm.findClass "com/example/tariffic/tariffic/engine/PriceClassEqualsPinLaw" = some m.cls) (Cc16 : CHr Z EL1 s.vm s.heap vmc16 hc16) (m1 : Addr)  (Fc16_0 : Exa Z hc16 m1 "com/example/tariffic/tariffic/engine/ComputeModel"), WinW p e below s room_1 Z EL1 (fun v h L => v = some (.int (1 : Int32)) ∧ Fr n0 L ∧ (True)) (Tc16.setTop (mkF m 16 #[.val (.int p1), .val (.ref m1), .unset, .unset, .unset, .unset, .unset, .unset, .unset, .unset, .unset, .unset] [])) := by
    intro vmc16 kc16 Tc16 locsc16 hc16 Xc16 Nc16 ec16 Oc16 Kc16 hSc16 hkc16 hZc16 hownc16 Cc16 m1 Fc16_0
    refine WinW.to Tc16 (mkF m 17 #[.val (.int p1), .val (.ref m1), .unset, .unset, .unset, .unset, .unset, .unset, .unset, .unset, .unset, .unset] [(.int p1)]) (fun _ k => XS.iloadN Xc16.here hx rfl (hb hby at_16) rfl k) ?_
    refine WinW.to Tc16 (mkF m 18 #[.val (.int p1), .val (.ref m1), .unset, .unset, .unset, .unset, .unset, .unset, .unset, .unset, .unset, .unset] [(.int (2 : Int32)), (.int p1)]) (fun _ k => XS.iconst Xc16.here hx rfl (hb hby at_17) k) ?_
    refine WinW.to Tc16 (mkF m 19 #[.val (.int p1), .val (.ref m1), .unset, .unset, .unset, .unset, .unset, .unset, .unset, .unset, .unset, .unset] [(.int (p1 &&& (2 : Int32)))]) (fun _ k => XS.iand Xc16.here hx rfl (hb hby at_18) rfl k) ?_
    by_cases hc310 : (p1 &&& (2 : Int32)) = (0 : Int32)
    · refine WinW.to Tc16 (mkF m 28 #[.val (.int p1), .val (.ref m1), .unset, .unset, .unset, .unset, .unset, .unset, .unset, .unset, .unset, .unset] []) (fun _ k => XS.ifYes Xc16.here hx rfl (pc0 := 19) (pc' := 28) rfl (hb hby at_19) rfl ((if0 _ _).trans (teq hc310).1) (by decide) (by decide) k) ?_
      obtain ⟨T311, X311, e311, st311⟩ := getS2 Xc16 hx hZc16 hownc16 (host := "") (Or.inl (hw _ (List.mem_of_getElem? (i := 3) rfl))) Via.refl ec16 (Sta.ext Oc16.2 S_TRANSACTION_PROCESSING) (g := (mkF m 28 #[.val (.int p1), .val (.ref m1), .unset, .unset, .unset, .unset, .unset, .unset, .unset, .unset, .unset, .unset] [])) rfl (hb hby at_28)
      refine WinW.to T311 (mkF m 31 #[.val (.int p1), .val (.ref m1), .unset, .unset, .unset, .unset, .unset, .unset, .unset, .unset, .unset, .unset] [(.ref w_TRANSACTION_PROCESSING)]) (fun _ k => st311 _ k) ?_
      refine WinW.to T311 (mkF m 32 #[.val (.int p1), .val (.ref m1), .val (.ref w_TRANSACTION_PROCESSING), .unset, .unset, .unset, .unset, .unset, .unset, .unset, .unset, .unset] []) (fun _ k => XS.astoreN X311.here hx rfl (hb hby at_31) rfl rfl (l' := #[.val (.int p1), .val (.ref m1), .val (.ref w_TRANSACTION_PROCESSING), .unset, .unset, .unset, .unset, .unset, .unset, .unset, .unset, .unset]) rfl k) ?_
      exact Jc32 _ _ T311 _ hc16 X311 Nc16 e311 Oc16 Kc16 hSc16 hkc16 hZc16 hownc16 Cc16 m1 w_TRANSACTION_PROCESSING Fc16_0 (Exa.ext Oc16.2 E_TRANSACTION_PROCESSING)
    · refine WinW.to Tc16 (mkF m 22 #[.val (.int p1), .val (.ref m1), .unset, .unset, .unset, .unset, .unset, .unset, .unset, .unset, .unset, .unset] []) (fun _ k => XS.ifNo Xc16.here hx rfl (hb hby at_19) rfl ((if0 _ _).trans (feq hc310).1) k) ?_
      obtain ⟨T312, X312, e312, st312⟩ := getS2 Xc16 hx hZc16 hownc16 (host := "") (Or.inl (hw _ (List.mem_of_getElem? (i := 45) rfl))) Via.refl ec16 (Sta.ext Oc16.2 S_DATA_WAREHOUSE) (g := (mkF m 22 #[.val (.int p1), .val (.ref m1), .unset, .unset, .unset, .unset, .unset, .unset, .unset, .unset, .unset, .unset] [])) rfl (hb hby at_22)
      refine WinW.to T312 (mkF m 25 #[.val (.int p1), .val (.ref m1), .unset, .unset, .unset, .unset, .unset, .unset, .unset, .unset, .unset, .unset] [(.ref w_DATA_WAREHOUSE)]) (fun _ k => st312 _ k) ?_
      refine WinW.to T312 (mkF m 31 #[.val (.int p1), .val (.ref m1), .unset, .unset, .unset, .unset, .unset, .unset, .unset, .unset, .unset, .unset] [(.ref w_DATA_WAREHOUSE)]) (fun _ k => XS.goto X312.here hx rfl (pc0 := 25) (pc' := 31) rfl (hb hby at_25) (by decide) (by decide) k) ?_
      refine WinW.to T312 (mkF m 32 #[.val (.int p1), .val (.ref m1), .val (.ref w_DATA_WAREHOUSE), .unset, .unset, .unset, .unset, .unset, .unset, .unset, .unset, .unset] []) (fun _ k => XS.astoreN X312.here hx rfl (hb hby at_31) rfl rfl (l' := #[.val (.int p1), .val (.ref m1), .val (.ref w_DATA_WAREHOUSE), .unset, .unset, .unset, .unset, .unset, .unset, .unset, .unset, .unset]) rfl k) ?_
      exact Jc32 _ _ T312 _ hc16 X312 Nc16 e312 Oc16 Kc16 hSc16 hkc16 hZc16 hownc16 Cc16 m1 w_DATA_WAREHOUSE Fc16_0 (Exa.ext Oc16.2 E_DATA_WAREHOUSE)
  refine WinW.to s₁ (mkF m 1 #[.val (.int p1), .unset, .unset, .unset, .unset, .unset, .unset, .unset, .unset, .unset, .unset, .unset] [(.int p1)]) (fun _ k => XS.iloadN X0.here hx rfl (hb hby at_0) rfl k) ?_
  refine WinW.to s₁ (mkF m 2 #[.val (.int p1), .unset, .unset, .unset, .unset, .unset, .unset, .unset, .unset, .unset, .unset, .unset] [(.int (1 : Int32)), (.int p1)]) (fun _ k => XS.iconst X0.here hx rfl (hb hby at_1) k) ?_
  refine WinW.to s₁ (mkF m 3 #[.val (.int p1), .unset, .unset, .unset, .unset, .unset, .unset, .unset, .unset, .unset, .unset, .unset] [(.int (p1 &&& (1 : Int32)))]) (fun _ k => XS.iand X0.here hx rfl (hb hby at_2) rfl k) ?_
  by_cases hc313 : (p1 &&& (1 : Int32)) = (0 : Int32)
  · refine WinW.to s₁ (mkF m 12 #[.val (.int p1), .unset, .unset, .unset, .unset, .unset, .unset, .unset, .unset, .unset, .unset, .unset] []) (fun _ k => XS.ifYes X0.here hx rfl (pc0 := 3) (pc' := 12) rfl (hb hby at_3) rfl ((if0 _ _).trans (teq hc313).1) (by decide) (by decide) k) ?_
    obtain ⟨T314, X314, e314, st314⟩ := getS2 X0 hx hZ hown (host := "") (Or.inl (hw _ (List.mem_of_getElem? (i := 0) rfl))) Via.refl e0 (Sta.ext O0.2 S_ELASTIC) (g := (mkF m 12 #[.val (.int p1), .unset, .unset, .unset, .unset, .unset, .unset, .unset, .unset, .unset, .unset, .unset] [])) rfl (hb hby at_12)
    refine WinW.to T314 (mkF m 15 #[.val (.int p1), .unset, .unset, .unset, .unset, .unset, .unset, .unset, .unset, .unset, .unset, .unset] [(.ref w_ELASTIC)]) (fun _ k => st314 _ k) ?_
    refine WinW.to T314 (mkF m 16 #[.val (.int p1), .val (.ref w_ELASTIC), .unset, .unset, .unset, .unset, .unset, .unset, .unset, .unset, .unset, .unset] []) (fun _ k => XS.astoreN X314.here hx rfl (hb hby at_15) rfl rfl (l' := #[.val (.int p1), .val (.ref w_ELASTIC), .unset, .unset, .unset, .unset, .unset, .unset, .unset, .unset, .unset, .unset]) rfl k) ?_
    exact Jc16 _ _ T314 _ h0 X314 N0 e314 O0 (Keep.refl h0 []) hS0 (Nat.zero_le _) hZ hown C0 w_ELASTIC F189
  · refine WinW.to s₁ (mkF m 6 #[.val (.int p1), .unset, .unset, .unset, .unset, .unset, .unset, .unset, .unset, .unset, .unset, .unset] []) (fun _ k => XS.ifNo X0.here hx rfl (hb hby at_3) rfl ((if0 _ _).trans (feq hc313).1) k) ?_
    obtain ⟨T315, X315, e315, st315⟩ := getS2 X0 hx hZ hown (host := "") (Or.inl (hw _ (List.mem_of_getElem? (i := 43) rfl))) Via.refl e0 (Sta.ext O0.2 S_CORE) (g := (mkF m 6 #[.val (.int p1), .unset, .unset, .unset, .unset, .unset, .unset, .unset, .unset, .unset, .unset, .unset] [])) rfl (hb hby at_6)
    refine WinW.to T315 (mkF m 9 #[.val (.int p1), .unset, .unset, .unset, .unset, .unset, .unset, .unset, .unset, .unset, .unset, .unset] [(.ref w_CORE)]) (fun _ k => st315 _ k) ?_
    refine WinW.to T315 (mkF m 15 #[.val (.int p1), .unset, .unset, .unset, .unset, .unset, .unset, .unset, .unset, .unset, .unset, .unset] [(.ref w_CORE)]) (fun _ k => XS.goto X315.here hx rfl (pc0 := 9) (pc' := 15) rfl (hb hby at_9) (by decide) (by decide) k) ?_
    refine WinW.to T315 (mkF m 16 #[.val (.int p1), .val (.ref w_CORE), .unset, .unset, .unset, .unset, .unset, .unset, .unset, .unset, .unset, .unset] []) (fun _ k => XS.astoreN X315.here hx rfl (hb hby at_15) rfl rfl (l' := #[.val (.int p1), .val (.ref w_CORE), .unset, .unset, .unset, .unset, .unset, .unset, .unset, .unset, .unset, .unset]) rfl k) ?_
    exact Jc16 _ _ T315 _ h0 X315 N0 e315 O0 (Keep.refl h0 []) hS0 (Nat.zero_le _) hZ hown C0 w_CORE F188
set_option maxRecDepth 65536 in
set_option maxHeartbeats 40000000 in
theorem comes_1 {Post : Tables → Env → Array Value → State → Outcome → State → Prop} (hpost : ∀ tb e args s v u, (limb_1_1.after args s (.returned v) u = true ∧ limb_1_2.after args s (.returned v) u = true ∧ True) → ReturnedEndW s (.returned v) u (Jvm.fieldLocs frame_1_writes args s ++ Jvm.arrayLocs frame_1_arrays args s ++ Jvm.staticLocs frame_1_statics s) 24 2176 → Post tb e args s (.returned v) u) :
    ArmFor flags0 classFile x code maxLocals ret World_1 tables_1 room_1 Calls_1 rest_1 Pre_1 Post := by
  intro l hfl _ hworld p e ha hc hk s m args below hf hA hF happ hP
  obtain ⟨hcalls, hrest, hpre⟩ := hP
  obtain ⟨-, -, -, hnamed, -, -, -, hat⟩ := (Spec.applies_iff hf).mp happ
  obtain ⟨hg, hn⟩ := and_e (Cond.before_iff.mp (show (Jvm.Cond.and given_1 narrow_1).before args s = true from hpre))
  obtain ⟨gc, hg⟩ := and_e hg
  obtain ⟨w0, rfl⟩ : ∃ w0 : Value, args = #[w0] := by
    have hs : args.size = 1 := by simpa [Cond.value, given_1] using gc
    obtain ⟨L⟩ := args
    match L, hs with
    | [w0], _ => exact ⟨w0, rfl⟩
  have hw := fun d (hd : d ∈ tables_1) => atoms_spec (ws := Jvm.Cond.code x code maxLocals ret :: tables_1) hat d (List.mem_cons_of_mem _ hd)
  have hfit : Fit s := fun {y c} hc i hi => by
    obtain ⟨ha, rfl⟩ := Array.getElem?_eq_some_iff.mp hc
    have q := List.all_eq_true.mp ((Array.all_eq_true_iff_forall_mem.mp hF) _ (Array.getElem_mem ha)) i (List.mem_range.mpr hi)
    simpa [Array.getElem?_eq_getElem hi] using q
  obtain ⟨hsets, hown0⟩ := atoms_of _ (rest_1_c_eq ▸ (show rest_1_c.before _ s = true from hrest))
  have hr0 := Cond.before_iff.mp hown0
  obtain ⟨i0, ei0⟩ := is_v hg
  obtain rfl : w0 = (.int i0) := Option.some.inj ei0
  obtain ⟨c0, hn⟩ := and_e hn
  obtain ⟨c1, hn⟩ := and_e hn
  obtain ⟨c2, hn⟩ := and_e hn
  obtain ⟨c3, hn⟩ := and_e hn
  obtain ⟨c4, hn⟩ := and_e hn
  obtain ⟨c5, hn⟩ := and_e hn
  obtain ⟨c6, hn⟩ := and_e hn
  have c7 := hn
  obtain ⟨w_ELASTIC, ev_ELASTIC⟩ := exa_v c0
  have E_ELASTIC : Exa s s.heap w_ELASTIC "com/example/tariffic/tariffic/engine/ComputeModel" := Exa.start ev_ELASTIC c0
  have S_ELASTIC : Sta s s.heap "com/example/tariffic/tariffic/engine/ComputeModel" "ELASTIC" "Lcom/example/tariffic/tariffic/engine/ComputeModel;" (.ref w_ELASTIC) := Sta.start ev_ELASTIC (Or.inr ⟨(hw _ (List.mem_of_getElem? (i := 1) rfl)), (hw _ (List.mem_of_getElem? (i := 2) rfl))⟩)
  obtain ⟨w_TRANSACTION_PROCESSING, ev_TRANSACTION_PROCESSING⟩ := exa_v c1
  have E_TRANSACTION_PROCESSING : Exa s s.heap w_TRANSACTION_PROCESSING "com/example/tariffic/tariffic/engine/Workload" := Exa.start ev_TRANSACTION_PROCESSING c1
  have S_TRANSACTION_PROCESSING : Sta s s.heap "com/example/tariffic/tariffic/engine/Workload" "TRANSACTION_PROCESSING" "Lcom/example/tariffic/tariffic/engine/Workload;" (.ref w_TRANSACTION_PROCESSING) := Sta.start ev_TRANSACTION_PROCESSING (Or.inr ⟨(hw _ (List.mem_of_getElem? (i := 4) rfl)), (hw _ (List.mem_of_getElem? (i := 5) rfl))⟩)
  obtain ⟨w_CORE, ev_CORE⟩ := exa_v c2
  have E_CORE : Exa s s.heap w_CORE "com/example/tariffic/tariffic/engine/ComputeModel" := Exa.start ev_CORE c2
  have S_CORE : Sta s s.heap "com/example/tariffic/tariffic/engine/ComputeModel" "CORE" "Lcom/example/tariffic/tariffic/engine/ComputeModel;" (.ref w_CORE) := Sta.start ev_CORE (Or.inr ⟨(hw _ (List.mem_of_getElem? (i := 1) rfl)), (hw _ (List.mem_of_getElem? (i := 44) rfl))⟩)
  obtain ⟨w_DATA_WAREHOUSE, ev_DATA_WAREHOUSE⟩ := exa_v c3
  have E_DATA_WAREHOUSE : Exa s s.heap w_DATA_WAREHOUSE "com/example/tariffic/tariffic/engine/Workload" := Exa.start ev_DATA_WAREHOUSE c3
  have S_DATA_WAREHOUSE : Sta s s.heap "com/example/tariffic/tariffic/engine/Workload" "DATA_WAREHOUSE" "Lcom/example/tariffic/tariffic/engine/Workload;" (.ref w_DATA_WAREHOUSE) := Sta.start ev_DATA_WAREHOUSE (Or.inr ⟨(hw _ (List.mem_of_getElem? (i := 4) rfl)), (hw _ (List.mem_of_getElem? (i := 46) rfl))⟩)
  have F_CORE_ordinal : Fld s s.heap w_CORE "java/lang/Enum" "ordinal" "I" (.int (1 : Int32)) := Fld.start ((fld_at ev_CORE).symm.trans (Cond.eq_int (Cond.before_iff.mpr c4) rfl))
  have F_ELASTIC_ordinal : Fld s s.heap w_ELASTIC "java/lang/Enum" "ordinal" "I" (.int (0 : Int32)) := Fld.start ((fld_at ev_ELASTIC).symm.trans (Cond.eq_int (Cond.before_iff.mpr c5) rfl))
  have F_DATA_WAREHOUSE_ordinal : Fld s s.heap w_DATA_WAREHOUSE "java/lang/Enum" "ordinal" "I" (.int (1 : Int32)) := Fld.start ((fld_at ev_DATA_WAREHOUSE).symm.trans (Cond.eq_int (Cond.before_iff.mpr c6) rfl))
  have F_TRANSACTION_PROCESSING_ordinal : Fld s s.heap w_TRANSACTION_PROCESSING "java/lang/Enum" "ordinal" "I" (.int (0 : Int32)) := Fld.start ((fld_at ev_TRANSACTION_PROCESSING).symm.trans (Cond.eq_int (Cond.before_iff.mpr c7) rfl))
  have hs := fun i (d : Jvm.Cond) (hd : jdkStatics_1[i]? = some d) => hsets d (List.mem_of_getElem? hd)
  have ev_high := Cond.eq_int (hs 3 _ rfl) rfl
  have S_high : Sta s s.heap "java/lang/Integer$IntegerCache" "high" "I" (.int (127 : Int32)) := Sta.start ev_high (Or.inl (hs 1 _ rfl))
  obtain ⟨cA, ev_cache⟩ := arr_v (Cond.before_iff.mp (hs 4 _ rfl))
  have S_cache : Sta s s.heap "java/lang/Integer$IntegerCache" "cache" "[Ljava/lang/Integer;" (.ref cA) := Sta.start ev_cache (Or.inr ⟨(hw _ (List.mem_of_getElem? (i := 52) rfl)), hs 2 _ rfl⟩)
  obtain ⟨cl, hA⟩ := Arr.start ev_cache (Cond.before_iff.mp (hs 4 _ rfl))
  have ev_len := Cond.eq_int (hs 6 _ rfl) rfl
  have hL : cl.slots.size = 256 := own_len hA ev_cache ev_len
  have hB : Bxs s cA cl "java/lang/Integer" "I" (256 : Int32) (fun j => .int (j - (128 : Int32))) := Bxs.start (fun _ => ev_cache) hA (by omega) (by rw [hL]; rfl) (by decide) (Cond.before_iff.mp (hs 7 _ rfl)) (fun X j nn q => eqv_i (by simp [Term.eval]; exact (back32 nn).1) q)
  have hC : ∀ j : Int32, ¬ (j < 0 ∨ cl.slots.size ≤ j.toNatClampNeg) → ∃ x, cl.slots[j.toNatClampNeg]? = some (.ref x) ∧ Exa s s.heap x "java/lang/Integer" := fun j hj => by
    obtain ⟨b, b1, b2, -⟩ := hB.2.2.2 j hj
    exact ⟨b, b1, b2⟩
  obtain ⟨n, o, h1, h2, h3, v, L, rfl, hQ, -, hq⟩ := rm0 l s _ hw tables_1 i0 w_CORE w_ELASTIC w_DATA_WAREHOUSE w_TRANSACTION_PROCESSING cA cl s.heap s.heap.size (Old.start s) S_CORE S_ELASTIC S_DATA_WAREHOUSE S_TRANSACTION_PROCESSING E_CORE E_ELASTIC E_DATA_WAREHOUSE E_TRANSACTION_PROCESSING S_high S_cache hA hL hC p e ha hc hk s m _ below hf ((Spec.applies_iff_loose hf).mp happ).1 ⟨rfl, State.Warmed39.refl s, rfl, own_ch0⟩ trivial
  obtain ⟨rfl, N, -⟩ := hQ
  refine ⟨n, _, h1, h2, h3, hpost _ _ _ _ _ _ ⟨Cond.after_iff.mpr rfl, Cond.after_iff.mpr (eq_i res_at (Term.int_eval (1)) rfl), trivial⟩ ⟨hq.1, hq.2.1, hq.2.2.1, (hq.2.2.2.sift fun y hy => Or.inr (N y hy)).mono (by decide) (by decide)⟩⟩
theorem main_1_1 : Claimed_1_1 := comes_1 fun _ _ _ _ _ _ h hF => ⟨h.1, hF⟩
theorem main_1_2 : Claimed_1_2 := comes_1 fun _ _ _ _ _ _ h hF => ⟨h.2.1, hF⟩
end Jvm.Pilot.@@N@@
namespace Jvm.Pilot.@@N@@
open Jvm Jvm.ClassFile Sem Op Lib Jvm.Free Jvm.Stand Jvm.Pilot.@@N@@.Jvm.D
/-! MADE BY PROGRAM (witnessworld.py) out of the Statement's table words and the real class files: 22 classes; the members and pool entries that the words name. The judged class is class 1, her method 1. -/
namespace start1
open Jvm.ClassFile
def u (s : String) : CpInfo := .utf8 (stringToUtf16 s)
/-- a pool by its gaps: so many unusable entries, then the entry; so many at the end -/
def gap : Nat → List CpInfo → List CpInfo
  | 0, r => r
  | n + 1, r => .unusable :: gap n r
def poolList (es : List (Nat × CpInfo)) (last : Nat) : List CpInfo := es.foldr (fun e r => gap e.1 (e.2 :: r)) (gap last [])
def pool (es : List (Nat × CpInfo)) (last : Nat) : Array CpInfo := ⟨poolList es last⟩
def fileOf (pool : Array CpInfo) (this : Nat) (attrs : Array Attribute := #[]) (ms : Array MethodInfo := #[]) (fl : Nat := 33) (sup : Nat := 0) (ifs : Array Nat := #[]) (fds : Array FieldInfo := #[]) : ClassFile where
  minorVersion := 0
  majorVersion := 65
  constantPool := pool
  accessFlags := fl
  thisClass := this
  superClass := sup
  interfaces := ifs
  fields := fds
  methods := ms
  attributes := attrs
def plain (name : String) (sup : Option ClassId) : Class where
  name := name
  kind := .ordinary
  loader := none
  accessFlags := 33
  super := sup
  interfaces := #[]
  cf := none
  fields := #[]
  methods := #[]
  instanceTypes := #[]
  staticTypes := #[]
  resolved := #[]
  callSites := []
  init := .initialized
  statics := none
  mirror := none

def pool0 : Array CpInfo := pool [(5, u "<init>"), (0, u "()V"), (1, .class_ 10), (1, u "java/lang/Object")] 113

def k0c0 : Code := { maxStack := 0, maxLocals := 1, code := object_method_1_code, exceptionTable := #[], attributes := #[] }
def k0m0 : Method := { name := "<init>", desc := "()V", sig := { parameters := [], returnType := none }, accessFlags := 1, code := some k0c0 }
/-- java/lang/Object -/
def k0 : Class := { plain "java/lang/Object" none with
  accessFlags := 33
  interfaces := #[]
  cf := some (fileOf pool0 8 #[] #[{ accessFlags := 1, nameIndex := 5, descriptorIndex := 6, attributes := #[] }] 33 0 #[] #[])
  fields := #[]
  methods := #[k0m0]
  instanceTypes := #[]
  staticTypes := #[]
  resolved := Array.replicate 124 none
  statics := none }

def pool1 : Array CpInfo := pool [(2, .class_ 4), (1, u "java/lang/Object"), (0, u "<init>"), (0, u "()V"), (0, .fieldref 8 9), (0, .class_ 10), (0, .nameAndType 11 12), (0, u "com/example/tariffic/tariffic/engine/ComputeModel"), (0, u "CORE"), (0, u "Lcom/example/tariffic/tariffic/engine/ComputeModel;"), (0, .fieldref 8 14), (0, .nameAndType 15 12), (0, u "ELASTIC"), (0, .fieldref 17 18), (0, .class_ 19), (0, .nameAndType 20 21), (0, u "com/example/tariffic/tariffic/engine/Workload"), (0, u "DATA_WAREHOUSE"), (0, u "Lcom/example/tariffic/tariffic/engine/Workload;"), (0, .fieldref 17 23), (0, .nameAndType 24 21), (0, u "TRANSACTION_PROCESSING"), (0, .class_ 26), (0, u "com/example/tariffic/tariffic/engine/PriceClass"), (0, .methodref 25 28), (0, .nameAndType 5 29), (0, u "(Lcom/example/tariffic/tariffic/engine/ComputeModel;Lcom/example/tariffic/tariffic/engine/Workload;)V"), (0, .methodref 31 32), (0, .class_ 33), (0, .nameAndType 34 35), (0, u "java/lang/Integer"), (0, u "valueOf"), (0, u "(I)Ljava/lang/Integer;"), (0, .methodref 25 37), (0, .nameAndType 38 39), (0, u "equals"), (0, u "(Ljava/lang/Object;)Z"), (0, .class_ 41), (0, u "com/example/tariffic/tariffic/engine/PriceClassEqualsPinLaw"), (2, u "law"), (0, u "(I)Z")] 3

def k1m0 : Method := { name := "<init>", desc := "()V", sig := { parameters := [], returnType := none }, accessFlags := 1, code := none }
def k1c1 : Code := { maxStack := 4, maxLocals := 12, code := code, exceptionTable := #[], attributes := #[] }
def k1m1 : Method := { name := "law", desc := "(I)Z", sig := { parameters := [.int], returnType := some .boolean }, accessFlags := 9, code := some k1c1 }
/-- com/example/tariffic/tariffic/engine/PriceClassEqualsPinLaw -/
def k1 : Class := { plain "com/example/tariffic/tariffic/engine/PriceClassEqualsPinLaw" (some 0) with
  accessFlags := 49
  interfaces := #[]
  cf := some (fileOf pool1 40 #[] #[{ accessFlags := 1, nameIndex := 5, descriptorIndex := 6, attributes := #[] }, { accessFlags := 9, nameIndex := 44, descriptorIndex := 45, attributes := #[] }] 49 2 #[] #[])
  fields := #[]
  methods := #[k1m0, k1m1]
  instanceTypes := #[]
  staticTypes := #[]
  resolved := Array.replicate 49 none
  statics := none }

def pool2 : Array CpInfo := pool [(1, .class_ 2), (0, u "java/lang/constant/Constable"), (0, .class_ 4), (0, u "java/lang/Object")] 6

/-- java/lang/constant/Constable -/
def k2 : Class := { plain "java/lang/constant/Constable" (some 0) with
  accessFlags := 1537
  interfaces := #[]
  cf := some (fileOf pool2 1 #[] #[] 1537 3 #[] #[])
  fields := #[]
  methods := #[]
  instanceTypes := #[]
  staticTypes := #[]
  resolved := Array.replicate 11 none
  statics := none }

def pool3 : Array CpInfo := pool [(1, .class_ 2), (0, u "java/lang/Comparable"), (0, .class_ 4), (0, u "java/lang/Object")] 7

/-- java/lang/Comparable -/
def k3 : Class := { plain "java/lang/Comparable" (some 0) with
  accessFlags := 1537
  interfaces := #[]
  cf := some (fileOf pool3 1 #[] #[] 1537 3 #[] #[])
  fields := #[]
  methods := #[]
  instanceTypes := #[]
  staticTypes := #[]
  resolved := Array.replicate 12 none
  statics := none }

def pool4 : Array CpInfo := pool [(1, .class_ 2), (0, u "java/io/Serializable"), (0, .class_ 4), (0, u "java/lang/Object")] 2

/-- java/io/Serializable -/
def k4 : Class := { plain "java/io/Serializable" (some 0) with
  accessFlags := 1537
  interfaces := #[]
  cf := some (fileOf pool4 1 #[] #[] 1537 3 #[] #[])
  fields := #[]
  methods := #[]
  instanceTypes := #[]
  staticTypes := #[]
  resolved := Array.replicate 7 none
  statics := none }

def pool5 : Array CpInfo := pool [(2, .class_ 4), (1, u "java/lang/Enum"), (0, u "name"), (0, u "Ljava/lang/String;"), (2, u "ordinal"), (0, u "I"), (1, .class_ 14), (1, u "java/lang/Object"), (4, u "hash"), (86, .class_ 108), (1, u "java/lang/Enum$EnumDesc"), (2, .class_ 112), (0, u "java/lang/constant/Constable"), (0, .class_ 114), (0, u "java/lang/Comparable"), (0, .class_ 116), (0, u "java/io/Serializable")] 87

/-- java/lang/Enum -/
def k5 : Class := { plain "java/lang/Enum" (some 0) with
  accessFlags := 1057
  interfaces := #[2, 3, 4]
  cf := some (fileOf pool5 2 #[.nestMembers #[106]] #[] 1057 12 #[111, 113, 115] #[{ accessFlags := 18, nameIndex := 5, descriptorIndex := 6, attributes := #[] }, { accessFlags := 18, nameIndex := 9, descriptorIndex := 10, attributes := #[] }, { accessFlags := 2, nameIndex := 19, descriptorIndex := 10, attributes := #[] }])
  fields := #[{ name := "name", type := (.object "java/lang/String"), accessFlags := 18, slot := 0, constantValue := 0 }, { name := "ordinal", type := .int, accessFlags := 18, slot := 1, constantValue := 0 }, { name := "hash", type := .int, accessFlags := 2, slot := 2, constantValue := 0 }]
  methods := #[]
  instanceTypes := #[(.object "java/lang/String"), .int, .int]
  staticTypes := #[]
  resolved := Array.replicate 204 none
  statics := none }

def pool6 : Array CpInfo := pool [(1, .class_ 2), (0, u "com/example/tariffic/tariffic/engine/ComputeModel"), (2, u "ELASTIC"), (0, u "Lcom/example/tariffic/tariffic/engine/ComputeModel;"), (2, u "CORE"), (2, u "$VALUES"), (0, u "[Lcom/example/tariffic/tariffic/engine/ComputeModel;"), (6, .class_ 22), (1, u "java/lang/Enum"), (8, u "id"), (0, u "Ljava/lang/String;"), (2, u "standaloneMinimumUnits"), (0, u "I"), (2, u "pooledMinimumUnits"), (0, u "Ljava/util/OptionalInt;")] 37

/-- com/example/tariffic/tariffic/engine/ComputeModel -/
def k6 : Class := { plain "com/example/tariffic/tariffic/engine/ComputeModel" (some 5) with
  accessFlags := 16433
  interfaces := #[]
  cf := some (fileOf pool6 1 #[] #[] 16433 20 #[] #[{ accessFlags := 16409, nameIndex := 5, descriptorIndex := 6, attributes := #[] }, { accessFlags := 16409, nameIndex := 9, descriptorIndex := 6, attributes := #[] }, { accessFlags := 18, nameIndex := 31, descriptorIndex := 32, attributes := #[] }, { accessFlags := 18, nameIndex := 35, descriptorIndex := 36, attributes := #[] }, { accessFlags := 18, nameIndex := 39, descriptorIndex := 40, attributes := #[] }, { accessFlags := 4122, nameIndex := 12, descriptorIndex := 13, attributes := #[] }])
  fields := #[{ name := "ELASTIC", type := (.object "com/example/tariffic/tariffic/engine/ComputeModel"), accessFlags := 16409, slot := 0, constantValue := 0 }, { name := "CORE", type := (.object "com/example/tariffic/tariffic/engine/ComputeModel"), accessFlags := 16409, slot := 1, constantValue := 0 }, { name := "id", type := (.object "java/lang/String"), accessFlags := 18, slot := 3, constantValue := 0 }, { name := "standaloneMinimumUnits", type := .int, accessFlags := 18, slot := 4, constantValue := 0 }, { name := "pooledMinimumUnits", type := (.object "java/util/OptionalInt"), accessFlags := 18, slot := 5, constantValue := 0 }, { name := "$VALUES", type := (.array (.object "com/example/tariffic/tariffic/engine/ComputeModel")), accessFlags := 4122, slot := 2, constantValue := 0 }]
  methods := #[]
  instanceTypes := #[(.object "java/lang/String"), .int, .int, (.object "java/lang/String"), .int, (.object "java/util/OptionalInt")]
  staticTypes := #[(.object "com/example/tariffic/tariffic/engine/ComputeModel"), (.object "com/example/tariffic/tariffic/engine/ComputeModel"), (.array (.object "com/example/tariffic/tariffic/engine/ComputeModel"))]
  resolved := Array.replicate 78 none
  statics := some 0 }

def pool7 : Array CpInfo := pool [(1, .class_ 2), (0, u "com/example/tariffic/tariffic/engine/Workload"), (2, u "TRANSACTION_PROCESSING"), (0, u "Lcom/example/tariffic/tariffic/engine/Workload;"), (2, u "DATA_WAREHOUSE"), (2, u "$VALUES"), (0, u "[Lcom/example/tariffic/tariffic/engine/Workload;"), (6, .class_ 22), (1, u "java/lang/Enum"), (8, u "id"), (0, u "Ljava/lang/String;")] 26

/-- com/example/tariffic/tariffic/engine/Workload -/
def k7 : Class := { plain "com/example/tariffic/tariffic/engine/Workload" (some 5) with
  accessFlags := 16433
  interfaces := #[]
  cf := some (fileOf pool7 1 #[] #[] 16433 20 #[] #[{ accessFlags := 16409, nameIndex := 5, descriptorIndex := 6, attributes := #[] }, { accessFlags := 16409, nameIndex := 9, descriptorIndex := 6, attributes := #[] }, { accessFlags := 18, nameIndex := 31, descriptorIndex := 32, attributes := #[] }, { accessFlags := 4122, nameIndex := 12, descriptorIndex := 13, attributes := #[] }])
  fields := #[{ name := "TRANSACTION_PROCESSING", type := (.object "com/example/tariffic/tariffic/engine/Workload"), accessFlags := 16409, slot := 0, constantValue := 0 }, { name := "DATA_WAREHOUSE", type := (.object "com/example/tariffic/tariffic/engine/Workload"), accessFlags := 16409, slot := 1, constantValue := 0 }, { name := "id", type := (.object "java/lang/String"), accessFlags := 18, slot := 3, constantValue := 0 }, { name := "$VALUES", type := (.array (.object "com/example/tariffic/tariffic/engine/Workload")), accessFlags := 4122, slot := 2, constantValue := 0 }]
  methods := #[]
  instanceTypes := #[(.object "java/lang/String"), .int, .int, (.object "java/lang/String")]
  staticTypes := #[(.object "com/example/tariffic/tariffic/engine/Workload"), (.object "com/example/tariffic/tariffic/engine/Workload"), (.array (.object "com/example/tariffic/tariffic/engine/Workload"))]
  resolved := Array.replicate 59 none
  statics := some 1 }

def pool8 : Array CpInfo := pool [(1, .methodref 2 3), (0, .class_ 4), (0, .nameAndType 5 6), (0, u "java/lang/Object"), (0, u "<init>"), (0, u "()V"), (0, .string 8), (0, u "model"), (0, .methodref 10 11), (0, .class_ 12), (0, .nameAndType 13 14), (0, u "java/util/Objects"), (0, u "requireNonNull"), (0, u "(Ljava/lang/Object;Ljava/lang/String;)Ljava/lang/Object;"), (0, .class_ 16), (0, u "com/example/tariffic/tariffic/engine/ComputeModel"), (0, .fieldref 18 19), (0, .class_ 20), (0, .nameAndType 8 21), (0, u "com/example/tariffic/tariffic/engine/PriceClass"), (0, u "Lcom/example/tariffic/tariffic/engine/ComputeModel;"), (0, .string 23), (0, u "workload"), (0, .class_ 25), (0, u "com/example/tariffic/tariffic/engine/Workload"), (0, .fieldref 18 27), (0, .nameAndType 23 28), (0, u "Lcom/example/tariffic/tariffic/engine/Workload;"), (4, u "(Lcom/example/tariffic/tariffic/engine/ComputeModel;Lcom/example/tariffic/tariffic/engine/Workload;)V"), (4, u "equals"), (0, u "(Ljava/lang/Object;)Z")] 5

def k8c0 : Code := { maxStack := 3, maxLocals := 3, code := prog_37_method_1_code, exceptionTable := #[], attributes := #[] }
def k8m0 : Method := { name := "<init>", desc := "(Lcom/example/tariffic/tariffic/engine/ComputeModel;Lcom/example/tariffic/tariffic/engine/Workload;)V", sig := { parameters := [(.object "com/example/tariffic/tariffic/engine/ComputeModel"), (.object "com/example/tariffic/tariffic/engine/Workload")], returnType := none }, accessFlags := 1, code := some k8c0 }
def k8c1 : Code := { maxStack := 2, maxLocals := 2, code := prog_37_method_4_code, exceptionTable := #[], attributes := #[] }
def k8m1 : Method := { name := "equals", desc := "(Ljava/lang/Object;)Z", sig := { parameters := [(.object "java/lang/Object")], returnType := some .boolean }, accessFlags := 1, code := some k8c1 }
/-- com/example/tariffic/tariffic/engine/PriceClass -/
def k8 : Class := { plain "com/example/tariffic/tariffic/engine/PriceClass" (some 0) with
  accessFlags := 49
  interfaces := #[]
  cf := some (fileOf pool8 18 #[] #[{ accessFlags := 1, nameIndex := 5, descriptorIndex := 33, attributes := #[] }, { accessFlags := 1, nameIndex := 38, descriptorIndex := 39, attributes := #[] }] 49 2 #[] #[{ accessFlags := 18, nameIndex := 8, descriptorIndex := 21, attributes := #[] }, { accessFlags := 18, nameIndex := 23, descriptorIndex := 28, attributes := #[] }])
  fields := #[{ name := "model", type := (.object "com/example/tariffic/tariffic/engine/ComputeModel"), accessFlags := 18, slot := 0, constantValue := 0 }, { name := "workload", type := (.object "com/example/tariffic/tariffic/engine/Workload"), accessFlags := 18, slot := 1, constantValue := 0 }]
  methods := #[k8m0, k8m1]
  instanceTypes := #[(.object "com/example/tariffic/tariffic/engine/ComputeModel"), (.object "com/example/tariffic/tariffic/engine/Workload")]
  staticTypes := #[]
  resolved := Array.replicate 45 none
  statics := none }

def pool9 : Array CpInfo := pool [(2, .class_ 4), (1, u "java/lang/CharSequence"), (42, .class_ 48), (0, u "java/lang/CharSequence$1CodePointIterator"), (10, .class_ 60), (0, u "java/lang/CharSequence$1CharIterator"), (5, .class_ 67), (0, u "java/lang/Object")] 63

/-- java/lang/CharSequence -/
def k9 : Class := { plain "java/lang/CharSequence" (some 0) with
  accessFlags := 1537
  interfaces := #[]
  cf := some (fileOf pool9 2 #[.nestMembers #[47, 59]] #[] 1537 66 #[] #[])
  fields := #[]
  methods := #[]
  instanceTypes := #[]
  staticTypes := #[]
  resolved := Array.replicate 131 none
  statics := none }

def pool10 : Array CpInfo := pool [(1, .class_ 2), (0, u "java/lang/constant/ConstantDesc"), (0, .class_ 4), (0, u "java/lang/Object")] 32

/-- java/lang/constant/ConstantDesc -/
def k10 : Class := { plain "java/lang/constant/ConstantDesc" (some 0) with
  accessFlags := 1537
  interfaces := #[]
  cf := some (fileOf pool10 1 #[] #[] 1537 3 #[] #[])
  fields := #[]
  methods := #[]
  instanceTypes := #[]
  staticTypes := #[]
  resolved := Array.replicate 37 none
  statics := none }

def pool11 : Array CpInfo := pool [(2, .class_ 4), (1, u "java/lang/Object"), (0, u "<init>"), (0, u "()V"), (3, .class_ 12), (1, u "java/lang/String"), (0, u "value"), (0, u "[B"), (2, u "coder"), (0, u "B"), (2, u "hash"), (0, u "I"), (2, u "hashIsZero"), (0, u "Z"), (13, u "COMPACT_STRINGS"), (534, .class_ 576), (0, u "java/lang/CharSequence"), (22, u "CASE_INSENSITIVE_ORDER"), (0, u "Ljava/util/Comparator;"), (500, u "serialPersistentFields"), (0, u "[Ljava/io/ObjectStreamField;"), (0, .class_ 1104), (0, u "java/lang/String$CaseInsensitiveComparator"), (1, .class_ 1107), (0, u "java/io/Serializable"), (0, .class_ 1109), (0, u "java/lang/Comparable"), (0, .class_ 1111), (0, u "java/lang/constant/Constable"), (0, .class_ 1113), (0, u "java/lang/constant/ConstantDesc"), (2, u "serialVersionUID"), (0, u "J"), (3, u "REPL"), (0, u "C"), (2, u "LATIN1"), (1, u "UTF16")] 323

def k11m0 : Method := { name := "<init>", desc := "()V", sig := { parameters := [], returnType := none }, accessFlags := 1, code := none }
/-- java/lang/String -/
def k11 : Class := { plain "java/lang/String" (some 0) with
  accessFlags := 49
  interfaces := #[4, 3, 9, 2, 10]
  cf := some (fileOf pool11 10 #[.nestMembers #[1103]] #[{ accessFlags := 1, nameIndex := 5, descriptorIndex := 6, attributes := #[] }] 49 2 #[1106, 1108, 575, 1110, 1112] #[{ accessFlags := 18, nameIndex := 13, descriptorIndex := 14, attributes := #[] }, { accessFlags := 18, nameIndex := 17, descriptorIndex := 18, attributes := #[] }, { accessFlags := 2, nameIndex := 21, descriptorIndex := 22, attributes := #[] }, { accessFlags := 2, nameIndex := 25, descriptorIndex := 26, attributes := #[] }, { accessFlags := 26, nameIndex := 1116, descriptorIndex := 1117, attributes := #[] }, { accessFlags := 24, nameIndex := 40, descriptorIndex := 26, attributes := #[] }, { accessFlags := 26, nameIndex := 1101, descriptorIndex := 1102, attributes := #[] }, { accessFlags := 26, nameIndex := 1121, descriptorIndex := 1122, attributes := #[] }, { accessFlags := 25, nameIndex := 599, descriptorIndex := 600, attributes := #[] }, { accessFlags := 24, nameIndex := 1125, descriptorIndex := 18, attributes := #[] }, { accessFlags := 24, nameIndex := 1127, descriptorIndex := 18, attributes := #[] }])
  fields := #[{ name := "value", type := (.array .byte), accessFlags := 18, slot := 0, constantValue := 0 }, { name := "coder", type := .byte, accessFlags := 18, slot := 1, constantValue := 0 }, { name := "hash", type := .int, accessFlags := 2, slot := 2, constantValue := 0 }, { name := "hashIsZero", type := .boolean, accessFlags := 2, slot := 3, constantValue := 0 }, { name := "serialVersionUID", type := .long, accessFlags := 26, slot := 0, constantValue := 0 }, { name := "COMPACT_STRINGS", type := .boolean, accessFlags := 24, slot := 1, constantValue := 0 }, { name := "serialPersistentFields", type := (.array (.object "java/io/ObjectStreamField")), accessFlags := 26, slot := 2, constantValue := 0 }, { name := "REPL", type := .char, accessFlags := 26, slot := 3, constantValue := 0 }, { name := "CASE_INSENSITIVE_ORDER", type := (.object "java/util/Comparator"), accessFlags := 25, slot := 4, constantValue := 0 }, { name := "LATIN1", type := .byte, accessFlags := 24, slot := 5, constantValue := 0 }, { name := "UTF16", type := .byte, accessFlags := 24, slot := 6, constantValue := 0 }]
  methods := #[k11m0]
  instanceTypes := #[(.array .byte), .byte, .int, .boolean]
  staticTypes := #[.long, .boolean, (.array (.object "java/io/ObjectStreamField")), .char, (.object "java/util/Comparator"), .byte, .byte]
  resolved := Array.replicate 1451 none
  statics := none }

def pool12 : Array CpInfo := pool [(2, .class_ 4), (1, u "java/lang/Object"), (0, u "<init>"), (0, u "()V"), (35, .class_ 44), (1, u "java/util/Objects"), (0, u "requireNonNull"), (48, u "(Ljava/lang/Object;Ljava/lang/String;)Ljava/lang/Object;")] 89

def k12m0 : Method := { name := "<init>", desc := "()V", sig := { parameters := [], returnType := none }, accessFlags := 2, code := none }
def k12c1 : Code := { maxStack := 3, maxLocals := 2, code := jdk_31_method_11_code, exceptionTable := #[], attributes := #[] }
def k12m1 : Method := { name := "requireNonNull", desc := "(Ljava/lang/Object;Ljava/lang/String;)Ljava/lang/Object;", sig := { parameters := [(.object "java/lang/Object"), (.object "java/lang/String")], returnType := some (.object "java/lang/Object") }, accessFlags := 9, code := some k12c1 }
/-- java/util/Objects -/
def k12 : Class := { plain "java/util/Objects" (some 0) with
  accessFlags := 49
  interfaces := #[]
  cf := some (fileOf pool12 42 #[] #[{ accessFlags := 2, nameIndex := 5, descriptorIndex := 6, attributes := #[] }, { accessFlags := 9, nameIndex := 45, descriptorIndex := 94, attributes := #[] }] 49 2 #[] #[])
  fields := #[]
  methods := #[k12m0, k12m1]
  instanceTypes := #[]
  staticTypes := #[]
  resolved := Array.replicate 184 none
  statics := none }

def pool13 : Array CpInfo := pool [(1, .methodref 2 3), (0, .class_ 4), (0, .nameAndType 5 6), (0, u "java/lang/Object"), (0, u "<init>"), (0, u "()V"), (1, .class_ 10), (1, u "java/lang/Number"), (2, .class_ 14), (0, u "java/io/Serializable"), (0, u "serialVersionUID"), (0, u "J")] 20

def k13c0 : Code := { maxStack := 1, maxLocals := 1, code := jdk_18_method_1_code, exceptionTable := #[], attributes := #[] }
def k13m0 : Method := { name := "<init>", desc := "()V", sig := { parameters := [], returnType := none }, accessFlags := 1, code := some k13c0 }
/-- java/lang/Number -/
def k13 : Class := { plain "java/lang/Number" (some 0) with
  accessFlags := 1057
  interfaces := #[4]
  cf := some (fileOf pool13 8 #[] #[{ accessFlags := 1, nameIndex := 5, descriptorIndex := 6, attributes := #[] }] 1057 2 #[13] #[{ accessFlags := 26, nameIndex := 15, descriptorIndex := 16, attributes := #[] }])
  fields := #[{ name := "serialVersionUID", type := .long, accessFlags := 26, slot := 0, constantValue := 0 }]
  methods := #[k13m0]
  instanceTypes := #[]
  staticTypes := #[.long]
  resolved := Array.replicate 37 none
  statics := none }

def pool14 : Array CpInfo := pool [(1, .class_ 2), (0, u "java/lang/Integer"), (16, u "digits"), (0, u "[C"), (46, u "<init>"), (17, u "DigitOnes"), (0, u "[B"), (2, u "DigitTens"), (10, .nameAndType 67 101), (0, u "()V"), (85, u "valueOf"), (0, u "(I)Ljava/lang/Integer;"), (0, .class_ 190), (0, u "java/lang/Integer$IntegerCache"), (0, .fieldref 189 192), (0, .nameAndType 193 194), (0, u "high"), (0, u "I"), (0, .fieldref 189 196), (0, .nameAndType 197 198), (0, u "cache"), (0, u "[Ljava/lang/Integer;"), (0, .methodref 1 200), (0, .nameAndType 67 201), (0, u "(I)V"), (0, .methodref 203 100), (0, .class_ 204), (0, u "java/lang/Number"), (0, .fieldref 1 206), (0, .nameAndType 207 194), (0, u "value"), (94, u "TYPE"), (0, u "Ljava/lang/Class;"), (0, .class_ 305), (0, u "java/lang/Comparable"), (0, .class_ 307), (0, u "java/lang/constant/Constable"), (0, .class_ 309), (0, u "java/lang/constant/ConstantDesc"), (0, u "MIN_VALUE"), (1, u "MAX_VALUE"), (3, u "SIZE"), (1, u "BYTES"), (1, u "serialVersionUID"), (0, u "J")] 131

def k14c0 : Code := { maxStack := 3, maxLocals := 1, code := jdk_33_method_22_code, exceptionTable := #[], attributes := #[] }
def k14m0 : Method := { name := "valueOf", desc := "(I)Ljava/lang/Integer;", sig := { parameters := [.int], returnType := some (.object "java/lang/Integer") }, accessFlags := 9, code := some k14c0 }
def k14c1 : Code := { maxStack := 2, maxLocals := 2, code := jdk_33_method_23_code, exceptionTable := #[], attributes := #[] }
def k14m1 : Method := { name := "<init>", desc := "(I)V", sig := { parameters := [.int], returnType := none }, accessFlags := 1, code := some k14c1 }
/-- java/lang/Integer -/
def k14 : Class := { plain "java/lang/Integer" (some 13) with
  accessFlags := 49
  interfaces := #[3, 2, 10]
  cf := some (fileOf pool14 1 #[.nestMembers #[189]] #[{ accessFlags := 9, nameIndex := 187, descriptorIndex := 188, attributes := #[] }, { accessFlags := 1, nameIndex := 67, descriptorIndex := 201, attributes := #[] }] 49 203 #[304, 306, 308] #[{ accessFlags := 25, nameIndex := 310, descriptorIndex := 194, attributes := #[] }, { accessFlags := 25, nameIndex := 312, descriptorIndex := 194, attributes := #[] }, { accessFlags := 25, nameIndex := 302, descriptorIndex := 303, attributes := #[] }, { accessFlags := 24, nameIndex := 19, descriptorIndex := 20, attributes := #[] }, { accessFlags := 24, nameIndex := 89, descriptorIndex := 86, attributes := #[] }, { accessFlags := 24, nameIndex := 85, descriptorIndex := 86, attributes := #[] }, { accessFlags := 18, nameIndex := 207, descriptorIndex := 194, attributes := #[] }, { accessFlags := 25, nameIndex := 316, descriptorIndex := 194, attributes := #[] }, { accessFlags := 25, nameIndex := 318, descriptorIndex := 194, attributes := #[] }, { accessFlags := 26, nameIndex := 320, descriptorIndex := 321, attributes := #[] }])
  fields := #[{ name := "MIN_VALUE", type := .int, accessFlags := 25, slot := 0, constantValue := 0 }, { name := "MAX_VALUE", type := .int, accessFlags := 25, slot := 1, constantValue := 0 }, { name := "TYPE", type := (.object "java/lang/Class"), accessFlags := 25, slot := 2, constantValue := 0 }, { name := "digits", type := (.array .char), accessFlags := 24, slot := 3, constantValue := 0 }, { name := "DigitTens", type := (.array .byte), accessFlags := 24, slot := 4, constantValue := 0 }, { name := "DigitOnes", type := (.array .byte), accessFlags := 24, slot := 5, constantValue := 0 }, { name := "value", type := .int, accessFlags := 18, slot := 0, constantValue := 0 }, { name := "SIZE", type := .int, accessFlags := 25, slot := 6, constantValue := 0 }, { name := "BYTES", type := .int, accessFlags := 25, slot := 7, constantValue := 0 }, { name := "serialVersionUID", type := .long, accessFlags := 26, slot := 8, constantValue := 0 }]
  methods := #[k14m0, k14m1]
  instanceTypes := #[.int]
  staticTypes := #[.int, .int, (.object "java/lang/Class"), (.array .char), (.array .byte), (.array .byte), .int, .int, .long]
  resolved := Array.replicate 453 none
  statics := none }

def pool15 : Array CpInfo := pool [(2, .class_ 4), (1, u "java/lang/Object"), (0, u "<init>"), (0, u "()V"), (0, .class_ 8), (0, u "java/lang/Integer"), (7, .class_ 18), (1, u "java/lang/Integer$IntegerCache"), (0, u "$assertionsDisabled"), (0, u "Z"), (26, u "high"), (0, u "I"), (8, u "archivedCache"), (0, u "[Ljava/lang/Integer;"), (12, u "cache"), (0, u "low")] 27

def k15m0 : Method := { name := "<init>", desc := "()V", sig := { parameters := [], returnType := none }, accessFlags := 2, code := none }
/-- java/lang/Integer$IntegerCache -/
def k15 : Class := { plain "java/lang/Integer$IntegerCache" (some 0) with
  accessFlags := 48
  interfaces := #[]
  cf := some (fileOf pool15 16 #[.nestHost 7] #[{ accessFlags := 2, nameIndex := 5, descriptorIndex := 6, attributes := #[] }] 48 2 #[] #[{ accessFlags := 24, nameIndex := 72, descriptorIndex := 48, attributes := #[] }, { accessFlags := 24, nameIndex := 47, descriptorIndex := 48, attributes := #[] }, { accessFlags := 24, nameIndex := 71, descriptorIndex := 58, attributes := #[] }, { accessFlags := 8, nameIndex := 57, descriptorIndex := 58, attributes := #[] }, { accessFlags := 4120, nameIndex := 19, descriptorIndex := 20, attributes := #[] }])
  fields := #[{ name := "low", type := .int, accessFlags := 24, slot := 0, constantValue := 0 }, { name := "high", type := .int, accessFlags := 24, slot := 1, constantValue := 0 }, { name := "cache", type := (.array (.object "java/lang/Integer")), accessFlags := 24, slot := 2, constantValue := 0 }, { name := "archivedCache", type := (.array (.object "java/lang/Integer")), accessFlags := 8, slot := 3, constantValue := 0 }, { name := "$assertionsDisabled", type := .boolean, accessFlags := 4120, slot := 4, constantValue := 0 }]
  methods := #[k15m0]
  instanceTypes := #[]
  staticTypes := #[.int, .int, (.array (.object "java/lang/Integer")), (.array (.object "java/lang/Integer")), .boolean]
  resolved := Array.replicate 100 none
  statics := some 2 }

def pool16 : Array CpInfo := pool [(1, u "java/lang/Cloneable"), (0, .class_ 1), (0, u "java/lang/Object"), (0, .class_ 3)] 3

/-- java/lang/Cloneable -/
def k16 : Class := { plain "java/lang/Cloneable" (some 0) with
  accessFlags := 1537
  interfaces := #[]
  cf := some (fileOf pool16 2 #[] #[] 1537 4 #[] #[])
  fields := #[]
  methods := #[]
  instanceTypes := #[]
  staticTypes := #[]
  resolved := Array.replicate 8 none
  statics := none }

/-- the primitive byte -/
def k17 : Class := { plain "byte" none with kind := .primitive 'B', accessFlags := 0x411 }
/-- [B -/
def k18 : Class := { plain "[B" (some 0) with kind := .array 17 .byte, interfaces := #[16, 4], accessFlags := 1041 }

/-- the primitive int -/
def k19 : Class := { plain "int" none with kind := .primitive 'I', accessFlags := 0x411 }
/-- [I -/
def k20 : Class := { plain "[I" (some 0) with kind := .array 19 .int, interfaces := #[16, 4], accessFlags := 1041 }

/-- [Ljava/lang/Integer; -/
def k21 : Class := { plain "[Ljava/lang/Integer;" (some 0) with kind := .array 14 (.object "java/lang/Integer"), interfaces := #[16, 4], accessFlags := 1041 }

def heap : Heap := #[{ cls := 6, slots := #[.ref 5, .ref 4, .null], vm := .statics 6 },
  { cls := 7, slots := #[.ref 7, .ref 6, .null], vm := .statics 7 },
  { cls := 15, slots := #[.int 0, .int 127, .ref 3, .null, .int 0], vm := .statics 15 },
  { cls := 21, slots := #[.ref 8, .ref 9, .ref 10, .ref 11, .ref 12, .ref 13, .ref 14, .ref 15, .ref 16, .ref 17, .ref 18, .ref 19, .ref 20, .ref 21, .ref 22, .ref 23, .ref 24, .ref 25, .ref 26, .ref 27, .ref 28, .ref 29, .ref 30, .ref 31, .ref 32, .ref 33, .ref 34, .ref 35, .ref 36, .ref 37, .ref 38, .ref 39, .ref 40, .ref 41, .ref 42, .ref 43, .ref 44, .ref 45, .ref 46, .ref 47, .ref 48, .ref 49, .ref 50, .ref 51, .ref 52, .ref 53, .ref 54, .ref 55, .ref 56, .ref 57, .ref 58, .ref 59, .ref 60, .ref 61, .ref 62, .ref 63, .ref 64, .ref 65, .ref 66, .ref 67, .ref 68, .ref 69, .ref 70, .ref 71, .ref 72, .ref 73, .ref 74, .ref 75, .ref 76, .ref 77, .ref 78, .ref 79, .ref 80, .ref 81, .ref 82, .ref 83, .ref 84, .ref 85, .ref 86, .ref 87, .ref 88, .ref 89, .ref 90, .ref 91, .ref 92, .ref 93, .ref 94, .ref 95, .ref 96, .ref 97, .ref 98, .ref 99, .ref 100, .ref 101, .ref 102, .ref 103, .ref 104, .ref 105, .ref 106, .ref 107, .ref 108, .ref 109, .ref 110, .ref 111, .ref 112, .ref 113, .ref 114, .ref 115, .ref 116, .ref 117, .ref 118, .ref 119, .ref 120, .ref 121, .ref 122, .ref 123, .ref 124, .ref 125, .ref 126, .ref 127, .ref 128, .ref 129, .ref 130, .ref 131, .ref 132, .ref 133, .ref 134, .ref 135, .ref 136, .ref 137, .ref 138, .ref 139, .ref 140, .ref 141, .ref 142, .ref 143, .ref 144, .ref 145, .ref 146, .ref 147, .ref 148, .ref 149, .ref 150, .ref 151, .ref 152, .ref 153, .ref 154, .ref 155, .ref 156, .ref 157, .ref 158, .ref 159, .ref 160, .ref 161, .ref 162, .ref 163, .ref 164, .ref 165, .ref 166, .ref 167, .ref 168, .ref 169, .ref 170, .ref 171, .ref 172, .ref 173, .ref 174, .ref 175, .ref 176, .ref 177, .ref 178, .ref 179, .ref 180, .ref 181, .ref 182, .ref 183, .ref 184, .ref 185, .ref 186, .ref 187, .ref 188, .ref 189, .ref 190, .ref 191, .ref 192, .ref 193, .ref 194, .ref 195, .ref 196, .ref 197, .ref 198, .ref 199, .ref 200, .ref 201, .ref 202, .ref 203, .ref 204, .ref 205, .ref 206, .ref 207, .ref 208, .ref 209, .ref 210, .ref 211, .ref 212, .ref 213, .ref 214, .ref 215, .ref 216, .ref 217, .ref 218, .ref 219, .ref 220, .ref 221, .ref 222, .ref 223, .ref 224, .ref 225, .ref 226, .ref 227, .ref 228, .ref 229, .ref 230, .ref 231, .ref 232, .ref 233, .ref 234, .ref 235, .ref 236, .ref 237, .ref 238, .ref 239, .ref 240, .ref 241, .ref 242, .ref 243, .ref 244, .ref 245, .ref 246, .ref 247, .ref 248, .ref 249, .ref 250, .ref 251, .ref 252, .ref 253, .ref 254, .ref 255, .ref 256, .ref 257, .ref 258, .ref 259, .ref 260, .ref 261, .ref 262, .ref 263], vm := .none },
  { cls := 6, slots := #[.null, .int 1, .int 0, .null, .int 0, .null], vm := .none },
  { cls := 6, slots := #[.null, .int 0, .int 0, .null, .int 0, .null], vm := .none },
  { cls := 7, slots := #[.null, .int 1, .int 0, .null], vm := .none },
  { cls := 7, slots := #[.null, .int 0, .int 0, .null], vm := .none },
  { cls := 14, slots := #[.int (-128)], vm := .none },
  { cls := 14, slots := #[.int (-127)], vm := .none },
  { cls := 14, slots := #[.int (-126)], vm := .none },
  { cls := 14, slots := #[.int (-125)], vm := .none },
  { cls := 14, slots := #[.int (-124)], vm := .none },
  { cls := 14, slots := #[.int (-123)], vm := .none },
  { cls := 14, slots := #[.int (-122)], vm := .none },
  { cls := 14, slots := #[.int (-121)], vm := .none },
  { cls := 14, slots := #[.int (-120)], vm := .none },
  { cls := 14, slots := #[.int (-119)], vm := .none },
  { cls := 14, slots := #[.int (-118)], vm := .none },
  { cls := 14, slots := #[.int (-117)], vm := .none },
  { cls := 14, slots := #[.int (-116)], vm := .none },
  { cls := 14, slots := #[.int (-115)], vm := .none },
  { cls := 14, slots := #[.int (-114)], vm := .none },
  { cls := 14, slots := #[.int (-113)], vm := .none },
  { cls := 14, slots := #[.int (-112)], vm := .none },
  { cls := 14, slots := #[.int (-111)], vm := .none },
  { cls := 14, slots := #[.int (-110)], vm := .none },
  { cls := 14, slots := #[.int (-109)], vm := .none },
  { cls := 14, slots := #[.int (-108)], vm := .none },
  { cls := 14, slots := #[.int (-107)], vm := .none },
  { cls := 14, slots := #[.int (-106)], vm := .none },
  { cls := 14, slots := #[.int (-105)], vm := .none },
  { cls := 14, slots := #[.int (-104)], vm := .none },
  { cls := 14, slots := #[.int (-103)], vm := .none },
  { cls := 14, slots := #[.int (-102)], vm := .none },
  { cls := 14, slots := #[.int (-101)], vm := .none },
  { cls := 14, slots := #[.int (-100)], vm := .none },
  { cls := 14, slots := #[.int (-99)], vm := .none },
  { cls := 14, slots := #[.int (-98)], vm := .none },
  { cls := 14, slots := #[.int (-97)], vm := .none },
  { cls := 14, slots := #[.int (-96)], vm := .none },
  { cls := 14, slots := #[.int (-95)], vm := .none },
  { cls := 14, slots := #[.int (-94)], vm := .none },
  { cls := 14, slots := #[.int (-93)], vm := .none },
  { cls := 14, slots := #[.int (-92)], vm := .none },
  { cls := 14, slots := #[.int (-91)], vm := .none },
  { cls := 14, slots := #[.int (-90)], vm := .none },
  { cls := 14, slots := #[.int (-89)], vm := .none },
  { cls := 14, slots := #[.int (-88)], vm := .none },
  { cls := 14, slots := #[.int (-87)], vm := .none },
  { cls := 14, slots := #[.int (-86)], vm := .none },
  { cls := 14, slots := #[.int (-85)], vm := .none },
  { cls := 14, slots := #[.int (-84)], vm := .none },
  { cls := 14, slots := #[.int (-83)], vm := .none },
  { cls := 14, slots := #[.int (-82)], vm := .none },
  { cls := 14, slots := #[.int (-81)], vm := .none },
  { cls := 14, slots := #[.int (-80)], vm := .none },
  { cls := 14, slots := #[.int (-79)], vm := .none },
  { cls := 14, slots := #[.int (-78)], vm := .none },
  { cls := 14, slots := #[.int (-77)], vm := .none },
  { cls := 14, slots := #[.int (-76)], vm := .none },
  { cls := 14, slots := #[.int (-75)], vm := .none },
  { cls := 14, slots := #[.int (-74)], vm := .none },
  { cls := 14, slots := #[.int (-73)], vm := .none },
  { cls := 14, slots := #[.int (-72)], vm := .none },
  { cls := 14, slots := #[.int (-71)], vm := .none },
  { cls := 14, slots := #[.int (-70)], vm := .none },
  { cls := 14, slots := #[.int (-69)], vm := .none },
  { cls := 14, slots := #[.int (-68)], vm := .none },
  { cls := 14, slots := #[.int (-67)], vm := .none },
  { cls := 14, slots := #[.int (-66)], vm := .none },
  { cls := 14, slots := #[.int (-65)], vm := .none },
  { cls := 14, slots := #[.int (-64)], vm := .none },
  { cls := 14, slots := #[.int (-63)], vm := .none },
  { cls := 14, slots := #[.int (-62)], vm := .none },
  { cls := 14, slots := #[.int (-61)], vm := .none },
  { cls := 14, slots := #[.int (-60)], vm := .none },
  { cls := 14, slots := #[.int (-59)], vm := .none },
  { cls := 14, slots := #[.int (-58)], vm := .none },
  { cls := 14, slots := #[.int (-57)], vm := .none },
  { cls := 14, slots := #[.int (-56)], vm := .none },
  { cls := 14, slots := #[.int (-55)], vm := .none },
  { cls := 14, slots := #[.int (-54)], vm := .none },
  { cls := 14, slots := #[.int (-53)], vm := .none },
  { cls := 14, slots := #[.int (-52)], vm := .none },
  { cls := 14, slots := #[.int (-51)], vm := .none },
  { cls := 14, slots := #[.int (-50)], vm := .none },
  { cls := 14, slots := #[.int (-49)], vm := .none },
  { cls := 14, slots := #[.int (-48)], vm := .none },
  { cls := 14, slots := #[.int (-47)], vm := .none },
  { cls := 14, slots := #[.int (-46)], vm := .none },
  { cls := 14, slots := #[.int (-45)], vm := .none },
  { cls := 14, slots := #[.int (-44)], vm := .none },
  { cls := 14, slots := #[.int (-43)], vm := .none },
  { cls := 14, slots := #[.int (-42)], vm := .none },
  { cls := 14, slots := #[.int (-41)], vm := .none },
  { cls := 14, slots := #[.int (-40)], vm := .none },
  { cls := 14, slots := #[.int (-39)], vm := .none },
  { cls := 14, slots := #[.int (-38)], vm := .none },
  { cls := 14, slots := #[.int (-37)], vm := .none },
  { cls := 14, slots := #[.int (-36)], vm := .none },
  { cls := 14, slots := #[.int (-35)], vm := .none },
  { cls := 14, slots := #[.int (-34)], vm := .none },
  { cls := 14, slots := #[.int (-33)], vm := .none },
  { cls := 14, slots := #[.int (-32)], vm := .none },
  { cls := 14, slots := #[.int (-31)], vm := .none },
  { cls := 14, slots := #[.int (-30)], vm := .none },
  { cls := 14, slots := #[.int (-29)], vm := .none },
  { cls := 14, slots := #[.int (-28)], vm := .none },
  { cls := 14, slots := #[.int (-27)], vm := .none },
  { cls := 14, slots := #[.int (-26)], vm := .none },
  { cls := 14, slots := #[.int (-25)], vm := .none },
  { cls := 14, slots := #[.int (-24)], vm := .none },
  { cls := 14, slots := #[.int (-23)], vm := .none },
  { cls := 14, slots := #[.int (-22)], vm := .none },
  { cls := 14, slots := #[.int (-21)], vm := .none },
  { cls := 14, slots := #[.int (-20)], vm := .none },
  { cls := 14, slots := #[.int (-19)], vm := .none },
  { cls := 14, slots := #[.int (-18)], vm := .none },
  { cls := 14, slots := #[.int (-17)], vm := .none },
  { cls := 14, slots := #[.int (-16)], vm := .none },
  { cls := 14, slots := #[.int (-15)], vm := .none },
  { cls := 14, slots := #[.int (-14)], vm := .none },
  { cls := 14, slots := #[.int (-13)], vm := .none },
  { cls := 14, slots := #[.int (-12)], vm := .none },
  { cls := 14, slots := #[.int (-11)], vm := .none },
  { cls := 14, slots := #[.int (-10)], vm := .none },
  { cls := 14, slots := #[.int (-9)], vm := .none },
  { cls := 14, slots := #[.int (-8)], vm := .none },
  { cls := 14, slots := #[.int (-7)], vm := .none },
  { cls := 14, slots := #[.int (-6)], vm := .none },
  { cls := 14, slots := #[.int (-5)], vm := .none },
  { cls := 14, slots := #[.int (-4)], vm := .none },
  { cls := 14, slots := #[.int (-3)], vm := .none },
  { cls := 14, slots := #[.int (-2)], vm := .none },
  { cls := 14, slots := #[.int (-1)], vm := .none },
  { cls := 14, slots := #[.int (0)], vm := .none },
  { cls := 14, slots := #[.int (1)], vm := .none },
  { cls := 14, slots := #[.int (2)], vm := .none },
  { cls := 14, slots := #[.int (3)], vm := .none },
  { cls := 14, slots := #[.int (4)], vm := .none },
  { cls := 14, slots := #[.int (5)], vm := .none },
  { cls := 14, slots := #[.int (6)], vm := .none },
  { cls := 14, slots := #[.int (7)], vm := .none },
  { cls := 14, slots := #[.int (8)], vm := .none },
  { cls := 14, slots := #[.int (9)], vm := .none },
  { cls := 14, slots := #[.int (10)], vm := .none },
  { cls := 14, slots := #[.int (11)], vm := .none },
  { cls := 14, slots := #[.int (12)], vm := .none },
  { cls := 14, slots := #[.int (13)], vm := .none },
  { cls := 14, slots := #[.int (14)], vm := .none },
  { cls := 14, slots := #[.int (15)], vm := .none },
  { cls := 14, slots := #[.int (16)], vm := .none },
  { cls := 14, slots := #[.int (17)], vm := .none },
  { cls := 14, slots := #[.int (18)], vm := .none },
  { cls := 14, slots := #[.int (19)], vm := .none },
  { cls := 14, slots := #[.int (20)], vm := .none },
  { cls := 14, slots := #[.int (21)], vm := .none },
  { cls := 14, slots := #[.int (22)], vm := .none },
  { cls := 14, slots := #[.int (23)], vm := .none },
  { cls := 14, slots := #[.int (24)], vm := .none },
  { cls := 14, slots := #[.int (25)], vm := .none },
  { cls := 14, slots := #[.int (26)], vm := .none },
  { cls := 14, slots := #[.int (27)], vm := .none },
  { cls := 14, slots := #[.int (28)], vm := .none },
  { cls := 14, slots := #[.int (29)], vm := .none },
  { cls := 14, slots := #[.int (30)], vm := .none },
  { cls := 14, slots := #[.int (31)], vm := .none },
  { cls := 14, slots := #[.int (32)], vm := .none },
  { cls := 14, slots := #[.int (33)], vm := .none },
  { cls := 14, slots := #[.int (34)], vm := .none },
  { cls := 14, slots := #[.int (35)], vm := .none },
  { cls := 14, slots := #[.int (36)], vm := .none },
  { cls := 14, slots := #[.int (37)], vm := .none },
  { cls := 14, slots := #[.int (38)], vm := .none },
  { cls := 14, slots := #[.int (39)], vm := .none },
  { cls := 14, slots := #[.int (40)], vm := .none },
  { cls := 14, slots := #[.int (41)], vm := .none },
  { cls := 14, slots := #[.int (42)], vm := .none },
  { cls := 14, slots := #[.int (43)], vm := .none },
  { cls := 14, slots := #[.int (44)], vm := .none },
  { cls := 14, slots := #[.int (45)], vm := .none },
  { cls := 14, slots := #[.int (46)], vm := .none },
  { cls := 14, slots := #[.int (47)], vm := .none },
  { cls := 14, slots := #[.int (48)], vm := .none },
  { cls := 14, slots := #[.int (49)], vm := .none },
  { cls := 14, slots := #[.int (50)], vm := .none },
  { cls := 14, slots := #[.int (51)], vm := .none },
  { cls := 14, slots := #[.int (52)], vm := .none },
  { cls := 14, slots := #[.int (53)], vm := .none },
  { cls := 14, slots := #[.int (54)], vm := .none },
  { cls := 14, slots := #[.int (55)], vm := .none },
  { cls := 14, slots := #[.int (56)], vm := .none },
  { cls := 14, slots := #[.int (57)], vm := .none },
  { cls := 14, slots := #[.int (58)], vm := .none },
  { cls := 14, slots := #[.int (59)], vm := .none },
  { cls := 14, slots := #[.int (60)], vm := .none },
  { cls := 14, slots := #[.int (61)], vm := .none },
  { cls := 14, slots := #[.int (62)], vm := .none },
  { cls := 14, slots := #[.int (63)], vm := .none },
  { cls := 14, slots := #[.int (64)], vm := .none },
  { cls := 14, slots := #[.int (65)], vm := .none },
  { cls := 14, slots := #[.int (66)], vm := .none },
  { cls := 14, slots := #[.int (67)], vm := .none },
  { cls := 14, slots := #[.int (68)], vm := .none },
  { cls := 14, slots := #[.int (69)], vm := .none },
  { cls := 14, slots := #[.int (70)], vm := .none },
  { cls := 14, slots := #[.int (71)], vm := .none },
  { cls := 14, slots := #[.int (72)], vm := .none },
  { cls := 14, slots := #[.int (73)], vm := .none },
  { cls := 14, slots := #[.int (74)], vm := .none },
  { cls := 14, slots := #[.int (75)], vm := .none },
  { cls := 14, slots := #[.int (76)], vm := .none },
  { cls := 14, slots := #[.int (77)], vm := .none },
  { cls := 14, slots := #[.int (78)], vm := .none },
  { cls := 14, slots := #[.int (79)], vm := .none },
  { cls := 14, slots := #[.int (80)], vm := .none },
  { cls := 14, slots := #[.int (81)], vm := .none },
  { cls := 14, slots := #[.int (82)], vm := .none },
  { cls := 14, slots := #[.int (83)], vm := .none },
  { cls := 14, slots := #[.int (84)], vm := .none },
  { cls := 14, slots := #[.int (85)], vm := .none },
  { cls := 14, slots := #[.int (86)], vm := .none },
  { cls := 14, slots := #[.int (87)], vm := .none },
  { cls := 14, slots := #[.int (88)], vm := .none },
  { cls := 14, slots := #[.int (89)], vm := .none },
  { cls := 14, slots := #[.int (90)], vm := .none },
  { cls := 14, slots := #[.int (91)], vm := .none },
  { cls := 14, slots := #[.int (92)], vm := .none },
  { cls := 14, slots := #[.int (93)], vm := .none },
  { cls := 14, slots := #[.int (94)], vm := .none },
  { cls := 14, slots := #[.int (95)], vm := .none },
  { cls := 14, slots := #[.int (96)], vm := .none },
  { cls := 14, slots := #[.int (97)], vm := .none },
  { cls := 14, slots := #[.int (98)], vm := .none },
  { cls := 14, slots := #[.int (99)], vm := .none },
  { cls := 14, slots := #[.int (100)], vm := .none },
  { cls := 14, slots := #[.int (101)], vm := .none },
  { cls := 14, slots := #[.int (102)], vm := .none },
  { cls := 14, slots := #[.int (103)], vm := .none },
  { cls := 14, slots := #[.int (104)], vm := .none },
  { cls := 14, slots := #[.int (105)], vm := .none },
  { cls := 14, slots := #[.int (106)], vm := .none },
  { cls := 14, slots := #[.int (107)], vm := .none },
  { cls := 14, slots := #[.int (108)], vm := .none },
  { cls := 14, slots := #[.int (109)], vm := .none },
  { cls := 14, slots := #[.int (110)], vm := .none },
  { cls := 14, slots := #[.int (111)], vm := .none },
  { cls := 14, slots := #[.int (112)], vm := .none },
  { cls := 14, slots := #[.int (113)], vm := .none },
  { cls := 14, slots := #[.int (114)], vm := .none },
  { cls := 14, slots := #[.int (115)], vm := .none },
  { cls := 14, slots := #[.int (116)], vm := .none },
  { cls := 14, slots := #[.int (117)], vm := .none },
  { cls := 14, slots := #[.int (118)], vm := .none },
  { cls := 14, slots := #[.int (119)], vm := .none },
  { cls := 14, slots := #[.int (120)], vm := .none },
  { cls := 14, slots := #[.int (121)], vm := .none },
  { cls := 14, slots := #[.int (122)], vm := .none },
  { cls := 14, slots := #[.int (123)], vm := .none },
  { cls := 14, slots := #[.int (124)], vm := .none },
  { cls := 14, slots := #[.int (125)], vm := .none },
  { cls := 14, slots := #[.int (126)], vm := .none },
  { cls := 14, slots := #[.int (127)], vm := .none }]
def classes : Array Class := #[k0, k1, k2, k3, k4, k5, k6, k7, k8, k9, k10, k11, k12, k13, k14, k15, k16, k17, k18, k19, k20, k21]
def interned : List (Array UInt16 × Addr) := []
def slotsUsed : Nat := 543
def theMethod : MethodId := ⟨1, 1⟩
def args0 : Array Value := #[.int 5]
def aboutOver (below : List Frame) : State where
  vm := { classes := classes, interned := interned.toArray }
  heap := heap
  slotsUsed := slotsUsed
  threads := #[{ frames := .invoking theMethod args0 :: below }]
def below0 : List Frame := [.native { method := ⟨0, 0⟩, args := #[] }]
def about1 : State := aboutOver below0
def p0 : Program := .bare "" "" ""
def e0 : Env := launch0.env 0 0 0
theorem w_frames : about1.frames = Frame.invoking theMethod args0 :: below0 := rfl
set_option maxRecDepth 65536 in
theorem w_args : argsFit about1.vm theMethod args0 = true := by decide +kernel
set_option maxRecDepth 65536 in
theorem w_heap : heapFits about1 = true := by decide +kernel
set_option maxRecDepth 65536 in
theorem w_runnable : about1.curStatus? = some .runnable := by decide +kernel
set_option maxRecDepth 65536 in
theorem w_alone : about1.alone = true := by decide +kernel
set_option maxRecDepth 65536 in
theorem w_named : about1.methodNamed? x = some theMethod := by decide +kernel
set_option maxRecDepth 65536 in
theorem w_hears : about1.hears theMethod below0 = true := by decide +kernel
set_option maxRecDepth 65536 in
theorem w_ripe : about1.ripe theMethod args0 below0 = true := by decide +kernel
theorem w_running : about1.status = .running := rfl
set_option maxRecDepth 65536 in
theorem w_room : about1.hasRoom e0.platform room_1 = true :=
  launch0.hasRoom_least _ room_1 (by decide +kernel) (by decide +kernel) (by decide +kernel) (by decide +kernel) (by decide +kernel) (by decide +kernel)
theorem allAtoms_all (ts : List Jvm.Cond) (a : Array Jvm.Value) (st : Jvm.State) : (allAtoms ts).before a st = ts.all (fun c => c.before a st) := by
  induction ts with
  | nil => rfl
  | cons c t ih =>
    show (Jvm.Cond.and c (allAtoms t)).before a st = _
    rw [Jvm.Cond.before_and, ih, List.all_cons]
def words1 : List Jvm.Cond := Jvm.Cond.code x code maxLocals ret :: tables_1
/-- a 'code' word, met by the world's own term for the bytes: nothing is compared byte by byte -/
theorem code_word {y : MethodName} {bytes : ByteArray} {mx : Nat} {rt : Option FieldType} {a : Array Value} {s : State} {m : MethodId} {meth : Method} {c : Code} (h1 : s.methodNamed? y = some m) (h2 : s.vm.method? m = some meth) (h3 : meth.code = some c) (h4 : c.code = bytes)
    (h5 : (c.maxLocals == mx && c.exceptionTable.isEmpty && decide (c.maxStack ≤ mostOperands) && decide (meth.sig.returnType = rt) && !meth.locks && decide (parseMethodDescriptor y.desc = some meth.sig)) = true) : (Jvm.Cond.code y bytes mx rt).before a s = true := by
  simp only [Bool.and_eq_true, beq_iff_eq, Bool.not_eq_true', decide_eq_true_eq] at h5
  obtain ⟨⟨⟨⟨⟨g1, g2⟩, g3⟩, g4⟩, g5⟩, g6⟩ := h5
  simp [Cond.before, Cond.holds, Cond.value, h1, h2, h3, h4, g1, g2, g3, g4, g5, g6]
def isCode : Jvm.Cond → Bool
  | .code _ _ _ _ => true
  | _ => false
theorem all_split {L : List Jvm.Cond} {P : Jvm.Cond → Bool} (h1 : L.all (fun c => isCode c || P c) = true) (h2 : ∀ c ∈ L.filter isCode, P c = true) : L.all P = true := by
  refine List.all_eq_true.mpr fun c hc => ?_
  have h := List.all_eq_true.mp h1 c hc
  rcases Bool.eq_false_or_eq_true (isCode c) with hi | hi
  · exact h2 c (List.mem_filter.mpr ⟨hc, hi⟩)
  · simpa [hi] using h
set_option maxRecDepth 65536 in
theorem w_c0 : (Jvm.Cond.code x code maxLocals ret).before args0 about1 = true := code_word (m := ⟨1, 1⟩) (meth := k1m1) (c := k1c1) (by decide +kernel) rfl rfl rfl (by decide +kernel)
set_option maxRecDepth 65536 in
theorem w_c1 : (Jvm.Cond.code ({ cls := "com/example/tariffic/tariffic/engine/PriceClass", name := "<init>", desc := "(Lcom/example/tariffic/tariffic/engine/ComputeModel;Lcom/example/tariffic/tariffic/engine/Workload;)V" } : Jvm.MethodName) prog_37_method_1_code (3 : Nat) (Option.none : Option Jvm.ClassFile.FieldType)).before args0 about1 = true := code_word (m := ⟨8, 0⟩) (meth := k8m0) (c := k8c0) (by decide +kernel) rfl rfl rfl (by decide +kernel)
set_option maxRecDepth 65536 in
theorem w_c2 : (Jvm.Cond.code ({ cls := "java/lang/Object", name := "<init>", desc := "()V" } : Jvm.MethodName) object_method_1_code (1 : Nat) (Option.none : Option Jvm.ClassFile.FieldType)).before args0 about1 = true := code_word (m := ⟨0, 0⟩) (meth := k0m0) (c := k0c0) (by decide +kernel) rfl rfl rfl (by decide +kernel)
set_option maxRecDepth 65536 in
theorem w_c3 : (Jvm.Cond.code ({ cls := "java/util/Objects", name := "requireNonNull", desc := "(Ljava/lang/Object;Ljava/lang/String;)Ljava/lang/Object;" } : Jvm.MethodName) jdk_31_method_11_code (2 : Nat) (Option.some (Jvm.ClassFile.FieldType.object "java/lang/Object"))).before args0 about1 = true := code_word (m := ⟨12, 1⟩) (meth := k12m1) (c := k12c1) (by decide +kernel) rfl rfl rfl (by decide +kernel)
set_option maxRecDepth 65536 in
theorem w_c4 : (Jvm.Cond.code ({ cls := "com/example/tariffic/tariffic/engine/PriceClass", name := "equals", desc := "(Ljava/lang/Object;)Z" } : Jvm.MethodName) prog_37_method_4_code (2 : Nat) (Option.some Jvm.ClassFile.FieldType.boolean)).before args0 about1 = true := code_word (m := ⟨8, 1⟩) (meth := k8m1) (c := k8c1) (by decide +kernel) rfl rfl rfl (by decide +kernel)
set_option maxRecDepth 65536 in
theorem w_c5 : (Jvm.Cond.code ({ cls := "java/lang/Integer", name := "valueOf", desc := "(I)Ljava/lang/Integer;" } : Jvm.MethodName) jdk_33_method_22_code (1 : Nat) (Option.some (Jvm.ClassFile.FieldType.object "java/lang/Integer"))).before args0 about1 = true := code_word (m := ⟨14, 0⟩) (meth := k14m0) (c := k14c0) (by decide +kernel) rfl rfl rfl (by decide +kernel)
set_option maxRecDepth 65536 in
theorem w_c6 : (Jvm.Cond.code ({ cls := "java/lang/Integer", name := "<init>", desc := "(I)V" } : Jvm.MethodName) jdk_33_method_23_code (2 : Nat) (Option.none : Option Jvm.ClassFile.FieldType)).before args0 about1 = true := code_word (m := ⟨14, 1⟩) (meth := k14m1) (c := k14c1) (by decide +kernel) rfl rfl rfl (by decide +kernel)
set_option maxRecDepth 65536 in
theorem w_c7 : (Jvm.Cond.code ({ cls := "java/lang/Number", name := "<init>", desc := "()V" } : Jvm.MethodName) jdk_18_method_1_code (1 : Nat) (Option.none : Option Jvm.ClassFile.FieldType)).before args0 about1 = true := code_word (m := ⟨13, 0⟩) (meth := k13m0) (c := k13c0) (by decide +kernel) rfl rfl rfl (by decide +kernel)
def codes1 : List Jvm.Cond := [Jvm.Cond.code x code maxLocals ret, Jvm.Cond.code ({ cls := "com/example/tariffic/tariffic/engine/PriceClass", name := "<init>", desc := "(Lcom/example/tariffic/tariffic/engine/ComputeModel;Lcom/example/tariffic/tariffic/engine/Workload;)V" } : Jvm.MethodName) prog_37_method_1_code (3 : Nat) (Option.none : Option Jvm.ClassFile.FieldType), Jvm.Cond.code ({ cls := "java/lang/Object", name := "<init>", desc := "()V" } : Jvm.MethodName) object_method_1_code (1 : Nat) (Option.none : Option Jvm.ClassFile.FieldType), Jvm.Cond.code ({ cls := "java/util/Objects", name := "requireNonNull", desc := "(Ljava/lang/Object;Ljava/lang/String;)Ljava/lang/Object;" } : Jvm.MethodName) jdk_31_method_11_code (2 : Nat) (Option.some (Jvm.ClassFile.FieldType.object "java/lang/Object")), Jvm.Cond.code ({ cls := "com/example/tariffic/tariffic/engine/PriceClass", name := "equals", desc := "(Ljava/lang/Object;)Z" } : Jvm.MethodName) prog_37_method_4_code (2 : Nat) (Option.some Jvm.ClassFile.FieldType.boolean), Jvm.Cond.code ({ cls := "java/lang/Integer", name := "valueOf", desc := "(I)Ljava/lang/Integer;" } : Jvm.MethodName) jdk_33_method_22_code (1 : Nat) (Option.some (Jvm.ClassFile.FieldType.object "java/lang/Integer")), Jvm.Cond.code ({ cls := "java/lang/Integer", name := "<init>", desc := "(I)V" } : Jvm.MethodName) jdk_33_method_23_code (2 : Nat) (Option.none : Option Jvm.ClassFile.FieldType), Jvm.Cond.code ({ cls := "java/lang/Number", name := "<init>", desc := "()V" } : Jvm.MethodName) jdk_18_method_1_code (1 : Nat) (Option.none : Option Jvm.ClassFile.FieldType)]
set_option maxRecDepth 65536 in
theorem codes_eq : words1.filter isCode = codes1 := rfl
theorem w_codes : ∀ c ∈ words1.filter isCode, c.before args0 about1 = true := by
  rw [codes_eq]
  intro c hc
  simp only [codes1, List.mem_cons, List.not_mem_nil, or_false] at hc
  rcases hc with rfl | rfl | rfl | rfl | rfl | rfl | rfl | rfl
  · exact w_c0
  · exact w_c1
  · exact w_c2
  · exact w_c3
  · exact w_c4
  · exact w_c5
  · exact w_c6
  · exact w_c7
set_option maxRecDepth 65536 in
theorem w_t1 : (words1.take 24).all (fun c => isCode c || c.before args0 about1) = true := by decide +kernel
set_option maxRecDepth 65536 in
theorem w_t2 : ((words1.drop 24).take 24).all (fun c => isCode c || c.before args0 about1) = true := by decide +kernel
set_option maxRecDepth 65536 in
theorem w_t3 : (((words1.drop 24).drop 24).take 24).all (fun c => isCode c || c.before args0 about1) = true := by decide +kernel
set_option maxRecDepth 65536 in
theorem w_t4 : (((words1.drop 24).drop 24).drop 24).all (fun c => isCode c || c.before args0 about1) = true := by decide +kernel
theorem w_tables : (allAtoms (Jvm.Cond.code x code maxLocals ret :: tables_1)).before args0 about1 = true := by
  rw [allAtoms_all]
  show words1.all (fun c => c.before args0 about1) = true
  refine all_split ?_ w_codes
  rw [← List.take_append_drop 24 words1, List.all_append, w_t1, ← List.take_append_drop 24 (words1.drop 24), List.all_append, w_t2, ← List.take_append_drop 24 ((words1.drop 24).drop 24), List.all_append, w_t3, w_t4]
  rfl
set_option maxRecDepth 65536 in
theorem w_rest : rest_1_c.before args0 about1 = true := by decide +kernel
set_option maxRecDepth 65536 in
theorem w_case : (Jvm.Cond.and given_1 narrow_1).before args0 about1 = true := by decide +kernel
theorem w_applies : (headSpec (Jvm.Cond.code x code maxLocals ret :: tables_1) room_1).applies x e0.platform about1 = true :=
  (Spec.applies_iff w_frames).mpr ⟨w_running, w_runnable, w_alone, w_named, w_hears, w_ripe, w_room, w_tables⟩
theorem atStart : AtStart classFile x code maxLocals ret World_1 tables_1 room_1 Calls_1 rest_1 Pre_1 launch0 p0 e0 about1 theMethod args0 below0 :=
  ⟨lists_1, trivial, launch0.admits_env _ _ _, launch0.least_env, fairChoices_fair.cas, fairChoices_fair.clock, w_frames, w_args, w_heap, w_applies, trivial, w_rest, w_case⟩
end start1
theorem witness_1 : WitnessClaimed_1 := ⟨start1.p0, start1.e0, start1.about1, start1.theMethod, start1.args0, start1.below0, start1.atStart⟩
end Jvm.Pilot.@@N@@
