import JvmDerived
import JvmDerived.Pilot.@@N@@Statement
import JvmDerived.Pilot.@@N@@Code
set_option linter.unusedVariables false
set_option linter.unusedSimpArgs false
namespace Jvm.Pilot.@@N@@
open Jvm Jvm.ClassFile Sem Op Lib Jvm.Free Jvm.Stand Jvm.LawKit Jvm.RoadKit Bundle Jvm.Pilot.@@N@@.Jvm.D
/-! a thin layer of one form a step, over the library's road laws -/
def MetN (l : Launch) (Z : State) (y : MethodName) (bytes : ByteArray) (maxL : Nat) (ret : Option FieldType) (rm : Room) (ws : List Jvm.Cond) (as' : Array Value) (h : Heap) (Q : Option Value → Heap → List Loc → Prop) : Prop :=
  MetFree l y (head1 (Jvm.Cond.code y bytes maxL ret :: ws) rm) (fun a U => a = as' ∧ Z.Warmed39 U.vm ∧ U.heap = h) (fun _ _ _ _ _ => True) (fun _ U o U' => ∃ v L, o = .returned v ∧ Q v U'.heap L ∧ FrameEnd U o U' L rm.cells rm.slots)
def Win (p : Program) (e : Env) (below : List Frame) (s : State) (rm : Room) (Q : Option Value → Heap → List Loc → Prop) (st : State) : Prop :=
  ∃ s₂ o, Steps p.tables e below st s₂ ∧ s₂.status = .running ∧ Ended s₂ below o ∧ ∃ v L, o = .returned v ∧ Q v s₂.heap L ∧ FrameEnd s o s₂ L rm.cells rm.slots
section Own
variable {p : Program} {l : Launch} {e : Env} {R rm : Room} {s : State} {m : MethodId} {args : Array Value} {below : List Frame} {meth : Method} {c : Code} {T : State} {locs : List Loc} {cells slots : Nat} {Z : State} {a0 : Array Value} {h : Heap} {Q : Option Value → Heap → List Loc → Prop}
theorem Win.to {A : State} (T : State) (g : JFrame) (k : ∀ t, Steps p.tables e below (T.setTop g) t → Steps p.tables e below A t) (w : Win p e below s rm Q (T.setTop g)) : Win p e below s rm Q A := by
  obtain ⟨s₂, o, h1, r⟩ := w
  exact ⟨s₂, o, k _ h1, r⟩
theorem Win.out (X : Stand p l e R s m args below meth c T locs cells slots) {A : State} {v : Option Value} (hlk : meth.locks = false) (hv : meth.sig.returnType = none → v = none)
    (hst : ∀ fs, (∀ (f : JFrame) (acts : List Action), f.method = m → f.locked = none → f.entered = [] → (doReturn e (T.setTop f) acts v).1 = T.setFrames fs) → Steps p.tables e below A (T.setFrames fs))
    (hc : cells ≤ rm.cells) (hs : slots ≤ rm.slots) (hq : Q v T.heap locs) : Win p e below s rm Q A := by
  obtain ⟨fs, hr, hrun, hended, hW, hsame⟩ := X.leave (v := v) hv
  exact ⟨_, _, hst fs hr, hrun, hended, _, _, rfl, hq, ⟨_, rfl⟩, hW, hsame.mono hc hs⟩
theorem Win.retN (X : Stand p l e R s m args below meth c T locs cells slots) (hx : p.tables.exec = Jvm.exec) (hlk : meth.locks = false) {pc : Nat} {Ls : Array Slot} {z z' : Int32} {t : FieldType} {rest : List Value} (hret : meth.sig.returnType = some t) (ht : t = .boolean ∨ t = .byte ∨ t = .char ∨ t = .short) (hz : nar t z = z')
    (hd : decode c.code pc = .ok (.ireturn, 1)) (hc : cells ≤ rm.cells) (hs : slots ≤ rm.slots) (hq : Q (some (.int z')) T.heap locs) : Win p e below s rm Q (T.setTop (mkF m pc Ls (.int z :: rest))) := by
  subst hz
  exact Win.out X (v := some (.int (nar t z))) hlk (fun q => by rw [hret] at q; cases q) (fun fs hr => Jvm.RoadKit.retN X hx (t := t) hret ht hd hr) hc hs hq
theorem Win.retI (X : Stand p l e R s m args below meth c T locs cells slots) (hx : p.tables.exec = Jvm.exec) (hlk : meth.locks = false) {pc : Nat} {Ls : Array Slot} {z : Int32} {rest : List Value} (hret : meth.sig.returnType = some .int)
    (hd : decode c.code pc = .ok (.ireturn, 1)) (hc : cells ≤ rm.cells) (hs : slots ≤ rm.slots) (hq : Q (some (.int z)) T.heap locs) : Win p e below s rm Q (T.setTop (mkF m pc Ls (.int z :: rest))) :=
  Win.out X (v := some (.int z)) hlk (fun q => by rw [hret] at q; cases q) (fun fs hr => retOut X hx hret rfl (Or.inl ⟨rfl, Or.inl rfl, z, rfl⟩) hd hr) hc hs hq
theorem Win.retJ (X : Stand p l e R s m args below meth c T locs cells slots) (hx : p.tables.exec = Jvm.exec) (hlk : meth.locks = false) {pc : Nat} {Ls : Array Slot} {z : Int64} {rest : List Value} (hret : meth.sig.returnType = some .long)
    (hd : decode c.code pc = .ok (.lreturn, 1)) (hc : cells ≤ rm.cells) (hs : slots ≤ rm.slots) (hq : Q (some (.long z)) T.heap locs) : Win p e below s rm Q (T.setTop (mkF m pc Ls (.long z :: rest))) :=
  Win.out X (v := some (.long z)) hlk (fun q => by rw [hret] at q; cases q) (fun fs hr => retOut X hx hret rfl (Or.inr (Or.inl ⟨rfl, rfl, z, rfl⟩)) hd hr) hc hs hq
theorem Win.retD (X : Stand p l e R s m args below meth c T locs cells slots) (hx : p.tables.exec = Jvm.exec) (hlk : meth.locks = false) {pc : Nat} {Ls : Array Slot} {z : UInt64} {rest : List Value} (hret : meth.sig.returnType = some .double)
    (hd : decode c.code pc = .ok (.dreturn, 1)) (hc : cells ≤ rm.cells) (hs : slots ≤ rm.slots) (hq : Q (some (.double z)) T.heap locs) : Win p e below s rm Q (T.setTop (mkF m pc Ls (.double z :: rest))) :=
  Win.out X (v := some (.double z)) hlk (fun q => by rw [hret] at q; cases q) (fun fs hr => retOut X hx hret rfl (Or.inr (Or.inr (Or.inl ⟨rfl, rfl, z, rfl⟩))) hd hr) hc hs hq
theorem Win.retA (X : Stand p l e R s m args below meth c T locs cells slots) (hx : p.tables.exec = Jvm.exec) (hlk : meth.locks = false) {pc : Nat} {Ls : Array Slot} {w : Value} {t : FieldType} {rest : List Value} (hret : meth.sig.returnType = some t) (ht : t.isReference = true) (hw : w.isRef = true)
    (hd : decode c.code pc = .ok (.areturn, 1)) (hc : cells ≤ rm.cells) (hs : slots ≤ rm.slots) (hq : Q (some w) T.heap locs) : Win p e below s rm Q (T.setTop (mkF m pc Ls (w :: rest))) :=
  Win.out X (v := some w) hlk (fun q => by rw [hret] at q; cases q) (fun fs hr => retOut X hx hret (by rcases ref_cases hw with rfl | ⟨_, rfl⟩ <;> cases t <;> first | rfl | cases ht) (Or.inr (Or.inr (Or.inr (Or.inr ⟨rfl, ht, hw⟩)))) hd hr) hc hs hq
theorem Win.retV (X : Stand p l e R s m args below meth c T locs cells slots) (hx : p.tables.exec = Jvm.exec) (hlk : meth.locks = false) {pc : Nat} {Ls : Array Slot} (hret : meth.sig.returnType = none)
    (hd : decode c.code pc = .ok (.return_, 1)) (hc : cells ≤ rm.cells) (hs : slots ≤ rm.slots) (hq : Q none T.heap locs) : Win p e below s rm Q (T.setTop (mkF m pc Ls [])) :=
  Win.out X (v := none) hlk (fun _ => rfl) (fun fs hr => X.returnOut hx hret hd hr) hc hs hq
theorem MetN.walk {y : MethodName} {bytes : ByteArray} {maxL : Nat} {ret : Option FieldType} {ws : List Jvm.Cond} {as' : Array Value} (hp : plainFor y = true)
    (b : ∀ (p : Program) (e : Env) (s : State) (m : MethodId) (below : List Frame) (meth : Method) (c : Code) (s₁ : State), p.tables.exec = Jvm.exec → Z.Warmed39 s.vm → c.code = bytes → c.maxLocals = maxL → s.vm.findClass y.cls = some m.cls → meth.name = y.name → meth.sig.returnType = ret → meth.locks = false →
      Stand p l e rm s m as' below meth c s₁ [] 0 0 → s₁.heap = h → Win p e below s rm Q (s₁.setTop (entryFrame m as' maxL))) : MetN l Z y bytes maxL ret rm ws as' h Q := by
  refine MetFree.of_bodySF hp hisR ?_
  intro p e s m args below meth c s₁ Bd hml0 hP hK
  obtain ⟨rfl, hZ, hh⟩ := hP
  exact b p e s m below meth c s₁ Bd.exec hZ Bd.bytes hml0 (findClass_of_methodNamed Bd.named) (name_of_methodNamed Bd.named Bd.method).1 Bd.returns Bd.notSynchronized (Stand.of_body Bd) (by rw [← hh, Bd.state]; rfl)
theorem N.static (X : Stand p l e R s m args below meth c T locs cells slots) (hx : p.tables.exec = Jvm.exec) (hZ : Z.Warmed39 s.vm) {own : String} {index : Nat} {y : MethodName} {bytes : ByteArray} {maxL : Nat} {ret : Option FieldType} {as' : Array Value}
    (hown : s.vm.findClass own = some m.cls) (w1 : (Jvm.Cond.methodLink own index y).before a0 Z = true) (w2 : (Jvm.Cond.static y).before a0 Z = true) (w3 : (Jvm.Cond.initialized y.cls).before a0 Z = true) (w4 : (Jvm.Cond.code y bytes maxL ret).before a0 Z = true)
    (hy : y.cls ≠ "java/lang/invoke/MethodHandle" ∧ y.cls ≠ "java/lang/invoke/VarHandle") (M : MetN l Z y bytes maxL ret rm [] as' h Q) (eT : T.heap = h) {g : JFrame} (hg : g.method = m) (hsize : g.locals.size = c.maxLocals) {argsL rest : List Value} (has : argsL.toArray = as')
    (hlen : ∀ sig, parseMethodDescriptor y.desc = some sig → argsL.length = sig.parameters.length) (hstack : g.stack = argsL.reverse ++ rest) {W : Nat} (hW : 2 * g.monitorRoom + (rest.map fun v => v.category).sum ≤ W) (hd : decode c.code g.pc = .ok (.invokestatic index, 3))
    (hf : rm.frames + 1 ≤ R.frames) (hl : W + (maxL + 11) + rm.locals ≤ R.locals) (hc : cells + rm.cells ≤ R.cells) (hs : slots + rm.slots ≤ R.slots) :
    ∃ (T' : State) (h' : Heap) (v : Option Value) (L : List Loc), Stand p l e R s m args below meth c T' (locs ++ L) (cells + rm.cells) (slots + rm.slots) ∧ T'.heap = h' ∧ Q v h' L ∧ ∀ t, Steps p.tables e below (T'.setTop { g with pc := g.pc + 3, stack := v.toList ++ rest }) t → Steps p.tables e below (T.setTop g) t := by
  obtain ⟨v, _, ⟨T', L', k', n'⟩, -, X', ⟨Lc, hQ, l', y', z'⟩, st⟩ := Jvm.LawKit.callS X hx hown (mvT hZ w1) (mvT hZ w2) (mvT hZ w3) (mvT hZ w4) hy (backOf (W := W) M hZ w4 w3 hf hl) hg hsize hlen hstack hW hd (fun _ _ => ⟨has, eT, hc, hs⟩)
  dsimp only [Pt.U, Pt.locs, Pt.cells, Pt.slots] at X' l' y' z' st hQ
  subst l' y' z'
  exact ⟨T', _, v, Lc, X', rfl, hQ, st⟩
theorem N.special (X : Stand p l e R s m args below meth c T locs cells slots) (hx : p.tables.exec = Jvm.exec) (hZ : Z.Warmed39 s.vm) {own : String} {index : Nat} {y : MethodName} {bytes : ByteArray} {maxL : Nat} {as' : Array Value} (hy1 : y.name = "<init>")
    (hown : s.vm.findClass own = some m.cls) (w1 : (Jvm.Cond.methodLink own index y).before a0 Z = true) (w2 : (Jvm.Cond.instanceMethod y).before a0 Z = true) (w3 : (Jvm.Cond.initialized y.cls).before a0 Z = true) (w4 : (Jvm.Cond.code y bytes maxL none).before a0 Z = true)
    (hy : y.cls ≠ "java/lang/invoke/MethodHandle" ∧ y.cls ≠ "java/lang/invoke/VarHandle") (M : MetN l Z y bytes maxL none rm [] as' h Q) (eT : T.heap = h) {g : JFrame} (hg : g.method = m) (hsize : g.locals.size = c.maxLocals) {a : Addr} {argsL rest : List Value} (has : (Value.ref a :: argsL).toArray = as')
    (hlen : ∀ sig, parseMethodDescriptor y.desc = some sig → argsL.length = sig.parameters.length) (hstack : g.stack = argsL.reverse ++ .ref a :: rest) {W : Nat} (hW : 2 * g.monitorRoom + (rest.map fun v => v.category).sum ≤ W) (hd : decode c.code g.pc = .ok (.invokespecial index, 3))
    (hf : rm.frames + 1 ≤ R.frames) (hl : W + (maxL + 11) + rm.locals ≤ R.locals) (hc : cells + rm.cells ≤ R.cells) (hs : slots + rm.slots ≤ R.slots) :
    ∃ (T' : State) (h' : Heap) (v : Option Value) (L : List Loc), Stand p l e R s m args below meth c T' (locs ++ L) (cells + rm.cells) (slots + rm.slots) ∧ T'.heap = h' ∧ Q v h' L ∧ ∀ t, Steps p.tables e below (T'.setTop { g with pc := g.pc + 3, stack := v.toList ++ rest }) t → Steps p.tables e below (T.setTop g) t := by
  obtain ⟨v, _, ⟨T', L', k', n'⟩, -, X', ⟨Lc, hQ, l', y', z'⟩, st⟩ := X.specialBack hx hy1 hown (mvT hZ w1) (mvT hZ w2) (mvT hZ w4) hy (backOf (W := W) M hZ w4 w3 hf hl) hg hsize (Steps.refl _) (a := a) hlen hstack hW hd (fun _ _ => ⟨has, eT, hc, hs⟩)
  dsimp only [Pt.U, Pt.locs, Pt.cells, Pt.slots] at X' l' y' z' st hQ
  subst l' y' z'
  exact ⟨T', _, v, Lc, X', rfl, hQ, fun t k => st.trans k⟩
theorem N.virtual (X : Stand p l e R s m args below meth c T locs cells slots) (hx : p.tables.exec = Jvm.exec) (hZ : Z.Warmed39 s.vm) {own C : String} {index : Nat} {y z : MethodName} {bytes : ByteArray} {maxL : Nat} {ret : Option FieldType} {as' : Array Value}
    (hown : s.vm.findClass own = some m.cls) (w1 : (Jvm.Cond.methodLink own index y).before a0 Z = true) (w5 : (Jvm.Cond.declares y).before a0 Z = true) (nf : NotFace s y) (w6 : (Jvm.Cond.selects C y z).before a0 Z = true) (w2 : (Jvm.Cond.instanceMethod z).before a0 Z = true) (w3 : (Jvm.Cond.initialized z.cls).before a0 Z = true) (w4 : (Jvm.Cond.code z bytes maxL ret).before a0 Z = true)
    (hy : y.cls ≠ "java/lang/invoke/MethodHandle" ∧ y.cls ≠ "java/lang/invoke/VarHandle") (M : MetN l Z z bytes maxL ret rm [] as' h Q) (eT : T.heap = h) {a : Addr} (E : Exa Z h a C) {g : JFrame} (hg : g.method = m) (hsize : g.locals.size = c.maxLocals) {argsL rest : List Value} (has : (Value.ref a :: argsL).toArray = as')
    (hlen : ∀ sig, parseMethodDescriptor y.desc = some sig → argsL.length = sig.parameters.length) (hstack : g.stack = argsL.reverse ++ .ref a :: rest) {W : Nat} (hW : 2 * g.monitorRoom + (rest.map fun v => v.category).sum ≤ W) (hd : decode c.code g.pc = .ok (.invokevirtual index, 3))
    (hf : rm.frames + 1 ≤ R.frames) (hl : W + (maxL + 11) + rm.locals ≤ R.locals) (hc : cells + rm.cells ≤ R.cells) (hs : slots + rm.slots ≤ R.slots) :
    ∃ (T' : State) (h' : Heap) (v : Option Value) (L : List Loc), Stand p l e R s m args below meth c T' (locs ++ L) (cells + rm.cells) (slots + rm.slots) ∧ T'.heap = h' ∧ Q v h' L ∧ ∀ t, Steps p.tables e below (T'.setTop { g with pc := g.pc + 3, stack := v.toList ++ rest }) t → Steps p.tables e below (T.setTop g) t := by
  obtain ⟨cq, kq, qa, qb, qc⟩ := isOf hZ eT E
  obtain ⟨v, _, ⟨T', L', k', n'⟩, -, X', ⟨Lc, hQ, l', y', z'⟩, st⟩ := X.virtualBack hx (y := y) (z := z) hown (mvT hZ w1) (mvT hZ w5) nf (mvT hZ w6) (mvT hZ w2) hy (backOf (W := W) M hZ w4 w3 hf hl) qa qc hg hsize (Steps.refl _) (argsL := argsL) hlen hstack hW hd (fun _ _ => ⟨has, eT, hc, hs⟩)
  dsimp only [Pt.U, Pt.locs, Pt.cells, Pt.slots] at X' l' y' z' st hQ
  subst l' y' z'
  exact ⟨T', _, v, Lc, X', rfl, hQ, fun t k => st.trans k⟩
theorem own_cat {v : Value} (q : v.isRef = true) : v.category = 1 := by rcases ref_cases q with rfl | ⟨_, rfl⟩ <;> rfl
theorem own_eqi {a b : Int32} (q : a = b) : (some (Value.int b) : Option Value) = some (Value.int a) := by rw [q]
theorem own_le {n0 : Nat} (X : Old Z n0 h) : n0 ≤ h.size := X.1 ▸ X.2.1
end Own
/-! the same layer for walks that may load String constants -/
def MetW (l : Launch) (Z : State) (y : MethodName) (bytes : ByteArray) (maxL : Nat) (ret : Option FieldType) (rm : Room) (ws : List Jvm.Cond) (as' : Array Value) (h : Heap) (EL : List (String × Nat)) (Q : Option Value → Heap → List Loc → Prop) : Prop :=
  MetFree l y (head1 (Jvm.Cond.code y bytes maxL ret :: ws) rm) (fun a U => a = as' ∧ Z.Warmed39 U.vm ∧ U.heap = h ∧ CHv Z EL U.vm h) (fun _ _ _ _ _ => True) (fun _ U o U' => ∃ v L, o = .returned v ∧ Q v U'.heap L ∧ CHr Z EL U.vm U.heap U'.vm U'.heap ∧ ReturnedEndW U o U' L rm.cells rm.slots)
def WinW (p : Program) (e : Env) (below : List Frame) (s : State) (rm : Room) (Z : State) (EL : List (String × Nat)) (Q : Option Value → Heap → List Loc → Prop) (st : State) : Prop :=
  ∃ s₂ o, Steps p.tables e below st s₂ ∧ s₂.status = .running ∧ Ended s₂ below o ∧ ∃ v L, o = .returned v ∧ Q v s₂.heap L ∧ CHr Z EL s.vm s.heap s₂.vm s₂.heap ∧ ReturnedEndW s o s₂ L rm.cells rm.slots
section OwnW
variable {p : Program} {l : Launch} {e : Env} {R rm : Room} {s : State} {m : MethodId} {args : Array Value} {below : List Frame} {meth : Method} {c : Code} {T : State} {locs : List Loc} {cells slots : Nat} {Z : State} {a0 : Array Value} {h : Heap} {Q : Option Value → Heap → List Loc → Prop} {EL : List (String × Nat)} {vm0 : Vm}
theorem WinW.to {A : State} (T : State) (g : JFrame) (k : ∀ t, Steps p.tables e below (T.setTop g) t → Steps p.tables e below A t) (w : WinW p e below s rm Z EL Q (T.setTop g)) : WinW p e below s rm Z EL Q A := by
  obtain ⟨s₂, o, h1, r⟩ := w
  exact ⟨s₂, o, k _ h1, r⟩
theorem WinW.out (X : Stand p l e R (s.setVm vm0) m args below meth c T locs cells slots) {n : Nat} (hS : s.Since vm0 n) (hn : n ≤ T.heap.size) {A : State} {v : Option Value} (hlk : meth.locks = false) (hv : meth.sig.returnType = none → v = none)
    (hst : ∀ fs, (∀ (f : JFrame) (acts : List Action), f.method = m → f.locked = none → f.entered = [] → (doReturn e (T.setTop f) acts v).1 = T.setFrames fs) → Steps p.tables e below A (T.setFrames fs))
    (hZ : Z.Warmed39 (s.setVm vm0).vm) (hE : EW Z a0 EL) (hC : CHr Z EL s.vm s.heap vm0 T.heap) (hc : cells ≤ rm.cells) (hs : slots ≤ rm.slots) (hq : Q v T.heap locs) : WinW p e below s rm Z EL Q A := by
  obtain ⟨fs, hr, hrun, hended, h1, h2, h3, h4⟩ := X.leaveW hS hn (v := v) hv
  exact ⟨_, _, hst fs hr, hrun, hended, _, _, rfl, hq, (show CHr Z EL s.vm s.heap T.vm T.heap from hC.trans (CHv.at X hZ hE hC.1)), h1, h2, h3, h4.mono hc hs⟩
theorem WinW.retN (X : Stand p l e R (s.setVm vm0) m args below meth c T locs cells slots) {n : Nat} (hS : s.Since vm0 n) (hn : n ≤ T.heap.size) (hx : p.tables.exec = Jvm.exec) (hlk : meth.locks = false) {pc : Nat} {Ls : Array Slot} {z z' : Int32} {t : FieldType} {rest : List Value} (hret : meth.sig.returnType = some t) (ht : t = .boolean ∨ t = .byte ∨ t = .char ∨ t = .short) (hz : nar t z = z')
    (hd : decode c.code pc = .ok (.ireturn, 1)) (hZ : Z.Warmed39 (s.setVm vm0).vm) (hE : EW Z a0 EL) (hC : CHr Z EL s.vm s.heap vm0 T.heap) (hc : cells ≤ rm.cells) (hs : slots ≤ rm.slots) (hq : Q (some (.int z')) T.heap locs) : WinW p e below s rm Z EL Q (T.setTop (mkF m pc Ls (.int z :: rest))) := by
  subst hz
  exact WinW.out X hS hn (v := some (.int (nar t z))) hlk (fun q => by rw [hret] at q; cases q) (fun fs hr => Jvm.RoadKit.retN X hx (t := t) hret ht hd hr) hZ hE hC hc hs hq
theorem WinW.retI (X : Stand p l e R (s.setVm vm0) m args below meth c T locs cells slots) {n : Nat} (hS : s.Since vm0 n) (hn : n ≤ T.heap.size) (hx : p.tables.exec = Jvm.exec) (hlk : meth.locks = false) {pc : Nat} {Ls : Array Slot} {z : Int32} {rest : List Value} (hret : meth.sig.returnType = some .int)
    (hd : decode c.code pc = .ok (.ireturn, 1)) (hZ : Z.Warmed39 (s.setVm vm0).vm) (hE : EW Z a0 EL) (hC : CHr Z EL s.vm s.heap vm0 T.heap) (hc : cells ≤ rm.cells) (hs : slots ≤ rm.slots) (hq : Q (some (.int z)) T.heap locs) : WinW p e below s rm Z EL Q (T.setTop (mkF m pc Ls (.int z :: rest))) :=
  WinW.out X hS hn (v := some (.int z)) hlk (fun q => by rw [hret] at q; cases q) (fun fs hr => retOut X hx hret rfl (Or.inl ⟨rfl, Or.inl rfl, z, rfl⟩) hd hr) hZ hE hC hc hs hq
theorem WinW.retA (X : Stand p l e R (s.setVm vm0) m args below meth c T locs cells slots) {n : Nat} (hS : s.Since vm0 n) (hn : n ≤ T.heap.size) (hx : p.tables.exec = Jvm.exec) (hlk : meth.locks = false) {pc : Nat} {Ls : Array Slot} {w : Value} {t : FieldType} {rest : List Value} (hret : meth.sig.returnType = some t) (ht : t.isReference = true) (hw : w.isRef = true)
    (hd : decode c.code pc = .ok (.areturn, 1)) (hZ : Z.Warmed39 (s.setVm vm0).vm) (hE : EW Z a0 EL) (hC : CHr Z EL s.vm s.heap vm0 T.heap) (hc : cells ≤ rm.cells) (hs : slots ≤ rm.slots) (hq : Q (some w) T.heap locs) : WinW p e below s rm Z EL Q (T.setTop (mkF m pc Ls (w :: rest))) :=
  WinW.out X hS hn (v := some w) hlk (fun q => by rw [hret] at q; cases q) (fun fs hr => retOut X hx hret (by rcases ref_cases hw with rfl | ⟨_, rfl⟩ <;> cases t <;> first | rfl | cases ht) (Or.inr (Or.inr (Or.inr (Or.inr ⟨rfl, ht, hw⟩)))) hd hr) hZ hE hC hc hs hq
theorem WinW.retV (X : Stand p l e R (s.setVm vm0) m args below meth c T locs cells slots) {n : Nat} (hS : s.Since vm0 n) (hn : n ≤ T.heap.size) (hx : p.tables.exec = Jvm.exec) (hlk : meth.locks = false) {pc : Nat} {Ls : Array Slot} (hret : meth.sig.returnType = none)
    (hd : decode c.code pc = .ok (.return_, 1)) (hZ : Z.Warmed39 (s.setVm vm0).vm) (hE : EW Z a0 EL) (hC : CHr Z EL s.vm s.heap vm0 T.heap) (hc : cells ≤ rm.cells) (hs : slots ≤ rm.slots) (hq : Q none T.heap locs) : WinW p e below s rm Z EL Q (T.setTop (mkF m pc Ls [])) :=
  WinW.out X hS hn (v := none) hlk (fun _ => rfl) (fun fs hr => X.returnOut hx hret hd hr) hZ hE hC hc hs hq
theorem MetW.walk {y : MethodName} {bytes : ByteArray} {maxL : Nat} {ret : Option FieldType} {ws : List Jvm.Cond} {as' : Array Value} (hp : plainFor y = true)
    (b : ∀ (p : Program) (e : Env) (s : State) (m : MethodId) (below : List Frame) (meth : Method) (c : Code) (s₁ : State), p.tables.exec = Jvm.exec → Z.Warmed39 (s.setVm s.vm).vm → c.code = bytes → c.maxLocals = maxL → (s.setVm s.vm).vm.findClass y.cls = some m.cls → meth.name = y.name → meth.sig.returnType = ret → meth.locks = false → CHr Z EL s.vm s.heap s.vm h → s.Since s.vm 0 →
      Stand p l e rm (s.setVm s.vm) m as' below meth c s₁ [] 0 0 → s₁.heap = h → WinW p e below s rm Z EL Q (s₁.setTop (entryFrame m as' maxL))) : MetW l Z y bytes maxL ret rm ws as' h EL Q := by
  refine MetFree.of_bodySF hp hisR ?_
  intro p e s m args below meth c s₁ Bd hml0 hP hK
  obtain ⟨rfl, hZ, hh, hV⟩ := hP
  exact b p e s m below meth c s₁ Bd.exec hZ Bd.bytes hml0 (findClass_of_methodNamed Bd.named) (name_of_methodNamed Bd.named Bd.method).1 Bd.returns Bd.notSynchronized (hh ▸ CHr.refl (hh ▸ hV)) ((State.WarmedH.refl s).since 0) (Stand.of_body Bd) (by rw [← hh, Bd.state]; rfl)
theorem W.static (X : Stand p l e R (s.setVm vm0) m args below meth c T locs cells slots) {k0 : Nat} (hS : s.Since vm0 k0) (hk : k0 ≤ h.size) (hx : p.tables.exec = Jvm.exec) (hZ : Z.Warmed39 (s.setVm vm0).vm) {own : String} {index : Nat} {y : MethodName} {bytes : ByteArray} {maxL : Nat} {ret : Option FieldType} {as' : Array Value}
    (hown : (s.setVm vm0).vm.findClass own = some m.cls) (w1 : (Jvm.Cond.methodLink own index y).before a0 Z = true) (w2 : (Jvm.Cond.static y).before a0 Z = true) (w3 : (Jvm.Cond.initialized y.cls).before a0 Z = true) (w4 : (Jvm.Cond.code y bytes maxL ret).before a0 Z = true)
    (hy : y.cls ≠ "java/lang/invoke/MethodHandle" ∧ y.cls ≠ "java/lang/invoke/VarHandle") (M : MetW l Z y bytes maxL ret rm [] as' h EL Q) (hE : EW Z a0 EL) (hC : CHv Z EL vm0 h) (eT : T.heap = h) {g : JFrame} (hg : g.method = m) (hsize : g.locals.size = c.maxLocals) {argsL rest : List Value} (has : argsL.toArray = as')
    (hlen : ∀ sig, parseMethodDescriptor y.desc = some sig → argsL.length = sig.parameters.length) (hstack : g.stack = argsL.reverse ++ rest) {W : Nat} (hW : 2 * g.monitorRoom + (rest.map fun v => v.category).sum ≤ W) (hd : decode c.code g.pc = .ok (.invokestatic index, 3))
    (hf : rm.frames + 1 ≤ R.frames) (hl : W + (maxL + 11) + rm.locals ≤ R.locals) (hc : cells + rm.cells ≤ R.cells) (hs : slots + rm.slots ≤ R.slots) :
    ∃ (T' : State) (h' : Heap) (v : Option Value) (L : List Loc) (k1 : Nat), Stand p l e R (s.setVm T'.vm) m args below meth c T' (locs ++ L) (cells + rm.cells) (slots + rm.slots) ∧ T'.heap = h' ∧ s.Since T'.vm k1 ∧ k1 ≤ h'.size ∧ Z.Warmed39 (s.setVm T'.vm).vm ∧ (s.setVm T'.vm).vm.findClass own = some m.cls ∧ Q v h' L ∧ CHr Z EL vm0 h T'.vm h' ∧
      ∀ t, Steps p.tables e below (T'.setTop { g with pc := g.pc + 3, stack := v.toList ++ rest }) t → Steps p.tables e below (T.setTop g) t := by
  obtain ⟨v, _, ⟨T', L', k', n'⟩, -, X', hS', hgr, ⟨Lc, hQ, l', y', z', hC2⟩, st⟩ := callSS X hx hown (mvT hZ w1) (mvT hZ w2) (mvT hZ w3) (mvT hZ w4) hy (backOfSH (W := W) M hZ w4 w3 hf hl hE hC) hg hsize hlen hstack hW hd (fun _ _ => ⟨has, eT, hc, hs⟩)
  dsimp only [Pt.U, Pt.locs, Pt.cells, Pt.slots] at X' l' y' z' st hQ hS' hgr hC2
  subst l' y' z'
  obtain ⟨X2, hS2, hZ2, hown2⟩ := rebS hS hk X' hS' (by rw [← eT]; exact hgr) hZ hown
  exact ⟨T', _, v, Lc, _, X2, rfl, hS2, Nat.le_refl _, hZ2, hown2, hQ, hC2, fun t k => st.trans k⟩
theorem W.special (X : Stand p l e R (s.setVm vm0) m args below meth c T locs cells slots) {k0 : Nat} (hS : s.Since vm0 k0) (hk : k0 ≤ h.size) (hx : p.tables.exec = Jvm.exec) (hZ : Z.Warmed39 (s.setVm vm0).vm) {own : String} {index : Nat} {y : MethodName} {bytes : ByteArray} {maxL : Nat} {as' : Array Value} (hy1 : y.name = "<init>")
    (hown : (s.setVm vm0).vm.findClass own = some m.cls) (w1 : (Jvm.Cond.methodLink own index y).before a0 Z = true) (w2 : (Jvm.Cond.instanceMethod y).before a0 Z = true) (w3 : (Jvm.Cond.initialized y.cls).before a0 Z = true) (w4 : (Jvm.Cond.code y bytes maxL none).before a0 Z = true)
    (hy : y.cls ≠ "java/lang/invoke/MethodHandle" ∧ y.cls ≠ "java/lang/invoke/VarHandle") (M : MetW l Z y bytes maxL none rm [] as' h EL Q) (hE : EW Z a0 EL) (hC : CHv Z EL vm0 h) (eT : T.heap = h) {g : JFrame} (hg : g.method = m) (hsize : g.locals.size = c.maxLocals) {a : Addr} {argsL rest : List Value} (has : (Value.ref a :: argsL).toArray = as')
    (hlen : ∀ sig, parseMethodDescriptor y.desc = some sig → argsL.length = sig.parameters.length) (hstack : g.stack = argsL.reverse ++ .ref a :: rest) {W : Nat} (hW : 2 * g.monitorRoom + (rest.map fun v => v.category).sum ≤ W) (hd : decode c.code g.pc = .ok (.invokespecial index, 3))
    (hf : rm.frames + 1 ≤ R.frames) (hl : W + (maxL + 11) + rm.locals ≤ R.locals) (hc : cells + rm.cells ≤ R.cells) (hs : slots + rm.slots ≤ R.slots) :
    ∃ (T' : State) (h' : Heap) (v : Option Value) (L : List Loc) (k1 : Nat), Stand p l e R (s.setVm T'.vm) m args below meth c T' (locs ++ L) (cells + rm.cells) (slots + rm.slots) ∧ T'.heap = h' ∧ s.Since T'.vm k1 ∧ k1 ≤ h'.size ∧ Z.Warmed39 (s.setVm T'.vm).vm ∧ (s.setVm T'.vm).vm.findClass own = some m.cls ∧ Q v h' L ∧ CHr Z EL vm0 h T'.vm h' ∧
      ∀ t, Steps p.tables e below (T'.setTop { g with pc := g.pc + 3, stack := v.toList ++ rest }) t → Steps p.tables e below (T.setTop g) t := by
  obtain ⟨v, _, ⟨T', L', k', n'⟩, -, X', hS', hgr, ⟨Lc, hQ, l', y', z', hC2⟩, st⟩ := X.specialBackS hx hy1 hown (mvT hZ w1) (mvT hZ w2) (mvT hZ w4) hy (backOfSH (W := W) M hZ w4 w3 hf hl hE hC) hg hsize (Steps.refl _) (a := a) hlen hstack hW hd (fun _ _ => ⟨has, eT, hc, hs⟩)
  dsimp only [Pt.U, Pt.locs, Pt.cells, Pt.slots] at X' l' y' z' st hQ hS' hgr hC2
  subst l' y' z'
  obtain ⟨X2, hS2, hZ2, hown2⟩ := rebS hS hk X' hS' (by rw [← eT]; exact hgr) hZ hown
  exact ⟨T', _, v, Lc, _, X2, rfl, hS2, Nat.le_refl _, hZ2, hown2, hQ, hC2, fun t k => st.trans k⟩
theorem W.virtual (X : Stand p l e R (s.setVm vm0) m args below meth c T locs cells slots) {k0 : Nat} (hS : s.Since vm0 k0) (hk : k0 ≤ h.size) (hx : p.tables.exec = Jvm.exec) (hZ : Z.Warmed39 (s.setVm vm0).vm) {own C : String} {index : Nat} {y z : MethodName} {bytes : ByteArray} {maxL : Nat} {ret : Option FieldType} {as' : Array Value}
    (hown : (s.setVm vm0).vm.findClass own = some m.cls) (w1 : (Jvm.Cond.methodLink own index y).before a0 Z = true) (w5 : (Jvm.Cond.declares y).before a0 Z = true) (nf : NotFace (s.setVm vm0) y) (w6 : (Jvm.Cond.selects C y z).before a0 Z = true) (w2 : (Jvm.Cond.instanceMethod z).before a0 Z = true) (w3 : (Jvm.Cond.initialized z.cls).before a0 Z = true) (w4 : (Jvm.Cond.code z bytes maxL ret).before a0 Z = true)
    (hy : y.cls ≠ "java/lang/invoke/MethodHandle" ∧ y.cls ≠ "java/lang/invoke/VarHandle") (M : MetW l Z z bytes maxL ret rm [] as' h EL Q) (hE : EW Z a0 EL) (hC : CHv Z EL vm0 h) (eT : T.heap = h) {a : Addr} (E : Exa Z h a C) {g : JFrame} (hg : g.method = m) (hsize : g.locals.size = c.maxLocals) {argsL rest : List Value} (has : (Value.ref a :: argsL).toArray = as')
    (hlen : ∀ sig, parseMethodDescriptor y.desc = some sig → argsL.length = sig.parameters.length) (hstack : g.stack = argsL.reverse ++ .ref a :: rest) {W : Nat} (hW : 2 * g.monitorRoom + (rest.map fun v => v.category).sum ≤ W) (hd : decode c.code g.pc = .ok (.invokevirtual index, 3))
    (hf : rm.frames + 1 ≤ R.frames) (hl : W + (maxL + 11) + rm.locals ≤ R.locals) (hc : cells + rm.cells ≤ R.cells) (hs : slots + rm.slots ≤ R.slots) :
    ∃ (T' : State) (h' : Heap) (v : Option Value) (L : List Loc) (k1 : Nat), Stand p l e R (s.setVm T'.vm) m args below meth c T' (locs ++ L) (cells + rm.cells) (slots + rm.slots) ∧ T'.heap = h' ∧ s.Since T'.vm k1 ∧ k1 ≤ h'.size ∧ Z.Warmed39 (s.setVm T'.vm).vm ∧ (s.setVm T'.vm).vm.findClass own = some m.cls ∧ Q v h' L ∧ CHr Z EL vm0 h T'.vm h' ∧
      ∀ t, Steps p.tables e below (T'.setTop { g with pc := g.pc + 3, stack := v.toList ++ rest }) t → Steps p.tables e below (T.setTop g) t := by
  obtain ⟨cq, kq, qa, qb, qc⟩ := isOf hZ eT E
  obtain ⟨v, _, ⟨T', L', k', n'⟩, -, X', hS', hgr, ⟨Lc, hQ, l', y', z', hC2⟩, st⟩ := X.virtualBackS hx (y := y) (z := z) hown (mvT hZ w1) (mvT hZ w5) nf (mvT hZ w6) (mvT hZ w2) hy (backOfSH (W := W) M hZ w4 w3 hf hl hE hC) qa qc hg hsize (Steps.refl _) (argsL := argsL) hlen hstack hW hd (fun _ _ => ⟨has, eT, hc, hs⟩)
  dsimp only [Pt.U, Pt.locs, Pt.cells, Pt.slots] at X' l' y' z' st hQ hS' hgr hC2
  subst l' y' z'
  obtain ⟨X2, hS2, hZ2, hown2⟩ := rebS hS hk X' hS' (by rw [← eT]; exact hgr) hZ hown
  exact ⟨T', _, v, Lc, _, X2, rfl, hS2, Nat.le_refl _, hZ2, hown2, hQ, hC2, fun t k => st.trans k⟩
theorem own_safe {x : Addr} {n : Nat} {vm : Vm} (hal : Z.vm.Alike vm) (E : Exa Z h x "java/lang/String") (F : Fld Z h x "java/lang/String" "value" "[B" .null) (wi : (Jvm.Cond.instantiable "java/lang/String" n).before a0 Z = true) : Safe Z EL vm h x := fun B => by
  obtain ⟨cell, cf, k, i, f, f1, f2, f3, f4, f5, f6, f7⟩ := F
  obtain ⟨p, -, u, a, -, q, -, ⟨cS, ⟨⟨s1, s2, s3, ⟨cv, kv, iv, s4, s4'⟩, -, s6, s7, s8, s9, s10, s11, s12, s13, s14, s15, s16⟩, hfS, hcS⟩, -, hB, -⟩, hy⟩ := B
  rcases hy with rfl | rfl
  · obtain ⟨kv', z4⟩ := ff_back (U := Wst Z vm h) hal s4
    cases f1.symm.trans s1
    cases f2.symm.trans z4
    cases f7.symm.trans s8
  · have A : Arr Z h q.sd q.SA .byte := by
      have hB : vm.findClass "[B" = some q.SA.cls := hB
      have hBZ : Z.vm.findClass "[B" = some q.SA.cls := by rw [← hal.findClass]; exact hB
      obtain ⟨kb, hkb, -⟩ := Vm.findClass_spec hBZ
      obtain ⟨kb', hkb', ekb⟩ := hal.2.2 _ _ hkb
      obtain ⟨hst, k9, hk9, comp, hkind9⟩ := s11
      have hk9 : vm.classes[q.SA.cls]? = some k9 := hk9
      have ek9 : k9 = kb' := Option.some.inj (hk9.symm.trans hkb')
      exact ⟨s10, ⟨hst, kb, hkb, comp, by rw [ek9, ekb] at hkind9; exact hkind9⟩, s12⟩
    exact ne_arr E wi A rfl
end OwnW
/-! arrays of ints as functions -/
def upd (f : Nat → Int32) (i : Nat) (v : Int32) : Nat → Int32 := fun x => if x = i then v else f x
def ArF (Z : State) (h : Heap) (a : Addr) (k : ClassId) (ty : FieldType) (n : Nat) (f : Nat → Int32) : Prop := ∃ c : Cell, Arr Z h a c ty ∧ c.cls = k ∧ c.slots.size = n ∧ n < 2 ^ 31 ∧ (∀ i, i < n → c.slots[i]? = some (.int (f i))) ∧ ∀ i, i < n → fits ty (.int (f i)) = true
section OwnS
variable {Z : State} {h h' : Heap} {a b : Addr} {k : ClassId} {ty : FieldType} {n : Nat} {f : Nat → Int32} {sl : Nat} {v : Value} {ws : List Addr}
theorem ArF.lt (F : ArF Z h a k ty n f) : a < h.size := by obtain ⟨c, A, -⟩ := F; exact A.lt
theorem ArF.ext (F : ArF Z h a k ty n f) (E : Ext h h') : ArF Z h' a k ty n f := by obtain ⟨c, A, r⟩ := F; exact ⟨c, A.ext E, r⟩
theorem ArF.other (F : ArF Z h b k ty n f) (W : Wr h h' a sl v) (q : b ≠ a) : ArF Z h' b k ty n f := by obtain ⟨c, A, r⟩ := F; exact ⟨c, A.other W q, r⟩
theorem ArF.keep (F : ArF Z h a k ty n f) (K : Keep h h' ws) (q : a ∉ ws) : ArF Z h' a k ty n f := by obtain ⟨c, A, r⟩ := F; exact ⟨c, ⟨K.2.1 a c A.1 q, A.2⟩, r⟩
theorem ArF.big (F : ArF Z h a k ty n f) : n < 2 ^ 31 := by obtain ⟨c, -, -, -, q, -, -⟩ := F; exact q
theorem ArF.cong (F : ArF Z h a k ty n f) {g : Nat → Int32} (q : ∀ i, i < n → f i = g i) : ArF Z h a k ty n g := by
  obtain ⟨c, A, r1, r2, r3, r4, r5⟩ := F
  exact ⟨c, A, r1, r2, r3, fun i hi => by rw [← q i hi]; exact r4 i hi, fun i hi => by rw [← q i hi]; exact r5 i hi⟩
theorem ArF.at (F : ArF Z h a k ty n f) {j : Int32} {i : Nat} (hj : j.toNatClampNeg = i) (h0 : ¬ j < 0) (hi : i < n) : ∃ cl : Cell, Arr Z h a cl ty ∧ ¬ (j < 0 ∨ cl.slots.size ≤ j.toNatClampNeg) ∧ cl.slots[j.toNatClampNeg]? = some (.int (f i)) := by
  obtain ⟨c, A, -, r2, -, r4, -⟩ := F
  refine ⟨c, A, ?_, ?_⟩
  · rintro (q | q)
    · exact h0 q
    · omega
  · rw [hj]; exact r4 i hi
theorem ArF.len (F : ArF Z h a k ty n f) : ∃ cl : Cell, Arr Z h a cl ty ∧ cl.slots.size.toInt32 = n.toInt32 := by
  obtain ⟨c, A, -, r2, -, -, -⟩ := F
  exact ⟨c, A, by rw [r2]⟩
theorem ArF.set {i : Nat} {x : Int32} (F : ArF Z h a k ty n f) (W : Wr h h' a sl (.int x)) (hs : sl = i) (hi : i < n) (hf : fits ty (.int x) = true) : ArF Z h' a k ty n (upd f i x) := by
  subst hs
  obtain ⟨c, A, r1, r2, r3, r4, r5⟩ := F
  obtain ⟨c', e1, e2, e3, e4, -, e6, e7⟩ := wr_at W A.1
  have A' := A.same W
  obtain ⟨q1, q2, -⟩ := e7 rfl
  subst q1
  refine ⟨_, A', by rw [e2]; exact r1, by rw [e4]; exact r2, r3, fun j hj => ?_, fun j hj => ?_⟩
  · by_cases q : j = sl
    · subst q; simp only [upd, if_pos]; exact q2
    · rw [e6 j q]; simp only [upd, if_neg q]; exact r4 j hj
  · by_cases q : j = sl
    · subst q; simp only [upd, if_pos]; exact hf
    · simp only [upd, if_neg q]; exact r5 j hj
theorem ArF.new {z : Int32} (A : Arr Z h a (newA k ty z) ty) (q : ¬ z < 0) (hd : defaultValue ty = .int 0) : ArF Z h a k ty z.toNatClampNeg (fun _ => 0) :=
  ⟨_, A, rfl, sz_new _ _ _, (back32 q).2, fun i hi => by simp [newA, hi, hd], fun i hi => by cases ty <;> simp [defaultValue] at hd <;> rfl⟩
theorem own_arfL {z : Int32} {vs : List Value} {dv : Value} (F : Arv Z h a k ty z vs dv) (hn : z.toNatClampNeg = n) (hv : ∀ i, i < n → vs.getD i dv = .int (f i)) : ArF Z h a k ty n f := by
  obtain ⟨c, A, r1, r2, r3, H, G⟩ := F
  refine ⟨c, A, r1, by rw [r2, hn], hn ▸ (back32 r3).2, fun i hi => ?_, fun i hi => ?_⟩
  · rw [H i (by rw [r2, hn]; exact hi), hv i hi]
  · rw [← hv i hi]; exact G i (by rw [r2, hn]; exact hi)
theorem own_arf {z : Int32} {d : Int32} (cs : List Int32) (F : Arv Z h a k ty z (cs.map Value.int) (.int d)) (hn : z.toNatClampNeg = n) : ArF Z h a k ty n (fun i => cs.getD i d) :=
  own_arfL F hn fun i _ => by
    simp only [List.getD_eq_getElem?_getD, List.getElem?_map]
    cases cs[i]? <;> rfl
theorem own_arv (F : ArF Z h a k ty n f) : Arv Z h a k ty n.toInt32 ((List.range n).map fun i => Value.int (f i)) (.int 0) := by
  obtain ⟨c, A, r1, r2, r3, r4, r5⟩ := F
  have q := len_toInt r3
  have e : n.toInt32.toNatClampNeg = n := by show n.toInt32.toInt.toNat = n; rw [q]; rfl
  have g : ∀ i, i < n → ((List.range n).map fun i => Value.int (f i)).getD i (.int 0) = .int (f i) := fun i hi => by simp [hi]
  refine ⟨c, A, r1, by rw [r2, e], ?_, fun i hi => ?_, fun i hi => ?_⟩
  · rw [Int32.lt_iff_toInt_lt, q]
    have : (0 : Int32).toInt = 0 := rfl
    omega
  · rw [g i (by omega)]; exact r4 i (by omega)
  · rw [g i (by omega)]; exact r5 i (by omega)
theorem own_neF {C : String} {m : Nat} {a0 : Array Value} (E : Exa Z h a C) (F : ArF Z h b k ty n f) (w : (Jvm.Cond.instantiable C m).before a0 Z = true) : a ≠ b := by
  obtain ⟨c, A, -⟩ := F
  exact ne_arr E w A
theorem own_tn {j : Nat} (hj : j < 2 ^ 31) : j.toInt32.toNatClampNeg = j ∧ ¬ j.toInt32 < 0 ∧ j.toInt32.toInt = j := by
  have q := len_toInt hj
  refine ⟨?_, ?_, q⟩
  · show j.toInt32.toInt.toNat = j
    rw [q]; rfl
  · rw [Int32.lt_iff_toInt_lt, q]
    have : (0 : Int32).toInt = 0 := rfl
    omega
theorem own_lt {j n : Nat} (hj : j < 2 ^ 31) (hn : n < 2 ^ 31) : j.toInt32 < n.toInt32 ↔ j < n := by
  rw [Int32.lt_iff_toInt_lt, len_toInt hj, len_toInt hn]; omega
theorem own_succ (j : Nat) : j.toInt32 + (1 : Int32) = (j + 1).toInt32 := (Int32.ofNat_add j 1).symm
end OwnS
def EL1 : List (String × Nat) := [("java/lang/String", 7), ("java/lang/StringLatin1", 151)]
theorem own_wS {Z : State} {a0 : Array Value} (hw : ∀ d ∈ tables_1, d.before a0 Z = true) : ∀ a ∈ Bundle.stringAtoms, a.before a0 Z = true := by
  intro a ha
  simp only [Bundle.stringAtoms, List.mem_cons, List.not_mem_nil, or_false] at ha
  rcases ha with rfl | rfl | rfl | rfl | rfl | rfl | rfl
  · exact (hw _ (List.mem_of_getElem? (i := 6) rfl))
  · exact (hw _ (List.mem_of_getElem? (i := 5) rfl))
  · exact (hw _ (List.mem_of_getElem? (i := 26) rfl))
  · exact (hw _ (List.mem_of_getElem? (i := 36) rfl))
  · exact (hw _ (List.mem_of_getElem? (i := 34) rfl))
  · exact (hw _ (List.mem_of_getElem? (i := 41) rfl))
  · exact (hw _ (List.mem_of_getElem? (i := 42) rfl))
theorem own_EW {Z : State} {a0 : Array Value} (hw : ∀ d ∈ tables_1, d.before a0 Z = true) : EW Z a0 EL1 := (EW.cons (hw _ (List.mem_of_getElem? (i := 40) rfl)) (by decide) (EW.cons (hw _ (List.mem_of_getElem? (i := 146) rfl)) (by decide) EW.nil))
theorem own_b8 (x : Int32) : nar .byte x.toInt8.toInt32 = x.toInt8.toInt32 := by
  show x.toInt8.toInt32.toInt8.toInt32 = x.toInt8.toInt32
  rw [Int8.toInt8_toInt32]
theorem own_nz {n : Nat} (hn : n < 2 ^ 31) (hp : 0 < n) : ¬ (n.toInt32 = (0 : Int32)) := fun q => by
  have e := congrArg Int32.toInt q
  rw [len_toInt hn] at e
  have : (0 : Int32).toInt = 0 := rfl
  omega
theorem own_zero {n : Nat} (hn : n < 2 ^ 31) (q : n.toInt32 = (0 : Int32)) : n = 0 := by
  have e := congrArg Int32.toInt q
  rw [len_toInt hn] at e
  have : (0 : Int32).toInt = 0 := rfl
  omega
theorem own_inj {n m : Nat} (hn : n < 2 ^ 31) (hm : m < 2 ^ 31) (q : n.toInt32 = m.toInt32) : n = m := by
  have e := congrArg Int32.toInt q
  rw [len_toInt hn, len_toInt hm] at e
  omega
theorem own_same {Z : State} {h : Heap} {a1 a2 t1 t2 : Addr} {k1 k2 : ClassId} {ty : FieldType} {n1 n2 : Nat} {f1 f2 : Nat → Int32} {C n d : String} (q : a1 = a2) (F : Fld Z h a1 C n d (.ref t1)) (G : Fld Z h a2 C n d (.ref t2)) (A : ArF Z h t1 k1 ty n1 f1) (B : ArF Z h t2 k2 ty n2 f2) : n1 = n2 ∧ ∀ i, i < n1 → f1 i = f2 i := by
  subst q
  obtain ⟨c1, cf, kk, j, fd, g1, g2, -, -, -, -, g7⟩ := F
  obtain ⟨c2, cf', kk', j', fd', e1, e2, -, -, -, -, e7⟩ := G
  cases g1.symm.trans e1
  cases g2.symm.trans e2
  cases g7.symm.trans e7
  obtain ⟨c3, A1, -, r2, -, r4, -⟩ := A
  obtain ⟨c4, B1, -, s2, -, s4, -⟩ := B
  cases A1.1.symm.trans B1.1
  have hn : n1 = n2 := r2.symm.trans s2
  exact ⟨hn, fun i hi => Value.int.inj (Option.some.inj ((r4 i hi).symm.trans (s4 i (hn ▸ hi))))⟩
theorem own_shr0 (x : Int32) : (x >>> ((0 : Int32) &&& 31)) = x := by
  rw [show ((0 : Int32) &&& 31) = 0 from rfl]
  exact Int32.shiftRight_zero
theorem own_sub {b e : Nat} (hb : b < 2 ^ 31) (he : e < 2 ^ 31) (q : b ≤ e) : e.toInt32 - b.toInt32 = (e - b).toInt32 := by
  apply Int32.toInt_inj.mp
  have a := c_isub e.toInt32 b.toInt32
  have r := rng32 (e.toInt32 - b.toInt32)
  rw [len_toInt hb, len_toInt he] at a
  rw [len_toInt (show e - b < 2 ^ 31 by omega)]
  omega
theorem own_add {b m : Nat} (q : b + m < 2 ^ 31) : b.toInt32 + m.toInt32 = (b + m).toInt32 := (Int32.ofNat_add b m).symm
theorem own_min {a m : Nat} (ha : a < 2 ^ 31) (hm : m < 2 ^ 31) (q : m ≤ a) (h : ¬ m.toInt32 < a.toInt32) : m.toInt32 = a.toInt32 := by
  rw [show m = a from Nat.le_antisymm q (Nat.le_of_not_lt fun z => h ((own_lt hm ha).mpr z))]
theorem own_cp {b m n i : Nat} {f : Nat → Int32} (hi : i < m) (hb : b + m ≤ n) :
    ((((List.range m).map fun i => Value.int ((fun _ => (0 : Int32)) i)).take (0 : Int32).toNatClampNeg) ++ ((List.range m).map fun i => ((List.range n).map fun i => Value.int (f i)).getD (b + i) (.int 0)) ++ (((List.range m).map fun i => Value.int ((fun _ => (0 : Int32)) i)).drop ((0 : Int32).toNatClampNeg + m))).getD i (.int 0) = .int (f (b + i)) := by
  have z : (0 : Int32).toNatClampNeg = 0 := rfl
  rw [z, List.take_zero, List.nil_append, List.getD_eq_getElem?_getD, List.getElem?_append_left (by simpa using hi)]
  simp [hi, show b + i < n by omega]
theorem own_255 (x : Int32) : ¬ (255 : Int32) < (x &&& (255 : Int32)) := by
  have h := (c_and x (255 : Int32) (by decide)).2
  rw [Int32.lt_iff_toInt_lt]
  omega
theorem own_sp (x : Int32) (h : ¬ (x &&& (255 : Int32)) = (32 : Int32)) : ¬ (x &&& (255 : Int32)).toInt8.toInt32 = (32 : Int32) := fun q => h (by
  have a := c_and x (255 : Int32) (by decide)
  have b := c_i2b (x &&& (255 : Int32))
  rw [q] at b
  have e1 : (255 : Int32).toInt = 255 := by decide
  have e2 : (32 : Int32).toInt = 32 := by decide
  apply Int32.toInt_inj.mp
  omega)
theorem own_and3 (x : Int32) : (x &&& (3 : Int32)) = (0 : Int32) ∨ (x &&& (3 : Int32)) = (1 : Int32) ∨ (x &&& (3 : Int32)) = (2 : Int32) ∨ (x &&& (3 : Int32)) = (3 : Int32) := by
  have a := c_and x (3 : Int32) (by decide)
  have e : (3 : Int32).toInt = 3 := by decide
  have h : (x &&& (3 : Int32)).toInt = 0 ∨ (x &&& (3 : Int32)).toInt = 1 ∨ (x &&& (3 : Int32)).toInt = 2 ∨ (x &&& (3 : Int32)).toInt = 3 := by omega
  rcases h with h | h | h | h
  · exact Or.inl (Int32.toInt_inj.mp (h.trans (by decide)))
  · exact Or.inr (Or.inl (Int32.toInt_inj.mp (h.trans (by decide))))
  · exact Or.inr (Or.inr (Or.inl (Int32.toInt_inj.mp (h.trans (by decide)))))
  · exact Or.inr (Or.inr (Or.inr (Int32.toInt_inj.mp (h.trans (by decide)))))
theorem pn_7 : plainName "java/lang/StringUTF16" = true := by first | (simp [plainName, overriddenIn]; done) | decide +kernel
theorem d7_0 : decode jdk_52_method_21_code 0 = .ok (.iconst 0, 1) := by decide +kernel
theorem d7_1 : decode jdk_52_method_21_code 1 = .ok (.istore 5, 2) := by decide +kernel
theorem d7_3 : decode jdk_52_method_21_code 3 = .ok (.iload 5, 2) := by decide +kernel
theorem d7_5 : decode jdk_52_method_21_code 5 = .ok (.iload 4, 2) := by decide +kernel
theorem d7_7 : decode jdk_52_method_21_code 7 = .ok (.if_icmp .ge 37, 3) := by decide +kernel
theorem d7_44 : decode jdk_52_method_21_code 44 = .ok (.iload 4, 2) := by decide +kernel
theorem d7_46 : decode jdk_52_method_21_code 46 = .ok (.ireturn, 1) := by decide +kernel
theorem d7_10 : decode jdk_52_method_21_code 10 = .ok (.aload_n 0, 1) := by decide +kernel
theorem d7_11 : decode jdk_52_method_21_code 11 = .ok (.iload_n 1, 1) := by decide +kernel
theorem d7_12 : decode jdk_52_method_21_code 12 = .ok (.caload, 1) := by decide +kernel
theorem d7_13 : decode jdk_52_method_21_code 13 = .ok (.istore 6, 2) := by decide +kernel
theorem d7_15 : decode jdk_52_method_21_code 15 = .ok (.iload 6, 2) := by decide +kernel
theorem d7_17 : decode jdk_52_method_21_code 17 = .ok (.sipush 255, 3) := by decide +kernel
theorem d7_20 : decode jdk_52_method_21_code 20 = .ok (.if_icmp .le 6, 3) := by decide +kernel
theorem d7_23 : decode jdk_52_method_21_code 23 = .ok (.iload 5, 2) := by decide +kernel
theorem d7_25 : decode jdk_52_method_21_code 25 = .ok (.ireturn, 1) := by decide +kernel
theorem d7_26 : decode jdk_52_method_21_code 26 = .ok (.aload_n 2, 1) := by decide +kernel
theorem d7_27 : decode jdk_52_method_21_code 27 = .ok (.iload_n 3, 1) := by decide +kernel
theorem d7_28 : decode jdk_52_method_21_code 28 = .ok (.iload 6, 2) := by decide +kernel
theorem d7_30 : decode jdk_52_method_21_code 30 = .ok (.i2b, 1) := by decide +kernel
theorem d7_31 : decode jdk_52_method_21_code 31 = .ok (.bastore, 1) := by decide +kernel
theorem d7_32 : decode jdk_52_method_21_code 32 = .ok (.iinc 1 1, 3) := by decide +kernel
theorem d7_35 : decode jdk_52_method_21_code 35 = .ok (.iinc 3 1, 3) := by decide +kernel
theorem d7_38 : decode jdk_52_method_21_code 38 = .ok (.iinc 5 1, 3) := by decide +kernel
theorem d7_41 : decode jdk_52_method_21_code 41 = .ok (.goto (-38), 3) := by decide +kernel
theorem pn_6 : plainName "java/lang/StringUTF16" = true := by first | (simp [plainName, overriddenIn]; done) | decide +kernel
theorem d6_0 : decode jdk_52_method_16_code 0 = .ok (.iload_n 2, 1) := by decide +kernel
theorem d6_1 : decode jdk_52_method_16_code 1 = .ok (.newarray .byte, 2) := by decide +kernel
theorem d6_3 : decode jdk_52_method_16_code 3 = .ok (.astore_n 3, 1) := by decide +kernel
theorem d6_4 : decode jdk_52_method_16_code 4 = .ok (.aload_n 0, 1) := by decide +kernel
theorem d6_5 : decode jdk_52_method_16_code 5 = .ok (.iload_n 1, 1) := by decide +kernel
theorem d6_6 : decode jdk_52_method_16_code 6 = .ok (.aload_n 3, 1) := by decide +kernel
theorem d6_7 : decode jdk_52_method_16_code 7 = .ok (.iconst 0, 1) := by decide +kernel
theorem d6_8 : decode jdk_52_method_16_code 8 = .ok (.iload_n 2, 1) := by decide +kernel
theorem d6_9 : decode jdk_52_method_16_code 9 = .ok (.invokestatic 115, 3) := by decide +kernel
theorem pd___CI_BII_I : parseMethodDescriptor "([CI[BII)I" = some ⟨[(.array .char), .int, (.array .byte), .int, .int], some .int⟩ := by decide +kernel
theorem d6_12 : decode jdk_52_method_16_code 12 = .ok (.istore 4, 2) := by decide +kernel
theorem d6_14 : decode jdk_52_method_16_code 14 = .ok (.iload 4, 2) := by decide +kernel
theorem d6_16 : decode jdk_52_method_16_code 16 = .ok (.iload_n 2, 1) := by decide +kernel
theorem d6_17 : decode jdk_52_method_16_code 17 = .ok (.if_icmp .eq 40, 3) := by decide +kernel
theorem d6_57 : decode jdk_52_method_16_code 57 = .ok (.aload_n 3, 1) := by decide +kernel
theorem d6_58 : decode jdk_52_method_16_code 58 = .ok (.areturn, 1) := by decide +kernel
theorem pn_8 : plainName "java/lang/StringUTF16" = true := by first | (simp [plainName, overriddenIn]; done) | decide +kernel
theorem d8_0 : decode jdk_52_method_15_code 0 = .ok (.iload_n 1, 1) := by decide +kernel
theorem d8_1 : decode jdk_52_method_15_code 1 = .ok (.aload_n 0, 1) := by decide +kernel
theorem d8_2 : decode jdk_52_method_15_code 2 = .ok (.arraylength, 1) := by decide +kernel
theorem d8_3 : decode jdk_52_method_15_code 3 = .ok (.isub, 1) := by decide +kernel
theorem d8_4 : decode jdk_52_method_15_code 4 = .ok (.bipush 31, 2) := by decide +kernel
theorem d8_6 : decode jdk_52_method_15_code 6 = .ok (.iushr, 1) := by decide +kernel
theorem d8_7 : decode jdk_52_method_15_code 7 = .ok (.i2b, 1) := by decide +kernel
theorem d8_8 : decode jdk_52_method_15_code 8 = .ok (.ireturn, 1) := by decide +kernel
theorem pn_4 : plainName "java/lang/String" = true := by first | (simp [plainName, overriddenIn]; done) | decide +kernel
theorem d4_0 : decode jdk_42_method_149_code 0 = .ok (.aload_n 0, 1) := by decide +kernel
theorem d4_1 : decode jdk_42_method_149_code 1 = .ok (.invokespecial 1, 3) := by decide +kernel
theorem d4_4 : decode jdk_42_method_149_code 4 = .ok (.iload_n 3, 1) := by decide +kernel
theorem d4_5 : decode jdk_42_method_149_code 5 = .ok (.ifCond .ne 22, 3) := by decide +kernel
theorem d4_8 : decode jdk_42_method_149_code 8 = .ok (.aload_n 0, 1) := by decide +kernel
theorem d4_9 : decode jdk_42_method_149_code 9 = .ok (.ldc 7, 2) := by decide +kernel
theorem d4_11 : decode jdk_42_method_149_code 11 = .ok (.getfield 9, 3) := by decide +kernel
theorem d4_14 : decode jdk_42_method_149_code 14 = .ok (.putfield 9, 3) := by decide +kernel
theorem d4_17 : decode jdk_42_method_149_code 17 = .ok (.aload_n 0, 1) := by decide +kernel
theorem d4_18 : decode jdk_42_method_149_code 18 = .ok (.ldc 7, 2) := by decide +kernel
theorem d4_20 : decode jdk_42_method_149_code 20 = .ok (.getfield 15, 3) := by decide +kernel
theorem d4_23 : decode jdk_42_method_149_code 23 = .ok (.putfield 15, 3) := by decide +kernel
theorem d4_26 : decode jdk_42_method_149_code 26 = .ok (.return_, 1) := by decide +kernel
theorem d4_27 : decode jdk_42_method_149_code 27 = .ok (.getstatic 38, 3) := by decide +kernel
theorem d4_30 : decode jdk_42_method_149_code 30 = .ok (.ifCond .eq 28, 3) := by decide +kernel
theorem d4_33 : decode jdk_42_method_149_code 33 = .ok (.aload_n 1, 1) := by decide +kernel
theorem d4_34 : decode jdk_42_method_149_code 34 = .ok (.iload_n 2, 1) := by decide +kernel
theorem d4_35 : decode jdk_42_method_149_code 35 = .ok (.iload_n 3, 1) := by decide +kernel
theorem d4_36 : decode jdk_42_method_149_code 36 = .ok (.invokestatic 177, 3) := by decide +kernel
theorem pd___CII__B : parseMethodDescriptor "([CII)[B" = some ⟨[(.array .char), .int, .int], some (.array .byte)⟩ := by decide +kernel
theorem d4_39 : decode jdk_42_method_149_code 39 = .ok (.astore 5, 2) := by decide +kernel
theorem d4_41 : decode jdk_42_method_149_code 41 = .ok (.aload_n 0, 1) := by decide +kernel
theorem d4_42 : decode jdk_42_method_149_code 42 = .ok (.aload 5, 2) := by decide +kernel
theorem d4_44 : decode jdk_42_method_149_code 44 = .ok (.iload_n 3, 1) := by decide +kernel
theorem d4_45 : decode jdk_42_method_149_code 45 = .ok (.invokestatic 47, 3) := by decide +kernel
theorem pd___BI_B : parseMethodDescriptor "([BI)B" = some ⟨[(.array .byte), .int], some .byte⟩ := by decide +kernel
theorem d4_48 : decode jdk_42_method_149_code 48 = .ok (.putfield 15, 3) := by decide +kernel
theorem d4_51 : decode jdk_42_method_149_code 51 = .ok (.aload_n 0, 1) := by decide +kernel
theorem d4_52 : decode jdk_42_method_149_code 52 = .ok (.aload 5, 2) := by decide +kernel
theorem d4_54 : decode jdk_42_method_149_code 54 = .ok (.putfield 9, 3) := by decide +kernel
theorem d4_57 : decode jdk_42_method_149_code 57 = .ok (.return_, 1) := by decide +kernel
theorem pn_3 : plainName "java/lang/String" = true := by first | (simp [plainName, overriddenIn]; done) | decide +kernel
theorem d3_0 : decode jdk_42_method_3_code 0 = .ok (.aload_n 0, 1) := by decide +kernel
theorem d3_1 : decode jdk_42_method_3_code 1 = .ok (.aload_n 1, 1) := by decide +kernel
theorem d3_2 : decode jdk_42_method_3_code 2 = .ok (.iconst 0, 1) := by decide +kernel
theorem d3_3 : decode jdk_42_method_3_code 3 = .ok (.aload_n 1, 1) := by decide +kernel
theorem d3_4 : decode jdk_42_method_3_code 4 = .ok (.arraylength, 1) := by decide +kernel
theorem d3_5 : decode jdk_42_method_3_code 5 = .ok (.aconst_null, 1) := by decide +kernel
theorem d3_6 : decode jdk_42_method_3_code 6 = .ok (.invokespecial 27, 3) := by decide +kernel
theorem pd___CIILjava_lang_Void__V : parseMethodDescriptor "([CIILjava/lang/Void;)V" = some ⟨[(.array .char), .int, .int, (.object "java/lang/Void")], none⟩ := by decide +kernel
theorem d3_9 : decode jdk_42_method_3_code 9 = .ok (.return_, 1) := by decide +kernel
theorem pn_31 : plainName "java/lang/StringLatin1" = true := by first | (simp [plainName, overriddenIn]; done) | decide +kernel
theorem d31_0 : decode jdk_43_method_13_code 0 = .ok (.aload_n 0, 1) := by decide +kernel
theorem d31_1 : decode jdk_43_method_13_code 1 = .ok (.arraylength, 1) := by decide +kernel
theorem d31_2 : decode jdk_43_method_13_code 2 = .ok (.aload_n 1, 1) := by decide +kernel
theorem d31_3 : decode jdk_43_method_13_code 3 = .ok (.arraylength, 1) := by decide +kernel
theorem d31_4 : decode jdk_43_method_13_code 4 = .ok (.if_icmp .ne 30, 3) := by decide +kernel
theorem d31_7 : decode jdk_43_method_13_code 7 = .ok (.iconst 0, 1) := by decide +kernel
theorem d31_8 : decode jdk_43_method_13_code 8 = .ok (.istore_n 2, 1) := by decide +kernel
theorem d31_9 : decode jdk_43_method_13_code 9 = .ok (.iload_n 2, 1) := by decide +kernel
theorem d31_10 : decode jdk_43_method_13_code 10 = .ok (.aload_n 0, 1) := by decide +kernel
theorem d31_11 : decode jdk_43_method_13_code 11 = .ok (.arraylength, 1) := by decide +kernel
theorem d31_12 : decode jdk_43_method_13_code 12 = .ok (.if_icmp .ge 20, 3) := by decide +kernel
theorem d31_32 : decode jdk_43_method_13_code 32 = .ok (.iconst 1, 1) := by decide +kernel
theorem d31_33 : decode jdk_43_method_13_code 33 = .ok (.ireturn, 1) := by decide +kernel
theorem d31_15 : decode jdk_43_method_13_code 15 = .ok (.aload_n 0, 1) := by decide +kernel
theorem d31_16 : decode jdk_43_method_13_code 16 = .ok (.iload_n 2, 1) := by decide +kernel
theorem d31_17 : decode jdk_43_method_13_code 17 = .ok (.baload, 1) := by decide +kernel
theorem d31_18 : decode jdk_43_method_13_code 18 = .ok (.aload_n 1, 1) := by decide +kernel
theorem d31_19 : decode jdk_43_method_13_code 19 = .ok (.iload_n 2, 1) := by decide +kernel
theorem d31_20 : decode jdk_43_method_13_code 20 = .ok (.baload, 1) := by decide +kernel
theorem d31_21 : decode jdk_43_method_13_code 21 = .ok (.if_icmp .eq 5, 3) := by decide +kernel
theorem d31_26 : decode jdk_43_method_13_code 26 = .ok (.iinc 2 1, 3) := by decide +kernel
theorem d31_29 : decode jdk_43_method_13_code 29 = .ok (.goto (-20), 3) := by decide +kernel
theorem d31_24 : decode jdk_43_method_13_code 24 = .ok (.iconst 0, 1) := by decide +kernel
theorem d31_25 : decode jdk_43_method_13_code 25 = .ok (.ireturn, 1) := by decide +kernel
theorem d31_34 : decode jdk_43_method_13_code 34 = .ok (.iconst 0, 1) := by decide +kernel
theorem d31_35 : decode jdk_43_method_13_code 35 = .ok (.ireturn, 1) := by decide +kernel
theorem pn_30 : plainName "java/lang/String" = true := by first | (simp [plainName, overriddenIn]; done) | decide +kernel
theorem d30_0 : decode jdk_42_method_66_code 0 = .ok (.aload_n 0, 1) := by decide +kernel
theorem d30_1 : decode jdk_42_method_66_code 1 = .ok (.aload_n 1, 1) := by decide +kernel
theorem d30_2 : decode jdk_42_method_66_code 2 = .ok (.if_acmp .ne 5, 3) := by decide +kernel
theorem d30_5 : decode jdk_42_method_66_code 5 = .ok (.iconst 1, 1) := by decide +kernel
theorem d30_6 : decode jdk_42_method_66_code 6 = .ok (.ireturn, 1) := by decide +kernel
theorem d30_7 : decode jdk_42_method_66_code 7 = .ok (.aload_n 1, 1) := by decide +kernel
theorem d30_8 : decode jdk_42_method_66_code 8 = .ok (.instanceof 10, 3) := by decide +kernel
theorem d30_11 : decode jdk_42_method_66_code 11 = .ok (.ifCond .eq 43, 3) := by decide +kernel
theorem d30_14 : decode jdk_42_method_66_code 14 = .ok (.aload_n 1, 1) := by decide +kernel
theorem d30_15 : decode jdk_42_method_66_code 15 = .ok (.checkcast 10, 3) := by decide +kernel
theorem d30_18 : decode jdk_42_method_66_code 18 = .ok (.astore_n 2, 1) := by decide +kernel
theorem d30_19 : decode jdk_42_method_66_code 19 = .ok (.getstatic 38, 3) := by decide +kernel
theorem d30_22 : decode jdk_42_method_66_code 22 = .ok (.ifCond .eq 14, 3) := by decide +kernel
theorem d30_25 : decode jdk_42_method_66_code 25 = .ok (.aload_n 0, 1) := by decide +kernel
theorem d30_26 : decode jdk_42_method_66_code 26 = .ok (.getfield 15, 3) := by decide +kernel
theorem d30_29 : decode jdk_42_method_66_code 29 = .ok (.aload_n 2, 1) := by decide +kernel
theorem d30_30 : decode jdk_42_method_66_code 30 = .ok (.getfield 15, 3) := by decide +kernel
theorem d30_33 : decode jdk_42_method_66_code 33 = .ok (.if_icmp .ne 21, 3) := by decide +kernel
theorem d30_36 : decode jdk_42_method_66_code 36 = .ok (.aload_n 0, 1) := by decide +kernel
theorem d30_37 : decode jdk_42_method_66_code 37 = .ok (.getfield 9, 3) := by decide +kernel
theorem d30_40 : decode jdk_42_method_66_code 40 = .ok (.aload_n 2, 1) := by decide +kernel
theorem d30_41 : decode jdk_42_method_66_code 41 = .ok (.getfield 9, 3) := by decide +kernel
theorem d30_44 : decode jdk_42_method_66_code 44 = .ok (.invokestatic 541, 3) := by decide +kernel
theorem pd___B_B_Z : parseMethodDescriptor "([B[B)Z" = some ⟨[(.array .byte), (.array .byte)], some .boolean⟩ := by decide +kernel
theorem d30_47 : decode jdk_42_method_66_code 47 = .ok (.ifCond .eq 7, 3) := by decide +kernel
theorem d30_54 : decode jdk_42_method_66_code 54 = .ok (.iconst 0, 1) := by decide +kernel
theorem d30_55 : decode jdk_42_method_66_code 55 = .ok (.ireturn, 1) := by decide +kernel
theorem d30_50 : decode jdk_42_method_66_code 50 = .ok (.iconst 1, 1) := by decide +kernel
theorem d30_51 : decode jdk_42_method_66_code 51 = .ok (.goto 4, 3) := by decide +kernel
theorem d24_0 : decode jdk_29_method_69_code 0 = .ok (.iload_n 0, 1) := by decide +kernel
theorem d24_1 : decode jdk_29_method_69_code 1 = .ok (.iload_n 1, 1) := by decide +kernel
theorem d24_2 : decode jdk_29_method_69_code 2 = .ok (.if_icmp .gt 7, 3) := by decide +kernel
theorem d24_9 : decode jdk_29_method_69_code 9 = .ok (.iload_n 1, 1) := by decide +kernel
theorem d24_10 : decode jdk_29_method_69_code 10 = .ok (.ireturn, 1) := by decide +kernel
theorem d24_5 : decode jdk_29_method_69_code 5 = .ok (.iload_n 0, 1) := by decide +kernel
theorem d24_6 : decode jdk_29_method_69_code 6 = .ok (.goto 4, 3) := by decide +kernel
theorem d23_0 : decode jdk_29_method_65_code 0 = .ok (.iload_n 0, 1) := by decide +kernel
theorem d23_1 : decode jdk_29_method_65_code 1 = .ok (.iload_n 1, 1) := by decide +kernel
theorem d23_2 : decode jdk_29_method_65_code 2 = .ok (.if_icmp .lt 7, 3) := by decide +kernel
theorem d23_9 : decode jdk_29_method_65_code 9 = .ok (.iload_n 1, 1) := by decide +kernel
theorem d23_10 : decode jdk_29_method_65_code 10 = .ok (.ireturn, 1) := by decide +kernel
theorem d23_5 : decode jdk_29_method_65_code 5 = .ok (.iload_n 0, 1) := by decide +kernel
theorem d23_6 : decode jdk_29_method_65_code 6 = .ok (.goto 4, 3) := by decide +kernel
theorem pn_20 : plainName "java/lang/String" = true := by first | (simp [plainName, overriddenIn]; done) | decide +kernel
theorem d20_0 : decode jdk_42_method_152_code 0 = .ok (.getstatic 38, 3) := by decide +kernel
theorem d20_3 : decode jdk_42_method_152_code 3 = .ok (.ifCond .eq 10, 3) := by decide +kernel
theorem d20_6 : decode jdk_42_method_152_code 6 = .ok (.aload_n 0, 1) := by decide +kernel
theorem d20_7 : decode jdk_42_method_152_code 7 = .ok (.getfield 15, 3) := by decide +kernel
theorem d20_10 : decode jdk_42_method_152_code 10 = .ok (.goto 4, 3) := by decide +kernel
theorem d20_14 : decode jdk_42_method_152_code 14 = .ok (.ireturn, 1) := by decide +kernel
theorem pn_19 : plainName "java/lang/String" = true := by first | (simp [plainName, overriddenIn]; done) | decide +kernel
theorem d19_0 : decode jdk_42_method_54_code 0 = .ok (.aload_n 0, 1) := by decide +kernel
theorem d19_1 : decode jdk_42_method_54_code 1 = .ok (.getfield 9, 3) := by decide +kernel
theorem d19_4 : decode jdk_42_method_54_code 4 = .ok (.arraylength, 1) := by decide +kernel
theorem d19_5 : decode jdk_42_method_54_code 5 = .ok (.aload_n 0, 1) := by decide +kernel
theorem d19_6 : decode jdk_42_method_54_code 6 = .ok (.invokevirtual 335, 3) := by decide +kernel
theorem pd___B : parseMethodDescriptor "()B" = some ⟨[], some .byte⟩ := by decide +kernel
theorem d19_9 : decode jdk_42_method_54_code 9 = .ok (.ishr, 1) := by decide +kernel
theorem d19_10 : decode jdk_42_method_54_code 10 = .ok (.ireturn, 1) := by decide +kernel
theorem pn_18 : plainName "java/lang/String" = true := by first | (simp [plainName, overriddenIn]; done) | decide +kernel
theorem d18_0 : decode jdk_42_method_154_code 0 = .ok (.getstatic 38, 3) := by decide +kernel
theorem d18_3 : decode jdk_42_method_154_code 3 = .ok (.ifCond .eq 14, 3) := by decide +kernel
theorem d18_6 : decode jdk_42_method_154_code 6 = .ok (.aload_n 0, 1) := by decide +kernel
theorem d18_7 : decode jdk_42_method_154_code 7 = .ok (.getfield 15, 3) := by decide +kernel
theorem d18_10 : decode jdk_42_method_154_code 10 = .ok (.ifCond .ne 7, 3) := by decide +kernel
theorem d18_13 : decode jdk_42_method_154_code 13 = .ok (.iconst 1, 1) := by decide +kernel
theorem d18_14 : decode jdk_42_method_154_code 14 = .ok (.goto 4, 3) := by decide +kernel
theorem d18_18 : decode jdk_42_method_154_code 18 = .ok (.ireturn, 1) := by decide +kernel
theorem pn_22 : plainName "java/lang/StringLatin1" = true := by first | (simp [plainName, overriddenIn]; done) | decide +kernel
theorem d22_0 : decode jdk_43_method_4_code 0 = .ok (.iload_n 0, 1) := by decide +kernel
theorem d22_1 : decode jdk_43_method_4_code 1 = .ok (.ifCond .lt 14, 3) := by decide +kernel
theorem d22_4 : decode jdk_43_method_4_code 4 = .ok (.iload_n 0, 1) := by decide +kernel
theorem d22_5 : decode jdk_43_method_4_code 5 = .ok (.sipush 255, 3) := by decide +kernel
theorem d22_8 : decode jdk_43_method_4_code 8 = .ok (.if_icmp .gt 7, 3) := by decide +kernel
theorem d22_11 : decode jdk_43_method_4_code 11 = .ok (.iconst 1, 1) := by decide +kernel
theorem d22_12 : decode jdk_43_method_4_code 12 = .ok (.goto 4, 3) := by decide +kernel
theorem d22_16 : decode jdk_43_method_4_code 16 = .ok (.ireturn, 1) := by decide +kernel
theorem pn_25 : plainName "java/lang/StringLatin1" = true := by first | (simp [plainName, overriddenIn]; done) | decide +kernel
theorem d25_0 : decode jdk_43_method_23_code 0 = .ok (.iload_n 1, 1) := by decide +kernel
theorem d25_1 : decode jdk_43_method_23_code 1 = .ok (.i2b, 1) := by decide +kernel
theorem d25_2 : decode jdk_43_method_23_code 2 = .ok (.istore 4, 2) := by decide +kernel
theorem d25_4 : decode jdk_43_method_23_code 4 = .ok (.iload_n 2, 1) := by decide +kernel
theorem d25_5 : decode jdk_43_method_23_code 5 = .ok (.istore 5, 2) := by decide +kernel
theorem d25_7 : decode jdk_43_method_23_code 7 = .ok (.iload 5, 2) := by decide +kernel
theorem d25_9 : decode jdk_43_method_23_code 9 = .ok (.iload_n 3, 1) := by decide +kernel
theorem d25_10 : decode jdk_43_method_23_code 10 = .ok (.if_icmp .ge 21, 3) := by decide +kernel
theorem d25_13 : decode jdk_43_method_23_code 13 = .ok (.aload_n 0, 1) := by decide +kernel
theorem d25_14 : decode jdk_43_method_23_code 14 = .ok (.iload 5, 2) := by decide +kernel
theorem d25_16 : decode jdk_43_method_23_code 16 = .ok (.baload, 1) := by decide +kernel
theorem d25_17 : decode jdk_43_method_23_code 17 = .ok (.iload 4, 2) := by decide +kernel
theorem d25_19 : decode jdk_43_method_23_code 19 = .ok (.if_icmp .ne 6, 3) := by decide +kernel
theorem d25_22 : decode jdk_43_method_23_code 22 = .ok (.iload 5, 2) := by decide +kernel
theorem d25_24 : decode jdk_43_method_23_code 24 = .ok (.ireturn, 1) := by decide +kernel
theorem d25_25 : decode jdk_43_method_23_code 25 = .ok (.iinc 5 1, 3) := by decide +kernel
theorem d25_28 : decode jdk_43_method_23_code 28 = .ok (.goto (-21), 3) := by decide +kernel
theorem pn_21 : plainName "java/lang/StringLatin1" = true := by first | (simp [plainName, overriddenIn]; done) | decide +kernel
theorem d21_0 : decode jdk_43_method_22_code 0 = .ok (.iload_n 1, 1) := by decide +kernel
theorem d21_1 : decode jdk_43_method_22_code 1 = .ok (.invokestatic 88, 3) := by decide +kernel
theorem pd__I_Z : parseMethodDescriptor "(I)Z" = some ⟨[.int], some .boolean⟩ := by decide +kernel
theorem d21_4 : decode jdk_43_method_22_code 4 = .ok (.ifCond .ne 5, 3) := by decide +kernel
theorem d21_9 : decode jdk_43_method_22_code 9 = .ok (.iload_n 2, 1) := by decide +kernel
theorem d21_10 : decode jdk_43_method_22_code 10 = .ok (.iconst 0, 1) := by decide +kernel
theorem d21_11 : decode jdk_43_method_22_code 11 = .ok (.invokestatic 92, 3) := by decide +kernel
theorem pd__II_I : parseMethodDescriptor "(II)I" = some ⟨[.int, .int], some .int⟩ := by decide +kernel
theorem d21_14 : decode jdk_43_method_22_code 14 = .ok (.istore_n 2, 1) := by decide +kernel
theorem d21_15 : decode jdk_43_method_22_code 15 = .ok (.iload_n 3, 1) := by decide +kernel
theorem d21_16 : decode jdk_43_method_22_code 16 = .ok (.aload_n 0, 1) := by decide +kernel
theorem d21_17 : decode jdk_43_method_22_code 17 = .ok (.arraylength, 1) := by decide +kernel
theorem d21_18 : decode jdk_43_method_22_code 18 = .ok (.invokestatic 38, 3) := by decide +kernel
theorem d21_21 : decode jdk_43_method_22_code 21 = .ok (.istore_n 3, 1) := by decide +kernel
theorem d21_22 : decode jdk_43_method_22_code 22 = .ok (.iload_n 2, 1) := by decide +kernel
theorem d21_23 : decode jdk_43_method_22_code 23 = .ok (.iload_n 3, 1) := by decide +kernel
theorem d21_24 : decode jdk_43_method_22_code 24 = .ok (.if_icmp .lt 5, 3) := by decide +kernel
theorem d21_29 : decode jdk_43_method_22_code 29 = .ok (.aload_n 0, 1) := by decide +kernel
theorem d21_30 : decode jdk_43_method_22_code 30 = .ok (.iload_n 1, 1) := by decide +kernel
theorem d21_31 : decode jdk_43_method_22_code 31 = .ok (.iload_n 2, 1) := by decide +kernel
theorem d21_32 : decode jdk_43_method_22_code 32 = .ok (.iload_n 3, 1) := by decide +kernel
theorem d21_33 : decode jdk_43_method_22_code 33 = .ok (.invokestatic 95, 3) := by decide +kernel
theorem pd___BIII_I : parseMethodDescriptor "([BIII)I" = some ⟨[(.array .byte), .int, .int, .int], some .int⟩ := by decide +kernel
theorem d21_36 : decode jdk_43_method_22_code 36 = .ok (.ireturn, 1) := by decide +kernel
theorem pn_17 : plainName "java/lang/String" = true := by first | (simp [plainName, overriddenIn]; done) | decide +kernel
theorem d17_0 : decode jdk_42_method_80_code 0 = .ok (.aload_n 0, 1) := by decide +kernel
theorem d17_1 : decode jdk_42_method_80_code 1 = .ok (.invokevirtual 492, 3) := by decide +kernel
theorem pd___Z : parseMethodDescriptor "()Z" = some ⟨[], some .boolean⟩ := by decide +kernel
theorem d17_4 : decode jdk_42_method_80_code 4 = .ok (.ifCond .eq 19, 3) := by decide +kernel
theorem d17_7 : decode jdk_42_method_80_code 7 = .ok (.aload_n 0, 1) := by decide +kernel
theorem d17_8 : decode jdk_42_method_80_code 8 = .ok (.getfield 9, 3) := by decide +kernel
theorem d17_11 : decode jdk_42_method_80_code 11 = .ok (.iload_n 1, 1) := by decide +kernel
theorem d17_12 : decode jdk_42_method_80_code 12 = .ok (.iload_n 2, 1) := by decide +kernel
theorem d17_13 : decode jdk_42_method_80_code 13 = .ok (.aload_n 0, 1) := by decide +kernel
theorem d17_14 : decode jdk_42_method_80_code 14 = .ok (.invokevirtual 505, 3) := by decide +kernel
theorem pd___I : parseMethodDescriptor "()I" = some ⟨[], some .int⟩ := by decide +kernel
theorem d17_17 : decode jdk_42_method_80_code 17 = .ok (.invokestatic 637, 3) := by decide +kernel
theorem d17_20 : decode jdk_42_method_80_code 20 = .ok (.goto 16, 3) := by decide +kernel
theorem d17_36 : decode jdk_42_method_80_code 36 = .ok (.ireturn, 1) := by decide +kernel
theorem pn_16 : plainName "java/lang/String" = true := by first | (simp [plainName, overriddenIn]; done) | decide +kernel
theorem d16_0 : decode jdk_42_method_79_code 0 = .ok (.aload_n 0, 1) := by decide +kernel
theorem d16_1 : decode jdk_42_method_79_code 1 = .ok (.iload_n 1, 1) := by decide +kernel
theorem d16_2 : decode jdk_42_method_79_code 2 = .ok (.iconst 0, 1) := by decide +kernel
theorem d16_3 : decode jdk_42_method_79_code 3 = .ok (.invokevirtual 633, 3) := by decide +kernel
theorem d16_6 : decode jdk_42_method_79_code 6 = .ok (.ireturn, 1) := by decide +kernel
theorem pn_28 : plainName "jdk/internal/util/Preconditions" = true := by first | (simp [plainName, overriddenIn]; done) | decide +kernel
theorem d28_0 : decode jdk_41_method_12_code 0 = .ok (.iload_n 0, 1) := by decide +kernel
theorem d28_1 : decode jdk_41_method_12_code 1 = .ok (.ifCond .lt 13, 3) := by decide +kernel
theorem d28_4 : decode jdk_41_method_12_code 4 = .ok (.iload_n 0, 1) := by decide +kernel
theorem d28_5 : decode jdk_41_method_12_code 5 = .ok (.iload_n 1, 1) := by decide +kernel
theorem d28_6 : decode jdk_41_method_12_code 6 = .ok (.if_icmp .gt 8, 3) := by decide +kernel
theorem d28_9 : decode jdk_41_method_12_code 9 = .ok (.iload_n 1, 1) := by decide +kernel
theorem d28_10 : decode jdk_41_method_12_code 10 = .ok (.iload_n 2, 1) := by decide +kernel
theorem d28_11 : decode jdk_41_method_12_code 11 = .ok (.if_icmp .le 11, 3) := by decide +kernel
theorem d28_22 : decode jdk_41_method_12_code 22 = .ok (.iload_n 0, 1) := by decide +kernel
theorem d28_23 : decode jdk_41_method_12_code 23 = .ok (.ireturn, 1) := by decide +kernel
theorem pn_27 : plainName "java/lang/String" = true := by first | (simp [plainName, overriddenIn]; done) | decide +kernel
theorem d27_0 : decode jdk_42_method_158_code 0 = .ok (.iload_n 0, 1) := by decide +kernel
theorem d27_1 : decode jdk_42_method_158_code 1 = .ok (.iload_n 1, 1) := by decide +kernel
theorem d27_2 : decode jdk_42_method_158_code 2 = .ok (.iload_n 2, 1) := by decide +kernel
theorem d27_3 : decode jdk_42_method_158_code 3 = .ok (.getstatic 1053, 3) := by decide +kernel
theorem d27_6 : decode jdk_42_method_158_code 6 = .ok (.invokestatic 1062, 3) := by decide +kernel
theorem pd__IIILjava_util_function_BiFunction__I : parseMethodDescriptor "(IIILjava/util/function/BiFunction;)I" = some ⟨[.int, .int, .int, (.object "java/util/function/BiFunction")], some .int⟩ := by decide +kernel
theorem d27_9 : decode jdk_42_method_158_code 9 = .ok (.pop, 1) := by decide +kernel
theorem d27_10 : decode jdk_42_method_158_code 10 = .ok (.return_, 1) := by decide +kernel
theorem pn_34 : plainName "java/util/Arrays" = true := by first | (simp [plainName, overriddenIn]; done) | decide +kernel
theorem d34_0 : decode jdk_65_method_131_code 0 = .ok (.iload_n 1, 1) := by decide +kernel
theorem d34_1 : decode jdk_65_method_131_code 1 = .ok (.iload_n 0, 1) := by decide +kernel
theorem d34_2 : decode jdk_65_method_131_code 2 = .ok (.if_icmp .ge 35, 3) := by decide +kernel
theorem d34_37 : decode jdk_65_method_131_code 37 = .ok (.return_, 1) := by decide +kernel
theorem pn_33 : plainName "java/util/Arrays" = true := by first | (simp [plainName, overriddenIn]; done) | decide +kernel
theorem d33_0 : decode jdk_65_method_133_code 0 = .ok (.iload_n 1, 1) := by decide +kernel
theorem d33_1 : decode jdk_65_method_133_code 1 = .ok (.iload_n 2, 1) := by decide +kernel
theorem d33_2 : decode jdk_65_method_133_code 2 = .ok (.invokestatic 343, 3) := by decide +kernel
theorem pd__II_V : parseMethodDescriptor "(II)V" = some ⟨[.int, .int], none⟩ := by decide +kernel
theorem d33_5 : decode jdk_65_method_133_code 5 = .ok (.iload_n 2, 1) := by decide +kernel
theorem d33_6 : decode jdk_65_method_133_code 6 = .ok (.iload_n 1, 1) := by decide +kernel
theorem d33_7 : decode jdk_65_method_133_code 7 = .ok (.isub, 1) := by decide +kernel
theorem d33_8 : decode jdk_65_method_133_code 8 = .ok (.istore_n 3, 1) := by decide +kernel
theorem d33_9 : decode jdk_65_method_133_code 9 = .ok (.iload_n 3, 1) := by decide +kernel
theorem d33_10 : decode jdk_65_method_133_code 10 = .ok (.newarray .byte, 2) := by decide +kernel
theorem d33_12 : decode jdk_65_method_133_code 12 = .ok (.astore 4, 2) := by decide +kernel
theorem d33_14 : decode jdk_65_method_133_code 14 = .ok (.aload_n 0, 1) := by decide +kernel
theorem d33_15 : decode jdk_65_method_133_code 15 = .ok (.iload_n 1, 1) := by decide +kernel
theorem d33_16 : decode jdk_65_method_133_code 16 = .ok (.aload 4, 2) := by decide +kernel
theorem d33_18 : decode jdk_65_method_133_code 18 = .ok (.iconst 0, 1) := by decide +kernel
theorem d33_19 : decode jdk_65_method_133_code 19 = .ok (.aload_n 0, 1) := by decide +kernel
theorem d33_20 : decode jdk_65_method_133_code 20 = .ok (.arraylength, 1) := by decide +kernel
theorem d33_21 : decode jdk_65_method_133_code 21 = .ok (.iload_n 1, 1) := by decide +kernel
theorem d33_22 : decode jdk_65_method_133_code 22 = .ok (.isub, 1) := by decide +kernel
theorem d33_23 : decode jdk_65_method_133_code 23 = .ok (.iload_n 3, 1) := by decide +kernel
theorem d33_24 : decode jdk_65_method_133_code 24 = .ok (.invokestatic 304, 3) := by decide +kernel
theorem d33_27 : decode jdk_65_method_133_code 27 = .ok (.invokestatic 150, 3) := by decide +kernel
theorem d33_30 : decode jdk_65_method_133_code 30 = .ok (.aload 4, 2) := by decide +kernel
theorem d33_32 : decode jdk_65_method_133_code 32 = .ok (.areturn, 1) := by decide +kernel
theorem pn_32 : plainName "java/util/Arrays" = true := by first | (simp [plainName, overriddenIn]; done) | decide +kernel
theorem d32_0 : decode jdk_65_method_132_code 0 = .ok (.iload_n 1, 1) := by decide +kernel
theorem d32_1 : decode jdk_65_method_132_code 1 = .ok (.ifCond .ne 9, 3) := by decide +kernel
theorem d32_4 : decode jdk_65_method_132_code 4 = .ok (.iload_n 2, 1) := by decide +kernel
theorem d32_5 : decode jdk_65_method_132_code 5 = .ok (.aload_n 0, 1) := by decide +kernel
theorem d32_6 : decode jdk_65_method_132_code 6 = .ok (.arraylength, 1) := by decide +kernel
theorem d32_7 : decode jdk_65_method_132_code 7 = .ok (.if_icmp .eq 10, 3) := by decide +kernel
theorem d32_10 : decode jdk_65_method_132_code 10 = .ok (.aload_n 0, 1) := by decide +kernel
theorem d32_11 : decode jdk_65_method_132_code 11 = .ok (.iload_n 1, 1) := by decide +kernel
theorem d32_12 : decode jdk_65_method_132_code 12 = .ok (.iload_n 2, 1) := by decide +kernel
theorem d32_13 : decode jdk_65_method_132_code 13 = .ok (.invokestatic 339, 3) := by decide +kernel
theorem pd___BII__B : parseMethodDescriptor "([BII)[B" = some ⟨[(.array .byte), .int, .int], some (.array .byte)⟩ := by decide +kernel
theorem d32_16 : decode jdk_65_method_132_code 16 = .ok (.areturn, 1) := by decide +kernel
theorem pn_35 : plainName "java/lang/String" = true := by first | (simp [plainName, overriddenIn]; done) | decide +kernel
theorem d35_0 : decode jdk_42_method_151_code 0 = .ok (.aload_n 0, 1) := by decide +kernel
theorem d35_1 : decode jdk_42_method_151_code 1 = .ok (.invokespecial 1, 3) := by decide +kernel
theorem d35_4 : decode jdk_42_method_151_code 4 = .ok (.aload_n 0, 1) := by decide +kernel
theorem d35_5 : decode jdk_42_method_151_code 5 = .ok (.aload_n 1, 1) := by decide +kernel
theorem d35_6 : decode jdk_42_method_151_code 6 = .ok (.putfield 9, 3) := by decide +kernel
theorem d35_9 : decode jdk_42_method_151_code 9 = .ok (.aload_n 0, 1) := by decide +kernel
theorem d35_10 : decode jdk_42_method_151_code 10 = .ok (.iload_n 2, 1) := by decide +kernel
theorem d35_11 : decode jdk_42_method_151_code 11 = .ok (.putfield 15, 3) := by decide +kernel
theorem d35_14 : decode jdk_42_method_151_code 14 = .ok (.return_, 1) := by decide +kernel
theorem pn_29 : plainName "java/lang/StringLatin1" = true := by first | (simp [plainName, overriddenIn]; done) | decide +kernel
theorem d29_0 : decode jdk_43_method_47_code 0 = .ok (.iload_n 2, 1) := by decide +kernel
theorem d29_1 : decode jdk_43_method_47_code 1 = .ok (.ifCond .ne 6, 3) := by decide +kernel
theorem d29_4 : decode jdk_43_method_47_code 4 = .ok (.ldc 151, 2) := by decide +kernel
theorem d29_6 : decode jdk_43_method_47_code 6 = .ok (.areturn, 1) := by decide +kernel
theorem d29_7 : decode jdk_43_method_47_code 7 = .ok (.new 1, 3) := by decide +kernel
theorem d29_10 : decode jdk_43_method_47_code 10 = .ok (.dup, 1) := by decide +kernel
theorem d29_11 : decode jdk_43_method_47_code 11 = .ok (.aload_n 0, 1) := by decide +kernel
theorem d29_12 : decode jdk_43_method_47_code 12 = .ok (.iload_n 1, 1) := by decide +kernel
theorem d29_13 : decode jdk_43_method_47_code 13 = .ok (.iload_n 1, 1) := by decide +kernel
theorem d29_14 : decode jdk_43_method_47_code 14 = .ok (.iload_n 2, 1) := by decide +kernel
theorem d29_15 : decode jdk_43_method_47_code 15 = .ok (.iadd, 1) := by decide +kernel
theorem d29_16 : decode jdk_43_method_47_code 16 = .ok (.invokestatic 232, 3) := by decide +kernel
theorem d29_19 : decode jdk_43_method_47_code 19 = .ok (.iconst 0, 1) := by decide +kernel
theorem d29_20 : decode jdk_43_method_47_code 20 = .ok (.invokespecial 112, 3) := by decide +kernel
theorem pd___BB_V : parseMethodDescriptor "([BB)V" = some ⟨[(.array .byte), .byte], none⟩ := by decide +kernel
theorem d29_23 : decode jdk_43_method_47_code 23 = .ok (.areturn, 1) := by decide +kernel
theorem pn_26 : plainName "java/lang/String" = true := by first | (simp [plainName, overriddenIn]; done) | decide +kernel
theorem d26_0 : decode jdk_42_method_92_code 0 = .ok (.aload_n 0, 1) := by decide +kernel
theorem d26_1 : decode jdk_42_method_92_code 1 = .ok (.invokevirtual 505, 3) := by decide +kernel
theorem d26_4 : decode jdk_42_method_92_code 4 = .ok (.istore_n 3, 1) := by decide +kernel
theorem d26_5 : decode jdk_42_method_92_code 5 = .ok (.iload_n 1, 1) := by decide +kernel
theorem d26_6 : decode jdk_42_method_92_code 6 = .ok (.iload_n 2, 1) := by decide +kernel
theorem d26_7 : decode jdk_42_method_92_code 7 = .ok (.iload_n 3, 1) := by decide +kernel
theorem d26_8 : decode jdk_42_method_92_code 8 = .ok (.invokestatic 521, 3) := by decide +kernel
theorem pd__III_V : parseMethodDescriptor "(III)V" = some ⟨[.int, .int, .int], none⟩ := by decide +kernel
theorem d26_11 : decode jdk_42_method_92_code 11 = .ok (.iload_n 1, 1) := by decide +kernel
theorem d26_12 : decode jdk_42_method_92_code 12 = .ok (.ifCond .ne 10, 3) := by decide +kernel
theorem d26_15 : decode jdk_42_method_92_code 15 = .ok (.iload_n 2, 1) := by decide +kernel
theorem d26_16 : decode jdk_42_method_92_code 16 = .ok (.iload_n 3, 1) := by decide +kernel
theorem d26_17 : decode jdk_42_method_92_code 17 = .ok (.if_icmp .ne 5, 3) := by decide +kernel
theorem d26_20 : decode jdk_42_method_92_code 20 = .ok (.aload_n 0, 1) := by decide +kernel
theorem d26_21 : decode jdk_42_method_92_code 21 = .ok (.areturn, 1) := by decide +kernel
theorem d26_22 : decode jdk_42_method_92_code 22 = .ok (.iload_n 2, 1) := by decide +kernel
theorem d26_23 : decode jdk_42_method_92_code 23 = .ok (.iload_n 1, 1) := by decide +kernel
theorem d26_24 : decode jdk_42_method_92_code 24 = .ok (.isub, 1) := by decide +kernel
theorem d26_25 : decode jdk_42_method_92_code 25 = .ok (.istore 4, 2) := by decide +kernel
theorem d26_27 : decode jdk_42_method_92_code 27 = .ok (.aload_n 0, 1) := by decide +kernel
theorem d26_28 : decode jdk_42_method_92_code 28 = .ok (.invokevirtual 492, 3) := by decide +kernel
theorem d26_31 : decode jdk_42_method_92_code 31 = .ok (.ifCond .eq 16, 3) := by decide +kernel
theorem d26_34 : decode jdk_42_method_92_code 34 = .ok (.aload_n 0, 1) := by decide +kernel
theorem d26_35 : decode jdk_42_method_92_code 35 = .ok (.getfield 9, 3) := by decide +kernel
theorem d26_38 : decode jdk_42_method_92_code 38 = .ok (.iload_n 1, 1) := by decide +kernel
theorem d26_39 : decode jdk_42_method_92_code 39 = .ok (.iload 4, 2) := by decide +kernel
theorem d26_41 : decode jdk_42_method_92_code 41 = .ok (.invokestatic 685, 3) := by decide +kernel
theorem pd___BII_Ljava_lang_String_ : parseMethodDescriptor "([BII)Ljava/lang/String;" = some ⟨[(.array .byte), .int, .int], some (.object "java/lang/String")⟩ := by decide +kernel
theorem d26_44 : decode jdk_42_method_92_code 44 = .ok (.goto 13, 3) := by decide +kernel
theorem d26_57 : decode jdk_42_method_92_code 57 = .ok (.areturn, 1) := by decide +kernel
theorem pn_12 : plainName "java/util/AbstractCollection" = true := by first | (simp [plainName, overriddenIn]; done) | decide +kernel
theorem d12_0 : decode jdk_22_method_1_code 0 = .ok (.aload_n 0, 1) := by decide +kernel
theorem d12_1 : decode jdk_22_method_1_code 1 = .ok (.invokespecial 1, 3) := by decide +kernel
theorem d12_4 : decode jdk_22_method_1_code 4 = .ok (.return_, 1) := by decide +kernel
theorem pn_11 : plainName "java/util/AbstractList" = true := by first | (simp [plainName, overriddenIn]; done) | decide +kernel
theorem d11_0 : decode jdk_39_method_1_code 0 = .ok (.aload_n 0, 1) := by decide +kernel
theorem d11_1 : decode jdk_39_method_1_code 1 = .ok (.invokespecial 1, 3) := by decide +kernel
theorem pd___V : parseMethodDescriptor "()V" = some ⟨[], none⟩ := by decide +kernel
theorem d11_4 : decode jdk_39_method_1_code 4 = .ok (.aload_n 0, 1) := by decide +kernel
theorem d11_5 : decode jdk_39_method_1_code 5 = .ok (.iconst 0, 1) := by decide +kernel
theorem d11_6 : decode jdk_39_method_1_code 6 = .ok (.putfield 7, 3) := by decide +kernel
theorem d11_9 : decode jdk_39_method_1_code 9 = .ok (.return_, 1) := by decide +kernel
theorem pn_10 : plainName "java/util/ArrayList" = true := by first | (simp [plainName, overriddenIn]; done) | decide +kernel
theorem d10_0 : decode jdk_38_method_2_code 0 = .ok (.aload_n 0, 1) := by decide +kernel
theorem d10_1 : decode jdk_38_method_2_code 1 = .ok (.invokespecial 1, 3) := by decide +kernel
theorem d10_4 : decode jdk_38_method_2_code 4 = .ok (.aload_n 0, 1) := by decide +kernel
theorem d10_5 : decode jdk_38_method_2_code 5 = .ok (.getstatic 39, 3) := by decide +kernel
theorem d10_8 : decode jdk_38_method_2_code 8 = .ok (.putfield 9, 3) := by decide +kernel
theorem d10_11 : decode jdk_38_method_2_code 11 = .ok (.return_, 1) := by decide +kernel
theorem pn_14 : plainName "java/lang/Record" = true := by first | (simp [plainName, overriddenIn]; done) | decide +kernel
theorem d14_0 : decode jdk_30_method_1_code 0 = .ok (.aload_n 0, 1) := by decide +kernel
theorem d14_1 : decode jdk_30_method_1_code 1 = .ok (.invokespecial 1, 3) := by decide +kernel
theorem d14_4 : decode jdk_30_method_1_code 4 = .ok (.return_, 1) := by decide +kernel
theorem pn_13 : plainName "com/example/grantgate/grantgate/server/MessageReader$Head" = true := by first | (simp [plainName, overriddenIn]; done) | decide +kernel
theorem d13_0 : decode prog_40_method_1_code 0 = .ok (.aload_n 0, 1) := by decide +kernel
theorem d13_1 : decode prog_40_method_1_code 1 = .ok (.invokespecial 1, 3) := by decide +kernel
theorem d13_4 : decode prog_40_method_1_code 4 = .ok (.aload_n 0, 1) := by decide +kernel
theorem d13_5 : decode prog_40_method_1_code 5 = .ok (.aload_n 1, 1) := by decide +kernel
theorem d13_6 : decode prog_40_method_1_code 6 = .ok (.putfield 7, 3) := by decide +kernel
theorem d13_9 : decode prog_40_method_1_code 9 = .ok (.aload_n 0, 1) := by decide +kernel
theorem d13_10 : decode prog_40_method_1_code 10 = .ok (.aload_n 2, 1) := by decide +kernel
theorem d13_11 : decode prog_40_method_1_code 11 = .ok (.putfield 13, 3) := by decide +kernel
theorem d13_14 : decode prog_40_method_1_code 14 = .ok (.return_, 1) := by decide +kernel
theorem pn_15 : plainName "com/example/grantgate/grantgate/server/MessageReader$Head" = true := by first | (simp [plainName, overriddenIn]; done) | decide +kernel
theorem d15_0 : decode prog_40_method_3_code 0 = .ok (.aload_n 0, 1) := by decide +kernel
theorem d15_1 : decode prog_40_method_3_code 1 = .ok (.getfield 7, 3) := by decide +kernel
theorem d15_4 : decode prog_40_method_3_code 4 = .ok (.iconst 0, 1) := by decide +kernel
theorem d15_5 : decode prog_40_method_3_code 5 = .ok (.aload_n 0, 1) := by decide +kernel
theorem d15_6 : decode prog_40_method_3_code 6 = .ok (.getfield 7, 3) := by decide +kernel
theorem d15_9 : decode prog_40_method_3_code 9 = .ok (.bipush 32, 2) := by decide +kernel
theorem d15_11 : decode prog_40_method_3_code 11 = .ok (.invokevirtual 55, 3) := by decide +kernel
theorem pd__I_I : parseMethodDescriptor "(I)I" = some ⟨[.int], some .int⟩ := by decide +kernel
theorem d15_14 : decode prog_40_method_3_code 14 = .ok (.invokevirtual 59, 3) := by decide +kernel
theorem pd__II_Ljava_lang_String_ : parseMethodDescriptor "(II)Ljava/lang/String;" = some ⟨[.int, .int], some (.object "java/lang/String")⟩ := by decide +kernel
theorem d15_17 : decode prog_40_method_3_code 17 = .ok (.areturn, 1) := by decide +kernel
theorem pn_1 : plainName "com/example/grantgate/grantgate/server/HeadMethodPinLaw" = true := by first | (simp [plainName, overriddenIn]; done) | decide +kernel
theorem d1_0 : decode method_2_code 0 = .ok (.iload_n 0, 1) := by decide +kernel
theorem d1_1 : decode method_2_code 1 = .ok (.sipush 255, 3) := by decide +kernel
theorem d1_4 : decode method_2_code 4 = .ok (.iand, 1) := by decide +kernel
theorem d1_5 : decode method_2_code 5 = .ok (.i2c, 1) := by decide +kernel
theorem d1_6 : decode method_2_code 6 = .ok (.istore_n 1, 1) := by decide +kernel
theorem d1_7 : decode method_2_code 7 = .ok (.iload_n 1, 1) := by decide +kernel
theorem d1_8 : decode method_2_code 8 = .ok (.bipush 32, 2) := by decide +kernel
theorem d1_10 : decode method_2_code 10 = .ok (.if_icmp .ne 6, 3) := by decide +kernel
theorem d1_13 : decode method_2_code 13 = .ok (.bipush 33, 2) := by decide +kernel
theorem d1_15 : decode method_2_code 15 = .ok (.ireturn, 1) := by decide +kernel
theorem d1_16 : decode method_2_code 16 = .ok (.iload_n 1, 1) := by decide +kernel
theorem d1_17 : decode method_2_code 17 = .ok (.ireturn, 1) := by decide +kernel
theorem pn_2 : plainName "com/example/grantgate/grantgate/server/HeadMethodPinLaw" = true := by first | (simp [plainName, overriddenIn]; done) | decide +kernel
theorem d2_0 : decode method_4_code 0 = .ok (.iload_n 0, 1) := by decide +kernel
theorem d2_1 : decode method_4_code 1 = .ok (.ifCond .ne 27, 3) := by decide +kernel
theorem d2_4 : decode method_4_code 4 = .ok (.iconst 4, 1) := by decide +kernel
theorem d2_5 : decode method_4_code 5 = .ok (.newarray .char, 2) := by decide +kernel
theorem d2_7 : decode method_4_code 7 = .ok (.dup, 1) := by decide +kernel
theorem d2_8 : decode method_4_code 8 = .ok (.iconst 0, 1) := by decide +kernel
theorem d2_9 : decode method_4_code 9 = .ok (.bipush 32, 2) := by decide +kernel
theorem d2_11 : decode method_4_code 11 = .ok (.castore, 1) := by decide +kernel
theorem d2_12 : decode method_4_code 12 = .ok (.dup, 1) := by decide +kernel
theorem d2_13 : decode method_4_code 13 = .ok (.iconst 1, 1) := by decide +kernel
theorem d2_14 : decode method_4_code 14 = .ok (.iload 4, 2) := by decide +kernel
theorem d2_16 : decode method_4_code 16 = .ok (.castore, 1) := by decide +kernel
theorem d2_17 : decode method_4_code 17 = .ok (.dup, 1) := by decide +kernel
theorem d2_18 : decode method_4_code 18 = .ok (.iconst 2, 1) := by decide +kernel
theorem d2_19 : decode method_4_code 19 = .ok (.iload 5, 2) := by decide +kernel
theorem d2_21 : decode method_4_code 21 = .ok (.castore, 1) := by decide +kernel
theorem d2_22 : decode method_4_code 22 = .ok (.dup, 1) := by decide +kernel
theorem d2_23 : decode method_4_code 23 = .ok (.iconst 3, 1) := by decide +kernel
theorem d2_24 : decode method_4_code 24 = .ok (.iload 6, 2) := by decide +kernel
theorem d2_26 : decode method_4_code 26 = .ok (.castore, 1) := by decide +kernel
theorem d2_27 : decode method_4_code 27 = .ok (.areturn, 1) := by decide +kernel
theorem pn_9 : plainName "com/example/grantgate/grantgate/server/HeadMethodPinLaw" = true := by first | (simp [plainName, overriddenIn]; done) | decide +kernel
theorem d9_0 : decode method_3_code 0 = .ok (.iload_n 0, 1) := by decide +kernel
theorem d9_1 : decode method_3_code 1 = .ok (.ifCond .ne 7, 3) := by decide +kernel
theorem d9_4 : decode method_3_code 4 = .ok (.iconst 0, 1) := by decide +kernel
theorem d9_5 : decode method_3_code 5 = .ok (.newarray .char, 2) := by decide +kernel
theorem d9_7 : decode method_3_code 7 = .ok (.areturn, 1) := by decide +kernel
theorem d2_28 : decode method_4_code 28 = .ok (.iload_n 0, 1) := by decide +kernel
theorem d2_29 : decode method_4_code 29 = .ok (.iconst 1, 1) := by decide +kernel
theorem d2_30 : decode method_4_code 30 = .ok (.if_icmp .ne 31, 3) := by decide +kernel
theorem d2_33 : decode method_4_code 33 = .ok (.iconst 5, 1) := by decide +kernel
theorem d2_34 : decode method_4_code 34 = .ok (.newarray .char, 2) := by decide +kernel
theorem d2_36 : decode method_4_code 36 = .ok (.dup, 1) := by decide +kernel
theorem d2_37 : decode method_4_code 37 = .ok (.iconst 0, 1) := by decide +kernel
theorem d2_38 : decode method_4_code 38 = .ok (.iload_n 1, 1) := by decide +kernel
theorem d2_39 : decode method_4_code 39 = .ok (.castore, 1) := by decide +kernel
theorem d2_40 : decode method_4_code 40 = .ok (.dup, 1) := by decide +kernel
theorem d2_41 : decode method_4_code 41 = .ok (.iconst 1, 1) := by decide +kernel
theorem d2_42 : decode method_4_code 42 = .ok (.bipush 32, 2) := by decide +kernel
theorem d2_44 : decode method_4_code 44 = .ok (.castore, 1) := by decide +kernel
theorem d2_45 : decode method_4_code 45 = .ok (.dup, 1) := by decide +kernel
theorem d2_46 : decode method_4_code 46 = .ok (.iconst 2, 1) := by decide +kernel
theorem d2_47 : decode method_4_code 47 = .ok (.iload 4, 2) := by decide +kernel
theorem d2_49 : decode method_4_code 49 = .ok (.castore, 1) := by decide +kernel
theorem d2_50 : decode method_4_code 50 = .ok (.dup, 1) := by decide +kernel
theorem d2_51 : decode method_4_code 51 = .ok (.iconst 3, 1) := by decide +kernel
theorem d2_52 : decode method_4_code 52 = .ok (.iload 5, 2) := by decide +kernel
theorem d2_54 : decode method_4_code 54 = .ok (.castore, 1) := by decide +kernel
theorem d2_55 : decode method_4_code 55 = .ok (.dup, 1) := by decide +kernel
theorem d2_56 : decode method_4_code 56 = .ok (.iconst 4, 1) := by decide +kernel
theorem d2_57 : decode method_4_code 57 = .ok (.iload 6, 2) := by decide +kernel
theorem d2_59 : decode method_4_code 59 = .ok (.castore, 1) := by decide +kernel
theorem d2_60 : decode method_4_code 60 = .ok (.areturn, 1) := by decide +kernel
theorem d9_8 : decode method_3_code 8 = .ok (.iload_n 0, 1) := by decide +kernel
theorem d9_9 : decode method_3_code 9 = .ok (.iconst 1, 1) := by decide +kernel
theorem d9_10 : decode method_3_code 10 = .ok (.if_icmp .ne 11, 3) := by decide +kernel
theorem d9_13 : decode method_3_code 13 = .ok (.iconst 1, 1) := by decide +kernel
theorem d9_14 : decode method_3_code 14 = .ok (.newarray .char, 2) := by decide +kernel
theorem d9_16 : decode method_3_code 16 = .ok (.dup, 1) := by decide +kernel
theorem d9_17 : decode method_3_code 17 = .ok (.iconst 0, 1) := by decide +kernel
theorem d9_18 : decode method_3_code 18 = .ok (.iload_n 1, 1) := by decide +kernel
theorem d9_19 : decode method_3_code 19 = .ok (.castore, 1) := by decide +kernel
theorem d9_20 : decode method_3_code 20 = .ok (.areturn, 1) := by decide +kernel
theorem d2_61 : decode method_4_code 61 = .ok (.iload_n 0, 1) := by decide +kernel
theorem d2_62 : decode method_4_code 62 = .ok (.iconst 2, 1) := by decide +kernel
theorem d2_63 : decode method_4_code 63 = .ok (.if_icmp .ne 36, 3) := by decide +kernel
theorem d2_66 : decode method_4_code 66 = .ok (.bipush 6, 2) := by decide +kernel
theorem d2_68 : decode method_4_code 68 = .ok (.newarray .char, 2) := by decide +kernel
theorem d2_70 : decode method_4_code 70 = .ok (.dup, 1) := by decide +kernel
theorem d2_71 : decode method_4_code 71 = .ok (.iconst 0, 1) := by decide +kernel
theorem d2_72 : decode method_4_code 72 = .ok (.iload_n 1, 1) := by decide +kernel
theorem d2_73 : decode method_4_code 73 = .ok (.castore, 1) := by decide +kernel
theorem d2_74 : decode method_4_code 74 = .ok (.dup, 1) := by decide +kernel
theorem d2_75 : decode method_4_code 75 = .ok (.iconst 1, 1) := by decide +kernel
theorem d2_76 : decode method_4_code 76 = .ok (.iload_n 2, 1) := by decide +kernel
theorem d2_77 : decode method_4_code 77 = .ok (.castore, 1) := by decide +kernel
theorem d2_78 : decode method_4_code 78 = .ok (.dup, 1) := by decide +kernel
theorem d2_79 : decode method_4_code 79 = .ok (.iconst 2, 1) := by decide +kernel
theorem d2_80 : decode method_4_code 80 = .ok (.bipush 32, 2) := by decide +kernel
theorem d2_82 : decode method_4_code 82 = .ok (.castore, 1) := by decide +kernel
theorem d2_83 : decode method_4_code 83 = .ok (.dup, 1) := by decide +kernel
theorem d2_84 : decode method_4_code 84 = .ok (.iconst 3, 1) := by decide +kernel
theorem d2_85 : decode method_4_code 85 = .ok (.iload 4, 2) := by decide +kernel
theorem d2_87 : decode method_4_code 87 = .ok (.castore, 1) := by decide +kernel
theorem d2_88 : decode method_4_code 88 = .ok (.dup, 1) := by decide +kernel
theorem d2_89 : decode method_4_code 89 = .ok (.iconst 4, 1) := by decide +kernel
theorem d2_90 : decode method_4_code 90 = .ok (.iload 5, 2) := by decide +kernel
theorem d2_92 : decode method_4_code 92 = .ok (.castore, 1) := by decide +kernel
theorem d2_93 : decode method_4_code 93 = .ok (.dup, 1) := by decide +kernel
theorem d2_94 : decode method_4_code 94 = .ok (.iconst 5, 1) := by decide +kernel
theorem d2_95 : decode method_4_code 95 = .ok (.iload 6, 2) := by decide +kernel
theorem d2_97 : decode method_4_code 97 = .ok (.castore, 1) := by decide +kernel
theorem d2_98 : decode method_4_code 98 = .ok (.areturn, 1) := by decide +kernel
theorem d9_21 : decode method_3_code 21 = .ok (.iload_n 0, 1) := by decide +kernel
theorem d9_22 : decode method_3_code 22 = .ok (.iconst 2, 1) := by decide +kernel
theorem d9_23 : decode method_3_code 23 = .ok (.if_icmp .ne 15, 3) := by decide +kernel
theorem d9_26 : decode method_3_code 26 = .ok (.iconst 2, 1) := by decide +kernel
theorem d9_27 : decode method_3_code 27 = .ok (.newarray .char, 2) := by decide +kernel
theorem d9_29 : decode method_3_code 29 = .ok (.dup, 1) := by decide +kernel
theorem d9_30 : decode method_3_code 30 = .ok (.iconst 0, 1) := by decide +kernel
theorem d9_31 : decode method_3_code 31 = .ok (.iload_n 1, 1) := by decide +kernel
theorem d9_32 : decode method_3_code 32 = .ok (.castore, 1) := by decide +kernel
theorem d9_33 : decode method_3_code 33 = .ok (.dup, 1) := by decide +kernel
theorem d9_34 : decode method_3_code 34 = .ok (.iconst 1, 1) := by decide +kernel
theorem d9_35 : decode method_3_code 35 = .ok (.iload_n 2, 1) := by decide +kernel
theorem d9_36 : decode method_3_code 36 = .ok (.castore, 1) := by decide +kernel
theorem d9_37 : decode method_3_code 37 = .ok (.areturn, 1) := by decide +kernel
theorem d2_99 : decode method_4_code 99 = .ok (.bipush 7, 2) := by decide +kernel
theorem d2_101 : decode method_4_code 101 = .ok (.newarray .char, 2) := by decide +kernel
theorem d2_103 : decode method_4_code 103 = .ok (.dup, 1) := by decide +kernel
theorem d2_104 : decode method_4_code 104 = .ok (.iconst 0, 1) := by decide +kernel
theorem d2_105 : decode method_4_code 105 = .ok (.iload_n 1, 1) := by decide +kernel
theorem d2_106 : decode method_4_code 106 = .ok (.castore, 1) := by decide +kernel
theorem d2_107 : decode method_4_code 107 = .ok (.dup, 1) := by decide +kernel
theorem d2_108 : decode method_4_code 108 = .ok (.iconst 1, 1) := by decide +kernel
theorem d2_109 : decode method_4_code 109 = .ok (.iload_n 2, 1) := by decide +kernel
theorem d2_110 : decode method_4_code 110 = .ok (.castore, 1) := by decide +kernel
theorem d2_111 : decode method_4_code 111 = .ok (.dup, 1) := by decide +kernel
theorem d2_112 : decode method_4_code 112 = .ok (.iconst 2, 1) := by decide +kernel
theorem d2_113 : decode method_4_code 113 = .ok (.iload_n 3, 1) := by decide +kernel
theorem d2_114 : decode method_4_code 114 = .ok (.castore, 1) := by decide +kernel
theorem d2_115 : decode method_4_code 115 = .ok (.dup, 1) := by decide +kernel
theorem d2_116 : decode method_4_code 116 = .ok (.iconst 3, 1) := by decide +kernel
theorem d2_117 : decode method_4_code 117 = .ok (.bipush 32, 2) := by decide +kernel
theorem d2_119 : decode method_4_code 119 = .ok (.castore, 1) := by decide +kernel
theorem d2_120 : decode method_4_code 120 = .ok (.dup, 1) := by decide +kernel
theorem d2_121 : decode method_4_code 121 = .ok (.iconst 4, 1) := by decide +kernel
theorem d2_122 : decode method_4_code 122 = .ok (.iload 4, 2) := by decide +kernel
theorem d2_124 : decode method_4_code 124 = .ok (.castore, 1) := by decide +kernel
theorem d2_125 : decode method_4_code 125 = .ok (.dup, 1) := by decide +kernel
theorem d2_126 : decode method_4_code 126 = .ok (.iconst 5, 1) := by decide +kernel
theorem d2_127 : decode method_4_code 127 = .ok (.iload 5, 2) := by decide +kernel
theorem d2_129 : decode method_4_code 129 = .ok (.castore, 1) := by decide +kernel
theorem d2_130 : decode method_4_code 130 = .ok (.dup, 1) := by decide +kernel
theorem d2_131 : decode method_4_code 131 = .ok (.bipush 6, 2) := by decide +kernel
theorem d2_133 : decode method_4_code 133 = .ok (.iload 6, 2) := by decide +kernel
theorem d2_135 : decode method_4_code 135 = .ok (.castore, 1) := by decide +kernel
theorem d2_136 : decode method_4_code 136 = .ok (.areturn, 1) := by decide +kernel
theorem d9_38 : decode method_3_code 38 = .ok (.iconst 3, 1) := by decide +kernel
theorem d9_39 : decode method_3_code 39 = .ok (.newarray .char, 2) := by decide +kernel
theorem d9_41 : decode method_3_code 41 = .ok (.dup, 1) := by decide +kernel
theorem d9_42 : decode method_3_code 42 = .ok (.iconst 0, 1) := by decide +kernel
theorem d9_43 : decode method_3_code 43 = .ok (.iload_n 1, 1) := by decide +kernel
theorem d9_44 : decode method_3_code 44 = .ok (.castore, 1) := by decide +kernel
theorem d9_45 : decode method_3_code 45 = .ok (.dup, 1) := by decide +kernel
theorem d9_46 : decode method_3_code 46 = .ok (.iconst 1, 1) := by decide +kernel
theorem d9_47 : decode method_3_code 47 = .ok (.iload_n 2, 1) := by decide +kernel
theorem d9_48 : decode method_3_code 48 = .ok (.castore, 1) := by decide +kernel
theorem d9_49 : decode method_3_code 49 = .ok (.dup, 1) := by decide +kernel
theorem d9_50 : decode method_3_code 50 = .ok (.iconst 2, 1) := by decide +kernel
theorem d9_51 : decode method_3_code 51 = .ok (.iload_n 3, 1) := by decide +kernel
theorem d9_52 : decode method_3_code 52 = .ok (.castore, 1) := by decide +kernel
theorem d9_53 : decode method_3_code 53 = .ok (.areturn, 1) := by decide +kernel
theorem pn_0 : plainName "com/example/grantgate/grantgate/server/HeadMethodPinLaw" = true := by first | (simp [plainName, overriddenIn]; done) | decide +kernel
theorem pd__I_C : parseMethodDescriptor "(I)C" = some ⟨[.int], some .char⟩ := by decide +kernel
theorem pd__ICCCCCC__C : parseMethodDescriptor "(ICCCCCC)[C" = some ⟨[.int, .char, .char, .char, .char, .char, .char], some (.array .char)⟩ := by decide +kernel
theorem pd___C_V : parseMethodDescriptor "([C)V" = some ⟨[(.array .char)], none⟩ := by decide +kernel
theorem pd__ICCC__C : parseMethodDescriptor "(ICCC)[C" = some ⟨[.int, .char, .char, .char], some (.array .char)⟩ := by decide +kernel
theorem pd__Ljava_lang_String_Ljava_util_List__V : parseMethodDescriptor "(Ljava/lang/String;Ljava/util/List;)V" = some ⟨[(.object "java/lang/String"), (.object "java/util/List")], none⟩ := by decide +kernel
theorem pd___Ljava_lang_String_ : parseMethodDescriptor "()Ljava/lang/String;" = some ⟨[], some (.object "java/lang/String")⟩ := by decide +kernel
theorem pd__Ljava_lang_Object__Z : parseMethodDescriptor "(Ljava/lang/Object;)Z" = some ⟨[(.object "java/lang/Object")], some .boolean⟩ := by decide +kernel
abbrev R_cLoop : Room := ⟨0, 0, 0, 0⟩
set_option maxRecDepth 65536 in
set_option maxHeartbeats 40000000 in
theorem cLoop (l : Launch) (Z : State) (a0 : Array Value) (hw : ∀ d ∈ tables_1, d.before a0 Z = true) (c1 : Addr) (d1 : Addr) (kc : ClassId) (kb : ClassId) (n : Nat) (f : Nat → Int32) (h0 : Heap) (n0 : Nat) (O0 : Old Z n0 h0) (Fc : ArF Z h0 c1 kc .char n f) (Fd : ArF Z h0 d1 kb .byte n (fun _ => 0)) (ne1 : c1 ≠ d1) (g1 : n0 ≤ d1) :
    MetN l Z (⟨"java/lang/StringUTF16", "compress", "([CI[BII)I"⟩ : MethodName) jdk_52_method_21_code 7 (some .int) R_cLoop [] #[(.ref c1), (.int (0 : Int32)), (.ref d1), (.int (0 : Int32)), (.int n.toInt32)] h0 (fun v h L => ∃ (r : Nat), v = some (.int r.toInt32) ∧ Fr n0 L ∧ Keep h0 h [d1] ∧ ArF Z h d1 kb .byte n (fun i => if i < r then (f i).toInt8.toInt32 else 0) ∧ (r ≤ n) ∧ (∀ i, i < r → ¬ (255 : Int32) < f i) ∧ (r < n → (255 : Int32) < f r)) := by
  refine MetN.walk (plainFor_of_name pn_7) ?_
  intro p e s m below meth c s₁ hx hZ hby hml hown hnm hret hlk X0 e0
  have N0 := Fr.nil n0
  refine Win.to s₁ (mkF m 0 #[.val (.ref c1), .val (.int (0 : Int32)), .val (.ref d1), .val (.int (0 : Int32)), .val (.int n.toInt32), .unset, .unset] []) (fun _ k => castTop (by first | (simp [entryFrame, mkF, argsToLocals, Value.category]; done) | rfl) k) ?_
  refine Win.to s₁ (mkF m 1 #[.val (.ref c1), .val (.int (0 : Int32)), .val (.ref d1), .val (.int (0 : Int32)), .val (.int n.toInt32), .unset, .unset] [(.int (0 : Int32))]) (fun _ k => XS.iconst X0.here hx rfl (hb hby d7_0) k) ?_
  refine Win.to s₁ (mkF m 3 #[.val (.ref c1), .val (.int (0 : Int32)), .val (.ref d1), .val (.int (0 : Int32)), .val (.int n.toInt32), .val (.int (0 : Int32)), .unset] []) (fun _ k => XS.istore X0.here hx rfl (hb hby d7_1) rfl (l' := #[.val (.ref c1), .val (.int (0 : Int32)), .val (.ref d1), .val (.int (0 : Int32)), .val (.int n.toInt32), .val (.int (0 : Int32)), .unset]) rfl k) ?_
  have hn := Fc.big
  have loop : ∀ (q j : Nat), j + q = n → (∀ i, i < j → ¬ (255 : Int32) < f i) → ∀ (T : State) (locs : List Loc) (h : Heap) (X : Stand p l e R_cLoop s m #[(.ref c1), (.int (0 : Int32)), (.ref d1), (.int (0 : Int32)), (.int n.toInt32)] below meth c T locs 0 0) (N : Fr n0 locs) (eT : T.heap = h) (O : Old Z n0 h) (K : Keep h0 h [d1]) (Gd : ArF Z h d1 kb .byte n (fun i => if i < j then (f i).toInt8.toInt32 else 0)) (s6 : Slot) (h6 : One s6), Win p e below s R_cLoop (fun v h L => ∃ (r : Nat), v = some (.int r.toInt32) ∧ Fr n0 L ∧ Keep h0 h [d1] ∧ ArF Z h d1 kb .byte n (fun i => if i < r then (f i).toInt8.toInt32 else 0) ∧ (r ≤ n) ∧ (∀ i, i < r → ¬ (255 : Int32) < f i) ∧ (r < n → (255 : Int32) < f r)) (T.setTop (mkF m 3 #[.val (.ref c1), .val (.int j.toInt32), .val (.ref d1), .val (.int j.toInt32), .val (.int n.toInt32), .val (.int j.toInt32), s6] [])) := by
    intro q
    induction q with
    | zero =>
      intro j hj hall T locs h X N eT O K Gd s6 h6
      obtain rfl : j = n := by omega
      refine Win.to T (mkF m 5 #[.val (.ref c1), .val (.int j.toInt32), .val (.ref d1), .val (.int j.toInt32), .val (.int j.toInt32), .val (.int j.toInt32), s6] [(.int j.toInt32)]) (fun _ k => XS.iload X.here hx rfl (hb hby d7_3) rfl k) ?_
      refine Win.to T (mkF m 7 #[.val (.ref c1), .val (.int j.toInt32), .val (.ref d1), .val (.int j.toInt32), .val (.int j.toInt32), .val (.int j.toInt32), s6] [(.int j.toInt32), (.int j.toInt32)]) (fun _ k => XS.iload X.here hx rfl (hb hby d7_5) rfl k) ?_
      refine Win.to T (mkF m 44 #[.val (.ref c1), .val (.int j.toInt32), .val (.ref d1), .val (.int j.toInt32), .val (.int j.toInt32), .val (.int j.toInt32), s6] []) (fun _ k => XS.icmpYes X.here hx rfl (pc0 := 7) (pc' := 44) rfl (hb hby d7_7) rfl (flt (show ¬ (j.toInt32 < j.toInt32) from Int32.lt_irrefl)).2.1 (by decide) (by decide) k) ?_
      refine Win.to T (mkF m 46 #[.val (.ref c1), .val (.int j.toInt32), .val (.ref d1), .val (.int j.toInt32), .val (.int j.toInt32), .val (.int j.toInt32), s6] [(.int j.toInt32)]) (fun _ k => XS.iload X.here hx rfl (hb hby d7_44) rfl k) ?_
      exact Win.retI X hx hlk hret (hb hby d7_46) (by decide) (by decide) (by (try rw [eT]); exact ⟨j, rfl, N, K, Gd, (Nat.le_refl _), hall, (fun q => absurd q (Nat.lt_irrefl _))⟩)
    | succ q ih =>
      intro j hj hall T locs h X N eT O K Gd s6 h6
      have hj1 : j < n := by omega
      have hj2 : j < 2 ^ 31 := by omega
      have Gc : ArF Z h c1 kc .char n f := Fc.keep K (ninS ne1 nin0)
      refine Win.to T (mkF m 5 #[.val (.ref c1), .val (.int j.toInt32), .val (.ref d1), .val (.int j.toInt32), .val (.int n.toInt32), .val (.int j.toInt32), s6] [(.int j.toInt32)]) (fun _ k => XS.iload X.here hx rfl (hb hby d7_3) rfl k) ?_
      refine Win.to T (mkF m 7 #[.val (.ref c1), .val (.int j.toInt32), .val (.ref d1), .val (.int j.toInt32), .val (.int n.toInt32), .val (.int j.toInt32), s6] [(.int n.toInt32), (.int j.toInt32)]) (fun _ k => XS.iload X.here hx rfl (hb hby d7_5) rfl k) ?_
      refine Win.to T (mkF m 10 #[.val (.ref c1), .val (.int j.toInt32), .val (.ref d1), .val (.int j.toInt32), .val (.int n.toInt32), .val (.int j.toInt32), s6] []) (fun _ k => XS.icmpNo X.here hx rfl (hb hby d7_7) rfl (tlt (show j.toInt32 < n.toInt32 from ((own_lt hj2 hn).mpr hj1))).2.1 k) ?_
      refine Win.to T (mkF m 11 #[.val (.ref c1), .val (.int j.toInt32), .val (.ref d1), .val (.int j.toInt32), .val (.int n.toInt32), .val (.int j.toInt32), s6] [(.ref c1)]) (fun _ k => XS.aloadN X.here hx rfl (hb hby d7_10) rfl rfl k) ?_
      refine Win.to T (mkF m 12 #[.val (.ref c1), .val (.int j.toInt32), .val (.ref d1), .val (.int j.toInt32), .val (.int n.toInt32), .val (.int j.toInt32), s6] [(.int j.toInt32), (.ref c1)]) (fun _ k => XS.iloadN X.here hx rfl (hb hby d7_11) rfl k) ?_
      obtain ⟨cl101, Ar101, hi101, ha101⟩ := ArF.at Gc (j := j.toInt32) (i := j) (own_tn hj2).1 (own_tn hj2).2.1 hj1
      refine Win.to T (mkF m 13 #[.val (.ref c1), .val (.int j.toInt32), .val (.ref d1), .val (.int j.toInt32), .val (.int n.toInt32), .val (.int j.toInt32), s6] [(.int (f j))]) (fun _ k => X.caload hx (j := j.toInt32) (v := (.int (f j))) (by rw [eT]; exact Ar101.1) (State.isArrayOf_alike hZ.alike Ar101.2.1) Ar101.2.2 hi101 ha101 (g := (mkF m 12 #[.val (.ref c1), .val (.int j.toInt32), .val (.ref d1), .val (.int j.toInt32), .val (.int n.toInt32), .val (.int j.toInt32), s6] [(.int j.toInt32), (.ref c1)])) rfl rfl (hb hby d7_12) _ k) ?_
      refine Win.to T (mkF m 15 #[.val (.ref c1), .val (.int j.toInt32), .val (.ref d1), .val (.int j.toInt32), .val (.int n.toInt32), .val (.int j.toInt32), .val (.int (f j))] []) (fun _ k => XS.istoreS X.here hx rfl (hb hby d7_13) rfl rfl h6 k) ?_
      refine Win.to T (mkF m 17 #[.val (.ref c1), .val (.int j.toInt32), .val (.ref d1), .val (.int j.toInt32), .val (.int n.toInt32), .val (.int j.toInt32), .val (.int (f j))] [(.int (f j))]) (fun _ k => XS.iload X.here hx rfl (hb hby d7_15) rfl k) ?_
      refine Win.to T (mkF m 20 #[.val (.ref c1), .val (.int j.toInt32), .val (.ref d1), .val (.int j.toInt32), .val (.int n.toInt32), .val (.int j.toInt32), .val (.int (f j))] [(.int (255 : Int32)), (.int (f j))]) (fun _ k => XS.sipush X.here hx rfl (hb hby d7_17) k) ?_
      by_cases hc102 : (255 : Int32) < (f j)
      · refine Win.to T (mkF m 23 #[.val (.ref c1), .val (.int j.toInt32), .val (.ref d1), .val (.int j.toInt32), .val (.int n.toInt32), .val (.int j.toInt32), .val (.int (f j))] []) (fun _ k => XS.icmpNo X.here hx rfl (hb hby d7_20) rfl (tlt hc102).2.2.2 k) ?_
        refine Win.to T (mkF m 25 #[.val (.ref c1), .val (.int j.toInt32), .val (.ref d1), .val (.int j.toInt32), .val (.int n.toInt32), .val (.int j.toInt32), .val (.int (f j))] [(.int j.toInt32)]) (fun _ k => XS.iload X.here hx rfl (hb hby d7_23) rfl k) ?_
        exact Win.retI X hx hlk hret (hb hby d7_25) (by decide) (by decide) (by (try rw [eT]); exact ⟨j, rfl, N, K, Gd, (Nat.le_of_lt hj1), hall, (fun _ => hc102)⟩)
      · refine Win.to T (mkF m 26 #[.val (.ref c1), .val (.int j.toInt32), .val (.ref d1), .val (.int j.toInt32), .val (.int n.toInt32), .val (.int j.toInt32), .val (.int (f j))] []) (fun _ k => XS.icmpYes X.here hx rfl (pc0 := 20) (pc' := 26) rfl (hb hby d7_20) rfl (flt hc102).2.2.2 (by decide) (by decide) k) ?_
        refine Win.to T (mkF m 27 #[.val (.ref c1), .val (.int j.toInt32), .val (.ref d1), .val (.int j.toInt32), .val (.int n.toInt32), .val (.int j.toInt32), .val (.int (f j))] [(.ref d1)]) (fun _ k => XS.aloadN X.here hx rfl (hb hby d7_26) rfl rfl k) ?_
        refine Win.to T (mkF m 28 #[.val (.ref c1), .val (.int j.toInt32), .val (.ref d1), .val (.int j.toInt32), .val (.int n.toInt32), .val (.int j.toInt32), .val (.int (f j))] [(.int j.toInt32), (.ref d1)]) (fun _ k => XS.iloadN X.here hx rfl (hb hby d7_27) rfl k) ?_
        refine Win.to T (mkF m 30 #[.val (.ref c1), .val (.int j.toInt32), .val (.ref d1), .val (.int j.toInt32), .val (.int n.toInt32), .val (.int j.toInt32), .val (.int (f j))] [(.int (f j)), (.int j.toInt32), (.ref d1)]) (fun _ k => XS.iload X.here hx rfl (hb hby d7_28) rfl k) ?_
        refine Win.to T (mkF m 31 #[.val (.ref c1), .val (.int j.toInt32), .val (.ref d1), .val (.int j.toInt32), .val (.int n.toInt32), .val (.int j.toInt32), .val (.int (f j))] [(.int ((f j).toInt8.toInt32)), (.int j.toInt32), (.ref d1)]) (fun _ k => XS.i2b X.here hx rfl (hb hby d7_30) rfl k) ?_
        obtain ⟨cl103, Ar103, hi103, -⟩ := ArF.at Gd (j := j.toInt32) (i := j) (own_tn hj2).1 (own_tn hj2).2.1 hj1
        obtain ⟨T104, h104, X104, e104, W104, st104⟩ := stB X hx hZ eT Ar103 (j := j.toInt32) hi103 (g := (mkF m 31 #[.val (.ref c1), .val (.int j.toInt32), .val (.ref d1), .val (.int j.toInt32), .val (.int n.toInt32), .val (.int j.toInt32), .val (.int (f j))] [(.int ((f j).toInt8.toInt32)), (.int j.toInt32), (.ref d1)])) rfl rfl (hb hby d7_31)
        have O105 := Old.wr O W104 g1
        have K106 : Keep h0 h104 [d1] := K.wr W104 (Or.inl (List.mem_of_getElem? (i := 0) rfl))
        have N107 := Fr.snoc X104 N g1
        have eq104 : nar .byte ((f j).toInt8.toInt32) = ((f j).toInt8.toInt32) := (own_b8 (f j))
        have W104 := eq104 ▸ W104
        have F108 : ArF Z h104 d1 kb .byte n (upd (fun i => if i < j then (f i).toInt8.toInt32 else 0) j ((f j).toInt8.toInt32)) := ArF.set Gd W104 (own_tn hj2).1 hj1 (eq104 ▸ (fits_nar_byte _))
        refine Win.to T104 (mkF m 32 #[.val (.ref c1), .val (.int j.toInt32), .val (.ref d1), .val (.int j.toInt32), .val (.int n.toInt32), .val (.int j.toInt32), .val (.int (f j))] []) (fun _ k => st104 _ k) ?_
        refine Win.to T104 (mkF m 35 #[.val (.ref c1), .val (.int (j.toInt32 + (1 : Int32))), .val (.ref d1), .val (.int j.toInt32), .val (.int n.toInt32), .val (.int j.toInt32), .val (.int (f j))] []) (fun _ k => XS.iinc X104.here hx rfl (hb hby d7_32) rfl (l' := #[.val (.ref c1), .val (.int (j.toInt32 + (1 : Int32))), .val (.ref d1), .val (.int j.toInt32), .val (.int n.toInt32), .val (.int j.toInt32), .val (.int (f j))]) rfl k) ?_
        refine Win.to T104 (mkF m 38 #[.val (.ref c1), .val (.int (j.toInt32 + (1 : Int32))), .val (.ref d1), .val (.int (j.toInt32 + (1 : Int32))), .val (.int n.toInt32), .val (.int j.toInt32), .val (.int (f j))] []) (fun _ k => XS.iinc X104.here hx rfl (hb hby d7_35) rfl (l' := #[.val (.ref c1), .val (.int (j.toInt32 + (1 : Int32))), .val (.ref d1), .val (.int (j.toInt32 + (1 : Int32))), .val (.int n.toInt32), .val (.int j.toInt32), .val (.int (f j))]) rfl k) ?_
        refine Win.to T104 (mkF m 41 #[.val (.ref c1), .val (.int (j.toInt32 + (1 : Int32))), .val (.ref d1), .val (.int (j.toInt32 + (1 : Int32))), .val (.int n.toInt32), .val (.int (j.toInt32 + (1 : Int32))), .val (.int (f j))] []) (fun _ k => XS.iinc X104.here hx rfl (hb hby d7_38) rfl (l' := #[.val (.ref c1), .val (.int (j.toInt32 + (1 : Int32))), .val (.ref d1), .val (.int (j.toInt32 + (1 : Int32))), .val (.int n.toInt32), .val (.int (j.toInt32 + (1 : Int32))), .val (.int (f j))]) rfl k) ?_
        refine Win.to T104 (mkF m 3 #[.val (.ref c1), .val (.int (j.toInt32 + (1 : Int32))), .val (.ref d1), .val (.int (j.toInt32 + (1 : Int32))), .val (.int n.toInt32), .val (.int (j.toInt32 + (1 : Int32))), .val (.int (f j))] []) (fun _ k => XS.goto X104.here hx rfl (pc0 := 41) (pc' := 3) rfl (hb hby d7_41) (by decide) (by decide) k) ?_
        rw [own_succ j]
        refine ih (j + 1) (by omega) (fun i hi => ?_) T104 _ h104 X104 N107 e104 O105 K106 (ArF.cong F108 fun i hi => ?_) _ (One.val rfl)
        · rcases Nat.lt_succ_iff_lt_or_eq.mp hi with q | q
          · exact hall i q
          · rw [q]; exact hc102
        · simp only [upd]
          by_cases q : i = j
          · simp [q]
          · have q2 : i < j + 1 ↔ i < j := by omega
            simp [q, q2]
  exact loop n 0 (by omega) (fun i hi => absurd hi (Nat.not_lt_zero _)) s₁ [] h0 X0 N0 e0 O0 (Keep.refl _ _) (ArF.cong Fd fun i hi => by simp) _ One.u
abbrev R_comp : Room := ⟨1, 1, 7, 18⟩
set_option maxRecDepth 65536 in
set_option maxHeartbeats 40000000 in
theorem comp (l : Launch) (Z : State) (a0 : Array Value) (hw : ∀ d ∈ tables_1, d.before a0 Z = true) (c1 : Addr) (kc : ClassId) (n : Nat) (f : Nat → Int32) (h0 : Heap) (n0 : Nat) (O0 : Old Z n0 h0) (Fc : ArF Z h0 c1 kc .char n f) (hp : ∀ i, i < n → ¬ (255 : Int32) < f i) (hcap : n ≤ 7) :
    MetN l Z (⟨"java/lang/StringUTF16", "compress", "([CII)[B"⟩ : MethodName) jdk_52_method_16_code 6 (some (.array .byte)) R_comp [] #[(.ref c1), (.int (0 : Int32)), (.int n.toInt32)] h0 (fun v h L => ∃ (t : Addr) (kb : ClassId), v = some (.ref t) ∧ Fr n0 L ∧ Keep h0 h [] ∧ h0.size ≤ t ∧ ArF Z h t kb .byte n (fun i => (f i).toInt8.toInt32)) := by
  refine MetN.walk (plainFor_of_name pn_6) ?_
  intro p e s m below meth c s₁ hx hZ hby hml hown hnm hret hlk X0 e0
  have N0 := Fr.nil n0
  refine Win.to s₁ (mkF m 0 #[.val (.ref c1), .val (.int (0 : Int32)), .val (.int n.toInt32), .unset, .unset, .unset] []) (fun _ k => castTop (by first | (simp [entryFrame, mkF, argsToLocals, Value.category]; done) | rfl) k) ?_
  have hn := Fc.big
  refine Win.to s₁ (mkF m 1 #[.val (.ref c1), .val (.int (0 : Int32)), .val (.int n.toInt32), .unset, .unset, .unset] [(.int n.toInt32)]) (fun _ k => XS.iloadN X0.here hx rfl (hb hby d6_0) rfl k) ?_
  obtain ⟨T109, h109, k109, X109, e109, E109, A109, st109⟩ := newP X0 hx hZ (hw _ (List.mem_of_getElem? (i := 26) rfl)) e0 (g := (mkF m 1 #[.val (.ref c1), .val (.int (0 : Int32)), .val (.int n.toInt32), .unset, .unset, .unset] [(.int n.toInt32)])) rfl (hb hby d6_1) rfl (own_tn hn).2.1 (cap := 7) (by rw [(own_tn hn).1]; exact hcap) (by decide) (by decide) (by decide)
  obtain ⟨b109, g109⟩ : ∃ z, z = h0.size := ⟨_, rfl⟩
  rw [← g109] at A109 st109
  have ne110 : c1 ≠ b109 := Nat.ne_of_lt (Nat.lt_of_lt_of_le Fc.lt (Nat.le_of_eq g109.symm))
  have g111 : n0 ≤ b109 := Nat.le_trans (own_le O0) (Nat.le_of_eq g109.symm)
  have z112 : h0.size ≤ b109 := (Nat.le_of_eq g109.symm)
  have O113 := Old.ext O0 E109
  have K114 : Keep h0 h109 [] := (Keep.refl h0 []).ext E109
  have F115 : ArF Z h109 b109 k109 .byte n (fun _ => 0) := (own_tn hn).1 ▸ ArF.new A109 (own_tn hn).2.1 rfl
  refine Win.to T109 (mkF m 3 #[.val (.ref c1), .val (.int (0 : Int32)), .val (.int n.toInt32), .unset, .unset, .unset] [(.ref b109)]) (fun _ k => st109 _ k) ?_
  refine Win.to T109 (mkF m 4 #[.val (.ref c1), .val (.int (0 : Int32)), .val (.int n.toInt32), .val (.ref b109), .unset, .unset] []) (fun _ k => XS.astoreN X109.here hx rfl (hb hby d6_3) rfl rfl (l' := #[.val (.ref c1), .val (.int (0 : Int32)), .val (.int n.toInt32), .val (.ref b109), .unset, .unset]) rfl k) ?_
  refine Win.to T109 (mkF m 5 #[.val (.ref c1), .val (.int (0 : Int32)), .val (.int n.toInt32), .val (.ref b109), .unset, .unset] [(.ref c1)]) (fun _ k => XS.aloadN X109.here hx rfl (hb hby d6_4) rfl rfl k) ?_
  refine Win.to T109 (mkF m 6 #[.val (.ref c1), .val (.int (0 : Int32)), .val (.int n.toInt32), .val (.ref b109), .unset, .unset] [(.int (0 : Int32)), (.ref c1)]) (fun _ k => XS.iloadN X109.here hx rfl (hb hby d6_5) rfl k) ?_
  refine Win.to T109 (mkF m 7 #[.val (.ref c1), .val (.int (0 : Int32)), .val (.int n.toInt32), .val (.ref b109), .unset, .unset] [(.ref b109), (.int (0 : Int32)), (.ref c1)]) (fun _ k => XS.aloadN X109.here hx rfl (hb hby d6_6) rfl rfl k) ?_
  refine Win.to T109 (mkF m 8 #[.val (.ref c1), .val (.int (0 : Int32)), .val (.int n.toInt32), .val (.ref b109), .unset, .unset] [(.int (0 : Int32)), (.ref b109), (.int (0 : Int32)), (.ref c1)]) (fun _ k => XS.iconst X109.here hx rfl (hb hby d6_7) k) ?_
  refine Win.to T109 (mkF m 9 #[.val (.ref c1), .val (.int (0 : Int32)), .val (.int n.toInt32), .val (.ref b109), .unset, .unset] [(.int n.toInt32), (.int (0 : Int32)), (.ref b109), (.int (0 : Int32)), (.ref c1)]) (fun _ k => XS.iloadN X109.here hx rfl (hb hby d6_8) rfl k) ?_
  have F116 : ArF Z h109 c1 kc .char n f := (Fc.ext E109)
  obtain ⟨T117, h117, v117, L117, X117, e117, ⟨r_117, rfl, N117q, r117_0, r117_1, r117_2, r117_3, r117_4⟩, st117⟩ := N.static X109 hx hZ (y := (⟨"java/lang/StringUTF16", "compress", "([CI[BII)I"⟩ : MethodName)) hown (hw _ (List.mem_of_getElem? (i := 27) rfl)) (hw _ (List.mem_of_getElem? (i := 28) rfl)) (hw _ (List.mem_of_getElem? (i := 24) rfl)) (hw _ (List.mem_of_getElem? (i := 29) rfl)) (by decide) (cLoop l Z a0 hw c1 b109 kc k109 n f h109 n0 O113 F116 F115 ne110 g111) e109 (g := (mkF m 9 #[.val (.ref c1), .val (.int (0 : Int32)), .val (.int n.toInt32), .val (.ref b109), .unset, .unset] [(.int n.toInt32), (.int (0 : Int32)), (.ref b109), (.int (0 : Int32)), (.ref c1)])) rfl (by rw [hml]; rfl) (argsL := [(.ref c1), (.int (0 : Int32)), (.ref b109), (.int (0 : Int32)), (.int n.toInt32)]) (rest := []) rfl (lenOf pd___CI_BII_I rfl) rfl (W := 0) (by show 2 * 0 + _ ≤ _; exact Nat.le_of_eq rfl) (hb hby d6_9) (by decide) (by decide) (by decide) (by decide)
  have N118 := Fr.app N0 N117q
  have O119 := Old.keep O113 r117_0 (allS g111 all0)
  have K120 : Keep h0 h117 [] := Keep.trans K114 r117_0 (allS (Or.inr z112) all0)
  refine Win.to T117 (mkF m 12 #[.val (.ref c1), .val (.int (0 : Int32)), .val (.int n.toInt32), .val (.ref b109), .unset, .unset] [(.int r_117.toInt32)]) (fun _ k => st117 _ k) ?_
  have hr : r_117 = n := by
    rcases Nat.lt_or_ge r_117 n with q | q
    · exact absurd (r117_4 q) (hp _ q)
    · have := r117_2; omega
  have F121 : ArF Z h117 b109 k109 .byte n (fun i => (f i).toInt8.toInt32) := ArF.cong r117_1 fun i hi => by simp [hr, hi]
  refine Win.to T117 (mkF m 14 #[.val (.ref c1), .val (.int (0 : Int32)), .val (.int n.toInt32), .val (.ref b109), .val (.int r_117.toInt32), .unset] []) (fun _ k => XS.istore X117.here hx rfl (hb hby d6_12) rfl (l' := #[.val (.ref c1), .val (.int (0 : Int32)), .val (.int n.toInt32), .val (.ref b109), .val (.int r_117.toInt32), .unset]) rfl k) ?_
  refine Win.to T117 (mkF m 16 #[.val (.ref c1), .val (.int (0 : Int32)), .val (.int n.toInt32), .val (.ref b109), .val (.int r_117.toInt32), .unset] [(.int r_117.toInt32)]) (fun _ k => XS.iload X117.here hx rfl (hb hby d6_14) rfl k) ?_
  refine Win.to T117 (mkF m 17 #[.val (.ref c1), .val (.int (0 : Int32)), .val (.int n.toInt32), .val (.ref b109), .val (.int r_117.toInt32), .unset] [(.int n.toInt32), (.int r_117.toInt32)]) (fun _ k => XS.iloadN X117.here hx rfl (hb hby d6_16) rfl k) ?_
  refine Win.to T117 (mkF m 57 #[.val (.ref c1), .val (.int (0 : Int32)), .val (.int n.toInt32), .val (.ref b109), .val (.int r_117.toInt32), .unset] []) (fun _ k => XS.icmpYes X117.here hx rfl (pc0 := 17) (pc' := 57) rfl (hb hby d6_17) rfl (teq (show r_117.toInt32 = n.toInt32 from (by rw [hr]))).1 (by decide) (by decide) k) ?_
  refine Win.to T117 (mkF m 58 #[.val (.ref c1), .val (.int (0 : Int32)), .val (.int n.toInt32), .val (.ref b109), .val (.int r_117.toInt32), .unset] [(.ref b109)]) (fun _ k => XS.aloadN X117.here hx rfl (hb hby d6_57) rfl rfl k) ?_
  exact Win.retA X117 hx hlk hret rfl rfl (hb hby d6_58) (by decide) (by decide) (by (try rw [e117]); exact ⟨b109, k109, rfl, N118, K120, z112, F121⟩)
abbrev R_coder0 : Room := ⟨0, 0, 0, 0⟩
set_option maxRecDepth 65536 in
set_option maxHeartbeats 40000000 in
theorem coder0 (l : Launch) (Z : State) (a0 : Array Value) (hw : ∀ d ∈ tables_1, d.before a0 Z = true) (b1 : Addr) (kb : ClassId) (n : Nat) (f : Nat → Int32) (h0 : Heap) (n0 : Nat) (O0 : Old Z n0 h0) (Fb : ArF Z h0 b1 kb .byte n f) :
    MetN l Z (⟨"java/lang/StringUTF16", "coderFromArrayLen", "([BI)B"⟩ : MethodName) jdk_52_method_15_code 2 (some .byte) R_coder0 [] #[(.ref b1), (.int n.toInt32)] h0 (fun v h L => v = some (.int (0 : Int32)) ∧ Fr n0 L ∧ h = h0) := by
  refine MetN.walk (plainFor_of_name pn_8) ?_
  intro p e s m below meth c s₁ hx hZ hby hml hown hnm hret hlk X0 e0
  have N0 := Fr.nil n0
  refine Win.to s₁ (mkF m 0 #[.val (.ref b1), .val (.int n.toInt32)] []) (fun _ k => castTop (by first | (simp [entryFrame, mkF, argsToLocals, Value.category]; done) | rfl) k) ?_
  refine Win.to s₁ (mkF m 1 #[.val (.ref b1), .val (.int n.toInt32)] [(.int n.toInt32)]) (fun _ k => XS.iloadN X0.here hx rfl (hb hby d8_0) rfl k) ?_
  refine Win.to s₁ (mkF m 2 #[.val (.ref b1), .val (.int n.toInt32)] [(.ref b1), (.int n.toInt32)]) (fun _ k => XS.aloadN X0.here hx rfl (hb hby d8_1) rfl rfl k) ?_
  obtain ⟨cl122, Ar122, hl122⟩ := ArF.len Fb
  refine Win.to s₁ (mkF m 3 #[.val (.ref b1), .val (.int n.toInt32)] [(.int n.toInt32), (.int n.toInt32)]) (fun _ k => X0.arraylength hx (by rw [e0]; exact Ar122.1) (State.isArrayOf_alike hZ.alike Ar122.2.1) (g := (mkF m 2 #[.val (.ref b1), .val (.int n.toInt32)] [(.ref b1), (.int n.toInt32)])) rfl rfl (hb hby d8_2) _ (by rw [hl122]; exact k)) ?_
  refine Win.to s₁ (mkF m 4 #[.val (.ref b1), .val (.int n.toInt32)] [(.int (0 : Int32))]) (fun _ k => XS.isub X0.here hx rfl (hb hby d8_3) rfl (by rw [show (n.toInt32 - n.toInt32) = (0 : Int32) from Int32.sub_self _]; exact k)) ?_
  refine Win.to s₁ (mkF m 6 #[.val (.ref b1), .val (.int n.toInt32)] [(.int (31 : Int32)), (.int (0 : Int32))]) (fun _ k => XS.bipush X0.here hx rfl (hb hby d8_4) k) ?_
  refine Win.to s₁ (mkF m 7 #[.val (.ref b1), .val (.int n.toInt32)] [(.int (0 : Int32))]) (fun _ k => XS.iushr X0.here hx rfl (hb hby d8_6) rfl (by rw [show (((0 : Int32).toUInt32 >>> ((31 : Int32) &&& 31).toUInt32).toInt32) = (0 : Int32) from by decide]; exact k)) ?_
  refine Win.to s₁ (mkF m 8 #[.val (.ref b1), .val (.int n.toInt32)] [(.int (0 : Int32))]) (fun _ k => XS.i2b X0.here hx rfl (hb hby d8_7) rfl (by rw [show ((0 : Int32).toInt8.toInt32) = (0 : Int32) from by decide]; exact k)) ?_
  exact Win.retN X0 hx hlk (t := .byte) hret (by simp) rfl (hb hby d8_8) (by decide) (by decide) (by (try rw [e0]); exact ⟨rfl, N0, rfl⟩)
abbrev R_ctor4 : Room := ⟨2, 4, 8, 35⟩
set_option maxRecDepth 65536 in
set_option maxHeartbeats 40000000 in
theorem ctor4 (l : Launch) (Z : State) (a0 : Array Value) (hw : ∀ d ∈ tables_1, d.before a0 Z = true) (a1 : Addr) (c1 : Addr) (kc : ClassId) (n : Nat) (f : Nat → Int32) (cs : Int32) (h0 : Heap) (n0 : Nat) (O0 : Old Z n0 h0) (E1 : Exa Z h0 a1 "java/lang/String") (F1 : Fld Z h0 a1 "java/lang/String" "value" "[B" .null) (F2 : Fld Z h0 a1 "java/lang/String" "coder" "B" (.int (0 : Int32))) (Fc : ArF Z h0 c1 kc .char n f) (hp : ∀ i, i < n → ¬ (255 : Int32) < f i) (hcap : n ≤ 7) (g1 : n0 ≤ a1) (S_CS : Sta Z Z.heap "java/lang/String" "COMPACT_STRINGS" "Z" (.int cs)) (hcs : ¬ (cs = (0 : Int32))) :
    MetW l Z (⟨"java/lang/String", "<init>", "([CIILjava/lang/Void;)V"⟩ : MethodName) jdk_42_method_149_code 6 none R_ctor4 [] #[(.ref a1), (.ref c1), (.int (0 : Int32)), (.int n.toInt32), .null] h0 EL1 (fun v h L => ∃ (t : Addr) (kb : ClassId), v = none ∧ Fr n0 L ∧ Keep h0 h [a1] ∧ Fld Z h a1 "java/lang/String" "value" "[B" (.ref t) ∧ Fld Z h a1 "java/lang/String" "coder" "B" (.int (0 : Int32)) ∧ ArF Z h t kb .byte n (fun i => (f i).toInt8.toInt32)) := by
  refine MetW.walk (plainFor_of_name pn_4) ?_
  intro p e s m below meth c s₁ hx hZ hby hml hown hnm hret hlk C0 hS0 X0 e0
  have N0 := Fr.nil n0
  refine WinW.to s₁ (mkF m 0 #[.val (.ref a1), .val (.ref c1), .val (.int (0 : Int32)), .val (.int n.toInt32), .val .null, .unset] []) (fun _ k => castTop (by first | (simp [entryFrame, mkF, argsToLocals, Value.category]; done) | rfl) k) ?_
  have hn := Fc.big
  refine WinW.to s₁ (mkF m 1 #[.val (.ref a1), .val (.ref c1), .val (.int (0 : Int32)), .val (.int n.toInt32), .val .null, .unset] [(.ref a1)]) (fun _ k => XS.aloadN X0.here hx rfl (hb hby d4_0) rfl rfl k) ?_
  obtain ⟨T123, X123, e123, st123⟩ := initO X0 hx hZ hown (hw _ (List.mem_of_getElem? (i := 18) rfl)) (hw _ (List.mem_of_getElem? (i := 19) rfl)) (hw _ (List.mem_of_getElem? (i := 20) rfl)) e0 (g := (mkF m 1 #[.val (.ref a1), .val (.ref c1), .val (.int (0 : Int32)), .val (.int n.toInt32), .val .null, .unset] [(.ref a1)])) rfl (by rw [hml]; rfl) rfl (hb hby d4_1) (by decide) (W := 0) (by show 2 * 0 + _ ≤ _; exact Nat.le_of_eq rfl) (by decide)
  refine WinW.to T123 (mkF m 4 #[.val (.ref a1), .val (.ref c1), .val (.int (0 : Int32)), .val (.int n.toInt32), .val .null, .unset] []) (fun _ k => st123 _ k) ?_
  refine WinW.to T123 (mkF m 5 #[.val (.ref a1), .val (.ref c1), .val (.int (0 : Int32)), .val (.int n.toInt32), .val .null, .unset] [(.int n.toInt32)]) (fun _ k => XS.iloadN X123.here hx rfl (hb hby d4_4) rfl k) ?_
  by_cases hc124 : n.toInt32 = (0 : Int32)
  · refine WinW.to T123 (mkF m 8 #[.val (.ref a1), .val (.ref c1), .val (.int (0 : Int32)), .val (.int n.toInt32), .val .null, .unset] []) (fun _ k => XS.ifNo X123.here hx rfl (hb hby d4_5) rfl ((if0 _ _).trans (teq hc124).2) k) ?_
    have hz : n = 0 := own_zero hn hc124
    have S125 : Safe Z EL1 (s.setVm s.vm).vm h0 a1 := own_safe hZ.alike E1 F1 (hw _ (List.mem_of_getElem? (i := 5) rfl))
    refine WinW.to T123 (mkF m 9 #[.val (.ref a1), .val (.ref c1), .val (.int (0 : Int32)), .val (.int n.toInt32), .val .null, .unset] [(.ref a1)]) (fun _ k => XS.aloadN X123.here hx rfl (hb hby d4_8) rfl rfl k) ?_
    obtain ⟨b126, T126, h126, k126, d126, kk126, X126, e126, E126, hS126, hk126, hZ126, hown126, Fe126, Fc126, Fv126, Fa126, -, -, c126, -, Sf126, st126⟩ := ldcCH X123 hx hZ hown (hw _ (List.mem_of_getElem? (i := 40) rfl)) (own_wS hw) e123 hS0 (Nat.zero_le _) (own_EW hw) (by decide) C0.1 (vs := []) (z := (0 : Int32)) (by decide) (by decide) rfl (g := (mkF m 9 #[.val (.ref a1), .val (.ref c1), .val (.int (0 : Int32)), .val (.int n.toInt32), .val .null, .unset] [(.ref a1)])) rfl (hb hby d4_9) (n := 0) (by decide) (by decide) (by decide) (by decide)
    have O127 := Old.ext O0 E126
    have K128 : Keep h0 h126 [a1] := (Keep.refl h0 [a1]).ext E126
    have c129 := c126
    have C130 := CHr.trans C0 c129
    have S131 := CHr.safe c129 E1.lt S125
    have q126_a1 := Sf126 _ S131
    refine WinW.to T126 (mkF m 11 #[.val (.ref a1), .val (.ref c1), .val (.int (0 : Int32)), .val (.int n.toInt32), .val .null, .unset] [(.ref b126), (.ref a1)]) (fun _ k => st126 _ k) ?_
    obtain ⟨T132, X132, e132, st132⟩ := getF X126 hx hZ126 hown126 (host := "") (Or.inl (hw _ (List.mem_of_getElem? (i := 35) rfl))) Via.refl e126 Fv126 (g := (mkF m 11 #[.val (.ref a1), .val (.ref c1), .val (.int (0 : Int32)), .val (.int n.toInt32), .val .null, .unset] [(.ref b126), (.ref a1)])) rfl rfl (hb hby d4_11)
    refine WinW.to T132 (mkF m 14 #[.val (.ref a1), .val (.ref c1), .val (.int (0 : Int32)), .val (.int n.toInt32), .val .null, .unset] [(.ref d126), (.ref a1)]) (fun _ k => st132 _ k) ?_
    have F133 : Exa Z h126 a1 "java/lang/String" := (Exa.ext E126 E1)
    have F134 : Fld Z h126 a1 "java/lang/String" "value" "[B" .null := (Fld.ext E126 F1)
    have F135 : ArF Z h126 c1 kc .char n f := (Fc.ext E126)
    have ne136 : a1 ≠ c1 := own_neF F133 F135 (hw _ (List.mem_of_getElem? (i := 5) rfl))
    obtain ⟨T137, h137, X137, e137, W137, st137⟩ := putF X132 hx hZ126 hown126 (host := "") (Or.inl (hw _ (List.mem_of_getElem? (i := 35) rfl))) Via.refl e132 F134 F133 (Or.inr ⟨(hw _ (List.mem_of_getElem? (i := 36) rfl)), rfl, hnm⟩) (hw _ (List.mem_of_getElem? (i := 5) rfl)) (ty := (.array .byte)) (by decide) rfl rfl (g := (mkF m 14 #[.val (.ref a1), .val (.ref c1), .val (.int (0 : Int32)), .val (.int n.toInt32), .val .null, .unset] [(.ref d126), (.ref a1)])) rfl rfl (hb hby d4_14)
    have O139 := Old.wr O127 W137 g1
    have hk140 := Nat.le_trans hk126 (Nat.le_of_eq (Wr.size W137).symm)
    have K141 : Keep h0 h137 [a1] := K128.wr W137 (Or.inl (List.mem_of_getElem? (i := 0) rfl))
    have N142 := Fr.snoc X137 N0 g1
    have c143 := CHr.wr W137 S131 C130.1
    have C144 := CHr.trans C130 c143
    have S145 := CHr.safe c143 F133.lt S131
    have F138 : Fld Z h137 a1 "java/lang/String" "value" "[B" (.ref d126) := Fld.same W137 F134
    refine WinW.to T137 (mkF m 17 #[.val (.ref a1), .val (.ref c1), .val (.int (0 : Int32)), .val (.int n.toInt32), .val .null, .unset] []) (fun _ k => st137 _ k) ?_
    refine WinW.to T137 (mkF m 18 #[.val (.ref a1), .val (.ref c1), .val (.int (0 : Int32)), .val (.int n.toInt32), .val .null, .unset] [(.ref a1)]) (fun _ k => XS.aloadN X137.here hx rfl (hb hby d4_17) rfl rfl k) ?_
    have F147 : Exa Z h137 a1 "java/lang/String" := (Exa.wr W137 F133)
    obtain ⟨b146, T146, h146, k146, d146, kk146, X146, e146, E146, hS146, hk146, hZ146, hown146, Fe146, Fc146, Fv146, Fa146, -, -, c146, -, Sf146, st146⟩ := ldcCH X137 hx hZ126 hown126 (hw _ (List.mem_of_getElem? (i := 40) rfl)) (own_wS hw) e137 hS126 hk140 (own_EW hw) (by decide) C144.1 (vs := []) (z := (0 : Int32)) (by decide) (by decide) rfl (g := (mkF m 18 #[.val (.ref a1), .val (.ref c1), .val (.int (0 : Int32)), .val (.int n.toInt32), .val .null, .unset] [(.ref a1)])) rfl (hb hby d4_18) (n := 0) (by decide) (by decide) (by decide) (by decide)
    have O148 := Old.ext O139 E146
    have K149 : Keep h0 h146 [a1] := K141.ext E146
    have c150 := c146
    have C151 := CHr.trans C144 c150
    have S152 := CHr.safe c150 F147.lt S145
    have q146_a1 := Sf146 _ S152
    refine WinW.to T146 (mkF m 20 #[.val (.ref a1), .val (.ref c1), .val (.int (0 : Int32)), .val (.int n.toInt32), .val .null, .unset] [(.ref b146), (.ref a1)]) (fun _ k => st146 _ k) ?_
    obtain ⟨T153, X153, e153, st153⟩ := getF X146 hx hZ146 hown146 (host := "") (Or.inl (hw _ (List.mem_of_getElem? (i := 33) rfl))) Via.refl e146 Fc146 (g := (mkF m 20 #[.val (.ref a1), .val (.ref c1), .val (.int (0 : Int32)), .val (.int n.toInt32), .val .null, .unset] [(.ref b146), (.ref a1)])) rfl rfl (hb hby d4_20)
    refine WinW.to T153 (mkF m 23 #[.val (.ref a1), .val (.ref c1), .val (.int (0 : Int32)), .val (.int n.toInt32), .val .null, .unset] [(.int (0 : Int32)), (.ref a1)]) (fun _ k => st153 _ k) ?_
    have F154 : Exa Z h146 a1 "java/lang/String" := (Exa.ext E146 F147)
    have F155 : Fld Z h146 a1 "java/lang/String" "coder" "B" (.int (0 : Int32)) := (Fld.ext E146 (Fld.other W137 (Fld.ext E126 F2) (Or.inr (slot_ne (Or.inr (hw _ (List.mem_of_getElem? (i := 34) rfl))) (Or.inr (hw _ (List.mem_of_getElem? (i := 36) rfl))) (by decide) (t := .byte) (t' := (.array .byte)) (by decide) (by decide)))))
    obtain ⟨T156, h156, X156, e156, W156, st156⟩ := putFN X153 hx hZ146 hown146 (hw _ (List.mem_of_getElem? (i := 33) rfl)) Via.refl e153 F155 F154 (Or.inr ⟨(hw _ (List.mem_of_getElem? (i := 34) rfl)), rfl, hnm⟩) (hw _ (List.mem_of_getElem? (i := 5) rfl)) (ty := .byte) (v' := (.int (0 : Int32))) (by decide) rfl rfl (g := (mkF m 23 #[.val (.ref a1), .val (.ref c1), .val (.int (0 : Int32)), .val (.int n.toInt32), .val .null, .unset] [(.int (0 : Int32)), (.ref a1)])) rfl rfl (hb hby d4_23)
    have O158 := Old.wr O148 W156 g1
    have hk159 := Nat.le_trans hk146 (Nat.le_of_eq (Wr.size W156).symm)
    have K160 : Keep h0 h156 [a1] := K149.wr W156 (Or.inl (List.mem_of_getElem? (i := 0) rfl))
    have N161 := Fr.snoc X156 N142 g1
    have c162 := CHr.wr W156 S152 C151.1
    have C163 := CHr.trans C151 c162
    have S164 := CHr.safe c162 F154.lt S152
    have F157 : Fld Z h156 a1 "java/lang/String" "coder" "B" (.int (0 : Int32)) := Fld.same W156 F155
    refine WinW.to T156 (mkF m 26 #[.val (.ref a1), .val (.ref c1), .val (.int (0 : Int32)), .val (.int n.toInt32), .val .null, .unset] []) (fun _ k => st156 _ k) ?_
    have F165 : Fld Z h156 a1 "java/lang/String" "value" "[B" (.ref d126) := (Fld.other W156 (Fld.ext E146 F138) (Or.inr (slot_ne (Or.inr (hw _ (List.mem_of_getElem? (i := 36) rfl))) (Or.inr (hw _ (List.mem_of_getElem? (i := 34) rfl))) (by decide) (t := (.array .byte)) (t' := .byte) (by decide) (by decide))))
    have F166 : Arv Z h156 d126 kk126 .byte (0 : Int32) [] (.int 0) := (((Fa126.other W137 (Ne.symm q126_a1.2)).ext E146).other W156 (Ne.symm q126_a1.2))
    have F167 : ArF Z h156 d126 kk126 .byte 0 (fun i => ([] : List Int32).getD i 0) := own_arf [] F166 rfl
    have F168 : ArF Z h156 d126 kk126 .byte n (fun i => (f i).toInt8.toInt32) := by rw [hz]; exact ArF.cong F167 fun i hi => absurd hi (Nat.not_lt_zero _)
    exact WinW.retV X156 hS146 (by rw [e156]; exact hk159) hx hlk hret (hb hby d4_26) hZ146 (own_EW hw) (by rw [e156]; exact C163) (by decide) (by decide) (by (try rw [e156]); exact ⟨d126, kk126, rfl, N161, K160, F165, F157, F168⟩)
  · refine WinW.to T123 (mkF m 27 #[.val (.ref a1), .val (.ref c1), .val (.int (0 : Int32)), .val (.int n.toInt32), .val .null, .unset] []) (fun _ k => XS.ifYes X123.here hx rfl (pc0 := 5) (pc' := 27) rfl (hb hby d4_5) rfl ((if0 _ _).trans (feq hc124).2) (by decide) (by decide) k) ?_
    obtain ⟨T169, X169, e169, st169⟩ := getS2 X123 hx hZ hown (host := "") (Or.inl (hw _ (List.mem_of_getElem? (i := 21) rfl))) Via.refl e123 (Sta.ext O0.2 S_CS) (g := (mkF m 27 #[.val (.ref a1), .val (.ref c1), .val (.int (0 : Int32)), .val (.int n.toInt32), .val .null, .unset] [])) rfl (hb hby d4_27)
    refine WinW.to T169 (mkF m 30 #[.val (.ref a1), .val (.ref c1), .val (.int (0 : Int32)), .val (.int n.toInt32), .val .null, .unset] [(.int cs)]) (fun _ k => st169 _ k) ?_
    refine WinW.to T169 (mkF m 33 #[.val (.ref a1), .val (.ref c1), .val (.int (0 : Int32)), .val (.int n.toInt32), .val .null, .unset] []) (fun _ k => XS.ifNo X169.here hx rfl (hb hby d4_30) rfl ((if0 _ _).trans (feq (show ¬ (cs = (0 : Int32)) from hcs)).1) k) ?_
    refine WinW.to T169 (mkF m 34 #[.val (.ref a1), .val (.ref c1), .val (.int (0 : Int32)), .val (.int n.toInt32), .val .null, .unset] [(.ref c1)]) (fun _ k => XS.aloadN X169.here hx rfl (hb hby d4_33) rfl rfl k) ?_
    refine WinW.to T169 (mkF m 35 #[.val (.ref a1), .val (.ref c1), .val (.int (0 : Int32)), .val (.int n.toInt32), .val .null, .unset] [(.int (0 : Int32)), (.ref c1)]) (fun _ k => XS.iloadN X169.here hx rfl (hb hby d4_34) rfl k) ?_
    refine WinW.to T169 (mkF m 36 #[.val (.ref a1), .val (.ref c1), .val (.int (0 : Int32)), .val (.int n.toInt32), .val .null, .unset] [(.int n.toInt32), (.int (0 : Int32)), (.ref c1)]) (fun _ k => XS.iloadN X169.here hx rfl (hb hby d4_35) rfl k) ?_
    obtain ⟨T170, h170, v170, L170, X170, e170, ⟨t_170, kb_170, rfl, N170q, r170_0, r170_1, r170_2⟩, st170⟩ := N.static X169 hx hZ (y := (⟨"java/lang/StringUTF16", "compress", "([CII)[B"⟩ : MethodName)) hown (hw _ (List.mem_of_getElem? (i := 22) rfl)) (hw _ (List.mem_of_getElem? (i := 23) rfl)) (hw _ (List.mem_of_getElem? (i := 24) rfl)) (hw _ (List.mem_of_getElem? (i := 25) rfl)) (by decide) (comp l Z a0 hw c1 kc n f h0 n0 O0 Fc hp hcap) e169 (g := (mkF m 36 #[.val (.ref a1), .val (.ref c1), .val (.int (0 : Int32)), .val (.int n.toInt32), .val .null, .unset] [(.int n.toInt32), (.int (0 : Int32)), (.ref c1)])) rfl (by rw [hml]; rfl) (argsL := [(.ref c1), (.int (0 : Int32)), (.int n.toInt32)]) (rest := []) rfl (lenOf pd___CII__B rfl) rfl (W := 0) (by show 2 * 0 + _ ≤ _; exact Nat.le_of_eq rfl) (hb hby d4_36) (by decide) (by decide) (by decide) (by decide)
    have N171 := Fr.app N0 N170q
    have ne172 : a1 ≠ t_170 := Nat.ne_of_lt (Nat.lt_of_lt_of_le E1.lt r170_1)
    have ne173 : c1 ≠ t_170 := Nat.ne_of_lt (Nat.lt_of_lt_of_le Fc.lt r170_1)
    have g174 : n0 ≤ t_170 := Nat.le_trans (own_le O0) r170_1
    have z175 : h0.size ≤ t_170 := r170_1
    have O176 := Old.keep O0 r170_0 all0
    have K177 : Keep h0 h170 [a1] := Keep.trans (Keep.refl h0 [a1]) r170_0 all0
    have c178 := CHr.keep r170_0 sf0 C0.1
    have C179 := CHr.trans C0 c178
    refine WinW.to T170 (mkF m 39 #[.val (.ref a1), .val (.ref c1), .val (.int (0 : Int32)), .val (.int n.toInt32), .val .null, .unset] [(.ref t_170)]) (fun _ k => st170 _ k) ?_
    refine WinW.to T170 (mkF m 41 #[.val (.ref a1), .val (.ref c1), .val (.int (0 : Int32)), .val (.int n.toInt32), .val .null, .val (.ref t_170)] []) (fun _ k => XS.astore X170.here hx rfl (hb hby d4_39) rfl rfl (l' := #[.val (.ref a1), .val (.ref c1), .val (.int (0 : Int32)), .val (.int n.toInt32), .val .null, .val (.ref t_170)]) rfl k) ?_
    refine WinW.to T170 (mkF m 42 #[.val (.ref a1), .val (.ref c1), .val (.int (0 : Int32)), .val (.int n.toInt32), .val .null, .val (.ref t_170)] [(.ref a1)]) (fun _ k => XS.aloadN X170.here hx rfl (hb hby d4_41) rfl rfl k) ?_
    refine WinW.to T170 (mkF m 44 #[.val (.ref a1), .val (.ref c1), .val (.int (0 : Int32)), .val (.int n.toInt32), .val .null, .val (.ref t_170)] [(.ref t_170), (.ref a1)]) (fun _ k => XS.aload X170.here hx rfl (hb hby d4_42) rfl rfl k) ?_
    refine WinW.to T170 (mkF m 45 #[.val (.ref a1), .val (.ref c1), .val (.int (0 : Int32)), .val (.int n.toInt32), .val .null, .val (.ref t_170)] [(.int n.toInt32), (.ref t_170), (.ref a1)]) (fun _ k => XS.iloadN X170.here hx rfl (hb hby d4_44) rfl k) ?_
    obtain ⟨T180, h180, v180, L180, X180, e180, ⟨rfl, N180q, r180_0⟩, st180⟩ := N.static X170 hx hZ (y := (⟨"java/lang/StringUTF16", "coderFromArrayLen", "([BI)B"⟩ : MethodName)) hown (hw _ (List.mem_of_getElem? (i := 30) rfl)) (hw _ (List.mem_of_getElem? (i := 31) rfl)) (hw _ (List.mem_of_getElem? (i := 24) rfl)) (hw _ (List.mem_of_getElem? (i := 32) rfl)) (by decide) (coder0 l Z a0 hw t_170 kb_170 n (fun i => (f i).toInt8.toInt32) h170 n0 O176 r170_2) e170 (g := (mkF m 45 #[.val (.ref a1), .val (.ref c1), .val (.int (0 : Int32)), .val (.int n.toInt32), .val .null, .val (.ref t_170)] [(.int n.toInt32), (.ref t_170), (.ref a1)])) rfl (by rw [hml]; rfl) (argsL := [(.ref t_170), (.int n.toInt32)]) (rest := [(.ref a1)]) rfl (lenOf pd___BI_B rfl) rfl (W := 1) (by show 2 * 0 + _ ≤ _; exact Nat.le_of_eq rfl) (hb hby d4_45) (by decide) (by decide) (by decide) (by decide)
    have N181 := Fr.app N171 N180q
    have e180 := e180.trans r180_0
    refine WinW.to T180 (mkF m 48 #[.val (.ref a1), .val (.ref c1), .val (.int (0 : Int32)), .val (.int n.toInt32), .val .null, .val (.ref t_170)] [(.int (0 : Int32)), (.ref a1)]) (fun _ k => st180 _ k) ?_
    have F182 : Exa Z h170 a1 "java/lang/String" := (E1.keep r170_0)
    have F183 : Fld Z h170 a1 "java/lang/String" "coder" "B" (.int (0 : Int32)) := (F2.keep r170_0 nin0)
    have F184 : ArF Z h170 c1 kc .char n f := (Fc.keep r170_0 nin0)
    have ne185 : a1 ≠ c1 := own_neF F182 F184 (hw _ (List.mem_of_getElem? (i := 5) rfl))
    have F186 : Fld Z h170 a1 "java/lang/String" "value" "[B" .null := (F1.keep r170_0 nin0)
    have S187 : Safe Z EL1 (s.setVm s.vm).vm h170 a1 := own_safe hZ.alike F182 F186 (hw _ (List.mem_of_getElem? (i := 5) rfl))
    obtain ⟨T188, h188, X188, e188, W188, st188⟩ := putFN X180 hx hZ hown (hw _ (List.mem_of_getElem? (i := 33) rfl)) Via.refl e180 F183 F182 (Or.inr ⟨(hw _ (List.mem_of_getElem? (i := 34) rfl)), rfl, hnm⟩) (hw _ (List.mem_of_getElem? (i := 5) rfl)) (ty := .byte) (v' := (.int (0 : Int32))) (by decide) rfl rfl (g := (mkF m 48 #[.val (.ref a1), .val (.ref c1), .val (.int (0 : Int32)), .val (.int n.toInt32), .val .null, .val (.ref t_170)] [(.int (0 : Int32)), (.ref a1)])) rfl rfl (hb hby d4_48)
    have O190 := Old.wr O176 W188 g1
    have K191 : Keep h0 h188 [a1] := K177.wr W188 (Or.inl (List.mem_of_getElem? (i := 0) rfl))
    have N192 := Fr.snoc X188 N181 g1
    have c193 := CHr.wr W188 S187 C179.1
    have C194 := CHr.trans C179 c193
    have S195 := CHr.safe c193 F182.lt S187
    have F189 : Fld Z h188 a1 "java/lang/String" "coder" "B" (.int (0 : Int32)) := Fld.same W188 F183
    refine WinW.to T188 (mkF m 51 #[.val (.ref a1), .val (.ref c1), .val (.int (0 : Int32)), .val (.int n.toInt32), .val .null, .val (.ref t_170)] []) (fun _ k => st188 _ k) ?_
    refine WinW.to T188 (mkF m 52 #[.val (.ref a1), .val (.ref c1), .val (.int (0 : Int32)), .val (.int n.toInt32), .val .null, .val (.ref t_170)] [(.ref a1)]) (fun _ k => XS.aloadN X188.here hx rfl (hb hby d4_51) rfl rfl k) ?_
    refine WinW.to T188 (mkF m 54 #[.val (.ref a1), .val (.ref c1), .val (.int (0 : Int32)), .val (.int n.toInt32), .val .null, .val (.ref t_170)] [(.ref t_170), (.ref a1)]) (fun _ k => XS.aload X188.here hx rfl (hb hby d4_52) rfl rfl k) ?_
    have F196 : Exa Z h188 a1 "java/lang/String" := (Exa.wr W188 F182)
    have F197 : Fld Z h188 a1 "java/lang/String" "value" "[B" .null := (Fld.other W188 F186 (Or.inr (slot_ne (Or.inr (hw _ (List.mem_of_getElem? (i := 36) rfl))) (Or.inr (hw _ (List.mem_of_getElem? (i := 34) rfl))) (by decide) (t := (.array .byte)) (t' := .byte) (by decide) (by decide))))
    obtain ⟨T198, h198, X198, e198, W198, st198⟩ := putF X188 hx hZ hown (host := "") (Or.inl (hw _ (List.mem_of_getElem? (i := 35) rfl))) Via.refl e188 F197 F196 (Or.inr ⟨(hw _ (List.mem_of_getElem? (i := 36) rfl)), rfl, hnm⟩) (hw _ (List.mem_of_getElem? (i := 5) rfl)) (ty := (.array .byte)) (by decide) rfl rfl (g := (mkF m 54 #[.val (.ref a1), .val (.ref c1), .val (.int (0 : Int32)), .val (.int n.toInt32), .val .null, .val (.ref t_170)] [(.ref t_170), (.ref a1)])) rfl rfl (hb hby d4_54)
    have O200 := Old.wr O190 W198 g1
    have K201 : Keep h0 h198 [a1] := K191.wr W198 (Or.inl (List.mem_of_getElem? (i := 0) rfl))
    have N202 := Fr.snoc X198 N192 g1
    have c203 := CHr.wr W198 S195 C194.1
    have C204 := CHr.trans C194 c203
    have S205 := CHr.safe c203 F196.lt S195
    have F199 : Fld Z h198 a1 "java/lang/String" "value" "[B" (.ref t_170) := Fld.same W198 F197
    refine WinW.to T198 (mkF m 57 #[.val (.ref a1), .val (.ref c1), .val (.int (0 : Int32)), .val (.int n.toInt32), .val .null, .val (.ref t_170)] []) (fun _ k => st198 _ k) ?_
    have F206 : Fld Z h198 a1 "java/lang/String" "coder" "B" (.int (0 : Int32)) := (Fld.other W198 F189 (Or.inr (slot_ne (Or.inr (hw _ (List.mem_of_getElem? (i := 34) rfl))) (Or.inr (hw _ (List.mem_of_getElem? (i := 36) rfl))) (by decide) (t := .byte) (t' := (.array .byte)) (by decide) (by decide))))
    have F207 : ArF Z h198 t_170 kb_170 .byte n (fun i => (f i).toInt8.toInt32) := ((r170_2.other W188 (Ne.symm ne172)).other W198 (Ne.symm ne172))
    exact WinW.retV X198 hS0 (by rw [e198]; exact (Nat.zero_le _)) hx hlk hret (hb hby d4_57) hZ (own_EW hw) (by rw [e198]; exact C204) (by decide) (by decide) (by (try rw [e198]); exact ⟨t_170, kb_170, rfl, N202, K201, F199, F206, F207⟩)
abbrev R_ctor1 : Room := ⟨3, 4, 8, 52⟩
set_option maxRecDepth 65536 in
set_option maxHeartbeats 40000000 in
theorem ctor1 (l : Launch) (Z : State) (a0 : Array Value) (hw : ∀ d ∈ tables_1, d.before a0 Z = true) (a1 : Addr) (c1 : Addr) (kc : ClassId) (n : Nat) (f : Nat → Int32) (cs : Int32) (h0 : Heap) (n0 : Nat) (O0 : Old Z n0 h0) (E1 : Exa Z h0 a1 "java/lang/String") (F1 : Fld Z h0 a1 "java/lang/String" "value" "[B" .null) (F2 : Fld Z h0 a1 "java/lang/String" "coder" "B" (.int (0 : Int32))) (Fc : ArF Z h0 c1 kc .char n f) (hp : ∀ i, i < n → ¬ (255 : Int32) < f i) (hcap : n ≤ 7) (g1 : n0 ≤ a1) (S_CS : Sta Z Z.heap "java/lang/String" "COMPACT_STRINGS" "Z" (.int cs)) (hcs : ¬ (cs = (0 : Int32))) :
    MetW l Z (⟨"java/lang/String", "<init>", "([C)V"⟩ : MethodName) jdk_42_method_3_code 2 none R_ctor1 [] #[(.ref a1), (.ref c1)] h0 EL1 (fun v h L => ∃ (t : Addr) (kb : ClassId), v = none ∧ Fr n0 L ∧ Keep h0 h [a1] ∧ Fld Z h a1 "java/lang/String" "value" "[B" (.ref t) ∧ Fld Z h a1 "java/lang/String" "coder" "B" (.int (0 : Int32)) ∧ ArF Z h t kb .byte n (fun i => (f i).toInt8.toInt32)) := by
  refine MetW.walk (plainFor_of_name pn_3) ?_
  intro p e s m below meth c s₁ hx hZ hby hml hown hnm hret hlk C0 hS0 X0 e0
  have N0 := Fr.nil n0
  refine WinW.to s₁ (mkF m 0 #[.val (.ref a1), .val (.ref c1)] []) (fun _ k => castTop (by first | (simp [entryFrame, mkF, argsToLocals, Value.category]; done) | rfl) k) ?_
  refine WinW.to s₁ (mkF m 1 #[.val (.ref a1), .val (.ref c1)] [(.ref a1)]) (fun _ k => XS.aloadN X0.here hx rfl (hb hby d3_0) rfl rfl k) ?_
  refine WinW.to s₁ (mkF m 2 #[.val (.ref a1), .val (.ref c1)] [(.ref c1), (.ref a1)]) (fun _ k => XS.aloadN X0.here hx rfl (hb hby d3_1) rfl rfl k) ?_
  refine WinW.to s₁ (mkF m 3 #[.val (.ref a1), .val (.ref c1)] [(.int (0 : Int32)), (.ref c1), (.ref a1)]) (fun _ k => XS.iconst X0.here hx rfl (hb hby d3_2) k) ?_
  refine WinW.to s₁ (mkF m 4 #[.val (.ref a1), .val (.ref c1)] [(.ref c1), (.int (0 : Int32)), (.ref c1), (.ref a1)]) (fun _ k => XS.aloadN X0.here hx rfl (hb hby d3_3) rfl rfl k) ?_
  obtain ⟨cl208, Ar208, hl208⟩ := ArF.len Fc
  refine WinW.to s₁ (mkF m 5 #[.val (.ref a1), .val (.ref c1)] [(.int n.toInt32), (.int (0 : Int32)), (.ref c1), (.ref a1)]) (fun _ k => X0.arraylength hx (by rw [e0]; exact Ar208.1) (State.isArrayOf_alike hZ.alike Ar208.2.1) (g := (mkF m 4 #[.val (.ref a1), .val (.ref c1)] [(.ref c1), (.int (0 : Int32)), (.ref c1), (.ref a1)])) rfl rfl (hb hby d3_4) _ (by rw [hl208]; exact k)) ?_
  refine WinW.to s₁ (mkF m 6 #[.val (.ref a1), .val (.ref c1)] [.null, (.int n.toInt32), (.int (0 : Int32)), (.ref c1), (.ref a1)]) (fun _ k => XS.aconstNull X0.here hx rfl (hb hby d3_5) k) ?_
  obtain ⟨T209, h209, v209, L209, k209, X209, e209, hS209, hk209, hZ209, hown209, ⟨t_209, kb_209, rfl, N209q, r209_0, r209_1, r209_2, r209_3⟩, c209, st209⟩ := W.special X0 hS0 (Nat.zero_le _) hx hZ (y := (⟨"java/lang/String", "<init>", "([CIILjava/lang/Void;)V"⟩ : MethodName)) rfl hown (hw _ (List.mem_of_getElem? (i := 14) rfl)) (hw _ (List.mem_of_getElem? (i := 15) rfl)) (hw _ (List.mem_of_getElem? (i := 6) rfl)) (hw _ (List.mem_of_getElem? (i := 17) rfl)) (by decide) (ctor4 l Z a0 hw a1 c1 kc n f cs h0 n0 O0 E1 F1 F2 Fc hp hcap g1 S_CS hcs) (own_EW hw) C0.1 e0 (g := (mkF m 6 #[.val (.ref a1), .val (.ref c1)] [.null, (.int n.toInt32), (.int (0 : Int32)), (.ref c1), (.ref a1)])) rfl (by rw [hml]; rfl) (a := a1) (argsL := [(.ref c1), (.int (0 : Int32)), (.int n.toInt32), .null]) (rest := []) rfl (lenOf pd___CIILjava_lang_Void__V rfl) rfl (W := 0) (by show 2 * 0 + _ ≤ _; exact Nat.le_of_eq rfl) (hb hby d3_6) (by decide) (by decide) (by decide) (by decide)
  have N210 := Fr.app N0 N209q
  have O211 := Old.keep O0 r209_0 (allS g1 all0)
  have K212 : Keep h0 h209 [a1] := Keep.trans (Keep.refl h0 [a1]) r209_0 (allS (Or.inl (List.mem_of_getElem? (i := 0) rfl)) all0)
  have c213 := c209
  have C214 := CHr.trans C0 c213
  refine WinW.to T209 (mkF m 9 #[.val (.ref a1), .val (.ref c1)] []) (fun _ k => st209 _ k) ?_
  exact WinW.retV X209 hS209 (by rw [e209]; exact hk209) hx hlk hret (hb hby d3_9) hZ209 (own_EW hw) (by rw [e209]; exact C214) (by decide) (by decide) (by (try rw [e209]); exact ⟨t_209, kb_209, rfl, N210, K212, r209_1, r209_2, r209_3⟩)
abbrev R_latEq : Room := ⟨0, 0, 0, 0⟩
set_option maxRecDepth 65536 in
set_option maxHeartbeats 40000000 in
theorem latEq (l : Launch) (Z : State) (a0 : Array Value) (hw : ∀ d ∈ tables_1, d.before a0 Z = true) (b1 : Addr) (b2 : Addr) (k1 : ClassId) (k2 : ClassId) (n1 : Nat) (n2 : Nat) (f1 : Nat → Int32) (f2 : Nat → Int32) (r : Int32) (h0 : Heap) (n0 : Nat) (O0 : Old Z n0 h0) (Fa : ArF Z h0 b1 k1 .byte n1 f1) (Fb : ArF Z h0 b2 k2 .byte n2 f2) (he1 : (n1 = n2 ∧ ∀ i, i < n1 → f1 i = f2 i) → r = 1) (he0 : ¬ (n1 = n2 ∧ ∀ i, i < n1 → f1 i = f2 i) → r = 0) :
    MetN l Z (⟨"java/lang/StringLatin1", "equals", "([B[B)Z"⟩ : MethodName) jdk_43_method_13_code 3 (some .boolean) R_latEq [] #[(.ref b1), (.ref b2)] h0 (fun v h L => v = some (.int r) ∧ Fr n0 L ∧ h = h0) := by
  refine MetN.walk (plainFor_of_name pn_31) ?_
  intro p e s m below meth c s₁ hx hZ hby hml hown hnm hret hlk X0 e0
  have N0 := Fr.nil n0
  refine Win.to s₁ (mkF m 0 #[.val (.ref b1), .val (.ref b2), .unset] []) (fun _ k => castTop (by first | (simp [entryFrame, mkF, argsToLocals, Value.category]; done) | rfl) k) ?_
  have hn1 := Fa.big
  have hn2 := Fb.big
  refine Win.to s₁ (mkF m 1 #[.val (.ref b1), .val (.ref b2), .unset] [(.ref b1)]) (fun _ k => XS.aloadN X0.here hx rfl (hb hby d31_0) rfl rfl k) ?_
  obtain ⟨cl215, Ar215, hl215⟩ := ArF.len Fa
  refine Win.to s₁ (mkF m 2 #[.val (.ref b1), .val (.ref b2), .unset] [(.int n1.toInt32)]) (fun _ k => X0.arraylength hx (by rw [e0]; exact Ar215.1) (State.isArrayOf_alike hZ.alike Ar215.2.1) (g := (mkF m 1 #[.val (.ref b1), .val (.ref b2), .unset] [(.ref b1)])) rfl rfl (hb hby d31_1) _ (by rw [hl215]; exact k)) ?_
  refine Win.to s₁ (mkF m 3 #[.val (.ref b1), .val (.ref b2), .unset] [(.ref b2), (.int n1.toInt32)]) (fun _ k => XS.aloadN X0.here hx rfl (hb hby d31_2) rfl rfl k) ?_
  obtain ⟨cl216, Ar216, hl216⟩ := ArF.len Fb
  refine Win.to s₁ (mkF m 4 #[.val (.ref b1), .val (.ref b2), .unset] [(.int n2.toInt32), (.int n1.toInt32)]) (fun _ k => X0.arraylength hx (by rw [e0]; exact Ar216.1) (State.isArrayOf_alike hZ.alike Ar216.2.1) (g := (mkF m 3 #[.val (.ref b1), .val (.ref b2), .unset] [(.ref b2), (.int n1.toInt32)])) rfl rfl (hb hby d31_3) _ (by rw [hl216]; exact k)) ?_
  by_cases hc217 : n1.toInt32 = n2.toInt32
  · refine Win.to s₁ (mkF m 7 #[.val (.ref b1), .val (.ref b2), .unset] []) (fun _ k => XS.icmpNo X0.here hx rfl (hb hby d31_4) rfl (teq hc217).2 k) ?_
    refine Win.to s₁ (mkF m 8 #[.val (.ref b1), .val (.ref b2), .unset] [(.int (0 : Int32))]) (fun _ k => XS.iconst X0.here hx rfl (hb hby d31_7) k) ?_
    refine Win.to s₁ (mkF m 9 #[.val (.ref b1), .val (.ref b2), .val (.int (0 : Int32))] []) (fun _ k => XS.istoreN X0.here hx rfl (hb hby d31_8) rfl (l' := #[.val (.ref b1), .val (.ref b2), .val (.int (0 : Int32))]) rfl k) ?_
    have hnn : n1 = n2 := own_inj hn1 hn2 hc217
    have loop : ∀ (q j : Nat), j + q = n1 → (∀ i, i < j → f1 i = f2 i) → Win p e below s R_latEq (fun v h L => v = some (.int r) ∧ Fr n0 L ∧ h = h0) (s₁.setTop (mkF m 9 #[.val (.ref b1), .val (.ref b2), .val (.int j.toInt32)] [])) := by
      intro q
      induction q with
      | zero =>
        intro j hj hall
        have hj0 : j = n1 := by omega
        have hall : ∀ i, i < n1 → f1 i = f2 i := fun i hi => hall i (by omega)
        refine Win.to s₁ (mkF m 10 #[.val (.ref b1), .val (.ref b2), .val (.int j.toInt32)] [(.int j.toInt32)]) (fun _ k => XS.iloadN X0.here hx rfl (hb hby d31_9) rfl k) ?_
        refine Win.to s₁ (mkF m 11 #[.val (.ref b1), .val (.ref b2), .val (.int j.toInt32)] [(.ref b1), (.int j.toInt32)]) (fun _ k => XS.aloadN X0.here hx rfl (hb hby d31_10) rfl rfl k) ?_
        obtain ⟨cl218, Ar218, hl218⟩ := ArF.len Fa
        refine Win.to s₁ (mkF m 12 #[.val (.ref b1), .val (.ref b2), .val (.int j.toInt32)] [(.int n1.toInt32), (.int j.toInt32)]) (fun _ k => X0.arraylength hx (by rw [e0]; exact Ar218.1) (State.isArrayOf_alike hZ.alike Ar218.2.1) (g := (mkF m 11 #[.val (.ref b1), .val (.ref b2), .val (.int j.toInt32)] [(.ref b1), (.int j.toInt32)])) rfl rfl (hb hby d31_11) _ (by rw [hl218]; exact k)) ?_
        refine Win.to s₁ (mkF m 32 #[.val (.ref b1), .val (.ref b2), .val (.int j.toInt32)] []) (fun _ k => XS.icmpYes X0.here hx rfl (pc0 := 12) (pc' := 32) rfl (hb hby d31_12) rfl (flt (show ¬ (j.toInt32 < n1.toInt32) from (by rw [hj0]; exact Int32.lt_irrefl))).2.1 (by decide) (by decide) k) ?_
        refine Win.to s₁ (mkF m 33 #[.val (.ref b1), .val (.ref b2), .val (.int j.toInt32)] [(.int (1 : Int32))]) (fun _ k => XS.iconst X0.here hx rfl (hb hby d31_32) k) ?_
        exact Win.retN X0 hx hlk (t := .boolean) hret (by simp) rfl (hb hby d31_33) (by decide) (by decide) (by (try rw [e0]); exact ⟨(own_eqi (he1 ⟨hnn, hall⟩)), N0, rfl⟩)
      | succ q ih =>
        intro j hj hall
        have hj1 : j < n1 := by omega
        have hj2 : j < 2 ^ 31 := by omega
        have hj3 : j < n2 := by omega
        refine Win.to s₁ (mkF m 10 #[.val (.ref b1), .val (.ref b2), .val (.int j.toInt32)] [(.int j.toInt32)]) (fun _ k => XS.iloadN X0.here hx rfl (hb hby d31_9) rfl k) ?_
        refine Win.to s₁ (mkF m 11 #[.val (.ref b1), .val (.ref b2), .val (.int j.toInt32)] [(.ref b1), (.int j.toInt32)]) (fun _ k => XS.aloadN X0.here hx rfl (hb hby d31_10) rfl rfl k) ?_
        obtain ⟨cl219, Ar219, hl219⟩ := ArF.len Fa
        refine Win.to s₁ (mkF m 12 #[.val (.ref b1), .val (.ref b2), .val (.int j.toInt32)] [(.int n1.toInt32), (.int j.toInt32)]) (fun _ k => X0.arraylength hx (by rw [e0]; exact Ar219.1) (State.isArrayOf_alike hZ.alike Ar219.2.1) (g := (mkF m 11 #[.val (.ref b1), .val (.ref b2), .val (.int j.toInt32)] [(.ref b1), (.int j.toInt32)])) rfl rfl (hb hby d31_11) _ (by rw [hl219]; exact k)) ?_
        refine Win.to s₁ (mkF m 15 #[.val (.ref b1), .val (.ref b2), .val (.int j.toInt32)] []) (fun _ k => XS.icmpNo X0.here hx rfl (hb hby d31_12) rfl (tlt (show j.toInt32 < n1.toInt32 from ((own_lt hj2 hn1).mpr hj1))).2.1 k) ?_
        refine Win.to s₁ (mkF m 16 #[.val (.ref b1), .val (.ref b2), .val (.int j.toInt32)] [(.ref b1)]) (fun _ k => XS.aloadN X0.here hx rfl (hb hby d31_15) rfl rfl k) ?_
        refine Win.to s₁ (mkF m 17 #[.val (.ref b1), .val (.ref b2), .val (.int j.toInt32)] [(.int j.toInt32), (.ref b1)]) (fun _ k => XS.iloadN X0.here hx rfl (hb hby d31_16) rfl k) ?_
        obtain ⟨cl220, Ar220, hi220, ha220⟩ := ArF.at Fa (j := j.toInt32) (i := j) (own_tn hj2).1 (own_tn hj2).2.1 hj1
        refine Win.to s₁ (mkF m 18 #[.val (.ref b1), .val (.ref b2), .val (.int j.toInt32)] [(.int (f1 j))]) (fun _ k => X0.baloadBytes hx (j := j.toInt32) (v := (.int (f1 j))) (by rw [e0]; exact Ar220.1) (State.isArrayOf_alike hZ.alike Ar220.2.1) Ar220.2.2 hi220 ha220 (g := (mkF m 17 #[.val (.ref b1), .val (.ref b2), .val (.int j.toInt32)] [(.int j.toInt32), (.ref b1)])) rfl rfl (hb hby d31_17) _ k) ?_
        refine Win.to s₁ (mkF m 19 #[.val (.ref b1), .val (.ref b2), .val (.int j.toInt32)] [(.ref b2), (.int (f1 j))]) (fun _ k => XS.aloadN X0.here hx rfl (hb hby d31_18) rfl rfl k) ?_
        refine Win.to s₁ (mkF m 20 #[.val (.ref b1), .val (.ref b2), .val (.int j.toInt32)] [(.int j.toInt32), (.ref b2), (.int (f1 j))]) (fun _ k => XS.iloadN X0.here hx rfl (hb hby d31_19) rfl k) ?_
        obtain ⟨cl221, Ar221, hi221, ha221⟩ := ArF.at Fb (j := j.toInt32) (i := j) (own_tn hj2).1 (own_tn hj2).2.1 hj3
        refine Win.to s₁ (mkF m 21 #[.val (.ref b1), .val (.ref b2), .val (.int j.toInt32)] [(.int (f2 j)), (.int (f1 j))]) (fun _ k => X0.baloadBytes hx (j := j.toInt32) (v := (.int (f2 j))) (by rw [e0]; exact Ar221.1) (State.isArrayOf_alike hZ.alike Ar221.2.1) Ar221.2.2 hi221 ha221 (g := (mkF m 20 #[.val (.ref b1), .val (.ref b2), .val (.int j.toInt32)] [(.int j.toInt32), (.ref b2), (.int (f1 j))])) rfl rfl (hb hby d31_20) _ k) ?_
        by_cases hc222 : (f1 j) = (f2 j)
        · refine Win.to s₁ (mkF m 26 #[.val (.ref b1), .val (.ref b2), .val (.int j.toInt32)] []) (fun _ k => XS.icmpYes X0.here hx rfl (pc0 := 21) (pc' := 26) rfl (hb hby d31_21) rfl (teq hc222).1 (by decide) (by decide) k) ?_
          refine Win.to s₁ (mkF m 29 #[.val (.ref b1), .val (.ref b2), .val (.int (j.toInt32 + (1 : Int32)))] []) (fun _ k => XS.iinc X0.here hx rfl (hb hby d31_26) rfl (l' := #[.val (.ref b1), .val (.ref b2), .val (.int (j.toInt32 + (1 : Int32)))]) rfl k) ?_
          refine Win.to s₁ (mkF m 9 #[.val (.ref b1), .val (.ref b2), .val (.int (j.toInt32 + (1 : Int32)))] []) (fun _ k => XS.goto X0.here hx rfl (pc0 := 29) (pc' := 9) rfl (hb hby d31_29) (by decide) (by decide) k) ?_
          rw [own_succ j]
          refine ih (j + 1) (by omega) (fun i hi => ?_)
          rcases Nat.lt_succ_iff_lt_or_eq.mp hi with q | q
          · exact hall i q
          · rw [q]; exact hc222
        · refine Win.to s₁ (mkF m 24 #[.val (.ref b1), .val (.ref b2), .val (.int j.toInt32)] []) (fun _ k => XS.icmpNo X0.here hx rfl (hb hby d31_21) rfl (feq hc222).1 k) ?_
          refine Win.to s₁ (mkF m 25 #[.val (.ref b1), .val (.ref b2), .val (.int j.toInt32)] [(.int (0 : Int32))]) (fun _ k => XS.iconst X0.here hx rfl (hb hby d31_24) k) ?_
          exact Win.retN X0 hx hlk (t := .boolean) hret (by simp) rfl (hb hby d31_25) (by decide) (by decide) (by (try rw [e0]); exact ⟨(own_eqi (he0 fun q => hc222 (q.2 j hj1))), N0, rfl⟩)
    exact loop n1 0 (by omega) (fun i hi => absurd hi (Nat.not_lt_zero _))
  · refine Win.to s₁ (mkF m 34 #[.val (.ref b1), .val (.ref b2), .unset] []) (fun _ k => XS.icmpYes X0.here hx rfl (pc0 := 4) (pc' := 34) rfl (hb hby d31_4) rfl (feq hc217).2 (by decide) (by decide) k) ?_
    refine Win.to s₁ (mkF m 35 #[.val (.ref b1), .val (.ref b2), .unset] [(.int (0 : Int32))]) (fun _ k => XS.iconst X0.here hx rfl (hb hby d31_34) k) ?_
    exact Win.retN X0 hx hlk (t := .boolean) hret (by simp) rfl (hb hby d31_35) (by decide) (by decide) (by (try rw [e0]); exact ⟨(own_eqi (he0 fun q => hc217 (by rw [q.1]))), N0, rfl⟩)
abbrev R_strEq : Room := ⟨1, 0, 0, 14⟩
set_option maxRecDepth 65536 in
set_option maxHeartbeats 40000000 in
theorem strEq (l : Launch) (Z : State) (a0 : Array Value) (hw : ∀ d ∈ tables_1, d.before a0 Z = true) (a1 : Addr) (a2 : Addr) (t1 : Addr) (t2 : Addr) (k1 : ClassId) (k2 : ClassId) (n1 : Nat) (n2 : Nat) (f1 : Nat → Int32) (f2 : Nat → Int32) (r : Int32) (cs : Int32) (h0 : Heap) (n0 : Nat) (O0 : Old Z n0 h0) (E2 : Exa Z h0 a2 "java/lang/String") (F1 : Fld Z h0 a1 "java/lang/String" "value" "[B" (.ref t1)) (F2 : Fld Z h0 a1 "java/lang/String" "coder" "B" (.int (0 : Int32))) (F3 : Fld Z h0 a2 "java/lang/String" "value" "[B" (.ref t2)) (F4 : Fld Z h0 a2 "java/lang/String" "coder" "B" (.int (0 : Int32))) (Fa : ArF Z h0 t1 k1 .byte n1 f1) (Fb : ArF Z h0 t2 k2 .byte n2 f2) (he1 : (n1 = n2 ∧ ∀ i, i < n1 → f1 i = f2 i) → r = 1) (he0 : ¬ (n1 = n2 ∧ ∀ i, i < n1 → f1 i = f2 i) → r = 0) (S_CS : Sta Z Z.heap "java/lang/String" "COMPACT_STRINGS" "Z" (.int cs)) (hcs : ¬ (cs = (0 : Int32))) :
    MetN l Z (⟨"java/lang/String", "equals", "(Ljava/lang/Object;)Z"⟩ : MethodName) jdk_42_method_66_code 3 (some .boolean) R_strEq [] #[(.ref a1), (.ref a2)] h0 (fun v h L => v = some (.int r) ∧ Fr n0 L ∧ h = h0) := by
  refine MetN.walk (plainFor_of_name pn_30) ?_
  intro p e s m below meth c s₁ hx hZ hby hml hown hnm hret hlk X0 e0
  have N0 := Fr.nil n0
  refine Win.to s₁ (mkF m 0 #[.val (.ref a1), .val (.ref a2), .unset] []) (fun _ k => castTop (by first | (simp [entryFrame, mkF, argsToLocals, Value.category]; done) | rfl) k) ?_
  refine Win.to s₁ (mkF m 1 #[.val (.ref a1), .val (.ref a2), .unset] [(.ref a1)]) (fun _ k => XS.aloadN X0.here hx rfl (hb hby d30_0) rfl rfl k) ?_
  refine Win.to s₁ (mkF m 2 #[.val (.ref a1), .val (.ref a2), .unset] [(.ref a2), (.ref a1)]) (fun _ k => XS.aloadN X0.here hx rfl (hb hby d30_1) rfl rfl k) ?_
  by_cases hc223 : a1 = a2
  · refine Win.to s₁ (mkF m 5 #[.val (.ref a1), .val (.ref a2), .unset] []) (fun _ k => Jvm.RoadKit.acmp (g := (mkF m 2 #[.val (.ref a1), .val (.ref a2), .unset] [(.ref a2), (.ref a1)])) X0 hx rfl rfl rfl (pc0 := 2) (pc' := 5) (same := true) rfl (hb hby d30_2) rfl (decide_eq_true (congrArg Value.ref hc223)) (by decide) (by decide) k) ?_
    refine Win.to s₁ (mkF m 6 #[.val (.ref a1), .val (.ref a2), .unset] [(.int (1 : Int32))]) (fun _ k => XS.iconst X0.here hx rfl (hb hby d30_5) k) ?_
    exact Win.retN X0 hx hlk (t := .boolean) hret (by simp) rfl (hb hby d30_6) (by decide) (by decide) (by (try rw [e0]); exact ⟨(own_eqi (he1 (own_same hc223 F1 F3 Fa Fb))), N0, rfl⟩)
  · refine Win.to s₁ (mkF m 7 #[.val (.ref a1), .val (.ref a2), .unset] []) (fun _ k => Jvm.RoadKit.acmp (g := (mkF m 2 #[.val (.ref a1), .val (.ref a2), .unset] [(.ref a2), (.ref a1)])) X0 hx rfl rfl rfl (pc0 := 2) (pc' := 7) (same := false) rfl (hb hby d30_2) rfl (decide_eq_false fun q => hc223 (Value.ref.inj q)) (by decide) (by decide) k) ?_
    refine Win.to s₁ (mkF m 8 #[.val (.ref a1), .val (.ref a2), .unset] [(.ref a2)]) (fun _ k => XS.aloadN X0.here hx rfl (hb hby d30_7) rfl rfl k) ?_
    obtain ⟨T224, X224, e224, st224⟩ := instY X0 hx hZ hown (hw _ (List.mem_of_getElem? (i := 152) rfl)) e0 (Ins.self E2) (g := (mkF m 8 #[.val (.ref a1), .val (.ref a2), .unset] [(.ref a2)])) rfl rfl (hb hby d30_8)
    refine Win.to T224 (mkF m 11 #[.val (.ref a1), .val (.ref a2), .unset] [(.int (1 : Int32))]) (fun _ k => st224 _ k) ?_
    refine Win.to T224 (mkF m 14 #[.val (.ref a1), .val (.ref a2), .unset] []) (fun _ k => XS.ifNo X224.here hx rfl (hb hby d30_11) rfl ((if0 _ _).trans (feq (show ¬ ((1 : Int32) = (0 : Int32)) from by decide)).1) k) ?_
    refine Win.to T224 (mkF m 15 #[.val (.ref a1), .val (.ref a2), .unset] [(.ref a2)]) (fun _ k => XS.aloadN X224.here hx rfl (hb hby d30_14) rfl rfl k) ?_
    obtain ⟨T225, X225, e225, st225⟩ := castY X224 hx hZ hown (hw _ (List.mem_of_getElem? (i := 152) rfl)) e224 (Ins.self E2) (g := (mkF m 15 #[.val (.ref a1), .val (.ref a2), .unset] [(.ref a2)])) rfl rfl (hb hby d30_15)
    refine Win.to T225 (mkF m 18 #[.val (.ref a1), .val (.ref a2), .unset] [(.ref a2)]) (fun _ k => st225 _ k) ?_
    refine Win.to T225 (mkF m 19 #[.val (.ref a1), .val (.ref a2), .val (.ref a2)] []) (fun _ k => XS.astoreN X225.here hx rfl (hb hby d30_18) rfl rfl (l' := #[.val (.ref a1), .val (.ref a2), .val (.ref a2)]) rfl k) ?_
    obtain ⟨T226, X226, e226, st226⟩ := getS2 X225 hx hZ hown (host := "") (Or.inl (hw _ (List.mem_of_getElem? (i := 21) rfl))) Via.refl e225 (Sta.ext O0.2 S_CS) (g := (mkF m 19 #[.val (.ref a1), .val (.ref a2), .val (.ref a2)] [])) rfl (hb hby d30_19)
    refine Win.to T226 (mkF m 22 #[.val (.ref a1), .val (.ref a2), .val (.ref a2)] [(.int cs)]) (fun _ k => st226 _ k) ?_
    refine Win.to T226 (mkF m 25 #[.val (.ref a1), .val (.ref a2), .val (.ref a2)] []) (fun _ k => XS.ifNo X226.here hx rfl (hb hby d30_22) rfl ((if0 _ _).trans (feq (show ¬ (cs = (0 : Int32)) from hcs)).1) k) ?_
    refine Win.to T226 (mkF m 26 #[.val (.ref a1), .val (.ref a2), .val (.ref a2)] [(.ref a1)]) (fun _ k => XS.aloadN X226.here hx rfl (hb hby d30_25) rfl rfl k) ?_
    obtain ⟨T227, X227, e227, st227⟩ := getF X226 hx hZ hown (host := "") (Or.inl (hw _ (List.mem_of_getElem? (i := 33) rfl))) Via.refl e226 F2 (g := (mkF m 26 #[.val (.ref a1), .val (.ref a2), .val (.ref a2)] [(.ref a1)])) rfl rfl (hb hby d30_26)
    refine Win.to T227 (mkF m 29 #[.val (.ref a1), .val (.ref a2), .val (.ref a2)] [(.int (0 : Int32))]) (fun _ k => st227 _ k) ?_
    refine Win.to T227 (mkF m 30 #[.val (.ref a1), .val (.ref a2), .val (.ref a2)] [(.ref a2), (.int (0 : Int32))]) (fun _ k => XS.aloadN X227.here hx rfl (hb hby d30_29) rfl rfl k) ?_
    obtain ⟨T228, X228, e228, st228⟩ := getF X227 hx hZ hown (host := "") (Or.inl (hw _ (List.mem_of_getElem? (i := 33) rfl))) Via.refl e227 F4 (g := (mkF m 30 #[.val (.ref a1), .val (.ref a2), .val (.ref a2)] [(.ref a2), (.int (0 : Int32))])) rfl rfl (hb hby d30_30)
    refine Win.to T228 (mkF m 33 #[.val (.ref a1), .val (.ref a2), .val (.ref a2)] [(.int (0 : Int32)), (.int (0 : Int32))]) (fun _ k => st228 _ k) ?_
    refine Win.to T228 (mkF m 36 #[.val (.ref a1), .val (.ref a2), .val (.ref a2)] []) (fun _ k => XS.icmpNo X228.here hx rfl (hb hby d30_33) rfl (teq (show (0 : Int32) = (0 : Int32) from by decide)).2 k) ?_
    refine Win.to T228 (mkF m 37 #[.val (.ref a1), .val (.ref a2), .val (.ref a2)] [(.ref a1)]) (fun _ k => XS.aloadN X228.here hx rfl (hb hby d30_36) rfl rfl k) ?_
    obtain ⟨T229, X229, e229, st229⟩ := getF X228 hx hZ hown (host := "") (Or.inl (hw _ (List.mem_of_getElem? (i := 35) rfl))) Via.refl e228 F1 (g := (mkF m 37 #[.val (.ref a1), .val (.ref a2), .val (.ref a2)] [(.ref a1)])) rfl rfl (hb hby d30_37)
    refine Win.to T229 (mkF m 40 #[.val (.ref a1), .val (.ref a2), .val (.ref a2)] [(.ref t1)]) (fun _ k => st229 _ k) ?_
    refine Win.to T229 (mkF m 41 #[.val (.ref a1), .val (.ref a2), .val (.ref a2)] [(.ref a2), (.ref t1)]) (fun _ k => XS.aloadN X229.here hx rfl (hb hby d30_40) rfl rfl k) ?_
    obtain ⟨T230, X230, e230, st230⟩ := getF X229 hx hZ hown (host := "") (Or.inl (hw _ (List.mem_of_getElem? (i := 35) rfl))) Via.refl e229 F3 (g := (mkF m 41 #[.val (.ref a1), .val (.ref a2), .val (.ref a2)] [(.ref a2), (.ref t1)])) rfl rfl (hb hby d30_41)
    refine Win.to T230 (mkF m 44 #[.val (.ref a1), .val (.ref a2), .val (.ref a2)] [(.ref t2), (.ref t1)]) (fun _ k => st230 _ k) ?_
    obtain ⟨T231, h231, v231, L231, X231, e231, ⟨rfl, N231q, r231_0⟩, st231⟩ := N.static X230 hx hZ (y := (⟨"java/lang/StringLatin1", "equals", "([B[B)Z"⟩ : MethodName)) hown (hw _ (List.mem_of_getElem? (i := 153) rfl)) (hw _ (List.mem_of_getElem? (i := 154) rfl)) (hw _ (List.mem_of_getElem? (i := 115) rfl)) (hw _ (List.mem_of_getElem? (i := 155) rfl)) (by decide) (latEq l Z a0 hw t1 t2 k1 k2 n1 n2 f1 f2 r h0 n0 O0 Fa Fb he1 he0) e230 (g := (mkF m 44 #[.val (.ref a1), .val (.ref a2), .val (.ref a2)] [(.ref t2), (.ref t1)])) rfl (by rw [hml]; rfl) (argsL := [(.ref t1), (.ref t2)]) (rest := []) rfl (lenOf pd___B_B_Z rfl) rfl (W := 0) (by show 2 * 0 + _ ≤ _; exact Nat.le_of_eq rfl) (hb hby d30_44) (by decide) (by decide) (by decide) (by decide)
    have N232 := Fr.app N0 N231q
    have e231 := e231.trans r231_0
    refine Win.to T231 (mkF m 47 #[.val (.ref a1), .val (.ref a2), .val (.ref a2)] [(.int r)]) (fun _ k => st231 _ k) ?_
    have hr : r = 0 ∨ r = 1 := by
      by_cases q : (n1 = n2 ∧ ∀ i, i < n1 → f1 i = f2 i)
      · exact Or.inr (he1 q)
      · exact Or.inl (he0 q)
    rcases hr with hr | hr
    · rw [hr]
      refine Win.to T231 (mkF m 54 #[.val (.ref a1), .val (.ref a2), .val (.ref a2)] []) (fun _ k => XS.ifYes X231.here hx rfl (pc0 := 47) (pc' := 54) rfl (hb hby d30_47) rfl ((if0 _ _).trans (teq (show (0 : Int32) = (0 : Int32) from by decide)).1) (by decide) (by decide) k) ?_
      refine Win.to T231 (mkF m 55 #[.val (.ref a1), .val (.ref a2), .val (.ref a2)] [(.int (0 : Int32))]) (fun _ k => XS.iconst X231.here hx rfl (hb hby d30_54) k) ?_
      exact Win.retN X231 hx hlk (t := .boolean) hret (by simp) rfl (hb hby d30_55) (by decide) (by decide) (by (try rw [e231]); exact ⟨rfl, N232, rfl⟩)
    · rw [hr]
      refine Win.to T231 (mkF m 50 #[.val (.ref a1), .val (.ref a2), .val (.ref a2)] []) (fun _ k => XS.ifNo X231.here hx rfl (hb hby d30_47) rfl ((if0 _ _).trans (feq (show ¬ ((1 : Int32) = (0 : Int32)) from by decide)).1) k) ?_
      refine Win.to T231 (mkF m 51 #[.val (.ref a1), .val (.ref a2), .val (.ref a2)] [(.int (1 : Int32))]) (fun _ k => XS.iconst X231.here hx rfl (hb hby d30_50) k) ?_
      refine Win.to T231 (mkF m 55 #[.val (.ref a1), .val (.ref a2), .val (.ref a2)] [(.int (1 : Int32))]) (fun _ k => XS.goto X231.here hx rfl (pc0 := 51) (pc' := 55) rfl (hb hby d30_51) (by decide) (by decide) k) ?_
      exact Win.retN X231 hx hlk (t := .boolean) hret (by simp) rfl (hb hby d30_55) (by decide) (by decide) (by (try rw [e231]); exact ⟨rfl, N232, rfl⟩)
abbrev R_minI : Room := ⟨0, 0, 0, 0⟩
set_option maxRecDepth 65536 in
set_option maxHeartbeats 40000000 in
theorem minI (l : Launch) (Z : State) (a0 : Array Value) (hw : ∀ d ∈ tables_1, d.before a0 Z = true) (p1 : Int32) (p2 : Int32) (r : Int32) (h0 : Heap) (n0 : Nat) (O0 : Old Z n0 h0) (h1 : p2 < p1 → r = p2) (h2 : ¬ p2 < p1 → r = p1) :
    MetN l Z (⟨"java/lang/Math", "min", "(II)I"⟩ : MethodName) jdk_29_method_69_code 2 (some .int) R_minI [] #[(.int p1), (.int p2)] h0 (fun v h L => v = some (.int r) ∧ Fr n0 L ∧ h = h0) := by
  refine MetN.walk (Jvm.Free.JP.mathPlain rfl (by decide +kernel)) ?_
  intro p e s m below meth c s₁ hx hZ hby hml hown hnm hret hlk X0 e0
  have N0 := Fr.nil n0
  refine Win.to s₁ (mkF m 0 #[.val (.int p1), .val (.int p2)] []) (fun _ k => castTop (by first | (simp [entryFrame, mkF, argsToLocals, Value.category]; done) | rfl) k) ?_
  refine Win.to s₁ (mkF m 1 #[.val (.int p1), .val (.int p2)] [(.int p1)]) (fun _ k => XS.iloadN X0.here hx rfl (hb hby d24_0) rfl k) ?_
  refine Win.to s₁ (mkF m 2 #[.val (.int p1), .val (.int p2)] [(.int p2), (.int p1)]) (fun _ k => XS.iloadN X0.here hx rfl (hb hby d24_1) rfl k) ?_
  by_cases hc233 : p2 < p1
  · refine Win.to s₁ (mkF m 9 #[.val (.int p1), .val (.int p2)] []) (fun _ k => XS.icmpYes X0.here hx rfl (pc0 := 2) (pc' := 9) rfl (hb hby d24_2) rfl (tlt hc233).2.2.1 (by decide) (by decide) k) ?_
    refine Win.to s₁ (mkF m 10 #[.val (.int p1), .val (.int p2)] [(.int p2)]) (fun _ k => XS.iloadN X0.here hx rfl (hb hby d24_9) rfl k) ?_
    exact Win.retI X0 hx hlk hret (hb hby d24_10) (by decide) (by decide) (by (try rw [e0]); exact ⟨(own_eqi (h1 hc233)), N0, rfl⟩)
  · refine Win.to s₁ (mkF m 5 #[.val (.int p1), .val (.int p2)] []) (fun _ k => XS.icmpNo X0.here hx rfl (hb hby d24_2) rfl (flt hc233).2.2.1 k) ?_
    refine Win.to s₁ (mkF m 6 #[.val (.int p1), .val (.int p2)] [(.int p1)]) (fun _ k => XS.iloadN X0.here hx rfl (hb hby d24_5) rfl k) ?_
    refine Win.to s₁ (mkF m 10 #[.val (.int p1), .val (.int p2)] [(.int p1)]) (fun _ k => XS.goto X0.here hx rfl (pc0 := 6) (pc' := 10) rfl (hb hby d24_6) (by decide) (by decide) k) ?_
    exact Win.retI X0 hx hlk hret (hb hby d24_10) (by decide) (by decide) (by (try rw [e0]); exact ⟨(own_eqi (h2 hc233)), N0, rfl⟩)
abbrev R_maxI : Room := ⟨0, 0, 0, 0⟩
set_option maxRecDepth 65536 in
set_option maxHeartbeats 40000000 in
theorem maxI (l : Launch) (Z : State) (a0 : Array Value) (hw : ∀ d ∈ tables_1, d.before a0 Z = true) (p1 : Int32) (p2 : Int32) (r : Int32) (h0 : Heap) (n0 : Nat) (O0 : Old Z n0 h0) (h1 : p1 < p2 → r = p2) (h2 : ¬ p1 < p2 → r = p1) :
    MetN l Z (⟨"java/lang/Math", "max", "(II)I"⟩ : MethodName) jdk_29_method_65_code 2 (some .int) R_maxI [] #[(.int p1), (.int p2)] h0 (fun v h L => v = some (.int r) ∧ Fr n0 L ∧ h = h0) := by
  refine MetN.walk (Jvm.Free.JP.mathPlain rfl (by decide +kernel)) ?_
  intro p e s m below meth c s₁ hx hZ hby hml hown hnm hret hlk X0 e0
  have N0 := Fr.nil n0
  refine Win.to s₁ (mkF m 0 #[.val (.int p1), .val (.int p2)] []) (fun _ k => castTop (by first | (simp [entryFrame, mkF, argsToLocals, Value.category]; done) | rfl) k) ?_
  refine Win.to s₁ (mkF m 1 #[.val (.int p1), .val (.int p2)] [(.int p1)]) (fun _ k => XS.iloadN X0.here hx rfl (hb hby d23_0) rfl k) ?_
  refine Win.to s₁ (mkF m 2 #[.val (.int p1), .val (.int p2)] [(.int p2), (.int p1)]) (fun _ k => XS.iloadN X0.here hx rfl (hb hby d23_1) rfl k) ?_
  by_cases hc234 : p1 < p2
  · refine Win.to s₁ (mkF m 9 #[.val (.int p1), .val (.int p2)] []) (fun _ k => XS.icmpYes X0.here hx rfl (pc0 := 2) (pc' := 9) rfl (hb hby d23_2) rfl (tlt hc234).1 (by decide) (by decide) k) ?_
    refine Win.to s₁ (mkF m 10 #[.val (.int p1), .val (.int p2)] [(.int p2)]) (fun _ k => XS.iloadN X0.here hx rfl (hb hby d23_9) rfl k) ?_
    exact Win.retI X0 hx hlk hret (hb hby d23_10) (by decide) (by decide) (by (try rw [e0]); exact ⟨(own_eqi (h1 hc234)), N0, rfl⟩)
  · refine Win.to s₁ (mkF m 5 #[.val (.int p1), .val (.int p2)] []) (fun _ k => XS.icmpNo X0.here hx rfl (hb hby d23_2) rfl (flt hc234).1 k) ?_
    refine Win.to s₁ (mkF m 6 #[.val (.int p1), .val (.int p2)] [(.int p1)]) (fun _ k => XS.iloadN X0.here hx rfl (hb hby d23_5) rfl k) ?_
    refine Win.to s₁ (mkF m 10 #[.val (.int p1), .val (.int p2)] [(.int p1)]) (fun _ k => XS.goto X0.here hx rfl (pc0 := 6) (pc' := 10) rfl (hb hby d23_6) (by decide) (by decide) k) ?_
    exact Win.retI X0 hx hlk hret (hb hby d23_10) (by decide) (by decide) (by (try rw [e0]); exact ⟨(own_eqi (h2 hc234)), N0, rfl⟩)
abbrev R_coderM : Room := ⟨0, 0, 0, 0⟩
set_option maxRecDepth 65536 in
set_option maxHeartbeats 40000000 in
theorem coderM (l : Launch) (Z : State) (a0 : Array Value) (hw : ∀ d ∈ tables_1, d.before a0 Z = true) (a1 : Addr) (cs : Int32) (h0 : Heap) (n0 : Nat) (O0 : Old Z n0 h0) (F2 : Fld Z h0 a1 "java/lang/String" "coder" "B" (.int (0 : Int32))) (S_CS : Sta Z Z.heap "java/lang/String" "COMPACT_STRINGS" "Z" (.int cs)) (hcs : ¬ (cs = (0 : Int32))) :
    MetN l Z (⟨"java/lang/String", "coder", "()B"⟩ : MethodName) jdk_42_method_152_code 1 (some .byte) R_coderM [] #[(.ref a1)] h0 (fun v h L => v = some (.int (0 : Int32)) ∧ Fr n0 L ∧ h = h0) := by
  refine MetN.walk (plainFor_of_name pn_20) ?_
  intro p e s m below meth c s₁ hx hZ hby hml hown hnm hret hlk X0 e0
  have N0 := Fr.nil n0
  refine Win.to s₁ (mkF m 0 #[.val (.ref a1)] []) (fun _ k => castTop (by first | (simp [entryFrame, mkF, argsToLocals, Value.category]; done) | rfl) k) ?_
  obtain ⟨T235, X235, e235, st235⟩ := getS2 X0 hx hZ hown (host := "") (Or.inl (hw _ (List.mem_of_getElem? (i := 21) rfl))) Via.refl e0 (Sta.ext O0.2 S_CS) (g := (mkF m 0 #[.val (.ref a1)] [])) rfl (hb hby d20_0)
  refine Win.to T235 (mkF m 3 #[.val (.ref a1)] [(.int cs)]) (fun _ k => st235 _ k) ?_
  refine Win.to T235 (mkF m 6 #[.val (.ref a1)] []) (fun _ k => XS.ifNo X235.here hx rfl (hb hby d20_3) rfl ((if0 _ _).trans (feq (show ¬ (cs = (0 : Int32)) from hcs)).1) k) ?_
  refine Win.to T235 (mkF m 7 #[.val (.ref a1)] [(.ref a1)]) (fun _ k => XS.aloadN X235.here hx rfl (hb hby d20_6) rfl rfl k) ?_
  obtain ⟨T236, X236, e236, st236⟩ := getF X235 hx hZ hown (host := "") (Or.inl (hw _ (List.mem_of_getElem? (i := 33) rfl))) Via.refl e235 F2 (g := (mkF m 7 #[.val (.ref a1)] [(.ref a1)])) rfl rfl (hb hby d20_7)
  refine Win.to T236 (mkF m 10 #[.val (.ref a1)] [(.int (0 : Int32))]) (fun _ k => st236 _ k) ?_
  refine Win.to T236 (mkF m 14 #[.val (.ref a1)] [(.int (0 : Int32))]) (fun _ k => XS.goto X236.here hx rfl (pc0 := 10) (pc' := 14) rfl (hb hby d20_10) (by decide) (by decide) k) ?_
  exact Win.retN X236 hx hlk (t := .byte) hret (by simp) rfl (hb hby d20_14) (by decide) (by decide) (by (try rw [e236]); exact ⟨rfl, N0, rfl⟩)
abbrev R_strLen : Room := ⟨1, 0, 0, 13⟩
set_option maxRecDepth 65536 in
set_option maxHeartbeats 40000000 in
theorem strLen (l : Launch) (Z : State) (a0 : Array Value) (hw : ∀ d ∈ tables_1, d.before a0 Z = true) (a1 : Addr) (t1 : Addr) (k1 : ClassId) (n : Nat) (f : Nat → Int32) (cs : Int32) (h0 : Heap) (n0 : Nat) (O0 : Old Z n0 h0) (E1 : Exa Z h0 a1 "java/lang/String") (F1 : Fld Z h0 a1 "java/lang/String" "value" "[B" (.ref t1)) (F2 : Fld Z h0 a1 "java/lang/String" "coder" "B" (.int (0 : Int32))) (Fa : ArF Z h0 t1 k1 .byte n f) (S_CS : Sta Z Z.heap "java/lang/String" "COMPACT_STRINGS" "Z" (.int cs)) (hcs : ¬ (cs = (0 : Int32))) :
    MetN l Z (⟨"java/lang/String", "length", "()I"⟩ : MethodName) jdk_42_method_54_code 1 (some .int) R_strLen [] #[(.ref a1)] h0 (fun v h L => v = some (.int n.toInt32) ∧ Fr n0 L ∧ h = h0) := by
  refine MetN.walk (plainFor_of_name pn_19) ?_
  intro p e s m below meth c s₁ hx hZ hby hml hown hnm hret hlk X0 e0
  have N0 := Fr.nil n0
  refine Win.to s₁ (mkF m 0 #[.val (.ref a1)] []) (fun _ k => castTop (by first | (simp [entryFrame, mkF, argsToLocals, Value.category]; done) | rfl) k) ?_
  refine Win.to s₁ (mkF m 1 #[.val (.ref a1)] [(.ref a1)]) (fun _ k => XS.aloadN X0.here hx rfl (hb hby d19_0) rfl rfl k) ?_
  obtain ⟨T237, X237, e237, st237⟩ := getF X0 hx hZ hown (host := "") (Or.inl (hw _ (List.mem_of_getElem? (i := 35) rfl))) Via.refl e0 F1 (g := (mkF m 1 #[.val (.ref a1)] [(.ref a1)])) rfl rfl (hb hby d19_1)
  refine Win.to T237 (mkF m 4 #[.val (.ref a1)] [(.ref t1)]) (fun _ k => st237 _ k) ?_
  obtain ⟨cl238, Ar238, hl238⟩ := ArF.len Fa
  refine Win.to T237 (mkF m 5 #[.val (.ref a1)] [(.int n.toInt32)]) (fun _ k => X237.arraylength hx (by rw [e237]; exact Ar238.1) (State.isArrayOf_alike hZ.alike Ar238.2.1) (g := (mkF m 4 #[.val (.ref a1)] [(.ref t1)])) rfl rfl (hb hby d19_4) _ (by rw [hl238]; exact k)) ?_
  refine Win.to T237 (mkF m 6 #[.val (.ref a1)] [(.ref a1), (.int n.toInt32)]) (fun _ k => XS.aloadN X237.here hx rfl (hb hby d19_5) rfl rfl k) ?_
  obtain ⟨T239, h239, v239, L239, X239, e239, ⟨rfl, N239q, r239_0⟩, st239⟩ := N.virtual X237 hx hZ (y := (⟨"java/lang/String", "coder", "()B"⟩ : MethodName)) (z := (⟨"java/lang/String", "coder", "()B"⟩ : MethodName)) hown (hw _ (List.mem_of_getElem? (i := 108) rfl)) (hw _ (List.mem_of_getElem? (i := 109) rfl)) (notFace_of_selects (args := #[]) (mvT hZ (hw _ (List.mem_of_getElem? (i := 111) rfl)))) (hw _ (List.mem_of_getElem? (i := 111) rfl)) (hw _ (List.mem_of_getElem? (i := 110) rfl)) (hw _ (List.mem_of_getElem? (i := 6) rfl)) (hw _ (List.mem_of_getElem? (i := 112) rfl)) (by decide) (coderM l Z a0 hw a1 cs h0 n0 O0 F2 S_CS hcs) e237 E1 (g := (mkF m 6 #[.val (.ref a1)] [(.ref a1), (.int n.toInt32)])) rfl (by rw [hml]; rfl) (argsL := []) (rest := [(.int n.toInt32)]) rfl (lenOf pd___B rfl) rfl (W := 1) (by show 2 * 0 + _ ≤ _; exact Nat.le_of_eq rfl) (hb hby d19_6) (by decide) (by decide) (by decide) (by decide)
  have N240 := Fr.app N0 N239q
  have e239 := e239.trans r239_0
  refine Win.to T239 (mkF m 9 #[.val (.ref a1)] [(.int (0 : Int32)), (.int n.toInt32)]) (fun _ k => st239 _ k) ?_
  refine Win.to T239 (mkF m 10 #[.val (.ref a1)] [(.int n.toInt32)]) (fun _ k => XS.ishr X239.here hx rfl (hb hby d19_9) rfl (by rw [show (n.toInt32 >>> ((0 : Int32) &&& 31)) = n.toInt32 from own_shr0 _]; exact k)) ?_
  exact Win.retI X239 hx hlk hret (hb hby d19_10) (by decide) (by decide) (by (try rw [e239]); exact ⟨rfl, N240, rfl⟩)
abbrev R_isLat : Room := ⟨0, 0, 0, 0⟩
set_option maxRecDepth 65536 in
set_option maxHeartbeats 40000000 in
theorem isLat (l : Launch) (Z : State) (a0 : Array Value) (hw : ∀ d ∈ tables_1, d.before a0 Z = true) (a1 : Addr) (cs : Int32) (h0 : Heap) (n0 : Nat) (O0 : Old Z n0 h0) (F2 : Fld Z h0 a1 "java/lang/String" "coder" "B" (.int (0 : Int32))) (S_CS : Sta Z Z.heap "java/lang/String" "COMPACT_STRINGS" "Z" (.int cs)) (hcs : ¬ (cs = (0 : Int32))) :
    MetN l Z (⟨"java/lang/String", "isLatin1", "()Z"⟩ : MethodName) jdk_42_method_154_code 1 (some .boolean) R_isLat [] #[(.ref a1)] h0 (fun v h L => v = some (.int (1 : Int32)) ∧ Fr n0 L ∧ h = h0) := by
  refine MetN.walk (plainFor_of_name pn_18) ?_
  intro p e s m below meth c s₁ hx hZ hby hml hown hnm hret hlk X0 e0
  have N0 := Fr.nil n0
  refine Win.to s₁ (mkF m 0 #[.val (.ref a1)] []) (fun _ k => castTop (by first | (simp [entryFrame, mkF, argsToLocals, Value.category]; done) | rfl) k) ?_
  obtain ⟨T241, X241, e241, st241⟩ := getS2 X0 hx hZ hown (host := "") (Or.inl (hw _ (List.mem_of_getElem? (i := 21) rfl))) Via.refl e0 (Sta.ext O0.2 S_CS) (g := (mkF m 0 #[.val (.ref a1)] [])) rfl (hb hby d18_0)
  refine Win.to T241 (mkF m 3 #[.val (.ref a1)] [(.int cs)]) (fun _ k => st241 _ k) ?_
  refine Win.to T241 (mkF m 6 #[.val (.ref a1)] []) (fun _ k => XS.ifNo X241.here hx rfl (hb hby d18_3) rfl ((if0 _ _).trans (feq (show ¬ (cs = (0 : Int32)) from hcs)).1) k) ?_
  refine Win.to T241 (mkF m 7 #[.val (.ref a1)] [(.ref a1)]) (fun _ k => XS.aloadN X241.here hx rfl (hb hby d18_6) rfl rfl k) ?_
  obtain ⟨T242, X242, e242, st242⟩ := getF X241 hx hZ hown (host := "") (Or.inl (hw _ (List.mem_of_getElem? (i := 33) rfl))) Via.refl e241 F2 (g := (mkF m 7 #[.val (.ref a1)] [(.ref a1)])) rfl rfl (hb hby d18_7)
  refine Win.to T242 (mkF m 10 #[.val (.ref a1)] [(.int (0 : Int32))]) (fun _ k => st242 _ k) ?_
  refine Win.to T242 (mkF m 13 #[.val (.ref a1)] []) (fun _ k => XS.ifNo X242.here hx rfl (hb hby d18_10) rfl ((if0 _ _).trans (teq (show (0 : Int32) = (0 : Int32) from by decide)).2) k) ?_
  refine Win.to T242 (mkF m 14 #[.val (.ref a1)] [(.int (1 : Int32))]) (fun _ k => XS.iconst X242.here hx rfl (hb hby d18_13) k) ?_
  refine Win.to T242 (mkF m 18 #[.val (.ref a1)] [(.int (1 : Int32))]) (fun _ k => XS.goto X242.here hx rfl (pc0 := 14) (pc' := 18) rfl (hb hby d18_14) (by decide) (by decide) k) ?_
  exact Win.retN X242 hx hlk (t := .boolean) hret (by simp) rfl (hb hby d18_18) (by decide) (by decide) (by (try rw [e242]); exact ⟨rfl, N0, rfl⟩)
abbrev R_canEnc : Room := ⟨0, 0, 0, 0⟩
set_option maxRecDepth 65536 in
set_option maxHeartbeats 40000000 in
theorem canEnc (l : Launch) (Z : State) (a0 : Array Value) (hw : ∀ d ∈ tables_1, d.before a0 Z = true) (h0 : Heap) (n0 : Nat) (O0 : Old Z n0 h0)  :
    MetN l Z (⟨"java/lang/StringLatin1", "canEncode", "(I)Z"⟩ : MethodName) jdk_43_method_4_code 1 (some .boolean) R_canEnc [] #[(.int (32 : Int32))] h0 (fun v h L => v = some (.int (1 : Int32)) ∧ Fr n0 L ∧ h = h0) := by
  refine MetN.walk (plainFor_of_name pn_22) ?_
  intro p e s m below meth c s₁ hx hZ hby hml hown hnm hret hlk X0 e0
  have N0 := Fr.nil n0
  refine Win.to s₁ (mkF m 0 #[.val (.int (32 : Int32))] []) (fun _ k => castTop (by first | (simp [entryFrame, mkF, argsToLocals, Value.category]; done) | rfl) k) ?_
  refine Win.to s₁ (mkF m 1 #[.val (.int (32 : Int32))] [(.int (32 : Int32))]) (fun _ k => XS.iloadN X0.here hx rfl (hb hby d22_0) rfl k) ?_
  refine Win.to s₁ (mkF m 4 #[.val (.int (32 : Int32))] []) (fun _ k => XS.ifNo X0.here hx rfl (hb hby d22_1) rfl ((if0 _ _).trans (flt (show ¬ ((32 : Int32) < (0 : Int32)) from by decide)).1) k) ?_
  refine Win.to s₁ (mkF m 5 #[.val (.int (32 : Int32))] [(.int (32 : Int32))]) (fun _ k => XS.iloadN X0.here hx rfl (hb hby d22_4) rfl k) ?_
  refine Win.to s₁ (mkF m 8 #[.val (.int (32 : Int32))] [(.int (255 : Int32)), (.int (32 : Int32))]) (fun _ k => XS.sipush X0.here hx rfl (hb hby d22_5) k) ?_
  refine Win.to s₁ (mkF m 11 #[.val (.int (32 : Int32))] []) (fun _ k => XS.icmpNo X0.here hx rfl (hb hby d22_8) rfl (flt (show ¬ ((255 : Int32) < (32 : Int32)) from by decide)).2.2.1 k) ?_
  refine Win.to s₁ (mkF m 12 #[.val (.int (32 : Int32))] [(.int (1 : Int32))]) (fun _ k => XS.iconst X0.here hx rfl (hb hby d22_11) k) ?_
  refine Win.to s₁ (mkF m 16 #[.val (.int (32 : Int32))] [(.int (1 : Int32))]) (fun _ k => XS.goto X0.here hx rfl (pc0 := 12) (pc' := 16) rfl (hb hby d22_12) (by decide) (by decide) k) ?_
  exact Win.retN X0 hx hlk (t := .boolean) hret (by simp) rfl (hb hby d22_16) (by decide) (by decide) (by (try rw [e0]); exact ⟨rfl, N0, rfl⟩)
abbrev R_idxChar : Room := ⟨0, 0, 0, 0⟩
set_option maxRecDepth 65536 in
set_option maxHeartbeats 40000000 in
theorem idxChar (l : Launch) (Z : State) (a0 : Array Value) (hw : ∀ d ∈ tables_1, d.before a0 Z = true) (b1 : Addr) (k1 : ClassId) (n : Nat) (f : Nat → Int32) (k : Nat) (h0 : Heap) (n0 : Nat) (O0 : Old Z n0 h0) (Fa : ArF Z h0 b1 k1 .byte n f) (hk : k < n) (hbef : ∀ i, i < k → ¬ (f i) = (32 : Int32)) (hat : (f k) = (32 : Int32)) :
    MetN l Z (⟨"java/lang/StringLatin1", "indexOfChar", "([BIII)I"⟩ : MethodName) jdk_43_method_23_code 6 (some .int) R_idxChar [] #[(.ref b1), (.int (32 : Int32)), (.int (0 : Int32)), (.int n.toInt32)] h0 (fun v h L => v = some (.int k.toInt32) ∧ Fr n0 L ∧ h = h0) := by
  refine MetN.walk (plainFor_of_name pn_25) ?_
  intro p e s m below meth c s₁ hx hZ hby hml hown hnm hret hlk X0 e0
  have N0 := Fr.nil n0
  refine Win.to s₁ (mkF m 0 #[.val (.ref b1), .val (.int (32 : Int32)), .val (.int (0 : Int32)), .val (.int n.toInt32), .unset, .unset] []) (fun _ k => castTop (by first | (simp [entryFrame, mkF, argsToLocals, Value.category]; done) | rfl) k) ?_
  have hn := Fa.big
  refine Win.to s₁ (mkF m 1 #[.val (.ref b1), .val (.int (32 : Int32)), .val (.int (0 : Int32)), .val (.int n.toInt32), .unset, .unset] [(.int (32 : Int32))]) (fun _ k => XS.iloadN X0.here hx rfl (hb hby d25_0) rfl k) ?_
  refine Win.to s₁ (mkF m 2 #[.val (.ref b1), .val (.int (32 : Int32)), .val (.int (0 : Int32)), .val (.int n.toInt32), .unset, .unset] [(.int (32 : Int32))]) (fun _ k => XS.i2b X0.here hx rfl (hb hby d25_1) rfl (by rw [show ((32 : Int32).toInt8.toInt32) = (32 : Int32) from by decide]; exact k)) ?_
  refine Win.to s₁ (mkF m 4 #[.val (.ref b1), .val (.int (32 : Int32)), .val (.int (0 : Int32)), .val (.int n.toInt32), .val (.int (32 : Int32)), .unset] []) (fun _ k => XS.istore X0.here hx rfl (hb hby d25_2) rfl (l' := #[.val (.ref b1), .val (.int (32 : Int32)), .val (.int (0 : Int32)), .val (.int n.toInt32), .val (.int (32 : Int32)), .unset]) rfl k) ?_
  refine Win.to s₁ (mkF m 5 #[.val (.ref b1), .val (.int (32 : Int32)), .val (.int (0 : Int32)), .val (.int n.toInt32), .val (.int (32 : Int32)), .unset] [(.int (0 : Int32))]) (fun _ k => XS.iloadN X0.here hx rfl (hb hby d25_4) rfl k) ?_
  refine Win.to s₁ (mkF m 7 #[.val (.ref b1), .val (.int (32 : Int32)), .val (.int (0 : Int32)), .val (.int n.toInt32), .val (.int (32 : Int32)), .val (.int (0 : Int32))] []) (fun _ k => XS.istore X0.here hx rfl (hb hby d25_5) rfl (l' := #[.val (.ref b1), .val (.int (32 : Int32)), .val (.int (0 : Int32)), .val (.int n.toInt32), .val (.int (32 : Int32)), .val (.int (0 : Int32))]) rfl k) ?_
  have loop : ∀ (q j : Nat), j + q = k → Win p e below s R_idxChar (fun v h L => v = some (.int k.toInt32) ∧ Fr n0 L ∧ h = h0) (s₁.setTop (mkF m 7 #[.val (.ref b1), .val (.int (32 : Int32)), .val (.int (0 : Int32)), .val (.int n.toInt32), .val (.int (32 : Int32)), .val (.int j.toInt32)] [])) := by
    intro q
    induction q with
    | zero =>
      intro j hj
      obtain rfl : j = k := by omega
      have hj1 : j < n := hk
      have hj2 : j < 2 ^ 31 := by omega
      refine Win.to s₁ (mkF m 9 #[.val (.ref b1), .val (.int (32 : Int32)), .val (.int (0 : Int32)), .val (.int n.toInt32), .val (.int (32 : Int32)), .val (.int j.toInt32)] [(.int j.toInt32)]) (fun _ k => XS.iload X0.here hx rfl (hb hby d25_7) rfl k) ?_
      refine Win.to s₁ (mkF m 10 #[.val (.ref b1), .val (.int (32 : Int32)), .val (.int (0 : Int32)), .val (.int n.toInt32), .val (.int (32 : Int32)), .val (.int j.toInt32)] [(.int n.toInt32), (.int j.toInt32)]) (fun _ k => XS.iloadN X0.here hx rfl (hb hby d25_9) rfl k) ?_
      refine Win.to s₁ (mkF m 13 #[.val (.ref b1), .val (.int (32 : Int32)), .val (.int (0 : Int32)), .val (.int n.toInt32), .val (.int (32 : Int32)), .val (.int j.toInt32)] []) (fun _ k => XS.icmpNo X0.here hx rfl (hb hby d25_10) rfl (tlt (show j.toInt32 < n.toInt32 from ((own_lt hj2 hn).mpr hj1))).2.1 k) ?_
      refine Win.to s₁ (mkF m 14 #[.val (.ref b1), .val (.int (32 : Int32)), .val (.int (0 : Int32)), .val (.int n.toInt32), .val (.int (32 : Int32)), .val (.int j.toInt32)] [(.ref b1)]) (fun _ k => XS.aloadN X0.here hx rfl (hb hby d25_13) rfl rfl k) ?_
      refine Win.to s₁ (mkF m 16 #[.val (.ref b1), .val (.int (32 : Int32)), .val (.int (0 : Int32)), .val (.int n.toInt32), .val (.int (32 : Int32)), .val (.int j.toInt32)] [(.int j.toInt32), (.ref b1)]) (fun _ k => XS.iload X0.here hx rfl (hb hby d25_14) rfl k) ?_
      obtain ⟨cl243, Ar243, hi243, ha243⟩ := ArF.at Fa (j := j.toInt32) (i := j) (own_tn hj2).1 (own_tn hj2).2.1 hj1
      refine Win.to s₁ (mkF m 17 #[.val (.ref b1), .val (.int (32 : Int32)), .val (.int (0 : Int32)), .val (.int n.toInt32), .val (.int (32 : Int32)), .val (.int j.toInt32)] [(.int (f j))]) (fun _ k => X0.baloadBytes hx (j := j.toInt32) (v := (.int (f j))) (by rw [e0]; exact Ar243.1) (State.isArrayOf_alike hZ.alike Ar243.2.1) Ar243.2.2 hi243 ha243 (g := (mkF m 16 #[.val (.ref b1), .val (.int (32 : Int32)), .val (.int (0 : Int32)), .val (.int n.toInt32), .val (.int (32 : Int32)), .val (.int j.toInt32)] [(.int j.toInt32), (.ref b1)])) rfl rfl (hb hby d25_16) _ k) ?_
      refine Win.to s₁ (mkF m 19 #[.val (.ref b1), .val (.int (32 : Int32)), .val (.int (0 : Int32)), .val (.int n.toInt32), .val (.int (32 : Int32)), .val (.int j.toInt32)] [(.int (32 : Int32)), (.int (f j))]) (fun _ k => XS.iload X0.here hx rfl (hb hby d25_17) rfl k) ?_
      refine Win.to s₁ (mkF m 22 #[.val (.ref b1), .val (.int (32 : Int32)), .val (.int (0 : Int32)), .val (.int n.toInt32), .val (.int (32 : Int32)), .val (.int j.toInt32)] []) (fun _ k => XS.icmpNo X0.here hx rfl (hb hby d25_19) rfl (teq (show (f j) = (32 : Int32) from hat)).2 k) ?_
      refine Win.to s₁ (mkF m 24 #[.val (.ref b1), .val (.int (32 : Int32)), .val (.int (0 : Int32)), .val (.int n.toInt32), .val (.int (32 : Int32)), .val (.int j.toInt32)] [(.int j.toInt32)]) (fun _ k => XS.iload X0.here hx rfl (hb hby d25_22) rfl k) ?_
      exact Win.retI X0 hx hlk hret (hb hby d25_24) (by decide) (by decide) (by (try rw [e0]); exact ⟨rfl, N0, rfl⟩)
    | succ q ih =>
      intro j hj
      have hj1 : j < n := by omega
      have hj2 : j < 2 ^ 31 := by omega
      refine Win.to s₁ (mkF m 9 #[.val (.ref b1), .val (.int (32 : Int32)), .val (.int (0 : Int32)), .val (.int n.toInt32), .val (.int (32 : Int32)), .val (.int j.toInt32)] [(.int j.toInt32)]) (fun _ k => XS.iload X0.here hx rfl (hb hby d25_7) rfl k) ?_
      refine Win.to s₁ (mkF m 10 #[.val (.ref b1), .val (.int (32 : Int32)), .val (.int (0 : Int32)), .val (.int n.toInt32), .val (.int (32 : Int32)), .val (.int j.toInt32)] [(.int n.toInt32), (.int j.toInt32)]) (fun _ k => XS.iloadN X0.here hx rfl (hb hby d25_9) rfl k) ?_
      refine Win.to s₁ (mkF m 13 #[.val (.ref b1), .val (.int (32 : Int32)), .val (.int (0 : Int32)), .val (.int n.toInt32), .val (.int (32 : Int32)), .val (.int j.toInt32)] []) (fun _ k => XS.icmpNo X0.here hx rfl (hb hby d25_10) rfl (tlt (show j.toInt32 < n.toInt32 from ((own_lt hj2 hn).mpr hj1))).2.1 k) ?_
      refine Win.to s₁ (mkF m 14 #[.val (.ref b1), .val (.int (32 : Int32)), .val (.int (0 : Int32)), .val (.int n.toInt32), .val (.int (32 : Int32)), .val (.int j.toInt32)] [(.ref b1)]) (fun _ k => XS.aloadN X0.here hx rfl (hb hby d25_13) rfl rfl k) ?_
      refine Win.to s₁ (mkF m 16 #[.val (.ref b1), .val (.int (32 : Int32)), .val (.int (0 : Int32)), .val (.int n.toInt32), .val (.int (32 : Int32)), .val (.int j.toInt32)] [(.int j.toInt32), (.ref b1)]) (fun _ k => XS.iload X0.here hx rfl (hb hby d25_14) rfl k) ?_
      obtain ⟨cl244, Ar244, hi244, ha244⟩ := ArF.at Fa (j := j.toInt32) (i := j) (own_tn hj2).1 (own_tn hj2).2.1 hj1
      refine Win.to s₁ (mkF m 17 #[.val (.ref b1), .val (.int (32 : Int32)), .val (.int (0 : Int32)), .val (.int n.toInt32), .val (.int (32 : Int32)), .val (.int j.toInt32)] [(.int (f j))]) (fun _ k => X0.baloadBytes hx (j := j.toInt32) (v := (.int (f j))) (by rw [e0]; exact Ar244.1) (State.isArrayOf_alike hZ.alike Ar244.2.1) Ar244.2.2 hi244 ha244 (g := (mkF m 16 #[.val (.ref b1), .val (.int (32 : Int32)), .val (.int (0 : Int32)), .val (.int n.toInt32), .val (.int (32 : Int32)), .val (.int j.toInt32)] [(.int j.toInt32), (.ref b1)])) rfl rfl (hb hby d25_16) _ k) ?_
      refine Win.to s₁ (mkF m 19 #[.val (.ref b1), .val (.int (32 : Int32)), .val (.int (0 : Int32)), .val (.int n.toInt32), .val (.int (32 : Int32)), .val (.int j.toInt32)] [(.int (32 : Int32)), (.int (f j))]) (fun _ k => XS.iload X0.here hx rfl (hb hby d25_17) rfl k) ?_
      refine Win.to s₁ (mkF m 25 #[.val (.ref b1), .val (.int (32 : Int32)), .val (.int (0 : Int32)), .val (.int n.toInt32), .val (.int (32 : Int32)), .val (.int j.toInt32)] []) (fun _ k => XS.icmpYes X0.here hx rfl (pc0 := 19) (pc' := 25) rfl (hb hby d25_19) rfl (feq (show ¬ ((f j) = (32 : Int32)) from (hbef j (by omega)))).2 (by decide) (by decide) k) ?_
      refine Win.to s₁ (mkF m 28 #[.val (.ref b1), .val (.int (32 : Int32)), .val (.int (0 : Int32)), .val (.int n.toInt32), .val (.int (32 : Int32)), .val (.int (j.toInt32 + (1 : Int32)))] []) (fun _ k => XS.iinc X0.here hx rfl (hb hby d25_25) rfl (l' := #[.val (.ref b1), .val (.int (32 : Int32)), .val (.int (0 : Int32)), .val (.int n.toInt32), .val (.int (32 : Int32)), .val (.int (j.toInt32 + (1 : Int32)))]) rfl k) ?_
      refine Win.to s₁ (mkF m 7 #[.val (.ref b1), .val (.int (32 : Int32)), .val (.int (0 : Int32)), .val (.int n.toInt32), .val (.int (32 : Int32)), .val (.int (j.toInt32 + (1 : Int32)))] []) (fun _ k => XS.goto X0.here hx rfl (pc0 := 28) (pc' := 7) rfl (hb hby d25_28) (by decide) (by decide) k) ?_
      rw [own_succ j]
      exact ih (j + 1) (by omega)
  exact loop k 0 (by omega)
abbrev R_idxL1 : Room := ⟨1, 0, 0, 17⟩
set_option maxRecDepth 65536 in
set_option maxHeartbeats 40000000 in
theorem idxL1 (l : Launch) (Z : State) (a0 : Array Value) (hw : ∀ d ∈ tables_1, d.before a0 Z = true) (b1 : Addr) (k1 : ClassId) (n : Nat) (f : Nat → Int32) (k : Nat) (h0 : Heap) (n0 : Nat) (O0 : Old Z n0 h0) (Fa : ArF Z h0 b1 k1 .byte n f) (hk : k < n) (hbef : ∀ i, i < k → ¬ (f i) = (32 : Int32)) (hat : (f k) = (32 : Int32)) :
    MetN l Z (⟨"java/lang/StringLatin1", "indexOf", "([BIII)I"⟩ : MethodName) jdk_43_method_22_code 4 (some .int) R_idxL1 [] #[(.ref b1), (.int (32 : Int32)), (.int (0 : Int32)), (.int n.toInt32)] h0 (fun v h L => v = some (.int k.toInt32) ∧ Fr n0 L ∧ h = h0) := by
  refine MetN.walk (plainFor_of_name pn_21) ?_
  intro p e s m below meth c s₁ hx hZ hby hml hown hnm hret hlk X0 e0
  have N0 := Fr.nil n0
  refine Win.to s₁ (mkF m 0 #[.val (.ref b1), .val (.int (32 : Int32)), .val (.int (0 : Int32)), .val (.int n.toInt32)] []) (fun _ k => castTop (by first | (simp [entryFrame, mkF, argsToLocals, Value.category]; done) | rfl) k) ?_
  have hn := Fa.big
  refine Win.to s₁ (mkF m 1 #[.val (.ref b1), .val (.int (32 : Int32)), .val (.int (0 : Int32)), .val (.int n.toInt32)] [(.int (32 : Int32))]) (fun _ k => XS.iloadN X0.here hx rfl (hb hby d21_0) rfl k) ?_
  obtain ⟨T245, h245, v245, L245, X245, e245, ⟨rfl, N245q, r245_0⟩, st245⟩ := N.static X0 hx hZ (y := (⟨"java/lang/StringLatin1", "canEncode", "(I)Z"⟩ : MethodName)) hown (hw _ (List.mem_of_getElem? (i := 117) rfl)) (hw _ (List.mem_of_getElem? (i := 118) rfl)) (hw _ (List.mem_of_getElem? (i := 115) rfl)) (hw _ (List.mem_of_getElem? (i := 119) rfl)) (by decide) (canEnc l Z a0 hw  h0 n0 O0 ) e0 (g := (mkF m 1 #[.val (.ref b1), .val (.int (32 : Int32)), .val (.int (0 : Int32)), .val (.int n.toInt32)] [(.int (32 : Int32))])) rfl (by rw [hml]; rfl) (argsL := [(.int (32 : Int32))]) (rest := []) rfl (lenOf pd__I_Z rfl) rfl (W := 0) (by show 2 * 0 + _ ≤ _; exact Nat.le_of_eq rfl) (hb hby d21_1) (by decide) (by decide) (by decide) (by decide)
  have N246 := Fr.app N0 N245q
  have e245 := e245.trans r245_0
  refine Win.to T245 (mkF m 4 #[.val (.ref b1), .val (.int (32 : Int32)), .val (.int (0 : Int32)), .val (.int n.toInt32)] [(.int (1 : Int32))]) (fun _ k => st245 _ k) ?_
  refine Win.to T245 (mkF m 9 #[.val (.ref b1), .val (.int (32 : Int32)), .val (.int (0 : Int32)), .val (.int n.toInt32)] []) (fun _ k => XS.ifYes X245.here hx rfl (pc0 := 4) (pc' := 9) rfl (hb hby d21_4) rfl ((if0 _ _).trans (feq (show ¬ ((1 : Int32) = (0 : Int32)) from by decide)).2) (by decide) (by decide) k) ?_
  refine Win.to T245 (mkF m 10 #[.val (.ref b1), .val (.int (32 : Int32)), .val (.int (0 : Int32)), .val (.int n.toInt32)] [(.int (0 : Int32))]) (fun _ k => XS.iloadN X245.here hx rfl (hb hby d21_9) rfl k) ?_
  refine Win.to T245 (mkF m 11 #[.val (.ref b1), .val (.int (32 : Int32)), .val (.int (0 : Int32)), .val (.int n.toInt32)] [(.int (0 : Int32)), (.int (0 : Int32))]) (fun _ k => XS.iconst X245.here hx rfl (hb hby d21_10) k) ?_
  obtain ⟨T247, h247, v247, L247, X247, e247, ⟨rfl, N247q, r247_0⟩, st247⟩ := N.static X245 hx hZ (y := (⟨"java/lang/Math", "max", "(II)I"⟩ : MethodName)) hown (hw _ (List.mem_of_getElem? (i := 120) rfl)) (hw _ (List.mem_of_getElem? (i := 121) rfl)) (hw _ (List.mem_of_getElem? (i := 122) rfl)) (hw _ (List.mem_of_getElem? (i := 123) rfl)) (by decide) (maxI l Z a0 hw (0 : Int32) (0 : Int32) (0 : Int32) h0 n0 O0 (fun _ => rfl) (fun _ => rfl)) e245 (g := (mkF m 11 #[.val (.ref b1), .val (.int (32 : Int32)), .val (.int (0 : Int32)), .val (.int n.toInt32)] [(.int (0 : Int32)), (.int (0 : Int32))])) rfl (by rw [hml]; rfl) (argsL := [(.int (0 : Int32)), (.int (0 : Int32))]) (rest := []) rfl (lenOf pd__II_I rfl) rfl (W := 0) (by show 2 * 0 + _ ≤ _; exact Nat.le_of_eq rfl) (hb hby d21_11) (by decide) (by decide) (by decide) (by decide)
  have N248 := Fr.app N246 N247q
  have e247 := e247.trans r247_0
  refine Win.to T247 (mkF m 14 #[.val (.ref b1), .val (.int (32 : Int32)), .val (.int (0 : Int32)), .val (.int n.toInt32)] [(.int (0 : Int32))]) (fun _ k => st247 _ k) ?_
  refine Win.to T247 (mkF m 15 #[.val (.ref b1), .val (.int (32 : Int32)), .val (.int (0 : Int32)), .val (.int n.toInt32)] []) (fun _ k => XS.istoreN X247.here hx rfl (hb hby d21_14) rfl (l' := #[.val (.ref b1), .val (.int (32 : Int32)), .val (.int (0 : Int32)), .val (.int n.toInt32)]) rfl k) ?_
  refine Win.to T247 (mkF m 16 #[.val (.ref b1), .val (.int (32 : Int32)), .val (.int (0 : Int32)), .val (.int n.toInt32)] [(.int n.toInt32)]) (fun _ k => XS.iloadN X247.here hx rfl (hb hby d21_15) rfl k) ?_
  refine Win.to T247 (mkF m 17 #[.val (.ref b1), .val (.int (32 : Int32)), .val (.int (0 : Int32)), .val (.int n.toInt32)] [(.ref b1), (.int n.toInt32)]) (fun _ k => XS.aloadN X247.here hx rfl (hb hby d21_16) rfl rfl k) ?_
  obtain ⟨cl249, Ar249, hl249⟩ := ArF.len Fa
  refine Win.to T247 (mkF m 18 #[.val (.ref b1), .val (.int (32 : Int32)), .val (.int (0 : Int32)), .val (.int n.toInt32)] [(.int n.toInt32), (.int n.toInt32)]) (fun _ k => X247.arraylength hx (by rw [e247]; exact Ar249.1) (State.isArrayOf_alike hZ.alike Ar249.2.1) (g := (mkF m 17 #[.val (.ref b1), .val (.int (32 : Int32)), .val (.int (0 : Int32)), .val (.int n.toInt32)] [(.ref b1), (.int n.toInt32)])) rfl rfl (hb hby d21_17) _ (by rw [hl249]; exact k)) ?_
  obtain ⟨T250, h250, v250, L250, X250, e250, ⟨rfl, N250q, r250_0⟩, st250⟩ := N.static X247 hx hZ (y := (⟨"java/lang/Math", "min", "(II)I"⟩ : MethodName)) hown (hw _ (List.mem_of_getElem? (i := 124) rfl)) (hw _ (List.mem_of_getElem? (i := 125) rfl)) (hw _ (List.mem_of_getElem? (i := 122) rfl)) (hw _ (List.mem_of_getElem? (i := 126) rfl)) (by decide) (minI l Z a0 hw n.toInt32 n.toInt32 n.toInt32 h0 n0 O0 (fun _ => rfl) (fun _ => rfl)) e247 (g := (mkF m 18 #[.val (.ref b1), .val (.int (32 : Int32)), .val (.int (0 : Int32)), .val (.int n.toInt32)] [(.int n.toInt32), (.int n.toInt32)])) rfl (by rw [hml]; rfl) (argsL := [(.int n.toInt32), (.int n.toInt32)]) (rest := []) rfl (lenOf pd__II_I rfl) rfl (W := 0) (by show 2 * 0 + _ ≤ _; exact Nat.le_of_eq rfl) (hb hby d21_18) (by decide) (by decide) (by decide) (by decide)
  have N251 := Fr.app N248 N250q
  have e250 := e250.trans r250_0
  refine Win.to T250 (mkF m 21 #[.val (.ref b1), .val (.int (32 : Int32)), .val (.int (0 : Int32)), .val (.int n.toInt32)] [(.int n.toInt32)]) (fun _ k => st250 _ k) ?_
  refine Win.to T250 (mkF m 22 #[.val (.ref b1), .val (.int (32 : Int32)), .val (.int (0 : Int32)), .val (.int n.toInt32)] []) (fun _ k => XS.istoreN X250.here hx rfl (hb hby d21_21) rfl (l' := #[.val (.ref b1), .val (.int (32 : Int32)), .val (.int (0 : Int32)), .val (.int n.toInt32)]) rfl k) ?_
  refine Win.to T250 (mkF m 23 #[.val (.ref b1), .val (.int (32 : Int32)), .val (.int (0 : Int32)), .val (.int n.toInt32)] [(.int (0 : Int32))]) (fun _ k => XS.iloadN X250.here hx rfl (hb hby d21_22) rfl k) ?_
  refine Win.to T250 (mkF m 24 #[.val (.ref b1), .val (.int (32 : Int32)), .val (.int (0 : Int32)), .val (.int n.toInt32)] [(.int n.toInt32), (.int (0 : Int32))]) (fun _ k => XS.iloadN X250.here hx rfl (hb hby d21_23) rfl k) ?_
  refine Win.to T250 (mkF m 29 #[.val (.ref b1), .val (.int (32 : Int32)), .val (.int (0 : Int32)), .val (.int n.toInt32)] []) (fun _ k => XS.icmpYes X250.here hx rfl (pc0 := 24) (pc' := 29) rfl (hb hby d21_24) rfl (tlt (show (0 : Int32) < n.toInt32 from ((own_lt (j := 0) (by omega) hn).mpr (by omega)))).1 (by decide) (by decide) k) ?_
  refine Win.to T250 (mkF m 30 #[.val (.ref b1), .val (.int (32 : Int32)), .val (.int (0 : Int32)), .val (.int n.toInt32)] [(.ref b1)]) (fun _ k => XS.aloadN X250.here hx rfl (hb hby d21_29) rfl rfl k) ?_
  refine Win.to T250 (mkF m 31 #[.val (.ref b1), .val (.int (32 : Int32)), .val (.int (0 : Int32)), .val (.int n.toInt32)] [(.int (32 : Int32)), (.ref b1)]) (fun _ k => XS.iloadN X250.here hx rfl (hb hby d21_30) rfl k) ?_
  refine Win.to T250 (mkF m 32 #[.val (.ref b1), .val (.int (32 : Int32)), .val (.int (0 : Int32)), .val (.int n.toInt32)] [(.int (0 : Int32)), (.int (32 : Int32)), (.ref b1)]) (fun _ k => XS.iloadN X250.here hx rfl (hb hby d21_31) rfl k) ?_
  refine Win.to T250 (mkF m 33 #[.val (.ref b1), .val (.int (32 : Int32)), .val (.int (0 : Int32)), .val (.int n.toInt32)] [(.int n.toInt32), (.int (0 : Int32)), (.int (32 : Int32)), (.ref b1)]) (fun _ k => XS.iloadN X250.here hx rfl (hb hby d21_32) rfl k) ?_
  obtain ⟨T252, h252, v252, L252, X252, e252, ⟨rfl, N252q, r252_0⟩, st252⟩ := N.static X250 hx hZ (y := (⟨"java/lang/StringLatin1", "indexOfChar", "([BIII)I"⟩ : MethodName)) hown (hw _ (List.mem_of_getElem? (i := 127) rfl)) (hw _ (List.mem_of_getElem? (i := 128) rfl)) (hw _ (List.mem_of_getElem? (i := 115) rfl)) (hw _ (List.mem_of_getElem? (i := 129) rfl)) (by decide) (idxChar l Z a0 hw b1 k1 n f k h0 n0 O0 Fa hk hbef hat) e250 (g := (mkF m 33 #[.val (.ref b1), .val (.int (32 : Int32)), .val (.int (0 : Int32)), .val (.int n.toInt32)] [(.int n.toInt32), (.int (0 : Int32)), (.int (32 : Int32)), (.ref b1)])) rfl (by rw [hml]; rfl) (argsL := [(.ref b1), (.int (32 : Int32)), (.int (0 : Int32)), (.int n.toInt32)]) (rest := []) rfl (lenOf pd___BIII_I rfl) rfl (W := 0) (by show 2 * 0 + _ ≤ _; exact Nat.le_of_eq rfl) (hb hby d21_33) (by decide) (by decide) (by decide) (by decide)
  have N253 := Fr.app N251 N252q
  have e252 := e252.trans r252_0
  refine Win.to T252 (mkF m 36 #[.val (.ref b1), .val (.int (32 : Int32)), .val (.int (0 : Int32)), .val (.int n.toInt32)] [(.int k.toInt32)]) (fun _ k => st252 _ k) ?_
  exact Win.retI X252 hx hlk hret (hb hby d21_36) (by decide) (by decide) (by (try rw [e252]); exact ⟨rfl, N253, rfl⟩)
abbrev R_idxII : Room := ⟨2, 0, 0, 32⟩
set_option maxRecDepth 65536 in
set_option maxHeartbeats 40000000 in
theorem idxII (l : Launch) (Z : State) (a0 : Array Value) (hw : ∀ d ∈ tables_1, d.before a0 Z = true) (a1 : Addr) (t1 : Addr) (k1 : ClassId) (n : Nat) (f : Nat → Int32) (k : Nat) (cs : Int32) (h0 : Heap) (n0 : Nat) (O0 : Old Z n0 h0) (E1 : Exa Z h0 a1 "java/lang/String") (F1 : Fld Z h0 a1 "java/lang/String" "value" "[B" (.ref t1)) (F2 : Fld Z h0 a1 "java/lang/String" "coder" "B" (.int (0 : Int32))) (Fa : ArF Z h0 t1 k1 .byte n f) (hk : k < n) (hbef : ∀ i, i < k → ¬ (f i) = (32 : Int32)) (hat : (f k) = (32 : Int32)) (S_CS : Sta Z Z.heap "java/lang/String" "COMPACT_STRINGS" "Z" (.int cs)) (hcs : ¬ (cs = (0 : Int32))) :
    MetN l Z (⟨"java/lang/String", "indexOf", "(II)I"⟩ : MethodName) jdk_42_method_80_code 3 (some .int) R_idxII [] #[(.ref a1), (.int (32 : Int32)), (.int (0 : Int32))] h0 (fun v h L => v = some (.int k.toInt32) ∧ Fr n0 L ∧ h = h0) := by
  refine MetN.walk (plainFor_of_name pn_17) ?_
  intro p e s m below meth c s₁ hx hZ hby hml hown hnm hret hlk X0 e0
  have N0 := Fr.nil n0
  refine Win.to s₁ (mkF m 0 #[.val (.ref a1), .val (.int (32 : Int32)), .val (.int (0 : Int32))] []) (fun _ k => castTop (by first | (simp [entryFrame, mkF, argsToLocals, Value.category]; done) | rfl) k) ?_
  refine Win.to s₁ (mkF m 1 #[.val (.ref a1), .val (.int (32 : Int32)), .val (.int (0 : Int32))] [(.ref a1)]) (fun _ k => XS.aloadN X0.here hx rfl (hb hby d17_0) rfl rfl k) ?_
  obtain ⟨T254, h254, v254, L254, X254, e254, ⟨rfl, N254q, r254_0⟩, st254⟩ := N.virtual X0 hx hZ (y := (⟨"java/lang/String", "isLatin1", "()Z"⟩ : MethodName)) (z := (⟨"java/lang/String", "isLatin1", "()Z"⟩ : MethodName)) hown (hw _ (List.mem_of_getElem? (i := 98) rfl)) (hw _ (List.mem_of_getElem? (i := 99) rfl)) (notFace_of_selects (args := #[]) (mvT hZ (hw _ (List.mem_of_getElem? (i := 101) rfl)))) (hw _ (List.mem_of_getElem? (i := 101) rfl)) (hw _ (List.mem_of_getElem? (i := 100) rfl)) (hw _ (List.mem_of_getElem? (i := 6) rfl)) (hw _ (List.mem_of_getElem? (i := 102) rfl)) (by decide) (isLat l Z a0 hw a1 cs h0 n0 O0 F2 S_CS hcs) e0 E1 (g := (mkF m 1 #[.val (.ref a1), .val (.int (32 : Int32)), .val (.int (0 : Int32))] [(.ref a1)])) rfl (by rw [hml]; rfl) (argsL := []) (rest := []) rfl (lenOf pd___Z rfl) rfl (W := 0) (by show 2 * 0 + _ ≤ _; exact Nat.le_of_eq rfl) (hb hby d17_1) (by decide) (by decide) (by decide) (by decide)
  have N255 := Fr.app N0 N254q
  have e254 := e254.trans r254_0
  refine Win.to T254 (mkF m 4 #[.val (.ref a1), .val (.int (32 : Int32)), .val (.int (0 : Int32))] [(.int (1 : Int32))]) (fun _ k => st254 _ k) ?_
  refine Win.to T254 (mkF m 7 #[.val (.ref a1), .val (.int (32 : Int32)), .val (.int (0 : Int32))] []) (fun _ k => XS.ifNo X254.here hx rfl (hb hby d17_4) rfl ((if0 _ _).trans (feq (show ¬ ((1 : Int32) = (0 : Int32)) from by decide)).1) k) ?_
  refine Win.to T254 (mkF m 8 #[.val (.ref a1), .val (.int (32 : Int32)), .val (.int (0 : Int32))] [(.ref a1)]) (fun _ k => XS.aloadN X254.here hx rfl (hb hby d17_7) rfl rfl k) ?_
  obtain ⟨T256, X256, e256, st256⟩ := getF X254 hx hZ hown (host := "") (Or.inl (hw _ (List.mem_of_getElem? (i := 35) rfl))) Via.refl e254 F1 (g := (mkF m 8 #[.val (.ref a1), .val (.int (32 : Int32)), .val (.int (0 : Int32))] [(.ref a1)])) rfl rfl (hb hby d17_8)
  refine Win.to T256 (mkF m 11 #[.val (.ref a1), .val (.int (32 : Int32)), .val (.int (0 : Int32))] [(.ref t1)]) (fun _ k => st256 _ k) ?_
  refine Win.to T256 (mkF m 12 #[.val (.ref a1), .val (.int (32 : Int32)), .val (.int (0 : Int32))] [(.int (32 : Int32)), (.ref t1)]) (fun _ k => XS.iloadN X256.here hx rfl (hb hby d17_11) rfl k) ?_
  refine Win.to T256 (mkF m 13 #[.val (.ref a1), .val (.int (32 : Int32)), .val (.int (0 : Int32))] [(.int (0 : Int32)), (.int (32 : Int32)), (.ref t1)]) (fun _ k => XS.iloadN X256.here hx rfl (hb hby d17_12) rfl k) ?_
  refine Win.to T256 (mkF m 14 #[.val (.ref a1), .val (.int (32 : Int32)), .val (.int (0 : Int32))] [(.ref a1), (.int (0 : Int32)), (.int (32 : Int32)), (.ref t1)]) (fun _ k => XS.aloadN X256.here hx rfl (hb hby d17_13) rfl rfl k) ?_
  obtain ⟨T257, h257, v257, L257, X257, e257, ⟨rfl, N257q, r257_0⟩, st257⟩ := N.virtual X256 hx hZ (y := (⟨"java/lang/String", "length", "()I"⟩ : MethodName)) (z := (⟨"java/lang/String", "length", "()I"⟩ : MethodName)) hown (hw _ (List.mem_of_getElem? (i := 103) rfl)) (hw _ (List.mem_of_getElem? (i := 104) rfl)) (notFace_of_selects (args := #[]) (mvT hZ (hw _ (List.mem_of_getElem? (i := 106) rfl)))) (hw _ (List.mem_of_getElem? (i := 106) rfl)) (hw _ (List.mem_of_getElem? (i := 105) rfl)) (hw _ (List.mem_of_getElem? (i := 6) rfl)) (hw _ (List.mem_of_getElem? (i := 107) rfl)) (by decide) (strLen l Z a0 hw a1 t1 k1 n f cs h0 n0 O0 E1 F1 F2 Fa S_CS hcs) e256 E1 (g := (mkF m 14 #[.val (.ref a1), .val (.int (32 : Int32)), .val (.int (0 : Int32))] [(.ref a1), (.int (0 : Int32)), (.int (32 : Int32)), (.ref t1)])) rfl (by rw [hml]; rfl) (argsL := []) (rest := [(.int (0 : Int32)), (.int (32 : Int32)), (.ref t1)]) rfl (lenOf pd___I rfl) rfl (W := 3) (by show 2 * 0 + _ ≤ _; exact Nat.le_of_eq rfl) (hb hby d17_14) (by decide) (by decide) (by decide) (by decide)
  have N258 := Fr.app N255 N257q
  have e257 := e257.trans r257_0
  refine Win.to T257 (mkF m 17 #[.val (.ref a1), .val (.int (32 : Int32)), .val (.int (0 : Int32))] [(.int n.toInt32), (.int (0 : Int32)), (.int (32 : Int32)), (.ref t1)]) (fun _ k => st257 _ k) ?_
  obtain ⟨T259, h259, v259, L259, X259, e259, ⟨rfl, N259q, r259_0⟩, st259⟩ := N.static X257 hx hZ (y := (⟨"java/lang/StringLatin1", "indexOf", "([BIII)I"⟩ : MethodName)) hown (hw _ (List.mem_of_getElem? (i := 113) rfl)) (hw _ (List.mem_of_getElem? (i := 114) rfl)) (hw _ (List.mem_of_getElem? (i := 115) rfl)) (hw _ (List.mem_of_getElem? (i := 116) rfl)) (by decide) (idxL1 l Z a0 hw t1 k1 n f k h0 n0 O0 Fa hk hbef hat) e257 (g := (mkF m 17 #[.val (.ref a1), .val (.int (32 : Int32)), .val (.int (0 : Int32))] [(.int n.toInt32), (.int (0 : Int32)), (.int (32 : Int32)), (.ref t1)])) rfl (by rw [hml]; rfl) (argsL := [(.ref t1), (.int (32 : Int32)), (.int (0 : Int32)), (.int n.toInt32)]) (rest := []) rfl (lenOf pd___BIII_I rfl) rfl (W := 0) (by show 2 * 0 + _ ≤ _; exact Nat.le_of_eq rfl) (hb hby d17_17) (by decide) (by decide) (by decide) (by decide)
  have N260 := Fr.app N258 N259q
  have e259 := e259.trans r259_0
  refine Win.to T259 (mkF m 20 #[.val (.ref a1), .val (.int (32 : Int32)), .val (.int (0 : Int32))] [(.int k.toInt32)]) (fun _ k => st259 _ k) ?_
  refine Win.to T259 (mkF m 36 #[.val (.ref a1), .val (.int (32 : Int32)), .val (.int (0 : Int32))] [(.int k.toInt32)]) (fun _ k => XS.goto X259.here hx rfl (pc0 := 20) (pc' := 36) rfl (hb hby d17_20) (by decide) (by decide) k) ?_
  exact Win.retI X259 hx hlk hret (hb hby d17_36) (by decide) (by decide) (by (try rw [e259]); exact ⟨rfl, N260, rfl⟩)
abbrev R_idxI : Room := ⟨3, 0, 0, 46⟩
set_option maxRecDepth 65536 in
set_option maxHeartbeats 40000000 in
theorem idxI (l : Launch) (Z : State) (a0 : Array Value) (hw : ∀ d ∈ tables_1, d.before a0 Z = true) (a1 : Addr) (t1 : Addr) (k1 : ClassId) (n : Nat) (f : Nat → Int32) (k : Nat) (cs : Int32) (h0 : Heap) (n0 : Nat) (O0 : Old Z n0 h0) (E1 : Exa Z h0 a1 "java/lang/String") (F1 : Fld Z h0 a1 "java/lang/String" "value" "[B" (.ref t1)) (F2 : Fld Z h0 a1 "java/lang/String" "coder" "B" (.int (0 : Int32))) (Fa : ArF Z h0 t1 k1 .byte n f) (hk : k < n) (hbef : ∀ i, i < k → ¬ (f i) = (32 : Int32)) (hat : (f k) = (32 : Int32)) (S_CS : Sta Z Z.heap "java/lang/String" "COMPACT_STRINGS" "Z" (.int cs)) (hcs : ¬ (cs = (0 : Int32))) :
    MetN l Z (⟨"java/lang/String", "indexOf", "(I)I"⟩ : MethodName) jdk_42_method_79_code 2 (some .int) R_idxI [] #[(.ref a1), (.int (32 : Int32))] h0 (fun v h L => v = some (.int k.toInt32) ∧ Fr n0 L ∧ h = h0) := by
  refine MetN.walk (plainFor_of_name pn_16) ?_
  intro p e s m below meth c s₁ hx hZ hby hml hown hnm hret hlk X0 e0
  have N0 := Fr.nil n0
  refine Win.to s₁ (mkF m 0 #[.val (.ref a1), .val (.int (32 : Int32))] []) (fun _ k => castTop (by first | (simp [entryFrame, mkF, argsToLocals, Value.category]; done) | rfl) k) ?_
  refine Win.to s₁ (mkF m 1 #[.val (.ref a1), .val (.int (32 : Int32))] [(.ref a1)]) (fun _ k => XS.aloadN X0.here hx rfl (hb hby d16_0) rfl rfl k) ?_
  refine Win.to s₁ (mkF m 2 #[.val (.ref a1), .val (.int (32 : Int32))] [(.int (32 : Int32)), (.ref a1)]) (fun _ k => XS.iloadN X0.here hx rfl (hb hby d16_1) rfl k) ?_
  refine Win.to s₁ (mkF m 3 #[.val (.ref a1), .val (.int (32 : Int32))] [(.int (0 : Int32)), (.int (32 : Int32)), (.ref a1)]) (fun _ k => XS.iconst X0.here hx rfl (hb hby d16_2) k) ?_
  obtain ⟨T261, h261, v261, L261, X261, e261, ⟨rfl, N261q, r261_0⟩, st261⟩ := N.virtual X0 hx hZ (y := (⟨"java/lang/String", "indexOf", "(II)I"⟩ : MethodName)) (z := (⟨"java/lang/String", "indexOf", "(II)I"⟩ : MethodName)) hown (hw _ (List.mem_of_getElem? (i := 93) rfl)) (hw _ (List.mem_of_getElem? (i := 94) rfl)) (notFace_of_selects (args := #[]) (mvT hZ (hw _ (List.mem_of_getElem? (i := 96) rfl)))) (hw _ (List.mem_of_getElem? (i := 96) rfl)) (hw _ (List.mem_of_getElem? (i := 95) rfl)) (hw _ (List.mem_of_getElem? (i := 6) rfl)) (hw _ (List.mem_of_getElem? (i := 97) rfl)) (by decide) (idxII l Z a0 hw a1 t1 k1 n f k cs h0 n0 O0 E1 F1 F2 Fa hk hbef hat S_CS hcs) e0 E1 (g := (mkF m 3 #[.val (.ref a1), .val (.int (32 : Int32))] [(.int (0 : Int32)), (.int (32 : Int32)), (.ref a1)])) rfl (by rw [hml]; rfl) (argsL := [(.int (32 : Int32)), (.int (0 : Int32))]) (rest := []) rfl (lenOf pd__II_I rfl) rfl (W := 0) (by show 2 * 0 + _ ≤ _; exact Nat.le_of_eq rfl) (hb hby d16_3) (by decide) (by decide) (by decide) (by decide)
  have N262 := Fr.app N0 N261q
  have e261 := e261.trans r261_0
  refine Win.to T261 (mkF m 6 #[.val (.ref a1), .val (.int (32 : Int32))] [(.int k.toInt32)]) (fun _ k => st261 _ k) ?_
  exact Win.retI X261 hx hlk hret (hb hby d16_6) (by decide) (by decide) (by (try rw [e261]); exact ⟨rfl, N262, rfl⟩)
abbrev R_chkFT : Room := ⟨0, 0, 0, 0⟩
set_option maxRecDepth 65536 in
set_option maxHeartbeats 40000000 in
theorem chkFT (l : Launch) (Z : State) (a0 : Array Value) (hw : ∀ d ∈ tables_1, d.before a0 Z = true) (b : Nat) (en : Nat) (n : Nat) (x1 : Value) (h0 : Heap) (n0 : Nat) (O0 : Old Z n0 h0) (hbe : b ≤ en) (hen : en ≤ n) (hn : n < 2 ^ 31) (hx1 : x1.isRef = true) :
    MetN l Z (⟨"jdk/internal/util/Preconditions", "checkFromToIndex", "(IIILjava/util/function/BiFunction;)I"⟩ : MethodName) jdk_41_method_12_code 4 (some .int) R_chkFT [] #[(.int b.toInt32), (.int en.toInt32), (.int n.toInt32), x1] h0 (fun v h L => v = some (.int b.toInt32) ∧ Fr n0 L ∧ h = h0) := by
  refine MetN.walk (plainFor_of_name pn_28) ?_
  intro p e s m below meth c s₁ hx hZ hby hml hown hnm hret hlk X0 e0
  have N0 := Fr.nil n0
  refine Win.to s₁ (mkF m 0 #[.val (.int b.toInt32), .val (.int en.toInt32), .val (.int n.toInt32), .val x1] []) (fun _ k => castTop (by (rcases ref_cases hx1 with hh | ⟨_, hh⟩ <;> rw [hh]) <;> rfl) k) ?_
  have hb2 : b < 2 ^ 31 := by omega
  have he2 : en < 2 ^ 31 := by omega
  refine Win.to s₁ (mkF m 1 #[.val (.int b.toInt32), .val (.int en.toInt32), .val (.int n.toInt32), .val x1] [(.int b.toInt32)]) (fun _ k => XS.iloadN X0.here hx rfl (hb hby d28_0) rfl k) ?_
  refine Win.to s₁ (mkF m 4 #[.val (.int b.toInt32), .val (.int en.toInt32), .val (.int n.toInt32), .val x1] []) (fun _ k => XS.ifNo X0.here hx rfl (hb hby d28_1) rfl ((if0 _ _).trans (flt (show ¬ (b.toInt32 < (0 : Int32)) from (own_tn hb2).2.1)).1) k) ?_
  refine Win.to s₁ (mkF m 5 #[.val (.int b.toInt32), .val (.int en.toInt32), .val (.int n.toInt32), .val x1] [(.int b.toInt32)]) (fun _ k => XS.iloadN X0.here hx rfl (hb hby d28_4) rfl k) ?_
  refine Win.to s₁ (mkF m 6 #[.val (.int b.toInt32), .val (.int en.toInt32), .val (.int n.toInt32), .val x1] [(.int en.toInt32), (.int b.toInt32)]) (fun _ k => XS.iloadN X0.here hx rfl (hb hby d28_5) rfl k) ?_
  refine Win.to s₁ (mkF m 9 #[.val (.int b.toInt32), .val (.int en.toInt32), .val (.int n.toInt32), .val x1] []) (fun _ k => XS.icmpNo X0.here hx rfl (hb hby d28_6) rfl (flt (show ¬ (en.toInt32 < b.toInt32) from (fun q => absurd ((own_lt he2 hb2).mp q) (by omega)))).2.2.1 k) ?_
  refine Win.to s₁ (mkF m 10 #[.val (.int b.toInt32), .val (.int en.toInt32), .val (.int n.toInt32), .val x1] [(.int en.toInt32)]) (fun _ k => XS.iloadN X0.here hx rfl (hb hby d28_9) rfl k) ?_
  refine Win.to s₁ (mkF m 11 #[.val (.int b.toInt32), .val (.int en.toInt32), .val (.int n.toInt32), .val x1] [(.int n.toInt32), (.int en.toInt32)]) (fun _ k => XS.iloadN X0.here hx rfl (hb hby d28_10) rfl k) ?_
  refine Win.to s₁ (mkF m 22 #[.val (.int b.toInt32), .val (.int en.toInt32), .val (.int n.toInt32), .val x1] []) (fun _ k => XS.icmpYes X0.here hx rfl (pc0 := 11) (pc' := 22) rfl (hb hby d28_11) rfl (flt (show ¬ (n.toInt32 < en.toInt32) from (fun q => absurd ((own_lt hn he2).mp q) (by omega)))).2.2.2 (by decide) (by decide) k) ?_
  refine Win.to s₁ (mkF m 23 #[.val (.int b.toInt32), .val (.int en.toInt32), .val (.int n.toInt32), .val x1] [(.int b.toInt32)]) (fun _ k => XS.iloadN X0.here hx rfl (hb hby d28_22) rfl k) ?_
  exact Win.retI X0 hx hlk hret (hb hby d28_23) (by decide) (by decide) (by (try rw [e0]); exact ⟨rfl, N0, rfl⟩)
abbrev R_chkBE : Room := ⟨1, 0, 0, 15⟩
set_option maxRecDepth 65536 in
set_option maxHeartbeats 40000000 in
theorem chkBE (l : Launch) (Z : State) (a0 : Array Value) (hw : ∀ d ∈ tables_1, d.before a0 Z = true) (b : Nat) (en : Nat) (n : Nat) (x1 : Value) (h0 : Heap) (n0 : Nat) (O0 : Old Z n0 h0) (hbe : b ≤ en) (hen : en ≤ n) (hn : n < 2 ^ 31) (S_SI : Sta Z Z.heap "jdk/internal/util/Preconditions" "SIOOBE_FORMATTER" "Ljava/util/function/BiFunction;" x1) (hx1 : x1.isRef = true) :
    MetN l Z (⟨"java/lang/String", "checkBoundsBeginEnd", "(III)V"⟩ : MethodName) jdk_42_method_158_code 3 none R_chkBE [] #[(.int b.toInt32), (.int en.toInt32), (.int n.toInt32)] h0 (fun v h L => v = none ∧ Fr n0 L ∧ h = h0) := by
  refine MetN.walk (plainFor_of_name pn_27) ?_
  intro p e s m below meth c s₁ hx hZ hby hml hown hnm hret hlk X0 e0
  have N0 := Fr.nil n0
  refine Win.to s₁ (mkF m 0 #[.val (.int b.toInt32), .val (.int en.toInt32), .val (.int n.toInt32)] []) (fun _ k => castTop (by first | (simp [entryFrame, mkF, argsToLocals, Value.category]; done) | rfl) k) ?_
  refine Win.to s₁ (mkF m 1 #[.val (.int b.toInt32), .val (.int en.toInt32), .val (.int n.toInt32)] [(.int b.toInt32)]) (fun _ k => XS.iloadN X0.here hx rfl (hb hby d27_0) rfl k) ?_
  refine Win.to s₁ (mkF m 2 #[.val (.int b.toInt32), .val (.int en.toInt32), .val (.int n.toInt32)] [(.int en.toInt32), (.int b.toInt32)]) (fun _ k => XS.iloadN X0.here hx rfl (hb hby d27_1) rfl k) ?_
  refine Win.to s₁ (mkF m 3 #[.val (.int b.toInt32), .val (.int en.toInt32), .val (.int n.toInt32)] [(.int n.toInt32), (.int en.toInt32), (.int b.toInt32)]) (fun _ k => XS.iloadN X0.here hx rfl (hb hby d27_2) rfl k) ?_
  obtain ⟨T263, X263, e263, st263⟩ := getS2 X0 hx hZ hown (host := "") (Or.inl (hw _ (List.mem_of_getElem? (i := 138) rfl))) Via.refl e0 (Sta.ext O0.2 S_SI) (g := (mkF m 3 #[.val (.int b.toInt32), .val (.int en.toInt32), .val (.int n.toInt32)] [(.int n.toInt32), (.int en.toInt32), (.int b.toInt32)])) rfl (hb hby d27_3)
  refine Win.to T263 (mkF m 6 #[.val (.int b.toInt32), .val (.int en.toInt32), .val (.int n.toInt32)] [x1, (.int n.toInt32), (.int en.toInt32), (.int b.toInt32)]) (fun _ k => st263 _ k) ?_
  obtain ⟨T264, h264, v264, L264, X264, e264, ⟨rfl, N264q, r264_0⟩, st264⟩ := N.static X263 hx hZ (y := (⟨"jdk/internal/util/Preconditions", "checkFromToIndex", "(IIILjava/util/function/BiFunction;)I"⟩ : MethodName)) hown (hw _ (List.mem_of_getElem? (i := 140) rfl)) (hw _ (List.mem_of_getElem? (i := 141) rfl)) (hw _ (List.mem_of_getElem? (i := 139) rfl)) (hw _ (List.mem_of_getElem? (i := 142) rfl)) (by decide) (chkFT l Z a0 hw b en n x1 h0 n0 O0 hbe hen hn hx1) e263 (g := (mkF m 6 #[.val (.int b.toInt32), .val (.int en.toInt32), .val (.int n.toInt32)] [x1, (.int n.toInt32), (.int en.toInt32), (.int b.toInt32)])) rfl (by rw [hml]; rfl) (argsL := [(.int b.toInt32), (.int en.toInt32), (.int n.toInt32), x1]) (rest := []) rfl (lenOf pd__IIILjava_util_function_BiFunction__I rfl) rfl (W := 0) (by show 2 * 0 + _ ≤ _; exact Nat.le_of_eq rfl) (hb hby d27_6) (by decide) (by decide) (by decide) (by decide)
  have N265 := Fr.app N0 N264q
  have e264 := e264.trans r264_0
  refine Win.to T264 (mkF m 9 #[.val (.int b.toInt32), .val (.int en.toInt32), .val (.int n.toInt32)] [(.int b.toInt32)]) (fun _ k => st264 _ k) ?_
  refine Win.to T264 (mkF m 10 #[.val (.int b.toInt32), .val (.int en.toInt32), .val (.int n.toInt32)] []) (fun _ k => XS.pop X264.here hx rfl (hb hby d27_9) rfl rfl k) ?_
  exact Win.retV X264 hx hlk hret (hb hby d27_10) (by decide) (by decide) (by (try rw [e264]); exact ⟨rfl, N265, rfl⟩)
abbrev R_chkLen : Room := ⟨0, 0, 0, 0⟩
set_option maxRecDepth 65536 in
set_option maxHeartbeats 40000000 in
theorem chkLen (l : Launch) (Z : State) (a0 : Array Value) (hw : ∀ d ∈ tables_1, d.before a0 Z = true) (b : Nat) (en : Nat) (h0 : Heap) (n0 : Nat) (O0 : Old Z n0 h0) (hbe : b ≤ en) (he2 : en < 2 ^ 31) :
    MetN l Z (⟨"java/util/Arrays", "checkLength", "(II)V"⟩ : MethodName) jdk_65_method_131_code 2 none R_chkLen [] #[(.int b.toInt32), (.int en.toInt32)] h0 (fun v h L => v = none ∧ Fr n0 L ∧ h = h0) := by
  refine MetN.walk (plainFor_of_name pn_34) ?_
  intro p e s m below meth c s₁ hx hZ hby hml hown hnm hret hlk X0 e0
  have N0 := Fr.nil n0
  refine Win.to s₁ (mkF m 0 #[.val (.int b.toInt32), .val (.int en.toInt32)] []) (fun _ k => castTop (by first | (simp [entryFrame, mkF, argsToLocals, Value.category]; done) | rfl) k) ?_
  have hb2 : b < 2 ^ 31 := by omega
  refine Win.to s₁ (mkF m 1 #[.val (.int b.toInt32), .val (.int en.toInt32)] [(.int en.toInt32)]) (fun _ k => XS.iloadN X0.here hx rfl (hb hby d34_0) rfl k) ?_
  refine Win.to s₁ (mkF m 2 #[.val (.int b.toInt32), .val (.int en.toInt32)] [(.int b.toInt32), (.int en.toInt32)]) (fun _ k => XS.iloadN X0.here hx rfl (hb hby d34_1) rfl k) ?_
  refine Win.to s₁ (mkF m 37 #[.val (.int b.toInt32), .val (.int en.toInt32)] []) (fun _ k => XS.icmpYes X0.here hx rfl (pc0 := 2) (pc' := 37) rfl (hb hby d34_2) rfl (flt (show ¬ (en.toInt32 < b.toInt32) from (fun q => absurd ((own_lt he2 hb2).mp q) (by omega)))).2.1 (by decide) (by decide) k) ?_
  exact Win.retV X0 hx hlk hret (hb hby d34_37) (by decide) (by decide) (by (try rw [e0]); exact ⟨rfl, N0, rfl⟩)
abbrev R_cprB : Room := ⟨1, 1, 7, 18⟩
set_option maxRecDepth 65536 in
set_option maxHeartbeats 40000000 in
theorem cprB (l : Launch) (Z : State) (a0 : Array Value) (hw : ∀ d ∈ tables_1, d.before a0 Z = true) (t1 : Addr) (k1 : ClassId) (n : Nat) (f : Nat → Int32) (b : Nat) (m1 : Nat) (h0 : Heap) (n0 : Nat) (O0 : Old Z n0 h0) (Fa : ArF Z h0 t1 k1 .byte n f) (hbm : b + m1 ≤ n) (hcap : m1 ≤ 7) :
    MetN l Z (⟨"java/util/Arrays", "copyOfRangeByte", "([BII)[B"⟩ : MethodName) jdk_65_method_133_code 5 (some (.array .byte)) R_cprB [] #[(.ref t1), (.int b.toInt32), (.int (b + m1).toInt32)] h0 (fun v h L => ∃ (t2 : Addr) (k2 : ClassId), v = some (.ref t2) ∧ Fr n0 L ∧ Keep h0 h [] ∧ h0.size ≤ t2 ∧ ArF Z h t2 k2 .byte m1 (fun i => f (b + i))) := by
  refine MetN.walk (plainFor_of_name pn_33) ?_
  intro p e s m below meth c s₁ hx hZ hby hml hown hnm hret hlk X0 e0
  have N0 := Fr.nil n0
  refine Win.to s₁ (mkF m 0 #[.val (.ref t1), .val (.int b.toInt32), .val (.int (b + m1).toInt32), .unset, .unset] []) (fun _ k => castTop (by first | (simp [entryFrame, mkF, argsToLocals, Value.category]; done) | rfl) k) ?_
  have hn := Fa.big
  have hb2 : b < 2 ^ 31 := by omega
  have he2 : b + m1 < 2 ^ 31 := by omega
  have hm2 : m1 < 2 ^ 31 := by omega
  refine Win.to s₁ (mkF m 1 #[.val (.ref t1), .val (.int b.toInt32), .val (.int (b + m1).toInt32), .unset, .unset] [(.int b.toInt32)]) (fun _ k => XS.iloadN X0.here hx rfl (hb hby d33_0) rfl k) ?_
  refine Win.to s₁ (mkF m 2 #[.val (.ref t1), .val (.int b.toInt32), .val (.int (b + m1).toInt32), .unset, .unset] [(.int (b + m1).toInt32), (.int b.toInt32)]) (fun _ k => XS.iloadN X0.here hx rfl (hb hby d33_1) rfl k) ?_
  obtain ⟨T266, h266, v266, L266, X266, e266, ⟨rfl, N266q, r266_0⟩, st266⟩ := N.static X0 hx hZ (y := (⟨"java/util/Arrays", "checkLength", "(II)V"⟩ : MethodName)) hown (hw _ (List.mem_of_getElem? (i := 164) rfl)) (hw _ (List.mem_of_getElem? (i := 165) rfl)) (hw _ (List.mem_of_getElem? (i := 159) rfl)) (hw _ (List.mem_of_getElem? (i := 166) rfl)) (by decide) (chkLen l Z a0 hw b (b + m1) h0 n0 O0 (by omega) (by omega)) e0 (g := (mkF m 2 #[.val (.ref t1), .val (.int b.toInt32), .val (.int (b + m1).toInt32), .unset, .unset] [(.int (b + m1).toInt32), (.int b.toInt32)])) rfl (by rw [hml]; rfl) (argsL := [(.int b.toInt32), (.int (b + m1).toInt32)]) (rest := []) rfl (lenOf pd__II_V rfl) rfl (W := 0) (by show 2 * 0 + _ ≤ _; exact Nat.le_of_eq rfl) (hb hby d33_2) (by decide) (by decide) (by decide) (by decide)
  have N267 := Fr.app N0 N266q
  have e266 := e266.trans r266_0
  refine Win.to T266 (mkF m 5 #[.val (.ref t1), .val (.int b.toInt32), .val (.int (b + m1).toInt32), .unset, .unset] []) (fun _ k => st266 _ k) ?_
  refine Win.to T266 (mkF m 6 #[.val (.ref t1), .val (.int b.toInt32), .val (.int (b + m1).toInt32), .unset, .unset] [(.int (b + m1).toInt32)]) (fun _ k => XS.iloadN X266.here hx rfl (hb hby d33_5) rfl k) ?_
  refine Win.to T266 (mkF m 7 #[.val (.ref t1), .val (.int b.toInt32), .val (.int (b + m1).toInt32), .unset, .unset] [(.int b.toInt32), (.int (b + m1).toInt32)]) (fun _ k => XS.iloadN X266.here hx rfl (hb hby d33_6) rfl k) ?_
  refine Win.to T266 (mkF m 8 #[.val (.ref t1), .val (.int b.toInt32), .val (.int (b + m1).toInt32), .unset, .unset] [(.int m1.toInt32)]) (fun _ k => XS.isub X266.here hx rfl (hb hby d33_7) rfl (by rw [show ((b + m1).toInt32 - b.toInt32) = m1.toInt32 from (own_sub hb2 he2 (by omega)).trans (by rw [Nat.add_sub_cancel_left])]; exact k)) ?_
  refine Win.to T266 (mkF m 9 #[.val (.ref t1), .val (.int b.toInt32), .val (.int (b + m1).toInt32), .val (.int m1.toInt32), .unset] []) (fun _ k => XS.istoreN X266.here hx rfl (hb hby d33_8) rfl (l' := #[.val (.ref t1), .val (.int b.toInt32), .val (.int (b + m1).toInt32), .val (.int m1.toInt32), .unset]) rfl k) ?_
  refine Win.to T266 (mkF m 10 #[.val (.ref t1), .val (.int b.toInt32), .val (.int (b + m1).toInt32), .val (.int m1.toInt32), .unset] [(.int m1.toInt32)]) (fun _ k => XS.iloadN X266.here hx rfl (hb hby d33_9) rfl k) ?_
  obtain ⟨T268, h268, k268, X268, e268, E268, A268, st268⟩ := newP X266 hx hZ (hw _ (List.mem_of_getElem? (i := 26) rfl)) e266 (g := (mkF m 10 #[.val (.ref t1), .val (.int b.toInt32), .val (.int (b + m1).toInt32), .val (.int m1.toInt32), .unset] [(.int m1.toInt32)])) rfl (hb hby d33_10) rfl (own_tn hm2).2.1 (cap := 7) (by rw [(own_tn hm2).1]; exact hcap) (by decide) (by decide) (by decide)
  obtain ⟨b268, g268⟩ : ∃ z, z = h0.size := ⟨_, rfl⟩
  rw [← g268] at A268 st268
  have ne269 : t1 ≠ b268 := Nat.ne_of_lt (Nat.lt_of_lt_of_le Fa.lt (Nat.le_of_eq g268.symm))
  have g270 : n0 ≤ b268 := Nat.le_trans (own_le O0) (Nat.le_of_eq g268.symm)
  have z271 : h0.size ≤ b268 := (Nat.le_of_eq g268.symm)
  have O272 := Old.ext O0 E268
  have K273 : Keep h0 h268 [] := (Keep.refl h0 []).ext E268
  have F274 : ArF Z h268 b268 k268 .byte m1 (fun _ => 0) := (own_tn hm2).1 ▸ ArF.new A268 (own_tn hm2).2.1 rfl
  refine Win.to T268 (mkF m 12 #[.val (.ref t1), .val (.int b.toInt32), .val (.int (b + m1).toInt32), .val (.int m1.toInt32), .unset] [(.ref b268)]) (fun _ k => st268 _ k) ?_
  refine Win.to T268 (mkF m 14 #[.val (.ref t1), .val (.int b.toInt32), .val (.int (b + m1).toInt32), .val (.int m1.toInt32), .val (.ref b268)] []) (fun _ k => XS.astore X268.here hx rfl (hb hby d33_12) rfl rfl (l' := #[.val (.ref t1), .val (.int b.toInt32), .val (.int (b + m1).toInt32), .val (.int m1.toInt32), .val (.ref b268)]) rfl k) ?_
  refine Win.to T268 (mkF m 15 #[.val (.ref t1), .val (.int b.toInt32), .val (.int (b + m1).toInt32), .val (.int m1.toInt32), .val (.ref b268)] [(.ref t1)]) (fun _ k => XS.aloadN X268.here hx rfl (hb hby d33_14) rfl rfl k) ?_
  refine Win.to T268 (mkF m 16 #[.val (.ref t1), .val (.int b.toInt32), .val (.int (b + m1).toInt32), .val (.int m1.toInt32), .val (.ref b268)] [(.int b.toInt32), (.ref t1)]) (fun _ k => XS.iloadN X268.here hx rfl (hb hby d33_15) rfl k) ?_
  refine Win.to T268 (mkF m 18 #[.val (.ref t1), .val (.int b.toInt32), .val (.int (b + m1).toInt32), .val (.int m1.toInt32), .val (.ref b268)] [(.ref b268), (.int b.toInt32), (.ref t1)]) (fun _ k => XS.aload X268.here hx rfl (hb hby d33_16) rfl rfl k) ?_
  refine Win.to T268 (mkF m 19 #[.val (.ref t1), .val (.int b.toInt32), .val (.int (b + m1).toInt32), .val (.int m1.toInt32), .val (.ref b268)] [(.int (0 : Int32)), (.ref b268), (.int b.toInt32), (.ref t1)]) (fun _ k => XS.iconst X268.here hx rfl (hb hby d33_18) k) ?_
  refine Win.to T268 (mkF m 20 #[.val (.ref t1), .val (.int b.toInt32), .val (.int (b + m1).toInt32), .val (.int m1.toInt32), .val (.ref b268)] [(.ref t1), (.int (0 : Int32)), (.ref b268), (.int b.toInt32), (.ref t1)]) (fun _ k => XS.aloadN X268.here hx rfl (hb hby d33_19) rfl rfl k) ?_
  have F275 : ArF Z h268 t1 k1 .byte n f := (Fa.ext E268)
  obtain ⟨cl276, Ar276, hl276⟩ := ArF.len F275
  refine Win.to T268 (mkF m 21 #[.val (.ref t1), .val (.int b.toInt32), .val (.int (b + m1).toInt32), .val (.int m1.toInt32), .val (.ref b268)] [(.int n.toInt32), (.int (0 : Int32)), (.ref b268), (.int b.toInt32), (.ref t1)]) (fun _ k => X268.arraylength hx (by rw [e268]; exact Ar276.1) (State.isArrayOf_alike hZ.alike Ar276.2.1) (g := (mkF m 20 #[.val (.ref t1), .val (.int b.toInt32), .val (.int (b + m1).toInt32), .val (.int m1.toInt32), .val (.ref b268)] [(.ref t1), (.int (0 : Int32)), (.ref b268), (.int b.toInt32), (.ref t1)])) rfl rfl (hb hby d33_20) _ (by rw [hl276]; exact k)) ?_
  refine Win.to T268 (mkF m 22 #[.val (.ref t1), .val (.int b.toInt32), .val (.int (b + m1).toInt32), .val (.int m1.toInt32), .val (.ref b268)] [(.int b.toInt32), (.int n.toInt32), (.int (0 : Int32)), (.ref b268), (.int b.toInt32), (.ref t1)]) (fun _ k => XS.iloadN X268.here hx rfl (hb hby d33_21) rfl k) ?_
  refine Win.to T268 (mkF m 23 #[.val (.ref t1), .val (.int b.toInt32), .val (.int (b + m1).toInt32), .val (.int m1.toInt32), .val (.ref b268)] [(.int (n - b).toInt32), (.int (0 : Int32)), (.ref b268), (.int b.toInt32), (.ref t1)]) (fun _ k => XS.isub X268.here hx rfl (hb hby d33_22) rfl (by rw [show (n.toInt32 - b.toInt32) = (n - b).toInt32 from own_sub hb2 hn (by omega)]; exact k)) ?_
  refine Win.to T268 (mkF m 24 #[.val (.ref t1), .val (.int b.toInt32), .val (.int (b + m1).toInt32), .val (.int m1.toInt32), .val (.ref b268)] [(.int m1.toInt32), (.int (n - b).toInt32), (.int (0 : Int32)), (.ref b268), (.int b.toInt32), (.ref t1)]) (fun _ k => XS.iloadN X268.here hx rfl (hb hby d33_23) rfl k) ?_
  obtain ⟨T277, h277, v277, L277, X277, e277, ⟨rfl, N277q, r277_0⟩, st277⟩ := N.static X268 hx hZ (y := (⟨"java/lang/Math", "min", "(II)I"⟩ : MethodName)) hown (hw _ (List.mem_of_getElem? (i := 167) rfl)) (hw _ (List.mem_of_getElem? (i := 125) rfl)) (hw _ (List.mem_of_getElem? (i := 122) rfl)) (hw _ (List.mem_of_getElem? (i := 126) rfl)) (by decide) (minI l Z a0 hw ((n - b).toInt32) m1.toInt32 m1.toInt32 h268 n0 O272 (fun _ => rfl) (fun q => own_min (by omega) hm2 (by omega) q)) e268 (g := (mkF m 24 #[.val (.ref t1), .val (.int b.toInt32), .val (.int (b + m1).toInt32), .val (.int m1.toInt32), .val (.ref b268)] [(.int m1.toInt32), (.int (n - b).toInt32), (.int (0 : Int32)), (.ref b268), (.int b.toInt32), (.ref t1)])) rfl (by rw [hml]; rfl) (argsL := [(.int (n - b).toInt32), (.int m1.toInt32)]) (rest := [(.int (0 : Int32)), (.ref b268), (.int b.toInt32), (.ref t1)]) rfl (lenOf pd__II_I rfl) rfl (W := 4) (by show 2 * 0 + _ ≤ _; exact Nat.le_of_eq rfl) (hb hby d33_24) (by decide) (by decide) (by decide) (by decide)
  have N278 := Fr.app N267 N277q
  have e277 := e277.trans r277_0
  refine Win.to T277 (mkF m 27 #[.val (.ref t1), .val (.int b.toInt32), .val (.int (b + m1).toInt32), .val (.int m1.toInt32), .val (.ref b268)] [(.int m1.toInt32), (.int (0 : Int32)), (.ref b268), (.int b.toInt32), (.ref t1)]) (fun _ k => st277 _ k) ?_
  have As279 := own_arv F275
  have Ad279 := own_arv F274
  obtain ⟨T279, h279, L279, X279, e279, N279, Kc279, Ac279, st279⟩ := cpA X277 hx hZ hown (hw _ (List.mem_of_getElem? (i := 168) rfl)) (hw _ (List.mem_of_getElem? (i := 171) rfl)) (hw _ (List.mem_of_getElem? (i := 169) rfl)) (hw _ (List.mem_of_getElem? (i := 170) rfl)) e277 As279 Ad279 (Or.inl ⟨rfl, rfl⟩) (sp := b.toInt32) (dp := (0 : Int32)) (nn := m1.toInt32) (own_tn hb2).2.1 (by decide) (own_tn hm2).2.1 (by rw [(own_tn hb2).1, (own_tn hm2).1, (own_tn hn).1]; exact hbm) (by rw [(own_tn hm2).1]; exact Nat.le_of_eq (Nat.zero_add _)) rfl (by rw [(own_tn hm2).1]; simp) N278 g270 (g := (mkF m 27 #[.val (.ref t1), .val (.int b.toInt32), .val (.int (b + m1).toInt32), .val (.int m1.toInt32), .val (.ref b268)] [(.int m1.toInt32), (.int (0 : Int32)), (.ref b268), (.int b.toInt32), (.ref t1)])) rfl (by rw [hml]; rfl) (rest := []) rfl (hb hby d33_27) (by decide) (W := 0) (by show 2 * 0 + _ ≤ _; exact Nat.le_of_eq rfl) (by decide)
  have O281 := Old.keep O272 Kc279 (allS g270 all0)
  have K282 : Keep h0 h279 [] := Keep.trans K273 Kc279 (allS (Or.inr z271) all0)
  have F280 : ArF Z h279 b268 k268 .byte m1 (fun i => f (b + i)) := own_arfL Ac279 (own_tn hm2).1 (fun i hi => by rw [(own_tn hb2).1, (own_tn hm2).1]; exact own_cp hi hbm)
  refine Win.to T279 (mkF m 30 #[.val (.ref t1), .val (.int b.toInt32), .val (.int (b + m1).toInt32), .val (.int m1.toInt32), .val (.ref b268)] []) (fun _ k => st279 _ k) ?_
  refine Win.to T279 (mkF m 32 #[.val (.ref t1), .val (.int b.toInt32), .val (.int (b + m1).toInt32), .val (.int m1.toInt32), .val (.ref b268)] [(.ref b268)]) (fun _ k => XS.aload X279.here hx rfl (hb hby d33_30) rfl rfl k) ?_
  exact Win.retA X279 hx hlk hret rfl rfl (hb hby d33_32) (by decide) (by decide) (by (try rw [e279]); exact ⟨b268, k268, rfl, N279, K282, z271, F280⟩)
abbrev R_cpr : Room := ⟨2, 1, 7, 34⟩
set_option maxRecDepth 65536 in
set_option maxHeartbeats 40000000 in
theorem cpr (l : Launch) (Z : State) (a0 : Array Value) (hw : ∀ d ∈ tables_1, d.before a0 Z = true) (t1 : Addr) (k1 : ClassId) (n : Nat) (f : Nat → Int32) (b : Nat) (m1 : Nat) (h0 : Heap) (n0 : Nat) (O0 : Old Z n0 h0) (Fa : ArF Z h0 t1 k1 .byte n f) (hbm : b + m1 ≤ n) (hcap : m1 ≤ 7) (hnw : ¬ (b = 0 ∧ b + m1 = n)) :
    MetN l Z (⟨"java/util/Arrays", "copyOfRange", "([BII)[B"⟩ : MethodName) jdk_65_method_132_code 3 (some (.array .byte)) R_cpr [] #[(.ref t1), (.int b.toInt32), (.int (b + m1).toInt32)] h0 (fun v h L => ∃ (t2 : Addr) (k2 : ClassId), v = some (.ref t2) ∧ Fr n0 L ∧ Keep h0 h [] ∧ h0.size ≤ t2 ∧ ArF Z h t2 k2 .byte m1 (fun i => f (b + i))) := by
  refine MetN.walk (plainFor_of_name pn_32) ?_
  intro p e s m below meth c s₁ hx hZ hby hml hown hnm hret hlk X0 e0
  have N0 := Fr.nil n0
  refine Win.to s₁ (mkF m 0 #[.val (.ref t1), .val (.int b.toInt32), .val (.int (b + m1).toInt32)] []) (fun _ k => castTop (by first | (simp [entryFrame, mkF, argsToLocals, Value.category]; done) | rfl) k) ?_
  have hn := Fa.big
  have hb2 : b < 2 ^ 31 := by omega
  have he2 : b + m1 < 2 ^ 31 := by omega
  refine Win.to s₁ (mkF m 1 #[.val (.ref t1), .val (.int b.toInt32), .val (.int (b + m1).toInt32)] [(.int b.toInt32)]) (fun _ k => XS.iloadN X0.here hx rfl (hb hby d32_0) rfl k) ?_
  by_cases hc283 : b.toInt32 = (0 : Int32)
  · refine Win.to s₁ (mkF m 4 #[.val (.ref t1), .val (.int b.toInt32), .val (.int (b + m1).toInt32)] []) (fun _ k => XS.ifNo X0.here hx rfl (hb hby d32_1) rfl ((if0 _ _).trans (teq hc283).2) k) ?_
    refine Win.to s₁ (mkF m 5 #[.val (.ref t1), .val (.int b.toInt32), .val (.int (b + m1).toInt32)] [(.int (b + m1).toInt32)]) (fun _ k => XS.iloadN X0.here hx rfl (hb hby d32_4) rfl k) ?_
    refine Win.to s₁ (mkF m 6 #[.val (.ref t1), .val (.int b.toInt32), .val (.int (b + m1).toInt32)] [(.ref t1), (.int (b + m1).toInt32)]) (fun _ k => XS.aloadN X0.here hx rfl (hb hby d32_5) rfl rfl k) ?_
    obtain ⟨cl284, Ar284, hl284⟩ := ArF.len Fa
    refine Win.to s₁ (mkF m 7 #[.val (.ref t1), .val (.int b.toInt32), .val (.int (b + m1).toInt32)] [(.int n.toInt32), (.int (b + m1).toInt32)]) (fun _ k => X0.arraylength hx (by rw [e0]; exact Ar284.1) (State.isArrayOf_alike hZ.alike Ar284.2.1) (g := (mkF m 6 #[.val (.ref t1), .val (.int b.toInt32), .val (.int (b + m1).toInt32)] [(.ref t1), (.int (b + m1).toInt32)])) rfl rfl (hb hby d32_6) _ (by rw [hl284]; exact k)) ?_
    refine Win.to s₁ (mkF m 10 #[.val (.ref t1), .val (.int b.toInt32), .val (.int (b + m1).toInt32)] []) (fun _ k => XS.icmpNo X0.here hx rfl (hb hby d32_7) rfl (feq (show ¬ ((b + m1).toInt32 = n.toInt32) from (fun q => hnw ⟨own_zero hb2 hc283, own_inj he2 hn q⟩))).1 k) ?_
    refine Win.to s₁ (mkF m 11 #[.val (.ref t1), .val (.int b.toInt32), .val (.int (b + m1).toInt32)] [(.ref t1)]) (fun _ k => XS.aloadN X0.here hx rfl (hb hby d32_10) rfl rfl k) ?_
    refine Win.to s₁ (mkF m 12 #[.val (.ref t1), .val (.int b.toInt32), .val (.int (b + m1).toInt32)] [(.int b.toInt32), (.ref t1)]) (fun _ k => XS.iloadN X0.here hx rfl (hb hby d32_11) rfl k) ?_
    refine Win.to s₁ (mkF m 13 #[.val (.ref t1), .val (.int b.toInt32), .val (.int (b + m1).toInt32)] [(.int (b + m1).toInt32), (.int b.toInt32), (.ref t1)]) (fun _ k => XS.iloadN X0.here hx rfl (hb hby d32_12) rfl k) ?_
    obtain ⟨T285, h285, v285, L285, X285, e285, ⟨t2_285, k2_285, rfl, N285q, r285_0, r285_1, r285_2⟩, st285⟩ := N.static X0 hx hZ (y := (⟨"java/util/Arrays", "copyOfRangeByte", "([BII)[B"⟩ : MethodName)) hown (hw _ (List.mem_of_getElem? (i := 161) rfl)) (hw _ (List.mem_of_getElem? (i := 162) rfl)) (hw _ (List.mem_of_getElem? (i := 159) rfl)) (hw _ (List.mem_of_getElem? (i := 163) rfl)) (by decide) (cprB l Z a0 hw t1 k1 n f b m1 h0 n0 O0 Fa hbm hcap) e0 (g := (mkF m 13 #[.val (.ref t1), .val (.int b.toInt32), .val (.int (b + m1).toInt32)] [(.int (b + m1).toInt32), (.int b.toInt32), (.ref t1)])) rfl (by rw [hml]; rfl) (argsL := [(.ref t1), (.int b.toInt32), (.int (b + m1).toInt32)]) (rest := []) rfl (lenOf pd___BII__B rfl) rfl (W := 0) (by show 2 * 0 + _ ≤ _; exact Nat.le_of_eq rfl) (hb hby d32_13) (by decide) (by decide) (by decide) (by decide)
    have N286 := Fr.app N0 N285q
    have ne287 : t1 ≠ t2_285 := Nat.ne_of_lt (Nat.lt_of_lt_of_le Fa.lt r285_1)
    have g288 : n0 ≤ t2_285 := Nat.le_trans (own_le O0) r285_1
    have z289 : h0.size ≤ t2_285 := r285_1
    have O290 := Old.keep O0 r285_0 all0
    have K291 : Keep h0 h285 [] := Keep.trans (Keep.refl h0 []) r285_0 all0
    refine Win.to T285 (mkF m 16 #[.val (.ref t1), .val (.int b.toInt32), .val (.int (b + m1).toInt32)] [(.ref t2_285)]) (fun _ k => st285 _ k) ?_
    exact Win.retA X285 hx hlk hret rfl rfl (hb hby d32_16) (by decide) (by decide) (by (try rw [e285]); exact ⟨t2_285, k2_285, rfl, N286, K291, z289, r285_2⟩)
  · refine Win.to s₁ (mkF m 10 #[.val (.ref t1), .val (.int b.toInt32), .val (.int (b + m1).toInt32)] []) (fun _ k => XS.ifYes X0.here hx rfl (pc0 := 1) (pc' := 10) rfl (hb hby d32_1) rfl ((if0 _ _).trans (feq hc283).2) (by decide) (by decide) k) ?_
    refine Win.to s₁ (mkF m 11 #[.val (.ref t1), .val (.int b.toInt32), .val (.int (b + m1).toInt32)] [(.ref t1)]) (fun _ k => XS.aloadN X0.here hx rfl (hb hby d32_10) rfl rfl k) ?_
    refine Win.to s₁ (mkF m 12 #[.val (.ref t1), .val (.int b.toInt32), .val (.int (b + m1).toInt32)] [(.int b.toInt32), (.ref t1)]) (fun _ k => XS.iloadN X0.here hx rfl (hb hby d32_11) rfl k) ?_
    refine Win.to s₁ (mkF m 13 #[.val (.ref t1), .val (.int b.toInt32), .val (.int (b + m1).toInt32)] [(.int (b + m1).toInt32), (.int b.toInt32), (.ref t1)]) (fun _ k => XS.iloadN X0.here hx rfl (hb hby d32_12) rfl k) ?_
    obtain ⟨T292, h292, v292, L292, X292, e292, ⟨t2_292, k2_292, rfl, N292q, r292_0, r292_1, r292_2⟩, st292⟩ := N.static X0 hx hZ (y := (⟨"java/util/Arrays", "copyOfRangeByte", "([BII)[B"⟩ : MethodName)) hown (hw _ (List.mem_of_getElem? (i := 161) rfl)) (hw _ (List.mem_of_getElem? (i := 162) rfl)) (hw _ (List.mem_of_getElem? (i := 159) rfl)) (hw _ (List.mem_of_getElem? (i := 163) rfl)) (by decide) (cprB l Z a0 hw t1 k1 n f b m1 h0 n0 O0 Fa hbm hcap) e0 (g := (mkF m 13 #[.val (.ref t1), .val (.int b.toInt32), .val (.int (b + m1).toInt32)] [(.int (b + m1).toInt32), (.int b.toInt32), (.ref t1)])) rfl (by rw [hml]; rfl) (argsL := [(.ref t1), (.int b.toInt32), (.int (b + m1).toInt32)]) (rest := []) rfl (lenOf pd___BII__B rfl) rfl (W := 0) (by show 2 * 0 + _ ≤ _; exact Nat.le_of_eq rfl) (hb hby d32_13) (by decide) (by decide) (by decide) (by decide)
    have N293 := Fr.app N0 N292q
    have ne294 : t1 ≠ t2_292 := Nat.ne_of_lt (Nat.lt_of_lt_of_le Fa.lt r292_1)
    have g295 : n0 ≤ t2_292 := Nat.le_trans (own_le O0) r292_1
    have z296 : h0.size ≤ t2_292 := r292_1
    have O297 := Old.keep O0 r292_0 all0
    have K298 : Keep h0 h292 [] := Keep.trans (Keep.refl h0 []) r292_0 all0
    refine Win.to T292 (mkF m 16 #[.val (.ref t1), .val (.int b.toInt32), .val (.int (b + m1).toInt32)] [(.ref t2_292)]) (fun _ k => st292 _ k) ?_
    exact Win.retA X292 hx hlk hret rfl rfl (hb hby d32_16) (by decide) (by decide) (by (try rw [e292]); exact ⟨t2_292, k2_292, rfl, N293, K298, z296, r292_2⟩)
abbrev R_ctorBB : Room := ⟨1, 0, 0, 12⟩
set_option maxRecDepth 65536 in
set_option maxHeartbeats 40000000 in
theorem ctorBB (l : Launch) (Z : State) (a0 : Array Value) (hw : ∀ d ∈ tables_1, d.before a0 Z = true) (a1 : Addr) (t1 : Addr) (h0 : Heap) (n0 : Nat) (O0 : Old Z n0 h0) (E1 : Exa Z h0 a1 "java/lang/String") (F1 : Fld Z h0 a1 "java/lang/String" "value" "[B" .null) (F2 : Fld Z h0 a1 "java/lang/String" "coder" "B" (.int (0 : Int32))) (g1 : n0 ≤ a1) :
    MetN l Z (⟨"java/lang/String", "<init>", "([BB)V"⟩ : MethodName) jdk_42_method_151_code 3 none R_ctorBB [] #[(.ref a1), (.ref t1), (.int (0 : Int32))] h0 (fun v h L => v = none ∧ Fr n0 L ∧ Keep h0 h [a1] ∧ Fld Z h a1 "java/lang/String" "value" "[B" (.ref t1) ∧ Fld Z h a1 "java/lang/String" "coder" "B" (.int (0 : Int32))) := by
  refine MetN.walk (plainFor_of_name pn_35) ?_
  intro p e s m below meth c s₁ hx hZ hby hml hown hnm hret hlk X0 e0
  have N0 := Fr.nil n0
  refine Win.to s₁ (mkF m 0 #[.val (.ref a1), .val (.ref t1), .val (.int (0 : Int32))] []) (fun _ k => castTop (by first | (simp [entryFrame, mkF, argsToLocals, Value.category]; done) | rfl) k) ?_
  refine Win.to s₁ (mkF m 1 #[.val (.ref a1), .val (.ref t1), .val (.int (0 : Int32))] [(.ref a1)]) (fun _ k => XS.aloadN X0.here hx rfl (hb hby d35_0) rfl rfl k) ?_
  obtain ⟨T299, X299, e299, st299⟩ := initO X0 hx hZ hown (hw _ (List.mem_of_getElem? (i := 18) rfl)) (hw _ (List.mem_of_getElem? (i := 19) rfl)) (hw _ (List.mem_of_getElem? (i := 20) rfl)) e0 (g := (mkF m 1 #[.val (.ref a1), .val (.ref t1), .val (.int (0 : Int32))] [(.ref a1)])) rfl (by rw [hml]; rfl) rfl (hb hby d35_1) (by decide) (W := 0) (by show 2 * 0 + _ ≤ _; exact Nat.le_of_eq rfl) (by decide)
  refine Win.to T299 (mkF m 4 #[.val (.ref a1), .val (.ref t1), .val (.int (0 : Int32))] []) (fun _ k => st299 _ k) ?_
  refine Win.to T299 (mkF m 5 #[.val (.ref a1), .val (.ref t1), .val (.int (0 : Int32))] [(.ref a1)]) (fun _ k => XS.aloadN X299.here hx rfl (hb hby d35_4) rfl rfl k) ?_
  refine Win.to T299 (mkF m 6 #[.val (.ref a1), .val (.ref t1), .val (.int (0 : Int32))] [(.ref t1), (.ref a1)]) (fun _ k => XS.aloadN X299.here hx rfl (hb hby d35_5) rfl rfl k) ?_
  obtain ⟨T300, h300, X300, e300, W300, st300⟩ := putF X299 hx hZ hown (host := "") (Or.inl (hw _ (List.mem_of_getElem? (i := 35) rfl))) Via.refl e299 F1 E1 (Or.inr ⟨(hw _ (List.mem_of_getElem? (i := 36) rfl)), rfl, hnm⟩) (hw _ (List.mem_of_getElem? (i := 5) rfl)) (ty := (.array .byte)) (by decide) rfl rfl (g := (mkF m 6 #[.val (.ref a1), .val (.ref t1), .val (.int (0 : Int32))] [(.ref t1), (.ref a1)])) rfl rfl (hb hby d35_6)
  have O302 := Old.wr O0 W300 g1
  have K303 : Keep h0 h300 [a1] := (Keep.refl h0 [a1]).wr W300 (Or.inl (List.mem_of_getElem? (i := 0) rfl))
  have N304 := Fr.snoc X300 N0 g1
  have F301 : Fld Z h300 a1 "java/lang/String" "value" "[B" (.ref t1) := Fld.same W300 F1
  refine Win.to T300 (mkF m 9 #[.val (.ref a1), .val (.ref t1), .val (.int (0 : Int32))] []) (fun _ k => st300 _ k) ?_
  refine Win.to T300 (mkF m 10 #[.val (.ref a1), .val (.ref t1), .val (.int (0 : Int32))] [(.ref a1)]) (fun _ k => XS.aloadN X300.here hx rfl (hb hby d35_9) rfl rfl k) ?_
  refine Win.to T300 (mkF m 11 #[.val (.ref a1), .val (.ref t1), .val (.int (0 : Int32))] [(.int (0 : Int32)), (.ref a1)]) (fun _ k => XS.iloadN X300.here hx rfl (hb hby d35_10) rfl k) ?_
  have F305 : Exa Z h300 a1 "java/lang/String" := (Exa.wr W300 E1)
  have F306 : Fld Z h300 a1 "java/lang/String" "coder" "B" (.int (0 : Int32)) := (Fld.other W300 F2 (Or.inr (slot_ne (Or.inr (hw _ (List.mem_of_getElem? (i := 34) rfl))) (Or.inr (hw _ (List.mem_of_getElem? (i := 36) rfl))) (by decide) (t := .byte) (t' := (.array .byte)) (by decide) (by decide))))
  obtain ⟨T307, h307, X307, e307, W307, st307⟩ := putFN X300 hx hZ hown (hw _ (List.mem_of_getElem? (i := 33) rfl)) Via.refl e300 F306 F305 (Or.inr ⟨(hw _ (List.mem_of_getElem? (i := 34) rfl)), rfl, hnm⟩) (hw _ (List.mem_of_getElem? (i := 5) rfl)) (ty := .byte) (v' := (.int (0 : Int32))) (by decide) rfl rfl (g := (mkF m 11 #[.val (.ref a1), .val (.ref t1), .val (.int (0 : Int32))] [(.int (0 : Int32)), (.ref a1)])) rfl rfl (hb hby d35_11)
  have O309 := Old.wr O302 W307 g1
  have K310 : Keep h0 h307 [a1] := K303.wr W307 (Or.inl (List.mem_of_getElem? (i := 0) rfl))
  have N311 := Fr.snoc X307 N304 g1
  have F308 : Fld Z h307 a1 "java/lang/String" "coder" "B" (.int (0 : Int32)) := Fld.same W307 F306
  refine Win.to T307 (mkF m 14 #[.val (.ref a1), .val (.ref t1), .val (.int (0 : Int32))] []) (fun _ k => st307 _ k) ?_
  have F312 : Fld Z h307 a1 "java/lang/String" "value" "[B" (.ref t1) := (Fld.other W307 F301 (Or.inr (slot_ne (Or.inr (hw _ (List.mem_of_getElem? (i := 36) rfl))) (Or.inr (hw _ (List.mem_of_getElem? (i := 34) rfl))) (by decide) (t := (.array .byte)) (t' := .byte) (by decide) (by decide))))
  exact Win.retV X307 hx hlk hret (hb hby d35_14) (by decide) (by decide) (by (try rw [e307]); exact ⟨rfl, N311, K310, F312, F308⟩)
abbrev R_newStr : Room := ⟨3, 2, 11, 50⟩
set_option maxRecDepth 65536 in
set_option maxHeartbeats 40000000 in
theorem newStr (l : Launch) (Z : State) (a0 : Array Value) (hw : ∀ d ∈ tables_1, d.before a0 Z = true) (t1 : Addr) (k1 : ClassId) (n : Nat) (f : Nat → Int32) (b : Nat) (m1 : Nat) (h0 : Heap) (n0 : Nat) (O0 : Old Z n0 h0) (Fa : ArF Z h0 t1 k1 .byte n f) (hbm : b + m1 ≤ n) (hcap : m1 ≤ 7) (hnw : ¬ (b = 0 ∧ b + m1 = n)) :
    MetW l Z (⟨"java/lang/StringLatin1", "newString", "([BII)Ljava/lang/String;"⟩ : MethodName) jdk_43_method_47_code 3 (some (.object "java/lang/String")) R_newStr [] #[(.ref t1), (.int b.toInt32), (.int m1.toInt32)] h0 EL1 (fun v h L => ∃ (r : Addr) (t2 : Addr) (k2 : ClassId), v = some (.ref r) ∧ Fr n0 L ∧ Keep h0 h [] ∧ Exa Z h r "java/lang/String" ∧ Fld Z h r "java/lang/String" "value" "[B" (.ref t2) ∧ Fld Z h r "java/lang/String" "coder" "B" (.int (0 : Int32)) ∧ ArF Z h t2 k2 .byte m1 (fun i => f (b + i))) := by
  refine MetW.walk (plainFor_of_name pn_29) ?_
  intro p e s m below meth c s₁ hx hZ hby hml hown hnm hret hlk C0 hS0 X0 e0
  have N0 := Fr.nil n0
  refine WinW.to s₁ (mkF m 0 #[.val (.ref t1), .val (.int b.toInt32), .val (.int m1.toInt32)] []) (fun _ k => castTop (by first | (simp [entryFrame, mkF, argsToLocals, Value.category]; done) | rfl) k) ?_
  have hn := Fa.big
  have hb2 : b < 2 ^ 31 := by omega
  have he2 : b + m1 < 2 ^ 31 := by omega
  have hm2 : m1 < 2 ^ 31 := by omega
  refine WinW.to s₁ (mkF m 1 #[.val (.ref t1), .val (.int b.toInt32), .val (.int m1.toInt32)] [(.int m1.toInt32)]) (fun _ k => XS.iloadN X0.here hx rfl (hb hby d29_0) rfl k) ?_
  by_cases hc313 : m1.toInt32 = (0 : Int32)
  · refine WinW.to s₁ (mkF m 4 #[.val (.ref t1), .val (.int b.toInt32), .val (.int m1.toInt32)] []) (fun _ k => XS.ifNo X0.here hx rfl (hb hby d29_1) rfl ((if0 _ _).trans (teq hc313).2) k) ?_
    obtain ⟨b314, T314, h314, k314, d314, kk314, X314, e314, E314, hS314, hk314, hZ314, hown314, Fe314, Fc314, Fv314, Fa314, -, -, c314, -, Sf314, st314⟩ := ldcCH X0 hx hZ hown (hw _ (List.mem_of_getElem? (i := 146) rfl)) (own_wS hw) e0 hS0 (Nat.zero_le _) (own_EW hw) (by decide) C0.1 (vs := []) (z := (0 : Int32)) (by decide) (by decide) rfl (g := (mkF m 4 #[.val (.ref t1), .val (.int b.toInt32), .val (.int m1.toInt32)] [])) rfl (hb hby d29_4) (n := 0) (by decide) (by decide) (by decide) (by decide)
    have O315 := Old.ext O0 E314
    have K316 : Keep h0 h314 [] := (Keep.refl h0 []).ext E314
    have c317 := c314
    have C318 := CHr.trans C0 c317
    refine WinW.to T314 (mkF m 6 #[.val (.ref t1), .val (.int b.toInt32), .val (.int m1.toInt32)] [(.ref b314)]) (fun _ k => st314 _ k) ?_
    have F319 : ArF Z h314 d314 kk314 .byte 0 (fun i => ([] : List Int32).getD i 0) := own_arf [] Fa314 rfl
    have hm0 : m1 = 0 := own_zero hm2 hc313
    have F320 : ArF Z h314 d314 kk314 .byte m1 (fun i => f (b + i)) := by rw [hm0]; exact ArF.cong F319 fun i hi => absurd hi (Nat.not_lt_zero _)
    exact WinW.retA X314 hS314 (by rw [e314]; exact hk314) hx hlk hret rfl rfl (hb hby d29_6) hZ314 (own_EW hw) (by rw [e314]; exact C318) (by decide) (by decide) (by (try rw [e314]); exact ⟨b314, d314, kk314, rfl, N0, K316, Fe314, Fv314, Fc314, F320⟩)
  · refine WinW.to s₁ (mkF m 7 #[.val (.ref t1), .val (.int b.toInt32), .val (.int m1.toInt32)] []) (fun _ k => XS.ifYes X0.here hx rfl (pc0 := 1) (pc' := 7) rfl (hb hby d29_1) rfl ((if0 _ _).trans (feq hc313).2) (by decide) (by decide) k) ?_
    obtain ⟨T321, h321, X321, e321, E321, A321, D321, -, st321⟩ := newO X0 hx hZ hown (hw _ (List.mem_of_getElem? (i := 156) rfl)) (hw _ (List.mem_of_getElem? (i := 5) rfl)) (hw _ (List.mem_of_getElem? (i := 6) rfl)) e0 (g := (mkF m 7 #[.val (.ref t1), .val (.int b.toInt32), .val (.int m1.toInt32)] [])) rfl (hb hby d29_7) (by decide) (by decide)
    obtain ⟨b321, g321⟩ : ∃ z, z = h0.size := ⟨_, rfl⟩
    rw [← g321] at A321 D321 st321
    have ne322 : t1 ≠ b321 := Nat.ne_of_lt (Nat.lt_of_lt_of_le Fa.lt (Nat.le_of_eq g321.symm))
    have g323 : n0 ≤ b321 := Nat.le_trans (own_le O0) (Nat.le_of_eq g321.symm)
    have z324 : h0.size ≤ b321 := (Nat.le_of_eq g321.symm)
    have O325 := Old.ext O0 E321
    have K326 : Keep h0 h321 [] := (Keep.refl h0 []).ext E321
    have c327 := CHr.ext E321 C0.1
    have C328 := CHr.trans C0 c327
    have F329 : Fld Z h321 b321 "java/lang/String" "coder" "B" (.int (0 : Int32)) := D321 (Or.inr (hw _ (List.mem_of_getElem? (i := 34) rfl))) (ty := .byte) (by decide)
    have F330 : Fld Z h321 b321 "java/lang/String" "value" "[B" .null := D321 (Or.inr (hw _ (List.mem_of_getElem? (i := 36) rfl))) (ty := (.array .byte)) (by decide)
    refine WinW.to T321 (mkF m 10 #[.val (.ref t1), .val (.int b.toInt32), .val (.int m1.toInt32)] [(.ref b321)]) (fun _ k => st321 _ k) ?_
    refine WinW.to T321 (mkF m 11 #[.val (.ref t1), .val (.int b.toInt32), .val (.int m1.toInt32)] [(.ref b321), (.ref b321)]) (fun _ k => XS.dup X321.here hx rfl (hb hby d29_10) rfl rfl k) ?_
    refine WinW.to T321 (mkF m 12 #[.val (.ref t1), .val (.int b.toInt32), .val (.int m1.toInt32)] [(.ref t1), (.ref b321), (.ref b321)]) (fun _ k => XS.aloadN X321.here hx rfl (hb hby d29_11) rfl rfl k) ?_
    refine WinW.to T321 (mkF m 13 #[.val (.ref t1), .val (.int b.toInt32), .val (.int m1.toInt32)] [(.int b.toInt32), (.ref t1), (.ref b321), (.ref b321)]) (fun _ k => XS.iloadN X321.here hx rfl (hb hby d29_12) rfl k) ?_
    refine WinW.to T321 (mkF m 14 #[.val (.ref t1), .val (.int b.toInt32), .val (.int m1.toInt32)] [(.int b.toInt32), (.int b.toInt32), (.ref t1), (.ref b321), (.ref b321)]) (fun _ k => XS.iloadN X321.here hx rfl (hb hby d29_13) rfl k) ?_
    refine WinW.to T321 (mkF m 15 #[.val (.ref t1), .val (.int b.toInt32), .val (.int m1.toInt32)] [(.int m1.toInt32), (.int b.toInt32), (.int b.toInt32), (.ref t1), (.ref b321), (.ref b321)]) (fun _ k => XS.iloadN X321.here hx rfl (hb hby d29_14) rfl k) ?_
    refine WinW.to T321 (mkF m 16 #[.val (.ref t1), .val (.int b.toInt32), .val (.int m1.toInt32)] [(.int (b + m1).toInt32), (.int b.toInt32), (.ref t1), (.ref b321), (.ref b321)]) (fun _ k => XS.iadd X321.here hx rfl (hb hby d29_15) rfl (by rw [show (b.toInt32 + m1.toInt32) = (b + m1).toInt32 from own_add he2]; exact k)) ?_
    have F331 : ArF Z h321 t1 k1 .byte n f := (Fa.ext E321)
    obtain ⟨T332, h332, v332, L332, X332, e332, ⟨t2_332, k2_332, rfl, N332q, r332_0, r332_1, r332_2⟩, st332⟩ := N.static X321 hx hZ (y := (⟨"java/util/Arrays", "copyOfRange", "([BII)[B"⟩ : MethodName)) hown (hw _ (List.mem_of_getElem? (i := 157) rfl)) (hw _ (List.mem_of_getElem? (i := 158) rfl)) (hw _ (List.mem_of_getElem? (i := 159) rfl)) (hw _ (List.mem_of_getElem? (i := 160) rfl)) (by decide) (cpr l Z a0 hw t1 k1 n f b m1 h321 n0 O325 F331 hbm hcap hnw) e321 (g := (mkF m 16 #[.val (.ref t1), .val (.int b.toInt32), .val (.int m1.toInt32)] [(.int (b + m1).toInt32), (.int b.toInt32), (.ref t1), (.ref b321), (.ref b321)])) rfl (by rw [hml]; rfl) (argsL := [(.ref t1), (.int b.toInt32), (.int (b + m1).toInt32)]) (rest := [(.ref b321), (.ref b321)]) rfl (lenOf pd___BII__B rfl) rfl (W := 2) (by show 2 * 0 + _ ≤ _; exact Nat.le_of_eq rfl) (hb hby d29_16) (by decide) (by decide) (by decide) (by decide)
    have N333 := Fr.app N0 N332q
    have ne334 : t1 ≠ t2_332 := Nat.ne_of_lt (Nat.lt_of_lt_of_le F331.lt r332_1)
    have ne335 : b321 ≠ t2_332 := Nat.ne_of_lt (Nat.lt_of_lt_of_le A321.lt r332_1)
    have g336 : n0 ≤ t2_332 := Nat.le_trans (own_le O325) r332_1
    have z337 : h0.size ≤ t2_332 := Nat.le_trans K326.1 r332_1
    have O338 := Old.keep O325 r332_0 all0
    have K339 : Keep h0 h332 [] := Keep.trans K326 r332_0 all0
    have c340 := CHr.keep r332_0 sf0 C328.1
    have C341 := CHr.trans C328 c340
    refine WinW.to T332 (mkF m 19 #[.val (.ref t1), .val (.int b.toInt32), .val (.int m1.toInt32)] [(.ref t2_332), (.ref b321), (.ref b321)]) (fun _ k => st332 _ k) ?_
    refine WinW.to T332 (mkF m 20 #[.val (.ref t1), .val (.int b.toInt32), .val (.int m1.toInt32)] [(.int (0 : Int32)), (.ref t2_332), (.ref b321), (.ref b321)]) (fun _ k => XS.iconst X332.here hx rfl (hb hby d29_19) k) ?_
    have F342 : Exa Z h332 b321 "java/lang/String" := (A321.keep r332_0)
    have F343 : Fld Z h332 b321 "java/lang/String" "value" "[B" .null := (F330.keep r332_0 nin0)
    have F344 : Fld Z h332 b321 "java/lang/String" "coder" "B" (.int (0 : Int32)) := (F329.keep r332_0 nin0)
    have S346 : Safe Z EL1 (s.setVm s.vm).vm h332 b321 := own_safe hZ.alike F342 F343 (hw _ (List.mem_of_getElem? (i := 5) rfl))
    obtain ⟨T345, h345, v345, L345, X345, e345, ⟨rfl, N345q, r345_0, r345_1, r345_2⟩, st345⟩ := N.special X332 hx hZ (y := (⟨"java/lang/String", "<init>", "([BB)V"⟩ : MethodName)) rfl hown (hw _ (List.mem_of_getElem? (i := 172) rfl)) (hw _ (List.mem_of_getElem? (i := 173) rfl)) (hw _ (List.mem_of_getElem? (i := 6) rfl)) (hw _ (List.mem_of_getElem? (i := 174) rfl)) (by decide) (ctorBB l Z a0 hw b321 t2_332 h332 n0 O338 F342 F343 F344 g323) e332 (g := (mkF m 20 #[.val (.ref t1), .val (.int b.toInt32), .val (.int m1.toInt32)] [(.int (0 : Int32)), (.ref t2_332), (.ref b321), (.ref b321)])) rfl (by rw [hml]; rfl) (a := b321) (argsL := [(.ref t2_332), (.int (0 : Int32))]) (rest := [(.ref b321)]) rfl (lenOf pd___BB_V rfl) rfl (W := 1) (by show 2 * 0 + _ ≤ _; exact Nat.le_of_eq rfl) (hb hby d29_20) (by decide) (by decide) (by decide) (by decide)
    have N347 := Fr.app N333 N345q
    have O348 := Old.keep O338 r345_0 (allS g323 all0)
    have K349 : Keep h0 h345 [] := Keep.trans K339 r345_0 (allS (Or.inr z324) all0)
    have c350 := CHr.keep r345_0 (sfS S346 sf0) C341.1
    have C351 := CHr.trans C341 c350
    have S352 := CHr.safe c350 F342.lt S346
    refine WinW.to T345 (mkF m 23 #[.val (.ref t1), .val (.int b.toInt32), .val (.int m1.toInt32)] [(.ref b321)]) (fun _ k => st345 _ k) ?_
    have F353 : Exa Z h345 b321 "java/lang/String" := (F342.keep r345_0)
    have F354 : ArF Z h345 t2_332 k2_332 .byte m1 (fun i => f (b + i)) := (r332_2.keep r345_0 (ninS (Ne.symm ne335) nin0))
    exact WinW.retA X345 hS0 (by rw [e345]; exact (Nat.zero_le _)) hx hlk hret rfl rfl (hb hby d29_23) hZ (own_EW hw) (by rw [e345]; exact C351) (by decide) (by decide) (by (try rw [e345]); exact ⟨b321, t2_332, k2_332, rfl, N347, K349, F353, r345_1, r345_2, F354⟩)
abbrev R_subs : Room := ⟨4, 2, 11, 64⟩
set_option maxRecDepth 65536 in
set_option maxHeartbeats 40000000 in
theorem subs (l : Launch) (Z : State) (a0 : Array Value) (hw : ∀ d ∈ tables_1, d.before a0 Z = true) (a1 : Addr) (t1 : Addr) (k1 : ClassId) (n : Nat) (f : Nat → Int32) (b : Nat) (en : Nat) (cs : Int32) (x1 : Value) (h0 : Heap) (n0 : Nat) (O0 : Old Z n0 h0) (E1 : Exa Z h0 a1 "java/lang/String") (F1 : Fld Z h0 a1 "java/lang/String" "value" "[B" (.ref t1)) (F2 : Fld Z h0 a1 "java/lang/String" "coder" "B" (.int (0 : Int32))) (Fa : ArF Z h0 t1 k1 .byte n f) (hbe : b ≤ en) (hen : en ≤ n) (hcap : n ≤ 7) (S_CS : Sta Z Z.heap "java/lang/String" "COMPACT_STRINGS" "Z" (.int cs)) (hcs : ¬ (cs = (0 : Int32))) (S_SI : Sta Z Z.heap "jdk/internal/util/Preconditions" "SIOOBE_FORMATTER" "Ljava/util/function/BiFunction;" x1) (hx1 : x1.isRef = true) :
    MetW l Z (⟨"java/lang/String", "substring", "(II)Ljava/lang/String;"⟩ : MethodName) jdk_42_method_92_code 5 (some (.object "java/lang/String")) R_subs [] #[(.ref a1), (.int b.toInt32), (.int en.toInt32)] h0 EL1 (fun v h L => ∃ (r : Addr) (t2 : Addr) (k2 : ClassId), v = some (.ref r) ∧ Fr n0 L ∧ Keep h0 h [] ∧ Exa Z h r "java/lang/String" ∧ Fld Z h r "java/lang/String" "value" "[B" (.ref t2) ∧ Fld Z h r "java/lang/String" "coder" "B" (.int (0 : Int32)) ∧ ArF Z h t2 k2 .byte (en - b) (fun i => f (b + i))) := by
  refine MetW.walk (plainFor_of_name pn_26) ?_
  intro p e s m below meth c s₁ hx hZ hby hml hown hnm hret hlk C0 hS0 X0 e0
  have N0 := Fr.nil n0
  refine WinW.to s₁ (mkF m 0 #[.val (.ref a1), .val (.int b.toInt32), .val (.int en.toInt32), .unset, .unset] []) (fun _ k => castTop (by first | (simp [entryFrame, mkF, argsToLocals, Value.category]; done) | rfl) k) ?_
  have hn := Fa.big
  have hb2 : b < 2 ^ 31 := by omega
  have he2 : en < 2 ^ 31 := by omega
  refine WinW.to s₁ (mkF m 1 #[.val (.ref a1), .val (.int b.toInt32), .val (.int en.toInt32), .unset, .unset] [(.ref a1)]) (fun _ k => XS.aloadN X0.here hx rfl (hb hby d26_0) rfl rfl k) ?_
  obtain ⟨T355, h355, v355, L355, X355, e355, ⟨rfl, N355q, r355_0⟩, st355⟩ := N.virtual X0 hx hZ (y := (⟨"java/lang/String", "length", "()I"⟩ : MethodName)) (z := (⟨"java/lang/String", "length", "()I"⟩ : MethodName)) hown (hw _ (List.mem_of_getElem? (i := 103) rfl)) (hw _ (List.mem_of_getElem? (i := 104) rfl)) (notFace_of_selects (args := #[]) (mvT hZ (hw _ (List.mem_of_getElem? (i := 106) rfl)))) (hw _ (List.mem_of_getElem? (i := 106) rfl)) (hw _ (List.mem_of_getElem? (i := 105) rfl)) (hw _ (List.mem_of_getElem? (i := 6) rfl)) (hw _ (List.mem_of_getElem? (i := 107) rfl)) (by decide) (strLen l Z a0 hw a1 t1 k1 n f cs h0 n0 O0 E1 F1 F2 Fa S_CS hcs) e0 E1 (g := (mkF m 1 #[.val (.ref a1), .val (.int b.toInt32), .val (.int en.toInt32), .unset, .unset] [(.ref a1)])) rfl (by rw [hml]; rfl) (argsL := []) (rest := []) rfl (lenOf pd___I rfl) rfl (W := 0) (by show 2 * 0 + _ ≤ _; exact Nat.le_of_eq rfl) (hb hby d26_1) (by decide) (by decide) (by decide) (by decide)
  have N356 := Fr.app N0 N355q
  have e355 := e355.trans r355_0
  refine WinW.to T355 (mkF m 4 #[.val (.ref a1), .val (.int b.toInt32), .val (.int en.toInt32), .unset, .unset] [(.int n.toInt32)]) (fun _ k => st355 _ k) ?_
  refine WinW.to T355 (mkF m 5 #[.val (.ref a1), .val (.int b.toInt32), .val (.int en.toInt32), .val (.int n.toInt32), .unset] []) (fun _ k => XS.istoreN X355.here hx rfl (hb hby d26_4) rfl (l' := #[.val (.ref a1), .val (.int b.toInt32), .val (.int en.toInt32), .val (.int n.toInt32), .unset]) rfl k) ?_
  refine WinW.to T355 (mkF m 6 #[.val (.ref a1), .val (.int b.toInt32), .val (.int en.toInt32), .val (.int n.toInt32), .unset] [(.int b.toInt32)]) (fun _ k => XS.iloadN X355.here hx rfl (hb hby d26_5) rfl k) ?_
  refine WinW.to T355 (mkF m 7 #[.val (.ref a1), .val (.int b.toInt32), .val (.int en.toInt32), .val (.int n.toInt32), .unset] [(.int en.toInt32), (.int b.toInt32)]) (fun _ k => XS.iloadN X355.here hx rfl (hb hby d26_6) rfl k) ?_
  refine WinW.to T355 (mkF m 8 #[.val (.ref a1), .val (.int b.toInt32), .val (.int en.toInt32), .val (.int n.toInt32), .unset] [(.int n.toInt32), (.int en.toInt32), (.int b.toInt32)]) (fun _ k => XS.iloadN X355.here hx rfl (hb hby d26_7) rfl k) ?_
  obtain ⟨T357, h357, v357, L357, X357, e357, ⟨rfl, N357q, r357_0⟩, st357⟩ := N.static X355 hx hZ (y := (⟨"java/lang/String", "checkBoundsBeginEnd", "(III)V"⟩ : MethodName)) hown (hw _ (List.mem_of_getElem? (i := 135) rfl)) (hw _ (List.mem_of_getElem? (i := 136) rfl)) (hw _ (List.mem_of_getElem? (i := 6) rfl)) (hw _ (List.mem_of_getElem? (i := 137) rfl)) (by decide) (chkBE l Z a0 hw b en n x1 h0 n0 O0 hbe hen (by first | assumption | decide | omega) S_SI hx1) e355 (g := (mkF m 8 #[.val (.ref a1), .val (.int b.toInt32), .val (.int en.toInt32), .val (.int n.toInt32), .unset] [(.int n.toInt32), (.int en.toInt32), (.int b.toInt32)])) rfl (by rw [hml]; rfl) (argsL := [(.int b.toInt32), (.int en.toInt32), (.int n.toInt32)]) (rest := []) rfl (lenOf pd__III_V rfl) rfl (W := 0) (by show 2 * 0 + _ ≤ _; exact Nat.le_of_eq rfl) (hb hby d26_8) (by decide) (by decide) (by decide) (by decide)
  have N358 := Fr.app N356 N357q
  have e357 := e357.trans r357_0
  refine WinW.to T357 (mkF m 11 #[.val (.ref a1), .val (.int b.toInt32), .val (.int en.toInt32), .val (.int n.toInt32), .unset] []) (fun _ k => st357 _ k) ?_
  refine WinW.to T357 (mkF m 12 #[.val (.ref a1), .val (.int b.toInt32), .val (.int en.toInt32), .val (.int n.toInt32), .unset] [(.int b.toInt32)]) (fun _ k => XS.iloadN X357.here hx rfl (hb hby d26_11) rfl k) ?_
  by_cases hc359 : b.toInt32 = (0 : Int32)
  · refine WinW.to T357 (mkF m 15 #[.val (.ref a1), .val (.int b.toInt32), .val (.int en.toInt32), .val (.int n.toInt32), .unset] []) (fun _ k => XS.ifNo X357.here hx rfl (hb hby d26_12) rfl ((if0 _ _).trans (teq hc359).2) k) ?_
    refine WinW.to T357 (mkF m 16 #[.val (.ref a1), .val (.int b.toInt32), .val (.int en.toInt32), .val (.int n.toInt32), .unset] [(.int en.toInt32)]) (fun _ k => XS.iloadN X357.here hx rfl (hb hby d26_15) rfl k) ?_
    refine WinW.to T357 (mkF m 17 #[.val (.ref a1), .val (.int b.toInt32), .val (.int en.toInt32), .val (.int n.toInt32), .unset] [(.int n.toInt32), (.int en.toInt32)]) (fun _ k => XS.iloadN X357.here hx rfl (hb hby d26_16) rfl k) ?_
    by_cases hc360 : en.toInt32 = n.toInt32
    · refine WinW.to T357 (mkF m 20 #[.val (.ref a1), .val (.int b.toInt32), .val (.int en.toInt32), .val (.int n.toInt32), .unset] []) (fun _ k => XS.icmpNo X357.here hx rfl (hb hby d26_17) rfl (teq hc360).2 k) ?_
      refine WinW.to T357 (mkF m 21 #[.val (.ref a1), .val (.int b.toInt32), .val (.int en.toInt32), .val (.int n.toInt32), .unset] [(.ref a1)]) (fun _ k => XS.aloadN X357.here hx rfl (hb hby d26_20) rfl rfl k) ?_
      have hb0 : b = 0 := own_zero hb2 hc359
      have hen0 : en = n := own_inj he2 hn hc360
      have F361 : ArF Z h0 t1 k1 .byte (en - b) (fun i => f (b + i)) := by subst hb0; subst hen0; simpa using Fa
      exact WinW.retA X357 hS0 (by rw [e357]; exact (Nat.zero_le _)) hx hlk hret rfl rfl (hb hby d26_21) hZ (own_EW hw) (by rw [e357]; exact C0) (by decide) (by decide) (by (try rw [e357]); exact ⟨a1, t1, k1, rfl, N358, (Keep.refl _ _), E1, F1, F2, F361⟩)
    · refine WinW.to T357 (mkF m 22 #[.val (.ref a1), .val (.int b.toInt32), .val (.int en.toInt32), .val (.int n.toInt32), .unset] []) (fun _ k => XS.icmpYes X357.here hx rfl (pc0 := 17) (pc' := 22) rfl (hb hby d26_17) rfl (feq hc360).2 (by decide) (by decide) k) ?_
      refine WinW.to T357 (mkF m 23 #[.val (.ref a1), .val (.int b.toInt32), .val (.int en.toInt32), .val (.int n.toInt32), .unset] [(.int en.toInt32)]) (fun _ k => XS.iloadN X357.here hx rfl (hb hby d26_22) rfl k) ?_
      refine WinW.to T357 (mkF m 24 #[.val (.ref a1), .val (.int b.toInt32), .val (.int en.toInt32), .val (.int n.toInt32), .unset] [(.int b.toInt32), (.int en.toInt32)]) (fun _ k => XS.iloadN X357.here hx rfl (hb hby d26_23) rfl k) ?_
      refine WinW.to T357 (mkF m 25 #[.val (.ref a1), .val (.int b.toInt32), .val (.int en.toInt32), .val (.int n.toInt32), .unset] [(.int (en - b).toInt32)]) (fun _ k => XS.isub X357.here hx rfl (hb hby d26_24) rfl (by rw [show (en.toInt32 - b.toInt32) = (en - b).toInt32 from own_sub hb2 he2 hbe]; exact k)) ?_
      refine WinW.to T357 (mkF m 27 #[.val (.ref a1), .val (.int b.toInt32), .val (.int en.toInt32), .val (.int n.toInt32), .val (.int (en - b).toInt32)] []) (fun _ k => XS.istore X357.here hx rfl (hb hby d26_25) rfl (l' := #[.val (.ref a1), .val (.int b.toInt32), .val (.int en.toInt32), .val (.int n.toInt32), .val (.int (en - b).toInt32)]) rfl k) ?_
      refine WinW.to T357 (mkF m 28 #[.val (.ref a1), .val (.int b.toInt32), .val (.int en.toInt32), .val (.int n.toInt32), .val (.int (en - b).toInt32)] [(.ref a1)]) (fun _ k => XS.aloadN X357.here hx rfl (hb hby d26_27) rfl rfl k) ?_
      obtain ⟨T362, h362, v362, L362, X362, e362, ⟨rfl, N362q, r362_0⟩, st362⟩ := N.virtual X357 hx hZ (y := (⟨"java/lang/String", "isLatin1", "()Z"⟩ : MethodName)) (z := (⟨"java/lang/String", "isLatin1", "()Z"⟩ : MethodName)) hown (hw _ (List.mem_of_getElem? (i := 98) rfl)) (hw _ (List.mem_of_getElem? (i := 99) rfl)) (notFace_of_selects (args := #[]) (mvT hZ (hw _ (List.mem_of_getElem? (i := 101) rfl)))) (hw _ (List.mem_of_getElem? (i := 101) rfl)) (hw _ (List.mem_of_getElem? (i := 100) rfl)) (hw _ (List.mem_of_getElem? (i := 6) rfl)) (hw _ (List.mem_of_getElem? (i := 102) rfl)) (by decide) (isLat l Z a0 hw a1 cs h0 n0 O0 F2 S_CS hcs) e357 E1 (g := (mkF m 28 #[.val (.ref a1), .val (.int b.toInt32), .val (.int en.toInt32), .val (.int n.toInt32), .val (.int (en - b).toInt32)] [(.ref a1)])) rfl (by rw [hml]; rfl) (argsL := []) (rest := []) rfl (lenOf pd___Z rfl) rfl (W := 0) (by show 2 * 0 + _ ≤ _; exact Nat.le_of_eq rfl) (hb hby d26_28) (by decide) (by decide) (by decide) (by decide)
      have N363 := Fr.app N358 N362q
      have e362 := e362.trans r362_0
      refine WinW.to T362 (mkF m 31 #[.val (.ref a1), .val (.int b.toInt32), .val (.int en.toInt32), .val (.int n.toInt32), .val (.int (en - b).toInt32)] [(.int (1 : Int32))]) (fun _ k => st362 _ k) ?_
      refine WinW.to T362 (mkF m 34 #[.val (.ref a1), .val (.int b.toInt32), .val (.int en.toInt32), .val (.int n.toInt32), .val (.int (en - b).toInt32)] []) (fun _ k => XS.ifNo X362.here hx rfl (hb hby d26_31) rfl ((if0 _ _).trans (feq (show ¬ ((1 : Int32) = (0 : Int32)) from by decide)).1) k) ?_
      refine WinW.to T362 (mkF m 35 #[.val (.ref a1), .val (.int b.toInt32), .val (.int en.toInt32), .val (.int n.toInt32), .val (.int (en - b).toInt32)] [(.ref a1)]) (fun _ k => XS.aloadN X362.here hx rfl (hb hby d26_34) rfl rfl k) ?_
      obtain ⟨T364, X364, e364, st364⟩ := getF X362 hx hZ hown (host := "") (Or.inl (hw _ (List.mem_of_getElem? (i := 35) rfl))) Via.refl e362 F1 (g := (mkF m 35 #[.val (.ref a1), .val (.int b.toInt32), .val (.int en.toInt32), .val (.int n.toInt32), .val (.int (en - b).toInt32)] [(.ref a1)])) rfl rfl (hb hby d26_35)
      refine WinW.to T364 (mkF m 38 #[.val (.ref a1), .val (.int b.toInt32), .val (.int en.toInt32), .val (.int n.toInt32), .val (.int (en - b).toInt32)] [(.ref t1)]) (fun _ k => st364 _ k) ?_
      refine WinW.to T364 (mkF m 39 #[.val (.ref a1), .val (.int b.toInt32), .val (.int en.toInt32), .val (.int n.toInt32), .val (.int (en - b).toInt32)] [(.int b.toInt32), (.ref t1)]) (fun _ k => XS.iloadN X364.here hx rfl (hb hby d26_38) rfl k) ?_
      refine WinW.to T364 (mkF m 41 #[.val (.ref a1), .val (.int b.toInt32), .val (.int en.toInt32), .val (.int n.toInt32), .val (.int (en - b).toInt32)] [(.int (en - b).toInt32), (.int b.toInt32), (.ref t1)]) (fun _ k => XS.iload X364.here hx rfl (hb hby d26_39) rfl k) ?_
      obtain ⟨T365, h365, v365, L365, k365, X365, e365, hS365, hk365, hZ365, hown365, ⟨r_365, t2_365, k2_365, rfl, N365q, r365_0, r365_1, r365_2, r365_3, r365_4⟩, c365, st365⟩ := W.static X364 hS0 (Nat.zero_le _) hx hZ (y := (⟨"java/lang/StringLatin1", "newString", "([BII)Ljava/lang/String;"⟩ : MethodName)) hown (hw _ (List.mem_of_getElem? (i := 143) rfl)) (hw _ (List.mem_of_getElem? (i := 144) rfl)) (hw _ (List.mem_of_getElem? (i := 115) rfl)) (hw _ (List.mem_of_getElem? (i := 145) rfl)) (by decide) (newStr l Z a0 hw t1 k1 n f b (en - b) h0 n0 O0 Fa (by omega) (by omega) (fun q => hc360 (by rw [show en = n by omega]))) (own_EW hw) C0.1 e364 (g := (mkF m 41 #[.val (.ref a1), .val (.int b.toInt32), .val (.int en.toInt32), .val (.int n.toInt32), .val (.int (en - b).toInt32)] [(.int (en - b).toInt32), (.int b.toInt32), (.ref t1)])) rfl (by rw [hml]; rfl) (argsL := [(.ref t1), (.int b.toInt32), (.int (en - b).toInt32)]) (rest := []) rfl (lenOf pd___BII_Ljava_lang_String_ rfl) rfl (W := 0) (by show 2 * 0 + _ ≤ _; exact Nat.le_of_eq rfl) (hb hby d26_41) (by decide) (by decide) (by decide) (by decide)
      have N366 := Fr.app N363 N365q
      have O367 := Old.keep O0 r365_0 all0
      have K368 : Keep h0 h365 [] := Keep.trans (Keep.refl h0 []) r365_0 all0
      have c369 := c365
      have C370 := CHr.trans C0 c369
      refine WinW.to T365 (mkF m 44 #[.val (.ref a1), .val (.int b.toInt32), .val (.int en.toInt32), .val (.int n.toInt32), .val (.int (en - b).toInt32)] [(.ref r_365)]) (fun _ k => st365 _ k) ?_
      refine WinW.to T365 (mkF m 57 #[.val (.ref a1), .val (.int b.toInt32), .val (.int en.toInt32), .val (.int n.toInt32), .val (.int (en - b).toInt32)] [(.ref r_365)]) (fun _ k => XS.goto X365.here hx rfl (pc0 := 44) (pc' := 57) rfl (hb hby d26_44) (by decide) (by decide) k) ?_
      exact WinW.retA X365 hS365 (by rw [e365]; exact hk365) hx hlk hret rfl rfl (hb hby d26_57) hZ365 (own_EW hw) (by rw [e365]; exact C370) (by decide) (by decide) (by (try rw [e365]); exact ⟨r_365, t2_365, k2_365, rfl, N366, K368, r365_1, r365_2, r365_3, r365_4⟩)
  · refine WinW.to T357 (mkF m 22 #[.val (.ref a1), .val (.int b.toInt32), .val (.int en.toInt32), .val (.int n.toInt32), .unset] []) (fun _ k => XS.ifYes X357.here hx rfl (pc0 := 12) (pc' := 22) rfl (hb hby d26_12) rfl ((if0 _ _).trans (feq hc359).2) (by decide) (by decide) k) ?_
    refine WinW.to T357 (mkF m 23 #[.val (.ref a1), .val (.int b.toInt32), .val (.int en.toInt32), .val (.int n.toInt32), .unset] [(.int en.toInt32)]) (fun _ k => XS.iloadN X357.here hx rfl (hb hby d26_22) rfl k) ?_
    refine WinW.to T357 (mkF m 24 #[.val (.ref a1), .val (.int b.toInt32), .val (.int en.toInt32), .val (.int n.toInt32), .unset] [(.int b.toInt32), (.int en.toInt32)]) (fun _ k => XS.iloadN X357.here hx rfl (hb hby d26_23) rfl k) ?_
    refine WinW.to T357 (mkF m 25 #[.val (.ref a1), .val (.int b.toInt32), .val (.int en.toInt32), .val (.int n.toInt32), .unset] [(.int (en - b).toInt32)]) (fun _ k => XS.isub X357.here hx rfl (hb hby d26_24) rfl (by rw [show (en.toInt32 - b.toInt32) = (en - b).toInt32 from own_sub hb2 he2 hbe]; exact k)) ?_
    refine WinW.to T357 (mkF m 27 #[.val (.ref a1), .val (.int b.toInt32), .val (.int en.toInt32), .val (.int n.toInt32), .val (.int (en - b).toInt32)] []) (fun _ k => XS.istore X357.here hx rfl (hb hby d26_25) rfl (l' := #[.val (.ref a1), .val (.int b.toInt32), .val (.int en.toInt32), .val (.int n.toInt32), .val (.int (en - b).toInt32)]) rfl k) ?_
    refine WinW.to T357 (mkF m 28 #[.val (.ref a1), .val (.int b.toInt32), .val (.int en.toInt32), .val (.int n.toInt32), .val (.int (en - b).toInt32)] [(.ref a1)]) (fun _ k => XS.aloadN X357.here hx rfl (hb hby d26_27) rfl rfl k) ?_
    obtain ⟨T371, h371, v371, L371, X371, e371, ⟨rfl, N371q, r371_0⟩, st371⟩ := N.virtual X357 hx hZ (y := (⟨"java/lang/String", "isLatin1", "()Z"⟩ : MethodName)) (z := (⟨"java/lang/String", "isLatin1", "()Z"⟩ : MethodName)) hown (hw _ (List.mem_of_getElem? (i := 98) rfl)) (hw _ (List.mem_of_getElem? (i := 99) rfl)) (notFace_of_selects (args := #[]) (mvT hZ (hw _ (List.mem_of_getElem? (i := 101) rfl)))) (hw _ (List.mem_of_getElem? (i := 101) rfl)) (hw _ (List.mem_of_getElem? (i := 100) rfl)) (hw _ (List.mem_of_getElem? (i := 6) rfl)) (hw _ (List.mem_of_getElem? (i := 102) rfl)) (by decide) (isLat l Z a0 hw a1 cs h0 n0 O0 F2 S_CS hcs) e357 E1 (g := (mkF m 28 #[.val (.ref a1), .val (.int b.toInt32), .val (.int en.toInt32), .val (.int n.toInt32), .val (.int (en - b).toInt32)] [(.ref a1)])) rfl (by rw [hml]; rfl) (argsL := []) (rest := []) rfl (lenOf pd___Z rfl) rfl (W := 0) (by show 2 * 0 + _ ≤ _; exact Nat.le_of_eq rfl) (hb hby d26_28) (by decide) (by decide) (by decide) (by decide)
    have N372 := Fr.app N358 N371q
    have e371 := e371.trans r371_0
    refine WinW.to T371 (mkF m 31 #[.val (.ref a1), .val (.int b.toInt32), .val (.int en.toInt32), .val (.int n.toInt32), .val (.int (en - b).toInt32)] [(.int (1 : Int32))]) (fun _ k => st371 _ k) ?_
    refine WinW.to T371 (mkF m 34 #[.val (.ref a1), .val (.int b.toInt32), .val (.int en.toInt32), .val (.int n.toInt32), .val (.int (en - b).toInt32)] []) (fun _ k => XS.ifNo X371.here hx rfl (hb hby d26_31) rfl ((if0 _ _).trans (feq (show ¬ ((1 : Int32) = (0 : Int32)) from by decide)).1) k) ?_
    refine WinW.to T371 (mkF m 35 #[.val (.ref a1), .val (.int b.toInt32), .val (.int en.toInt32), .val (.int n.toInt32), .val (.int (en - b).toInt32)] [(.ref a1)]) (fun _ k => XS.aloadN X371.here hx rfl (hb hby d26_34) rfl rfl k) ?_
    obtain ⟨T373, X373, e373, st373⟩ := getF X371 hx hZ hown (host := "") (Or.inl (hw _ (List.mem_of_getElem? (i := 35) rfl))) Via.refl e371 F1 (g := (mkF m 35 #[.val (.ref a1), .val (.int b.toInt32), .val (.int en.toInt32), .val (.int n.toInt32), .val (.int (en - b).toInt32)] [(.ref a1)])) rfl rfl (hb hby d26_35)
    refine WinW.to T373 (mkF m 38 #[.val (.ref a1), .val (.int b.toInt32), .val (.int en.toInt32), .val (.int n.toInt32), .val (.int (en - b).toInt32)] [(.ref t1)]) (fun _ k => st373 _ k) ?_
    refine WinW.to T373 (mkF m 39 #[.val (.ref a1), .val (.int b.toInt32), .val (.int en.toInt32), .val (.int n.toInt32), .val (.int (en - b).toInt32)] [(.int b.toInt32), (.ref t1)]) (fun _ k => XS.iloadN X373.here hx rfl (hb hby d26_38) rfl k) ?_
    refine WinW.to T373 (mkF m 41 #[.val (.ref a1), .val (.int b.toInt32), .val (.int en.toInt32), .val (.int n.toInt32), .val (.int (en - b).toInt32)] [(.int (en - b).toInt32), (.int b.toInt32), (.ref t1)]) (fun _ k => XS.iload X373.here hx rfl (hb hby d26_39) rfl k) ?_
    obtain ⟨T374, h374, v374, L374, k374, X374, e374, hS374, hk374, hZ374, hown374, ⟨r_374, t2_374, k2_374, rfl, N374q, r374_0, r374_1, r374_2, r374_3, r374_4⟩, c374, st374⟩ := W.static X373 hS0 (Nat.zero_le _) hx hZ (y := (⟨"java/lang/StringLatin1", "newString", "([BII)Ljava/lang/String;"⟩ : MethodName)) hown (hw _ (List.mem_of_getElem? (i := 143) rfl)) (hw _ (List.mem_of_getElem? (i := 144) rfl)) (hw _ (List.mem_of_getElem? (i := 115) rfl)) (hw _ (List.mem_of_getElem? (i := 145) rfl)) (by decide) (newStr l Z a0 hw t1 k1 n f b (en - b) h0 n0 O0 Fa (by omega) (by omega) (fun q => hc359 (by rw [q.1]; rfl))) (own_EW hw) C0.1 e373 (g := (mkF m 41 #[.val (.ref a1), .val (.int b.toInt32), .val (.int en.toInt32), .val (.int n.toInt32), .val (.int (en - b).toInt32)] [(.int (en - b).toInt32), (.int b.toInt32), (.ref t1)])) rfl (by rw [hml]; rfl) (argsL := [(.ref t1), (.int b.toInt32), (.int (en - b).toInt32)]) (rest := []) rfl (lenOf pd___BII_Ljava_lang_String_ rfl) rfl (W := 0) (by show 2 * 0 + _ ≤ _; exact Nat.le_of_eq rfl) (hb hby d26_41) (by decide) (by decide) (by decide) (by decide)
    have N375 := Fr.app N372 N374q
    have O376 := Old.keep O0 r374_0 all0
    have K377 : Keep h0 h374 [] := Keep.trans (Keep.refl h0 []) r374_0 all0
    have c378 := c374
    have C379 := CHr.trans C0 c378
    refine WinW.to T374 (mkF m 44 #[.val (.ref a1), .val (.int b.toInt32), .val (.int en.toInt32), .val (.int n.toInt32), .val (.int (en - b).toInt32)] [(.ref r_374)]) (fun _ k => st374 _ k) ?_
    refine WinW.to T374 (mkF m 57 #[.val (.ref a1), .val (.int b.toInt32), .val (.int en.toInt32), .val (.int n.toInt32), .val (.int (en - b).toInt32)] [(.ref r_374)]) (fun _ k => XS.goto X374.here hx rfl (pc0 := 44) (pc' := 57) rfl (hb hby d26_44) (by decide) (by decide) k) ?_
    exact WinW.retA X374 hS374 (by rw [e374]; exact hk374) hx hlk hret rfl rfl (hb hby d26_57) hZ374 (own_EW hw) (by rw [e374]; exact C379) (by decide) (by decide) (by (try rw [e374]); exact ⟨r_374, t2_374, k2_374, rfl, N375, K377, r374_1, r374_2, r374_3, r374_4⟩)
abbrev R_mkAC : Room := ⟨1, 0, 0, 12⟩
set_option maxRecDepth 65536 in
set_option maxHeartbeats 40000000 in
theorem mkAC (l : Launch) (Z : State) (a0 : Array Value) (hw : ∀ d ∈ tables_1, d.before a0 Z = true) (a1 : Addr) (h0 : Heap) (n0 : Nat) (O0 : Old Z n0 h0)  :
    MetN l Z (⟨"java/util/AbstractCollection", "<init>", "()V"⟩ : MethodName) jdk_22_method_1_code 1 none R_mkAC [] #[(.ref a1)] h0 (fun v h L => v = none ∧ Fr n0 L ∧ h = h0) := by
  refine MetN.walk (plainFor_of_name pn_12) ?_
  intro p e s m below meth c s₁ hx hZ hby hml hown hnm hret hlk X0 e0
  have N0 := Fr.nil n0
  refine Win.to s₁ (mkF m 0 #[.val (.ref a1)] []) (fun _ k => castTop (by first | (simp [entryFrame, mkF, argsToLocals, Value.category]; done) | rfl) k) ?_
  refine Win.to s₁ (mkF m 1 #[.val (.ref a1)] [(.ref a1)]) (fun _ k => XS.aloadN X0.here hx rfl (hb hby d12_0) rfl rfl k) ?_
  obtain ⟨T380, X380, e380, st380⟩ := initO X0 hx hZ hown (hw _ (List.mem_of_getElem? (i := 64) rfl)) (hw _ (List.mem_of_getElem? (i := 19) rfl)) (hw _ (List.mem_of_getElem? (i := 20) rfl)) e0 (g := (mkF m 1 #[.val (.ref a1)] [(.ref a1)])) rfl (by rw [hml]; rfl) rfl (hb hby d12_1) (by decide) (W := 0) (by show 2 * 0 + _ ≤ _; exact Nat.le_of_eq rfl) (by decide)
  refine Win.to T380 (mkF m 4 #[.val (.ref a1)] []) (fun _ k => st380 _ k) ?_
  exact Win.retV X380 hx hlk hret (hb hby d12_4) (by decide) (by decide) (by (try rw [e380]); exact ⟨rfl, N0, rfl⟩)
abbrev R_mkABL : Room := ⟨2, 0, 0, 24⟩
set_option maxRecDepth 65536 in
set_option maxHeartbeats 40000000 in
theorem mkABL (l : Launch) (Z : State) (a0 : Array Value) (hw : ∀ d ∈ tables_1, d.before a0 Z = true) (a1 : Addr) (h0 : Heap) (n0 : Nat) (O0 : Old Z n0 h0) (E1 : Exa Z h0 a1 "java/util/ArrayList") (F1 : Fld Z h0 a1 "java/util/AbstractList" "modCount" "I" (.int (0 : Int32))) (F2 : Fld Z h0 a1 "java/util/ArrayList" "elementData" "[Ljava/lang/Object;" .null) (g1 : n0 ≤ a1) :
    MetN l Z (⟨"java/util/AbstractList", "<init>", "()V"⟩ : MethodName) jdk_39_method_1_code 1 none R_mkABL [] #[(.ref a1)] h0 (fun v h L => v = none ∧ Fr n0 L ∧ Keep h0 h [a1] ∧ Fld Z h a1 "java/util/AbstractList" "modCount" "I" (.int (0 : Int32)) ∧ Fld Z h a1 "java/util/ArrayList" "elementData" "[Ljava/lang/Object;" .null) := by
  refine MetN.walk (plainFor_of_name pn_11) ?_
  intro p e s m below meth c s₁ hx hZ hby hml hown hnm hret hlk X0 e0
  have N0 := Fr.nil n0
  refine Win.to s₁ (mkF m 0 #[.val (.ref a1)] []) (fun _ k => castTop (by first | (simp [entryFrame, mkF, argsToLocals, Value.category]; done) | rfl) k) ?_
  refine Win.to s₁ (mkF m 1 #[.val (.ref a1)] [(.ref a1)]) (fun _ k => XS.aloadN X0.here hx rfl (hb hby d11_0) rfl rfl k) ?_
  obtain ⟨T381, h381, v381, L381, X381, e381, ⟨rfl, N381q, r381_0⟩, st381⟩ := N.special X0 hx hZ (y := (⟨"java/util/AbstractCollection", "<init>", "()V"⟩ : MethodName)) rfl hown (hw _ (List.mem_of_getElem? (i := 58) rfl)) (hw _ (List.mem_of_getElem? (i := 59) rfl)) (hw _ (List.mem_of_getElem? (i := 62) rfl)) (hw _ (List.mem_of_getElem? (i := 63) rfl)) (by decide) (mkAC l Z a0 hw a1 h0 n0 O0 ) e0 (g := (mkF m 1 #[.val (.ref a1)] [(.ref a1)])) rfl (by rw [hml]; rfl) (a := a1) (argsL := []) (rest := []) rfl (lenOf pd___V rfl) rfl (W := 0) (by show 2 * 0 + _ ≤ _; exact Nat.le_of_eq rfl) (hb hby d11_1) (by decide) (by decide) (by decide) (by decide)
  have N382 := Fr.app N0 N381q
  have e381 := e381.trans r381_0
  refine Win.to T381 (mkF m 4 #[.val (.ref a1)] []) (fun _ k => st381 _ k) ?_
  refine Win.to T381 (mkF m 5 #[.val (.ref a1)] [(.ref a1)]) (fun _ k => XS.aloadN X381.here hx rfl (hb hby d11_4) rfl rfl k) ?_
  refine Win.to T381 (mkF m 6 #[.val (.ref a1)] [(.int (0 : Int32)), (.ref a1)]) (fun _ k => XS.iconst X381.here hx rfl (hb hby d11_5) k) ?_
  obtain ⟨T383, h383, X383, e383, W383, st383⟩ := putF X381 hx hZ hown (host := "") (Or.inl (hw _ (List.mem_of_getElem? (i := 65) rfl))) Via.refl e381 F1 E1 (Or.inl (hw _ (List.mem_of_getElem? (i := 66) rfl))) (hw _ (List.mem_of_getElem? (i := 47) rfl)) (ty := .int) (by decide) rfl rfl (g := (mkF m 6 #[.val (.ref a1)] [(.int (0 : Int32)), (.ref a1)])) rfl rfl (hb hby d11_6)
  have O385 := Old.wr O0 W383 g1
  have K386 : Keep h0 h383 [a1] := (Keep.refl h0 [a1]).wr W383 (Or.inl (List.mem_of_getElem? (i := 0) rfl))
  have N387 := Fr.snoc X383 N382 g1
  have F384 : Fld Z h383 a1 "java/util/AbstractList" "modCount" "I" (.int (0 : Int32)) := Fld.same W383 F1
  refine Win.to T383 (mkF m 9 #[.val (.ref a1)] []) (fun _ k => st383 _ k) ?_
  have F388 : Fld Z h383 a1 "java/util/ArrayList" "elementData" "[Ljava/lang/Object;" .null := (Fld.other W383 F2 (Or.inr (slot_ne (Or.inl (hw _ (List.mem_of_getElem? (i := 69) rfl))) (Or.inl (hw _ (List.mem_of_getElem? (i := 66) rfl))) (by decide) (t := (.array (.object "java/lang/Object"))) (t' := .int) (by decide) (by decide))))
  exact Win.retV X383 hx hlk hret (hb hby d11_9) (by decide) (by decide) (by (try rw [e383]); exact ⟨rfl, N387, K386, F384, F388⟩)
abbrev R_mkAL : Room := ⟨3, 0, 0, 36⟩
set_option maxRecDepth 65536 in
set_option maxHeartbeats 40000000 in
theorem mkAL (l : Launch) (Z : State) (a0 : Array Value) (hw : ∀ d ∈ tables_1, d.before a0 Z = true) (a1 : Addr) (x2 : Value) (h0 : Heap) (n0 : Nat) (O0 : Old Z n0 h0) (E1 : Exa Z h0 a1 "java/util/ArrayList") (F1 : Fld Z h0 a1 "java/util/AbstractList" "modCount" "I" (.int (0 : Int32))) (F2 : Fld Z h0 a1 "java/util/ArrayList" "elementData" "[Ljava/lang/Object;" .null) (g1 : n0 ≤ a1) (S_DE : Sta Z Z.heap "java/util/ArrayList" "DEFAULTCAPACITY_EMPTY_ELEMENTDATA" "[Ljava/lang/Object;" x2) (hx2 : x2.isRef = true) :
    MetN l Z (⟨"java/util/ArrayList", "<init>", "()V"⟩ : MethodName) jdk_38_method_2_code 1 none R_mkAL [] #[(.ref a1)] h0 (fun v h L => v = none ∧ Fr n0 L ∧ Keep h0 h [a1]) := by
  refine MetN.walk (plainFor_of_name pn_10) ?_
  intro p e s m below meth c s₁ hx hZ hby hml hown hnm hret hlk X0 e0
  have N0 := Fr.nil n0
  refine Win.to s₁ (mkF m 0 #[.val (.ref a1)] []) (fun _ k => castTop (by first | (simp [entryFrame, mkF, argsToLocals, Value.category]; done) | rfl) k) ?_
  refine Win.to s₁ (mkF m 1 #[.val (.ref a1)] [(.ref a1)]) (fun _ k => XS.aloadN X0.here hx rfl (hb hby d10_0) rfl rfl k) ?_
  obtain ⟨T389, h389, v389, L389, X389, e389, ⟨rfl, N389q, r389_0, r389_1, r389_2⟩, st389⟩ := N.special X0 hx hZ (y := (⟨"java/util/AbstractList", "<init>", "()V"⟩ : MethodName)) rfl hown (hw _ (List.mem_of_getElem? (i := 52) rfl)) (hw _ (List.mem_of_getElem? (i := 53) rfl)) (hw _ (List.mem_of_getElem? (i := 56) rfl)) (hw _ (List.mem_of_getElem? (i := 57) rfl)) (by decide) (mkABL l Z a0 hw a1 h0 n0 O0 E1 F1 F2 g1) e0 (g := (mkF m 1 #[.val (.ref a1)] [(.ref a1)])) rfl (by rw [hml]; rfl) (a := a1) (argsL := []) (rest := []) rfl (lenOf pd___V rfl) rfl (W := 0) (by show 2 * 0 + _ ≤ _; exact Nat.le_of_eq rfl) (hb hby d10_1) (by decide) (by decide) (by decide) (by decide)
  have N390 := Fr.app N0 N389q
  have O391 := Old.keep O0 r389_0 (allS g1 all0)
  have K392 : Keep h0 h389 [a1] := Keep.trans (Keep.refl h0 [a1]) r389_0 (allS (Or.inl (List.mem_of_getElem? (i := 0) rfl)) all0)
  refine Win.to T389 (mkF m 4 #[.val (.ref a1)] []) (fun _ k => st389 _ k) ?_
  refine Win.to T389 (mkF m 5 #[.val (.ref a1)] [(.ref a1)]) (fun _ k => XS.aloadN X389.here hx rfl (hb hby d10_4) rfl rfl k) ?_
  obtain ⟨T393, X393, e393, st393⟩ := getS2 X389 hx hZ hown (host := "") (Or.inl (hw _ (List.mem_of_getElem? (i := 67) rfl))) Via.refl e389 (Sta.ext O391.2 S_DE) (g := (mkF m 5 #[.val (.ref a1)] [(.ref a1)])) rfl (hb hby d10_5)
  refine Win.to T393 (mkF m 8 #[.val (.ref a1)] [x2, (.ref a1)]) (fun _ k => st393 _ k) ?_
  have F394 : Exa Z h389 a1 "java/util/ArrayList" := (E1.keep r389_0)
  obtain ⟨T395, h395, X395, e395, W395, st395⟩ := putF X393 hx hZ hown (host := "") (Or.inl (hw _ (List.mem_of_getElem? (i := 68) rfl))) Via.refl e393 r389_2 F394 (Or.inl (hw _ (List.mem_of_getElem? (i := 69) rfl))) (hw _ (List.mem_of_getElem? (i := 47) rfl)) (ty := (.array (.object "java/lang/Object"))) (by decide) (by rcases ref_cases hx2 with hh | ⟨_, hh⟩ <;> rw [hh] <;> rfl) (by rcases ref_cases hx2 with hh | ⟨_, hh⟩ <;> rw [hh] <;> rfl) (g := (mkF m 8 #[.val (.ref a1)] [x2, (.ref a1)])) rfl rfl (hb hby d10_8)
  have O397 := Old.wr O391 W395 g1
  have K398 : Keep h0 h395 [a1] := K392.wr W395 (Or.inl (List.mem_of_getElem? (i := 0) rfl))
  have N399 := Fr.snoc X395 N390 g1
  have F396 : Fld Z h395 a1 "java/util/ArrayList" "elementData" "[Ljava/lang/Object;" x2 := Fld.same W395 r389_2
  refine Win.to T395 (mkF m 11 #[.val (.ref a1)] []) (fun _ k => st395 _ k) ?_
  exact Win.retV X395 hx hlk hret (hb hby d10_11) (by decide) (by decide) (by (try rw [e395]); exact ⟨rfl, N399, K398⟩)
abbrev R_mkRec : Room := ⟨1, 0, 0, 12⟩
set_option maxRecDepth 65536 in
set_option maxHeartbeats 40000000 in
theorem mkRec (l : Launch) (Z : State) (a0 : Array Value) (hw : ∀ d ∈ tables_1, d.before a0 Z = true) (a1 : Addr) (h0 : Heap) (n0 : Nat) (O0 : Old Z n0 h0)  :
    MetN l Z (⟨"java/lang/Record", "<init>", "()V"⟩ : MethodName) jdk_30_method_1_code 1 none R_mkRec [] #[(.ref a1)] h0 (fun v h L => v = none ∧ Fr n0 L ∧ h = h0) := by
  refine MetN.walk (plainFor_of_name pn_14) ?_
  intro p e s m below meth c s₁ hx hZ hby hml hown hnm hret hlk X0 e0
  have N0 := Fr.nil n0
  refine Win.to s₁ (mkF m 0 #[.val (.ref a1)] []) (fun _ k => castTop (by first | (simp [entryFrame, mkF, argsToLocals, Value.category]; done) | rfl) k) ?_
  refine Win.to s₁ (mkF m 1 #[.val (.ref a1)] [(.ref a1)]) (fun _ k => XS.aloadN X0.here hx rfl (hb hby d14_0) rfl rfl k) ?_
  obtain ⟨T400, X400, e400, st400⟩ := initO X0 hx hZ hown (hw _ (List.mem_of_getElem? (i := 78) rfl)) (hw _ (List.mem_of_getElem? (i := 19) rfl)) (hw _ (List.mem_of_getElem? (i := 20) rfl)) e0 (g := (mkF m 1 #[.val (.ref a1)] [(.ref a1)])) rfl (by rw [hml]; rfl) rfl (hb hby d14_1) (by decide) (W := 0) (by show 2 * 0 + _ ≤ _; exact Nat.le_of_eq rfl) (by decide)
  refine Win.to T400 (mkF m 4 #[.val (.ref a1)] []) (fun _ k => st400 _ k) ?_
  exact Win.retV X400 hx hlk hret (hb hby d14_4) (by decide) (by decide) (by (try rw [e400]); exact ⟨rfl, N0, rfl⟩)
abbrev R_mkHead : Room := ⟨2, 0, 0, 24⟩
set_option maxRecDepth 65536 in
set_option maxHeartbeats 40000000 in
theorem mkHead (l : Launch) (Z : State) (a0 : Array Value) (hw : ∀ d ∈ tables_1, d.before a0 Z = true) (a1 : Addr) (s1 : Addr) (l1 : Addr) (h0 : Heap) (n0 : Nat) (O0 : Old Z n0 h0) (E1 : Exa Z h0 a1 "com/example/grantgate/grantgate/server/MessageReader$Head") (F1 : Fld Z h0 a1 "com/example/grantgate/grantgate/server/MessageReader$Head" "startLine" "Ljava/lang/String;" .null) (F2 : Fld Z h0 a1 "com/example/grantgate/grantgate/server/MessageReader$Head" "fields" "Ljava/util/List;" .null) (g1 : n0 ≤ a1) :
    MetN l Z (⟨"com/example/grantgate/grantgate/server/MessageReader$Head", "<init>", "(Ljava/lang/String;Ljava/util/List;)V"⟩ : MethodName) prog_40_method_1_code 3 none R_mkHead [] #[(.ref a1), (.ref s1), (.ref l1)] h0 (fun v h L => v = none ∧ Fr n0 L ∧ Keep h0 h [a1] ∧ Fld Z h a1 "com/example/grantgate/grantgate/server/MessageReader$Head" "startLine" "Ljava/lang/String;" (.ref s1)) := by
  refine MetN.walk (plainFor_of_name pn_13) ?_
  intro p e s m below meth c s₁ hx hZ hby hml hown hnm hret hlk X0 e0
  have N0 := Fr.nil n0
  refine Win.to s₁ (mkF m 0 #[.val (.ref a1), .val (.ref s1), .val (.ref l1)] []) (fun _ k => castTop (by first | (simp [entryFrame, mkF, argsToLocals, Value.category]; done) | rfl) k) ?_
  refine Win.to s₁ (mkF m 1 #[.val (.ref a1), .val (.ref s1), .val (.ref l1)] [(.ref a1)]) (fun _ k => XS.aloadN X0.here hx rfl (hb hby d13_0) rfl rfl k) ?_
  obtain ⟨T401, h401, v401, L401, X401, e401, ⟨rfl, N401q, r401_0⟩, st401⟩ := N.special X0 hx hZ (y := (⟨"java/lang/Record", "<init>", "()V"⟩ : MethodName)) rfl hown (hw _ (List.mem_of_getElem? (i := 73) rfl)) (hw _ (List.mem_of_getElem? (i := 74) rfl)) (hw _ (List.mem_of_getElem? (i := 76) rfl)) (hw _ (List.mem_of_getElem? (i := 77) rfl)) (by decide) (mkRec l Z a0 hw a1 h0 n0 O0 ) e0 (g := (mkF m 1 #[.val (.ref a1), .val (.ref s1), .val (.ref l1)] [(.ref a1)])) rfl (by rw [hml]; rfl) (a := a1) (argsL := []) (rest := []) rfl (lenOf pd___V rfl) rfl (W := 0) (by show 2 * 0 + _ ≤ _; exact Nat.le_of_eq rfl) (hb hby d13_1) (by decide) (by decide) (by decide) (by decide)
  have N402 := Fr.app N0 N401q
  have e401 := e401.trans r401_0
  refine Win.to T401 (mkF m 4 #[.val (.ref a1), .val (.ref s1), .val (.ref l1)] []) (fun _ k => st401 _ k) ?_
  refine Win.to T401 (mkF m 5 #[.val (.ref a1), .val (.ref s1), .val (.ref l1)] [(.ref a1)]) (fun _ k => XS.aloadN X401.here hx rfl (hb hby d13_4) rfl rfl k) ?_
  refine Win.to T401 (mkF m 6 #[.val (.ref a1), .val (.ref s1), .val (.ref l1)] [(.ref s1), (.ref a1)]) (fun _ k => XS.aloadN X401.here hx rfl (hb hby d13_5) rfl rfl k) ?_
  obtain ⟨T403, h403, X403, e403, W403, st403⟩ := putF X401 hx hZ hown (host := "") (Or.inl (hw _ (List.mem_of_getElem? (i := 79) rfl))) Via.refl e401 F1 E1 (Or.inr ⟨(hw _ (List.mem_of_getElem? (i := 80) rfl)), rfl, hnm⟩) (hw _ (List.mem_of_getElem? (i := 44) rfl)) (ty := (.object "java/lang/String")) (by decide) rfl rfl (g := (mkF m 6 #[.val (.ref a1), .val (.ref s1), .val (.ref l1)] [(.ref s1), (.ref a1)])) rfl rfl (hb hby d13_6)
  have O405 := Old.wr O0 W403 g1
  have K406 : Keep h0 h403 [a1] := (Keep.refl h0 [a1]).wr W403 (Or.inl (List.mem_of_getElem? (i := 0) rfl))
  have N407 := Fr.snoc X403 N402 g1
  have F404 : Fld Z h403 a1 "com/example/grantgate/grantgate/server/MessageReader$Head" "startLine" "Ljava/lang/String;" (.ref s1) := Fld.same W403 F1
  refine Win.to T403 (mkF m 9 #[.val (.ref a1), .val (.ref s1), .val (.ref l1)] []) (fun _ k => st403 _ k) ?_
  refine Win.to T403 (mkF m 10 #[.val (.ref a1), .val (.ref s1), .val (.ref l1)] [(.ref a1)]) (fun _ k => XS.aloadN X403.here hx rfl (hb hby d13_9) rfl rfl k) ?_
  refine Win.to T403 (mkF m 11 #[.val (.ref a1), .val (.ref s1), .val (.ref l1)] [(.ref l1), (.ref a1)]) (fun _ k => XS.aloadN X403.here hx rfl (hb hby d13_10) rfl rfl k) ?_
  have F408 : Exa Z h403 a1 "com/example/grantgate/grantgate/server/MessageReader$Head" := (Exa.wr W403 E1)
  have F409 : Fld Z h403 a1 "com/example/grantgate/grantgate/server/MessageReader$Head" "fields" "Ljava/util/List;" .null := (Fld.other W403 F2 (Or.inr (slot_ne (Or.inr (hw _ (List.mem_of_getElem? (i := 82) rfl))) (Or.inr (hw _ (List.mem_of_getElem? (i := 80) rfl))) (by decide) (t := (.object "java/util/List")) (t' := (.object "java/lang/String")) (by decide) (by decide))))
  obtain ⟨T410, h410, X410, e410, W410, st410⟩ := putF X403 hx hZ hown (host := "") (Or.inl (hw _ (List.mem_of_getElem? (i := 81) rfl))) Via.refl e403 F409 F408 (Or.inr ⟨(hw _ (List.mem_of_getElem? (i := 82) rfl)), rfl, hnm⟩) (hw _ (List.mem_of_getElem? (i := 44) rfl)) (ty := (.object "java/util/List")) (by decide) rfl rfl (g := (mkF m 11 #[.val (.ref a1), .val (.ref s1), .val (.ref l1)] [(.ref l1), (.ref a1)])) rfl rfl (hb hby d13_11)
  have O412 := Old.wr O405 W410 g1
  have K413 : Keep h0 h410 [a1] := K406.wr W410 (Or.inl (List.mem_of_getElem? (i := 0) rfl))
  have N414 := Fr.snoc X410 N407 g1
  have F411 : Fld Z h410 a1 "com/example/grantgate/grantgate/server/MessageReader$Head" "fields" "Ljava/util/List;" (.ref l1) := Fld.same W410 F409
  refine Win.to T410 (mkF m 14 #[.val (.ref a1), .val (.ref s1), .val (.ref l1)] []) (fun _ k => st410 _ k) ?_
  have F415 : Fld Z h410 a1 "com/example/grantgate/grantgate/server/MessageReader$Head" "startLine" "Ljava/lang/String;" (.ref s1) := (Fld.other W410 F404 (Or.inr (slot_ne (Or.inr (hw _ (List.mem_of_getElem? (i := 80) rfl))) (Or.inr (hw _ (List.mem_of_getElem? (i := 82) rfl))) (by decide) (t := (.object "java/lang/String")) (t' := (.object "java/util/List")) (by decide) (by decide))))
  exact Win.retV X410 hx hlk hret (hb hby d13_14) (by decide) (by decide) (by (try rw [e410]); exact ⟨rfl, N414, K413, F415⟩)
abbrev R_headM : Room := ⟨5, 2, 11, 80⟩
set_option maxRecDepth 65536 in
set_option maxHeartbeats 40000000 in
theorem headM (l : Launch) (Z : State) (a0 : Array Value) (hw : ∀ d ∈ tables_1, d.before a0 Z = true) (a1 : Addr) (s1 : Addr) (t1 : Addr) (k1 : ClassId) (n : Nat) (f : Nat → Int32) (k : Nat) (cs : Int32) (x1 : Value) (h0 : Heap) (n0 : Nat) (O0 : Old Z n0 h0) (Fs : Fld Z h0 a1 "com/example/grantgate/grantgate/server/MessageReader$Head" "startLine" "Ljava/lang/String;" (.ref s1)) (E2 : Exa Z h0 s1 "java/lang/String") (F1 : Fld Z h0 s1 "java/lang/String" "value" "[B" (.ref t1)) (F2 : Fld Z h0 s1 "java/lang/String" "coder" "B" (.int (0 : Int32))) (Fa : ArF Z h0 t1 k1 .byte n f) (hk : k < n) (hbef : ∀ i, i < k → ¬ (f i) = (32 : Int32)) (hat : (f k) = (32 : Int32)) (hcap : n ≤ 7) (S_CS : Sta Z Z.heap "java/lang/String" "COMPACT_STRINGS" "Z" (.int cs)) (hcs : ¬ (cs = (0 : Int32))) (S_SI : Sta Z Z.heap "jdk/internal/util/Preconditions" "SIOOBE_FORMATTER" "Ljava/util/function/BiFunction;" x1) (hx1 : x1.isRef = true) :
    MetW l Z (⟨"com/example/grantgate/grantgate/server/MessageReader$Head", "method", "()Ljava/lang/String;"⟩ : MethodName) prog_40_method_3_code 1 (some (.object "java/lang/String")) R_headM [] #[(.ref a1)] h0 EL1 (fun v h L => ∃ (r : Addr) (t2 : Addr) (k2 : ClassId), v = some (.ref r) ∧ Fr n0 L ∧ Keep h0 h [] ∧ Exa Z h r "java/lang/String" ∧ Fld Z h r "java/lang/String" "value" "[B" (.ref t2) ∧ Fld Z h r "java/lang/String" "coder" "B" (.int (0 : Int32)) ∧ ArF Z h t2 k2 .byte (k - 0) (fun i => f (0 + i))) := by
  refine MetW.walk (plainFor_of_name pn_15) ?_
  intro p e s m below meth c s₁ hx hZ hby hml hown hnm hret hlk C0 hS0 X0 e0
  have N0 := Fr.nil n0
  refine WinW.to s₁ (mkF m 0 #[.val (.ref a1)] []) (fun _ k => castTop (by first | (simp [entryFrame, mkF, argsToLocals, Value.category]; done) | rfl) k) ?_
  refine WinW.to s₁ (mkF m 1 #[.val (.ref a1)] [(.ref a1)]) (fun _ k => XS.aloadN X0.here hx rfl (hb hby d15_0) rfl rfl k) ?_
  obtain ⟨T416, X416, e416, st416⟩ := getF X0 hx hZ hown (host := "") (Or.inl (hw _ (List.mem_of_getElem? (i := 79) rfl))) Via.refl e0 Fs (g := (mkF m 1 #[.val (.ref a1)] [(.ref a1)])) rfl rfl (hb hby d15_1)
  refine WinW.to T416 (mkF m 4 #[.val (.ref a1)] [(.ref s1)]) (fun _ k => st416 _ k) ?_
  refine WinW.to T416 (mkF m 5 #[.val (.ref a1)] [(.int (0 : Int32)), (.ref s1)]) (fun _ k => XS.iconst X416.here hx rfl (hb hby d15_4) k) ?_
  refine WinW.to T416 (mkF m 6 #[.val (.ref a1)] [(.ref a1), (.int (0 : Int32)), (.ref s1)]) (fun _ k => XS.aloadN X416.here hx rfl (hb hby d15_5) rfl rfl k) ?_
  obtain ⟨T417, X417, e417, st417⟩ := getF X416 hx hZ hown (host := "") (Or.inl (hw _ (List.mem_of_getElem? (i := 79) rfl))) Via.refl e416 Fs (g := (mkF m 6 #[.val (.ref a1)] [(.ref a1), (.int (0 : Int32)), (.ref s1)])) rfl rfl (hb hby d15_6)
  refine WinW.to T417 (mkF m 9 #[.val (.ref a1)] [(.ref s1), (.int (0 : Int32)), (.ref s1)]) (fun _ k => st417 _ k) ?_
  refine WinW.to T417 (mkF m 11 #[.val (.ref a1)] [(.int (32 : Int32)), (.ref s1), (.int (0 : Int32)), (.ref s1)]) (fun _ k => XS.bipush X417.here hx rfl (hb hby d15_9) k) ?_
  obtain ⟨T418, h418, v418, L418, X418, e418, ⟨rfl, N418q, r418_0⟩, st418⟩ := N.virtual X417 hx hZ (y := (⟨"java/lang/String", "indexOf", "(I)I"⟩ : MethodName)) (z := (⟨"java/lang/String", "indexOf", "(I)I"⟩ : MethodName)) hown (hw _ (List.mem_of_getElem? (i := 88) rfl)) (hw _ (List.mem_of_getElem? (i := 89) rfl)) (notFace_of_selects (args := #[]) (mvT hZ (hw _ (List.mem_of_getElem? (i := 91) rfl)))) (hw _ (List.mem_of_getElem? (i := 91) rfl)) (hw _ (List.mem_of_getElem? (i := 90) rfl)) (hw _ (List.mem_of_getElem? (i := 6) rfl)) (hw _ (List.mem_of_getElem? (i := 92) rfl)) (by decide) (idxI l Z a0 hw s1 t1 k1 n f k cs h0 n0 O0 E2 F1 F2 Fa hk hbef hat S_CS hcs) e417 E2 (g := (mkF m 11 #[.val (.ref a1)] [(.int (32 : Int32)), (.ref s1), (.int (0 : Int32)), (.ref s1)])) rfl (by rw [hml]; rfl) (argsL := [(.int (32 : Int32))]) (rest := [(.int (0 : Int32)), (.ref s1)]) rfl (lenOf pd__I_I rfl) rfl (W := 2) (by show 2 * 0 + _ ≤ _; exact Nat.le_of_eq rfl) (hb hby d15_11) (by decide) (by decide) (by decide) (by decide)
  have N419 := Fr.app N0 N418q
  have e418 := e418.trans r418_0
  refine WinW.to T418 (mkF m 14 #[.val (.ref a1)] [(.int k.toInt32), (.int (0 : Int32)), (.ref s1)]) (fun _ k => st418 _ k) ?_
  obtain ⟨T420, h420, v420, L420, k420, X420, e420, hS420, hk420, hZ420, hown420, ⟨r_420, t2_420, k2_420, rfl, N420q, r420_0, r420_1, r420_2, r420_3, r420_4⟩, c420, st420⟩ := W.virtual X418 hS0 (Nat.zero_le _) hx hZ (y := (⟨"java/lang/String", "substring", "(II)Ljava/lang/String;"⟩ : MethodName)) (z := (⟨"java/lang/String", "substring", "(II)Ljava/lang/String;"⟩ : MethodName)) hown (hw _ (List.mem_of_getElem? (i := 130) rfl)) (hw _ (List.mem_of_getElem? (i := 131) rfl)) (notFace_of_selects (args := #[]) (mvT hZ (hw _ (List.mem_of_getElem? (i := 133) rfl)))) (hw _ (List.mem_of_getElem? (i := 133) rfl)) (hw _ (List.mem_of_getElem? (i := 132) rfl)) (hw _ (List.mem_of_getElem? (i := 6) rfl)) (hw _ (List.mem_of_getElem? (i := 134) rfl)) (by decide) (subs l Z a0 hw s1 t1 k1 n f 0 k cs x1 h0 n0 O0 E2 F1 F2 Fa (Nat.zero_le _) (Nat.le_of_lt hk) hcap S_CS hcs S_SI hx1) (own_EW hw) C0.1 e418 E2 (g := (mkF m 14 #[.val (.ref a1)] [(.int k.toInt32), (.int (0 : Int32)), (.ref s1)])) rfl (by rw [hml]; rfl) (argsL := [(.int (0 : Int32)), (.int k.toInt32)]) (rest := []) rfl (lenOf pd__II_Ljava_lang_String_ rfl) rfl (W := 0) (by show 2 * 0 + _ ≤ _; exact Nat.le_of_eq rfl) (hb hby d15_14) (by decide) (by decide) (by decide) (by decide)
  have N421 := Fr.app N419 N420q
  have O422 := Old.keep O0 r420_0 all0
  have K423 : Keep h0 h420 [] := Keep.trans (Keep.refl h0 []) r420_0 all0
  have c424 := c420
  have C425 := CHr.trans C0 c424
  refine WinW.to T420 (mkF m 17 #[.val (.ref a1)] [(.ref r_420)]) (fun _ k => st420 _ k) ?_
  exact WinW.retA X420 hS420 (by rw [e420]; exact hk420) hx hlk hret rfl rfl (hb hby d15_17) hZ420 (own_EW hw) (by rw [e420]; exact C425) (by decide) (by decide) (by (try rw [e420]); exact ⟨r_420, t2_420, k2_420, rfl, N421, K423, r420_1, r420_2, r420_3, r420_4⟩)
abbrev R_nonSp : Room := ⟨0, 0, 0, 0⟩
set_option maxRecDepth 65536 in
set_option maxHeartbeats 40000000 in
theorem nonSp (l : Launch) (Z : State) (a0 : Array Value) (hw : ∀ d ∈ tables_1, d.before a0 Z = true) (p1 : Int32) (h0 : Heap) (n0 : Nat) (O0 : Old Z n0 h0)  :
    MetN l Z (⟨"com/example/grantgate/grantgate/server/HeadMethodPinLaw", "nonSpace", "(I)C"⟩ : MethodName) method_2_code 2 (some .char) R_nonSp [] #[(.int p1)] h0 (fun v h L => ∃ (c : Int32), v = some (.int c) ∧ Fr n0 L ∧ h = h0 ∧ (nar .char c = c) ∧ (¬ (255 : Int32) < c) ∧ (¬ c.toInt8.toInt32 = (32 : Int32))) := by
  refine MetN.walk (plainFor_of_name pn_1) ?_
  intro p e s m below meth c s₁ hx hZ hby hml hown hnm hret hlk X0 e0
  have N0 := Fr.nil n0
  refine Win.to s₁ (mkF m 0 #[.val (.int p1), .unset] []) (fun _ k => castTop (by first | (simp [entryFrame, mkF, argsToLocals, Value.category]; done) | rfl) k) ?_
  refine Win.to s₁ (mkF m 1 #[.val (.int p1), .unset] [(.int p1)]) (fun _ k => XS.iloadN X0.here hx rfl (hb hby d1_0) rfl k) ?_
  refine Win.to s₁ (mkF m 4 #[.val (.int p1), .unset] [(.int (255 : Int32)), (.int p1)]) (fun _ k => XS.sipush X0.here hx rfl (hb hby d1_1) k) ?_
  refine Win.to s₁ (mkF m 5 #[.val (.int p1), .unset] [(.int (p1 &&& (255 : Int32)))]) (fun _ k => XS.iand X0.here hx rfl (hb hby d1_4) rfl k) ?_
  refine Win.to s₁ (mkF m 6 #[.val (.int p1), .unset] [(.int (p1 &&& (255 : Int32)))]) (fun _ k => XS.i2c X0.here hx rfl (hb hby d1_5) rfl (by rw [show ((p1 &&& (255 : Int32)).toUInt32.toUInt16.toUInt32.toInt32) = (p1 &&& (255 : Int32)) from (i2c_mask p1)]; exact k)) ?_
  refine Win.to s₁ (mkF m 7 #[.val (.int p1), .val (.int (p1 &&& (255 : Int32)))] []) (fun _ k => XS.istoreN X0.here hx rfl (hb hby d1_6) rfl (l' := #[.val (.int p1), .val (.int (p1 &&& (255 : Int32)))]) rfl k) ?_
  refine Win.to s₁ (mkF m 8 #[.val (.int p1), .val (.int (p1 &&& (255 : Int32)))] [(.int (p1 &&& (255 : Int32)))]) (fun _ k => XS.iloadN X0.here hx rfl (hb hby d1_7) rfl k) ?_
  refine Win.to s₁ (mkF m 10 #[.val (.int p1), .val (.int (p1 &&& (255 : Int32)))] [(.int (32 : Int32)), (.int (p1 &&& (255 : Int32)))]) (fun _ k => XS.bipush X0.here hx rfl (hb hby d1_8) k) ?_
  by_cases hc426 : (p1 &&& (255 : Int32)) = (32 : Int32)
  · refine Win.to s₁ (mkF m 13 #[.val (.int p1), .val (.int (p1 &&& (255 : Int32)))] []) (fun _ k => XS.icmpNo X0.here hx rfl (hb hby d1_10) rfl (teq hc426).2 k) ?_
    refine Win.to s₁ (mkF m 15 #[.val (.int p1), .val (.int (p1 &&& (255 : Int32)))] [(.int (33 : Int32))]) (fun _ k => XS.bipush X0.here hx rfl (hb hby d1_13) k) ?_
    exact Win.retN X0 hx hlk (t := .char) hret (by simp) rfl (hb hby d1_15) (by decide) (by decide) (by (try rw [e0]); exact ⟨(33 : Int32), rfl, N0, rfl, (by decide), (by decide), (by decide)⟩)
  · refine Win.to s₁ (mkF m 16 #[.val (.int p1), .val (.int (p1 &&& (255 : Int32)))] []) (fun _ k => XS.icmpYes X0.here hx rfl (pc0 := 10) (pc' := 16) rfl (hb hby d1_10) rfl (feq hc426).2 (by decide) (by decide) k) ?_
    refine Win.to s₁ (mkF m 17 #[.val (.int p1), .val (.int (p1 &&& (255 : Int32)))] [(.int (p1 &&& (255 : Int32)))]) (fun _ k => XS.iloadN X0.here hx rfl (hb hby d1_16) rfl k) ?_
    exact Win.retN X0 hx hlk (t := .char) hret (by simp) (show nar .char (p1 &&& (255 : Int32)) = (p1 &&& (255 : Int32)) from (i2c_mask p1)) (hb hby d1_17) (by decide) (by decide) (by (try rw [e0]); exact ⟨(p1 &&& (255 : Int32)), rfl, N0, rfl, (i2c_mask p1), (own_255 p1), (own_sp p1 hc426)⟩)
abbrev R_line0 : Room := ⟨0, 1, 4, 0⟩
set_option maxRecDepth 65536 in
set_option maxHeartbeats 40000000 in
theorem line0 (l : Launch) (Z : State) (a0 : Array Value) (hw : ∀ d ∈ tables_1, d.before a0 Z = true) (pa : Int32) (pb : Int32) (pc : Int32) (pd : Int32) (pe : Int32) (pf : Int32) (h0 : Heap) (n0 : Nat) (O0 : Old Z n0 h0) (h_pa : nar .char pa = pa) (h_pb : nar .char pb = pb) (h_pc : nar .char pc = pc) (h_pd : nar .char pd = pd) (h_pe : nar .char pe = pe) (h_pf : nar .char pf = pf) :
    MetN l Z (⟨"com/example/grantgate/grantgate/server/HeadMethodPinLaw", "line", "(ICCCCCC)[C"⟩ : MethodName) method_4_code 7 (some (.array .char)) R_line0 [] #[(.int (0 : Int32)), (.int pa), (.int pb), (.int pc), (.int pd), (.int pe), (.int pf)] h0 (fun v h L => ∃ (r : Addr) (kk : ClassId), v = some (.ref r) ∧ Fr n0 L ∧ Keep h0 h [] ∧ h0.size ≤ r ∧ Arv Z h r kk .char (4 : Int32) [(.int (32 : Int32)), (.int pd), (.int pe), (.int pf)] (.int (0 : Int32))) := by
  refine MetN.walk (plainFor_of_name pn_2) ?_
  intro p e s m below meth c s₁ hx hZ hby hml hown hnm hret hlk X0 e0
  have N0 := Fr.nil n0
  refine Win.to s₁ (mkF m 0 #[.val (.int (0 : Int32)), .val (.int pa), .val (.int pb), .val (.int pc), .val (.int pd), .val (.int pe), .val (.int pf)] []) (fun _ k => castTop (by first | (simp [entryFrame, mkF, argsToLocals, Value.category]; done) | rfl) k) ?_
  refine Win.to s₁ (mkF m 1 #[.val (.int (0 : Int32)), .val (.int pa), .val (.int pb), .val (.int pc), .val (.int pd), .val (.int pe), .val (.int pf)] [(.int (0 : Int32))]) (fun _ k => XS.iloadN X0.here hx rfl (hb hby d2_0) rfl k) ?_
  refine Win.to s₁ (mkF m 4 #[.val (.int (0 : Int32)), .val (.int pa), .val (.int pb), .val (.int pc), .val (.int pd), .val (.int pe), .val (.int pf)] []) (fun _ k => XS.ifNo X0.here hx rfl (hb hby d2_1) rfl ((if0 _ _).trans (teq (show (0 : Int32) = (0 : Int32) from by decide)).2) k) ?_
  refine Win.to s₁ (mkF m 5 #[.val (.int (0 : Int32)), .val (.int pa), .val (.int pb), .val (.int pc), .val (.int pd), .val (.int pe), .val (.int pf)] [(.int (4 : Int32))]) (fun _ k => XS.iconst X0.here hx rfl (hb hby d2_4) k) ?_
  obtain ⟨T427, h427, k427, X427, e427, E427, A427, st427⟩ := newP X0 hx hZ (hw _ (List.mem_of_getElem? (i := 10) rfl)) e0 (g := (mkF m 5 #[.val (.int (0 : Int32)), .val (.int pa), .val (.int pb), .val (.int pc), .val (.int pd), .val (.int pe), .val (.int pf)] [(.int (4 : Int32))])) rfl (hb hby d2_5) rfl (by decide) (cap := 4) (by decide) (by decide) (by decide) (by decide)
  obtain ⟨b427, g427⟩ : ∃ z, z = h0.size := ⟨_, rfl⟩
  rw [← g427] at A427 st427
  have g428 : n0 ≤ b427 := Nat.le_trans (own_le O0) (Nat.le_of_eq g427.symm)
  have z429 : h0.size ≤ b427 := (Nat.le_of_eq g427.symm)
  have O430 := Old.ext O0 E427
  have K431 : Keep h0 h427 [] := (Keep.refl h0 []).ext E427
  have F432 : Arv Z h427 b427 k427 .char (4 : Int32) [(.int (0 : Int32)), (.int (0 : Int32)), (.int (0 : Int32)), (.int (0 : Int32))] (.int (0 : Int32)) := (Arv.new A427 (by decide)).pad (pad_rep [] (.int (0 : Int32)) 4)
  refine Win.to T427 (mkF m 7 #[.val (.int (0 : Int32)), .val (.int pa), .val (.int pb), .val (.int pc), .val (.int pd), .val (.int pe), .val (.int pf)] [(.ref b427)]) (fun _ k => st427 _ k) ?_
  refine Win.to T427 (mkF m 8 #[.val (.int (0 : Int32)), .val (.int pa), .val (.int pb), .val (.int pc), .val (.int pd), .val (.int pe), .val (.int pf)] [(.ref b427), (.ref b427)]) (fun _ k => XS.dup X427.here hx rfl (hb hby d2_7) rfl rfl k) ?_
  refine Win.to T427 (mkF m 9 #[.val (.int (0 : Int32)), .val (.int pa), .val (.int pb), .val (.int pc), .val (.int pd), .val (.int pe), .val (.int pf)] [(.int (0 : Int32)), (.ref b427), (.ref b427)]) (fun _ k => XS.iconst X427.here hx rfl (hb hby d2_8) k) ?_
  refine Win.to T427 (mkF m 11 #[.val (.int (0 : Int32)), .val (.int pa), .val (.int pb), .val (.int pc), .val (.int pd), .val (.int pe), .val (.int pf)] [(.int (32 : Int32)), (.int (0 : Int32)), (.ref b427), (.ref b427)]) (fun _ k => XS.bipush X427.here hx rfl (hb hby d2_9) k) ?_
  obtain ⟨cl433, Ar433, q433, S433, N433, H433, G433⟩ := F432
  have hi433 : ¬ ((0 : Int32) < 0 ∨ cl433.slots.size ≤ ((0 : Int32)).toNatClampNeg) := inb_of S433 ⟨by decide, by decide⟩
  obtain ⟨T434, h434, X434, e434, W434, st434⟩ := stC X427 hx hZ e427 Ar433 (j := (0 : Int32)) hi433 (g := (mkF m 11 #[.val (.int (0 : Int32)), .val (.int pa), .val (.int pb), .val (.int pc), .val (.int pd), .val (.int pe), .val (.int pf)] [(.int (32 : Int32)), (.int (0 : Int32)), (.ref b427), (.ref b427)])) rfl rfl (hb hby d2_11)
  have O436 := Old.wr O430 W434 g428
  have K437 : Keep h0 h434 [] := K431.wr W434 (Or.inr z429)
  have N438 := Fr.snoc X434 N0 g428
  have eq434 : nar .char (32 : Int32) = (32 : Int32) := (by decide)
  have W434 := eq434 ▸ W434
  have F435 : Arv Z h434 b427 k427 .char (4 : Int32) [(.int (32 : Int32)), (.int (0 : Int32)), (.int (0 : Int32)), (.int (0 : Int32))] (.int (0 : Int32)) := Arv.set Ar433 q433 S433 N433 H433 G433 (eq434 ▸ (fits_nar_char _)) W434 0 rfl (Nat.le_of_ble_eq_true rfl)
  refine Win.to T434 (mkF m 12 #[.val (.int (0 : Int32)), .val (.int pa), .val (.int pb), .val (.int pc), .val (.int pd), .val (.int pe), .val (.int pf)] [(.ref b427)]) (fun _ k => st434 _ k) ?_
  refine Win.to T434 (mkF m 13 #[.val (.int (0 : Int32)), .val (.int pa), .val (.int pb), .val (.int pc), .val (.int pd), .val (.int pe), .val (.int pf)] [(.ref b427), (.ref b427)]) (fun _ k => XS.dup X434.here hx rfl (hb hby d2_12) rfl rfl k) ?_
  refine Win.to T434 (mkF m 14 #[.val (.int (0 : Int32)), .val (.int pa), .val (.int pb), .val (.int pc), .val (.int pd), .val (.int pe), .val (.int pf)] [(.int (1 : Int32)), (.ref b427), (.ref b427)]) (fun _ k => XS.iconst X434.here hx rfl (hb hby d2_13) k) ?_
  refine Win.to T434 (mkF m 16 #[.val (.int (0 : Int32)), .val (.int pa), .val (.int pb), .val (.int pc), .val (.int pd), .val (.int pe), .val (.int pf)] [(.int pd), (.int (1 : Int32)), (.ref b427), (.ref b427)]) (fun _ k => XS.iload X434.here hx rfl (hb hby d2_14) rfl k) ?_
  obtain ⟨cl439, Ar439, q439, S439, N439, H439, G439⟩ := F435
  have hi439 : ¬ ((1 : Int32) < 0 ∨ cl439.slots.size ≤ ((1 : Int32)).toNatClampNeg) := inb_of S439 ⟨by decide, by decide⟩
  obtain ⟨T440, h440, X440, e440, W440, st440⟩ := stC X434 hx hZ e434 Ar439 (j := (1 : Int32)) hi439 (g := (mkF m 16 #[.val (.int (0 : Int32)), .val (.int pa), .val (.int pb), .val (.int pc), .val (.int pd), .val (.int pe), .val (.int pf)] [(.int pd), (.int (1 : Int32)), (.ref b427), (.ref b427)])) rfl rfl (hb hby d2_16)
  have O442 := Old.wr O436 W440 g428
  have K443 : Keep h0 h440 [] := K437.wr W440 (Or.inr z429)
  have N444 := Fr.snoc X440 N438 g428
  have eq440 : nar .char pd = pd := h_pd
  have W440 := eq440 ▸ W440
  have F441 : Arv Z h440 b427 k427 .char (4 : Int32) [(.int (32 : Int32)), (.int pd), (.int (0 : Int32)), (.int (0 : Int32))] (.int (0 : Int32)) := Arv.set Ar439 q439 S439 N439 H439 G439 (eq440 ▸ (fits_nar_char _)) W440 1 rfl (Nat.le_of_ble_eq_true rfl)
  refine Win.to T440 (mkF m 17 #[.val (.int (0 : Int32)), .val (.int pa), .val (.int pb), .val (.int pc), .val (.int pd), .val (.int pe), .val (.int pf)] [(.ref b427)]) (fun _ k => st440 _ k) ?_
  refine Win.to T440 (mkF m 18 #[.val (.int (0 : Int32)), .val (.int pa), .val (.int pb), .val (.int pc), .val (.int pd), .val (.int pe), .val (.int pf)] [(.ref b427), (.ref b427)]) (fun _ k => XS.dup X440.here hx rfl (hb hby d2_17) rfl rfl k) ?_
  refine Win.to T440 (mkF m 19 #[.val (.int (0 : Int32)), .val (.int pa), .val (.int pb), .val (.int pc), .val (.int pd), .val (.int pe), .val (.int pf)] [(.int (2 : Int32)), (.ref b427), (.ref b427)]) (fun _ k => XS.iconst X440.here hx rfl (hb hby d2_18) k) ?_
  refine Win.to T440 (mkF m 21 #[.val (.int (0 : Int32)), .val (.int pa), .val (.int pb), .val (.int pc), .val (.int pd), .val (.int pe), .val (.int pf)] [(.int pe), (.int (2 : Int32)), (.ref b427), (.ref b427)]) (fun _ k => XS.iload X440.here hx rfl (hb hby d2_19) rfl k) ?_
  obtain ⟨cl445, Ar445, q445, S445, N445, H445, G445⟩ := F441
  have hi445 : ¬ ((2 : Int32) < 0 ∨ cl445.slots.size ≤ ((2 : Int32)).toNatClampNeg) := inb_of S445 ⟨by decide, by decide⟩
  obtain ⟨T446, h446, X446, e446, W446, st446⟩ := stC X440 hx hZ e440 Ar445 (j := (2 : Int32)) hi445 (g := (mkF m 21 #[.val (.int (0 : Int32)), .val (.int pa), .val (.int pb), .val (.int pc), .val (.int pd), .val (.int pe), .val (.int pf)] [(.int pe), (.int (2 : Int32)), (.ref b427), (.ref b427)])) rfl rfl (hb hby d2_21)
  have O448 := Old.wr O442 W446 g428
  have K449 : Keep h0 h446 [] := K443.wr W446 (Or.inr z429)
  have N450 := Fr.snoc X446 N444 g428
  have eq446 : nar .char pe = pe := h_pe
  have W446 := eq446 ▸ W446
  have F447 : Arv Z h446 b427 k427 .char (4 : Int32) [(.int (32 : Int32)), (.int pd), (.int pe), (.int (0 : Int32))] (.int (0 : Int32)) := Arv.set Ar445 q445 S445 N445 H445 G445 (eq446 ▸ (fits_nar_char _)) W446 2 rfl (Nat.le_of_ble_eq_true rfl)
  refine Win.to T446 (mkF m 22 #[.val (.int (0 : Int32)), .val (.int pa), .val (.int pb), .val (.int pc), .val (.int pd), .val (.int pe), .val (.int pf)] [(.ref b427)]) (fun _ k => st446 _ k) ?_
  refine Win.to T446 (mkF m 23 #[.val (.int (0 : Int32)), .val (.int pa), .val (.int pb), .val (.int pc), .val (.int pd), .val (.int pe), .val (.int pf)] [(.ref b427), (.ref b427)]) (fun _ k => XS.dup X446.here hx rfl (hb hby d2_22) rfl rfl k) ?_
  refine Win.to T446 (mkF m 24 #[.val (.int (0 : Int32)), .val (.int pa), .val (.int pb), .val (.int pc), .val (.int pd), .val (.int pe), .val (.int pf)] [(.int (3 : Int32)), (.ref b427), (.ref b427)]) (fun _ k => XS.iconst X446.here hx rfl (hb hby d2_23) k) ?_
  refine Win.to T446 (mkF m 26 #[.val (.int (0 : Int32)), .val (.int pa), .val (.int pb), .val (.int pc), .val (.int pd), .val (.int pe), .val (.int pf)] [(.int pf), (.int (3 : Int32)), (.ref b427), (.ref b427)]) (fun _ k => XS.iload X446.here hx rfl (hb hby d2_24) rfl k) ?_
  obtain ⟨cl451, Ar451, q451, S451, N451, H451, G451⟩ := F447
  have hi451 : ¬ ((3 : Int32) < 0 ∨ cl451.slots.size ≤ ((3 : Int32)).toNatClampNeg) := inb_of S451 ⟨by decide, by decide⟩
  obtain ⟨T452, h452, X452, e452, W452, st452⟩ := stC X446 hx hZ e446 Ar451 (j := (3 : Int32)) hi451 (g := (mkF m 26 #[.val (.int (0 : Int32)), .val (.int pa), .val (.int pb), .val (.int pc), .val (.int pd), .val (.int pe), .val (.int pf)] [(.int pf), (.int (3 : Int32)), (.ref b427), (.ref b427)])) rfl rfl (hb hby d2_26)
  have O454 := Old.wr O448 W452 g428
  have K455 : Keep h0 h452 [] := K449.wr W452 (Or.inr z429)
  have N456 := Fr.snoc X452 N450 g428
  have eq452 : nar .char pf = pf := h_pf
  have W452 := eq452 ▸ W452
  have F453 : Arv Z h452 b427 k427 .char (4 : Int32) [(.int (32 : Int32)), (.int pd), (.int pe), (.int pf)] (.int (0 : Int32)) := Arv.set Ar451 q451 S451 N451 H451 G451 (eq452 ▸ (fits_nar_char _)) W452 3 rfl (Nat.le_of_ble_eq_true rfl)
  refine Win.to T452 (mkF m 27 #[.val (.int (0 : Int32)), .val (.int pa), .val (.int pb), .val (.int pc), .val (.int pd), .val (.int pe), .val (.int pf)] [(.ref b427)]) (fun _ k => st452 _ k) ?_
  exact Win.retA X452 hx hlk hret rfl rfl (hb hby d2_27) (by decide) (by decide) (by (try rw [e452]); exact ⟨b427, k427, rfl, N456, K455, z429, F453⟩)
abbrev R_pref0 : Room := ⟨0, 1, 0, 0⟩
set_option maxRecDepth 65536 in
set_option maxHeartbeats 40000000 in
theorem pref0 (l : Launch) (Z : State) (a0 : Array Value) (hw : ∀ d ∈ tables_1, d.before a0 Z = true) (pa : Int32) (pb : Int32) (pc : Int32) (h0 : Heap) (n0 : Nat) (O0 : Old Z n0 h0) (h_pa : nar .char pa = pa) (h_pb : nar .char pb = pb) (h_pc : nar .char pc = pc) :
    MetN l Z (⟨"com/example/grantgate/grantgate/server/HeadMethodPinLaw", "prefix", "(ICCC)[C"⟩ : MethodName) method_3_code 4 (some (.array .char)) R_pref0 [] #[(.int (0 : Int32)), (.int pa), (.int pb), (.int pc)] h0 (fun v h L => ∃ (r : Addr) (kk : ClassId), v = some (.ref r) ∧ Fr n0 L ∧ Keep h0 h [] ∧ h0.size ≤ r ∧ Arv Z h r kk .char (0 : Int32) [] (.int (0 : Int32))) := by
  refine MetN.walk (plainFor_of_name pn_9) ?_
  intro p e s m below meth c s₁ hx hZ hby hml hown hnm hret hlk X0 e0
  have N0 := Fr.nil n0
  refine Win.to s₁ (mkF m 0 #[.val (.int (0 : Int32)), .val (.int pa), .val (.int pb), .val (.int pc)] []) (fun _ k => castTop (by first | (simp [entryFrame, mkF, argsToLocals, Value.category]; done) | rfl) k) ?_
  refine Win.to s₁ (mkF m 1 #[.val (.int (0 : Int32)), .val (.int pa), .val (.int pb), .val (.int pc)] [(.int (0 : Int32))]) (fun _ k => XS.iloadN X0.here hx rfl (hb hby d9_0) rfl k) ?_
  refine Win.to s₁ (mkF m 4 #[.val (.int (0 : Int32)), .val (.int pa), .val (.int pb), .val (.int pc)] []) (fun _ k => XS.ifNo X0.here hx rfl (hb hby d9_1) rfl ((if0 _ _).trans (teq (show (0 : Int32) = (0 : Int32) from by decide)).2) k) ?_
  refine Win.to s₁ (mkF m 5 #[.val (.int (0 : Int32)), .val (.int pa), .val (.int pb), .val (.int pc)] [(.int (0 : Int32))]) (fun _ k => XS.iconst X0.here hx rfl (hb hby d9_4) k) ?_
  obtain ⟨T457, h457, k457, X457, e457, E457, A457, st457⟩ := newP X0 hx hZ (hw _ (List.mem_of_getElem? (i := 10) rfl)) e0 (g := (mkF m 5 #[.val (.int (0 : Int32)), .val (.int pa), .val (.int pb), .val (.int pc)] [(.int (0 : Int32))])) rfl (hb hby d9_5) rfl (by decide) (cap := 0) (by decide) (by decide) (by decide) (by decide)
  obtain ⟨b457, g457⟩ : ∃ z, z = h0.size := ⟨_, rfl⟩
  rw [← g457] at A457 st457
  have g458 : n0 ≤ b457 := Nat.le_trans (own_le O0) (Nat.le_of_eq g457.symm)
  have z459 : h0.size ≤ b457 := (Nat.le_of_eq g457.symm)
  have O460 := Old.ext O0 E457
  have K461 : Keep h0 h457 [] := (Keep.refl h0 []).ext E457
  have F462 : Arv Z h457 b457 k457 .char (0 : Int32) [] (.int (0 : Int32)) := (Arv.new A457 (by decide)).pad (pad_rep [] (.int (0 : Int32)) 0)
  refine Win.to T457 (mkF m 7 #[.val (.int (0 : Int32)), .val (.int pa), .val (.int pb), .val (.int pc)] [(.ref b457)]) (fun _ k => st457 _ k) ?_
  exact Win.retA X457 hx hlk hret rfl rfl (hb hby d9_7) (by decide) (by decide) (by (try rw [e457]); exact ⟨b457, k457, rfl, N0, K461, z459, F462⟩)
abbrev R_line1 : Room := ⟨0, 1, 5, 0⟩
set_option maxRecDepth 65536 in
set_option maxHeartbeats 40000000 in
theorem line1 (l : Launch) (Z : State) (a0 : Array Value) (hw : ∀ d ∈ tables_1, d.before a0 Z = true) (pa : Int32) (pb : Int32) (pc : Int32) (pd : Int32) (pe : Int32) (pf : Int32) (h0 : Heap) (n0 : Nat) (O0 : Old Z n0 h0) (h_pa : nar .char pa = pa) (h_pb : nar .char pb = pb) (h_pc : nar .char pc = pc) (h_pd : nar .char pd = pd) (h_pe : nar .char pe = pe) (h_pf : nar .char pf = pf) :
    MetN l Z (⟨"com/example/grantgate/grantgate/server/HeadMethodPinLaw", "line", "(ICCCCCC)[C"⟩ : MethodName) method_4_code 7 (some (.array .char)) R_line1 [] #[(.int (1 : Int32)), (.int pa), (.int pb), (.int pc), (.int pd), (.int pe), (.int pf)] h0 (fun v h L => ∃ (r : Addr) (kk : ClassId), v = some (.ref r) ∧ Fr n0 L ∧ Keep h0 h [] ∧ h0.size ≤ r ∧ Arv Z h r kk .char (5 : Int32) [(.int pa), (.int (32 : Int32)), (.int pd), (.int pe), (.int pf)] (.int (0 : Int32))) := by
  refine MetN.walk (plainFor_of_name pn_2) ?_
  intro p e s m below meth c s₁ hx hZ hby hml hown hnm hret hlk X0 e0
  have N0 := Fr.nil n0
  refine Win.to s₁ (mkF m 0 #[.val (.int (1 : Int32)), .val (.int pa), .val (.int pb), .val (.int pc), .val (.int pd), .val (.int pe), .val (.int pf)] []) (fun _ k => castTop (by first | (simp [entryFrame, mkF, argsToLocals, Value.category]; done) | rfl) k) ?_
  refine Win.to s₁ (mkF m 1 #[.val (.int (1 : Int32)), .val (.int pa), .val (.int pb), .val (.int pc), .val (.int pd), .val (.int pe), .val (.int pf)] [(.int (1 : Int32))]) (fun _ k => XS.iloadN X0.here hx rfl (hb hby d2_0) rfl k) ?_
  refine Win.to s₁ (mkF m 28 #[.val (.int (1 : Int32)), .val (.int pa), .val (.int pb), .val (.int pc), .val (.int pd), .val (.int pe), .val (.int pf)] []) (fun _ k => XS.ifYes X0.here hx rfl (pc0 := 1) (pc' := 28) rfl (hb hby d2_1) rfl ((if0 _ _).trans (feq (show ¬ ((1 : Int32) = (0 : Int32)) from by decide)).2) (by decide) (by decide) k) ?_
  refine Win.to s₁ (mkF m 29 #[.val (.int (1 : Int32)), .val (.int pa), .val (.int pb), .val (.int pc), .val (.int pd), .val (.int pe), .val (.int pf)] [(.int (1 : Int32))]) (fun _ k => XS.iloadN X0.here hx rfl (hb hby d2_28) rfl k) ?_
  refine Win.to s₁ (mkF m 30 #[.val (.int (1 : Int32)), .val (.int pa), .val (.int pb), .val (.int pc), .val (.int pd), .val (.int pe), .val (.int pf)] [(.int (1 : Int32)), (.int (1 : Int32))]) (fun _ k => XS.iconst X0.here hx rfl (hb hby d2_29) k) ?_
  refine Win.to s₁ (mkF m 33 #[.val (.int (1 : Int32)), .val (.int pa), .val (.int pb), .val (.int pc), .val (.int pd), .val (.int pe), .val (.int pf)] []) (fun _ k => XS.icmpNo X0.here hx rfl (hb hby d2_30) rfl (teq (show (1 : Int32) = (1 : Int32) from by decide)).2 k) ?_
  refine Win.to s₁ (mkF m 34 #[.val (.int (1 : Int32)), .val (.int pa), .val (.int pb), .val (.int pc), .val (.int pd), .val (.int pe), .val (.int pf)] [(.int (5 : Int32))]) (fun _ k => XS.iconst X0.here hx rfl (hb hby d2_33) k) ?_
  obtain ⟨T463, h463, k463, X463, e463, E463, A463, st463⟩ := newP X0 hx hZ (hw _ (List.mem_of_getElem? (i := 10) rfl)) e0 (g := (mkF m 34 #[.val (.int (1 : Int32)), .val (.int pa), .val (.int pb), .val (.int pc), .val (.int pd), .val (.int pe), .val (.int pf)] [(.int (5 : Int32))])) rfl (hb hby d2_34) rfl (by decide) (cap := 5) (by decide) (by decide) (by decide) (by decide)
  obtain ⟨b463, g463⟩ : ∃ z, z = h0.size := ⟨_, rfl⟩
  rw [← g463] at A463 st463
  have g464 : n0 ≤ b463 := Nat.le_trans (own_le O0) (Nat.le_of_eq g463.symm)
  have z465 : h0.size ≤ b463 := (Nat.le_of_eq g463.symm)
  have O466 := Old.ext O0 E463
  have K467 : Keep h0 h463 [] := (Keep.refl h0 []).ext E463
  have F468 : Arv Z h463 b463 k463 .char (5 : Int32) [(.int (0 : Int32)), (.int (0 : Int32)), (.int (0 : Int32)), (.int (0 : Int32)), (.int (0 : Int32))] (.int (0 : Int32)) := (Arv.new A463 (by decide)).pad (pad_rep [] (.int (0 : Int32)) 5)
  refine Win.to T463 (mkF m 36 #[.val (.int (1 : Int32)), .val (.int pa), .val (.int pb), .val (.int pc), .val (.int pd), .val (.int pe), .val (.int pf)] [(.ref b463)]) (fun _ k => st463 _ k) ?_
  refine Win.to T463 (mkF m 37 #[.val (.int (1 : Int32)), .val (.int pa), .val (.int pb), .val (.int pc), .val (.int pd), .val (.int pe), .val (.int pf)] [(.ref b463), (.ref b463)]) (fun _ k => XS.dup X463.here hx rfl (hb hby d2_36) rfl rfl k) ?_
  refine Win.to T463 (mkF m 38 #[.val (.int (1 : Int32)), .val (.int pa), .val (.int pb), .val (.int pc), .val (.int pd), .val (.int pe), .val (.int pf)] [(.int (0 : Int32)), (.ref b463), (.ref b463)]) (fun _ k => XS.iconst X463.here hx rfl (hb hby d2_37) k) ?_
  refine Win.to T463 (mkF m 39 #[.val (.int (1 : Int32)), .val (.int pa), .val (.int pb), .val (.int pc), .val (.int pd), .val (.int pe), .val (.int pf)] [(.int pa), (.int (0 : Int32)), (.ref b463), (.ref b463)]) (fun _ k => XS.iloadN X463.here hx rfl (hb hby d2_38) rfl k) ?_
  obtain ⟨cl469, Ar469, q469, S469, N469, H469, G469⟩ := F468
  have hi469 : ¬ ((0 : Int32) < 0 ∨ cl469.slots.size ≤ ((0 : Int32)).toNatClampNeg) := inb_of S469 ⟨by decide, by decide⟩
  obtain ⟨T470, h470, X470, e470, W470, st470⟩ := stC X463 hx hZ e463 Ar469 (j := (0 : Int32)) hi469 (g := (mkF m 39 #[.val (.int (1 : Int32)), .val (.int pa), .val (.int pb), .val (.int pc), .val (.int pd), .val (.int pe), .val (.int pf)] [(.int pa), (.int (0 : Int32)), (.ref b463), (.ref b463)])) rfl rfl (hb hby d2_39)
  have O472 := Old.wr O466 W470 g464
  have K473 : Keep h0 h470 [] := K467.wr W470 (Or.inr z465)
  have N474 := Fr.snoc X470 N0 g464
  have eq470 : nar .char pa = pa := h_pa
  have W470 := eq470 ▸ W470
  have F471 : Arv Z h470 b463 k463 .char (5 : Int32) [(.int pa), (.int (0 : Int32)), (.int (0 : Int32)), (.int (0 : Int32)), (.int (0 : Int32))] (.int (0 : Int32)) := Arv.set Ar469 q469 S469 N469 H469 G469 (eq470 ▸ (fits_nar_char _)) W470 0 rfl (Nat.le_of_ble_eq_true rfl)
  refine Win.to T470 (mkF m 40 #[.val (.int (1 : Int32)), .val (.int pa), .val (.int pb), .val (.int pc), .val (.int pd), .val (.int pe), .val (.int pf)] [(.ref b463)]) (fun _ k => st470 _ k) ?_
  refine Win.to T470 (mkF m 41 #[.val (.int (1 : Int32)), .val (.int pa), .val (.int pb), .val (.int pc), .val (.int pd), .val (.int pe), .val (.int pf)] [(.ref b463), (.ref b463)]) (fun _ k => XS.dup X470.here hx rfl (hb hby d2_40) rfl rfl k) ?_
  refine Win.to T470 (mkF m 42 #[.val (.int (1 : Int32)), .val (.int pa), .val (.int pb), .val (.int pc), .val (.int pd), .val (.int pe), .val (.int pf)] [(.int (1 : Int32)), (.ref b463), (.ref b463)]) (fun _ k => XS.iconst X470.here hx rfl (hb hby d2_41) k) ?_
  refine Win.to T470 (mkF m 44 #[.val (.int (1 : Int32)), .val (.int pa), .val (.int pb), .val (.int pc), .val (.int pd), .val (.int pe), .val (.int pf)] [(.int (32 : Int32)), (.int (1 : Int32)), (.ref b463), (.ref b463)]) (fun _ k => XS.bipush X470.here hx rfl (hb hby d2_42) k) ?_
  obtain ⟨cl475, Ar475, q475, S475, N475, H475, G475⟩ := F471
  have hi475 : ¬ ((1 : Int32) < 0 ∨ cl475.slots.size ≤ ((1 : Int32)).toNatClampNeg) := inb_of S475 ⟨by decide, by decide⟩
  obtain ⟨T476, h476, X476, e476, W476, st476⟩ := stC X470 hx hZ e470 Ar475 (j := (1 : Int32)) hi475 (g := (mkF m 44 #[.val (.int (1 : Int32)), .val (.int pa), .val (.int pb), .val (.int pc), .val (.int pd), .val (.int pe), .val (.int pf)] [(.int (32 : Int32)), (.int (1 : Int32)), (.ref b463), (.ref b463)])) rfl rfl (hb hby d2_44)
  have O478 := Old.wr O472 W476 g464
  have K479 : Keep h0 h476 [] := K473.wr W476 (Or.inr z465)
  have N480 := Fr.snoc X476 N474 g464
  have eq476 : nar .char (32 : Int32) = (32 : Int32) := (by decide)
  have W476 := eq476 ▸ W476
  have F477 : Arv Z h476 b463 k463 .char (5 : Int32) [(.int pa), (.int (32 : Int32)), (.int (0 : Int32)), (.int (0 : Int32)), (.int (0 : Int32))] (.int (0 : Int32)) := Arv.set Ar475 q475 S475 N475 H475 G475 (eq476 ▸ (fits_nar_char _)) W476 1 rfl (Nat.le_of_ble_eq_true rfl)
  refine Win.to T476 (mkF m 45 #[.val (.int (1 : Int32)), .val (.int pa), .val (.int pb), .val (.int pc), .val (.int pd), .val (.int pe), .val (.int pf)] [(.ref b463)]) (fun _ k => st476 _ k) ?_
  refine Win.to T476 (mkF m 46 #[.val (.int (1 : Int32)), .val (.int pa), .val (.int pb), .val (.int pc), .val (.int pd), .val (.int pe), .val (.int pf)] [(.ref b463), (.ref b463)]) (fun _ k => XS.dup X476.here hx rfl (hb hby d2_45) rfl rfl k) ?_
  refine Win.to T476 (mkF m 47 #[.val (.int (1 : Int32)), .val (.int pa), .val (.int pb), .val (.int pc), .val (.int pd), .val (.int pe), .val (.int pf)] [(.int (2 : Int32)), (.ref b463), (.ref b463)]) (fun _ k => XS.iconst X476.here hx rfl (hb hby d2_46) k) ?_
  refine Win.to T476 (mkF m 49 #[.val (.int (1 : Int32)), .val (.int pa), .val (.int pb), .val (.int pc), .val (.int pd), .val (.int pe), .val (.int pf)] [(.int pd), (.int (2 : Int32)), (.ref b463), (.ref b463)]) (fun _ k => XS.iload X476.here hx rfl (hb hby d2_47) rfl k) ?_
  obtain ⟨cl481, Ar481, q481, S481, N481, H481, G481⟩ := F477
  have hi481 : ¬ ((2 : Int32) < 0 ∨ cl481.slots.size ≤ ((2 : Int32)).toNatClampNeg) := inb_of S481 ⟨by decide, by decide⟩
  obtain ⟨T482, h482, X482, e482, W482, st482⟩ := stC X476 hx hZ e476 Ar481 (j := (2 : Int32)) hi481 (g := (mkF m 49 #[.val (.int (1 : Int32)), .val (.int pa), .val (.int pb), .val (.int pc), .val (.int pd), .val (.int pe), .val (.int pf)] [(.int pd), (.int (2 : Int32)), (.ref b463), (.ref b463)])) rfl rfl (hb hby d2_49)
  have O484 := Old.wr O478 W482 g464
  have K485 : Keep h0 h482 [] := K479.wr W482 (Or.inr z465)
  have N486 := Fr.snoc X482 N480 g464
  have eq482 : nar .char pd = pd := h_pd
  have W482 := eq482 ▸ W482
  have F483 : Arv Z h482 b463 k463 .char (5 : Int32) [(.int pa), (.int (32 : Int32)), (.int pd), (.int (0 : Int32)), (.int (0 : Int32))] (.int (0 : Int32)) := Arv.set Ar481 q481 S481 N481 H481 G481 (eq482 ▸ (fits_nar_char _)) W482 2 rfl (Nat.le_of_ble_eq_true rfl)
  refine Win.to T482 (mkF m 50 #[.val (.int (1 : Int32)), .val (.int pa), .val (.int pb), .val (.int pc), .val (.int pd), .val (.int pe), .val (.int pf)] [(.ref b463)]) (fun _ k => st482 _ k) ?_
  refine Win.to T482 (mkF m 51 #[.val (.int (1 : Int32)), .val (.int pa), .val (.int pb), .val (.int pc), .val (.int pd), .val (.int pe), .val (.int pf)] [(.ref b463), (.ref b463)]) (fun _ k => XS.dup X482.here hx rfl (hb hby d2_50) rfl rfl k) ?_
  refine Win.to T482 (mkF m 52 #[.val (.int (1 : Int32)), .val (.int pa), .val (.int pb), .val (.int pc), .val (.int pd), .val (.int pe), .val (.int pf)] [(.int (3 : Int32)), (.ref b463), (.ref b463)]) (fun _ k => XS.iconst X482.here hx rfl (hb hby d2_51) k) ?_
  refine Win.to T482 (mkF m 54 #[.val (.int (1 : Int32)), .val (.int pa), .val (.int pb), .val (.int pc), .val (.int pd), .val (.int pe), .val (.int pf)] [(.int pe), (.int (3 : Int32)), (.ref b463), (.ref b463)]) (fun _ k => XS.iload X482.here hx rfl (hb hby d2_52) rfl k) ?_
  obtain ⟨cl487, Ar487, q487, S487, N487, H487, G487⟩ := F483
  have hi487 : ¬ ((3 : Int32) < 0 ∨ cl487.slots.size ≤ ((3 : Int32)).toNatClampNeg) := inb_of S487 ⟨by decide, by decide⟩
  obtain ⟨T488, h488, X488, e488, W488, st488⟩ := stC X482 hx hZ e482 Ar487 (j := (3 : Int32)) hi487 (g := (mkF m 54 #[.val (.int (1 : Int32)), .val (.int pa), .val (.int pb), .val (.int pc), .val (.int pd), .val (.int pe), .val (.int pf)] [(.int pe), (.int (3 : Int32)), (.ref b463), (.ref b463)])) rfl rfl (hb hby d2_54)
  have O490 := Old.wr O484 W488 g464
  have K491 : Keep h0 h488 [] := K485.wr W488 (Or.inr z465)
  have N492 := Fr.snoc X488 N486 g464
  have eq488 : nar .char pe = pe := h_pe
  have W488 := eq488 ▸ W488
  have F489 : Arv Z h488 b463 k463 .char (5 : Int32) [(.int pa), (.int (32 : Int32)), (.int pd), (.int pe), (.int (0 : Int32))] (.int (0 : Int32)) := Arv.set Ar487 q487 S487 N487 H487 G487 (eq488 ▸ (fits_nar_char _)) W488 3 rfl (Nat.le_of_ble_eq_true rfl)
  refine Win.to T488 (mkF m 55 #[.val (.int (1 : Int32)), .val (.int pa), .val (.int pb), .val (.int pc), .val (.int pd), .val (.int pe), .val (.int pf)] [(.ref b463)]) (fun _ k => st488 _ k) ?_
  refine Win.to T488 (mkF m 56 #[.val (.int (1 : Int32)), .val (.int pa), .val (.int pb), .val (.int pc), .val (.int pd), .val (.int pe), .val (.int pf)] [(.ref b463), (.ref b463)]) (fun _ k => XS.dup X488.here hx rfl (hb hby d2_55) rfl rfl k) ?_
  refine Win.to T488 (mkF m 57 #[.val (.int (1 : Int32)), .val (.int pa), .val (.int pb), .val (.int pc), .val (.int pd), .val (.int pe), .val (.int pf)] [(.int (4 : Int32)), (.ref b463), (.ref b463)]) (fun _ k => XS.iconst X488.here hx rfl (hb hby d2_56) k) ?_
  refine Win.to T488 (mkF m 59 #[.val (.int (1 : Int32)), .val (.int pa), .val (.int pb), .val (.int pc), .val (.int pd), .val (.int pe), .val (.int pf)] [(.int pf), (.int (4 : Int32)), (.ref b463), (.ref b463)]) (fun _ k => XS.iload X488.here hx rfl (hb hby d2_57) rfl k) ?_
  obtain ⟨cl493, Ar493, q493, S493, N493, H493, G493⟩ := F489
  have hi493 : ¬ ((4 : Int32) < 0 ∨ cl493.slots.size ≤ ((4 : Int32)).toNatClampNeg) := inb_of S493 ⟨by decide, by decide⟩
  obtain ⟨T494, h494, X494, e494, W494, st494⟩ := stC X488 hx hZ e488 Ar493 (j := (4 : Int32)) hi493 (g := (mkF m 59 #[.val (.int (1 : Int32)), .val (.int pa), .val (.int pb), .val (.int pc), .val (.int pd), .val (.int pe), .val (.int pf)] [(.int pf), (.int (4 : Int32)), (.ref b463), (.ref b463)])) rfl rfl (hb hby d2_59)
  have O496 := Old.wr O490 W494 g464
  have K497 : Keep h0 h494 [] := K491.wr W494 (Or.inr z465)
  have N498 := Fr.snoc X494 N492 g464
  have eq494 : nar .char pf = pf := h_pf
  have W494 := eq494 ▸ W494
  have F495 : Arv Z h494 b463 k463 .char (5 : Int32) [(.int pa), (.int (32 : Int32)), (.int pd), (.int pe), (.int pf)] (.int (0 : Int32)) := Arv.set Ar493 q493 S493 N493 H493 G493 (eq494 ▸ (fits_nar_char _)) W494 4 rfl (Nat.le_of_ble_eq_true rfl)
  refine Win.to T494 (mkF m 60 #[.val (.int (1 : Int32)), .val (.int pa), .val (.int pb), .val (.int pc), .val (.int pd), .val (.int pe), .val (.int pf)] [(.ref b463)]) (fun _ k => st494 _ k) ?_
  exact Win.retA X494 hx hlk hret rfl rfl (hb hby d2_60) (by decide) (by decide) (by (try rw [e494]); exact ⟨b463, k463, rfl, N498, K497, z465, F495⟩)
abbrev R_pref1 : Room := ⟨0, 1, 1, 0⟩
set_option maxRecDepth 65536 in
set_option maxHeartbeats 40000000 in
theorem pref1 (l : Launch) (Z : State) (a0 : Array Value) (hw : ∀ d ∈ tables_1, d.before a0 Z = true) (pa : Int32) (pb : Int32) (pc : Int32) (h0 : Heap) (n0 : Nat) (O0 : Old Z n0 h0) (h_pa : nar .char pa = pa) (h_pb : nar .char pb = pb) (h_pc : nar .char pc = pc) :
    MetN l Z (⟨"com/example/grantgate/grantgate/server/HeadMethodPinLaw", "prefix", "(ICCC)[C"⟩ : MethodName) method_3_code 4 (some (.array .char)) R_pref1 [] #[(.int (1 : Int32)), (.int pa), (.int pb), (.int pc)] h0 (fun v h L => ∃ (r : Addr) (kk : ClassId), v = some (.ref r) ∧ Fr n0 L ∧ Keep h0 h [] ∧ h0.size ≤ r ∧ Arv Z h r kk .char (1 : Int32) [(.int pa)] (.int (0 : Int32))) := by
  refine MetN.walk (plainFor_of_name pn_9) ?_
  intro p e s m below meth c s₁ hx hZ hby hml hown hnm hret hlk X0 e0
  have N0 := Fr.nil n0
  refine Win.to s₁ (mkF m 0 #[.val (.int (1 : Int32)), .val (.int pa), .val (.int pb), .val (.int pc)] []) (fun _ k => castTop (by first | (simp [entryFrame, mkF, argsToLocals, Value.category]; done) | rfl) k) ?_
  refine Win.to s₁ (mkF m 1 #[.val (.int (1 : Int32)), .val (.int pa), .val (.int pb), .val (.int pc)] [(.int (1 : Int32))]) (fun _ k => XS.iloadN X0.here hx rfl (hb hby d9_0) rfl k) ?_
  refine Win.to s₁ (mkF m 8 #[.val (.int (1 : Int32)), .val (.int pa), .val (.int pb), .val (.int pc)] []) (fun _ k => XS.ifYes X0.here hx rfl (pc0 := 1) (pc' := 8) rfl (hb hby d9_1) rfl ((if0 _ _).trans (feq (show ¬ ((1 : Int32) = (0 : Int32)) from by decide)).2) (by decide) (by decide) k) ?_
  refine Win.to s₁ (mkF m 9 #[.val (.int (1 : Int32)), .val (.int pa), .val (.int pb), .val (.int pc)] [(.int (1 : Int32))]) (fun _ k => XS.iloadN X0.here hx rfl (hb hby d9_8) rfl k) ?_
  refine Win.to s₁ (mkF m 10 #[.val (.int (1 : Int32)), .val (.int pa), .val (.int pb), .val (.int pc)] [(.int (1 : Int32)), (.int (1 : Int32))]) (fun _ k => XS.iconst X0.here hx rfl (hb hby d9_9) k) ?_
  refine Win.to s₁ (mkF m 13 #[.val (.int (1 : Int32)), .val (.int pa), .val (.int pb), .val (.int pc)] []) (fun _ k => XS.icmpNo X0.here hx rfl (hb hby d9_10) rfl (teq (show (1 : Int32) = (1 : Int32) from by decide)).2 k) ?_
  refine Win.to s₁ (mkF m 14 #[.val (.int (1 : Int32)), .val (.int pa), .val (.int pb), .val (.int pc)] [(.int (1 : Int32))]) (fun _ k => XS.iconst X0.here hx rfl (hb hby d9_13) k) ?_
  obtain ⟨T499, h499, k499, X499, e499, E499, A499, st499⟩ := newP X0 hx hZ (hw _ (List.mem_of_getElem? (i := 10) rfl)) e0 (g := (mkF m 14 #[.val (.int (1 : Int32)), .val (.int pa), .val (.int pb), .val (.int pc)] [(.int (1 : Int32))])) rfl (hb hby d9_14) rfl (by decide) (cap := 1) (by decide) (by decide) (by decide) (by decide)
  obtain ⟨b499, g499⟩ : ∃ z, z = h0.size := ⟨_, rfl⟩
  rw [← g499] at A499 st499
  have g500 : n0 ≤ b499 := Nat.le_trans (own_le O0) (Nat.le_of_eq g499.symm)
  have z501 : h0.size ≤ b499 := (Nat.le_of_eq g499.symm)
  have O502 := Old.ext O0 E499
  have K503 : Keep h0 h499 [] := (Keep.refl h0 []).ext E499
  have F504 : Arv Z h499 b499 k499 .char (1 : Int32) [(.int (0 : Int32))] (.int (0 : Int32)) := (Arv.new A499 (by decide)).pad (pad_rep [] (.int (0 : Int32)) 1)
  refine Win.to T499 (mkF m 16 #[.val (.int (1 : Int32)), .val (.int pa), .val (.int pb), .val (.int pc)] [(.ref b499)]) (fun _ k => st499 _ k) ?_
  refine Win.to T499 (mkF m 17 #[.val (.int (1 : Int32)), .val (.int pa), .val (.int pb), .val (.int pc)] [(.ref b499), (.ref b499)]) (fun _ k => XS.dup X499.here hx rfl (hb hby d9_16) rfl rfl k) ?_
  refine Win.to T499 (mkF m 18 #[.val (.int (1 : Int32)), .val (.int pa), .val (.int pb), .val (.int pc)] [(.int (0 : Int32)), (.ref b499), (.ref b499)]) (fun _ k => XS.iconst X499.here hx rfl (hb hby d9_17) k) ?_
  refine Win.to T499 (mkF m 19 #[.val (.int (1 : Int32)), .val (.int pa), .val (.int pb), .val (.int pc)] [(.int pa), (.int (0 : Int32)), (.ref b499), (.ref b499)]) (fun _ k => XS.iloadN X499.here hx rfl (hb hby d9_18) rfl k) ?_
  obtain ⟨cl505, Ar505, q505, S505, N505, H505, G505⟩ := F504
  have hi505 : ¬ ((0 : Int32) < 0 ∨ cl505.slots.size ≤ ((0 : Int32)).toNatClampNeg) := inb_of S505 ⟨by decide, by decide⟩
  obtain ⟨T506, h506, X506, e506, W506, st506⟩ := stC X499 hx hZ e499 Ar505 (j := (0 : Int32)) hi505 (g := (mkF m 19 #[.val (.int (1 : Int32)), .val (.int pa), .val (.int pb), .val (.int pc)] [(.int pa), (.int (0 : Int32)), (.ref b499), (.ref b499)])) rfl rfl (hb hby d9_19)
  have O508 := Old.wr O502 W506 g500
  have K509 : Keep h0 h506 [] := K503.wr W506 (Or.inr z501)
  have N510 := Fr.snoc X506 N0 g500
  have eq506 : nar .char pa = pa := h_pa
  have W506 := eq506 ▸ W506
  have F507 : Arv Z h506 b499 k499 .char (1 : Int32) [(.int pa)] (.int (0 : Int32)) := Arv.set Ar505 q505 S505 N505 H505 G505 (eq506 ▸ (fits_nar_char _)) W506 0 rfl (Nat.le_of_ble_eq_true rfl)
  refine Win.to T506 (mkF m 20 #[.val (.int (1 : Int32)), .val (.int pa), .val (.int pb), .val (.int pc)] [(.ref b499)]) (fun _ k => st506 _ k) ?_
  exact Win.retA X506 hx hlk hret rfl rfl (hb hby d9_20) (by decide) (by decide) (by (try rw [e506]); exact ⟨b499, k499, rfl, N510, K509, z501, F507⟩)
abbrev R_line2 : Room := ⟨0, 1, 6, 0⟩
set_option maxRecDepth 65536 in
set_option maxHeartbeats 40000000 in
theorem line2 (l : Launch) (Z : State) (a0 : Array Value) (hw : ∀ d ∈ tables_1, d.before a0 Z = true) (pa : Int32) (pb : Int32) (pc : Int32) (pd : Int32) (pe : Int32) (pf : Int32) (h0 : Heap) (n0 : Nat) (O0 : Old Z n0 h0) (h_pa : nar .char pa = pa) (h_pb : nar .char pb = pb) (h_pc : nar .char pc = pc) (h_pd : nar .char pd = pd) (h_pe : nar .char pe = pe) (h_pf : nar .char pf = pf) :
    MetN l Z (⟨"com/example/grantgate/grantgate/server/HeadMethodPinLaw", "line", "(ICCCCCC)[C"⟩ : MethodName) method_4_code 7 (some (.array .char)) R_line2 [] #[(.int (2 : Int32)), (.int pa), (.int pb), (.int pc), (.int pd), (.int pe), (.int pf)] h0 (fun v h L => ∃ (r : Addr) (kk : ClassId), v = some (.ref r) ∧ Fr n0 L ∧ Keep h0 h [] ∧ h0.size ≤ r ∧ Arv Z h r kk .char (6 : Int32) [(.int pa), (.int pb), (.int (32 : Int32)), (.int pd), (.int pe), (.int pf)] (.int (0 : Int32))) := by
  refine MetN.walk (plainFor_of_name pn_2) ?_
  intro p e s m below meth c s₁ hx hZ hby hml hown hnm hret hlk X0 e0
  have N0 := Fr.nil n0
  refine Win.to s₁ (mkF m 0 #[.val (.int (2 : Int32)), .val (.int pa), .val (.int pb), .val (.int pc), .val (.int pd), .val (.int pe), .val (.int pf)] []) (fun _ k => castTop (by first | (simp [entryFrame, mkF, argsToLocals, Value.category]; done) | rfl) k) ?_
  refine Win.to s₁ (mkF m 1 #[.val (.int (2 : Int32)), .val (.int pa), .val (.int pb), .val (.int pc), .val (.int pd), .val (.int pe), .val (.int pf)] [(.int (2 : Int32))]) (fun _ k => XS.iloadN X0.here hx rfl (hb hby d2_0) rfl k) ?_
  refine Win.to s₁ (mkF m 28 #[.val (.int (2 : Int32)), .val (.int pa), .val (.int pb), .val (.int pc), .val (.int pd), .val (.int pe), .val (.int pf)] []) (fun _ k => XS.ifYes X0.here hx rfl (pc0 := 1) (pc' := 28) rfl (hb hby d2_1) rfl ((if0 _ _).trans (feq (show ¬ ((2 : Int32) = (0 : Int32)) from by decide)).2) (by decide) (by decide) k) ?_
  refine Win.to s₁ (mkF m 29 #[.val (.int (2 : Int32)), .val (.int pa), .val (.int pb), .val (.int pc), .val (.int pd), .val (.int pe), .val (.int pf)] [(.int (2 : Int32))]) (fun _ k => XS.iloadN X0.here hx rfl (hb hby d2_28) rfl k) ?_
  refine Win.to s₁ (mkF m 30 #[.val (.int (2 : Int32)), .val (.int pa), .val (.int pb), .val (.int pc), .val (.int pd), .val (.int pe), .val (.int pf)] [(.int (1 : Int32)), (.int (2 : Int32))]) (fun _ k => XS.iconst X0.here hx rfl (hb hby d2_29) k) ?_
  refine Win.to s₁ (mkF m 61 #[.val (.int (2 : Int32)), .val (.int pa), .val (.int pb), .val (.int pc), .val (.int pd), .val (.int pe), .val (.int pf)] []) (fun _ k => XS.icmpYes X0.here hx rfl (pc0 := 30) (pc' := 61) rfl (hb hby d2_30) rfl (feq (show ¬ ((2 : Int32) = (1 : Int32)) from by decide)).2 (by decide) (by decide) k) ?_
  refine Win.to s₁ (mkF m 62 #[.val (.int (2 : Int32)), .val (.int pa), .val (.int pb), .val (.int pc), .val (.int pd), .val (.int pe), .val (.int pf)] [(.int (2 : Int32))]) (fun _ k => XS.iloadN X0.here hx rfl (hb hby d2_61) rfl k) ?_
  refine Win.to s₁ (mkF m 63 #[.val (.int (2 : Int32)), .val (.int pa), .val (.int pb), .val (.int pc), .val (.int pd), .val (.int pe), .val (.int pf)] [(.int (2 : Int32)), (.int (2 : Int32))]) (fun _ k => XS.iconst X0.here hx rfl (hb hby d2_62) k) ?_
  refine Win.to s₁ (mkF m 66 #[.val (.int (2 : Int32)), .val (.int pa), .val (.int pb), .val (.int pc), .val (.int pd), .val (.int pe), .val (.int pf)] []) (fun _ k => XS.icmpNo X0.here hx rfl (hb hby d2_63) rfl (teq (show (2 : Int32) = (2 : Int32) from by decide)).2 k) ?_
  refine Win.to s₁ (mkF m 68 #[.val (.int (2 : Int32)), .val (.int pa), .val (.int pb), .val (.int pc), .val (.int pd), .val (.int pe), .val (.int pf)] [(.int (6 : Int32))]) (fun _ k => XS.bipush X0.here hx rfl (hb hby d2_66) k) ?_
  obtain ⟨T511, h511, k511, X511, e511, E511, A511, st511⟩ := newP X0 hx hZ (hw _ (List.mem_of_getElem? (i := 10) rfl)) e0 (g := (mkF m 68 #[.val (.int (2 : Int32)), .val (.int pa), .val (.int pb), .val (.int pc), .val (.int pd), .val (.int pe), .val (.int pf)] [(.int (6 : Int32))])) rfl (hb hby d2_68) rfl (by decide) (cap := 6) (by decide) (by decide) (by decide) (by decide)
  obtain ⟨b511, g511⟩ : ∃ z, z = h0.size := ⟨_, rfl⟩
  rw [← g511] at A511 st511
  have g512 : n0 ≤ b511 := Nat.le_trans (own_le O0) (Nat.le_of_eq g511.symm)
  have z513 : h0.size ≤ b511 := (Nat.le_of_eq g511.symm)
  have O514 := Old.ext O0 E511
  have K515 : Keep h0 h511 [] := (Keep.refl h0 []).ext E511
  have F516 : Arv Z h511 b511 k511 .char (6 : Int32) [(.int (0 : Int32)), (.int (0 : Int32)), (.int (0 : Int32)), (.int (0 : Int32)), (.int (0 : Int32)), (.int (0 : Int32))] (.int (0 : Int32)) := (Arv.new A511 (by decide)).pad (pad_rep [] (.int (0 : Int32)) 6)
  refine Win.to T511 (mkF m 70 #[.val (.int (2 : Int32)), .val (.int pa), .val (.int pb), .val (.int pc), .val (.int pd), .val (.int pe), .val (.int pf)] [(.ref b511)]) (fun _ k => st511 _ k) ?_
  refine Win.to T511 (mkF m 71 #[.val (.int (2 : Int32)), .val (.int pa), .val (.int pb), .val (.int pc), .val (.int pd), .val (.int pe), .val (.int pf)] [(.ref b511), (.ref b511)]) (fun _ k => XS.dup X511.here hx rfl (hb hby d2_70) rfl rfl k) ?_
  refine Win.to T511 (mkF m 72 #[.val (.int (2 : Int32)), .val (.int pa), .val (.int pb), .val (.int pc), .val (.int pd), .val (.int pe), .val (.int pf)] [(.int (0 : Int32)), (.ref b511), (.ref b511)]) (fun _ k => XS.iconst X511.here hx rfl (hb hby d2_71) k) ?_
  refine Win.to T511 (mkF m 73 #[.val (.int (2 : Int32)), .val (.int pa), .val (.int pb), .val (.int pc), .val (.int pd), .val (.int pe), .val (.int pf)] [(.int pa), (.int (0 : Int32)), (.ref b511), (.ref b511)]) (fun _ k => XS.iloadN X511.here hx rfl (hb hby d2_72) rfl k) ?_
  obtain ⟨cl517, Ar517, q517, S517, N517, H517, G517⟩ := F516
  have hi517 : ¬ ((0 : Int32) < 0 ∨ cl517.slots.size ≤ ((0 : Int32)).toNatClampNeg) := inb_of S517 ⟨by decide, by decide⟩
  obtain ⟨T518, h518, X518, e518, W518, st518⟩ := stC X511 hx hZ e511 Ar517 (j := (0 : Int32)) hi517 (g := (mkF m 73 #[.val (.int (2 : Int32)), .val (.int pa), .val (.int pb), .val (.int pc), .val (.int pd), .val (.int pe), .val (.int pf)] [(.int pa), (.int (0 : Int32)), (.ref b511), (.ref b511)])) rfl rfl (hb hby d2_73)
  have O520 := Old.wr O514 W518 g512
  have K521 : Keep h0 h518 [] := K515.wr W518 (Or.inr z513)
  have N522 := Fr.snoc X518 N0 g512
  have eq518 : nar .char pa = pa := h_pa
  have W518 := eq518 ▸ W518
  have F519 : Arv Z h518 b511 k511 .char (6 : Int32) [(.int pa), (.int (0 : Int32)), (.int (0 : Int32)), (.int (0 : Int32)), (.int (0 : Int32)), (.int (0 : Int32))] (.int (0 : Int32)) := Arv.set Ar517 q517 S517 N517 H517 G517 (eq518 ▸ (fits_nar_char _)) W518 0 rfl (Nat.le_of_ble_eq_true rfl)
  refine Win.to T518 (mkF m 74 #[.val (.int (2 : Int32)), .val (.int pa), .val (.int pb), .val (.int pc), .val (.int pd), .val (.int pe), .val (.int pf)] [(.ref b511)]) (fun _ k => st518 _ k) ?_
  refine Win.to T518 (mkF m 75 #[.val (.int (2 : Int32)), .val (.int pa), .val (.int pb), .val (.int pc), .val (.int pd), .val (.int pe), .val (.int pf)] [(.ref b511), (.ref b511)]) (fun _ k => XS.dup X518.here hx rfl (hb hby d2_74) rfl rfl k) ?_
  refine Win.to T518 (mkF m 76 #[.val (.int (2 : Int32)), .val (.int pa), .val (.int pb), .val (.int pc), .val (.int pd), .val (.int pe), .val (.int pf)] [(.int (1 : Int32)), (.ref b511), (.ref b511)]) (fun _ k => XS.iconst X518.here hx rfl (hb hby d2_75) k) ?_
  refine Win.to T518 (mkF m 77 #[.val (.int (2 : Int32)), .val (.int pa), .val (.int pb), .val (.int pc), .val (.int pd), .val (.int pe), .val (.int pf)] [(.int pb), (.int (1 : Int32)), (.ref b511), (.ref b511)]) (fun _ k => XS.iloadN X518.here hx rfl (hb hby d2_76) rfl k) ?_
  obtain ⟨cl523, Ar523, q523, S523, N523, H523, G523⟩ := F519
  have hi523 : ¬ ((1 : Int32) < 0 ∨ cl523.slots.size ≤ ((1 : Int32)).toNatClampNeg) := inb_of S523 ⟨by decide, by decide⟩
  obtain ⟨T524, h524, X524, e524, W524, st524⟩ := stC X518 hx hZ e518 Ar523 (j := (1 : Int32)) hi523 (g := (mkF m 77 #[.val (.int (2 : Int32)), .val (.int pa), .val (.int pb), .val (.int pc), .val (.int pd), .val (.int pe), .val (.int pf)] [(.int pb), (.int (1 : Int32)), (.ref b511), (.ref b511)])) rfl rfl (hb hby d2_77)
  have O526 := Old.wr O520 W524 g512
  have K527 : Keep h0 h524 [] := K521.wr W524 (Or.inr z513)
  have N528 := Fr.snoc X524 N522 g512
  have eq524 : nar .char pb = pb := h_pb
  have W524 := eq524 ▸ W524
  have F525 : Arv Z h524 b511 k511 .char (6 : Int32) [(.int pa), (.int pb), (.int (0 : Int32)), (.int (0 : Int32)), (.int (0 : Int32)), (.int (0 : Int32))] (.int (0 : Int32)) := Arv.set Ar523 q523 S523 N523 H523 G523 (eq524 ▸ (fits_nar_char _)) W524 1 rfl (Nat.le_of_ble_eq_true rfl)
  refine Win.to T524 (mkF m 78 #[.val (.int (2 : Int32)), .val (.int pa), .val (.int pb), .val (.int pc), .val (.int pd), .val (.int pe), .val (.int pf)] [(.ref b511)]) (fun _ k => st524 _ k) ?_
  refine Win.to T524 (mkF m 79 #[.val (.int (2 : Int32)), .val (.int pa), .val (.int pb), .val (.int pc), .val (.int pd), .val (.int pe), .val (.int pf)] [(.ref b511), (.ref b511)]) (fun _ k => XS.dup X524.here hx rfl (hb hby d2_78) rfl rfl k) ?_
  refine Win.to T524 (mkF m 80 #[.val (.int (2 : Int32)), .val (.int pa), .val (.int pb), .val (.int pc), .val (.int pd), .val (.int pe), .val (.int pf)] [(.int (2 : Int32)), (.ref b511), (.ref b511)]) (fun _ k => XS.iconst X524.here hx rfl (hb hby d2_79) k) ?_
  refine Win.to T524 (mkF m 82 #[.val (.int (2 : Int32)), .val (.int pa), .val (.int pb), .val (.int pc), .val (.int pd), .val (.int pe), .val (.int pf)] [(.int (32 : Int32)), (.int (2 : Int32)), (.ref b511), (.ref b511)]) (fun _ k => XS.bipush X524.here hx rfl (hb hby d2_80) k) ?_
  obtain ⟨cl529, Ar529, q529, S529, N529, H529, G529⟩ := F525
  have hi529 : ¬ ((2 : Int32) < 0 ∨ cl529.slots.size ≤ ((2 : Int32)).toNatClampNeg) := inb_of S529 ⟨by decide, by decide⟩
  obtain ⟨T530, h530, X530, e530, W530, st530⟩ := stC X524 hx hZ e524 Ar529 (j := (2 : Int32)) hi529 (g := (mkF m 82 #[.val (.int (2 : Int32)), .val (.int pa), .val (.int pb), .val (.int pc), .val (.int pd), .val (.int pe), .val (.int pf)] [(.int (32 : Int32)), (.int (2 : Int32)), (.ref b511), (.ref b511)])) rfl rfl (hb hby d2_82)
  have O532 := Old.wr O526 W530 g512
  have K533 : Keep h0 h530 [] := K527.wr W530 (Or.inr z513)
  have N534 := Fr.snoc X530 N528 g512
  have eq530 : nar .char (32 : Int32) = (32 : Int32) := (by decide)
  have W530 := eq530 ▸ W530
  have F531 : Arv Z h530 b511 k511 .char (6 : Int32) [(.int pa), (.int pb), (.int (32 : Int32)), (.int (0 : Int32)), (.int (0 : Int32)), (.int (0 : Int32))] (.int (0 : Int32)) := Arv.set Ar529 q529 S529 N529 H529 G529 (eq530 ▸ (fits_nar_char _)) W530 2 rfl (Nat.le_of_ble_eq_true rfl)
  refine Win.to T530 (mkF m 83 #[.val (.int (2 : Int32)), .val (.int pa), .val (.int pb), .val (.int pc), .val (.int pd), .val (.int pe), .val (.int pf)] [(.ref b511)]) (fun _ k => st530 _ k) ?_
  refine Win.to T530 (mkF m 84 #[.val (.int (2 : Int32)), .val (.int pa), .val (.int pb), .val (.int pc), .val (.int pd), .val (.int pe), .val (.int pf)] [(.ref b511), (.ref b511)]) (fun _ k => XS.dup X530.here hx rfl (hb hby d2_83) rfl rfl k) ?_
  refine Win.to T530 (mkF m 85 #[.val (.int (2 : Int32)), .val (.int pa), .val (.int pb), .val (.int pc), .val (.int pd), .val (.int pe), .val (.int pf)] [(.int (3 : Int32)), (.ref b511), (.ref b511)]) (fun _ k => XS.iconst X530.here hx rfl (hb hby d2_84) k) ?_
  refine Win.to T530 (mkF m 87 #[.val (.int (2 : Int32)), .val (.int pa), .val (.int pb), .val (.int pc), .val (.int pd), .val (.int pe), .val (.int pf)] [(.int pd), (.int (3 : Int32)), (.ref b511), (.ref b511)]) (fun _ k => XS.iload X530.here hx rfl (hb hby d2_85) rfl k) ?_
  obtain ⟨cl535, Ar535, q535, S535, N535, H535, G535⟩ := F531
  have hi535 : ¬ ((3 : Int32) < 0 ∨ cl535.slots.size ≤ ((3 : Int32)).toNatClampNeg) := inb_of S535 ⟨by decide, by decide⟩
  obtain ⟨T536, h536, X536, e536, W536, st536⟩ := stC X530 hx hZ e530 Ar535 (j := (3 : Int32)) hi535 (g := (mkF m 87 #[.val (.int (2 : Int32)), .val (.int pa), .val (.int pb), .val (.int pc), .val (.int pd), .val (.int pe), .val (.int pf)] [(.int pd), (.int (3 : Int32)), (.ref b511), (.ref b511)])) rfl rfl (hb hby d2_87)
  have O538 := Old.wr O532 W536 g512
  have K539 : Keep h0 h536 [] := K533.wr W536 (Or.inr z513)
  have N540 := Fr.snoc X536 N534 g512
  have eq536 : nar .char pd = pd := h_pd
  have W536 := eq536 ▸ W536
  have F537 : Arv Z h536 b511 k511 .char (6 : Int32) [(.int pa), (.int pb), (.int (32 : Int32)), (.int pd), (.int (0 : Int32)), (.int (0 : Int32))] (.int (0 : Int32)) := Arv.set Ar535 q535 S535 N535 H535 G535 (eq536 ▸ (fits_nar_char _)) W536 3 rfl (Nat.le_of_ble_eq_true rfl)
  refine Win.to T536 (mkF m 88 #[.val (.int (2 : Int32)), .val (.int pa), .val (.int pb), .val (.int pc), .val (.int pd), .val (.int pe), .val (.int pf)] [(.ref b511)]) (fun _ k => st536 _ k) ?_
  refine Win.to T536 (mkF m 89 #[.val (.int (2 : Int32)), .val (.int pa), .val (.int pb), .val (.int pc), .val (.int pd), .val (.int pe), .val (.int pf)] [(.ref b511), (.ref b511)]) (fun _ k => XS.dup X536.here hx rfl (hb hby d2_88) rfl rfl k) ?_
  refine Win.to T536 (mkF m 90 #[.val (.int (2 : Int32)), .val (.int pa), .val (.int pb), .val (.int pc), .val (.int pd), .val (.int pe), .val (.int pf)] [(.int (4 : Int32)), (.ref b511), (.ref b511)]) (fun _ k => XS.iconst X536.here hx rfl (hb hby d2_89) k) ?_
  refine Win.to T536 (mkF m 92 #[.val (.int (2 : Int32)), .val (.int pa), .val (.int pb), .val (.int pc), .val (.int pd), .val (.int pe), .val (.int pf)] [(.int pe), (.int (4 : Int32)), (.ref b511), (.ref b511)]) (fun _ k => XS.iload X536.here hx rfl (hb hby d2_90) rfl k) ?_
  obtain ⟨cl541, Ar541, q541, S541, N541, H541, G541⟩ := F537
  have hi541 : ¬ ((4 : Int32) < 0 ∨ cl541.slots.size ≤ ((4 : Int32)).toNatClampNeg) := inb_of S541 ⟨by decide, by decide⟩
  obtain ⟨T542, h542, X542, e542, W542, st542⟩ := stC X536 hx hZ e536 Ar541 (j := (4 : Int32)) hi541 (g := (mkF m 92 #[.val (.int (2 : Int32)), .val (.int pa), .val (.int pb), .val (.int pc), .val (.int pd), .val (.int pe), .val (.int pf)] [(.int pe), (.int (4 : Int32)), (.ref b511), (.ref b511)])) rfl rfl (hb hby d2_92)
  have O544 := Old.wr O538 W542 g512
  have K545 : Keep h0 h542 [] := K539.wr W542 (Or.inr z513)
  have N546 := Fr.snoc X542 N540 g512
  have eq542 : nar .char pe = pe := h_pe
  have W542 := eq542 ▸ W542
  have F543 : Arv Z h542 b511 k511 .char (6 : Int32) [(.int pa), (.int pb), (.int (32 : Int32)), (.int pd), (.int pe), (.int (0 : Int32))] (.int (0 : Int32)) := Arv.set Ar541 q541 S541 N541 H541 G541 (eq542 ▸ (fits_nar_char _)) W542 4 rfl (Nat.le_of_ble_eq_true rfl)
  refine Win.to T542 (mkF m 93 #[.val (.int (2 : Int32)), .val (.int pa), .val (.int pb), .val (.int pc), .val (.int pd), .val (.int pe), .val (.int pf)] [(.ref b511)]) (fun _ k => st542 _ k) ?_
  refine Win.to T542 (mkF m 94 #[.val (.int (2 : Int32)), .val (.int pa), .val (.int pb), .val (.int pc), .val (.int pd), .val (.int pe), .val (.int pf)] [(.ref b511), (.ref b511)]) (fun _ k => XS.dup X542.here hx rfl (hb hby d2_93) rfl rfl k) ?_
  refine Win.to T542 (mkF m 95 #[.val (.int (2 : Int32)), .val (.int pa), .val (.int pb), .val (.int pc), .val (.int pd), .val (.int pe), .val (.int pf)] [(.int (5 : Int32)), (.ref b511), (.ref b511)]) (fun _ k => XS.iconst X542.here hx rfl (hb hby d2_94) k) ?_
  refine Win.to T542 (mkF m 97 #[.val (.int (2 : Int32)), .val (.int pa), .val (.int pb), .val (.int pc), .val (.int pd), .val (.int pe), .val (.int pf)] [(.int pf), (.int (5 : Int32)), (.ref b511), (.ref b511)]) (fun _ k => XS.iload X542.here hx rfl (hb hby d2_95) rfl k) ?_
  obtain ⟨cl547, Ar547, q547, S547, N547, H547, G547⟩ := F543
  have hi547 : ¬ ((5 : Int32) < 0 ∨ cl547.slots.size ≤ ((5 : Int32)).toNatClampNeg) := inb_of S547 ⟨by decide, by decide⟩
  obtain ⟨T548, h548, X548, e548, W548, st548⟩ := stC X542 hx hZ e542 Ar547 (j := (5 : Int32)) hi547 (g := (mkF m 97 #[.val (.int (2 : Int32)), .val (.int pa), .val (.int pb), .val (.int pc), .val (.int pd), .val (.int pe), .val (.int pf)] [(.int pf), (.int (5 : Int32)), (.ref b511), (.ref b511)])) rfl rfl (hb hby d2_97)
  have O550 := Old.wr O544 W548 g512
  have K551 : Keep h0 h548 [] := K545.wr W548 (Or.inr z513)
  have N552 := Fr.snoc X548 N546 g512
  have eq548 : nar .char pf = pf := h_pf
  have W548 := eq548 ▸ W548
  have F549 : Arv Z h548 b511 k511 .char (6 : Int32) [(.int pa), (.int pb), (.int (32 : Int32)), (.int pd), (.int pe), (.int pf)] (.int (0 : Int32)) := Arv.set Ar547 q547 S547 N547 H547 G547 (eq548 ▸ (fits_nar_char _)) W548 5 rfl (Nat.le_of_ble_eq_true rfl)
  refine Win.to T548 (mkF m 98 #[.val (.int (2 : Int32)), .val (.int pa), .val (.int pb), .val (.int pc), .val (.int pd), .val (.int pe), .val (.int pf)] [(.ref b511)]) (fun _ k => st548 _ k) ?_
  exact Win.retA X548 hx hlk hret rfl rfl (hb hby d2_98) (by decide) (by decide) (by (try rw [e548]); exact ⟨b511, k511, rfl, N552, K551, z513, F549⟩)
abbrev R_pref2 : Room := ⟨0, 1, 2, 0⟩
set_option maxRecDepth 65536 in
set_option maxHeartbeats 40000000 in
theorem pref2 (l : Launch) (Z : State) (a0 : Array Value) (hw : ∀ d ∈ tables_1, d.before a0 Z = true) (pa : Int32) (pb : Int32) (pc : Int32) (h0 : Heap) (n0 : Nat) (O0 : Old Z n0 h0) (h_pa : nar .char pa = pa) (h_pb : nar .char pb = pb) (h_pc : nar .char pc = pc) :
    MetN l Z (⟨"com/example/grantgate/grantgate/server/HeadMethodPinLaw", "prefix", "(ICCC)[C"⟩ : MethodName) method_3_code 4 (some (.array .char)) R_pref2 [] #[(.int (2 : Int32)), (.int pa), (.int pb), (.int pc)] h0 (fun v h L => ∃ (r : Addr) (kk : ClassId), v = some (.ref r) ∧ Fr n0 L ∧ Keep h0 h [] ∧ h0.size ≤ r ∧ Arv Z h r kk .char (2 : Int32) [(.int pa), (.int pb)] (.int (0 : Int32))) := by
  refine MetN.walk (plainFor_of_name pn_9) ?_
  intro p e s m below meth c s₁ hx hZ hby hml hown hnm hret hlk X0 e0
  have N0 := Fr.nil n0
  refine Win.to s₁ (mkF m 0 #[.val (.int (2 : Int32)), .val (.int pa), .val (.int pb), .val (.int pc)] []) (fun _ k => castTop (by first | (simp [entryFrame, mkF, argsToLocals, Value.category]; done) | rfl) k) ?_
  refine Win.to s₁ (mkF m 1 #[.val (.int (2 : Int32)), .val (.int pa), .val (.int pb), .val (.int pc)] [(.int (2 : Int32))]) (fun _ k => XS.iloadN X0.here hx rfl (hb hby d9_0) rfl k) ?_
  refine Win.to s₁ (mkF m 8 #[.val (.int (2 : Int32)), .val (.int pa), .val (.int pb), .val (.int pc)] []) (fun _ k => XS.ifYes X0.here hx rfl (pc0 := 1) (pc' := 8) rfl (hb hby d9_1) rfl ((if0 _ _).trans (feq (show ¬ ((2 : Int32) = (0 : Int32)) from by decide)).2) (by decide) (by decide) k) ?_
  refine Win.to s₁ (mkF m 9 #[.val (.int (2 : Int32)), .val (.int pa), .val (.int pb), .val (.int pc)] [(.int (2 : Int32))]) (fun _ k => XS.iloadN X0.here hx rfl (hb hby d9_8) rfl k) ?_
  refine Win.to s₁ (mkF m 10 #[.val (.int (2 : Int32)), .val (.int pa), .val (.int pb), .val (.int pc)] [(.int (1 : Int32)), (.int (2 : Int32))]) (fun _ k => XS.iconst X0.here hx rfl (hb hby d9_9) k) ?_
  refine Win.to s₁ (mkF m 21 #[.val (.int (2 : Int32)), .val (.int pa), .val (.int pb), .val (.int pc)] []) (fun _ k => XS.icmpYes X0.here hx rfl (pc0 := 10) (pc' := 21) rfl (hb hby d9_10) rfl (feq (show ¬ ((2 : Int32) = (1 : Int32)) from by decide)).2 (by decide) (by decide) k) ?_
  refine Win.to s₁ (mkF m 22 #[.val (.int (2 : Int32)), .val (.int pa), .val (.int pb), .val (.int pc)] [(.int (2 : Int32))]) (fun _ k => XS.iloadN X0.here hx rfl (hb hby d9_21) rfl k) ?_
  refine Win.to s₁ (mkF m 23 #[.val (.int (2 : Int32)), .val (.int pa), .val (.int pb), .val (.int pc)] [(.int (2 : Int32)), (.int (2 : Int32))]) (fun _ k => XS.iconst X0.here hx rfl (hb hby d9_22) k) ?_
  refine Win.to s₁ (mkF m 26 #[.val (.int (2 : Int32)), .val (.int pa), .val (.int pb), .val (.int pc)] []) (fun _ k => XS.icmpNo X0.here hx rfl (hb hby d9_23) rfl (teq (show (2 : Int32) = (2 : Int32) from by decide)).2 k) ?_
  refine Win.to s₁ (mkF m 27 #[.val (.int (2 : Int32)), .val (.int pa), .val (.int pb), .val (.int pc)] [(.int (2 : Int32))]) (fun _ k => XS.iconst X0.here hx rfl (hb hby d9_26) k) ?_
  obtain ⟨T553, h553, k553, X553, e553, E553, A553, st553⟩ := newP X0 hx hZ (hw _ (List.mem_of_getElem? (i := 10) rfl)) e0 (g := (mkF m 27 #[.val (.int (2 : Int32)), .val (.int pa), .val (.int pb), .val (.int pc)] [(.int (2 : Int32))])) rfl (hb hby d9_27) rfl (by decide) (cap := 2) (by decide) (by decide) (by decide) (by decide)
  obtain ⟨b553, g553⟩ : ∃ z, z = h0.size := ⟨_, rfl⟩
  rw [← g553] at A553 st553
  have g554 : n0 ≤ b553 := Nat.le_trans (own_le O0) (Nat.le_of_eq g553.symm)
  have z555 : h0.size ≤ b553 := (Nat.le_of_eq g553.symm)
  have O556 := Old.ext O0 E553
  have K557 : Keep h0 h553 [] := (Keep.refl h0 []).ext E553
  have F558 : Arv Z h553 b553 k553 .char (2 : Int32) [(.int (0 : Int32)), (.int (0 : Int32))] (.int (0 : Int32)) := (Arv.new A553 (by decide)).pad (pad_rep [] (.int (0 : Int32)) 2)
  refine Win.to T553 (mkF m 29 #[.val (.int (2 : Int32)), .val (.int pa), .val (.int pb), .val (.int pc)] [(.ref b553)]) (fun _ k => st553 _ k) ?_
  refine Win.to T553 (mkF m 30 #[.val (.int (2 : Int32)), .val (.int pa), .val (.int pb), .val (.int pc)] [(.ref b553), (.ref b553)]) (fun _ k => XS.dup X553.here hx rfl (hb hby d9_29) rfl rfl k) ?_
  refine Win.to T553 (mkF m 31 #[.val (.int (2 : Int32)), .val (.int pa), .val (.int pb), .val (.int pc)] [(.int (0 : Int32)), (.ref b553), (.ref b553)]) (fun _ k => XS.iconst X553.here hx rfl (hb hby d9_30) k) ?_
  refine Win.to T553 (mkF m 32 #[.val (.int (2 : Int32)), .val (.int pa), .val (.int pb), .val (.int pc)] [(.int pa), (.int (0 : Int32)), (.ref b553), (.ref b553)]) (fun _ k => XS.iloadN X553.here hx rfl (hb hby d9_31) rfl k) ?_
  obtain ⟨cl559, Ar559, q559, S559, N559, H559, G559⟩ := F558
  have hi559 : ¬ ((0 : Int32) < 0 ∨ cl559.slots.size ≤ ((0 : Int32)).toNatClampNeg) := inb_of S559 ⟨by decide, by decide⟩
  obtain ⟨T560, h560, X560, e560, W560, st560⟩ := stC X553 hx hZ e553 Ar559 (j := (0 : Int32)) hi559 (g := (mkF m 32 #[.val (.int (2 : Int32)), .val (.int pa), .val (.int pb), .val (.int pc)] [(.int pa), (.int (0 : Int32)), (.ref b553), (.ref b553)])) rfl rfl (hb hby d9_32)
  have O562 := Old.wr O556 W560 g554
  have K563 : Keep h0 h560 [] := K557.wr W560 (Or.inr z555)
  have N564 := Fr.snoc X560 N0 g554
  have eq560 : nar .char pa = pa := h_pa
  have W560 := eq560 ▸ W560
  have F561 : Arv Z h560 b553 k553 .char (2 : Int32) [(.int pa), (.int (0 : Int32))] (.int (0 : Int32)) := Arv.set Ar559 q559 S559 N559 H559 G559 (eq560 ▸ (fits_nar_char _)) W560 0 rfl (Nat.le_of_ble_eq_true rfl)
  refine Win.to T560 (mkF m 33 #[.val (.int (2 : Int32)), .val (.int pa), .val (.int pb), .val (.int pc)] [(.ref b553)]) (fun _ k => st560 _ k) ?_
  refine Win.to T560 (mkF m 34 #[.val (.int (2 : Int32)), .val (.int pa), .val (.int pb), .val (.int pc)] [(.ref b553), (.ref b553)]) (fun _ k => XS.dup X560.here hx rfl (hb hby d9_33) rfl rfl k) ?_
  refine Win.to T560 (mkF m 35 #[.val (.int (2 : Int32)), .val (.int pa), .val (.int pb), .val (.int pc)] [(.int (1 : Int32)), (.ref b553), (.ref b553)]) (fun _ k => XS.iconst X560.here hx rfl (hb hby d9_34) k) ?_
  refine Win.to T560 (mkF m 36 #[.val (.int (2 : Int32)), .val (.int pa), .val (.int pb), .val (.int pc)] [(.int pb), (.int (1 : Int32)), (.ref b553), (.ref b553)]) (fun _ k => XS.iloadN X560.here hx rfl (hb hby d9_35) rfl k) ?_
  obtain ⟨cl565, Ar565, q565, S565, N565, H565, G565⟩ := F561
  have hi565 : ¬ ((1 : Int32) < 0 ∨ cl565.slots.size ≤ ((1 : Int32)).toNatClampNeg) := inb_of S565 ⟨by decide, by decide⟩
  obtain ⟨T566, h566, X566, e566, W566, st566⟩ := stC X560 hx hZ e560 Ar565 (j := (1 : Int32)) hi565 (g := (mkF m 36 #[.val (.int (2 : Int32)), .val (.int pa), .val (.int pb), .val (.int pc)] [(.int pb), (.int (1 : Int32)), (.ref b553), (.ref b553)])) rfl rfl (hb hby d9_36)
  have O568 := Old.wr O562 W566 g554
  have K569 : Keep h0 h566 [] := K563.wr W566 (Or.inr z555)
  have N570 := Fr.snoc X566 N564 g554
  have eq566 : nar .char pb = pb := h_pb
  have W566 := eq566 ▸ W566
  have F567 : Arv Z h566 b553 k553 .char (2 : Int32) [(.int pa), (.int pb)] (.int (0 : Int32)) := Arv.set Ar565 q565 S565 N565 H565 G565 (eq566 ▸ (fits_nar_char _)) W566 1 rfl (Nat.le_of_ble_eq_true rfl)
  refine Win.to T566 (mkF m 37 #[.val (.int (2 : Int32)), .val (.int pa), .val (.int pb), .val (.int pc)] [(.ref b553)]) (fun _ k => st566 _ k) ?_
  exact Win.retA X566 hx hlk hret rfl rfl (hb hby d9_37) (by decide) (by decide) (by (try rw [e566]); exact ⟨b553, k553, rfl, N570, K569, z555, F567⟩)
abbrev R_line3 : Room := ⟨0, 1, 7, 0⟩
set_option maxRecDepth 65536 in
set_option maxHeartbeats 40000000 in
theorem line3 (l : Launch) (Z : State) (a0 : Array Value) (hw : ∀ d ∈ tables_1, d.before a0 Z = true) (pa : Int32) (pb : Int32) (pc : Int32) (pd : Int32) (pe : Int32) (pf : Int32) (h0 : Heap) (n0 : Nat) (O0 : Old Z n0 h0) (h_pa : nar .char pa = pa) (h_pb : nar .char pb = pb) (h_pc : nar .char pc = pc) (h_pd : nar .char pd = pd) (h_pe : nar .char pe = pe) (h_pf : nar .char pf = pf) :
    MetN l Z (⟨"com/example/grantgate/grantgate/server/HeadMethodPinLaw", "line", "(ICCCCCC)[C"⟩ : MethodName) method_4_code 7 (some (.array .char)) R_line3 [] #[(.int (3 : Int32)), (.int pa), (.int pb), (.int pc), (.int pd), (.int pe), (.int pf)] h0 (fun v h L => ∃ (r : Addr) (kk : ClassId), v = some (.ref r) ∧ Fr n0 L ∧ Keep h0 h [] ∧ h0.size ≤ r ∧ Arv Z h r kk .char (7 : Int32) [(.int pa), (.int pb), (.int pc), (.int (32 : Int32)), (.int pd), (.int pe), (.int pf)] (.int (0 : Int32))) := by
  refine MetN.walk (plainFor_of_name pn_2) ?_
  intro p e s m below meth c s₁ hx hZ hby hml hown hnm hret hlk X0 e0
  have N0 := Fr.nil n0
  refine Win.to s₁ (mkF m 0 #[.val (.int (3 : Int32)), .val (.int pa), .val (.int pb), .val (.int pc), .val (.int pd), .val (.int pe), .val (.int pf)] []) (fun _ k => castTop (by first | (simp [entryFrame, mkF, argsToLocals, Value.category]; done) | rfl) k) ?_
  refine Win.to s₁ (mkF m 1 #[.val (.int (3 : Int32)), .val (.int pa), .val (.int pb), .val (.int pc), .val (.int pd), .val (.int pe), .val (.int pf)] [(.int (3 : Int32))]) (fun _ k => XS.iloadN X0.here hx rfl (hb hby d2_0) rfl k) ?_
  refine Win.to s₁ (mkF m 28 #[.val (.int (3 : Int32)), .val (.int pa), .val (.int pb), .val (.int pc), .val (.int pd), .val (.int pe), .val (.int pf)] []) (fun _ k => XS.ifYes X0.here hx rfl (pc0 := 1) (pc' := 28) rfl (hb hby d2_1) rfl ((if0 _ _).trans (feq (show ¬ ((3 : Int32) = (0 : Int32)) from by decide)).2) (by decide) (by decide) k) ?_
  refine Win.to s₁ (mkF m 29 #[.val (.int (3 : Int32)), .val (.int pa), .val (.int pb), .val (.int pc), .val (.int pd), .val (.int pe), .val (.int pf)] [(.int (3 : Int32))]) (fun _ k => XS.iloadN X0.here hx rfl (hb hby d2_28) rfl k) ?_
  refine Win.to s₁ (mkF m 30 #[.val (.int (3 : Int32)), .val (.int pa), .val (.int pb), .val (.int pc), .val (.int pd), .val (.int pe), .val (.int pf)] [(.int (1 : Int32)), (.int (3 : Int32))]) (fun _ k => XS.iconst X0.here hx rfl (hb hby d2_29) k) ?_
  refine Win.to s₁ (mkF m 61 #[.val (.int (3 : Int32)), .val (.int pa), .val (.int pb), .val (.int pc), .val (.int pd), .val (.int pe), .val (.int pf)] []) (fun _ k => XS.icmpYes X0.here hx rfl (pc0 := 30) (pc' := 61) rfl (hb hby d2_30) rfl (feq (show ¬ ((3 : Int32) = (1 : Int32)) from by decide)).2 (by decide) (by decide) k) ?_
  refine Win.to s₁ (mkF m 62 #[.val (.int (3 : Int32)), .val (.int pa), .val (.int pb), .val (.int pc), .val (.int pd), .val (.int pe), .val (.int pf)] [(.int (3 : Int32))]) (fun _ k => XS.iloadN X0.here hx rfl (hb hby d2_61) rfl k) ?_
  refine Win.to s₁ (mkF m 63 #[.val (.int (3 : Int32)), .val (.int pa), .val (.int pb), .val (.int pc), .val (.int pd), .val (.int pe), .val (.int pf)] [(.int (2 : Int32)), (.int (3 : Int32))]) (fun _ k => XS.iconst X0.here hx rfl (hb hby d2_62) k) ?_
  refine Win.to s₁ (mkF m 99 #[.val (.int (3 : Int32)), .val (.int pa), .val (.int pb), .val (.int pc), .val (.int pd), .val (.int pe), .val (.int pf)] []) (fun _ k => XS.icmpYes X0.here hx rfl (pc0 := 63) (pc' := 99) rfl (hb hby d2_63) rfl (feq (show ¬ ((3 : Int32) = (2 : Int32)) from by decide)).2 (by decide) (by decide) k) ?_
  refine Win.to s₁ (mkF m 101 #[.val (.int (3 : Int32)), .val (.int pa), .val (.int pb), .val (.int pc), .val (.int pd), .val (.int pe), .val (.int pf)] [(.int (7 : Int32))]) (fun _ k => XS.bipush X0.here hx rfl (hb hby d2_99) k) ?_
  obtain ⟨T571, h571, k571, X571, e571, E571, A571, st571⟩ := newP X0 hx hZ (hw _ (List.mem_of_getElem? (i := 10) rfl)) e0 (g := (mkF m 101 #[.val (.int (3 : Int32)), .val (.int pa), .val (.int pb), .val (.int pc), .val (.int pd), .val (.int pe), .val (.int pf)] [(.int (7 : Int32))])) rfl (hb hby d2_101) rfl (by decide) (cap := 7) (by decide) (by decide) (by decide) (by decide)
  obtain ⟨b571, g571⟩ : ∃ z, z = h0.size := ⟨_, rfl⟩
  rw [← g571] at A571 st571
  have g572 : n0 ≤ b571 := Nat.le_trans (own_le O0) (Nat.le_of_eq g571.symm)
  have z573 : h0.size ≤ b571 := (Nat.le_of_eq g571.symm)
  have O574 := Old.ext O0 E571
  have K575 : Keep h0 h571 [] := (Keep.refl h0 []).ext E571
  have F576 : Arv Z h571 b571 k571 .char (7 : Int32) [(.int (0 : Int32)), (.int (0 : Int32)), (.int (0 : Int32)), (.int (0 : Int32)), (.int (0 : Int32)), (.int (0 : Int32)), (.int (0 : Int32))] (.int (0 : Int32)) := (Arv.new A571 (by decide)).pad (pad_rep [] (.int (0 : Int32)) 7)
  refine Win.to T571 (mkF m 103 #[.val (.int (3 : Int32)), .val (.int pa), .val (.int pb), .val (.int pc), .val (.int pd), .val (.int pe), .val (.int pf)] [(.ref b571)]) (fun _ k => st571 _ k) ?_
  refine Win.to T571 (mkF m 104 #[.val (.int (3 : Int32)), .val (.int pa), .val (.int pb), .val (.int pc), .val (.int pd), .val (.int pe), .val (.int pf)] [(.ref b571), (.ref b571)]) (fun _ k => XS.dup X571.here hx rfl (hb hby d2_103) rfl rfl k) ?_
  refine Win.to T571 (mkF m 105 #[.val (.int (3 : Int32)), .val (.int pa), .val (.int pb), .val (.int pc), .val (.int pd), .val (.int pe), .val (.int pf)] [(.int (0 : Int32)), (.ref b571), (.ref b571)]) (fun _ k => XS.iconst X571.here hx rfl (hb hby d2_104) k) ?_
  refine Win.to T571 (mkF m 106 #[.val (.int (3 : Int32)), .val (.int pa), .val (.int pb), .val (.int pc), .val (.int pd), .val (.int pe), .val (.int pf)] [(.int pa), (.int (0 : Int32)), (.ref b571), (.ref b571)]) (fun _ k => XS.iloadN X571.here hx rfl (hb hby d2_105) rfl k) ?_
  obtain ⟨cl577, Ar577, q577, S577, N577, H577, G577⟩ := F576
  have hi577 : ¬ ((0 : Int32) < 0 ∨ cl577.slots.size ≤ ((0 : Int32)).toNatClampNeg) := inb_of S577 ⟨by decide, by decide⟩
  obtain ⟨T578, h578, X578, e578, W578, st578⟩ := stC X571 hx hZ e571 Ar577 (j := (0 : Int32)) hi577 (g := (mkF m 106 #[.val (.int (3 : Int32)), .val (.int pa), .val (.int pb), .val (.int pc), .val (.int pd), .val (.int pe), .val (.int pf)] [(.int pa), (.int (0 : Int32)), (.ref b571), (.ref b571)])) rfl rfl (hb hby d2_106)
  have O580 := Old.wr O574 W578 g572
  have K581 : Keep h0 h578 [] := K575.wr W578 (Or.inr z573)
  have N582 := Fr.snoc X578 N0 g572
  have eq578 : nar .char pa = pa := h_pa
  have W578 := eq578 ▸ W578
  have F579 : Arv Z h578 b571 k571 .char (7 : Int32) [(.int pa), (.int (0 : Int32)), (.int (0 : Int32)), (.int (0 : Int32)), (.int (0 : Int32)), (.int (0 : Int32)), (.int (0 : Int32))] (.int (0 : Int32)) := Arv.set Ar577 q577 S577 N577 H577 G577 (eq578 ▸ (fits_nar_char _)) W578 0 rfl (Nat.le_of_ble_eq_true rfl)
  refine Win.to T578 (mkF m 107 #[.val (.int (3 : Int32)), .val (.int pa), .val (.int pb), .val (.int pc), .val (.int pd), .val (.int pe), .val (.int pf)] [(.ref b571)]) (fun _ k => st578 _ k) ?_
  refine Win.to T578 (mkF m 108 #[.val (.int (3 : Int32)), .val (.int pa), .val (.int pb), .val (.int pc), .val (.int pd), .val (.int pe), .val (.int pf)] [(.ref b571), (.ref b571)]) (fun _ k => XS.dup X578.here hx rfl (hb hby d2_107) rfl rfl k) ?_
  refine Win.to T578 (mkF m 109 #[.val (.int (3 : Int32)), .val (.int pa), .val (.int pb), .val (.int pc), .val (.int pd), .val (.int pe), .val (.int pf)] [(.int (1 : Int32)), (.ref b571), (.ref b571)]) (fun _ k => XS.iconst X578.here hx rfl (hb hby d2_108) k) ?_
  refine Win.to T578 (mkF m 110 #[.val (.int (3 : Int32)), .val (.int pa), .val (.int pb), .val (.int pc), .val (.int pd), .val (.int pe), .val (.int pf)] [(.int pb), (.int (1 : Int32)), (.ref b571), (.ref b571)]) (fun _ k => XS.iloadN X578.here hx rfl (hb hby d2_109) rfl k) ?_
  obtain ⟨cl583, Ar583, q583, S583, N583, H583, G583⟩ := F579
  have hi583 : ¬ ((1 : Int32) < 0 ∨ cl583.slots.size ≤ ((1 : Int32)).toNatClampNeg) := inb_of S583 ⟨by decide, by decide⟩
  obtain ⟨T584, h584, X584, e584, W584, st584⟩ := stC X578 hx hZ e578 Ar583 (j := (1 : Int32)) hi583 (g := (mkF m 110 #[.val (.int (3 : Int32)), .val (.int pa), .val (.int pb), .val (.int pc), .val (.int pd), .val (.int pe), .val (.int pf)] [(.int pb), (.int (1 : Int32)), (.ref b571), (.ref b571)])) rfl rfl (hb hby d2_110)
  have O586 := Old.wr O580 W584 g572
  have K587 : Keep h0 h584 [] := K581.wr W584 (Or.inr z573)
  have N588 := Fr.snoc X584 N582 g572
  have eq584 : nar .char pb = pb := h_pb
  have W584 := eq584 ▸ W584
  have F585 : Arv Z h584 b571 k571 .char (7 : Int32) [(.int pa), (.int pb), (.int (0 : Int32)), (.int (0 : Int32)), (.int (0 : Int32)), (.int (0 : Int32)), (.int (0 : Int32))] (.int (0 : Int32)) := Arv.set Ar583 q583 S583 N583 H583 G583 (eq584 ▸ (fits_nar_char _)) W584 1 rfl (Nat.le_of_ble_eq_true rfl)
  refine Win.to T584 (mkF m 111 #[.val (.int (3 : Int32)), .val (.int pa), .val (.int pb), .val (.int pc), .val (.int pd), .val (.int pe), .val (.int pf)] [(.ref b571)]) (fun _ k => st584 _ k) ?_
  refine Win.to T584 (mkF m 112 #[.val (.int (3 : Int32)), .val (.int pa), .val (.int pb), .val (.int pc), .val (.int pd), .val (.int pe), .val (.int pf)] [(.ref b571), (.ref b571)]) (fun _ k => XS.dup X584.here hx rfl (hb hby d2_111) rfl rfl k) ?_
  refine Win.to T584 (mkF m 113 #[.val (.int (3 : Int32)), .val (.int pa), .val (.int pb), .val (.int pc), .val (.int pd), .val (.int pe), .val (.int pf)] [(.int (2 : Int32)), (.ref b571), (.ref b571)]) (fun _ k => XS.iconst X584.here hx rfl (hb hby d2_112) k) ?_
  refine Win.to T584 (mkF m 114 #[.val (.int (3 : Int32)), .val (.int pa), .val (.int pb), .val (.int pc), .val (.int pd), .val (.int pe), .val (.int pf)] [(.int pc), (.int (2 : Int32)), (.ref b571), (.ref b571)]) (fun _ k => XS.iloadN X584.here hx rfl (hb hby d2_113) rfl k) ?_
  obtain ⟨cl589, Ar589, q589, S589, N589, H589, G589⟩ := F585
  have hi589 : ¬ ((2 : Int32) < 0 ∨ cl589.slots.size ≤ ((2 : Int32)).toNatClampNeg) := inb_of S589 ⟨by decide, by decide⟩
  obtain ⟨T590, h590, X590, e590, W590, st590⟩ := stC X584 hx hZ e584 Ar589 (j := (2 : Int32)) hi589 (g := (mkF m 114 #[.val (.int (3 : Int32)), .val (.int pa), .val (.int pb), .val (.int pc), .val (.int pd), .val (.int pe), .val (.int pf)] [(.int pc), (.int (2 : Int32)), (.ref b571), (.ref b571)])) rfl rfl (hb hby d2_114)
  have O592 := Old.wr O586 W590 g572
  have K593 : Keep h0 h590 [] := K587.wr W590 (Or.inr z573)
  have N594 := Fr.snoc X590 N588 g572
  have eq590 : nar .char pc = pc := h_pc
  have W590 := eq590 ▸ W590
  have F591 : Arv Z h590 b571 k571 .char (7 : Int32) [(.int pa), (.int pb), (.int pc), (.int (0 : Int32)), (.int (0 : Int32)), (.int (0 : Int32)), (.int (0 : Int32))] (.int (0 : Int32)) := Arv.set Ar589 q589 S589 N589 H589 G589 (eq590 ▸ (fits_nar_char _)) W590 2 rfl (Nat.le_of_ble_eq_true rfl)
  refine Win.to T590 (mkF m 115 #[.val (.int (3 : Int32)), .val (.int pa), .val (.int pb), .val (.int pc), .val (.int pd), .val (.int pe), .val (.int pf)] [(.ref b571)]) (fun _ k => st590 _ k) ?_
  refine Win.to T590 (mkF m 116 #[.val (.int (3 : Int32)), .val (.int pa), .val (.int pb), .val (.int pc), .val (.int pd), .val (.int pe), .val (.int pf)] [(.ref b571), (.ref b571)]) (fun _ k => XS.dup X590.here hx rfl (hb hby d2_115) rfl rfl k) ?_
  refine Win.to T590 (mkF m 117 #[.val (.int (3 : Int32)), .val (.int pa), .val (.int pb), .val (.int pc), .val (.int pd), .val (.int pe), .val (.int pf)] [(.int (3 : Int32)), (.ref b571), (.ref b571)]) (fun _ k => XS.iconst X590.here hx rfl (hb hby d2_116) k) ?_
  refine Win.to T590 (mkF m 119 #[.val (.int (3 : Int32)), .val (.int pa), .val (.int pb), .val (.int pc), .val (.int pd), .val (.int pe), .val (.int pf)] [(.int (32 : Int32)), (.int (3 : Int32)), (.ref b571), (.ref b571)]) (fun _ k => XS.bipush X590.here hx rfl (hb hby d2_117) k) ?_
  obtain ⟨cl595, Ar595, q595, S595, N595, H595, G595⟩ := F591
  have hi595 : ¬ ((3 : Int32) < 0 ∨ cl595.slots.size ≤ ((3 : Int32)).toNatClampNeg) := inb_of S595 ⟨by decide, by decide⟩
  obtain ⟨T596, h596, X596, e596, W596, st596⟩ := stC X590 hx hZ e590 Ar595 (j := (3 : Int32)) hi595 (g := (mkF m 119 #[.val (.int (3 : Int32)), .val (.int pa), .val (.int pb), .val (.int pc), .val (.int pd), .val (.int pe), .val (.int pf)] [(.int (32 : Int32)), (.int (3 : Int32)), (.ref b571), (.ref b571)])) rfl rfl (hb hby d2_119)
  have O598 := Old.wr O592 W596 g572
  have K599 : Keep h0 h596 [] := K593.wr W596 (Or.inr z573)
  have N600 := Fr.snoc X596 N594 g572
  have eq596 : nar .char (32 : Int32) = (32 : Int32) := (by decide)
  have W596 := eq596 ▸ W596
  have F597 : Arv Z h596 b571 k571 .char (7 : Int32) [(.int pa), (.int pb), (.int pc), (.int (32 : Int32)), (.int (0 : Int32)), (.int (0 : Int32)), (.int (0 : Int32))] (.int (0 : Int32)) := Arv.set Ar595 q595 S595 N595 H595 G595 (eq596 ▸ (fits_nar_char _)) W596 3 rfl (Nat.le_of_ble_eq_true rfl)
  refine Win.to T596 (mkF m 120 #[.val (.int (3 : Int32)), .val (.int pa), .val (.int pb), .val (.int pc), .val (.int pd), .val (.int pe), .val (.int pf)] [(.ref b571)]) (fun _ k => st596 _ k) ?_
  refine Win.to T596 (mkF m 121 #[.val (.int (3 : Int32)), .val (.int pa), .val (.int pb), .val (.int pc), .val (.int pd), .val (.int pe), .val (.int pf)] [(.ref b571), (.ref b571)]) (fun _ k => XS.dup X596.here hx rfl (hb hby d2_120) rfl rfl k) ?_
  refine Win.to T596 (mkF m 122 #[.val (.int (3 : Int32)), .val (.int pa), .val (.int pb), .val (.int pc), .val (.int pd), .val (.int pe), .val (.int pf)] [(.int (4 : Int32)), (.ref b571), (.ref b571)]) (fun _ k => XS.iconst X596.here hx rfl (hb hby d2_121) k) ?_
  refine Win.to T596 (mkF m 124 #[.val (.int (3 : Int32)), .val (.int pa), .val (.int pb), .val (.int pc), .val (.int pd), .val (.int pe), .val (.int pf)] [(.int pd), (.int (4 : Int32)), (.ref b571), (.ref b571)]) (fun _ k => XS.iload X596.here hx rfl (hb hby d2_122) rfl k) ?_
  obtain ⟨cl601, Ar601, q601, S601, N601, H601, G601⟩ := F597
  have hi601 : ¬ ((4 : Int32) < 0 ∨ cl601.slots.size ≤ ((4 : Int32)).toNatClampNeg) := inb_of S601 ⟨by decide, by decide⟩
  obtain ⟨T602, h602, X602, e602, W602, st602⟩ := stC X596 hx hZ e596 Ar601 (j := (4 : Int32)) hi601 (g := (mkF m 124 #[.val (.int (3 : Int32)), .val (.int pa), .val (.int pb), .val (.int pc), .val (.int pd), .val (.int pe), .val (.int pf)] [(.int pd), (.int (4 : Int32)), (.ref b571), (.ref b571)])) rfl rfl (hb hby d2_124)
  have O604 := Old.wr O598 W602 g572
  have K605 : Keep h0 h602 [] := K599.wr W602 (Or.inr z573)
  have N606 := Fr.snoc X602 N600 g572
  have eq602 : nar .char pd = pd := h_pd
  have W602 := eq602 ▸ W602
  have F603 : Arv Z h602 b571 k571 .char (7 : Int32) [(.int pa), (.int pb), (.int pc), (.int (32 : Int32)), (.int pd), (.int (0 : Int32)), (.int (0 : Int32))] (.int (0 : Int32)) := Arv.set Ar601 q601 S601 N601 H601 G601 (eq602 ▸ (fits_nar_char _)) W602 4 rfl (Nat.le_of_ble_eq_true rfl)
  refine Win.to T602 (mkF m 125 #[.val (.int (3 : Int32)), .val (.int pa), .val (.int pb), .val (.int pc), .val (.int pd), .val (.int pe), .val (.int pf)] [(.ref b571)]) (fun _ k => st602 _ k) ?_
  refine Win.to T602 (mkF m 126 #[.val (.int (3 : Int32)), .val (.int pa), .val (.int pb), .val (.int pc), .val (.int pd), .val (.int pe), .val (.int pf)] [(.ref b571), (.ref b571)]) (fun _ k => XS.dup X602.here hx rfl (hb hby d2_125) rfl rfl k) ?_
  refine Win.to T602 (mkF m 127 #[.val (.int (3 : Int32)), .val (.int pa), .val (.int pb), .val (.int pc), .val (.int pd), .val (.int pe), .val (.int pf)] [(.int (5 : Int32)), (.ref b571), (.ref b571)]) (fun _ k => XS.iconst X602.here hx rfl (hb hby d2_126) k) ?_
  refine Win.to T602 (mkF m 129 #[.val (.int (3 : Int32)), .val (.int pa), .val (.int pb), .val (.int pc), .val (.int pd), .val (.int pe), .val (.int pf)] [(.int pe), (.int (5 : Int32)), (.ref b571), (.ref b571)]) (fun _ k => XS.iload X602.here hx rfl (hb hby d2_127) rfl k) ?_
  obtain ⟨cl607, Ar607, q607, S607, N607, H607, G607⟩ := F603
  have hi607 : ¬ ((5 : Int32) < 0 ∨ cl607.slots.size ≤ ((5 : Int32)).toNatClampNeg) := inb_of S607 ⟨by decide, by decide⟩
  obtain ⟨T608, h608, X608, e608, W608, st608⟩ := stC X602 hx hZ e602 Ar607 (j := (5 : Int32)) hi607 (g := (mkF m 129 #[.val (.int (3 : Int32)), .val (.int pa), .val (.int pb), .val (.int pc), .val (.int pd), .val (.int pe), .val (.int pf)] [(.int pe), (.int (5 : Int32)), (.ref b571), (.ref b571)])) rfl rfl (hb hby d2_129)
  have O610 := Old.wr O604 W608 g572
  have K611 : Keep h0 h608 [] := K605.wr W608 (Or.inr z573)
  have N612 := Fr.snoc X608 N606 g572
  have eq608 : nar .char pe = pe := h_pe
  have W608 := eq608 ▸ W608
  have F609 : Arv Z h608 b571 k571 .char (7 : Int32) [(.int pa), (.int pb), (.int pc), (.int (32 : Int32)), (.int pd), (.int pe), (.int (0 : Int32))] (.int (0 : Int32)) := Arv.set Ar607 q607 S607 N607 H607 G607 (eq608 ▸ (fits_nar_char _)) W608 5 rfl (Nat.le_of_ble_eq_true rfl)
  refine Win.to T608 (mkF m 130 #[.val (.int (3 : Int32)), .val (.int pa), .val (.int pb), .val (.int pc), .val (.int pd), .val (.int pe), .val (.int pf)] [(.ref b571)]) (fun _ k => st608 _ k) ?_
  refine Win.to T608 (mkF m 131 #[.val (.int (3 : Int32)), .val (.int pa), .val (.int pb), .val (.int pc), .val (.int pd), .val (.int pe), .val (.int pf)] [(.ref b571), (.ref b571)]) (fun _ k => XS.dup X608.here hx rfl (hb hby d2_130) rfl rfl k) ?_
  refine Win.to T608 (mkF m 133 #[.val (.int (3 : Int32)), .val (.int pa), .val (.int pb), .val (.int pc), .val (.int pd), .val (.int pe), .val (.int pf)] [(.int (6 : Int32)), (.ref b571), (.ref b571)]) (fun _ k => XS.bipush X608.here hx rfl (hb hby d2_131) k) ?_
  refine Win.to T608 (mkF m 135 #[.val (.int (3 : Int32)), .val (.int pa), .val (.int pb), .val (.int pc), .val (.int pd), .val (.int pe), .val (.int pf)] [(.int pf), (.int (6 : Int32)), (.ref b571), (.ref b571)]) (fun _ k => XS.iload X608.here hx rfl (hb hby d2_133) rfl k) ?_
  obtain ⟨cl613, Ar613, q613, S613, N613, H613, G613⟩ := F609
  have hi613 : ¬ ((6 : Int32) < 0 ∨ cl613.slots.size ≤ ((6 : Int32)).toNatClampNeg) := inb_of S613 ⟨by decide, by decide⟩
  obtain ⟨T614, h614, X614, e614, W614, st614⟩ := stC X608 hx hZ e608 Ar613 (j := (6 : Int32)) hi613 (g := (mkF m 135 #[.val (.int (3 : Int32)), .val (.int pa), .val (.int pb), .val (.int pc), .val (.int pd), .val (.int pe), .val (.int pf)] [(.int pf), (.int (6 : Int32)), (.ref b571), (.ref b571)])) rfl rfl (hb hby d2_135)
  have O616 := Old.wr O610 W614 g572
  have K617 : Keep h0 h614 [] := K611.wr W614 (Or.inr z573)
  have N618 := Fr.snoc X614 N612 g572
  have eq614 : nar .char pf = pf := h_pf
  have W614 := eq614 ▸ W614
  have F615 : Arv Z h614 b571 k571 .char (7 : Int32) [(.int pa), (.int pb), (.int pc), (.int (32 : Int32)), (.int pd), (.int pe), (.int pf)] (.int (0 : Int32)) := Arv.set Ar613 q613 S613 N613 H613 G613 (eq614 ▸ (fits_nar_char _)) W614 6 rfl (Nat.le_of_ble_eq_true rfl)
  refine Win.to T614 (mkF m 136 #[.val (.int (3 : Int32)), .val (.int pa), .val (.int pb), .val (.int pc), .val (.int pd), .val (.int pe), .val (.int pf)] [(.ref b571)]) (fun _ k => st614 _ k) ?_
  exact Win.retA X614 hx hlk hret rfl rfl (hb hby d2_136) (by decide) (by decide) (by (try rw [e614]); exact ⟨b571, k571, rfl, N618, K617, z573, F615⟩)
abbrev R_pref3 : Room := ⟨0, 1, 3, 0⟩
set_option maxRecDepth 65536 in
set_option maxHeartbeats 40000000 in
theorem pref3 (l : Launch) (Z : State) (a0 : Array Value) (hw : ∀ d ∈ tables_1, d.before a0 Z = true) (pa : Int32) (pb : Int32) (pc : Int32) (h0 : Heap) (n0 : Nat) (O0 : Old Z n0 h0) (h_pa : nar .char pa = pa) (h_pb : nar .char pb = pb) (h_pc : nar .char pc = pc) :
    MetN l Z (⟨"com/example/grantgate/grantgate/server/HeadMethodPinLaw", "prefix", "(ICCC)[C"⟩ : MethodName) method_3_code 4 (some (.array .char)) R_pref3 [] #[(.int (3 : Int32)), (.int pa), (.int pb), (.int pc)] h0 (fun v h L => ∃ (r : Addr) (kk : ClassId), v = some (.ref r) ∧ Fr n0 L ∧ Keep h0 h [] ∧ h0.size ≤ r ∧ Arv Z h r kk .char (3 : Int32) [(.int pa), (.int pb), (.int pc)] (.int (0 : Int32))) := by
  refine MetN.walk (plainFor_of_name pn_9) ?_
  intro p e s m below meth c s₁ hx hZ hby hml hown hnm hret hlk X0 e0
  have N0 := Fr.nil n0
  refine Win.to s₁ (mkF m 0 #[.val (.int (3 : Int32)), .val (.int pa), .val (.int pb), .val (.int pc)] []) (fun _ k => castTop (by first | (simp [entryFrame, mkF, argsToLocals, Value.category]; done) | rfl) k) ?_
  refine Win.to s₁ (mkF m 1 #[.val (.int (3 : Int32)), .val (.int pa), .val (.int pb), .val (.int pc)] [(.int (3 : Int32))]) (fun _ k => XS.iloadN X0.here hx rfl (hb hby d9_0) rfl k) ?_
  refine Win.to s₁ (mkF m 8 #[.val (.int (3 : Int32)), .val (.int pa), .val (.int pb), .val (.int pc)] []) (fun _ k => XS.ifYes X0.here hx rfl (pc0 := 1) (pc' := 8) rfl (hb hby d9_1) rfl ((if0 _ _).trans (feq (show ¬ ((3 : Int32) = (0 : Int32)) from by decide)).2) (by decide) (by decide) k) ?_
  refine Win.to s₁ (mkF m 9 #[.val (.int (3 : Int32)), .val (.int pa), .val (.int pb), .val (.int pc)] [(.int (3 : Int32))]) (fun _ k => XS.iloadN X0.here hx rfl (hb hby d9_8) rfl k) ?_
  refine Win.to s₁ (mkF m 10 #[.val (.int (3 : Int32)), .val (.int pa), .val (.int pb), .val (.int pc)] [(.int (1 : Int32)), (.int (3 : Int32))]) (fun _ k => XS.iconst X0.here hx rfl (hb hby d9_9) k) ?_
  refine Win.to s₁ (mkF m 21 #[.val (.int (3 : Int32)), .val (.int pa), .val (.int pb), .val (.int pc)] []) (fun _ k => XS.icmpYes X0.here hx rfl (pc0 := 10) (pc' := 21) rfl (hb hby d9_10) rfl (feq (show ¬ ((3 : Int32) = (1 : Int32)) from by decide)).2 (by decide) (by decide) k) ?_
  refine Win.to s₁ (mkF m 22 #[.val (.int (3 : Int32)), .val (.int pa), .val (.int pb), .val (.int pc)] [(.int (3 : Int32))]) (fun _ k => XS.iloadN X0.here hx rfl (hb hby d9_21) rfl k) ?_
  refine Win.to s₁ (mkF m 23 #[.val (.int (3 : Int32)), .val (.int pa), .val (.int pb), .val (.int pc)] [(.int (2 : Int32)), (.int (3 : Int32))]) (fun _ k => XS.iconst X0.here hx rfl (hb hby d9_22) k) ?_
  refine Win.to s₁ (mkF m 38 #[.val (.int (3 : Int32)), .val (.int pa), .val (.int pb), .val (.int pc)] []) (fun _ k => XS.icmpYes X0.here hx rfl (pc0 := 23) (pc' := 38) rfl (hb hby d9_23) rfl (feq (show ¬ ((3 : Int32) = (2 : Int32)) from by decide)).2 (by decide) (by decide) k) ?_
  refine Win.to s₁ (mkF m 39 #[.val (.int (3 : Int32)), .val (.int pa), .val (.int pb), .val (.int pc)] [(.int (3 : Int32))]) (fun _ k => XS.iconst X0.here hx rfl (hb hby d9_38) k) ?_
  obtain ⟨T619, h619, k619, X619, e619, E619, A619, st619⟩ := newP X0 hx hZ (hw _ (List.mem_of_getElem? (i := 10) rfl)) e0 (g := (mkF m 39 #[.val (.int (3 : Int32)), .val (.int pa), .val (.int pb), .val (.int pc)] [(.int (3 : Int32))])) rfl (hb hby d9_39) rfl (by decide) (cap := 3) (by decide) (by decide) (by decide) (by decide)
  obtain ⟨b619, g619⟩ : ∃ z, z = h0.size := ⟨_, rfl⟩
  rw [← g619] at A619 st619
  have g620 : n0 ≤ b619 := Nat.le_trans (own_le O0) (Nat.le_of_eq g619.symm)
  have z621 : h0.size ≤ b619 := (Nat.le_of_eq g619.symm)
  have O622 := Old.ext O0 E619
  have K623 : Keep h0 h619 [] := (Keep.refl h0 []).ext E619
  have F624 : Arv Z h619 b619 k619 .char (3 : Int32) [(.int (0 : Int32)), (.int (0 : Int32)), (.int (0 : Int32))] (.int (0 : Int32)) := (Arv.new A619 (by decide)).pad (pad_rep [] (.int (0 : Int32)) 3)
  refine Win.to T619 (mkF m 41 #[.val (.int (3 : Int32)), .val (.int pa), .val (.int pb), .val (.int pc)] [(.ref b619)]) (fun _ k => st619 _ k) ?_
  refine Win.to T619 (mkF m 42 #[.val (.int (3 : Int32)), .val (.int pa), .val (.int pb), .val (.int pc)] [(.ref b619), (.ref b619)]) (fun _ k => XS.dup X619.here hx rfl (hb hby d9_41) rfl rfl k) ?_
  refine Win.to T619 (mkF m 43 #[.val (.int (3 : Int32)), .val (.int pa), .val (.int pb), .val (.int pc)] [(.int (0 : Int32)), (.ref b619), (.ref b619)]) (fun _ k => XS.iconst X619.here hx rfl (hb hby d9_42) k) ?_
  refine Win.to T619 (mkF m 44 #[.val (.int (3 : Int32)), .val (.int pa), .val (.int pb), .val (.int pc)] [(.int pa), (.int (0 : Int32)), (.ref b619), (.ref b619)]) (fun _ k => XS.iloadN X619.here hx rfl (hb hby d9_43) rfl k) ?_
  obtain ⟨cl625, Ar625, q625, S625, N625, H625, G625⟩ := F624
  have hi625 : ¬ ((0 : Int32) < 0 ∨ cl625.slots.size ≤ ((0 : Int32)).toNatClampNeg) := inb_of S625 ⟨by decide, by decide⟩
  obtain ⟨T626, h626, X626, e626, W626, st626⟩ := stC X619 hx hZ e619 Ar625 (j := (0 : Int32)) hi625 (g := (mkF m 44 #[.val (.int (3 : Int32)), .val (.int pa), .val (.int pb), .val (.int pc)] [(.int pa), (.int (0 : Int32)), (.ref b619), (.ref b619)])) rfl rfl (hb hby d9_44)
  have O628 := Old.wr O622 W626 g620
  have K629 : Keep h0 h626 [] := K623.wr W626 (Or.inr z621)
  have N630 := Fr.snoc X626 N0 g620
  have eq626 : nar .char pa = pa := h_pa
  have W626 := eq626 ▸ W626
  have F627 : Arv Z h626 b619 k619 .char (3 : Int32) [(.int pa), (.int (0 : Int32)), (.int (0 : Int32))] (.int (0 : Int32)) := Arv.set Ar625 q625 S625 N625 H625 G625 (eq626 ▸ (fits_nar_char _)) W626 0 rfl (Nat.le_of_ble_eq_true rfl)
  refine Win.to T626 (mkF m 45 #[.val (.int (3 : Int32)), .val (.int pa), .val (.int pb), .val (.int pc)] [(.ref b619)]) (fun _ k => st626 _ k) ?_
  refine Win.to T626 (mkF m 46 #[.val (.int (3 : Int32)), .val (.int pa), .val (.int pb), .val (.int pc)] [(.ref b619), (.ref b619)]) (fun _ k => XS.dup X626.here hx rfl (hb hby d9_45) rfl rfl k) ?_
  refine Win.to T626 (mkF m 47 #[.val (.int (3 : Int32)), .val (.int pa), .val (.int pb), .val (.int pc)] [(.int (1 : Int32)), (.ref b619), (.ref b619)]) (fun _ k => XS.iconst X626.here hx rfl (hb hby d9_46) k) ?_
  refine Win.to T626 (mkF m 48 #[.val (.int (3 : Int32)), .val (.int pa), .val (.int pb), .val (.int pc)] [(.int pb), (.int (1 : Int32)), (.ref b619), (.ref b619)]) (fun _ k => XS.iloadN X626.here hx rfl (hb hby d9_47) rfl k) ?_
  obtain ⟨cl631, Ar631, q631, S631, N631, H631, G631⟩ := F627
  have hi631 : ¬ ((1 : Int32) < 0 ∨ cl631.slots.size ≤ ((1 : Int32)).toNatClampNeg) := inb_of S631 ⟨by decide, by decide⟩
  obtain ⟨T632, h632, X632, e632, W632, st632⟩ := stC X626 hx hZ e626 Ar631 (j := (1 : Int32)) hi631 (g := (mkF m 48 #[.val (.int (3 : Int32)), .val (.int pa), .val (.int pb), .val (.int pc)] [(.int pb), (.int (1 : Int32)), (.ref b619), (.ref b619)])) rfl rfl (hb hby d9_48)
  have O634 := Old.wr O628 W632 g620
  have K635 : Keep h0 h632 [] := K629.wr W632 (Or.inr z621)
  have N636 := Fr.snoc X632 N630 g620
  have eq632 : nar .char pb = pb := h_pb
  have W632 := eq632 ▸ W632
  have F633 : Arv Z h632 b619 k619 .char (3 : Int32) [(.int pa), (.int pb), (.int (0 : Int32))] (.int (0 : Int32)) := Arv.set Ar631 q631 S631 N631 H631 G631 (eq632 ▸ (fits_nar_char _)) W632 1 rfl (Nat.le_of_ble_eq_true rfl)
  refine Win.to T632 (mkF m 49 #[.val (.int (3 : Int32)), .val (.int pa), .val (.int pb), .val (.int pc)] [(.ref b619)]) (fun _ k => st632 _ k) ?_
  refine Win.to T632 (mkF m 50 #[.val (.int (3 : Int32)), .val (.int pa), .val (.int pb), .val (.int pc)] [(.ref b619), (.ref b619)]) (fun _ k => XS.dup X632.here hx rfl (hb hby d9_49) rfl rfl k) ?_
  refine Win.to T632 (mkF m 51 #[.val (.int (3 : Int32)), .val (.int pa), .val (.int pb), .val (.int pc)] [(.int (2 : Int32)), (.ref b619), (.ref b619)]) (fun _ k => XS.iconst X632.here hx rfl (hb hby d9_50) k) ?_
  refine Win.to T632 (mkF m 52 #[.val (.int (3 : Int32)), .val (.int pa), .val (.int pb), .val (.int pc)] [(.int pc), (.int (2 : Int32)), (.ref b619), (.ref b619)]) (fun _ k => XS.iloadN X632.here hx rfl (hb hby d9_51) rfl k) ?_
  obtain ⟨cl637, Ar637, q637, S637, N637, H637, G637⟩ := F633
  have hi637 : ¬ ((2 : Int32) < 0 ∨ cl637.slots.size ≤ ((2 : Int32)).toNatClampNeg) := inb_of S637 ⟨by decide, by decide⟩
  obtain ⟨T638, h638, X638, e638, W638, st638⟩ := stC X632 hx hZ e632 Ar637 (j := (2 : Int32)) hi637 (g := (mkF m 52 #[.val (.int (3 : Int32)), .val (.int pa), .val (.int pb), .val (.int pc)] [(.int pc), (.int (2 : Int32)), (.ref b619), (.ref b619)])) rfl rfl (hb hby d9_52)
  have O640 := Old.wr O634 W638 g620
  have K641 : Keep h0 h638 [] := K635.wr W638 (Or.inr z621)
  have N642 := Fr.snoc X638 N636 g620
  have eq638 : nar .char pc = pc := h_pc
  have W638 := eq638 ▸ W638
  have F639 : Arv Z h638 b619 k619 .char (3 : Int32) [(.int pa), (.int pb), (.int pc)] (.int (0 : Int32)) := Arv.set Ar637 q637 S637 N637 H637 G637 (eq638 ▸ (fits_nar_char _)) W638 2 rfl (Nat.le_of_ble_eq_true rfl)
  refine Win.to T638 (mkF m 53 #[.val (.int (3 : Int32)), .val (.int pa), .val (.int pb), .val (.int pc)] [(.ref b619)]) (fun _ k => st638 _ k) ?_
  exact Win.retA X638 hx hlk hret rfl rfl (hb hby d9_53) (by decide) (by decide) (by (try rw [e638]); exact ⟨b619, k619, rfl, N642, K641, z621, F639⟩)
set_option maxRecDepth 65536 in
set_option maxHeartbeats 40000000 in
theorem rm0 (l : Launch) (Z : State) (a0 : Array Value) (hw : ∀ d ∈ tables_1, d.before a0 Z = true) (ws : List Jvm.Cond) (p1 : Int32) (p2 : Int32) (cs : Int32) (x1 : Value) (x2 : Value) (h0 : Heap) (n0 : Nat) (O0 : Old Z n0 h0) (S_CS : Sta Z Z.heap "java/lang/String" "COMPACT_STRINGS" "Z" (.int cs)) (hcs : ¬ (cs = (0 : Int32))) (S_SI : Sta Z Z.heap "jdk/internal/util/Preconditions" "SIOOBE_FORMATTER" "Ljava/util/function/BiFunction;" x1) (hx1 : x1.isRef = true) (S_DE : Sta Z Z.heap "java/util/ArrayList" "DEFAULTCAPACITY_EMPTY_ELEMENTDATA" "[Ljava/lang/Object;" x2) (hx2 : x2.isRef = true) :
    MetW l Z x code maxLocals ret room_1 ws #[(.int p1), (.int p2)] h0 EL1 (fun v h L => v = some (.int (1 : Int32)) ∧ Fr n0 L ∧ (True)) := by
  refine MetW.walk (plainFor_of_name pn_0) ?_
  intro p e s m below meth c s₁ hx hZ hby hml hown hnm hret hlk C0 hS0 X0 e0
  have N0 := Fr.nil n0
  refine WinW.to s₁ (mkF m 0 #[.val (.int p1), .val (.int p2), .unset, .unset, .unset, .unset, .unset, .unset, .unset, .unset, .unset, .unset] []) (fun _ k => castTop (by first | (simp [entryFrame, mkF, argsToLocals, Value.category, maxLocals]; done) | rfl) k) ?_
  refine WinW.to s₁ (mkF m 1 #[.val (.int p1), .val (.int p2), .unset, .unset, .unset, .unset, .unset, .unset, .unset, .unset, .unset, .unset] [(.int p1)]) (fun _ k => XS.iloadN X0.here hx rfl (hb hby at_0) rfl k) ?_
  refine WinW.to s₁ (mkF m 3 #[.val (.int p1), .val (.int p2), .unset, .unset, .unset, .unset, .unset, .unset, .unset, .unset, .unset, .unset] [(.int (24 : Int32)), (.int p1)]) (fun _ k => XS.bipush X0.here hx rfl (hb hby at_1) k) ?_
  refine WinW.to s₁ (mkF m 4 #[.val (.int p1), .val (.int p2), .unset, .unset, .unset, .unset, .unset, .unset, .unset, .unset, .unset, .unset] [(.int ((p1.toUInt32 >>> ((24 : Int32) &&& 31).toUInt32).toInt32))]) (fun _ k => XS.iushr X0.here hx rfl (hb hby at_3) rfl k) ?_
  refine WinW.to s₁ (mkF m 5 #[.val (.int p1), .val (.int p2), .unset, .unset, .unset, .unset, .unset, .unset, .unset, .unset, .unset, .unset] [(.int (3 : Int32)), (.int ((p1.toUInt32 >>> ((24 : Int32) &&& 31).toUInt32).toInt32))]) (fun _ k => XS.iconst X0.here hx rfl (hb hby at_4) k) ?_
  refine WinW.to s₁ (mkF m 6 #[.val (.int p1), .val (.int p2), .unset, .unset, .unset, .unset, .unset, .unset, .unset, .unset, .unset, .unset] [(.int (((p1.toUInt32 >>> ((24 : Int32) &&& 31).toUInt32).toInt32) &&& (3 : Int32)))]) (fun _ k => XS.iand X0.here hx rfl (hb hby at_5) rfl k) ?_
  refine WinW.to s₁ (mkF m 7 #[.val (.int p1), .val (.int p2), .val (.int (((p1.toUInt32 >>> ((24 : Int32) &&& 31).toUInt32).toInt32) &&& (3 : Int32))), .unset, .unset, .unset, .unset, .unset, .unset, .unset, .unset, .unset] []) (fun _ k => XS.istoreN X0.here hx rfl (hb hby at_6) rfl (l' := #[.val (.int p1), .val (.int p2), .val (.int (((p1.toUInt32 >>> ((24 : Int32) &&& 31).toUInt32).toInt32) &&& (3 : Int32))), .unset, .unset, .unset, .unset, .unset, .unset, .unset, .unset, .unset]) rfl k) ?_
  rcases own_and3 ((p1.toUInt32 >>> ((24 : Int32) &&& 31).toUInt32).toInt32) with hk | hk | hk | hk
  · rw [hk]
    refine WinW.to s₁ (mkF m 8 #[.val (.int p1), .val (.int p2), .val (.int (0 : Int32)), .unset, .unset, .unset, .unset, .unset, .unset, .unset, .unset, .unset] [(.int p1)]) (fun _ k => XS.iloadN X0.here hx rfl (hb hby at_7) rfl k) ?_
    obtain ⟨T643, h643, v643, L643, X643, e643, ⟨c_643, rfl, N643q, r643_0, r643_1, r643_2, r643_3⟩, st643⟩ := N.static X0 hx hZ (y := (⟨"com/example/grantgate/grantgate/server/HeadMethodPinLaw", "nonSpace", "(I)C"⟩ : MethodName)) hown (hw _ (List.mem_of_getElem? (i := 0) rfl)) (hw _ (List.mem_of_getElem? (i := 1) rfl)) (hw _ (List.mem_of_getElem? (i := 2) rfl)) (hw _ (List.mem_of_getElem? (i := 3) rfl)) (by decide) (nonSp l Z a0 hw p1 h0 n0 O0 ) e0 (g := (mkF m 8 #[.val (.int p1), .val (.int p2), .val (.int (0 : Int32)), .unset, .unset, .unset, .unset, .unset, .unset, .unset, .unset, .unset] [(.int p1)])) rfl (by rw [hml]; rfl) (argsL := [(.int p1)]) (rest := []) rfl (lenOf pd__I_C rfl) rfl (W := 0) (by show 2 * 0 + _ ≤ _; exact Nat.le_of_eq rfl) (hb hby at_8) (by decide) (by decide) (by decide) (by decide)
    have N644 := Fr.app N0 N643q
    have e643 := e643.trans r643_0
    refine WinW.to T643 (mkF m 11 #[.val (.int p1), .val (.int p2), .val (.int (0 : Int32)), .unset, .unset, .unset, .unset, .unset, .unset, .unset, .unset, .unset] [(.int c_643)]) (fun _ k => st643 _ k) ?_
    refine WinW.to T643 (mkF m 12 #[.val (.int p1), .val (.int p2), .val (.int (0 : Int32)), .val (.int c_643), .unset, .unset, .unset, .unset, .unset, .unset, .unset, .unset] []) (fun _ k => XS.istoreN X643.here hx rfl (hb hby at_11) rfl (l' := #[.val (.int p1), .val (.int p2), .val (.int (0 : Int32)), .val (.int c_643), .unset, .unset, .unset, .unset, .unset, .unset, .unset, .unset]) rfl k) ?_
    refine WinW.to T643 (mkF m 13 #[.val (.int p1), .val (.int p2), .val (.int (0 : Int32)), .val (.int c_643), .unset, .unset, .unset, .unset, .unset, .unset, .unset, .unset] [(.int p1)]) (fun _ k => XS.iloadN X643.here hx rfl (hb hby at_12) rfl k) ?_
    refine WinW.to T643 (mkF m 15 #[.val (.int p1), .val (.int p2), .val (.int (0 : Int32)), .val (.int c_643), .unset, .unset, .unset, .unset, .unset, .unset, .unset, .unset] [(.int (8 : Int32)), (.int p1)]) (fun _ k => XS.bipush X643.here hx rfl (hb hby at_13) k) ?_
    refine WinW.to T643 (mkF m 16 #[.val (.int p1), .val (.int p2), .val (.int (0 : Int32)), .val (.int c_643), .unset, .unset, .unset, .unset, .unset, .unset, .unset, .unset] [(.int ((p1.toUInt32 >>> ((8 : Int32) &&& 31).toUInt32).toInt32))]) (fun _ k => XS.iushr X643.here hx rfl (hb hby at_15) rfl k) ?_
    obtain ⟨T645, h645, v645, L645, X645, e645, ⟨c_645, rfl, N645q, r645_0, r645_1, r645_2, r645_3⟩, st645⟩ := N.static X643 hx hZ (y := (⟨"com/example/grantgate/grantgate/server/HeadMethodPinLaw", "nonSpace", "(I)C"⟩ : MethodName)) hown (hw _ (List.mem_of_getElem? (i := 0) rfl)) (hw _ (List.mem_of_getElem? (i := 1) rfl)) (hw _ (List.mem_of_getElem? (i := 2) rfl)) (hw _ (List.mem_of_getElem? (i := 3) rfl)) (by decide) (nonSp l Z a0 hw ((p1.toUInt32 >>> ((8 : Int32) &&& 31).toUInt32).toInt32) h0 n0 O0 ) e643 (g := (mkF m 16 #[.val (.int p1), .val (.int p2), .val (.int (0 : Int32)), .val (.int c_643), .unset, .unset, .unset, .unset, .unset, .unset, .unset, .unset] [(.int ((p1.toUInt32 >>> ((8 : Int32) &&& 31).toUInt32).toInt32))])) rfl (by rw [hml]; rfl) (argsL := [(.int ((p1.toUInt32 >>> ((8 : Int32) &&& 31).toUInt32).toInt32))]) (rest := []) rfl (lenOf pd__I_C rfl) rfl (W := 0) (by show 2 * 0 + _ ≤ _; exact Nat.le_of_eq rfl) (hb hby at_16) (by decide) (by decide) (by decide) (by decide)
    have N646 := Fr.app N644 N645q
    have e645 := e645.trans r645_0
    refine WinW.to T645 (mkF m 19 #[.val (.int p1), .val (.int p2), .val (.int (0 : Int32)), .val (.int c_643), .unset, .unset, .unset, .unset, .unset, .unset, .unset, .unset] [(.int c_645)]) (fun _ k => st645 _ k) ?_
    refine WinW.to T645 (mkF m 21 #[.val (.int p1), .val (.int p2), .val (.int (0 : Int32)), .val (.int c_643), .val (.int c_645), .unset, .unset, .unset, .unset, .unset, .unset, .unset] []) (fun _ k => XS.istore X645.here hx rfl (hb hby at_19) rfl (l' := #[.val (.int p1), .val (.int p2), .val (.int (0 : Int32)), .val (.int c_643), .val (.int c_645), .unset, .unset, .unset, .unset, .unset, .unset, .unset]) rfl k) ?_
    refine WinW.to T645 (mkF m 22 #[.val (.int p1), .val (.int p2), .val (.int (0 : Int32)), .val (.int c_643), .val (.int c_645), .unset, .unset, .unset, .unset, .unset, .unset, .unset] [(.int p1)]) (fun _ k => XS.iloadN X645.here hx rfl (hb hby at_21) rfl k) ?_
    refine WinW.to T645 (mkF m 24 #[.val (.int p1), .val (.int p2), .val (.int (0 : Int32)), .val (.int c_643), .val (.int c_645), .unset, .unset, .unset, .unset, .unset, .unset, .unset] [(.int (16 : Int32)), (.int p1)]) (fun _ k => XS.bipush X645.here hx rfl (hb hby at_22) k) ?_
    refine WinW.to T645 (mkF m 25 #[.val (.int p1), .val (.int p2), .val (.int (0 : Int32)), .val (.int c_643), .val (.int c_645), .unset, .unset, .unset, .unset, .unset, .unset, .unset] [(.int ((p1.toUInt32 >>> ((16 : Int32) &&& 31).toUInt32).toInt32))]) (fun _ k => XS.iushr X645.here hx rfl (hb hby at_24) rfl k) ?_
    obtain ⟨T647, h647, v647, L647, X647, e647, ⟨c_647, rfl, N647q, r647_0, r647_1, r647_2, r647_3⟩, st647⟩ := N.static X645 hx hZ (y := (⟨"com/example/grantgate/grantgate/server/HeadMethodPinLaw", "nonSpace", "(I)C"⟩ : MethodName)) hown (hw _ (List.mem_of_getElem? (i := 0) rfl)) (hw _ (List.mem_of_getElem? (i := 1) rfl)) (hw _ (List.mem_of_getElem? (i := 2) rfl)) (hw _ (List.mem_of_getElem? (i := 3) rfl)) (by decide) (nonSp l Z a0 hw ((p1.toUInt32 >>> ((16 : Int32) &&& 31).toUInt32).toInt32) h0 n0 O0 ) e645 (g := (mkF m 25 #[.val (.int p1), .val (.int p2), .val (.int (0 : Int32)), .val (.int c_643), .val (.int c_645), .unset, .unset, .unset, .unset, .unset, .unset, .unset] [(.int ((p1.toUInt32 >>> ((16 : Int32) &&& 31).toUInt32).toInt32))])) rfl (by rw [hml]; rfl) (argsL := [(.int ((p1.toUInt32 >>> ((16 : Int32) &&& 31).toUInt32).toInt32))]) (rest := []) rfl (lenOf pd__I_C rfl) rfl (W := 0) (by show 2 * 0 + _ ≤ _; exact Nat.le_of_eq rfl) (hb hby at_25) (by decide) (by decide) (by decide) (by decide)
    have N648 := Fr.app N646 N647q
    have e647 := e647.trans r647_0
    refine WinW.to T647 (mkF m 28 #[.val (.int p1), .val (.int p2), .val (.int (0 : Int32)), .val (.int c_643), .val (.int c_645), .unset, .unset, .unset, .unset, .unset, .unset, .unset] [(.int c_647)]) (fun _ k => st647 _ k) ?_
    refine WinW.to T647 (mkF m 30 #[.val (.int p1), .val (.int p2), .val (.int (0 : Int32)), .val (.int c_643), .val (.int c_645), .val (.int c_647), .unset, .unset, .unset, .unset, .unset, .unset] []) (fun _ k => XS.istore X647.here hx rfl (hb hby at_28) rfl (l' := #[.val (.int p1), .val (.int p2), .val (.int (0 : Int32)), .val (.int c_643), .val (.int c_645), .val (.int c_647), .unset, .unset, .unset, .unset, .unset, .unset]) rfl k) ?_
    refine WinW.to T647 (mkF m 31 #[.val (.int p1), .val (.int p2), .val (.int (0 : Int32)), .val (.int c_643), .val (.int c_645), .val (.int c_647), .unset, .unset, .unset, .unset, .unset, .unset] [(.int p2)]) (fun _ k => XS.iloadN X647.here hx rfl (hb hby at_30) rfl k) ?_
    refine WinW.to T647 (mkF m 34 #[.val (.int p1), .val (.int p2), .val (.int (0 : Int32)), .val (.int c_643), .val (.int c_645), .val (.int c_647), .unset, .unset, .unset, .unset, .unset, .unset] [(.int (255 : Int32)), (.int p2)]) (fun _ k => XS.sipush X647.here hx rfl (hb hby at_31) k) ?_
    refine WinW.to T647 (mkF m 35 #[.val (.int p1), .val (.int p2), .val (.int (0 : Int32)), .val (.int c_643), .val (.int c_645), .val (.int c_647), .unset, .unset, .unset, .unset, .unset, .unset] [(.int (p2 &&& (255 : Int32)))]) (fun _ k => XS.iand X647.here hx rfl (hb hby at_34) rfl k) ?_
    refine WinW.to T647 (mkF m 36 #[.val (.int p1), .val (.int p2), .val (.int (0 : Int32)), .val (.int c_643), .val (.int c_645), .val (.int c_647), .unset, .unset, .unset, .unset, .unset, .unset] [(.int (p2 &&& (255 : Int32)))]) (fun _ k => XS.i2c X647.here hx rfl (hb hby at_35) rfl (by rw [show ((p2 &&& (255 : Int32)).toUInt32.toUInt16.toUInt32.toInt32) = (p2 &&& (255 : Int32)) from (i2c_mask p2)]; exact k)) ?_
    refine WinW.to T647 (mkF m 38 #[.val (.int p1), .val (.int p2), .val (.int (0 : Int32)), .val (.int c_643), .val (.int c_645), .val (.int c_647), .val (.int (p2 &&& (255 : Int32))), .unset, .unset, .unset, .unset, .unset] []) (fun _ k => XS.istore X647.here hx rfl (hb hby at_36) rfl (l' := #[.val (.int p1), .val (.int p2), .val (.int (0 : Int32)), .val (.int c_643), .val (.int c_645), .val (.int c_647), .val (.int (p2 &&& (255 : Int32))), .unset, .unset, .unset, .unset, .unset]) rfl k) ?_
    refine WinW.to T647 (mkF m 39 #[.val (.int p1), .val (.int p2), .val (.int (0 : Int32)), .val (.int c_643), .val (.int c_645), .val (.int c_647), .val (.int (p2 &&& (255 : Int32))), .unset, .unset, .unset, .unset, .unset] [(.int p2)]) (fun _ k => XS.iloadN X647.here hx rfl (hb hby at_38) rfl k) ?_
    refine WinW.to T647 (mkF m 41 #[.val (.int p1), .val (.int p2), .val (.int (0 : Int32)), .val (.int c_643), .val (.int c_645), .val (.int c_647), .val (.int (p2 &&& (255 : Int32))), .unset, .unset, .unset, .unset, .unset] [(.int (8 : Int32)), (.int p2)]) (fun _ k => XS.bipush X647.here hx rfl (hb hby at_39) k) ?_
    refine WinW.to T647 (mkF m 42 #[.val (.int p1), .val (.int p2), .val (.int (0 : Int32)), .val (.int c_643), .val (.int c_645), .val (.int c_647), .val (.int (p2 &&& (255 : Int32))), .unset, .unset, .unset, .unset, .unset] [(.int ((p2.toUInt32 >>> ((8 : Int32) &&& 31).toUInt32).toInt32))]) (fun _ k => XS.iushr X647.here hx rfl (hb hby at_41) rfl k) ?_
    refine WinW.to T647 (mkF m 45 #[.val (.int p1), .val (.int p2), .val (.int (0 : Int32)), .val (.int c_643), .val (.int c_645), .val (.int c_647), .val (.int (p2 &&& (255 : Int32))), .unset, .unset, .unset, .unset, .unset] [(.int (255 : Int32)), (.int ((p2.toUInt32 >>> ((8 : Int32) &&& 31).toUInt32).toInt32))]) (fun _ k => XS.sipush X647.here hx rfl (hb hby at_42) k) ?_
    refine WinW.to T647 (mkF m 46 #[.val (.int p1), .val (.int p2), .val (.int (0 : Int32)), .val (.int c_643), .val (.int c_645), .val (.int c_647), .val (.int (p2 &&& (255 : Int32))), .unset, .unset, .unset, .unset, .unset] [(.int (((p2.toUInt32 >>> ((8 : Int32) &&& 31).toUInt32).toInt32) &&& (255 : Int32)))]) (fun _ k => XS.iand X647.here hx rfl (hb hby at_45) rfl k) ?_
    refine WinW.to T647 (mkF m 47 #[.val (.int p1), .val (.int p2), .val (.int (0 : Int32)), .val (.int c_643), .val (.int c_645), .val (.int c_647), .val (.int (p2 &&& (255 : Int32))), .unset, .unset, .unset, .unset, .unset] [(.int (((p2.toUInt32 >>> ((8 : Int32) &&& 31).toUInt32).toInt32) &&& (255 : Int32)))]) (fun _ k => XS.i2c X647.here hx rfl (hb hby at_46) rfl (by rw [show ((((p2.toUInt32 >>> ((8 : Int32) &&& 31).toUInt32).toInt32) &&& (255 : Int32)).toUInt32.toUInt16.toUInt32.toInt32) = (((p2.toUInt32 >>> ((8 : Int32) &&& 31).toUInt32).toInt32) &&& (255 : Int32)) from (i2c_mask ((p2.toUInt32 >>> ((8 : Int32) &&& 31).toUInt32).toInt32))]; exact k)) ?_
    refine WinW.to T647 (mkF m 49 #[.val (.int p1), .val (.int p2), .val (.int (0 : Int32)), .val (.int c_643), .val (.int c_645), .val (.int c_647), .val (.int (p2 &&& (255 : Int32))), .val (.int (((p2.toUInt32 >>> ((8 : Int32) &&& 31).toUInt32).toInt32) &&& (255 : Int32))), .unset, .unset, .unset, .unset] []) (fun _ k => XS.istore X647.here hx rfl (hb hby at_47) rfl (l' := #[.val (.int p1), .val (.int p2), .val (.int (0 : Int32)), .val (.int c_643), .val (.int c_645), .val (.int c_647), .val (.int (p2 &&& (255 : Int32))), .val (.int (((p2.toUInt32 >>> ((8 : Int32) &&& 31).toUInt32).toInt32) &&& (255 : Int32))), .unset, .unset, .unset, .unset]) rfl k) ?_
    refine WinW.to T647 (mkF m 50 #[.val (.int p1), .val (.int p2), .val (.int (0 : Int32)), .val (.int c_643), .val (.int c_645), .val (.int c_647), .val (.int (p2 &&& (255 : Int32))), .val (.int (((p2.toUInt32 >>> ((8 : Int32) &&& 31).toUInt32).toInt32) &&& (255 : Int32))), .unset, .unset, .unset, .unset] [(.int p2)]) (fun _ k => XS.iloadN X647.here hx rfl (hb hby at_49) rfl k) ?_
    refine WinW.to T647 (mkF m 52 #[.val (.int p1), .val (.int p2), .val (.int (0 : Int32)), .val (.int c_643), .val (.int c_645), .val (.int c_647), .val (.int (p2 &&& (255 : Int32))), .val (.int (((p2.toUInt32 >>> ((8 : Int32) &&& 31).toUInt32).toInt32) &&& (255 : Int32))), .unset, .unset, .unset, .unset] [(.int (16 : Int32)), (.int p2)]) (fun _ k => XS.bipush X647.here hx rfl (hb hby at_50) k) ?_
    refine WinW.to T647 (mkF m 53 #[.val (.int p1), .val (.int p2), .val (.int (0 : Int32)), .val (.int c_643), .val (.int c_645), .val (.int c_647), .val (.int (p2 &&& (255 : Int32))), .val (.int (((p2.toUInt32 >>> ((8 : Int32) &&& 31).toUInt32).toInt32) &&& (255 : Int32))), .unset, .unset, .unset, .unset] [(.int ((p2.toUInt32 >>> ((16 : Int32) &&& 31).toUInt32).toInt32))]) (fun _ k => XS.iushr X647.here hx rfl (hb hby at_52) rfl k) ?_
    refine WinW.to T647 (mkF m 56 #[.val (.int p1), .val (.int p2), .val (.int (0 : Int32)), .val (.int c_643), .val (.int c_645), .val (.int c_647), .val (.int (p2 &&& (255 : Int32))), .val (.int (((p2.toUInt32 >>> ((8 : Int32) &&& 31).toUInt32).toInt32) &&& (255 : Int32))), .unset, .unset, .unset, .unset] [(.int (255 : Int32)), (.int ((p2.toUInt32 >>> ((16 : Int32) &&& 31).toUInt32).toInt32))]) (fun _ k => XS.sipush X647.here hx rfl (hb hby at_53) k) ?_
    refine WinW.to T647 (mkF m 57 #[.val (.int p1), .val (.int p2), .val (.int (0 : Int32)), .val (.int c_643), .val (.int c_645), .val (.int c_647), .val (.int (p2 &&& (255 : Int32))), .val (.int (((p2.toUInt32 >>> ((8 : Int32) &&& 31).toUInt32).toInt32) &&& (255 : Int32))), .unset, .unset, .unset, .unset] [(.int (((p2.toUInt32 >>> ((16 : Int32) &&& 31).toUInt32).toInt32) &&& (255 : Int32)))]) (fun _ k => XS.iand X647.here hx rfl (hb hby at_56) rfl k) ?_
    refine WinW.to T647 (mkF m 58 #[.val (.int p1), .val (.int p2), .val (.int (0 : Int32)), .val (.int c_643), .val (.int c_645), .val (.int c_647), .val (.int (p2 &&& (255 : Int32))), .val (.int (((p2.toUInt32 >>> ((8 : Int32) &&& 31).toUInt32).toInt32) &&& (255 : Int32))), .unset, .unset, .unset, .unset] [(.int (((p2.toUInt32 >>> ((16 : Int32) &&& 31).toUInt32).toInt32) &&& (255 : Int32)))]) (fun _ k => XS.i2c X647.here hx rfl (hb hby at_57) rfl (by rw [show ((((p2.toUInt32 >>> ((16 : Int32) &&& 31).toUInt32).toInt32) &&& (255 : Int32)).toUInt32.toUInt16.toUInt32.toInt32) = (((p2.toUInt32 >>> ((16 : Int32) &&& 31).toUInt32).toInt32) &&& (255 : Int32)) from (i2c_mask ((p2.toUInt32 >>> ((16 : Int32) &&& 31).toUInt32).toInt32))]; exact k)) ?_
    refine WinW.to T647 (mkF m 60 #[.val (.int p1), .val (.int p2), .val (.int (0 : Int32)), .val (.int c_643), .val (.int c_645), .val (.int c_647), .val (.int (p2 &&& (255 : Int32))), .val (.int (((p2.toUInt32 >>> ((8 : Int32) &&& 31).toUInt32).toInt32) &&& (255 : Int32))), .val (.int (((p2.toUInt32 >>> ((16 : Int32) &&& 31).toUInt32).toInt32) &&& (255 : Int32))), .unset, .unset, .unset] []) (fun _ k => XS.istore X647.here hx rfl (hb hby at_58) rfl (l' := #[.val (.int p1), .val (.int p2), .val (.int (0 : Int32)), .val (.int c_643), .val (.int c_645), .val (.int c_647), .val (.int (p2 &&& (255 : Int32))), .val (.int (((p2.toUInt32 >>> ((8 : Int32) &&& 31).toUInt32).toInt32) &&& (255 : Int32))), .val (.int (((p2.toUInt32 >>> ((16 : Int32) &&& 31).toUInt32).toInt32) &&& (255 : Int32))), .unset, .unset, .unset]) rfl k) ?_
    obtain ⟨T649, h649, X649, e649, E649, A649, D649, -, st649⟩ := newO X647 hx hZ hown (hw _ (List.mem_of_getElem? (i := 4) rfl)) (hw _ (List.mem_of_getElem? (i := 5) rfl)) (hw _ (List.mem_of_getElem? (i := 6) rfl)) e647 (g := (mkF m 60 #[.val (.int p1), .val (.int p2), .val (.int (0 : Int32)), .val (.int c_643), .val (.int c_645), .val (.int c_647), .val (.int (p2 &&& (255 : Int32))), .val (.int (((p2.toUInt32 >>> ((8 : Int32) &&& 31).toUInt32).toInt32) &&& (255 : Int32))), .val (.int (((p2.toUInt32 >>> ((16 : Int32) &&& 31).toUInt32).toInt32) &&& (255 : Int32))), .unset, .unset, .unset] [])) rfl (hb hby at_60) (by decide) (by decide)
    obtain ⟨b649, g649⟩ : ∃ z, z = h0.size := ⟨_, rfl⟩
    rw [← g649] at A649 D649 st649
    have g650 : n0 ≤ b649 := Nat.le_trans (own_le O0) (Nat.le_of_eq g649.symm)
    have z651 : h0.size ≤ b649 := (Nat.le_of_eq g649.symm)
    have O652 := Old.ext O0 E649
    have K653 : Keep h0 h649 [] := (Keep.refl h0 []).ext E649
    have c654 := CHr.ext E649 C0.1
    have C655 := CHr.trans C0 c654
    have F656 : Fld Z h649 b649 "java/lang/String" "coder" "B" (.int (0 : Int32)) := D649 (Or.inr (hw _ (List.mem_of_getElem? (i := 34) rfl))) (ty := .byte) (by decide)
    have F657 : Fld Z h649 b649 "java/lang/String" "value" "[B" .null := D649 (Or.inr (hw _ (List.mem_of_getElem? (i := 36) rfl))) (ty := (.array .byte)) (by decide)
    refine WinW.to T649 (mkF m 63 #[.val (.int p1), .val (.int p2), .val (.int (0 : Int32)), .val (.int c_643), .val (.int c_645), .val (.int c_647), .val (.int (p2 &&& (255 : Int32))), .val (.int (((p2.toUInt32 >>> ((8 : Int32) &&& 31).toUInt32).toInt32) &&& (255 : Int32))), .val (.int (((p2.toUInt32 >>> ((16 : Int32) &&& 31).toUInt32).toInt32) &&& (255 : Int32))), .unset, .unset, .unset] [(.ref b649)]) (fun _ k => st649 _ k) ?_
    refine WinW.to T649 (mkF m 64 #[.val (.int p1), .val (.int p2), .val (.int (0 : Int32)), .val (.int c_643), .val (.int c_645), .val (.int c_647), .val (.int (p2 &&& (255 : Int32))), .val (.int (((p2.toUInt32 >>> ((8 : Int32) &&& 31).toUInt32).toInt32) &&& (255 : Int32))), .val (.int (((p2.toUInt32 >>> ((16 : Int32) &&& 31).toUInt32).toInt32) &&& (255 : Int32))), .unset, .unset, .unset] [(.ref b649), (.ref b649)]) (fun _ k => XS.dup X649.here hx rfl (hb hby at_63) rfl rfl k) ?_
    refine WinW.to T649 (mkF m 65 #[.val (.int p1), .val (.int p2), .val (.int (0 : Int32)), .val (.int c_643), .val (.int c_645), .val (.int c_647), .val (.int (p2 &&& (255 : Int32))), .val (.int (((p2.toUInt32 >>> ((8 : Int32) &&& 31).toUInt32).toInt32) &&& (255 : Int32))), .val (.int (((p2.toUInt32 >>> ((16 : Int32) &&& 31).toUInt32).toInt32) &&& (255 : Int32))), .unset, .unset, .unset] [(.int (0 : Int32)), (.ref b649), (.ref b649)]) (fun _ k => XS.iloadN X649.here hx rfl (hb hby at_64) rfl k) ?_
    refine WinW.to T649 (mkF m 66 #[.val (.int p1), .val (.int p2), .val (.int (0 : Int32)), .val (.int c_643), .val (.int c_645), .val (.int c_647), .val (.int (p2 &&& (255 : Int32))), .val (.int (((p2.toUInt32 >>> ((8 : Int32) &&& 31).toUInt32).toInt32) &&& (255 : Int32))), .val (.int (((p2.toUInt32 >>> ((16 : Int32) &&& 31).toUInt32).toInt32) &&& (255 : Int32))), .unset, .unset, .unset] [(.int c_643), (.int (0 : Int32)), (.ref b649), (.ref b649)]) (fun _ k => XS.iloadN X649.here hx rfl (hb hby at_65) rfl k) ?_
    refine WinW.to T649 (mkF m 68 #[.val (.int p1), .val (.int p2), .val (.int (0 : Int32)), .val (.int c_643), .val (.int c_645), .val (.int c_647), .val (.int (p2 &&& (255 : Int32))), .val (.int (((p2.toUInt32 >>> ((8 : Int32) &&& 31).toUInt32).toInt32) &&& (255 : Int32))), .val (.int (((p2.toUInt32 >>> ((16 : Int32) &&& 31).toUInt32).toInt32) &&& (255 : Int32))), .unset, .unset, .unset] [(.int c_645), (.int c_643), (.int (0 : Int32)), (.ref b649), (.ref b649)]) (fun _ k => XS.iload X649.here hx rfl (hb hby at_66) rfl k) ?_
    refine WinW.to T649 (mkF m 70 #[.val (.int p1), .val (.int p2), .val (.int (0 : Int32)), .val (.int c_643), .val (.int c_645), .val (.int c_647), .val (.int (p2 &&& (255 : Int32))), .val (.int (((p2.toUInt32 >>> ((8 : Int32) &&& 31).toUInt32).toInt32) &&& (255 : Int32))), .val (.int (((p2.toUInt32 >>> ((16 : Int32) &&& 31).toUInt32).toInt32) &&& (255 : Int32))), .unset, .unset, .unset] [(.int c_647), (.int c_645), (.int c_643), (.int (0 : Int32)), (.ref b649), (.ref b649)]) (fun _ k => XS.iload X649.here hx rfl (hb hby at_68) rfl k) ?_
    refine WinW.to T649 (mkF m 72 #[.val (.int p1), .val (.int p2), .val (.int (0 : Int32)), .val (.int c_643), .val (.int c_645), .val (.int c_647), .val (.int (p2 &&& (255 : Int32))), .val (.int (((p2.toUInt32 >>> ((8 : Int32) &&& 31).toUInt32).toInt32) &&& (255 : Int32))), .val (.int (((p2.toUInt32 >>> ((16 : Int32) &&& 31).toUInt32).toInt32) &&& (255 : Int32))), .unset, .unset, .unset] [(.int (p2 &&& (255 : Int32))), (.int c_647), (.int c_645), (.int c_643), (.int (0 : Int32)), (.ref b649), (.ref b649)]) (fun _ k => XS.iload X649.here hx rfl (hb hby at_70) rfl k) ?_
    refine WinW.to T649 (mkF m 74 #[.val (.int p1), .val (.int p2), .val (.int (0 : Int32)), .val (.int c_643), .val (.int c_645), .val (.int c_647), .val (.int (p2 &&& (255 : Int32))), .val (.int (((p2.toUInt32 >>> ((8 : Int32) &&& 31).toUInt32).toInt32) &&& (255 : Int32))), .val (.int (((p2.toUInt32 >>> ((16 : Int32) &&& 31).toUInt32).toInt32) &&& (255 : Int32))), .unset, .unset, .unset] [(.int (((p2.toUInt32 >>> ((8 : Int32) &&& 31).toUInt32).toInt32) &&& (255 : Int32))), (.int (p2 &&& (255 : Int32))), (.int c_647), (.int c_645), (.int c_643), (.int (0 : Int32)), (.ref b649), (.ref b649)]) (fun _ k => XS.iload X649.here hx rfl (hb hby at_72) rfl k) ?_
    refine WinW.to T649 (mkF m 76 #[.val (.int p1), .val (.int p2), .val (.int (0 : Int32)), .val (.int c_643), .val (.int c_645), .val (.int c_647), .val (.int (p2 &&& (255 : Int32))), .val (.int (((p2.toUInt32 >>> ((8 : Int32) &&& 31).toUInt32).toInt32) &&& (255 : Int32))), .val (.int (((p2.toUInt32 >>> ((16 : Int32) &&& 31).toUInt32).toInt32) &&& (255 : Int32))), .unset, .unset, .unset] [(.int (((p2.toUInt32 >>> ((16 : Int32) &&& 31).toUInt32).toInt32) &&& (255 : Int32))), (.int (((p2.toUInt32 >>> ((8 : Int32) &&& 31).toUInt32).toInt32) &&& (255 : Int32))), (.int (p2 &&& (255 : Int32))), (.int c_647), (.int c_645), (.int c_643), (.int (0 : Int32)), (.ref b649), (.ref b649)]) (fun _ k => XS.iload X649.here hx rfl (hb hby at_74) rfl k) ?_
    obtain ⟨T658, h658, v658, L658, X658, e658, ⟨r_658, kk_658, rfl, N658q, r658_0, r658_1, r658_2⟩, st658⟩ := N.static X649 hx hZ (y := (⟨"com/example/grantgate/grantgate/server/HeadMethodPinLaw", "line", "(ICCCCCC)[C"⟩ : MethodName)) hown (hw _ (List.mem_of_getElem? (i := 7) rfl)) (hw _ (List.mem_of_getElem? (i := 8) rfl)) (hw _ (List.mem_of_getElem? (i := 2) rfl)) (hw _ (List.mem_of_getElem? (i := 9) rfl)) (by decide) (line0 l Z a0 hw c_643 c_645 c_647 (p2 &&& (255 : Int32)) (((p2.toUInt32 >>> ((8 : Int32) &&& 31).toUInt32).toInt32) &&& (255 : Int32)) (((p2.toUInt32 >>> ((16 : Int32) &&& 31).toUInt32).toInt32) &&& (255 : Int32)) h649 n0 O652 r643_1 r645_1 r647_1 (i2c_mask p2) (i2c_mask ((p2.toUInt32 >>> ((8 : Int32) &&& 31).toUInt32).toInt32)) (i2c_mask ((p2.toUInt32 >>> ((16 : Int32) &&& 31).toUInt32).toInt32))) e649 (g := (mkF m 76 #[.val (.int p1), .val (.int p2), .val (.int (0 : Int32)), .val (.int c_643), .val (.int c_645), .val (.int c_647), .val (.int (p2 &&& (255 : Int32))), .val (.int (((p2.toUInt32 >>> ((8 : Int32) &&& 31).toUInt32).toInt32) &&& (255 : Int32))), .val (.int (((p2.toUInt32 >>> ((16 : Int32) &&& 31).toUInt32).toInt32) &&& (255 : Int32))), .unset, .unset, .unset] [(.int (((p2.toUInt32 >>> ((16 : Int32) &&& 31).toUInt32).toInt32) &&& (255 : Int32))), (.int (((p2.toUInt32 >>> ((8 : Int32) &&& 31).toUInt32).toInt32) &&& (255 : Int32))), (.int (p2 &&& (255 : Int32))), (.int c_647), (.int c_645), (.int c_643), (.int (0 : Int32)), (.ref b649), (.ref b649)])) rfl (by rw [hml]; rfl) (argsL := [(.int (0 : Int32)), (.int c_643), (.int c_645), (.int c_647), (.int (p2 &&& (255 : Int32))), (.int (((p2.toUInt32 >>> ((8 : Int32) &&& 31).toUInt32).toInt32) &&& (255 : Int32))), (.int (((p2.toUInt32 >>> ((16 : Int32) &&& 31).toUInt32).toInt32) &&& (255 : Int32)))]) (rest := [(.ref b649), (.ref b649)]) rfl (lenOf pd__ICCCCCC__C rfl) rfl (W := 2) (by show 2 * 0 + _ ≤ _; exact Nat.le_of_eq rfl) (hb hby at_76) (by decide) (by decide) (by decide) (by decide)
    have N659 := Fr.app N648 N658q
    have ne660 : b649 ≠ r_658 := Nat.ne_of_lt (Nat.lt_of_lt_of_le A649.lt r658_1)
    have g661 : n0 ≤ r_658 := Nat.le_trans (own_le O652) r658_1
    have z662 : h0.size ≤ r_658 := Nat.le_trans K653.1 r658_1
    have O663 := Old.keep O652 r658_0 all0
    have K664 : Keep h0 h658 [] := Keep.trans K653 r658_0 all0
    have c665 := CHr.keep r658_0 sf0 C655.1
    have C666 := CHr.trans C655 c665
    refine WinW.to T658 (mkF m 79 #[.val (.int p1), .val (.int p2), .val (.int (0 : Int32)), .val (.int c_643), .val (.int c_645), .val (.int c_647), .val (.int (p2 &&& (255 : Int32))), .val (.int (((p2.toUInt32 >>> ((8 : Int32) &&& 31).toUInt32).toInt32) &&& (255 : Int32))), .val (.int (((p2.toUInt32 >>> ((16 : Int32) &&& 31).toUInt32).toInt32) &&& (255 : Int32))), .unset, .unset, .unset] [(.ref r_658), (.ref b649), (.ref b649)]) (fun _ k => st658 _ k) ?_
    have F667 : ArF Z h658 r_658 kk_658 .char 4 (fun i => ([(32 : Int32), (p2 &&& (255 : Int32)), (((p2.toUInt32 >>> ((8 : Int32) &&& 31).toUInt32).toInt32) &&& (255 : Int32)), (((p2.toUInt32 >>> ((16 : Int32) &&& 31).toUInt32).toInt32) &&& (255 : Int32))] : List Int32).getD i (0 : Int32)) := own_arf [(32 : Int32), (p2 &&& (255 : Int32)), (((p2.toUInt32 >>> ((8 : Int32) &&& 31).toUInt32).toInt32) &&& (255 : Int32)), (((p2.toUInt32 >>> ((16 : Int32) &&& 31).toUInt32).toInt32) &&& (255 : Int32))] r658_2 rfl
    have F668 : Exa Z h658 b649 "java/lang/String" := (A649.keep r658_0)
    have F669 : Fld Z h658 b649 "java/lang/String" "value" "[B" .null := (F657.keep r658_0 nin0)
    have F670 : Fld Z h658 b649 "java/lang/String" "coder" "B" (.int (0 : Int32)) := (F656.keep r658_0 nin0)
    obtain ⟨T671, h671, v671, L671, k671, X671, e671, hS671, hk671, hZ671, hown671, ⟨t_671, kb_671, rfl, N671q, r671_0, r671_1, r671_2, r671_3⟩, c671, st671⟩ := W.special X658 hS0 (Nat.zero_le _) hx hZ (y := (⟨"java/lang/String", "<init>", "([C)V"⟩ : MethodName)) rfl hown (hw _ (List.mem_of_getElem? (i := 11) rfl)) (hw _ (List.mem_of_getElem? (i := 12) rfl)) (hw _ (List.mem_of_getElem? (i := 6) rfl)) (hw _ (List.mem_of_getElem? (i := 13) rfl)) (by decide) (ctor1 l Z a0 hw b649 r_658 kk_658 4 (fun i => ([(32 : Int32), (p2 &&& (255 : Int32)), (((p2.toUInt32 >>> ((8 : Int32) &&& 31).toUInt32).toInt32) &&& (255 : Int32)), (((p2.toUInt32 >>> ((16 : Int32) &&& 31).toUInt32).toInt32) &&& (255 : Int32))] : List Int32).getD i (0 : Int32)) cs h658 n0 O663 F668 F669 F670 F667 ((fun i hi => by
      match i, hi with
      | 0, _ => exact (show ¬ (255 : Int32) < (32 : Int32) from by decide)
      | 1, _ => exact (own_255 p2)
      | 2, _ => exact (own_255 ((p2.toUInt32 >>> ((8 : Int32) &&& 31).toUInt32).toInt32))
      | 3, _ => exact (own_255 ((p2.toUInt32 >>> ((16 : Int32) &&& 31).toUInt32).toInt32)))) (by decide) g650 S_CS hcs) (own_EW hw) C666.1 e658 (g := (mkF m 79 #[.val (.int p1), .val (.int p2), .val (.int (0 : Int32)), .val (.int c_643), .val (.int c_645), .val (.int c_647), .val (.int (p2 &&& (255 : Int32))), .val (.int (((p2.toUInt32 >>> ((8 : Int32) &&& 31).toUInt32).toInt32) &&& (255 : Int32))), .val (.int (((p2.toUInt32 >>> ((16 : Int32) &&& 31).toUInt32).toInt32) &&& (255 : Int32))), .unset, .unset, .unset] [(.ref r_658), (.ref b649), (.ref b649)])) rfl (by rw [hml]; rfl) (a := b649) (argsL := [(.ref r_658)]) (rest := [(.ref b649)]) rfl (lenOf pd___C_V rfl) rfl (W := 1) (by show 2 * 0 + _ ≤ _; exact Nat.le_of_eq rfl) (hb hby at_79) (by decide) (by decide) (by decide) (by decide)
    have N672 := Fr.app N659 N671q
    have O673 := Old.keep O663 r671_0 (allS g650 all0)
    have K674 : Keep h0 h671 [] := Keep.trans K664 r671_0 (allS (Or.inr z651) all0)
    have c675 := c671
    have C676 := CHr.trans C666 c675
    refine WinW.to T671 (mkF m 82 #[.val (.int p1), .val (.int p2), .val (.int (0 : Int32)), .val (.int c_643), .val (.int c_645), .val (.int c_647), .val (.int (p2 &&& (255 : Int32))), .val (.int (((p2.toUInt32 >>> ((8 : Int32) &&& 31).toUInt32).toInt32) &&& (255 : Int32))), .val (.int (((p2.toUInt32 >>> ((16 : Int32) &&& 31).toUInt32).toInt32) &&& (255 : Int32))), .unset, .unset, .unset] [(.ref b649)]) (fun _ k => st671 _ k) ?_
    refine WinW.to T671 (mkF m 84 #[.val (.int p1), .val (.int p2), .val (.int (0 : Int32)), .val (.int c_643), .val (.int c_645), .val (.int c_647), .val (.int (p2 &&& (255 : Int32))), .val (.int (((p2.toUInt32 >>> ((8 : Int32) &&& 31).toUInt32).toInt32) &&& (255 : Int32))), .val (.int (((p2.toUInt32 >>> ((16 : Int32) &&& 31).toUInt32).toInt32) &&& (255 : Int32))), .val (.ref b649), .unset, .unset] []) (fun _ k => XS.astore X671.here hx rfl (hb hby at_82) rfl rfl (l' := #[.val (.int p1), .val (.int p2), .val (.int (0 : Int32)), .val (.int c_643), .val (.int c_645), .val (.int c_647), .val (.int (p2 &&& (255 : Int32))), .val (.int (((p2.toUInt32 >>> ((8 : Int32) &&& 31).toUInt32).toInt32) &&& (255 : Int32))), .val (.int (((p2.toUInt32 >>> ((16 : Int32) &&& 31).toUInt32).toInt32) &&& (255 : Int32))), .val (.ref b649), .unset, .unset]) rfl k) ?_
    obtain ⟨T677, h677, X677, e677, E677, A677, D677, -, st677⟩ := newO X671 hx hZ671 hown671 (hw _ (List.mem_of_getElem? (i := 4) rfl)) (hw _ (List.mem_of_getElem? (i := 5) rfl)) (hw _ (List.mem_of_getElem? (i := 6) rfl)) e671 (g := (mkF m 84 #[.val (.int p1), .val (.int p2), .val (.int (0 : Int32)), .val (.int c_643), .val (.int c_645), .val (.int c_647), .val (.int (p2 &&& (255 : Int32))), .val (.int (((p2.toUInt32 >>> ((8 : Int32) &&& 31).toUInt32).toInt32) &&& (255 : Int32))), .val (.int (((p2.toUInt32 >>> ((16 : Int32) &&& 31).toUInt32).toInt32) &&& (255 : Int32))), .val (.ref b649), .unset, .unset] [])) rfl (hb hby at_84) (by decide) (by decide)
    obtain ⟨b677, g677⟩ : ∃ z, z = h671.size := ⟨_, rfl⟩
    rw [← g677] at A677 D677 st677
    have F678 : Exa Z h671 b649 "java/lang/String" := (F668.keep r671_0)
    have ne679 : b649 ≠ b677 := Nat.ne_of_lt (Nat.lt_of_lt_of_le F678.lt (Nat.le_of_eq g677.symm))
    have F680 : Arv Z h671 r_658 kk_658 .char (4 : Int32) [(.int (32 : Int32)), (.int (p2 &&& (255 : Int32))), (.int (((p2.toUInt32 >>> ((8 : Int32) &&& 31).toUInt32).toInt32) &&& (255 : Int32))), (.int (((p2.toUInt32 >>> ((16 : Int32) &&& 31).toUInt32).toInt32) &&& (255 : Int32)))] (.int (0 : Int32)) := (r658_2.keep r671_0 (ninS (Ne.symm ne660) nin0))
    have ne681 : r_658 ≠ b677 := Nat.ne_of_lt (Nat.lt_of_lt_of_le F680.lt (Nat.le_of_eq g677.symm))
    have ne682 : t_671 ≠ b677 := Nat.ne_of_lt (Nat.lt_of_lt_of_le r671_3.lt (Nat.le_of_eq g677.symm))
    have g683 : n0 ≤ b677 := Nat.le_trans (own_le O673) (Nat.le_of_eq g677.symm)
    have z684 : h0.size ≤ b677 := Nat.le_trans K674.1 (Nat.le_of_eq g677.symm)
    have O685 := Old.ext O673 E677
    have hk686 := Nat.le_trans hk671 E677.1
    have K687 : Keep h0 h677 [] := K674.ext E677
    have c688 := CHr.ext E677 C676.1
    have C689 := CHr.trans C676 c688
    have F690 : Fld Z h677 b677 "java/lang/String" "coder" "B" (.int (0 : Int32)) := D677 (Or.inr (hw _ (List.mem_of_getElem? (i := 34) rfl))) (ty := .byte) (by decide)
    have F691 : Fld Z h677 b677 "java/lang/String" "value" "[B" .null := D677 (Or.inr (hw _ (List.mem_of_getElem? (i := 36) rfl))) (ty := (.array .byte)) (by decide)
    refine WinW.to T677 (mkF m 87 #[.val (.int p1), .val (.int p2), .val (.int (0 : Int32)), .val (.int c_643), .val (.int c_645), .val (.int c_647), .val (.int (p2 &&& (255 : Int32))), .val (.int (((p2.toUInt32 >>> ((8 : Int32) &&& 31).toUInt32).toInt32) &&& (255 : Int32))), .val (.int (((p2.toUInt32 >>> ((16 : Int32) &&& 31).toUInt32).toInt32) &&& (255 : Int32))), .val (.ref b649), .unset, .unset] [(.ref b677)]) (fun _ k => st677 _ k) ?_
    refine WinW.to T677 (mkF m 88 #[.val (.int p1), .val (.int p2), .val (.int (0 : Int32)), .val (.int c_643), .val (.int c_645), .val (.int c_647), .val (.int (p2 &&& (255 : Int32))), .val (.int (((p2.toUInt32 >>> ((8 : Int32) &&& 31).toUInt32).toInt32) &&& (255 : Int32))), .val (.int (((p2.toUInt32 >>> ((16 : Int32) &&& 31).toUInt32).toInt32) &&& (255 : Int32))), .val (.ref b649), .unset, .unset] [(.ref b677), (.ref b677)]) (fun _ k => XS.dup X677.here hx rfl (hb hby at_87) rfl rfl k) ?_
    refine WinW.to T677 (mkF m 89 #[.val (.int p1), .val (.int p2), .val (.int (0 : Int32)), .val (.int c_643), .val (.int c_645), .val (.int c_647), .val (.int (p2 &&& (255 : Int32))), .val (.int (((p2.toUInt32 >>> ((8 : Int32) &&& 31).toUInt32).toInt32) &&& (255 : Int32))), .val (.int (((p2.toUInt32 >>> ((16 : Int32) &&& 31).toUInt32).toInt32) &&& (255 : Int32))), .val (.ref b649), .unset, .unset] [(.int (0 : Int32)), (.ref b677), (.ref b677)]) (fun _ k => XS.iloadN X677.here hx rfl (hb hby at_88) rfl k) ?_
    refine WinW.to T677 (mkF m 90 #[.val (.int p1), .val (.int p2), .val (.int (0 : Int32)), .val (.int c_643), .val (.int c_645), .val (.int c_647), .val (.int (p2 &&& (255 : Int32))), .val (.int (((p2.toUInt32 >>> ((8 : Int32) &&& 31).toUInt32).toInt32) &&& (255 : Int32))), .val (.int (((p2.toUInt32 >>> ((16 : Int32) &&& 31).toUInt32).toInt32) &&& (255 : Int32))), .val (.ref b649), .unset, .unset] [(.int c_643), (.int (0 : Int32)), (.ref b677), (.ref b677)]) (fun _ k => XS.iloadN X677.here hx rfl (hb hby at_89) rfl k) ?_
    refine WinW.to T677 (mkF m 92 #[.val (.int p1), .val (.int p2), .val (.int (0 : Int32)), .val (.int c_643), .val (.int c_645), .val (.int c_647), .val (.int (p2 &&& (255 : Int32))), .val (.int (((p2.toUInt32 >>> ((8 : Int32) &&& 31).toUInt32).toInt32) &&& (255 : Int32))), .val (.int (((p2.toUInt32 >>> ((16 : Int32) &&& 31).toUInt32).toInt32) &&& (255 : Int32))), .val (.ref b649), .unset, .unset] [(.int c_645), (.int c_643), (.int (0 : Int32)), (.ref b677), (.ref b677)]) (fun _ k => XS.iload X677.here hx rfl (hb hby at_90) rfl k) ?_
    refine WinW.to T677 (mkF m 94 #[.val (.int p1), .val (.int p2), .val (.int (0 : Int32)), .val (.int c_643), .val (.int c_645), .val (.int c_647), .val (.int (p2 &&& (255 : Int32))), .val (.int (((p2.toUInt32 >>> ((8 : Int32) &&& 31).toUInt32).toInt32) &&& (255 : Int32))), .val (.int (((p2.toUInt32 >>> ((16 : Int32) &&& 31).toUInt32).toInt32) &&& (255 : Int32))), .val (.ref b649), .unset, .unset] [(.int c_647), (.int c_645), (.int c_643), (.int (0 : Int32)), (.ref b677), (.ref b677)]) (fun _ k => XS.iload X677.here hx rfl (hb hby at_92) rfl k) ?_
    obtain ⟨T692, h692, v692, L692, X692, e692, ⟨r_692, kk_692, rfl, N692q, r692_0, r692_1, r692_2⟩, st692⟩ := N.static X677 hx hZ671 (y := (⟨"com/example/grantgate/grantgate/server/HeadMethodPinLaw", "prefix", "(ICCC)[C"⟩ : MethodName)) hown671 (hw _ (List.mem_of_getElem? (i := 37) rfl)) (hw _ (List.mem_of_getElem? (i := 38) rfl)) (hw _ (List.mem_of_getElem? (i := 2) rfl)) (hw _ (List.mem_of_getElem? (i := 39) rfl)) (by decide) (pref0 l Z a0 hw c_643 c_645 c_647 h677 n0 O685 r643_1 r645_1 r647_1) e677 (g := (mkF m 94 #[.val (.int p1), .val (.int p2), .val (.int (0 : Int32)), .val (.int c_643), .val (.int c_645), .val (.int c_647), .val (.int (p2 &&& (255 : Int32))), .val (.int (((p2.toUInt32 >>> ((8 : Int32) &&& 31).toUInt32).toInt32) &&& (255 : Int32))), .val (.int (((p2.toUInt32 >>> ((16 : Int32) &&& 31).toUInt32).toInt32) &&& (255 : Int32))), .val (.ref b649), .unset, .unset] [(.int c_647), (.int c_645), (.int c_643), (.int (0 : Int32)), (.ref b677), (.ref b677)])) rfl (by rw [hml]; rfl) (argsL := [(.int (0 : Int32)), (.int c_643), (.int c_645), (.int c_647)]) (rest := [(.ref b677), (.ref b677)]) rfl (lenOf pd__ICCC__C rfl) rfl (W := 2) (by show 2 * 0 + _ ≤ _; exact Nat.le_of_eq rfl) (hb hby at_94) (by decide) (by decide) (by decide) (by decide)
    have N693 := Fr.app N672 N692q
    have F694 : Exa Z h677 b649 "java/lang/String" := (Exa.ext E677 F678)
    have ne695 : b649 ≠ r_692 := Nat.ne_of_lt (Nat.lt_of_lt_of_le F694.lt r692_1)
    have F696 : Arv Z h677 r_658 kk_658 .char (4 : Int32) [(.int (32 : Int32)), (.int (p2 &&& (255 : Int32))), (.int (((p2.toUInt32 >>> ((8 : Int32) &&& 31).toUInt32).toInt32) &&& (255 : Int32))), (.int (((p2.toUInt32 >>> ((16 : Int32) &&& 31).toUInt32).toInt32) &&& (255 : Int32)))] (.int (0 : Int32)) := (F680.ext E677)
    have ne697 : r_658 ≠ r_692 := Nat.ne_of_lt (Nat.lt_of_lt_of_le F696.lt r692_1)
    have F698 : ArF Z h677 t_671 kb_671 .byte 4 (fun i => ((fun i => ([(32 : Int32), (p2 &&& (255 : Int32)), (((p2.toUInt32 >>> ((8 : Int32) &&& 31).toUInt32).toInt32) &&& (255 : Int32)), (((p2.toUInt32 >>> ((16 : Int32) &&& 31).toUInt32).toInt32) &&& (255 : Int32))] : List Int32).getD i (0 : Int32)) i).toInt8.toInt32) := (r671_3.ext E677)
    have ne699 : t_671 ≠ r_692 := Nat.ne_of_lt (Nat.lt_of_lt_of_le F698.lt r692_1)
    have ne700 : b677 ≠ r_692 := Nat.ne_of_lt (Nat.lt_of_lt_of_le A677.lt r692_1)
    have g701 : n0 ≤ r_692 := Nat.le_trans (own_le O685) r692_1
    have z702 : h0.size ≤ r_692 := Nat.le_trans K687.1 r692_1
    have O703 := Old.keep O685 r692_0 all0
    have hk704 := Nat.le_trans hk686 r692_0.1
    have K705 : Keep h0 h692 [] := Keep.trans K687 r692_0 all0
    have c706 := CHr.keep r692_0 sf0 C689.1
    have C707 := CHr.trans C689 c706
    refine WinW.to T692 (mkF m 97 #[.val (.int p1), .val (.int p2), .val (.int (0 : Int32)), .val (.int c_643), .val (.int c_645), .val (.int c_647), .val (.int (p2 &&& (255 : Int32))), .val (.int (((p2.toUInt32 >>> ((8 : Int32) &&& 31).toUInt32).toInt32) &&& (255 : Int32))), .val (.int (((p2.toUInt32 >>> ((16 : Int32) &&& 31).toUInt32).toInt32) &&& (255 : Int32))), .val (.ref b649), .unset, .unset] [(.ref r_692), (.ref b677), (.ref b677)]) (fun _ k => st692 _ k) ?_
    have F708 : ArF Z h692 r_692 kk_692 .char 0 (fun i => ([] : List Int32).getD i (0 : Int32)) := own_arf [] r692_2 rfl
    have F709 : Exa Z h692 b677 "java/lang/String" := (A677.keep r692_0)
    have F710 : Fld Z h692 b677 "java/lang/String" "value" "[B" .null := (F691.keep r692_0 nin0)
    have F711 : Fld Z h692 b677 "java/lang/String" "coder" "B" (.int (0 : Int32)) := (F690.keep r692_0 nin0)
    obtain ⟨T712, h712, v712, L712, k712, X712, e712, hS712, hk712, hZ712, hown712, ⟨t_712, kb_712, rfl, N712q, r712_0, r712_1, r712_2, r712_3⟩, c712, st712⟩ := W.special X692 hS671 hk704 hx hZ671 (y := (⟨"java/lang/String", "<init>", "([C)V"⟩ : MethodName)) rfl hown671 (hw _ (List.mem_of_getElem? (i := 11) rfl)) (hw _ (List.mem_of_getElem? (i := 12) rfl)) (hw _ (List.mem_of_getElem? (i := 6) rfl)) (hw _ (List.mem_of_getElem? (i := 13) rfl)) (by decide) (ctor1 l Z a0 hw b677 r_692 kk_692 0 (fun i => ([] : List Int32).getD i (0 : Int32)) cs h692 n0 O703 F709 F710 F711 F708 (fun i hi => absurd hi (Nat.not_lt_zero _)) (by decide) g683 S_CS hcs) (own_EW hw) C707.1 e692 (g := (mkF m 97 #[.val (.int p1), .val (.int p2), .val (.int (0 : Int32)), .val (.int c_643), .val (.int c_645), .val (.int c_647), .val (.int (p2 &&& (255 : Int32))), .val (.int (((p2.toUInt32 >>> ((8 : Int32) &&& 31).toUInt32).toInt32) &&& (255 : Int32))), .val (.int (((p2.toUInt32 >>> ((16 : Int32) &&& 31).toUInt32).toInt32) &&& (255 : Int32))), .val (.ref b649), .unset, .unset] [(.ref r_692), (.ref b677), (.ref b677)])) rfl (by rw [hml]; rfl) (a := b677) (argsL := [(.ref r_692)]) (rest := [(.ref b677)]) rfl (lenOf pd___C_V rfl) rfl (W := 1) (by show 2 * 0 + _ ≤ _; exact Nat.le_of_eq rfl) (hb hby at_97) (by decide) (by decide) (by decide) (by decide)
    have N713 := Fr.app N693 N712q
    have O714 := Old.keep O703 r712_0 (allS g683 all0)
    have K715 : Keep h0 h712 [] := Keep.trans K705 r712_0 (allS (Or.inr z684) all0)
    have c716 := c712
    have C717 := CHr.trans C707 c716
    refine WinW.to T712 (mkF m 100 #[.val (.int p1), .val (.int p2), .val (.int (0 : Int32)), .val (.int c_643), .val (.int c_645), .val (.int c_647), .val (.int (p2 &&& (255 : Int32))), .val (.int (((p2.toUInt32 >>> ((8 : Int32) &&& 31).toUInt32).toInt32) &&& (255 : Int32))), .val (.int (((p2.toUInt32 >>> ((16 : Int32) &&& 31).toUInt32).toInt32) &&& (255 : Int32))), .val (.ref b649), .unset, .unset] [(.ref b677)]) (fun _ k => st712 _ k) ?_
    refine WinW.to T712 (mkF m 102 #[.val (.int p1), .val (.int p2), .val (.int (0 : Int32)), .val (.int c_643), .val (.int c_645), .val (.int c_647), .val (.int (p2 &&& (255 : Int32))), .val (.int (((p2.toUInt32 >>> ((8 : Int32) &&& 31).toUInt32).toInt32) &&& (255 : Int32))), .val (.int (((p2.toUInt32 >>> ((16 : Int32) &&& 31).toUInt32).toInt32) &&& (255 : Int32))), .val (.ref b649), .val (.ref b677), .unset] []) (fun _ k => XS.astore X712.here hx rfl (hb hby at_100) rfl rfl (l' := #[.val (.int p1), .val (.int p2), .val (.int (0 : Int32)), .val (.int c_643), .val (.int c_645), .val (.int c_647), .val (.int (p2 &&& (255 : Int32))), .val (.int (((p2.toUInt32 >>> ((8 : Int32) &&& 31).toUInt32).toInt32) &&& (255 : Int32))), .val (.int (((p2.toUInt32 >>> ((16 : Int32) &&& 31).toUInt32).toInt32) &&& (255 : Int32))), .val (.ref b649), .val (.ref b677), .unset]) rfl k) ?_
    obtain ⟨T718, h718, X718, e718, E718, A718, D718, -, st718⟩ := newO X712 hx hZ712 hown712 (hw _ (List.mem_of_getElem? (i := 43) rfl)) (hw _ (List.mem_of_getElem? (i := 44) rfl)) (hw _ (List.mem_of_getElem? (i := 45) rfl)) e712 (g := (mkF m 102 #[.val (.int p1), .val (.int p2), .val (.int (0 : Int32)), .val (.int c_643), .val (.int c_645), .val (.int c_647), .val (.int (p2 &&& (255 : Int32))), .val (.int (((p2.toUInt32 >>> ((8 : Int32) &&& 31).toUInt32).toInt32) &&& (255 : Int32))), .val (.int (((p2.toUInt32 >>> ((16 : Int32) &&& 31).toUInt32).toInt32) &&& (255 : Int32))), .val (.ref b649), .val (.ref b677), .unset] [])) rfl (hb hby at_102) (by decide) (by decide)
    obtain ⟨b718, g718⟩ : ∃ z, z = h712.size := ⟨_, rfl⟩
    rw [← g718] at A718 D718 st718
    have F719 : Exa Z h712 b649 "java/lang/String" := ((F694.keep r692_0).keep r712_0)
    have ne720 : b649 ≠ b718 := Nat.ne_of_lt (Nat.lt_of_lt_of_le F719.lt (Nat.le_of_eq g718.symm))
    have F721 : Arv Z h712 r_658 kk_658 .char (4 : Int32) [(.int (32 : Int32)), (.int (p2 &&& (255 : Int32))), (.int (((p2.toUInt32 >>> ((8 : Int32) &&& 31).toUInt32).toInt32) &&& (255 : Int32))), (.int (((p2.toUInt32 >>> ((16 : Int32) &&& 31).toUInt32).toInt32) &&& (255 : Int32)))] (.int (0 : Int32)) := ((F696.keep r692_0 nin0).keep r712_0 (ninS ne681 nin0))
    have ne722 : r_658 ≠ b718 := Nat.ne_of_lt (Nat.lt_of_lt_of_le F721.lt (Nat.le_of_eq g718.symm))
    have F723 : ArF Z h712 t_671 kb_671 .byte 4 (fun i => ((fun i => ([(32 : Int32), (p2 &&& (255 : Int32)), (((p2.toUInt32 >>> ((8 : Int32) &&& 31).toUInt32).toInt32) &&& (255 : Int32)), (((p2.toUInt32 >>> ((16 : Int32) &&& 31).toUInt32).toInt32) &&& (255 : Int32))] : List Int32).getD i (0 : Int32)) i).toInt8.toInt32) := ((F698.keep r692_0 nin0).keep r712_0 (ninS ne682 nin0))
    have ne724 : t_671 ≠ b718 := Nat.ne_of_lt (Nat.lt_of_lt_of_le F723.lt (Nat.le_of_eq g718.symm))
    have F725 : Exa Z h712 b677 "java/lang/String" := (F709.keep r712_0)
    have ne726 : b677 ≠ b718 := Nat.ne_of_lt (Nat.lt_of_lt_of_le F725.lt (Nat.le_of_eq g718.symm))
    have F727 : Arv Z h712 r_692 kk_692 .char (0 : Int32) [] (.int (0 : Int32)) := (r692_2.keep r712_0 (ninS (Ne.symm ne700) nin0))
    have ne728 : r_692 ≠ b718 := Nat.ne_of_lt (Nat.lt_of_lt_of_le F727.lt (Nat.le_of_eq g718.symm))
    have ne729 : t_712 ≠ b718 := Nat.ne_of_lt (Nat.lt_of_lt_of_le r712_3.lt (Nat.le_of_eq g718.symm))
    have g730 : n0 ≤ b718 := Nat.le_trans (own_le O714) (Nat.le_of_eq g718.symm)
    have z731 : h0.size ≤ b718 := Nat.le_trans K715.1 (Nat.le_of_eq g718.symm)
    have O732 := Old.ext O714 E718
    have hk733 := Nat.le_trans hk712 E718.1
    have K734 : Keep h0 h718 [] := K715.ext E718
    have c735 := CHr.ext E718 C717.1
    have C736 := CHr.trans C717 c735
    have F737 : Fld Z h718 b718 "com/example/grantgate/grantgate/server/MessageReader$Head" "startLine" "Ljava/lang/String;" .null := D718 (Or.inr (hw _ (List.mem_of_getElem? (i := 80) rfl))) (ty := (.object "java/lang/String")) (by decide)
    have F738 : Fld Z h718 b718 "com/example/grantgate/grantgate/server/MessageReader$Head" "fields" "Ljava/util/List;" .null := D718 (Or.inr (hw _ (List.mem_of_getElem? (i := 82) rfl))) (ty := (.object "java/util/List")) (by decide)
    refine WinW.to T718 (mkF m 105 #[.val (.int p1), .val (.int p2), .val (.int (0 : Int32)), .val (.int c_643), .val (.int c_645), .val (.int c_647), .val (.int (p2 &&& (255 : Int32))), .val (.int (((p2.toUInt32 >>> ((8 : Int32) &&& 31).toUInt32).toInt32) &&& (255 : Int32))), .val (.int (((p2.toUInt32 >>> ((16 : Int32) &&& 31).toUInt32).toInt32) &&& (255 : Int32))), .val (.ref b649), .val (.ref b677), .unset] [(.ref b718)]) (fun _ k => st718 _ k) ?_
    refine WinW.to T718 (mkF m 106 #[.val (.int p1), .val (.int p2), .val (.int (0 : Int32)), .val (.int c_643), .val (.int c_645), .val (.int c_647), .val (.int (p2 &&& (255 : Int32))), .val (.int (((p2.toUInt32 >>> ((8 : Int32) &&& 31).toUInt32).toInt32) &&& (255 : Int32))), .val (.int (((p2.toUInt32 >>> ((16 : Int32) &&& 31).toUInt32).toInt32) &&& (255 : Int32))), .val (.ref b649), .val (.ref b677), .unset] [(.ref b718), (.ref b718)]) (fun _ k => XS.dup X718.here hx rfl (hb hby at_105) rfl rfl k) ?_
    refine WinW.to T718 (mkF m 108 #[.val (.int p1), .val (.int p2), .val (.int (0 : Int32)), .val (.int c_643), .val (.int c_645), .val (.int c_647), .val (.int (p2 &&& (255 : Int32))), .val (.int (((p2.toUInt32 >>> ((8 : Int32) &&& 31).toUInt32).toInt32) &&& (255 : Int32))), .val (.int (((p2.toUInt32 >>> ((16 : Int32) &&& 31).toUInt32).toInt32) &&& (255 : Int32))), .val (.ref b649), .val (.ref b677), .unset] [(.ref b649), (.ref b718), (.ref b718)]) (fun _ k => XS.aload X718.here hx rfl (hb hby at_106) rfl rfl k) ?_
    obtain ⟨T739, h739, X739, e739, E739, A739, D739, -, st739⟩ := newO X718 hx hZ712 hown712 (hw _ (List.mem_of_getElem? (i := 46) rfl)) (hw _ (List.mem_of_getElem? (i := 47) rfl)) (hw _ (List.mem_of_getElem? (i := 48) rfl)) e718 (g := (mkF m 108 #[.val (.int p1), .val (.int p2), .val (.int (0 : Int32)), .val (.int c_643), .val (.int c_645), .val (.int c_647), .val (.int (p2 &&& (255 : Int32))), .val (.int (((p2.toUInt32 >>> ((8 : Int32) &&& 31).toUInt32).toInt32) &&& (255 : Int32))), .val (.int (((p2.toUInt32 >>> ((16 : Int32) &&& 31).toUInt32).toInt32) &&& (255 : Int32))), .val (.ref b649), .val (.ref b677), .unset] [(.ref b649), (.ref b718), (.ref b718)])) rfl (hb hby at_108) (by decide) (by decide)
    obtain ⟨b739, g739⟩ : ∃ z, z = h718.size := ⟨_, rfl⟩
    rw [← g739] at A739 D739 st739
    have F740 : Exa Z h718 b649 "java/lang/String" := (Exa.ext E718 F719)
    have ne741 : b649 ≠ b739 := Nat.ne_of_lt (Nat.lt_of_lt_of_le F740.lt (Nat.le_of_eq g739.symm))
    have F742 : Arv Z h718 r_658 kk_658 .char (4 : Int32) [(.int (32 : Int32)), (.int (p2 &&& (255 : Int32))), (.int (((p2.toUInt32 >>> ((8 : Int32) &&& 31).toUInt32).toInt32) &&& (255 : Int32))), (.int (((p2.toUInt32 >>> ((16 : Int32) &&& 31).toUInt32).toInt32) &&& (255 : Int32)))] (.int (0 : Int32)) := (F721.ext E718)
    have ne743 : r_658 ≠ b739 := Nat.ne_of_lt (Nat.lt_of_lt_of_le F742.lt (Nat.le_of_eq g739.symm))
    have F744 : ArF Z h718 t_671 kb_671 .byte 4 (fun i => ((fun i => ([(32 : Int32), (p2 &&& (255 : Int32)), (((p2.toUInt32 >>> ((8 : Int32) &&& 31).toUInt32).toInt32) &&& (255 : Int32)), (((p2.toUInt32 >>> ((16 : Int32) &&& 31).toUInt32).toInt32) &&& (255 : Int32))] : List Int32).getD i (0 : Int32)) i).toInt8.toInt32) := (F723.ext E718)
    have ne745 : t_671 ≠ b739 := Nat.ne_of_lt (Nat.lt_of_lt_of_le F744.lt (Nat.le_of_eq g739.symm))
    have F746 : Exa Z h718 b677 "java/lang/String" := (Exa.ext E718 F725)
    have ne747 : b677 ≠ b739 := Nat.ne_of_lt (Nat.lt_of_lt_of_le F746.lt (Nat.le_of_eq g739.symm))
    have F748 : Arv Z h718 r_692 kk_692 .char (0 : Int32) [] (.int (0 : Int32)) := (F727.ext E718)
    have ne749 : r_692 ≠ b739 := Nat.ne_of_lt (Nat.lt_of_lt_of_le F748.lt (Nat.le_of_eq g739.symm))
    have F750 : ArF Z h718 t_712 kb_712 .byte 0 (fun i => ((fun i => ([] : List Int32).getD i (0 : Int32)) i).toInt8.toInt32) := (r712_3.ext E718)
    have ne751 : t_712 ≠ b739 := Nat.ne_of_lt (Nat.lt_of_lt_of_le F750.lt (Nat.le_of_eq g739.symm))
    have ne752 : b718 ≠ b739 := Nat.ne_of_lt (Nat.lt_of_lt_of_le A718.lt (Nat.le_of_eq g739.symm))
    have g753 : n0 ≤ b739 := Nat.le_trans (own_le O732) (Nat.le_of_eq g739.symm)
    have z754 : h0.size ≤ b739 := Nat.le_trans K734.1 (Nat.le_of_eq g739.symm)
    have O755 := Old.ext O732 E739
    have hk756 := Nat.le_trans hk733 E739.1
    have K757 : Keep h0 h739 [] := K734.ext E739
    have c758 := CHr.ext E739 C736.1
    have C759 := CHr.trans C736 c758
    have F760 : Fld Z h739 b739 "java/util/AbstractList" "modCount" "I" (.int (0 : Int32)) := D739 (Or.inl (hw _ (List.mem_of_getElem? (i := 66) rfl))) (ty := .int) (by decide)
    have F761 : Fld Z h739 b739 "java/util/ArrayList" "elementData" "[Ljava/lang/Object;" .null := D739 (Or.inl (hw _ (List.mem_of_getElem? (i := 69) rfl))) (ty := (.array (.object "java/lang/Object"))) (by decide)
    refine WinW.to T739 (mkF m 111 #[.val (.int p1), .val (.int p2), .val (.int (0 : Int32)), .val (.int c_643), .val (.int c_645), .val (.int c_647), .val (.int (p2 &&& (255 : Int32))), .val (.int (((p2.toUInt32 >>> ((8 : Int32) &&& 31).toUInt32).toInt32) &&& (255 : Int32))), .val (.int (((p2.toUInt32 >>> ((16 : Int32) &&& 31).toUInt32).toInt32) &&& (255 : Int32))), .val (.ref b649), .val (.ref b677), .unset] [(.ref b739), (.ref b649), (.ref b718), (.ref b718)]) (fun _ k => st739 _ k) ?_
    refine WinW.to T739 (mkF m 112 #[.val (.int p1), .val (.int p2), .val (.int (0 : Int32)), .val (.int c_643), .val (.int c_645), .val (.int c_647), .val (.int (p2 &&& (255 : Int32))), .val (.int (((p2.toUInt32 >>> ((8 : Int32) &&& 31).toUInt32).toInt32) &&& (255 : Int32))), .val (.int (((p2.toUInt32 >>> ((16 : Int32) &&& 31).toUInt32).toInt32) &&& (255 : Int32))), .val (.ref b649), .val (.ref b677), .unset] [(.ref b739), (.ref b739), (.ref b649), (.ref b718), (.ref b718)]) (fun _ k => XS.dup X739.here hx rfl (hb hby at_111) rfl rfl k) ?_
    obtain ⟨T762, h762, v762, L762, X762, e762, ⟨rfl, N762q, r762_0⟩, st762⟩ := N.special X739 hx hZ712 (y := (⟨"java/util/ArrayList", "<init>", "()V"⟩ : MethodName)) rfl hown712 (hw _ (List.mem_of_getElem? (i := 49) rfl)) (hw _ (List.mem_of_getElem? (i := 50) rfl)) (hw _ (List.mem_of_getElem? (i := 48) rfl)) (hw _ (List.mem_of_getElem? (i := 51) rfl)) (by decide) (mkAL l Z a0 hw b739 x2 h739 n0 O755 A739 F760 F761 g753 S_DE hx2) e739 (g := (mkF m 112 #[.val (.int p1), .val (.int p2), .val (.int (0 : Int32)), .val (.int c_643), .val (.int c_645), .val (.int c_647), .val (.int (p2 &&& (255 : Int32))), .val (.int (((p2.toUInt32 >>> ((8 : Int32) &&& 31).toUInt32).toInt32) &&& (255 : Int32))), .val (.int (((p2.toUInt32 >>> ((16 : Int32) &&& 31).toUInt32).toInt32) &&& (255 : Int32))), .val (.ref b649), .val (.ref b677), .unset] [(.ref b739), (.ref b739), (.ref b649), (.ref b718), (.ref b718)])) rfl (by rw [hml]; rfl) (a := b739) (argsL := []) (rest := [(.ref b739), (.ref b649), (.ref b718), (.ref b718)]) rfl (lenOf pd___V rfl) rfl (W := 4) (by show 2 * 0 + _ ≤ _; exact Nat.le_of_eq rfl) (hb hby at_112) (by decide) (by decide) (by decide) (by decide)
    have N763 := Fr.app N713 N762q
    have O764 := Old.keep O755 r762_0 (allS g753 all0)
    have hk765 := Nat.le_trans hk756 r762_0.1
    have K766 : Keep h0 h762 [] := Keep.trans K757 r762_0 (allS (Or.inr z754) all0)
    have c767 := CHr.keep r762_0 (sfS (Safe.exa hZ712.alike A739 (by decide) (by decide)) sf0) C759.1
    have C768 := CHr.trans C759 c767
    refine WinW.to T762 (mkF m 115 #[.val (.int p1), .val (.int p2), .val (.int (0 : Int32)), .val (.int c_643), .val (.int c_645), .val (.int c_647), .val (.int (p2 &&& (255 : Int32))), .val (.int (((p2.toUInt32 >>> ((8 : Int32) &&& 31).toUInt32).toInt32) &&& (255 : Int32))), .val (.int (((p2.toUInt32 >>> ((16 : Int32) &&& 31).toUInt32).toInt32) &&& (255 : Int32))), .val (.ref b649), .val (.ref b677), .unset] [(.ref b739), (.ref b649), (.ref b718), (.ref b718)]) (fun _ k => st762 _ k) ?_
    have F769 : Exa Z h762 b718 "com/example/grantgate/grantgate/server/MessageReader$Head" := ((Exa.ext E739 A718).keep r762_0)
    have F770 : Fld Z h762 b718 "com/example/grantgate/grantgate/server/MessageReader$Head" "startLine" "Ljava/lang/String;" .null := ((Fld.ext E739 F737).keep r762_0 (ninS ne752 nin0))
    have F771 : Fld Z h762 b718 "com/example/grantgate/grantgate/server/MessageReader$Head" "fields" "Ljava/util/List;" .null := ((Fld.ext E739 F738).keep r762_0 (ninS ne752 nin0))
    obtain ⟨T772, h772, v772, L772, X772, e772, ⟨rfl, N772q, r772_0, r772_1⟩, st772⟩ := N.special X762 hx hZ712 (y := (⟨"com/example/grantgate/grantgate/server/MessageReader$Head", "<init>", "(Ljava/lang/String;Ljava/util/List;)V"⟩ : MethodName)) rfl hown712 (hw _ (List.mem_of_getElem? (i := 70) rfl)) (hw _ (List.mem_of_getElem? (i := 71) rfl)) (hw _ (List.mem_of_getElem? (i := 45) rfl)) (hw _ (List.mem_of_getElem? (i := 72) rfl)) (by decide) (mkHead l Z a0 hw b718 b649 b739 h762 n0 O764 F769 F770 F771 g730) e762 (g := (mkF m 115 #[.val (.int p1), .val (.int p2), .val (.int (0 : Int32)), .val (.int c_643), .val (.int c_645), .val (.int c_647), .val (.int (p2 &&& (255 : Int32))), .val (.int (((p2.toUInt32 >>> ((8 : Int32) &&& 31).toUInt32).toInt32) &&& (255 : Int32))), .val (.int (((p2.toUInt32 >>> ((16 : Int32) &&& 31).toUInt32).toInt32) &&& (255 : Int32))), .val (.ref b649), .val (.ref b677), .unset] [(.ref b739), (.ref b649), (.ref b718), (.ref b718)])) rfl (by rw [hml]; rfl) (a := b718) (argsL := [(.ref b649), (.ref b739)]) (rest := [(.ref b718)]) rfl (lenOf pd__Ljava_lang_String_Ljava_util_List__V rfl) rfl (W := 1) (by show 2 * 0 + _ ≤ _; exact Nat.le_of_eq rfl) (hb hby at_115) (by decide) (by decide) (by decide) (by decide)
    have N773 := Fr.app N763 N772q
    have O774 := Old.keep O764 r772_0 (allS g730 all0)
    have hk775 := Nat.le_trans hk765 r772_0.1
    have K776 : Keep h0 h772 [] := Keep.trans K766 r772_0 (allS (Or.inr z731) all0)
    have c777 := CHr.keep r772_0 (sfS (Safe.exa hZ712.alike F769 (by decide) (by decide)) sf0) C768.1
    have C778 := CHr.trans C768 c777
    refine WinW.to T772 (mkF m 118 #[.val (.int p1), .val (.int p2), .val (.int (0 : Int32)), .val (.int c_643), .val (.int c_645), .val (.int c_647), .val (.int (p2 &&& (255 : Int32))), .val (.int (((p2.toUInt32 >>> ((8 : Int32) &&& 31).toUInt32).toInt32) &&& (255 : Int32))), .val (.int (((p2.toUInt32 >>> ((16 : Int32) &&& 31).toUInt32).toInt32) &&& (255 : Int32))), .val (.ref b649), .val (.ref b677), .unset] [(.ref b718)]) (fun _ k => st772 _ k) ?_
    refine WinW.to T772 (mkF m 120 #[.val (.int p1), .val (.int p2), .val (.int (0 : Int32)), .val (.int c_643), .val (.int c_645), .val (.int c_647), .val (.int (p2 &&& (255 : Int32))), .val (.int (((p2.toUInt32 >>> ((8 : Int32) &&& 31).toUInt32).toInt32) &&& (255 : Int32))), .val (.int (((p2.toUInt32 >>> ((16 : Int32) &&& 31).toUInt32).toInt32) &&& (255 : Int32))), .val (.ref b649), .val (.ref b677), .val (.ref b718)] []) (fun _ k => XS.astore X772.here hx rfl (hb hby at_118) rfl rfl (l' := #[.val (.int p1), .val (.int p2), .val (.int (0 : Int32)), .val (.int c_643), .val (.int c_645), .val (.int c_647), .val (.int (p2 &&& (255 : Int32))), .val (.int (((p2.toUInt32 >>> ((8 : Int32) &&& 31).toUInt32).toInt32) &&& (255 : Int32))), .val (.int (((p2.toUInt32 >>> ((16 : Int32) &&& 31).toUInt32).toInt32) &&& (255 : Int32))), .val (.ref b649), .val (.ref b677), .val (.ref b718)]) rfl k) ?_
    refine WinW.to T772 (mkF m 122 #[.val (.int p1), .val (.int p2), .val (.int (0 : Int32)), .val (.int c_643), .val (.int c_645), .val (.int c_647), .val (.int (p2 &&& (255 : Int32))), .val (.int (((p2.toUInt32 >>> ((8 : Int32) &&& 31).toUInt32).toInt32) &&& (255 : Int32))), .val (.int (((p2.toUInt32 >>> ((16 : Int32) &&& 31).toUInt32).toInt32) &&& (255 : Int32))), .val (.ref b649), .val (.ref b677), .val (.ref b718)] [(.ref b677)]) (fun _ k => XS.aload X772.here hx rfl (hb hby at_120) rfl rfl k) ?_
    refine WinW.to T772 (mkF m 124 #[.val (.int p1), .val (.int p2), .val (.int (0 : Int32)), .val (.int c_643), .val (.int c_645), .val (.int c_647), .val (.int (p2 &&& (255 : Int32))), .val (.int (((p2.toUInt32 >>> ((8 : Int32) &&& 31).toUInt32).toInt32) &&& (255 : Int32))), .val (.int (((p2.toUInt32 >>> ((16 : Int32) &&& 31).toUInt32).toInt32) &&& (255 : Int32))), .val (.ref b649), .val (.ref b677), .val (.ref b718)] [(.ref b718), (.ref b677)]) (fun _ k => XS.aload X772.here hx rfl (hb hby at_122) rfl rfl k) ?_
    have F779 : Exa Z h772 b649 "java/lang/String" := (((Exa.ext E739 F740).keep r762_0).keep r772_0)
    have F780 : Fld Z h772 b649 "java/lang/String" "value" "[B" (.ref t_671) := (((Fld.ext E739 (Fld.ext E718 (((Fld.ext E677 r671_1).keep r692_0 nin0).keep r712_0 (ninS ne679 nin0)))).keep r762_0 (ninS ne741 nin0)).keep r772_0 (ninS ne720 nin0))
    have F781 : Fld Z h772 b649 "java/lang/String" "coder" "B" (.int (0 : Int32)) := (((Fld.ext E739 (Fld.ext E718 (((Fld.ext E677 r671_2).keep r692_0 nin0).keep r712_0 (ninS ne679 nin0)))).keep r762_0 (ninS ne741 nin0)).keep r772_0 (ninS ne720 nin0))
    have F782 : ArF Z h772 t_671 kb_671 .byte 4 (fun i => ((fun i => ([(32 : Int32), (p2 &&& (255 : Int32)), (((p2.toUInt32 >>> ((8 : Int32) &&& 31).toUInt32).toInt32) &&& (255 : Int32)), (((p2.toUInt32 >>> ((16 : Int32) &&& 31).toUInt32).toInt32) &&& (255 : Int32))] : List Int32).getD i (0 : Int32)) i).toInt8.toInt32) := (((F744.ext E739).keep r762_0 (ninS ne745 nin0)).keep r772_0 (ninS ne724 nin0))
    have F784 : Exa Z h772 b718 "com/example/grantgate/grantgate/server/MessageReader$Head" := (F769.keep r772_0)
    obtain ⟨T783, h783, v783, L783, k783, X783, e783, hS783, hk783, hZ783, hown783, ⟨r_783, t2_783, k2_783, rfl, N783q, r783_0, r783_1, r783_2, r783_3, r783_4⟩, c783, st783⟩ := W.virtual X772 hS712 hk775 hx hZ712 (y := (⟨"com/example/grantgate/grantgate/server/MessageReader$Head", "method", "()Ljava/lang/String;"⟩ : MethodName)) (z := (⟨"com/example/grantgate/grantgate/server/MessageReader$Head", "method", "()Ljava/lang/String;"⟩ : MethodName)) hown712 (hw _ (List.mem_of_getElem? (i := 83) rfl)) (hw _ (List.mem_of_getElem? (i := 84) rfl)) (notFace_of_selects (args := #[]) (mvT hZ712 (hw _ (List.mem_of_getElem? (i := 86) rfl)))) (hw _ (List.mem_of_getElem? (i := 86) rfl)) (hw _ (List.mem_of_getElem? (i := 85) rfl)) (hw _ (List.mem_of_getElem? (i := 45) rfl)) (hw _ (List.mem_of_getElem? (i := 87) rfl)) (by decide) (headM l Z a0 hw b718 b649 t_671 kb_671 4 (fun i => ((fun i => ([(32 : Int32), (p2 &&& (255 : Int32)), (((p2.toUInt32 >>> ((8 : Int32) &&& 31).toUInt32).toInt32) &&& (255 : Int32)), (((p2.toUInt32 >>> ((16 : Int32) &&& 31).toUInt32).toInt32) &&& (255 : Int32))] : List Int32).getD i (0 : Int32)) i).toInt8.toInt32) 0 cs x1 h772 n0 O774 r772_1 F779 F780 F781 F782 (by decide) (fun i hi => absurd hi (Nat.not_lt_zero _)) (show (32 : Int32).toInt8.toInt32 = (32 : Int32) from by decide) (by decide) S_CS hcs S_SI hx1) (own_EW hw) C778.1 e772 F784 (g := (mkF m 124 #[.val (.int p1), .val (.int p2), .val (.int (0 : Int32)), .val (.int c_643), .val (.int c_645), .val (.int c_647), .val (.int (p2 &&& (255 : Int32))), .val (.int (((p2.toUInt32 >>> ((8 : Int32) &&& 31).toUInt32).toInt32) &&& (255 : Int32))), .val (.int (((p2.toUInt32 >>> ((16 : Int32) &&& 31).toUInt32).toInt32) &&& (255 : Int32))), .val (.ref b649), .val (.ref b677), .val (.ref b718)] [(.ref b718), (.ref b677)])) rfl (by rw [hml]; rfl) (argsL := []) (rest := [(.ref b677)]) rfl (lenOf pd___Ljava_lang_String_ rfl) rfl (W := 1) (by show 2 * 0 + _ ≤ _; exact Nat.le_of_eq rfl) (hb hby at_124) (by decide) (by decide) (by decide) (by decide)
    have N785 := Fr.app N773 N783q
    have O786 := Old.keep O774 r783_0 all0
    have K787 : Keep h0 h783 [] := Keep.trans K776 r783_0 all0
    have c788 := c783
    have C789 := CHr.trans C778 c788
    refine WinW.to T783 (mkF m 127 #[.val (.int p1), .val (.int p2), .val (.int (0 : Int32)), .val (.int c_643), .val (.int c_645), .val (.int c_647), .val (.int (p2 &&& (255 : Int32))), .val (.int (((p2.toUInt32 >>> ((8 : Int32) &&& 31).toUInt32).toInt32) &&& (255 : Int32))), .val (.int (((p2.toUInt32 >>> ((16 : Int32) &&& 31).toUInt32).toInt32) &&& (255 : Int32))), .val (.ref b649), .val (.ref b677), .val (.ref b718)] [(.ref r_783), (.ref b677)]) (fun _ k => st783 _ k) ?_
    have F790 : Fld Z h783 b677 "java/lang/String" "value" "[B" (.ref t_712) := ((((Fld.ext E739 (Fld.ext E718 r712_1)).keep r762_0 (ninS ne747 nin0)).keep r772_0 (ninS ne726 nin0)).keep r783_0 nin0)
    have F791 : Fld Z h783 b677 "java/lang/String" "coder" "B" (.int (0 : Int32)) := ((((Fld.ext E739 (Fld.ext E718 r712_2)).keep r762_0 (ninS ne747 nin0)).keep r772_0 (ninS ne726 nin0)).keep r783_0 nin0)
    have F792 : ArF Z h783 t_712 kb_712 .byte 0 (fun i => ((fun i => ([] : List Int32).getD i (0 : Int32)) i).toInt8.toInt32) := ((((F750.ext E739).keep r762_0 (ninS ne751 nin0)).keep r772_0 (ninS ne729 nin0)).keep r783_0 nin0)
    have F794 : Exa Z h783 b677 "java/lang/String" := ((((Exa.ext E739 F746).keep r762_0).keep r772_0).keep r783_0)
    obtain ⟨T793, h793, v793, L793, X793, e793, ⟨rfl, N793q, r793_0⟩, st793⟩ := N.virtual X783 hx hZ783 (y := (⟨"java/lang/String", "equals", "(Ljava/lang/Object;)Z"⟩ : MethodName)) (z := (⟨"java/lang/String", "equals", "(Ljava/lang/Object;)Z"⟩ : MethodName)) hown783 (hw _ (List.mem_of_getElem? (i := 147) rfl)) (hw _ (List.mem_of_getElem? (i := 148) rfl)) (notFace_of_selects (args := #[]) (mvT hZ783 (hw _ (List.mem_of_getElem? (i := 150) rfl)))) (hw _ (List.mem_of_getElem? (i := 150) rfl)) (hw _ (List.mem_of_getElem? (i := 149) rfl)) (hw _ (List.mem_of_getElem? (i := 6) rfl)) (hw _ (List.mem_of_getElem? (i := 151) rfl)) (by decide) (strEq l Z a0 hw b677 r_783 t_712 t2_783 kb_712 k2_783 0 (0 - 0) (fun i => ((fun i => ([] : List Int32).getD i (0 : Int32)) i).toInt8.toInt32) (fun i => (fun i => ((fun i => ([(32 : Int32), (p2 &&& (255 : Int32)), (((p2.toUInt32 >>> ((8 : Int32) &&& 31).toUInt32).toInt32) &&& (255 : Int32)), (((p2.toUInt32 >>> ((16 : Int32) &&& 31).toUInt32).toInt32) &&& (255 : Int32))] : List Int32).getD i (0 : Int32)) i).toInt8.toInt32) (0 + i)) (1 : Int32) cs h783 n0 O786 r783_1 F790 F791 r783_2 r783_3 F792 r783_4 (fun _ => rfl) (fun q => absurd ⟨rfl, (fun i hi => absurd hi (Nat.not_lt_zero _))⟩ q) S_CS hcs) e783 F794 (g := (mkF m 127 #[.val (.int p1), .val (.int p2), .val (.int (0 : Int32)), .val (.int c_643), .val (.int c_645), .val (.int c_647), .val (.int (p2 &&& (255 : Int32))), .val (.int (((p2.toUInt32 >>> ((8 : Int32) &&& 31).toUInt32).toInt32) &&& (255 : Int32))), .val (.int (((p2.toUInt32 >>> ((16 : Int32) &&& 31).toUInt32).toInt32) &&& (255 : Int32))), .val (.ref b649), .val (.ref b677), .val (.ref b718)] [(.ref r_783), (.ref b677)])) rfl (by rw [hml]; rfl) (argsL := [(.ref r_783)]) (rest := []) rfl (lenOf pd__Ljava_lang_Object__Z rfl) rfl (W := 0) (by show 2 * 0 + _ ≤ _; exact Nat.le_of_eq rfl) (hb hby at_127) (by decide) (by decide) (by decide) (by decide)
    have N795 := Fr.app N785 N793q
    have e793 := e793.trans r793_0
    refine WinW.to T793 (mkF m 130 #[.val (.int p1), .val (.int p2), .val (.int (0 : Int32)), .val (.int c_643), .val (.int c_645), .val (.int c_647), .val (.int (p2 &&& (255 : Int32))), .val (.int (((p2.toUInt32 >>> ((8 : Int32) &&& 31).toUInt32).toInt32) &&& (255 : Int32))), .val (.int (((p2.toUInt32 >>> ((16 : Int32) &&& 31).toUInt32).toInt32) &&& (255 : Int32))), .val (.ref b649), .val (.ref b677), .val (.ref b718)] [(.int (1 : Int32))]) (fun _ k => st793 _ k) ?_
    exact WinW.retN X793 hS783 (by rw [e793]; exact hk783) hx hlk (t := .boolean) hret (by simp) rfl (hb hby at_130) hZ783 (own_EW hw) (by rw [e793]; exact C789) (by decide) (by decide) (by (try rw [e793]); exact ⟨rfl, N795, trivial⟩)
  · rw [hk]
    refine WinW.to s₁ (mkF m 8 #[.val (.int p1), .val (.int p2), .val (.int (1 : Int32)), .unset, .unset, .unset, .unset, .unset, .unset, .unset, .unset, .unset] [(.int p1)]) (fun _ k => XS.iloadN X0.here hx rfl (hb hby at_7) rfl k) ?_
    obtain ⟨T796, h796, v796, L796, X796, e796, ⟨c_796, rfl, N796q, r796_0, r796_1, r796_2, r796_3⟩, st796⟩ := N.static X0 hx hZ (y := (⟨"com/example/grantgate/grantgate/server/HeadMethodPinLaw", "nonSpace", "(I)C"⟩ : MethodName)) hown (hw _ (List.mem_of_getElem? (i := 0) rfl)) (hw _ (List.mem_of_getElem? (i := 1) rfl)) (hw _ (List.mem_of_getElem? (i := 2) rfl)) (hw _ (List.mem_of_getElem? (i := 3) rfl)) (by decide) (nonSp l Z a0 hw p1 h0 n0 O0 ) e0 (g := (mkF m 8 #[.val (.int p1), .val (.int p2), .val (.int (1 : Int32)), .unset, .unset, .unset, .unset, .unset, .unset, .unset, .unset, .unset] [(.int p1)])) rfl (by rw [hml]; rfl) (argsL := [(.int p1)]) (rest := []) rfl (lenOf pd__I_C rfl) rfl (W := 0) (by show 2 * 0 + _ ≤ _; exact Nat.le_of_eq rfl) (hb hby at_8) (by decide) (by decide) (by decide) (by decide)
    have N797 := Fr.app N0 N796q
    have e796 := e796.trans r796_0
    refine WinW.to T796 (mkF m 11 #[.val (.int p1), .val (.int p2), .val (.int (1 : Int32)), .unset, .unset, .unset, .unset, .unset, .unset, .unset, .unset, .unset] [(.int c_796)]) (fun _ k => st796 _ k) ?_
    refine WinW.to T796 (mkF m 12 #[.val (.int p1), .val (.int p2), .val (.int (1 : Int32)), .val (.int c_796), .unset, .unset, .unset, .unset, .unset, .unset, .unset, .unset] []) (fun _ k => XS.istoreN X796.here hx rfl (hb hby at_11) rfl (l' := #[.val (.int p1), .val (.int p2), .val (.int (1 : Int32)), .val (.int c_796), .unset, .unset, .unset, .unset, .unset, .unset, .unset, .unset]) rfl k) ?_
    refine WinW.to T796 (mkF m 13 #[.val (.int p1), .val (.int p2), .val (.int (1 : Int32)), .val (.int c_796), .unset, .unset, .unset, .unset, .unset, .unset, .unset, .unset] [(.int p1)]) (fun _ k => XS.iloadN X796.here hx rfl (hb hby at_12) rfl k) ?_
    refine WinW.to T796 (mkF m 15 #[.val (.int p1), .val (.int p2), .val (.int (1 : Int32)), .val (.int c_796), .unset, .unset, .unset, .unset, .unset, .unset, .unset, .unset] [(.int (8 : Int32)), (.int p1)]) (fun _ k => XS.bipush X796.here hx rfl (hb hby at_13) k) ?_
    refine WinW.to T796 (mkF m 16 #[.val (.int p1), .val (.int p2), .val (.int (1 : Int32)), .val (.int c_796), .unset, .unset, .unset, .unset, .unset, .unset, .unset, .unset] [(.int ((p1.toUInt32 >>> ((8 : Int32) &&& 31).toUInt32).toInt32))]) (fun _ k => XS.iushr X796.here hx rfl (hb hby at_15) rfl k) ?_
    obtain ⟨T798, h798, v798, L798, X798, e798, ⟨c_798, rfl, N798q, r798_0, r798_1, r798_2, r798_3⟩, st798⟩ := N.static X796 hx hZ (y := (⟨"com/example/grantgate/grantgate/server/HeadMethodPinLaw", "nonSpace", "(I)C"⟩ : MethodName)) hown (hw _ (List.mem_of_getElem? (i := 0) rfl)) (hw _ (List.mem_of_getElem? (i := 1) rfl)) (hw _ (List.mem_of_getElem? (i := 2) rfl)) (hw _ (List.mem_of_getElem? (i := 3) rfl)) (by decide) (nonSp l Z a0 hw ((p1.toUInt32 >>> ((8 : Int32) &&& 31).toUInt32).toInt32) h0 n0 O0 ) e796 (g := (mkF m 16 #[.val (.int p1), .val (.int p2), .val (.int (1 : Int32)), .val (.int c_796), .unset, .unset, .unset, .unset, .unset, .unset, .unset, .unset] [(.int ((p1.toUInt32 >>> ((8 : Int32) &&& 31).toUInt32).toInt32))])) rfl (by rw [hml]; rfl) (argsL := [(.int ((p1.toUInt32 >>> ((8 : Int32) &&& 31).toUInt32).toInt32))]) (rest := []) rfl (lenOf pd__I_C rfl) rfl (W := 0) (by show 2 * 0 + _ ≤ _; exact Nat.le_of_eq rfl) (hb hby at_16) (by decide) (by decide) (by decide) (by decide)
    have N799 := Fr.app N797 N798q
    have e798 := e798.trans r798_0
    refine WinW.to T798 (mkF m 19 #[.val (.int p1), .val (.int p2), .val (.int (1 : Int32)), .val (.int c_796), .unset, .unset, .unset, .unset, .unset, .unset, .unset, .unset] [(.int c_798)]) (fun _ k => st798 _ k) ?_
    refine WinW.to T798 (mkF m 21 #[.val (.int p1), .val (.int p2), .val (.int (1 : Int32)), .val (.int c_796), .val (.int c_798), .unset, .unset, .unset, .unset, .unset, .unset, .unset] []) (fun _ k => XS.istore X798.here hx rfl (hb hby at_19) rfl (l' := #[.val (.int p1), .val (.int p2), .val (.int (1 : Int32)), .val (.int c_796), .val (.int c_798), .unset, .unset, .unset, .unset, .unset, .unset, .unset]) rfl k) ?_
    refine WinW.to T798 (mkF m 22 #[.val (.int p1), .val (.int p2), .val (.int (1 : Int32)), .val (.int c_796), .val (.int c_798), .unset, .unset, .unset, .unset, .unset, .unset, .unset] [(.int p1)]) (fun _ k => XS.iloadN X798.here hx rfl (hb hby at_21) rfl k) ?_
    refine WinW.to T798 (mkF m 24 #[.val (.int p1), .val (.int p2), .val (.int (1 : Int32)), .val (.int c_796), .val (.int c_798), .unset, .unset, .unset, .unset, .unset, .unset, .unset] [(.int (16 : Int32)), (.int p1)]) (fun _ k => XS.bipush X798.here hx rfl (hb hby at_22) k) ?_
    refine WinW.to T798 (mkF m 25 #[.val (.int p1), .val (.int p2), .val (.int (1 : Int32)), .val (.int c_796), .val (.int c_798), .unset, .unset, .unset, .unset, .unset, .unset, .unset] [(.int ((p1.toUInt32 >>> ((16 : Int32) &&& 31).toUInt32).toInt32))]) (fun _ k => XS.iushr X798.here hx rfl (hb hby at_24) rfl k) ?_
    obtain ⟨T800, h800, v800, L800, X800, e800, ⟨c_800, rfl, N800q, r800_0, r800_1, r800_2, r800_3⟩, st800⟩ := N.static X798 hx hZ (y := (⟨"com/example/grantgate/grantgate/server/HeadMethodPinLaw", "nonSpace", "(I)C"⟩ : MethodName)) hown (hw _ (List.mem_of_getElem? (i := 0) rfl)) (hw _ (List.mem_of_getElem? (i := 1) rfl)) (hw _ (List.mem_of_getElem? (i := 2) rfl)) (hw _ (List.mem_of_getElem? (i := 3) rfl)) (by decide) (nonSp l Z a0 hw ((p1.toUInt32 >>> ((16 : Int32) &&& 31).toUInt32).toInt32) h0 n0 O0 ) e798 (g := (mkF m 25 #[.val (.int p1), .val (.int p2), .val (.int (1 : Int32)), .val (.int c_796), .val (.int c_798), .unset, .unset, .unset, .unset, .unset, .unset, .unset] [(.int ((p1.toUInt32 >>> ((16 : Int32) &&& 31).toUInt32).toInt32))])) rfl (by rw [hml]; rfl) (argsL := [(.int ((p1.toUInt32 >>> ((16 : Int32) &&& 31).toUInt32).toInt32))]) (rest := []) rfl (lenOf pd__I_C rfl) rfl (W := 0) (by show 2 * 0 + _ ≤ _; exact Nat.le_of_eq rfl) (hb hby at_25) (by decide) (by decide) (by decide) (by decide)
    have N801 := Fr.app N799 N800q
    have e800 := e800.trans r800_0
    refine WinW.to T800 (mkF m 28 #[.val (.int p1), .val (.int p2), .val (.int (1 : Int32)), .val (.int c_796), .val (.int c_798), .unset, .unset, .unset, .unset, .unset, .unset, .unset] [(.int c_800)]) (fun _ k => st800 _ k) ?_
    refine WinW.to T800 (mkF m 30 #[.val (.int p1), .val (.int p2), .val (.int (1 : Int32)), .val (.int c_796), .val (.int c_798), .val (.int c_800), .unset, .unset, .unset, .unset, .unset, .unset] []) (fun _ k => XS.istore X800.here hx rfl (hb hby at_28) rfl (l' := #[.val (.int p1), .val (.int p2), .val (.int (1 : Int32)), .val (.int c_796), .val (.int c_798), .val (.int c_800), .unset, .unset, .unset, .unset, .unset, .unset]) rfl k) ?_
    refine WinW.to T800 (mkF m 31 #[.val (.int p1), .val (.int p2), .val (.int (1 : Int32)), .val (.int c_796), .val (.int c_798), .val (.int c_800), .unset, .unset, .unset, .unset, .unset, .unset] [(.int p2)]) (fun _ k => XS.iloadN X800.here hx rfl (hb hby at_30) rfl k) ?_
    refine WinW.to T800 (mkF m 34 #[.val (.int p1), .val (.int p2), .val (.int (1 : Int32)), .val (.int c_796), .val (.int c_798), .val (.int c_800), .unset, .unset, .unset, .unset, .unset, .unset] [(.int (255 : Int32)), (.int p2)]) (fun _ k => XS.sipush X800.here hx rfl (hb hby at_31) k) ?_
    refine WinW.to T800 (mkF m 35 #[.val (.int p1), .val (.int p2), .val (.int (1 : Int32)), .val (.int c_796), .val (.int c_798), .val (.int c_800), .unset, .unset, .unset, .unset, .unset, .unset] [(.int (p2 &&& (255 : Int32)))]) (fun _ k => XS.iand X800.here hx rfl (hb hby at_34) rfl k) ?_
    refine WinW.to T800 (mkF m 36 #[.val (.int p1), .val (.int p2), .val (.int (1 : Int32)), .val (.int c_796), .val (.int c_798), .val (.int c_800), .unset, .unset, .unset, .unset, .unset, .unset] [(.int (p2 &&& (255 : Int32)))]) (fun _ k => XS.i2c X800.here hx rfl (hb hby at_35) rfl (by rw [show ((p2 &&& (255 : Int32)).toUInt32.toUInt16.toUInt32.toInt32) = (p2 &&& (255 : Int32)) from (i2c_mask p2)]; exact k)) ?_
    refine WinW.to T800 (mkF m 38 #[.val (.int p1), .val (.int p2), .val (.int (1 : Int32)), .val (.int c_796), .val (.int c_798), .val (.int c_800), .val (.int (p2 &&& (255 : Int32))), .unset, .unset, .unset, .unset, .unset] []) (fun _ k => XS.istore X800.here hx rfl (hb hby at_36) rfl (l' := #[.val (.int p1), .val (.int p2), .val (.int (1 : Int32)), .val (.int c_796), .val (.int c_798), .val (.int c_800), .val (.int (p2 &&& (255 : Int32))), .unset, .unset, .unset, .unset, .unset]) rfl k) ?_
    refine WinW.to T800 (mkF m 39 #[.val (.int p1), .val (.int p2), .val (.int (1 : Int32)), .val (.int c_796), .val (.int c_798), .val (.int c_800), .val (.int (p2 &&& (255 : Int32))), .unset, .unset, .unset, .unset, .unset] [(.int p2)]) (fun _ k => XS.iloadN X800.here hx rfl (hb hby at_38) rfl k) ?_
    refine WinW.to T800 (mkF m 41 #[.val (.int p1), .val (.int p2), .val (.int (1 : Int32)), .val (.int c_796), .val (.int c_798), .val (.int c_800), .val (.int (p2 &&& (255 : Int32))), .unset, .unset, .unset, .unset, .unset] [(.int (8 : Int32)), (.int p2)]) (fun _ k => XS.bipush X800.here hx rfl (hb hby at_39) k) ?_
    refine WinW.to T800 (mkF m 42 #[.val (.int p1), .val (.int p2), .val (.int (1 : Int32)), .val (.int c_796), .val (.int c_798), .val (.int c_800), .val (.int (p2 &&& (255 : Int32))), .unset, .unset, .unset, .unset, .unset] [(.int ((p2.toUInt32 >>> ((8 : Int32) &&& 31).toUInt32).toInt32))]) (fun _ k => XS.iushr X800.here hx rfl (hb hby at_41) rfl k) ?_
    refine WinW.to T800 (mkF m 45 #[.val (.int p1), .val (.int p2), .val (.int (1 : Int32)), .val (.int c_796), .val (.int c_798), .val (.int c_800), .val (.int (p2 &&& (255 : Int32))), .unset, .unset, .unset, .unset, .unset] [(.int (255 : Int32)), (.int ((p2.toUInt32 >>> ((8 : Int32) &&& 31).toUInt32).toInt32))]) (fun _ k => XS.sipush X800.here hx rfl (hb hby at_42) k) ?_
    refine WinW.to T800 (mkF m 46 #[.val (.int p1), .val (.int p2), .val (.int (1 : Int32)), .val (.int c_796), .val (.int c_798), .val (.int c_800), .val (.int (p2 &&& (255 : Int32))), .unset, .unset, .unset, .unset, .unset] [(.int (((p2.toUInt32 >>> ((8 : Int32) &&& 31).toUInt32).toInt32) &&& (255 : Int32)))]) (fun _ k => XS.iand X800.here hx rfl (hb hby at_45) rfl k) ?_
    refine WinW.to T800 (mkF m 47 #[.val (.int p1), .val (.int p2), .val (.int (1 : Int32)), .val (.int c_796), .val (.int c_798), .val (.int c_800), .val (.int (p2 &&& (255 : Int32))), .unset, .unset, .unset, .unset, .unset] [(.int (((p2.toUInt32 >>> ((8 : Int32) &&& 31).toUInt32).toInt32) &&& (255 : Int32)))]) (fun _ k => XS.i2c X800.here hx rfl (hb hby at_46) rfl (by rw [show ((((p2.toUInt32 >>> ((8 : Int32) &&& 31).toUInt32).toInt32) &&& (255 : Int32)).toUInt32.toUInt16.toUInt32.toInt32) = (((p2.toUInt32 >>> ((8 : Int32) &&& 31).toUInt32).toInt32) &&& (255 : Int32)) from (i2c_mask ((p2.toUInt32 >>> ((8 : Int32) &&& 31).toUInt32).toInt32))]; exact k)) ?_
    refine WinW.to T800 (mkF m 49 #[.val (.int p1), .val (.int p2), .val (.int (1 : Int32)), .val (.int c_796), .val (.int c_798), .val (.int c_800), .val (.int (p2 &&& (255 : Int32))), .val (.int (((p2.toUInt32 >>> ((8 : Int32) &&& 31).toUInt32).toInt32) &&& (255 : Int32))), .unset, .unset, .unset, .unset] []) (fun _ k => XS.istore X800.here hx rfl (hb hby at_47) rfl (l' := #[.val (.int p1), .val (.int p2), .val (.int (1 : Int32)), .val (.int c_796), .val (.int c_798), .val (.int c_800), .val (.int (p2 &&& (255 : Int32))), .val (.int (((p2.toUInt32 >>> ((8 : Int32) &&& 31).toUInt32).toInt32) &&& (255 : Int32))), .unset, .unset, .unset, .unset]) rfl k) ?_
    refine WinW.to T800 (mkF m 50 #[.val (.int p1), .val (.int p2), .val (.int (1 : Int32)), .val (.int c_796), .val (.int c_798), .val (.int c_800), .val (.int (p2 &&& (255 : Int32))), .val (.int (((p2.toUInt32 >>> ((8 : Int32) &&& 31).toUInt32).toInt32) &&& (255 : Int32))), .unset, .unset, .unset, .unset] [(.int p2)]) (fun _ k => XS.iloadN X800.here hx rfl (hb hby at_49) rfl k) ?_
    refine WinW.to T800 (mkF m 52 #[.val (.int p1), .val (.int p2), .val (.int (1 : Int32)), .val (.int c_796), .val (.int c_798), .val (.int c_800), .val (.int (p2 &&& (255 : Int32))), .val (.int (((p2.toUInt32 >>> ((8 : Int32) &&& 31).toUInt32).toInt32) &&& (255 : Int32))), .unset, .unset, .unset, .unset] [(.int (16 : Int32)), (.int p2)]) (fun _ k => XS.bipush X800.here hx rfl (hb hby at_50) k) ?_
    refine WinW.to T800 (mkF m 53 #[.val (.int p1), .val (.int p2), .val (.int (1 : Int32)), .val (.int c_796), .val (.int c_798), .val (.int c_800), .val (.int (p2 &&& (255 : Int32))), .val (.int (((p2.toUInt32 >>> ((8 : Int32) &&& 31).toUInt32).toInt32) &&& (255 : Int32))), .unset, .unset, .unset, .unset] [(.int ((p2.toUInt32 >>> ((16 : Int32) &&& 31).toUInt32).toInt32))]) (fun _ k => XS.iushr X800.here hx rfl (hb hby at_52) rfl k) ?_
    refine WinW.to T800 (mkF m 56 #[.val (.int p1), .val (.int p2), .val (.int (1 : Int32)), .val (.int c_796), .val (.int c_798), .val (.int c_800), .val (.int (p2 &&& (255 : Int32))), .val (.int (((p2.toUInt32 >>> ((8 : Int32) &&& 31).toUInt32).toInt32) &&& (255 : Int32))), .unset, .unset, .unset, .unset] [(.int (255 : Int32)), (.int ((p2.toUInt32 >>> ((16 : Int32) &&& 31).toUInt32).toInt32))]) (fun _ k => XS.sipush X800.here hx rfl (hb hby at_53) k) ?_
    refine WinW.to T800 (mkF m 57 #[.val (.int p1), .val (.int p2), .val (.int (1 : Int32)), .val (.int c_796), .val (.int c_798), .val (.int c_800), .val (.int (p2 &&& (255 : Int32))), .val (.int (((p2.toUInt32 >>> ((8 : Int32) &&& 31).toUInt32).toInt32) &&& (255 : Int32))), .unset, .unset, .unset, .unset] [(.int (((p2.toUInt32 >>> ((16 : Int32) &&& 31).toUInt32).toInt32) &&& (255 : Int32)))]) (fun _ k => XS.iand X800.here hx rfl (hb hby at_56) rfl k) ?_
    refine WinW.to T800 (mkF m 58 #[.val (.int p1), .val (.int p2), .val (.int (1 : Int32)), .val (.int c_796), .val (.int c_798), .val (.int c_800), .val (.int (p2 &&& (255 : Int32))), .val (.int (((p2.toUInt32 >>> ((8 : Int32) &&& 31).toUInt32).toInt32) &&& (255 : Int32))), .unset, .unset, .unset, .unset] [(.int (((p2.toUInt32 >>> ((16 : Int32) &&& 31).toUInt32).toInt32) &&& (255 : Int32)))]) (fun _ k => XS.i2c X800.here hx rfl (hb hby at_57) rfl (by rw [show ((((p2.toUInt32 >>> ((16 : Int32) &&& 31).toUInt32).toInt32) &&& (255 : Int32)).toUInt32.toUInt16.toUInt32.toInt32) = (((p2.toUInt32 >>> ((16 : Int32) &&& 31).toUInt32).toInt32) &&& (255 : Int32)) from (i2c_mask ((p2.toUInt32 >>> ((16 : Int32) &&& 31).toUInt32).toInt32))]; exact k)) ?_
    refine WinW.to T800 (mkF m 60 #[.val (.int p1), .val (.int p2), .val (.int (1 : Int32)), .val (.int c_796), .val (.int c_798), .val (.int c_800), .val (.int (p2 &&& (255 : Int32))), .val (.int (((p2.toUInt32 >>> ((8 : Int32) &&& 31).toUInt32).toInt32) &&& (255 : Int32))), .val (.int (((p2.toUInt32 >>> ((16 : Int32) &&& 31).toUInt32).toInt32) &&& (255 : Int32))), .unset, .unset, .unset] []) (fun _ k => XS.istore X800.here hx rfl (hb hby at_58) rfl (l' := #[.val (.int p1), .val (.int p2), .val (.int (1 : Int32)), .val (.int c_796), .val (.int c_798), .val (.int c_800), .val (.int (p2 &&& (255 : Int32))), .val (.int (((p2.toUInt32 >>> ((8 : Int32) &&& 31).toUInt32).toInt32) &&& (255 : Int32))), .val (.int (((p2.toUInt32 >>> ((16 : Int32) &&& 31).toUInt32).toInt32) &&& (255 : Int32))), .unset, .unset, .unset]) rfl k) ?_
    obtain ⟨T802, h802, X802, e802, E802, A802, D802, -, st802⟩ := newO X800 hx hZ hown (hw _ (List.mem_of_getElem? (i := 4) rfl)) (hw _ (List.mem_of_getElem? (i := 5) rfl)) (hw _ (List.mem_of_getElem? (i := 6) rfl)) e800 (g := (mkF m 60 #[.val (.int p1), .val (.int p2), .val (.int (1 : Int32)), .val (.int c_796), .val (.int c_798), .val (.int c_800), .val (.int (p2 &&& (255 : Int32))), .val (.int (((p2.toUInt32 >>> ((8 : Int32) &&& 31).toUInt32).toInt32) &&& (255 : Int32))), .val (.int (((p2.toUInt32 >>> ((16 : Int32) &&& 31).toUInt32).toInt32) &&& (255 : Int32))), .unset, .unset, .unset] [])) rfl (hb hby at_60) (by decide) (by decide)
    obtain ⟨b802, g802⟩ : ∃ z, z = h0.size := ⟨_, rfl⟩
    rw [← g802] at A802 D802 st802
    have g803 : n0 ≤ b802 := Nat.le_trans (own_le O0) (Nat.le_of_eq g802.symm)
    have z804 : h0.size ≤ b802 := (Nat.le_of_eq g802.symm)
    have O805 := Old.ext O0 E802
    have K806 : Keep h0 h802 [] := (Keep.refl h0 []).ext E802
    have c807 := CHr.ext E802 C0.1
    have C808 := CHr.trans C0 c807
    have F809 : Fld Z h802 b802 "java/lang/String" "coder" "B" (.int (0 : Int32)) := D802 (Or.inr (hw _ (List.mem_of_getElem? (i := 34) rfl))) (ty := .byte) (by decide)
    have F810 : Fld Z h802 b802 "java/lang/String" "value" "[B" .null := D802 (Or.inr (hw _ (List.mem_of_getElem? (i := 36) rfl))) (ty := (.array .byte)) (by decide)
    refine WinW.to T802 (mkF m 63 #[.val (.int p1), .val (.int p2), .val (.int (1 : Int32)), .val (.int c_796), .val (.int c_798), .val (.int c_800), .val (.int (p2 &&& (255 : Int32))), .val (.int (((p2.toUInt32 >>> ((8 : Int32) &&& 31).toUInt32).toInt32) &&& (255 : Int32))), .val (.int (((p2.toUInt32 >>> ((16 : Int32) &&& 31).toUInt32).toInt32) &&& (255 : Int32))), .unset, .unset, .unset] [(.ref b802)]) (fun _ k => st802 _ k) ?_
    refine WinW.to T802 (mkF m 64 #[.val (.int p1), .val (.int p2), .val (.int (1 : Int32)), .val (.int c_796), .val (.int c_798), .val (.int c_800), .val (.int (p2 &&& (255 : Int32))), .val (.int (((p2.toUInt32 >>> ((8 : Int32) &&& 31).toUInt32).toInt32) &&& (255 : Int32))), .val (.int (((p2.toUInt32 >>> ((16 : Int32) &&& 31).toUInt32).toInt32) &&& (255 : Int32))), .unset, .unset, .unset] [(.ref b802), (.ref b802)]) (fun _ k => XS.dup X802.here hx rfl (hb hby at_63) rfl rfl k) ?_
    refine WinW.to T802 (mkF m 65 #[.val (.int p1), .val (.int p2), .val (.int (1 : Int32)), .val (.int c_796), .val (.int c_798), .val (.int c_800), .val (.int (p2 &&& (255 : Int32))), .val (.int (((p2.toUInt32 >>> ((8 : Int32) &&& 31).toUInt32).toInt32) &&& (255 : Int32))), .val (.int (((p2.toUInt32 >>> ((16 : Int32) &&& 31).toUInt32).toInt32) &&& (255 : Int32))), .unset, .unset, .unset] [(.int (1 : Int32)), (.ref b802), (.ref b802)]) (fun _ k => XS.iloadN X802.here hx rfl (hb hby at_64) rfl k) ?_
    refine WinW.to T802 (mkF m 66 #[.val (.int p1), .val (.int p2), .val (.int (1 : Int32)), .val (.int c_796), .val (.int c_798), .val (.int c_800), .val (.int (p2 &&& (255 : Int32))), .val (.int (((p2.toUInt32 >>> ((8 : Int32) &&& 31).toUInt32).toInt32) &&& (255 : Int32))), .val (.int (((p2.toUInt32 >>> ((16 : Int32) &&& 31).toUInt32).toInt32) &&& (255 : Int32))), .unset, .unset, .unset] [(.int c_796), (.int (1 : Int32)), (.ref b802), (.ref b802)]) (fun _ k => XS.iloadN X802.here hx rfl (hb hby at_65) rfl k) ?_
    refine WinW.to T802 (mkF m 68 #[.val (.int p1), .val (.int p2), .val (.int (1 : Int32)), .val (.int c_796), .val (.int c_798), .val (.int c_800), .val (.int (p2 &&& (255 : Int32))), .val (.int (((p2.toUInt32 >>> ((8 : Int32) &&& 31).toUInt32).toInt32) &&& (255 : Int32))), .val (.int (((p2.toUInt32 >>> ((16 : Int32) &&& 31).toUInt32).toInt32) &&& (255 : Int32))), .unset, .unset, .unset] [(.int c_798), (.int c_796), (.int (1 : Int32)), (.ref b802), (.ref b802)]) (fun _ k => XS.iload X802.here hx rfl (hb hby at_66) rfl k) ?_
    refine WinW.to T802 (mkF m 70 #[.val (.int p1), .val (.int p2), .val (.int (1 : Int32)), .val (.int c_796), .val (.int c_798), .val (.int c_800), .val (.int (p2 &&& (255 : Int32))), .val (.int (((p2.toUInt32 >>> ((8 : Int32) &&& 31).toUInt32).toInt32) &&& (255 : Int32))), .val (.int (((p2.toUInt32 >>> ((16 : Int32) &&& 31).toUInt32).toInt32) &&& (255 : Int32))), .unset, .unset, .unset] [(.int c_800), (.int c_798), (.int c_796), (.int (1 : Int32)), (.ref b802), (.ref b802)]) (fun _ k => XS.iload X802.here hx rfl (hb hby at_68) rfl k) ?_
    refine WinW.to T802 (mkF m 72 #[.val (.int p1), .val (.int p2), .val (.int (1 : Int32)), .val (.int c_796), .val (.int c_798), .val (.int c_800), .val (.int (p2 &&& (255 : Int32))), .val (.int (((p2.toUInt32 >>> ((8 : Int32) &&& 31).toUInt32).toInt32) &&& (255 : Int32))), .val (.int (((p2.toUInt32 >>> ((16 : Int32) &&& 31).toUInt32).toInt32) &&& (255 : Int32))), .unset, .unset, .unset] [(.int (p2 &&& (255 : Int32))), (.int c_800), (.int c_798), (.int c_796), (.int (1 : Int32)), (.ref b802), (.ref b802)]) (fun _ k => XS.iload X802.here hx rfl (hb hby at_70) rfl k) ?_
    refine WinW.to T802 (mkF m 74 #[.val (.int p1), .val (.int p2), .val (.int (1 : Int32)), .val (.int c_796), .val (.int c_798), .val (.int c_800), .val (.int (p2 &&& (255 : Int32))), .val (.int (((p2.toUInt32 >>> ((8 : Int32) &&& 31).toUInt32).toInt32) &&& (255 : Int32))), .val (.int (((p2.toUInt32 >>> ((16 : Int32) &&& 31).toUInt32).toInt32) &&& (255 : Int32))), .unset, .unset, .unset] [(.int (((p2.toUInt32 >>> ((8 : Int32) &&& 31).toUInt32).toInt32) &&& (255 : Int32))), (.int (p2 &&& (255 : Int32))), (.int c_800), (.int c_798), (.int c_796), (.int (1 : Int32)), (.ref b802), (.ref b802)]) (fun _ k => XS.iload X802.here hx rfl (hb hby at_72) rfl k) ?_
    refine WinW.to T802 (mkF m 76 #[.val (.int p1), .val (.int p2), .val (.int (1 : Int32)), .val (.int c_796), .val (.int c_798), .val (.int c_800), .val (.int (p2 &&& (255 : Int32))), .val (.int (((p2.toUInt32 >>> ((8 : Int32) &&& 31).toUInt32).toInt32) &&& (255 : Int32))), .val (.int (((p2.toUInt32 >>> ((16 : Int32) &&& 31).toUInt32).toInt32) &&& (255 : Int32))), .unset, .unset, .unset] [(.int (((p2.toUInt32 >>> ((16 : Int32) &&& 31).toUInt32).toInt32) &&& (255 : Int32))), (.int (((p2.toUInt32 >>> ((8 : Int32) &&& 31).toUInt32).toInt32) &&& (255 : Int32))), (.int (p2 &&& (255 : Int32))), (.int c_800), (.int c_798), (.int c_796), (.int (1 : Int32)), (.ref b802), (.ref b802)]) (fun _ k => XS.iload X802.here hx rfl (hb hby at_74) rfl k) ?_
    obtain ⟨T811, h811, v811, L811, X811, e811, ⟨r_811, kk_811, rfl, N811q, r811_0, r811_1, r811_2⟩, st811⟩ := N.static X802 hx hZ (y := (⟨"com/example/grantgate/grantgate/server/HeadMethodPinLaw", "line", "(ICCCCCC)[C"⟩ : MethodName)) hown (hw _ (List.mem_of_getElem? (i := 7) rfl)) (hw _ (List.mem_of_getElem? (i := 8) rfl)) (hw _ (List.mem_of_getElem? (i := 2) rfl)) (hw _ (List.mem_of_getElem? (i := 9) rfl)) (by decide) (line1 l Z a0 hw c_796 c_798 c_800 (p2 &&& (255 : Int32)) (((p2.toUInt32 >>> ((8 : Int32) &&& 31).toUInt32).toInt32) &&& (255 : Int32)) (((p2.toUInt32 >>> ((16 : Int32) &&& 31).toUInt32).toInt32) &&& (255 : Int32)) h802 n0 O805 r796_1 r798_1 r800_1 (i2c_mask p2) (i2c_mask ((p2.toUInt32 >>> ((8 : Int32) &&& 31).toUInt32).toInt32)) (i2c_mask ((p2.toUInt32 >>> ((16 : Int32) &&& 31).toUInt32).toInt32))) e802 (g := (mkF m 76 #[.val (.int p1), .val (.int p2), .val (.int (1 : Int32)), .val (.int c_796), .val (.int c_798), .val (.int c_800), .val (.int (p2 &&& (255 : Int32))), .val (.int (((p2.toUInt32 >>> ((8 : Int32) &&& 31).toUInt32).toInt32) &&& (255 : Int32))), .val (.int (((p2.toUInt32 >>> ((16 : Int32) &&& 31).toUInt32).toInt32) &&& (255 : Int32))), .unset, .unset, .unset] [(.int (((p2.toUInt32 >>> ((16 : Int32) &&& 31).toUInt32).toInt32) &&& (255 : Int32))), (.int (((p2.toUInt32 >>> ((8 : Int32) &&& 31).toUInt32).toInt32) &&& (255 : Int32))), (.int (p2 &&& (255 : Int32))), (.int c_800), (.int c_798), (.int c_796), (.int (1 : Int32)), (.ref b802), (.ref b802)])) rfl (by rw [hml]; rfl) (argsL := [(.int (1 : Int32)), (.int c_796), (.int c_798), (.int c_800), (.int (p2 &&& (255 : Int32))), (.int (((p2.toUInt32 >>> ((8 : Int32) &&& 31).toUInt32).toInt32) &&& (255 : Int32))), (.int (((p2.toUInt32 >>> ((16 : Int32) &&& 31).toUInt32).toInt32) &&& (255 : Int32)))]) (rest := [(.ref b802), (.ref b802)]) rfl (lenOf pd__ICCCCCC__C rfl) rfl (W := 2) (by show 2 * 0 + _ ≤ _; exact Nat.le_of_eq rfl) (hb hby at_76) (by decide) (by decide) (by decide) (by decide)
    have N812 := Fr.app N801 N811q
    have ne813 : b802 ≠ r_811 := Nat.ne_of_lt (Nat.lt_of_lt_of_le A802.lt r811_1)
    have g814 : n0 ≤ r_811 := Nat.le_trans (own_le O805) r811_1
    have z815 : h0.size ≤ r_811 := Nat.le_trans K806.1 r811_1
    have O816 := Old.keep O805 r811_0 all0
    have K817 : Keep h0 h811 [] := Keep.trans K806 r811_0 all0
    have c818 := CHr.keep r811_0 sf0 C808.1
    have C819 := CHr.trans C808 c818
    refine WinW.to T811 (mkF m 79 #[.val (.int p1), .val (.int p2), .val (.int (1 : Int32)), .val (.int c_796), .val (.int c_798), .val (.int c_800), .val (.int (p2 &&& (255 : Int32))), .val (.int (((p2.toUInt32 >>> ((8 : Int32) &&& 31).toUInt32).toInt32) &&& (255 : Int32))), .val (.int (((p2.toUInt32 >>> ((16 : Int32) &&& 31).toUInt32).toInt32) &&& (255 : Int32))), .unset, .unset, .unset] [(.ref r_811), (.ref b802), (.ref b802)]) (fun _ k => st811 _ k) ?_
    have F820 : ArF Z h811 r_811 kk_811 .char 5 (fun i => ([c_796, (32 : Int32), (p2 &&& (255 : Int32)), (((p2.toUInt32 >>> ((8 : Int32) &&& 31).toUInt32).toInt32) &&& (255 : Int32)), (((p2.toUInt32 >>> ((16 : Int32) &&& 31).toUInt32).toInt32) &&& (255 : Int32))] : List Int32).getD i (0 : Int32)) := own_arf [c_796, (32 : Int32), (p2 &&& (255 : Int32)), (((p2.toUInt32 >>> ((8 : Int32) &&& 31).toUInt32).toInt32) &&& (255 : Int32)), (((p2.toUInt32 >>> ((16 : Int32) &&& 31).toUInt32).toInt32) &&& (255 : Int32))] r811_2 rfl
    have F821 : Exa Z h811 b802 "java/lang/String" := (A802.keep r811_0)
    have F822 : Fld Z h811 b802 "java/lang/String" "value" "[B" .null := (F810.keep r811_0 nin0)
    have F823 : Fld Z h811 b802 "java/lang/String" "coder" "B" (.int (0 : Int32)) := (F809.keep r811_0 nin0)
    obtain ⟨T824, h824, v824, L824, k824, X824, e824, hS824, hk824, hZ824, hown824, ⟨t_824, kb_824, rfl, N824q, r824_0, r824_1, r824_2, r824_3⟩, c824, st824⟩ := W.special X811 hS0 (Nat.zero_le _) hx hZ (y := (⟨"java/lang/String", "<init>", "([C)V"⟩ : MethodName)) rfl hown (hw _ (List.mem_of_getElem? (i := 11) rfl)) (hw _ (List.mem_of_getElem? (i := 12) rfl)) (hw _ (List.mem_of_getElem? (i := 6) rfl)) (hw _ (List.mem_of_getElem? (i := 13) rfl)) (by decide) (ctor1 l Z a0 hw b802 r_811 kk_811 5 (fun i => ([c_796, (32 : Int32), (p2 &&& (255 : Int32)), (((p2.toUInt32 >>> ((8 : Int32) &&& 31).toUInt32).toInt32) &&& (255 : Int32)), (((p2.toUInt32 >>> ((16 : Int32) &&& 31).toUInt32).toInt32) &&& (255 : Int32))] : List Int32).getD i (0 : Int32)) cs h811 n0 O816 F821 F822 F823 F820 ((fun i hi => by
      match i, hi with
      | 0, _ => exact r796_2
      | 1, _ => exact (show ¬ (255 : Int32) < (32 : Int32) from by decide)
      | 2, _ => exact (own_255 p2)
      | 3, _ => exact (own_255 ((p2.toUInt32 >>> ((8 : Int32) &&& 31).toUInt32).toInt32))
      | 4, _ => exact (own_255 ((p2.toUInt32 >>> ((16 : Int32) &&& 31).toUInt32).toInt32)))) (by decide) g803 S_CS hcs) (own_EW hw) C819.1 e811 (g := (mkF m 79 #[.val (.int p1), .val (.int p2), .val (.int (1 : Int32)), .val (.int c_796), .val (.int c_798), .val (.int c_800), .val (.int (p2 &&& (255 : Int32))), .val (.int (((p2.toUInt32 >>> ((8 : Int32) &&& 31).toUInt32).toInt32) &&& (255 : Int32))), .val (.int (((p2.toUInt32 >>> ((16 : Int32) &&& 31).toUInt32).toInt32) &&& (255 : Int32))), .unset, .unset, .unset] [(.ref r_811), (.ref b802), (.ref b802)])) rfl (by rw [hml]; rfl) (a := b802) (argsL := [(.ref r_811)]) (rest := [(.ref b802)]) rfl (lenOf pd___C_V rfl) rfl (W := 1) (by show 2 * 0 + _ ≤ _; exact Nat.le_of_eq rfl) (hb hby at_79) (by decide) (by decide) (by decide) (by decide)
    have N825 := Fr.app N812 N824q
    have O826 := Old.keep O816 r824_0 (allS g803 all0)
    have K827 : Keep h0 h824 [] := Keep.trans K817 r824_0 (allS (Or.inr z804) all0)
    have c828 := c824
    have C829 := CHr.trans C819 c828
    refine WinW.to T824 (mkF m 82 #[.val (.int p1), .val (.int p2), .val (.int (1 : Int32)), .val (.int c_796), .val (.int c_798), .val (.int c_800), .val (.int (p2 &&& (255 : Int32))), .val (.int (((p2.toUInt32 >>> ((8 : Int32) &&& 31).toUInt32).toInt32) &&& (255 : Int32))), .val (.int (((p2.toUInt32 >>> ((16 : Int32) &&& 31).toUInt32).toInt32) &&& (255 : Int32))), .unset, .unset, .unset] [(.ref b802)]) (fun _ k => st824 _ k) ?_
    refine WinW.to T824 (mkF m 84 #[.val (.int p1), .val (.int p2), .val (.int (1 : Int32)), .val (.int c_796), .val (.int c_798), .val (.int c_800), .val (.int (p2 &&& (255 : Int32))), .val (.int (((p2.toUInt32 >>> ((8 : Int32) &&& 31).toUInt32).toInt32) &&& (255 : Int32))), .val (.int (((p2.toUInt32 >>> ((16 : Int32) &&& 31).toUInt32).toInt32) &&& (255 : Int32))), .val (.ref b802), .unset, .unset] []) (fun _ k => XS.astore X824.here hx rfl (hb hby at_82) rfl rfl (l' := #[.val (.int p1), .val (.int p2), .val (.int (1 : Int32)), .val (.int c_796), .val (.int c_798), .val (.int c_800), .val (.int (p2 &&& (255 : Int32))), .val (.int (((p2.toUInt32 >>> ((8 : Int32) &&& 31).toUInt32).toInt32) &&& (255 : Int32))), .val (.int (((p2.toUInt32 >>> ((16 : Int32) &&& 31).toUInt32).toInt32) &&& (255 : Int32))), .val (.ref b802), .unset, .unset]) rfl k) ?_
    obtain ⟨T830, h830, X830, e830, E830, A830, D830, -, st830⟩ := newO X824 hx hZ824 hown824 (hw _ (List.mem_of_getElem? (i := 4) rfl)) (hw _ (List.mem_of_getElem? (i := 5) rfl)) (hw _ (List.mem_of_getElem? (i := 6) rfl)) e824 (g := (mkF m 84 #[.val (.int p1), .val (.int p2), .val (.int (1 : Int32)), .val (.int c_796), .val (.int c_798), .val (.int c_800), .val (.int (p2 &&& (255 : Int32))), .val (.int (((p2.toUInt32 >>> ((8 : Int32) &&& 31).toUInt32).toInt32) &&& (255 : Int32))), .val (.int (((p2.toUInt32 >>> ((16 : Int32) &&& 31).toUInt32).toInt32) &&& (255 : Int32))), .val (.ref b802), .unset, .unset] [])) rfl (hb hby at_84) (by decide) (by decide)
    obtain ⟨b830, g830⟩ : ∃ z, z = h824.size := ⟨_, rfl⟩
    rw [← g830] at A830 D830 st830
    have F831 : Exa Z h824 b802 "java/lang/String" := (F821.keep r824_0)
    have ne832 : b802 ≠ b830 := Nat.ne_of_lt (Nat.lt_of_lt_of_le F831.lt (Nat.le_of_eq g830.symm))
    have F833 : Arv Z h824 r_811 kk_811 .char (5 : Int32) [(.int c_796), (.int (32 : Int32)), (.int (p2 &&& (255 : Int32))), (.int (((p2.toUInt32 >>> ((8 : Int32) &&& 31).toUInt32).toInt32) &&& (255 : Int32))), (.int (((p2.toUInt32 >>> ((16 : Int32) &&& 31).toUInt32).toInt32) &&& (255 : Int32)))] (.int (0 : Int32)) := (r811_2.keep r824_0 (ninS (Ne.symm ne813) nin0))
    have ne834 : r_811 ≠ b830 := Nat.ne_of_lt (Nat.lt_of_lt_of_le F833.lt (Nat.le_of_eq g830.symm))
    have ne835 : t_824 ≠ b830 := Nat.ne_of_lt (Nat.lt_of_lt_of_le r824_3.lt (Nat.le_of_eq g830.symm))
    have g836 : n0 ≤ b830 := Nat.le_trans (own_le O826) (Nat.le_of_eq g830.symm)
    have z837 : h0.size ≤ b830 := Nat.le_trans K827.1 (Nat.le_of_eq g830.symm)
    have O838 := Old.ext O826 E830
    have hk839 := Nat.le_trans hk824 E830.1
    have K840 : Keep h0 h830 [] := K827.ext E830
    have c841 := CHr.ext E830 C829.1
    have C842 := CHr.trans C829 c841
    have F843 : Fld Z h830 b830 "java/lang/String" "coder" "B" (.int (0 : Int32)) := D830 (Or.inr (hw _ (List.mem_of_getElem? (i := 34) rfl))) (ty := .byte) (by decide)
    have F844 : Fld Z h830 b830 "java/lang/String" "value" "[B" .null := D830 (Or.inr (hw _ (List.mem_of_getElem? (i := 36) rfl))) (ty := (.array .byte)) (by decide)
    refine WinW.to T830 (mkF m 87 #[.val (.int p1), .val (.int p2), .val (.int (1 : Int32)), .val (.int c_796), .val (.int c_798), .val (.int c_800), .val (.int (p2 &&& (255 : Int32))), .val (.int (((p2.toUInt32 >>> ((8 : Int32) &&& 31).toUInt32).toInt32) &&& (255 : Int32))), .val (.int (((p2.toUInt32 >>> ((16 : Int32) &&& 31).toUInt32).toInt32) &&& (255 : Int32))), .val (.ref b802), .unset, .unset] [(.ref b830)]) (fun _ k => st830 _ k) ?_
    refine WinW.to T830 (mkF m 88 #[.val (.int p1), .val (.int p2), .val (.int (1 : Int32)), .val (.int c_796), .val (.int c_798), .val (.int c_800), .val (.int (p2 &&& (255 : Int32))), .val (.int (((p2.toUInt32 >>> ((8 : Int32) &&& 31).toUInt32).toInt32) &&& (255 : Int32))), .val (.int (((p2.toUInt32 >>> ((16 : Int32) &&& 31).toUInt32).toInt32) &&& (255 : Int32))), .val (.ref b802), .unset, .unset] [(.ref b830), (.ref b830)]) (fun _ k => XS.dup X830.here hx rfl (hb hby at_87) rfl rfl k) ?_
    refine WinW.to T830 (mkF m 89 #[.val (.int p1), .val (.int p2), .val (.int (1 : Int32)), .val (.int c_796), .val (.int c_798), .val (.int c_800), .val (.int (p2 &&& (255 : Int32))), .val (.int (((p2.toUInt32 >>> ((8 : Int32) &&& 31).toUInt32).toInt32) &&& (255 : Int32))), .val (.int (((p2.toUInt32 >>> ((16 : Int32) &&& 31).toUInt32).toInt32) &&& (255 : Int32))), .val (.ref b802), .unset, .unset] [(.int (1 : Int32)), (.ref b830), (.ref b830)]) (fun _ k => XS.iloadN X830.here hx rfl (hb hby at_88) rfl k) ?_
    refine WinW.to T830 (mkF m 90 #[.val (.int p1), .val (.int p2), .val (.int (1 : Int32)), .val (.int c_796), .val (.int c_798), .val (.int c_800), .val (.int (p2 &&& (255 : Int32))), .val (.int (((p2.toUInt32 >>> ((8 : Int32) &&& 31).toUInt32).toInt32) &&& (255 : Int32))), .val (.int (((p2.toUInt32 >>> ((16 : Int32) &&& 31).toUInt32).toInt32) &&& (255 : Int32))), .val (.ref b802), .unset, .unset] [(.int c_796), (.int (1 : Int32)), (.ref b830), (.ref b830)]) (fun _ k => XS.iloadN X830.here hx rfl (hb hby at_89) rfl k) ?_
    refine WinW.to T830 (mkF m 92 #[.val (.int p1), .val (.int p2), .val (.int (1 : Int32)), .val (.int c_796), .val (.int c_798), .val (.int c_800), .val (.int (p2 &&& (255 : Int32))), .val (.int (((p2.toUInt32 >>> ((8 : Int32) &&& 31).toUInt32).toInt32) &&& (255 : Int32))), .val (.int (((p2.toUInt32 >>> ((16 : Int32) &&& 31).toUInt32).toInt32) &&& (255 : Int32))), .val (.ref b802), .unset, .unset] [(.int c_798), (.int c_796), (.int (1 : Int32)), (.ref b830), (.ref b830)]) (fun _ k => XS.iload X830.here hx rfl (hb hby at_90) rfl k) ?_
    refine WinW.to T830 (mkF m 94 #[.val (.int p1), .val (.int p2), .val (.int (1 : Int32)), .val (.int c_796), .val (.int c_798), .val (.int c_800), .val (.int (p2 &&& (255 : Int32))), .val (.int (((p2.toUInt32 >>> ((8 : Int32) &&& 31).toUInt32).toInt32) &&& (255 : Int32))), .val (.int (((p2.toUInt32 >>> ((16 : Int32) &&& 31).toUInt32).toInt32) &&& (255 : Int32))), .val (.ref b802), .unset, .unset] [(.int c_800), (.int c_798), (.int c_796), (.int (1 : Int32)), (.ref b830), (.ref b830)]) (fun _ k => XS.iload X830.here hx rfl (hb hby at_92) rfl k) ?_
    obtain ⟨T845, h845, v845, L845, X845, e845, ⟨r_845, kk_845, rfl, N845q, r845_0, r845_1, r845_2⟩, st845⟩ := N.static X830 hx hZ824 (y := (⟨"com/example/grantgate/grantgate/server/HeadMethodPinLaw", "prefix", "(ICCC)[C"⟩ : MethodName)) hown824 (hw _ (List.mem_of_getElem? (i := 37) rfl)) (hw _ (List.mem_of_getElem? (i := 38) rfl)) (hw _ (List.mem_of_getElem? (i := 2) rfl)) (hw _ (List.mem_of_getElem? (i := 39) rfl)) (by decide) (pref1 l Z a0 hw c_796 c_798 c_800 h830 n0 O838 r796_1 r798_1 r800_1) e830 (g := (mkF m 94 #[.val (.int p1), .val (.int p2), .val (.int (1 : Int32)), .val (.int c_796), .val (.int c_798), .val (.int c_800), .val (.int (p2 &&& (255 : Int32))), .val (.int (((p2.toUInt32 >>> ((8 : Int32) &&& 31).toUInt32).toInt32) &&& (255 : Int32))), .val (.int (((p2.toUInt32 >>> ((16 : Int32) &&& 31).toUInt32).toInt32) &&& (255 : Int32))), .val (.ref b802), .unset, .unset] [(.int c_800), (.int c_798), (.int c_796), (.int (1 : Int32)), (.ref b830), (.ref b830)])) rfl (by rw [hml]; rfl) (argsL := [(.int (1 : Int32)), (.int c_796), (.int c_798), (.int c_800)]) (rest := [(.ref b830), (.ref b830)]) rfl (lenOf pd__ICCC__C rfl) rfl (W := 2) (by show 2 * 0 + _ ≤ _; exact Nat.le_of_eq rfl) (hb hby at_94) (by decide) (by decide) (by decide) (by decide)
    have N846 := Fr.app N825 N845q
    have F847 : Exa Z h830 b802 "java/lang/String" := (Exa.ext E830 F831)
    have ne848 : b802 ≠ r_845 := Nat.ne_of_lt (Nat.lt_of_lt_of_le F847.lt r845_1)
    have F849 : Arv Z h830 r_811 kk_811 .char (5 : Int32) [(.int c_796), (.int (32 : Int32)), (.int (p2 &&& (255 : Int32))), (.int (((p2.toUInt32 >>> ((8 : Int32) &&& 31).toUInt32).toInt32) &&& (255 : Int32))), (.int (((p2.toUInt32 >>> ((16 : Int32) &&& 31).toUInt32).toInt32) &&& (255 : Int32)))] (.int (0 : Int32)) := (F833.ext E830)
    have ne850 : r_811 ≠ r_845 := Nat.ne_of_lt (Nat.lt_of_lt_of_le F849.lt r845_1)
    have F851 : ArF Z h830 t_824 kb_824 .byte 5 (fun i => ((fun i => ([c_796, (32 : Int32), (p2 &&& (255 : Int32)), (((p2.toUInt32 >>> ((8 : Int32) &&& 31).toUInt32).toInt32) &&& (255 : Int32)), (((p2.toUInt32 >>> ((16 : Int32) &&& 31).toUInt32).toInt32) &&& (255 : Int32))] : List Int32).getD i (0 : Int32)) i).toInt8.toInt32) := (r824_3.ext E830)
    have ne852 : t_824 ≠ r_845 := Nat.ne_of_lt (Nat.lt_of_lt_of_le F851.lt r845_1)
    have ne853 : b830 ≠ r_845 := Nat.ne_of_lt (Nat.lt_of_lt_of_le A830.lt r845_1)
    have g854 : n0 ≤ r_845 := Nat.le_trans (own_le O838) r845_1
    have z855 : h0.size ≤ r_845 := Nat.le_trans K840.1 r845_1
    have O856 := Old.keep O838 r845_0 all0
    have hk857 := Nat.le_trans hk839 r845_0.1
    have K858 : Keep h0 h845 [] := Keep.trans K840 r845_0 all0
    have c859 := CHr.keep r845_0 sf0 C842.1
    have C860 := CHr.trans C842 c859
    refine WinW.to T845 (mkF m 97 #[.val (.int p1), .val (.int p2), .val (.int (1 : Int32)), .val (.int c_796), .val (.int c_798), .val (.int c_800), .val (.int (p2 &&& (255 : Int32))), .val (.int (((p2.toUInt32 >>> ((8 : Int32) &&& 31).toUInt32).toInt32) &&& (255 : Int32))), .val (.int (((p2.toUInt32 >>> ((16 : Int32) &&& 31).toUInt32).toInt32) &&& (255 : Int32))), .val (.ref b802), .unset, .unset] [(.ref r_845), (.ref b830), (.ref b830)]) (fun _ k => st845 _ k) ?_
    have F861 : ArF Z h845 r_845 kk_845 .char 1 (fun i => ([c_796] : List Int32).getD i (0 : Int32)) := own_arf [c_796] r845_2 rfl
    have F862 : Exa Z h845 b830 "java/lang/String" := (A830.keep r845_0)
    have F863 : Fld Z h845 b830 "java/lang/String" "value" "[B" .null := (F844.keep r845_0 nin0)
    have F864 : Fld Z h845 b830 "java/lang/String" "coder" "B" (.int (0 : Int32)) := (F843.keep r845_0 nin0)
    obtain ⟨T865, h865, v865, L865, k865, X865, e865, hS865, hk865, hZ865, hown865, ⟨t_865, kb_865, rfl, N865q, r865_0, r865_1, r865_2, r865_3⟩, c865, st865⟩ := W.special X845 hS824 hk857 hx hZ824 (y := (⟨"java/lang/String", "<init>", "([C)V"⟩ : MethodName)) rfl hown824 (hw _ (List.mem_of_getElem? (i := 11) rfl)) (hw _ (List.mem_of_getElem? (i := 12) rfl)) (hw _ (List.mem_of_getElem? (i := 6) rfl)) (hw _ (List.mem_of_getElem? (i := 13) rfl)) (by decide) (ctor1 l Z a0 hw b830 r_845 kk_845 1 (fun i => ([c_796] : List Int32).getD i (0 : Int32)) cs h845 n0 O856 F862 F863 F864 F861 ((fun i hi => by
      match i, hi with
      | 0, _ => exact r796_2)) (by decide) g836 S_CS hcs) (own_EW hw) C860.1 e845 (g := (mkF m 97 #[.val (.int p1), .val (.int p2), .val (.int (1 : Int32)), .val (.int c_796), .val (.int c_798), .val (.int c_800), .val (.int (p2 &&& (255 : Int32))), .val (.int (((p2.toUInt32 >>> ((8 : Int32) &&& 31).toUInt32).toInt32) &&& (255 : Int32))), .val (.int (((p2.toUInt32 >>> ((16 : Int32) &&& 31).toUInt32).toInt32) &&& (255 : Int32))), .val (.ref b802), .unset, .unset] [(.ref r_845), (.ref b830), (.ref b830)])) rfl (by rw [hml]; rfl) (a := b830) (argsL := [(.ref r_845)]) (rest := [(.ref b830)]) rfl (lenOf pd___C_V rfl) rfl (W := 1) (by show 2 * 0 + _ ≤ _; exact Nat.le_of_eq rfl) (hb hby at_97) (by decide) (by decide) (by decide) (by decide)
    have N866 := Fr.app N846 N865q
    have O867 := Old.keep O856 r865_0 (allS g836 all0)
    have K868 : Keep h0 h865 [] := Keep.trans K858 r865_0 (allS (Or.inr z837) all0)
    have c869 := c865
    have C870 := CHr.trans C860 c869
    refine WinW.to T865 (mkF m 100 #[.val (.int p1), .val (.int p2), .val (.int (1 : Int32)), .val (.int c_796), .val (.int c_798), .val (.int c_800), .val (.int (p2 &&& (255 : Int32))), .val (.int (((p2.toUInt32 >>> ((8 : Int32) &&& 31).toUInt32).toInt32) &&& (255 : Int32))), .val (.int (((p2.toUInt32 >>> ((16 : Int32) &&& 31).toUInt32).toInt32) &&& (255 : Int32))), .val (.ref b802), .unset, .unset] [(.ref b830)]) (fun _ k => st865 _ k) ?_
    refine WinW.to T865 (mkF m 102 #[.val (.int p1), .val (.int p2), .val (.int (1 : Int32)), .val (.int c_796), .val (.int c_798), .val (.int c_800), .val (.int (p2 &&& (255 : Int32))), .val (.int (((p2.toUInt32 >>> ((8 : Int32) &&& 31).toUInt32).toInt32) &&& (255 : Int32))), .val (.int (((p2.toUInt32 >>> ((16 : Int32) &&& 31).toUInt32).toInt32) &&& (255 : Int32))), .val (.ref b802), .val (.ref b830), .unset] []) (fun _ k => XS.astore X865.here hx rfl (hb hby at_100) rfl rfl (l' := #[.val (.int p1), .val (.int p2), .val (.int (1 : Int32)), .val (.int c_796), .val (.int c_798), .val (.int c_800), .val (.int (p2 &&& (255 : Int32))), .val (.int (((p2.toUInt32 >>> ((8 : Int32) &&& 31).toUInt32).toInt32) &&& (255 : Int32))), .val (.int (((p2.toUInt32 >>> ((16 : Int32) &&& 31).toUInt32).toInt32) &&& (255 : Int32))), .val (.ref b802), .val (.ref b830), .unset]) rfl k) ?_
    obtain ⟨T871, h871, X871, e871, E871, A871, D871, -, st871⟩ := newO X865 hx hZ865 hown865 (hw _ (List.mem_of_getElem? (i := 43) rfl)) (hw _ (List.mem_of_getElem? (i := 44) rfl)) (hw _ (List.mem_of_getElem? (i := 45) rfl)) e865 (g := (mkF m 102 #[.val (.int p1), .val (.int p2), .val (.int (1 : Int32)), .val (.int c_796), .val (.int c_798), .val (.int c_800), .val (.int (p2 &&& (255 : Int32))), .val (.int (((p2.toUInt32 >>> ((8 : Int32) &&& 31).toUInt32).toInt32) &&& (255 : Int32))), .val (.int (((p2.toUInt32 >>> ((16 : Int32) &&& 31).toUInt32).toInt32) &&& (255 : Int32))), .val (.ref b802), .val (.ref b830), .unset] [])) rfl (hb hby at_102) (by decide) (by decide)
    obtain ⟨b871, g871⟩ : ∃ z, z = h865.size := ⟨_, rfl⟩
    rw [← g871] at A871 D871 st871
    have F872 : Exa Z h865 b802 "java/lang/String" := ((F847.keep r845_0).keep r865_0)
    have ne873 : b802 ≠ b871 := Nat.ne_of_lt (Nat.lt_of_lt_of_le F872.lt (Nat.le_of_eq g871.symm))
    have F874 : Arv Z h865 r_811 kk_811 .char (5 : Int32) [(.int c_796), (.int (32 : Int32)), (.int (p2 &&& (255 : Int32))), (.int (((p2.toUInt32 >>> ((8 : Int32) &&& 31).toUInt32).toInt32) &&& (255 : Int32))), (.int (((p2.toUInt32 >>> ((16 : Int32) &&& 31).toUInt32).toInt32) &&& (255 : Int32)))] (.int (0 : Int32)) := ((F849.keep r845_0 nin0).keep r865_0 (ninS ne834 nin0))
    have ne875 : r_811 ≠ b871 := Nat.ne_of_lt (Nat.lt_of_lt_of_le F874.lt (Nat.le_of_eq g871.symm))
    have F876 : ArF Z h865 t_824 kb_824 .byte 5 (fun i => ((fun i => ([c_796, (32 : Int32), (p2 &&& (255 : Int32)), (((p2.toUInt32 >>> ((8 : Int32) &&& 31).toUInt32).toInt32) &&& (255 : Int32)), (((p2.toUInt32 >>> ((16 : Int32) &&& 31).toUInt32).toInt32) &&& (255 : Int32))] : List Int32).getD i (0 : Int32)) i).toInt8.toInt32) := ((F851.keep r845_0 nin0).keep r865_0 (ninS ne835 nin0))
    have ne877 : t_824 ≠ b871 := Nat.ne_of_lt (Nat.lt_of_lt_of_le F876.lt (Nat.le_of_eq g871.symm))
    have F878 : Exa Z h865 b830 "java/lang/String" := (F862.keep r865_0)
    have ne879 : b830 ≠ b871 := Nat.ne_of_lt (Nat.lt_of_lt_of_le F878.lt (Nat.le_of_eq g871.symm))
    have F880 : Arv Z h865 r_845 kk_845 .char (1 : Int32) [(.int c_796)] (.int (0 : Int32)) := (r845_2.keep r865_0 (ninS (Ne.symm ne853) nin0))
    have ne881 : r_845 ≠ b871 := Nat.ne_of_lt (Nat.lt_of_lt_of_le F880.lt (Nat.le_of_eq g871.symm))
    have ne882 : t_865 ≠ b871 := Nat.ne_of_lt (Nat.lt_of_lt_of_le r865_3.lt (Nat.le_of_eq g871.symm))
    have g883 : n0 ≤ b871 := Nat.le_trans (own_le O867) (Nat.le_of_eq g871.symm)
    have z884 : h0.size ≤ b871 := Nat.le_trans K868.1 (Nat.le_of_eq g871.symm)
    have O885 := Old.ext O867 E871
    have hk886 := Nat.le_trans hk865 E871.1
    have K887 : Keep h0 h871 [] := K868.ext E871
    have c888 := CHr.ext E871 C870.1
    have C889 := CHr.trans C870 c888
    have F890 : Fld Z h871 b871 "com/example/grantgate/grantgate/server/MessageReader$Head" "startLine" "Ljava/lang/String;" .null := D871 (Or.inr (hw _ (List.mem_of_getElem? (i := 80) rfl))) (ty := (.object "java/lang/String")) (by decide)
    have F891 : Fld Z h871 b871 "com/example/grantgate/grantgate/server/MessageReader$Head" "fields" "Ljava/util/List;" .null := D871 (Or.inr (hw _ (List.mem_of_getElem? (i := 82) rfl))) (ty := (.object "java/util/List")) (by decide)
    refine WinW.to T871 (mkF m 105 #[.val (.int p1), .val (.int p2), .val (.int (1 : Int32)), .val (.int c_796), .val (.int c_798), .val (.int c_800), .val (.int (p2 &&& (255 : Int32))), .val (.int (((p2.toUInt32 >>> ((8 : Int32) &&& 31).toUInt32).toInt32) &&& (255 : Int32))), .val (.int (((p2.toUInt32 >>> ((16 : Int32) &&& 31).toUInt32).toInt32) &&& (255 : Int32))), .val (.ref b802), .val (.ref b830), .unset] [(.ref b871)]) (fun _ k => st871 _ k) ?_
    refine WinW.to T871 (mkF m 106 #[.val (.int p1), .val (.int p2), .val (.int (1 : Int32)), .val (.int c_796), .val (.int c_798), .val (.int c_800), .val (.int (p2 &&& (255 : Int32))), .val (.int (((p2.toUInt32 >>> ((8 : Int32) &&& 31).toUInt32).toInt32) &&& (255 : Int32))), .val (.int (((p2.toUInt32 >>> ((16 : Int32) &&& 31).toUInt32).toInt32) &&& (255 : Int32))), .val (.ref b802), .val (.ref b830), .unset] [(.ref b871), (.ref b871)]) (fun _ k => XS.dup X871.here hx rfl (hb hby at_105) rfl rfl k) ?_
    refine WinW.to T871 (mkF m 108 #[.val (.int p1), .val (.int p2), .val (.int (1 : Int32)), .val (.int c_796), .val (.int c_798), .val (.int c_800), .val (.int (p2 &&& (255 : Int32))), .val (.int (((p2.toUInt32 >>> ((8 : Int32) &&& 31).toUInt32).toInt32) &&& (255 : Int32))), .val (.int (((p2.toUInt32 >>> ((16 : Int32) &&& 31).toUInt32).toInt32) &&& (255 : Int32))), .val (.ref b802), .val (.ref b830), .unset] [(.ref b802), (.ref b871), (.ref b871)]) (fun _ k => XS.aload X871.here hx rfl (hb hby at_106) rfl rfl k) ?_
    obtain ⟨T892, h892, X892, e892, E892, A892, D892, -, st892⟩ := newO X871 hx hZ865 hown865 (hw _ (List.mem_of_getElem? (i := 46) rfl)) (hw _ (List.mem_of_getElem? (i := 47) rfl)) (hw _ (List.mem_of_getElem? (i := 48) rfl)) e871 (g := (mkF m 108 #[.val (.int p1), .val (.int p2), .val (.int (1 : Int32)), .val (.int c_796), .val (.int c_798), .val (.int c_800), .val (.int (p2 &&& (255 : Int32))), .val (.int (((p2.toUInt32 >>> ((8 : Int32) &&& 31).toUInt32).toInt32) &&& (255 : Int32))), .val (.int (((p2.toUInt32 >>> ((16 : Int32) &&& 31).toUInt32).toInt32) &&& (255 : Int32))), .val (.ref b802), .val (.ref b830), .unset] [(.ref b802), (.ref b871), (.ref b871)])) rfl (hb hby at_108) (by decide) (by decide)
    obtain ⟨b892, g892⟩ : ∃ z, z = h871.size := ⟨_, rfl⟩
    rw [← g892] at A892 D892 st892
    have F893 : Exa Z h871 b802 "java/lang/String" := (Exa.ext E871 F872)
    have ne894 : b802 ≠ b892 := Nat.ne_of_lt (Nat.lt_of_lt_of_le F893.lt (Nat.le_of_eq g892.symm))
    have F895 : Arv Z h871 r_811 kk_811 .char (5 : Int32) [(.int c_796), (.int (32 : Int32)), (.int (p2 &&& (255 : Int32))), (.int (((p2.toUInt32 >>> ((8 : Int32) &&& 31).toUInt32).toInt32) &&& (255 : Int32))), (.int (((p2.toUInt32 >>> ((16 : Int32) &&& 31).toUInt32).toInt32) &&& (255 : Int32)))] (.int (0 : Int32)) := (F874.ext E871)
    have ne896 : r_811 ≠ b892 := Nat.ne_of_lt (Nat.lt_of_lt_of_le F895.lt (Nat.le_of_eq g892.symm))
    have F897 : ArF Z h871 t_824 kb_824 .byte 5 (fun i => ((fun i => ([c_796, (32 : Int32), (p2 &&& (255 : Int32)), (((p2.toUInt32 >>> ((8 : Int32) &&& 31).toUInt32).toInt32) &&& (255 : Int32)), (((p2.toUInt32 >>> ((16 : Int32) &&& 31).toUInt32).toInt32) &&& (255 : Int32))] : List Int32).getD i (0 : Int32)) i).toInt8.toInt32) := (F876.ext E871)
    have ne898 : t_824 ≠ b892 := Nat.ne_of_lt (Nat.lt_of_lt_of_le F897.lt (Nat.le_of_eq g892.symm))
    have F899 : Exa Z h871 b830 "java/lang/String" := (Exa.ext E871 F878)
    have ne900 : b830 ≠ b892 := Nat.ne_of_lt (Nat.lt_of_lt_of_le F899.lt (Nat.le_of_eq g892.symm))
    have F901 : Arv Z h871 r_845 kk_845 .char (1 : Int32) [(.int c_796)] (.int (0 : Int32)) := (F880.ext E871)
    have ne902 : r_845 ≠ b892 := Nat.ne_of_lt (Nat.lt_of_lt_of_le F901.lt (Nat.le_of_eq g892.symm))
    have F903 : ArF Z h871 t_865 kb_865 .byte 1 (fun i => ((fun i => ([c_796] : List Int32).getD i (0 : Int32)) i).toInt8.toInt32) := (r865_3.ext E871)
    have ne904 : t_865 ≠ b892 := Nat.ne_of_lt (Nat.lt_of_lt_of_le F903.lt (Nat.le_of_eq g892.symm))
    have ne905 : b871 ≠ b892 := Nat.ne_of_lt (Nat.lt_of_lt_of_le A871.lt (Nat.le_of_eq g892.symm))
    have g906 : n0 ≤ b892 := Nat.le_trans (own_le O885) (Nat.le_of_eq g892.symm)
    have z907 : h0.size ≤ b892 := Nat.le_trans K887.1 (Nat.le_of_eq g892.symm)
    have O908 := Old.ext O885 E892
    have hk909 := Nat.le_trans hk886 E892.1
    have K910 : Keep h0 h892 [] := K887.ext E892
    have c911 := CHr.ext E892 C889.1
    have C912 := CHr.trans C889 c911
    have F913 : Fld Z h892 b892 "java/util/AbstractList" "modCount" "I" (.int (0 : Int32)) := D892 (Or.inl (hw _ (List.mem_of_getElem? (i := 66) rfl))) (ty := .int) (by decide)
    have F914 : Fld Z h892 b892 "java/util/ArrayList" "elementData" "[Ljava/lang/Object;" .null := D892 (Or.inl (hw _ (List.mem_of_getElem? (i := 69) rfl))) (ty := (.array (.object "java/lang/Object"))) (by decide)
    refine WinW.to T892 (mkF m 111 #[.val (.int p1), .val (.int p2), .val (.int (1 : Int32)), .val (.int c_796), .val (.int c_798), .val (.int c_800), .val (.int (p2 &&& (255 : Int32))), .val (.int (((p2.toUInt32 >>> ((8 : Int32) &&& 31).toUInt32).toInt32) &&& (255 : Int32))), .val (.int (((p2.toUInt32 >>> ((16 : Int32) &&& 31).toUInt32).toInt32) &&& (255 : Int32))), .val (.ref b802), .val (.ref b830), .unset] [(.ref b892), (.ref b802), (.ref b871), (.ref b871)]) (fun _ k => st892 _ k) ?_
    refine WinW.to T892 (mkF m 112 #[.val (.int p1), .val (.int p2), .val (.int (1 : Int32)), .val (.int c_796), .val (.int c_798), .val (.int c_800), .val (.int (p2 &&& (255 : Int32))), .val (.int (((p2.toUInt32 >>> ((8 : Int32) &&& 31).toUInt32).toInt32) &&& (255 : Int32))), .val (.int (((p2.toUInt32 >>> ((16 : Int32) &&& 31).toUInt32).toInt32) &&& (255 : Int32))), .val (.ref b802), .val (.ref b830), .unset] [(.ref b892), (.ref b892), (.ref b802), (.ref b871), (.ref b871)]) (fun _ k => XS.dup X892.here hx rfl (hb hby at_111) rfl rfl k) ?_
    obtain ⟨T915, h915, v915, L915, X915, e915, ⟨rfl, N915q, r915_0⟩, st915⟩ := N.special X892 hx hZ865 (y := (⟨"java/util/ArrayList", "<init>", "()V"⟩ : MethodName)) rfl hown865 (hw _ (List.mem_of_getElem? (i := 49) rfl)) (hw _ (List.mem_of_getElem? (i := 50) rfl)) (hw _ (List.mem_of_getElem? (i := 48) rfl)) (hw _ (List.mem_of_getElem? (i := 51) rfl)) (by decide) (mkAL l Z a0 hw b892 x2 h892 n0 O908 A892 F913 F914 g906 S_DE hx2) e892 (g := (mkF m 112 #[.val (.int p1), .val (.int p2), .val (.int (1 : Int32)), .val (.int c_796), .val (.int c_798), .val (.int c_800), .val (.int (p2 &&& (255 : Int32))), .val (.int (((p2.toUInt32 >>> ((8 : Int32) &&& 31).toUInt32).toInt32) &&& (255 : Int32))), .val (.int (((p2.toUInt32 >>> ((16 : Int32) &&& 31).toUInt32).toInt32) &&& (255 : Int32))), .val (.ref b802), .val (.ref b830), .unset] [(.ref b892), (.ref b892), (.ref b802), (.ref b871), (.ref b871)])) rfl (by rw [hml]; rfl) (a := b892) (argsL := []) (rest := [(.ref b892), (.ref b802), (.ref b871), (.ref b871)]) rfl (lenOf pd___V rfl) rfl (W := 4) (by show 2 * 0 + _ ≤ _; exact Nat.le_of_eq rfl) (hb hby at_112) (by decide) (by decide) (by decide) (by decide)
    have N916 := Fr.app N866 N915q
    have O917 := Old.keep O908 r915_0 (allS g906 all0)
    have hk918 := Nat.le_trans hk909 r915_0.1
    have K919 : Keep h0 h915 [] := Keep.trans K910 r915_0 (allS (Or.inr z907) all0)
    have c920 := CHr.keep r915_0 (sfS (Safe.exa hZ865.alike A892 (by decide) (by decide)) sf0) C912.1
    have C921 := CHr.trans C912 c920
    refine WinW.to T915 (mkF m 115 #[.val (.int p1), .val (.int p2), .val (.int (1 : Int32)), .val (.int c_796), .val (.int c_798), .val (.int c_800), .val (.int (p2 &&& (255 : Int32))), .val (.int (((p2.toUInt32 >>> ((8 : Int32) &&& 31).toUInt32).toInt32) &&& (255 : Int32))), .val (.int (((p2.toUInt32 >>> ((16 : Int32) &&& 31).toUInt32).toInt32) &&& (255 : Int32))), .val (.ref b802), .val (.ref b830), .unset] [(.ref b892), (.ref b802), (.ref b871), (.ref b871)]) (fun _ k => st915 _ k) ?_
    have F922 : Exa Z h915 b871 "com/example/grantgate/grantgate/server/MessageReader$Head" := ((Exa.ext E892 A871).keep r915_0)
    have F923 : Fld Z h915 b871 "com/example/grantgate/grantgate/server/MessageReader$Head" "startLine" "Ljava/lang/String;" .null := ((Fld.ext E892 F890).keep r915_0 (ninS ne905 nin0))
    have F924 : Fld Z h915 b871 "com/example/grantgate/grantgate/server/MessageReader$Head" "fields" "Ljava/util/List;" .null := ((Fld.ext E892 F891).keep r915_0 (ninS ne905 nin0))
    obtain ⟨T925, h925, v925, L925, X925, e925, ⟨rfl, N925q, r925_0, r925_1⟩, st925⟩ := N.special X915 hx hZ865 (y := (⟨"com/example/grantgate/grantgate/server/MessageReader$Head", "<init>", "(Ljava/lang/String;Ljava/util/List;)V"⟩ : MethodName)) rfl hown865 (hw _ (List.mem_of_getElem? (i := 70) rfl)) (hw _ (List.mem_of_getElem? (i := 71) rfl)) (hw _ (List.mem_of_getElem? (i := 45) rfl)) (hw _ (List.mem_of_getElem? (i := 72) rfl)) (by decide) (mkHead l Z a0 hw b871 b802 b892 h915 n0 O917 F922 F923 F924 g883) e915 (g := (mkF m 115 #[.val (.int p1), .val (.int p2), .val (.int (1 : Int32)), .val (.int c_796), .val (.int c_798), .val (.int c_800), .val (.int (p2 &&& (255 : Int32))), .val (.int (((p2.toUInt32 >>> ((8 : Int32) &&& 31).toUInt32).toInt32) &&& (255 : Int32))), .val (.int (((p2.toUInt32 >>> ((16 : Int32) &&& 31).toUInt32).toInt32) &&& (255 : Int32))), .val (.ref b802), .val (.ref b830), .unset] [(.ref b892), (.ref b802), (.ref b871), (.ref b871)])) rfl (by rw [hml]; rfl) (a := b871) (argsL := [(.ref b802), (.ref b892)]) (rest := [(.ref b871)]) rfl (lenOf pd__Ljava_lang_String_Ljava_util_List__V rfl) rfl (W := 1) (by show 2 * 0 + _ ≤ _; exact Nat.le_of_eq rfl) (hb hby at_115) (by decide) (by decide) (by decide) (by decide)
    have N926 := Fr.app N916 N925q
    have O927 := Old.keep O917 r925_0 (allS g883 all0)
    have hk928 := Nat.le_trans hk918 r925_0.1
    have K929 : Keep h0 h925 [] := Keep.trans K919 r925_0 (allS (Or.inr z884) all0)
    have c930 := CHr.keep r925_0 (sfS (Safe.exa hZ865.alike F922 (by decide) (by decide)) sf0) C921.1
    have C931 := CHr.trans C921 c930
    refine WinW.to T925 (mkF m 118 #[.val (.int p1), .val (.int p2), .val (.int (1 : Int32)), .val (.int c_796), .val (.int c_798), .val (.int c_800), .val (.int (p2 &&& (255 : Int32))), .val (.int (((p2.toUInt32 >>> ((8 : Int32) &&& 31).toUInt32).toInt32) &&& (255 : Int32))), .val (.int (((p2.toUInt32 >>> ((16 : Int32) &&& 31).toUInt32).toInt32) &&& (255 : Int32))), .val (.ref b802), .val (.ref b830), .unset] [(.ref b871)]) (fun _ k => st925 _ k) ?_
    refine WinW.to T925 (mkF m 120 #[.val (.int p1), .val (.int p2), .val (.int (1 : Int32)), .val (.int c_796), .val (.int c_798), .val (.int c_800), .val (.int (p2 &&& (255 : Int32))), .val (.int (((p2.toUInt32 >>> ((8 : Int32) &&& 31).toUInt32).toInt32) &&& (255 : Int32))), .val (.int (((p2.toUInt32 >>> ((16 : Int32) &&& 31).toUInt32).toInt32) &&& (255 : Int32))), .val (.ref b802), .val (.ref b830), .val (.ref b871)] []) (fun _ k => XS.astore X925.here hx rfl (hb hby at_118) rfl rfl (l' := #[.val (.int p1), .val (.int p2), .val (.int (1 : Int32)), .val (.int c_796), .val (.int c_798), .val (.int c_800), .val (.int (p2 &&& (255 : Int32))), .val (.int (((p2.toUInt32 >>> ((8 : Int32) &&& 31).toUInt32).toInt32) &&& (255 : Int32))), .val (.int (((p2.toUInt32 >>> ((16 : Int32) &&& 31).toUInt32).toInt32) &&& (255 : Int32))), .val (.ref b802), .val (.ref b830), .val (.ref b871)]) rfl k) ?_
    refine WinW.to T925 (mkF m 122 #[.val (.int p1), .val (.int p2), .val (.int (1 : Int32)), .val (.int c_796), .val (.int c_798), .val (.int c_800), .val (.int (p2 &&& (255 : Int32))), .val (.int (((p2.toUInt32 >>> ((8 : Int32) &&& 31).toUInt32).toInt32) &&& (255 : Int32))), .val (.int (((p2.toUInt32 >>> ((16 : Int32) &&& 31).toUInt32).toInt32) &&& (255 : Int32))), .val (.ref b802), .val (.ref b830), .val (.ref b871)] [(.ref b830)]) (fun _ k => XS.aload X925.here hx rfl (hb hby at_120) rfl rfl k) ?_
    refine WinW.to T925 (mkF m 124 #[.val (.int p1), .val (.int p2), .val (.int (1 : Int32)), .val (.int c_796), .val (.int c_798), .val (.int c_800), .val (.int (p2 &&& (255 : Int32))), .val (.int (((p2.toUInt32 >>> ((8 : Int32) &&& 31).toUInt32).toInt32) &&& (255 : Int32))), .val (.int (((p2.toUInt32 >>> ((16 : Int32) &&& 31).toUInt32).toInt32) &&& (255 : Int32))), .val (.ref b802), .val (.ref b830), .val (.ref b871)] [(.ref b871), (.ref b830)]) (fun _ k => XS.aload X925.here hx rfl (hb hby at_122) rfl rfl k) ?_
    have F932 : Exa Z h925 b802 "java/lang/String" := (((Exa.ext E892 F893).keep r915_0).keep r925_0)
    have F933 : Fld Z h925 b802 "java/lang/String" "value" "[B" (.ref t_824) := (((Fld.ext E892 (Fld.ext E871 (((Fld.ext E830 r824_1).keep r845_0 nin0).keep r865_0 (ninS ne832 nin0)))).keep r915_0 (ninS ne894 nin0)).keep r925_0 (ninS ne873 nin0))
    have F934 : Fld Z h925 b802 "java/lang/String" "coder" "B" (.int (0 : Int32)) := (((Fld.ext E892 (Fld.ext E871 (((Fld.ext E830 r824_2).keep r845_0 nin0).keep r865_0 (ninS ne832 nin0)))).keep r915_0 (ninS ne894 nin0)).keep r925_0 (ninS ne873 nin0))
    have F935 : ArF Z h925 t_824 kb_824 .byte 5 (fun i => ((fun i => ([c_796, (32 : Int32), (p2 &&& (255 : Int32)), (((p2.toUInt32 >>> ((8 : Int32) &&& 31).toUInt32).toInt32) &&& (255 : Int32)), (((p2.toUInt32 >>> ((16 : Int32) &&& 31).toUInt32).toInt32) &&& (255 : Int32))] : List Int32).getD i (0 : Int32)) i).toInt8.toInt32) := (((F897.ext E892).keep r915_0 (ninS ne898 nin0)).keep r925_0 (ninS ne877 nin0))
    have F937 : Exa Z h925 b871 "com/example/grantgate/grantgate/server/MessageReader$Head" := (F922.keep r925_0)
    obtain ⟨T936, h936, v936, L936, k936, X936, e936, hS936, hk936, hZ936, hown936, ⟨r_936, t2_936, k2_936, rfl, N936q, r936_0, r936_1, r936_2, r936_3, r936_4⟩, c936, st936⟩ := W.virtual X925 hS865 hk928 hx hZ865 (y := (⟨"com/example/grantgate/grantgate/server/MessageReader$Head", "method", "()Ljava/lang/String;"⟩ : MethodName)) (z := (⟨"com/example/grantgate/grantgate/server/MessageReader$Head", "method", "()Ljava/lang/String;"⟩ : MethodName)) hown865 (hw _ (List.mem_of_getElem? (i := 83) rfl)) (hw _ (List.mem_of_getElem? (i := 84) rfl)) (notFace_of_selects (args := #[]) (mvT hZ865 (hw _ (List.mem_of_getElem? (i := 86) rfl)))) (hw _ (List.mem_of_getElem? (i := 86) rfl)) (hw _ (List.mem_of_getElem? (i := 85) rfl)) (hw _ (List.mem_of_getElem? (i := 45) rfl)) (hw _ (List.mem_of_getElem? (i := 87) rfl)) (by decide) (headM l Z a0 hw b871 b802 t_824 kb_824 5 (fun i => ((fun i => ([c_796, (32 : Int32), (p2 &&& (255 : Int32)), (((p2.toUInt32 >>> ((8 : Int32) &&& 31).toUInt32).toInt32) &&& (255 : Int32)), (((p2.toUInt32 >>> ((16 : Int32) &&& 31).toUInt32).toInt32) &&& (255 : Int32))] : List Int32).getD i (0 : Int32)) i).toInt8.toInt32) 1 cs x1 h925 n0 O927 r925_1 F932 F933 F934 F935 (by decide) ((fun i hi => by
      match i, hi with
      | 0, _ => exact r796_3)) (show (32 : Int32).toInt8.toInt32 = (32 : Int32) from by decide) (by decide) S_CS hcs S_SI hx1) (own_EW hw) C931.1 e925 F937 (g := (mkF m 124 #[.val (.int p1), .val (.int p2), .val (.int (1 : Int32)), .val (.int c_796), .val (.int c_798), .val (.int c_800), .val (.int (p2 &&& (255 : Int32))), .val (.int (((p2.toUInt32 >>> ((8 : Int32) &&& 31).toUInt32).toInt32) &&& (255 : Int32))), .val (.int (((p2.toUInt32 >>> ((16 : Int32) &&& 31).toUInt32).toInt32) &&& (255 : Int32))), .val (.ref b802), .val (.ref b830), .val (.ref b871)] [(.ref b871), (.ref b830)])) rfl (by rw [hml]; rfl) (argsL := []) (rest := [(.ref b830)]) rfl (lenOf pd___Ljava_lang_String_ rfl) rfl (W := 1) (by show 2 * 0 + _ ≤ _; exact Nat.le_of_eq rfl) (hb hby at_124) (by decide) (by decide) (by decide) (by decide)
    have N938 := Fr.app N926 N936q
    have O939 := Old.keep O927 r936_0 all0
    have K940 : Keep h0 h936 [] := Keep.trans K929 r936_0 all0
    have c941 := c936
    have C942 := CHr.trans C931 c941
    refine WinW.to T936 (mkF m 127 #[.val (.int p1), .val (.int p2), .val (.int (1 : Int32)), .val (.int c_796), .val (.int c_798), .val (.int c_800), .val (.int (p2 &&& (255 : Int32))), .val (.int (((p2.toUInt32 >>> ((8 : Int32) &&& 31).toUInt32).toInt32) &&& (255 : Int32))), .val (.int (((p2.toUInt32 >>> ((16 : Int32) &&& 31).toUInt32).toInt32) &&& (255 : Int32))), .val (.ref b802), .val (.ref b830), .val (.ref b871)] [(.ref r_936), (.ref b830)]) (fun _ k => st936 _ k) ?_
    have F943 : Fld Z h936 b830 "java/lang/String" "value" "[B" (.ref t_865) := ((((Fld.ext E892 (Fld.ext E871 r865_1)).keep r915_0 (ninS ne900 nin0)).keep r925_0 (ninS ne879 nin0)).keep r936_0 nin0)
    have F944 : Fld Z h936 b830 "java/lang/String" "coder" "B" (.int (0 : Int32)) := ((((Fld.ext E892 (Fld.ext E871 r865_2)).keep r915_0 (ninS ne900 nin0)).keep r925_0 (ninS ne879 nin0)).keep r936_0 nin0)
    have F945 : ArF Z h936 t_865 kb_865 .byte 1 (fun i => ((fun i => ([c_796] : List Int32).getD i (0 : Int32)) i).toInt8.toInt32) := ((((F903.ext E892).keep r915_0 (ninS ne904 nin0)).keep r925_0 (ninS ne882 nin0)).keep r936_0 nin0)
    have F947 : Exa Z h936 b830 "java/lang/String" := ((((Exa.ext E892 F899).keep r915_0).keep r925_0).keep r936_0)
    obtain ⟨T946, h946, v946, L946, X946, e946, ⟨rfl, N946q, r946_0⟩, st946⟩ := N.virtual X936 hx hZ936 (y := (⟨"java/lang/String", "equals", "(Ljava/lang/Object;)Z"⟩ : MethodName)) (z := (⟨"java/lang/String", "equals", "(Ljava/lang/Object;)Z"⟩ : MethodName)) hown936 (hw _ (List.mem_of_getElem? (i := 147) rfl)) (hw _ (List.mem_of_getElem? (i := 148) rfl)) (notFace_of_selects (args := #[]) (mvT hZ936 (hw _ (List.mem_of_getElem? (i := 150) rfl)))) (hw _ (List.mem_of_getElem? (i := 150) rfl)) (hw _ (List.mem_of_getElem? (i := 149) rfl)) (hw _ (List.mem_of_getElem? (i := 6) rfl)) (hw _ (List.mem_of_getElem? (i := 151) rfl)) (by decide) (strEq l Z a0 hw b830 r_936 t_865 t2_936 kb_865 k2_936 1 (1 - 0) (fun i => ((fun i => ([c_796] : List Int32).getD i (0 : Int32)) i).toInt8.toInt32) (fun i => (fun i => ((fun i => ([c_796, (32 : Int32), (p2 &&& (255 : Int32)), (((p2.toUInt32 >>> ((8 : Int32) &&& 31).toUInt32).toInt32) &&& (255 : Int32)), (((p2.toUInt32 >>> ((16 : Int32) &&& 31).toUInt32).toInt32) &&& (255 : Int32))] : List Int32).getD i (0 : Int32)) i).toInt8.toInt32) (0 + i)) (1 : Int32) cs h936 n0 O939 r936_1 F943 F944 r936_2 r936_3 F945 r936_4 (fun _ => rfl) ((fun q => absurd ⟨rfl, (fun i hi => by
      match i, hi with
      | 0, _ => exact rfl)⟩ q)) S_CS hcs) e936 F947 (g := (mkF m 127 #[.val (.int p1), .val (.int p2), .val (.int (1 : Int32)), .val (.int c_796), .val (.int c_798), .val (.int c_800), .val (.int (p2 &&& (255 : Int32))), .val (.int (((p2.toUInt32 >>> ((8 : Int32) &&& 31).toUInt32).toInt32) &&& (255 : Int32))), .val (.int (((p2.toUInt32 >>> ((16 : Int32) &&& 31).toUInt32).toInt32) &&& (255 : Int32))), .val (.ref b802), .val (.ref b830), .val (.ref b871)] [(.ref r_936), (.ref b830)])) rfl (by rw [hml]; rfl) (argsL := [(.ref r_936)]) (rest := []) rfl (lenOf pd__Ljava_lang_Object__Z rfl) rfl (W := 0) (by show 2 * 0 + _ ≤ _; exact Nat.le_of_eq rfl) (hb hby at_127) (by decide) (by decide) (by decide) (by decide)
    have N948 := Fr.app N938 N946q
    have e946 := e946.trans r946_0
    refine WinW.to T946 (mkF m 130 #[.val (.int p1), .val (.int p2), .val (.int (1 : Int32)), .val (.int c_796), .val (.int c_798), .val (.int c_800), .val (.int (p2 &&& (255 : Int32))), .val (.int (((p2.toUInt32 >>> ((8 : Int32) &&& 31).toUInt32).toInt32) &&& (255 : Int32))), .val (.int (((p2.toUInt32 >>> ((16 : Int32) &&& 31).toUInt32).toInt32) &&& (255 : Int32))), .val (.ref b802), .val (.ref b830), .val (.ref b871)] [(.int (1 : Int32))]) (fun _ k => st946 _ k) ?_
    exact WinW.retN X946 hS936 (by rw [e946]; exact hk936) hx hlk (t := .boolean) hret (by simp) rfl (hb hby at_130) hZ936 (own_EW hw) (by rw [e946]; exact C942) (by decide) (by decide) (by (try rw [e946]); exact ⟨rfl, N948, trivial⟩)
  · rw [hk]
    refine WinW.to s₁ (mkF m 8 #[.val (.int p1), .val (.int p2), .val (.int (2 : Int32)), .unset, .unset, .unset, .unset, .unset, .unset, .unset, .unset, .unset] [(.int p1)]) (fun _ k => XS.iloadN X0.here hx rfl (hb hby at_7) rfl k) ?_
    obtain ⟨T949, h949, v949, L949, X949, e949, ⟨c_949, rfl, N949q, r949_0, r949_1, r949_2, r949_3⟩, st949⟩ := N.static X0 hx hZ (y := (⟨"com/example/grantgate/grantgate/server/HeadMethodPinLaw", "nonSpace", "(I)C"⟩ : MethodName)) hown (hw _ (List.mem_of_getElem? (i := 0) rfl)) (hw _ (List.mem_of_getElem? (i := 1) rfl)) (hw _ (List.mem_of_getElem? (i := 2) rfl)) (hw _ (List.mem_of_getElem? (i := 3) rfl)) (by decide) (nonSp l Z a0 hw p1 h0 n0 O0 ) e0 (g := (mkF m 8 #[.val (.int p1), .val (.int p2), .val (.int (2 : Int32)), .unset, .unset, .unset, .unset, .unset, .unset, .unset, .unset, .unset] [(.int p1)])) rfl (by rw [hml]; rfl) (argsL := [(.int p1)]) (rest := []) rfl (lenOf pd__I_C rfl) rfl (W := 0) (by show 2 * 0 + _ ≤ _; exact Nat.le_of_eq rfl) (hb hby at_8) (by decide) (by decide) (by decide) (by decide)
    have N950 := Fr.app N0 N949q
    have e949 := e949.trans r949_0
    refine WinW.to T949 (mkF m 11 #[.val (.int p1), .val (.int p2), .val (.int (2 : Int32)), .unset, .unset, .unset, .unset, .unset, .unset, .unset, .unset, .unset] [(.int c_949)]) (fun _ k => st949 _ k) ?_
    refine WinW.to T949 (mkF m 12 #[.val (.int p1), .val (.int p2), .val (.int (2 : Int32)), .val (.int c_949), .unset, .unset, .unset, .unset, .unset, .unset, .unset, .unset] []) (fun _ k => XS.istoreN X949.here hx rfl (hb hby at_11) rfl (l' := #[.val (.int p1), .val (.int p2), .val (.int (2 : Int32)), .val (.int c_949), .unset, .unset, .unset, .unset, .unset, .unset, .unset, .unset]) rfl k) ?_
    refine WinW.to T949 (mkF m 13 #[.val (.int p1), .val (.int p2), .val (.int (2 : Int32)), .val (.int c_949), .unset, .unset, .unset, .unset, .unset, .unset, .unset, .unset] [(.int p1)]) (fun _ k => XS.iloadN X949.here hx rfl (hb hby at_12) rfl k) ?_
    refine WinW.to T949 (mkF m 15 #[.val (.int p1), .val (.int p2), .val (.int (2 : Int32)), .val (.int c_949), .unset, .unset, .unset, .unset, .unset, .unset, .unset, .unset] [(.int (8 : Int32)), (.int p1)]) (fun _ k => XS.bipush X949.here hx rfl (hb hby at_13) k) ?_
    refine WinW.to T949 (mkF m 16 #[.val (.int p1), .val (.int p2), .val (.int (2 : Int32)), .val (.int c_949), .unset, .unset, .unset, .unset, .unset, .unset, .unset, .unset] [(.int ((p1.toUInt32 >>> ((8 : Int32) &&& 31).toUInt32).toInt32))]) (fun _ k => XS.iushr X949.here hx rfl (hb hby at_15) rfl k) ?_
    obtain ⟨T951, h951, v951, L951, X951, e951, ⟨c_951, rfl, N951q, r951_0, r951_1, r951_2, r951_3⟩, st951⟩ := N.static X949 hx hZ (y := (⟨"com/example/grantgate/grantgate/server/HeadMethodPinLaw", "nonSpace", "(I)C"⟩ : MethodName)) hown (hw _ (List.mem_of_getElem? (i := 0) rfl)) (hw _ (List.mem_of_getElem? (i := 1) rfl)) (hw _ (List.mem_of_getElem? (i := 2) rfl)) (hw _ (List.mem_of_getElem? (i := 3) rfl)) (by decide) (nonSp l Z a0 hw ((p1.toUInt32 >>> ((8 : Int32) &&& 31).toUInt32).toInt32) h0 n0 O0 ) e949 (g := (mkF m 16 #[.val (.int p1), .val (.int p2), .val (.int (2 : Int32)), .val (.int c_949), .unset, .unset, .unset, .unset, .unset, .unset, .unset, .unset] [(.int ((p1.toUInt32 >>> ((8 : Int32) &&& 31).toUInt32).toInt32))])) rfl (by rw [hml]; rfl) (argsL := [(.int ((p1.toUInt32 >>> ((8 : Int32) &&& 31).toUInt32).toInt32))]) (rest := []) rfl (lenOf pd__I_C rfl) rfl (W := 0) (by show 2 * 0 + _ ≤ _; exact Nat.le_of_eq rfl) (hb hby at_16) (by decide) (by decide) (by decide) (by decide)
    have N952 := Fr.app N950 N951q
    have e951 := e951.trans r951_0
    refine WinW.to T951 (mkF m 19 #[.val (.int p1), .val (.int p2), .val (.int (2 : Int32)), .val (.int c_949), .unset, .unset, .unset, .unset, .unset, .unset, .unset, .unset] [(.int c_951)]) (fun _ k => st951 _ k) ?_
    refine WinW.to T951 (mkF m 21 #[.val (.int p1), .val (.int p2), .val (.int (2 : Int32)), .val (.int c_949), .val (.int c_951), .unset, .unset, .unset, .unset, .unset, .unset, .unset] []) (fun _ k => XS.istore X951.here hx rfl (hb hby at_19) rfl (l' := #[.val (.int p1), .val (.int p2), .val (.int (2 : Int32)), .val (.int c_949), .val (.int c_951), .unset, .unset, .unset, .unset, .unset, .unset, .unset]) rfl k) ?_
    refine WinW.to T951 (mkF m 22 #[.val (.int p1), .val (.int p2), .val (.int (2 : Int32)), .val (.int c_949), .val (.int c_951), .unset, .unset, .unset, .unset, .unset, .unset, .unset] [(.int p1)]) (fun _ k => XS.iloadN X951.here hx rfl (hb hby at_21) rfl k) ?_
    refine WinW.to T951 (mkF m 24 #[.val (.int p1), .val (.int p2), .val (.int (2 : Int32)), .val (.int c_949), .val (.int c_951), .unset, .unset, .unset, .unset, .unset, .unset, .unset] [(.int (16 : Int32)), (.int p1)]) (fun _ k => XS.bipush X951.here hx rfl (hb hby at_22) k) ?_
    refine WinW.to T951 (mkF m 25 #[.val (.int p1), .val (.int p2), .val (.int (2 : Int32)), .val (.int c_949), .val (.int c_951), .unset, .unset, .unset, .unset, .unset, .unset, .unset] [(.int ((p1.toUInt32 >>> ((16 : Int32) &&& 31).toUInt32).toInt32))]) (fun _ k => XS.iushr X951.here hx rfl (hb hby at_24) rfl k) ?_
    obtain ⟨T953, h953, v953, L953, X953, e953, ⟨c_953, rfl, N953q, r953_0, r953_1, r953_2, r953_3⟩, st953⟩ := N.static X951 hx hZ (y := (⟨"com/example/grantgate/grantgate/server/HeadMethodPinLaw", "nonSpace", "(I)C"⟩ : MethodName)) hown (hw _ (List.mem_of_getElem? (i := 0) rfl)) (hw _ (List.mem_of_getElem? (i := 1) rfl)) (hw _ (List.mem_of_getElem? (i := 2) rfl)) (hw _ (List.mem_of_getElem? (i := 3) rfl)) (by decide) (nonSp l Z a0 hw ((p1.toUInt32 >>> ((16 : Int32) &&& 31).toUInt32).toInt32) h0 n0 O0 ) e951 (g := (mkF m 25 #[.val (.int p1), .val (.int p2), .val (.int (2 : Int32)), .val (.int c_949), .val (.int c_951), .unset, .unset, .unset, .unset, .unset, .unset, .unset] [(.int ((p1.toUInt32 >>> ((16 : Int32) &&& 31).toUInt32).toInt32))])) rfl (by rw [hml]; rfl) (argsL := [(.int ((p1.toUInt32 >>> ((16 : Int32) &&& 31).toUInt32).toInt32))]) (rest := []) rfl (lenOf pd__I_C rfl) rfl (W := 0) (by show 2 * 0 + _ ≤ _; exact Nat.le_of_eq rfl) (hb hby at_25) (by decide) (by decide) (by decide) (by decide)
    have N954 := Fr.app N952 N953q
    have e953 := e953.trans r953_0
    refine WinW.to T953 (mkF m 28 #[.val (.int p1), .val (.int p2), .val (.int (2 : Int32)), .val (.int c_949), .val (.int c_951), .unset, .unset, .unset, .unset, .unset, .unset, .unset] [(.int c_953)]) (fun _ k => st953 _ k) ?_
    refine WinW.to T953 (mkF m 30 #[.val (.int p1), .val (.int p2), .val (.int (2 : Int32)), .val (.int c_949), .val (.int c_951), .val (.int c_953), .unset, .unset, .unset, .unset, .unset, .unset] []) (fun _ k => XS.istore X953.here hx rfl (hb hby at_28) rfl (l' := #[.val (.int p1), .val (.int p2), .val (.int (2 : Int32)), .val (.int c_949), .val (.int c_951), .val (.int c_953), .unset, .unset, .unset, .unset, .unset, .unset]) rfl k) ?_
    refine WinW.to T953 (mkF m 31 #[.val (.int p1), .val (.int p2), .val (.int (2 : Int32)), .val (.int c_949), .val (.int c_951), .val (.int c_953), .unset, .unset, .unset, .unset, .unset, .unset] [(.int p2)]) (fun _ k => XS.iloadN X953.here hx rfl (hb hby at_30) rfl k) ?_
    refine WinW.to T953 (mkF m 34 #[.val (.int p1), .val (.int p2), .val (.int (2 : Int32)), .val (.int c_949), .val (.int c_951), .val (.int c_953), .unset, .unset, .unset, .unset, .unset, .unset] [(.int (255 : Int32)), (.int p2)]) (fun _ k => XS.sipush X953.here hx rfl (hb hby at_31) k) ?_
    refine WinW.to T953 (mkF m 35 #[.val (.int p1), .val (.int p2), .val (.int (2 : Int32)), .val (.int c_949), .val (.int c_951), .val (.int c_953), .unset, .unset, .unset, .unset, .unset, .unset] [(.int (p2 &&& (255 : Int32)))]) (fun _ k => XS.iand X953.here hx rfl (hb hby at_34) rfl k) ?_
    refine WinW.to T953 (mkF m 36 #[.val (.int p1), .val (.int p2), .val (.int (2 : Int32)), .val (.int c_949), .val (.int c_951), .val (.int c_953), .unset, .unset, .unset, .unset, .unset, .unset] [(.int (p2 &&& (255 : Int32)))]) (fun _ k => XS.i2c X953.here hx rfl (hb hby at_35) rfl (by rw [show ((p2 &&& (255 : Int32)).toUInt32.toUInt16.toUInt32.toInt32) = (p2 &&& (255 : Int32)) from (i2c_mask p2)]; exact k)) ?_
    refine WinW.to T953 (mkF m 38 #[.val (.int p1), .val (.int p2), .val (.int (2 : Int32)), .val (.int c_949), .val (.int c_951), .val (.int c_953), .val (.int (p2 &&& (255 : Int32))), .unset, .unset, .unset, .unset, .unset] []) (fun _ k => XS.istore X953.here hx rfl (hb hby at_36) rfl (l' := #[.val (.int p1), .val (.int p2), .val (.int (2 : Int32)), .val (.int c_949), .val (.int c_951), .val (.int c_953), .val (.int (p2 &&& (255 : Int32))), .unset, .unset, .unset, .unset, .unset]) rfl k) ?_
    refine WinW.to T953 (mkF m 39 #[.val (.int p1), .val (.int p2), .val (.int (2 : Int32)), .val (.int c_949), .val (.int c_951), .val (.int c_953), .val (.int (p2 &&& (255 : Int32))), .unset, .unset, .unset, .unset, .unset] [(.int p2)]) (fun _ k => XS.iloadN X953.here hx rfl (hb hby at_38) rfl k) ?_
    refine WinW.to T953 (mkF m 41 #[.val (.int p1), .val (.int p2), .val (.int (2 : Int32)), .val (.int c_949), .val (.int c_951), .val (.int c_953), .val (.int (p2 &&& (255 : Int32))), .unset, .unset, .unset, .unset, .unset] [(.int (8 : Int32)), (.int p2)]) (fun _ k => XS.bipush X953.here hx rfl (hb hby at_39) k) ?_
    refine WinW.to T953 (mkF m 42 #[.val (.int p1), .val (.int p2), .val (.int (2 : Int32)), .val (.int c_949), .val (.int c_951), .val (.int c_953), .val (.int (p2 &&& (255 : Int32))), .unset, .unset, .unset, .unset, .unset] [(.int ((p2.toUInt32 >>> ((8 : Int32) &&& 31).toUInt32).toInt32))]) (fun _ k => XS.iushr X953.here hx rfl (hb hby at_41) rfl k) ?_
    refine WinW.to T953 (mkF m 45 #[.val (.int p1), .val (.int p2), .val (.int (2 : Int32)), .val (.int c_949), .val (.int c_951), .val (.int c_953), .val (.int (p2 &&& (255 : Int32))), .unset, .unset, .unset, .unset, .unset] [(.int (255 : Int32)), (.int ((p2.toUInt32 >>> ((8 : Int32) &&& 31).toUInt32).toInt32))]) (fun _ k => XS.sipush X953.here hx rfl (hb hby at_42) k) ?_
    refine WinW.to T953 (mkF m 46 #[.val (.int p1), .val (.int p2), .val (.int (2 : Int32)), .val (.int c_949), .val (.int c_951), .val (.int c_953), .val (.int (p2 &&& (255 : Int32))), .unset, .unset, .unset, .unset, .unset] [(.int (((p2.toUInt32 >>> ((8 : Int32) &&& 31).toUInt32).toInt32) &&& (255 : Int32)))]) (fun _ k => XS.iand X953.here hx rfl (hb hby at_45) rfl k) ?_
    refine WinW.to T953 (mkF m 47 #[.val (.int p1), .val (.int p2), .val (.int (2 : Int32)), .val (.int c_949), .val (.int c_951), .val (.int c_953), .val (.int (p2 &&& (255 : Int32))), .unset, .unset, .unset, .unset, .unset] [(.int (((p2.toUInt32 >>> ((8 : Int32) &&& 31).toUInt32).toInt32) &&& (255 : Int32)))]) (fun _ k => XS.i2c X953.here hx rfl (hb hby at_46) rfl (by rw [show ((((p2.toUInt32 >>> ((8 : Int32) &&& 31).toUInt32).toInt32) &&& (255 : Int32)).toUInt32.toUInt16.toUInt32.toInt32) = (((p2.toUInt32 >>> ((8 : Int32) &&& 31).toUInt32).toInt32) &&& (255 : Int32)) from (i2c_mask ((p2.toUInt32 >>> ((8 : Int32) &&& 31).toUInt32).toInt32))]; exact k)) ?_
    refine WinW.to T953 (mkF m 49 #[.val (.int p1), .val (.int p2), .val (.int (2 : Int32)), .val (.int c_949), .val (.int c_951), .val (.int c_953), .val (.int (p2 &&& (255 : Int32))), .val (.int (((p2.toUInt32 >>> ((8 : Int32) &&& 31).toUInt32).toInt32) &&& (255 : Int32))), .unset, .unset, .unset, .unset] []) (fun _ k => XS.istore X953.here hx rfl (hb hby at_47) rfl (l' := #[.val (.int p1), .val (.int p2), .val (.int (2 : Int32)), .val (.int c_949), .val (.int c_951), .val (.int c_953), .val (.int (p2 &&& (255 : Int32))), .val (.int (((p2.toUInt32 >>> ((8 : Int32) &&& 31).toUInt32).toInt32) &&& (255 : Int32))), .unset, .unset, .unset, .unset]) rfl k) ?_
    refine WinW.to T953 (mkF m 50 #[.val (.int p1), .val (.int p2), .val (.int (2 : Int32)), .val (.int c_949), .val (.int c_951), .val (.int c_953), .val (.int (p2 &&& (255 : Int32))), .val (.int (((p2.toUInt32 >>> ((8 : Int32) &&& 31).toUInt32).toInt32) &&& (255 : Int32))), .unset, .unset, .unset, .unset] [(.int p2)]) (fun _ k => XS.iloadN X953.here hx rfl (hb hby at_49) rfl k) ?_
    refine WinW.to T953 (mkF m 52 #[.val (.int p1), .val (.int p2), .val (.int (2 : Int32)), .val (.int c_949), .val (.int c_951), .val (.int c_953), .val (.int (p2 &&& (255 : Int32))), .val (.int (((p2.toUInt32 >>> ((8 : Int32) &&& 31).toUInt32).toInt32) &&& (255 : Int32))), .unset, .unset, .unset, .unset] [(.int (16 : Int32)), (.int p2)]) (fun _ k => XS.bipush X953.here hx rfl (hb hby at_50) k) ?_
    refine WinW.to T953 (mkF m 53 #[.val (.int p1), .val (.int p2), .val (.int (2 : Int32)), .val (.int c_949), .val (.int c_951), .val (.int c_953), .val (.int (p2 &&& (255 : Int32))), .val (.int (((p2.toUInt32 >>> ((8 : Int32) &&& 31).toUInt32).toInt32) &&& (255 : Int32))), .unset, .unset, .unset, .unset] [(.int ((p2.toUInt32 >>> ((16 : Int32) &&& 31).toUInt32).toInt32))]) (fun _ k => XS.iushr X953.here hx rfl (hb hby at_52) rfl k) ?_
    refine WinW.to T953 (mkF m 56 #[.val (.int p1), .val (.int p2), .val (.int (2 : Int32)), .val (.int c_949), .val (.int c_951), .val (.int c_953), .val (.int (p2 &&& (255 : Int32))), .val (.int (((p2.toUInt32 >>> ((8 : Int32) &&& 31).toUInt32).toInt32) &&& (255 : Int32))), .unset, .unset, .unset, .unset] [(.int (255 : Int32)), (.int ((p2.toUInt32 >>> ((16 : Int32) &&& 31).toUInt32).toInt32))]) (fun _ k => XS.sipush X953.here hx rfl (hb hby at_53) k) ?_
    refine WinW.to T953 (mkF m 57 #[.val (.int p1), .val (.int p2), .val (.int (2 : Int32)), .val (.int c_949), .val (.int c_951), .val (.int c_953), .val (.int (p2 &&& (255 : Int32))), .val (.int (((p2.toUInt32 >>> ((8 : Int32) &&& 31).toUInt32).toInt32) &&& (255 : Int32))), .unset, .unset, .unset, .unset] [(.int (((p2.toUInt32 >>> ((16 : Int32) &&& 31).toUInt32).toInt32) &&& (255 : Int32)))]) (fun _ k => XS.iand X953.here hx rfl (hb hby at_56) rfl k) ?_
    refine WinW.to T953 (mkF m 58 #[.val (.int p1), .val (.int p2), .val (.int (2 : Int32)), .val (.int c_949), .val (.int c_951), .val (.int c_953), .val (.int (p2 &&& (255 : Int32))), .val (.int (((p2.toUInt32 >>> ((8 : Int32) &&& 31).toUInt32).toInt32) &&& (255 : Int32))), .unset, .unset, .unset, .unset] [(.int (((p2.toUInt32 >>> ((16 : Int32) &&& 31).toUInt32).toInt32) &&& (255 : Int32)))]) (fun _ k => XS.i2c X953.here hx rfl (hb hby at_57) rfl (by rw [show ((((p2.toUInt32 >>> ((16 : Int32) &&& 31).toUInt32).toInt32) &&& (255 : Int32)).toUInt32.toUInt16.toUInt32.toInt32) = (((p2.toUInt32 >>> ((16 : Int32) &&& 31).toUInt32).toInt32) &&& (255 : Int32)) from (i2c_mask ((p2.toUInt32 >>> ((16 : Int32) &&& 31).toUInt32).toInt32))]; exact k)) ?_
    refine WinW.to T953 (mkF m 60 #[.val (.int p1), .val (.int p2), .val (.int (2 : Int32)), .val (.int c_949), .val (.int c_951), .val (.int c_953), .val (.int (p2 &&& (255 : Int32))), .val (.int (((p2.toUInt32 >>> ((8 : Int32) &&& 31).toUInt32).toInt32) &&& (255 : Int32))), .val (.int (((p2.toUInt32 >>> ((16 : Int32) &&& 31).toUInt32).toInt32) &&& (255 : Int32))), .unset, .unset, .unset] []) (fun _ k => XS.istore X953.here hx rfl (hb hby at_58) rfl (l' := #[.val (.int p1), .val (.int p2), .val (.int (2 : Int32)), .val (.int c_949), .val (.int c_951), .val (.int c_953), .val (.int (p2 &&& (255 : Int32))), .val (.int (((p2.toUInt32 >>> ((8 : Int32) &&& 31).toUInt32).toInt32) &&& (255 : Int32))), .val (.int (((p2.toUInt32 >>> ((16 : Int32) &&& 31).toUInt32).toInt32) &&& (255 : Int32))), .unset, .unset, .unset]) rfl k) ?_
    obtain ⟨T955, h955, X955, e955, E955, A955, D955, -, st955⟩ := newO X953 hx hZ hown (hw _ (List.mem_of_getElem? (i := 4) rfl)) (hw _ (List.mem_of_getElem? (i := 5) rfl)) (hw _ (List.mem_of_getElem? (i := 6) rfl)) e953 (g := (mkF m 60 #[.val (.int p1), .val (.int p2), .val (.int (2 : Int32)), .val (.int c_949), .val (.int c_951), .val (.int c_953), .val (.int (p2 &&& (255 : Int32))), .val (.int (((p2.toUInt32 >>> ((8 : Int32) &&& 31).toUInt32).toInt32) &&& (255 : Int32))), .val (.int (((p2.toUInt32 >>> ((16 : Int32) &&& 31).toUInt32).toInt32) &&& (255 : Int32))), .unset, .unset, .unset] [])) rfl (hb hby at_60) (by decide) (by decide)
    obtain ⟨b955, g955⟩ : ∃ z, z = h0.size := ⟨_, rfl⟩
    rw [← g955] at A955 D955 st955
    have g956 : n0 ≤ b955 := Nat.le_trans (own_le O0) (Nat.le_of_eq g955.symm)
    have z957 : h0.size ≤ b955 := (Nat.le_of_eq g955.symm)
    have O958 := Old.ext O0 E955
    have K959 : Keep h0 h955 [] := (Keep.refl h0 []).ext E955
    have c960 := CHr.ext E955 C0.1
    have C961 := CHr.trans C0 c960
    have F962 : Fld Z h955 b955 "java/lang/String" "coder" "B" (.int (0 : Int32)) := D955 (Or.inr (hw _ (List.mem_of_getElem? (i := 34) rfl))) (ty := .byte) (by decide)
    have F963 : Fld Z h955 b955 "java/lang/String" "value" "[B" .null := D955 (Or.inr (hw _ (List.mem_of_getElem? (i := 36) rfl))) (ty := (.array .byte)) (by decide)
    refine WinW.to T955 (mkF m 63 #[.val (.int p1), .val (.int p2), .val (.int (2 : Int32)), .val (.int c_949), .val (.int c_951), .val (.int c_953), .val (.int (p2 &&& (255 : Int32))), .val (.int (((p2.toUInt32 >>> ((8 : Int32) &&& 31).toUInt32).toInt32) &&& (255 : Int32))), .val (.int (((p2.toUInt32 >>> ((16 : Int32) &&& 31).toUInt32).toInt32) &&& (255 : Int32))), .unset, .unset, .unset] [(.ref b955)]) (fun _ k => st955 _ k) ?_
    refine WinW.to T955 (mkF m 64 #[.val (.int p1), .val (.int p2), .val (.int (2 : Int32)), .val (.int c_949), .val (.int c_951), .val (.int c_953), .val (.int (p2 &&& (255 : Int32))), .val (.int (((p2.toUInt32 >>> ((8 : Int32) &&& 31).toUInt32).toInt32) &&& (255 : Int32))), .val (.int (((p2.toUInt32 >>> ((16 : Int32) &&& 31).toUInt32).toInt32) &&& (255 : Int32))), .unset, .unset, .unset] [(.ref b955), (.ref b955)]) (fun _ k => XS.dup X955.here hx rfl (hb hby at_63) rfl rfl k) ?_
    refine WinW.to T955 (mkF m 65 #[.val (.int p1), .val (.int p2), .val (.int (2 : Int32)), .val (.int c_949), .val (.int c_951), .val (.int c_953), .val (.int (p2 &&& (255 : Int32))), .val (.int (((p2.toUInt32 >>> ((8 : Int32) &&& 31).toUInt32).toInt32) &&& (255 : Int32))), .val (.int (((p2.toUInt32 >>> ((16 : Int32) &&& 31).toUInt32).toInt32) &&& (255 : Int32))), .unset, .unset, .unset] [(.int (2 : Int32)), (.ref b955), (.ref b955)]) (fun _ k => XS.iloadN X955.here hx rfl (hb hby at_64) rfl k) ?_
    refine WinW.to T955 (mkF m 66 #[.val (.int p1), .val (.int p2), .val (.int (2 : Int32)), .val (.int c_949), .val (.int c_951), .val (.int c_953), .val (.int (p2 &&& (255 : Int32))), .val (.int (((p2.toUInt32 >>> ((8 : Int32) &&& 31).toUInt32).toInt32) &&& (255 : Int32))), .val (.int (((p2.toUInt32 >>> ((16 : Int32) &&& 31).toUInt32).toInt32) &&& (255 : Int32))), .unset, .unset, .unset] [(.int c_949), (.int (2 : Int32)), (.ref b955), (.ref b955)]) (fun _ k => XS.iloadN X955.here hx rfl (hb hby at_65) rfl k) ?_
    refine WinW.to T955 (mkF m 68 #[.val (.int p1), .val (.int p2), .val (.int (2 : Int32)), .val (.int c_949), .val (.int c_951), .val (.int c_953), .val (.int (p2 &&& (255 : Int32))), .val (.int (((p2.toUInt32 >>> ((8 : Int32) &&& 31).toUInt32).toInt32) &&& (255 : Int32))), .val (.int (((p2.toUInt32 >>> ((16 : Int32) &&& 31).toUInt32).toInt32) &&& (255 : Int32))), .unset, .unset, .unset] [(.int c_951), (.int c_949), (.int (2 : Int32)), (.ref b955), (.ref b955)]) (fun _ k => XS.iload X955.here hx rfl (hb hby at_66) rfl k) ?_
    refine WinW.to T955 (mkF m 70 #[.val (.int p1), .val (.int p2), .val (.int (2 : Int32)), .val (.int c_949), .val (.int c_951), .val (.int c_953), .val (.int (p2 &&& (255 : Int32))), .val (.int (((p2.toUInt32 >>> ((8 : Int32) &&& 31).toUInt32).toInt32) &&& (255 : Int32))), .val (.int (((p2.toUInt32 >>> ((16 : Int32) &&& 31).toUInt32).toInt32) &&& (255 : Int32))), .unset, .unset, .unset] [(.int c_953), (.int c_951), (.int c_949), (.int (2 : Int32)), (.ref b955), (.ref b955)]) (fun _ k => XS.iload X955.here hx rfl (hb hby at_68) rfl k) ?_
    refine WinW.to T955 (mkF m 72 #[.val (.int p1), .val (.int p2), .val (.int (2 : Int32)), .val (.int c_949), .val (.int c_951), .val (.int c_953), .val (.int (p2 &&& (255 : Int32))), .val (.int (((p2.toUInt32 >>> ((8 : Int32) &&& 31).toUInt32).toInt32) &&& (255 : Int32))), .val (.int (((p2.toUInt32 >>> ((16 : Int32) &&& 31).toUInt32).toInt32) &&& (255 : Int32))), .unset, .unset, .unset] [(.int (p2 &&& (255 : Int32))), (.int c_953), (.int c_951), (.int c_949), (.int (2 : Int32)), (.ref b955), (.ref b955)]) (fun _ k => XS.iload X955.here hx rfl (hb hby at_70) rfl k) ?_
    refine WinW.to T955 (mkF m 74 #[.val (.int p1), .val (.int p2), .val (.int (2 : Int32)), .val (.int c_949), .val (.int c_951), .val (.int c_953), .val (.int (p2 &&& (255 : Int32))), .val (.int (((p2.toUInt32 >>> ((8 : Int32) &&& 31).toUInt32).toInt32) &&& (255 : Int32))), .val (.int (((p2.toUInt32 >>> ((16 : Int32) &&& 31).toUInt32).toInt32) &&& (255 : Int32))), .unset, .unset, .unset] [(.int (((p2.toUInt32 >>> ((8 : Int32) &&& 31).toUInt32).toInt32) &&& (255 : Int32))), (.int (p2 &&& (255 : Int32))), (.int c_953), (.int c_951), (.int c_949), (.int (2 : Int32)), (.ref b955), (.ref b955)]) (fun _ k => XS.iload X955.here hx rfl (hb hby at_72) rfl k) ?_
    refine WinW.to T955 (mkF m 76 #[.val (.int p1), .val (.int p2), .val (.int (2 : Int32)), .val (.int c_949), .val (.int c_951), .val (.int c_953), .val (.int (p2 &&& (255 : Int32))), .val (.int (((p2.toUInt32 >>> ((8 : Int32) &&& 31).toUInt32).toInt32) &&& (255 : Int32))), .val (.int (((p2.toUInt32 >>> ((16 : Int32) &&& 31).toUInt32).toInt32) &&& (255 : Int32))), .unset, .unset, .unset] [(.int (((p2.toUInt32 >>> ((16 : Int32) &&& 31).toUInt32).toInt32) &&& (255 : Int32))), (.int (((p2.toUInt32 >>> ((8 : Int32) &&& 31).toUInt32).toInt32) &&& (255 : Int32))), (.int (p2 &&& (255 : Int32))), (.int c_953), (.int c_951), (.int c_949), (.int (2 : Int32)), (.ref b955), (.ref b955)]) (fun _ k => XS.iload X955.here hx rfl (hb hby at_74) rfl k) ?_
    obtain ⟨T964, h964, v964, L964, X964, e964, ⟨r_964, kk_964, rfl, N964q, r964_0, r964_1, r964_2⟩, st964⟩ := N.static X955 hx hZ (y := (⟨"com/example/grantgate/grantgate/server/HeadMethodPinLaw", "line", "(ICCCCCC)[C"⟩ : MethodName)) hown (hw _ (List.mem_of_getElem? (i := 7) rfl)) (hw _ (List.mem_of_getElem? (i := 8) rfl)) (hw _ (List.mem_of_getElem? (i := 2) rfl)) (hw _ (List.mem_of_getElem? (i := 9) rfl)) (by decide) (line2 l Z a0 hw c_949 c_951 c_953 (p2 &&& (255 : Int32)) (((p2.toUInt32 >>> ((8 : Int32) &&& 31).toUInt32).toInt32) &&& (255 : Int32)) (((p2.toUInt32 >>> ((16 : Int32) &&& 31).toUInt32).toInt32) &&& (255 : Int32)) h955 n0 O958 r949_1 r951_1 r953_1 (i2c_mask p2) (i2c_mask ((p2.toUInt32 >>> ((8 : Int32) &&& 31).toUInt32).toInt32)) (i2c_mask ((p2.toUInt32 >>> ((16 : Int32) &&& 31).toUInt32).toInt32))) e955 (g := (mkF m 76 #[.val (.int p1), .val (.int p2), .val (.int (2 : Int32)), .val (.int c_949), .val (.int c_951), .val (.int c_953), .val (.int (p2 &&& (255 : Int32))), .val (.int (((p2.toUInt32 >>> ((8 : Int32) &&& 31).toUInt32).toInt32) &&& (255 : Int32))), .val (.int (((p2.toUInt32 >>> ((16 : Int32) &&& 31).toUInt32).toInt32) &&& (255 : Int32))), .unset, .unset, .unset] [(.int (((p2.toUInt32 >>> ((16 : Int32) &&& 31).toUInt32).toInt32) &&& (255 : Int32))), (.int (((p2.toUInt32 >>> ((8 : Int32) &&& 31).toUInt32).toInt32) &&& (255 : Int32))), (.int (p2 &&& (255 : Int32))), (.int c_953), (.int c_951), (.int c_949), (.int (2 : Int32)), (.ref b955), (.ref b955)])) rfl (by rw [hml]; rfl) (argsL := [(.int (2 : Int32)), (.int c_949), (.int c_951), (.int c_953), (.int (p2 &&& (255 : Int32))), (.int (((p2.toUInt32 >>> ((8 : Int32) &&& 31).toUInt32).toInt32) &&& (255 : Int32))), (.int (((p2.toUInt32 >>> ((16 : Int32) &&& 31).toUInt32).toInt32) &&& (255 : Int32)))]) (rest := [(.ref b955), (.ref b955)]) rfl (lenOf pd__ICCCCCC__C rfl) rfl (W := 2) (by show 2 * 0 + _ ≤ _; exact Nat.le_of_eq rfl) (hb hby at_76) (by decide) (by decide) (by decide) (by decide)
    have N965 := Fr.app N954 N964q
    have ne966 : b955 ≠ r_964 := Nat.ne_of_lt (Nat.lt_of_lt_of_le A955.lt r964_1)
    have g967 : n0 ≤ r_964 := Nat.le_trans (own_le O958) r964_1
    have z968 : h0.size ≤ r_964 := Nat.le_trans K959.1 r964_1
    have O969 := Old.keep O958 r964_0 all0
    have K970 : Keep h0 h964 [] := Keep.trans K959 r964_0 all0
    have c971 := CHr.keep r964_0 sf0 C961.1
    have C972 := CHr.trans C961 c971
    refine WinW.to T964 (mkF m 79 #[.val (.int p1), .val (.int p2), .val (.int (2 : Int32)), .val (.int c_949), .val (.int c_951), .val (.int c_953), .val (.int (p2 &&& (255 : Int32))), .val (.int (((p2.toUInt32 >>> ((8 : Int32) &&& 31).toUInt32).toInt32) &&& (255 : Int32))), .val (.int (((p2.toUInt32 >>> ((16 : Int32) &&& 31).toUInt32).toInt32) &&& (255 : Int32))), .unset, .unset, .unset] [(.ref r_964), (.ref b955), (.ref b955)]) (fun _ k => st964 _ k) ?_
    have F973 : ArF Z h964 r_964 kk_964 .char 6 (fun i => ([c_949, c_951, (32 : Int32), (p2 &&& (255 : Int32)), (((p2.toUInt32 >>> ((8 : Int32) &&& 31).toUInt32).toInt32) &&& (255 : Int32)), (((p2.toUInt32 >>> ((16 : Int32) &&& 31).toUInt32).toInt32) &&& (255 : Int32))] : List Int32).getD i (0 : Int32)) := own_arf [c_949, c_951, (32 : Int32), (p2 &&& (255 : Int32)), (((p2.toUInt32 >>> ((8 : Int32) &&& 31).toUInt32).toInt32) &&& (255 : Int32)), (((p2.toUInt32 >>> ((16 : Int32) &&& 31).toUInt32).toInt32) &&& (255 : Int32))] r964_2 rfl
    have F974 : Exa Z h964 b955 "java/lang/String" := (A955.keep r964_0)
    have F975 : Fld Z h964 b955 "java/lang/String" "value" "[B" .null := (F963.keep r964_0 nin0)
    have F976 : Fld Z h964 b955 "java/lang/String" "coder" "B" (.int (0 : Int32)) := (F962.keep r964_0 nin0)
    obtain ⟨T977, h977, v977, L977, k977, X977, e977, hS977, hk977, hZ977, hown977, ⟨t_977, kb_977, rfl, N977q, r977_0, r977_1, r977_2, r977_3⟩, c977, st977⟩ := W.special X964 hS0 (Nat.zero_le _) hx hZ (y := (⟨"java/lang/String", "<init>", "([C)V"⟩ : MethodName)) rfl hown (hw _ (List.mem_of_getElem? (i := 11) rfl)) (hw _ (List.mem_of_getElem? (i := 12) rfl)) (hw _ (List.mem_of_getElem? (i := 6) rfl)) (hw _ (List.mem_of_getElem? (i := 13) rfl)) (by decide) (ctor1 l Z a0 hw b955 r_964 kk_964 6 (fun i => ([c_949, c_951, (32 : Int32), (p2 &&& (255 : Int32)), (((p2.toUInt32 >>> ((8 : Int32) &&& 31).toUInt32).toInt32) &&& (255 : Int32)), (((p2.toUInt32 >>> ((16 : Int32) &&& 31).toUInt32).toInt32) &&& (255 : Int32))] : List Int32).getD i (0 : Int32)) cs h964 n0 O969 F974 F975 F976 F973 ((fun i hi => by
      match i, hi with
      | 0, _ => exact r949_2
      | 1, _ => exact r951_2
      | 2, _ => exact (show ¬ (255 : Int32) < (32 : Int32) from by decide)
      | 3, _ => exact (own_255 p2)
      | 4, _ => exact (own_255 ((p2.toUInt32 >>> ((8 : Int32) &&& 31).toUInt32).toInt32))
      | 5, _ => exact (own_255 ((p2.toUInt32 >>> ((16 : Int32) &&& 31).toUInt32).toInt32)))) (by decide) g956 S_CS hcs) (own_EW hw) C972.1 e964 (g := (mkF m 79 #[.val (.int p1), .val (.int p2), .val (.int (2 : Int32)), .val (.int c_949), .val (.int c_951), .val (.int c_953), .val (.int (p2 &&& (255 : Int32))), .val (.int (((p2.toUInt32 >>> ((8 : Int32) &&& 31).toUInt32).toInt32) &&& (255 : Int32))), .val (.int (((p2.toUInt32 >>> ((16 : Int32) &&& 31).toUInt32).toInt32) &&& (255 : Int32))), .unset, .unset, .unset] [(.ref r_964), (.ref b955), (.ref b955)])) rfl (by rw [hml]; rfl) (a := b955) (argsL := [(.ref r_964)]) (rest := [(.ref b955)]) rfl (lenOf pd___C_V rfl) rfl (W := 1) (by show 2 * 0 + _ ≤ _; exact Nat.le_of_eq rfl) (hb hby at_79) (by decide) (by decide) (by decide) (by decide)
    have N978 := Fr.app N965 N977q
    have O979 := Old.keep O969 r977_0 (allS g956 all0)
    have K980 : Keep h0 h977 [] := Keep.trans K970 r977_0 (allS (Or.inr z957) all0)
    have c981 := c977
    have C982 := CHr.trans C972 c981
    refine WinW.to T977 (mkF m 82 #[.val (.int p1), .val (.int p2), .val (.int (2 : Int32)), .val (.int c_949), .val (.int c_951), .val (.int c_953), .val (.int (p2 &&& (255 : Int32))), .val (.int (((p2.toUInt32 >>> ((8 : Int32) &&& 31).toUInt32).toInt32) &&& (255 : Int32))), .val (.int (((p2.toUInt32 >>> ((16 : Int32) &&& 31).toUInt32).toInt32) &&& (255 : Int32))), .unset, .unset, .unset] [(.ref b955)]) (fun _ k => st977 _ k) ?_
    refine WinW.to T977 (mkF m 84 #[.val (.int p1), .val (.int p2), .val (.int (2 : Int32)), .val (.int c_949), .val (.int c_951), .val (.int c_953), .val (.int (p2 &&& (255 : Int32))), .val (.int (((p2.toUInt32 >>> ((8 : Int32) &&& 31).toUInt32).toInt32) &&& (255 : Int32))), .val (.int (((p2.toUInt32 >>> ((16 : Int32) &&& 31).toUInt32).toInt32) &&& (255 : Int32))), .val (.ref b955), .unset, .unset] []) (fun _ k => XS.astore X977.here hx rfl (hb hby at_82) rfl rfl (l' := #[.val (.int p1), .val (.int p2), .val (.int (2 : Int32)), .val (.int c_949), .val (.int c_951), .val (.int c_953), .val (.int (p2 &&& (255 : Int32))), .val (.int (((p2.toUInt32 >>> ((8 : Int32) &&& 31).toUInt32).toInt32) &&& (255 : Int32))), .val (.int (((p2.toUInt32 >>> ((16 : Int32) &&& 31).toUInt32).toInt32) &&& (255 : Int32))), .val (.ref b955), .unset, .unset]) rfl k) ?_
    obtain ⟨T983, h983, X983, e983, E983, A983, D983, -, st983⟩ := newO X977 hx hZ977 hown977 (hw _ (List.mem_of_getElem? (i := 4) rfl)) (hw _ (List.mem_of_getElem? (i := 5) rfl)) (hw _ (List.mem_of_getElem? (i := 6) rfl)) e977 (g := (mkF m 84 #[.val (.int p1), .val (.int p2), .val (.int (2 : Int32)), .val (.int c_949), .val (.int c_951), .val (.int c_953), .val (.int (p2 &&& (255 : Int32))), .val (.int (((p2.toUInt32 >>> ((8 : Int32) &&& 31).toUInt32).toInt32) &&& (255 : Int32))), .val (.int (((p2.toUInt32 >>> ((16 : Int32) &&& 31).toUInt32).toInt32) &&& (255 : Int32))), .val (.ref b955), .unset, .unset] [])) rfl (hb hby at_84) (by decide) (by decide)
    obtain ⟨b983, g983⟩ : ∃ z, z = h977.size := ⟨_, rfl⟩
    rw [← g983] at A983 D983 st983
    have F984 : Exa Z h977 b955 "java/lang/String" := (F974.keep r977_0)
    have ne985 : b955 ≠ b983 := Nat.ne_of_lt (Nat.lt_of_lt_of_le F984.lt (Nat.le_of_eq g983.symm))
    have F986 : Arv Z h977 r_964 kk_964 .char (6 : Int32) [(.int c_949), (.int c_951), (.int (32 : Int32)), (.int (p2 &&& (255 : Int32))), (.int (((p2.toUInt32 >>> ((8 : Int32) &&& 31).toUInt32).toInt32) &&& (255 : Int32))), (.int (((p2.toUInt32 >>> ((16 : Int32) &&& 31).toUInt32).toInt32) &&& (255 : Int32)))] (.int (0 : Int32)) := (r964_2.keep r977_0 (ninS (Ne.symm ne966) nin0))
    have ne987 : r_964 ≠ b983 := Nat.ne_of_lt (Nat.lt_of_lt_of_le F986.lt (Nat.le_of_eq g983.symm))
    have ne988 : t_977 ≠ b983 := Nat.ne_of_lt (Nat.lt_of_lt_of_le r977_3.lt (Nat.le_of_eq g983.symm))
    have g989 : n0 ≤ b983 := Nat.le_trans (own_le O979) (Nat.le_of_eq g983.symm)
    have z990 : h0.size ≤ b983 := Nat.le_trans K980.1 (Nat.le_of_eq g983.symm)
    have O991 := Old.ext O979 E983
    have hk992 := Nat.le_trans hk977 E983.1
    have K993 : Keep h0 h983 [] := K980.ext E983
    have c994 := CHr.ext E983 C982.1
    have C995 := CHr.trans C982 c994
    have F996 : Fld Z h983 b983 "java/lang/String" "coder" "B" (.int (0 : Int32)) := D983 (Or.inr (hw _ (List.mem_of_getElem? (i := 34) rfl))) (ty := .byte) (by decide)
    have F997 : Fld Z h983 b983 "java/lang/String" "value" "[B" .null := D983 (Or.inr (hw _ (List.mem_of_getElem? (i := 36) rfl))) (ty := (.array .byte)) (by decide)
    refine WinW.to T983 (mkF m 87 #[.val (.int p1), .val (.int p2), .val (.int (2 : Int32)), .val (.int c_949), .val (.int c_951), .val (.int c_953), .val (.int (p2 &&& (255 : Int32))), .val (.int (((p2.toUInt32 >>> ((8 : Int32) &&& 31).toUInt32).toInt32) &&& (255 : Int32))), .val (.int (((p2.toUInt32 >>> ((16 : Int32) &&& 31).toUInt32).toInt32) &&& (255 : Int32))), .val (.ref b955), .unset, .unset] [(.ref b983)]) (fun _ k => st983 _ k) ?_
    refine WinW.to T983 (mkF m 88 #[.val (.int p1), .val (.int p2), .val (.int (2 : Int32)), .val (.int c_949), .val (.int c_951), .val (.int c_953), .val (.int (p2 &&& (255 : Int32))), .val (.int (((p2.toUInt32 >>> ((8 : Int32) &&& 31).toUInt32).toInt32) &&& (255 : Int32))), .val (.int (((p2.toUInt32 >>> ((16 : Int32) &&& 31).toUInt32).toInt32) &&& (255 : Int32))), .val (.ref b955), .unset, .unset] [(.ref b983), (.ref b983)]) (fun _ k => XS.dup X983.here hx rfl (hb hby at_87) rfl rfl k) ?_
    refine WinW.to T983 (mkF m 89 #[.val (.int p1), .val (.int p2), .val (.int (2 : Int32)), .val (.int c_949), .val (.int c_951), .val (.int c_953), .val (.int (p2 &&& (255 : Int32))), .val (.int (((p2.toUInt32 >>> ((8 : Int32) &&& 31).toUInt32).toInt32) &&& (255 : Int32))), .val (.int (((p2.toUInt32 >>> ((16 : Int32) &&& 31).toUInt32).toInt32) &&& (255 : Int32))), .val (.ref b955), .unset, .unset] [(.int (2 : Int32)), (.ref b983), (.ref b983)]) (fun _ k => XS.iloadN X983.here hx rfl (hb hby at_88) rfl k) ?_
    refine WinW.to T983 (mkF m 90 #[.val (.int p1), .val (.int p2), .val (.int (2 : Int32)), .val (.int c_949), .val (.int c_951), .val (.int c_953), .val (.int (p2 &&& (255 : Int32))), .val (.int (((p2.toUInt32 >>> ((8 : Int32) &&& 31).toUInt32).toInt32) &&& (255 : Int32))), .val (.int (((p2.toUInt32 >>> ((16 : Int32) &&& 31).toUInt32).toInt32) &&& (255 : Int32))), .val (.ref b955), .unset, .unset] [(.int c_949), (.int (2 : Int32)), (.ref b983), (.ref b983)]) (fun _ k => XS.iloadN X983.here hx rfl (hb hby at_89) rfl k) ?_
    refine WinW.to T983 (mkF m 92 #[.val (.int p1), .val (.int p2), .val (.int (2 : Int32)), .val (.int c_949), .val (.int c_951), .val (.int c_953), .val (.int (p2 &&& (255 : Int32))), .val (.int (((p2.toUInt32 >>> ((8 : Int32) &&& 31).toUInt32).toInt32) &&& (255 : Int32))), .val (.int (((p2.toUInt32 >>> ((16 : Int32) &&& 31).toUInt32).toInt32) &&& (255 : Int32))), .val (.ref b955), .unset, .unset] [(.int c_951), (.int c_949), (.int (2 : Int32)), (.ref b983), (.ref b983)]) (fun _ k => XS.iload X983.here hx rfl (hb hby at_90) rfl k) ?_
    refine WinW.to T983 (mkF m 94 #[.val (.int p1), .val (.int p2), .val (.int (2 : Int32)), .val (.int c_949), .val (.int c_951), .val (.int c_953), .val (.int (p2 &&& (255 : Int32))), .val (.int (((p2.toUInt32 >>> ((8 : Int32) &&& 31).toUInt32).toInt32) &&& (255 : Int32))), .val (.int (((p2.toUInt32 >>> ((16 : Int32) &&& 31).toUInt32).toInt32) &&& (255 : Int32))), .val (.ref b955), .unset, .unset] [(.int c_953), (.int c_951), (.int c_949), (.int (2 : Int32)), (.ref b983), (.ref b983)]) (fun _ k => XS.iload X983.here hx rfl (hb hby at_92) rfl k) ?_
    obtain ⟨T998, h998, v998, L998, X998, e998, ⟨r_998, kk_998, rfl, N998q, r998_0, r998_1, r998_2⟩, st998⟩ := N.static X983 hx hZ977 (y := (⟨"com/example/grantgate/grantgate/server/HeadMethodPinLaw", "prefix", "(ICCC)[C"⟩ : MethodName)) hown977 (hw _ (List.mem_of_getElem? (i := 37) rfl)) (hw _ (List.mem_of_getElem? (i := 38) rfl)) (hw _ (List.mem_of_getElem? (i := 2) rfl)) (hw _ (List.mem_of_getElem? (i := 39) rfl)) (by decide) (pref2 l Z a0 hw c_949 c_951 c_953 h983 n0 O991 r949_1 r951_1 r953_1) e983 (g := (mkF m 94 #[.val (.int p1), .val (.int p2), .val (.int (2 : Int32)), .val (.int c_949), .val (.int c_951), .val (.int c_953), .val (.int (p2 &&& (255 : Int32))), .val (.int (((p2.toUInt32 >>> ((8 : Int32) &&& 31).toUInt32).toInt32) &&& (255 : Int32))), .val (.int (((p2.toUInt32 >>> ((16 : Int32) &&& 31).toUInt32).toInt32) &&& (255 : Int32))), .val (.ref b955), .unset, .unset] [(.int c_953), (.int c_951), (.int c_949), (.int (2 : Int32)), (.ref b983), (.ref b983)])) rfl (by rw [hml]; rfl) (argsL := [(.int (2 : Int32)), (.int c_949), (.int c_951), (.int c_953)]) (rest := [(.ref b983), (.ref b983)]) rfl (lenOf pd__ICCC__C rfl) rfl (W := 2) (by show 2 * 0 + _ ≤ _; exact Nat.le_of_eq rfl) (hb hby at_94) (by decide) (by decide) (by decide) (by decide)
    have N999 := Fr.app N978 N998q
    have F1000 : Exa Z h983 b955 "java/lang/String" := (Exa.ext E983 F984)
    have ne1001 : b955 ≠ r_998 := Nat.ne_of_lt (Nat.lt_of_lt_of_le F1000.lt r998_1)
    have F1002 : Arv Z h983 r_964 kk_964 .char (6 : Int32) [(.int c_949), (.int c_951), (.int (32 : Int32)), (.int (p2 &&& (255 : Int32))), (.int (((p2.toUInt32 >>> ((8 : Int32) &&& 31).toUInt32).toInt32) &&& (255 : Int32))), (.int (((p2.toUInt32 >>> ((16 : Int32) &&& 31).toUInt32).toInt32) &&& (255 : Int32)))] (.int (0 : Int32)) := (F986.ext E983)
    have ne1003 : r_964 ≠ r_998 := Nat.ne_of_lt (Nat.lt_of_lt_of_le F1002.lt r998_1)
    have F1004 : ArF Z h983 t_977 kb_977 .byte 6 (fun i => ((fun i => ([c_949, c_951, (32 : Int32), (p2 &&& (255 : Int32)), (((p2.toUInt32 >>> ((8 : Int32) &&& 31).toUInt32).toInt32) &&& (255 : Int32)), (((p2.toUInt32 >>> ((16 : Int32) &&& 31).toUInt32).toInt32) &&& (255 : Int32))] : List Int32).getD i (0 : Int32)) i).toInt8.toInt32) := (r977_3.ext E983)
    have ne1005 : t_977 ≠ r_998 := Nat.ne_of_lt (Nat.lt_of_lt_of_le F1004.lt r998_1)
    have ne1006 : b983 ≠ r_998 := Nat.ne_of_lt (Nat.lt_of_lt_of_le A983.lt r998_1)
    have g1007 : n0 ≤ r_998 := Nat.le_trans (own_le O991) r998_1
    have z1008 : h0.size ≤ r_998 := Nat.le_trans K993.1 r998_1
    have O1009 := Old.keep O991 r998_0 all0
    have hk1010 := Nat.le_trans hk992 r998_0.1
    have K1011 : Keep h0 h998 [] := Keep.trans K993 r998_0 all0
    have c1012 := CHr.keep r998_0 sf0 C995.1
    have C1013 := CHr.trans C995 c1012
    refine WinW.to T998 (mkF m 97 #[.val (.int p1), .val (.int p2), .val (.int (2 : Int32)), .val (.int c_949), .val (.int c_951), .val (.int c_953), .val (.int (p2 &&& (255 : Int32))), .val (.int (((p2.toUInt32 >>> ((8 : Int32) &&& 31).toUInt32).toInt32) &&& (255 : Int32))), .val (.int (((p2.toUInt32 >>> ((16 : Int32) &&& 31).toUInt32).toInt32) &&& (255 : Int32))), .val (.ref b955), .unset, .unset] [(.ref r_998), (.ref b983), (.ref b983)]) (fun _ k => st998 _ k) ?_
    have F1014 : ArF Z h998 r_998 kk_998 .char 2 (fun i => ([c_949, c_951] : List Int32).getD i (0 : Int32)) := own_arf [c_949, c_951] r998_2 rfl
    have F1015 : Exa Z h998 b983 "java/lang/String" := (A983.keep r998_0)
    have F1016 : Fld Z h998 b983 "java/lang/String" "value" "[B" .null := (F997.keep r998_0 nin0)
    have F1017 : Fld Z h998 b983 "java/lang/String" "coder" "B" (.int (0 : Int32)) := (F996.keep r998_0 nin0)
    obtain ⟨T1018, h1018, v1018, L1018, k1018, X1018, e1018, hS1018, hk1018, hZ1018, hown1018, ⟨t_1018, kb_1018, rfl, N1018q, r1018_0, r1018_1, r1018_2, r1018_3⟩, c1018, st1018⟩ := W.special X998 hS977 hk1010 hx hZ977 (y := (⟨"java/lang/String", "<init>", "([C)V"⟩ : MethodName)) rfl hown977 (hw _ (List.mem_of_getElem? (i := 11) rfl)) (hw _ (List.mem_of_getElem? (i := 12) rfl)) (hw _ (List.mem_of_getElem? (i := 6) rfl)) (hw _ (List.mem_of_getElem? (i := 13) rfl)) (by decide) (ctor1 l Z a0 hw b983 r_998 kk_998 2 (fun i => ([c_949, c_951] : List Int32).getD i (0 : Int32)) cs h998 n0 O1009 F1015 F1016 F1017 F1014 ((fun i hi => by
      match i, hi with
      | 0, _ => exact r949_2
      | 1, _ => exact r951_2)) (by decide) g989 S_CS hcs) (own_EW hw) C1013.1 e998 (g := (mkF m 97 #[.val (.int p1), .val (.int p2), .val (.int (2 : Int32)), .val (.int c_949), .val (.int c_951), .val (.int c_953), .val (.int (p2 &&& (255 : Int32))), .val (.int (((p2.toUInt32 >>> ((8 : Int32) &&& 31).toUInt32).toInt32) &&& (255 : Int32))), .val (.int (((p2.toUInt32 >>> ((16 : Int32) &&& 31).toUInt32).toInt32) &&& (255 : Int32))), .val (.ref b955), .unset, .unset] [(.ref r_998), (.ref b983), (.ref b983)])) rfl (by rw [hml]; rfl) (a := b983) (argsL := [(.ref r_998)]) (rest := [(.ref b983)]) rfl (lenOf pd___C_V rfl) rfl (W := 1) (by show 2 * 0 + _ ≤ _; exact Nat.le_of_eq rfl) (hb hby at_97) (by decide) (by decide) (by decide) (by decide)
    have N1019 := Fr.app N999 N1018q
    have O1020 := Old.keep O1009 r1018_0 (allS g989 all0)
    have K1021 : Keep h0 h1018 [] := Keep.trans K1011 r1018_0 (allS (Or.inr z990) all0)
    have c1022 := c1018
    have C1023 := CHr.trans C1013 c1022
    refine WinW.to T1018 (mkF m 100 #[.val (.int p1), .val (.int p2), .val (.int (2 : Int32)), .val (.int c_949), .val (.int c_951), .val (.int c_953), .val (.int (p2 &&& (255 : Int32))), .val (.int (((p2.toUInt32 >>> ((8 : Int32) &&& 31).toUInt32).toInt32) &&& (255 : Int32))), .val (.int (((p2.toUInt32 >>> ((16 : Int32) &&& 31).toUInt32).toInt32) &&& (255 : Int32))), .val (.ref b955), .unset, .unset] [(.ref b983)]) (fun _ k => st1018 _ k) ?_
    refine WinW.to T1018 (mkF m 102 #[.val (.int p1), .val (.int p2), .val (.int (2 : Int32)), .val (.int c_949), .val (.int c_951), .val (.int c_953), .val (.int (p2 &&& (255 : Int32))), .val (.int (((p2.toUInt32 >>> ((8 : Int32) &&& 31).toUInt32).toInt32) &&& (255 : Int32))), .val (.int (((p2.toUInt32 >>> ((16 : Int32) &&& 31).toUInt32).toInt32) &&& (255 : Int32))), .val (.ref b955), .val (.ref b983), .unset] []) (fun _ k => XS.astore X1018.here hx rfl (hb hby at_100) rfl rfl (l' := #[.val (.int p1), .val (.int p2), .val (.int (2 : Int32)), .val (.int c_949), .val (.int c_951), .val (.int c_953), .val (.int (p2 &&& (255 : Int32))), .val (.int (((p2.toUInt32 >>> ((8 : Int32) &&& 31).toUInt32).toInt32) &&& (255 : Int32))), .val (.int (((p2.toUInt32 >>> ((16 : Int32) &&& 31).toUInt32).toInt32) &&& (255 : Int32))), .val (.ref b955), .val (.ref b983), .unset]) rfl k) ?_
    obtain ⟨T1024, h1024, X1024, e1024, E1024, A1024, D1024, -, st1024⟩ := newO X1018 hx hZ1018 hown1018 (hw _ (List.mem_of_getElem? (i := 43) rfl)) (hw _ (List.mem_of_getElem? (i := 44) rfl)) (hw _ (List.mem_of_getElem? (i := 45) rfl)) e1018 (g := (mkF m 102 #[.val (.int p1), .val (.int p2), .val (.int (2 : Int32)), .val (.int c_949), .val (.int c_951), .val (.int c_953), .val (.int (p2 &&& (255 : Int32))), .val (.int (((p2.toUInt32 >>> ((8 : Int32) &&& 31).toUInt32).toInt32) &&& (255 : Int32))), .val (.int (((p2.toUInt32 >>> ((16 : Int32) &&& 31).toUInt32).toInt32) &&& (255 : Int32))), .val (.ref b955), .val (.ref b983), .unset] [])) rfl (hb hby at_102) (by decide) (by decide)
    obtain ⟨b1024, g1024⟩ : ∃ z, z = h1018.size := ⟨_, rfl⟩
    rw [← g1024] at A1024 D1024 st1024
    have F1025 : Exa Z h1018 b955 "java/lang/String" := ((F1000.keep r998_0).keep r1018_0)
    have ne1026 : b955 ≠ b1024 := Nat.ne_of_lt (Nat.lt_of_lt_of_le F1025.lt (Nat.le_of_eq g1024.symm))
    have F1027 : Arv Z h1018 r_964 kk_964 .char (6 : Int32) [(.int c_949), (.int c_951), (.int (32 : Int32)), (.int (p2 &&& (255 : Int32))), (.int (((p2.toUInt32 >>> ((8 : Int32) &&& 31).toUInt32).toInt32) &&& (255 : Int32))), (.int (((p2.toUInt32 >>> ((16 : Int32) &&& 31).toUInt32).toInt32) &&& (255 : Int32)))] (.int (0 : Int32)) := ((F1002.keep r998_0 nin0).keep r1018_0 (ninS ne987 nin0))
    have ne1028 : r_964 ≠ b1024 := Nat.ne_of_lt (Nat.lt_of_lt_of_le F1027.lt (Nat.le_of_eq g1024.symm))
    have F1029 : ArF Z h1018 t_977 kb_977 .byte 6 (fun i => ((fun i => ([c_949, c_951, (32 : Int32), (p2 &&& (255 : Int32)), (((p2.toUInt32 >>> ((8 : Int32) &&& 31).toUInt32).toInt32) &&& (255 : Int32)), (((p2.toUInt32 >>> ((16 : Int32) &&& 31).toUInt32).toInt32) &&& (255 : Int32))] : List Int32).getD i (0 : Int32)) i).toInt8.toInt32) := ((F1004.keep r998_0 nin0).keep r1018_0 (ninS ne988 nin0))
    have ne1030 : t_977 ≠ b1024 := Nat.ne_of_lt (Nat.lt_of_lt_of_le F1029.lt (Nat.le_of_eq g1024.symm))
    have F1031 : Exa Z h1018 b983 "java/lang/String" := (F1015.keep r1018_0)
    have ne1032 : b983 ≠ b1024 := Nat.ne_of_lt (Nat.lt_of_lt_of_le F1031.lt (Nat.le_of_eq g1024.symm))
    have F1033 : Arv Z h1018 r_998 kk_998 .char (2 : Int32) [(.int c_949), (.int c_951)] (.int (0 : Int32)) := (r998_2.keep r1018_0 (ninS (Ne.symm ne1006) nin0))
    have ne1034 : r_998 ≠ b1024 := Nat.ne_of_lt (Nat.lt_of_lt_of_le F1033.lt (Nat.le_of_eq g1024.symm))
    have ne1035 : t_1018 ≠ b1024 := Nat.ne_of_lt (Nat.lt_of_lt_of_le r1018_3.lt (Nat.le_of_eq g1024.symm))
    have g1036 : n0 ≤ b1024 := Nat.le_trans (own_le O1020) (Nat.le_of_eq g1024.symm)
    have z1037 : h0.size ≤ b1024 := Nat.le_trans K1021.1 (Nat.le_of_eq g1024.symm)
    have O1038 := Old.ext O1020 E1024
    have hk1039 := Nat.le_trans hk1018 E1024.1
    have K1040 : Keep h0 h1024 [] := K1021.ext E1024
    have c1041 := CHr.ext E1024 C1023.1
    have C1042 := CHr.trans C1023 c1041
    have F1043 : Fld Z h1024 b1024 "com/example/grantgate/grantgate/server/MessageReader$Head" "startLine" "Ljava/lang/String;" .null := D1024 (Or.inr (hw _ (List.mem_of_getElem? (i := 80) rfl))) (ty := (.object "java/lang/String")) (by decide)
    have F1044 : Fld Z h1024 b1024 "com/example/grantgate/grantgate/server/MessageReader$Head" "fields" "Ljava/util/List;" .null := D1024 (Or.inr (hw _ (List.mem_of_getElem? (i := 82) rfl))) (ty := (.object "java/util/List")) (by decide)
    refine WinW.to T1024 (mkF m 105 #[.val (.int p1), .val (.int p2), .val (.int (2 : Int32)), .val (.int c_949), .val (.int c_951), .val (.int c_953), .val (.int (p2 &&& (255 : Int32))), .val (.int (((p2.toUInt32 >>> ((8 : Int32) &&& 31).toUInt32).toInt32) &&& (255 : Int32))), .val (.int (((p2.toUInt32 >>> ((16 : Int32) &&& 31).toUInt32).toInt32) &&& (255 : Int32))), .val (.ref b955), .val (.ref b983), .unset] [(.ref b1024)]) (fun _ k => st1024 _ k) ?_
    refine WinW.to T1024 (mkF m 106 #[.val (.int p1), .val (.int p2), .val (.int (2 : Int32)), .val (.int c_949), .val (.int c_951), .val (.int c_953), .val (.int (p2 &&& (255 : Int32))), .val (.int (((p2.toUInt32 >>> ((8 : Int32) &&& 31).toUInt32).toInt32) &&& (255 : Int32))), .val (.int (((p2.toUInt32 >>> ((16 : Int32) &&& 31).toUInt32).toInt32) &&& (255 : Int32))), .val (.ref b955), .val (.ref b983), .unset] [(.ref b1024), (.ref b1024)]) (fun _ k => XS.dup X1024.here hx rfl (hb hby at_105) rfl rfl k) ?_
    refine WinW.to T1024 (mkF m 108 #[.val (.int p1), .val (.int p2), .val (.int (2 : Int32)), .val (.int c_949), .val (.int c_951), .val (.int c_953), .val (.int (p2 &&& (255 : Int32))), .val (.int (((p2.toUInt32 >>> ((8 : Int32) &&& 31).toUInt32).toInt32) &&& (255 : Int32))), .val (.int (((p2.toUInt32 >>> ((16 : Int32) &&& 31).toUInt32).toInt32) &&& (255 : Int32))), .val (.ref b955), .val (.ref b983), .unset] [(.ref b955), (.ref b1024), (.ref b1024)]) (fun _ k => XS.aload X1024.here hx rfl (hb hby at_106) rfl rfl k) ?_
    obtain ⟨T1045, h1045, X1045, e1045, E1045, A1045, D1045, -, st1045⟩ := newO X1024 hx hZ1018 hown1018 (hw _ (List.mem_of_getElem? (i := 46) rfl)) (hw _ (List.mem_of_getElem? (i := 47) rfl)) (hw _ (List.mem_of_getElem? (i := 48) rfl)) e1024 (g := (mkF m 108 #[.val (.int p1), .val (.int p2), .val (.int (2 : Int32)), .val (.int c_949), .val (.int c_951), .val (.int c_953), .val (.int (p2 &&& (255 : Int32))), .val (.int (((p2.toUInt32 >>> ((8 : Int32) &&& 31).toUInt32).toInt32) &&& (255 : Int32))), .val (.int (((p2.toUInt32 >>> ((16 : Int32) &&& 31).toUInt32).toInt32) &&& (255 : Int32))), .val (.ref b955), .val (.ref b983), .unset] [(.ref b955), (.ref b1024), (.ref b1024)])) rfl (hb hby at_108) (by decide) (by decide)
    obtain ⟨b1045, g1045⟩ : ∃ z, z = h1024.size := ⟨_, rfl⟩
    rw [← g1045] at A1045 D1045 st1045
    have F1046 : Exa Z h1024 b955 "java/lang/String" := (Exa.ext E1024 F1025)
    have ne1047 : b955 ≠ b1045 := Nat.ne_of_lt (Nat.lt_of_lt_of_le F1046.lt (Nat.le_of_eq g1045.symm))
    have F1048 : Arv Z h1024 r_964 kk_964 .char (6 : Int32) [(.int c_949), (.int c_951), (.int (32 : Int32)), (.int (p2 &&& (255 : Int32))), (.int (((p2.toUInt32 >>> ((8 : Int32) &&& 31).toUInt32).toInt32) &&& (255 : Int32))), (.int (((p2.toUInt32 >>> ((16 : Int32) &&& 31).toUInt32).toInt32) &&& (255 : Int32)))] (.int (0 : Int32)) := (F1027.ext E1024)
    have ne1049 : r_964 ≠ b1045 := Nat.ne_of_lt (Nat.lt_of_lt_of_le F1048.lt (Nat.le_of_eq g1045.symm))
    have F1050 : ArF Z h1024 t_977 kb_977 .byte 6 (fun i => ((fun i => ([c_949, c_951, (32 : Int32), (p2 &&& (255 : Int32)), (((p2.toUInt32 >>> ((8 : Int32) &&& 31).toUInt32).toInt32) &&& (255 : Int32)), (((p2.toUInt32 >>> ((16 : Int32) &&& 31).toUInt32).toInt32) &&& (255 : Int32))] : List Int32).getD i (0 : Int32)) i).toInt8.toInt32) := (F1029.ext E1024)
    have ne1051 : t_977 ≠ b1045 := Nat.ne_of_lt (Nat.lt_of_lt_of_le F1050.lt (Nat.le_of_eq g1045.symm))
    have F1052 : Exa Z h1024 b983 "java/lang/String" := (Exa.ext E1024 F1031)
    have ne1053 : b983 ≠ b1045 := Nat.ne_of_lt (Nat.lt_of_lt_of_le F1052.lt (Nat.le_of_eq g1045.symm))
    have F1054 : Arv Z h1024 r_998 kk_998 .char (2 : Int32) [(.int c_949), (.int c_951)] (.int (0 : Int32)) := (F1033.ext E1024)
    have ne1055 : r_998 ≠ b1045 := Nat.ne_of_lt (Nat.lt_of_lt_of_le F1054.lt (Nat.le_of_eq g1045.symm))
    have F1056 : ArF Z h1024 t_1018 kb_1018 .byte 2 (fun i => ((fun i => ([c_949, c_951] : List Int32).getD i (0 : Int32)) i).toInt8.toInt32) := (r1018_3.ext E1024)
    have ne1057 : t_1018 ≠ b1045 := Nat.ne_of_lt (Nat.lt_of_lt_of_le F1056.lt (Nat.le_of_eq g1045.symm))
    have ne1058 : b1024 ≠ b1045 := Nat.ne_of_lt (Nat.lt_of_lt_of_le A1024.lt (Nat.le_of_eq g1045.symm))
    have g1059 : n0 ≤ b1045 := Nat.le_trans (own_le O1038) (Nat.le_of_eq g1045.symm)
    have z1060 : h0.size ≤ b1045 := Nat.le_trans K1040.1 (Nat.le_of_eq g1045.symm)
    have O1061 := Old.ext O1038 E1045
    have hk1062 := Nat.le_trans hk1039 E1045.1
    have K1063 : Keep h0 h1045 [] := K1040.ext E1045
    have c1064 := CHr.ext E1045 C1042.1
    have C1065 := CHr.trans C1042 c1064
    have F1066 : Fld Z h1045 b1045 "java/util/AbstractList" "modCount" "I" (.int (0 : Int32)) := D1045 (Or.inl (hw _ (List.mem_of_getElem? (i := 66) rfl))) (ty := .int) (by decide)
    have F1067 : Fld Z h1045 b1045 "java/util/ArrayList" "elementData" "[Ljava/lang/Object;" .null := D1045 (Or.inl (hw _ (List.mem_of_getElem? (i := 69) rfl))) (ty := (.array (.object "java/lang/Object"))) (by decide)
    refine WinW.to T1045 (mkF m 111 #[.val (.int p1), .val (.int p2), .val (.int (2 : Int32)), .val (.int c_949), .val (.int c_951), .val (.int c_953), .val (.int (p2 &&& (255 : Int32))), .val (.int (((p2.toUInt32 >>> ((8 : Int32) &&& 31).toUInt32).toInt32) &&& (255 : Int32))), .val (.int (((p2.toUInt32 >>> ((16 : Int32) &&& 31).toUInt32).toInt32) &&& (255 : Int32))), .val (.ref b955), .val (.ref b983), .unset] [(.ref b1045), (.ref b955), (.ref b1024), (.ref b1024)]) (fun _ k => st1045 _ k) ?_
    refine WinW.to T1045 (mkF m 112 #[.val (.int p1), .val (.int p2), .val (.int (2 : Int32)), .val (.int c_949), .val (.int c_951), .val (.int c_953), .val (.int (p2 &&& (255 : Int32))), .val (.int (((p2.toUInt32 >>> ((8 : Int32) &&& 31).toUInt32).toInt32) &&& (255 : Int32))), .val (.int (((p2.toUInt32 >>> ((16 : Int32) &&& 31).toUInt32).toInt32) &&& (255 : Int32))), .val (.ref b955), .val (.ref b983), .unset] [(.ref b1045), (.ref b1045), (.ref b955), (.ref b1024), (.ref b1024)]) (fun _ k => XS.dup X1045.here hx rfl (hb hby at_111) rfl rfl k) ?_
    obtain ⟨T1068, h1068, v1068, L1068, X1068, e1068, ⟨rfl, N1068q, r1068_0⟩, st1068⟩ := N.special X1045 hx hZ1018 (y := (⟨"java/util/ArrayList", "<init>", "()V"⟩ : MethodName)) rfl hown1018 (hw _ (List.mem_of_getElem? (i := 49) rfl)) (hw _ (List.mem_of_getElem? (i := 50) rfl)) (hw _ (List.mem_of_getElem? (i := 48) rfl)) (hw _ (List.mem_of_getElem? (i := 51) rfl)) (by decide) (mkAL l Z a0 hw b1045 x2 h1045 n0 O1061 A1045 F1066 F1067 g1059 S_DE hx2) e1045 (g := (mkF m 112 #[.val (.int p1), .val (.int p2), .val (.int (2 : Int32)), .val (.int c_949), .val (.int c_951), .val (.int c_953), .val (.int (p2 &&& (255 : Int32))), .val (.int (((p2.toUInt32 >>> ((8 : Int32) &&& 31).toUInt32).toInt32) &&& (255 : Int32))), .val (.int (((p2.toUInt32 >>> ((16 : Int32) &&& 31).toUInt32).toInt32) &&& (255 : Int32))), .val (.ref b955), .val (.ref b983), .unset] [(.ref b1045), (.ref b1045), (.ref b955), (.ref b1024), (.ref b1024)])) rfl (by rw [hml]; rfl) (a := b1045) (argsL := []) (rest := [(.ref b1045), (.ref b955), (.ref b1024), (.ref b1024)]) rfl (lenOf pd___V rfl) rfl (W := 4) (by show 2 * 0 + _ ≤ _; exact Nat.le_of_eq rfl) (hb hby at_112) (by decide) (by decide) (by decide) (by decide)
    have N1069 := Fr.app N1019 N1068q
    have O1070 := Old.keep O1061 r1068_0 (allS g1059 all0)
    have hk1071 := Nat.le_trans hk1062 r1068_0.1
    have K1072 : Keep h0 h1068 [] := Keep.trans K1063 r1068_0 (allS (Or.inr z1060) all0)
    have c1073 := CHr.keep r1068_0 (sfS (Safe.exa hZ1018.alike A1045 (by decide) (by decide)) sf0) C1065.1
    have C1074 := CHr.trans C1065 c1073
    refine WinW.to T1068 (mkF m 115 #[.val (.int p1), .val (.int p2), .val (.int (2 : Int32)), .val (.int c_949), .val (.int c_951), .val (.int c_953), .val (.int (p2 &&& (255 : Int32))), .val (.int (((p2.toUInt32 >>> ((8 : Int32) &&& 31).toUInt32).toInt32) &&& (255 : Int32))), .val (.int (((p2.toUInt32 >>> ((16 : Int32) &&& 31).toUInt32).toInt32) &&& (255 : Int32))), .val (.ref b955), .val (.ref b983), .unset] [(.ref b1045), (.ref b955), (.ref b1024), (.ref b1024)]) (fun _ k => st1068 _ k) ?_
    have F1075 : Exa Z h1068 b1024 "com/example/grantgate/grantgate/server/MessageReader$Head" := ((Exa.ext E1045 A1024).keep r1068_0)
    have F1076 : Fld Z h1068 b1024 "com/example/grantgate/grantgate/server/MessageReader$Head" "startLine" "Ljava/lang/String;" .null := ((Fld.ext E1045 F1043).keep r1068_0 (ninS ne1058 nin0))
    have F1077 : Fld Z h1068 b1024 "com/example/grantgate/grantgate/server/MessageReader$Head" "fields" "Ljava/util/List;" .null := ((Fld.ext E1045 F1044).keep r1068_0 (ninS ne1058 nin0))
    obtain ⟨T1078, h1078, v1078, L1078, X1078, e1078, ⟨rfl, N1078q, r1078_0, r1078_1⟩, st1078⟩ := N.special X1068 hx hZ1018 (y := (⟨"com/example/grantgate/grantgate/server/MessageReader$Head", "<init>", "(Ljava/lang/String;Ljava/util/List;)V"⟩ : MethodName)) rfl hown1018 (hw _ (List.mem_of_getElem? (i := 70) rfl)) (hw _ (List.mem_of_getElem? (i := 71) rfl)) (hw _ (List.mem_of_getElem? (i := 45) rfl)) (hw _ (List.mem_of_getElem? (i := 72) rfl)) (by decide) (mkHead l Z a0 hw b1024 b955 b1045 h1068 n0 O1070 F1075 F1076 F1077 g1036) e1068 (g := (mkF m 115 #[.val (.int p1), .val (.int p2), .val (.int (2 : Int32)), .val (.int c_949), .val (.int c_951), .val (.int c_953), .val (.int (p2 &&& (255 : Int32))), .val (.int (((p2.toUInt32 >>> ((8 : Int32) &&& 31).toUInt32).toInt32) &&& (255 : Int32))), .val (.int (((p2.toUInt32 >>> ((16 : Int32) &&& 31).toUInt32).toInt32) &&& (255 : Int32))), .val (.ref b955), .val (.ref b983), .unset] [(.ref b1045), (.ref b955), (.ref b1024), (.ref b1024)])) rfl (by rw [hml]; rfl) (a := b1024) (argsL := [(.ref b955), (.ref b1045)]) (rest := [(.ref b1024)]) rfl (lenOf pd__Ljava_lang_String_Ljava_util_List__V rfl) rfl (W := 1) (by show 2 * 0 + _ ≤ _; exact Nat.le_of_eq rfl) (hb hby at_115) (by decide) (by decide) (by decide) (by decide)
    have N1079 := Fr.app N1069 N1078q
    have O1080 := Old.keep O1070 r1078_0 (allS g1036 all0)
    have hk1081 := Nat.le_trans hk1071 r1078_0.1
    have K1082 : Keep h0 h1078 [] := Keep.trans K1072 r1078_0 (allS (Or.inr z1037) all0)
    have c1083 := CHr.keep r1078_0 (sfS (Safe.exa hZ1018.alike F1075 (by decide) (by decide)) sf0) C1074.1
    have C1084 := CHr.trans C1074 c1083
    refine WinW.to T1078 (mkF m 118 #[.val (.int p1), .val (.int p2), .val (.int (2 : Int32)), .val (.int c_949), .val (.int c_951), .val (.int c_953), .val (.int (p2 &&& (255 : Int32))), .val (.int (((p2.toUInt32 >>> ((8 : Int32) &&& 31).toUInt32).toInt32) &&& (255 : Int32))), .val (.int (((p2.toUInt32 >>> ((16 : Int32) &&& 31).toUInt32).toInt32) &&& (255 : Int32))), .val (.ref b955), .val (.ref b983), .unset] [(.ref b1024)]) (fun _ k => st1078 _ k) ?_
    refine WinW.to T1078 (mkF m 120 #[.val (.int p1), .val (.int p2), .val (.int (2 : Int32)), .val (.int c_949), .val (.int c_951), .val (.int c_953), .val (.int (p2 &&& (255 : Int32))), .val (.int (((p2.toUInt32 >>> ((8 : Int32) &&& 31).toUInt32).toInt32) &&& (255 : Int32))), .val (.int (((p2.toUInt32 >>> ((16 : Int32) &&& 31).toUInt32).toInt32) &&& (255 : Int32))), .val (.ref b955), .val (.ref b983), .val (.ref b1024)] []) (fun _ k => XS.astore X1078.here hx rfl (hb hby at_118) rfl rfl (l' := #[.val (.int p1), .val (.int p2), .val (.int (2 : Int32)), .val (.int c_949), .val (.int c_951), .val (.int c_953), .val (.int (p2 &&& (255 : Int32))), .val (.int (((p2.toUInt32 >>> ((8 : Int32) &&& 31).toUInt32).toInt32) &&& (255 : Int32))), .val (.int (((p2.toUInt32 >>> ((16 : Int32) &&& 31).toUInt32).toInt32) &&& (255 : Int32))), .val (.ref b955), .val (.ref b983), .val (.ref b1024)]) rfl k) ?_
    refine WinW.to T1078 (mkF m 122 #[.val (.int p1), .val (.int p2), .val (.int (2 : Int32)), .val (.int c_949), .val (.int c_951), .val (.int c_953), .val (.int (p2 &&& (255 : Int32))), .val (.int (((p2.toUInt32 >>> ((8 : Int32) &&& 31).toUInt32).toInt32) &&& (255 : Int32))), .val (.int (((p2.toUInt32 >>> ((16 : Int32) &&& 31).toUInt32).toInt32) &&& (255 : Int32))), .val (.ref b955), .val (.ref b983), .val (.ref b1024)] [(.ref b983)]) (fun _ k => XS.aload X1078.here hx rfl (hb hby at_120) rfl rfl k) ?_
    refine WinW.to T1078 (mkF m 124 #[.val (.int p1), .val (.int p2), .val (.int (2 : Int32)), .val (.int c_949), .val (.int c_951), .val (.int c_953), .val (.int (p2 &&& (255 : Int32))), .val (.int (((p2.toUInt32 >>> ((8 : Int32) &&& 31).toUInt32).toInt32) &&& (255 : Int32))), .val (.int (((p2.toUInt32 >>> ((16 : Int32) &&& 31).toUInt32).toInt32) &&& (255 : Int32))), .val (.ref b955), .val (.ref b983), .val (.ref b1024)] [(.ref b1024), (.ref b983)]) (fun _ k => XS.aload X1078.here hx rfl (hb hby at_122) rfl rfl k) ?_
    have F1085 : Exa Z h1078 b955 "java/lang/String" := (((Exa.ext E1045 F1046).keep r1068_0).keep r1078_0)
    have F1086 : Fld Z h1078 b955 "java/lang/String" "value" "[B" (.ref t_977) := (((Fld.ext E1045 (Fld.ext E1024 (((Fld.ext E983 r977_1).keep r998_0 nin0).keep r1018_0 (ninS ne985 nin0)))).keep r1068_0 (ninS ne1047 nin0)).keep r1078_0 (ninS ne1026 nin0))
    have F1087 : Fld Z h1078 b955 "java/lang/String" "coder" "B" (.int (0 : Int32)) := (((Fld.ext E1045 (Fld.ext E1024 (((Fld.ext E983 r977_2).keep r998_0 nin0).keep r1018_0 (ninS ne985 nin0)))).keep r1068_0 (ninS ne1047 nin0)).keep r1078_0 (ninS ne1026 nin0))
    have F1088 : ArF Z h1078 t_977 kb_977 .byte 6 (fun i => ((fun i => ([c_949, c_951, (32 : Int32), (p2 &&& (255 : Int32)), (((p2.toUInt32 >>> ((8 : Int32) &&& 31).toUInt32).toInt32) &&& (255 : Int32)), (((p2.toUInt32 >>> ((16 : Int32) &&& 31).toUInt32).toInt32) &&& (255 : Int32))] : List Int32).getD i (0 : Int32)) i).toInt8.toInt32) := (((F1050.ext E1045).keep r1068_0 (ninS ne1051 nin0)).keep r1078_0 (ninS ne1030 nin0))
    have F1090 : Exa Z h1078 b1024 "com/example/grantgate/grantgate/server/MessageReader$Head" := (F1075.keep r1078_0)
    obtain ⟨T1089, h1089, v1089, L1089, k1089, X1089, e1089, hS1089, hk1089, hZ1089, hown1089, ⟨r_1089, t2_1089, k2_1089, rfl, N1089q, r1089_0, r1089_1, r1089_2, r1089_3, r1089_4⟩, c1089, st1089⟩ := W.virtual X1078 hS1018 hk1081 hx hZ1018 (y := (⟨"com/example/grantgate/grantgate/server/MessageReader$Head", "method", "()Ljava/lang/String;"⟩ : MethodName)) (z := (⟨"com/example/grantgate/grantgate/server/MessageReader$Head", "method", "()Ljava/lang/String;"⟩ : MethodName)) hown1018 (hw _ (List.mem_of_getElem? (i := 83) rfl)) (hw _ (List.mem_of_getElem? (i := 84) rfl)) (notFace_of_selects (args := #[]) (mvT hZ1018 (hw _ (List.mem_of_getElem? (i := 86) rfl)))) (hw _ (List.mem_of_getElem? (i := 86) rfl)) (hw _ (List.mem_of_getElem? (i := 85) rfl)) (hw _ (List.mem_of_getElem? (i := 45) rfl)) (hw _ (List.mem_of_getElem? (i := 87) rfl)) (by decide) (headM l Z a0 hw b1024 b955 t_977 kb_977 6 (fun i => ((fun i => ([c_949, c_951, (32 : Int32), (p2 &&& (255 : Int32)), (((p2.toUInt32 >>> ((8 : Int32) &&& 31).toUInt32).toInt32) &&& (255 : Int32)), (((p2.toUInt32 >>> ((16 : Int32) &&& 31).toUInt32).toInt32) &&& (255 : Int32))] : List Int32).getD i (0 : Int32)) i).toInt8.toInt32) 2 cs x1 h1078 n0 O1080 r1078_1 F1085 F1086 F1087 F1088 (by decide) ((fun i hi => by
      match i, hi with
      | 0, _ => exact r949_3
      | 1, _ => exact r951_3)) (show (32 : Int32).toInt8.toInt32 = (32 : Int32) from by decide) (by decide) S_CS hcs S_SI hx1) (own_EW hw) C1084.1 e1078 F1090 (g := (mkF m 124 #[.val (.int p1), .val (.int p2), .val (.int (2 : Int32)), .val (.int c_949), .val (.int c_951), .val (.int c_953), .val (.int (p2 &&& (255 : Int32))), .val (.int (((p2.toUInt32 >>> ((8 : Int32) &&& 31).toUInt32).toInt32) &&& (255 : Int32))), .val (.int (((p2.toUInt32 >>> ((16 : Int32) &&& 31).toUInt32).toInt32) &&& (255 : Int32))), .val (.ref b955), .val (.ref b983), .val (.ref b1024)] [(.ref b1024), (.ref b983)])) rfl (by rw [hml]; rfl) (argsL := []) (rest := [(.ref b983)]) rfl (lenOf pd___Ljava_lang_String_ rfl) rfl (W := 1) (by show 2 * 0 + _ ≤ _; exact Nat.le_of_eq rfl) (hb hby at_124) (by decide) (by decide) (by decide) (by decide)
    have N1091 := Fr.app N1079 N1089q
    have O1092 := Old.keep O1080 r1089_0 all0
    have K1093 : Keep h0 h1089 [] := Keep.trans K1082 r1089_0 all0
    have c1094 := c1089
    have C1095 := CHr.trans C1084 c1094
    refine WinW.to T1089 (mkF m 127 #[.val (.int p1), .val (.int p2), .val (.int (2 : Int32)), .val (.int c_949), .val (.int c_951), .val (.int c_953), .val (.int (p2 &&& (255 : Int32))), .val (.int (((p2.toUInt32 >>> ((8 : Int32) &&& 31).toUInt32).toInt32) &&& (255 : Int32))), .val (.int (((p2.toUInt32 >>> ((16 : Int32) &&& 31).toUInt32).toInt32) &&& (255 : Int32))), .val (.ref b955), .val (.ref b983), .val (.ref b1024)] [(.ref r_1089), (.ref b983)]) (fun _ k => st1089 _ k) ?_
    have F1096 : Fld Z h1089 b983 "java/lang/String" "value" "[B" (.ref t_1018) := ((((Fld.ext E1045 (Fld.ext E1024 r1018_1)).keep r1068_0 (ninS ne1053 nin0)).keep r1078_0 (ninS ne1032 nin0)).keep r1089_0 nin0)
    have F1097 : Fld Z h1089 b983 "java/lang/String" "coder" "B" (.int (0 : Int32)) := ((((Fld.ext E1045 (Fld.ext E1024 r1018_2)).keep r1068_0 (ninS ne1053 nin0)).keep r1078_0 (ninS ne1032 nin0)).keep r1089_0 nin0)
    have F1098 : ArF Z h1089 t_1018 kb_1018 .byte 2 (fun i => ((fun i => ([c_949, c_951] : List Int32).getD i (0 : Int32)) i).toInt8.toInt32) := ((((F1056.ext E1045).keep r1068_0 (ninS ne1057 nin0)).keep r1078_0 (ninS ne1035 nin0)).keep r1089_0 nin0)
    have F1100 : Exa Z h1089 b983 "java/lang/String" := ((((Exa.ext E1045 F1052).keep r1068_0).keep r1078_0).keep r1089_0)
    obtain ⟨T1099, h1099, v1099, L1099, X1099, e1099, ⟨rfl, N1099q, r1099_0⟩, st1099⟩ := N.virtual X1089 hx hZ1089 (y := (⟨"java/lang/String", "equals", "(Ljava/lang/Object;)Z"⟩ : MethodName)) (z := (⟨"java/lang/String", "equals", "(Ljava/lang/Object;)Z"⟩ : MethodName)) hown1089 (hw _ (List.mem_of_getElem? (i := 147) rfl)) (hw _ (List.mem_of_getElem? (i := 148) rfl)) (notFace_of_selects (args := #[]) (mvT hZ1089 (hw _ (List.mem_of_getElem? (i := 150) rfl)))) (hw _ (List.mem_of_getElem? (i := 150) rfl)) (hw _ (List.mem_of_getElem? (i := 149) rfl)) (hw _ (List.mem_of_getElem? (i := 6) rfl)) (hw _ (List.mem_of_getElem? (i := 151) rfl)) (by decide) (strEq l Z a0 hw b983 r_1089 t_1018 t2_1089 kb_1018 k2_1089 2 (2 - 0) (fun i => ((fun i => ([c_949, c_951] : List Int32).getD i (0 : Int32)) i).toInt8.toInt32) (fun i => (fun i => ((fun i => ([c_949, c_951, (32 : Int32), (p2 &&& (255 : Int32)), (((p2.toUInt32 >>> ((8 : Int32) &&& 31).toUInt32).toInt32) &&& (255 : Int32)), (((p2.toUInt32 >>> ((16 : Int32) &&& 31).toUInt32).toInt32) &&& (255 : Int32))] : List Int32).getD i (0 : Int32)) i).toInt8.toInt32) (0 + i)) (1 : Int32) cs h1089 n0 O1092 r1089_1 F1096 F1097 r1089_2 r1089_3 F1098 r1089_4 (fun _ => rfl) ((fun q => absurd ⟨rfl, (fun i hi => by
      match i, hi with
      | 0, _ => exact rfl
      | 1, _ => exact rfl)⟩ q)) S_CS hcs) e1089 F1100 (g := (mkF m 127 #[.val (.int p1), .val (.int p2), .val (.int (2 : Int32)), .val (.int c_949), .val (.int c_951), .val (.int c_953), .val (.int (p2 &&& (255 : Int32))), .val (.int (((p2.toUInt32 >>> ((8 : Int32) &&& 31).toUInt32).toInt32) &&& (255 : Int32))), .val (.int (((p2.toUInt32 >>> ((16 : Int32) &&& 31).toUInt32).toInt32) &&& (255 : Int32))), .val (.ref b955), .val (.ref b983), .val (.ref b1024)] [(.ref r_1089), (.ref b983)])) rfl (by rw [hml]; rfl) (argsL := [(.ref r_1089)]) (rest := []) rfl (lenOf pd__Ljava_lang_Object__Z rfl) rfl (W := 0) (by show 2 * 0 + _ ≤ _; exact Nat.le_of_eq rfl) (hb hby at_127) (by decide) (by decide) (by decide) (by decide)
    have N1101 := Fr.app N1091 N1099q
    have e1099 := e1099.trans r1099_0
    refine WinW.to T1099 (mkF m 130 #[.val (.int p1), .val (.int p2), .val (.int (2 : Int32)), .val (.int c_949), .val (.int c_951), .val (.int c_953), .val (.int (p2 &&& (255 : Int32))), .val (.int (((p2.toUInt32 >>> ((8 : Int32) &&& 31).toUInt32).toInt32) &&& (255 : Int32))), .val (.int (((p2.toUInt32 >>> ((16 : Int32) &&& 31).toUInt32).toInt32) &&& (255 : Int32))), .val (.ref b955), .val (.ref b983), .val (.ref b1024)] [(.int (1 : Int32))]) (fun _ k => st1099 _ k) ?_
    exact WinW.retN X1099 hS1089 (by rw [e1099]; exact hk1089) hx hlk (t := .boolean) hret (by simp) rfl (hb hby at_130) hZ1089 (own_EW hw) (by rw [e1099]; exact C1095) (by decide) (by decide) (by (try rw [e1099]); exact ⟨rfl, N1101, trivial⟩)
  · rw [hk]
    refine WinW.to s₁ (mkF m 8 #[.val (.int p1), .val (.int p2), .val (.int (3 : Int32)), .unset, .unset, .unset, .unset, .unset, .unset, .unset, .unset, .unset] [(.int p1)]) (fun _ k => XS.iloadN X0.here hx rfl (hb hby at_7) rfl k) ?_
    obtain ⟨T1102, h1102, v1102, L1102, X1102, e1102, ⟨c_1102, rfl, N1102q, r1102_0, r1102_1, r1102_2, r1102_3⟩, st1102⟩ := N.static X0 hx hZ (y := (⟨"com/example/grantgate/grantgate/server/HeadMethodPinLaw", "nonSpace", "(I)C"⟩ : MethodName)) hown (hw _ (List.mem_of_getElem? (i := 0) rfl)) (hw _ (List.mem_of_getElem? (i := 1) rfl)) (hw _ (List.mem_of_getElem? (i := 2) rfl)) (hw _ (List.mem_of_getElem? (i := 3) rfl)) (by decide) (nonSp l Z a0 hw p1 h0 n0 O0 ) e0 (g := (mkF m 8 #[.val (.int p1), .val (.int p2), .val (.int (3 : Int32)), .unset, .unset, .unset, .unset, .unset, .unset, .unset, .unset, .unset] [(.int p1)])) rfl (by rw [hml]; rfl) (argsL := [(.int p1)]) (rest := []) rfl (lenOf pd__I_C rfl) rfl (W := 0) (by show 2 * 0 + _ ≤ _; exact Nat.le_of_eq rfl) (hb hby at_8) (by decide) (by decide) (by decide) (by decide)
    have N1103 := Fr.app N0 N1102q
    have e1102 := e1102.trans r1102_0
    refine WinW.to T1102 (mkF m 11 #[.val (.int p1), .val (.int p2), .val (.int (3 : Int32)), .unset, .unset, .unset, .unset, .unset, .unset, .unset, .unset, .unset] [(.int c_1102)]) (fun _ k => st1102 _ k) ?_
    refine WinW.to T1102 (mkF m 12 #[.val (.int p1), .val (.int p2), .val (.int (3 : Int32)), .val (.int c_1102), .unset, .unset, .unset, .unset, .unset, .unset, .unset, .unset] []) (fun _ k => XS.istoreN X1102.here hx rfl (hb hby at_11) rfl (l' := #[.val (.int p1), .val (.int p2), .val (.int (3 : Int32)), .val (.int c_1102), .unset, .unset, .unset, .unset, .unset, .unset, .unset, .unset]) rfl k) ?_
    refine WinW.to T1102 (mkF m 13 #[.val (.int p1), .val (.int p2), .val (.int (3 : Int32)), .val (.int c_1102), .unset, .unset, .unset, .unset, .unset, .unset, .unset, .unset] [(.int p1)]) (fun _ k => XS.iloadN X1102.here hx rfl (hb hby at_12) rfl k) ?_
    refine WinW.to T1102 (mkF m 15 #[.val (.int p1), .val (.int p2), .val (.int (3 : Int32)), .val (.int c_1102), .unset, .unset, .unset, .unset, .unset, .unset, .unset, .unset] [(.int (8 : Int32)), (.int p1)]) (fun _ k => XS.bipush X1102.here hx rfl (hb hby at_13) k) ?_
    refine WinW.to T1102 (mkF m 16 #[.val (.int p1), .val (.int p2), .val (.int (3 : Int32)), .val (.int c_1102), .unset, .unset, .unset, .unset, .unset, .unset, .unset, .unset] [(.int ((p1.toUInt32 >>> ((8 : Int32) &&& 31).toUInt32).toInt32))]) (fun _ k => XS.iushr X1102.here hx rfl (hb hby at_15) rfl k) ?_
    obtain ⟨T1104, h1104, v1104, L1104, X1104, e1104, ⟨c_1104, rfl, N1104q, r1104_0, r1104_1, r1104_2, r1104_3⟩, st1104⟩ := N.static X1102 hx hZ (y := (⟨"com/example/grantgate/grantgate/server/HeadMethodPinLaw", "nonSpace", "(I)C"⟩ : MethodName)) hown (hw _ (List.mem_of_getElem? (i := 0) rfl)) (hw _ (List.mem_of_getElem? (i := 1) rfl)) (hw _ (List.mem_of_getElem? (i := 2) rfl)) (hw _ (List.mem_of_getElem? (i := 3) rfl)) (by decide) (nonSp l Z a0 hw ((p1.toUInt32 >>> ((8 : Int32) &&& 31).toUInt32).toInt32) h0 n0 O0 ) e1102 (g := (mkF m 16 #[.val (.int p1), .val (.int p2), .val (.int (3 : Int32)), .val (.int c_1102), .unset, .unset, .unset, .unset, .unset, .unset, .unset, .unset] [(.int ((p1.toUInt32 >>> ((8 : Int32) &&& 31).toUInt32).toInt32))])) rfl (by rw [hml]; rfl) (argsL := [(.int ((p1.toUInt32 >>> ((8 : Int32) &&& 31).toUInt32).toInt32))]) (rest := []) rfl (lenOf pd__I_C rfl) rfl (W := 0) (by show 2 * 0 + _ ≤ _; exact Nat.le_of_eq rfl) (hb hby at_16) (by decide) (by decide) (by decide) (by decide)
    have N1105 := Fr.app N1103 N1104q
    have e1104 := e1104.trans r1104_0
    refine WinW.to T1104 (mkF m 19 #[.val (.int p1), .val (.int p2), .val (.int (3 : Int32)), .val (.int c_1102), .unset, .unset, .unset, .unset, .unset, .unset, .unset, .unset] [(.int c_1104)]) (fun _ k => st1104 _ k) ?_
    refine WinW.to T1104 (mkF m 21 #[.val (.int p1), .val (.int p2), .val (.int (3 : Int32)), .val (.int c_1102), .val (.int c_1104), .unset, .unset, .unset, .unset, .unset, .unset, .unset] []) (fun _ k => XS.istore X1104.here hx rfl (hb hby at_19) rfl (l' := #[.val (.int p1), .val (.int p2), .val (.int (3 : Int32)), .val (.int c_1102), .val (.int c_1104), .unset, .unset, .unset, .unset, .unset, .unset, .unset]) rfl k) ?_
    refine WinW.to T1104 (mkF m 22 #[.val (.int p1), .val (.int p2), .val (.int (3 : Int32)), .val (.int c_1102), .val (.int c_1104), .unset, .unset, .unset, .unset, .unset, .unset, .unset] [(.int p1)]) (fun _ k => XS.iloadN X1104.here hx rfl (hb hby at_21) rfl k) ?_
    refine WinW.to T1104 (mkF m 24 #[.val (.int p1), .val (.int p2), .val (.int (3 : Int32)), .val (.int c_1102), .val (.int c_1104), .unset, .unset, .unset, .unset, .unset, .unset, .unset] [(.int (16 : Int32)), (.int p1)]) (fun _ k => XS.bipush X1104.here hx rfl (hb hby at_22) k) ?_
    refine WinW.to T1104 (mkF m 25 #[.val (.int p1), .val (.int p2), .val (.int (3 : Int32)), .val (.int c_1102), .val (.int c_1104), .unset, .unset, .unset, .unset, .unset, .unset, .unset] [(.int ((p1.toUInt32 >>> ((16 : Int32) &&& 31).toUInt32).toInt32))]) (fun _ k => XS.iushr X1104.here hx rfl (hb hby at_24) rfl k) ?_
    obtain ⟨T1106, h1106, v1106, L1106, X1106, e1106, ⟨c_1106, rfl, N1106q, r1106_0, r1106_1, r1106_2, r1106_3⟩, st1106⟩ := N.static X1104 hx hZ (y := (⟨"com/example/grantgate/grantgate/server/HeadMethodPinLaw", "nonSpace", "(I)C"⟩ : MethodName)) hown (hw _ (List.mem_of_getElem? (i := 0) rfl)) (hw _ (List.mem_of_getElem? (i := 1) rfl)) (hw _ (List.mem_of_getElem? (i := 2) rfl)) (hw _ (List.mem_of_getElem? (i := 3) rfl)) (by decide) (nonSp l Z a0 hw ((p1.toUInt32 >>> ((16 : Int32) &&& 31).toUInt32).toInt32) h0 n0 O0 ) e1104 (g := (mkF m 25 #[.val (.int p1), .val (.int p2), .val (.int (3 : Int32)), .val (.int c_1102), .val (.int c_1104), .unset, .unset, .unset, .unset, .unset, .unset, .unset] [(.int ((p1.toUInt32 >>> ((16 : Int32) &&& 31).toUInt32).toInt32))])) rfl (by rw [hml]; rfl) (argsL := [(.int ((p1.toUInt32 >>> ((16 : Int32) &&& 31).toUInt32).toInt32))]) (rest := []) rfl (lenOf pd__I_C rfl) rfl (W := 0) (by show 2 * 0 + _ ≤ _; exact Nat.le_of_eq rfl) (hb hby at_25) (by decide) (by decide) (by decide) (by decide)
    have N1107 := Fr.app N1105 N1106q
    have e1106 := e1106.trans r1106_0
    refine WinW.to T1106 (mkF m 28 #[.val (.int p1), .val (.int p2), .val (.int (3 : Int32)), .val (.int c_1102), .val (.int c_1104), .unset, .unset, .unset, .unset, .unset, .unset, .unset] [(.int c_1106)]) (fun _ k => st1106 _ k) ?_
    refine WinW.to T1106 (mkF m 30 #[.val (.int p1), .val (.int p2), .val (.int (3 : Int32)), .val (.int c_1102), .val (.int c_1104), .val (.int c_1106), .unset, .unset, .unset, .unset, .unset, .unset] []) (fun _ k => XS.istore X1106.here hx rfl (hb hby at_28) rfl (l' := #[.val (.int p1), .val (.int p2), .val (.int (3 : Int32)), .val (.int c_1102), .val (.int c_1104), .val (.int c_1106), .unset, .unset, .unset, .unset, .unset, .unset]) rfl k) ?_
    refine WinW.to T1106 (mkF m 31 #[.val (.int p1), .val (.int p2), .val (.int (3 : Int32)), .val (.int c_1102), .val (.int c_1104), .val (.int c_1106), .unset, .unset, .unset, .unset, .unset, .unset] [(.int p2)]) (fun _ k => XS.iloadN X1106.here hx rfl (hb hby at_30) rfl k) ?_
    refine WinW.to T1106 (mkF m 34 #[.val (.int p1), .val (.int p2), .val (.int (3 : Int32)), .val (.int c_1102), .val (.int c_1104), .val (.int c_1106), .unset, .unset, .unset, .unset, .unset, .unset] [(.int (255 : Int32)), (.int p2)]) (fun _ k => XS.sipush X1106.here hx rfl (hb hby at_31) k) ?_
    refine WinW.to T1106 (mkF m 35 #[.val (.int p1), .val (.int p2), .val (.int (3 : Int32)), .val (.int c_1102), .val (.int c_1104), .val (.int c_1106), .unset, .unset, .unset, .unset, .unset, .unset] [(.int (p2 &&& (255 : Int32)))]) (fun _ k => XS.iand X1106.here hx rfl (hb hby at_34) rfl k) ?_
    refine WinW.to T1106 (mkF m 36 #[.val (.int p1), .val (.int p2), .val (.int (3 : Int32)), .val (.int c_1102), .val (.int c_1104), .val (.int c_1106), .unset, .unset, .unset, .unset, .unset, .unset] [(.int (p2 &&& (255 : Int32)))]) (fun _ k => XS.i2c X1106.here hx rfl (hb hby at_35) rfl (by rw [show ((p2 &&& (255 : Int32)).toUInt32.toUInt16.toUInt32.toInt32) = (p2 &&& (255 : Int32)) from (i2c_mask p2)]; exact k)) ?_
    refine WinW.to T1106 (mkF m 38 #[.val (.int p1), .val (.int p2), .val (.int (3 : Int32)), .val (.int c_1102), .val (.int c_1104), .val (.int c_1106), .val (.int (p2 &&& (255 : Int32))), .unset, .unset, .unset, .unset, .unset] []) (fun _ k => XS.istore X1106.here hx rfl (hb hby at_36) rfl (l' := #[.val (.int p1), .val (.int p2), .val (.int (3 : Int32)), .val (.int c_1102), .val (.int c_1104), .val (.int c_1106), .val (.int (p2 &&& (255 : Int32))), .unset, .unset, .unset, .unset, .unset]) rfl k) ?_
    refine WinW.to T1106 (mkF m 39 #[.val (.int p1), .val (.int p2), .val (.int (3 : Int32)), .val (.int c_1102), .val (.int c_1104), .val (.int c_1106), .val (.int (p2 &&& (255 : Int32))), .unset, .unset, .unset, .unset, .unset] [(.int p2)]) (fun _ k => XS.iloadN X1106.here hx rfl (hb hby at_38) rfl k) ?_
    refine WinW.to T1106 (mkF m 41 #[.val (.int p1), .val (.int p2), .val (.int (3 : Int32)), .val (.int c_1102), .val (.int c_1104), .val (.int c_1106), .val (.int (p2 &&& (255 : Int32))), .unset, .unset, .unset, .unset, .unset] [(.int (8 : Int32)), (.int p2)]) (fun _ k => XS.bipush X1106.here hx rfl (hb hby at_39) k) ?_
    refine WinW.to T1106 (mkF m 42 #[.val (.int p1), .val (.int p2), .val (.int (3 : Int32)), .val (.int c_1102), .val (.int c_1104), .val (.int c_1106), .val (.int (p2 &&& (255 : Int32))), .unset, .unset, .unset, .unset, .unset] [(.int ((p2.toUInt32 >>> ((8 : Int32) &&& 31).toUInt32).toInt32))]) (fun _ k => XS.iushr X1106.here hx rfl (hb hby at_41) rfl k) ?_
    refine WinW.to T1106 (mkF m 45 #[.val (.int p1), .val (.int p2), .val (.int (3 : Int32)), .val (.int c_1102), .val (.int c_1104), .val (.int c_1106), .val (.int (p2 &&& (255 : Int32))), .unset, .unset, .unset, .unset, .unset] [(.int (255 : Int32)), (.int ((p2.toUInt32 >>> ((8 : Int32) &&& 31).toUInt32).toInt32))]) (fun _ k => XS.sipush X1106.here hx rfl (hb hby at_42) k) ?_
    refine WinW.to T1106 (mkF m 46 #[.val (.int p1), .val (.int p2), .val (.int (3 : Int32)), .val (.int c_1102), .val (.int c_1104), .val (.int c_1106), .val (.int (p2 &&& (255 : Int32))), .unset, .unset, .unset, .unset, .unset] [(.int (((p2.toUInt32 >>> ((8 : Int32) &&& 31).toUInt32).toInt32) &&& (255 : Int32)))]) (fun _ k => XS.iand X1106.here hx rfl (hb hby at_45) rfl k) ?_
    refine WinW.to T1106 (mkF m 47 #[.val (.int p1), .val (.int p2), .val (.int (3 : Int32)), .val (.int c_1102), .val (.int c_1104), .val (.int c_1106), .val (.int (p2 &&& (255 : Int32))), .unset, .unset, .unset, .unset, .unset] [(.int (((p2.toUInt32 >>> ((8 : Int32) &&& 31).toUInt32).toInt32) &&& (255 : Int32)))]) (fun _ k => XS.i2c X1106.here hx rfl (hb hby at_46) rfl (by rw [show ((((p2.toUInt32 >>> ((8 : Int32) &&& 31).toUInt32).toInt32) &&& (255 : Int32)).toUInt32.toUInt16.toUInt32.toInt32) = (((p2.toUInt32 >>> ((8 : Int32) &&& 31).toUInt32).toInt32) &&& (255 : Int32)) from (i2c_mask ((p2.toUInt32 >>> ((8 : Int32) &&& 31).toUInt32).toInt32))]; exact k)) ?_
    refine WinW.to T1106 (mkF m 49 #[.val (.int p1), .val (.int p2), .val (.int (3 : Int32)), .val (.int c_1102), .val (.int c_1104), .val (.int c_1106), .val (.int (p2 &&& (255 : Int32))), .val (.int (((p2.toUInt32 >>> ((8 : Int32) &&& 31).toUInt32).toInt32) &&& (255 : Int32))), .unset, .unset, .unset, .unset] []) (fun _ k => XS.istore X1106.here hx rfl (hb hby at_47) rfl (l' := #[.val (.int p1), .val (.int p2), .val (.int (3 : Int32)), .val (.int c_1102), .val (.int c_1104), .val (.int c_1106), .val (.int (p2 &&& (255 : Int32))), .val (.int (((p2.toUInt32 >>> ((8 : Int32) &&& 31).toUInt32).toInt32) &&& (255 : Int32))), .unset, .unset, .unset, .unset]) rfl k) ?_
    refine WinW.to T1106 (mkF m 50 #[.val (.int p1), .val (.int p2), .val (.int (3 : Int32)), .val (.int c_1102), .val (.int c_1104), .val (.int c_1106), .val (.int (p2 &&& (255 : Int32))), .val (.int (((p2.toUInt32 >>> ((8 : Int32) &&& 31).toUInt32).toInt32) &&& (255 : Int32))), .unset, .unset, .unset, .unset] [(.int p2)]) (fun _ k => XS.iloadN X1106.here hx rfl (hb hby at_49) rfl k) ?_
    refine WinW.to T1106 (mkF m 52 #[.val (.int p1), .val (.int p2), .val (.int (3 : Int32)), .val (.int c_1102), .val (.int c_1104), .val (.int c_1106), .val (.int (p2 &&& (255 : Int32))), .val (.int (((p2.toUInt32 >>> ((8 : Int32) &&& 31).toUInt32).toInt32) &&& (255 : Int32))), .unset, .unset, .unset, .unset] [(.int (16 : Int32)), (.int p2)]) (fun _ k => XS.bipush X1106.here hx rfl (hb hby at_50) k) ?_
    refine WinW.to T1106 (mkF m 53 #[.val (.int p1), .val (.int p2), .val (.int (3 : Int32)), .val (.int c_1102), .val (.int c_1104), .val (.int c_1106), .val (.int (p2 &&& (255 : Int32))), .val (.int (((p2.toUInt32 >>> ((8 : Int32) &&& 31).toUInt32).toInt32) &&& (255 : Int32))), .unset, .unset, .unset, .unset] [(.int ((p2.toUInt32 >>> ((16 : Int32) &&& 31).toUInt32).toInt32))]) (fun _ k => XS.iushr X1106.here hx rfl (hb hby at_52) rfl k) ?_
    refine WinW.to T1106 (mkF m 56 #[.val (.int p1), .val (.int p2), .val (.int (3 : Int32)), .val (.int c_1102), .val (.int c_1104), .val (.int c_1106), .val (.int (p2 &&& (255 : Int32))), .val (.int (((p2.toUInt32 >>> ((8 : Int32) &&& 31).toUInt32).toInt32) &&& (255 : Int32))), .unset, .unset, .unset, .unset] [(.int (255 : Int32)), (.int ((p2.toUInt32 >>> ((16 : Int32) &&& 31).toUInt32).toInt32))]) (fun _ k => XS.sipush X1106.here hx rfl (hb hby at_53) k) ?_
    refine WinW.to T1106 (mkF m 57 #[.val (.int p1), .val (.int p2), .val (.int (3 : Int32)), .val (.int c_1102), .val (.int c_1104), .val (.int c_1106), .val (.int (p2 &&& (255 : Int32))), .val (.int (((p2.toUInt32 >>> ((8 : Int32) &&& 31).toUInt32).toInt32) &&& (255 : Int32))), .unset, .unset, .unset, .unset] [(.int (((p2.toUInt32 >>> ((16 : Int32) &&& 31).toUInt32).toInt32) &&& (255 : Int32)))]) (fun _ k => XS.iand X1106.here hx rfl (hb hby at_56) rfl k) ?_
    refine WinW.to T1106 (mkF m 58 #[.val (.int p1), .val (.int p2), .val (.int (3 : Int32)), .val (.int c_1102), .val (.int c_1104), .val (.int c_1106), .val (.int (p2 &&& (255 : Int32))), .val (.int (((p2.toUInt32 >>> ((8 : Int32) &&& 31).toUInt32).toInt32) &&& (255 : Int32))), .unset, .unset, .unset, .unset] [(.int (((p2.toUInt32 >>> ((16 : Int32) &&& 31).toUInt32).toInt32) &&& (255 : Int32)))]) (fun _ k => XS.i2c X1106.here hx rfl (hb hby at_57) rfl (by rw [show ((((p2.toUInt32 >>> ((16 : Int32) &&& 31).toUInt32).toInt32) &&& (255 : Int32)).toUInt32.toUInt16.toUInt32.toInt32) = (((p2.toUInt32 >>> ((16 : Int32) &&& 31).toUInt32).toInt32) &&& (255 : Int32)) from (i2c_mask ((p2.toUInt32 >>> ((16 : Int32) &&& 31).toUInt32).toInt32))]; exact k)) ?_
    refine WinW.to T1106 (mkF m 60 #[.val (.int p1), .val (.int p2), .val (.int (3 : Int32)), .val (.int c_1102), .val (.int c_1104), .val (.int c_1106), .val (.int (p2 &&& (255 : Int32))), .val (.int (((p2.toUInt32 >>> ((8 : Int32) &&& 31).toUInt32).toInt32) &&& (255 : Int32))), .val (.int (((p2.toUInt32 >>> ((16 : Int32) &&& 31).toUInt32).toInt32) &&& (255 : Int32))), .unset, .unset, .unset] []) (fun _ k => XS.istore X1106.here hx rfl (hb hby at_58) rfl (l' := #[.val (.int p1), .val (.int p2), .val (.int (3 : Int32)), .val (.int c_1102), .val (.int c_1104), .val (.int c_1106), .val (.int (p2 &&& (255 : Int32))), .val (.int (((p2.toUInt32 >>> ((8 : Int32) &&& 31).toUInt32).toInt32) &&& (255 : Int32))), .val (.int (((p2.toUInt32 >>> ((16 : Int32) &&& 31).toUInt32).toInt32) &&& (255 : Int32))), .unset, .unset, .unset]) rfl k) ?_
    obtain ⟨T1108, h1108, X1108, e1108, E1108, A1108, D1108, -, st1108⟩ := newO X1106 hx hZ hown (hw _ (List.mem_of_getElem? (i := 4) rfl)) (hw _ (List.mem_of_getElem? (i := 5) rfl)) (hw _ (List.mem_of_getElem? (i := 6) rfl)) e1106 (g := (mkF m 60 #[.val (.int p1), .val (.int p2), .val (.int (3 : Int32)), .val (.int c_1102), .val (.int c_1104), .val (.int c_1106), .val (.int (p2 &&& (255 : Int32))), .val (.int (((p2.toUInt32 >>> ((8 : Int32) &&& 31).toUInt32).toInt32) &&& (255 : Int32))), .val (.int (((p2.toUInt32 >>> ((16 : Int32) &&& 31).toUInt32).toInt32) &&& (255 : Int32))), .unset, .unset, .unset] [])) rfl (hb hby at_60) (by decide) (by decide)
    obtain ⟨b1108, g1108⟩ : ∃ z, z = h0.size := ⟨_, rfl⟩
    rw [← g1108] at A1108 D1108 st1108
    have g1109 : n0 ≤ b1108 := Nat.le_trans (own_le O0) (Nat.le_of_eq g1108.symm)
    have z1110 : h0.size ≤ b1108 := (Nat.le_of_eq g1108.symm)
    have O1111 := Old.ext O0 E1108
    have K1112 : Keep h0 h1108 [] := (Keep.refl h0 []).ext E1108
    have c1113 := CHr.ext E1108 C0.1
    have C1114 := CHr.trans C0 c1113
    have F1115 : Fld Z h1108 b1108 "java/lang/String" "coder" "B" (.int (0 : Int32)) := D1108 (Or.inr (hw _ (List.mem_of_getElem? (i := 34) rfl))) (ty := .byte) (by decide)
    have F1116 : Fld Z h1108 b1108 "java/lang/String" "value" "[B" .null := D1108 (Or.inr (hw _ (List.mem_of_getElem? (i := 36) rfl))) (ty := (.array .byte)) (by decide)
    refine WinW.to T1108 (mkF m 63 #[.val (.int p1), .val (.int p2), .val (.int (3 : Int32)), .val (.int c_1102), .val (.int c_1104), .val (.int c_1106), .val (.int (p2 &&& (255 : Int32))), .val (.int (((p2.toUInt32 >>> ((8 : Int32) &&& 31).toUInt32).toInt32) &&& (255 : Int32))), .val (.int (((p2.toUInt32 >>> ((16 : Int32) &&& 31).toUInt32).toInt32) &&& (255 : Int32))), .unset, .unset, .unset] [(.ref b1108)]) (fun _ k => st1108 _ k) ?_
    refine WinW.to T1108 (mkF m 64 #[.val (.int p1), .val (.int p2), .val (.int (3 : Int32)), .val (.int c_1102), .val (.int c_1104), .val (.int c_1106), .val (.int (p2 &&& (255 : Int32))), .val (.int (((p2.toUInt32 >>> ((8 : Int32) &&& 31).toUInt32).toInt32) &&& (255 : Int32))), .val (.int (((p2.toUInt32 >>> ((16 : Int32) &&& 31).toUInt32).toInt32) &&& (255 : Int32))), .unset, .unset, .unset] [(.ref b1108), (.ref b1108)]) (fun _ k => XS.dup X1108.here hx rfl (hb hby at_63) rfl rfl k) ?_
    refine WinW.to T1108 (mkF m 65 #[.val (.int p1), .val (.int p2), .val (.int (3 : Int32)), .val (.int c_1102), .val (.int c_1104), .val (.int c_1106), .val (.int (p2 &&& (255 : Int32))), .val (.int (((p2.toUInt32 >>> ((8 : Int32) &&& 31).toUInt32).toInt32) &&& (255 : Int32))), .val (.int (((p2.toUInt32 >>> ((16 : Int32) &&& 31).toUInt32).toInt32) &&& (255 : Int32))), .unset, .unset, .unset] [(.int (3 : Int32)), (.ref b1108), (.ref b1108)]) (fun _ k => XS.iloadN X1108.here hx rfl (hb hby at_64) rfl k) ?_
    refine WinW.to T1108 (mkF m 66 #[.val (.int p1), .val (.int p2), .val (.int (3 : Int32)), .val (.int c_1102), .val (.int c_1104), .val (.int c_1106), .val (.int (p2 &&& (255 : Int32))), .val (.int (((p2.toUInt32 >>> ((8 : Int32) &&& 31).toUInt32).toInt32) &&& (255 : Int32))), .val (.int (((p2.toUInt32 >>> ((16 : Int32) &&& 31).toUInt32).toInt32) &&& (255 : Int32))), .unset, .unset, .unset] [(.int c_1102), (.int (3 : Int32)), (.ref b1108), (.ref b1108)]) (fun _ k => XS.iloadN X1108.here hx rfl (hb hby at_65) rfl k) ?_
    refine WinW.to T1108 (mkF m 68 #[.val (.int p1), .val (.int p2), .val (.int (3 : Int32)), .val (.int c_1102), .val (.int c_1104), .val (.int c_1106), .val (.int (p2 &&& (255 : Int32))), .val (.int (((p2.toUInt32 >>> ((8 : Int32) &&& 31).toUInt32).toInt32) &&& (255 : Int32))), .val (.int (((p2.toUInt32 >>> ((16 : Int32) &&& 31).toUInt32).toInt32) &&& (255 : Int32))), .unset, .unset, .unset] [(.int c_1104), (.int c_1102), (.int (3 : Int32)), (.ref b1108), (.ref b1108)]) (fun _ k => XS.iload X1108.here hx rfl (hb hby at_66) rfl k) ?_
    refine WinW.to T1108 (mkF m 70 #[.val (.int p1), .val (.int p2), .val (.int (3 : Int32)), .val (.int c_1102), .val (.int c_1104), .val (.int c_1106), .val (.int (p2 &&& (255 : Int32))), .val (.int (((p2.toUInt32 >>> ((8 : Int32) &&& 31).toUInt32).toInt32) &&& (255 : Int32))), .val (.int (((p2.toUInt32 >>> ((16 : Int32) &&& 31).toUInt32).toInt32) &&& (255 : Int32))), .unset, .unset, .unset] [(.int c_1106), (.int c_1104), (.int c_1102), (.int (3 : Int32)), (.ref b1108), (.ref b1108)]) (fun _ k => XS.iload X1108.here hx rfl (hb hby at_68) rfl k) ?_
    refine WinW.to T1108 (mkF m 72 #[.val (.int p1), .val (.int p2), .val (.int (3 : Int32)), .val (.int c_1102), .val (.int c_1104), .val (.int c_1106), .val (.int (p2 &&& (255 : Int32))), .val (.int (((p2.toUInt32 >>> ((8 : Int32) &&& 31).toUInt32).toInt32) &&& (255 : Int32))), .val (.int (((p2.toUInt32 >>> ((16 : Int32) &&& 31).toUInt32).toInt32) &&& (255 : Int32))), .unset, .unset, .unset] [(.int (p2 &&& (255 : Int32))), (.int c_1106), (.int c_1104), (.int c_1102), (.int (3 : Int32)), (.ref b1108), (.ref b1108)]) (fun _ k => XS.iload X1108.here hx rfl (hb hby at_70) rfl k) ?_
    refine WinW.to T1108 (mkF m 74 #[.val (.int p1), .val (.int p2), .val (.int (3 : Int32)), .val (.int c_1102), .val (.int c_1104), .val (.int c_1106), .val (.int (p2 &&& (255 : Int32))), .val (.int (((p2.toUInt32 >>> ((8 : Int32) &&& 31).toUInt32).toInt32) &&& (255 : Int32))), .val (.int (((p2.toUInt32 >>> ((16 : Int32) &&& 31).toUInt32).toInt32) &&& (255 : Int32))), .unset, .unset, .unset] [(.int (((p2.toUInt32 >>> ((8 : Int32) &&& 31).toUInt32).toInt32) &&& (255 : Int32))), (.int (p2 &&& (255 : Int32))), (.int c_1106), (.int c_1104), (.int c_1102), (.int (3 : Int32)), (.ref b1108), (.ref b1108)]) (fun _ k => XS.iload X1108.here hx rfl (hb hby at_72) rfl k) ?_
    refine WinW.to T1108 (mkF m 76 #[.val (.int p1), .val (.int p2), .val (.int (3 : Int32)), .val (.int c_1102), .val (.int c_1104), .val (.int c_1106), .val (.int (p2 &&& (255 : Int32))), .val (.int (((p2.toUInt32 >>> ((8 : Int32) &&& 31).toUInt32).toInt32) &&& (255 : Int32))), .val (.int (((p2.toUInt32 >>> ((16 : Int32) &&& 31).toUInt32).toInt32) &&& (255 : Int32))), .unset, .unset, .unset] [(.int (((p2.toUInt32 >>> ((16 : Int32) &&& 31).toUInt32).toInt32) &&& (255 : Int32))), (.int (((p2.toUInt32 >>> ((8 : Int32) &&& 31).toUInt32).toInt32) &&& (255 : Int32))), (.int (p2 &&& (255 : Int32))), (.int c_1106), (.int c_1104), (.int c_1102), (.int (3 : Int32)), (.ref b1108), (.ref b1108)]) (fun _ k => XS.iload X1108.here hx rfl (hb hby at_74) rfl k) ?_
    obtain ⟨T1117, h1117, v1117, L1117, X1117, e1117, ⟨r_1117, kk_1117, rfl, N1117q, r1117_0, r1117_1, r1117_2⟩, st1117⟩ := N.static X1108 hx hZ (y := (⟨"com/example/grantgate/grantgate/server/HeadMethodPinLaw", "line", "(ICCCCCC)[C"⟩ : MethodName)) hown (hw _ (List.mem_of_getElem? (i := 7) rfl)) (hw _ (List.mem_of_getElem? (i := 8) rfl)) (hw _ (List.mem_of_getElem? (i := 2) rfl)) (hw _ (List.mem_of_getElem? (i := 9) rfl)) (by decide) (line3 l Z a0 hw c_1102 c_1104 c_1106 (p2 &&& (255 : Int32)) (((p2.toUInt32 >>> ((8 : Int32) &&& 31).toUInt32).toInt32) &&& (255 : Int32)) (((p2.toUInt32 >>> ((16 : Int32) &&& 31).toUInt32).toInt32) &&& (255 : Int32)) h1108 n0 O1111 r1102_1 r1104_1 r1106_1 (i2c_mask p2) (i2c_mask ((p2.toUInt32 >>> ((8 : Int32) &&& 31).toUInt32).toInt32)) (i2c_mask ((p2.toUInt32 >>> ((16 : Int32) &&& 31).toUInt32).toInt32))) e1108 (g := (mkF m 76 #[.val (.int p1), .val (.int p2), .val (.int (3 : Int32)), .val (.int c_1102), .val (.int c_1104), .val (.int c_1106), .val (.int (p2 &&& (255 : Int32))), .val (.int (((p2.toUInt32 >>> ((8 : Int32) &&& 31).toUInt32).toInt32) &&& (255 : Int32))), .val (.int (((p2.toUInt32 >>> ((16 : Int32) &&& 31).toUInt32).toInt32) &&& (255 : Int32))), .unset, .unset, .unset] [(.int (((p2.toUInt32 >>> ((16 : Int32) &&& 31).toUInt32).toInt32) &&& (255 : Int32))), (.int (((p2.toUInt32 >>> ((8 : Int32) &&& 31).toUInt32).toInt32) &&& (255 : Int32))), (.int (p2 &&& (255 : Int32))), (.int c_1106), (.int c_1104), (.int c_1102), (.int (3 : Int32)), (.ref b1108), (.ref b1108)])) rfl (by rw [hml]; rfl) (argsL := [(.int (3 : Int32)), (.int c_1102), (.int c_1104), (.int c_1106), (.int (p2 &&& (255 : Int32))), (.int (((p2.toUInt32 >>> ((8 : Int32) &&& 31).toUInt32).toInt32) &&& (255 : Int32))), (.int (((p2.toUInt32 >>> ((16 : Int32) &&& 31).toUInt32).toInt32) &&& (255 : Int32)))]) (rest := [(.ref b1108), (.ref b1108)]) rfl (lenOf pd__ICCCCCC__C rfl) rfl (W := 2) (by show 2 * 0 + _ ≤ _; exact Nat.le_of_eq rfl) (hb hby at_76) (by decide) (by decide) (by decide) (by decide)
    have N1118 := Fr.app N1107 N1117q
    have ne1119 : b1108 ≠ r_1117 := Nat.ne_of_lt (Nat.lt_of_lt_of_le A1108.lt r1117_1)
    have g1120 : n0 ≤ r_1117 := Nat.le_trans (own_le O1111) r1117_1
    have z1121 : h0.size ≤ r_1117 := Nat.le_trans K1112.1 r1117_1
    have O1122 := Old.keep O1111 r1117_0 all0
    have K1123 : Keep h0 h1117 [] := Keep.trans K1112 r1117_0 all0
    have c1124 := CHr.keep r1117_0 sf0 C1114.1
    have C1125 := CHr.trans C1114 c1124
    refine WinW.to T1117 (mkF m 79 #[.val (.int p1), .val (.int p2), .val (.int (3 : Int32)), .val (.int c_1102), .val (.int c_1104), .val (.int c_1106), .val (.int (p2 &&& (255 : Int32))), .val (.int (((p2.toUInt32 >>> ((8 : Int32) &&& 31).toUInt32).toInt32) &&& (255 : Int32))), .val (.int (((p2.toUInt32 >>> ((16 : Int32) &&& 31).toUInt32).toInt32) &&& (255 : Int32))), .unset, .unset, .unset] [(.ref r_1117), (.ref b1108), (.ref b1108)]) (fun _ k => st1117 _ k) ?_
    have F1126 : ArF Z h1117 r_1117 kk_1117 .char 7 (fun i => ([c_1102, c_1104, c_1106, (32 : Int32), (p2 &&& (255 : Int32)), (((p2.toUInt32 >>> ((8 : Int32) &&& 31).toUInt32).toInt32) &&& (255 : Int32)), (((p2.toUInt32 >>> ((16 : Int32) &&& 31).toUInt32).toInt32) &&& (255 : Int32))] : List Int32).getD i (0 : Int32)) := own_arf [c_1102, c_1104, c_1106, (32 : Int32), (p2 &&& (255 : Int32)), (((p2.toUInt32 >>> ((8 : Int32) &&& 31).toUInt32).toInt32) &&& (255 : Int32)), (((p2.toUInt32 >>> ((16 : Int32) &&& 31).toUInt32).toInt32) &&& (255 : Int32))] r1117_2 rfl
    have F1127 : Exa Z h1117 b1108 "java/lang/String" := (A1108.keep r1117_0)
    have F1128 : Fld Z h1117 b1108 "java/lang/String" "value" "[B" .null := (F1116.keep r1117_0 nin0)
    have F1129 : Fld Z h1117 b1108 "java/lang/String" "coder" "B" (.int (0 : Int32)) := (F1115.keep r1117_0 nin0)
    obtain ⟨T1130, h1130, v1130, L1130, k1130, X1130, e1130, hS1130, hk1130, hZ1130, hown1130, ⟨t_1130, kb_1130, rfl, N1130q, r1130_0, r1130_1, r1130_2, r1130_3⟩, c1130, st1130⟩ := W.special X1117 hS0 (Nat.zero_le _) hx hZ (y := (⟨"java/lang/String", "<init>", "([C)V"⟩ : MethodName)) rfl hown (hw _ (List.mem_of_getElem? (i := 11) rfl)) (hw _ (List.mem_of_getElem? (i := 12) rfl)) (hw _ (List.mem_of_getElem? (i := 6) rfl)) (hw _ (List.mem_of_getElem? (i := 13) rfl)) (by decide) (ctor1 l Z a0 hw b1108 r_1117 kk_1117 7 (fun i => ([c_1102, c_1104, c_1106, (32 : Int32), (p2 &&& (255 : Int32)), (((p2.toUInt32 >>> ((8 : Int32) &&& 31).toUInt32).toInt32) &&& (255 : Int32)), (((p2.toUInt32 >>> ((16 : Int32) &&& 31).toUInt32).toInt32) &&& (255 : Int32))] : List Int32).getD i (0 : Int32)) cs h1117 n0 O1122 F1127 F1128 F1129 F1126 ((fun i hi => by
      match i, hi with
      | 0, _ => exact r1102_2
      | 1, _ => exact r1104_2
      | 2, _ => exact r1106_2
      | 3, _ => exact (show ¬ (255 : Int32) < (32 : Int32) from by decide)
      | 4, _ => exact (own_255 p2)
      | 5, _ => exact (own_255 ((p2.toUInt32 >>> ((8 : Int32) &&& 31).toUInt32).toInt32))
      | 6, _ => exact (own_255 ((p2.toUInt32 >>> ((16 : Int32) &&& 31).toUInt32).toInt32)))) (by decide) g1109 S_CS hcs) (own_EW hw) C1125.1 e1117 (g := (mkF m 79 #[.val (.int p1), .val (.int p2), .val (.int (3 : Int32)), .val (.int c_1102), .val (.int c_1104), .val (.int c_1106), .val (.int (p2 &&& (255 : Int32))), .val (.int (((p2.toUInt32 >>> ((8 : Int32) &&& 31).toUInt32).toInt32) &&& (255 : Int32))), .val (.int (((p2.toUInt32 >>> ((16 : Int32) &&& 31).toUInt32).toInt32) &&& (255 : Int32))), .unset, .unset, .unset] [(.ref r_1117), (.ref b1108), (.ref b1108)])) rfl (by rw [hml]; rfl) (a := b1108) (argsL := [(.ref r_1117)]) (rest := [(.ref b1108)]) rfl (lenOf pd___C_V rfl) rfl (W := 1) (by show 2 * 0 + _ ≤ _; exact Nat.le_of_eq rfl) (hb hby at_79) (by decide) (by decide) (by decide) (by decide)
    have N1131 := Fr.app N1118 N1130q
    have O1132 := Old.keep O1122 r1130_0 (allS g1109 all0)
    have K1133 : Keep h0 h1130 [] := Keep.trans K1123 r1130_0 (allS (Or.inr z1110) all0)
    have c1134 := c1130
    have C1135 := CHr.trans C1125 c1134
    refine WinW.to T1130 (mkF m 82 #[.val (.int p1), .val (.int p2), .val (.int (3 : Int32)), .val (.int c_1102), .val (.int c_1104), .val (.int c_1106), .val (.int (p2 &&& (255 : Int32))), .val (.int (((p2.toUInt32 >>> ((8 : Int32) &&& 31).toUInt32).toInt32) &&& (255 : Int32))), .val (.int (((p2.toUInt32 >>> ((16 : Int32) &&& 31).toUInt32).toInt32) &&& (255 : Int32))), .unset, .unset, .unset] [(.ref b1108)]) (fun _ k => st1130 _ k) ?_
    refine WinW.to T1130 (mkF m 84 #[.val (.int p1), .val (.int p2), .val (.int (3 : Int32)), .val (.int c_1102), .val (.int c_1104), .val (.int c_1106), .val (.int (p2 &&& (255 : Int32))), .val (.int (((p2.toUInt32 >>> ((8 : Int32) &&& 31).toUInt32).toInt32) &&& (255 : Int32))), .val (.int (((p2.toUInt32 >>> ((16 : Int32) &&& 31).toUInt32).toInt32) &&& (255 : Int32))), .val (.ref b1108), .unset, .unset] []) (fun _ k => XS.astore X1130.here hx rfl (hb hby at_82) rfl rfl (l' := #[.val (.int p1), .val (.int p2), .val (.int (3 : Int32)), .val (.int c_1102), .val (.int c_1104), .val (.int c_1106), .val (.int (p2 &&& (255 : Int32))), .val (.int (((p2.toUInt32 >>> ((8 : Int32) &&& 31).toUInt32).toInt32) &&& (255 : Int32))), .val (.int (((p2.toUInt32 >>> ((16 : Int32) &&& 31).toUInt32).toInt32) &&& (255 : Int32))), .val (.ref b1108), .unset, .unset]) rfl k) ?_
    obtain ⟨T1136, h1136, X1136, e1136, E1136, A1136, D1136, -, st1136⟩ := newO X1130 hx hZ1130 hown1130 (hw _ (List.mem_of_getElem? (i := 4) rfl)) (hw _ (List.mem_of_getElem? (i := 5) rfl)) (hw _ (List.mem_of_getElem? (i := 6) rfl)) e1130 (g := (mkF m 84 #[.val (.int p1), .val (.int p2), .val (.int (3 : Int32)), .val (.int c_1102), .val (.int c_1104), .val (.int c_1106), .val (.int (p2 &&& (255 : Int32))), .val (.int (((p2.toUInt32 >>> ((8 : Int32) &&& 31).toUInt32).toInt32) &&& (255 : Int32))), .val (.int (((p2.toUInt32 >>> ((16 : Int32) &&& 31).toUInt32).toInt32) &&& (255 : Int32))), .val (.ref b1108), .unset, .unset] [])) rfl (hb hby at_84) (by decide) (by decide)
    obtain ⟨b1136, g1136⟩ : ∃ z, z = h1130.size := ⟨_, rfl⟩
    rw [← g1136] at A1136 D1136 st1136
    have F1137 : Exa Z h1130 b1108 "java/lang/String" := (F1127.keep r1130_0)
    have ne1138 : b1108 ≠ b1136 := Nat.ne_of_lt (Nat.lt_of_lt_of_le F1137.lt (Nat.le_of_eq g1136.symm))
    have F1139 : Arv Z h1130 r_1117 kk_1117 .char (7 : Int32) [(.int c_1102), (.int c_1104), (.int c_1106), (.int (32 : Int32)), (.int (p2 &&& (255 : Int32))), (.int (((p2.toUInt32 >>> ((8 : Int32) &&& 31).toUInt32).toInt32) &&& (255 : Int32))), (.int (((p2.toUInt32 >>> ((16 : Int32) &&& 31).toUInt32).toInt32) &&& (255 : Int32)))] (.int (0 : Int32)) := (r1117_2.keep r1130_0 (ninS (Ne.symm ne1119) nin0))
    have ne1140 : r_1117 ≠ b1136 := Nat.ne_of_lt (Nat.lt_of_lt_of_le F1139.lt (Nat.le_of_eq g1136.symm))
    have ne1141 : t_1130 ≠ b1136 := Nat.ne_of_lt (Nat.lt_of_lt_of_le r1130_3.lt (Nat.le_of_eq g1136.symm))
    have g1142 : n0 ≤ b1136 := Nat.le_trans (own_le O1132) (Nat.le_of_eq g1136.symm)
    have z1143 : h0.size ≤ b1136 := Nat.le_trans K1133.1 (Nat.le_of_eq g1136.symm)
    have O1144 := Old.ext O1132 E1136
    have hk1145 := Nat.le_trans hk1130 E1136.1
    have K1146 : Keep h0 h1136 [] := K1133.ext E1136
    have c1147 := CHr.ext E1136 C1135.1
    have C1148 := CHr.trans C1135 c1147
    have F1149 : Fld Z h1136 b1136 "java/lang/String" "coder" "B" (.int (0 : Int32)) := D1136 (Or.inr (hw _ (List.mem_of_getElem? (i := 34) rfl))) (ty := .byte) (by decide)
    have F1150 : Fld Z h1136 b1136 "java/lang/String" "value" "[B" .null := D1136 (Or.inr (hw _ (List.mem_of_getElem? (i := 36) rfl))) (ty := (.array .byte)) (by decide)
    refine WinW.to T1136 (mkF m 87 #[.val (.int p1), .val (.int p2), .val (.int (3 : Int32)), .val (.int c_1102), .val (.int c_1104), .val (.int c_1106), .val (.int (p2 &&& (255 : Int32))), .val (.int (((p2.toUInt32 >>> ((8 : Int32) &&& 31).toUInt32).toInt32) &&& (255 : Int32))), .val (.int (((p2.toUInt32 >>> ((16 : Int32) &&& 31).toUInt32).toInt32) &&& (255 : Int32))), .val (.ref b1108), .unset, .unset] [(.ref b1136)]) (fun _ k => st1136 _ k) ?_
    refine WinW.to T1136 (mkF m 88 #[.val (.int p1), .val (.int p2), .val (.int (3 : Int32)), .val (.int c_1102), .val (.int c_1104), .val (.int c_1106), .val (.int (p2 &&& (255 : Int32))), .val (.int (((p2.toUInt32 >>> ((8 : Int32) &&& 31).toUInt32).toInt32) &&& (255 : Int32))), .val (.int (((p2.toUInt32 >>> ((16 : Int32) &&& 31).toUInt32).toInt32) &&& (255 : Int32))), .val (.ref b1108), .unset, .unset] [(.ref b1136), (.ref b1136)]) (fun _ k => XS.dup X1136.here hx rfl (hb hby at_87) rfl rfl k) ?_
    refine WinW.to T1136 (mkF m 89 #[.val (.int p1), .val (.int p2), .val (.int (3 : Int32)), .val (.int c_1102), .val (.int c_1104), .val (.int c_1106), .val (.int (p2 &&& (255 : Int32))), .val (.int (((p2.toUInt32 >>> ((8 : Int32) &&& 31).toUInt32).toInt32) &&& (255 : Int32))), .val (.int (((p2.toUInt32 >>> ((16 : Int32) &&& 31).toUInt32).toInt32) &&& (255 : Int32))), .val (.ref b1108), .unset, .unset] [(.int (3 : Int32)), (.ref b1136), (.ref b1136)]) (fun _ k => XS.iloadN X1136.here hx rfl (hb hby at_88) rfl k) ?_
    refine WinW.to T1136 (mkF m 90 #[.val (.int p1), .val (.int p2), .val (.int (3 : Int32)), .val (.int c_1102), .val (.int c_1104), .val (.int c_1106), .val (.int (p2 &&& (255 : Int32))), .val (.int (((p2.toUInt32 >>> ((8 : Int32) &&& 31).toUInt32).toInt32) &&& (255 : Int32))), .val (.int (((p2.toUInt32 >>> ((16 : Int32) &&& 31).toUInt32).toInt32) &&& (255 : Int32))), .val (.ref b1108), .unset, .unset] [(.int c_1102), (.int (3 : Int32)), (.ref b1136), (.ref b1136)]) (fun _ k => XS.iloadN X1136.here hx rfl (hb hby at_89) rfl k) ?_
    refine WinW.to T1136 (mkF m 92 #[.val (.int p1), .val (.int p2), .val (.int (3 : Int32)), .val (.int c_1102), .val (.int c_1104), .val (.int c_1106), .val (.int (p2 &&& (255 : Int32))), .val (.int (((p2.toUInt32 >>> ((8 : Int32) &&& 31).toUInt32).toInt32) &&& (255 : Int32))), .val (.int (((p2.toUInt32 >>> ((16 : Int32) &&& 31).toUInt32).toInt32) &&& (255 : Int32))), .val (.ref b1108), .unset, .unset] [(.int c_1104), (.int c_1102), (.int (3 : Int32)), (.ref b1136), (.ref b1136)]) (fun _ k => XS.iload X1136.here hx rfl (hb hby at_90) rfl k) ?_
    refine WinW.to T1136 (mkF m 94 #[.val (.int p1), .val (.int p2), .val (.int (3 : Int32)), .val (.int c_1102), .val (.int c_1104), .val (.int c_1106), .val (.int (p2 &&& (255 : Int32))), .val (.int (((p2.toUInt32 >>> ((8 : Int32) &&& 31).toUInt32).toInt32) &&& (255 : Int32))), .val (.int (((p2.toUInt32 >>> ((16 : Int32) &&& 31).toUInt32).toInt32) &&& (255 : Int32))), .val (.ref b1108), .unset, .unset] [(.int c_1106), (.int c_1104), (.int c_1102), (.int (3 : Int32)), (.ref b1136), (.ref b1136)]) (fun _ k => XS.iload X1136.here hx rfl (hb hby at_92) rfl k) ?_
    obtain ⟨T1151, h1151, v1151, L1151, X1151, e1151, ⟨r_1151, kk_1151, rfl, N1151q, r1151_0, r1151_1, r1151_2⟩, st1151⟩ := N.static X1136 hx hZ1130 (y := (⟨"com/example/grantgate/grantgate/server/HeadMethodPinLaw", "prefix", "(ICCC)[C"⟩ : MethodName)) hown1130 (hw _ (List.mem_of_getElem? (i := 37) rfl)) (hw _ (List.mem_of_getElem? (i := 38) rfl)) (hw _ (List.mem_of_getElem? (i := 2) rfl)) (hw _ (List.mem_of_getElem? (i := 39) rfl)) (by decide) (pref3 l Z a0 hw c_1102 c_1104 c_1106 h1136 n0 O1144 r1102_1 r1104_1 r1106_1) e1136 (g := (mkF m 94 #[.val (.int p1), .val (.int p2), .val (.int (3 : Int32)), .val (.int c_1102), .val (.int c_1104), .val (.int c_1106), .val (.int (p2 &&& (255 : Int32))), .val (.int (((p2.toUInt32 >>> ((8 : Int32) &&& 31).toUInt32).toInt32) &&& (255 : Int32))), .val (.int (((p2.toUInt32 >>> ((16 : Int32) &&& 31).toUInt32).toInt32) &&& (255 : Int32))), .val (.ref b1108), .unset, .unset] [(.int c_1106), (.int c_1104), (.int c_1102), (.int (3 : Int32)), (.ref b1136), (.ref b1136)])) rfl (by rw [hml]; rfl) (argsL := [(.int (3 : Int32)), (.int c_1102), (.int c_1104), (.int c_1106)]) (rest := [(.ref b1136), (.ref b1136)]) rfl (lenOf pd__ICCC__C rfl) rfl (W := 2) (by show 2 * 0 + _ ≤ _; exact Nat.le_of_eq rfl) (hb hby at_94) (by decide) (by decide) (by decide) (by decide)
    have N1152 := Fr.app N1131 N1151q
    have F1153 : Exa Z h1136 b1108 "java/lang/String" := (Exa.ext E1136 F1137)
    have ne1154 : b1108 ≠ r_1151 := Nat.ne_of_lt (Nat.lt_of_lt_of_le F1153.lt r1151_1)
    have F1155 : Arv Z h1136 r_1117 kk_1117 .char (7 : Int32) [(.int c_1102), (.int c_1104), (.int c_1106), (.int (32 : Int32)), (.int (p2 &&& (255 : Int32))), (.int (((p2.toUInt32 >>> ((8 : Int32) &&& 31).toUInt32).toInt32) &&& (255 : Int32))), (.int (((p2.toUInt32 >>> ((16 : Int32) &&& 31).toUInt32).toInt32) &&& (255 : Int32)))] (.int (0 : Int32)) := (F1139.ext E1136)
    have ne1156 : r_1117 ≠ r_1151 := Nat.ne_of_lt (Nat.lt_of_lt_of_le F1155.lt r1151_1)
    have F1157 : ArF Z h1136 t_1130 kb_1130 .byte 7 (fun i => ((fun i => ([c_1102, c_1104, c_1106, (32 : Int32), (p2 &&& (255 : Int32)), (((p2.toUInt32 >>> ((8 : Int32) &&& 31).toUInt32).toInt32) &&& (255 : Int32)), (((p2.toUInt32 >>> ((16 : Int32) &&& 31).toUInt32).toInt32) &&& (255 : Int32))] : List Int32).getD i (0 : Int32)) i).toInt8.toInt32) := (r1130_3.ext E1136)
    have ne1158 : t_1130 ≠ r_1151 := Nat.ne_of_lt (Nat.lt_of_lt_of_le F1157.lt r1151_1)
    have ne1159 : b1136 ≠ r_1151 := Nat.ne_of_lt (Nat.lt_of_lt_of_le A1136.lt r1151_1)
    have g1160 : n0 ≤ r_1151 := Nat.le_trans (own_le O1144) r1151_1
    have z1161 : h0.size ≤ r_1151 := Nat.le_trans K1146.1 r1151_1
    have O1162 := Old.keep O1144 r1151_0 all0
    have hk1163 := Nat.le_trans hk1145 r1151_0.1
    have K1164 : Keep h0 h1151 [] := Keep.trans K1146 r1151_0 all0
    have c1165 := CHr.keep r1151_0 sf0 C1148.1
    have C1166 := CHr.trans C1148 c1165
    refine WinW.to T1151 (mkF m 97 #[.val (.int p1), .val (.int p2), .val (.int (3 : Int32)), .val (.int c_1102), .val (.int c_1104), .val (.int c_1106), .val (.int (p2 &&& (255 : Int32))), .val (.int (((p2.toUInt32 >>> ((8 : Int32) &&& 31).toUInt32).toInt32) &&& (255 : Int32))), .val (.int (((p2.toUInt32 >>> ((16 : Int32) &&& 31).toUInt32).toInt32) &&& (255 : Int32))), .val (.ref b1108), .unset, .unset] [(.ref r_1151), (.ref b1136), (.ref b1136)]) (fun _ k => st1151 _ k) ?_
    have F1167 : ArF Z h1151 r_1151 kk_1151 .char 3 (fun i => ([c_1102, c_1104, c_1106] : List Int32).getD i (0 : Int32)) := own_arf [c_1102, c_1104, c_1106] r1151_2 rfl
    have F1168 : Exa Z h1151 b1136 "java/lang/String" := (A1136.keep r1151_0)
    have F1169 : Fld Z h1151 b1136 "java/lang/String" "value" "[B" .null := (F1150.keep r1151_0 nin0)
    have F1170 : Fld Z h1151 b1136 "java/lang/String" "coder" "B" (.int (0 : Int32)) := (F1149.keep r1151_0 nin0)
    obtain ⟨T1171, h1171, v1171, L1171, k1171, X1171, e1171, hS1171, hk1171, hZ1171, hown1171, ⟨t_1171, kb_1171, rfl, N1171q, r1171_0, r1171_1, r1171_2, r1171_3⟩, c1171, st1171⟩ := W.special X1151 hS1130 hk1163 hx hZ1130 (y := (⟨"java/lang/String", "<init>", "([C)V"⟩ : MethodName)) rfl hown1130 (hw _ (List.mem_of_getElem? (i := 11) rfl)) (hw _ (List.mem_of_getElem? (i := 12) rfl)) (hw _ (List.mem_of_getElem? (i := 6) rfl)) (hw _ (List.mem_of_getElem? (i := 13) rfl)) (by decide) (ctor1 l Z a0 hw b1136 r_1151 kk_1151 3 (fun i => ([c_1102, c_1104, c_1106] : List Int32).getD i (0 : Int32)) cs h1151 n0 O1162 F1168 F1169 F1170 F1167 ((fun i hi => by
      match i, hi with
      | 0, _ => exact r1102_2
      | 1, _ => exact r1104_2
      | 2, _ => exact r1106_2)) (by decide) g1142 S_CS hcs) (own_EW hw) C1166.1 e1151 (g := (mkF m 97 #[.val (.int p1), .val (.int p2), .val (.int (3 : Int32)), .val (.int c_1102), .val (.int c_1104), .val (.int c_1106), .val (.int (p2 &&& (255 : Int32))), .val (.int (((p2.toUInt32 >>> ((8 : Int32) &&& 31).toUInt32).toInt32) &&& (255 : Int32))), .val (.int (((p2.toUInt32 >>> ((16 : Int32) &&& 31).toUInt32).toInt32) &&& (255 : Int32))), .val (.ref b1108), .unset, .unset] [(.ref r_1151), (.ref b1136), (.ref b1136)])) rfl (by rw [hml]; rfl) (a := b1136) (argsL := [(.ref r_1151)]) (rest := [(.ref b1136)]) rfl (lenOf pd___C_V rfl) rfl (W := 1) (by show 2 * 0 + _ ≤ _; exact Nat.le_of_eq rfl) (hb hby at_97) (by decide) (by decide) (by decide) (by decide)
    have N1172 := Fr.app N1152 N1171q
    have O1173 := Old.keep O1162 r1171_0 (allS g1142 all0)
    have K1174 : Keep h0 h1171 [] := Keep.trans K1164 r1171_0 (allS (Or.inr z1143) all0)
    have c1175 := c1171
    have C1176 := CHr.trans C1166 c1175
    refine WinW.to T1171 (mkF m 100 #[.val (.int p1), .val (.int p2), .val (.int (3 : Int32)), .val (.int c_1102), .val (.int c_1104), .val (.int c_1106), .val (.int (p2 &&& (255 : Int32))), .val (.int (((p2.toUInt32 >>> ((8 : Int32) &&& 31).toUInt32).toInt32) &&& (255 : Int32))), .val (.int (((p2.toUInt32 >>> ((16 : Int32) &&& 31).toUInt32).toInt32) &&& (255 : Int32))), .val (.ref b1108), .unset, .unset] [(.ref b1136)]) (fun _ k => st1171 _ k) ?_
    refine WinW.to T1171 (mkF m 102 #[.val (.int p1), .val (.int p2), .val (.int (3 : Int32)), .val (.int c_1102), .val (.int c_1104), .val (.int c_1106), .val (.int (p2 &&& (255 : Int32))), .val (.int (((p2.toUInt32 >>> ((8 : Int32) &&& 31).toUInt32).toInt32) &&& (255 : Int32))), .val (.int (((p2.toUInt32 >>> ((16 : Int32) &&& 31).toUInt32).toInt32) &&& (255 : Int32))), .val (.ref b1108), .val (.ref b1136), .unset] []) (fun _ k => XS.astore X1171.here hx rfl (hb hby at_100) rfl rfl (l' := #[.val (.int p1), .val (.int p2), .val (.int (3 : Int32)), .val (.int c_1102), .val (.int c_1104), .val (.int c_1106), .val (.int (p2 &&& (255 : Int32))), .val (.int (((p2.toUInt32 >>> ((8 : Int32) &&& 31).toUInt32).toInt32) &&& (255 : Int32))), .val (.int (((p2.toUInt32 >>> ((16 : Int32) &&& 31).toUInt32).toInt32) &&& (255 : Int32))), .val (.ref b1108), .val (.ref b1136), .unset]) rfl k) ?_
    obtain ⟨T1177, h1177, X1177, e1177, E1177, A1177, D1177, -, st1177⟩ := newO X1171 hx hZ1171 hown1171 (hw _ (List.mem_of_getElem? (i := 43) rfl)) (hw _ (List.mem_of_getElem? (i := 44) rfl)) (hw _ (List.mem_of_getElem? (i := 45) rfl)) e1171 (g := (mkF m 102 #[.val (.int p1), .val (.int p2), .val (.int (3 : Int32)), .val (.int c_1102), .val (.int c_1104), .val (.int c_1106), .val (.int (p2 &&& (255 : Int32))), .val (.int (((p2.toUInt32 >>> ((8 : Int32) &&& 31).toUInt32).toInt32) &&& (255 : Int32))), .val (.int (((p2.toUInt32 >>> ((16 : Int32) &&& 31).toUInt32).toInt32) &&& (255 : Int32))), .val (.ref b1108), .val (.ref b1136), .unset] [])) rfl (hb hby at_102) (by decide) (by decide)
    obtain ⟨b1177, g1177⟩ : ∃ z, z = h1171.size := ⟨_, rfl⟩
    rw [← g1177] at A1177 D1177 st1177
    have F1178 : Exa Z h1171 b1108 "java/lang/String" := ((F1153.keep r1151_0).keep r1171_0)
    have ne1179 : b1108 ≠ b1177 := Nat.ne_of_lt (Nat.lt_of_lt_of_le F1178.lt (Nat.le_of_eq g1177.symm))
    have F1180 : Arv Z h1171 r_1117 kk_1117 .char (7 : Int32) [(.int c_1102), (.int c_1104), (.int c_1106), (.int (32 : Int32)), (.int (p2 &&& (255 : Int32))), (.int (((p2.toUInt32 >>> ((8 : Int32) &&& 31).toUInt32).toInt32) &&& (255 : Int32))), (.int (((p2.toUInt32 >>> ((16 : Int32) &&& 31).toUInt32).toInt32) &&& (255 : Int32)))] (.int (0 : Int32)) := ((F1155.keep r1151_0 nin0).keep r1171_0 (ninS ne1140 nin0))
    have ne1181 : r_1117 ≠ b1177 := Nat.ne_of_lt (Nat.lt_of_lt_of_le F1180.lt (Nat.le_of_eq g1177.symm))
    have F1182 : ArF Z h1171 t_1130 kb_1130 .byte 7 (fun i => ((fun i => ([c_1102, c_1104, c_1106, (32 : Int32), (p2 &&& (255 : Int32)), (((p2.toUInt32 >>> ((8 : Int32) &&& 31).toUInt32).toInt32) &&& (255 : Int32)), (((p2.toUInt32 >>> ((16 : Int32) &&& 31).toUInt32).toInt32) &&& (255 : Int32))] : List Int32).getD i (0 : Int32)) i).toInt8.toInt32) := ((F1157.keep r1151_0 nin0).keep r1171_0 (ninS ne1141 nin0))
    have ne1183 : t_1130 ≠ b1177 := Nat.ne_of_lt (Nat.lt_of_lt_of_le F1182.lt (Nat.le_of_eq g1177.symm))
    have F1184 : Exa Z h1171 b1136 "java/lang/String" := (F1168.keep r1171_0)
    have ne1185 : b1136 ≠ b1177 := Nat.ne_of_lt (Nat.lt_of_lt_of_le F1184.lt (Nat.le_of_eq g1177.symm))
    have F1186 : Arv Z h1171 r_1151 kk_1151 .char (3 : Int32) [(.int c_1102), (.int c_1104), (.int c_1106)] (.int (0 : Int32)) := (r1151_2.keep r1171_0 (ninS (Ne.symm ne1159) nin0))
    have ne1187 : r_1151 ≠ b1177 := Nat.ne_of_lt (Nat.lt_of_lt_of_le F1186.lt (Nat.le_of_eq g1177.symm))
    have ne1188 : t_1171 ≠ b1177 := Nat.ne_of_lt (Nat.lt_of_lt_of_le r1171_3.lt (Nat.le_of_eq g1177.symm))
    have g1189 : n0 ≤ b1177 := Nat.le_trans (own_le O1173) (Nat.le_of_eq g1177.symm)
    have z1190 : h0.size ≤ b1177 := Nat.le_trans K1174.1 (Nat.le_of_eq g1177.symm)
    have O1191 := Old.ext O1173 E1177
    have hk1192 := Nat.le_trans hk1171 E1177.1
    have K1193 : Keep h0 h1177 [] := K1174.ext E1177
    have c1194 := CHr.ext E1177 C1176.1
    have C1195 := CHr.trans C1176 c1194
    have F1196 : Fld Z h1177 b1177 "com/example/grantgate/grantgate/server/MessageReader$Head" "startLine" "Ljava/lang/String;" .null := D1177 (Or.inr (hw _ (List.mem_of_getElem? (i := 80) rfl))) (ty := (.object "java/lang/String")) (by decide)
    have F1197 : Fld Z h1177 b1177 "com/example/grantgate/grantgate/server/MessageReader$Head" "fields" "Ljava/util/List;" .null := D1177 (Or.inr (hw _ (List.mem_of_getElem? (i := 82) rfl))) (ty := (.object "java/util/List")) (by decide)
    refine WinW.to T1177 (mkF m 105 #[.val (.int p1), .val (.int p2), .val (.int (3 : Int32)), .val (.int c_1102), .val (.int c_1104), .val (.int c_1106), .val (.int (p2 &&& (255 : Int32))), .val (.int (((p2.toUInt32 >>> ((8 : Int32) &&& 31).toUInt32).toInt32) &&& (255 : Int32))), .val (.int (((p2.toUInt32 >>> ((16 : Int32) &&& 31).toUInt32).toInt32) &&& (255 : Int32))), .val (.ref b1108), .val (.ref b1136), .unset] [(.ref b1177)]) (fun _ k => st1177 _ k) ?_
    refine WinW.to T1177 (mkF m 106 #[.val (.int p1), .val (.int p2), .val (.int (3 : Int32)), .val (.int c_1102), .val (.int c_1104), .val (.int c_1106), .val (.int (p2 &&& (255 : Int32))), .val (.int (((p2.toUInt32 >>> ((8 : Int32) &&& 31).toUInt32).toInt32) &&& (255 : Int32))), .val (.int (((p2.toUInt32 >>> ((16 : Int32) &&& 31).toUInt32).toInt32) &&& (255 : Int32))), .val (.ref b1108), .val (.ref b1136), .unset] [(.ref b1177), (.ref b1177)]) (fun _ k => XS.dup X1177.here hx rfl (hb hby at_105) rfl rfl k) ?_
    refine WinW.to T1177 (mkF m 108 #[.val (.int p1), .val (.int p2), .val (.int (3 : Int32)), .val (.int c_1102), .val (.int c_1104), .val (.int c_1106), .val (.int (p2 &&& (255 : Int32))), .val (.int (((p2.toUInt32 >>> ((8 : Int32) &&& 31).toUInt32).toInt32) &&& (255 : Int32))), .val (.int (((p2.toUInt32 >>> ((16 : Int32) &&& 31).toUInt32).toInt32) &&& (255 : Int32))), .val (.ref b1108), .val (.ref b1136), .unset] [(.ref b1108), (.ref b1177), (.ref b1177)]) (fun _ k => XS.aload X1177.here hx rfl (hb hby at_106) rfl rfl k) ?_
    obtain ⟨T1198, h1198, X1198, e1198, E1198, A1198, D1198, -, st1198⟩ := newO X1177 hx hZ1171 hown1171 (hw _ (List.mem_of_getElem? (i := 46) rfl)) (hw _ (List.mem_of_getElem? (i := 47) rfl)) (hw _ (List.mem_of_getElem? (i := 48) rfl)) e1177 (g := (mkF m 108 #[.val (.int p1), .val (.int p2), .val (.int (3 : Int32)), .val (.int c_1102), .val (.int c_1104), .val (.int c_1106), .val (.int (p2 &&& (255 : Int32))), .val (.int (((p2.toUInt32 >>> ((8 : Int32) &&& 31).toUInt32).toInt32) &&& (255 : Int32))), .val (.int (((p2.toUInt32 >>> ((16 : Int32) &&& 31).toUInt32).toInt32) &&& (255 : Int32))), .val (.ref b1108), .val (.ref b1136), .unset] [(.ref b1108), (.ref b1177), (.ref b1177)])) rfl (hb hby at_108) (by decide) (by decide)
    obtain ⟨b1198, g1198⟩ : ∃ z, z = h1177.size := ⟨_, rfl⟩
    rw [← g1198] at A1198 D1198 st1198
    have F1199 : Exa Z h1177 b1108 "java/lang/String" := (Exa.ext E1177 F1178)
    have ne1200 : b1108 ≠ b1198 := Nat.ne_of_lt (Nat.lt_of_lt_of_le F1199.lt (Nat.le_of_eq g1198.symm))
    have F1201 : Arv Z h1177 r_1117 kk_1117 .char (7 : Int32) [(.int c_1102), (.int c_1104), (.int c_1106), (.int (32 : Int32)), (.int (p2 &&& (255 : Int32))), (.int (((p2.toUInt32 >>> ((8 : Int32) &&& 31).toUInt32).toInt32) &&& (255 : Int32))), (.int (((p2.toUInt32 >>> ((16 : Int32) &&& 31).toUInt32).toInt32) &&& (255 : Int32)))] (.int (0 : Int32)) := (F1180.ext E1177)
    have ne1202 : r_1117 ≠ b1198 := Nat.ne_of_lt (Nat.lt_of_lt_of_le F1201.lt (Nat.le_of_eq g1198.symm))
    have F1203 : ArF Z h1177 t_1130 kb_1130 .byte 7 (fun i => ((fun i => ([c_1102, c_1104, c_1106, (32 : Int32), (p2 &&& (255 : Int32)), (((p2.toUInt32 >>> ((8 : Int32) &&& 31).toUInt32).toInt32) &&& (255 : Int32)), (((p2.toUInt32 >>> ((16 : Int32) &&& 31).toUInt32).toInt32) &&& (255 : Int32))] : List Int32).getD i (0 : Int32)) i).toInt8.toInt32) := (F1182.ext E1177)
    have ne1204 : t_1130 ≠ b1198 := Nat.ne_of_lt (Nat.lt_of_lt_of_le F1203.lt (Nat.le_of_eq g1198.symm))
    have F1205 : Exa Z h1177 b1136 "java/lang/String" := (Exa.ext E1177 F1184)
    have ne1206 : b1136 ≠ b1198 := Nat.ne_of_lt (Nat.lt_of_lt_of_le F1205.lt (Nat.le_of_eq g1198.symm))
    have F1207 : Arv Z h1177 r_1151 kk_1151 .char (3 : Int32) [(.int c_1102), (.int c_1104), (.int c_1106)] (.int (0 : Int32)) := (F1186.ext E1177)
    have ne1208 : r_1151 ≠ b1198 := Nat.ne_of_lt (Nat.lt_of_lt_of_le F1207.lt (Nat.le_of_eq g1198.symm))
    have F1209 : ArF Z h1177 t_1171 kb_1171 .byte 3 (fun i => ((fun i => ([c_1102, c_1104, c_1106] : List Int32).getD i (0 : Int32)) i).toInt8.toInt32) := (r1171_3.ext E1177)
    have ne1210 : t_1171 ≠ b1198 := Nat.ne_of_lt (Nat.lt_of_lt_of_le F1209.lt (Nat.le_of_eq g1198.symm))
    have ne1211 : b1177 ≠ b1198 := Nat.ne_of_lt (Nat.lt_of_lt_of_le A1177.lt (Nat.le_of_eq g1198.symm))
    have g1212 : n0 ≤ b1198 := Nat.le_trans (own_le O1191) (Nat.le_of_eq g1198.symm)
    have z1213 : h0.size ≤ b1198 := Nat.le_trans K1193.1 (Nat.le_of_eq g1198.symm)
    have O1214 := Old.ext O1191 E1198
    have hk1215 := Nat.le_trans hk1192 E1198.1
    have K1216 : Keep h0 h1198 [] := K1193.ext E1198
    have c1217 := CHr.ext E1198 C1195.1
    have C1218 := CHr.trans C1195 c1217
    have F1219 : Fld Z h1198 b1198 "java/util/AbstractList" "modCount" "I" (.int (0 : Int32)) := D1198 (Or.inl (hw _ (List.mem_of_getElem? (i := 66) rfl))) (ty := .int) (by decide)
    have F1220 : Fld Z h1198 b1198 "java/util/ArrayList" "elementData" "[Ljava/lang/Object;" .null := D1198 (Or.inl (hw _ (List.mem_of_getElem? (i := 69) rfl))) (ty := (.array (.object "java/lang/Object"))) (by decide)
    refine WinW.to T1198 (mkF m 111 #[.val (.int p1), .val (.int p2), .val (.int (3 : Int32)), .val (.int c_1102), .val (.int c_1104), .val (.int c_1106), .val (.int (p2 &&& (255 : Int32))), .val (.int (((p2.toUInt32 >>> ((8 : Int32) &&& 31).toUInt32).toInt32) &&& (255 : Int32))), .val (.int (((p2.toUInt32 >>> ((16 : Int32) &&& 31).toUInt32).toInt32) &&& (255 : Int32))), .val (.ref b1108), .val (.ref b1136), .unset] [(.ref b1198), (.ref b1108), (.ref b1177), (.ref b1177)]) (fun _ k => st1198 _ k) ?_
    refine WinW.to T1198 (mkF m 112 #[.val (.int p1), .val (.int p2), .val (.int (3 : Int32)), .val (.int c_1102), .val (.int c_1104), .val (.int c_1106), .val (.int (p2 &&& (255 : Int32))), .val (.int (((p2.toUInt32 >>> ((8 : Int32) &&& 31).toUInt32).toInt32) &&& (255 : Int32))), .val (.int (((p2.toUInt32 >>> ((16 : Int32) &&& 31).toUInt32).toInt32) &&& (255 : Int32))), .val (.ref b1108), .val (.ref b1136), .unset] [(.ref b1198), (.ref b1198), (.ref b1108), (.ref b1177), (.ref b1177)]) (fun _ k => XS.dup X1198.here hx rfl (hb hby at_111) rfl rfl k) ?_
    obtain ⟨T1221, h1221, v1221, L1221, X1221, e1221, ⟨rfl, N1221q, r1221_0⟩, st1221⟩ := N.special X1198 hx hZ1171 (y := (⟨"java/util/ArrayList", "<init>", "()V"⟩ : MethodName)) rfl hown1171 (hw _ (List.mem_of_getElem? (i := 49) rfl)) (hw _ (List.mem_of_getElem? (i := 50) rfl)) (hw _ (List.mem_of_getElem? (i := 48) rfl)) (hw _ (List.mem_of_getElem? (i := 51) rfl)) (by decide) (mkAL l Z a0 hw b1198 x2 h1198 n0 O1214 A1198 F1219 F1220 g1212 S_DE hx2) e1198 (g := (mkF m 112 #[.val (.int p1), .val (.int p2), .val (.int (3 : Int32)), .val (.int c_1102), .val (.int c_1104), .val (.int c_1106), .val (.int (p2 &&& (255 : Int32))), .val (.int (((p2.toUInt32 >>> ((8 : Int32) &&& 31).toUInt32).toInt32) &&& (255 : Int32))), .val (.int (((p2.toUInt32 >>> ((16 : Int32) &&& 31).toUInt32).toInt32) &&& (255 : Int32))), .val (.ref b1108), .val (.ref b1136), .unset] [(.ref b1198), (.ref b1198), (.ref b1108), (.ref b1177), (.ref b1177)])) rfl (by rw [hml]; rfl) (a := b1198) (argsL := []) (rest := [(.ref b1198), (.ref b1108), (.ref b1177), (.ref b1177)]) rfl (lenOf pd___V rfl) rfl (W := 4) (by show 2 * 0 + _ ≤ _; exact Nat.le_of_eq rfl) (hb hby at_112) (by decide) (by decide) (by decide) (by decide)
    have N1222 := Fr.app N1172 N1221q
    have O1223 := Old.keep O1214 r1221_0 (allS g1212 all0)
    have hk1224 := Nat.le_trans hk1215 r1221_0.1
    have K1225 : Keep h0 h1221 [] := Keep.trans K1216 r1221_0 (allS (Or.inr z1213) all0)
    have c1226 := CHr.keep r1221_0 (sfS (Safe.exa hZ1171.alike A1198 (by decide) (by decide)) sf0) C1218.1
    have C1227 := CHr.trans C1218 c1226
    refine WinW.to T1221 (mkF m 115 #[.val (.int p1), .val (.int p2), .val (.int (3 : Int32)), .val (.int c_1102), .val (.int c_1104), .val (.int c_1106), .val (.int (p2 &&& (255 : Int32))), .val (.int (((p2.toUInt32 >>> ((8 : Int32) &&& 31).toUInt32).toInt32) &&& (255 : Int32))), .val (.int (((p2.toUInt32 >>> ((16 : Int32) &&& 31).toUInt32).toInt32) &&& (255 : Int32))), .val (.ref b1108), .val (.ref b1136), .unset] [(.ref b1198), (.ref b1108), (.ref b1177), (.ref b1177)]) (fun _ k => st1221 _ k) ?_
    have F1228 : Exa Z h1221 b1177 "com/example/grantgate/grantgate/server/MessageReader$Head" := ((Exa.ext E1198 A1177).keep r1221_0)
    have F1229 : Fld Z h1221 b1177 "com/example/grantgate/grantgate/server/MessageReader$Head" "startLine" "Ljava/lang/String;" .null := ((Fld.ext E1198 F1196).keep r1221_0 (ninS ne1211 nin0))
    have F1230 : Fld Z h1221 b1177 "com/example/grantgate/grantgate/server/MessageReader$Head" "fields" "Ljava/util/List;" .null := ((Fld.ext E1198 F1197).keep r1221_0 (ninS ne1211 nin0))
    obtain ⟨T1231, h1231, v1231, L1231, X1231, e1231, ⟨rfl, N1231q, r1231_0, r1231_1⟩, st1231⟩ := N.special X1221 hx hZ1171 (y := (⟨"com/example/grantgate/grantgate/server/MessageReader$Head", "<init>", "(Ljava/lang/String;Ljava/util/List;)V"⟩ : MethodName)) rfl hown1171 (hw _ (List.mem_of_getElem? (i := 70) rfl)) (hw _ (List.mem_of_getElem? (i := 71) rfl)) (hw _ (List.mem_of_getElem? (i := 45) rfl)) (hw _ (List.mem_of_getElem? (i := 72) rfl)) (by decide) (mkHead l Z a0 hw b1177 b1108 b1198 h1221 n0 O1223 F1228 F1229 F1230 g1189) e1221 (g := (mkF m 115 #[.val (.int p1), .val (.int p2), .val (.int (3 : Int32)), .val (.int c_1102), .val (.int c_1104), .val (.int c_1106), .val (.int (p2 &&& (255 : Int32))), .val (.int (((p2.toUInt32 >>> ((8 : Int32) &&& 31).toUInt32).toInt32) &&& (255 : Int32))), .val (.int (((p2.toUInt32 >>> ((16 : Int32) &&& 31).toUInt32).toInt32) &&& (255 : Int32))), .val (.ref b1108), .val (.ref b1136), .unset] [(.ref b1198), (.ref b1108), (.ref b1177), (.ref b1177)])) rfl (by rw [hml]; rfl) (a := b1177) (argsL := [(.ref b1108), (.ref b1198)]) (rest := [(.ref b1177)]) rfl (lenOf pd__Ljava_lang_String_Ljava_util_List__V rfl) rfl (W := 1) (by show 2 * 0 + _ ≤ _; exact Nat.le_of_eq rfl) (hb hby at_115) (by decide) (by decide) (by decide) (by decide)
    have N1232 := Fr.app N1222 N1231q
    have O1233 := Old.keep O1223 r1231_0 (allS g1189 all0)
    have hk1234 := Nat.le_trans hk1224 r1231_0.1
    have K1235 : Keep h0 h1231 [] := Keep.trans K1225 r1231_0 (allS (Or.inr z1190) all0)
    have c1236 := CHr.keep r1231_0 (sfS (Safe.exa hZ1171.alike F1228 (by decide) (by decide)) sf0) C1227.1
    have C1237 := CHr.trans C1227 c1236
    refine WinW.to T1231 (mkF m 118 #[.val (.int p1), .val (.int p2), .val (.int (3 : Int32)), .val (.int c_1102), .val (.int c_1104), .val (.int c_1106), .val (.int (p2 &&& (255 : Int32))), .val (.int (((p2.toUInt32 >>> ((8 : Int32) &&& 31).toUInt32).toInt32) &&& (255 : Int32))), .val (.int (((p2.toUInt32 >>> ((16 : Int32) &&& 31).toUInt32).toInt32) &&& (255 : Int32))), .val (.ref b1108), .val (.ref b1136), .unset] [(.ref b1177)]) (fun _ k => st1231 _ k) ?_
    refine WinW.to T1231 (mkF m 120 #[.val (.int p1), .val (.int p2), .val (.int (3 : Int32)), .val (.int c_1102), .val (.int c_1104), .val (.int c_1106), .val (.int (p2 &&& (255 : Int32))), .val (.int (((p2.toUInt32 >>> ((8 : Int32) &&& 31).toUInt32).toInt32) &&& (255 : Int32))), .val (.int (((p2.toUInt32 >>> ((16 : Int32) &&& 31).toUInt32).toInt32) &&& (255 : Int32))), .val (.ref b1108), .val (.ref b1136), .val (.ref b1177)] []) (fun _ k => XS.astore X1231.here hx rfl (hb hby at_118) rfl rfl (l' := #[.val (.int p1), .val (.int p2), .val (.int (3 : Int32)), .val (.int c_1102), .val (.int c_1104), .val (.int c_1106), .val (.int (p2 &&& (255 : Int32))), .val (.int (((p2.toUInt32 >>> ((8 : Int32) &&& 31).toUInt32).toInt32) &&& (255 : Int32))), .val (.int (((p2.toUInt32 >>> ((16 : Int32) &&& 31).toUInt32).toInt32) &&& (255 : Int32))), .val (.ref b1108), .val (.ref b1136), .val (.ref b1177)]) rfl k) ?_
    refine WinW.to T1231 (mkF m 122 #[.val (.int p1), .val (.int p2), .val (.int (3 : Int32)), .val (.int c_1102), .val (.int c_1104), .val (.int c_1106), .val (.int (p2 &&& (255 : Int32))), .val (.int (((p2.toUInt32 >>> ((8 : Int32) &&& 31).toUInt32).toInt32) &&& (255 : Int32))), .val (.int (((p2.toUInt32 >>> ((16 : Int32) &&& 31).toUInt32).toInt32) &&& (255 : Int32))), .val (.ref b1108), .val (.ref b1136), .val (.ref b1177)] [(.ref b1136)]) (fun _ k => XS.aload X1231.here hx rfl (hb hby at_120) rfl rfl k) ?_
    refine WinW.to T1231 (mkF m 124 #[.val (.int p1), .val (.int p2), .val (.int (3 : Int32)), .val (.int c_1102), .val (.int c_1104), .val (.int c_1106), .val (.int (p2 &&& (255 : Int32))), .val (.int (((p2.toUInt32 >>> ((8 : Int32) &&& 31).toUInt32).toInt32) &&& (255 : Int32))), .val (.int (((p2.toUInt32 >>> ((16 : Int32) &&& 31).toUInt32).toInt32) &&& (255 : Int32))), .val (.ref b1108), .val (.ref b1136), .val (.ref b1177)] [(.ref b1177), (.ref b1136)]) (fun _ k => XS.aload X1231.here hx rfl (hb hby at_122) rfl rfl k) ?_
    have F1238 : Exa Z h1231 b1108 "java/lang/String" := (((Exa.ext E1198 F1199).keep r1221_0).keep r1231_0)
    have F1239 : Fld Z h1231 b1108 "java/lang/String" "value" "[B" (.ref t_1130) := (((Fld.ext E1198 (Fld.ext E1177 (((Fld.ext E1136 r1130_1).keep r1151_0 nin0).keep r1171_0 (ninS ne1138 nin0)))).keep r1221_0 (ninS ne1200 nin0)).keep r1231_0 (ninS ne1179 nin0))
    have F1240 : Fld Z h1231 b1108 "java/lang/String" "coder" "B" (.int (0 : Int32)) := (((Fld.ext E1198 (Fld.ext E1177 (((Fld.ext E1136 r1130_2).keep r1151_0 nin0).keep r1171_0 (ninS ne1138 nin0)))).keep r1221_0 (ninS ne1200 nin0)).keep r1231_0 (ninS ne1179 nin0))
    have F1241 : ArF Z h1231 t_1130 kb_1130 .byte 7 (fun i => ((fun i => ([c_1102, c_1104, c_1106, (32 : Int32), (p2 &&& (255 : Int32)), (((p2.toUInt32 >>> ((8 : Int32) &&& 31).toUInt32).toInt32) &&& (255 : Int32)), (((p2.toUInt32 >>> ((16 : Int32) &&& 31).toUInt32).toInt32) &&& (255 : Int32))] : List Int32).getD i (0 : Int32)) i).toInt8.toInt32) := (((F1203.ext E1198).keep r1221_0 (ninS ne1204 nin0)).keep r1231_0 (ninS ne1183 nin0))
    have F1243 : Exa Z h1231 b1177 "com/example/grantgate/grantgate/server/MessageReader$Head" := (F1228.keep r1231_0)
    obtain ⟨T1242, h1242, v1242, L1242, k1242, X1242, e1242, hS1242, hk1242, hZ1242, hown1242, ⟨r_1242, t2_1242, k2_1242, rfl, N1242q, r1242_0, r1242_1, r1242_2, r1242_3, r1242_4⟩, c1242, st1242⟩ := W.virtual X1231 hS1171 hk1234 hx hZ1171 (y := (⟨"com/example/grantgate/grantgate/server/MessageReader$Head", "method", "()Ljava/lang/String;"⟩ : MethodName)) (z := (⟨"com/example/grantgate/grantgate/server/MessageReader$Head", "method", "()Ljava/lang/String;"⟩ : MethodName)) hown1171 (hw _ (List.mem_of_getElem? (i := 83) rfl)) (hw _ (List.mem_of_getElem? (i := 84) rfl)) (notFace_of_selects (args := #[]) (mvT hZ1171 (hw _ (List.mem_of_getElem? (i := 86) rfl)))) (hw _ (List.mem_of_getElem? (i := 86) rfl)) (hw _ (List.mem_of_getElem? (i := 85) rfl)) (hw _ (List.mem_of_getElem? (i := 45) rfl)) (hw _ (List.mem_of_getElem? (i := 87) rfl)) (by decide) (headM l Z a0 hw b1177 b1108 t_1130 kb_1130 7 (fun i => ((fun i => ([c_1102, c_1104, c_1106, (32 : Int32), (p2 &&& (255 : Int32)), (((p2.toUInt32 >>> ((8 : Int32) &&& 31).toUInt32).toInt32) &&& (255 : Int32)), (((p2.toUInt32 >>> ((16 : Int32) &&& 31).toUInt32).toInt32) &&& (255 : Int32))] : List Int32).getD i (0 : Int32)) i).toInt8.toInt32) 3 cs x1 h1231 n0 O1233 r1231_1 F1238 F1239 F1240 F1241 (by decide) ((fun i hi => by
      match i, hi with
      | 0, _ => exact r1102_3
      | 1, _ => exact r1104_3
      | 2, _ => exact r1106_3)) (show (32 : Int32).toInt8.toInt32 = (32 : Int32) from by decide) (by decide) S_CS hcs S_SI hx1) (own_EW hw) C1237.1 e1231 F1243 (g := (mkF m 124 #[.val (.int p1), .val (.int p2), .val (.int (3 : Int32)), .val (.int c_1102), .val (.int c_1104), .val (.int c_1106), .val (.int (p2 &&& (255 : Int32))), .val (.int (((p2.toUInt32 >>> ((8 : Int32) &&& 31).toUInt32).toInt32) &&& (255 : Int32))), .val (.int (((p2.toUInt32 >>> ((16 : Int32) &&& 31).toUInt32).toInt32) &&& (255 : Int32))), .val (.ref b1108), .val (.ref b1136), .val (.ref b1177)] [(.ref b1177), (.ref b1136)])) rfl (by rw [hml]; rfl) (argsL := []) (rest := [(.ref b1136)]) rfl (lenOf pd___Ljava_lang_String_ rfl) rfl (W := 1) (by show 2 * 0 + _ ≤ _; exact Nat.le_of_eq rfl) (hb hby at_124) (by decide) (by decide) (by decide) (by decide)
    have N1244 := Fr.app N1232 N1242q
    have O1245 := Old.keep O1233 r1242_0 all0
    have K1246 : Keep h0 h1242 [] := Keep.trans K1235 r1242_0 all0
    have c1247 := c1242
    have C1248 := CHr.trans C1237 c1247
    refine WinW.to T1242 (mkF m 127 #[.val (.int p1), .val (.int p2), .val (.int (3 : Int32)), .val (.int c_1102), .val (.int c_1104), .val (.int c_1106), .val (.int (p2 &&& (255 : Int32))), .val (.int (((p2.toUInt32 >>> ((8 : Int32) &&& 31).toUInt32).toInt32) &&& (255 : Int32))), .val (.int (((p2.toUInt32 >>> ((16 : Int32) &&& 31).toUInt32).toInt32) &&& (255 : Int32))), .val (.ref b1108), .val (.ref b1136), .val (.ref b1177)] [(.ref r_1242), (.ref b1136)]) (fun _ k => st1242 _ k) ?_
    have F1249 : Fld Z h1242 b1136 "java/lang/String" "value" "[B" (.ref t_1171) := ((((Fld.ext E1198 (Fld.ext E1177 r1171_1)).keep r1221_0 (ninS ne1206 nin0)).keep r1231_0 (ninS ne1185 nin0)).keep r1242_0 nin0)
    have F1250 : Fld Z h1242 b1136 "java/lang/String" "coder" "B" (.int (0 : Int32)) := ((((Fld.ext E1198 (Fld.ext E1177 r1171_2)).keep r1221_0 (ninS ne1206 nin0)).keep r1231_0 (ninS ne1185 nin0)).keep r1242_0 nin0)
    have F1251 : ArF Z h1242 t_1171 kb_1171 .byte 3 (fun i => ((fun i => ([c_1102, c_1104, c_1106] : List Int32).getD i (0 : Int32)) i).toInt8.toInt32) := ((((F1209.ext E1198).keep r1221_0 (ninS ne1210 nin0)).keep r1231_0 (ninS ne1188 nin0)).keep r1242_0 nin0)
    have F1253 : Exa Z h1242 b1136 "java/lang/String" := ((((Exa.ext E1198 F1205).keep r1221_0).keep r1231_0).keep r1242_0)
    obtain ⟨T1252, h1252, v1252, L1252, X1252, e1252, ⟨rfl, N1252q, r1252_0⟩, st1252⟩ := N.virtual X1242 hx hZ1242 (y := (⟨"java/lang/String", "equals", "(Ljava/lang/Object;)Z"⟩ : MethodName)) (z := (⟨"java/lang/String", "equals", "(Ljava/lang/Object;)Z"⟩ : MethodName)) hown1242 (hw _ (List.mem_of_getElem? (i := 147) rfl)) (hw _ (List.mem_of_getElem? (i := 148) rfl)) (notFace_of_selects (args := #[]) (mvT hZ1242 (hw _ (List.mem_of_getElem? (i := 150) rfl)))) (hw _ (List.mem_of_getElem? (i := 150) rfl)) (hw _ (List.mem_of_getElem? (i := 149) rfl)) (hw _ (List.mem_of_getElem? (i := 6) rfl)) (hw _ (List.mem_of_getElem? (i := 151) rfl)) (by decide) (strEq l Z a0 hw b1136 r_1242 t_1171 t2_1242 kb_1171 k2_1242 3 (3 - 0) (fun i => ((fun i => ([c_1102, c_1104, c_1106] : List Int32).getD i (0 : Int32)) i).toInt8.toInt32) (fun i => (fun i => ((fun i => ([c_1102, c_1104, c_1106, (32 : Int32), (p2 &&& (255 : Int32)), (((p2.toUInt32 >>> ((8 : Int32) &&& 31).toUInt32).toInt32) &&& (255 : Int32)), (((p2.toUInt32 >>> ((16 : Int32) &&& 31).toUInt32).toInt32) &&& (255 : Int32))] : List Int32).getD i (0 : Int32)) i).toInt8.toInt32) (0 + i)) (1 : Int32) cs h1242 n0 O1245 r1242_1 F1249 F1250 r1242_2 r1242_3 F1251 r1242_4 (fun _ => rfl) ((fun q => absurd ⟨rfl, (fun i hi => by
      match i, hi with
      | 0, _ => exact rfl
      | 1, _ => exact rfl
      | 2, _ => exact rfl)⟩ q)) S_CS hcs) e1242 F1253 (g := (mkF m 127 #[.val (.int p1), .val (.int p2), .val (.int (3 : Int32)), .val (.int c_1102), .val (.int c_1104), .val (.int c_1106), .val (.int (p2 &&& (255 : Int32))), .val (.int (((p2.toUInt32 >>> ((8 : Int32) &&& 31).toUInt32).toInt32) &&& (255 : Int32))), .val (.int (((p2.toUInt32 >>> ((16 : Int32) &&& 31).toUInt32).toInt32) &&& (255 : Int32))), .val (.ref b1108), .val (.ref b1136), .val (.ref b1177)] [(.ref r_1242), (.ref b1136)])) rfl (by rw [hml]; rfl) (argsL := [(.ref r_1242)]) (rest := []) rfl (lenOf pd__Ljava_lang_Object__Z rfl) rfl (W := 0) (by show 2 * 0 + _ ≤ _; exact Nat.le_of_eq rfl) (hb hby at_127) (by decide) (by decide) (by decide) (by decide)
    have N1254 := Fr.app N1244 N1252q
    have e1252 := e1252.trans r1252_0
    refine WinW.to T1252 (mkF m 130 #[.val (.int p1), .val (.int p2), .val (.int (3 : Int32)), .val (.int c_1102), .val (.int c_1104), .val (.int c_1106), .val (.int (p2 &&& (255 : Int32))), .val (.int (((p2.toUInt32 >>> ((8 : Int32) &&& 31).toUInt32).toInt32) &&& (255 : Int32))), .val (.int (((p2.toUInt32 >>> ((16 : Int32) &&& 31).toUInt32).toInt32) &&& (255 : Int32))), .val (.ref b1108), .val (.ref b1136), .val (.ref b1177)] [(.int (1 : Int32))]) (fun _ k => st1252 _ k) ?_
    exact WinW.retN X1252 hS1242 (by rw [e1252]; exact hk1242) hx hlk (t := .boolean) hret (by simp) rfl (hb hby at_130) hZ1242 (own_EW hw) (by rw [e1252]; exact C1248) (by decide) (by decide) (by (try rw [e1252]); exact ⟨rfl, N1254, trivial⟩)
set_option maxRecDepth 65536 in
set_option maxHeartbeats 40000000 in
theorem comes_1 {Post : Tables → Env → Array Value → State → Outcome → State → Prop} (hpost : ∀ tb e args s v u, (limb_1_1.after args s (.returned v) u = true ∧ limb_1_2.after args s (.returned v) u = true ∧ True) → ReturnedEndW s (.returned v) u (Jvm.fieldLocs frame_1_writes args s ++ Jvm.arrayLocs frame_1_arrays args s ++ Jvm.staticLocs frame_1_statics s) 32 2240 → Post tb e args s (.returned v) u) :
    ArmFor flags0 classFile x code maxLocals ret World_1 tables_1 room_1 Calls_1 rest_1 Pre_1 Post := by
  intro l hfl _ hworld p e ha hc hk s m args below hf hA hF happ hP
  obtain ⟨hcalls, hrest, hpre⟩ := hP
  obtain ⟨-, -, -, hnamed, -, -, -, hat⟩ := (Spec.applies_iff hf).mp happ
  obtain ⟨hg, hn⟩ := and_e (Cond.before_iff.mp (show (Jvm.Cond.and given_1 narrow_1).before args s = true from hpre))
  obtain ⟨gc, hg⟩ := and_e hg
  obtain ⟨ga0, hg⟩ := and_e hg
  obtain ⟨w0, w1, rfl⟩ : ∃ w0 w1 : Value, args = #[w0, w1] := by
    have hs : args.size = 2 := by simpa [Cond.value, given_1] using gc
    obtain ⟨L⟩ := args
    match L, hs with
    | [w0, w1], _ => exact ⟨w0, w1, rfl⟩
  have hw := fun d (hd : d ∈ tables_1) => atoms_spec (ws := Jvm.Cond.code x code maxLocals ret :: tables_1) hat d (List.mem_cons_of_mem _ hd)
  have hfit : Fit s := fun {y c} hc i hi => by
    obtain ⟨ha, rfl⟩ := Array.getElem?_eq_some_iff.mp hc
    have q := List.all_eq_true.mp ((Array.all_eq_true_iff_forall_mem.mp hF) _ (Array.getElem_mem ha)) i (List.mem_range.mpr hi)
    simpa [Array.getElem?_eq_getElem hi] using q
  obtain ⟨hsets, hown0⟩ := atoms_of _ (rest_1_c_eq ▸ (show rest_1_c.before _ s = true from hrest))
  have hr0 := Cond.before_iff.mp hown0
  obtain ⟨i0, ei0⟩ := is_v ga0
  obtain rfl : w0 = (.int i0) := Option.some.inj ei0
  obtain ⟨i1, ei1⟩ := is_v hg
  obtain rfl : w1 = (.int i1) := Option.some.inj ei1
  have hs := fun i (d : Jvm.Cond) (hd : jdkStatics_1[i]? = some d) => hsets d (List.mem_of_getElem? hd)
  obtain ⟨cs, ev_cs⟩ := is_v (Cond.before_iff.mp (hs 1 _ rfl))
  have S_CS : Sta s s.heap "java/lang/String" "COMPACT_STRINGS" "Z" (.int cs) := Sta.start ev_cs (Or.inl (hs 0 _ rfl))
  have hcs : ¬ (cs = (0 : Int32)) := gotF (Cond.eq_ints ev_cs rfl) (not_v (Cond.before_iff.mp (hs 2 _ rfl)))
  obtain ⟨x1, ev_x1, hx1⟩ := isR_v (Cond.before_iff.mp (hs 8 _ rfl))
  have S_SI : Sta s s.heap "jdk/internal/util/Preconditions" "SIOOBE_FORMATTER" "Ljava/util/function/BiFunction;" x1 := Sta.start ev_x1 (Or.inl (hs 7 _ rfl))
  obtain ⟨x2, ev_x2⟩ := exa_v (Cond.before_iff.mp (hs 16 _ rfl))
  have S_DE : Sta s s.heap "java/util/ArrayList" "DEFAULTCAPACITY_EMPTY_ELEMENTDATA" "[Ljava/lang/Object;" (.ref x2) := Sta.start ev_x2 (Or.inr ⟨(hw _ (List.mem_of_getElem? (i := 48) rfl)), hs 11 _ rfl⟩)
  have hch : CHv s EL1 s.vm s.heap := CHv.start (own_EW hw) (fun p hp => hcalls.1 p hp) (hs 2 _ rfl) (hw _ (List.mem_of_getElem? (i := 26) rfl)) (hw _ (List.mem_of_getElem? (i := 5) rfl))
  obtain ⟨n, o, h1, h2, h3, v, L, rfl, hQ, -, hq⟩ := rm0 l s _ hw tables_1 i0 i1 cs x1 (.ref x2) s.heap s.heap.size (Old.start s) S_CS hcs S_SI hx1 S_DE rfl p e ha hc hk s m _ below hf ((Spec.applies_iff_loose hf).mp happ).1 ⟨rfl, State.Warmed39.refl s, rfl, hch⟩ trivial
  obtain ⟨rfl, N, -⟩ := hQ
  refine ⟨n, _, h1, h2, h3, hpost _ _ _ _ _ _ ⟨Cond.after_iff.mpr rfl, Cond.after_iff.mpr (eq_i res_at (Term.int_eval (1)) rfl), trivial⟩ ⟨hq.1, hq.2.1, hq.2.2.1, (hq.2.2.2.sift fun y hy => Or.inr (N y hy)).mono (by decide) (by decide)⟩⟩
theorem main_1_1 : Claimed_1_1 := comes_1 fun _ _ _ _ _ _ h hF => ⟨h.1, hF⟩
theorem main_1_2 : Claimed_1_2 := comes_1 fun _ _ _ _ _ _ h hF => ⟨h.2.1, hF⟩
end Jvm.Pilot.@@N@@
namespace Jvm.Pilot.@@N@@
open Jvm Jvm.ClassFile Sem Op Lib Jvm.Free Jvm.Stand Jvm.Pilot.@@N@@.Jvm.D
/-! MADE BY PROGRAM (witnessworld.py) out of the Statement's table words and the real class files: 33 classes; the members and pool entries that the words name. The judged class is class 1, her method 4. -/
namespace start1
open Jvm.ClassFile
def u (s : String) : CpInfo := .utf8 (stringToUtf16 s)
/-- a pool by its gaps: so many unusable entries, then the entry; so many at the end -/
def gap : Nat → List CpInfo → List CpInfo
  | 0, r => r
  | n + 1, r => .unusable :: gap n r
def poolList (es : List (Nat × CpInfo)) (last : Nat) : List CpInfo := es.foldr (fun e r => gap e.1 (e.2 :: r)) (gap last [])
def pool (es : List (Nat × CpInfo)) (last : Nat) : Array CpInfo := ⟨poolList es last⟩
def fileOf (pool : Array CpInfo) (this : Nat) (attrs : Array Attribute := #[]) (ms : Array MethodInfo := #[]) (fl : Nat := 33) (sup : Nat := 0) (ifs : Array Nat := #[]) (fds : Array FieldInfo := #[]) : ClassFile where
  minorVersion := 0
  majorVersion := 65
  constantPool := pool
  accessFlags := fl
  thisClass := this
  superClass := sup
  interfaces := ifs
  fields := fds
  methods := ms
  attributes := attrs
def plain (name : String) (sup : Option ClassId) : Class where
  name := name
  kind := .ordinary
  loader := none
  accessFlags := 33
  super := sup
  interfaces := #[]
  cf := none
  fields := #[]
  methods := #[]
  instanceTypes := #[]
  staticTypes := #[]
  resolved := #[]
  callSites := []
  init := .initialized
  statics := none
  mirror := none

def pool0 : Array CpInfo := pool [(5, u "<init>"), (0, u "()V"), (1, .class_ 10), (1, u "java/lang/Object")] 113

def k0c0 : Code := { maxStack := 0, maxLocals := 1, code := object_method_1_code, exceptionTable := #[], attributes := #[] }
def k0m0 : Method := { name := "<init>", desc := "()V", sig := { parameters := [], returnType := none }, accessFlags := 1, code := some k0c0 }
/-- java/lang/Object -/
def k0 : Class := { plain "java/lang/Object" none with
  accessFlags := 33
  interfaces := #[]
  cf := some (fileOf pool0 8 #[] #[{ accessFlags := 1, nameIndex := 5, descriptorIndex := 6, attributes := #[] }] 33 0 #[] #[])
  fields := #[]
  methods := #[k0m0]
  instanceTypes := #[]
  staticTypes := #[]
  resolved := Array.replicate 124 none
  statics := none }

def pool1 : Array CpInfo := pool [(2, .class_ 4), (0, .nameAndType 5 6), (0, u "java/lang/Object"), (0, u "<init>"), (0, u "()V"), (0, .methodref 8 9), (0, .class_ 10), (0, .nameAndType 11 12), (0, u "com/example/grantgate/grantgate/server/HeadMethodPinLaw"), (0, u "nonSpace"), (0, u "(I)C"), (0, .class_ 14), (0, u "java/lang/String"), (0, .methodref 8 16), (0, .nameAndType 17 18), (0, u "line"), (0, u "(ICCCCCC)[C"), (0, .methodref 13 20), (0, .nameAndType 5 21), (0, u "([C)V"), (0, .methodref 8 23), (0, .nameAndType 24 25), (0, u "prefix"), (0, u "(ICCC)[C"), (0, .class_ 27), (0, u "com/example/grantgate/grantgate/server/MessageReader$Head"), (0, .class_ 29), (0, u "java/util/ArrayList"), (0, .methodref 28 3), (0, .methodref 26 32), (0, .nameAndType 5 33), (0, u "(Ljava/lang/String;Ljava/util/List;)V"), (0, .methodref 26 35), (0, .nameAndType 36 37), (0, u "method"), (0, u "()Ljava/lang/String;"), (0, .methodref 13 39), (0, .nameAndType 40 41), (0, u "equals"), (0, u "(Ljava/lang/Object;)Z"), (3, u "law"), (0, u "(II)Z")] 6

def k1m0 : Method := { name := "<init>", desc := "()V", sig := { parameters := [], returnType := none }, accessFlags := 1, code := none }
def k1c1 : Code := { maxStack := 2, maxLocals := 2, code := method_2_code, exceptionTable := #[], attributes := #[] }
def k1m1 : Method := { name := "nonSpace", desc := "(I)C", sig := { parameters := [.int], returnType := some .char }, accessFlags := 10, code := some k1c1 }
def k1c2 : Code := { maxStack := 4, maxLocals := 4, code := method_3_code, exceptionTable := #[], attributes := #[] }
def k1m2 : Method := { name := "prefix", desc := "(ICCC)[C", sig := { parameters := [.int, .char, .char, .char], returnType := some (.array .char) }, accessFlags := 10, code := some k1c2 }
def k1c3 : Code := { maxStack := 4, maxLocals := 7, code := method_4_code, exceptionTable := #[], attributes := #[] }
def k1m3 : Method := { name := "line", desc := "(ICCCCCC)[C", sig := { parameters := [.int, .char, .char, .char, .char, .char, .char], returnType := some (.array .char) }, accessFlags := 10, code := some k1c3 }
def k1c4 : Code := { maxStack := 9, maxLocals := 12, code := code, exceptionTable := #[], attributes := #[] }
def k1m4 : Method := { name := "law", desc := "(II)Z", sig := { parameters := [.int, .int], returnType := some .boolean }, accessFlags := 9, code := some k1c4 }
/-- com/example/grantgate/grantgate/server/HeadMethodPinLaw -/
def k1 : Class := { plain "com/example/grantgate/grantgate/server/HeadMethodPinLaw" (some 0) with
  accessFlags := 49
  interfaces := #[]
  cf := some (fileOf pool1 8 #[] #[{ accessFlags := 1, nameIndex := 5, descriptorIndex := 6, attributes := #[] }, { accessFlags := 10, nameIndex := 11, descriptorIndex := 12, attributes := #[] }, { accessFlags := 10, nameIndex := 24, descriptorIndex := 25, attributes := #[] }, { accessFlags := 10, nameIndex := 17, descriptorIndex := 18, attributes := #[] }, { accessFlags := 9, nameIndex := 45, descriptorIndex := 46, attributes := #[] }] 49 2 #[] #[])
  fields := #[]
  methods := #[k1m0, k1m1, k1m2, k1m3, k1m4]
  instanceTypes := #[]
  staticTypes := #[]
  resolved := Array.replicate 53 none
  statics := none }

def pool2 : Array CpInfo := pool [(1, .class_ 2), (0, u "java/io/Serializable"), (0, .class_ 4), (0, u "java/lang/Object")] 2

/-- java/io/Serializable -/
def k2 : Class := { plain "java/io/Serializable" (some 0) with
  accessFlags := 1537
  interfaces := #[]
  cf := some (fileOf pool2 1 #[] #[] 1537 3 #[] #[])
  fields := #[]
  methods := #[]
  instanceTypes := #[]
  staticTypes := #[]
  resolved := Array.replicate 7 none
  statics := none }

def pool3 : Array CpInfo := pool [(1, .class_ 2), (0, u "java/lang/Comparable"), (0, .class_ 4), (0, u "java/lang/Object")] 7

/-- java/lang/Comparable -/
def k3 : Class := { plain "java/lang/Comparable" (some 0) with
  accessFlags := 1537
  interfaces := #[]
  cf := some (fileOf pool3 1 #[] #[] 1537 3 #[] #[])
  fields := #[]
  methods := #[]
  instanceTypes := #[]
  staticTypes := #[]
  resolved := Array.replicate 12 none
  statics := none }

def pool4 : Array CpInfo := pool [(2, .class_ 4), (1, u "java/lang/CharSequence"), (42, .class_ 48), (0, u "java/lang/CharSequence$1CodePointIterator"), (10, .class_ 60), (0, u "java/lang/CharSequence$1CharIterator"), (5, .class_ 67), (0, u "java/lang/Object")] 63

/-- java/lang/CharSequence -/
def k4 : Class := { plain "java/lang/CharSequence" (some 0) with
  accessFlags := 1537
  interfaces := #[]
  cf := some (fileOf pool4 2 #[.nestMembers #[47, 59]] #[] 1537 66 #[] #[])
  fields := #[]
  methods := #[]
  instanceTypes := #[]
  staticTypes := #[]
  resolved := Array.replicate 131 none
  statics := none }

def pool5 : Array CpInfo := pool [(1, .class_ 2), (0, u "java/lang/constant/Constable"), (0, .class_ 4), (0, u "java/lang/Object")] 6

/-- java/lang/constant/Constable -/
def k5 : Class := { plain "java/lang/constant/Constable" (some 0) with
  accessFlags := 1537
  interfaces := #[]
  cf := some (fileOf pool5 1 #[] #[] 1537 3 #[] #[])
  fields := #[]
  methods := #[]
  instanceTypes := #[]
  staticTypes := #[]
  resolved := Array.replicate 11 none
  statics := none }

def pool6 : Array CpInfo := pool [(1, .class_ 2), (0, u "java/lang/constant/ConstantDesc"), (0, .class_ 4), (0, u "java/lang/Object")] 32

/-- java/lang/constant/ConstantDesc -/
def k6 : Class := { plain "java/lang/constant/ConstantDesc" (some 0) with
  accessFlags := 1537
  interfaces := #[]
  cf := some (fileOf pool6 1 #[] #[] 1537 3 #[] #[])
  fields := #[]
  methods := #[]
  instanceTypes := #[]
  staticTypes := #[]
  resolved := Array.replicate 37 none
  statics := none }

def pool7 : Array CpInfo := pool [(1, .methodref 2 3), (0, .class_ 4), (0, .nameAndType 5 6), (0, u "java/lang/Object"), (0, u "<init>"), (0, u "()V"), (0, .string 8), (0, u ""), (0, .fieldref 10 11), (0, .class_ 12), (0, .nameAndType 13 14), (0, u "java/lang/String"), (0, u "value"), (0, u "[B"), (0, .fieldref 10 16), (0, .nameAndType 17 18), (0, u "coder"), (0, u "B"), (2, u "hash"), (0, u "I"), (2, u "hashIsZero"), (0, u "Z"), (0, .methodref 10 28), (0, .nameAndType 5 29), (0, u "([CIILjava/lang/Void;)V"), (8, .fieldref 10 39), (0, .nameAndType 40 26), (0, u "COMPACT_STRINGS"), (1, .class_ 44), (1, u "java/lang/StringUTF16"), (0, u "compress"), (1, .methodref 42 48), (0, .nameAndType 49 50), (0, u "coderFromArrayLen"), (0, u "([BI)B"), (56, .class_ 109), (1, u "java/lang/StringLatin1"), (32, u "()Z"), (34, .methodref 42 178), (0, .nameAndType 45 179), (0, u "([CII)[B"), (31, u "([BB)V"), (122, u "()I"), (0, .methodref 10 336), (0, .nameAndType 17 337), (0, u "()B"), (154, .methodref 10 493), (0, .nameAndType 494 142), (0, u "isLatin1"), (10, .methodref 10 506), (0, .nameAndType 507 334), (0, u "length"), (5, u "checkFromToIndex"), (7, .methodref 10 522), (0, .nameAndType 523 524), (0, u "checkBoundsBeginEnd"), (0, u "(III)V"), (16, .methodref 107 542), (0, .nameAndType 543 544), (0, u "equals"), (0, u "([B[B)Z"), (28, u "(Ljava/lang/Object;)Z"), (1, .class_ 576), (0, u "java/lang/CharSequence"), (22, u "CASE_INSENSITIVE_ORDER"), (0, u "Ljava/util/Comparator;"), (32, .methodref 10 634), (0, .nameAndType 635 636), (0, u "indexOf"), (0, u "(II)I"), (0, .methodref 107 638), (0, .nameAndType 635 639), (0, u "([BIII)I"), (43, u "substring"), (0, u "(II)Ljava/lang/String;"), (0, .methodref 107 686), (0, .nameAndType 687 688), (0, u "newString"), (0, u "([BII)Ljava/lang/String;"), (76, u "(I)I"), (244, u "([C)V"), (42, .fieldref 1054 1055), (0, .class_ 1056), (0, .nameAndType 1057 1058), (0, u "jdk/internal/util/Preconditions"), (0, u "SIOOBE_FORMATTER"), (0, u "Ljava/util/function/BiFunction;"), (3, .methodref 1054 1063), (0, .nameAndType 513 1064), (0, u "(IIILjava/util/function/BiFunction;)I"), (36, u "serialPersistentFields"), (0, u "[Ljava/io/ObjectStreamField;"), (0, .class_ 1104), (0, u "java/lang/String$CaseInsensitiveComparator"), (1, .class_ 1107), (0, u "java/io/Serializable"), (0, .class_ 1109), (0, u "java/lang/Comparable"), (0, .class_ 1111), (0, u "java/lang/constant/Constable"), (0, .class_ 1113), (0, u "java/lang/constant/ConstantDesc"), (2, u "serialVersionUID"), (0, u "J"), (3, u "REPL"), (0, u "C"), (2, u "LATIN1"), (1, u "UTF16")] 323

def k7m0 : Method := { name := "<init>", desc := "()V", sig := { parameters := [], returnType := none }, accessFlags := 1, code := none }
def k7c1 : Code := { maxStack := 5, maxLocals := 2, code := jdk_42_method_3_code, exceptionTable := #[], attributes := #[] }
def k7m1 : Method := { name := "<init>", desc := "([C)V", sig := { parameters := [(.array .char)], returnType := none }, accessFlags := 1, code := some k7c1 }
def k7c2 : Code := { maxStack := 2, maxLocals := 1, code := jdk_42_method_54_code, exceptionTable := #[], attributes := #[] }
def k7m2 : Method := { name := "length", desc := "()I", sig := { parameters := [], returnType := some .int }, accessFlags := 1, code := some k7c2 }
def k7c3 : Code := { maxStack := 2, maxLocals := 3, code := jdk_42_method_66_code, exceptionTable := #[], attributes := #[] }
def k7m3 : Method := { name := "equals", desc := "(Ljava/lang/Object;)Z", sig := { parameters := [(.object "java/lang/Object")], returnType := some .boolean }, accessFlags := 1, code := some k7c3 }
def k7c4 : Code := { maxStack := 3, maxLocals := 2, code := jdk_42_method_79_code, exceptionTable := #[], attributes := #[] }
def k7m4 : Method := { name := "indexOf", desc := "(I)I", sig := { parameters := [.int], returnType := some .int }, accessFlags := 1, code := some k7c4 }
def k7c5 : Code := { maxStack := 4, maxLocals := 3, code := jdk_42_method_80_code, exceptionTable := #[], attributes := #[] }
def k7m5 : Method := { name := "indexOf", desc := "(II)I", sig := { parameters := [.int, .int], returnType := some .int }, accessFlags := 1, code := some k7c5 }
def k7c6 : Code := { maxStack := 3, maxLocals := 5, code := jdk_42_method_92_code, exceptionTable := #[], attributes := #[] }
def k7m6 : Method := { name := "substring", desc := "(II)Ljava/lang/String;", sig := { parameters := [.int, .int], returnType := some (.object "java/lang/String") }, accessFlags := 1, code := some k7c6 }
def k7c7 : Code := { maxStack := 4, maxLocals := 6, code := jdk_42_method_149_code, exceptionTable := #[], attributes := #[] }
def k7m7 : Method := { name := "<init>", desc := "([CIILjava/lang/Void;)V", sig := { parameters := [(.array .char), .int, .int, (.object "java/lang/Void")], returnType := none }, accessFlags := 2, code := some k7c7 }
def k7c8 : Code := { maxStack := 2, maxLocals := 3, code := jdk_42_method_151_code, exceptionTable := #[], attributes := #[] }
def k7m8 : Method := { name := "<init>", desc := "([BB)V", sig := { parameters := [(.array .byte), .byte], returnType := none }, accessFlags := 0, code := some k7c8 }
def k7c9 : Code := { maxStack := 1, maxLocals := 1, code := jdk_42_method_152_code, exceptionTable := #[], attributes := #[] }
def k7m9 : Method := { name := "coder", desc := "()B", sig := { parameters := [], returnType := some .byte }, accessFlags := 0, code := some k7c9 }
def k7c10 : Code := { maxStack := 1, maxLocals := 1, code := jdk_42_method_154_code, exceptionTable := #[], attributes := #[] }
def k7m10 : Method := { name := "isLatin1", desc := "()Z", sig := { parameters := [], returnType := some .boolean }, accessFlags := 0, code := some k7c10 }
def k7c11 : Code := { maxStack := 4, maxLocals := 3, code := jdk_42_method_158_code, exceptionTable := #[], attributes := #[] }
def k7m11 : Method := { name := "checkBoundsBeginEnd", desc := "(III)V", sig := { parameters := [.int, .int, .int], returnType := none }, accessFlags := 8, code := some k7c11 }
/-- java/lang/String -/
def k7 : Class := { plain "java/lang/String" (some 0) with
  accessFlags := 49
  interfaces := #[2, 3, 4, 5, 6]
  cf := some (fileOf pool7 10 #[.nestMembers #[1103]] #[{ accessFlags := 1, nameIndex := 5, descriptorIndex := 6, attributes := #[] }, { accessFlags := 1, nameIndex := 5, descriptorIndex := 1010, attributes := #[] }, { accessFlags := 1, nameIndex := 507, descriptorIndex := 334, attributes := #[] }, { accessFlags := 1, nameIndex := 543, descriptorIndex := 573, attributes := #[] }, { accessFlags := 1, nameIndex := 635, descriptorIndex := 765, attributes := #[] }, { accessFlags := 1, nameIndex := 635, descriptorIndex := 636, attributes := #[] }, { accessFlags := 1, nameIndex := 683, descriptorIndex := 684, attributes := #[] }, { accessFlags := 2, nameIndex := 5, descriptorIndex := 29, attributes := #[] }, { accessFlags := 0, nameIndex := 5, descriptorIndex := 211, attributes := #[] }, { accessFlags := 0, nameIndex := 17, descriptorIndex := 337, attributes := #[] }, { accessFlags := 0, nameIndex := 494, descriptorIndex := 142, attributes := #[] }, { accessFlags := 8, nameIndex := 523, descriptorIndex := 524, attributes := #[] }] 49 2 #[1106, 1108, 575, 1110, 1112] #[{ accessFlags := 18, nameIndex := 13, descriptorIndex := 14, attributes := #[] }, { accessFlags := 18, nameIndex := 17, descriptorIndex := 18, attributes := #[] }, { accessFlags := 2, nameIndex := 21, descriptorIndex := 22, attributes := #[] }, { accessFlags := 2, nameIndex := 25, descriptorIndex := 26, attributes := #[] }, { accessFlags := 26, nameIndex := 1116, descriptorIndex := 1117, attributes := #[] }, { accessFlags := 24, nameIndex := 40, descriptorIndex := 26, attributes := #[] }, { accessFlags := 26, nameIndex := 1101, descriptorIndex := 1102, attributes := #[] }, { accessFlags := 26, nameIndex := 1121, descriptorIndex := 1122, attributes := #[] }, { accessFlags := 25, nameIndex := 599, descriptorIndex := 600, attributes := #[] }, { accessFlags := 24, nameIndex := 1125, descriptorIndex := 18, attributes := #[] }, { accessFlags := 24, nameIndex := 1127, descriptorIndex := 18, attributes := #[] }])
  fields := #[{ name := "value", type := (.array .byte), accessFlags := 18, slot := 0, constantValue := 0 }, { name := "coder", type := .byte, accessFlags := 18, slot := 1, constantValue := 0 }, { name := "hash", type := .int, accessFlags := 2, slot := 2, constantValue := 0 }, { name := "hashIsZero", type := .boolean, accessFlags := 2, slot := 3, constantValue := 0 }, { name := "serialVersionUID", type := .long, accessFlags := 26, slot := 0, constantValue := 0 }, { name := "COMPACT_STRINGS", type := .boolean, accessFlags := 24, slot := 1, constantValue := 0 }, { name := "serialPersistentFields", type := (.array (.object "java/io/ObjectStreamField")), accessFlags := 26, slot := 2, constantValue := 0 }, { name := "REPL", type := .char, accessFlags := 26, slot := 3, constantValue := 0 }, { name := "CASE_INSENSITIVE_ORDER", type := (.object "java/util/Comparator"), accessFlags := 25, slot := 4, constantValue := 0 }, { name := "LATIN1", type := .byte, accessFlags := 24, slot := 5, constantValue := 0 }, { name := "UTF16", type := .byte, accessFlags := 24, slot := 6, constantValue := 0 }]
  methods := #[k7m0, k7m1, k7m2, k7m3, k7m4, k7m5, k7m6, k7m7, k7m8, k7m9, k7m10, k7m11]
  instanceTypes := #[(.array .byte), .byte, .int, .boolean]
  staticTypes := #[.long, .boolean, (.array (.object "java/io/ObjectStreamField")), .char, (.object "java/util/Comparator"), .byte, .byte]
  resolved := Array.replicate 1451 none
  statics := some 0 }

def pool8 : Array CpInfo := pool [(6, .class_ 8), (1, u "java/lang/Object"), (0, u "<init>"), (0, u "()V"), (1, .class_ 14), (1, u "java/lang/StringUTF16"), (31, u "$assertionsDisabled"), (0, u "Z"), (13, u "HI_BYTE_SHIFT"), (0, u "I"), (2, u "LO_BYTE_SHIFT"), (49, .methodref 12 116), (0, .nameAndType 117 118), (0, u "compress"), (0, u "([CI[BII)I"), (3, u "([CII)[B"), (138, u "coderFromArrayLen"), (0, u "([BI)B"), (106, .class_ 371), (1, u "java/lang/StringUTF16$LinesSpliterator"), (58, u "MAX_LENGTH"), (196, .class_ 628), (0, u "java/lang/StringUTF16$CodePointsSpliterator"), (0, .class_ 630), (0, u "java/lang/StringUTF16$CharsSpliterator")] 4

def k8m0 : Method := { name := "<init>", desc := "()V", sig := { parameters := [], returnType := none }, accessFlags := 0, code := none }
def k8c1 : Code := { maxStack := 2, maxLocals := 2, code := jdk_52_method_15_code, exceptionTable := #[], attributes := #[] }
def k8m1 : Method := { name := "coderFromArrayLen", desc := "([BI)B", sig := { parameters := [(.array .byte), .int], returnType := some .byte }, accessFlags := 8, code := some k8c1 }
def k8c2 : Code := { maxStack := 5, maxLocals := 6, code := jdk_52_method_16_code, exceptionTable := #[], attributes := #[] }
def k8m2 : Method := { name := "compress", desc := "([CII)[B", sig := { parameters := [(.array .char), .int, .int], returnType := some (.array .byte) }, accessFlags := 9, code := some k8c2 }
def k8c3 : Code := { maxStack := 3, maxLocals := 7, code := jdk_52_method_21_code, exceptionTable := #[], attributes := #[] }
def k8m3 : Method := { name := "compress", desc := "([CI[BII)I", sig := { parameters := [(.array .char), .int, (.array .byte), .int, .int], returnType := some .int }, accessFlags := 9, code := some k8c3 }
/-- java/lang/StringUTF16 -/
def k8 : Class := { plain "java/lang/StringUTF16" (some 0) with
  accessFlags := 48
  interfaces := #[]
  cf := some (fileOf pool8 12 #[.nestMembers #[627, 629, 369]] #[{ accessFlags := 0, nameIndex := 9, descriptorIndex := 10, attributes := #[] }, { accessFlags := 8, nameIndex := 261, descriptorIndex := 262, attributes := #[] }, { accessFlags := 9, nameIndex := 117, descriptorIndex := 122, attributes := #[] }, { accessFlags := 9, nameIndex := 117, descriptorIndex := 118, attributes := #[] }] 48 6 #[] #[{ accessFlags := 26, nameIndex := 61, descriptorIndex := 62, attributes := #[] }, { accessFlags := 26, nameIndex := 65, descriptorIndex := 62, attributes := #[] }, { accessFlags := 24, nameIndex := 430, descriptorIndex := 62, attributes := #[] }, { accessFlags := 4120, nameIndex := 46, descriptorIndex := 47, attributes := #[] }])
  fields := #[{ name := "HI_BYTE_SHIFT", type := .int, accessFlags := 26, slot := 0, constantValue := 0 }, { name := "LO_BYTE_SHIFT", type := .int, accessFlags := 26, slot := 1, constantValue := 0 }, { name := "MAX_LENGTH", type := .int, accessFlags := 24, slot := 2, constantValue := 0 }, { name := "$assertionsDisabled", type := .boolean, accessFlags := 4120, slot := 3, constantValue := 0 }]
  methods := #[k8m0, k8m1, k8m2, k8m3]
  instanceTypes := #[]
  staticTypes := #[.int, .int, .int, .boolean]
  resolved := Array.replicate 635 none
  statics := none }

def pool9 : Array CpInfo := pool [(1, .methodref 2 3), (0, .class_ 4), (0, .nameAndType 5 6), (0, u "java/lang/Object"), (0, u "<init>"), (0, u "()V"), (0, .class_ 8), (0, u "java/lang/Record")] 13

def k9c0 : Code := { maxStack := 1, maxLocals := 1, code := jdk_30_method_1_code, exceptionTable := #[], attributes := #[] }
def k9m0 : Method := { name := "<init>", desc := "()V", sig := { parameters := [], returnType := none }, accessFlags := 4, code := some k9c0 }
/-- java/lang/Record -/
def k9 : Class := { plain "java/lang/Record" (some 0) with
  accessFlags := 1057
  interfaces := #[]
  cf := some (fileOf pool9 7 #[] #[{ accessFlags := 4, nameIndex := 5, descriptorIndex := 6, attributes := #[] }] 1057 2 #[] #[])
  fields := #[]
  methods := #[k9m0]
  instanceTypes := #[]
  staticTypes := #[]
  resolved := Array.replicate 22 none
  statics := none }

def pool10 : Array CpInfo := pool [(1, .methodref 2 3), (0, .class_ 4), (0, .nameAndType 5 6), (0, u "java/lang/Record"), (0, u "<init>"), (0, u "()V"), (0, .fieldref 8 9), (0, .class_ 10), (0, .nameAndType 11 12), (0, u "com/example/grantgate/grantgate/server/MessageReader$Head"), (0, u "startLine"), (0, u "Ljava/lang/String;"), (0, .fieldref 8 14), (0, .nameAndType 15 16), (0, u "fields"), (0, u "Ljava/util/List;"), (24, u "()Ljava/lang/String;"), (1, .class_ 45), (1, u "java/lang/String"), (9, .methodref 43 56), (0, .nameAndType 57 58), (0, u "indexOf"), (0, u "(I)I"), (0, .methodref 43 60), (0, .nameAndType 61 62), (0, u "substring"), (0, u "(II)Ljava/lang/String;"), (20, u "(Ljava/lang/String;Ljava/util/List;)V"), (8, u "method"), (7, .class_ 101), (0, u "com/example/grantgate/grantgate/server/MessageReader")] 21

def k10c0 : Code := { maxStack := 2, maxLocals := 3, code := prog_40_method_1_code, exceptionTable := #[], attributes := #[] }
def k10m0 : Method := { name := "<init>", desc := "(Ljava/lang/String;Ljava/util/List;)V", sig := { parameters := [(.object "java/lang/String"), (.object "java/util/List")], returnType := none }, accessFlags := 0, code := some k10c0 }
def k10c1 : Code := { maxStack := 4, maxLocals := 1, code := prog_40_method_3_code, exceptionTable := #[], attributes := #[] }
def k10m1 : Method := { name := "method", desc := "()Ljava/lang/String;", sig := { parameters := [], returnType := some (.object "java/lang/String") }, accessFlags := 0, code := some k10c1 }
/-- com/example/grantgate/grantgate/server/MessageReader$Head -/
def k10 : Class := { plain "com/example/grantgate/grantgate/server/MessageReader$Head" (some 9) with
  accessFlags := 48
  interfaces := #[]
  cf := some (fileOf pool10 8 #[.nestHost 100] #[{ accessFlags := 0, nameIndex := 5, descriptorIndex := 83, attributes := #[] }, { accessFlags := 0, nameIndex := 92, descriptorIndex := 41, attributes := #[] }] 48 2 #[] #[{ accessFlags := 18, nameIndex := 11, descriptorIndex := 12, attributes := #[] }, { accessFlags := 18, nameIndex := 15, descriptorIndex := 16, attributes := #[] }])
  fields := #[{ name := "startLine", type := (.object "java/lang/String"), accessFlags := 18, slot := 0, constantValue := 0 }, { name := "fields", type := (.object "java/util/List"), accessFlags := 18, slot := 1, constantValue := 0 }]
  methods := #[k10m0, k10m1]
  instanceTypes := #[(.object "java/lang/String"), (.object "java/util/List")]
  staticTypes := #[]
  resolved := Array.replicate 123 none
  statics := none }

def pool11 : Array CpInfo := pool [(8, .class_ 10), (1, u "java/lang/Iterable"), (24, .class_ 36), (0, u "java/lang/Object")] 25

/-- java/lang/Iterable -/
def k11 : Class := { plain "java/lang/Iterable" (some 0) with
  accessFlags := 1537
  interfaces := #[]
  cf := some (fileOf pool11 8 #[] #[] 1537 35 #[] #[])
  fields := #[]
  methods := #[]
  instanceTypes := #[]
  staticTypes := #[]
  resolved := Array.replicate 62 none
  statics := none }

def pool12 : Array CpInfo := pool [(10, .class_ 12), (1, u "java/util/Collection"), (47, .class_ 61), (0, u "java/lang/Object"), (0, .class_ 63), (0, u "java/lang/Iterable")] 51

/-- java/util/Collection -/
def k12 : Class := { plain "java/util/Collection" (some 0) with
  accessFlags := 1537
  interfaces := #[11]
  cf := some (fileOf pool12 10 #[] #[] 1537 60 #[62] #[])
  fields := #[]
  methods := #[]
  instanceTypes := #[]
  staticTypes := #[]
  resolved := Array.replicate 115 none
  statics := none }

def pool13 : Array CpInfo := pool [(1, .methodref 2 3), (0, .class_ 4), (0, .nameAndType 5 6), (0, u "java/lang/Object"), (0, u "<init>"), (0, u "()V"), (1, .class_ 10), (1, u "java/util/AbstractCollection"), (66, .class_ 78), (0, u "java/util/Collection")] 81

def k13c0 : Code := { maxStack := 1, maxLocals := 1, code := jdk_22_method_1_code, exceptionTable := #[], attributes := #[] }
def k13m0 : Method := { name := "<init>", desc := "()V", sig := { parameters := [], returnType := none }, accessFlags := 4, code := some k13c0 }
/-- java/util/AbstractCollection -/
def k13 : Class := { plain "java/util/AbstractCollection" (some 0) with
  accessFlags := 1057
  interfaces := #[12]
  cf := some (fileOf pool13 8 #[] #[{ accessFlags := 4, nameIndex := 5, descriptorIndex := 6, attributes := #[] }] 1057 2 #[77] #[])
  fields := #[]
  methods := #[k13m0]
  instanceTypes := #[]
  staticTypes := #[]
  resolved := Array.replicate 160 none
  statics := none }

def pool14 : Array CpInfo := pool [(8, .class_ 10), (1, u "java/util/SequencedCollection"), (15, .class_ 27), (0, u "java/lang/Object"), (0, .class_ 29), (0, u "java/util/Collection")] 27

/-- java/util/SequencedCollection -/
def k14 : Class := { plain "java/util/SequencedCollection" (some 0) with
  accessFlags := 1537
  interfaces := #[12]
  cf := some (fileOf pool14 8 #[] #[] 1537 26 #[28] #[])
  fields := #[]
  methods := #[]
  instanceTypes := #[]
  staticTypes := #[]
  resolved := Array.replicate 57 none
  statics := none }

def pool15 : Array CpInfo := pool [(8, .class_ 10), (1, u "java/util/List"), (92, .class_ 104), (0, u "java/lang/Object"), (15, .class_ 121), (0, u "java/util/SequencedCollection")] 129

/-- java/util/List -/
def k15 : Class := { plain "java/util/List" (some 0) with
  accessFlags := 1537
  interfaces := #[14]
  cf := some (fileOf pool15 8 #[] #[] 1537 103 #[120] #[])
  fields := #[]
  methods := #[]
  instanceTypes := #[]
  staticTypes := #[]
  resolved := Array.replicate 251 none
  statics := none }

def pool16 : Array CpInfo := pool [(1, .methodref 2 3), (0, .class_ 4), (0, .nameAndType 5 6), (0, u "java/util/AbstractCollection"), (0, u "<init>"), (0, u "()V"), (0, .fieldref 8 9), (0, .class_ 10), (0, .nameAndType 11 12), (0, u "java/util/AbstractList"), (0, u "modCount"), (0, u "I"), (64, .class_ 78), (0, u "java/util/AbstractList$Itr"), (3, .class_ 83), (0, u "java/util/AbstractList$ListItr"), (9, .class_ 94), (0, u "java/util/AbstractList$RandomAccessSubList"), (3, .class_ 99), (0, u "java/util/AbstractList$SubList"), (33, .class_ 134), (0, u "java/util/List"), (73, .class_ 209), (0, u "java/util/AbstractList$SubList$1"), (0, .class_ 211), (0, u "java/util/AbstractList$RandomAccessSpliterator")] 6

def k16c0 : Code := { maxStack := 2, maxLocals := 1, code := jdk_39_method_1_code, exceptionTable := #[], attributes := #[] }
def k16m0 : Method := { name := "<init>", desc := "()V", sig := { parameters := [], returnType := none }, accessFlags := 4, code := some k16c0 }
/-- java/util/AbstractList -/
def k16 : Class := { plain "java/util/AbstractList" (some 13) with
  accessFlags := 1057
  interfaces := #[15]
  cf := some (fileOf pool16 8 #[.nestMembers #[93, 98, 208, 210, 82, 77]] #[{ accessFlags := 4, nameIndex := 5, descriptorIndex := 6, attributes := #[] }] 1057 2 #[133] #[{ accessFlags := 132, nameIndex := 11, descriptorIndex := 12, attributes := #[] }])
  fields := #[{ name := "modCount", type := .int, accessFlags := 132, slot := 0, constantValue := 0 }]
  methods := #[k16m0]
  instanceTypes := #[.int]
  staticTypes := #[]
  resolved := Array.replicate 218 none
  statics := none }

def pool17 : Array CpInfo := pool [(1, .class_ 2), (0, u "java/util/RandomAccess"), (0, .class_ 4), (0, u "java/lang/Object")] 2

/-- java/util/RandomAccess -/
def k17 : Class := { plain "java/util/RandomAccess" (some 0) with
  accessFlags := 1537
  interfaces := #[]
  cf := some (fileOf pool17 1 #[] #[] 1537 3 #[] #[])
  fields := #[]
  methods := #[]
  instanceTypes := #[]
  staticTypes := #[]
  resolved := Array.replicate 7 none
  statics := none }

def pool18 : Array CpInfo := pool [(1, .class_ 2), (0, u "java/lang/Cloneable"), (0, .class_ 4), (0, u "java/lang/Object")] 2

/-- java/lang/Cloneable -/
def k18 : Class := { plain "java/lang/Cloneable" (some 0) with
  accessFlags := 1537
  interfaces := #[]
  cf := some (fileOf pool18 1 #[] #[] 1537 3 #[] #[])
  fields := #[]
  methods := #[]
  instanceTypes := #[]
  staticTypes := #[]
  resolved := Array.replicate 7 none
  statics := none }

def pool19 : Array CpInfo := pool [(1, .methodref 2 3), (0, .class_ 4), (0, .nameAndType 5 6), (0, u "java/util/AbstractList"), (0, u "<init>"), (0, u "()V"), (2, .fieldref 10 11), (0, .class_ 12), (0, .nameAndType 13 14), (0, u "java/util/ArrayList"), (0, u "elementData"), (0, u "[Ljava/lang/Object;"), (2, u "EMPTY_ELEMENTDATA"), (21, .fieldref 10 40), (0, .nameAndType 41 14), (0, u "DEFAULTCAPACITY_EMPTY_ELEMENTDATA"), (8, u "size"), (0, u "I"), (96, .class_ 149), (0, u "java/util/List"), (112, .class_ 263), (0, u "java/util/ArrayList$ListItr"), (3, .class_ 268), (0, u "java/util/ArrayList$Itr"), (7, .class_ 277), (0, u "java/util/ArrayList$SubList"), (12, .class_ 291), (0, u "java/util/ArrayList$ArrayListSpliterator"), (37, .class_ 330), (0, u "java/util/RandomAccess"), (0, .class_ 332), (0, u "java/lang/Cloneable"), (0, .class_ 334), (0, u "java/io/Serializable"), (0, u "serialVersionUID"), (0, u "J"), (3, u "DEFAULT_CAPACITY"), (159, .class_ 501), (0, u "java/util/ArrayList$SubList$2"), (0, .class_ 503), (0, u "java/util/ArrayList$SubList$1")] 5

def k19c0 : Code := { maxStack := 2, maxLocals := 1, code := jdk_38_method_2_code, exceptionTable := #[], attributes := #[] }
def k19m0 : Method := { name := "<init>", desc := "()V", sig := { parameters := [], returnType := none }, accessFlags := 1, code := some k19c0 }
/-- java/util/ArrayList -/
def k19 : Class := { plain "java/util/ArrayList" (some 16) with
  accessFlags := 33
  interfaces := #[15, 17, 18, 2]
  cf := some (fileOf pool19 10 #[.nestMembers #[290, 276, 500, 502, 262, 267]] #[{ accessFlags := 1, nameIndex := 5, descriptorIndex := 6, attributes := #[] }] 33 2 #[148, 329, 331, 333] #[{ accessFlags := 26, nameIndex := 335, descriptorIndex := 336, attributes := #[] }, { accessFlags := 26, nameIndex := 340, descriptorIndex := 51, attributes := #[] }, { accessFlags := 26, nameIndex := 17, descriptorIndex := 14, attributes := #[] }, { accessFlags := 26, nameIndex := 41, descriptorIndex := 14, attributes := #[] }, { accessFlags := 128, nameIndex := 13, descriptorIndex := 14, attributes := #[] }, { accessFlags := 2, nameIndex := 50, descriptorIndex := 51, attributes := #[] }])
  fields := #[{ name := "serialVersionUID", type := .long, accessFlags := 26, slot := 0, constantValue := 0 }, { name := "DEFAULT_CAPACITY", type := .int, accessFlags := 26, slot := 1, constantValue := 0 }, { name := "EMPTY_ELEMENTDATA", type := (.array (.object "java/lang/Object")), accessFlags := 26, slot := 2, constantValue := 0 }, { name := "DEFAULTCAPACITY_EMPTY_ELEMENTDATA", type := (.array (.object "java/lang/Object")), accessFlags := 26, slot := 3, constantValue := 0 }, { name := "elementData", type := (.array (.object "java/lang/Object")), accessFlags := 128, slot := 1, constantValue := 0 }, { name := "size", type := .int, accessFlags := 2, slot := 2, constantValue := 0 }]
  methods := #[k19m0]
  instanceTypes := #[.int, (.array (.object "java/lang/Object")), .int]
  staticTypes := #[.long, .int, (.array (.object "java/lang/Object")), (.array (.object "java/lang/Object"))]
  resolved := Array.replicate 509 none
  statics := some 1 }

def pool20 : Array CpInfo := pool [(1, .class_ 2), (0, u "java/lang/String"), (1, .class_ 6), (1, u "java/lang/Object"), (0, u "<init>"), (0, u "()V"), (5, .class_ 16), (1, u "java/lang/StringLatin1"), (21, .methodref 39 40), (0, .class_ 41), (0, .nameAndType 42 43), (0, u "java/lang/Math"), (0, u "min"), (0, u "(II)I"), (44, .methodref 14 89), (0, .nameAndType 90 91), (0, u "canEncode"), (0, u "(I)Z"), (0, .methodref 39 93), (0, .nameAndType 94 43), (0, u "max"), (0, .methodref 14 96), (0, .nameAndType 97 98), (0, u "indexOfChar"), (0, u "([BIII)I"), (2, u "indexOf"), (10, .methodref 1 113), (0, .nameAndType 7 114), (0, u "([BB)V"), (6, u "$assertionsDisabled"), (0, u "Z"), (8, .class_ 133), (1, u "java/util/Arrays"), (17, .string 152), (0, u ""), (43, u "newString"), (0, u "([BII)Ljava/lang/String;"), (23, .class_ 223), (1, u "java/lang/StringLatin1$LinesSpliterator"), (8, .methodref 131 233), (0, .nameAndType 234 235), (0, u "copyOfRange"), (0, u "([BII)[B"), (45, u "equals"), (0, u "([B[B)Z"), (107, .class_ 391), (0, u "java/lang/StringLatin1$CharsSpliterator")] 3

def k20m0 : Method := { name := "<init>", desc := "()V", sig := { parameters := [], returnType := none }, accessFlags := 0, code := none }
def k20c1 : Code := { maxStack := 2, maxLocals := 1, code := jdk_43_method_4_code, exceptionTable := #[], attributes := #[] }
def k20m1 : Method := { name := "canEncode", desc := "(I)Z", sig := { parameters := [.int], returnType := some .boolean }, accessFlags := 9, code := some k20c1 }
def k20c2 : Code := { maxStack := 3, maxLocals := 3, code := jdk_43_method_13_code, exceptionTable := #[], attributes := #[] }
def k20m2 : Method := { name := "equals", desc := "([B[B)Z", sig := { parameters := [(.array .byte), (.array .byte)], returnType := some .boolean }, accessFlags := 9, code := some k20c2 }
def k20c3 : Code := { maxStack := 4, maxLocals := 4, code := jdk_43_method_22_code, exceptionTable := #[], attributes := #[] }
def k20m3 : Method := { name := "indexOf", desc := "([BIII)I", sig := { parameters := [(.array .byte), .int, .int, .int], returnType := some .int }, accessFlags := 9, code := some k20c3 }
def k20c4 : Code := { maxStack := 2, maxLocals := 6, code := jdk_43_method_23_code, exceptionTable := #[], attributes := #[] }
def k20m4 : Method := { name := "indexOfChar", desc := "([BIII)I", sig := { parameters := [(.array .byte), .int, .int, .int], returnType := some .int }, accessFlags := 10, code := some k20c4 }
def k20c5 : Code := { maxStack := 6, maxLocals := 3, code := jdk_43_method_47_code, exceptionTable := #[], attributes := #[] }
def k20m5 : Method := { name := "newString", desc := "([BII)Ljava/lang/String;", sig := { parameters := [(.array .byte), .int, .int], returnType := some (.object "java/lang/String") }, accessFlags := 9, code := some k20c5 }
/-- java/lang/StringLatin1 -/
def k20 : Class := { plain "java/lang/StringLatin1" (some 0) with
  accessFlags := 48
  interfaces := #[]
  cf := some (fileOf pool20 14 #[.nestMembers #[390, 221]] #[{ accessFlags := 0, nameIndex := 7, descriptorIndex := 8, attributes := #[] }, { accessFlags := 9, nameIndex := 90, descriptorIndex := 91, attributes := #[] }, { accessFlags := 9, nameIndex := 281, descriptorIndex := 282, attributes := #[] }, { accessFlags := 9, nameIndex := 101, descriptorIndex := 98, attributes := #[] }, { accessFlags := 10, nameIndex := 97, descriptorIndex := 98, attributes := #[] }, { accessFlags := 9, nameIndex := 196, descriptorIndex := 197, attributes := #[] }] 48 4 #[] #[{ accessFlags := 4120, nameIndex := 121, descriptorIndex := 122, attributes := #[] }])
  fields := #[{ name := "$assertionsDisabled", type := .boolean, accessFlags := 4120, slot := 0, constantValue := 0 }]
  methods := #[k20m0, k20m1, k20m2, k20m3, k20m4, k20m5]
  instanceTypes := #[]
  staticTypes := #[.boolean]
  resolved := Array.replicate 395 none
  statics := none }

def pool21 : Array CpInfo := pool [(1, .class_ 2), (0, u "java/lang/Math"), (1, .class_ 6), (1, u "java/lang/Object"), (0, u "<init>"), (0, u "()V"), (89, .class_ 100), (1, u "java/lang/Math$RandomNumberGeneratorHolder"), (71, u "negativeZeroFloatBits"), (0, u "J"), (2, u "negativeZeroDoubleBits"), (21, u "max"), (2, u "min"), (43, u "$assertionsDisabled"), (0, u "Z"), (88, u "(II)I"), (2, u "twoToTheDoubleScaleDown"), (0, u "D"), (4, u "twoToTheDoubleScaleUp"), (9, u "E"), (3, u "PI"), (2, u "TAU"), (2, u "DEGREES_TO_RADIANS"), (0, u "RADIANS_TO_DEGREES")] 94

def k21m0 : Method := { name := "<init>", desc := "()V", sig := { parameters := [], returnType := none }, accessFlags := 2, code := none }
def k21c1 : Code := { maxStack := 2, maxLocals := 2, code := jdk_29_method_65_code, exceptionTable := #[], attributes := #[] }
def k21m1 : Method := { name := "max", desc := "(II)I", sig := { parameters := [.int, .int], returnType := some .int }, accessFlags := 9, code := some k21c1 }
def k21c2 : Code := { maxStack := 2, maxLocals := 2, code := jdk_29_method_69_code, exceptionTable := #[], attributes := #[] }
def k21m2 : Method := { name := "min", desc := "(II)I", sig := { parameters := [.int, .int], returnType := some .int }, accessFlags := 9, code := some k21c2 }
/-- java/lang/Math -/
def k21 : Class := { plain "java/lang/Math" (some 0) with
  accessFlags := 49
  interfaces := #[]
  cf := some (fileOf pool21 1 #[.nestMembers #[98]] #[{ accessFlags := 2, nameIndex := 7, descriptorIndex := 8, attributes := #[] }, { accessFlags := 9, nameIndex := 198, descriptorIndex := 335, attributes := #[] }, { accessFlags := 9, nameIndex := 201, descriptorIndex := 335, attributes := #[] }] 49 4 #[] #[{ accessFlags := 25, nameIndex := 354, descriptorIndex := 339, attributes := #[] }, { accessFlags := 25, nameIndex := 358, descriptorIndex := 339, attributes := #[] }, { accessFlags := 25, nameIndex := 361, descriptorIndex := 339, attributes := #[] }, { accessFlags := 26, nameIndex := 364, descriptorIndex := 339, attributes := #[] }, { accessFlags := 26, nameIndex := 365, descriptorIndex := 339, attributes := #[] }, { accessFlags := 26, nameIndex := 172, descriptorIndex := 173, attributes := #[] }, { accessFlags := 26, nameIndex := 176, descriptorIndex := 173, attributes := #[] }, { accessFlags := 8, nameIndex := 344, descriptorIndex := 339, attributes := #[] }, { accessFlags := 8, nameIndex := 338, descriptorIndex := 339, attributes := #[] }, { accessFlags := 4120, nameIndex := 245, descriptorIndex := 246, attributes := #[] }])
  fields := #[{ name := "E", type := .double, accessFlags := 25, slot := 0, constantValue := 0 }, { name := "PI", type := .double, accessFlags := 25, slot := 1, constantValue := 0 }, { name := "TAU", type := .double, accessFlags := 25, slot := 2, constantValue := 0 }, { name := "DEGREES_TO_RADIANS", type := .double, accessFlags := 26, slot := 3, constantValue := 0 }, { name := "RADIANS_TO_DEGREES", type := .double, accessFlags := 26, slot := 4, constantValue := 0 }, { name := "negativeZeroFloatBits", type := .long, accessFlags := 26, slot := 5, constantValue := 0 }, { name := "negativeZeroDoubleBits", type := .long, accessFlags := 26, slot := 6, constantValue := 0 }, { name := "twoToTheDoubleScaleUp", type := .double, accessFlags := 8, slot := 7, constantValue := 0 }, { name := "twoToTheDoubleScaleDown", type := .double, accessFlags := 8, slot := 8, constantValue := 0 }, { name := "$assertionsDisabled", type := .boolean, accessFlags := 4120, slot := 9, constantValue := 0 }]
  methods := #[k21m0, k21m1, k21m2]
  instanceTypes := #[]
  staticTypes := #[.double, .double, .double, .double, .double, .long, .long, .double, .double, .boolean]
  resolved := Array.replicate 460 none
  statics := none }

def pool22 : Array CpInfo := pool [(2, .class_ 4), (1, u "java/lang/Object"), (0, u "<init>"), (0, u "()V"), (17, .class_ 26), (1, u "jdk/internal/util/Preconditions"), (20, u "checkFromToIndex"), (7, .class_ 56), (0, u "jdk/internal/util/Preconditions$4"), (57, .class_ 115), (0, u "jdk/internal/util/Preconditions$1"), (7, u "SIOOBE_FORMATTER"), (0, u "Ljava/util/function/BiFunction;"), (0, .class_ 126), (0, u "jdk/internal/util/Preconditions$2"), (3, u "AIOOBE_FORMATTER"), (0, .class_ 132), (0, u "jdk/internal/util/Preconditions$3"), (3, u "IOOBE_FORMATTER"), (46, u "(IIILjava/util/function/BiFunction;)I")] 10

def k22m0 : Method := { name := "<init>", desc := "()V", sig := { parameters := [], returnType := none }, accessFlags := 1, code := none }
def k22c1 : Code := { maxStack := 4, maxLocals := 4, code := jdk_41_method_12_code, exceptionTable := #[], attributes := #[] }
def k22m1 : Method := { name := "checkFromToIndex", desc := "(IIILjava/util/function/BiFunction;)I", sig := { parameters := [.int, .int, .int, (.object "java/util/function/BiFunction")], returnType := some .int }, accessFlags := 9, code := some k22c1 }
/-- jdk/internal/util/Preconditions -/
def k22 : Class := { plain "jdk/internal/util/Preconditions" (some 0) with
  accessFlags := 33
  interfaces := #[]
  cf := some (fileOf pool22 24 #[.nestMembers #[55, 131, 125, 114]] #[{ accessFlags := 1, nameIndex := 5, descriptorIndex := 6, attributes := #[] }, { accessFlags := 9, nameIndex := 47, descriptorIndex := 183, attributes := #[] }] 33 2 #[] #[{ accessFlags := 25, nameIndex := 123, descriptorIndex := 124, attributes := #[] }, { accessFlags := 25, nameIndex := 130, descriptorIndex := 124, attributes := #[] }, { accessFlags := 25, nameIndex := 136, descriptorIndex := 124, attributes := #[] }])
  fields := #[{ name := "SIOOBE_FORMATTER", type := (.object "java/util/function/BiFunction"), accessFlags := 25, slot := 0, constantValue := 0 }, { name := "AIOOBE_FORMATTER", type := (.object "java/util/function/BiFunction"), accessFlags := 25, slot := 1, constantValue := 0 }, { name := "IOOBE_FORMATTER", type := (.object "java/util/function/BiFunction"), accessFlags := 25, slot := 2, constantValue := 0 }]
  methods := #[k22m0, k22m1]
  instanceTypes := #[]
  staticTypes := #[(.object "java/util/function/BiFunction"), (.object "java/util/function/BiFunction"), (.object "java/util/function/BiFunction")]
  resolved := Array.replicate 194 none
  statics := some 2 }

def pool23 : Array CpInfo := pool [(2, .class_ 4), (1, u "java/lang/Object"), (0, u "<init>"), (0, u "()V"), (7, .class_ 16), (1, u "java/util/Arrays"), (57, .class_ 76), (1, u "java/util/Arrays$NaturalOrder"), (36, .class_ 115), (1, u "java/util/Arrays$LegacyMergeSort"), (1, u "Z"), (21, u "copyOfRange"), (10, .methodref 151 152), (0, .class_ 153), (0, .nameAndType 154 155), (0, u "java/lang/System"), (0, u "arraycopy"), (0, u "(Ljava/lang/Object;ILjava/lang/Object;II)V"), (148, .methodref 305 306), (0, .class_ 307), (0, .nameAndType 308 309), (0, u "java/lang/Math"), (0, u "min"), (0, u "(II)I"), (29, .methodref 14 340), (0, .nameAndType 341 342), (0, u "copyOfRangeByte"), (0, u "([BII)[B"), (0, .methodref 14 344), (0, .nameAndType 345 346), (0, u "checkLength"), (0, u "(II)V"), (28, .class_ 376), (0, u "java/util/Arrays$ArrayList"), (68, u "$assertionsDisabled"), (269, u "MIN_ARRAY_SORT_GRAN"), (0, u "I"), (2, u "INSERTIONSORT_THRESHOLD"), (255, .class_ 976), (0, u "java/util/Arrays$ArrayItr")] 52

def k23m0 : Method := { name := "<init>", desc := "()V", sig := { parameters := [], returnType := none }, accessFlags := 2, code := none }
def k23c1 : Code := { maxStack := 4, maxLocals := 2, code := jdk_65_method_131_code, exceptionTable := #[], attributes := #[] }
def k23m1 : Method := { name := "checkLength", desc := "(II)V", sig := { parameters := [.int, .int], returnType := none }, accessFlags := 10, code := some k23c1 }
def k23c2 : Code := { maxStack := 3, maxLocals := 3, code := jdk_65_method_132_code, exceptionTable := #[], attributes := #[] }
def k23m2 : Method := { name := "copyOfRange", desc := "([BII)[B", sig := { parameters := [(.array .byte), .int, .int], returnType := some (.array .byte) }, accessFlags := 9, code := some k23c2 }
def k23c3 : Code := { maxStack := 6, maxLocals := 5, code := jdk_65_method_133_code, exceptionTable := #[], attributes := #[] }
def k23m3 : Method := { name := "copyOfRangeByte", desc := "([BII)[B", sig := { parameters := [(.array .byte), .int, .int], returnType := some (.array .byte) }, accessFlags := 10, code := some k23c3 }
/-- java/util/Arrays -/
def k23 : Class := { plain "java/util/Arrays" (some 0) with
  accessFlags := 49
  interfaces := #[]
  cf := some (fileOf pool23 14 #[.nestMembers #[975, 375, 113, 74]] #[{ accessFlags := 2, nameIndex := 5, descriptorIndex := 6, attributes := #[] }, { accessFlags := 10, nameIndex := 345, descriptorIndex := 346, attributes := #[] }, { accessFlags := 9, nameIndex := 139, descriptorIndex := 342, attributes := #[] }, { accessFlags := 10, nameIndex := 341, descriptorIndex := 342, attributes := #[] }] 49 2 #[] #[{ accessFlags := 26, nameIndex := 715, descriptorIndex := 716, attributes := #[] }, { accessFlags := 26, nameIndex := 719, descriptorIndex := 716, attributes := #[] }, { accessFlags := 4120, nameIndex := 445, descriptorIndex := 117, attributes := #[] }])
  fields := #[{ name := "MIN_ARRAY_SORT_GRAN", type := .int, accessFlags := 26, slot := 0, constantValue := 0 }, { name := "INSERTIONSORT_THRESHOLD", type := .int, accessFlags := 26, slot := 1, constantValue := 0 }, { name := "$assertionsDisabled", type := .boolean, accessFlags := 4120, slot := 2, constantValue := 0 }]
  methods := #[k23m0, k23m1, k23m2, k23m3]
  instanceTypes := #[]
  staticTypes := #[.int, .int, .boolean]
  resolved := Array.replicate 1029 none
  statics := none }

def pool24 : Array CpInfo := pool [(2, .class_ 4), (1, u "java/lang/Object"), (0, u "<init>"), (0, u "()V"), (1, .class_ 10), (1, u "java/lang/System"), (0, u "allowSecurityManager"), (0, u "I"), (16, u "cons"), (0, u "Ljava/io/Console;"), (77, .class_ 110), (1, u "java/lang/System$CallersHolder"), (43, u "initialErrStream"), (0, u "Ljava/io/PrintStream;"), (19, u "security"), (0, u "Ljava/lang/SecurityManager;"), (31, .class_ 209), (0, u "java/lang/System$1"), (7, u "props"), (0, u "Ljava/util/Properties;"), (2, u "lineSeparator"), (0, u "Ljava/lang/String;"), (96, .class_ 321), (1, u "java/lang/System$LoggerFinder"), (5, .class_ 328), (0, u "java/lang/System$Logger"), (67, u "err"), (2, u "out"), (91, u "notSupportedJnuEncoding"), (15, u "in"), (17, u "initialIn"), (0, u "Ljava/io/InputStream;"), (35, u "bootLayer"), (0, u "Ljava/lang/ModuleLayer;"), (99, .class_ 664), (0, u "java/lang/System$2"), (9, u "NEVER"), (2, u "MAYBE"), (49, u "arraycopy"), (0, u "(Ljava/lang/Object;ILjava/lang/Object;II)V"), (72, .class_ 802), (0, u "java/lang/System$Logger$Level")] 31

def k24m0 : Method := { name := "<init>", desc := "()V", sig := { parameters := [], returnType := none }, accessFlags := 2, code := none }
def k24m1 : Method := { name := "arraycopy", desc := "(Ljava/lang/Object;ILjava/lang/Object;II)V", sig := { parameters := [(.object "java/lang/Object"), .int, (.object "java/lang/Object"), .int, .int], returnType := none }, accessFlags := 265, code := none }
/-- java/lang/System -/
def k24 : Class := { plain "java/lang/System" (some 0) with
  accessFlags := 49
  interfaces := #[]
  cf := some (fileOf pool24 8 #[.nestMembers #[319, 327, 801, 108, 663, 208]] #[{ accessFlags := 2, nameIndex := 5, descriptorIndex := 6, attributes := #[] }, { accessFlags := 265, nameIndex := 727, descriptorIndex := 728, attributes := #[] }] 49 2 #[] #[{ accessFlags := 25, nameIndex := 507, descriptorIndex := 526, attributes := #[] }, { accessFlags := 25, nameIndex := 399, descriptorIndex := 155, attributes := #[] }, { accessFlags := 25, nameIndex := 396, descriptorIndex := 155, attributes := #[] }, { accessFlags := 10, nameIndex := 525, descriptorIndex := 526, attributes := #[] }, { accessFlags := 26, nameIndex := 674, descriptorIndex := 12, attributes := #[] }, { accessFlags := 26, nameIndex := 677, descriptorIndex := 12, attributes := #[] }, { accessFlags := 10, nameIndex := 11, descriptorIndex := 12, attributes := #[] }, { accessFlags := 74, nameIndex := 175, descriptorIndex := 176, attributes := #[] }, { accessFlags := 10, nameIndex := 491, descriptorIndex := 222, attributes := #[] }, { accessFlags := 74, nameIndex := 29, descriptorIndex := 30, attributes := #[] }, { accessFlags := 74, nameIndex := 154, descriptorIndex := 155, attributes := #[] }, { accessFlags := 10, nameIndex := 217, descriptorIndex := 218, attributes := #[] }, { accessFlags := 10, nameIndex := 221, descriptorIndex := 222, attributes := #[] }, { accessFlags := 8, nameIndex := 562, descriptorIndex := 563, attributes := #[] }])
  fields := #[{ name := "in", type := (.object "java/io/InputStream"), accessFlags := 25, slot := 0, constantValue := 0 }, { name := "out", type := (.object "java/io/PrintStream"), accessFlags := 25, slot := 1, constantValue := 0 }, { name := "err", type := (.object "java/io/PrintStream"), accessFlags := 25, slot := 2, constantValue := 0 }, { name := "initialIn", type := (.object "java/io/InputStream"), accessFlags := 10, slot := 3, constantValue := 0 }, { name := "NEVER", type := .int, accessFlags := 26, slot := 4, constantValue := 0 }, { name := "MAYBE", type := .int, accessFlags := 26, slot := 5, constantValue := 0 }, { name := "allowSecurityManager", type := .int, accessFlags := 10, slot := 6, constantValue := 0 }, { name := "security", type := (.object "java/lang/SecurityManager"), accessFlags := 74, slot := 7, constantValue := 0 }, { name := "notSupportedJnuEncoding", type := (.object "java/lang/String"), accessFlags := 10, slot := 8, constantValue := 0 }, { name := "cons", type := (.object "java/io/Console"), accessFlags := 74, slot := 9, constantValue := 0 }, { name := "initialErrStream", type := (.object "java/io/PrintStream"), accessFlags := 74, slot := 10, constantValue := 0 }, { name := "props", type := (.object "java/util/Properties"), accessFlags := 10, slot := 11, constantValue := 0 }, { name := "lineSeparator", type := (.object "java/lang/String"), accessFlags := 10, slot := 12, constantValue := 0 }, { name := "bootLayer", type := (.object "java/lang/ModuleLayer"), accessFlags := 8, slot := 13, constantValue := 0 }]
  methods := #[k24m0, k24m1]
  instanceTypes := #[]
  staticTypes := #[(.object "java/io/InputStream"), (.object "java/io/PrintStream"), (.object "java/io/PrintStream"), (.object "java/io/InputStream"), .int, .int, .int, (.object "java/lang/SecurityManager"), (.object "java/lang/String"), (.object "java/io/Console"), (.object "java/io/PrintStream"), (.object "java/util/Properties"), (.object "java/lang/String"), (.object "java/lang/ModuleLayer")]
  resolved := Array.replicate 834 none
  statics := none }

def pool25 : Array CpInfo := pool [(9, u "<init>"), (6, .class_ 18), (1, u "java/lang/Object"), (0, u "()V"), (1, .class_ 23), (1, u "jdk/internal/util/ArraysSupport"), (0, u "LOG2_ARRAY_LONG_INDEX_SCALE"), (0, u "I"), (2, u "U"), (0, u "Ljdk/internal/misc/Unsafe;"), (8, u "BIG_ENDIAN"), (0, u "Z"), (8, u "LOG2_BYTE_BIT_SIZE"), (4, u "LOG2_ARRAY_INT_INDEX_SCALE"), (54, u "JLA"), (0, u "Ljdk/internal/access/JavaLangAccess;"), (11, u "LOG2_ARRAY_BOOLEAN_INDEX_SCALE"), (9, u "LOG2_ARRAY_BYTE_INDEX_SCALE"), (5, u "LOG2_ARRAY_CHAR_INDEX_SCALE"), (5, u "LOG2_ARRAY_SHORT_INDEX_SCALE"), (18, u "LOG2_ARRAY_FLOAT_INDEX_SCALE"), (24, u "LOG2_ARRAY_DOUBLE_INDEX_SCALE"), (89, u "T_BOOLEAN"), (2, u "T_CHAR"), (1, u "T_FLOAT"), (1, u "T_DOUBLE"), (1, u "T_BYTE"), (1, u "T_SHORT"), (1, u "T_INT"), (1, u "T_LONG"), (1, u "SOFT_MAX_ARRAY_LENGTH")] 83

def k25m0 : Method := { name := "<init>", desc := "()V", sig := { parameters := [], returnType := none }, accessFlags := 2, code := none }
/-- jdk/internal/util/ArraysSupport -/
def k25 : Class := { plain "jdk/internal/util/ArraysSupport" (some 0) with
  accessFlags := 33
  interfaces := #[]
  cf := some (fileOf pool25 21 #[] #[{ accessFlags := 2, nameIndex := 9, descriptorIndex := 19, attributes := #[] }] 33 16 #[] #[{ accessFlags := 24, nameIndex := 28, descriptorIndex := 29, attributes := #[] }, { accessFlags := 26, nameIndex := 38, descriptorIndex := 39, attributes := #[] }, { accessFlags := 25, nameIndex := 121, descriptorIndex := 25, attributes := #[] }, { accessFlags := 25, nameIndex := 131, descriptorIndex := 25, attributes := #[] }, { accessFlags := 25, nameIndex := 137, descriptorIndex := 25, attributes := #[] }, { accessFlags := 25, nameIndex := 143, descriptorIndex := 25, attributes := #[] }, { accessFlags := 25, nameIndex := 53, descriptorIndex := 25, attributes := #[] }, { accessFlags := 25, nameIndex := 24, descriptorIndex := 25, attributes := #[] }, { accessFlags := 25, nameIndex := 162, descriptorIndex := 25, attributes := #[] }, { accessFlags := 25, nameIndex := 187, descriptorIndex := 25, attributes := #[] }, { accessFlags := 26, nameIndex := 48, descriptorIndex := 25, attributes := #[] }, { accessFlags := 25, nameIndex := 277, descriptorIndex := 25, attributes := #[] }, { accessFlags := 25, nameIndex := 280, descriptorIndex := 25, attributes := #[] }, { accessFlags := 25, nameIndex := 282, descriptorIndex := 25, attributes := #[] }, { accessFlags := 25, nameIndex := 284, descriptorIndex := 25, attributes := #[] }, { accessFlags := 25, nameIndex := 286, descriptorIndex := 25, attributes := #[] }, { accessFlags := 25, nameIndex := 288, descriptorIndex := 25, attributes := #[] }, { accessFlags := 25, nameIndex := 290, descriptorIndex := 25, attributes := #[] }, { accessFlags := 25, nameIndex := 292, descriptorIndex := 25, attributes := #[] }, { accessFlags := 26, nameIndex := 108, descriptorIndex := 109, attributes := #[] }, { accessFlags := 25, nameIndex := 294, descriptorIndex := 25, attributes := #[] }])
  fields := #[{ name := "U", type := (.object "jdk/internal/misc/Unsafe"), accessFlags := 24, slot := 0, constantValue := 0 }, { name := "BIG_ENDIAN", type := .boolean, accessFlags := 26, slot := 1, constantValue := 0 }, { name := "LOG2_ARRAY_BOOLEAN_INDEX_SCALE", type := .int, accessFlags := 25, slot := 2, constantValue := 0 }, { name := "LOG2_ARRAY_BYTE_INDEX_SCALE", type := .int, accessFlags := 25, slot := 3, constantValue := 0 }, { name := "LOG2_ARRAY_CHAR_INDEX_SCALE", type := .int, accessFlags := 25, slot := 4, constantValue := 0 }, { name := "LOG2_ARRAY_SHORT_INDEX_SCALE", type := .int, accessFlags := 25, slot := 5, constantValue := 0 }, { name := "LOG2_ARRAY_INT_INDEX_SCALE", type := .int, accessFlags := 25, slot := 6, constantValue := 0 }, { name := "LOG2_ARRAY_LONG_INDEX_SCALE", type := .int, accessFlags := 25, slot := 7, constantValue := 0 }, { name := "LOG2_ARRAY_FLOAT_INDEX_SCALE", type := .int, accessFlags := 25, slot := 8, constantValue := 0 }, { name := "LOG2_ARRAY_DOUBLE_INDEX_SCALE", type := .int, accessFlags := 25, slot := 9, constantValue := 0 }, { name := "LOG2_BYTE_BIT_SIZE", type := .int, accessFlags := 26, slot := 10, constantValue := 0 }, { name := "T_BOOLEAN", type := .int, accessFlags := 25, slot := 11, constantValue := 0 }, { name := "T_CHAR", type := .int, accessFlags := 25, slot := 12, constantValue := 0 }, { name := "T_FLOAT", type := .int, accessFlags := 25, slot := 13, constantValue := 0 }, { name := "T_DOUBLE", type := .int, accessFlags := 25, slot := 14, constantValue := 0 }, { name := "T_BYTE", type := .int, accessFlags := 25, slot := 15, constantValue := 0 }, { name := "T_SHORT", type := .int, accessFlags := 25, slot := 16, constantValue := 0 }, { name := "T_INT", type := .int, accessFlags := 25, slot := 17, constantValue := 0 }, { name := "T_LONG", type := .int, accessFlags := 25, slot := 18, constantValue := 0 }, { name := "JLA", type := (.object "jdk/internal/access/JavaLangAccess"), accessFlags := 26, slot := 19, constantValue := 0 }, { name := "SOFT_MAX_ARRAY_LENGTH", type := .int, accessFlags := 25, slot := 20, constantValue := 0 }]
  methods := #[k25m0]
  instanceTypes := #[]
  staticTypes := #[(.object "jdk/internal/misc/Unsafe"), .boolean, .int, .int, .int, .int, .int, .int, .int, .int, .int, .int, .int, .int, .int, .int, .int, .int, .int, (.object "jdk/internal/access/JavaLangAccess"), .int]
  resolved := Array.replicate 378 none
  statics := none }

/-- the primitive byte -/
def k26 : Class := { plain "byte" none with kind := .primitive 'B', accessFlags := 0x411 }
/-- [B -/
def k27 : Class := { plain "[B" (some 0) with kind := .array 26 .byte, interfaces := #[18, 2], accessFlags := 1041 }

/-- the primitive char -/
def k28 : Class := { plain "char" none with kind := .primitive 'C', accessFlags := 0x411 }
/-- [C -/
def k29 : Class := { plain "[C" (some 0) with kind := .array 28 .char, interfaces := #[18, 2], accessFlags := 1041 }

/-- the primitive int -/
def k30 : Class := { plain "int" none with kind := .primitive 'I', accessFlags := 0x411 }
/-- [I -/
def k31 : Class := { plain "[I" (some 0) with kind := .array 30 .int, interfaces := #[18, 2], accessFlags := 1041 }

/-- [Ljava/lang/Object; -/
def k32 : Class := { plain "[Ljava/lang/Object;" (some 0) with kind := .array 0 (.object "java/lang/Object"), interfaces := #[18, 2], accessFlags := 1041 }

def heap : Heap := #[{ cls := 7, slots := #[.long 0, .int 1, .null, .int 0, .null, .int 0, .int 0], vm := .statics 7 },
  { cls := 19, slots := #[.long 0, .int 0, .ref 3, .ref 4], vm := .statics 19 },
  { cls := 22, slots := #[.null, .null, .null], vm := .statics 22 },
  { cls := 32, slots := #[], vm := .none },
  { cls := 32, slots := #[], vm := .none }]
def classes : Array Class := #[k0, k1, k2, k3, k4, k5, k6, k7, k8, k9, k10, k11, k12, k13, k14, k15, k16, k17, k18, k19, k20, k21, k22, k23, k24, k25, k26, k27, k28, k29, k30, k31, k32]
def interned : List (Array UInt16 × Addr) := []
def slotsUsed : Nat := 14
def theMethod : MethodId := ⟨1, 4⟩
def args0 : Array Value := #[.int 5, .int 7]
def aboutOver (below : List Frame) : State where
  vm := { classes := classes, interned := interned.toArray }
  heap := heap
  slotsUsed := slotsUsed
  threads := #[{ frames := .invoking theMethod args0 :: below }]
def below0 : List Frame := [.native { method := ⟨0, 0⟩, args := #[] }]
def about1 : State := aboutOver below0
def p0 : Program := .bare "" "" ""
def e0 : Env := launch0.env 0 0 0
theorem w_frames : about1.frames = Frame.invoking theMethod args0 :: below0 := rfl
set_option maxRecDepth 65536 in
theorem w_args : argsFit about1.vm theMethod args0 = true := by decide +kernel
set_option maxRecDepth 65536 in
theorem w_heap : heapFits about1 = true := by decide +kernel
set_option maxRecDepth 65536 in
theorem w_runnable : about1.curStatus? = some .runnable := by decide +kernel
set_option maxRecDepth 65536 in
theorem w_alone : about1.alone = true := by decide +kernel
set_option maxRecDepth 65536 in
theorem w_named : about1.methodNamed? x = some theMethod := by decide +kernel
set_option maxRecDepth 65536 in
theorem w_hears : about1.hears theMethod below0 = true := by decide +kernel
set_option maxRecDepth 65536 in
theorem w_ripe : about1.ripe theMethod args0 below0 = true := by decide +kernel
theorem w_running : about1.status = .running := rfl
set_option maxRecDepth 65536 in
theorem w_room : about1.hasRoom e0.platform room_1 = true :=
  launch0.hasRoom_least _ room_1 (by decide +kernel) (by decide +kernel) (by decide +kernel) (by decide +kernel) (by decide +kernel) (by decide +kernel)
theorem allAtoms_all (ts : List Jvm.Cond) (a : Array Jvm.Value) (st : Jvm.State) : (allAtoms ts).before a st = ts.all (fun c => c.before a st) := by
  induction ts with
  | nil => rfl
  | cons c t ih =>
    show (Jvm.Cond.and c (allAtoms t)).before a st = _
    rw [Jvm.Cond.before_and, ih, List.all_cons]
def words1 : List Jvm.Cond := Jvm.Cond.code x code maxLocals ret :: tables_1
/-- a 'code' word, met by the world's own term for the bytes: nothing is compared byte by byte -/
theorem code_word {y : MethodName} {bytes : ByteArray} {mx : Nat} {rt : Option FieldType} {a : Array Value} {s : State} {m : MethodId} {meth : Method} {c : Code} (h1 : s.methodNamed? y = some m) (h2 : s.vm.method? m = some meth) (h3 : meth.code = some c) (h4 : c.code = bytes)
    (h5 : (c.maxLocals == mx && c.exceptionTable.isEmpty && decide (c.maxStack ≤ mostOperands) && decide (meth.sig.returnType = rt) && !meth.locks && decide (parseMethodDescriptor y.desc = some meth.sig)) = true) : (Jvm.Cond.code y bytes mx rt).before a s = true := by
  simp only [Bool.and_eq_true, beq_iff_eq, Bool.not_eq_true', decide_eq_true_eq] at h5
  obtain ⟨⟨⟨⟨⟨g1, g2⟩, g3⟩, g4⟩, g5⟩, g6⟩ := h5
  simp [Cond.before, Cond.holds, Cond.value, h1, h2, h3, h4, g1, g2, g3, g4, g5, g6]
def isCode : Jvm.Cond → Bool
  | .code _ _ _ _ => true
  | _ => false
theorem all_split {L : List Jvm.Cond} {P : Jvm.Cond → Bool} (h1 : L.all (fun c => isCode c || P c) = true) (h2 : ∀ c ∈ L.filter isCode, P c = true) : L.all P = true := by
  refine List.all_eq_true.mpr fun c hc => ?_
  have h := List.all_eq_true.mp h1 c hc
  rcases Bool.eq_false_or_eq_true (isCode c) with hi | hi
  · exact h2 c (List.mem_filter.mpr ⟨hc, hi⟩)
  · simpa [hi] using h
set_option maxRecDepth 65536 in
theorem w_c0 : (Jvm.Cond.code x code maxLocals ret).before args0 about1 = true := code_word (m := ⟨1, 4⟩) (meth := k1m4) (c := k1c4) (by decide +kernel) rfl rfl rfl (by decide +kernel)
set_option maxRecDepth 65536 in
theorem w_c1 : (Jvm.Cond.code ({ cls := "com/example/grantgate/grantgate/server/HeadMethodPinLaw", name := "nonSpace", desc := "(I)C" } : Jvm.MethodName) method_2_code (2 : Nat) (Option.some Jvm.ClassFile.FieldType.char)).before args0 about1 = true := code_word (m := ⟨1, 1⟩) (meth := k1m1) (c := k1c1) (by decide +kernel) rfl rfl rfl (by decide +kernel)
set_option maxRecDepth 65536 in
theorem w_c2 : (Jvm.Cond.code ({ cls := "com/example/grantgate/grantgate/server/HeadMethodPinLaw", name := "line", desc := "(ICCCCCC)[C" } : Jvm.MethodName) method_4_code (7 : Nat) (Option.some (Jvm.ClassFile.FieldType.array Jvm.ClassFile.FieldType.char))).before args0 about1 = true := code_word (m := ⟨1, 3⟩) (meth := k1m3) (c := k1c3) (by decide +kernel) rfl rfl rfl (by decide +kernel)
set_option maxRecDepth 65536 in
theorem w_c3 : (Jvm.Cond.code ({ cls := "java/lang/String", name := "<init>", desc := "([C)V" } : Jvm.MethodName) jdk_42_method_3_code (2 : Nat) (Option.none : Option Jvm.ClassFile.FieldType)).before args0 about1 = true := code_word (m := ⟨7, 1⟩) (meth := k7m1) (c := k7c1) (by decide +kernel) rfl rfl rfl (by decide +kernel)
set_option maxRecDepth 65536 in
theorem w_c4 : (Jvm.Cond.code ({ cls := "java/lang/String", name := "<init>", desc := "([CIILjava/lang/Void;)V" } : Jvm.MethodName) jdk_42_method_149_code (6 : Nat) (Option.none : Option Jvm.ClassFile.FieldType)).before args0 about1 = true := code_word (m := ⟨7, 7⟩) (meth := k7m7) (c := k7c7) (by decide +kernel) rfl rfl rfl (by decide +kernel)
set_option maxRecDepth 65536 in
theorem w_c5 : (Jvm.Cond.code ({ cls := "java/lang/Object", name := "<init>", desc := "()V" } : Jvm.MethodName) object_method_1_code (1 : Nat) (Option.none : Option Jvm.ClassFile.FieldType)).before args0 about1 = true := code_word (m := ⟨0, 0⟩) (meth := k0m0) (c := k0c0) (by decide +kernel) rfl rfl rfl (by decide +kernel)
set_option maxRecDepth 65536 in
theorem w_c6 : (Jvm.Cond.code ({ cls := "java/lang/StringUTF16", name := "compress", desc := "([CII)[B" } : Jvm.MethodName) jdk_52_method_16_code (6 : Nat) (Option.some (Jvm.ClassFile.FieldType.array Jvm.ClassFile.FieldType.byte))).before args0 about1 = true := code_word (m := ⟨8, 2⟩) (meth := k8m2) (c := k8c2) (by decide +kernel) rfl rfl rfl (by decide +kernel)
set_option maxRecDepth 65536 in
theorem w_c7 : (Jvm.Cond.code ({ cls := "java/lang/StringUTF16", name := "compress", desc := "([CI[BII)I" } : Jvm.MethodName) jdk_52_method_21_code (7 : Nat) (Option.some Jvm.ClassFile.FieldType.int)).before args0 about1 = true := code_word (m := ⟨8, 3⟩) (meth := k8m3) (c := k8c3) (by decide +kernel) rfl rfl rfl (by decide +kernel)
set_option maxRecDepth 65536 in
theorem w_c8 : (Jvm.Cond.code ({ cls := "java/lang/StringUTF16", name := "coderFromArrayLen", desc := "([BI)B" } : Jvm.MethodName) jdk_52_method_15_code (2 : Nat) (Option.some Jvm.ClassFile.FieldType.byte)).before args0 about1 = true := code_word (m := ⟨8, 1⟩) (meth := k8m1) (c := k8c1) (by decide +kernel) rfl rfl rfl (by decide +kernel)
set_option maxRecDepth 65536 in
theorem w_c9 : (Jvm.Cond.code ({ cls := "com/example/grantgate/grantgate/server/HeadMethodPinLaw", name := "prefix", desc := "(ICCC)[C" } : Jvm.MethodName) method_3_code (4 : Nat) (Option.some (Jvm.ClassFile.FieldType.array Jvm.ClassFile.FieldType.char))).before args0 about1 = true := code_word (m := ⟨1, 2⟩) (meth := k1m2) (c := k1c2) (by decide +kernel) rfl rfl rfl (by decide +kernel)
set_option maxRecDepth 65536 in
theorem w_c10 : (Jvm.Cond.code ({ cls := "java/util/ArrayList", name := "<init>", desc := "()V" } : Jvm.MethodName) jdk_38_method_2_code (1 : Nat) (Option.none : Option Jvm.ClassFile.FieldType)).before args0 about1 = true := code_word (m := ⟨19, 0⟩) (meth := k19m0) (c := k19c0) (by decide +kernel) rfl rfl rfl (by decide +kernel)
set_option maxRecDepth 65536 in
theorem w_c11 : (Jvm.Cond.code ({ cls := "java/util/AbstractList", name := "<init>", desc := "()V" } : Jvm.MethodName) jdk_39_method_1_code (1 : Nat) (Option.none : Option Jvm.ClassFile.FieldType)).before args0 about1 = true := code_word (m := ⟨16, 0⟩) (meth := k16m0) (c := k16c0) (by decide +kernel) rfl rfl rfl (by decide +kernel)
set_option maxRecDepth 65536 in
theorem w_c12 : (Jvm.Cond.code ({ cls := "java/util/AbstractCollection", name := "<init>", desc := "()V" } : Jvm.MethodName) jdk_22_method_1_code (1 : Nat) (Option.none : Option Jvm.ClassFile.FieldType)).before args0 about1 = true := code_word (m := ⟨13, 0⟩) (meth := k13m0) (c := k13c0) (by decide +kernel) rfl rfl rfl (by decide +kernel)
set_option maxRecDepth 65536 in
theorem w_c13 : (Jvm.Cond.code ({ cls := "com/example/grantgate/grantgate/server/MessageReader$Head", name := "<init>", desc := "(Ljava/lang/String;Ljava/util/List;)V" } : Jvm.MethodName) prog_40_method_1_code (3 : Nat) (Option.none : Option Jvm.ClassFile.FieldType)).before args0 about1 = true := code_word (m := ⟨10, 0⟩) (meth := k10m0) (c := k10c0) (by decide +kernel) rfl rfl rfl (by decide +kernel)
set_option maxRecDepth 65536 in
theorem w_c14 : (Jvm.Cond.code ({ cls := "java/lang/Record", name := "<init>", desc := "()V" } : Jvm.MethodName) jdk_30_method_1_code (1 : Nat) (Option.none : Option Jvm.ClassFile.FieldType)).before args0 about1 = true := code_word (m := ⟨9, 0⟩) (meth := k9m0) (c := k9c0) (by decide +kernel) rfl rfl rfl (by decide +kernel)
set_option maxRecDepth 65536 in
theorem w_c15 : (Jvm.Cond.code ({ cls := "com/example/grantgate/grantgate/server/MessageReader$Head", name := "method", desc := "()Ljava/lang/String;" } : Jvm.MethodName) prog_40_method_3_code (1 : Nat) (Option.some (Jvm.ClassFile.FieldType.object "java/lang/String"))).before args0 about1 = true := code_word (m := ⟨10, 1⟩) (meth := k10m1) (c := k10c1) (by decide +kernel) rfl rfl rfl (by decide +kernel)
set_option maxRecDepth 65536 in
theorem w_c16 : (Jvm.Cond.code ({ cls := "java/lang/String", name := "indexOf", desc := "(I)I" } : Jvm.MethodName) jdk_42_method_79_code (2 : Nat) (Option.some Jvm.ClassFile.FieldType.int)).before args0 about1 = true := code_word (m := ⟨7, 4⟩) (meth := k7m4) (c := k7c4) (by decide +kernel) rfl rfl rfl (by decide +kernel)
set_option maxRecDepth 65536 in
theorem w_c17 : (Jvm.Cond.code ({ cls := "java/lang/String", name := "indexOf", desc := "(II)I" } : Jvm.MethodName) jdk_42_method_80_code (3 : Nat) (Option.some Jvm.ClassFile.FieldType.int)).before args0 about1 = true := code_word (m := ⟨7, 5⟩) (meth := k7m5) (c := k7c5) (by decide +kernel) rfl rfl rfl (by decide +kernel)
set_option maxRecDepth 65536 in
theorem w_c18 : (Jvm.Cond.code ({ cls := "java/lang/String", name := "isLatin1", desc := "()Z" } : Jvm.MethodName) jdk_42_method_154_code (1 : Nat) (Option.some Jvm.ClassFile.FieldType.boolean)).before args0 about1 = true := code_word (m := ⟨7, 10⟩) (meth := k7m10) (c := k7c10) (by decide +kernel) rfl rfl rfl (by decide +kernel)
set_option maxRecDepth 65536 in
theorem w_c19 : (Jvm.Cond.code ({ cls := "java/lang/String", name := "length", desc := "()I" } : Jvm.MethodName) jdk_42_method_54_code (1 : Nat) (Option.some Jvm.ClassFile.FieldType.int)).before args0 about1 = true := code_word (m := ⟨7, 2⟩) (meth := k7m2) (c := k7c2) (by decide +kernel) rfl rfl rfl (by decide +kernel)
set_option maxRecDepth 65536 in
theorem w_c20 : (Jvm.Cond.code ({ cls := "java/lang/String", name := "coder", desc := "()B" } : Jvm.MethodName) jdk_42_method_152_code (1 : Nat) (Option.some Jvm.ClassFile.FieldType.byte)).before args0 about1 = true := code_word (m := ⟨7, 9⟩) (meth := k7m9) (c := k7c9) (by decide +kernel) rfl rfl rfl (by decide +kernel)
set_option maxRecDepth 65536 in
theorem w_c21 : (Jvm.Cond.code ({ cls := "java/lang/StringLatin1", name := "indexOf", desc := "([BIII)I" } : Jvm.MethodName) jdk_43_method_22_code (4 : Nat) (Option.some Jvm.ClassFile.FieldType.int)).before args0 about1 = true := code_word (m := ⟨20, 3⟩) (meth := k20m3) (c := k20c3) (by decide +kernel) rfl rfl rfl (by decide +kernel)
set_option maxRecDepth 65536 in
theorem w_c22 : (Jvm.Cond.code ({ cls := "java/lang/StringLatin1", name := "canEncode", desc := "(I)Z" } : Jvm.MethodName) jdk_43_method_4_code (1 : Nat) (Option.some Jvm.ClassFile.FieldType.boolean)).before args0 about1 = true := code_word (m := ⟨20, 1⟩) (meth := k20m1) (c := k20c1) (by decide +kernel) rfl rfl rfl (by decide +kernel)
set_option maxRecDepth 65536 in
theorem w_c23 : (Jvm.Cond.code ({ cls := "java/lang/Math", name := "max", desc := "(II)I" } : Jvm.MethodName) jdk_29_method_65_code (2 : Nat) (Option.some Jvm.ClassFile.FieldType.int)).before args0 about1 = true := code_word (m := ⟨21, 1⟩) (meth := k21m1) (c := k21c1) (by decide +kernel) rfl rfl rfl (by decide +kernel)
set_option maxRecDepth 65536 in
theorem w_c24 : (Jvm.Cond.code ({ cls := "java/lang/Math", name := "min", desc := "(II)I" } : Jvm.MethodName) jdk_29_method_69_code (2 : Nat) (Option.some Jvm.ClassFile.FieldType.int)).before args0 about1 = true := code_word (m := ⟨21, 2⟩) (meth := k21m2) (c := k21c2) (by decide +kernel) rfl rfl rfl (by decide +kernel)
set_option maxRecDepth 65536 in
theorem w_c25 : (Jvm.Cond.code ({ cls := "java/lang/StringLatin1", name := "indexOfChar", desc := "([BIII)I" } : Jvm.MethodName) jdk_43_method_23_code (6 : Nat) (Option.some Jvm.ClassFile.FieldType.int)).before args0 about1 = true := code_word (m := ⟨20, 4⟩) (meth := k20m4) (c := k20c4) (by decide +kernel) rfl rfl rfl (by decide +kernel)
set_option maxRecDepth 65536 in
theorem w_c26 : (Jvm.Cond.code ({ cls := "java/lang/String", name := "substring", desc := "(II)Ljava/lang/String;" } : Jvm.MethodName) jdk_42_method_92_code (5 : Nat) (Option.some (Jvm.ClassFile.FieldType.object "java/lang/String"))).before args0 about1 = true := code_word (m := ⟨7, 6⟩) (meth := k7m6) (c := k7c6) (by decide +kernel) rfl rfl rfl (by decide +kernel)
set_option maxRecDepth 65536 in
theorem w_c27 : (Jvm.Cond.code ({ cls := "java/lang/String", name := "checkBoundsBeginEnd", desc := "(III)V" } : Jvm.MethodName) jdk_42_method_158_code (3 : Nat) (Option.none : Option Jvm.ClassFile.FieldType)).before args0 about1 = true := code_word (m := ⟨7, 11⟩) (meth := k7m11) (c := k7c11) (by decide +kernel) rfl rfl rfl (by decide +kernel)
set_option maxRecDepth 65536 in
theorem w_c28 : (Jvm.Cond.code ({ cls := "jdk/internal/util/Preconditions", name := "checkFromToIndex", desc := "(IIILjava/util/function/BiFunction;)I" } : Jvm.MethodName) jdk_41_method_12_code (4 : Nat) (Option.some Jvm.ClassFile.FieldType.int)).before args0 about1 = true := code_word (m := ⟨22, 1⟩) (meth := k22m1) (c := k22c1) (by decide +kernel) rfl rfl rfl (by decide +kernel)
set_option maxRecDepth 65536 in
theorem w_c29 : (Jvm.Cond.code ({ cls := "java/lang/StringLatin1", name := "newString", desc := "([BII)Ljava/lang/String;" } : Jvm.MethodName) jdk_43_method_47_code (3 : Nat) (Option.some (Jvm.ClassFile.FieldType.object "java/lang/String"))).before args0 about1 = true := code_word (m := ⟨20, 5⟩) (meth := k20m5) (c := k20c5) (by decide +kernel) rfl rfl rfl (by decide +kernel)
set_option maxRecDepth 65536 in
theorem w_c30 : (Jvm.Cond.code ({ cls := "java/lang/String", name := "equals", desc := "(Ljava/lang/Object;)Z" } : Jvm.MethodName) jdk_42_method_66_code (3 : Nat) (Option.some Jvm.ClassFile.FieldType.boolean)).before args0 about1 = true := code_word (m := ⟨7, 3⟩) (meth := k7m3) (c := k7c3) (by decide +kernel) rfl rfl rfl (by decide +kernel)
set_option maxRecDepth 65536 in
theorem w_c31 : (Jvm.Cond.code ({ cls := "java/lang/StringLatin1", name := "equals", desc := "([B[B)Z" } : Jvm.MethodName) jdk_43_method_13_code (3 : Nat) (Option.some Jvm.ClassFile.FieldType.boolean)).before args0 about1 = true := code_word (m := ⟨20, 2⟩) (meth := k20m2) (c := k20c2) (by decide +kernel) rfl rfl rfl (by decide +kernel)
set_option maxRecDepth 65536 in
theorem w_c32 : (Jvm.Cond.code ({ cls := "java/util/Arrays", name := "copyOfRange", desc := "([BII)[B" } : Jvm.MethodName) jdk_65_method_132_code (3 : Nat) (Option.some (Jvm.ClassFile.FieldType.array Jvm.ClassFile.FieldType.byte))).before args0 about1 = true := code_word (m := ⟨23, 2⟩) (meth := k23m2) (c := k23c2) (by decide +kernel) rfl rfl rfl (by decide +kernel)
set_option maxRecDepth 65536 in
theorem w_c33 : (Jvm.Cond.code ({ cls := "java/util/Arrays", name := "copyOfRangeByte", desc := "([BII)[B" } : Jvm.MethodName) jdk_65_method_133_code (5 : Nat) (Option.some (Jvm.ClassFile.FieldType.array Jvm.ClassFile.FieldType.byte))).before args0 about1 = true := code_word (m := ⟨23, 3⟩) (meth := k23m3) (c := k23c3) (by decide +kernel) rfl rfl rfl (by decide +kernel)
set_option maxRecDepth 65536 in
theorem w_c34 : (Jvm.Cond.code ({ cls := "java/util/Arrays", name := "checkLength", desc := "(II)V" } : Jvm.MethodName) jdk_65_method_131_code (2 : Nat) (Option.none : Option Jvm.ClassFile.FieldType)).before args0 about1 = true := code_word (m := ⟨23, 1⟩) (meth := k23m1) (c := k23c1) (by decide +kernel) rfl rfl rfl (by decide +kernel)
set_option maxRecDepth 65536 in
theorem w_c35 : (Jvm.Cond.code ({ cls := "java/lang/String", name := "<init>", desc := "([BB)V" } : Jvm.MethodName) jdk_42_method_151_code (3 : Nat) (Option.none : Option Jvm.ClassFile.FieldType)).before args0 about1 = true := code_word (m := ⟨7, 8⟩) (meth := k7m8) (c := k7c8) (by decide +kernel) rfl rfl rfl (by decide +kernel)
def codes1 : List Jvm.Cond := [Jvm.Cond.code x code maxLocals ret, Jvm.Cond.code ({ cls := "com/example/grantgate/grantgate/server/HeadMethodPinLaw", name := "nonSpace", desc := "(I)C" } : Jvm.MethodName) method_2_code (2 : Nat) (Option.some Jvm.ClassFile.FieldType.char), Jvm.Cond.code ({ cls := "com/example/grantgate/grantgate/server/HeadMethodPinLaw", name := "line", desc := "(ICCCCCC)[C" } : Jvm.MethodName) method_4_code (7 : Nat) (Option.some (Jvm.ClassFile.FieldType.array Jvm.ClassFile.FieldType.char)), Jvm.Cond.code ({ cls := "java/lang/String", name := "<init>", desc := "([C)V" } : Jvm.MethodName) jdk_42_method_3_code (2 : Nat) (Option.none : Option Jvm.ClassFile.FieldType), Jvm.Cond.code ({ cls := "java/lang/String", name := "<init>", desc := "([CIILjava/lang/Void;)V" } : Jvm.MethodName) jdk_42_method_149_code (6 : Nat) (Option.none : Option Jvm.ClassFile.FieldType), Jvm.Cond.code ({ cls := "java/lang/Object", name := "<init>", desc := "()V" } : Jvm.MethodName) object_method_1_code (1 : Nat) (Option.none : Option Jvm.ClassFile.FieldType), Jvm.Cond.code ({ cls := "java/lang/StringUTF16", name := "compress", desc := "([CII)[B" } : Jvm.MethodName) jdk_52_method_16_code (6 : Nat) (Option.some (Jvm.ClassFile.FieldType.array Jvm.ClassFile.FieldType.byte)), Jvm.Cond.code ({ cls := "java/lang/StringUTF16", name := "compress", desc := "([CI[BII)I" } : Jvm.MethodName) jdk_52_method_21_code (7 : Nat) (Option.some Jvm.ClassFile.FieldType.int), Jvm.Cond.code ({ cls := "java/lang/StringUTF16", name := "coderFromArrayLen", desc := "([BI)B" } : Jvm.MethodName) jdk_52_method_15_code (2 : Nat) (Option.some Jvm.ClassFile.FieldType.byte), Jvm.Cond.code ({ cls := "com/example/grantgate/grantgate/server/HeadMethodPinLaw", name := "prefix", desc := "(ICCC)[C" } : Jvm.MethodName) method_3_code (4 : Nat) (Option.some (Jvm.ClassFile.FieldType.array Jvm.ClassFile.FieldType.char)), Jvm.Cond.code ({ cls := "java/util/ArrayList", name := "<init>", desc := "()V" } : Jvm.MethodName) jdk_38_method_2_code (1 : Nat) (Option.none : Option Jvm.ClassFile.FieldType), Jvm.Cond.code ({ cls := "java/util/AbstractList", name := "<init>", desc := "()V" } : Jvm.MethodName) jdk_39_method_1_code (1 : Nat) (Option.none : Option Jvm.ClassFile.FieldType), Jvm.Cond.code ({ cls := "java/util/AbstractCollection", name := "<init>", desc := "()V" } : Jvm.MethodName) jdk_22_method_1_code (1 : Nat) (Option.none : Option Jvm.ClassFile.FieldType), Jvm.Cond.code ({ cls := "com/example/grantgate/grantgate/server/MessageReader$Head", name := "<init>", desc := "(Ljava/lang/String;Ljava/util/List;)V" } : Jvm.MethodName) prog_40_method_1_code (3 : Nat) (Option.none : Option Jvm.ClassFile.FieldType), Jvm.Cond.code ({ cls := "java/lang/Record", name := "<init>", desc := "()V" } : Jvm.MethodName) jdk_30_method_1_code (1 : Nat) (Option.none : Option Jvm.ClassFile.FieldType), Jvm.Cond.code ({ cls := "com/example/grantgate/grantgate/server/MessageReader$Head", name := "method", desc := "()Ljava/lang/String;" } : Jvm.MethodName) prog_40_method_3_code (1 : Nat) (Option.some (Jvm.ClassFile.FieldType.object "java/lang/String")), Jvm.Cond.code ({ cls := "java/lang/String", name := "indexOf", desc := "(I)I" } : Jvm.MethodName) jdk_42_method_79_code (2 : Nat) (Option.some Jvm.ClassFile.FieldType.int), Jvm.Cond.code ({ cls := "java/lang/String", name := "indexOf", desc := "(II)I" } : Jvm.MethodName) jdk_42_method_80_code (3 : Nat) (Option.some Jvm.ClassFile.FieldType.int), Jvm.Cond.code ({ cls := "java/lang/String", name := "isLatin1", desc := "()Z" } : Jvm.MethodName) jdk_42_method_154_code (1 : Nat) (Option.some Jvm.ClassFile.FieldType.boolean), Jvm.Cond.code ({ cls := "java/lang/String", name := "length", desc := "()I" } : Jvm.MethodName) jdk_42_method_54_code (1 : Nat) (Option.some Jvm.ClassFile.FieldType.int), Jvm.Cond.code ({ cls := "java/lang/String", name := "coder", desc := "()B" } : Jvm.MethodName) jdk_42_method_152_code (1 : Nat) (Option.some Jvm.ClassFile.FieldType.byte), Jvm.Cond.code ({ cls := "java/lang/StringLatin1", name := "indexOf", desc := "([BIII)I" } : Jvm.MethodName) jdk_43_method_22_code (4 : Nat) (Option.some Jvm.ClassFile.FieldType.int), Jvm.Cond.code ({ cls := "java/lang/StringLatin1", name := "canEncode", desc := "(I)Z" } : Jvm.MethodName) jdk_43_method_4_code (1 : Nat) (Option.some Jvm.ClassFile.FieldType.boolean), Jvm.Cond.code ({ cls := "java/lang/Math", name := "max", desc := "(II)I" } : Jvm.MethodName) jdk_29_method_65_code (2 : Nat) (Option.some Jvm.ClassFile.FieldType.int), Jvm.Cond.code ({ cls := "java/lang/Math", name := "min", desc := "(II)I" } : Jvm.MethodName) jdk_29_method_69_code (2 : Nat) (Option.some Jvm.ClassFile.FieldType.int), Jvm.Cond.code ({ cls := "java/lang/StringLatin1", name := "indexOfChar", desc := "([BIII)I" } : Jvm.MethodName) jdk_43_method_23_code (6 : Nat) (Option.some Jvm.ClassFile.FieldType.int), Jvm.Cond.code ({ cls := "java/lang/String", name := "substring", desc := "(II)Ljava/lang/String;" } : Jvm.MethodName) jdk_42_method_92_code (5 : Nat) (Option.some (Jvm.ClassFile.FieldType.object "java/lang/String")), Jvm.Cond.code ({ cls := "java/lang/String", name := "checkBoundsBeginEnd", desc := "(III)V" } : Jvm.MethodName) jdk_42_method_158_code (3 : Nat) (Option.none : Option Jvm.ClassFile.FieldType), Jvm.Cond.code ({ cls := "jdk/internal/util/Preconditions", name := "checkFromToIndex", desc := "(IIILjava/util/function/BiFunction;)I" } : Jvm.MethodName) jdk_41_method_12_code (4 : Nat) (Option.some Jvm.ClassFile.FieldType.int), Jvm.Cond.code ({ cls := "java/lang/StringLatin1", name := "newString", desc := "([BII)Ljava/lang/String;" } : Jvm.MethodName) jdk_43_method_47_code (3 : Nat) (Option.some (Jvm.ClassFile.FieldType.object "java/lang/String")), Jvm.Cond.code ({ cls := "java/lang/String", name := "equals", desc := "(Ljava/lang/Object;)Z" } : Jvm.MethodName) jdk_42_method_66_code (3 : Nat) (Option.some Jvm.ClassFile.FieldType.boolean), Jvm.Cond.code ({ cls := "java/lang/StringLatin1", name := "equals", desc := "([B[B)Z" } : Jvm.MethodName) jdk_43_method_13_code (3 : Nat) (Option.some Jvm.ClassFile.FieldType.boolean), Jvm.Cond.code ({ cls := "java/util/Arrays", name := "copyOfRange", desc := "([BII)[B" } : Jvm.MethodName) jdk_65_method_132_code (3 : Nat) (Option.some (Jvm.ClassFile.FieldType.array Jvm.ClassFile.FieldType.byte)), Jvm.Cond.code ({ cls := "java/util/Arrays", name := "copyOfRangeByte", desc := "([BII)[B" } : Jvm.MethodName) jdk_65_method_133_code (5 : Nat) (Option.some (Jvm.ClassFile.FieldType.array Jvm.ClassFile.FieldType.byte)), Jvm.Cond.code ({ cls := "java/util/Arrays", name := "checkLength", desc := "(II)V" } : Jvm.MethodName) jdk_65_method_131_code (2 : Nat) (Option.none : Option Jvm.ClassFile.FieldType), Jvm.Cond.code ({ cls := "java/lang/String", name := "<init>", desc := "([BB)V" } : Jvm.MethodName) jdk_42_method_151_code (3 : Nat) (Option.none : Option Jvm.ClassFile.FieldType)]
set_option maxRecDepth 65536 in
theorem codes_eq : words1.filter isCode = codes1 := rfl
theorem w_codes : ∀ c ∈ words1.filter isCode, c.before args0 about1 = true := by
  rw [codes_eq]
  intro c hc
  simp only [codes1, List.mem_cons, List.not_mem_nil, or_false] at hc
  rcases hc with rfl | rfl | rfl | rfl | rfl | rfl | rfl | rfl | rfl | rfl | rfl | rfl | rfl | rfl | rfl | rfl | rfl | rfl | rfl | rfl | rfl | rfl | rfl | rfl | rfl | rfl | rfl | rfl | rfl | rfl | rfl | rfl | rfl | rfl | rfl | rfl
  · exact w_c0
  · exact w_c1
  · exact w_c2
  · exact w_c3
  · exact w_c4
  · exact w_c5
  · exact w_c6
  · exact w_c7
  · exact w_c8
  · exact w_c9
  · exact w_c10
  · exact w_c11
  · exact w_c12
  · exact w_c13
  · exact w_c14
  · exact w_c15
  · exact w_c16
  · exact w_c17
  · exact w_c18
  · exact w_c19
  · exact w_c20
  · exact w_c21
  · exact w_c22
  · exact w_c23
  · exact w_c24
  · exact w_c25
  · exact w_c26
  · exact w_c27
  · exact w_c28
  · exact w_c29
  · exact w_c30
  · exact w_c31
  · exact w_c32
  · exact w_c33
  · exact w_c34
  · exact w_c35
set_option maxRecDepth 65536 in
theorem w_t1 : (words1.take 24).all (fun c => isCode c || c.before args0 about1) = true := by decide +kernel
set_option maxRecDepth 65536 in
theorem w_t2 : ((words1.drop 24).take 24).all (fun c => isCode c || c.before args0 about1) = true := by decide +kernel
set_option maxRecDepth 65536 in
theorem w_t3 : (((words1.drop 24).drop 24).take 24).all (fun c => isCode c || c.before args0 about1) = true := by decide +kernel
set_option maxRecDepth 65536 in
theorem w_t4 : ((((words1.drop 24).drop 24).drop 24).take 24).all (fun c => isCode c || c.before args0 about1) = true := by decide +kernel
set_option maxRecDepth 65536 in
theorem w_t5 : (((((words1.drop 24).drop 24).drop 24).drop 24).take 24).all (fun c => isCode c || c.before args0 about1) = true := by decide +kernel
set_option maxRecDepth 65536 in
theorem w_t6 : ((((((words1.drop 24).drop 24).drop 24).drop 24).drop 24).take 24).all (fun c => isCode c || c.before args0 about1) = true := by decide +kernel
set_option maxRecDepth 65536 in
theorem w_t7 : (((((((words1.drop 24).drop 24).drop 24).drop 24).drop 24).drop 24).take 24).all (fun c => isCode c || c.before args0 about1) = true := by decide +kernel
set_option maxRecDepth 65536 in
theorem w_t8 : (((((((words1.drop 24).drop 24).drop 24).drop 24).drop 24).drop 24).drop 24).all (fun c => isCode c || c.before args0 about1) = true := by decide +kernel
theorem w_tables : (allAtoms (Jvm.Cond.code x code maxLocals ret :: tables_1)).before args0 about1 = true := by
  rw [allAtoms_all]
  show words1.all (fun c => c.before args0 about1) = true
  refine all_split ?_ w_codes
  rw [← List.take_append_drop 24 words1, List.all_append, w_t1, ← List.take_append_drop 24 (words1.drop 24), List.all_append, w_t2, ← List.take_append_drop 24 ((words1.drop 24).drop 24), List.all_append, w_t3, ← List.take_append_drop 24 (((words1.drop 24).drop 24).drop 24), List.all_append, w_t4, ← List.take_append_drop 24 ((((words1.drop 24).drop 24).drop 24).drop 24), List.all_append, w_t5, ← List.take_append_drop 24 (((((words1.drop 24).drop 24).drop 24).drop 24).drop 24), List.all_append, w_t6, ← List.take_append_drop 24 ((((((words1.drop 24).drop 24).drop 24).drop 24).drop 24).drop 24), List.all_append, w_t7, w_t8]
  rfl
set_option maxRecDepth 65536 in
theorem w_rest : rest_1_c.before args0 about1 = true := by decide +kernel
set_option maxRecDepth 65536 in
theorem w_case : (Jvm.Cond.and given_1 narrow_1).before args0 about1 = true := by decide +kernel
set_option maxRecDepth 65536 in
theorem w_consts : constsHeld consts_1 about1 := Jvm.Lit.constsHeldB_iff.mp (by decide +kernel)
theorem w_applies : (headSpec (Jvm.Cond.code x code maxLocals ret :: tables_1) room_1).applies x e0.platform about1 = true :=
  (Spec.applies_iff w_frames).mpr ⟨w_running, w_runnable, w_alone, w_named, w_hears, w_ripe, w_room, w_tables⟩
theorem atStart : AtStart classFile x code maxLocals ret World_1 tables_1 room_1 Calls_1 rest_1 Pre_1 launch0 p0 e0 about1 theMethod args0 below0 :=
  ⟨lists_1, trivial, launch0.admits_env _ _ _, launch0.least_env, fairChoices_fair.cas, fairChoices_fair.clock, w_frames, w_args, w_heap, w_applies, ⟨w_consts, trivial⟩, w_rest, w_case⟩
end start1
theorem witness_1 : WitnessClaimed_1 := ⟨start1.p0, start1.e0, start1.about1, start1.theMethod, start1.args0, start1.below0, start1.atStart⟩
end Jvm.Pilot.@@N@@
