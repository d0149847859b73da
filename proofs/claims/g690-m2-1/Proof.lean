import JvmDerived
import JvmDerived.Pilot.@@N@@Statement
import JvmDerived.Pilot.@@N@@Code
set_option linter.unusedVariables false
set_option linter.unusedSimpArgs false
namespace Jvm.Pilot.@@N@@
open Jvm Jvm.ClassFile Sem Op Lib Jvm.Free Jvm.Stand Jvm.LawKit Jvm.RoadKit Bundle Jvm.Pilot.@@N@@.Jvm.D
theorem wk {Z : State} {a0 : Array Value} {d : Jvm.Cond} (hw : ∀ d ∈ tables_1, d.before a0 Z = true) (i : Nat) (h : tables_1[i]? = some d) : d.before a0 Z = true := hw _ (List.mem_of_getElem? h)
/-! a thin layer of one form a step, over the library's road laws -/
def MetN (l : Launch) (Z : State) (y : MethodName) (bytes : ByteArray) (maxL : Nat) (ret : Option FieldType) (rm : Room) (ws : List Jvm.Cond) (as' : Array Value) (h : Heap) (Q : Option Value → Heap → List Loc → Prop) : Prop :=
  MetFree l y (head1 (Jvm.Cond.code y bytes maxL ret :: ws) rm) (fun a U => a = as' ∧ Z.Warmed39 U.vm ∧ U.heap = h) (fun _ _ _ _ _ => True) (fun _ U o U' => ∃ v L, o = .returned v ∧ Q v U'.heap L ∧ FrameEnd U o U' L rm.cells rm.slots)
def Win (p : Program) (e : Env) (below : List Frame) (s : State) (rm : Room) (Q : Option Value → Heap → List Loc → Prop) (st : State) : Prop :=
  ∃ s₂ o, Steps p.tables e below st s₂ ∧ s₂.status = .running ∧ Ended s₂ below o ∧ ∃ v L, o = .returned v ∧ Q v s₂.heap L ∧ FrameEnd s o s₂ L rm.cells rm.slots
section Own
variable {p : Program} {l : Launch} {e : Env} {R rm : Room} {s : State} {m : MethodId} {args : Array Value} {below : List Frame} {meth : Method} {c : Code} {T : State} {locs : List Loc} {cells slots : Nat} {Z : State} {a0 : Array Value} {h : Heap} {Q : Option Value → Heap → List Loc → Prop}
theorem Win.to {A : State} (T : State) (g : JFrame) (k : ∀ t, Steps p.tables e below (T.setTop g) t → Steps p.tables e below A t) (w : Win p e below s rm Q (T.setTop g)) : Win p e below s rm Q A := by
  obtain ⟨s₂, o, h1, r⟩ := w
  exact ⟨s₂, o, k _ h1, r⟩
theorem Win.out (X : Stand p l e R s m args below meth c T locs cells slots) {A : State} {v : Option Value} (hlk : meth.locks = false) (hv : meth.sig.returnType = none → v = none)
    (hst : ∀ fs, (∀ (f : JFrame) (acts : List Action), f.method = m → f.locked = none → f.entered = [] → (doReturn e (T.setTop f) acts v).1 = T.setFrames fs) → Steps p.tables e below A (T.setFrames fs))
    (hc : cells ≤ rm.cells) (hs : slots ≤ rm.slots) (hq : Q v T.heap locs) : Win p e below s rm Q A := by
  obtain ⟨fs, hr, hrun, hended, hW, hsame⟩ := X.leave (v := v) hv
  exact ⟨_, _, hst fs hr, hrun, hended, _, _, rfl, hq, ⟨_, rfl⟩, hW, hsame.mono hc hs⟩
theorem Win.retN (X : Stand p l e R s m args below meth c T locs cells slots) (hx : p.tables.exec = Jvm.exec) (hlk : meth.locks = false) {pc : Nat} {Ls : Array Slot} {z z' : Int32} {t : FieldType} {rest : List Value} (hret : meth.sig.returnType = some t) (ht : t = .boolean ∨ t = .byte ∨ t = .char ∨ t = .short) (hz : nar t z = z')
    (hd : decode c.code pc = .ok (.ireturn, 1)) (hc : cells ≤ rm.cells) (hs : slots ≤ rm.slots) (hq : Q (some (.int z')) T.heap locs) : Win p e below s rm Q (T.setTop (mkF m pc Ls (.int z :: rest))) := by
  subst hz
  exact Win.out X (v := some (.int (nar t z))) hlk (fun q => by rw [hret] at q; cases q) (fun fs hr => Jvm.RoadKit.retN X hx (t := t) hret ht hd hr) hc hs hq
theorem Win.retI (X : Stand p l e R s m args below meth c T locs cells slots) (hx : p.tables.exec = Jvm.exec) (hlk : meth.locks = false) {pc : Nat} {Ls : Array Slot} {z : Int32} {rest : List Value} (hret : meth.sig.returnType = some .int)
    (hd : decode c.code pc = .ok (.ireturn, 1)) (hc : cells ≤ rm.cells) (hs : slots ≤ rm.slots) (hq : Q (some (.int z)) T.heap locs) : Win p e below s rm Q (T.setTop (mkF m pc Ls (.int z :: rest))) :=
  Win.out X (v := some (.int z)) hlk (fun q => by rw [hret] at q; cases q) (fun fs hr => retOut X hx hret rfl (Or.inl ⟨rfl, Or.inl rfl, z, rfl⟩) hd hr) hc hs hq
theorem Win.retJ (X : Stand p l e R s m args below meth c T locs cells slots) (hx : p.tables.exec = Jvm.exec) (hlk : meth.locks = false) {pc : Nat} {Ls : Array Slot} {z : Int64} {rest : List Value} (hret : meth.sig.returnType = some .long)
    (hd : decode c.code pc = .ok (.lreturn, 1)) (hc : cells ≤ rm.cells) (hs : slots ≤ rm.slots) (hq : Q (some (.long z)) T.heap locs) : Win p e below s rm Q (T.setTop (mkF m pc Ls (.long z :: rest))) :=
  Win.out X (v := some (.long z)) hlk (fun q => by rw [hret] at q; cases q) (fun fs hr => retOut X hx hret rfl (Or.inr (Or.inl ⟨rfl, rfl, z, rfl⟩)) hd hr) hc hs hq
theorem Win.retD (X : Stand p l e R s m args below meth c T locs cells slots) (hx : p.tables.exec = Jvm.exec) (hlk : meth.locks = false) {pc : Nat} {Ls : Array Slot} {z : UInt64} {rest : List Value} (hret : meth.sig.returnType = some .double)
    (hd : decode c.code pc = .ok (.dreturn, 1)) (hc : cells ≤ rm.cells) (hs : slots ≤ rm.slots) (hq : Q (some (.double z)) T.heap locs) : Win p e below s rm Q (T.setTop (mkF m pc Ls (.double z :: rest))) :=
  Win.out X (v := some (.double z)) hlk (fun q => by rw [hret] at q; cases q) (fun fs hr => retOut X hx hret rfl (Or.inr (Or.inr (Or.inl ⟨rfl, rfl, z, rfl⟩))) hd hr) hc hs hq
theorem Win.retA (X : Stand p l e R s m args below meth c T locs cells slots) (hx : p.tables.exec = Jvm.exec) (hlk : meth.locks = false) {pc : Nat} {Ls : Array Slot} {w : Value} {t : FieldType} {rest : List Value} (hret : meth.sig.returnType = some t) (ht : t.isReference = true) (hw : w.isRef = true)
    (hd : decode c.code pc = .ok (.areturn, 1)) (hc : cells ≤ rm.cells) (hs : slots ≤ rm.slots) (hq : Q (some w) T.heap locs) : Win p e below s rm Q (T.setTop (mkF m pc Ls (w :: rest))) :=
  Win.out X (v := some w) hlk (fun q => by rw [hret] at q; cases q) (fun fs hr => retOut X hx hret (by rcases ref_cases hw with rfl | ⟨_, rfl⟩ <;> cases t <;> first | rfl | cases ht) (Or.inr (Or.inr (Or.inr (Or.inr ⟨rfl, ht, hw⟩)))) hd hr) hc hs hq
theorem Win.retV (X : Stand p l e R s m args below meth c T locs cells slots) (hx : p.tables.exec = Jvm.exec) (hlk : meth.locks = false) {pc : Nat} {Ls : Array Slot} (hret : meth.sig.returnType = none)
    (hd : decode c.code pc = .ok (.return_, 1)) (hc : cells ≤ rm.cells) (hs : slots ≤ rm.slots) (hq : Q none T.heap locs) : Win p e below s rm Q (T.setTop (mkF m pc Ls [])) :=
  Win.out X (v := none) hlk (fun _ => rfl) (fun fs hr => X.returnOut hx hret hd hr) hc hs hq
theorem MetN.walk {y : MethodName} {bytes : ByteArray} {maxL : Nat} {ret : Option FieldType} {ws : List Jvm.Cond} {as' : Array Value} (hp : plainFor y = true)
    (b : ∀ (p : Program) (e : Env) (s : State) (m : MethodId) (below : List Frame) (meth : Method) (c : Code) (s₁ : State), p.tables.exec = Jvm.exec → Z.Warmed39 s.vm → c.code = bytes → c.maxLocals = maxL → s.vm.findClass y.cls = some m.cls → meth.name = y.name → meth.sig.returnType = ret → meth.locks = false →
      Stand p l e rm s m as' below meth c s₁ [] 0 0 → s₁.heap = h → Win p e below s rm Q (s₁.setTop (entryFrame m as' maxL))) : MetN l Z y bytes maxL ret rm ws as' h Q := by
  refine MetFree.of_bodySF hp hisR ?_
  intro p e s m args below meth c s₁ Bd hml0 hP hK
  obtain ⟨rfl, hZ, hh⟩ := hP
  exact b p e s m below meth c s₁ Bd.exec hZ Bd.bytes hml0 (findClass_of_methodNamed Bd.named) (name_of_methodNamed Bd.named Bd.method).1 Bd.returns Bd.notSynchronized (Stand.of_body Bd) (by rw [← hh, Bd.state]; rfl)
theorem N.static (X : Stand p l e R s m args below meth c T locs cells slots) (hx : p.tables.exec = Jvm.exec) (hZ : Z.Warmed39 s.vm) {own : String} {index : Nat} {y : MethodName} {bytes : ByteArray} {maxL : Nat} {ret : Option FieldType} {as' : Array Value}
    (hown : s.vm.findClass own = some m.cls) (w1 : (Jvm.Cond.methodLink own index y).before a0 Z = true) (w2 : (Jvm.Cond.static y).before a0 Z = true) (w3 : (Jvm.Cond.initialized y.cls).before a0 Z = true) (w4 : (Jvm.Cond.code y bytes maxL ret).before a0 Z = true)
    (hy : y.cls ≠ "java/lang/invoke/MethodHandle" ∧ y.cls ≠ "java/lang/invoke/VarHandle") (M : MetN l Z y bytes maxL ret rm [] as' h Q) (eT : T.heap = h) {g : JFrame} (hg : g.method = m) (hsize : g.locals.size = c.maxLocals) {argsL rest : List Value} (has : argsL.toArray = as')
    (hlen : ∀ sig, parseMethodDescriptor y.desc = some sig → argsL.length = sig.parameters.length) (hstack : g.stack = argsL.reverse ++ rest) {W : Nat} (hW : 2 * g.monitorRoom + (rest.map fun v => v.category).sum ≤ W) (hd : decode c.code g.pc = .ok (.invokestatic index, 3))
    (hf : rm.frames + 1 ≤ R.frames) (hl : W + (maxL + 11) + rm.locals ≤ R.locals) (hc : cells + rm.cells ≤ R.cells) (hs : slots + rm.slots ≤ R.slots) :
    ∃ (T' : State) (h' : Heap) (v : Option Value) (L : List Loc), Stand p l e R s m args below meth c T' (locs ++ L) (cells + rm.cells) (slots + rm.slots) ∧ T'.heap = h' ∧ Q v h' L ∧ ∀ t, Steps p.tables e below (T'.setTop { g with pc := g.pc + 3, stack := v.toList ++ rest }) t → Steps p.tables e below (T.setTop g) t := by
  obtain ⟨v, _, ⟨T', L', k', n'⟩, -, X', ⟨Lc, hQ, l', y', z'⟩, st⟩ := Jvm.LawKit.callS X hx hown (mvT hZ w1) (mvT hZ w2) (mvT hZ w3) (mvT hZ w4) hy (backOf (W := W) M hZ w4 w3 hf hl) hg hsize hlen hstack hW hd (fun _ _ => ⟨has, eT, hc, hs⟩)
  dsimp only [Pt.U, Pt.locs, Pt.cells, Pt.slots] at X' l' y' z' st hQ
  subst l' y' z'
  exact ⟨T', _, v, Lc, X', rfl, hQ, st⟩
theorem N.special (X : Stand p l e R s m args below meth c T locs cells slots) (hx : p.tables.exec = Jvm.exec) (hZ : Z.Warmed39 s.vm) {own : String} {index : Nat} {y : MethodName} {bytes : ByteArray} {maxL : Nat} {as' : Array Value} (hy1 : y.name = "<init>")
    (hown : s.vm.findClass own = some m.cls) (w1 : (Jvm.Cond.methodLink own index y).before a0 Z = true) (w2 : (Jvm.Cond.instanceMethod y).before a0 Z = true) (w3 : (Jvm.Cond.initialized y.cls).before a0 Z = true) (w4 : (Jvm.Cond.code y bytes maxL none).before a0 Z = true)
    (hy : y.cls ≠ "java/lang/invoke/MethodHandle" ∧ y.cls ≠ "java/lang/invoke/VarHandle") (M : MetN l Z y bytes maxL none rm [] as' h Q) (eT : T.heap = h) {g : JFrame} (hg : g.method = m) (hsize : g.locals.size = c.maxLocals) {a : Addr} {argsL rest : List Value} (has : (Value.ref a :: argsL).toArray = as')
    (hlen : ∀ sig, parseMethodDescriptor y.desc = some sig → argsL.length = sig.parameters.length) (hstack : g.stack = argsL.reverse ++ .ref a :: rest) {W : Nat} (hW : 2 * g.monitorRoom + (rest.map fun v => v.category).sum ≤ W) (hd : decode c.code g.pc = .ok (.invokespecial index, 3))
    (hf : rm.frames + 1 ≤ R.frames) (hl : W + (maxL + 11) + rm.locals ≤ R.locals) (hc : cells + rm.cells ≤ R.cells) (hs : slots + rm.slots ≤ R.slots) :
    ∃ (T' : State) (h' : Heap) (v : Option Value) (L : List Loc), Stand p l e R s m args below meth c T' (locs ++ L) (cells + rm.cells) (slots + rm.slots) ∧ T'.heap = h' ∧ Q v h' L ∧ ∀ t, Steps p.tables e below (T'.setTop { g with pc := g.pc + 3, stack := v.toList ++ rest }) t → Steps p.tables e below (T.setTop g) t := by
  obtain ⟨v, _, ⟨T', L', k', n'⟩, -, X', ⟨Lc, hQ, l', y', z'⟩, st⟩ := X.specialBack hx hy1 hown (mvT hZ w1) (mvT hZ w2) (mvT hZ w4) hy (backOf (W := W) M hZ w4 w3 hf hl) hg hsize (Steps.refl _) (a := a) hlen hstack hW hd (fun _ _ => ⟨has, eT, hc, hs⟩)
  dsimp only [Pt.U, Pt.locs, Pt.cells, Pt.slots] at X' l' y' z' st hQ
  subst l' y' z'
  exact ⟨T', _, v, Lc, X', rfl, hQ, fun t k => st.trans k⟩
theorem N.virtual (X : Stand p l e R s m args below meth c T locs cells slots) (hx : p.tables.exec = Jvm.exec) (hZ : Z.Warmed39 s.vm) {own C : String} {index : Nat} {y z : MethodName} {bytes : ByteArray} {maxL : Nat} {ret : Option FieldType} {as' : Array Value}
    (hown : s.vm.findClass own = some m.cls) (w1 : (Jvm.Cond.methodLink own index y).before a0 Z = true) (w5 : (Jvm.Cond.declares y).before a0 Z = true) (nf : NotFace s y) (w6 : (Jvm.Cond.selects C y z).before a0 Z = true) (w2 : (Jvm.Cond.instanceMethod z).before a0 Z = true) (w3 : (Jvm.Cond.initialized z.cls).before a0 Z = true) (w4 : (Jvm.Cond.code z bytes maxL ret).before a0 Z = true)
    (hy : y.cls ≠ "java/lang/invoke/MethodHandle" ∧ y.cls ≠ "java/lang/invoke/VarHandle") (M : MetN l Z z bytes maxL ret rm [] as' h Q) (eT : T.heap = h) {a : Addr} (E : Exa Z h a C) {g : JFrame} (hg : g.method = m) (hsize : g.locals.size = c.maxLocals) {argsL rest : List Value} (has : (Value.ref a :: argsL).toArray = as')
    (hlen : ∀ sig, parseMethodDescriptor y.desc = some sig → argsL.length = sig.parameters.length) (hstack : g.stack = argsL.reverse ++ .ref a :: rest) {W : Nat} (hW : 2 * g.monitorRoom + (rest.map fun v => v.category).sum ≤ W) (hd : decode c.code g.pc = .ok (.invokevirtual index, 3))
    (hf : rm.frames + 1 ≤ R.frames) (hl : W + (maxL + 11) + rm.locals ≤ R.locals) (hc : cells + rm.cells ≤ R.cells) (hs : slots + rm.slots ≤ R.slots) :
    ∃ (T' : State) (h' : Heap) (v : Option Value) (L : List Loc), Stand p l e R s m args below meth c T' (locs ++ L) (cells + rm.cells) (slots + rm.slots) ∧ T'.heap = h' ∧ Q v h' L ∧ ∀ t, Steps p.tables e below (T'.setTop { g with pc := g.pc + 3, stack := v.toList ++ rest }) t → Steps p.tables e below (T.setTop g) t := by
  obtain ⟨cq, kq, qa, qb, qc⟩ := isOf hZ eT E
  obtain ⟨v, _, ⟨T', L', k', n'⟩, -, X', ⟨Lc, hQ, l', y', z'⟩, st⟩ := X.virtualBack hx (y := y) (z := z) hown (mvT hZ w1) (mvT hZ w5) nf (mvT hZ w6) (mvT hZ w2) hy (backOf (W := W) M hZ w4 w3 hf hl) qa qc hg hsize (Steps.refl _) (argsL := argsL) hlen hstack hW hd (fun _ _ => ⟨has, eT, hc, hs⟩)
  dsimp only [Pt.U, Pt.locs, Pt.cells, Pt.slots] at X' l' y' z' st hQ
  subst l' y' z'
  exact ⟨T', _, v, Lc, X', rfl, hQ, fun t k => st.trans k⟩
theorem own_cat {v : Value} (q : v.isRef = true) : v.category = 1 := by rcases ref_cases q with rfl | ⟨_, rfl⟩ <;> rfl
theorem own_eqi {a b : Int32} (q : a = b) : (some (Value.int b) : Option Value) = some (Value.int a) := by rw [q]
theorem own_le {n0 : Nat} (X : Old Z n0 h) : n0 ≤ h.size := X.1 ▸ X.2.1
end Own
/-! the same layer for walks that may load String constants -/
def MetW (l : Launch) (Z : State) (y : MethodName) (bytes : ByteArray) (maxL : Nat) (ret : Option FieldType) (rm : Room) (ws : List Jvm.Cond) (as' : Array Value) (h : Heap) (EL : List (String × Nat)) (Q : Option Value → Heap → List Loc → Prop) : Prop :=
  MetFree l y (head1 (Jvm.Cond.code y bytes maxL ret :: ws) rm) (fun a U => a = as' ∧ Z.Warmed39 U.vm ∧ U.heap = h ∧ CHv Z EL U.vm h) (fun _ _ _ _ _ => True) (fun _ U o U' => ∃ v L, o = .returned v ∧ Q v U'.heap L ∧ CHr Z EL U.vm U.heap U'.vm U'.heap ∧ ReturnedEndW U o U' L rm.cells rm.slots)
def WinW (p : Program) (e : Env) (below : List Frame) (s : State) (rm : Room) (Z : State) (EL : List (String × Nat)) (Q : Option Value → Heap → List Loc → Prop) (st : State) : Prop :=
  ∃ s₂ o, Steps p.tables e below st s₂ ∧ s₂.status = .running ∧ Ended s₂ below o ∧ ∃ v L, o = .returned v ∧ Q v s₂.heap L ∧ CHr Z EL s.vm s.heap s₂.vm s₂.heap ∧ ReturnedEndW s o s₂ L rm.cells rm.slots
section OwnW
variable {p : Program} {l : Launch} {e : Env} {R rm : Room} {s : State} {m : MethodId} {args : Array Value} {below : List Frame} {meth : Method} {c : Code} {T : State} {locs : List Loc} {cells slots : Nat} {Z : State} {a0 : Array Value} {h : Heap} {Q : Option Value → Heap → List Loc → Prop} {EL : List (String × Nat)} {vm0 : Vm}
theorem WinW.to {A : State} (T : State) (g : JFrame) (k : ∀ t, Steps p.tables e below (T.setTop g) t → Steps p.tables e below A t) (w : WinW p e below s rm Z EL Q (T.setTop g)) : WinW p e below s rm Z EL Q A := by
  obtain ⟨s₂, o, h1, r⟩ := w
  exact ⟨s₂, o, k _ h1, r⟩
theorem WinW.out (X : Stand p l e R (s.setVm vm0) m args below meth c T locs cells slots) {n : Nat} (hS : s.Since vm0 n) (hn : n ≤ T.heap.size) {A : State} {v : Option Value} (hlk : meth.locks = false) (hv : meth.sig.returnType = none → v = none)
    (hst : ∀ fs, (∀ (f : JFrame) (acts : List Action), f.method = m → f.locked = none → f.entered = [] → (doReturn e (T.setTop f) acts v).1 = T.setFrames fs) → Steps p.tables e below A (T.setFrames fs))
    (hZ : Z.Warmed39 (s.setVm vm0).vm) (hE : EW Z a0 EL) (hC : CHr Z EL s.vm s.heap vm0 T.heap) (hc : cells ≤ rm.cells) (hs : slots ≤ rm.slots) (hq : Q v T.heap locs) : WinW p e below s rm Z EL Q A := by
  obtain ⟨fs, hr, hrun, hended, h1, h2, h3, h4⟩ := X.leaveW hS hn (v := v) hv
  exact ⟨_, _, hst fs hr, hrun, hended, _, _, rfl, hq, (show CHr Z EL s.vm s.heap T.vm T.heap from hC.trans (CHv.at X hZ hE hC.1)), h1, h2, h3, h4.mono hc hs⟩
theorem WinW.retN (X : Stand p l e R (s.setVm vm0) m args below meth c T locs cells slots) {n : Nat} (hS : s.Since vm0 n) (hn : n ≤ T.heap.size) (hx : p.tables.exec = Jvm.exec) (hlk : meth.locks = false) {pc : Nat} {Ls : Array Slot} {z z' : Int32} {t : FieldType} {rest : List Value} (hret : meth.sig.returnType = some t) (ht : t = .boolean ∨ t = .byte ∨ t = .char ∨ t = .short) (hz : nar t z = z')
    (hd : decode c.code pc = .ok (.ireturn, 1)) (hZ : Z.Warmed39 (s.setVm vm0).vm) (hE : EW Z a0 EL) (hC : CHr Z EL s.vm s.heap vm0 T.heap) (hc : cells ≤ rm.cells) (hs : slots ≤ rm.slots) (hq : Q (some (.int z')) T.heap locs) : WinW p e below s rm Z EL Q (T.setTop (mkF m pc Ls (.int z :: rest))) := by
  subst hz
  exact WinW.out X hS hn (v := some (.int (nar t z))) hlk (fun q => by rw [hret] at q; cases q) (fun fs hr => Jvm.RoadKit.retN X hx (t := t) hret ht hd hr) hZ hE hC hc hs hq
theorem WinW.retI (X : Stand p l e R (s.setVm vm0) m args below meth c T locs cells slots) {n : Nat} (hS : s.Since vm0 n) (hn : n ≤ T.heap.size) (hx : p.tables.exec = Jvm.exec) (hlk : meth.locks = false) {pc : Nat} {Ls : Array Slot} {z : Int32} {rest : List Value} (hret : meth.sig.returnType = some .int)
    (hd : decode c.code pc = .ok (.ireturn, 1)) (hZ : Z.Warmed39 (s.setVm vm0).vm) (hE : EW Z a0 EL) (hC : CHr Z EL s.vm s.heap vm0 T.heap) (hc : cells ≤ rm.cells) (hs : slots ≤ rm.slots) (hq : Q (some (.int z)) T.heap locs) : WinW p e below s rm Z EL Q (T.setTop (mkF m pc Ls (.int z :: rest))) :=
  WinW.out X hS hn (v := some (.int z)) hlk (fun q => by rw [hret] at q; cases q) (fun fs hr => retOut X hx hret rfl (Or.inl ⟨rfl, Or.inl rfl, z, rfl⟩) hd hr) hZ hE hC hc hs hq
theorem WinW.retA (X : Stand p l e R (s.setVm vm0) m args below meth c T locs cells slots) {n : Nat} (hS : s.Since vm0 n) (hn : n ≤ T.heap.size) (hx : p.tables.exec = Jvm.exec) (hlk : meth.locks = false) {pc : Nat} {Ls : Array Slot} {w : Value} {t : FieldType} {rest : List Value} (hret : meth.sig.returnType = some t) (ht : t.isReference = true) (hw : w.isRef = true)
    (hd : decode c.code pc = .ok (.areturn, 1)) (hZ : Z.Warmed39 (s.setVm vm0).vm) (hE : EW Z a0 EL) (hC : CHr Z EL s.vm s.heap vm0 T.heap) (hc : cells ≤ rm.cells) (hs : slots ≤ rm.slots) (hq : Q (some w) T.heap locs) : WinW p e below s rm Z EL Q (T.setTop (mkF m pc Ls (w :: rest))) :=
  WinW.out X hS hn (v := some w) hlk (fun q => by rw [hret] at q; cases q) (fun fs hr => retOut X hx hret (by rcases ref_cases hw with rfl | ⟨_, rfl⟩ <;> cases t <;> first | rfl | cases ht) (Or.inr (Or.inr (Or.inr (Or.inr ⟨rfl, ht, hw⟩)))) hd hr) hZ hE hC hc hs hq
theorem WinW.retV (X : Stand p l e R (s.setVm vm0) m args below meth c T locs cells slots) {n : Nat} (hS : s.Since vm0 n) (hn : n ≤ T.heap.size) (hx : p.tables.exec = Jvm.exec) (hlk : meth.locks = false) {pc : Nat} {Ls : Array Slot} (hret : meth.sig.returnType = none)
    (hd : decode c.code pc = .ok (.return_, 1)) (hZ : Z.Warmed39 (s.setVm vm0).vm) (hE : EW Z a0 EL) (hC : CHr Z EL s.vm s.heap vm0 T.heap) (hc : cells ≤ rm.cells) (hs : slots ≤ rm.slots) (hq : Q none T.heap locs) : WinW p e below s rm Z EL Q (T.setTop (mkF m pc Ls [])) :=
  WinW.out X hS hn (v := none) hlk (fun _ => rfl) (fun fs hr => X.returnOut hx hret hd hr) hZ hE hC hc hs hq
theorem MetW.walk {y : MethodName} {bytes : ByteArray} {maxL : Nat} {ret : Option FieldType} {ws : List Jvm.Cond} {as' : Array Value} (hp : plainFor y = true)
    (b : ∀ (p : Program) (e : Env) (s : State) (m : MethodId) (below : List Frame) (meth : Method) (c : Code) (s₁ : State), p.tables.exec = Jvm.exec → Z.Warmed39 (s.setVm s.vm).vm → c.code = bytes → c.maxLocals = maxL → (s.setVm s.vm).vm.findClass y.cls = some m.cls → meth.name = y.name → meth.sig.returnType = ret → meth.locks = false → CHr Z EL s.vm s.heap s.vm h → s.Since s.vm 0 →
      Stand p l e rm (s.setVm s.vm) m as' below meth c s₁ [] 0 0 → s₁.heap = h → WinW p e below s rm Z EL Q (s₁.setTop (entryFrame m as' maxL))) : MetW l Z y bytes maxL ret rm ws as' h EL Q := by
  refine MetFree.of_bodySF hp hisR ?_
  intro p e s m args below meth c s₁ Bd hml0 hP hK
  obtain ⟨rfl, hZ, hh, hV⟩ := hP
  exact b p e s m below meth c s₁ Bd.exec hZ Bd.bytes hml0 (findClass_of_methodNamed Bd.named) (name_of_methodNamed Bd.named Bd.method).1 Bd.returns Bd.notSynchronized (hh ▸ CHr.refl (hh ▸ hV)) ((State.WarmedH.refl s).since 0) (Stand.of_body Bd) (by rw [← hh, Bd.state]; rfl)
theorem W.static (X : Stand p l e R (s.setVm vm0) m args below meth c T locs cells slots) {k0 : Nat} (hS : s.Since vm0 k0) (hk : k0 ≤ h.size) (hx : p.tables.exec = Jvm.exec) (hZ : Z.Warmed39 (s.setVm vm0).vm) {own : String} {index : Nat} {y : MethodName} {bytes : ByteArray} {maxL : Nat} {ret : Option FieldType} {as' : Array Value}
    (hown : (s.setVm vm0).vm.findClass own = some m.cls) (w1 : (Jvm.Cond.methodLink own index y).before a0 Z = true) (w2 : (Jvm.Cond.static y).before a0 Z = true) (w3 : (Jvm.Cond.initialized y.cls).before a0 Z = true) (w4 : (Jvm.Cond.code y bytes maxL ret).before a0 Z = true)
    (hy : y.cls ≠ "java/lang/invoke/MethodHandle" ∧ y.cls ≠ "java/lang/invoke/VarHandle") (M : MetW l Z y bytes maxL ret rm [] as' h EL Q) (hE : EW Z a0 EL) (hC : CHv Z EL vm0 h) (eT : T.heap = h) {g : JFrame} (hg : g.method = m) (hsize : g.locals.size = c.maxLocals) {argsL rest : List Value} (has : argsL.toArray = as')
    (hlen : ∀ sig, parseMethodDescriptor y.desc = some sig → argsL.length = sig.parameters.length) (hstack : g.stack = argsL.reverse ++ rest) {W : Nat} (hW : 2 * g.monitorRoom + (rest.map fun v => v.category).sum ≤ W) (hd : decode c.code g.pc = .ok (.invokestatic index, 3))
    (hf : rm.frames + 1 ≤ R.frames) (hl : W + (maxL + 11) + rm.locals ≤ R.locals) (hc : cells + rm.cells ≤ R.cells) (hs : slots + rm.slots ≤ R.slots) :
    ∃ (T' : State) (h' : Heap) (v : Option Value) (L : List Loc) (k1 : Nat), Stand p l e R (s.setVm T'.vm) m args below meth c T' (locs ++ L) (cells + rm.cells) (slots + rm.slots) ∧ T'.heap = h' ∧ s.Since T'.vm k1 ∧ k1 ≤ h'.size ∧ Z.Warmed39 (s.setVm T'.vm).vm ∧ (s.setVm T'.vm).vm.findClass own = some m.cls ∧ Q v h' L ∧ CHr Z EL vm0 h T'.vm h' ∧
      ∀ t, Steps p.tables e below (T'.setTop { g with pc := g.pc + 3, stack := v.toList ++ rest }) t → Steps p.tables e below (T.setTop g) t := by
  obtain ⟨v, _, ⟨T', L', k', n'⟩, -, X', hS', hgr, ⟨Lc, hQ, l', y', z', hC2⟩, st⟩ := callSS X hx hown (mvT hZ w1) (mvT hZ w2) (mvT hZ w3) (mvT hZ w4) hy (backOfSH (W := W) M hZ w4 w3 hf hl hE hC) hg hsize hlen hstack hW hd (fun _ _ => ⟨has, eT, hc, hs⟩)
  dsimp only [Pt.U, Pt.locs, Pt.cells, Pt.slots] at X' l' y' z' st hQ hS' hgr hC2
  subst l' y' z'
  obtain ⟨X2, hS2, hZ2, hown2⟩ := rebS hS hk X' hS' (by rw [← eT]; exact hgr) hZ hown
  exact ⟨T', _, v, Lc, _, X2, rfl, hS2, Nat.le_refl _, hZ2, hown2, hQ, hC2, fun t k => st.trans k⟩
theorem W.special (X : Stand p l e R (s.setVm vm0) m args below meth c T locs cells slots) {k0 : Nat} (hS : s.Since vm0 k0) (hk : k0 ≤ h.size) (hx : p.tables.exec = Jvm.exec) (hZ : Z.Warmed39 (s.setVm vm0).vm) {own : String} {index : Nat} {y : MethodName} {bytes : ByteArray} {maxL : Nat} {as' : Array Value} (hy1 : y.name = "<init>")
    (hown : (s.setVm vm0).vm.findClass own = some m.cls) (w1 : (Jvm.Cond.methodLink own index y).before a0 Z = true) (w2 : (Jvm.Cond.instanceMethod y).before a0 Z = true) (w3 : (Jvm.Cond.initialized y.cls).before a0 Z = true) (w4 : (Jvm.Cond.code y bytes maxL none).before a0 Z = true)
    (hy : y.cls ≠ "java/lang/invoke/MethodHandle" ∧ y.cls ≠ "java/lang/invoke/VarHandle") (M : MetW l Z y bytes maxL none rm [] as' h EL Q) (hE : EW Z a0 EL) (hC : CHv Z EL vm0 h) (eT : T.heap = h) {g : JFrame} (hg : g.method = m) (hsize : g.locals.size = c.maxLocals) {a : Addr} {argsL rest : List Value} (has : (Value.ref a :: argsL).toArray = as')
    (hlen : ∀ sig, parseMethodDescriptor y.desc = some sig → argsL.length = sig.parameters.length) (hstack : g.stack = argsL.reverse ++ .ref a :: rest) {W : Nat} (hW : 2 * g.monitorRoom + (rest.map fun v => v.category).sum ≤ W) (hd : decode c.code g.pc = .ok (.invokespecial index, 3))
    (hf : rm.frames + 1 ≤ R.frames) (hl : W + (maxL + 11) + rm.locals ≤ R.locals) (hc : cells + rm.cells ≤ R.cells) (hs : slots + rm.slots ≤ R.slots) :
    ∃ (T' : State) (h' : Heap) (v : Option Value) (L : List Loc) (k1 : Nat), Stand p l e R (s.setVm T'.vm) m args below meth c T' (locs ++ L) (cells + rm.cells) (slots + rm.slots) ∧ T'.heap = h' ∧ s.Since T'.vm k1 ∧ k1 ≤ h'.size ∧ Z.Warmed39 (s.setVm T'.vm).vm ∧ (s.setVm T'.vm).vm.findClass own = some m.cls ∧ Q v h' L ∧ CHr Z EL vm0 h T'.vm h' ∧
      ∀ t, Steps p.tables e below (T'.setTop { g with pc := g.pc + 3, stack := v.toList ++ rest }) t → Steps p.tables e below (T.setTop g) t := by
  obtain ⟨v, _, ⟨T', L', k', n'⟩, -, X', hS', hgr, ⟨Lc, hQ, l', y', z', hC2⟩, st⟩ := X.specialBackS hx hy1 hown (mvT hZ w1) (mvT hZ w2) (mvT hZ w4) hy (backOfSH (W := W) M hZ w4 w3 hf hl hE hC) hg hsize (Steps.refl _) (a := a) hlen hstack hW hd (fun _ _ => ⟨has, eT, hc, hs⟩)
  dsimp only [Pt.U, Pt.locs, Pt.cells, Pt.slots] at X' l' y' z' st hQ hS' hgr hC2
  subst l' y' z'
  obtain ⟨X2, hS2, hZ2, hown2⟩ := rebS hS hk X' hS' (by rw [← eT]; exact hgr) hZ hown
  exact ⟨T', _, v, Lc, _, X2, rfl, hS2, Nat.le_refl _, hZ2, hown2, hQ, hC2, fun t k => st.trans k⟩
theorem W.virtual (X : Stand p l e R (s.setVm vm0) m args below meth c T locs cells slots) {k0 : Nat} (hS : s.Since vm0 k0) (hk : k0 ≤ h.size) (hx : p.tables.exec = Jvm.exec) (hZ : Z.Warmed39 (s.setVm vm0).vm) {own C : String} {index : Nat} {y z : MethodName} {bytes : ByteArray} {maxL : Nat} {ret : Option FieldType} {as' : Array Value}
    (hown : (s.setVm vm0).vm.findClass own = some m.cls) (w1 : (Jvm.Cond.methodLink own index y).before a0 Z = true) (w5 : (Jvm.Cond.declares y).before a0 Z = true) (nf : NotFace (s.setVm vm0) y) (w6 : (Jvm.Cond.selects C y z).before a0 Z = true) (w2 : (Jvm.Cond.instanceMethod z).before a0 Z = true) (w3 : (Jvm.Cond.initialized z.cls).before a0 Z = true) (w4 : (Jvm.Cond.code z bytes maxL ret).before a0 Z = true)
    (hy : y.cls ≠ "java/lang/invoke/MethodHandle" ∧ y.cls ≠ "java/lang/invoke/VarHandle") (M : MetW l Z z bytes maxL ret rm [] as' h EL Q) (hE : EW Z a0 EL) (hC : CHv Z EL vm0 h) (eT : T.heap = h) {a : Addr} (E : Exa Z h a C) {g : JFrame} (hg : g.method = m) (hsize : g.locals.size = c.maxLocals) {argsL rest : List Value} (has : (Value.ref a :: argsL).toArray = as')
    (hlen : ∀ sig, parseMethodDescriptor y.desc = some sig → argsL.length = sig.parameters.length) (hstack : g.stack = argsL.reverse ++ .ref a :: rest) {W : Nat} (hW : 2 * g.monitorRoom + (rest.map fun v => v.category).sum ≤ W) (hd : decode c.code g.pc = .ok (.invokevirtual index, 3))
    (hf : rm.frames + 1 ≤ R.frames) (hl : W + (maxL + 11) + rm.locals ≤ R.locals) (hc : cells + rm.cells ≤ R.cells) (hs : slots + rm.slots ≤ R.slots) :
    ∃ (T' : State) (h' : Heap) (v : Option Value) (L : List Loc) (k1 : Nat), Stand p l e R (s.setVm T'.vm) m args below meth c T' (locs ++ L) (cells + rm.cells) (slots + rm.slots) ∧ T'.heap = h' ∧ s.Since T'.vm k1 ∧ k1 ≤ h'.size ∧ Z.Warmed39 (s.setVm T'.vm).vm ∧ (s.setVm T'.vm).vm.findClass own = some m.cls ∧ Q v h' L ∧ CHr Z EL vm0 h T'.vm h' ∧
      ∀ t, Steps p.tables e below (T'.setTop { g with pc := g.pc + 3, stack := v.toList ++ rest }) t → Steps p.tables e below (T.setTop g) t := by
  obtain ⟨cq, kq, qa, qb, qc⟩ := isOf hZ eT E
  obtain ⟨v, _, ⟨T', L', k', n'⟩, -, X', hS', hgr, ⟨Lc, hQ, l', y', z', hC2⟩, st⟩ := X.virtualBackS hx (y := y) (z := z) hown (mvT hZ w1) (mvT hZ w5) nf (mvT hZ w6) (mvT hZ w2) hy (backOfSH (W := W) M hZ w4 w3 hf hl hE hC) qa qc hg hsize (Steps.refl _) (argsL := argsL) hlen hstack hW hd (fun _ _ => ⟨has, eT, hc, hs⟩)
  dsimp only [Pt.U, Pt.locs, Pt.cells, Pt.slots] at X' l' y' z' st hQ hS' hgr hC2
  subst l' y' z'
  obtain ⟨X2, hS2, hZ2, hown2⟩ := rebS hS hk X' hS' (by rw [← eT]; exact hgr) hZ hown
  exact ⟨T', _, v, Lc, _, X2, rfl, hS2, Nat.le_refl _, hZ2, hown2, hQ, hC2, fun t k => st.trans k⟩
theorem own_safe {x : Addr} {n : Nat} {vm : Vm} (hal : Z.vm.Alike vm) (E : Exa Z h x "java/lang/String") (F : Fld Z h x "java/lang/String" "value" "[B" .null) (wi : (Jvm.Cond.instantiable "java/lang/String" n).before a0 Z = true) : Safe Z EL vm h x := fun B => by
  obtain ⟨cell, cf, k, i, f, f1, f2, f3, f4, f5, f6, f7⟩ := F
  obtain ⟨p, -, u, a, -, q, -, ⟨cS, ⟨⟨s1, s2, s3, ⟨cv, kv, iv, s4, s4'⟩, -, s6, s7, s8, s9, s10, s11, s12, s13, s14, s15, s16⟩, hfS, hcS⟩, -, hB, -⟩, hy⟩ := B
  rcases hy with rfl | rfl
  · obtain ⟨kv', z4⟩ := ff_back (U := Wst Z vm h) hal s4
    cases f1.symm.trans s1
    cases f2.symm.trans z4
    cases f7.symm.trans s8
  · have A : Arr Z h q.sd q.SA .byte := by
      have hB : vm.findClass "[B" = some q.SA.cls := hB
      have hBZ : Z.vm.findClass "[B" = some q.SA.cls := by rw [← hal.findClass]; exact hB
      obtain ⟨kb, hkb, -⟩ := Vm.findClass_spec hBZ
      obtain ⟨kb', hkb', ekb⟩ := hal.2.2 _ _ hkb
      obtain ⟨hst, k9, hk9, comp, hkind9⟩ := s11
      have hk9 : vm.classes[q.SA.cls]? = some k9 := hk9
      have ek9 : k9 = kb' := Option.some.inj (hk9.symm.trans hkb')
      exact ⟨s10, ⟨hst, kb, hkb, comp, by rw [ek9, ekb] at hkind9; exact hkind9⟩, s12⟩
    exact ne_arr E wi A rfl
end OwnW
/-! arrays of ints as functions -/
def upd (f : Nat → Int32) (i : Nat) (v : Int32) : Nat → Int32 := fun x => if x = i then v else f x
def ArF (Z : State) (h : Heap) (a : Addr) (k : ClassId) (ty : FieldType) (n : Nat) (f : Nat → Int32) : Prop := ∃ c : Cell, Arr Z h a c ty ∧ c.cls = k ∧ c.slots.size = n ∧ n < 2 ^ 31 ∧ (∀ i, i < n → c.slots[i]? = some (.int (f i))) ∧ ∀ i, i < n → fits ty (.int (f i)) = true
section OwnS
variable {Z : State} {h h' : Heap} {a b : Addr} {k : ClassId} {ty : FieldType} {n : Nat} {f : Nat → Int32} {sl : Nat} {v : Value} {ws : List Addr}
theorem ArF.lt (F : ArF Z h a k ty n f) : a < h.size := by obtain ⟨c, A, -⟩ := F; exact A.lt
theorem ArF.ext (F : ArF Z h a k ty n f) (E : Ext h h') : ArF Z h' a k ty n f := by obtain ⟨c, A, r⟩ := F; exact ⟨c, A.ext E, r⟩
theorem ArF.other (F : ArF Z h b k ty n f) (W : Wr h h' a sl v) (q : b ≠ a) : ArF Z h' b k ty n f := by obtain ⟨c, A, r⟩ := F; exact ⟨c, A.other W q, r⟩
theorem ArF.keep (F : ArF Z h a k ty n f) (K : Keep h h' ws) (q : a ∉ ws) : ArF Z h' a k ty n f := by obtain ⟨c, A, r⟩ := F; exact ⟨c, ⟨K.2.1 a c A.1 q, A.2⟩, r⟩
theorem ArF.big (F : ArF Z h a k ty n f) : n < 2 ^ 31 := by obtain ⟨c, -, -, -, q, -, -⟩ := F; exact q
theorem ArF.cong (F : ArF Z h a k ty n f) {g : Nat → Int32} (q : ∀ i, i < n → f i = g i) : ArF Z h a k ty n g := by
  obtain ⟨c, A, r1, r2, r3, r4, r5⟩ := F
  exact ⟨c, A, r1, r2, r3, fun i hi => by rw [← q i hi]; exact r4 i hi, fun i hi => by rw [← q i hi]; exact r5 i hi⟩
theorem ArF.at (F : ArF Z h a k ty n f) {j : Int32} {i : Nat} (hj : j.toNatClampNeg = i) (h0 : ¬ j < 0) (hi : i < n) : ∃ cl : Cell, Arr Z h a cl ty ∧ ¬ (j < 0 ∨ cl.slots.size ≤ j.toNatClampNeg) ∧ cl.slots[j.toNatClampNeg]? = some (.int (f i)) := by
  obtain ⟨c, A, -, r2, -, r4, -⟩ := F
  refine ⟨c, A, ?_, ?_⟩
  · rintro (q | q)
    · exact h0 q
    · omega
  · rw [hj]; exact r4 i hi
theorem ArF.len (F : ArF Z h a k ty n f) : ∃ cl : Cell, Arr Z h a cl ty ∧ cl.slots.size.toInt32 = n.toInt32 := by
  obtain ⟨c, A, -, r2, -, -, -⟩ := F
  exact ⟨c, A, by rw [r2]⟩
theorem ArF.set {i : Nat} {x : Int32} (F : ArF Z h a k ty n f) (W : Wr h h' a sl (.int x)) (hs : sl = i) (hi : i < n) (hf : fits ty (.int x) = true) : ArF Z h' a k ty n (upd f i x) := by
  subst hs
  obtain ⟨c, A, r1, r2, r3, r4, r5⟩ := F
  obtain ⟨c', e1, e2, e3, e4, -, e6, e7⟩ := wr_at W A.1
  have A' := A.same W
  obtain ⟨q1, q2, -⟩ := e7 rfl
  subst q1
  refine ⟨_, A', by rw [e2]; exact r1, by rw [e4]; exact r2, r3, fun j hj => ?_, fun j hj => ?_⟩
  · by_cases q : j = sl
    · subst q; simp only [upd, if_pos]; exact q2
    · rw [e6 j q]; simp only [upd, if_neg q]; exact r4 j hj
  · by_cases q : j = sl
    · subst q; simp only [upd, if_pos]; exact hf
    · simp only [upd, if_neg q]; exact r5 j hj
theorem ArF.new {z : Int32} (A : Arr Z h a (newA k ty z) ty) (q : ¬ z < 0) (hd : defaultValue ty = .int 0) : ArF Z h a k ty z.toNatClampNeg (fun _ => 0) :=
  ⟨_, A, rfl, sz_new _ _ _, (back32 q).2, fun i hi => by simp [newA, hi, hd], fun i hi => by cases ty <;> simp [defaultValue] at hd <;> rfl⟩
theorem own_arfL {z : Int32} {vs : List Value} {dv : Value} (F : Arv Z h a k ty z vs dv) (hn : z.toNatClampNeg = n) (hv : ∀ i, i < n → vs.getD i dv = .int (f i)) : ArF Z h a k ty n f := by
  obtain ⟨c, A, r1, r2, r3, H, G⟩ := F
  refine ⟨c, A, r1, by rw [r2, hn], hn ▸ (back32 r3).2, fun i hi => ?_, fun i hi => ?_⟩
  · rw [H i (by rw [r2, hn]; exact hi), hv i hi]
  · rw [← hv i hi]; exact G i (by rw [r2, hn]; exact hi)
theorem own_arf {z : Int32} {d : Int32} (cs : List Int32) (F : Arv Z h a k ty z (cs.map Value.int) (.int d)) (hn : z.toNatClampNeg = n) : ArF Z h a k ty n (fun i => cs.getD i d) :=
  own_arfL F hn fun i _ => by
    simp only [List.getD_eq_getElem?_getD, List.getElem?_map]
    cases cs[i]? <;> rfl
theorem own_arv (F : ArF Z h a k ty n f) : Arv Z h a k ty n.toInt32 ((List.range n).map fun i => Value.int (f i)) (.int 0) := by
  obtain ⟨c, A, r1, r2, r3, r4, r5⟩ := F
  have q := len_toInt r3
  have e : n.toInt32.toNatClampNeg = n := by show n.toInt32.toInt.toNat = n; rw [q]; rfl
  have g : ∀ i, i < n → ((List.range n).map fun i => Value.int (f i)).getD i (.int 0) = .int (f i) := fun i hi => by simp [hi]
  refine ⟨c, A, r1, by rw [r2, e], ?_, fun i hi => ?_, fun i hi => ?_⟩
  · rw [Int32.lt_iff_toInt_lt, q]
    have : (0 : Int32).toInt = 0 := rfl
    omega
  · rw [g i (by omega)]; exact r4 i (by omega)
  · rw [g i (by omega)]; exact r5 i (by omega)
theorem own_neF {C : String} {m : Nat} {a0 : Array Value} (E : Exa Z h a C) (F : ArF Z h b k ty n f) (w : (Jvm.Cond.instantiable C m).before a0 Z = true) : a ≠ b := by
  obtain ⟨c, A, -⟩ := F
  exact ne_arr E w A
theorem own_tn {j : Nat} (hj : j < 2 ^ 31) : j.toInt32.toNatClampNeg = j ∧ ¬ j.toInt32 < 0 ∧ j.toInt32.toInt = j := by
  have q := len_toInt hj
  refine ⟨?_, ?_, q⟩
  · show j.toInt32.toInt.toNat = j
    rw [q]; rfl
  · rw [Int32.lt_iff_toInt_lt, q]
    have : (0 : Int32).toInt = 0 := rfl
    omega
theorem own_lt {j n : Nat} (hj : j < 2 ^ 31) (hn : n < 2 ^ 31) : j.toInt32 < n.toInt32 ↔ j < n := by
  rw [Int32.lt_iff_toInt_lt, len_toInt hj, len_toInt hn]; omega
theorem own_succ (j : Nat) : j.toInt32 + (1 : Int32) = (j + 1).toInt32 := (Int32.ofNat_add j 1).symm
end OwnS
def EL1 : List (String × Nat) := [("java/lang/String", 7), ("java/lang/StringLatin1", 151)]
theorem own_wS {Z : State} {a0 : Array Value} (hw : ∀ d ∈ tables_1, d.before a0 Z = true) : ∀ a ∈ Bundle.stringAtoms, a.before a0 Z = true := by
  intro a ha
  simp only [Bundle.stringAtoms, List.mem_cons, List.not_mem_nil, or_false] at ha
  rcases ha with rfl | rfl | rfl | rfl | rfl | rfl | rfl
  · exact (wk hw 8 rfl)
  · exact (wk hw 7 rfl)
  · exact (wk hw 20 rfl)
  · exact (wk hw 21 rfl)
  · exact (wk hw 22 rfl)
  · exact (wk hw 23 rfl)
  · exact (wk hw 24 rfl)
theorem own_EW {Z : State} {a0 : Array Value} (hw : ∀ d ∈ tables_1, d.before a0 Z = true) : EW Z a0 EL1 := (EW.cons (wk hw 19 rfl) (by decide) (EW.cons (wk hw 144 rfl) (by decide) EW.nil))
theorem own_b8 (x : Int32) : nar .byte x.toInt8.toInt32 = x.toInt8.toInt32 := by
  show x.toInt8.toInt32.toInt8.toInt32 = x.toInt8.toInt32
  rw [Int8.toInt8_toInt32]
theorem own_nz {n : Nat} (hn : n < 2 ^ 31) (hp : 0 < n) : ¬ (n.toInt32 = (0 : Int32)) := fun q => by
  have e := congrArg Int32.toInt q
  rw [len_toInt hn] at e
  have : (0 : Int32).toInt = 0 := rfl
  omega
theorem own_zero {n : Nat} (hn : n < 2 ^ 31) (q : n.toInt32 = (0 : Int32)) : n = 0 := by
  have e := congrArg Int32.toInt q
  rw [len_toInt hn] at e
  have : (0 : Int32).toInt = 0 := rfl
  omega
theorem own_inj {n m : Nat} (hn : n < 2 ^ 31) (hm : m < 2 ^ 31) (q : n.toInt32 = m.toInt32) : n = m := by
  have e := congrArg Int32.toInt q
  rw [len_toInt hn, len_toInt hm] at e
  omega
theorem own_same {Z : State} {h : Heap} {a1 a2 t1 t2 : Addr} {k1 k2 : ClassId} {ty : FieldType} {n1 n2 : Nat} {f1 f2 : Nat → Int32} {C n d : String} (q : a1 = a2) (F : Fld Z h a1 C n d (.ref t1)) (G : Fld Z h a2 C n d (.ref t2)) (A : ArF Z h t1 k1 ty n1 f1) (B : ArF Z h t2 k2 ty n2 f2) : n1 = n2 ∧ ∀ i, i < n1 → f1 i = f2 i := by
  subst q
  obtain ⟨c1, cf, kk, j, fd, g1, g2, -, -, -, -, g7⟩ := F
  obtain ⟨c2, cf', kk', j', fd', e1, e2, -, -, -, -, e7⟩ := G
  cases g1.symm.trans e1
  cases g2.symm.trans e2
  cases g7.symm.trans e7
  obtain ⟨c3, A1, -, r2, -, r4, -⟩ := A
  obtain ⟨c4, B1, -, s2, -, s4, -⟩ := B
  cases A1.1.symm.trans B1.1
  have hn : n1 = n2 := r2.symm.trans s2
  exact ⟨hn, fun i hi => Value.int.inj (Option.some.inj ((r4 i hi).symm.trans (s4 i (hn ▸ hi))))⟩
theorem own_shr0 (x : Int32) : (x >>> ((0 : Int32) &&& 31)) = x := by
  rw [show ((0 : Int32) &&& 31) = 0 from rfl]
  exact Int32.shiftRight_zero
theorem own_sub {b e : Nat} (hb : b < 2 ^ 31) (he : e < 2 ^ 31) (q : b ≤ e) : e.toInt32 - b.toInt32 = (e - b).toInt32 := by
  apply Int32.toInt_inj.mp
  have a := c_isub e.toInt32 b.toInt32
  have r := rng32 (e.toInt32 - b.toInt32)
  rw [len_toInt hb, len_toInt he] at a
  rw [len_toInt (show e - b < 2 ^ 31 by omega)]
  omega
theorem own_add {b m : Nat} (q : b + m < 2 ^ 31) : b.toInt32 + m.toInt32 = (b + m).toInt32 := (Int32.ofNat_add b m).symm
theorem own_min {a m : Nat} (ha : a < 2 ^ 31) (hm : m < 2 ^ 31) (q : m ≤ a) (h : ¬ m.toInt32 < a.toInt32) : m.toInt32 = a.toInt32 := by
  rw [show m = a from Nat.le_antisymm q (Nat.le_of_not_lt fun z => h ((own_lt hm ha).mpr z))]
theorem own_cp {b m n i : Nat} {f : Nat → Int32} (hi : i < m) (hb : b + m ≤ n) :
    ((((List.range m).map fun i => Value.int ((fun _ => (0 : Int32)) i)).take (0 : Int32).toNatClampNeg) ++ ((List.range m).map fun i => ((List.range n).map fun i => Value.int (f i)).getD (b + i) (.int 0)) ++ (((List.range m).map fun i => Value.int ((fun _ => (0 : Int32)) i)).drop ((0 : Int32).toNatClampNeg + m))).getD i (.int 0) = .int (f (b + i)) := by
  have z : (0 : Int32).toNatClampNeg = 0 := rfl
  rw [z, List.take_zero, List.nil_append, List.getD_eq_getElem?_getD, List.getElem?_append_left (by simpa using hi)]
  simp [hi, show b + i < n by omega]
theorem own_pre {j : Nat} (hj : j < 2 ^ 31) (hp : 0 < j) : (j.toInt32 - (1 : Int32)).toNatClampNeg = j - 1 ∧ ¬ (j.toInt32 - (1 : Int32)) < (0 : Int32) ∧ True := by
  have a := own_sub (b := 1) (by omega) hj hp
  have b : ((1 : Nat).toInt32) = (1 : Int32) := rfl
  rw [b] at a
  rw [a]
  have c := own_tn (j := j - 1) (by omega)
  exact ⟨c.1, c.2.1, trivial⟩
theorem own_dec (i : Nat) : ((i + 1).toInt32 - (1 : Int32)) + (-1 : Int32) = i.toInt32 - (1 : Int32) := by
  rw [← own_succ i, Int32.add_sub_cancel, Int32.sub_eq_add_neg]
theorem own_255 (x : Int32) : ¬ (255 : Int32) < (x &&& (255 : Int32)) := by
  have h := (c_and x (255 : Int32) (by decide)).2
  rw [Int32.lt_iff_toInt_lt]
  omega
theorem own_rng {q : Int32} (h : ¬ (255 : Int32) < q) (hc : nar .char q = q) : 0 ≤ q.toInt ∧ q.toInt ≤ 255 := by
  have b := c_i2c q
  have e : q.toUInt32.toUInt16.toUInt32.toInt32 = q := hc
  rw [e] at b
  rw [Int32.lt_iff_toInt_lt] at h
  have e1 : (255 : Int32).toInt = 255 := by decide
  omega
theorem own_sp2 {q : Int32} (h : ¬ (255 : Int32) < q) (hc : nar .char q = q) (hn : ¬ q = (32 : Int32)) : ¬ q.toInt8.toInt32 = (32 : Int32) := fun z => hn (by
  have a := own_rng h hc
  have b := c_i2b q
  rw [z] at b
  have e2 : (32 : Int32).toInt = 32 := by decide
  apply Int32.toInt_inj.mp
  omega)
theorem own_b255 {q : Int32} (h : ¬ (255 : Int32) < q) (hc : nar .char q = q) : (q.toInt8.toInt32 &&& (255 : Int32)) = q := by
  have a := own_rng h hc
  have b := c_i2b q
  have m : (q.toInt8.toInt32 &&& (255 : Int32)).toInt = q.toInt8.toInt32.toInt % (2 ^ 8 : Nat) := c_mask q.toInt8.toInt32 (255 : Int32) 8 (by decide) (by decide)
  have e : ((2 ^ 8 : Nat) : Int) = 256 := by decide
  apply Int32.toInt_inj.mp
  rw [m, e]
  omega
theorem own_rem (x : Int32) : (x &&& (2147483647 : Int32)) % (5 : Int32) = (0 : Int32) ∨ (x &&& (2147483647 : Int32)) % (5 : Int32) = (1 : Int32) ∨ (x &&& (2147483647 : Int32)) % (5 : Int32) = (2 : Int32) ∨ (x &&& (2147483647 : Int32)) % (5 : Int32) = (3 : Int32) ∨ (x &&& (2147483647 : Int32)) % (5 : Int32) = (4 : Int32) := by
  have h0 := (c_and x (2147483647 : Int32) (by decide)).1
  have h1 := (c_irem (x &&& (2147483647 : Int32)) (5 : Int32) 5 (by decide)).1 h0
  have h2 : ((x &&& (2147483647 : Int32)) % (5 : Int32)).toInt = 0 ∨ ((x &&& (2147483647 : Int32)) % (5 : Int32)).toInt = 1 ∨ ((x &&& (2147483647 : Int32)) % (5 : Int32)).toInt = 2 ∨ ((x &&& (2147483647 : Int32)) % (5 : Int32)).toInt = 3 ∨ ((x &&& (2147483647 : Int32)) % (5 : Int32)).toInt = 4 := by omega
  rcases h2 with h | h | h | h | h
  · exact Or.inl (Int32.toInt_inj.mp (h.trans (by decide)))
  · exact Or.inr (Or.inl (Int32.toInt_inj.mp (h.trans (by decide))))
  · exact Or.inr (Or.inr (Or.inl (Int32.toInt_inj.mp (h.trans (by decide)))))
  · exact Or.inr (Or.inr (Or.inr (Or.inl (Int32.toInt_inj.mp (h.trans (by decide))))))
  · exact Or.inr (Or.inr (Or.inr (Or.inr (Int32.toInt_inj.mp (h.trans (by decide))))))
theorem pn_25 : plainName "java/lang/StringUTF16" = true := by first | (simp [plainName, overriddenIn]; done) | decide +kernel
theorem d25_0 : decode jdk_52_method_21_code 0 = .ok (.iconst 0, 1) := by decide +kernel
theorem d25_1 : decode jdk_52_method_21_code 1 = .ok (.istore 5, 2) := by decide +kernel
theorem d25_3 : decode jdk_52_method_21_code 3 = .ok (.iload 5, 2) := by decide +kernel
theorem d25_5 : decode jdk_52_method_21_code 5 = .ok (.iload 4, 2) := by decide +kernel
theorem d25_7 : decode jdk_52_method_21_code 7 = .ok (.if_icmp .ge 37, 3) := by decide +kernel
theorem d25_44 : decode jdk_52_method_21_code 44 = .ok (.iload 4, 2) := by decide +kernel
theorem d25_46 : decode jdk_52_method_21_code 46 = .ok (.ireturn, 1) := by decide +kernel
theorem d25_10 : decode jdk_52_method_21_code 10 = .ok (.aload_n 0, 1) := by decide +kernel
theorem d25_11 : decode jdk_52_method_21_code 11 = .ok (.iload_n 1, 1) := by decide +kernel
theorem d25_12 : decode jdk_52_method_21_code 12 = .ok (.caload, 1) := by decide +kernel
theorem d25_13 : decode jdk_52_method_21_code 13 = .ok (.istore 6, 2) := by decide +kernel
theorem d25_15 : decode jdk_52_method_21_code 15 = .ok (.iload 6, 2) := by decide +kernel
theorem d25_17 : decode jdk_52_method_21_code 17 = .ok (.sipush 255, 3) := by decide +kernel
theorem d25_20 : decode jdk_52_method_21_code 20 = .ok (.if_icmp .le 6, 3) := by decide +kernel
theorem d25_23 : decode jdk_52_method_21_code 23 = .ok (.iload 5, 2) := by decide +kernel
theorem d25_25 : decode jdk_52_method_21_code 25 = .ok (.ireturn, 1) := by decide +kernel
theorem d25_26 : decode jdk_52_method_21_code 26 = .ok (.aload_n 2, 1) := by decide +kernel
theorem d25_27 : decode jdk_52_method_21_code 27 = .ok (.iload_n 3, 1) := by decide +kernel
theorem d25_28 : decode jdk_52_method_21_code 28 = .ok (.iload 6, 2) := by decide +kernel
theorem d25_30 : decode jdk_52_method_21_code 30 = .ok (.i2b, 1) := by decide +kernel
theorem d25_31 : decode jdk_52_method_21_code 31 = .ok (.bastore, 1) := by decide +kernel
theorem d25_32 : decode jdk_52_method_21_code 32 = .ok (.iinc 1 1, 3) := by decide +kernel
theorem d25_35 : decode jdk_52_method_21_code 35 = .ok (.iinc 3 1, 3) := by decide +kernel
theorem d25_38 : decode jdk_52_method_21_code 38 = .ok (.iinc 5 1, 3) := by decide +kernel
theorem d25_41 : decode jdk_52_method_21_code 41 = .ok (.goto (-38), 3) := by decide +kernel
theorem pn_24 : plainName "java/lang/StringUTF16" = true := by first | (simp [plainName, overriddenIn]; done) | decide +kernel
theorem d24_0 : decode jdk_52_method_16_code 0 = .ok (.iload_n 2, 1) := by decide +kernel
theorem d24_1 : decode jdk_52_method_16_code 1 = .ok (.newarray .byte, 2) := by decide +kernel
theorem d24_3 : decode jdk_52_method_16_code 3 = .ok (.astore_n 3, 1) := by decide +kernel
theorem d24_4 : decode jdk_52_method_16_code 4 = .ok (.aload_n 0, 1) := by decide +kernel
theorem d24_5 : decode jdk_52_method_16_code 5 = .ok (.iload_n 1, 1) := by decide +kernel
theorem d24_6 : decode jdk_52_method_16_code 6 = .ok (.aload_n 3, 1) := by decide +kernel
theorem d24_7 : decode jdk_52_method_16_code 7 = .ok (.iconst 0, 1) := by decide +kernel
theorem d24_8 : decode jdk_52_method_16_code 8 = .ok (.iload_n 2, 1) := by decide +kernel
theorem d24_9 : decode jdk_52_method_16_code 9 = .ok (.invokestatic 115, 3) := by decide +kernel
theorem pd___CI_BII_I : parseMethodDescriptor "([CI[BII)I" = some ⟨[(.array .char), .int, (.array .byte), .int, .int], some .int⟩ := by decide +kernel
theorem d24_12 : decode jdk_52_method_16_code 12 = .ok (.istore 4, 2) := by decide +kernel
theorem d24_14 : decode jdk_52_method_16_code 14 = .ok (.iload 4, 2) := by decide +kernel
theorem d24_16 : decode jdk_52_method_16_code 16 = .ok (.iload_n 2, 1) := by decide +kernel
theorem d24_17 : decode jdk_52_method_16_code 17 = .ok (.if_icmp .eq 40, 3) := by decide +kernel
theorem d24_57 : decode jdk_52_method_16_code 57 = .ok (.aload_n 3, 1) := by decide +kernel
theorem d24_58 : decode jdk_52_method_16_code 58 = .ok (.areturn, 1) := by decide +kernel
theorem pn_26 : plainName "java/lang/StringUTF16" = true := by first | (simp [plainName, overriddenIn]; done) | decide +kernel
theorem d26_0 : decode jdk_52_method_15_code 0 = .ok (.iload_n 1, 1) := by decide +kernel
theorem d26_1 : decode jdk_52_method_15_code 1 = .ok (.aload_n 0, 1) := by decide +kernel
theorem d26_2 : decode jdk_52_method_15_code 2 = .ok (.arraylength, 1) := by decide +kernel
theorem d26_3 : decode jdk_52_method_15_code 3 = .ok (.isub, 1) := by decide +kernel
theorem d26_4 : decode jdk_52_method_15_code 4 = .ok (.bipush 31, 2) := by decide +kernel
theorem d26_6 : decode jdk_52_method_15_code 6 = .ok (.iushr, 1) := by decide +kernel
theorem d26_7 : decode jdk_52_method_15_code 7 = .ok (.i2b, 1) := by decide +kernel
theorem d26_8 : decode jdk_52_method_15_code 8 = .ok (.ireturn, 1) := by decide +kernel
theorem pn_3 : plainName "java/lang/String" = true := by first | (simp [plainName, overriddenIn]; done) | decide +kernel
theorem d3_0 : decode jdk_42_method_149_code 0 = .ok (.aload_n 0, 1) := by decide +kernel
theorem d3_1 : decode jdk_42_method_149_code 1 = .ok (.invokespecial 1, 3) := by decide +kernel
theorem d3_4 : decode jdk_42_method_149_code 4 = .ok (.iload_n 3, 1) := by decide +kernel
theorem d3_5 : decode jdk_42_method_149_code 5 = .ok (.ifCond .ne 22, 3) := by decide +kernel
theorem d3_8 : decode jdk_42_method_149_code 8 = .ok (.aload_n 0, 1) := by decide +kernel
theorem d3_9 : decode jdk_42_method_149_code 9 = .ok (.ldc 7, 2) := by decide +kernel
theorem d3_11 : decode jdk_42_method_149_code 11 = .ok (.getfield 9, 3) := by decide +kernel
theorem d3_14 : decode jdk_42_method_149_code 14 = .ok (.putfield 9, 3) := by decide +kernel
theorem d3_17 : decode jdk_42_method_149_code 17 = .ok (.aload_n 0, 1) := by decide +kernel
theorem d3_18 : decode jdk_42_method_149_code 18 = .ok (.ldc 7, 2) := by decide +kernel
theorem d3_20 : decode jdk_42_method_149_code 20 = .ok (.getfield 15, 3) := by decide +kernel
theorem d3_23 : decode jdk_42_method_149_code 23 = .ok (.putfield 15, 3) := by decide +kernel
theorem d3_26 : decode jdk_42_method_149_code 26 = .ok (.return_, 1) := by decide +kernel
theorem d3_27 : decode jdk_42_method_149_code 27 = .ok (.getstatic 38, 3) := by decide +kernel
theorem d3_30 : decode jdk_42_method_149_code 30 = .ok (.ifCond .eq 28, 3) := by decide +kernel
theorem d3_33 : decode jdk_42_method_149_code 33 = .ok (.aload_n 1, 1) := by decide +kernel
theorem d3_34 : decode jdk_42_method_149_code 34 = .ok (.iload_n 2, 1) := by decide +kernel
theorem d3_35 : decode jdk_42_method_149_code 35 = .ok (.iload_n 3, 1) := by decide +kernel
theorem d3_36 : decode jdk_42_method_149_code 36 = .ok (.invokestatic 177, 3) := by decide +kernel
theorem pd___CII__B : parseMethodDescriptor "([CII)[B" = some ⟨[(.array .char), .int, .int], some (.array .byte)⟩ := by decide +kernel
theorem d3_39 : decode jdk_42_method_149_code 39 = .ok (.astore 5, 2) := by decide +kernel
theorem d3_41 : decode jdk_42_method_149_code 41 = .ok (.aload_n 0, 1) := by decide +kernel
theorem d3_42 : decode jdk_42_method_149_code 42 = .ok (.aload 5, 2) := by decide +kernel
theorem d3_44 : decode jdk_42_method_149_code 44 = .ok (.iload_n 3, 1) := by decide +kernel
theorem d3_45 : decode jdk_42_method_149_code 45 = .ok (.invokestatic 47, 3) := by decide +kernel
theorem pd___BI_B : parseMethodDescriptor "([BI)B" = some ⟨[(.array .byte), .int], some .byte⟩ := by decide +kernel
theorem d3_48 : decode jdk_42_method_149_code 48 = .ok (.putfield 15, 3) := by decide +kernel
theorem d3_51 : decode jdk_42_method_149_code 51 = .ok (.aload_n 0, 1) := by decide +kernel
theorem d3_52 : decode jdk_42_method_149_code 52 = .ok (.aload 5, 2) := by decide +kernel
theorem d3_54 : decode jdk_42_method_149_code 54 = .ok (.putfield 9, 3) := by decide +kernel
theorem d3_57 : decode jdk_42_method_149_code 57 = .ok (.return_, 1) := by decide +kernel
theorem pn_2 : plainName "java/lang/String" = true := by first | (simp [plainName, overriddenIn]; done) | decide +kernel
theorem d2_0 : decode jdk_42_method_3_code 0 = .ok (.aload_n 0, 1) := by decide +kernel
theorem d2_1 : decode jdk_42_method_3_code 1 = .ok (.aload_n 1, 1) := by decide +kernel
theorem d2_2 : decode jdk_42_method_3_code 2 = .ok (.iconst 0, 1) := by decide +kernel
theorem d2_3 : decode jdk_42_method_3_code 3 = .ok (.aload_n 1, 1) := by decide +kernel
theorem d2_4 : decode jdk_42_method_3_code 4 = .ok (.arraylength, 1) := by decide +kernel
theorem d2_5 : decode jdk_42_method_3_code 5 = .ok (.aconst_null, 1) := by decide +kernel
theorem d2_6 : decode jdk_42_method_3_code 6 = .ok (.invokespecial 27, 3) := by decide +kernel
theorem pd___CIILjava_lang_Void__V : parseMethodDescriptor "([CIILjava/lang/Void;)V" = some ⟨[(.array .char), .int, .int, (.object "java/lang/Void")], none⟩ := by decide +kernel
theorem d2_9 : decode jdk_42_method_3_code 9 = .ok (.return_, 1) := by decide +kernel
theorem d18_0 : decode jdk_29_method_69_code 0 = .ok (.iload_n 0, 1) := by decide +kernel
theorem d18_1 : decode jdk_29_method_69_code 1 = .ok (.iload_n 1, 1) := by decide +kernel
theorem d18_2 : decode jdk_29_method_69_code 2 = .ok (.if_icmp .gt 7, 3) := by decide +kernel
theorem d18_9 : decode jdk_29_method_69_code 9 = .ok (.iload_n 1, 1) := by decide +kernel
theorem d18_10 : decode jdk_29_method_69_code 10 = .ok (.ireturn, 1) := by decide +kernel
theorem d18_5 : decode jdk_29_method_69_code 5 = .ok (.iload_n 0, 1) := by decide +kernel
theorem d18_6 : decode jdk_29_method_69_code 6 = .ok (.goto 4, 3) := by decide +kernel
theorem pn_13 : plainName "java/lang/String" = true := by first | (simp [plainName, overriddenIn]; done) | decide +kernel
theorem d13_0 : decode jdk_42_method_152_code 0 = .ok (.getstatic 38, 3) := by decide +kernel
theorem d13_3 : decode jdk_42_method_152_code 3 = .ok (.ifCond .eq 10, 3) := by decide +kernel
theorem d13_6 : decode jdk_42_method_152_code 6 = .ok (.aload_n 0, 1) := by decide +kernel
theorem d13_7 : decode jdk_42_method_152_code 7 = .ok (.getfield 15, 3) := by decide +kernel
theorem d13_10 : decode jdk_42_method_152_code 10 = .ok (.goto 4, 3) := by decide +kernel
theorem d13_14 : decode jdk_42_method_152_code 14 = .ok (.ireturn, 1) := by decide +kernel
theorem pn_12 : plainName "java/lang/String" = true := by first | (simp [plainName, overriddenIn]; done) | decide +kernel
theorem d12_0 : decode jdk_42_method_54_code 0 = .ok (.aload_n 0, 1) := by decide +kernel
theorem d12_1 : decode jdk_42_method_54_code 1 = .ok (.getfield 9, 3) := by decide +kernel
theorem d12_4 : decode jdk_42_method_54_code 4 = .ok (.arraylength, 1) := by decide +kernel
theorem d12_5 : decode jdk_42_method_54_code 5 = .ok (.aload_n 0, 1) := by decide +kernel
theorem d12_6 : decode jdk_42_method_54_code 6 = .ok (.invokevirtual 335, 3) := by decide +kernel
theorem pd___B : parseMethodDescriptor "()B" = some ⟨[], some .byte⟩ := by decide +kernel
theorem d12_9 : decode jdk_42_method_54_code 9 = .ok (.ishr, 1) := by decide +kernel
theorem d12_10 : decode jdk_42_method_54_code 10 = .ok (.ireturn, 1) := by decide +kernel
theorem pn_15 : plainName "java/lang/String" = true := by first | (simp [plainName, overriddenIn]; done) | decide +kernel
theorem d15_0 : decode jdk_42_method_154_code 0 = .ok (.getstatic 38, 3) := by decide +kernel
theorem d15_3 : decode jdk_42_method_154_code 3 = .ok (.ifCond .eq 14, 3) := by decide +kernel
theorem d15_6 : decode jdk_42_method_154_code 6 = .ok (.aload_n 0, 1) := by decide +kernel
theorem d15_7 : decode jdk_42_method_154_code 7 = .ok (.getfield 15, 3) := by decide +kernel
theorem d15_10 : decode jdk_42_method_154_code 10 = .ok (.ifCond .ne 7, 3) := by decide +kernel
theorem d15_13 : decode jdk_42_method_154_code 13 = .ok (.iconst 1, 1) := by decide +kernel
theorem d15_14 : decode jdk_42_method_154_code 14 = .ok (.goto 4, 3) := by decide +kernel
theorem d15_18 : decode jdk_42_method_154_code 18 = .ok (.ireturn, 1) := by decide +kernel
theorem pn_17 : plainName "java/lang/StringLatin1" = true := by first | (simp [plainName, overriddenIn]; done) | decide +kernel
theorem d17_0 : decode jdk_43_method_4_code 0 = .ok (.iload_n 0, 1) := by decide +kernel
theorem d17_1 : decode jdk_43_method_4_code 1 = .ok (.ifCond .lt 14, 3) := by decide +kernel
theorem d17_4 : decode jdk_43_method_4_code 4 = .ok (.iload_n 0, 1) := by decide +kernel
theorem d17_5 : decode jdk_43_method_4_code 5 = .ok (.sipush 255, 3) := by decide +kernel
theorem d17_8 : decode jdk_43_method_4_code 8 = .ok (.if_icmp .gt 7, 3) := by decide +kernel
theorem d17_11 : decode jdk_43_method_4_code 11 = .ok (.iconst 1, 1) := by decide +kernel
theorem d17_12 : decode jdk_43_method_4_code 12 = .ok (.goto 4, 3) := by decide +kernel
theorem d17_16 : decode jdk_43_method_4_code 16 = .ok (.ireturn, 1) := by decide +kernel
theorem pn_16 : plainName "java/lang/StringLatin1" = true := by first | (simp [plainName, overriddenIn]; done) | decide +kernel
theorem d16_0 : decode jdk_43_method_27_code 0 = .ok (.iload_n 1, 1) := by decide +kernel
theorem d16_1 : decode jdk_43_method_27_code 1 = .ok (.invokestatic 88, 3) := by decide +kernel
theorem pd__I_Z : parseMethodDescriptor "(I)Z" = some ⟨[.int], some .boolean⟩ := by decide +kernel
theorem d16_4 : decode jdk_43_method_27_code 4 = .ok (.ifCond .ne 5, 3) := by decide +kernel
theorem d16_9 : decode jdk_43_method_27_code 9 = .ok (.iload_n 2, 1) := by decide +kernel
theorem d16_10 : decode jdk_43_method_27_code 10 = .ok (.aload_n 0, 1) := by decide +kernel
theorem d16_11 : decode jdk_43_method_27_code 11 = .ok (.arraylength, 1) := by decide +kernel
theorem d16_12 : decode jdk_43_method_27_code 12 = .ok (.iconst 1, 1) := by decide +kernel
theorem d16_13 : decode jdk_43_method_27_code 13 = .ok (.isub, 1) := by decide +kernel
theorem d16_14 : decode jdk_43_method_27_code 14 = .ok (.invokestatic 38, 3) := by decide +kernel
theorem pd__II_I : parseMethodDescriptor "(II)I" = some ⟨[.int, .int], some .int⟩ := by decide +kernel
theorem d16_17 : decode jdk_43_method_27_code 17 = .ok (.istore_n 3, 1) := by decide +kernel
theorem d16_18 : decode jdk_43_method_27_code 18 = .ok (.iload_n 3, 1) := by decide +kernel
theorem d16_19 : decode jdk_43_method_27_code 19 = .ok (.ifCond .lt 19, 3) := by decide +kernel
theorem d16_38 : decode jdk_43_method_27_code 38 = .ok (.iconst (-1), 1) := by decide +kernel
theorem d16_39 : decode jdk_43_method_27_code 39 = .ok (.ireturn, 1) := by decide +kernel
theorem d16_22 : decode jdk_43_method_27_code 22 = .ok (.aload_n 0, 1) := by decide +kernel
theorem d16_23 : decode jdk_43_method_27_code 23 = .ok (.iload_n 3, 1) := by decide +kernel
theorem d16_24 : decode jdk_43_method_27_code 24 = .ok (.baload, 1) := by decide +kernel
theorem d16_25 : decode jdk_43_method_27_code 25 = .ok (.iload_n 1, 1) := by decide +kernel
theorem d16_26 : decode jdk_43_method_27_code 26 = .ok (.i2b, 1) := by decide +kernel
theorem d16_27 : decode jdk_43_method_27_code 27 = .ok (.if_icmp .ne 5, 3) := by decide +kernel
theorem d16_30 : decode jdk_43_method_27_code 30 = .ok (.iload_n 3, 1) := by decide +kernel
theorem d16_31 : decode jdk_43_method_27_code 31 = .ok (.ireturn, 1) := by decide +kernel
theorem d16_32 : decode jdk_43_method_27_code 32 = .ok (.iinc 3 (-1), 3) := by decide +kernel
theorem d16_35 : decode jdk_43_method_27_code 35 = .ok (.goto (-17), 3) := by decide +kernel
theorem pn_14 : plainName "java/lang/String" = true := by first | (simp [plainName, overriddenIn]; done) | decide +kernel
theorem d14_0 : decode jdk_42_method_83_code 0 = .ok (.aload_n 0, 1) := by decide +kernel
theorem d14_1 : decode jdk_42_method_83_code 1 = .ok (.invokevirtual 492, 3) := by decide +kernel
theorem pd___Z : parseMethodDescriptor "()Z" = some ⟨[], some .boolean⟩ := by decide +kernel
theorem d14_4 : decode jdk_42_method_83_code 4 = .ok (.ifCond .eq 15, 3) := by decide +kernel
theorem d14_7 : decode jdk_42_method_83_code 7 = .ok (.aload_n 0, 1) := by decide +kernel
theorem d14_8 : decode jdk_42_method_83_code 8 = .ok (.getfield 9, 3) := by decide +kernel
theorem d14_11 : decode jdk_42_method_83_code 11 = .ok (.iload_n 1, 1) := by decide +kernel
theorem d14_12 : decode jdk_42_method_83_code 12 = .ok (.iload_n 2, 1) := by decide +kernel
theorem d14_13 : decode jdk_42_method_83_code 13 = .ok (.invokestatic 644, 3) := by decide +kernel
theorem pd___BII_I : parseMethodDescriptor "([BII)I" = some ⟨[(.array .byte), .int, .int], some .int⟩ := by decide +kernel
theorem d14_16 : decode jdk_42_method_83_code 16 = .ok (.goto 12, 3) := by decide +kernel
theorem d14_28 : decode jdk_42_method_83_code 28 = .ok (.ireturn, 1) := by decide +kernel
theorem pn_11 : plainName "java/lang/String" = true := by first | (simp [plainName, overriddenIn]; done) | decide +kernel
theorem d11_0 : decode jdk_42_method_82_code 0 = .ok (.aload_n 0, 1) := by decide +kernel
theorem d11_1 : decode jdk_42_method_82_code 1 = .ok (.iload_n 1, 1) := by decide +kernel
theorem d11_2 : decode jdk_42_method_82_code 2 = .ok (.aload_n 0, 1) := by decide +kernel
theorem d11_3 : decode jdk_42_method_82_code 3 = .ok (.invokevirtual 505, 3) := by decide +kernel
theorem pd___I : parseMethodDescriptor "()I" = some ⟨[], some .int⟩ := by decide +kernel
theorem d11_6 : decode jdk_42_method_82_code 6 = .ok (.iconst 1, 1) := by decide +kernel
theorem d11_7 : decode jdk_42_method_82_code 7 = .ok (.isub, 1) := by decide +kernel
theorem d11_8 : decode jdk_42_method_82_code 8 = .ok (.invokevirtual 641, 3) := by decide +kernel
theorem d11_11 : decode jdk_42_method_82_code 11 = .ok (.ireturn, 1) := by decide +kernel
theorem pn_22 : plainName "jdk/internal/util/Preconditions" = true := by first | (simp [plainName, overriddenIn]; done) | decide +kernel
theorem d22_0 : decode jdk_41_method_12_code 0 = .ok (.iload_n 0, 1) := by decide +kernel
theorem d22_1 : decode jdk_41_method_12_code 1 = .ok (.ifCond .lt 13, 3) := by decide +kernel
theorem d22_4 : decode jdk_41_method_12_code 4 = .ok (.iload_n 0, 1) := by decide +kernel
theorem d22_5 : decode jdk_41_method_12_code 5 = .ok (.iload_n 1, 1) := by decide +kernel
theorem d22_6 : decode jdk_41_method_12_code 6 = .ok (.if_icmp .gt 8, 3) := by decide +kernel
theorem d22_9 : decode jdk_41_method_12_code 9 = .ok (.iload_n 1, 1) := by decide +kernel
theorem d22_10 : decode jdk_41_method_12_code 10 = .ok (.iload_n 2, 1) := by decide +kernel
theorem d22_11 : decode jdk_41_method_12_code 11 = .ok (.if_icmp .le 11, 3) := by decide +kernel
theorem d22_22 : decode jdk_41_method_12_code 22 = .ok (.iload_n 0, 1) := by decide +kernel
theorem d22_23 : decode jdk_41_method_12_code 23 = .ok (.ireturn, 1) := by decide +kernel
theorem pn_21 : plainName "java/lang/String" = true := by first | (simp [plainName, overriddenIn]; done) | decide +kernel
theorem d21_0 : decode jdk_42_method_158_code 0 = .ok (.iload_n 0, 1) := by decide +kernel
theorem d21_1 : decode jdk_42_method_158_code 1 = .ok (.iload_n 1, 1) := by decide +kernel
theorem d21_2 : decode jdk_42_method_158_code 2 = .ok (.iload_n 2, 1) := by decide +kernel
theorem d21_3 : decode jdk_42_method_158_code 3 = .ok (.getstatic 1053, 3) := by decide +kernel
theorem d21_6 : decode jdk_42_method_158_code 6 = .ok (.invokestatic 1062, 3) := by decide +kernel
theorem pd__IIILjava_util_function_BiFunction__I : parseMethodDescriptor "(IIILjava/util/function/BiFunction;)I" = some ⟨[.int, .int, .int, (.object "java/util/function/BiFunction")], some .int⟩ := by decide +kernel
theorem d21_9 : decode jdk_42_method_158_code 9 = .ok (.pop, 1) := by decide +kernel
theorem d21_10 : decode jdk_42_method_158_code 10 = .ok (.return_, 1) := by decide +kernel
theorem pn_30 : plainName "java/util/Arrays" = true := by first | (simp [plainName, overriddenIn]; done) | decide +kernel
theorem d30_0 : decode jdk_65_method_131_code 0 = .ok (.iload_n 1, 1) := by decide +kernel
theorem d30_1 : decode jdk_65_method_131_code 1 = .ok (.iload_n 0, 1) := by decide +kernel
theorem d30_2 : decode jdk_65_method_131_code 2 = .ok (.if_icmp .ge 35, 3) := by decide +kernel
theorem d30_37 : decode jdk_65_method_131_code 37 = .ok (.return_, 1) := by decide +kernel
theorem pn_29 : plainName "java/util/Arrays" = true := by first | (simp [plainName, overriddenIn]; done) | decide +kernel
theorem d29_0 : decode jdk_65_method_133_code 0 = .ok (.iload_n 1, 1) := by decide +kernel
theorem d29_1 : decode jdk_65_method_133_code 1 = .ok (.iload_n 2, 1) := by decide +kernel
theorem d29_2 : decode jdk_65_method_133_code 2 = .ok (.invokestatic 343, 3) := by decide +kernel
theorem pd__II_V : parseMethodDescriptor "(II)V" = some ⟨[.int, .int], none⟩ := by decide +kernel
theorem d29_5 : decode jdk_65_method_133_code 5 = .ok (.iload_n 2, 1) := by decide +kernel
theorem d29_6 : decode jdk_65_method_133_code 6 = .ok (.iload_n 1, 1) := by decide +kernel
theorem d29_7 : decode jdk_65_method_133_code 7 = .ok (.isub, 1) := by decide +kernel
theorem d29_8 : decode jdk_65_method_133_code 8 = .ok (.istore_n 3, 1) := by decide +kernel
theorem d29_9 : decode jdk_65_method_133_code 9 = .ok (.iload_n 3, 1) := by decide +kernel
theorem d29_10 : decode jdk_65_method_133_code 10 = .ok (.newarray .byte, 2) := by decide +kernel
theorem d29_12 : decode jdk_65_method_133_code 12 = .ok (.astore 4, 2) := by decide +kernel
theorem d29_14 : decode jdk_65_method_133_code 14 = .ok (.aload_n 0, 1) := by decide +kernel
theorem d29_15 : decode jdk_65_method_133_code 15 = .ok (.iload_n 1, 1) := by decide +kernel
theorem d29_16 : decode jdk_65_method_133_code 16 = .ok (.aload 4, 2) := by decide +kernel
theorem d29_18 : decode jdk_65_method_133_code 18 = .ok (.iconst 0, 1) := by decide +kernel
theorem d29_19 : decode jdk_65_method_133_code 19 = .ok (.aload_n 0, 1) := by decide +kernel
theorem d29_20 : decode jdk_65_method_133_code 20 = .ok (.arraylength, 1) := by decide +kernel
theorem d29_21 : decode jdk_65_method_133_code 21 = .ok (.iload_n 1, 1) := by decide +kernel
theorem d29_22 : decode jdk_65_method_133_code 22 = .ok (.isub, 1) := by decide +kernel
theorem d29_23 : decode jdk_65_method_133_code 23 = .ok (.iload_n 3, 1) := by decide +kernel
theorem d29_24 : decode jdk_65_method_133_code 24 = .ok (.invokestatic 304, 3) := by decide +kernel
theorem d29_27 : decode jdk_65_method_133_code 27 = .ok (.invokestatic 150, 3) := by decide +kernel
theorem d29_30 : decode jdk_65_method_133_code 30 = .ok (.aload 4, 2) := by decide +kernel
theorem d29_32 : decode jdk_65_method_133_code 32 = .ok (.areturn, 1) := by decide +kernel
theorem pn_28 : plainName "java/util/Arrays" = true := by first | (simp [plainName, overriddenIn]; done) | decide +kernel
theorem d28_0 : decode jdk_65_method_132_code 0 = .ok (.iload_n 1, 1) := by decide +kernel
theorem d28_1 : decode jdk_65_method_132_code 1 = .ok (.ifCond .ne 9, 3) := by decide +kernel
theorem d28_4 : decode jdk_65_method_132_code 4 = .ok (.iload_n 2, 1) := by decide +kernel
theorem d28_5 : decode jdk_65_method_132_code 5 = .ok (.aload_n 0, 1) := by decide +kernel
theorem d28_6 : decode jdk_65_method_132_code 6 = .ok (.arraylength, 1) := by decide +kernel
theorem d28_7 : decode jdk_65_method_132_code 7 = .ok (.if_icmp .eq 10, 3) := by decide +kernel
theorem d28_10 : decode jdk_65_method_132_code 10 = .ok (.aload_n 0, 1) := by decide +kernel
theorem d28_11 : decode jdk_65_method_132_code 11 = .ok (.iload_n 1, 1) := by decide +kernel
theorem d28_12 : decode jdk_65_method_132_code 12 = .ok (.iload_n 2, 1) := by decide +kernel
theorem d28_13 : decode jdk_65_method_132_code 13 = .ok (.invokestatic 339, 3) := by decide +kernel
theorem pd___BII__B : parseMethodDescriptor "([BII)[B" = some ⟨[(.array .byte), .int, .int], some (.array .byte)⟩ := by decide +kernel
theorem d28_16 : decode jdk_65_method_132_code 16 = .ok (.areturn, 1) := by decide +kernel
theorem pn_31 : plainName "java/lang/String" = true := by first | (simp [plainName, overriddenIn]; done) | decide +kernel
theorem d31_0 : decode jdk_42_method_151_code 0 = .ok (.aload_n 0, 1) := by decide +kernel
theorem d31_1 : decode jdk_42_method_151_code 1 = .ok (.invokespecial 1, 3) := by decide +kernel
theorem d31_4 : decode jdk_42_method_151_code 4 = .ok (.aload_n 0, 1) := by decide +kernel
theorem d31_5 : decode jdk_42_method_151_code 5 = .ok (.aload_n 1, 1) := by decide +kernel
theorem d31_6 : decode jdk_42_method_151_code 6 = .ok (.putfield 9, 3) := by decide +kernel
theorem d31_9 : decode jdk_42_method_151_code 9 = .ok (.aload_n 0, 1) := by decide +kernel
theorem d31_10 : decode jdk_42_method_151_code 10 = .ok (.iload_n 2, 1) := by decide +kernel
theorem d31_11 : decode jdk_42_method_151_code 11 = .ok (.putfield 15, 3) := by decide +kernel
theorem d31_14 : decode jdk_42_method_151_code 14 = .ok (.return_, 1) := by decide +kernel
theorem pn_27 : plainName "java/lang/StringLatin1" = true := by first | (simp [plainName, overriddenIn]; done) | decide +kernel
theorem d27_0 : decode jdk_43_method_47_code 0 = .ok (.iload_n 2, 1) := by decide +kernel
theorem d27_1 : decode jdk_43_method_47_code 1 = .ok (.ifCond .ne 6, 3) := by decide +kernel
theorem d27_4 : decode jdk_43_method_47_code 4 = .ok (.ldc 151, 2) := by decide +kernel
theorem d27_6 : decode jdk_43_method_47_code 6 = .ok (.areturn, 1) := by decide +kernel
theorem d27_7 : decode jdk_43_method_47_code 7 = .ok (.new 1, 3) := by decide +kernel
theorem d27_10 : decode jdk_43_method_47_code 10 = .ok (.dup, 1) := by decide +kernel
theorem d27_11 : decode jdk_43_method_47_code 11 = .ok (.aload_n 0, 1) := by decide +kernel
theorem d27_12 : decode jdk_43_method_47_code 12 = .ok (.iload_n 1, 1) := by decide +kernel
theorem d27_13 : decode jdk_43_method_47_code 13 = .ok (.iload_n 1, 1) := by decide +kernel
theorem d27_14 : decode jdk_43_method_47_code 14 = .ok (.iload_n 2, 1) := by decide +kernel
theorem d27_15 : decode jdk_43_method_47_code 15 = .ok (.iadd, 1) := by decide +kernel
theorem d27_16 : decode jdk_43_method_47_code 16 = .ok (.invokestatic 232, 3) := by decide +kernel
theorem d27_19 : decode jdk_43_method_47_code 19 = .ok (.iconst 0, 1) := by decide +kernel
theorem d27_20 : decode jdk_43_method_47_code 20 = .ok (.invokespecial 112, 3) := by decide +kernel
theorem pd___BB_V : parseMethodDescriptor "([BB)V" = some ⟨[(.array .byte), .byte], none⟩ := by decide +kernel
theorem d27_23 : decode jdk_43_method_47_code 23 = .ok (.areturn, 1) := by decide +kernel
theorem pn_20 : plainName "java/lang/String" = true := by first | (simp [plainName, overriddenIn]; done) | decide +kernel
theorem d20_0 : decode jdk_42_method_92_code 0 = .ok (.aload_n 0, 1) := by decide +kernel
theorem d20_1 : decode jdk_42_method_92_code 1 = .ok (.invokevirtual 505, 3) := by decide +kernel
theorem d20_4 : decode jdk_42_method_92_code 4 = .ok (.istore_n 3, 1) := by decide +kernel
theorem d20_5 : decode jdk_42_method_92_code 5 = .ok (.iload_n 1, 1) := by decide +kernel
theorem d20_6 : decode jdk_42_method_92_code 6 = .ok (.iload_n 2, 1) := by decide +kernel
theorem d20_7 : decode jdk_42_method_92_code 7 = .ok (.iload_n 3, 1) := by decide +kernel
theorem d20_8 : decode jdk_42_method_92_code 8 = .ok (.invokestatic 521, 3) := by decide +kernel
theorem pd__III_V : parseMethodDescriptor "(III)V" = some ⟨[.int, .int, .int], none⟩ := by decide +kernel
theorem d20_11 : decode jdk_42_method_92_code 11 = .ok (.iload_n 1, 1) := by decide +kernel
theorem d20_12 : decode jdk_42_method_92_code 12 = .ok (.ifCond .ne 10, 3) := by decide +kernel
theorem d20_15 : decode jdk_42_method_92_code 15 = .ok (.iload_n 2, 1) := by decide +kernel
theorem d20_16 : decode jdk_42_method_92_code 16 = .ok (.iload_n 3, 1) := by decide +kernel
theorem d20_17 : decode jdk_42_method_92_code 17 = .ok (.if_icmp .ne 5, 3) := by decide +kernel
theorem d20_20 : decode jdk_42_method_92_code 20 = .ok (.aload_n 0, 1) := by decide +kernel
theorem d20_21 : decode jdk_42_method_92_code 21 = .ok (.areturn, 1) := by decide +kernel
theorem d20_22 : decode jdk_42_method_92_code 22 = .ok (.iload_n 2, 1) := by decide +kernel
theorem d20_23 : decode jdk_42_method_92_code 23 = .ok (.iload_n 1, 1) := by decide +kernel
theorem d20_24 : decode jdk_42_method_92_code 24 = .ok (.isub, 1) := by decide +kernel
theorem d20_25 : decode jdk_42_method_92_code 25 = .ok (.istore 4, 2) := by decide +kernel
theorem d20_27 : decode jdk_42_method_92_code 27 = .ok (.aload_n 0, 1) := by decide +kernel
theorem d20_28 : decode jdk_42_method_92_code 28 = .ok (.invokevirtual 492, 3) := by decide +kernel
theorem d20_31 : decode jdk_42_method_92_code 31 = .ok (.ifCond .eq 16, 3) := by decide +kernel
theorem d20_34 : decode jdk_42_method_92_code 34 = .ok (.aload_n 0, 1) := by decide +kernel
theorem d20_35 : decode jdk_42_method_92_code 35 = .ok (.getfield 9, 3) := by decide +kernel
theorem d20_38 : decode jdk_42_method_92_code 38 = .ok (.iload_n 1, 1) := by decide +kernel
theorem d20_39 : decode jdk_42_method_92_code 39 = .ok (.iload 4, 2) := by decide +kernel
theorem d20_41 : decode jdk_42_method_92_code 41 = .ok (.invokestatic 685, 3) := by decide +kernel
theorem pd___BII_Ljava_lang_String_ : parseMethodDescriptor "([BII)Ljava/lang/String;" = some ⟨[(.array .byte), .int, .int], some (.object "java/lang/String")⟩ := by decide +kernel
theorem d20_44 : decode jdk_42_method_92_code 44 = .ok (.goto 13, 3) := by decide +kernel
theorem d20_57 : decode jdk_42_method_92_code 57 = .ok (.areturn, 1) := by decide +kernel
theorem pn_19 : plainName "java/lang/String" = true := by first | (simp [plainName, overriddenIn]; done) | decide +kernel
theorem d19_0 : decode jdk_42_method_91_code 0 = .ok (.aload_n 0, 1) := by decide +kernel
theorem d19_1 : decode jdk_42_method_91_code 1 = .ok (.iload_n 1, 1) := by decide +kernel
theorem d19_2 : decode jdk_42_method_91_code 2 = .ok (.aload_n 0, 1) := by decide +kernel
theorem d19_3 : decode jdk_42_method_91_code 3 = .ok (.invokevirtual 505, 3) := by decide +kernel
theorem d19_6 : decode jdk_42_method_91_code 6 = .ok (.invokevirtual 681, 3) := by decide +kernel
theorem pd__II_Ljava_lang_String_ : parseMethodDescriptor "(II)Ljava/lang/String;" = some ⟨[.int, .int], some (.object "java/lang/String")⟩ := by decide +kernel
theorem d19_9 : decode jdk_42_method_91_code 9 = .ok (.areturn, 1) := by decide +kernel
theorem pn_35 : plainName "jdk/internal/util/Preconditions" = true := by first | (simp [plainName, overriddenIn]; done) | decide +kernel
theorem d35_0 : decode jdk_41_method_11_code 0 = .ok (.iload_n 0, 1) := by decide +kernel
theorem d35_1 : decode jdk_41_method_11_code 1 = .ok (.ifCond .lt 8, 3) := by decide +kernel
theorem d35_4 : decode jdk_41_method_11_code 4 = .ok (.iload_n 0, 1) := by decide +kernel
theorem d35_5 : decode jdk_41_method_11_code 5 = .ok (.iload_n 1, 1) := by decide +kernel
theorem d35_6 : decode jdk_41_method_11_code 6 = .ok (.if_icmp .lt 10, 3) := by decide +kernel
theorem d35_16 : decode jdk_41_method_11_code 16 = .ok (.iload_n 0, 1) := by decide +kernel
theorem d35_17 : decode jdk_41_method_11_code 17 = .ok (.ireturn, 1) := by decide +kernel
theorem pn_34 : plainName "java/lang/String" = true := by first | (simp [plainName, overriddenIn]; done) | decide +kernel
theorem d34_0 : decode jdk_42_method_155_code 0 = .ok (.iload_n 0, 1) := by decide +kernel
theorem d34_1 : decode jdk_42_method_155_code 1 = .ok (.iload_n 1, 1) := by decide +kernel
theorem d34_2 : decode jdk_42_method_155_code 2 = .ok (.getstatic 1053, 3) := by decide +kernel
theorem d34_5 : decode jdk_42_method_155_code 5 = .ok (.invokestatic 1059, 3) := by decide +kernel
theorem pd__IILjava_util_function_BiFunction__I : parseMethodDescriptor "(IILjava/util/function/BiFunction;)I" = some ⟨[.int, .int, (.object "java/util/function/BiFunction")], some .int⟩ := by decide +kernel
theorem d34_8 : decode jdk_42_method_155_code 8 = .ok (.pop, 1) := by decide +kernel
theorem d34_9 : decode jdk_42_method_155_code 9 = .ok (.return_, 1) := by decide +kernel
theorem pn_33 : plainName "java/lang/StringLatin1" = true := by first | (simp [plainName, overriddenIn]; done) | decide +kernel
theorem d33_0 : decode jdk_43_method_2_code 0 = .ok (.iload_n 1, 1) := by decide +kernel
theorem d33_1 : decode jdk_43_method_2_code 1 = .ok (.aload_n 0, 1) := by decide +kernel
theorem d33_2 : decode jdk_43_method_2_code 2 = .ok (.arraylength, 1) := by decide +kernel
theorem d33_3 : decode jdk_43_method_2_code 3 = .ok (.invokestatic 9, 3) := by decide +kernel
theorem d33_6 : decode jdk_43_method_2_code 6 = .ok (.aload_n 0, 1) := by decide +kernel
theorem d33_7 : decode jdk_43_method_2_code 7 = .ok (.iload_n 1, 1) := by decide +kernel
theorem d33_8 : decode jdk_43_method_2_code 8 = .ok (.baload, 1) := by decide +kernel
theorem d33_9 : decode jdk_43_method_2_code 9 = .ok (.sipush 255, 3) := by decide +kernel
theorem d33_12 : decode jdk_43_method_2_code 12 = .ok (.iand, 1) := by decide +kernel
theorem d33_13 : decode jdk_43_method_2_code 13 = .ok (.i2c, 1) := by decide +kernel
theorem d33_14 : decode jdk_43_method_2_code 14 = .ok (.ireturn, 1) := by decide +kernel
theorem pn_32 : plainName "java/lang/String" = true := by first | (simp [plainName, overriddenIn]; done) | decide +kernel
theorem d32_0 : decode jdk_42_method_56_code 0 = .ok (.aload_n 0, 1) := by decide +kernel
theorem d32_1 : decode jdk_42_method_56_code 1 = .ok (.invokevirtual 492, 3) := by decide +kernel
theorem d32_4 : decode jdk_42_method_56_code 4 = .ok (.ifCond .eq 12, 3) := by decide +kernel
theorem d32_7 : decode jdk_42_method_56_code 7 = .ok (.aload_n 0, 1) := by decide +kernel
theorem d32_8 : decode jdk_42_method_56_code 8 = .ok (.getfield 9, 3) := by decide +kernel
theorem d32_11 : decode jdk_42_method_56_code 11 = .ok (.iload_n 1, 1) := by decide +kernel
theorem d32_12 : decode jdk_42_method_56_code 12 = .ok (.invokestatic 495, 3) := by decide +kernel
theorem pd___BI_C : parseMethodDescriptor "([BI)C" = some ⟨[(.array .byte), .int], some .char⟩ := by decide +kernel
theorem d32_15 : decode jdk_42_method_56_code 15 = .ok (.ireturn, 1) := by decide +kernel
theorem pn_7 : plainName "java/util/AbstractCollection" = true := by first | (simp [plainName, overriddenIn]; done) | decide +kernel
theorem d7_0 : decode jdk_22_method_1_code 0 = .ok (.aload_n 0, 1) := by decide +kernel
theorem d7_1 : decode jdk_22_method_1_code 1 = .ok (.invokespecial 1, 3) := by decide +kernel
theorem d7_4 : decode jdk_22_method_1_code 4 = .ok (.return_, 1) := by decide +kernel
theorem pn_6 : plainName "java/util/AbstractList" = true := by first | (simp [plainName, overriddenIn]; done) | decide +kernel
theorem d6_0 : decode jdk_39_method_1_code 0 = .ok (.aload_n 0, 1) := by decide +kernel
theorem d6_1 : decode jdk_39_method_1_code 1 = .ok (.invokespecial 1, 3) := by decide +kernel
theorem pd___V : parseMethodDescriptor "()V" = some ⟨[], none⟩ := by decide +kernel
theorem d6_4 : decode jdk_39_method_1_code 4 = .ok (.aload_n 0, 1) := by decide +kernel
theorem d6_5 : decode jdk_39_method_1_code 5 = .ok (.iconst 0, 1) := by decide +kernel
theorem d6_6 : decode jdk_39_method_1_code 6 = .ok (.putfield 7, 3) := by decide +kernel
theorem d6_9 : decode jdk_39_method_1_code 9 = .ok (.return_, 1) := by decide +kernel
theorem pn_5 : plainName "java/util/ArrayList" = true := by first | (simp [plainName, overriddenIn]; done) | decide +kernel
theorem d5_0 : decode jdk_38_method_2_code 0 = .ok (.aload_n 0, 1) := by decide +kernel
theorem d5_1 : decode jdk_38_method_2_code 1 = .ok (.invokespecial 1, 3) := by decide +kernel
theorem d5_4 : decode jdk_38_method_2_code 4 = .ok (.aload_n 0, 1) := by decide +kernel
theorem d5_5 : decode jdk_38_method_2_code 5 = .ok (.getstatic 39, 3) := by decide +kernel
theorem d5_8 : decode jdk_38_method_2_code 8 = .ok (.putfield 9, 3) := by decide +kernel
theorem d5_11 : decode jdk_38_method_2_code 11 = .ok (.return_, 1) := by decide +kernel
theorem pn_9 : plainName "java/lang/Record" = true := by first | (simp [plainName, overriddenIn]; done) | decide +kernel
theorem d9_0 : decode jdk_30_method_1_code 0 = .ok (.aload_n 0, 1) := by decide +kernel
theorem d9_1 : decode jdk_30_method_1_code 1 = .ok (.invokespecial 1, 3) := by decide +kernel
theorem d9_4 : decode jdk_30_method_1_code 4 = .ok (.return_, 1) := by decide +kernel
theorem pn_8 : plainName "com/example/grantgate/grantgate/server/MessageReader$Head" = true := by first | (simp [plainName, overriddenIn]; done) | decide +kernel
theorem d8_0 : decode prog_40_method_1_code 0 = .ok (.aload_n 0, 1) := by decide +kernel
theorem d8_1 : decode prog_40_method_1_code 1 = .ok (.invokespecial 1, 3) := by decide +kernel
theorem d8_4 : decode prog_40_method_1_code 4 = .ok (.aload_n 0, 1) := by decide +kernel
theorem d8_5 : decode prog_40_method_1_code 5 = .ok (.aload_n 1, 1) := by decide +kernel
theorem d8_6 : decode prog_40_method_1_code 6 = .ok (.putfield 7, 3) := by decide +kernel
theorem d8_9 : decode prog_40_method_1_code 9 = .ok (.aload_n 0, 1) := by decide +kernel
theorem d8_10 : decode prog_40_method_1_code 10 = .ok (.aload_n 2, 1) := by decide +kernel
theorem d8_11 : decode prog_40_method_1_code 11 = .ok (.putfield 13, 3) := by decide +kernel
theorem d8_14 : decode prog_40_method_1_code 14 = .ok (.return_, 1) := by decide +kernel
theorem pn_10 : plainName "com/example/grantgate/grantgate/server/MessageReader$Head" = true := by first | (simp [plainName, overriddenIn]; done) | decide +kernel
theorem d10_0 : decode prog_40_method_4_code 0 = .ok (.aload_n 0, 1) := by decide +kernel
theorem d10_1 : decode prog_40_method_4_code 1 = .ok (.getfield 7, 3) := by decide +kernel
theorem d10_4 : decode prog_40_method_4_code 4 = .ok (.aload_n 0, 1) := by decide +kernel
theorem d10_5 : decode prog_40_method_4_code 5 = .ok (.getfield 7, 3) := by decide +kernel
theorem d10_8 : decode prog_40_method_4_code 8 = .ok (.bipush 32, 2) := by decide +kernel
theorem d10_10 : decode prog_40_method_4_code 10 = .ok (.invokevirtual 63, 3) := by decide +kernel
theorem pd__I_I : parseMethodDescriptor "(I)I" = some ⟨[.int], some .int⟩ := by decide +kernel
theorem d10_13 : decode prog_40_method_4_code 13 = .ok (.iconst 1, 1) := by decide +kernel
theorem d10_14 : decode prog_40_method_4_code 14 = .ok (.iadd, 1) := by decide +kernel
theorem d10_15 : decode prog_40_method_4_code 15 = .ok (.invokevirtual 66, 3) := by decide +kernel
theorem pd__I_Ljava_lang_String_ : parseMethodDescriptor "(I)Ljava/lang/String;" = some ⟨[.int], some (.object "java/lang/String")⟩ := by decide +kernel
theorem d10_18 : decode prog_40_method_4_code 18 = .ok (.areturn, 1) := by decide +kernel
theorem pn_1 : plainName "com/example/grantgate/grantgate/server/HeadVersionPinLaw" = true := by first | (simp [plainName, overriddenIn]; done) | decide +kernel
theorem d1_0 : decode method_4_code 0 = .ok (.iload_n 0, 1) := by decide +kernel
theorem d1_1 : decode method_4_code 1 = .ok (.ifCond .ne 14, 3) := by decide +kernel
theorem d1_4 : decode method_4_code 4 = .ok (.new 27, 3) := by decide +kernel
theorem d1_7 : decode method_4_code 7 = .ok (.dup, 1) := by decide +kernel
theorem d1_8 : decode method_4_code 8 = .ok (.iconst 0, 1) := by decide +kernel
theorem d1_9 : decode method_4_code 9 = .ok (.newarray .char, 2) := by decide +kernel
theorem d1_11 : decode method_4_code 11 = .ok (.invokespecial 40, 3) := by decide +kernel
theorem pd___C_V : parseMethodDescriptor "([C)V" = some ⟨[(.array .char)], none⟩ := by decide +kernel
theorem d1_14 : decode method_4_code 14 = .ok (.areturn, 1) := by decide +kernel
theorem d1_15 : decode method_4_code 15 = .ok (.iload_n 0, 1) := by decide +kernel
theorem d1_16 : decode method_4_code 16 = .ok (.iconst 1, 1) := by decide +kernel
theorem d1_17 : decode method_4_code 17 = .ok (.if_icmp .ne 20, 3) := by decide +kernel
theorem d1_20 : decode method_4_code 20 = .ok (.new 27, 3) := by decide +kernel
theorem d1_23 : decode method_4_code 23 = .ok (.dup, 1) := by decide +kernel
theorem d1_24 : decode method_4_code 24 = .ok (.iconst 1, 1) := by decide +kernel
theorem d1_25 : decode method_4_code 25 = .ok (.newarray .char, 2) := by decide +kernel
theorem d1_27 : decode method_4_code 27 = .ok (.dup, 1) := by decide +kernel
theorem d1_28 : decode method_4_code 28 = .ok (.iconst 0, 1) := by decide +kernel
theorem d1_29 : decode method_4_code 29 = .ok (.aload_n 1, 1) := by decide +kernel
theorem d1_30 : decode method_4_code 30 = .ok (.iconst 0, 1) := by decide +kernel
theorem d1_31 : decode method_4_code 31 = .ok (.caload, 1) := by decide +kernel
theorem d1_32 : decode method_4_code 32 = .ok (.castore, 1) := by decide +kernel
theorem d1_33 : decode method_4_code 33 = .ok (.invokespecial 40, 3) := by decide +kernel
theorem d1_36 : decode method_4_code 36 = .ok (.areturn, 1) := by decide +kernel
theorem d1_37 : decode method_4_code 37 = .ok (.iload_n 0, 1) := by decide +kernel
theorem d1_38 : decode method_4_code 38 = .ok (.iconst 2, 1) := by decide +kernel
theorem d1_39 : decode method_4_code 39 = .ok (.if_icmp .ne 26, 3) := by decide +kernel
theorem d1_42 : decode method_4_code 42 = .ok (.new 27, 3) := by decide +kernel
theorem d1_45 : decode method_4_code 45 = .ok (.dup, 1) := by decide +kernel
theorem d1_46 : decode method_4_code 46 = .ok (.iconst 2, 1) := by decide +kernel
theorem d1_47 : decode method_4_code 47 = .ok (.newarray .char, 2) := by decide +kernel
theorem d1_49 : decode method_4_code 49 = .ok (.dup, 1) := by decide +kernel
theorem d1_50 : decode method_4_code 50 = .ok (.iconst 0, 1) := by decide +kernel
theorem d1_51 : decode method_4_code 51 = .ok (.aload_n 1, 1) := by decide +kernel
theorem d1_52 : decode method_4_code 52 = .ok (.iconst 0, 1) := by decide +kernel
theorem d1_53 : decode method_4_code 53 = .ok (.caload, 1) := by decide +kernel
theorem d1_54 : decode method_4_code 54 = .ok (.castore, 1) := by decide +kernel
theorem d1_55 : decode method_4_code 55 = .ok (.dup, 1) := by decide +kernel
theorem d1_56 : decode method_4_code 56 = .ok (.iconst 1, 1) := by decide +kernel
theorem d1_57 : decode method_4_code 57 = .ok (.aload_n 1, 1) := by decide +kernel
theorem d1_58 : decode method_4_code 58 = .ok (.iconst 1, 1) := by decide +kernel
theorem d1_59 : decode method_4_code 59 = .ok (.caload, 1) := by decide +kernel
theorem d1_60 : decode method_4_code 60 = .ok (.castore, 1) := by decide +kernel
theorem d1_61 : decode method_4_code 61 = .ok (.invokespecial 40, 3) := by decide +kernel
theorem d1_64 : decode method_4_code 64 = .ok (.areturn, 1) := by decide +kernel
theorem d1_65 : decode method_4_code 65 = .ok (.iload_n 0, 1) := by decide +kernel
theorem d1_66 : decode method_4_code 66 = .ok (.iconst 3, 1) := by decide +kernel
theorem d1_67 : decode method_4_code 67 = .ok (.if_icmp .ne 32, 3) := by decide +kernel
theorem d1_70 : decode method_4_code 70 = .ok (.new 27, 3) := by decide +kernel
theorem d1_73 : decode method_4_code 73 = .ok (.dup, 1) := by decide +kernel
theorem d1_74 : decode method_4_code 74 = .ok (.iconst 3, 1) := by decide +kernel
theorem d1_75 : decode method_4_code 75 = .ok (.newarray .char, 2) := by decide +kernel
theorem d1_77 : decode method_4_code 77 = .ok (.dup, 1) := by decide +kernel
theorem d1_78 : decode method_4_code 78 = .ok (.iconst 0, 1) := by decide +kernel
theorem d1_79 : decode method_4_code 79 = .ok (.aload_n 1, 1) := by decide +kernel
theorem d1_80 : decode method_4_code 80 = .ok (.iconst 0, 1) := by decide +kernel
theorem d1_81 : decode method_4_code 81 = .ok (.caload, 1) := by decide +kernel
theorem d1_82 : decode method_4_code 82 = .ok (.castore, 1) := by decide +kernel
theorem d1_83 : decode method_4_code 83 = .ok (.dup, 1) := by decide +kernel
theorem d1_84 : decode method_4_code 84 = .ok (.iconst 1, 1) := by decide +kernel
theorem d1_85 : decode method_4_code 85 = .ok (.aload_n 1, 1) := by decide +kernel
theorem d1_86 : decode method_4_code 86 = .ok (.iconst 1, 1) := by decide +kernel
theorem d1_87 : decode method_4_code 87 = .ok (.caload, 1) := by decide +kernel
theorem d1_88 : decode method_4_code 88 = .ok (.castore, 1) := by decide +kernel
theorem d1_89 : decode method_4_code 89 = .ok (.dup, 1) := by decide +kernel
theorem d1_90 : decode method_4_code 90 = .ok (.iconst 2, 1) := by decide +kernel
theorem d1_91 : decode method_4_code 91 = .ok (.aload_n 1, 1) := by decide +kernel
theorem d1_92 : decode method_4_code 92 = .ok (.iconst 2, 1) := by decide +kernel
theorem d1_93 : decode method_4_code 93 = .ok (.caload, 1) := by decide +kernel
theorem d1_94 : decode method_4_code 94 = .ok (.castore, 1) := by decide +kernel
theorem d1_95 : decode method_4_code 95 = .ok (.invokespecial 40, 3) := by decide +kernel
theorem d1_98 : decode method_4_code 98 = .ok (.areturn, 1) := by decide +kernel
theorem d1_99 : decode method_4_code 99 = .ok (.new 27, 3) := by decide +kernel
theorem d1_102 : decode method_4_code 102 = .ok (.dup, 1) := by decide +kernel
theorem d1_103 : decode method_4_code 103 = .ok (.iconst 4, 1) := by decide +kernel
theorem d1_104 : decode method_4_code 104 = .ok (.newarray .char, 2) := by decide +kernel
theorem d1_106 : decode method_4_code 106 = .ok (.dup, 1) := by decide +kernel
theorem d1_107 : decode method_4_code 107 = .ok (.iconst 0, 1) := by decide +kernel
theorem d1_108 : decode method_4_code 108 = .ok (.aload_n 1, 1) := by decide +kernel
theorem d1_109 : decode method_4_code 109 = .ok (.iconst 0, 1) := by decide +kernel
theorem d1_110 : decode method_4_code 110 = .ok (.caload, 1) := by decide +kernel
theorem d1_111 : decode method_4_code 111 = .ok (.castore, 1) := by decide +kernel
theorem d1_112 : decode method_4_code 112 = .ok (.dup, 1) := by decide +kernel
theorem d1_113 : decode method_4_code 113 = .ok (.iconst 1, 1) := by decide +kernel
theorem d1_114 : decode method_4_code 114 = .ok (.aload_n 1, 1) := by decide +kernel
theorem d1_115 : decode method_4_code 115 = .ok (.iconst 1, 1) := by decide +kernel
theorem d1_116 : decode method_4_code 116 = .ok (.caload, 1) := by decide +kernel
theorem d1_117 : decode method_4_code 117 = .ok (.castore, 1) := by decide +kernel
theorem d1_118 : decode method_4_code 118 = .ok (.dup, 1) := by decide +kernel
theorem d1_119 : decode method_4_code 119 = .ok (.iconst 2, 1) := by decide +kernel
theorem d1_120 : decode method_4_code 120 = .ok (.aload_n 1, 1) := by decide +kernel
theorem d1_121 : decode method_4_code 121 = .ok (.iconst 2, 1) := by decide +kernel
theorem d1_122 : decode method_4_code 122 = .ok (.caload, 1) := by decide +kernel
theorem d1_123 : decode method_4_code 123 = .ok (.castore, 1) := by decide +kernel
theorem d1_124 : decode method_4_code 124 = .ok (.dup, 1) := by decide +kernel
theorem d1_125 : decode method_4_code 125 = .ok (.iconst 3, 1) := by decide +kernel
theorem d1_126 : decode method_4_code 126 = .ok (.aload_n 1, 1) := by decide +kernel
theorem d1_127 : decode method_4_code 127 = .ok (.iconst 3, 1) := by decide +kernel
theorem d1_128 : decode method_4_code 128 = .ok (.caload, 1) := by decide +kernel
theorem d1_129 : decode method_4_code 129 = .ok (.castore, 1) := by decide +kernel
theorem d1_130 : decode method_4_code 130 = .ok (.invokespecial 40, 3) := by decide +kernel
theorem d1_133 : decode method_4_code 133 = .ok (.areturn, 1) := by decide +kernel
theorem pn_23 : plainName "com/example/grantgate/grantgate/server/HeadVersionPinLaw" = true := by first | (simp [plainName, overriddenIn]; done) | decide +kernel
theorem d23_0 : decode method_3_code 0 = .ok (.iload_n 3, 1) := by decide +kernel
theorem d23_1 : decode method_3_code 1 = .ok (.iload_n 1, 1) := by decide +kernel
theorem d23_2 : decode method_3_code 2 = .ok (.iadd, 1) := by decide +kernel
theorem d23_3 : decode method_3_code 3 = .ok (.istore 5, 2) := by decide +kernel
theorem d23_5 : decode method_3_code 5 = .ok (.iload 5, 2) := by decide +kernel
theorem d23_7 : decode method_3_code 7 = .ok (.iload 4, 2) := by decide +kernel
theorem d23_9 : decode method_3_code 9 = .ok (.if_icmp .lt 5, 3) := by decide +kernel
theorem d23_14 : decode method_3_code 14 = .ok (.aload_n 0, 1) := by decide +kernel
theorem d23_15 : decode method_3_code 15 = .ok (.iload_n 1, 1) := by decide +kernel
theorem d23_16 : decode method_3_code 16 = .ok (.invokevirtual 36, 3) := by decide +kernel
theorem pd__I_C : parseMethodDescriptor "(I)C" = some ⟨[.int], some .char⟩ := by decide +kernel
theorem d23_19 : decode method_3_code 19 = .ok (.aload_n 2, 1) := by decide +kernel
theorem d23_20 : decode method_3_code 20 = .ok (.iload 5, 2) := by decide +kernel
theorem d23_22 : decode method_3_code 22 = .ok (.caload, 1) := by decide +kernel
theorem d23_23 : decode method_3_code 23 = .ok (.if_icmp .ne 7, 3) := by decide +kernel
theorem d23_26 : decode method_3_code 26 = .ok (.iconst 1, 1) := by decide +kernel
theorem d23_27 : decode method_3_code 27 = .ok (.goto 4, 3) := by decide +kernel
theorem d23_31 : decode method_3_code 31 = .ok (.ireturn, 1) := by decide +kernel
theorem d23_12 : decode method_3_code 12 = .ok (.iconst 1, 1) := by decide +kernel
theorem d23_13 : decode method_3_code 13 = .ok (.ireturn, 1) := by decide +kernel
theorem pn_0 : plainName "com/example/grantgate/grantgate/server/HeadVersionPinLaw" = true := by first | (simp [plainName, overriddenIn]; done) | decide +kernel
theorem pd__Ljava_lang_String_I_CII_Z : parseMethodDescriptor "(Ljava/lang/String;I[CII)Z" = some ⟨[(.object "java/lang/String"), .int, (.array .char), .int, .int], some .boolean⟩ := by decide +kernel
theorem pd__I_C_Ljava_lang_String_ : parseMethodDescriptor "(I[C)Ljava/lang/String;" = some ⟨[.int, (.array .char)], some (.object "java/lang/String")⟩ := by decide +kernel
theorem pd__Ljava_lang_String_Ljava_util_List__V : parseMethodDescriptor "(Ljava/lang/String;Ljava/util/List;)V" = some ⟨[(.object "java/lang/String"), (.object "java/util/List")], none⟩ := by decide +kernel
theorem pd___Ljava_lang_String_ : parseMethodDescriptor "()Ljava/lang/String;" = some ⟨[], some (.object "java/lang/String")⟩ := by decide +kernel
abbrev R_cLoop : Room := ⟨0, 0, 0, 0⟩
set_option maxRecDepth 65536 in
set_option maxHeartbeats 40000000 in
theorem cLoop (l : Launch) (Z : State) (a0 : Array Value) (hw : ∀ d ∈ tables_1, d.before a0 Z = true) (c1 : Addr) (d1 : Addr) (kc : ClassId) (kb : ClassId) (n : Nat) (f : Nat → Int32) (h0 : Heap) (n0 : Nat) (O0 : Old Z n0 h0) (Fc : ArF Z h0 c1 kc .char n f) (Fd : ArF Z h0 d1 kb .byte n (fun _ => 0)) (ne1 : c1 ≠ d1) (g1 : n0 ≤ d1) :
    MetN l Z (⟨"java/lang/StringUTF16", "compress", "([CI[BII)I"⟩ : MethodName) jdk_52_method_21_code 7 (some .int) R_cLoop [] #[(.ref c1), (.int (0 : Int32)), (.ref d1), (.int (0 : Int32)), (.int n.toInt32)] h0 (fun v h L => ∃ (r : Nat), v = some (.int r.toInt32) ∧ Fr n0 L ∧ Keep h0 h [d1] ∧ ArF Z h d1 kb .byte n (fun i => if i < r then (f i).toInt8.toInt32 else 0) ∧ (r ≤ n) ∧ (∀ i, i < r → ¬ (255 : Int32) < f i) ∧ (r < n → (255 : Int32) < f r)) := by
  refine MetN.walk (plainFor_of_name pn_25) ?_
  intro p e s m below meth c s₁ hx hZ hby hml hown hnm hret hlk X0 e0
  have N0 := Fr.nil n0
  refine Win.to s₁ (mkF m 0 #[.val (.ref c1), .val (.int (0 : Int32)), .val (.ref d1), .val (.int (0 : Int32)), .val (.int n.toInt32), .unset, .unset] []) (fun _ k => castTop (by first | (simp [entryFrame, mkF, argsToLocals, Value.category]; done) | rfl) k) ?_
  refine Win.to s₁ (mkF m 1 #[.val (.ref c1), .val (.int (0 : Int32)), .val (.ref d1), .val (.int (0 : Int32)), .val (.int n.toInt32), .unset, .unset] [(.int (0 : Int32))]) (fun _ k => XS.iconst X0.here hx rfl (hb hby d25_0) k) ?_
  refine Win.to s₁ (mkF m 3 #[.val (.ref c1), .val (.int (0 : Int32)), .val (.ref d1), .val (.int (0 : Int32)), .val (.int n.toInt32), .val (.int (0 : Int32)), .unset] []) (fun _ k => XS.istore X0.here hx rfl (hb hby d25_1) rfl (l' := #[.val (.ref c1), .val (.int (0 : Int32)), .val (.ref d1), .val (.int (0 : Int32)), .val (.int n.toInt32), .val (.int (0 : Int32)), .unset]) rfl k) ?_
  have hn := Fc.big
  have loop : ∀ (q j : Nat), j + q = n → (∀ i, i < j → ¬ (255 : Int32) < f i) → ∀ (T : State) (locs : List Loc) (h : Heap) (X : Stand p l e R_cLoop s m #[(.ref c1), (.int (0 : Int32)), (.ref d1), (.int (0 : Int32)), (.int n.toInt32)] below meth c T locs 0 0) (N : Fr n0 locs) (eT : T.heap = h) (O : Old Z n0 h) (K : Keep h0 h [d1]) (Gd : ArF Z h d1 kb .byte n (fun i => if i < j then (f i).toInt8.toInt32 else 0)) (s6 : Slot) (h6 : One s6), Win p e below s R_cLoop (fun v h L => ∃ (r : Nat), v = some (.int r.toInt32) ∧ Fr n0 L ∧ Keep h0 h [d1] ∧ ArF Z h d1 kb .byte n (fun i => if i < r then (f i).toInt8.toInt32 else 0) ∧ (r ≤ n) ∧ (∀ i, i < r → ¬ (255 : Int32) < f i) ∧ (r < n → (255 : Int32) < f r)) (T.setTop (mkF m 3 #[.val (.ref c1), .val (.int j.toInt32), .val (.ref d1), .val (.int j.toInt32), .val (.int n.toInt32), .val (.int j.toInt32), s6] [])) := by
    intro q
    induction q with
    | zero =>
      intro j hj hall T locs h X N eT O K Gd s6 h6
      obtain rfl : j = n := by omega
      refine Win.to T (mkF m 5 #[.val (.ref c1), .val (.int j.toInt32), .val (.ref d1), .val (.int j.toInt32), .val (.int j.toInt32), .val (.int j.toInt32), s6] [(.int j.toInt32)]) (fun _ k => XS.iload X.here hx rfl (hb hby d25_3) rfl k) ?_
      refine Win.to T (mkF m 7 #[.val (.ref c1), .val (.int j.toInt32), .val (.ref d1), .val (.int j.toInt32), .val (.int j.toInt32), .val (.int j.toInt32), s6] [(.int j.toInt32), (.int j.toInt32)]) (fun _ k => XS.iload X.here hx rfl (hb hby d25_5) rfl k) ?_
      refine Win.to T (mkF m 44 #[.val (.ref c1), .val (.int j.toInt32), .val (.ref d1), .val (.int j.toInt32), .val (.int j.toInt32), .val (.int j.toInt32), s6] []) (fun _ k => XS.icmpYes X.here hx rfl (pc0 := 7) (pc' := 44) rfl (hb hby d25_7) rfl (flt (show ¬ (j.toInt32 < j.toInt32) from Int32.lt_irrefl)).2.1 (by decide) (by decide) k) ?_
      refine Win.to T (mkF m 46 #[.val (.ref c1), .val (.int j.toInt32), .val (.ref d1), .val (.int j.toInt32), .val (.int j.toInt32), .val (.int j.toInt32), s6] [(.int j.toInt32)]) (fun _ k => XS.iload X.here hx rfl (hb hby d25_44) rfl k) ?_
      exact Win.retI X hx hlk hret (hb hby d25_46) (by decide) (by decide) (by (try rw [eT]); exact ⟨j, rfl, N, K, Gd, (Nat.le_refl _), hall, (fun q => absurd q (Nat.lt_irrefl _))⟩)
    | succ q ih =>
      intro j hj hall T locs h X N eT O K Gd s6 h6
      have hj1 : j < n := by omega
      have hj2 : j < 2 ^ 31 := by omega
      have Gc : ArF Z h c1 kc .char n f := Fc.keep K (ninS ne1 nin0)
      refine Win.to T (mkF m 5 #[.val (.ref c1), .val (.int j.toInt32), .val (.ref d1), .val (.int j.toInt32), .val (.int n.toInt32), .val (.int j.toInt32), s6] [(.int j.toInt32)]) (fun _ k => XS.iload X.here hx rfl (hb hby d25_3) rfl k) ?_
      refine Win.to T (mkF m 7 #[.val (.ref c1), .val (.int j.toInt32), .val (.ref d1), .val (.int j.toInt32), .val (.int n.toInt32), .val (.int j.toInt32), s6] [(.int n.toInt32), (.int j.toInt32)]) (fun _ k => XS.iload X.here hx rfl (hb hby d25_5) rfl k) ?_
      refine Win.to T (mkF m 10 #[.val (.ref c1), .val (.int j.toInt32), .val (.ref d1), .val (.int j.toInt32), .val (.int n.toInt32), .val (.int j.toInt32), s6] []) (fun _ k => XS.icmpNo X.here hx rfl (hb hby d25_7) rfl (tlt (show j.toInt32 < n.toInt32 from ((own_lt hj2 hn).mpr hj1))).2.1 k) ?_
      refine Win.to T (mkF m 11 #[.val (.ref c1), .val (.int j.toInt32), .val (.ref d1), .val (.int j.toInt32), .val (.int n.toInt32), .val (.int j.toInt32), s6] [(.ref c1)]) (fun _ k => XS.aloadN X.here hx rfl (hb hby d25_10) rfl rfl k) ?_
      refine Win.to T (mkF m 12 #[.val (.ref c1), .val (.int j.toInt32), .val (.ref d1), .val (.int j.toInt32), .val (.int n.toInt32), .val (.int j.toInt32), s6] [(.int j.toInt32), (.ref c1)]) (fun _ k => XS.iloadN X.here hx rfl (hb hby d25_11) rfl k) ?_
      obtain ⟨cl101, Ar101, hi101, ha101⟩ := ArF.at Gc (j := j.toInt32) (i := j) (own_tn hj2).1 (own_tn hj2).2.1 hj1
      refine Win.to T (mkF m 13 #[.val (.ref c1), .val (.int j.toInt32), .val (.ref d1), .val (.int j.toInt32), .val (.int n.toInt32), .val (.int j.toInt32), s6] [(.int (f j))]) (fun _ k => X.caload hx (j := j.toInt32) (v := (.int (f j))) (by rw [eT]; exact Ar101.1) (State.isArrayOf_alike hZ.alike Ar101.2.1) Ar101.2.2 hi101 ha101 (g := (mkF m 12 #[.val (.ref c1), .val (.int j.toInt32), .val (.ref d1), .val (.int j.toInt32), .val (.int n.toInt32), .val (.int j.toInt32), s6] [(.int j.toInt32), (.ref c1)])) rfl rfl (hb hby d25_12) _ k) ?_
      refine Win.to T (mkF m 15 #[.val (.ref c1), .val (.int j.toInt32), .val (.ref d1), .val (.int j.toInt32), .val (.int n.toInt32), .val (.int j.toInt32), .val (.int (f j))] []) (fun _ k => XS.istoreS X.here hx rfl (hb hby d25_13) rfl rfl h6 k) ?_
      refine Win.to T (mkF m 17 #[.val (.ref c1), .val (.int j.toInt32), .val (.ref d1), .val (.int j.toInt32), .val (.int n.toInt32), .val (.int j.toInt32), .val (.int (f j))] [(.int (f j))]) (fun _ k => XS.iload X.here hx rfl (hb hby d25_15) rfl k) ?_
      refine Win.to T (mkF m 20 #[.val (.ref c1), .val (.int j.toInt32), .val (.ref d1), .val (.int j.toInt32), .val (.int n.toInt32), .val (.int j.toInt32), .val (.int (f j))] [(.int (255 : Int32)), (.int (f j))]) (fun _ k => XS.sipush X.here hx rfl (hb hby d25_17) k) ?_
      by_cases hc102 : (255 : Int32) < (f j)
      · refine Win.to T (mkF m 23 #[.val (.ref c1), .val (.int j.toInt32), .val (.ref d1), .val (.int j.toInt32), .val (.int n.toInt32), .val (.int j.toInt32), .val (.int (f j))] []) (fun _ k => XS.icmpNo X.here hx rfl (hb hby d25_20) rfl (tlt hc102).2.2.2 k) ?_
        refine Win.to T (mkF m 25 #[.val (.ref c1), .val (.int j.toInt32), .val (.ref d1), .val (.int j.toInt32), .val (.int n.toInt32), .val (.int j.toInt32), .val (.int (f j))] [(.int j.toInt32)]) (fun _ k => XS.iload X.here hx rfl (hb hby d25_23) rfl k) ?_
        exact Win.retI X hx hlk hret (hb hby d25_25) (by decide) (by decide) (by (try rw [eT]); exact ⟨j, rfl, N, K, Gd, (Nat.le_of_lt hj1), hall, (fun _ => hc102)⟩)
      · refine Win.to T (mkF m 26 #[.val (.ref c1), .val (.int j.toInt32), .val (.ref d1), .val (.int j.toInt32), .val (.int n.toInt32), .val (.int j.toInt32), .val (.int (f j))] []) (fun _ k => XS.icmpYes X.here hx rfl (pc0 := 20) (pc' := 26) rfl (hb hby d25_20) rfl (flt hc102).2.2.2 (by decide) (by decide) k) ?_
        refine Win.to T (mkF m 27 #[.val (.ref c1), .val (.int j.toInt32), .val (.ref d1), .val (.int j.toInt32), .val (.int n.toInt32), .val (.int j.toInt32), .val (.int (f j))] [(.ref d1)]) (fun _ k => XS.aloadN X.here hx rfl (hb hby d25_26) rfl rfl k) ?_
        refine Win.to T (mkF m 28 #[.val (.ref c1), .val (.int j.toInt32), .val (.ref d1), .val (.int j.toInt32), .val (.int n.toInt32), .val (.int j.toInt32), .val (.int (f j))] [(.int j.toInt32), (.ref d1)]) (fun _ k => XS.iloadN X.here hx rfl (hb hby d25_27) rfl k) ?_
        refine Win.to T (mkF m 30 #[.val (.ref c1), .val (.int j.toInt32), .val (.ref d1), .val (.int j.toInt32), .val (.int n.toInt32), .val (.int j.toInt32), .val (.int (f j))] [(.int (f j)), (.int j.toInt32), (.ref d1)]) (fun _ k => XS.iload X.here hx rfl (hb hby d25_28) rfl k) ?_
        refine Win.to T (mkF m 31 #[.val (.ref c1), .val (.int j.toInt32), .val (.ref d1), .val (.int j.toInt32), .val (.int n.toInt32), .val (.int j.toInt32), .val (.int (f j))] [(.int ((f j).toInt8.toInt32)), (.int j.toInt32), (.ref d1)]) (fun _ k => XS.i2b X.here hx rfl (hb hby d25_30) rfl k) ?_
        obtain ⟨cl103, Ar103, hi103, -⟩ := ArF.at Gd (j := j.toInt32) (i := j) (own_tn hj2).1 (own_tn hj2).2.1 hj1
        obtain ⟨T104, h104, X104, e104, W104, st104⟩ := stB X hx hZ eT Ar103 (j := j.toInt32) hi103 (g := (mkF m 31 #[.val (.ref c1), .val (.int j.toInt32), .val (.ref d1), .val (.int j.toInt32), .val (.int n.toInt32), .val (.int j.toInt32), .val (.int (f j))] [(.int ((f j).toInt8.toInt32)), (.int j.toInt32), (.ref d1)])) rfl rfl (hb hby d25_31)
        have O105 := Old.wr O W104 g1
        have K106 : Keep h0 h104 [d1] := K.wr W104 (Or.inl (List.mem_of_getElem? (i := 0) rfl))
        have N107 := Fr.snoc X104 N g1
        have eq104 : nar .byte ((f j).toInt8.toInt32) = ((f j).toInt8.toInt32) := (own_b8 (f j))
        have W104 := eq104 ▸ W104
        have F108 : ArF Z h104 d1 kb .byte n (upd (fun i => if i < j then (f i).toInt8.toInt32 else 0) j ((f j).toInt8.toInt32)) := ArF.set Gd W104 (own_tn hj2).1 hj1 (eq104 ▸ (fits_nar_byte _))
        refine Win.to T104 (mkF m 32 #[.val (.ref c1), .val (.int j.toInt32), .val (.ref d1), .val (.int j.toInt32), .val (.int n.toInt32), .val (.int j.toInt32), .val (.int (f j))] []) (fun _ k => st104 _ k) ?_
        refine Win.to T104 (mkF m 35 #[.val (.ref c1), .val (.int (j.toInt32 + (1 : Int32))), .val (.ref d1), .val (.int j.toInt32), .val (.int n.toInt32), .val (.int j.toInt32), .val (.int (f j))] []) (fun _ k => XS.iinc X104.here hx rfl (hb hby d25_32) rfl (l' := #[.val (.ref c1), .val (.int (j.toInt32 + (1 : Int32))), .val (.ref d1), .val (.int j.toInt32), .val (.int n.toInt32), .val (.int j.toInt32), .val (.int (f j))]) rfl k) ?_
        refine Win.to T104 (mkF m 38 #[.val (.ref c1), .val (.int (j.toInt32 + (1 : Int32))), .val (.ref d1), .val (.int (j.toInt32 + (1 : Int32))), .val (.int n.toInt32), .val (.int j.toInt32), .val (.int (f j))] []) (fun _ k => XS.iinc X104.here hx rfl (hb hby d25_35) rfl (l' := #[.val (.ref c1), .val (.int (j.toInt32 + (1 : Int32))), .val (.ref d1), .val (.int (j.toInt32 + (1 : Int32))), .val (.int n.toInt32), .val (.int j.toInt32), .val (.int (f j))]) rfl k) ?_
        refine Win.to T104 (mkF m 41 #[.val (.ref c1), .val (.int (j.toInt32 + (1 : Int32))), .val (.ref d1), .val (.int (j.toInt32 + (1 : Int32))), .val (.int n.toInt32), .val (.int (j.toInt32 + (1 : Int32))), .val (.int (f j))] []) (fun _ k => XS.iinc X104.here hx rfl (hb hby d25_38) rfl (l' := #[.val (.ref c1), .val (.int (j.toInt32 + (1 : Int32))), .val (.ref d1), .val (.int (j.toInt32 + (1 : Int32))), .val (.int n.toInt32), .val (.int (j.toInt32 + (1 : Int32))), .val (.int (f j))]) rfl k) ?_
        refine Win.to T104 (mkF m 3 #[.val (.ref c1), .val (.int (j.toInt32 + (1 : Int32))), .val (.ref d1), .val (.int (j.toInt32 + (1 : Int32))), .val (.int n.toInt32), .val (.int (j.toInt32 + (1 : Int32))), .val (.int (f j))] []) (fun _ k => XS.goto X104.here hx rfl (pc0 := 41) (pc' := 3) rfl (hb hby d25_41) (by decide) (by decide) k) ?_
        rw [own_succ j]
        refine ih (j + 1) (by omega) (fun i hi => ?_) T104 _ h104 X104 N107 e104 O105 K106 (ArF.cong F108 fun i hi => ?_) _ (One.val rfl)
        · rcases Nat.lt_succ_iff_lt_or_eq.mp hi with q | q
          · exact hall i q
          · rw [q]; exact hc102
        · simp only [upd]
          by_cases q : i = j
          · simp [q]
          · have q2 : i < j + 1 ↔ i < j := by omega
            simp [q, q2]
  exact loop n 0 (by omega) (fun i hi => absurd hi (Nat.not_lt_zero _)) s₁ [] h0 X0 N0 e0 O0 (Keep.refl _ _) (ArF.cong Fd fun i hi => by simp) _ One.u
abbrev R_comp : Room := ⟨1, 1, 4, 18⟩
set_option maxRecDepth 65536 in
set_option maxHeartbeats 40000000 in
theorem comp (l : Launch) (Z : State) (a0 : Array Value) (hw : ∀ d ∈ tables_1, d.before a0 Z = true) (c1 : Addr) (kc : ClassId) (n : Nat) (f : Nat → Int32) (h0 : Heap) (n0 : Nat) (O0 : Old Z n0 h0) (Fc : ArF Z h0 c1 kc .char n f) (hp : ∀ i, i < n → ¬ (255 : Int32) < f i) (hcap : n ≤ 4) :
    MetN l Z (⟨"java/lang/StringUTF16", "compress", "([CII)[B"⟩ : MethodName) jdk_52_method_16_code 6 (some (.array .byte)) R_comp [] #[(.ref c1), (.int (0 : Int32)), (.int n.toInt32)] h0 (fun v h L => ∃ (t : Addr) (kb : ClassId), v = some (.ref t) ∧ Fr n0 L ∧ Keep h0 h [] ∧ h0.size ≤ t ∧ ArF Z h t kb .byte n (fun i => (f i).toInt8.toInt32)) := by
  refine MetN.walk (plainFor_of_name pn_24) ?_
  intro p e s m below meth c s₁ hx hZ hby hml hown hnm hret hlk X0 e0
  have N0 := Fr.nil n0
  refine Win.to s₁ (mkF m 0 #[.val (.ref c1), .val (.int (0 : Int32)), .val (.int n.toInt32), .unset, .unset, .unset] []) (fun _ k => castTop (by first | (simp [entryFrame, mkF, argsToLocals, Value.category]; done) | rfl) k) ?_
  have hn := Fc.big
  refine Win.to s₁ (mkF m 1 #[.val (.ref c1), .val (.int (0 : Int32)), .val (.int n.toInt32), .unset, .unset, .unset] [(.int n.toInt32)]) (fun _ k => XS.iloadN X0.here hx rfl (hb hby d24_0) rfl k) ?_
  obtain ⟨T109, h109, k109, X109, e109, E109, A109, st109⟩ := newP X0 hx hZ (wk hw 20 rfl) e0 (g := (mkF m 1 #[.val (.ref c1), .val (.int (0 : Int32)), .val (.int n.toInt32), .unset, .unset, .unset] [(.int n.toInt32)])) rfl (hb hby d24_1) rfl (own_tn hn).2.1 (cap := 4) (by rw [(own_tn hn).1]; exact hcap) (by decide) (by decide) (by decide)
  obtain ⟨b109, g109⟩ : ∃ z, z = h0.size := ⟨_, rfl⟩
  rw [← g109] at A109 st109
  have ne110 : c1 ≠ b109 := Nat.ne_of_lt (Nat.lt_of_lt_of_le Fc.lt (Nat.le_of_eq g109.symm))
  have g111 : n0 ≤ b109 := Nat.le_trans (own_le O0) (Nat.le_of_eq g109.symm)
  have z112 : h0.size ≤ b109 := (Nat.le_of_eq g109.symm)
  have O113 := Old.ext O0 E109
  have K114 : Keep h0 h109 [] := (Keep.refl h0 []).ext E109
  have F115 : ArF Z h109 b109 k109 .byte n (fun _ => 0) := (own_tn hn).1 ▸ ArF.new A109 (own_tn hn).2.1 rfl
  refine Win.to T109 (mkF m 3 #[.val (.ref c1), .val (.int (0 : Int32)), .val (.int n.toInt32), .unset, .unset, .unset] [(.ref b109)]) (fun _ k => st109 _ k) ?_
  refine Win.to T109 (mkF m 4 #[.val (.ref c1), .val (.int (0 : Int32)), .val (.int n.toInt32), .val (.ref b109), .unset, .unset] []) (fun _ k => XS.astoreN X109.here hx rfl (hb hby d24_3) rfl rfl (l' := #[.val (.ref c1), .val (.int (0 : Int32)), .val (.int n.toInt32), .val (.ref b109), .unset, .unset]) rfl k) ?_
  refine Win.to T109 (mkF m 5 #[.val (.ref c1), .val (.int (0 : Int32)), .val (.int n.toInt32), .val (.ref b109), .unset, .unset] [(.ref c1)]) (fun _ k => XS.aloadN X109.here hx rfl (hb hby d24_4) rfl rfl k) ?_
  refine Win.to T109 (mkF m 6 #[.val (.ref c1), .val (.int (0 : Int32)), .val (.int n.toInt32), .val (.ref b109), .unset, .unset] [(.int (0 : Int32)), (.ref c1)]) (fun _ k => XS.iloadN X109.here hx rfl (hb hby d24_5) rfl k) ?_
  refine Win.to T109 (mkF m 7 #[.val (.ref c1), .val (.int (0 : Int32)), .val (.int n.toInt32), .val (.ref b109), .unset, .unset] [(.ref b109), (.int (0 : Int32)), (.ref c1)]) (fun _ k => XS.aloadN X109.here hx rfl (hb hby d24_6) rfl rfl k) ?_
  refine Win.to T109 (mkF m 8 #[.val (.ref c1), .val (.int (0 : Int32)), .val (.int n.toInt32), .val (.ref b109), .unset, .unset] [(.int (0 : Int32)), (.ref b109), (.int (0 : Int32)), (.ref c1)]) (fun _ k => XS.iconst X109.here hx rfl (hb hby d24_7) k) ?_
  refine Win.to T109 (mkF m 9 #[.val (.ref c1), .val (.int (0 : Int32)), .val (.int n.toInt32), .val (.ref b109), .unset, .unset] [(.int n.toInt32), (.int (0 : Int32)), (.ref b109), (.int (0 : Int32)), (.ref c1)]) (fun _ k => XS.iloadN X109.here hx rfl (hb hby d24_8) rfl k) ?_
  have F116 : ArF Z h109 c1 kc .char n f := (Fc.ext E109)
  obtain ⟨T117, h117, v117, L117, X117, e117, ⟨r_117, rfl, N117q, r117_0, r117_1, r117_2, r117_3, r117_4⟩, st117⟩ := N.static X109 hx hZ (y := (⟨"java/lang/StringUTF16", "compress", "([CI[BII)I"⟩ : MethodName)) hown (wk hw 135 rfl) (wk hw 136 rfl) (wk hw 133 rfl) (wk hw 137 rfl) (by decide) (cLoop l Z a0 hw c1 b109 kc k109 n f h109 n0 O113 F116 F115 ne110 g111) e109 (g := (mkF m 9 #[.val (.ref c1), .val (.int (0 : Int32)), .val (.int n.toInt32), .val (.ref b109), .unset, .unset] [(.int n.toInt32), (.int (0 : Int32)), (.ref b109), (.int (0 : Int32)), (.ref c1)])) rfl (by rw [hml]; rfl) (argsL := [(.ref c1), (.int (0 : Int32)), (.ref b109), (.int (0 : Int32)), (.int n.toInt32)]) (rest := []) rfl (lenOf pd___CI_BII_I rfl) rfl (W := 0) (by show 2 * 0 + _ ≤ _; exact Nat.le_of_eq rfl) (hb hby d24_9) (by decide) (by decide) (by decide) (by decide)
  have N118 := Fr.app N0 N117q
  have O119 := Old.keep O113 r117_0 (allS g111 all0)
  have K120 : Keep h0 h117 [] := Keep.trans K114 r117_0 (allS (Or.inr z112) all0)
  refine Win.to T117 (mkF m 12 #[.val (.ref c1), .val (.int (0 : Int32)), .val (.int n.toInt32), .val (.ref b109), .unset, .unset] [(.int r_117.toInt32)]) (fun _ k => st117 _ k) ?_
  have hr : r_117 = n := by
    rcases Nat.lt_or_ge r_117 n with q | q
    · exact absurd (r117_4 q) (hp _ q)
    · have := r117_2; omega
  have F121 : ArF Z h117 b109 k109 .byte n (fun i => (f i).toInt8.toInt32) := ArF.cong r117_1 fun i hi => by simp [hr, hi]
  refine Win.to T117 (mkF m 14 #[.val (.ref c1), .val (.int (0 : Int32)), .val (.int n.toInt32), .val (.ref b109), .val (.int r_117.toInt32), .unset] []) (fun _ k => XS.istore X117.here hx rfl (hb hby d24_12) rfl (l' := #[.val (.ref c1), .val (.int (0 : Int32)), .val (.int n.toInt32), .val (.ref b109), .val (.int r_117.toInt32), .unset]) rfl k) ?_
  refine Win.to T117 (mkF m 16 #[.val (.ref c1), .val (.int (0 : Int32)), .val (.int n.toInt32), .val (.ref b109), .val (.int r_117.toInt32), .unset] [(.int r_117.toInt32)]) (fun _ k => XS.iload X117.here hx rfl (hb hby d24_14) rfl k) ?_
  refine Win.to T117 (mkF m 17 #[.val (.ref c1), .val (.int (0 : Int32)), .val (.int n.toInt32), .val (.ref b109), .val (.int r_117.toInt32), .unset] [(.int n.toInt32), (.int r_117.toInt32)]) (fun _ k => XS.iloadN X117.here hx rfl (hb hby d24_16) rfl k) ?_
  refine Win.to T117 (mkF m 57 #[.val (.ref c1), .val (.int (0 : Int32)), .val (.int n.toInt32), .val (.ref b109), .val (.int r_117.toInt32), .unset] []) (fun _ k => XS.icmpYes X117.here hx rfl (pc0 := 17) (pc' := 57) rfl (hb hby d24_17) rfl (teq (show r_117.toInt32 = n.toInt32 from (by rw [hr]))).1 (by decide) (by decide) k) ?_
  refine Win.to T117 (mkF m 58 #[.val (.ref c1), .val (.int (0 : Int32)), .val (.int n.toInt32), .val (.ref b109), .val (.int r_117.toInt32), .unset] [(.ref b109)]) (fun _ k => XS.aloadN X117.here hx rfl (hb hby d24_57) rfl rfl k) ?_
  exact Win.retA X117 hx hlk hret rfl rfl (hb hby d24_58) (by decide) (by decide) (by (try rw [e117]); exact ⟨b109, k109, rfl, N118, K120, z112, F121⟩)
abbrev R_coder0 : Room := ⟨0, 0, 0, 0⟩
set_option maxRecDepth 65536 in
set_option maxHeartbeats 40000000 in
theorem coder0 (l : Launch) (Z : State) (a0 : Array Value) (hw : ∀ d ∈ tables_1, d.before a0 Z = true) (b1 : Addr) (kb : ClassId) (n : Nat) (f : Nat → Int32) (h0 : Heap) (n0 : Nat) (O0 : Old Z n0 h0) (Fb : ArF Z h0 b1 kb .byte n f) :
    MetN l Z (⟨"java/lang/StringUTF16", "coderFromArrayLen", "([BI)B"⟩ : MethodName) jdk_52_method_15_code 2 (some .byte) R_coder0 [] #[(.ref b1), (.int n.toInt32)] h0 (fun v h L => v = some (.int (0 : Int32)) ∧ Fr n0 L ∧ h = h0) := by
  refine MetN.walk (plainFor_of_name pn_26) ?_
  intro p e s m below meth c s₁ hx hZ hby hml hown hnm hret hlk X0 e0
  have N0 := Fr.nil n0
  refine Win.to s₁ (mkF m 0 #[.val (.ref b1), .val (.int n.toInt32)] []) (fun _ k => castTop (by first | (simp [entryFrame, mkF, argsToLocals, Value.category]; done) | rfl) k) ?_
  refine Win.to s₁ (mkF m 1 #[.val (.ref b1), .val (.int n.toInt32)] [(.int n.toInt32)]) (fun _ k => XS.iloadN X0.here hx rfl (hb hby d26_0) rfl k) ?_
  refine Win.to s₁ (mkF m 2 #[.val (.ref b1), .val (.int n.toInt32)] [(.ref b1), (.int n.toInt32)]) (fun _ k => XS.aloadN X0.here hx rfl (hb hby d26_1) rfl rfl k) ?_
  obtain ⟨cl122, Ar122, hl122⟩ := ArF.len Fb
  refine Win.to s₁ (mkF m 3 #[.val (.ref b1), .val (.int n.toInt32)] [(.int n.toInt32), (.int n.toInt32)]) (fun _ k => X0.arraylength hx (by rw [e0]; exact Ar122.1) (State.isArrayOf_alike hZ.alike Ar122.2.1) (g := (mkF m 2 #[.val (.ref b1), .val (.int n.toInt32)] [(.ref b1), (.int n.toInt32)])) rfl rfl (hb hby d26_2) _ (by rw [hl122]; exact k)) ?_
  refine Win.to s₁ (mkF m 4 #[.val (.ref b1), .val (.int n.toInt32)] [(.int (0 : Int32))]) (fun _ k => XS.isub X0.here hx rfl (hb hby d26_3) rfl (by rw [show (n.toInt32 - n.toInt32) = (0 : Int32) from Int32.sub_self _]; exact k)) ?_
  refine Win.to s₁ (mkF m 6 #[.val (.ref b1), .val (.int n.toInt32)] [(.int (31 : Int32)), (.int (0 : Int32))]) (fun _ k => XS.bipush X0.here hx rfl (hb hby d26_4) k) ?_
  refine Win.to s₁ (mkF m 7 #[.val (.ref b1), .val (.int n.toInt32)] [(.int (0 : Int32))]) (fun _ k => XS.iushr X0.here hx rfl (hb hby d26_6) rfl (by rw [show (((0 : Int32).toUInt32 >>> ((31 : Int32) &&& 31).toUInt32).toInt32) = (0 : Int32) from by decide]; exact k)) ?_
  refine Win.to s₁ (mkF m 8 #[.val (.ref b1), .val (.int n.toInt32)] [(.int (0 : Int32))]) (fun _ k => XS.i2b X0.here hx rfl (hb hby d26_7) rfl (by rw [show ((0 : Int32).toInt8.toInt32) = (0 : Int32) from by decide]; exact k)) ?_
  exact Win.retN X0 hx hlk (t := .byte) hret (by simp) rfl (hb hby d26_8) (by decide) (by decide) (by (try rw [e0]); exact ⟨rfl, N0, rfl⟩)
abbrev R_ctor4 : Room := ⟨2, 4, 8, 35⟩
set_option maxRecDepth 65536 in
set_option maxHeartbeats 40000000 in
theorem ctor4 (l : Launch) (Z : State) (a0 : Array Value) (hw : ∀ d ∈ tables_1, d.before a0 Z = true) (a1 : Addr) (c1 : Addr) (kc : ClassId) (n : Nat) (f : Nat → Int32) (cs : Int32) (h0 : Heap) (n0 : Nat) (O0 : Old Z n0 h0) (E1 : Exa Z h0 a1 "java/lang/String") (F1 : Fld Z h0 a1 "java/lang/String" "value" "[B" .null) (F2 : Fld Z h0 a1 "java/lang/String" "coder" "B" (.int (0 : Int32))) (Fc : ArF Z h0 c1 kc .char n f) (hp : ∀ i, i < n → ¬ (255 : Int32) < f i) (hcap : n ≤ 4) (g1 : n0 ≤ a1) (S_CS : Sta Z Z.heap "java/lang/String" "COMPACT_STRINGS" "Z" (.int cs)) (hcs : ¬ (cs = (0 : Int32))) :
    MetW l Z (⟨"java/lang/String", "<init>", "([CIILjava/lang/Void;)V"⟩ : MethodName) jdk_42_method_149_code 6 none R_ctor4 [] #[(.ref a1), (.ref c1), (.int (0 : Int32)), (.int n.toInt32), .null] h0 EL1 (fun v h L => ∃ (t : Addr) (kb : ClassId), v = none ∧ Fr n0 L ∧ Keep h0 h [a1] ∧ Fld Z h a1 "java/lang/String" "value" "[B" (.ref t) ∧ Fld Z h a1 "java/lang/String" "coder" "B" (.int (0 : Int32)) ∧ ArF Z h t kb .byte n (fun i => (f i).toInt8.toInt32)) := by
  refine MetW.walk (plainFor_of_name pn_3) ?_
  intro p e s m below meth c s₁ hx hZ hby hml hown hnm hret hlk C0 hS0 X0 e0
  have N0 := Fr.nil n0
  refine WinW.to s₁ (mkF m 0 #[.val (.ref a1), .val (.ref c1), .val (.int (0 : Int32)), .val (.int n.toInt32), .val .null, .unset] []) (fun _ k => castTop (by first | (simp [entryFrame, mkF, argsToLocals, Value.category]; done) | rfl) k) ?_
  have hn := Fc.big
  refine WinW.to s₁ (mkF m 1 #[.val (.ref a1), .val (.ref c1), .val (.int (0 : Int32)), .val (.int n.toInt32), .val .null, .unset] [(.ref a1)]) (fun _ k => XS.aloadN X0.here hx rfl (hb hby d3_0) rfl rfl k) ?_
  obtain ⟨T123, X123, e123, st123⟩ := initO X0 hx hZ hown (wk hw 16 rfl) (wk hw 17 rfl) (wk hw 18 rfl) e0 (g := (mkF m 1 #[.val (.ref a1), .val (.ref c1), .val (.int (0 : Int32)), .val (.int n.toInt32), .val .null, .unset] [(.ref a1)])) rfl (by rw [hml]; rfl) rfl (hb hby d3_1) (by decide) (W := 0) (by show 2 * 0 + _ ≤ _; exact Nat.le_of_eq rfl) (by decide)
  refine WinW.to T123 (mkF m 4 #[.val (.ref a1), .val (.ref c1), .val (.int (0 : Int32)), .val (.int n.toInt32), .val .null, .unset] []) (fun _ k => st123 _ k) ?_
  refine WinW.to T123 (mkF m 5 #[.val (.ref a1), .val (.ref c1), .val (.int (0 : Int32)), .val (.int n.toInt32), .val .null, .unset] [(.int n.toInt32)]) (fun _ k => XS.iloadN X123.here hx rfl (hb hby d3_4) rfl k) ?_
  by_cases hc124 : n.toInt32 = (0 : Int32)
  · refine WinW.to T123 (mkF m 8 #[.val (.ref a1), .val (.ref c1), .val (.int (0 : Int32)), .val (.int n.toInt32), .val .null, .unset] []) (fun _ k => XS.ifNo X123.here hx rfl (hb hby d3_5) rfl ((if0 _ _).trans (teq hc124).2) k) ?_
    have hz : n = 0 := own_zero hn hc124
    have S125 : Safe Z EL1 (s.setVm s.vm).vm h0 a1 := own_safe hZ.alike E1 F1 (wk hw 7 rfl)
    refine WinW.to T123 (mkF m 9 #[.val (.ref a1), .val (.ref c1), .val (.int (0 : Int32)), .val (.int n.toInt32), .val .null, .unset] [(.ref a1)]) (fun _ k => XS.aloadN X123.here hx rfl (hb hby d3_8) rfl rfl k) ?_
    obtain ⟨b126, T126, h126, k126, d126, kk126, X126, e126, E126, hS126, hk126, hZ126, hown126, Fe126, Fc126, Fv126, Fa126, -, -, c126, -, Sf126, st126⟩ := ldcCH X123 hx hZ hown (wk hw 19 rfl) (own_wS hw) e123 hS0 (Nat.zero_le _) (own_EW hw) (by decide) C0.1 (vs := []) (z := (0 : Int32)) (by decide) (by decide) rfl (g := (mkF m 9 #[.val (.ref a1), .val (.ref c1), .val (.int (0 : Int32)), .val (.int n.toInt32), .val .null, .unset] [(.ref a1)])) rfl (hb hby d3_9) (n := 0) (by decide) (by decide) (by decide) (by decide)
    have O127 := Old.ext O0 E126
    have K128 : Keep h0 h126 [a1] := (Keep.refl h0 [a1]).ext E126
    have c129 := c126
    have C130 := CHr.trans C0 c129
    have S131 := CHr.safe c129 E1.lt S125
    have q126_a1 := Sf126 _ S131
    refine WinW.to T126 (mkF m 11 #[.val (.ref a1), .val (.ref c1), .val (.int (0 : Int32)), .val (.int n.toInt32), .val .null, .unset] [(.ref b126), (.ref a1)]) (fun _ k => st126 _ k) ?_
    obtain ⟨T132, X132, e132, st132⟩ := getF X126 hx hZ126 hown126 (host := "") (Or.inl (wk hw 25 rfl)) Via.refl e126 Fv126 (g := (mkF m 11 #[.val (.ref a1), .val (.ref c1), .val (.int (0 : Int32)), .val (.int n.toInt32), .val .null, .unset] [(.ref b126), (.ref a1)])) rfl rfl (hb hby d3_11)
    refine WinW.to T132 (mkF m 14 #[.val (.ref a1), .val (.ref c1), .val (.int (0 : Int32)), .val (.int n.toInt32), .val .null, .unset] [(.ref d126), (.ref a1)]) (fun _ k => st132 _ k) ?_
    have F133 : Exa Z h126 a1 "java/lang/String" := (Exa.ext E126 E1)
    have F134 : Fld Z h126 a1 "java/lang/String" "value" "[B" .null := (Fld.ext E126 F1)
    have F135 : ArF Z h126 c1 kc .char n f := (Fc.ext E126)
    have ne136 : a1 ≠ c1 := own_neF F133 F135 (wk hw 7 rfl)
    obtain ⟨T137, h137, X137, e137, W137, st137⟩ := putF X132 hx hZ126 hown126 (host := "") (Or.inl (wk hw 25 rfl)) Via.refl e132 F134 F133 (Or.inr ⟨(wk hw 21 rfl), rfl, hnm⟩) (wk hw 7 rfl) (ty := (.array .byte)) (by decide) rfl rfl (g := (mkF m 14 #[.val (.ref a1), .val (.ref c1), .val (.int (0 : Int32)), .val (.int n.toInt32), .val .null, .unset] [(.ref d126), (.ref a1)])) rfl rfl (hb hby d3_14)
    have O139 := Old.wr O127 W137 g1
    have hk140 := Nat.le_trans hk126 (Nat.le_of_eq (Wr.size W137).symm)
    have K141 : Keep h0 h137 [a1] := K128.wr W137 (Or.inl (List.mem_of_getElem? (i := 0) rfl))
    have N142 := Fr.snoc X137 N0 g1
    have c143 := CHr.wr W137 S131 C130.1
    have C144 := CHr.trans C130 c143
    have S145 := CHr.safe c143 F133.lt S131
    have F138 : Fld Z h137 a1 "java/lang/String" "value" "[B" (.ref d126) := Fld.same W137 F134
    refine WinW.to T137 (mkF m 17 #[.val (.ref a1), .val (.ref c1), .val (.int (0 : Int32)), .val (.int n.toInt32), .val .null, .unset] []) (fun _ k => st137 _ k) ?_
    refine WinW.to T137 (mkF m 18 #[.val (.ref a1), .val (.ref c1), .val (.int (0 : Int32)), .val (.int n.toInt32), .val .null, .unset] [(.ref a1)]) (fun _ k => XS.aloadN X137.here hx rfl (hb hby d3_17) rfl rfl k) ?_
    have F147 : Exa Z h137 a1 "java/lang/String" := (Exa.wr W137 F133)
    obtain ⟨b146, T146, h146, k146, d146, kk146, X146, e146, E146, hS146, hk146, hZ146, hown146, Fe146, Fc146, Fv146, Fa146, -, -, c146, -, Sf146, st146⟩ := ldcCH X137 hx hZ126 hown126 (wk hw 19 rfl) (own_wS hw) e137 hS126 hk140 (own_EW hw) (by decide) C144.1 (vs := []) (z := (0 : Int32)) (by decide) (by decide) rfl (g := (mkF m 18 #[.val (.ref a1), .val (.ref c1), .val (.int (0 : Int32)), .val (.int n.toInt32), .val .null, .unset] [(.ref a1)])) rfl (hb hby d3_18) (n := 0) (by decide) (by decide) (by decide) (by decide)
    have O148 := Old.ext O139 E146
    have K149 : Keep h0 h146 [a1] := K141.ext E146
    have c150 := c146
    have C151 := CHr.trans C144 c150
    have S152 := CHr.safe c150 F147.lt S145
    have q146_a1 := Sf146 _ S152
    refine WinW.to T146 (mkF m 20 #[.val (.ref a1), .val (.ref c1), .val (.int (0 : Int32)), .val (.int n.toInt32), .val .null, .unset] [(.ref b146), (.ref a1)]) (fun _ k => st146 _ k) ?_
    obtain ⟨T153, X153, e153, st153⟩ := getF X146 hx hZ146 hown146 (host := "") (Or.inl (wk hw 26 rfl)) Via.refl e146 Fc146 (g := (mkF m 20 #[.val (.ref a1), .val (.ref c1), .val (.int (0 : Int32)), .val (.int n.toInt32), .val .null, .unset] [(.ref b146), (.ref a1)])) rfl rfl (hb hby d3_20)
    refine WinW.to T153 (mkF m 23 #[.val (.ref a1), .val (.ref c1), .val (.int (0 : Int32)), .val (.int n.toInt32), .val .null, .unset] [(.int (0 : Int32)), (.ref a1)]) (fun _ k => st153 _ k) ?_
    have F154 : Exa Z h146 a1 "java/lang/String" := (Exa.ext E146 F147)
    have F155 : Fld Z h146 a1 "java/lang/String" "coder" "B" (.int (0 : Int32)) := (Fld.ext E146 (Fld.other W137 (Fld.ext E126 F2) (Or.inr (slot_ne (Or.inr (wk hw 22 rfl)) (Or.inr (wk hw 21 rfl)) (by decide) (t := .byte) (t' := (.array .byte)) (by decide) (by decide)))))
    obtain ⟨T156, h156, X156, e156, W156, st156⟩ := putFN X153 hx hZ146 hown146 (wk hw 26 rfl) Via.refl e153 F155 F154 (Or.inr ⟨(wk hw 22 rfl), rfl, hnm⟩) (wk hw 7 rfl) (ty := .byte) (v' := (.int (0 : Int32))) (by decide) rfl rfl (g := (mkF m 23 #[.val (.ref a1), .val (.ref c1), .val (.int (0 : Int32)), .val (.int n.toInt32), .val .null, .unset] [(.int (0 : Int32)), (.ref a1)])) rfl rfl (hb hby d3_23)
    have O158 := Old.wr O148 W156 g1
    have hk159 := Nat.le_trans hk146 (Nat.le_of_eq (Wr.size W156).symm)
    have K160 : Keep h0 h156 [a1] := K149.wr W156 (Or.inl (List.mem_of_getElem? (i := 0) rfl))
    have N161 := Fr.snoc X156 N142 g1
    have c162 := CHr.wr W156 S152 C151.1
    have C163 := CHr.trans C151 c162
    have S164 := CHr.safe c162 F154.lt S152
    have F157 : Fld Z h156 a1 "java/lang/String" "coder" "B" (.int (0 : Int32)) := Fld.same W156 F155
    refine WinW.to T156 (mkF m 26 #[.val (.ref a1), .val (.ref c1), .val (.int (0 : Int32)), .val (.int n.toInt32), .val .null, .unset] []) (fun _ k => st156 _ k) ?_
    have F165 : Fld Z h156 a1 "java/lang/String" "value" "[B" (.ref d126) := (Fld.other W156 (Fld.ext E146 F138) (Or.inr (slot_ne (Or.inr (wk hw 21 rfl)) (Or.inr (wk hw 22 rfl)) (by decide) (t := (.array .byte)) (t' := .byte) (by decide) (by decide))))
    have F166 : Arv Z h156 d126 kk126 .byte (0 : Int32) [] (.int 0) := (((Fa126.other W137 (Ne.symm q126_a1.2)).ext E146).other W156 (Ne.symm q126_a1.2))
    have F167 : ArF Z h156 d126 kk126 .byte 0 (fun i => ([] : List Int32).getD i 0) := own_arf [] F166 rfl
    have F168 : ArF Z h156 d126 kk126 .byte n (fun i => (f i).toInt8.toInt32) := by rw [hz]; exact ArF.cong F167 fun i hi => absurd hi (Nat.not_lt_zero _)
    exact WinW.retV X156 hS146 (by rw [e156]; exact hk159) hx hlk hret (hb hby d3_26) hZ146 (own_EW hw) (by rw [e156]; exact C163) (by decide) (by decide) (by (try rw [e156]); exact ⟨d126, kk126, rfl, N161, K160, F165, F157, F168⟩)
  · refine WinW.to T123 (mkF m 27 #[.val (.ref a1), .val (.ref c1), .val (.int (0 : Int32)), .val (.int n.toInt32), .val .null, .unset] []) (fun _ k => XS.ifYes X123.here hx rfl (pc0 := 5) (pc' := 27) rfl (hb hby d3_5) rfl ((if0 _ _).trans (feq hc124).2) (by decide) (by decide) k) ?_
    obtain ⟨T169, X169, e169, st169⟩ := getS2 X123 hx hZ hown (host := "") (Or.inl (wk hw 87 rfl)) Via.refl e123 (Sta.ext O0.2 S_CS) (g := (mkF m 27 #[.val (.ref a1), .val (.ref c1), .val (.int (0 : Int32)), .val (.int n.toInt32), .val .null, .unset] [])) rfl (hb hby d3_27)
    refine WinW.to T169 (mkF m 30 #[.val (.ref a1), .val (.ref c1), .val (.int (0 : Int32)), .val (.int n.toInt32), .val .null, .unset] [(.int cs)]) (fun _ k => st169 _ k) ?_
    refine WinW.to T169 (mkF m 33 #[.val (.ref a1), .val (.ref c1), .val (.int (0 : Int32)), .val (.int n.toInt32), .val .null, .unset] []) (fun _ k => XS.ifNo X169.here hx rfl (hb hby d3_30) rfl ((if0 _ _).trans (feq (show ¬ (cs = (0 : Int32)) from hcs)).1) k) ?_
    refine WinW.to T169 (mkF m 34 #[.val (.ref a1), .val (.ref c1), .val (.int (0 : Int32)), .val (.int n.toInt32), .val .null, .unset] [(.ref c1)]) (fun _ k => XS.aloadN X169.here hx rfl (hb hby d3_33) rfl rfl k) ?_
    refine WinW.to T169 (mkF m 35 #[.val (.ref a1), .val (.ref c1), .val (.int (0 : Int32)), .val (.int n.toInt32), .val .null, .unset] [(.int (0 : Int32)), (.ref c1)]) (fun _ k => XS.iloadN X169.here hx rfl (hb hby d3_34) rfl k) ?_
    refine WinW.to T169 (mkF m 36 #[.val (.ref a1), .val (.ref c1), .val (.int (0 : Int32)), .val (.int n.toInt32), .val .null, .unset] [(.int n.toInt32), (.int (0 : Int32)), (.ref c1)]) (fun _ k => XS.iloadN X169.here hx rfl (hb hby d3_35) rfl k) ?_
    obtain ⟨T170, h170, v170, L170, X170, e170, ⟨t_170, kb_170, rfl, N170q, r170_0, r170_1, r170_2⟩, st170⟩ := N.static X169 hx hZ (y := (⟨"java/lang/StringUTF16", "compress", "([CII)[B"⟩ : MethodName)) hown (wk hw 131 rfl) (wk hw 132 rfl) (wk hw 133 rfl) (wk hw 134 rfl) (by decide) (comp l Z a0 hw c1 kc n f h0 n0 O0 Fc hp hcap) e169 (g := (mkF m 36 #[.val (.ref a1), .val (.ref c1), .val (.int (0 : Int32)), .val (.int n.toInt32), .val .null, .unset] [(.int n.toInt32), (.int (0 : Int32)), (.ref c1)])) rfl (by rw [hml]; rfl) (argsL := [(.ref c1), (.int (0 : Int32)), (.int n.toInt32)]) (rest := []) rfl (lenOf pd___CII__B rfl) rfl (W := 0) (by show 2 * 0 + _ ≤ _; exact Nat.le_of_eq rfl) (hb hby d3_36) (by decide) (by decide) (by decide) (by decide)
    have N171 := Fr.app N0 N170q
    have ne172 : a1 ≠ t_170 := Nat.ne_of_lt (Nat.lt_of_lt_of_le E1.lt r170_1)
    have ne173 : c1 ≠ t_170 := Nat.ne_of_lt (Nat.lt_of_lt_of_le Fc.lt r170_1)
    have g174 : n0 ≤ t_170 := Nat.le_trans (own_le O0) r170_1
    have z175 : h0.size ≤ t_170 := r170_1
    have O176 := Old.keep O0 r170_0 all0
    have K177 : Keep h0 h170 [a1] := Keep.trans (Keep.refl h0 [a1]) r170_0 all0
    have c178 := CHr.keep r170_0 sf0 C0.1
    have C179 := CHr.trans C0 c178
    refine WinW.to T170 (mkF m 39 #[.val (.ref a1), .val (.ref c1), .val (.int (0 : Int32)), .val (.int n.toInt32), .val .null, .unset] [(.ref t_170)]) (fun _ k => st170 _ k) ?_
    refine WinW.to T170 (mkF m 41 #[.val (.ref a1), .val (.ref c1), .val (.int (0 : Int32)), .val (.int n.toInt32), .val .null, .val (.ref t_170)] []) (fun _ k => XS.astore X170.here hx rfl (hb hby d3_39) rfl rfl (l' := #[.val (.ref a1), .val (.ref c1), .val (.int (0 : Int32)), .val (.int n.toInt32), .val .null, .val (.ref t_170)]) rfl k) ?_
    refine WinW.to T170 (mkF m 42 #[.val (.ref a1), .val (.ref c1), .val (.int (0 : Int32)), .val (.int n.toInt32), .val .null, .val (.ref t_170)] [(.ref a1)]) (fun _ k => XS.aloadN X170.here hx rfl (hb hby d3_41) rfl rfl k) ?_
    refine WinW.to T170 (mkF m 44 #[.val (.ref a1), .val (.ref c1), .val (.int (0 : Int32)), .val (.int n.toInt32), .val .null, .val (.ref t_170)] [(.ref t_170), (.ref a1)]) (fun _ k => XS.aload X170.here hx rfl (hb hby d3_42) rfl rfl k) ?_
    refine WinW.to T170 (mkF m 45 #[.val (.ref a1), .val (.ref c1), .val (.int (0 : Int32)), .val (.int n.toInt32), .val .null, .val (.ref t_170)] [(.int n.toInt32), (.ref t_170), (.ref a1)]) (fun _ k => XS.iloadN X170.here hx rfl (hb hby d3_44) rfl k) ?_
    obtain ⟨T180, h180, v180, L180, X180, e180, ⟨rfl, N180q, r180_0⟩, st180⟩ := N.static X170 hx hZ (y := (⟨"java/lang/StringUTF16", "coderFromArrayLen", "([BI)B"⟩ : MethodName)) hown (wk hw 138 rfl) (wk hw 139 rfl) (wk hw 133 rfl) (wk hw 140 rfl) (by decide) (coder0 l Z a0 hw t_170 kb_170 n (fun i => (f i).toInt8.toInt32) h170 n0 O176 r170_2) e170 (g := (mkF m 45 #[.val (.ref a1), .val (.ref c1), .val (.int (0 : Int32)), .val (.int n.toInt32), .val .null, .val (.ref t_170)] [(.int n.toInt32), (.ref t_170), (.ref a1)])) rfl (by rw [hml]; rfl) (argsL := [(.ref t_170), (.int n.toInt32)]) (rest := [(.ref a1)]) rfl (lenOf pd___BI_B rfl) rfl (W := 1) (by show 2 * 0 + _ ≤ _; exact Nat.le_of_eq rfl) (hb hby d3_45) (by decide) (by decide) (by decide) (by decide)
    have N181 := Fr.app N171 N180q
    have e180 := e180.trans r180_0
    refine WinW.to T180 (mkF m 48 #[.val (.ref a1), .val (.ref c1), .val (.int (0 : Int32)), .val (.int n.toInt32), .val .null, .val (.ref t_170)] [(.int (0 : Int32)), (.ref a1)]) (fun _ k => st180 _ k) ?_
    have F182 : Exa Z h170 a1 "java/lang/String" := (E1.keep r170_0)
    have F183 : Fld Z h170 a1 "java/lang/String" "coder" "B" (.int (0 : Int32)) := (F2.keep r170_0 nin0)
    have F184 : ArF Z h170 c1 kc .char n f := (Fc.keep r170_0 nin0)
    have ne185 : a1 ≠ c1 := own_neF F182 F184 (wk hw 7 rfl)
    have F186 : Fld Z h170 a1 "java/lang/String" "value" "[B" .null := (F1.keep r170_0 nin0)
    have S187 : Safe Z EL1 (s.setVm s.vm).vm h170 a1 := own_safe hZ.alike F182 F186 (wk hw 7 rfl)
    obtain ⟨T188, h188, X188, e188, W188, st188⟩ := putFN X180 hx hZ hown (wk hw 26 rfl) Via.refl e180 F183 F182 (Or.inr ⟨(wk hw 22 rfl), rfl, hnm⟩) (wk hw 7 rfl) (ty := .byte) (v' := (.int (0 : Int32))) (by decide) rfl rfl (g := (mkF m 48 #[.val (.ref a1), .val (.ref c1), .val (.int (0 : Int32)), .val (.int n.toInt32), .val .null, .val (.ref t_170)] [(.int (0 : Int32)), (.ref a1)])) rfl rfl (hb hby d3_48)
    have O190 := Old.wr O176 W188 g1
    have K191 : Keep h0 h188 [a1] := K177.wr W188 (Or.inl (List.mem_of_getElem? (i := 0) rfl))
    have N192 := Fr.snoc X188 N181 g1
    have c193 := CHr.wr W188 S187 C179.1
    have C194 := CHr.trans C179 c193
    have S195 := CHr.safe c193 F182.lt S187
    have F189 : Fld Z h188 a1 "java/lang/String" "coder" "B" (.int (0 : Int32)) := Fld.same W188 F183
    refine WinW.to T188 (mkF m 51 #[.val (.ref a1), .val (.ref c1), .val (.int (0 : Int32)), .val (.int n.toInt32), .val .null, .val (.ref t_170)] []) (fun _ k => st188 _ k) ?_
    refine WinW.to T188 (mkF m 52 #[.val (.ref a1), .val (.ref c1), .val (.int (0 : Int32)), .val (.int n.toInt32), .val .null, .val (.ref t_170)] [(.ref a1)]) (fun _ k => XS.aloadN X188.here hx rfl (hb hby d3_51) rfl rfl k) ?_
    refine WinW.to T188 (mkF m 54 #[.val (.ref a1), .val (.ref c1), .val (.int (0 : Int32)), .val (.int n.toInt32), .val .null, .val (.ref t_170)] [(.ref t_170), (.ref a1)]) (fun _ k => XS.aload X188.here hx rfl (hb hby d3_52) rfl rfl k) ?_
    have F196 : Exa Z h188 a1 "java/lang/String" := (Exa.wr W188 F182)
    have F197 : Fld Z h188 a1 "java/lang/String" "value" "[B" .null := (Fld.other W188 F186 (Or.inr (slot_ne (Or.inr (wk hw 21 rfl)) (Or.inr (wk hw 22 rfl)) (by decide) (t := (.array .byte)) (t' := .byte) (by decide) (by decide))))
    obtain ⟨T198, h198, X198, e198, W198, st198⟩ := putF X188 hx hZ hown (host := "") (Or.inl (wk hw 25 rfl)) Via.refl e188 F197 F196 (Or.inr ⟨(wk hw 21 rfl), rfl, hnm⟩) (wk hw 7 rfl) (ty := (.array .byte)) (by decide) rfl rfl (g := (mkF m 54 #[.val (.ref a1), .val (.ref c1), .val (.int (0 : Int32)), .val (.int n.toInt32), .val .null, .val (.ref t_170)] [(.ref t_170), (.ref a1)])) rfl rfl (hb hby d3_54)
    have O200 := Old.wr O190 W198 g1
    have K201 : Keep h0 h198 [a1] := K191.wr W198 (Or.inl (List.mem_of_getElem? (i := 0) rfl))
    have N202 := Fr.snoc X198 N192 g1
    have c203 := CHr.wr W198 S195 C194.1
    have C204 := CHr.trans C194 c203
    have S205 := CHr.safe c203 F196.lt S195
    have F199 : Fld Z h198 a1 "java/lang/String" "value" "[B" (.ref t_170) := Fld.same W198 F197
    refine WinW.to T198 (mkF m 57 #[.val (.ref a1), .val (.ref c1), .val (.int (0 : Int32)), .val (.int n.toInt32), .val .null, .val (.ref t_170)] []) (fun _ k => st198 _ k) ?_
    have F206 : Fld Z h198 a1 "java/lang/String" "coder" "B" (.int (0 : Int32)) := (Fld.other W198 F189 (Or.inr (slot_ne (Or.inr (wk hw 22 rfl)) (Or.inr (wk hw 21 rfl)) (by decide) (t := .byte) (t' := (.array .byte)) (by decide) (by decide))))
    have F207 : ArF Z h198 t_170 kb_170 .byte n (fun i => (f i).toInt8.toInt32) := ((r170_2.other W188 (Ne.symm ne172)).other W198 (Ne.symm ne172))
    exact WinW.retV X198 hS0 (by rw [e198]; exact (Nat.zero_le _)) hx hlk hret (hb hby d3_57) hZ (own_EW hw) (by rw [e198]; exact C204) (by decide) (by decide) (by (try rw [e198]); exact ⟨t_170, kb_170, rfl, N202, K201, F199, F206, F207⟩)
abbrev R_ctor1 : Room := ⟨3, 4, 8, 52⟩
set_option maxRecDepth 65536 in
set_option maxHeartbeats 40000000 in
theorem ctor1 (l : Launch) (Z : State) (a0 : Array Value) (hw : ∀ d ∈ tables_1, d.before a0 Z = true) (a1 : Addr) (c1 : Addr) (kc : ClassId) (n : Nat) (f : Nat → Int32) (cs : Int32) (h0 : Heap) (n0 : Nat) (O0 : Old Z n0 h0) (E1 : Exa Z h0 a1 "java/lang/String") (F1 : Fld Z h0 a1 "java/lang/String" "value" "[B" .null) (F2 : Fld Z h0 a1 "java/lang/String" "coder" "B" (.int (0 : Int32))) (Fc : ArF Z h0 c1 kc .char n f) (hp : ∀ i, i < n → ¬ (255 : Int32) < f i) (hcap : n ≤ 4) (g1 : n0 ≤ a1) (S_CS : Sta Z Z.heap "java/lang/String" "COMPACT_STRINGS" "Z" (.int cs)) (hcs : ¬ (cs = (0 : Int32))) :
    MetW l Z (⟨"java/lang/String", "<init>", "([C)V"⟩ : MethodName) jdk_42_method_3_code 2 none R_ctor1 [] #[(.ref a1), (.ref c1)] h0 EL1 (fun v h L => ∃ (t : Addr) (kb : ClassId), v = none ∧ Fr n0 L ∧ Keep h0 h [a1] ∧ Fld Z h a1 "java/lang/String" "value" "[B" (.ref t) ∧ Fld Z h a1 "java/lang/String" "coder" "B" (.int (0 : Int32)) ∧ ArF Z h t kb .byte n (fun i => (f i).toInt8.toInt32)) := by
  refine MetW.walk (plainFor_of_name pn_2) ?_
  intro p e s m below meth c s₁ hx hZ hby hml hown hnm hret hlk C0 hS0 X0 e0
  have N0 := Fr.nil n0
  refine WinW.to s₁ (mkF m 0 #[.val (.ref a1), .val (.ref c1)] []) (fun _ k => castTop (by first | (simp [entryFrame, mkF, argsToLocals, Value.category]; done) | rfl) k) ?_
  refine WinW.to s₁ (mkF m 1 #[.val (.ref a1), .val (.ref c1)] [(.ref a1)]) (fun _ k => XS.aloadN X0.here hx rfl (hb hby d2_0) rfl rfl k) ?_
  refine WinW.to s₁ (mkF m 2 #[.val (.ref a1), .val (.ref c1)] [(.ref c1), (.ref a1)]) (fun _ k => XS.aloadN X0.here hx rfl (hb hby d2_1) rfl rfl k) ?_
  refine WinW.to s₁ (mkF m 3 #[.val (.ref a1), .val (.ref c1)] [(.int (0 : Int32)), (.ref c1), (.ref a1)]) (fun _ k => XS.iconst X0.here hx rfl (hb hby d2_2) k) ?_
  refine WinW.to s₁ (mkF m 4 #[.val (.ref a1), .val (.ref c1)] [(.ref c1), (.int (0 : Int32)), (.ref c1), (.ref a1)]) (fun _ k => XS.aloadN X0.here hx rfl (hb hby d2_3) rfl rfl k) ?_
  obtain ⟨cl208, Ar208, hl208⟩ := ArF.len Fc
  refine WinW.to s₁ (mkF m 5 #[.val (.ref a1), .val (.ref c1)] [(.int n.toInt32), (.int (0 : Int32)), (.ref c1), (.ref a1)]) (fun _ k => X0.arraylength hx (by rw [e0]; exact Ar208.1) (State.isArrayOf_alike hZ.alike Ar208.2.1) (g := (mkF m 4 #[.val (.ref a1), .val (.ref c1)] [(.ref c1), (.int (0 : Int32)), (.ref c1), (.ref a1)])) rfl rfl (hb hby d2_4) _ (by rw [hl208]; exact k)) ?_
  refine WinW.to s₁ (mkF m 6 #[.val (.ref a1), .val (.ref c1)] [.null, (.int n.toInt32), (.int (0 : Int32)), (.ref c1), (.ref a1)]) (fun _ k => XS.aconstNull X0.here hx rfl (hb hby d2_5) k) ?_
  obtain ⟨T209, h209, v209, L209, k209, X209, e209, hS209, hk209, hZ209, hown209, ⟨t_209, kb_209, rfl, N209q, r209_0, r209_1, r209_2, r209_3⟩, c209, st209⟩ := W.special X0 hS0 (Nat.zero_le _) hx hZ (y := (⟨"java/lang/String", "<init>", "([CIILjava/lang/Void;)V"⟩ : MethodName)) rfl hown (wk hw 12 rfl) (wk hw 13 rfl) (wk hw 8 rfl) (wk hw 15 rfl) (by decide) (ctor4 l Z a0 hw a1 c1 kc n f cs h0 n0 O0 E1 F1 F2 Fc hp hcap g1 S_CS hcs) (own_EW hw) C0.1 e0 (g := (mkF m 6 #[.val (.ref a1), .val (.ref c1)] [.null, (.int n.toInt32), (.int (0 : Int32)), (.ref c1), (.ref a1)])) rfl (by rw [hml]; rfl) (a := a1) (argsL := [(.ref c1), (.int (0 : Int32)), (.int n.toInt32), .null]) (rest := []) rfl (lenOf pd___CIILjava_lang_Void__V rfl) rfl (W := 0) (by show 2 * 0 + _ ≤ _; exact Nat.le_of_eq rfl) (hb hby d2_6) (by decide) (by decide) (by decide) (by decide)
  have N210 := Fr.app N0 N209q
  have O211 := Old.keep O0 r209_0 (allS g1 all0)
  have K212 : Keep h0 h209 [a1] := Keep.trans (Keep.refl h0 [a1]) r209_0 (allS (Or.inl (List.mem_of_getElem? (i := 0) rfl)) all0)
  have c213 := c209
  have C214 := CHr.trans C0 c213
  refine WinW.to T209 (mkF m 9 #[.val (.ref a1), .val (.ref c1)] []) (fun _ k => st209 _ k) ?_
  exact WinW.retV X209 hS209 (by rw [e209]; exact hk209) hx hlk hret (hb hby d2_9) hZ209 (own_EW hw) (by rw [e209]; exact C214) (by decide) (by decide) (by (try rw [e209]); exact ⟨t_209, kb_209, rfl, N210, K212, r209_1, r209_2, r209_3⟩)
abbrev R_minI : Room := ⟨0, 0, 0, 0⟩
set_option maxRecDepth 65536 in
set_option maxHeartbeats 40000000 in
theorem minI (l : Launch) (Z : State) (a0 : Array Value) (hw : ∀ d ∈ tables_1, d.before a0 Z = true) (p1 : Int32) (p2 : Int32) (r : Int32) (h0 : Heap) (n0 : Nat) (O0 : Old Z n0 h0) (h1 : p2 < p1 → r = p2) (h2 : ¬ p2 < p1 → r = p1) :
    MetN l Z (⟨"java/lang/Math", "min", "(II)I"⟩ : MethodName) jdk_29_method_69_code 2 (some .int) R_minI [] #[(.int p1), (.int p2)] h0 (fun v h L => v = some (.int r) ∧ Fr n0 L ∧ h = h0) := by
  refine MetN.walk (Jvm.Free.JP.mathPlain rfl (by decide +kernel)) ?_
  intro p e s m below meth c s₁ hx hZ hby hml hown hnm hret hlk X0 e0
  have N0 := Fr.nil n0
  refine Win.to s₁ (mkF m 0 #[.val (.int p1), .val (.int p2)] []) (fun _ k => castTop (by first | (simp [entryFrame, mkF, argsToLocals, Value.category]; done) | rfl) k) ?_
  refine Win.to s₁ (mkF m 1 #[.val (.int p1), .val (.int p2)] [(.int p1)]) (fun _ k => XS.iloadN X0.here hx rfl (hb hby d18_0) rfl k) ?_
  refine Win.to s₁ (mkF m 2 #[.val (.int p1), .val (.int p2)] [(.int p2), (.int p1)]) (fun _ k => XS.iloadN X0.here hx rfl (hb hby d18_1) rfl k) ?_
  by_cases hc215 : p2 < p1
  · refine Win.to s₁ (mkF m 9 #[.val (.int p1), .val (.int p2)] []) (fun _ k => XS.icmpYes X0.here hx rfl (pc0 := 2) (pc' := 9) rfl (hb hby d18_2) rfl (tlt hc215).2.2.1 (by decide) (by decide) k) ?_
    refine Win.to s₁ (mkF m 10 #[.val (.int p1), .val (.int p2)] [(.int p2)]) (fun _ k => XS.iloadN X0.here hx rfl (hb hby d18_9) rfl k) ?_
    exact Win.retI X0 hx hlk hret (hb hby d18_10) (by decide) (by decide) (by (try rw [e0]); exact ⟨(own_eqi (h1 hc215)), N0, rfl⟩)
  · refine Win.to s₁ (mkF m 5 #[.val (.int p1), .val (.int p2)] []) (fun _ k => XS.icmpNo X0.here hx rfl (hb hby d18_2) rfl (flt hc215).2.2.1 k) ?_
    refine Win.to s₁ (mkF m 6 #[.val (.int p1), .val (.int p2)] [(.int p1)]) (fun _ k => XS.iloadN X0.here hx rfl (hb hby d18_5) rfl k) ?_
    refine Win.to s₁ (mkF m 10 #[.val (.int p1), .val (.int p2)] [(.int p1)]) (fun _ k => XS.goto X0.here hx rfl (pc0 := 6) (pc' := 10) rfl (hb hby d18_6) (by decide) (by decide) k) ?_
    exact Win.retI X0 hx hlk hret (hb hby d18_10) (by decide) (by decide) (by (try rw [e0]); exact ⟨(own_eqi (h2 hc215)), N0, rfl⟩)
abbrev R_coderM : Room := ⟨0, 0, 0, 0⟩
set_option maxRecDepth 65536 in
set_option maxHeartbeats 40000000 in
theorem coderM (l : Launch) (Z : State) (a0 : Array Value) (hw : ∀ d ∈ tables_1, d.before a0 Z = true) (a1 : Addr) (cs : Int32) (h0 : Heap) (n0 : Nat) (O0 : Old Z n0 h0) (F2 : Fld Z h0 a1 "java/lang/String" "coder" "B" (.int (0 : Int32))) (S_CS : Sta Z Z.heap "java/lang/String" "COMPACT_STRINGS" "Z" (.int cs)) (hcs : ¬ (cs = (0 : Int32))) :
    MetN l Z (⟨"java/lang/String", "coder", "()B"⟩ : MethodName) jdk_42_method_152_code 1 (some .byte) R_coderM [] #[(.ref a1)] h0 (fun v h L => v = some (.int (0 : Int32)) ∧ Fr n0 L ∧ h = h0) := by
  refine MetN.walk (plainFor_of_name pn_13) ?_
  intro p e s m below meth c s₁ hx hZ hby hml hown hnm hret hlk X0 e0
  have N0 := Fr.nil n0
  refine Win.to s₁ (mkF m 0 #[.val (.ref a1)] []) (fun _ k => castTop (by first | (simp [entryFrame, mkF, argsToLocals, Value.category]; done) | rfl) k) ?_
  obtain ⟨T216, X216, e216, st216⟩ := getS2 X0 hx hZ hown (host := "") (Or.inl (wk hw 87 rfl)) Via.refl e0 (Sta.ext O0.2 S_CS) (g := (mkF m 0 #[.val (.ref a1)] [])) rfl (hb hby d13_0)
  refine Win.to T216 (mkF m 3 #[.val (.ref a1)] [(.int cs)]) (fun _ k => st216 _ k) ?_
  refine Win.to T216 (mkF m 6 #[.val (.ref a1)] []) (fun _ k => XS.ifNo X216.here hx rfl (hb hby d13_3) rfl ((if0 _ _).trans (feq (show ¬ (cs = (0 : Int32)) from hcs)).1) k) ?_
  refine Win.to T216 (mkF m 7 #[.val (.ref a1)] [(.ref a1)]) (fun _ k => XS.aloadN X216.here hx rfl (hb hby d13_6) rfl rfl k) ?_
  obtain ⟨T217, X217, e217, st217⟩ := getF X216 hx hZ hown (host := "") (Or.inl (wk hw 26 rfl)) Via.refl e216 F2 (g := (mkF m 7 #[.val (.ref a1)] [(.ref a1)])) rfl rfl (hb hby d13_7)
  refine Win.to T217 (mkF m 10 #[.val (.ref a1)] [(.int (0 : Int32))]) (fun _ k => st217 _ k) ?_
  refine Win.to T217 (mkF m 14 #[.val (.ref a1)] [(.int (0 : Int32))]) (fun _ k => XS.goto X217.here hx rfl (pc0 := 10) (pc' := 14) rfl (hb hby d13_10) (by decide) (by decide) k) ?_
  exact Win.retN X217 hx hlk (t := .byte) hret (by simp) rfl (hb hby d13_14) (by decide) (by decide) (by (try rw [e217]); exact ⟨rfl, N0, rfl⟩)
abbrev R_strLen : Room := ⟨1, 0, 0, 13⟩
set_option maxRecDepth 65536 in
set_option maxHeartbeats 40000000 in
theorem strLen (l : Launch) (Z : State) (a0 : Array Value) (hw : ∀ d ∈ tables_1, d.before a0 Z = true) (a1 : Addr) (t1 : Addr) (k1 : ClassId) (n : Nat) (f : Nat → Int32) (cs : Int32) (h0 : Heap) (n0 : Nat) (O0 : Old Z n0 h0) (E1 : Exa Z h0 a1 "java/lang/String") (F1 : Fld Z h0 a1 "java/lang/String" "value" "[B" (.ref t1)) (F2 : Fld Z h0 a1 "java/lang/String" "coder" "B" (.int (0 : Int32))) (Fa : ArF Z h0 t1 k1 .byte n f) (S_CS : Sta Z Z.heap "java/lang/String" "COMPACT_STRINGS" "Z" (.int cs)) (hcs : ¬ (cs = (0 : Int32))) :
    MetN l Z (⟨"java/lang/String", "length", "()I"⟩ : MethodName) jdk_42_method_54_code 1 (some .int) R_strLen [] #[(.ref a1)] h0 (fun v h L => v = some (.int n.toInt32) ∧ Fr n0 L ∧ h = h0) := by
  refine MetN.walk (plainFor_of_name pn_12) ?_
  intro p e s m below meth c s₁ hx hZ hby hml hown hnm hret hlk X0 e0
  have N0 := Fr.nil n0
  refine Win.to s₁ (mkF m 0 #[.val (.ref a1)] []) (fun _ k => castTop (by first | (simp [entryFrame, mkF, argsToLocals, Value.category]; done) | rfl) k) ?_
  refine Win.to s₁ (mkF m 1 #[.val (.ref a1)] [(.ref a1)]) (fun _ k => XS.aloadN X0.here hx rfl (hb hby d12_0) rfl rfl k) ?_
  obtain ⟨T218, X218, e218, st218⟩ := getF X0 hx hZ hown (host := "") (Or.inl (wk hw 25 rfl)) Via.refl e0 F1 (g := (mkF m 1 #[.val (.ref a1)] [(.ref a1)])) rfl rfl (hb hby d12_1)
  refine Win.to T218 (mkF m 4 #[.val (.ref a1)] [(.ref t1)]) (fun _ k => st218 _ k) ?_
  obtain ⟨cl219, Ar219, hl219⟩ := ArF.len Fa
  refine Win.to T218 (mkF m 5 #[.val (.ref a1)] [(.int n.toInt32)]) (fun _ k => X218.arraylength hx (by rw [e218]; exact Ar219.1) (State.isArrayOf_alike hZ.alike Ar219.2.1) (g := (mkF m 4 #[.val (.ref a1)] [(.ref t1)])) rfl rfl (hb hby d12_4) _ (by rw [hl219]; exact k)) ?_
  refine Win.to T218 (mkF m 6 #[.val (.ref a1)] [(.ref a1), (.int n.toInt32)]) (fun _ k => XS.aloadN X218.here hx rfl (hb hby d12_5) rfl rfl k) ?_
  obtain ⟨T220, h220, v220, L220, X220, e220, ⟨rfl, N220q, r220_0⟩, st220⟩ := N.virtual X218 hx hZ (y := (⟨"java/lang/String", "coder", "()B"⟩ : MethodName)) (z := (⟨"java/lang/String", "coder", "()B"⟩ : MethodName)) hown (wk hw 82 rfl) (wk hw 83 rfl) (notFace_of_selects (args := #[]) (mvT hZ (wk hw 85 rfl))) (wk hw 85 rfl) (wk hw 84 rfl) (wk hw 8 rfl) (wk hw 86 rfl) (by decide) (coderM l Z a0 hw a1 cs h0 n0 O0 F2 S_CS hcs) e218 E1 (g := (mkF m 6 #[.val (.ref a1)] [(.ref a1), (.int n.toInt32)])) rfl (by rw [hml]; rfl) (argsL := []) (rest := [(.int n.toInt32)]) rfl (lenOf pd___B rfl) rfl (W := 1) (by show 2 * 0 + _ ≤ _; exact Nat.le_of_eq rfl) (hb hby d12_6) (by decide) (by decide) (by decide) (by decide)
  have N221 := Fr.app N0 N220q
  have e220 := e220.trans r220_0
  refine Win.to T220 (mkF m 9 #[.val (.ref a1)] [(.int (0 : Int32)), (.int n.toInt32)]) (fun _ k => st220 _ k) ?_
  refine Win.to T220 (mkF m 10 #[.val (.ref a1)] [(.int n.toInt32)]) (fun _ k => XS.ishr X220.here hx rfl (hb hby d12_9) rfl (by rw [show (n.toInt32 >>> ((0 : Int32) &&& 31)) = n.toInt32 from own_shr0 _]; exact k)) ?_
  exact Win.retI X220 hx hlk hret (hb hby d12_10) (by decide) (by decide) (by (try rw [e220]); exact ⟨rfl, N221, rfl⟩)
abbrev R_isLat : Room := ⟨0, 0, 0, 0⟩
set_option maxRecDepth 65536 in
set_option maxHeartbeats 40000000 in
theorem isLat (l : Launch) (Z : State) (a0 : Array Value) (hw : ∀ d ∈ tables_1, d.before a0 Z = true) (a1 : Addr) (cs : Int32) (h0 : Heap) (n0 : Nat) (O0 : Old Z n0 h0) (F2 : Fld Z h0 a1 "java/lang/String" "coder" "B" (.int (0 : Int32))) (S_CS : Sta Z Z.heap "java/lang/String" "COMPACT_STRINGS" "Z" (.int cs)) (hcs : ¬ (cs = (0 : Int32))) :
    MetN l Z (⟨"java/lang/String", "isLatin1", "()Z"⟩ : MethodName) jdk_42_method_154_code 1 (some .boolean) R_isLat [] #[(.ref a1)] h0 (fun v h L => v = some (.int (1 : Int32)) ∧ Fr n0 L ∧ h = h0) := by
  refine MetN.walk (plainFor_of_name pn_15) ?_
  intro p e s m below meth c s₁ hx hZ hby hml hown hnm hret hlk X0 e0
  have N0 := Fr.nil n0
  refine Win.to s₁ (mkF m 0 #[.val (.ref a1)] []) (fun _ k => castTop (by first | (simp [entryFrame, mkF, argsToLocals, Value.category]; done) | rfl) k) ?_
  obtain ⟨T222, X222, e222, st222⟩ := getS2 X0 hx hZ hown (host := "") (Or.inl (wk hw 87 rfl)) Via.refl e0 (Sta.ext O0.2 S_CS) (g := (mkF m 0 #[.val (.ref a1)] [])) rfl (hb hby d15_0)
  refine Win.to T222 (mkF m 3 #[.val (.ref a1)] [(.int cs)]) (fun _ k => st222 _ k) ?_
  refine Win.to T222 (mkF m 6 #[.val (.ref a1)] []) (fun _ k => XS.ifNo X222.here hx rfl (hb hby d15_3) rfl ((if0 _ _).trans (feq (show ¬ (cs = (0 : Int32)) from hcs)).1) k) ?_
  refine Win.to T222 (mkF m 7 #[.val (.ref a1)] [(.ref a1)]) (fun _ k => XS.aloadN X222.here hx rfl (hb hby d15_6) rfl rfl k) ?_
  obtain ⟨T223, X223, e223, st223⟩ := getF X222 hx hZ hown (host := "") (Or.inl (wk hw 26 rfl)) Via.refl e222 F2 (g := (mkF m 7 #[.val (.ref a1)] [(.ref a1)])) rfl rfl (hb hby d15_7)
  refine Win.to T223 (mkF m 10 #[.val (.ref a1)] [(.int (0 : Int32))]) (fun _ k => st223 _ k) ?_
  refine Win.to T223 (mkF m 13 #[.val (.ref a1)] []) (fun _ k => XS.ifNo X223.here hx rfl (hb hby d15_10) rfl ((if0 _ _).trans (teq (show (0 : Int32) = (0 : Int32) from by decide)).2) k) ?_
  refine Win.to T223 (mkF m 14 #[.val (.ref a1)] [(.int (1 : Int32))]) (fun _ k => XS.iconst X223.here hx rfl (hb hby d15_13) k) ?_
  refine Win.to T223 (mkF m 18 #[.val (.ref a1)] [(.int (1 : Int32))]) (fun _ k => XS.goto X223.here hx rfl (pc0 := 14) (pc' := 18) rfl (hb hby d15_14) (by decide) (by decide) k) ?_
  exact Win.retN X223 hx hlk (t := .boolean) hret (by simp) rfl (hb hby d15_18) (by decide) (by decide) (by (try rw [e223]); exact ⟨rfl, N0, rfl⟩)
abbrev R_canEnc : Room := ⟨0, 0, 0, 0⟩
set_option maxRecDepth 65536 in
set_option maxHeartbeats 40000000 in
theorem canEnc (l : Launch) (Z : State) (a0 : Array Value) (hw : ∀ d ∈ tables_1, d.before a0 Z = true) (h0 : Heap) (n0 : Nat) (O0 : Old Z n0 h0)  :
    MetN l Z (⟨"java/lang/StringLatin1", "canEncode", "(I)Z"⟩ : MethodName) jdk_43_method_4_code 1 (some .boolean) R_canEnc [] #[(.int (32 : Int32))] h0 (fun v h L => v = some (.int (1 : Int32)) ∧ Fr n0 L ∧ h = h0) := by
  refine MetN.walk (plainFor_of_name pn_17) ?_
  intro p e s m below meth c s₁ hx hZ hby hml hown hnm hret hlk X0 e0
  have N0 := Fr.nil n0
  refine Win.to s₁ (mkF m 0 #[.val (.int (32 : Int32))] []) (fun _ k => castTop (by first | (simp [entryFrame, mkF, argsToLocals, Value.category]; done) | rfl) k) ?_
  refine Win.to s₁ (mkF m 1 #[.val (.int (32 : Int32))] [(.int (32 : Int32))]) (fun _ k => XS.iloadN X0.here hx rfl (hb hby d17_0) rfl k) ?_
  refine Win.to s₁ (mkF m 4 #[.val (.int (32 : Int32))] []) (fun _ k => XS.ifNo X0.here hx rfl (hb hby d17_1) rfl ((if0 _ _).trans (flt (show ¬ ((32 : Int32) < (0 : Int32)) from by decide)).1) k) ?_
  refine Win.to s₁ (mkF m 5 #[.val (.int (32 : Int32))] [(.int (32 : Int32))]) (fun _ k => XS.iloadN X0.here hx rfl (hb hby d17_4) rfl k) ?_
  refine Win.to s₁ (mkF m 8 #[.val (.int (32 : Int32))] [(.int (255 : Int32)), (.int (32 : Int32))]) (fun _ k => XS.sipush X0.here hx rfl (hb hby d17_5) k) ?_
  refine Win.to s₁ (mkF m 11 #[.val (.int (32 : Int32))] []) (fun _ k => XS.icmpNo X0.here hx rfl (hb hby d17_8) rfl (flt (show ¬ ((255 : Int32) < (32 : Int32)) from by decide)).2.2.1 k) ?_
  refine Win.to s₁ (mkF m 12 #[.val (.int (32 : Int32))] [(.int (1 : Int32))]) (fun _ k => XS.iconst X0.here hx rfl (hb hby d17_11) k) ?_
  refine Win.to s₁ (mkF m 16 #[.val (.int (32 : Int32))] [(.int (1 : Int32))]) (fun _ k => XS.goto X0.here hx rfl (pc0 := 12) (pc' := 16) rfl (hb hby d17_12) (by decide) (by decide) k) ?_
  exact Win.retN X0 hx hlk (t := .boolean) hret (by simp) rfl (hb hby d17_16) (by decide) (by decide) (by (try rw [e0]); exact ⟨rfl, N0, rfl⟩)
abbrev R_lastL1 : Room := ⟨1, 0, 0, 13⟩
set_option maxRecDepth 65536 in
set_option maxHeartbeats 40000000 in
theorem lastL1 (l : Launch) (Z : State) (a0 : Array Value) (hw : ∀ d ∈ tables_1, d.before a0 Z = true) (b1 : Addr) (k1 : ClassId) (n : Nat) (f : Nat → Int32) (b : Nat) (h0 : Heap) (n0 : Nat) (O0 : Old Z n0 h0) (Fa : ArF Z h0 b1 k1 .byte n f) (hbn : b ≤ n) (haft : ∀ i, b ≤ i → i < n → ¬ (f i) = (32 : Int32)) (hat : 0 < b → (f (b - 1)) = (32 : Int32)) :
    MetN l Z (⟨"java/lang/StringLatin1", "lastIndexOf", "([BII)I"⟩ : MethodName) jdk_43_method_27_code 4 (some .int) R_lastL1 [] #[(.ref b1), (.int (32 : Int32)), (.int (n.toInt32 - (1 : Int32)))] h0 (fun v h L => v = some (.int (b.toInt32 - (1 : Int32))) ∧ Fr n0 L ∧ h = h0) := by
  refine MetN.walk (plainFor_of_name pn_16) ?_
  intro p e s m below meth c s₁ hx hZ hby hml hown hnm hret hlk X0 e0
  have N0 := Fr.nil n0
  refine Win.to s₁ (mkF m 0 #[.val (.ref b1), .val (.int (32 : Int32)), .val (.int (n.toInt32 - (1 : Int32))), .unset] []) (fun _ k => castTop (by first | (simp [entryFrame, mkF, argsToLocals, Value.category]; done) | rfl) k) ?_
  have hn := Fa.big
  refine Win.to s₁ (mkF m 1 #[.val (.ref b1), .val (.int (32 : Int32)), .val (.int (n.toInt32 - (1 : Int32))), .unset] [(.int (32 : Int32))]) (fun _ k => XS.iloadN X0.here hx rfl (hb hby d16_0) rfl k) ?_
  obtain ⟨T224, h224, v224, L224, X224, e224, ⟨rfl, N224q, r224_0⟩, st224⟩ := N.static X0 hx hZ (y := (⟨"java/lang/StringLatin1", "canEncode", "(I)Z"⟩ : MethodName)) hown (wk hw 102 rfl) (wk hw 103 rfl) (wk hw 100 rfl) (wk hw 104 rfl) (by decide) (canEnc l Z a0 hw  h0 n0 O0 ) e0 (g := (mkF m 1 #[.val (.ref b1), .val (.int (32 : Int32)), .val (.int (n.toInt32 - (1 : Int32))), .unset] [(.int (32 : Int32))])) rfl (by rw [hml]; rfl) (argsL := [(.int (32 : Int32))]) (rest := []) rfl (lenOf pd__I_Z rfl) rfl (W := 0) (by show 2 * 0 + _ ≤ _; exact Nat.le_of_eq rfl) (hb hby d16_1) (by decide) (by decide) (by decide) (by decide)
  have N225 := Fr.app N0 N224q
  have e224 := e224.trans r224_0
  refine Win.to T224 (mkF m 4 #[.val (.ref b1), .val (.int (32 : Int32)), .val (.int (n.toInt32 - (1 : Int32))), .unset] [(.int (1 : Int32))]) (fun _ k => st224 _ k) ?_
  refine Win.to T224 (mkF m 9 #[.val (.ref b1), .val (.int (32 : Int32)), .val (.int (n.toInt32 - (1 : Int32))), .unset] []) (fun _ k => XS.ifYes X224.here hx rfl (pc0 := 4) (pc' := 9) rfl (hb hby d16_4) rfl ((if0 _ _).trans (feq (show ¬ ((1 : Int32) = (0 : Int32)) from by decide)).2) (by decide) (by decide) k) ?_
  refine Win.to T224 (mkF m 10 #[.val (.ref b1), .val (.int (32 : Int32)), .val (.int (n.toInt32 - (1 : Int32))), .unset] [(.int (n.toInt32 - (1 : Int32)))]) (fun _ k => XS.iloadN X224.here hx rfl (hb hby d16_9) rfl k) ?_
  refine Win.to T224 (mkF m 11 #[.val (.ref b1), .val (.int (32 : Int32)), .val (.int (n.toInt32 - (1 : Int32))), .unset] [(.ref b1), (.int (n.toInt32 - (1 : Int32)))]) (fun _ k => XS.aloadN X224.here hx rfl (hb hby d16_10) rfl rfl k) ?_
  obtain ⟨cl226, Ar226, hl226⟩ := ArF.len Fa
  refine Win.to T224 (mkF m 12 #[.val (.ref b1), .val (.int (32 : Int32)), .val (.int (n.toInt32 - (1 : Int32))), .unset] [(.int n.toInt32), (.int (n.toInt32 - (1 : Int32)))]) (fun _ k => X224.arraylength hx (by rw [e224]; exact Ar226.1) (State.isArrayOf_alike hZ.alike Ar226.2.1) (g := (mkF m 11 #[.val (.ref b1), .val (.int (32 : Int32)), .val (.int (n.toInt32 - (1 : Int32))), .unset] [(.ref b1), (.int (n.toInt32 - (1 : Int32)))])) rfl rfl (hb hby d16_11) _ (by rw [hl226]; exact k)) ?_
  refine Win.to T224 (mkF m 13 #[.val (.ref b1), .val (.int (32 : Int32)), .val (.int (n.toInt32 - (1 : Int32))), .unset] [(.int (1 : Int32)), (.int n.toInt32), (.int (n.toInt32 - (1 : Int32)))]) (fun _ k => XS.iconst X224.here hx rfl (hb hby d16_12) k) ?_
  refine Win.to T224 (mkF m 14 #[.val (.ref b1), .val (.int (32 : Int32)), .val (.int (n.toInt32 - (1 : Int32))), .unset] [(.int (n.toInt32 - (1 : Int32))), (.int (n.toInt32 - (1 : Int32)))]) (fun _ k => XS.isub X224.here hx rfl (hb hby d16_13) rfl k) ?_
  obtain ⟨T227, h227, v227, L227, X227, e227, ⟨rfl, N227q, r227_0⟩, st227⟩ := N.static X224 hx hZ (y := (⟨"java/lang/Math", "min", "(II)I"⟩ : MethodName)) hown (wk hw 105 rfl) (wk hw 106 rfl) (wk hw 107 rfl) (wk hw 108 rfl) (by decide) (minI l Z a0 hw (n.toInt32 - (1 : Int32)) (n.toInt32 - (1 : Int32)) (n.toInt32 - (1 : Int32)) h0 n0 O0 (fun _ => rfl) (fun _ => rfl)) e224 (g := (mkF m 14 #[.val (.ref b1), .val (.int (32 : Int32)), .val (.int (n.toInt32 - (1 : Int32))), .unset] [(.int (n.toInt32 - (1 : Int32))), (.int (n.toInt32 - (1 : Int32)))])) rfl (by rw [hml]; rfl) (argsL := [(.int (n.toInt32 - (1 : Int32))), (.int (n.toInt32 - (1 : Int32)))]) (rest := []) rfl (lenOf pd__II_I rfl) rfl (W := 0) (by show 2 * 0 + _ ≤ _; exact Nat.le_of_eq rfl) (hb hby d16_14) (by decide) (by decide) (by decide) (by decide)
  have N228 := Fr.app N225 N227q
  have e227 := e227.trans r227_0
  refine Win.to T227 (mkF m 17 #[.val (.ref b1), .val (.int (32 : Int32)), .val (.int (n.toInt32 - (1 : Int32))), .unset] [(.int (n.toInt32 - (1 : Int32)))]) (fun _ k => st227 _ k) ?_
  refine Win.to T227 (mkF m 18 #[.val (.ref b1), .val (.int (32 : Int32)), .val (.int (n.toInt32 - (1 : Int32))), .val (.int (n.toInt32 - (1 : Int32)))] []) (fun _ k => XS.istoreN X227.here hx rfl (hb hby d16_17) rfl (l' := #[.val (.ref b1), .val (.int (32 : Int32)), .val (.int (n.toInt32 - (1 : Int32))), .val (.int (n.toInt32 - (1 : Int32)))]) rfl k) ?_
  have loop : ∀ (q j : Nat), j = b + q → j ≤ n → Win p e below s R_lastL1 (fun v h L => v = some (.int (b.toInt32 - (1 : Int32))) ∧ Fr n0 L ∧ h = h0) (T227.setTop (mkF m 18 #[.val (.ref b1), .val (.int (32 : Int32)), .val (.int (n.toInt32 - (1 : Int32))), .val (.int (j.toInt32 - (1 : Int32)))] [])) := by
    intro q
    induction q with
    | zero =>
      intro j hj hjn
      obtain rfl : j = b := by omega
      rcases Nat.eq_zero_or_pos j with hz | hpos
      · refine Win.to T227 (mkF m 19 #[.val (.ref b1), .val (.int (32 : Int32)), .val (.int (n.toInt32 - (1 : Int32))), .val (.int (j.toInt32 - (1 : Int32)))] [(.int (j.toInt32 - (1 : Int32)))]) (fun _ k => XS.iloadN X227.here hx rfl (hb hby d16_18) rfl k) ?_
        refine Win.to T227 (mkF m 38 #[.val (.ref b1), .val (.int (32 : Int32)), .val (.int (n.toInt32 - (1 : Int32))), .val (.int (j.toInt32 - (1 : Int32)))] []) (fun _ k => XS.ifYes X227.here hx rfl (pc0 := 19) (pc' := 38) rfl (hb hby d16_19) rfl ((if0 _ _).trans (tlt (show (j.toInt32 - (1 : Int32)) < (0 : Int32) from (by rw [hz]; decide))).1) (by decide) (by decide) k) ?_
        refine Win.to T227 (mkF m 39 #[.val (.ref b1), .val (.int (32 : Int32)), .val (.int (n.toInt32 - (1 : Int32))), .val (.int (j.toInt32 - (1 : Int32)))] [(.int (-1 : Int32))]) (fun _ k => XS.iconst X227.here hx rfl (hb hby d16_38) k) ?_
        exact Win.retI X227 hx hlk hret (hb hby d16_39) (by decide) (by decide) (by (try rw [e227]); exact ⟨(by rw [hz]; rfl), N228, rfl⟩)
      · have hj2 : j < 2 ^ 31 := by omega
        refine Win.to T227 (mkF m 19 #[.val (.ref b1), .val (.int (32 : Int32)), .val (.int (n.toInt32 - (1 : Int32))), .val (.int (j.toInt32 - (1 : Int32)))] [(.int (j.toInt32 - (1 : Int32)))]) (fun _ k => XS.iloadN X227.here hx rfl (hb hby d16_18) rfl k) ?_
        refine Win.to T227 (mkF m 22 #[.val (.ref b1), .val (.int (32 : Int32)), .val (.int (n.toInt32 - (1 : Int32))), .val (.int (j.toInt32 - (1 : Int32)))] []) (fun _ k => XS.ifNo X227.here hx rfl (hb hby d16_19) rfl ((if0 _ _).trans (flt (show ¬ ((j.toInt32 - (1 : Int32)) < (0 : Int32)) from (own_pre hj2 hpos).2.1)).1) k) ?_
        refine Win.to T227 (mkF m 23 #[.val (.ref b1), .val (.int (32 : Int32)), .val (.int (n.toInt32 - (1 : Int32))), .val (.int (j.toInt32 - (1 : Int32)))] [(.ref b1)]) (fun _ k => XS.aloadN X227.here hx rfl (hb hby d16_22) rfl rfl k) ?_
        refine Win.to T227 (mkF m 24 #[.val (.ref b1), .val (.int (32 : Int32)), .val (.int (n.toInt32 - (1 : Int32))), .val (.int (j.toInt32 - (1 : Int32)))] [(.int (j.toInt32 - (1 : Int32))), (.ref b1)]) (fun _ k => XS.iloadN X227.here hx rfl (hb hby d16_23) rfl k) ?_
        obtain ⟨cl229, Ar229, hi229, ha229⟩ := ArF.at Fa (j := (j.toInt32 - (1 : Int32))) (i := (j - 1)) (own_pre hj2 hpos).1 (own_pre hj2 hpos).2.1 (by omega)
        refine Win.to T227 (mkF m 25 #[.val (.ref b1), .val (.int (32 : Int32)), .val (.int (n.toInt32 - (1 : Int32))), .val (.int (j.toInt32 - (1 : Int32)))] [(.int (f (j - 1)))]) (fun _ k => X227.baloadBytes hx (j := (j.toInt32 - (1 : Int32))) (v := (.int (f (j - 1)))) (by rw [e227]; exact Ar229.1) (State.isArrayOf_alike hZ.alike Ar229.2.1) Ar229.2.2 hi229 ha229 (g := (mkF m 24 #[.val (.ref b1), .val (.int (32 : Int32)), .val (.int (n.toInt32 - (1 : Int32))), .val (.int (j.toInt32 - (1 : Int32)))] [(.int (j.toInt32 - (1 : Int32))), (.ref b1)])) rfl rfl (hb hby d16_24) _ k) ?_
        refine Win.to T227 (mkF m 26 #[.val (.ref b1), .val (.int (32 : Int32)), .val (.int (n.toInt32 - (1 : Int32))), .val (.int (j.toInt32 - (1 : Int32)))] [(.int (32 : Int32)), (.int (f (j - 1)))]) (fun _ k => XS.iloadN X227.here hx rfl (hb hby d16_25) rfl k) ?_
        refine Win.to T227 (mkF m 27 #[.val (.ref b1), .val (.int (32 : Int32)), .val (.int (n.toInt32 - (1 : Int32))), .val (.int (j.toInt32 - (1 : Int32)))] [(.int (32 : Int32)), (.int (f (j - 1)))]) (fun _ k => XS.i2b X227.here hx rfl (hb hby d16_26) rfl (by rw [show ((32 : Int32).toInt8.toInt32) = (32 : Int32) from by decide]; exact k)) ?_
        refine Win.to T227 (mkF m 30 #[.val (.ref b1), .val (.int (32 : Int32)), .val (.int (n.toInt32 - (1 : Int32))), .val (.int (j.toInt32 - (1 : Int32)))] []) (fun _ k => XS.icmpNo X227.here hx rfl (hb hby d16_27) rfl (teq (show (f (j - 1)) = (32 : Int32) from (hat hpos))).2 k) ?_
        refine Win.to T227 (mkF m 31 #[.val (.ref b1), .val (.int (32 : Int32)), .val (.int (n.toInt32 - (1 : Int32))), .val (.int (j.toInt32 - (1 : Int32)))] [(.int (j.toInt32 - (1 : Int32)))]) (fun _ k => XS.iloadN X227.here hx rfl (hb hby d16_30) rfl k) ?_
        exact Win.retI X227 hx hlk hret (hb hby d16_31) (by decide) (by decide) (by (try rw [e227]); exact ⟨rfl, N228, rfl⟩)
    | succ q ih =>
      intro j hj hjn
      obtain ⟨i, rfl⟩ : ∃ i, j = i + 1 := ⟨b + q, by omega⟩
      have hj2 : i + 1 < 2 ^ 31 := by omega
      have hpos : 0 < i + 1 := by omega
      refine Win.to T227 (mkF m 19 #[.val (.ref b1), .val (.int (32 : Int32)), .val (.int (n.toInt32 - (1 : Int32))), .val (.int ((i + 1).toInt32 - (1 : Int32)))] [(.int ((i + 1).toInt32 - (1 : Int32)))]) (fun _ k => XS.iloadN X227.here hx rfl (hb hby d16_18) rfl k) ?_
      refine Win.to T227 (mkF m 22 #[.val (.ref b1), .val (.int (32 : Int32)), .val (.int (n.toInt32 - (1 : Int32))), .val (.int ((i + 1).toInt32 - (1 : Int32)))] []) (fun _ k => XS.ifNo X227.here hx rfl (hb hby d16_19) rfl ((if0 _ _).trans (flt (show ¬ (((i + 1).toInt32 - (1 : Int32)) < (0 : Int32)) from (own_pre hj2 hpos).2.1)).1) k) ?_
      refine Win.to T227 (mkF m 23 #[.val (.ref b1), .val (.int (32 : Int32)), .val (.int (n.toInt32 - (1 : Int32))), .val (.int ((i + 1).toInt32 - (1 : Int32)))] [(.ref b1)]) (fun _ k => XS.aloadN X227.here hx rfl (hb hby d16_22) rfl rfl k) ?_
      refine Win.to T227 (mkF m 24 #[.val (.ref b1), .val (.int (32 : Int32)), .val (.int (n.toInt32 - (1 : Int32))), .val (.int ((i + 1).toInt32 - (1 : Int32)))] [(.int ((i + 1).toInt32 - (1 : Int32))), (.ref b1)]) (fun _ k => XS.iloadN X227.here hx rfl (hb hby d16_23) rfl k) ?_
      obtain ⟨cl230, Ar230, hi230, ha230⟩ := ArF.at Fa (j := ((i + 1).toInt32 - (1 : Int32))) (i := i) (own_pre hj2 hpos).1 (own_pre hj2 hpos).2.1 (by omega)
      refine Win.to T227 (mkF m 25 #[.val (.ref b1), .val (.int (32 : Int32)), .val (.int (n.toInt32 - (1 : Int32))), .val (.int ((i + 1).toInt32 - (1 : Int32)))] [(.int (f i))]) (fun _ k => X227.baloadBytes hx (j := ((i + 1).toInt32 - (1 : Int32))) (v := (.int (f i))) (by rw [e227]; exact Ar230.1) (State.isArrayOf_alike hZ.alike Ar230.2.1) Ar230.2.2 hi230 ha230 (g := (mkF m 24 #[.val (.ref b1), .val (.int (32 : Int32)), .val (.int (n.toInt32 - (1 : Int32))), .val (.int ((i + 1).toInt32 - (1 : Int32)))] [(.int ((i + 1).toInt32 - (1 : Int32))), (.ref b1)])) rfl rfl (hb hby d16_24) _ k) ?_
      refine Win.to T227 (mkF m 26 #[.val (.ref b1), .val (.int (32 : Int32)), .val (.int (n.toInt32 - (1 : Int32))), .val (.int ((i + 1).toInt32 - (1 : Int32)))] [(.int (32 : Int32)), (.int (f i))]) (fun _ k => XS.iloadN X227.here hx rfl (hb hby d16_25) rfl k) ?_
      refine Win.to T227 (mkF m 27 #[.val (.ref b1), .val (.int (32 : Int32)), .val (.int (n.toInt32 - (1 : Int32))), .val (.int ((i + 1).toInt32 - (1 : Int32)))] [(.int (32 : Int32)), (.int (f i))]) (fun _ k => XS.i2b X227.here hx rfl (hb hby d16_26) rfl (by rw [show ((32 : Int32).toInt8.toInt32) = (32 : Int32) from by decide]; exact k)) ?_
      refine Win.to T227 (mkF m 32 #[.val (.ref b1), .val (.int (32 : Int32)), .val (.int (n.toInt32 - (1 : Int32))), .val (.int ((i + 1).toInt32 - (1 : Int32)))] []) (fun _ k => XS.icmpYes X227.here hx rfl (pc0 := 27) (pc' := 32) rfl (hb hby d16_27) rfl (feq (show ¬ ((f i) = (32 : Int32)) from (haft i (by omega) (by omega)))).2 (by decide) (by decide) k) ?_
      refine Win.to T227 (mkF m 35 #[.val (.ref b1), .val (.int (32 : Int32)), .val (.int (n.toInt32 - (1 : Int32))), .val (.int (((i + 1).toInt32 - (1 : Int32)) + (-1 : Int32)))] []) (fun _ k => XS.iinc X227.here hx rfl (hb hby d16_32) rfl (l' := #[.val (.ref b1), .val (.int (32 : Int32)), .val (.int (n.toInt32 - (1 : Int32))), .val (.int (((i + 1).toInt32 - (1 : Int32)) + (-1 : Int32)))]) rfl k) ?_
      refine Win.to T227 (mkF m 18 #[.val (.ref b1), .val (.int (32 : Int32)), .val (.int (n.toInt32 - (1 : Int32))), .val (.int (((i + 1).toInt32 - (1 : Int32)) + (-1 : Int32)))] []) (fun _ k => XS.goto X227.here hx rfl (pc0 := 35) (pc' := 18) rfl (hb hby d16_35) (by decide) (by decide) k) ?_
      rw [own_dec i]
      exact ih i (by omega) (by omega)
  exact loop (n - b) n (by omega) (Nat.le_refl _)
abbrev R_lastII : Room := ⟨2, 0, 0, 28⟩
set_option maxRecDepth 65536 in
set_option maxHeartbeats 40000000 in
theorem lastII (l : Launch) (Z : State) (a0 : Array Value) (hw : ∀ d ∈ tables_1, d.before a0 Z = true) (a1 : Addr) (t1 : Addr) (k1 : ClassId) (n : Nat) (f : Nat → Int32) (b : Nat) (cs : Int32) (h0 : Heap) (n0 : Nat) (O0 : Old Z n0 h0) (E1 : Exa Z h0 a1 "java/lang/String") (F1 : Fld Z h0 a1 "java/lang/String" "value" "[B" (.ref t1)) (F2 : Fld Z h0 a1 "java/lang/String" "coder" "B" (.int (0 : Int32))) (Fa : ArF Z h0 t1 k1 .byte n f) (hbn : b ≤ n) (haft : ∀ i, b ≤ i → i < n → ¬ (f i) = (32 : Int32)) (hat : 0 < b → (f (b - 1)) = (32 : Int32)) (S_CS : Sta Z Z.heap "java/lang/String" "COMPACT_STRINGS" "Z" (.int cs)) (hcs : ¬ (cs = (0 : Int32))) :
    MetN l Z (⟨"java/lang/String", "lastIndexOf", "(II)I"⟩ : MethodName) jdk_42_method_83_code 3 (some .int) R_lastII [] #[(.ref a1), (.int (32 : Int32)), (.int (n.toInt32 - (1 : Int32)))] h0 (fun v h L => v = some (.int (b.toInt32 - (1 : Int32))) ∧ Fr n0 L ∧ h = h0) := by
  refine MetN.walk (plainFor_of_name pn_14) ?_
  intro p e s m below meth c s₁ hx hZ hby hml hown hnm hret hlk X0 e0
  have N0 := Fr.nil n0
  refine Win.to s₁ (mkF m 0 #[.val (.ref a1), .val (.int (32 : Int32)), .val (.int (n.toInt32 - (1 : Int32)))] []) (fun _ k => castTop (by first | (simp [entryFrame, mkF, argsToLocals, Value.category]; done) | rfl) k) ?_
  refine Win.to s₁ (mkF m 1 #[.val (.ref a1), .val (.int (32 : Int32)), .val (.int (n.toInt32 - (1 : Int32)))] [(.ref a1)]) (fun _ k => XS.aloadN X0.here hx rfl (hb hby d14_0) rfl rfl k) ?_
  obtain ⟨T231, h231, v231, L231, X231, e231, ⟨rfl, N231q, r231_0⟩, st231⟩ := N.virtual X0 hx hZ (y := (⟨"java/lang/String", "isLatin1", "()Z"⟩ : MethodName)) (z := (⟨"java/lang/String", "isLatin1", "()Z"⟩ : MethodName)) hown (wk hw 93 rfl) (wk hw 94 rfl) (notFace_of_selects (args := #[]) (mvT hZ (wk hw 96 rfl))) (wk hw 96 rfl) (wk hw 95 rfl) (wk hw 8 rfl) (wk hw 97 rfl) (by decide) (isLat l Z a0 hw a1 cs h0 n0 O0 F2 S_CS hcs) e0 E1 (g := (mkF m 1 #[.val (.ref a1), .val (.int (32 : Int32)), .val (.int (n.toInt32 - (1 : Int32)))] [(.ref a1)])) rfl (by rw [hml]; rfl) (argsL := []) (rest := []) rfl (lenOf pd___Z rfl) rfl (W := 0) (by show 2 * 0 + _ ≤ _; exact Nat.le_of_eq rfl) (hb hby d14_1) (by decide) (by decide) (by decide) (by decide)
  have N232 := Fr.app N0 N231q
  have e231 := e231.trans r231_0
  refine Win.to T231 (mkF m 4 #[.val (.ref a1), .val (.int (32 : Int32)), .val (.int (n.toInt32 - (1 : Int32)))] [(.int (1 : Int32))]) (fun _ k => st231 _ k) ?_
  refine Win.to T231 (mkF m 7 #[.val (.ref a1), .val (.int (32 : Int32)), .val (.int (n.toInt32 - (1 : Int32)))] []) (fun _ k => XS.ifNo X231.here hx rfl (hb hby d14_4) rfl ((if0 _ _).trans (feq (show ¬ ((1 : Int32) = (0 : Int32)) from by decide)).1) k) ?_
  refine Win.to T231 (mkF m 8 #[.val (.ref a1), .val (.int (32 : Int32)), .val (.int (n.toInt32 - (1 : Int32)))] [(.ref a1)]) (fun _ k => XS.aloadN X231.here hx rfl (hb hby d14_7) rfl rfl k) ?_
  obtain ⟨T233, X233, e233, st233⟩ := getF X231 hx hZ hown (host := "") (Or.inl (wk hw 25 rfl)) Via.refl e231 F1 (g := (mkF m 8 #[.val (.ref a1), .val (.int (32 : Int32)), .val (.int (n.toInt32 - (1 : Int32)))] [(.ref a1)])) rfl rfl (hb hby d14_8)
  refine Win.to T233 (mkF m 11 #[.val (.ref a1), .val (.int (32 : Int32)), .val (.int (n.toInt32 - (1 : Int32)))] [(.ref t1)]) (fun _ k => st233 _ k) ?_
  refine Win.to T233 (mkF m 12 #[.val (.ref a1), .val (.int (32 : Int32)), .val (.int (n.toInt32 - (1 : Int32)))] [(.int (32 : Int32)), (.ref t1)]) (fun _ k => XS.iloadN X233.here hx rfl (hb hby d14_11) rfl k) ?_
  refine Win.to T233 (mkF m 13 #[.val (.ref a1), .val (.int (32 : Int32)), .val (.int (n.toInt32 - (1 : Int32)))] [(.int (n.toInt32 - (1 : Int32))), (.int (32 : Int32)), (.ref t1)]) (fun _ k => XS.iloadN X233.here hx rfl (hb hby d14_12) rfl k) ?_
  obtain ⟨T234, h234, v234, L234, X234, e234, ⟨rfl, N234q, r234_0⟩, st234⟩ := N.static X233 hx hZ (y := (⟨"java/lang/StringLatin1", "lastIndexOf", "([BII)I"⟩ : MethodName)) hown (wk hw 98 rfl) (wk hw 99 rfl) (wk hw 100 rfl) (wk hw 101 rfl) (by decide) (lastL1 l Z a0 hw t1 k1 n f b h0 n0 O0 Fa hbn haft hat) e233 (g := (mkF m 13 #[.val (.ref a1), .val (.int (32 : Int32)), .val (.int (n.toInt32 - (1 : Int32)))] [(.int (n.toInt32 - (1 : Int32))), (.int (32 : Int32)), (.ref t1)])) rfl (by rw [hml]; rfl) (argsL := [(.ref t1), (.int (32 : Int32)), (.int (n.toInt32 - (1 : Int32)))]) (rest := []) rfl (lenOf pd___BII_I rfl) rfl (W := 0) (by show 2 * 0 + _ ≤ _; exact Nat.le_of_eq rfl) (hb hby d14_13) (by decide) (by decide) (by decide) (by decide)
  have N235 := Fr.app N232 N234q
  have e234 := e234.trans r234_0
  refine Win.to T234 (mkF m 16 #[.val (.ref a1), .val (.int (32 : Int32)), .val (.int (n.toInt32 - (1 : Int32)))] [(.int (b.toInt32 - (1 : Int32)))]) (fun _ k => st234 _ k) ?_
  refine Win.to T234 (mkF m 28 #[.val (.ref a1), .val (.int (32 : Int32)), .val (.int (n.toInt32 - (1 : Int32)))] [(.int (b.toInt32 - (1 : Int32)))]) (fun _ k => XS.goto X234.here hx rfl (pc0 := 16) (pc' := 28) rfl (hb hby d14_16) (by decide) (by decide) k) ?_
  exact Win.retI X234 hx hlk hret (hb hby d14_28) (by decide) (by decide) (by (try rw [e234]); exact ⟨rfl, N235, rfl⟩)
abbrev R_lastI : Room := ⟨3, 0, 0, 42⟩
set_option maxRecDepth 65536 in
set_option maxHeartbeats 40000000 in
theorem lastI (l : Launch) (Z : State) (a0 : Array Value) (hw : ∀ d ∈ tables_1, d.before a0 Z = true) (a1 : Addr) (t1 : Addr) (k1 : ClassId) (n : Nat) (f : Nat → Int32) (b : Nat) (cs : Int32) (h0 : Heap) (n0 : Nat) (O0 : Old Z n0 h0) (E1 : Exa Z h0 a1 "java/lang/String") (F1 : Fld Z h0 a1 "java/lang/String" "value" "[B" (.ref t1)) (F2 : Fld Z h0 a1 "java/lang/String" "coder" "B" (.int (0 : Int32))) (Fa : ArF Z h0 t1 k1 .byte n f) (hbn : b ≤ n) (haft : ∀ i, b ≤ i → i < n → ¬ (f i) = (32 : Int32)) (hat : 0 < b → (f (b - 1)) = (32 : Int32)) (S_CS : Sta Z Z.heap "java/lang/String" "COMPACT_STRINGS" "Z" (.int cs)) (hcs : ¬ (cs = (0 : Int32))) :
    MetN l Z (⟨"java/lang/String", "lastIndexOf", "(I)I"⟩ : MethodName) jdk_42_method_82_code 2 (some .int) R_lastI [] #[(.ref a1), (.int (32 : Int32))] h0 (fun v h L => v = some (.int (b.toInt32 - (1 : Int32))) ∧ Fr n0 L ∧ h = h0) := by
  refine MetN.walk (plainFor_of_name pn_11) ?_
  intro p e s m below meth c s₁ hx hZ hby hml hown hnm hret hlk X0 e0
  have N0 := Fr.nil n0
  refine Win.to s₁ (mkF m 0 #[.val (.ref a1), .val (.int (32 : Int32))] []) (fun _ k => castTop (by first | (simp [entryFrame, mkF, argsToLocals, Value.category]; done) | rfl) k) ?_
  refine Win.to s₁ (mkF m 1 #[.val (.ref a1), .val (.int (32 : Int32))] [(.ref a1)]) (fun _ k => XS.aloadN X0.here hx rfl (hb hby d11_0) rfl rfl k) ?_
  refine Win.to s₁ (mkF m 2 #[.val (.ref a1), .val (.int (32 : Int32))] [(.int (32 : Int32)), (.ref a1)]) (fun _ k => XS.iloadN X0.here hx rfl (hb hby d11_1) rfl k) ?_
  refine Win.to s₁ (mkF m 3 #[.val (.ref a1), .val (.int (32 : Int32))] [(.ref a1), (.int (32 : Int32)), (.ref a1)]) (fun _ k => XS.aloadN X0.here hx rfl (hb hby d11_2) rfl rfl k) ?_
  obtain ⟨T236, h236, v236, L236, X236, e236, ⟨rfl, N236q, r236_0⟩, st236⟩ := N.virtual X0 hx hZ (y := (⟨"java/lang/String", "length", "()I"⟩ : MethodName)) (z := (⟨"java/lang/String", "length", "()I"⟩ : MethodName)) hown (wk hw 77 rfl) (wk hw 78 rfl) (notFace_of_selects (args := #[]) (mvT hZ (wk hw 80 rfl))) (wk hw 80 rfl) (wk hw 79 rfl) (wk hw 8 rfl) (wk hw 81 rfl) (by decide) (strLen l Z a0 hw a1 t1 k1 n f cs h0 n0 O0 E1 F1 F2 Fa S_CS hcs) e0 E1 (g := (mkF m 3 #[.val (.ref a1), .val (.int (32 : Int32))] [(.ref a1), (.int (32 : Int32)), (.ref a1)])) rfl (by rw [hml]; rfl) (argsL := []) (rest := [(.int (32 : Int32)), (.ref a1)]) rfl (lenOf pd___I rfl) rfl (W := 2) (by show 2 * 0 + _ ≤ _; exact Nat.le_of_eq rfl) (hb hby d11_3) (by decide) (by decide) (by decide) (by decide)
  have N237 := Fr.app N0 N236q
  have e236 := e236.trans r236_0
  refine Win.to T236 (mkF m 6 #[.val (.ref a1), .val (.int (32 : Int32))] [(.int n.toInt32), (.int (32 : Int32)), (.ref a1)]) (fun _ k => st236 _ k) ?_
  refine Win.to T236 (mkF m 7 #[.val (.ref a1), .val (.int (32 : Int32))] [(.int (1 : Int32)), (.int n.toInt32), (.int (32 : Int32)), (.ref a1)]) (fun _ k => XS.iconst X236.here hx rfl (hb hby d11_6) k) ?_
  refine Win.to T236 (mkF m 8 #[.val (.ref a1), .val (.int (32 : Int32))] [(.int (n.toInt32 - (1 : Int32))), (.int (32 : Int32)), (.ref a1)]) (fun _ k => XS.isub X236.here hx rfl (hb hby d11_7) rfl k) ?_
  obtain ⟨T238, h238, v238, L238, X238, e238, ⟨rfl, N238q, r238_0⟩, st238⟩ := N.virtual X236 hx hZ (y := (⟨"java/lang/String", "lastIndexOf", "(II)I"⟩ : MethodName)) (z := (⟨"java/lang/String", "lastIndexOf", "(II)I"⟩ : MethodName)) hown (wk hw 88 rfl) (wk hw 89 rfl) (notFace_of_selects (args := #[]) (mvT hZ (wk hw 91 rfl))) (wk hw 91 rfl) (wk hw 90 rfl) (wk hw 8 rfl) (wk hw 92 rfl) (by decide) (lastII l Z a0 hw a1 t1 k1 n f b cs h0 n0 O0 E1 F1 F2 Fa hbn haft hat S_CS hcs) e236 E1 (g := (mkF m 8 #[.val (.ref a1), .val (.int (32 : Int32))] [(.int (n.toInt32 - (1 : Int32))), (.int (32 : Int32)), (.ref a1)])) rfl (by rw [hml]; rfl) (argsL := [(.int (32 : Int32)), (.int (n.toInt32 - (1 : Int32)))]) (rest := []) rfl (lenOf pd__II_I rfl) rfl (W := 0) (by show 2 * 0 + _ ≤ _; exact Nat.le_of_eq rfl) (hb hby d11_8) (by decide) (by decide) (by decide) (by decide)
  have N239 := Fr.app N237 N238q
  have e238 := e238.trans r238_0
  refine Win.to T238 (mkF m 11 #[.val (.ref a1), .val (.int (32 : Int32))] [(.int (b.toInt32 - (1 : Int32)))]) (fun _ k => st238 _ k) ?_
  exact Win.retI X238 hx hlk hret (hb hby d11_11) (by decide) (by decide) (by (try rw [e238]); exact ⟨rfl, N239, rfl⟩)
abbrev R_chkFT : Room := ⟨0, 0, 0, 0⟩
set_option maxRecDepth 65536 in
set_option maxHeartbeats 40000000 in
theorem chkFT (l : Launch) (Z : State) (a0 : Array Value) (hw : ∀ d ∈ tables_1, d.before a0 Z = true) (b : Nat) (en : Nat) (n : Nat) (x1 : Value) (h0 : Heap) (n0 : Nat) (O0 : Old Z n0 h0) (hbe : b ≤ en) (hen : en ≤ n) (hn : n < 2 ^ 31) (hx1 : x1.isRef = true) :
    MetN l Z (⟨"jdk/internal/util/Preconditions", "checkFromToIndex", "(IIILjava/util/function/BiFunction;)I"⟩ : MethodName) jdk_41_method_12_code 4 (some .int) R_chkFT [] #[(.int b.toInt32), (.int en.toInt32), (.int n.toInt32), x1] h0 (fun v h L => v = some (.int b.toInt32) ∧ Fr n0 L ∧ h = h0) := by
  refine MetN.walk (plainFor_of_name pn_22) ?_
  intro p e s m below meth c s₁ hx hZ hby hml hown hnm hret hlk X0 e0
  have N0 := Fr.nil n0
  refine Win.to s₁ (mkF m 0 #[.val (.int b.toInt32), .val (.int en.toInt32), .val (.int n.toInt32), .val x1] []) (fun _ k => castTop (by (rcases ref_cases hx1 with hh | ⟨_, hh⟩ <;> rw [hh]) <;> rfl) k) ?_
  have hb2 : b < 2 ^ 31 := by omega
  have he2 : en < 2 ^ 31 := by omega
  refine Win.to s₁ (mkF m 1 #[.val (.int b.toInt32), .val (.int en.toInt32), .val (.int n.toInt32), .val x1] [(.int b.toInt32)]) (fun _ k => XS.iloadN X0.here hx rfl (hb hby d22_0) rfl k) ?_
  refine Win.to s₁ (mkF m 4 #[.val (.int b.toInt32), .val (.int en.toInt32), .val (.int n.toInt32), .val x1] []) (fun _ k => XS.ifNo X0.here hx rfl (hb hby d22_1) rfl ((if0 _ _).trans (flt (show ¬ (b.toInt32 < (0 : Int32)) from (own_tn hb2).2.1)).1) k) ?_
  refine Win.to s₁ (mkF m 5 #[.val (.int b.toInt32), .val (.int en.toInt32), .val (.int n.toInt32), .val x1] [(.int b.toInt32)]) (fun _ k => XS.iloadN X0.here hx rfl (hb hby d22_4) rfl k) ?_
  refine Win.to s₁ (mkF m 6 #[.val (.int b.toInt32), .val (.int en.toInt32), .val (.int n.toInt32), .val x1] [(.int en.toInt32), (.int b.toInt32)]) (fun _ k => XS.iloadN X0.here hx rfl (hb hby d22_5) rfl k) ?_
  refine Win.to s₁ (mkF m 9 #[.val (.int b.toInt32), .val (.int en.toInt32), .val (.int n.toInt32), .val x1] []) (fun _ k => XS.icmpNo X0.here hx rfl (hb hby d22_6) rfl (flt (show ¬ (en.toInt32 < b.toInt32) from (fun q => absurd ((own_lt he2 hb2).mp q) (by omega)))).2.2.1 k) ?_
  refine Win.to s₁ (mkF m 10 #[.val (.int b.toInt32), .val (.int en.toInt32), .val (.int n.toInt32), .val x1] [(.int en.toInt32)]) (fun _ k => XS.iloadN X0.here hx rfl (hb hby d22_9) rfl k) ?_
  refine Win.to s₁ (mkF m 11 #[.val (.int b.toInt32), .val (.int en.toInt32), .val (.int n.toInt32), .val x1] [(.int n.toInt32), (.int en.toInt32)]) (fun _ k => XS.iloadN X0.here hx rfl (hb hby d22_10) rfl k) ?_
  refine Win.to s₁ (mkF m 22 #[.val (.int b.toInt32), .val (.int en.toInt32), .val (.int n.toInt32), .val x1] []) (fun _ k => XS.icmpYes X0.here hx rfl (pc0 := 11) (pc' := 22) rfl (hb hby d22_11) rfl (flt (show ¬ (n.toInt32 < en.toInt32) from (fun q => absurd ((own_lt hn he2).mp q) (by omega)))).2.2.2 (by decide) (by decide) k) ?_
  refine Win.to s₁ (mkF m 23 #[.val (.int b.toInt32), .val (.int en.toInt32), .val (.int n.toInt32), .val x1] [(.int b.toInt32)]) (fun _ k => XS.iloadN X0.here hx rfl (hb hby d22_22) rfl k) ?_
  exact Win.retI X0 hx hlk hret (hb hby d22_23) (by decide) (by decide) (by (try rw [e0]); exact ⟨rfl, N0, rfl⟩)
abbrev R_chkBE : Room := ⟨1, 0, 0, 15⟩
set_option maxRecDepth 65536 in
set_option maxHeartbeats 40000000 in
theorem chkBE (l : Launch) (Z : State) (a0 : Array Value) (hw : ∀ d ∈ tables_1, d.before a0 Z = true) (b : Nat) (en : Nat) (n : Nat) (x1 : Value) (h0 : Heap) (n0 : Nat) (O0 : Old Z n0 h0) (hbe : b ≤ en) (hen : en ≤ n) (hn : n < 2 ^ 31) (S_SI : Sta Z Z.heap "jdk/internal/util/Preconditions" "SIOOBE_FORMATTER" "Ljava/util/function/BiFunction;" x1) (hx1 : x1.isRef = true) :
    MetN l Z (⟨"java/lang/String", "checkBoundsBeginEnd", "(III)V"⟩ : MethodName) jdk_42_method_158_code 3 none R_chkBE [] #[(.int b.toInt32), (.int en.toInt32), (.int n.toInt32)] h0 (fun v h L => v = none ∧ Fr n0 L ∧ h = h0) := by
  refine MetN.walk (plainFor_of_name pn_21) ?_
  intro p e s m below meth c s₁ hx hZ hby hml hown hnm hret hlk X0 e0
  have N0 := Fr.nil n0
  refine Win.to s₁ (mkF m 0 #[.val (.int b.toInt32), .val (.int en.toInt32), .val (.int n.toInt32)] []) (fun _ k => castTop (by first | (simp [entryFrame, mkF, argsToLocals, Value.category]; done) | rfl) k) ?_
  refine Win.to s₁ (mkF m 1 #[.val (.int b.toInt32), .val (.int en.toInt32), .val (.int n.toInt32)] [(.int b.toInt32)]) (fun _ k => XS.iloadN X0.here hx rfl (hb hby d21_0) rfl k) ?_
  refine Win.to s₁ (mkF m 2 #[.val (.int b.toInt32), .val (.int en.toInt32), .val (.int n.toInt32)] [(.int en.toInt32), (.int b.toInt32)]) (fun _ k => XS.iloadN X0.here hx rfl (hb hby d21_1) rfl k) ?_
  refine Win.to s₁ (mkF m 3 #[.val (.int b.toInt32), .val (.int en.toInt32), .val (.int n.toInt32)] [(.int n.toInt32), (.int en.toInt32), (.int b.toInt32)]) (fun _ k => XS.iloadN X0.here hx rfl (hb hby d21_2) rfl k) ?_
  obtain ⟨T240, X240, e240, st240⟩ := getS2 X0 hx hZ hown (host := "") (Or.inl (wk hw 122 rfl)) Via.refl e0 (Sta.ext O0.2 S_SI) (g := (mkF m 3 #[.val (.int b.toInt32), .val (.int en.toInt32), .val (.int n.toInt32)] [(.int n.toInt32), (.int en.toInt32), (.int b.toInt32)])) rfl (hb hby d21_3)
  refine Win.to T240 (mkF m 6 #[.val (.int b.toInt32), .val (.int en.toInt32), .val (.int n.toInt32)] [x1, (.int n.toInt32), (.int en.toInt32), (.int b.toInt32)]) (fun _ k => st240 _ k) ?_
  obtain ⟨T241, h241, v241, L241, X241, e241, ⟨rfl, N241q, r241_0⟩, st241⟩ := N.static X240 hx hZ (y := (⟨"jdk/internal/util/Preconditions", "checkFromToIndex", "(IIILjava/util/function/BiFunction;)I"⟩ : MethodName)) hown (wk hw 124 rfl) (wk hw 125 rfl) (wk hw 123 rfl) (wk hw 126 rfl) (by decide) (chkFT l Z a0 hw b en n x1 h0 n0 O0 hbe hen hn hx1) e240 (g := (mkF m 6 #[.val (.int b.toInt32), .val (.int en.toInt32), .val (.int n.toInt32)] [x1, (.int n.toInt32), (.int en.toInt32), (.int b.toInt32)])) rfl (by rw [hml]; rfl) (argsL := [(.int b.toInt32), (.int en.toInt32), (.int n.toInt32), x1]) (rest := []) rfl (lenOf pd__IIILjava_util_function_BiFunction__I rfl) rfl (W := 0) (by show 2 * 0 + _ ≤ _; exact Nat.le_of_eq rfl) (hb hby d21_6) (by decide) (by decide) (by decide) (by decide)
  have N242 := Fr.app N0 N241q
  have e241 := e241.trans r241_0
  refine Win.to T241 (mkF m 9 #[.val (.int b.toInt32), .val (.int en.toInt32), .val (.int n.toInt32)] [(.int b.toInt32)]) (fun _ k => st241 _ k) ?_
  refine Win.to T241 (mkF m 10 #[.val (.int b.toInt32), .val (.int en.toInt32), .val (.int n.toInt32)] []) (fun _ k => XS.pop X241.here hx rfl (hb hby d21_9) rfl rfl k) ?_
  exact Win.retV X241 hx hlk hret (hb hby d21_10) (by decide) (by decide) (by (try rw [e241]); exact ⟨rfl, N242, rfl⟩)
abbrev R_chkLen : Room := ⟨0, 0, 0, 0⟩
set_option maxRecDepth 65536 in
set_option maxHeartbeats 40000000 in
theorem chkLen (l : Launch) (Z : State) (a0 : Array Value) (hw : ∀ d ∈ tables_1, d.before a0 Z = true) (b : Nat) (en : Nat) (h0 : Heap) (n0 : Nat) (O0 : Old Z n0 h0) (hbe : b ≤ en) (he2 : en < 2 ^ 31) :
    MetN l Z (⟨"java/util/Arrays", "checkLength", "(II)V"⟩ : MethodName) jdk_65_method_131_code 2 none R_chkLen [] #[(.int b.toInt32), (.int en.toInt32)] h0 (fun v h L => v = none ∧ Fr n0 L ∧ h = h0) := by
  refine MetN.walk (plainFor_of_name pn_30) ?_
  intro p e s m below meth c s₁ hx hZ hby hml hown hnm hret hlk X0 e0
  have N0 := Fr.nil n0
  refine Win.to s₁ (mkF m 0 #[.val (.int b.toInt32), .val (.int en.toInt32)] []) (fun _ k => castTop (by first | (simp [entryFrame, mkF, argsToLocals, Value.category]; done) | rfl) k) ?_
  have hb2 : b < 2 ^ 31 := by omega
  refine Win.to s₁ (mkF m 1 #[.val (.int b.toInt32), .val (.int en.toInt32)] [(.int en.toInt32)]) (fun _ k => XS.iloadN X0.here hx rfl (hb hby d30_0) rfl k) ?_
  refine Win.to s₁ (mkF m 2 #[.val (.int b.toInt32), .val (.int en.toInt32)] [(.int b.toInt32), (.int en.toInt32)]) (fun _ k => XS.iloadN X0.here hx rfl (hb hby d30_1) rfl k) ?_
  refine Win.to s₁ (mkF m 37 #[.val (.int b.toInt32), .val (.int en.toInt32)] []) (fun _ k => XS.icmpYes X0.here hx rfl (pc0 := 2) (pc' := 37) rfl (hb hby d30_2) rfl (flt (show ¬ (en.toInt32 < b.toInt32) from (fun q => absurd ((own_lt he2 hb2).mp q) (by omega)))).2.1 (by decide) (by decide) k) ?_
  exact Win.retV X0 hx hlk hret (hb hby d30_37) (by decide) (by decide) (by (try rw [e0]); exact ⟨rfl, N0, rfl⟩)
abbrev R_cprB : Room := ⟨1, 1, 4, 18⟩
set_option maxRecDepth 65536 in
set_option maxHeartbeats 40000000 in
theorem cprB (l : Launch) (Z : State) (a0 : Array Value) (hw : ∀ d ∈ tables_1, d.before a0 Z = true) (t1 : Addr) (k1 : ClassId) (n : Nat) (f : Nat → Int32) (b : Nat) (m1 : Nat) (h0 : Heap) (n0 : Nat) (O0 : Old Z n0 h0) (Fa : ArF Z h0 t1 k1 .byte n f) (hbm : b + m1 ≤ n) (hcap : m1 ≤ 4) :
    MetN l Z (⟨"java/util/Arrays", "copyOfRangeByte", "([BII)[B"⟩ : MethodName) jdk_65_method_133_code 5 (some (.array .byte)) R_cprB [] #[(.ref t1), (.int b.toInt32), (.int (b + m1).toInt32)] h0 (fun v h L => ∃ (t2 : Addr) (k2 : ClassId), v = some (.ref t2) ∧ Fr n0 L ∧ Keep h0 h [] ∧ h0.size ≤ t2 ∧ ArF Z h t2 k2 .byte m1 (fun i => f (b + i))) := by
  refine MetN.walk (plainFor_of_name pn_29) ?_
  intro p e s m below meth c s₁ hx hZ hby hml hown hnm hret hlk X0 e0
  have N0 := Fr.nil n0
  refine Win.to s₁ (mkF m 0 #[.val (.ref t1), .val (.int b.toInt32), .val (.int (b + m1).toInt32), .unset, .unset] []) (fun _ k => castTop (by first | (simp [entryFrame, mkF, argsToLocals, Value.category]; done) | rfl) k) ?_
  have hn := Fa.big
  have hb2 : b < 2 ^ 31 := by omega
  have he2 : b + m1 < 2 ^ 31 := by omega
  have hm2 : m1 < 2 ^ 31 := by omega
  refine Win.to s₁ (mkF m 1 #[.val (.ref t1), .val (.int b.toInt32), .val (.int (b + m1).toInt32), .unset, .unset] [(.int b.toInt32)]) (fun _ k => XS.iloadN X0.here hx rfl (hb hby d29_0) rfl k) ?_
  refine Win.to s₁ (mkF m 2 #[.val (.ref t1), .val (.int b.toInt32), .val (.int (b + m1).toInt32), .unset, .unset] [(.int (b + m1).toInt32), (.int b.toInt32)]) (fun _ k => XS.iloadN X0.here hx rfl (hb hby d29_1) rfl k) ?_
  obtain ⟨T243, h243, v243, L243, X243, e243, ⟨rfl, N243q, r243_0⟩, st243⟩ := N.static X0 hx hZ (y := (⟨"java/util/Arrays", "checkLength", "(II)V"⟩ : MethodName)) hown (wk hw 153 rfl) (wk hw 154 rfl) (wk hw 148 rfl) (wk hw 155 rfl) (by decide) (chkLen l Z a0 hw b (b + m1) h0 n0 O0 (by omega) (by omega)) e0 (g := (mkF m 2 #[.val (.ref t1), .val (.int b.toInt32), .val (.int (b + m1).toInt32), .unset, .unset] [(.int (b + m1).toInt32), (.int b.toInt32)])) rfl (by rw [hml]; rfl) (argsL := [(.int b.toInt32), (.int (b + m1).toInt32)]) (rest := []) rfl (lenOf pd__II_V rfl) rfl (W := 0) (by show 2 * 0 + _ ≤ _; exact Nat.le_of_eq rfl) (hb hby d29_2) (by decide) (by decide) (by decide) (by decide)
  have N244 := Fr.app N0 N243q
  have e243 := e243.trans r243_0
  refine Win.to T243 (mkF m 5 #[.val (.ref t1), .val (.int b.toInt32), .val (.int (b + m1).toInt32), .unset, .unset] []) (fun _ k => st243 _ k) ?_
  refine Win.to T243 (mkF m 6 #[.val (.ref t1), .val (.int b.toInt32), .val (.int (b + m1).toInt32), .unset, .unset] [(.int (b + m1).toInt32)]) (fun _ k => XS.iloadN X243.here hx rfl (hb hby d29_5) rfl k) ?_
  refine Win.to T243 (mkF m 7 #[.val (.ref t1), .val (.int b.toInt32), .val (.int (b + m1).toInt32), .unset, .unset] [(.int b.toInt32), (.int (b + m1).toInt32)]) (fun _ k => XS.iloadN X243.here hx rfl (hb hby d29_6) rfl k) ?_
  refine Win.to T243 (mkF m 8 #[.val (.ref t1), .val (.int b.toInt32), .val (.int (b + m1).toInt32), .unset, .unset] [(.int m1.toInt32)]) (fun _ k => XS.isub X243.here hx rfl (hb hby d29_7) rfl (by rw [show ((b + m1).toInt32 - b.toInt32) = m1.toInt32 from (own_sub hb2 he2 (by omega)).trans (by rw [Nat.add_sub_cancel_left])]; exact k)) ?_
  refine Win.to T243 (mkF m 9 #[.val (.ref t1), .val (.int b.toInt32), .val (.int (b + m1).toInt32), .val (.int m1.toInt32), .unset] []) (fun _ k => XS.istoreN X243.here hx rfl (hb hby d29_8) rfl (l' := #[.val (.ref t1), .val (.int b.toInt32), .val (.int (b + m1).toInt32), .val (.int m1.toInt32), .unset]) rfl k) ?_
  refine Win.to T243 (mkF m 10 #[.val (.ref t1), .val (.int b.toInt32), .val (.int (b + m1).toInt32), .val (.int m1.toInt32), .unset] [(.int m1.toInt32)]) (fun _ k => XS.iloadN X243.here hx rfl (hb hby d29_9) rfl k) ?_
  obtain ⟨T245, h245, k245, X245, e245, E245, A245, st245⟩ := newP X243 hx hZ (wk hw 20 rfl) e243 (g := (mkF m 10 #[.val (.ref t1), .val (.int b.toInt32), .val (.int (b + m1).toInt32), .val (.int m1.toInt32), .unset] [(.int m1.toInt32)])) rfl (hb hby d29_10) rfl (own_tn hm2).2.1 (cap := 4) (by rw [(own_tn hm2).1]; exact hcap) (by decide) (by decide) (by decide)
  obtain ⟨b245, g245⟩ : ∃ z, z = h0.size := ⟨_, rfl⟩
  rw [← g245] at A245 st245
  have ne246 : t1 ≠ b245 := Nat.ne_of_lt (Nat.lt_of_lt_of_le Fa.lt (Nat.le_of_eq g245.symm))
  have g247 : n0 ≤ b245 := Nat.le_trans (own_le O0) (Nat.le_of_eq g245.symm)
  have z248 : h0.size ≤ b245 := (Nat.le_of_eq g245.symm)
  have O249 := Old.ext O0 E245
  have K250 : Keep h0 h245 [] := (Keep.refl h0 []).ext E245
  have F251 : ArF Z h245 b245 k245 .byte m1 (fun _ => 0) := (own_tn hm2).1 ▸ ArF.new A245 (own_tn hm2).2.1 rfl
  refine Win.to T245 (mkF m 12 #[.val (.ref t1), .val (.int b.toInt32), .val (.int (b + m1).toInt32), .val (.int m1.toInt32), .unset] [(.ref b245)]) (fun _ k => st245 _ k) ?_
  refine Win.to T245 (mkF m 14 #[.val (.ref t1), .val (.int b.toInt32), .val (.int (b + m1).toInt32), .val (.int m1.toInt32), .val (.ref b245)] []) (fun _ k => XS.astore X245.here hx rfl (hb hby d29_12) rfl rfl (l' := #[.val (.ref t1), .val (.int b.toInt32), .val (.int (b + m1).toInt32), .val (.int m1.toInt32), .val (.ref b245)]) rfl k) ?_
  refine Win.to T245 (mkF m 15 #[.val (.ref t1), .val (.int b.toInt32), .val (.int (b + m1).toInt32), .val (.int m1.toInt32), .val (.ref b245)] [(.ref t1)]) (fun _ k => XS.aloadN X245.here hx rfl (hb hby d29_14) rfl rfl k) ?_
  refine Win.to T245 (mkF m 16 #[.val (.ref t1), .val (.int b.toInt32), .val (.int (b + m1).toInt32), .val (.int m1.toInt32), .val (.ref b245)] [(.int b.toInt32), (.ref t1)]) (fun _ k => XS.iloadN X245.here hx rfl (hb hby d29_15) rfl k) ?_
  refine Win.to T245 (mkF m 18 #[.val (.ref t1), .val (.int b.toInt32), .val (.int (b + m1).toInt32), .val (.int m1.toInt32), .val (.ref b245)] [(.ref b245), (.int b.toInt32), (.ref t1)]) (fun _ k => XS.aload X245.here hx rfl (hb hby d29_16) rfl rfl k) ?_
  refine Win.to T245 (mkF m 19 #[.val (.ref t1), .val (.int b.toInt32), .val (.int (b + m1).toInt32), .val (.int m1.toInt32), .val (.ref b245)] [(.int (0 : Int32)), (.ref b245), (.int b.toInt32), (.ref t1)]) (fun _ k => XS.iconst X245.here hx rfl (hb hby d29_18) k) ?_
  refine Win.to T245 (mkF m 20 #[.val (.ref t1), .val (.int b.toInt32), .val (.int (b + m1).toInt32), .val (.int m1.toInt32), .val (.ref b245)] [(.ref t1), (.int (0 : Int32)), (.ref b245), (.int b.toInt32), (.ref t1)]) (fun _ k => XS.aloadN X245.here hx rfl (hb hby d29_19) rfl rfl k) ?_
  have F252 : ArF Z h245 t1 k1 .byte n f := (Fa.ext E245)
  obtain ⟨cl253, Ar253, hl253⟩ := ArF.len F252
  refine Win.to T245 (mkF m 21 #[.val (.ref t1), .val (.int b.toInt32), .val (.int (b + m1).toInt32), .val (.int m1.toInt32), .val (.ref b245)] [(.int n.toInt32), (.int (0 : Int32)), (.ref b245), (.int b.toInt32), (.ref t1)]) (fun _ k => X245.arraylength hx (by rw [e245]; exact Ar253.1) (State.isArrayOf_alike hZ.alike Ar253.2.1) (g := (mkF m 20 #[.val (.ref t1), .val (.int b.toInt32), .val (.int (b + m1).toInt32), .val (.int m1.toInt32), .val (.ref b245)] [(.ref t1), (.int (0 : Int32)), (.ref b245), (.int b.toInt32), (.ref t1)])) rfl rfl (hb hby d29_20) _ (by rw [hl253]; exact k)) ?_
  refine Win.to T245 (mkF m 22 #[.val (.ref t1), .val (.int b.toInt32), .val (.int (b + m1).toInt32), .val (.int m1.toInt32), .val (.ref b245)] [(.int b.toInt32), (.int n.toInt32), (.int (0 : Int32)), (.ref b245), (.int b.toInt32), (.ref t1)]) (fun _ k => XS.iloadN X245.here hx rfl (hb hby d29_21) rfl k) ?_
  refine Win.to T245 (mkF m 23 #[.val (.ref t1), .val (.int b.toInt32), .val (.int (b + m1).toInt32), .val (.int m1.toInt32), .val (.ref b245)] [(.int (n - b).toInt32), (.int (0 : Int32)), (.ref b245), (.int b.toInt32), (.ref t1)]) (fun _ k => XS.isub X245.here hx rfl (hb hby d29_22) rfl (by rw [show (n.toInt32 - b.toInt32) = (n - b).toInt32 from own_sub hb2 hn (by omega)]; exact k)) ?_
  refine Win.to T245 (mkF m 24 #[.val (.ref t1), .val (.int b.toInt32), .val (.int (b + m1).toInt32), .val (.int m1.toInt32), .val (.ref b245)] [(.int m1.toInt32), (.int (n - b).toInt32), (.int (0 : Int32)), (.ref b245), (.int b.toInt32), (.ref t1)]) (fun _ k => XS.iloadN X245.here hx rfl (hb hby d29_23) rfl k) ?_
  obtain ⟨T254, h254, v254, L254, X254, e254, ⟨rfl, N254q, r254_0⟩, st254⟩ := N.static X245 hx hZ (y := (⟨"java/lang/Math", "min", "(II)I"⟩ : MethodName)) hown (wk hw 156 rfl) (wk hw 106 rfl) (wk hw 107 rfl) (wk hw 108 rfl) (by decide) (minI l Z a0 hw ((n - b).toInt32) m1.toInt32 m1.toInt32 h245 n0 O249 (fun _ => rfl) (fun q => own_min (by omega) hm2 (by omega) q)) e245 (g := (mkF m 24 #[.val (.ref t1), .val (.int b.toInt32), .val (.int (b + m1).toInt32), .val (.int m1.toInt32), .val (.ref b245)] [(.int m1.toInt32), (.int (n - b).toInt32), (.int (0 : Int32)), (.ref b245), (.int b.toInt32), (.ref t1)])) rfl (by rw [hml]; rfl) (argsL := [(.int (n - b).toInt32), (.int m1.toInt32)]) (rest := [(.int (0 : Int32)), (.ref b245), (.int b.toInt32), (.ref t1)]) rfl (lenOf pd__II_I rfl) rfl (W := 4) (by show 2 * 0 + _ ≤ _; exact Nat.le_of_eq rfl) (hb hby d29_24) (by decide) (by decide) (by decide) (by decide)
  have N255 := Fr.app N244 N254q
  have e254 := e254.trans r254_0
  refine Win.to T254 (mkF m 27 #[.val (.ref t1), .val (.int b.toInt32), .val (.int (b + m1).toInt32), .val (.int m1.toInt32), .val (.ref b245)] [(.int m1.toInt32), (.int (0 : Int32)), (.ref b245), (.int b.toInt32), (.ref t1)]) (fun _ k => st254 _ k) ?_
  have As256 := own_arv F252
  have Ad256 := own_arv F251
  obtain ⟨T256, h256, L256, X256, e256, N256, Kc256, Ac256, st256⟩ := cpA X254 hx hZ hown (wk hw 157 rfl) (wk hw 160 rfl) (wk hw 158 rfl) (wk hw 159 rfl) e254 As256 Ad256 (Or.inl ⟨rfl, rfl⟩) (sp := b.toInt32) (dp := (0 : Int32)) (nn := m1.toInt32) (own_tn hb2).2.1 (by decide) (own_tn hm2).2.1 (by rw [(own_tn hb2).1, (own_tn hm2).1, (own_tn hn).1]; exact hbm) (by rw [(own_tn hm2).1]; exact Nat.le_of_eq (Nat.zero_add _)) rfl (by rw [(own_tn hm2).1]; simp) N255 g247 (g := (mkF m 27 #[.val (.ref t1), .val (.int b.toInt32), .val (.int (b + m1).toInt32), .val (.int m1.toInt32), .val (.ref b245)] [(.int m1.toInt32), (.int (0 : Int32)), (.ref b245), (.int b.toInt32), (.ref t1)])) rfl (by rw [hml]; rfl) (rest := []) rfl (hb hby d29_27) (by decide) (W := 0) (by show 2 * 0 + _ ≤ _; exact Nat.le_of_eq rfl) (by decide)
  have O258 := Old.keep O249 Kc256 (allS g247 all0)
  have K259 : Keep h0 h256 [] := Keep.trans K250 Kc256 (allS (Or.inr z248) all0)
  have F257 : ArF Z h256 b245 k245 .byte m1 (fun i => f (b + i)) := own_arfL Ac256 (own_tn hm2).1 (fun i hi => by rw [(own_tn hb2).1, (own_tn hm2).1]; exact own_cp hi hbm)
  refine Win.to T256 (mkF m 30 #[.val (.ref t1), .val (.int b.toInt32), .val (.int (b + m1).toInt32), .val (.int m1.toInt32), .val (.ref b245)] []) (fun _ k => st256 _ k) ?_
  refine Win.to T256 (mkF m 32 #[.val (.ref t1), .val (.int b.toInt32), .val (.int (b + m1).toInt32), .val (.int m1.toInt32), .val (.ref b245)] [(.ref b245)]) (fun _ k => XS.aload X256.here hx rfl (hb hby d29_30) rfl rfl k) ?_
  exact Win.retA X256 hx hlk hret rfl rfl (hb hby d29_32) (by decide) (by decide) (by (try rw [e256]); exact ⟨b245, k245, rfl, N256, K259, z248, F257⟩)
abbrev R_cpr : Room := ⟨2, 1, 4, 34⟩
set_option maxRecDepth 65536 in
set_option maxHeartbeats 40000000 in
theorem cpr (l : Launch) (Z : State) (a0 : Array Value) (hw : ∀ d ∈ tables_1, d.before a0 Z = true) (t1 : Addr) (k1 : ClassId) (n : Nat) (f : Nat → Int32) (b : Nat) (m1 : Nat) (h0 : Heap) (n0 : Nat) (O0 : Old Z n0 h0) (Fa : ArF Z h0 t1 k1 .byte n f) (hbm : b + m1 ≤ n) (hcap : m1 ≤ 4) (hnw : ¬ (b = 0 ∧ b + m1 = n)) :
    MetN l Z (⟨"java/util/Arrays", "copyOfRange", "([BII)[B"⟩ : MethodName) jdk_65_method_132_code 3 (some (.array .byte)) R_cpr [] #[(.ref t1), (.int b.toInt32), (.int (b + m1).toInt32)] h0 (fun v h L => ∃ (t2 : Addr) (k2 : ClassId), v = some (.ref t2) ∧ Fr n0 L ∧ Keep h0 h [] ∧ h0.size ≤ t2 ∧ ArF Z h t2 k2 .byte m1 (fun i => f (b + i))) := by
  refine MetN.walk (plainFor_of_name pn_28) ?_
  intro p e s m below meth c s₁ hx hZ hby hml hown hnm hret hlk X0 e0
  have N0 := Fr.nil n0
  refine Win.to s₁ (mkF m 0 #[.val (.ref t1), .val (.int b.toInt32), .val (.int (b + m1).toInt32)] []) (fun _ k => castTop (by first | (simp [entryFrame, mkF, argsToLocals, Value.category]; done) | rfl) k) ?_
  have hn := Fa.big
  have hb2 : b < 2 ^ 31 := by omega
  have he2 : b + m1 < 2 ^ 31 := by omega
  refine Win.to s₁ (mkF m 1 #[.val (.ref t1), .val (.int b.toInt32), .val (.int (b + m1).toInt32)] [(.int b.toInt32)]) (fun _ k => XS.iloadN X0.here hx rfl (hb hby d28_0) rfl k) ?_
  by_cases hc260 : b.toInt32 = (0 : Int32)
  · refine Win.to s₁ (mkF m 4 #[.val (.ref t1), .val (.int b.toInt32), .val (.int (b + m1).toInt32)] []) (fun _ k => XS.ifNo X0.here hx rfl (hb hby d28_1) rfl ((if0 _ _).trans (teq hc260).2) k) ?_
    refine Win.to s₁ (mkF m 5 #[.val (.ref t1), .val (.int b.toInt32), .val (.int (b + m1).toInt32)] [(.int (b + m1).toInt32)]) (fun _ k => XS.iloadN X0.here hx rfl (hb hby d28_4) rfl k) ?_
    refine Win.to s₁ (mkF m 6 #[.val (.ref t1), .val (.int b.toInt32), .val (.int (b + m1).toInt32)] [(.ref t1), (.int (b + m1).toInt32)]) (fun _ k => XS.aloadN X0.here hx rfl (hb hby d28_5) rfl rfl k) ?_
    obtain ⟨cl261, Ar261, hl261⟩ := ArF.len Fa
    refine Win.to s₁ (mkF m 7 #[.val (.ref t1), .val (.int b.toInt32), .val (.int (b + m1).toInt32)] [(.int n.toInt32), (.int (b + m1).toInt32)]) (fun _ k => X0.arraylength hx (by rw [e0]; exact Ar261.1) (State.isArrayOf_alike hZ.alike Ar261.2.1) (g := (mkF m 6 #[.val (.ref t1), .val (.int b.toInt32), .val (.int (b + m1).toInt32)] [(.ref t1), (.int (b + m1).toInt32)])) rfl rfl (hb hby d28_6) _ (by rw [hl261]; exact k)) ?_
    refine Win.to s₁ (mkF m 10 #[.val (.ref t1), .val (.int b.toInt32), .val (.int (b + m1).toInt32)] []) (fun _ k => XS.icmpNo X0.here hx rfl (hb hby d28_7) rfl (feq (show ¬ ((b + m1).toInt32 = n.toInt32) from (fun q => hnw ⟨own_zero hb2 hc260, own_inj he2 hn q⟩))).1 k) ?_
    refine Win.to s₁ (mkF m 11 #[.val (.ref t1), .val (.int b.toInt32), .val (.int (b + m1).toInt32)] [(.ref t1)]) (fun _ k => XS.aloadN X0.here hx rfl (hb hby d28_10) rfl rfl k) ?_
    refine Win.to s₁ (mkF m 12 #[.val (.ref t1), .val (.int b.toInt32), .val (.int (b + m1).toInt32)] [(.int b.toInt32), (.ref t1)]) (fun _ k => XS.iloadN X0.here hx rfl (hb hby d28_11) rfl k) ?_
    refine Win.to s₁ (mkF m 13 #[.val (.ref t1), .val (.int b.toInt32), .val (.int (b + m1).toInt32)] [(.int (b + m1).toInt32), (.int b.toInt32), (.ref t1)]) (fun _ k => XS.iloadN X0.here hx rfl (hb hby d28_12) rfl k) ?_
    obtain ⟨T262, h262, v262, L262, X262, e262, ⟨t2_262, k2_262, rfl, N262q, r262_0, r262_1, r262_2⟩, st262⟩ := N.static X0 hx hZ (y := (⟨"java/util/Arrays", "copyOfRangeByte", "([BII)[B"⟩ : MethodName)) hown (wk hw 150 rfl) (wk hw 151 rfl) (wk hw 148 rfl) (wk hw 152 rfl) (by decide) (cprB l Z a0 hw t1 k1 n f b m1 h0 n0 O0 Fa hbm hcap) e0 (g := (mkF m 13 #[.val (.ref t1), .val (.int b.toInt32), .val (.int (b + m1).toInt32)] [(.int (b + m1).toInt32), (.int b.toInt32), (.ref t1)])) rfl (by rw [hml]; rfl) (argsL := [(.ref t1), (.int b.toInt32), (.int (b + m1).toInt32)]) (rest := []) rfl (lenOf pd___BII__B rfl) rfl (W := 0) (by show 2 * 0 + _ ≤ _; exact Nat.le_of_eq rfl) (hb hby d28_13) (by decide) (by decide) (by decide) (by decide)
    have N263 := Fr.app N0 N262q
    have ne264 : t1 ≠ t2_262 := Nat.ne_of_lt (Nat.lt_of_lt_of_le Fa.lt r262_1)
    have g265 : n0 ≤ t2_262 := Nat.le_trans (own_le O0) r262_1
    have z266 : h0.size ≤ t2_262 := r262_1
    have O267 := Old.keep O0 r262_0 all0
    have K268 : Keep h0 h262 [] := Keep.trans (Keep.refl h0 []) r262_0 all0
    refine Win.to T262 (mkF m 16 #[.val (.ref t1), .val (.int b.toInt32), .val (.int (b + m1).toInt32)] [(.ref t2_262)]) (fun _ k => st262 _ k) ?_
    exact Win.retA X262 hx hlk hret rfl rfl (hb hby d28_16) (by decide) (by decide) (by (try rw [e262]); exact ⟨t2_262, k2_262, rfl, N263, K268, z266, r262_2⟩)
  · refine Win.to s₁ (mkF m 10 #[.val (.ref t1), .val (.int b.toInt32), .val (.int (b + m1).toInt32)] []) (fun _ k => XS.ifYes X0.here hx rfl (pc0 := 1) (pc' := 10) rfl (hb hby d28_1) rfl ((if0 _ _).trans (feq hc260).2) (by decide) (by decide) k) ?_
    refine Win.to s₁ (mkF m 11 #[.val (.ref t1), .val (.int b.toInt32), .val (.int (b + m1).toInt32)] [(.ref t1)]) (fun _ k => XS.aloadN X0.here hx rfl (hb hby d28_10) rfl rfl k) ?_
    refine Win.to s₁ (mkF m 12 #[.val (.ref t1), .val (.int b.toInt32), .val (.int (b + m1).toInt32)] [(.int b.toInt32), (.ref t1)]) (fun _ k => XS.iloadN X0.here hx rfl (hb hby d28_11) rfl k) ?_
    refine Win.to s₁ (mkF m 13 #[.val (.ref t1), .val (.int b.toInt32), .val (.int (b + m1).toInt32)] [(.int (b + m1).toInt32), (.int b.toInt32), (.ref t1)]) (fun _ k => XS.iloadN X0.here hx rfl (hb hby d28_12) rfl k) ?_
    obtain ⟨T269, h269, v269, L269, X269, e269, ⟨t2_269, k2_269, rfl, N269q, r269_0, r269_1, r269_2⟩, st269⟩ := N.static X0 hx hZ (y := (⟨"java/util/Arrays", "copyOfRangeByte", "([BII)[B"⟩ : MethodName)) hown (wk hw 150 rfl) (wk hw 151 rfl) (wk hw 148 rfl) (wk hw 152 rfl) (by decide) (cprB l Z a0 hw t1 k1 n f b m1 h0 n0 O0 Fa hbm hcap) e0 (g := (mkF m 13 #[.val (.ref t1), .val (.int b.toInt32), .val (.int (b + m1).toInt32)] [(.int (b + m1).toInt32), (.int b.toInt32), (.ref t1)])) rfl (by rw [hml]; rfl) (argsL := [(.ref t1), (.int b.toInt32), (.int (b + m1).toInt32)]) (rest := []) rfl (lenOf pd___BII__B rfl) rfl (W := 0) (by show 2 * 0 + _ ≤ _; exact Nat.le_of_eq rfl) (hb hby d28_13) (by decide) (by decide) (by decide) (by decide)
    have N270 := Fr.app N0 N269q
    have ne271 : t1 ≠ t2_269 := Nat.ne_of_lt (Nat.lt_of_lt_of_le Fa.lt r269_1)
    have g272 : n0 ≤ t2_269 := Nat.le_trans (own_le O0) r269_1
    have z273 : h0.size ≤ t2_269 := r269_1
    have O274 := Old.keep O0 r269_0 all0
    have K275 : Keep h0 h269 [] := Keep.trans (Keep.refl h0 []) r269_0 all0
    refine Win.to T269 (mkF m 16 #[.val (.ref t1), .val (.int b.toInt32), .val (.int (b + m1).toInt32)] [(.ref t2_269)]) (fun _ k => st269 _ k) ?_
    exact Win.retA X269 hx hlk hret rfl rfl (hb hby d28_16) (by decide) (by decide) (by (try rw [e269]); exact ⟨t2_269, k2_269, rfl, N270, K275, z273, r269_2⟩)
abbrev R_ctorBB : Room := ⟨1, 0, 0, 12⟩
set_option maxRecDepth 65536 in
set_option maxHeartbeats 40000000 in
theorem ctorBB (l : Launch) (Z : State) (a0 : Array Value) (hw : ∀ d ∈ tables_1, d.before a0 Z = true) (a1 : Addr) (t1 : Addr) (h0 : Heap) (n0 : Nat) (O0 : Old Z n0 h0) (E1 : Exa Z h0 a1 "java/lang/String") (F1 : Fld Z h0 a1 "java/lang/String" "value" "[B" .null) (F2 : Fld Z h0 a1 "java/lang/String" "coder" "B" (.int (0 : Int32))) (g1 : n0 ≤ a1) :
    MetN l Z (⟨"java/lang/String", "<init>", "([BB)V"⟩ : MethodName) jdk_42_method_151_code 3 none R_ctorBB [] #[(.ref a1), (.ref t1), (.int (0 : Int32))] h0 (fun v h L => v = none ∧ Fr n0 L ∧ Keep h0 h [a1] ∧ Fld Z h a1 "java/lang/String" "value" "[B" (.ref t1) ∧ Fld Z h a1 "java/lang/String" "coder" "B" (.int (0 : Int32))) := by
  refine MetN.walk (plainFor_of_name pn_31) ?_
  intro p e s m below meth c s₁ hx hZ hby hml hown hnm hret hlk X0 e0
  have N0 := Fr.nil n0
  refine Win.to s₁ (mkF m 0 #[.val (.ref a1), .val (.ref t1), .val (.int (0 : Int32))] []) (fun _ k => castTop (by first | (simp [entryFrame, mkF, argsToLocals, Value.category]; done) | rfl) k) ?_
  refine Win.to s₁ (mkF m 1 #[.val (.ref a1), .val (.ref t1), .val (.int (0 : Int32))] [(.ref a1)]) (fun _ k => XS.aloadN X0.here hx rfl (hb hby d31_0) rfl rfl k) ?_
  obtain ⟨T276, X276, e276, st276⟩ := initO X0 hx hZ hown (wk hw 16 rfl) (wk hw 17 rfl) (wk hw 18 rfl) e0 (g := (mkF m 1 #[.val (.ref a1), .val (.ref t1), .val (.int (0 : Int32))] [(.ref a1)])) rfl (by rw [hml]; rfl) rfl (hb hby d31_1) (by decide) (W := 0) (by show 2 * 0 + _ ≤ _; exact Nat.le_of_eq rfl) (by decide)
  refine Win.to T276 (mkF m 4 #[.val (.ref a1), .val (.ref t1), .val (.int (0 : Int32))] []) (fun _ k => st276 _ k) ?_
  refine Win.to T276 (mkF m 5 #[.val (.ref a1), .val (.ref t1), .val (.int (0 : Int32))] [(.ref a1)]) (fun _ k => XS.aloadN X276.here hx rfl (hb hby d31_4) rfl rfl k) ?_
  refine Win.to T276 (mkF m 6 #[.val (.ref a1), .val (.ref t1), .val (.int (0 : Int32))] [(.ref t1), (.ref a1)]) (fun _ k => XS.aloadN X276.here hx rfl (hb hby d31_5) rfl rfl k) ?_
  obtain ⟨T277, h277, X277, e277, W277, st277⟩ := putF X276 hx hZ hown (host := "") (Or.inl (wk hw 25 rfl)) Via.refl e276 F1 E1 (Or.inr ⟨(wk hw 21 rfl), rfl, hnm⟩) (wk hw 7 rfl) (ty := (.array .byte)) (by decide) rfl rfl (g := (mkF m 6 #[.val (.ref a1), .val (.ref t1), .val (.int (0 : Int32))] [(.ref t1), (.ref a1)])) rfl rfl (hb hby d31_6)
  have O279 := Old.wr O0 W277 g1
  have K280 : Keep h0 h277 [a1] := (Keep.refl h0 [a1]).wr W277 (Or.inl (List.mem_of_getElem? (i := 0) rfl))
  have N281 := Fr.snoc X277 N0 g1
  have F278 : Fld Z h277 a1 "java/lang/String" "value" "[B" (.ref t1) := Fld.same W277 F1
  refine Win.to T277 (mkF m 9 #[.val (.ref a1), .val (.ref t1), .val (.int (0 : Int32))] []) (fun _ k => st277 _ k) ?_
  refine Win.to T277 (mkF m 10 #[.val (.ref a1), .val (.ref t1), .val (.int (0 : Int32))] [(.ref a1)]) (fun _ k => XS.aloadN X277.here hx rfl (hb hby d31_9) rfl rfl k) ?_
  refine Win.to T277 (mkF m 11 #[.val (.ref a1), .val (.ref t1), .val (.int (0 : Int32))] [(.int (0 : Int32)), (.ref a1)]) (fun _ k => XS.iloadN X277.here hx rfl (hb hby d31_10) rfl k) ?_
  have F282 : Exa Z h277 a1 "java/lang/String" := (Exa.wr W277 E1)
  have F283 : Fld Z h277 a1 "java/lang/String" "coder" "B" (.int (0 : Int32)) := (Fld.other W277 F2 (Or.inr (slot_ne (Or.inr (wk hw 22 rfl)) (Or.inr (wk hw 21 rfl)) (by decide) (t := .byte) (t' := (.array .byte)) (by decide) (by decide))))
  obtain ⟨T284, h284, X284, e284, W284, st284⟩ := putFN X277 hx hZ hown (wk hw 26 rfl) Via.refl e277 F283 F282 (Or.inr ⟨(wk hw 22 rfl), rfl, hnm⟩) (wk hw 7 rfl) (ty := .byte) (v' := (.int (0 : Int32))) (by decide) rfl rfl (g := (mkF m 11 #[.val (.ref a1), .val (.ref t1), .val (.int (0 : Int32))] [(.int (0 : Int32)), (.ref a1)])) rfl rfl (hb hby d31_11)
  have O286 := Old.wr O279 W284 g1
  have K287 : Keep h0 h284 [a1] := K280.wr W284 (Or.inl (List.mem_of_getElem? (i := 0) rfl))
  have N288 := Fr.snoc X284 N281 g1
  have F285 : Fld Z h284 a1 "java/lang/String" "coder" "B" (.int (0 : Int32)) := Fld.same W284 F283
  refine Win.to T284 (mkF m 14 #[.val (.ref a1), .val (.ref t1), .val (.int (0 : Int32))] []) (fun _ k => st284 _ k) ?_
  have F289 : Fld Z h284 a1 "java/lang/String" "value" "[B" (.ref t1) := (Fld.other W284 F278 (Or.inr (slot_ne (Or.inr (wk hw 21 rfl)) (Or.inr (wk hw 22 rfl)) (by decide) (t := (.array .byte)) (t' := .byte) (by decide) (by decide))))
  exact Win.retV X284 hx hlk hret (hb hby d31_14) (by decide) (by decide) (by (try rw [e284]); exact ⟨rfl, N288, K287, F289, F285⟩)
abbrev R_newStr : Room := ⟨3, 2, 8, 50⟩
set_option maxRecDepth 65536 in
set_option maxHeartbeats 40000000 in
theorem newStr (l : Launch) (Z : State) (a0 : Array Value) (hw : ∀ d ∈ tables_1, d.before a0 Z = true) (t1 : Addr) (k1 : ClassId) (n : Nat) (f : Nat → Int32) (b : Nat) (m1 : Nat) (h0 : Heap) (n0 : Nat) (O0 : Old Z n0 h0) (Fa : ArF Z h0 t1 k1 .byte n f) (hbm : b + m1 ≤ n) (hcap : m1 ≤ 4) (hnw : ¬ (b = 0 ∧ b + m1 = n)) :
    MetW l Z (⟨"java/lang/StringLatin1", "newString", "([BII)Ljava/lang/String;"⟩ : MethodName) jdk_43_method_47_code 3 (some (.object "java/lang/String")) R_newStr [] #[(.ref t1), (.int b.toInt32), (.int m1.toInt32)] h0 EL1 (fun v h L => ∃ (r : Addr) (t2 : Addr) (k2 : ClassId), v = some (.ref r) ∧ Fr n0 L ∧ Keep h0 h [] ∧ Exa Z h r "java/lang/String" ∧ Fld Z h r "java/lang/String" "value" "[B" (.ref t2) ∧ Fld Z h r "java/lang/String" "coder" "B" (.int (0 : Int32)) ∧ ArF Z h t2 k2 .byte m1 (fun i => f (b + i))) := by
  refine MetW.walk (plainFor_of_name pn_27) ?_
  intro p e s m below meth c s₁ hx hZ hby hml hown hnm hret hlk C0 hS0 X0 e0
  have N0 := Fr.nil n0
  refine WinW.to s₁ (mkF m 0 #[.val (.ref t1), .val (.int b.toInt32), .val (.int m1.toInt32)] []) (fun _ k => castTop (by first | (simp [entryFrame, mkF, argsToLocals, Value.category]; done) | rfl) k) ?_
  have hn := Fa.big
  have hb2 : b < 2 ^ 31 := by omega
  have he2 : b + m1 < 2 ^ 31 := by omega
  have hm2 : m1 < 2 ^ 31 := by omega
  refine WinW.to s₁ (mkF m 1 #[.val (.ref t1), .val (.int b.toInt32), .val (.int m1.toInt32)] [(.int m1.toInt32)]) (fun _ k => XS.iloadN X0.here hx rfl (hb hby d27_0) rfl k) ?_
  by_cases hc290 : m1.toInt32 = (0 : Int32)
  · refine WinW.to s₁ (mkF m 4 #[.val (.ref t1), .val (.int b.toInt32), .val (.int m1.toInt32)] []) (fun _ k => XS.ifNo X0.here hx rfl (hb hby d27_1) rfl ((if0 _ _).trans (teq hc290).2) k) ?_
    obtain ⟨b291, T291, h291, k291, d291, kk291, X291, e291, E291, hS291, hk291, hZ291, hown291, Fe291, Fc291, Fv291, Fa291, -, -, c291, -, Sf291, st291⟩ := ldcCH X0 hx hZ hown (wk hw 144 rfl) (own_wS hw) e0 hS0 (Nat.zero_le _) (own_EW hw) (by decide) C0.1 (vs := []) (z := (0 : Int32)) (by decide) (by decide) rfl (g := (mkF m 4 #[.val (.ref t1), .val (.int b.toInt32), .val (.int m1.toInt32)] [])) rfl (hb hby d27_4) (n := 0) (by decide) (by decide) (by decide) (by decide)
    have O292 := Old.ext O0 E291
    have K293 : Keep h0 h291 [] := (Keep.refl h0 []).ext E291
    have c294 := c291
    have C295 := CHr.trans C0 c294
    refine WinW.to T291 (mkF m 6 #[.val (.ref t1), .val (.int b.toInt32), .val (.int m1.toInt32)] [(.ref b291)]) (fun _ k => st291 _ k) ?_
    have F296 : ArF Z h291 d291 kk291 .byte 0 (fun i => ([] : List Int32).getD i 0) := own_arf [] Fa291 rfl
    have hm0 : m1 = 0 := own_zero hm2 hc290
    have F297 : ArF Z h291 d291 kk291 .byte m1 (fun i => f (b + i)) := by rw [hm0]; exact ArF.cong F296 fun i hi => absurd hi (Nat.not_lt_zero _)
    exact WinW.retA X291 hS291 (by rw [e291]; exact hk291) hx hlk hret rfl rfl (hb hby d27_6) hZ291 (own_EW hw) (by rw [e291]; exact C295) (by decide) (by decide) (by (try rw [e291]); exact ⟨b291, d291, kk291, rfl, N0, K293, Fe291, Fv291, Fc291, F297⟩)
  · refine WinW.to s₁ (mkF m 7 #[.val (.ref t1), .val (.int b.toInt32), .val (.int m1.toInt32)] []) (fun _ k => XS.ifYes X0.here hx rfl (pc0 := 1) (pc' := 7) rfl (hb hby d27_1) rfl ((if0 _ _).trans (feq hc290).2) (by decide) (by decide) k) ?_
    obtain ⟨T298, h298, X298, e298, E298, A298, D298, -, st298⟩ := newO X0 hx hZ hown (wk hw 145 rfl) (wk hw 7 rfl) (wk hw 8 rfl) e0 (g := (mkF m 7 #[.val (.ref t1), .val (.int b.toInt32), .val (.int m1.toInt32)] [])) rfl (hb hby d27_7) (by decide) (by decide)
    obtain ⟨b298, g298⟩ : ∃ z, z = h0.size := ⟨_, rfl⟩
    rw [← g298] at A298 D298 st298
    have ne299 : t1 ≠ b298 := Nat.ne_of_lt (Nat.lt_of_lt_of_le Fa.lt (Nat.le_of_eq g298.symm))
    have g300 : n0 ≤ b298 := Nat.le_trans (own_le O0) (Nat.le_of_eq g298.symm)
    have z301 : h0.size ≤ b298 := (Nat.le_of_eq g298.symm)
    have O302 := Old.ext O0 E298
    have K303 : Keep h0 h298 [] := (Keep.refl h0 []).ext E298
    have c304 := CHr.ext E298 C0.1
    have C305 := CHr.trans C0 c304
    have F306 : Fld Z h298 b298 "java/lang/String" "value" "[B" .null := D298 (Or.inr (wk hw 21 rfl)) (ty := (.array .byte)) (by decide)
    have F307 : Fld Z h298 b298 "java/lang/String" "coder" "B" (.int (0 : Int32)) := D298 (Or.inr (wk hw 22 rfl)) (ty := .byte) (by decide)
    refine WinW.to T298 (mkF m 10 #[.val (.ref t1), .val (.int b.toInt32), .val (.int m1.toInt32)] [(.ref b298)]) (fun _ k => st298 _ k) ?_
    refine WinW.to T298 (mkF m 11 #[.val (.ref t1), .val (.int b.toInt32), .val (.int m1.toInt32)] [(.ref b298), (.ref b298)]) (fun _ k => XS.dup X298.here hx rfl (hb hby d27_10) rfl rfl k) ?_
    refine WinW.to T298 (mkF m 12 #[.val (.ref t1), .val (.int b.toInt32), .val (.int m1.toInt32)] [(.ref t1), (.ref b298), (.ref b298)]) (fun _ k => XS.aloadN X298.here hx rfl (hb hby d27_11) rfl rfl k) ?_
    refine WinW.to T298 (mkF m 13 #[.val (.ref t1), .val (.int b.toInt32), .val (.int m1.toInt32)] [(.int b.toInt32), (.ref t1), (.ref b298), (.ref b298)]) (fun _ k => XS.iloadN X298.here hx rfl (hb hby d27_12) rfl k) ?_
    refine WinW.to T298 (mkF m 14 #[.val (.ref t1), .val (.int b.toInt32), .val (.int m1.toInt32)] [(.int b.toInt32), (.int b.toInt32), (.ref t1), (.ref b298), (.ref b298)]) (fun _ k => XS.iloadN X298.here hx rfl (hb hby d27_13) rfl k) ?_
    refine WinW.to T298 (mkF m 15 #[.val (.ref t1), .val (.int b.toInt32), .val (.int m1.toInt32)] [(.int m1.toInt32), (.int b.toInt32), (.int b.toInt32), (.ref t1), (.ref b298), (.ref b298)]) (fun _ k => XS.iloadN X298.here hx rfl (hb hby d27_14) rfl k) ?_
    refine WinW.to T298 (mkF m 16 #[.val (.ref t1), .val (.int b.toInt32), .val (.int m1.toInt32)] [(.int (b + m1).toInt32), (.int b.toInt32), (.ref t1), (.ref b298), (.ref b298)]) (fun _ k => XS.iadd X298.here hx rfl (hb hby d27_15) rfl (by rw [show (b.toInt32 + m1.toInt32) = (b + m1).toInt32 from own_add he2]; exact k)) ?_
    have F308 : ArF Z h298 t1 k1 .byte n f := (Fa.ext E298)
    obtain ⟨T309, h309, v309, L309, X309, e309, ⟨t2_309, k2_309, rfl, N309q, r309_0, r309_1, r309_2⟩, st309⟩ := N.static X298 hx hZ (y := (⟨"java/util/Arrays", "copyOfRange", "([BII)[B"⟩ : MethodName)) hown (wk hw 146 rfl) (wk hw 147 rfl) (wk hw 148 rfl) (wk hw 149 rfl) (by decide) (cpr l Z a0 hw t1 k1 n f b m1 h298 n0 O302 F308 hbm hcap hnw) e298 (g := (mkF m 16 #[.val (.ref t1), .val (.int b.toInt32), .val (.int m1.toInt32)] [(.int (b + m1).toInt32), (.int b.toInt32), (.ref t1), (.ref b298), (.ref b298)])) rfl (by rw [hml]; rfl) (argsL := [(.ref t1), (.int b.toInt32), (.int (b + m1).toInt32)]) (rest := [(.ref b298), (.ref b298)]) rfl (lenOf pd___BII__B rfl) rfl (W := 2) (by show 2 * 0 + _ ≤ _; exact Nat.le_of_eq rfl) (hb hby d27_16) (by decide) (by decide) (by decide) (by decide)
    have N310 := Fr.app N0 N309q
    have ne311 : t1 ≠ t2_309 := Nat.ne_of_lt (Nat.lt_of_lt_of_le F308.lt r309_1)
    have ne312 : b298 ≠ t2_309 := Nat.ne_of_lt (Nat.lt_of_lt_of_le A298.lt r309_1)
    have g313 : n0 ≤ t2_309 := Nat.le_trans (own_le O302) r309_1
    have z314 : h0.size ≤ t2_309 := Nat.le_trans K303.1 r309_1
    have O315 := Old.keep O302 r309_0 all0
    have K316 : Keep h0 h309 [] := Keep.trans K303 r309_0 all0
    have c317 := CHr.keep r309_0 sf0 C305.1
    have C318 := CHr.trans C305 c317
    refine WinW.to T309 (mkF m 19 #[.val (.ref t1), .val (.int b.toInt32), .val (.int m1.toInt32)] [(.ref t2_309), (.ref b298), (.ref b298)]) (fun _ k => st309 _ k) ?_
    refine WinW.to T309 (mkF m 20 #[.val (.ref t1), .val (.int b.toInt32), .val (.int m1.toInt32)] [(.int (0 : Int32)), (.ref t2_309), (.ref b298), (.ref b298)]) (fun _ k => XS.iconst X309.here hx rfl (hb hby d27_19) k) ?_
    have F319 : Exa Z h309 b298 "java/lang/String" := (A298.keep r309_0)
    have F320 : Fld Z h309 b298 "java/lang/String" "value" "[B" .null := (F306.keep r309_0 nin0)
    have F321 : Fld Z h309 b298 "java/lang/String" "coder" "B" (.int (0 : Int32)) := (F307.keep r309_0 nin0)
    have S323 : Safe Z EL1 (s.setVm s.vm).vm h309 b298 := own_safe hZ.alike F319 F320 (wk hw 7 rfl)
    obtain ⟨T322, h322, v322, L322, X322, e322, ⟨rfl, N322q, r322_0, r322_1, r322_2⟩, st322⟩ := N.special X309 hx hZ (y := (⟨"java/lang/String", "<init>", "([BB)V"⟩ : MethodName)) rfl hown (wk hw 161 rfl) (wk hw 162 rfl) (wk hw 8 rfl) (wk hw 163 rfl) (by decide) (ctorBB l Z a0 hw b298 t2_309 h309 n0 O315 F319 F320 F321 g300) e309 (g := (mkF m 20 #[.val (.ref t1), .val (.int b.toInt32), .val (.int m1.toInt32)] [(.int (0 : Int32)), (.ref t2_309), (.ref b298), (.ref b298)])) rfl (by rw [hml]; rfl) (a := b298) (argsL := [(.ref t2_309), (.int (0 : Int32))]) (rest := [(.ref b298)]) rfl (lenOf pd___BB_V rfl) rfl (W := 1) (by show 2 * 0 + _ ≤ _; exact Nat.le_of_eq rfl) (hb hby d27_20) (by decide) (by decide) (by decide) (by decide)
    have N324 := Fr.app N310 N322q
    have O325 := Old.keep O315 r322_0 (allS g300 all0)
    have K326 : Keep h0 h322 [] := Keep.trans K316 r322_0 (allS (Or.inr z301) all0)
    have c327 := CHr.keep r322_0 (sfS S323 sf0) C318.1
    have C328 := CHr.trans C318 c327
    have S329 := CHr.safe c327 F319.lt S323
    refine WinW.to T322 (mkF m 23 #[.val (.ref t1), .val (.int b.toInt32), .val (.int m1.toInt32)] [(.ref b298)]) (fun _ k => st322 _ k) ?_
    have F330 : Exa Z h322 b298 "java/lang/String" := (F319.keep r322_0)
    have F331 : ArF Z h322 t2_309 k2_309 .byte m1 (fun i => f (b + i)) := (r309_2.keep r322_0 (ninS (Ne.symm ne312) nin0))
    exact WinW.retA X322 hS0 (by rw [e322]; exact (Nat.zero_le _)) hx hlk hret rfl rfl (hb hby d27_23) hZ (own_EW hw) (by rw [e322]; exact C328) (by decide) (by decide) (by (try rw [e322]); exact ⟨b298, t2_309, k2_309, rfl, N324, K326, F330, r322_1, r322_2, F331⟩)
abbrev R_subs : Room := ⟨4, 2, 8, 64⟩
set_option maxRecDepth 65536 in
set_option maxHeartbeats 40000000 in
theorem subs (l : Launch) (Z : State) (a0 : Array Value) (hw : ∀ d ∈ tables_1, d.before a0 Z = true) (a1 : Addr) (t1 : Addr) (k1 : ClassId) (n : Nat) (f : Nat → Int32) (b : Nat) (en : Nat) (cs : Int32) (x1 : Value) (h0 : Heap) (n0 : Nat) (O0 : Old Z n0 h0) (E1 : Exa Z h0 a1 "java/lang/String") (F1 : Fld Z h0 a1 "java/lang/String" "value" "[B" (.ref t1)) (F2 : Fld Z h0 a1 "java/lang/String" "coder" "B" (.int (0 : Int32))) (Fa : ArF Z h0 t1 k1 .byte n f) (hbe : b ≤ en) (hen : en ≤ n) (hcap : n ≤ 4) (S_CS : Sta Z Z.heap "java/lang/String" "COMPACT_STRINGS" "Z" (.int cs)) (hcs : ¬ (cs = (0 : Int32))) (S_SI : Sta Z Z.heap "jdk/internal/util/Preconditions" "SIOOBE_FORMATTER" "Ljava/util/function/BiFunction;" x1) (hx1 : x1.isRef = true) :
    MetW l Z (⟨"java/lang/String", "substring", "(II)Ljava/lang/String;"⟩ : MethodName) jdk_42_method_92_code 5 (some (.object "java/lang/String")) R_subs [] #[(.ref a1), (.int b.toInt32), (.int en.toInt32)] h0 EL1 (fun v h L => ∃ (r : Addr) (t2 : Addr) (k2 : ClassId), v = some (.ref r) ∧ Fr n0 L ∧ Keep h0 h [] ∧ Exa Z h r "java/lang/String" ∧ Fld Z h r "java/lang/String" "value" "[B" (.ref t2) ∧ Fld Z h r "java/lang/String" "coder" "B" (.int (0 : Int32)) ∧ ArF Z h t2 k2 .byte (en - b) (fun i => f (b + i))) := by
  refine MetW.walk (plainFor_of_name pn_20) ?_
  intro p e s m below meth c s₁ hx hZ hby hml hown hnm hret hlk C0 hS0 X0 e0
  have N0 := Fr.nil n0
  refine WinW.to s₁ (mkF m 0 #[.val (.ref a1), .val (.int b.toInt32), .val (.int en.toInt32), .unset, .unset] []) (fun _ k => castTop (by first | (simp [entryFrame, mkF, argsToLocals, Value.category]; done) | rfl) k) ?_
  have hn := Fa.big
  have hb2 : b < 2 ^ 31 := by omega
  have he2 : en < 2 ^ 31 := by omega
  refine WinW.to s₁ (mkF m 1 #[.val (.ref a1), .val (.int b.toInt32), .val (.int en.toInt32), .unset, .unset] [(.ref a1)]) (fun _ k => XS.aloadN X0.here hx rfl (hb hby d20_0) rfl rfl k) ?_
  obtain ⟨T332, h332, v332, L332, X332, e332, ⟨rfl, N332q, r332_0⟩, st332⟩ := N.virtual X0 hx hZ (y := (⟨"java/lang/String", "length", "()I"⟩ : MethodName)) (z := (⟨"java/lang/String", "length", "()I"⟩ : MethodName)) hown (wk hw 77 rfl) (wk hw 78 rfl) (notFace_of_selects (args := #[]) (mvT hZ (wk hw 80 rfl))) (wk hw 80 rfl) (wk hw 79 rfl) (wk hw 8 rfl) (wk hw 81 rfl) (by decide) (strLen l Z a0 hw a1 t1 k1 n f cs h0 n0 O0 E1 F1 F2 Fa S_CS hcs) e0 E1 (g := (mkF m 1 #[.val (.ref a1), .val (.int b.toInt32), .val (.int en.toInt32), .unset, .unset] [(.ref a1)])) rfl (by rw [hml]; rfl) (argsL := []) (rest := []) rfl (lenOf pd___I rfl) rfl (W := 0) (by show 2 * 0 + _ ≤ _; exact Nat.le_of_eq rfl) (hb hby d20_1) (by decide) (by decide) (by decide) (by decide)
  have N333 := Fr.app N0 N332q
  have e332 := e332.trans r332_0
  refine WinW.to T332 (mkF m 4 #[.val (.ref a1), .val (.int b.toInt32), .val (.int en.toInt32), .unset, .unset] [(.int n.toInt32)]) (fun _ k => st332 _ k) ?_
  refine WinW.to T332 (mkF m 5 #[.val (.ref a1), .val (.int b.toInt32), .val (.int en.toInt32), .val (.int n.toInt32), .unset] []) (fun _ k => XS.istoreN X332.here hx rfl (hb hby d20_4) rfl (l' := #[.val (.ref a1), .val (.int b.toInt32), .val (.int en.toInt32), .val (.int n.toInt32), .unset]) rfl k) ?_
  refine WinW.to T332 (mkF m 6 #[.val (.ref a1), .val (.int b.toInt32), .val (.int en.toInt32), .val (.int n.toInt32), .unset] [(.int b.toInt32)]) (fun _ k => XS.iloadN X332.here hx rfl (hb hby d20_5) rfl k) ?_
  refine WinW.to T332 (mkF m 7 #[.val (.ref a1), .val (.int b.toInt32), .val (.int en.toInt32), .val (.int n.toInt32), .unset] [(.int en.toInt32), (.int b.toInt32)]) (fun _ k => XS.iloadN X332.here hx rfl (hb hby d20_6) rfl k) ?_
  refine WinW.to T332 (mkF m 8 #[.val (.ref a1), .val (.int b.toInt32), .val (.int en.toInt32), .val (.int n.toInt32), .unset] [(.int n.toInt32), (.int en.toInt32), (.int b.toInt32)]) (fun _ k => XS.iloadN X332.here hx rfl (hb hby d20_7) rfl k) ?_
  obtain ⟨T334, h334, v334, L334, X334, e334, ⟨rfl, N334q, r334_0⟩, st334⟩ := N.static X332 hx hZ (y := (⟨"java/lang/String", "checkBoundsBeginEnd", "(III)V"⟩ : MethodName)) hown (wk hw 119 rfl) (wk hw 120 rfl) (wk hw 8 rfl) (wk hw 121 rfl) (by decide) (chkBE l Z a0 hw b en n x1 h0 n0 O0 hbe hen (by first | assumption | decide | omega) S_SI hx1) e332 (g := (mkF m 8 #[.val (.ref a1), .val (.int b.toInt32), .val (.int en.toInt32), .val (.int n.toInt32), .unset] [(.int n.toInt32), (.int en.toInt32), (.int b.toInt32)])) rfl (by rw [hml]; rfl) (argsL := [(.int b.toInt32), (.int en.toInt32), (.int n.toInt32)]) (rest := []) rfl (lenOf pd__III_V rfl) rfl (W := 0) (by show 2 * 0 + _ ≤ _; exact Nat.le_of_eq rfl) (hb hby d20_8) (by decide) (by decide) (by decide) (by decide)
  have N335 := Fr.app N333 N334q
  have e334 := e334.trans r334_0
  refine WinW.to T334 (mkF m 11 #[.val (.ref a1), .val (.int b.toInt32), .val (.int en.toInt32), .val (.int n.toInt32), .unset] []) (fun _ k => st334 _ k) ?_
  refine WinW.to T334 (mkF m 12 #[.val (.ref a1), .val (.int b.toInt32), .val (.int en.toInt32), .val (.int n.toInt32), .unset] [(.int b.toInt32)]) (fun _ k => XS.iloadN X334.here hx rfl (hb hby d20_11) rfl k) ?_
  by_cases hc336 : b.toInt32 = (0 : Int32)
  · refine WinW.to T334 (mkF m 15 #[.val (.ref a1), .val (.int b.toInt32), .val (.int en.toInt32), .val (.int n.toInt32), .unset] []) (fun _ k => XS.ifNo X334.here hx rfl (hb hby d20_12) rfl ((if0 _ _).trans (teq hc336).2) k) ?_
    refine WinW.to T334 (mkF m 16 #[.val (.ref a1), .val (.int b.toInt32), .val (.int en.toInt32), .val (.int n.toInt32), .unset] [(.int en.toInt32)]) (fun _ k => XS.iloadN X334.here hx rfl (hb hby d20_15) rfl k) ?_
    refine WinW.to T334 (mkF m 17 #[.val (.ref a1), .val (.int b.toInt32), .val (.int en.toInt32), .val (.int n.toInt32), .unset] [(.int n.toInt32), (.int en.toInt32)]) (fun _ k => XS.iloadN X334.here hx rfl (hb hby d20_16) rfl k) ?_
    by_cases hc337 : en.toInt32 = n.toInt32
    · refine WinW.to T334 (mkF m 20 #[.val (.ref a1), .val (.int b.toInt32), .val (.int en.toInt32), .val (.int n.toInt32), .unset] []) (fun _ k => XS.icmpNo X334.here hx rfl (hb hby d20_17) rfl (teq hc337).2 k) ?_
      refine WinW.to T334 (mkF m 21 #[.val (.ref a1), .val (.int b.toInt32), .val (.int en.toInt32), .val (.int n.toInt32), .unset] [(.ref a1)]) (fun _ k => XS.aloadN X334.here hx rfl (hb hby d20_20) rfl rfl k) ?_
      have hb0 : b = 0 := own_zero hb2 hc336
      have hen0 : en = n := own_inj he2 hn hc337
      have F338 : ArF Z h0 t1 k1 .byte (en - b) (fun i => f (b + i)) := by subst hb0; subst hen0; simpa using Fa
      exact WinW.retA X334 hS0 (by rw [e334]; exact (Nat.zero_le _)) hx hlk hret rfl rfl (hb hby d20_21) hZ (own_EW hw) (by rw [e334]; exact C0) (by decide) (by decide) (by (try rw [e334]); exact ⟨a1, t1, k1, rfl, N335, (Keep.refl _ _), E1, F1, F2, F338⟩)
    · refine WinW.to T334 (mkF m 22 #[.val (.ref a1), .val (.int b.toInt32), .val (.int en.toInt32), .val (.int n.toInt32), .unset] []) (fun _ k => XS.icmpYes X334.here hx rfl (pc0 := 17) (pc' := 22) rfl (hb hby d20_17) rfl (feq hc337).2 (by decide) (by decide) k) ?_
      refine WinW.to T334 (mkF m 23 #[.val (.ref a1), .val (.int b.toInt32), .val (.int en.toInt32), .val (.int n.toInt32), .unset] [(.int en.toInt32)]) (fun _ k => XS.iloadN X334.here hx rfl (hb hby d20_22) rfl k) ?_
      refine WinW.to T334 (mkF m 24 #[.val (.ref a1), .val (.int b.toInt32), .val (.int en.toInt32), .val (.int n.toInt32), .unset] [(.int b.toInt32), (.int en.toInt32)]) (fun _ k => XS.iloadN X334.here hx rfl (hb hby d20_23) rfl k) ?_
      refine WinW.to T334 (mkF m 25 #[.val (.ref a1), .val (.int b.toInt32), .val (.int en.toInt32), .val (.int n.toInt32), .unset] [(.int (en - b).toInt32)]) (fun _ k => XS.isub X334.here hx rfl (hb hby d20_24) rfl (by rw [show (en.toInt32 - b.toInt32) = (en - b).toInt32 from own_sub hb2 he2 hbe]; exact k)) ?_
      refine WinW.to T334 (mkF m 27 #[.val (.ref a1), .val (.int b.toInt32), .val (.int en.toInt32), .val (.int n.toInt32), .val (.int (en - b).toInt32)] []) (fun _ k => XS.istore X334.here hx rfl (hb hby d20_25) rfl (l' := #[.val (.ref a1), .val (.int b.toInt32), .val (.int en.toInt32), .val (.int n.toInt32), .val (.int (en - b).toInt32)]) rfl k) ?_
      refine WinW.to T334 (mkF m 28 #[.val (.ref a1), .val (.int b.toInt32), .val (.int en.toInt32), .val (.int n.toInt32), .val (.int (en - b).toInt32)] [(.ref a1)]) (fun _ k => XS.aloadN X334.here hx rfl (hb hby d20_27) rfl rfl k) ?_
      obtain ⟨T339, h339, v339, L339, X339, e339, ⟨rfl, N339q, r339_0⟩, st339⟩ := N.virtual X334 hx hZ (y := (⟨"java/lang/String", "isLatin1", "()Z"⟩ : MethodName)) (z := (⟨"java/lang/String", "isLatin1", "()Z"⟩ : MethodName)) hown (wk hw 93 rfl) (wk hw 94 rfl) (notFace_of_selects (args := #[]) (mvT hZ (wk hw 96 rfl))) (wk hw 96 rfl) (wk hw 95 rfl) (wk hw 8 rfl) (wk hw 97 rfl) (by decide) (isLat l Z a0 hw a1 cs h0 n0 O0 F2 S_CS hcs) e334 E1 (g := (mkF m 28 #[.val (.ref a1), .val (.int b.toInt32), .val (.int en.toInt32), .val (.int n.toInt32), .val (.int (en - b).toInt32)] [(.ref a1)])) rfl (by rw [hml]; rfl) (argsL := []) (rest := []) rfl (lenOf pd___Z rfl) rfl (W := 0) (by show 2 * 0 + _ ≤ _; exact Nat.le_of_eq rfl) (hb hby d20_28) (by decide) (by decide) (by decide) (by decide)
      have N340 := Fr.app N335 N339q
      have e339 := e339.trans r339_0
      refine WinW.to T339 (mkF m 31 #[.val (.ref a1), .val (.int b.toInt32), .val (.int en.toInt32), .val (.int n.toInt32), .val (.int (en - b).toInt32)] [(.int (1 : Int32))]) (fun _ k => st339 _ k) ?_
      refine WinW.to T339 (mkF m 34 #[.val (.ref a1), .val (.int b.toInt32), .val (.int en.toInt32), .val (.int n.toInt32), .val (.int (en - b).toInt32)] []) (fun _ k => XS.ifNo X339.here hx rfl (hb hby d20_31) rfl ((if0 _ _).trans (feq (show ¬ ((1 : Int32) = (0 : Int32)) from by decide)).1) k) ?_
      refine WinW.to T339 (mkF m 35 #[.val (.ref a1), .val (.int b.toInt32), .val (.int en.toInt32), .val (.int n.toInt32), .val (.int (en - b).toInt32)] [(.ref a1)]) (fun _ k => XS.aloadN X339.here hx rfl (hb hby d20_34) rfl rfl k) ?_
      obtain ⟨T341, X341, e341, st341⟩ := getF X339 hx hZ hown (host := "") (Or.inl (wk hw 25 rfl)) Via.refl e339 F1 (g := (mkF m 35 #[.val (.ref a1), .val (.int b.toInt32), .val (.int en.toInt32), .val (.int n.toInt32), .val (.int (en - b).toInt32)] [(.ref a1)])) rfl rfl (hb hby d20_35)
      refine WinW.to T341 (mkF m 38 #[.val (.ref a1), .val (.int b.toInt32), .val (.int en.toInt32), .val (.int n.toInt32), .val (.int (en - b).toInt32)] [(.ref t1)]) (fun _ k => st341 _ k) ?_
      refine WinW.to T341 (mkF m 39 #[.val (.ref a1), .val (.int b.toInt32), .val (.int en.toInt32), .val (.int n.toInt32), .val (.int (en - b).toInt32)] [(.int b.toInt32), (.ref t1)]) (fun _ k => XS.iloadN X341.here hx rfl (hb hby d20_38) rfl k) ?_
      refine WinW.to T341 (mkF m 41 #[.val (.ref a1), .val (.int b.toInt32), .val (.int en.toInt32), .val (.int n.toInt32), .val (.int (en - b).toInt32)] [(.int (en - b).toInt32), (.int b.toInt32), (.ref t1)]) (fun _ k => XS.iload X341.here hx rfl (hb hby d20_39) rfl k) ?_
      obtain ⟨T342, h342, v342, L342, k342, X342, e342, hS342, hk342, hZ342, hown342, ⟨r_342, t2_342, k2_342, rfl, N342q, r342_0, r342_1, r342_2, r342_3, r342_4⟩, c342, st342⟩ := W.static X341 hS0 (Nat.zero_le _) hx hZ (y := (⟨"java/lang/StringLatin1", "newString", "([BII)Ljava/lang/String;"⟩ : MethodName)) hown (wk hw 141 rfl) (wk hw 142 rfl) (wk hw 100 rfl) (wk hw 143 rfl) (by decide) (newStr l Z a0 hw t1 k1 n f b (en - b) h0 n0 O0 Fa (by omega) (by omega) (fun q => hc337 (by rw [show en = n by omega]))) (own_EW hw) C0.1 e341 (g := (mkF m 41 #[.val (.ref a1), .val (.int b.toInt32), .val (.int en.toInt32), .val (.int n.toInt32), .val (.int (en - b).toInt32)] [(.int (en - b).toInt32), (.int b.toInt32), (.ref t1)])) rfl (by rw [hml]; rfl) (argsL := [(.ref t1), (.int b.toInt32), (.int (en - b).toInt32)]) (rest := []) rfl (lenOf pd___BII_Ljava_lang_String_ rfl) rfl (W := 0) (by show 2 * 0 + _ ≤ _; exact Nat.le_of_eq rfl) (hb hby d20_41) (by decide) (by decide) (by decide) (by decide)
      have N343 := Fr.app N340 N342q
      have O344 := Old.keep O0 r342_0 all0
      have K345 : Keep h0 h342 [] := Keep.trans (Keep.refl h0 []) r342_0 all0
      have c346 := c342
      have C347 := CHr.trans C0 c346
      refine WinW.to T342 (mkF m 44 #[.val (.ref a1), .val (.int b.toInt32), .val (.int en.toInt32), .val (.int n.toInt32), .val (.int (en - b).toInt32)] [(.ref r_342)]) (fun _ k => st342 _ k) ?_
      refine WinW.to T342 (mkF m 57 #[.val (.ref a1), .val (.int b.toInt32), .val (.int en.toInt32), .val (.int n.toInt32), .val (.int (en - b).toInt32)] [(.ref r_342)]) (fun _ k => XS.goto X342.here hx rfl (pc0 := 44) (pc' := 57) rfl (hb hby d20_44) (by decide) (by decide) k) ?_
      exact WinW.retA X342 hS342 (by rw [e342]; exact hk342) hx hlk hret rfl rfl (hb hby d20_57) hZ342 (own_EW hw) (by rw [e342]; exact C347) (by decide) (by decide) (by (try rw [e342]); exact ⟨r_342, t2_342, k2_342, rfl, N343, K345, r342_1, r342_2, r342_3, r342_4⟩)
  · refine WinW.to T334 (mkF m 22 #[.val (.ref a1), .val (.int b.toInt32), .val (.int en.toInt32), .val (.int n.toInt32), .unset] []) (fun _ k => XS.ifYes X334.here hx rfl (pc0 := 12) (pc' := 22) rfl (hb hby d20_12) rfl ((if0 _ _).trans (feq hc336).2) (by decide) (by decide) k) ?_
    refine WinW.to T334 (mkF m 23 #[.val (.ref a1), .val (.int b.toInt32), .val (.int en.toInt32), .val (.int n.toInt32), .unset] [(.int en.toInt32)]) (fun _ k => XS.iloadN X334.here hx rfl (hb hby d20_22) rfl k) ?_
    refine WinW.to T334 (mkF m 24 #[.val (.ref a1), .val (.int b.toInt32), .val (.int en.toInt32), .val (.int n.toInt32), .unset] [(.int b.toInt32), (.int en.toInt32)]) (fun _ k => XS.iloadN X334.here hx rfl (hb hby d20_23) rfl k) ?_
    refine WinW.to T334 (mkF m 25 #[.val (.ref a1), .val (.int b.toInt32), .val (.int en.toInt32), .val (.int n.toInt32), .unset] [(.int (en - b).toInt32)]) (fun _ k => XS.isub X334.here hx rfl (hb hby d20_24) rfl (by rw [show (en.toInt32 - b.toInt32) = (en - b).toInt32 from own_sub hb2 he2 hbe]; exact k)) ?_
    refine WinW.to T334 (mkF m 27 #[.val (.ref a1), .val (.int b.toInt32), .val (.int en.toInt32), .val (.int n.toInt32), .val (.int (en - b).toInt32)] []) (fun _ k => XS.istore X334.here hx rfl (hb hby d20_25) rfl (l' := #[.val (.ref a1), .val (.int b.toInt32), .val (.int en.toInt32), .val (.int n.toInt32), .val (.int (en - b).toInt32)]) rfl k) ?_
    refine WinW.to T334 (mkF m 28 #[.val (.ref a1), .val (.int b.toInt32), .val (.int en.toInt32), .val (.int n.toInt32), .val (.int (en - b).toInt32)] [(.ref a1)]) (fun _ k => XS.aloadN X334.here hx rfl (hb hby d20_27) rfl rfl k) ?_
    obtain ⟨T348, h348, v348, L348, X348, e348, ⟨rfl, N348q, r348_0⟩, st348⟩ := N.virtual X334 hx hZ (y := (⟨"java/lang/String", "isLatin1", "()Z"⟩ : MethodName)) (z := (⟨"java/lang/String", "isLatin1", "()Z"⟩ : MethodName)) hown (wk hw 93 rfl) (wk hw 94 rfl) (notFace_of_selects (args := #[]) (mvT hZ (wk hw 96 rfl))) (wk hw 96 rfl) (wk hw 95 rfl) (wk hw 8 rfl) (wk hw 97 rfl) (by decide) (isLat l Z a0 hw a1 cs h0 n0 O0 F2 S_CS hcs) e334 E1 (g := (mkF m 28 #[.val (.ref a1), .val (.int b.toInt32), .val (.int en.toInt32), .val (.int n.toInt32), .val (.int (en - b).toInt32)] [(.ref a1)])) rfl (by rw [hml]; rfl) (argsL := []) (rest := []) rfl (lenOf pd___Z rfl) rfl (W := 0) (by show 2 * 0 + _ ≤ _; exact Nat.le_of_eq rfl) (hb hby d20_28) (by decide) (by decide) (by decide) (by decide)
    have N349 := Fr.app N335 N348q
    have e348 := e348.trans r348_0
    refine WinW.to T348 (mkF m 31 #[.val (.ref a1), .val (.int b.toInt32), .val (.int en.toInt32), .val (.int n.toInt32), .val (.int (en - b).toInt32)] [(.int (1 : Int32))]) (fun _ k => st348 _ k) ?_
    refine WinW.to T348 (mkF m 34 #[.val (.ref a1), .val (.int b.toInt32), .val (.int en.toInt32), .val (.int n.toInt32), .val (.int (en - b).toInt32)] []) (fun _ k => XS.ifNo X348.here hx rfl (hb hby d20_31) rfl ((if0 _ _).trans (feq (show ¬ ((1 : Int32) = (0 : Int32)) from by decide)).1) k) ?_
    refine WinW.to T348 (mkF m 35 #[.val (.ref a1), .val (.int b.toInt32), .val (.int en.toInt32), .val (.int n.toInt32), .val (.int (en - b).toInt32)] [(.ref a1)]) (fun _ k => XS.aloadN X348.here hx rfl (hb hby d20_34) rfl rfl k) ?_
    obtain ⟨T350, X350, e350, st350⟩ := getF X348 hx hZ hown (host := "") (Or.inl (wk hw 25 rfl)) Via.refl e348 F1 (g := (mkF m 35 #[.val (.ref a1), .val (.int b.toInt32), .val (.int en.toInt32), .val (.int n.toInt32), .val (.int (en - b).toInt32)] [(.ref a1)])) rfl rfl (hb hby d20_35)
    refine WinW.to T350 (mkF m 38 #[.val (.ref a1), .val (.int b.toInt32), .val (.int en.toInt32), .val (.int n.toInt32), .val (.int (en - b).toInt32)] [(.ref t1)]) (fun _ k => st350 _ k) ?_
    refine WinW.to T350 (mkF m 39 #[.val (.ref a1), .val (.int b.toInt32), .val (.int en.toInt32), .val (.int n.toInt32), .val (.int (en - b).toInt32)] [(.int b.toInt32), (.ref t1)]) (fun _ k => XS.iloadN X350.here hx rfl (hb hby d20_38) rfl k) ?_
    refine WinW.to T350 (mkF m 41 #[.val (.ref a1), .val (.int b.toInt32), .val (.int en.toInt32), .val (.int n.toInt32), .val (.int (en - b).toInt32)] [(.int (en - b).toInt32), (.int b.toInt32), (.ref t1)]) (fun _ k => XS.iload X350.here hx rfl (hb hby d20_39) rfl k) ?_
    obtain ⟨T351, h351, v351, L351, k351, X351, e351, hS351, hk351, hZ351, hown351, ⟨r_351, t2_351, k2_351, rfl, N351q, r351_0, r351_1, r351_2, r351_3, r351_4⟩, c351, st351⟩ := W.static X350 hS0 (Nat.zero_le _) hx hZ (y := (⟨"java/lang/StringLatin1", "newString", "([BII)Ljava/lang/String;"⟩ : MethodName)) hown (wk hw 141 rfl) (wk hw 142 rfl) (wk hw 100 rfl) (wk hw 143 rfl) (by decide) (newStr l Z a0 hw t1 k1 n f b (en - b) h0 n0 O0 Fa (by omega) (by omega) (fun q => hc336 (by rw [q.1]; rfl))) (own_EW hw) C0.1 e350 (g := (mkF m 41 #[.val (.ref a1), .val (.int b.toInt32), .val (.int en.toInt32), .val (.int n.toInt32), .val (.int (en - b).toInt32)] [(.int (en - b).toInt32), (.int b.toInt32), (.ref t1)])) rfl (by rw [hml]; rfl) (argsL := [(.ref t1), (.int b.toInt32), (.int (en - b).toInt32)]) (rest := []) rfl (lenOf pd___BII_Ljava_lang_String_ rfl) rfl (W := 0) (by show 2 * 0 + _ ≤ _; exact Nat.le_of_eq rfl) (hb hby d20_41) (by decide) (by decide) (by decide) (by decide)
    have N352 := Fr.app N349 N351q
    have O353 := Old.keep O0 r351_0 all0
    have K354 : Keep h0 h351 [] := Keep.trans (Keep.refl h0 []) r351_0 all0
    have c355 := c351
    have C356 := CHr.trans C0 c355
    refine WinW.to T351 (mkF m 44 #[.val (.ref a1), .val (.int b.toInt32), .val (.int en.toInt32), .val (.int n.toInt32), .val (.int (en - b).toInt32)] [(.ref r_351)]) (fun _ k => st351 _ k) ?_
    refine WinW.to T351 (mkF m 57 #[.val (.ref a1), .val (.int b.toInt32), .val (.int en.toInt32), .val (.int n.toInt32), .val (.int (en - b).toInt32)] [(.ref r_351)]) (fun _ k => XS.goto X351.here hx rfl (pc0 := 44) (pc' := 57) rfl (hb hby d20_44) (by decide) (by decide) k) ?_
    exact WinW.retA X351 hS351 (by rw [e351]; exact hk351) hx hlk hret rfl rfl (hb hby d20_57) hZ351 (own_EW hw) (by rw [e351]; exact C356) (by decide) (by decide) (by (try rw [e351]); exact ⟨r_351, t2_351, k2_351, rfl, N352, K354, r351_1, r351_2, r351_3, r351_4⟩)
abbrev R_subsI : Room := ⟨5, 2, 8, 80⟩
set_option maxRecDepth 65536 in
set_option maxHeartbeats 40000000 in
theorem subsI (l : Launch) (Z : State) (a0 : Array Value) (hw : ∀ d ∈ tables_1, d.before a0 Z = true) (a1 : Addr) (t1 : Addr) (k1 : ClassId) (n : Nat) (f : Nat → Int32) (b : Nat) (cs : Int32) (x1 : Value) (h0 : Heap) (n0 : Nat) (O0 : Old Z n0 h0) (E1 : Exa Z h0 a1 "java/lang/String") (F1 : Fld Z h0 a1 "java/lang/String" "value" "[B" (.ref t1)) (F2 : Fld Z h0 a1 "java/lang/String" "coder" "B" (.int (0 : Int32))) (Fa : ArF Z h0 t1 k1 .byte n f) (hbn : b ≤ n) (hcap : n ≤ 4) (S_CS : Sta Z Z.heap "java/lang/String" "COMPACT_STRINGS" "Z" (.int cs)) (hcs : ¬ (cs = (0 : Int32))) (S_SI : Sta Z Z.heap "jdk/internal/util/Preconditions" "SIOOBE_FORMATTER" "Ljava/util/function/BiFunction;" x1) (hx1 : x1.isRef = true) :
    MetW l Z (⟨"java/lang/String", "substring", "(I)Ljava/lang/String;"⟩ : MethodName) jdk_42_method_91_code 2 (some (.object "java/lang/String")) R_subsI [] #[(.ref a1), (.int b.toInt32)] h0 EL1 (fun v h L => ∃ (r : Addr) (t2 : Addr) (k2 : ClassId), v = some (.ref r) ∧ Fr n0 L ∧ Keep h0 h [] ∧ Exa Z h r "java/lang/String" ∧ Fld Z h r "java/lang/String" "value" "[B" (.ref t2) ∧ Fld Z h r "java/lang/String" "coder" "B" (.int (0 : Int32)) ∧ ArF Z h t2 k2 .byte (n - b) (fun i => f (b + i))) := by
  refine MetW.walk (plainFor_of_name pn_19) ?_
  intro p e s m below meth c s₁ hx hZ hby hml hown hnm hret hlk C0 hS0 X0 e0
  have N0 := Fr.nil n0
  refine WinW.to s₁ (mkF m 0 #[.val (.ref a1), .val (.int b.toInt32)] []) (fun _ k => castTop (by first | (simp [entryFrame, mkF, argsToLocals, Value.category]; done) | rfl) k) ?_
  refine WinW.to s₁ (mkF m 1 #[.val (.ref a1), .val (.int b.toInt32)] [(.ref a1)]) (fun _ k => XS.aloadN X0.here hx rfl (hb hby d19_0) rfl rfl k) ?_
  refine WinW.to s₁ (mkF m 2 #[.val (.ref a1), .val (.int b.toInt32)] [(.int b.toInt32), (.ref a1)]) (fun _ k => XS.iloadN X0.here hx rfl (hb hby d19_1) rfl k) ?_
  refine WinW.to s₁ (mkF m 3 #[.val (.ref a1), .val (.int b.toInt32)] [(.ref a1), (.int b.toInt32), (.ref a1)]) (fun _ k => XS.aloadN X0.here hx rfl (hb hby d19_2) rfl rfl k) ?_
  obtain ⟨T357, h357, v357, L357, X357, e357, ⟨rfl, N357q, r357_0⟩, st357⟩ := N.virtual X0 hx hZ (y := (⟨"java/lang/String", "length", "()I"⟩ : MethodName)) (z := (⟨"java/lang/String", "length", "()I"⟩ : MethodName)) hown (wk hw 77 rfl) (wk hw 78 rfl) (notFace_of_selects (args := #[]) (mvT hZ (wk hw 80 rfl))) (wk hw 80 rfl) (wk hw 79 rfl) (wk hw 8 rfl) (wk hw 81 rfl) (by decide) (strLen l Z a0 hw a1 t1 k1 n f cs h0 n0 O0 E1 F1 F2 Fa S_CS hcs) e0 E1 (g := (mkF m 3 #[.val (.ref a1), .val (.int b.toInt32)] [(.ref a1), (.int b.toInt32), (.ref a1)])) rfl (by rw [hml]; rfl) (argsL := []) (rest := [(.int b.toInt32), (.ref a1)]) rfl (lenOf pd___I rfl) rfl (W := 2) (by show 2 * 0 + _ ≤ _; exact Nat.le_of_eq rfl) (hb hby d19_3) (by decide) (by decide) (by decide) (by decide)
  have N358 := Fr.app N0 N357q
  have e357 := e357.trans r357_0
  refine WinW.to T357 (mkF m 6 #[.val (.ref a1), .val (.int b.toInt32)] [(.int n.toInt32), (.int b.toInt32), (.ref a1)]) (fun _ k => st357 _ k) ?_
  obtain ⟨T359, h359, v359, L359, k359, X359, e359, hS359, hk359, hZ359, hown359, ⟨r_359, t2_359, k2_359, rfl, N359q, r359_0, r359_1, r359_2, r359_3, r359_4⟩, c359, st359⟩ := W.virtual X357 hS0 (Nat.zero_le _) hx hZ (y := (⟨"java/lang/String", "substring", "(II)Ljava/lang/String;"⟩ : MethodName)) (z := (⟨"java/lang/String", "substring", "(II)Ljava/lang/String;"⟩ : MethodName)) hown (wk hw 114 rfl) (wk hw 115 rfl) (notFace_of_selects (args := #[]) (mvT hZ (wk hw 117 rfl))) (wk hw 117 rfl) (wk hw 116 rfl) (wk hw 8 rfl) (wk hw 118 rfl) (by decide) (subs l Z a0 hw a1 t1 k1 n f b n cs x1 h0 n0 O0 E1 F1 F2 Fa hbn (Nat.le_refl _) hcap S_CS hcs S_SI hx1) (own_EW hw) C0.1 e357 E1 (g := (mkF m 6 #[.val (.ref a1), .val (.int b.toInt32)] [(.int n.toInt32), (.int b.toInt32), (.ref a1)])) rfl (by rw [hml]; rfl) (argsL := [(.int b.toInt32), (.int n.toInt32)]) (rest := []) rfl (lenOf pd__II_Ljava_lang_String_ rfl) rfl (W := 0) (by show 2 * 0 + _ ≤ _; exact Nat.le_of_eq rfl) (hb hby d19_6) (by decide) (by decide) (by decide) (by decide)
  have N360 := Fr.app N358 N359q
  have O361 := Old.keep O0 r359_0 all0
  have K362 : Keep h0 h359 [] := Keep.trans (Keep.refl h0 []) r359_0 all0
  have c363 := c359
  have C364 := CHr.trans C0 c363
  refine WinW.to T359 (mkF m 9 #[.val (.ref a1), .val (.int b.toInt32)] [(.ref r_359)]) (fun _ k => st359 _ k) ?_
  exact WinW.retA X359 hS359 (by rw [e359]; exact hk359) hx hlk hret rfl rfl (hb hby d19_9) hZ359 (own_EW hw) (by rw [e359]; exact C364) (by decide) (by decide) (by (try rw [e359]); exact ⟨r_359, t2_359, k2_359, rfl, N360, K362, r359_1, r359_2, r359_3, r359_4⟩)
abbrev R_chkI3 : Room := ⟨0, 0, 0, 0⟩
set_option maxRecDepth 65536 in
set_option maxHeartbeats 40000000 in
theorem chkI3 (l : Launch) (Z : State) (a0 : Array Value) (hw : ∀ d ∈ tables_1, d.before a0 Z = true) (i : Nat) (n : Nat) (x1 : Value) (h0 : Heap) (n0 : Nat) (O0 : Old Z n0 h0) (hi : i < n) (hn : n < 2 ^ 31) (hx1 : x1.isRef = true) :
    MetN l Z (⟨"jdk/internal/util/Preconditions", "checkIndex", "(IILjava/util/function/BiFunction;)I"⟩ : MethodName) jdk_41_method_11_code 3 (some .int) R_chkI3 [] #[(.int i.toInt32), (.int n.toInt32), x1] h0 (fun v h L => v = some (.int i.toInt32) ∧ Fr n0 L ∧ h = h0) := by
  refine MetN.walk (plainFor_of_name pn_35) ?_
  intro p e s m below meth c s₁ hx hZ hby hml hown hnm hret hlk X0 e0
  have N0 := Fr.nil n0
  refine Win.to s₁ (mkF m 0 #[.val (.int i.toInt32), .val (.int n.toInt32), .val x1] []) (fun _ k => castTop (by (rcases ref_cases hx1 with hh | ⟨_, hh⟩ <;> rw [hh]) <;> rfl) k) ?_
  have hi2 : i < 2 ^ 31 := by omega
  refine Win.to s₁ (mkF m 1 #[.val (.int i.toInt32), .val (.int n.toInt32), .val x1] [(.int i.toInt32)]) (fun _ k => XS.iloadN X0.here hx rfl (hb hby d35_0) rfl k) ?_
  refine Win.to s₁ (mkF m 4 #[.val (.int i.toInt32), .val (.int n.toInt32), .val x1] []) (fun _ k => XS.ifNo X0.here hx rfl (hb hby d35_1) rfl ((if0 _ _).trans (flt (show ¬ (i.toInt32 < (0 : Int32)) from (own_tn hi2).2.1)).1) k) ?_
  refine Win.to s₁ (mkF m 5 #[.val (.int i.toInt32), .val (.int n.toInt32), .val x1] [(.int i.toInt32)]) (fun _ k => XS.iloadN X0.here hx rfl (hb hby d35_4) rfl k) ?_
  refine Win.to s₁ (mkF m 6 #[.val (.int i.toInt32), .val (.int n.toInt32), .val x1] [(.int n.toInt32), (.int i.toInt32)]) (fun _ k => XS.iloadN X0.here hx rfl (hb hby d35_5) rfl k) ?_
  refine Win.to s₁ (mkF m 16 #[.val (.int i.toInt32), .val (.int n.toInt32), .val x1] []) (fun _ k => XS.icmpYes X0.here hx rfl (pc0 := 6) (pc' := 16) rfl (hb hby d35_6) rfl (tlt (show i.toInt32 < n.toInt32 from ((own_lt hi2 hn).mpr hi))).1 (by decide) (by decide) k) ?_
  refine Win.to s₁ (mkF m 17 #[.val (.int i.toInt32), .val (.int n.toInt32), .val x1] [(.int i.toInt32)]) (fun _ k => XS.iloadN X0.here hx rfl (hb hby d35_16) rfl k) ?_
  exact Win.retI X0 hx hlk hret (hb hby d35_17) (by decide) (by decide) (by (try rw [e0]); exact ⟨rfl, N0, rfl⟩)
abbrev R_chkI2 : Room := ⟨1, 0, 0, 14⟩
set_option maxRecDepth 65536 in
set_option maxHeartbeats 40000000 in
theorem chkI2 (l : Launch) (Z : State) (a0 : Array Value) (hw : ∀ d ∈ tables_1, d.before a0 Z = true) (i : Nat) (n : Nat) (x1 : Value) (h0 : Heap) (n0 : Nat) (O0 : Old Z n0 h0) (hi : i < n) (hn : n < 2 ^ 31) (S_SI : Sta Z Z.heap "jdk/internal/util/Preconditions" "SIOOBE_FORMATTER" "Ljava/util/function/BiFunction;" x1) (hx1 : x1.isRef = true) :
    MetN l Z (⟨"java/lang/String", "checkIndex", "(II)V"⟩ : MethodName) jdk_42_method_155_code 2 none R_chkI2 [] #[(.int i.toInt32), (.int n.toInt32)] h0 (fun v h L => v = none ∧ Fr n0 L ∧ h = h0) := by
  refine MetN.walk (plainFor_of_name pn_34) ?_
  intro p e s m below meth c s₁ hx hZ hby hml hown hnm hret hlk X0 e0
  have N0 := Fr.nil n0
  refine Win.to s₁ (mkF m 0 #[.val (.int i.toInt32), .val (.int n.toInt32)] []) (fun _ k => castTop (by first | (simp [entryFrame, mkF, argsToLocals, Value.category]; done) | rfl) k) ?_
  refine Win.to s₁ (mkF m 1 #[.val (.int i.toInt32), .val (.int n.toInt32)] [(.int i.toInt32)]) (fun _ k => XS.iloadN X0.here hx rfl (hb hby d34_0) rfl k) ?_
  refine Win.to s₁ (mkF m 2 #[.val (.int i.toInt32), .val (.int n.toInt32)] [(.int n.toInt32), (.int i.toInt32)]) (fun _ k => XS.iloadN X0.here hx rfl (hb hby d34_1) rfl k) ?_
  obtain ⟨T365, X365, e365, st365⟩ := getS2 X0 hx hZ hown (host := "") (Or.inl (wk hw 122 rfl)) Via.refl e0 (Sta.ext O0.2 S_SI) (g := (mkF m 2 #[.val (.int i.toInt32), .val (.int n.toInt32)] [(.int n.toInt32), (.int i.toInt32)])) rfl (hb hby d34_2)
  refine Win.to T365 (mkF m 5 #[.val (.int i.toInt32), .val (.int n.toInt32)] [x1, (.int n.toInt32), (.int i.toInt32)]) (fun _ k => st365 _ k) ?_
  obtain ⟨T366, h366, v366, L366, X366, e366, ⟨rfl, N366q, r366_0⟩, st366⟩ := N.static X365 hx hZ (y := (⟨"jdk/internal/util/Preconditions", "checkIndex", "(IILjava/util/function/BiFunction;)I"⟩ : MethodName)) hown (wk hw 175 rfl) (wk hw 176 rfl) (wk hw 123 rfl) (wk hw 177 rfl) (by decide) (chkI3 l Z a0 hw i n x1 h0 n0 O0 hi hn hx1) e365 (g := (mkF m 5 #[.val (.int i.toInt32), .val (.int n.toInt32)] [x1, (.int n.toInt32), (.int i.toInt32)])) rfl (by rw [hml]; rfl) (argsL := [(.int i.toInt32), (.int n.toInt32), x1]) (rest := []) rfl (lenOf pd__IILjava_util_function_BiFunction__I rfl) rfl (W := 0) (by show 2 * 0 + _ ≤ _; exact Nat.le_of_eq rfl) (hb hby d34_5) (by decide) (by decide) (by decide) (by decide)
  have N367 := Fr.app N0 N366q
  have e366 := e366.trans r366_0
  refine Win.to T366 (mkF m 8 #[.val (.int i.toInt32), .val (.int n.toInt32)] [(.int i.toInt32)]) (fun _ k => st366 _ k) ?_
  refine Win.to T366 (mkF m 9 #[.val (.int i.toInt32), .val (.int n.toInt32)] []) (fun _ k => XS.pop X366.here hx rfl (hb hby d34_8) rfl rfl k) ?_
  exact Win.retV X366 hx hlk hret (hb hby d34_9) (by decide) (by decide) (by (try rw [e366]); exact ⟨rfl, N367, rfl⟩)
abbrev R_chL1 : Room := ⟨2, 0, 0, 27⟩
set_option maxRecDepth 65536 in
set_option maxHeartbeats 40000000 in
theorem chL1 (l : Launch) (Z : State) (a0 : Array Value) (hw : ∀ d ∈ tables_1, d.before a0 Z = true) (t1 : Addr) (k1 : ClassId) (n : Nat) (f : Nat → Int32) (i : Nat) (x1 : Value) (h0 : Heap) (n0 : Nat) (O0 : Old Z n0 h0) (Fa : ArF Z h0 t1 k1 .byte n f) (hi : i < n) (S_SI : Sta Z Z.heap "jdk/internal/util/Preconditions" "SIOOBE_FORMATTER" "Ljava/util/function/BiFunction;" x1) (hx1 : x1.isRef = true) :
    MetN l Z (⟨"java/lang/StringLatin1", "charAt", "([BI)C"⟩ : MethodName) jdk_43_method_2_code 2 (some .char) R_chL1 [] #[(.ref t1), (.int i.toInt32)] h0 (fun v h L => v = some (.int ((f i) &&& (255 : Int32))) ∧ Fr n0 L ∧ h = h0) := by
  refine MetN.walk (plainFor_of_name pn_33) ?_
  intro p e s m below meth c s₁ hx hZ hby hml hown hnm hret hlk X0 e0
  have N0 := Fr.nil n0
  refine Win.to s₁ (mkF m 0 #[.val (.ref t1), .val (.int i.toInt32)] []) (fun _ k => castTop (by first | (simp [entryFrame, mkF, argsToLocals, Value.category]; done) | rfl) k) ?_
  have hn := Fa.big
  have hi2 : i < 2 ^ 31 := by omega
  refine Win.to s₁ (mkF m 1 #[.val (.ref t1), .val (.int i.toInt32)] [(.int i.toInt32)]) (fun _ k => XS.iloadN X0.here hx rfl (hb hby d33_0) rfl k) ?_
  refine Win.to s₁ (mkF m 2 #[.val (.ref t1), .val (.int i.toInt32)] [(.ref t1), (.int i.toInt32)]) (fun _ k => XS.aloadN X0.here hx rfl (hb hby d33_1) rfl rfl k) ?_
  obtain ⟨cl368, Ar368, hl368⟩ := ArF.len Fa
  refine Win.to s₁ (mkF m 3 #[.val (.ref t1), .val (.int i.toInt32)] [(.int n.toInt32), (.int i.toInt32)]) (fun _ k => X0.arraylength hx (by rw [e0]; exact Ar368.1) (State.isArrayOf_alike hZ.alike Ar368.2.1) (g := (mkF m 2 #[.val (.ref t1), .val (.int i.toInt32)] [(.ref t1), (.int i.toInt32)])) rfl rfl (hb hby d33_2) _ (by rw [hl368]; exact k)) ?_
  obtain ⟨T369, h369, v369, L369, X369, e369, ⟨rfl, N369q, r369_0⟩, st369⟩ := N.static X0 hx hZ (y := (⟨"java/lang/String", "checkIndex", "(II)V"⟩ : MethodName)) hown (wk hw 172 rfl) (wk hw 173 rfl) (wk hw 8 rfl) (wk hw 174 rfl) (by decide) (chkI2 l Z a0 hw i n x1 h0 n0 O0 hi (by first | assumption | decide | omega) S_SI hx1) e0 (g := (mkF m 3 #[.val (.ref t1), .val (.int i.toInt32)] [(.int n.toInt32), (.int i.toInt32)])) rfl (by rw [hml]; rfl) (argsL := [(.int i.toInt32), (.int n.toInt32)]) (rest := []) rfl (lenOf pd__II_V rfl) rfl (W := 0) (by show 2 * 0 + _ ≤ _; exact Nat.le_of_eq rfl) (hb hby d33_3) (by decide) (by decide) (by decide) (by decide)
  have N370 := Fr.app N0 N369q
  have e369 := e369.trans r369_0
  refine Win.to T369 (mkF m 6 #[.val (.ref t1), .val (.int i.toInt32)] []) (fun _ k => st369 _ k) ?_
  refine Win.to T369 (mkF m 7 #[.val (.ref t1), .val (.int i.toInt32)] [(.ref t1)]) (fun _ k => XS.aloadN X369.here hx rfl (hb hby d33_6) rfl rfl k) ?_
  refine Win.to T369 (mkF m 8 #[.val (.ref t1), .val (.int i.toInt32)] [(.int i.toInt32), (.ref t1)]) (fun _ k => XS.iloadN X369.here hx rfl (hb hby d33_7) rfl k) ?_
  obtain ⟨cl371, Ar371, hi371, ha371⟩ := ArF.at Fa (j := i.toInt32) (i := i) (own_tn hi2).1 (own_tn hi2).2.1 hi
  refine Win.to T369 (mkF m 9 #[.val (.ref t1), .val (.int i.toInt32)] [(.int (f i))]) (fun _ k => X369.baloadBytes hx (j := i.toInt32) (v := (.int (f i))) (by rw [e369]; exact Ar371.1) (State.isArrayOf_alike hZ.alike Ar371.2.1) Ar371.2.2 hi371 ha371 (g := (mkF m 8 #[.val (.ref t1), .val (.int i.toInt32)] [(.int i.toInt32), (.ref t1)])) rfl rfl (hb hby d33_8) _ k) ?_
  refine Win.to T369 (mkF m 12 #[.val (.ref t1), .val (.int i.toInt32)] [(.int (255 : Int32)), (.int (f i))]) (fun _ k => XS.sipush X369.here hx rfl (hb hby d33_9) k) ?_
  refine Win.to T369 (mkF m 13 #[.val (.ref t1), .val (.int i.toInt32)] [(.int ((f i) &&& (255 : Int32)))]) (fun _ k => XS.iand X369.here hx rfl (hb hby d33_12) rfl k) ?_
  refine Win.to T369 (mkF m 14 #[.val (.ref t1), .val (.int i.toInt32)] [(.int ((f i) &&& (255 : Int32)))]) (fun _ k => XS.i2c X369.here hx rfl (hb hby d33_13) rfl (by rw [show (((f i) &&& (255 : Int32)).toUInt32.toUInt16.toUInt32.toInt32) = ((f i) &&& (255 : Int32)) from (i2c_mask (f i))]; exact k)) ?_
  exact Win.retN X369 hx hlk (t := .char) hret (by simp) (show nar .char ((f i) &&& (255 : Int32)) = ((f i) &&& (255 : Int32)) from (i2c_mask (f i))) (hb hby d33_14) (by decide) (by decide) (by (try rw [e369]); exact ⟨rfl, N370, rfl⟩)
abbrev R_chAt : Room := ⟨3, 0, 0, 40⟩
set_option maxRecDepth 65536 in
set_option maxHeartbeats 40000000 in
theorem chAt (l : Launch) (Z : State) (a0 : Array Value) (hw : ∀ d ∈ tables_1, d.before a0 Z = true) (a1 : Addr) (t1 : Addr) (k1 : ClassId) (n : Nat) (f : Nat → Int32) (i : Nat) (cs : Int32) (x1 : Value) (h0 : Heap) (n0 : Nat) (O0 : Old Z n0 h0) (E1 : Exa Z h0 a1 "java/lang/String") (F1 : Fld Z h0 a1 "java/lang/String" "value" "[B" (.ref t1)) (F2 : Fld Z h0 a1 "java/lang/String" "coder" "B" (.int (0 : Int32))) (Fa : ArF Z h0 t1 k1 .byte n f) (hi : i < n) (S_CS : Sta Z Z.heap "java/lang/String" "COMPACT_STRINGS" "Z" (.int cs)) (hcs : ¬ (cs = (0 : Int32))) (S_SI : Sta Z Z.heap "jdk/internal/util/Preconditions" "SIOOBE_FORMATTER" "Ljava/util/function/BiFunction;" x1) (hx1 : x1.isRef = true) :
    MetN l Z (⟨"java/lang/String", "charAt", "(I)C"⟩ : MethodName) jdk_42_method_56_code 2 (some .char) R_chAt [] #[(.ref a1), (.int i.toInt32)] h0 (fun v h L => v = some (.int ((f i) &&& (255 : Int32))) ∧ Fr n0 L ∧ h = h0) := by
  refine MetN.walk (plainFor_of_name pn_32) ?_
  intro p e s m below meth c s₁ hx hZ hby hml hown hnm hret hlk X0 e0
  have N0 := Fr.nil n0
  refine Win.to s₁ (mkF m 0 #[.val (.ref a1), .val (.int i.toInt32)] []) (fun _ k => castTop (by first | (simp [entryFrame, mkF, argsToLocals, Value.category]; done) | rfl) k) ?_
  refine Win.to s₁ (mkF m 1 #[.val (.ref a1), .val (.int i.toInt32)] [(.ref a1)]) (fun _ k => XS.aloadN X0.here hx rfl (hb hby d32_0) rfl rfl k) ?_
  obtain ⟨T372, h372, v372, L372, X372, e372, ⟨rfl, N372q, r372_0⟩, st372⟩ := N.virtual X0 hx hZ (y := (⟨"java/lang/String", "isLatin1", "()Z"⟩ : MethodName)) (z := (⟨"java/lang/String", "isLatin1", "()Z"⟩ : MethodName)) hown (wk hw 93 rfl) (wk hw 94 rfl) (notFace_of_selects (args := #[]) (mvT hZ (wk hw 96 rfl))) (wk hw 96 rfl) (wk hw 95 rfl) (wk hw 8 rfl) (wk hw 97 rfl) (by decide) (isLat l Z a0 hw a1 cs h0 n0 O0 F2 S_CS hcs) e0 E1 (g := (mkF m 1 #[.val (.ref a1), .val (.int i.toInt32)] [(.ref a1)])) rfl (by rw [hml]; rfl) (argsL := []) (rest := []) rfl (lenOf pd___Z rfl) rfl (W := 0) (by show 2 * 0 + _ ≤ _; exact Nat.le_of_eq rfl) (hb hby d32_1) (by decide) (by decide) (by decide) (by decide)
  have N373 := Fr.app N0 N372q
  have e372 := e372.trans r372_0
  refine Win.to T372 (mkF m 4 #[.val (.ref a1), .val (.int i.toInt32)] [(.int (1 : Int32))]) (fun _ k => st372 _ k) ?_
  refine Win.to T372 (mkF m 7 #[.val (.ref a1), .val (.int i.toInt32)] []) (fun _ k => XS.ifNo X372.here hx rfl (hb hby d32_4) rfl ((if0 _ _).trans (feq (show ¬ ((1 : Int32) = (0 : Int32)) from by decide)).1) k) ?_
  refine Win.to T372 (mkF m 8 #[.val (.ref a1), .val (.int i.toInt32)] [(.ref a1)]) (fun _ k => XS.aloadN X372.here hx rfl (hb hby d32_7) rfl rfl k) ?_
  obtain ⟨T374, X374, e374, st374⟩ := getF X372 hx hZ hown (host := "") (Or.inl (wk hw 25 rfl)) Via.refl e372 F1 (g := (mkF m 8 #[.val (.ref a1), .val (.int i.toInt32)] [(.ref a1)])) rfl rfl (hb hby d32_8)
  refine Win.to T374 (mkF m 11 #[.val (.ref a1), .val (.int i.toInt32)] [(.ref t1)]) (fun _ k => st374 _ k) ?_
  refine Win.to T374 (mkF m 12 #[.val (.ref a1), .val (.int i.toInt32)] [(.int i.toInt32), (.ref t1)]) (fun _ k => XS.iloadN X374.here hx rfl (hb hby d32_11) rfl k) ?_
  obtain ⟨T375, h375, v375, L375, X375, e375, ⟨rfl, N375q, r375_0⟩, st375⟩ := N.static X374 hx hZ (y := (⟨"java/lang/StringLatin1", "charAt", "([BI)C"⟩ : MethodName)) hown (wk hw 169 rfl) (wk hw 170 rfl) (wk hw 100 rfl) (wk hw 171 rfl) (by decide) (chL1 l Z a0 hw t1 k1 n f i x1 h0 n0 O0 Fa hi S_SI hx1) e374 (g := (mkF m 12 #[.val (.ref a1), .val (.int i.toInt32)] [(.int i.toInt32), (.ref t1)])) rfl (by rw [hml]; rfl) (argsL := [(.ref t1), (.int i.toInt32)]) (rest := []) rfl (lenOf pd___BI_C rfl) rfl (W := 0) (by show 2 * 0 + _ ≤ _; exact Nat.le_of_eq rfl) (hb hby d32_12) (by decide) (by decide) (by decide) (by decide)
  have N376 := Fr.app N373 N375q
  have e375 := e375.trans r375_0
  refine Win.to T375 (mkF m 15 #[.val (.ref a1), .val (.int i.toInt32)] [(.int ((f i) &&& (255 : Int32)))]) (fun _ k => st375 _ k) ?_
  exact Win.retN X375 hx hlk (t := .char) hret (by simp) (show nar .char ((f i) &&& (255 : Int32)) = ((f i) &&& (255 : Int32)) from (i2c_mask (f i))) (hb hby d32_15) (by decide) (by decide) (by (try rw [e375]); exact ⟨rfl, N376, rfl⟩)
abbrev R_mkAC : Room := ⟨1, 0, 0, 12⟩
set_option maxRecDepth 65536 in
set_option maxHeartbeats 40000000 in
theorem mkAC (l : Launch) (Z : State) (a0 : Array Value) (hw : ∀ d ∈ tables_1, d.before a0 Z = true) (a1 : Addr) (h0 : Heap) (n0 : Nat) (O0 : Old Z n0 h0)  :
    MetN l Z (⟨"java/util/AbstractCollection", "<init>", "()V"⟩ : MethodName) jdk_22_method_1_code 1 none R_mkAC [] #[(.ref a1)] h0 (fun v h L => v = none ∧ Fr n0 L ∧ h = h0) := by
  refine MetN.walk (plainFor_of_name pn_7) ?_
  intro p e s m below meth c s₁ hx hZ hby hml hown hnm hret hlk X0 e0
  have N0 := Fr.nil n0
  refine Win.to s₁ (mkF m 0 #[.val (.ref a1)] []) (fun _ k => castTop (by first | (simp [entryFrame, mkF, argsToLocals, Value.category]; done) | rfl) k) ?_
  refine Win.to s₁ (mkF m 1 #[.val (.ref a1)] [(.ref a1)]) (fun _ k => XS.aloadN X0.here hx rfl (hb hby d7_0) rfl rfl k) ?_
  obtain ⟨T377, X377, e377, st377⟩ := initO X0 hx hZ hown (wk hw 48 rfl) (wk hw 17 rfl) (wk hw 18 rfl) e0 (g := (mkF m 1 #[.val (.ref a1)] [(.ref a1)])) rfl (by rw [hml]; rfl) rfl (hb hby d7_1) (by decide) (W := 0) (by show 2 * 0 + _ ≤ _; exact Nat.le_of_eq rfl) (by decide)
  refine Win.to T377 (mkF m 4 #[.val (.ref a1)] []) (fun _ k => st377 _ k) ?_
  exact Win.retV X377 hx hlk hret (hb hby d7_4) (by decide) (by decide) (by (try rw [e377]); exact ⟨rfl, N0, rfl⟩)
abbrev R_mkABL : Room := ⟨2, 0, 0, 24⟩
set_option maxRecDepth 65536 in
set_option maxHeartbeats 40000000 in
theorem mkABL (l : Launch) (Z : State) (a0 : Array Value) (hw : ∀ d ∈ tables_1, d.before a0 Z = true) (a1 : Addr) (h0 : Heap) (n0 : Nat) (O0 : Old Z n0 h0) (E1 : Exa Z h0 a1 "java/util/ArrayList") (F1 : Fld Z h0 a1 "java/util/AbstractList" "modCount" "I" (.int (0 : Int32))) (F2 : Fld Z h0 a1 "java/util/ArrayList" "elementData" "[Ljava/lang/Object;" .null) (g1 : n0 ≤ a1) :
    MetN l Z (⟨"java/util/AbstractList", "<init>", "()V"⟩ : MethodName) jdk_39_method_1_code 1 none R_mkABL [] #[(.ref a1)] h0 (fun v h L => v = none ∧ Fr n0 L ∧ Keep h0 h [a1] ∧ Fld Z h a1 "java/util/AbstractList" "modCount" "I" (.int (0 : Int32)) ∧ Fld Z h a1 "java/util/ArrayList" "elementData" "[Ljava/lang/Object;" .null) := by
  refine MetN.walk (plainFor_of_name pn_6) ?_
  intro p e s m below meth c s₁ hx hZ hby hml hown hnm hret hlk X0 e0
  have N0 := Fr.nil n0
  refine Win.to s₁ (mkF m 0 #[.val (.ref a1)] []) (fun _ k => castTop (by first | (simp [entryFrame, mkF, argsToLocals, Value.category]; done) | rfl) k) ?_
  refine Win.to s₁ (mkF m 1 #[.val (.ref a1)] [(.ref a1)]) (fun _ k => XS.aloadN X0.here hx rfl (hb hby d6_0) rfl rfl k) ?_
  obtain ⟨T378, h378, v378, L378, X378, e378, ⟨rfl, N378q, r378_0⟩, st378⟩ := N.special X0 hx hZ (y := (⟨"java/util/AbstractCollection", "<init>", "()V"⟩ : MethodName)) rfl hown (wk hw 42 rfl) (wk hw 43 rfl) (wk hw 46 rfl) (wk hw 47 rfl) (by decide) (mkAC l Z a0 hw a1 h0 n0 O0 ) e0 (g := (mkF m 1 #[.val (.ref a1)] [(.ref a1)])) rfl (by rw [hml]; rfl) (a := a1) (argsL := []) (rest := []) rfl (lenOf pd___V rfl) rfl (W := 0) (by show 2 * 0 + _ ≤ _; exact Nat.le_of_eq rfl) (hb hby d6_1) (by decide) (by decide) (by decide) (by decide)
  have N379 := Fr.app N0 N378q
  have e378 := e378.trans r378_0
  refine Win.to T378 (mkF m 4 #[.val (.ref a1)] []) (fun _ k => st378 _ k) ?_
  refine Win.to T378 (mkF m 5 #[.val (.ref a1)] [(.ref a1)]) (fun _ k => XS.aloadN X378.here hx rfl (hb hby d6_4) rfl rfl k) ?_
  refine Win.to T378 (mkF m 6 #[.val (.ref a1)] [(.int (0 : Int32)), (.ref a1)]) (fun _ k => XS.iconst X378.here hx rfl (hb hby d6_5) k) ?_
  obtain ⟨T380, h380, X380, e380, W380, st380⟩ := putF X378 hx hZ hown (host := "") (Or.inl (wk hw 49 rfl)) Via.refl e378 F1 E1 (Or.inl (wk hw 50 rfl)) (wk hw 31 rfl) (ty := .int) (by decide) rfl rfl (g := (mkF m 6 #[.val (.ref a1)] [(.int (0 : Int32)), (.ref a1)])) rfl rfl (hb hby d6_6)
  have O382 := Old.wr O0 W380 g1
  have K383 : Keep h0 h380 [a1] := (Keep.refl h0 [a1]).wr W380 (Or.inl (List.mem_of_getElem? (i := 0) rfl))
  have N384 := Fr.snoc X380 N379 g1
  have F381 : Fld Z h380 a1 "java/util/AbstractList" "modCount" "I" (.int (0 : Int32)) := Fld.same W380 F1
  refine Win.to T380 (mkF m 9 #[.val (.ref a1)] []) (fun _ k => st380 _ k) ?_
  have F385 : Fld Z h380 a1 "java/util/ArrayList" "elementData" "[Ljava/lang/Object;" .null := (Fld.other W380 F2 (Or.inr (slot_ne (Or.inl (wk hw 53 rfl)) (Or.inl (wk hw 50 rfl)) (by decide) (t := (.array (.object "java/lang/Object"))) (t' := .int) (by decide) (by decide))))
  exact Win.retV X380 hx hlk hret (hb hby d6_9) (by decide) (by decide) (by (try rw [e380]); exact ⟨rfl, N384, K383, F381, F385⟩)
abbrev R_mkAL : Room := ⟨3, 0, 0, 36⟩
set_option maxRecDepth 65536 in
set_option maxHeartbeats 40000000 in
theorem mkAL (l : Launch) (Z : State) (a0 : Array Value) (hw : ∀ d ∈ tables_1, d.before a0 Z = true) (a1 : Addr) (x2 : Value) (h0 : Heap) (n0 : Nat) (O0 : Old Z n0 h0) (E1 : Exa Z h0 a1 "java/util/ArrayList") (F1 : Fld Z h0 a1 "java/util/AbstractList" "modCount" "I" (.int (0 : Int32))) (F2 : Fld Z h0 a1 "java/util/ArrayList" "elementData" "[Ljava/lang/Object;" .null) (g1 : n0 ≤ a1) (S_DE : Sta Z Z.heap "java/util/ArrayList" "DEFAULTCAPACITY_EMPTY_ELEMENTDATA" "[Ljava/lang/Object;" x2) (hx2 : x2.isRef = true) :
    MetN l Z (⟨"java/util/ArrayList", "<init>", "()V"⟩ : MethodName) jdk_38_method_2_code 1 none R_mkAL [] #[(.ref a1)] h0 (fun v h L => v = none ∧ Fr n0 L ∧ Keep h0 h [a1]) := by
  refine MetN.walk (plainFor_of_name pn_5) ?_
  intro p e s m below meth c s₁ hx hZ hby hml hown hnm hret hlk X0 e0
  have N0 := Fr.nil n0
  refine Win.to s₁ (mkF m 0 #[.val (.ref a1)] []) (fun _ k => castTop (by first | (simp [entryFrame, mkF, argsToLocals, Value.category]; done) | rfl) k) ?_
  refine Win.to s₁ (mkF m 1 #[.val (.ref a1)] [(.ref a1)]) (fun _ k => XS.aloadN X0.here hx rfl (hb hby d5_0) rfl rfl k) ?_
  obtain ⟨T386, h386, v386, L386, X386, e386, ⟨rfl, N386q, r386_0, r386_1, r386_2⟩, st386⟩ := N.special X0 hx hZ (y := (⟨"java/util/AbstractList", "<init>", "()V"⟩ : MethodName)) rfl hown (wk hw 36 rfl) (wk hw 37 rfl) (wk hw 40 rfl) (wk hw 41 rfl) (by decide) (mkABL l Z a0 hw a1 h0 n0 O0 E1 F1 F2 g1) e0 (g := (mkF m 1 #[.val (.ref a1)] [(.ref a1)])) rfl (by rw [hml]; rfl) (a := a1) (argsL := []) (rest := []) rfl (lenOf pd___V rfl) rfl (W := 0) (by show 2 * 0 + _ ≤ _; exact Nat.le_of_eq rfl) (hb hby d5_1) (by decide) (by decide) (by decide) (by decide)
  have N387 := Fr.app N0 N386q
  have O388 := Old.keep O0 r386_0 (allS g1 all0)
  have K389 : Keep h0 h386 [a1] := Keep.trans (Keep.refl h0 [a1]) r386_0 (allS (Or.inl (List.mem_of_getElem? (i := 0) rfl)) all0)
  refine Win.to T386 (mkF m 4 #[.val (.ref a1)] []) (fun _ k => st386 _ k) ?_
  refine Win.to T386 (mkF m 5 #[.val (.ref a1)] [(.ref a1)]) (fun _ k => XS.aloadN X386.here hx rfl (hb hby d5_4) rfl rfl k) ?_
  obtain ⟨T390, X390, e390, st390⟩ := getS2 X386 hx hZ hown (host := "") (Or.inl (wk hw 51 rfl)) Via.refl e386 (Sta.ext O388.2 S_DE) (g := (mkF m 5 #[.val (.ref a1)] [(.ref a1)])) rfl (hb hby d5_5)
  refine Win.to T390 (mkF m 8 #[.val (.ref a1)] [x2, (.ref a1)]) (fun _ k => st390 _ k) ?_
  have F391 : Exa Z h386 a1 "java/util/ArrayList" := (E1.keep r386_0)
  obtain ⟨T392, h392, X392, e392, W392, st392⟩ := putF X390 hx hZ hown (host := "") (Or.inl (wk hw 52 rfl)) Via.refl e390 r386_2 F391 (Or.inl (wk hw 53 rfl)) (wk hw 31 rfl) (ty := (.array (.object "java/lang/Object"))) (by decide) (by rcases ref_cases hx2 with hh | ⟨_, hh⟩ <;> rw [hh] <;> rfl) (by rcases ref_cases hx2 with hh | ⟨_, hh⟩ <;> rw [hh] <;> rfl) (g := (mkF m 8 #[.val (.ref a1)] [x2, (.ref a1)])) rfl rfl (hb hby d5_8)
  have O394 := Old.wr O388 W392 g1
  have K395 : Keep h0 h392 [a1] := K389.wr W392 (Or.inl (List.mem_of_getElem? (i := 0) rfl))
  have N396 := Fr.snoc X392 N387 g1
  have F393 : Fld Z h392 a1 "java/util/ArrayList" "elementData" "[Ljava/lang/Object;" x2 := Fld.same W392 r386_2
  refine Win.to T392 (mkF m 11 #[.val (.ref a1)] []) (fun _ k => st392 _ k) ?_
  exact Win.retV X392 hx hlk hret (hb hby d5_11) (by decide) (by decide) (by (try rw [e392]); exact ⟨rfl, N396, K395⟩)
abbrev R_mkRec : Room := ⟨1, 0, 0, 12⟩
set_option maxRecDepth 65536 in
set_option maxHeartbeats 40000000 in
theorem mkRec (l : Launch) (Z : State) (a0 : Array Value) (hw : ∀ d ∈ tables_1, d.before a0 Z = true) (a1 : Addr) (h0 : Heap) (n0 : Nat) (O0 : Old Z n0 h0)  :
    MetN l Z (⟨"java/lang/Record", "<init>", "()V"⟩ : MethodName) jdk_30_method_1_code 1 none R_mkRec [] #[(.ref a1)] h0 (fun v h L => v = none ∧ Fr n0 L ∧ h = h0) := by
  refine MetN.walk (plainFor_of_name pn_9) ?_
  intro p e s m below meth c s₁ hx hZ hby hml hown hnm hret hlk X0 e0
  have N0 := Fr.nil n0
  refine Win.to s₁ (mkF m 0 #[.val (.ref a1)] []) (fun _ k => castTop (by first | (simp [entryFrame, mkF, argsToLocals, Value.category]; done) | rfl) k) ?_
  refine Win.to s₁ (mkF m 1 #[.val (.ref a1)] [(.ref a1)]) (fun _ k => XS.aloadN X0.here hx rfl (hb hby d9_0) rfl rfl k) ?_
  obtain ⟨T397, X397, e397, st397⟩ := initO X0 hx hZ hown (wk hw 62 rfl) (wk hw 17 rfl) (wk hw 18 rfl) e0 (g := (mkF m 1 #[.val (.ref a1)] [(.ref a1)])) rfl (by rw [hml]; rfl) rfl (hb hby d9_1) (by decide) (W := 0) (by show 2 * 0 + _ ≤ _; exact Nat.le_of_eq rfl) (by decide)
  refine Win.to T397 (mkF m 4 #[.val (.ref a1)] []) (fun _ k => st397 _ k) ?_
  exact Win.retV X397 hx hlk hret (hb hby d9_4) (by decide) (by decide) (by (try rw [e397]); exact ⟨rfl, N0, rfl⟩)
abbrev R_mkHead : Room := ⟨2, 0, 0, 24⟩
set_option maxRecDepth 65536 in
set_option maxHeartbeats 40000000 in
theorem mkHead (l : Launch) (Z : State) (a0 : Array Value) (hw : ∀ d ∈ tables_1, d.before a0 Z = true) (a1 : Addr) (s1 : Addr) (l1 : Addr) (h0 : Heap) (n0 : Nat) (O0 : Old Z n0 h0) (E1 : Exa Z h0 a1 "com/example/grantgate/grantgate/server/MessageReader$Head") (F1 : Fld Z h0 a1 "com/example/grantgate/grantgate/server/MessageReader$Head" "startLine" "Ljava/lang/String;" .null) (F2 : Fld Z h0 a1 "com/example/grantgate/grantgate/server/MessageReader$Head" "fields" "Ljava/util/List;" .null) (g1 : n0 ≤ a1) :
    MetN l Z (⟨"com/example/grantgate/grantgate/server/MessageReader$Head", "<init>", "(Ljava/lang/String;Ljava/util/List;)V"⟩ : MethodName) prog_40_method_1_code 3 none R_mkHead [] #[(.ref a1), (.ref s1), (.ref l1)] h0 (fun v h L => v = none ∧ Fr n0 L ∧ Keep h0 h [a1] ∧ Fld Z h a1 "com/example/grantgate/grantgate/server/MessageReader$Head" "startLine" "Ljava/lang/String;" (.ref s1)) := by
  refine MetN.walk (plainFor_of_name pn_8) ?_
  intro p e s m below meth c s₁ hx hZ hby hml hown hnm hret hlk X0 e0
  have N0 := Fr.nil n0
  refine Win.to s₁ (mkF m 0 #[.val (.ref a1), .val (.ref s1), .val (.ref l1)] []) (fun _ k => castTop (by first | (simp [entryFrame, mkF, argsToLocals, Value.category]; done) | rfl) k) ?_
  refine Win.to s₁ (mkF m 1 #[.val (.ref a1), .val (.ref s1), .val (.ref l1)] [(.ref a1)]) (fun _ k => XS.aloadN X0.here hx rfl (hb hby d8_0) rfl rfl k) ?_
  obtain ⟨T398, h398, v398, L398, X398, e398, ⟨rfl, N398q, r398_0⟩, st398⟩ := N.special X0 hx hZ (y := (⟨"java/lang/Record", "<init>", "()V"⟩ : MethodName)) rfl hown (wk hw 57 rfl) (wk hw 58 rfl) (wk hw 60 rfl) (wk hw 61 rfl) (by decide) (mkRec l Z a0 hw a1 h0 n0 O0 ) e0 (g := (mkF m 1 #[.val (.ref a1), .val (.ref s1), .val (.ref l1)] [(.ref a1)])) rfl (by rw [hml]; rfl) (a := a1) (argsL := []) (rest := []) rfl (lenOf pd___V rfl) rfl (W := 0) (by show 2 * 0 + _ ≤ _; exact Nat.le_of_eq rfl) (hb hby d8_1) (by decide) (by decide) (by decide) (by decide)
  have N399 := Fr.app N0 N398q
  have e398 := e398.trans r398_0
  refine Win.to T398 (mkF m 4 #[.val (.ref a1), .val (.ref s1), .val (.ref l1)] []) (fun _ k => st398 _ k) ?_
  refine Win.to T398 (mkF m 5 #[.val (.ref a1), .val (.ref s1), .val (.ref l1)] [(.ref a1)]) (fun _ k => XS.aloadN X398.here hx rfl (hb hby d8_4) rfl rfl k) ?_
  refine Win.to T398 (mkF m 6 #[.val (.ref a1), .val (.ref s1), .val (.ref l1)] [(.ref s1), (.ref a1)]) (fun _ k => XS.aloadN X398.here hx rfl (hb hby d8_5) rfl rfl k) ?_
  obtain ⟨T400, h400, X400, e400, W400, st400⟩ := putF X398 hx hZ hown (host := "") (Or.inl (wk hw 63 rfl)) Via.refl e398 F1 E1 (Or.inr ⟨(wk hw 64 rfl), rfl, hnm⟩) (wk hw 28 rfl) (ty := (.object "java/lang/String")) (by decide) rfl rfl (g := (mkF m 6 #[.val (.ref a1), .val (.ref s1), .val (.ref l1)] [(.ref s1), (.ref a1)])) rfl rfl (hb hby d8_6)
  have O402 := Old.wr O0 W400 g1
  have K403 : Keep h0 h400 [a1] := (Keep.refl h0 [a1]).wr W400 (Or.inl (List.mem_of_getElem? (i := 0) rfl))
  have N404 := Fr.snoc X400 N399 g1
  have F401 : Fld Z h400 a1 "com/example/grantgate/grantgate/server/MessageReader$Head" "startLine" "Ljava/lang/String;" (.ref s1) := Fld.same W400 F1
  refine Win.to T400 (mkF m 9 #[.val (.ref a1), .val (.ref s1), .val (.ref l1)] []) (fun _ k => st400 _ k) ?_
  refine Win.to T400 (mkF m 10 #[.val (.ref a1), .val (.ref s1), .val (.ref l1)] [(.ref a1)]) (fun _ k => XS.aloadN X400.here hx rfl (hb hby d8_9) rfl rfl k) ?_
  refine Win.to T400 (mkF m 11 #[.val (.ref a1), .val (.ref s1), .val (.ref l1)] [(.ref l1), (.ref a1)]) (fun _ k => XS.aloadN X400.here hx rfl (hb hby d8_10) rfl rfl k) ?_
  have F405 : Exa Z h400 a1 "com/example/grantgate/grantgate/server/MessageReader$Head" := (Exa.wr W400 E1)
  have F406 : Fld Z h400 a1 "com/example/grantgate/grantgate/server/MessageReader$Head" "fields" "Ljava/util/List;" .null := (Fld.other W400 F2 (Or.inr (slot_ne (Or.inr (wk hw 66 rfl)) (Or.inr (wk hw 64 rfl)) (by decide) (t := (.object "java/util/List")) (t' := (.object "java/lang/String")) (by decide) (by decide))))
  obtain ⟨T407, h407, X407, e407, W407, st407⟩ := putF X400 hx hZ hown (host := "") (Or.inl (wk hw 65 rfl)) Via.refl e400 F406 F405 (Or.inr ⟨(wk hw 66 rfl), rfl, hnm⟩) (wk hw 28 rfl) (ty := (.object "java/util/List")) (by decide) rfl rfl (g := (mkF m 11 #[.val (.ref a1), .val (.ref s1), .val (.ref l1)] [(.ref l1), (.ref a1)])) rfl rfl (hb hby d8_11)
  have O409 := Old.wr O402 W407 g1
  have K410 : Keep h0 h407 [a1] := K403.wr W407 (Or.inl (List.mem_of_getElem? (i := 0) rfl))
  have N411 := Fr.snoc X407 N404 g1
  have F408 : Fld Z h407 a1 "com/example/grantgate/grantgate/server/MessageReader$Head" "fields" "Ljava/util/List;" (.ref l1) := Fld.same W407 F406
  refine Win.to T407 (mkF m 14 #[.val (.ref a1), .val (.ref s1), .val (.ref l1)] []) (fun _ k => st407 _ k) ?_
  have F412 : Fld Z h407 a1 "com/example/grantgate/grantgate/server/MessageReader$Head" "startLine" "Ljava/lang/String;" (.ref s1) := (Fld.other W407 F401 (Or.inr (slot_ne (Or.inr (wk hw 64 rfl)) (Or.inr (wk hw 66 rfl)) (by decide) (t := (.object "java/lang/String")) (t' := (.object "java/util/List")) (by decide) (by decide))))
  exact Win.retV X407 hx hlk hret (hb hby d8_14) (by decide) (by decide) (by (try rw [e407]); exact ⟨rfl, N411, K410, F412⟩)
abbrev R_headV : Room := ⟨6, 2, 8, 93⟩
set_option maxRecDepth 65536 in
set_option maxHeartbeats 40000000 in
theorem headV (l : Launch) (Z : State) (a0 : Array Value) (hw : ∀ d ∈ tables_1, d.before a0 Z = true) (a1 : Addr) (s1 : Addr) (t1 : Addr) (k1 : ClassId) (n : Nat) (f : Nat → Int32) (b : Nat) (cs : Int32) (x1 : Value) (h0 : Heap) (n0 : Nat) (O0 : Old Z n0 h0) (Fs : Fld Z h0 a1 "com/example/grantgate/grantgate/server/MessageReader$Head" "startLine" "Ljava/lang/String;" (.ref s1)) (E2 : Exa Z h0 s1 "java/lang/String") (F1 : Fld Z h0 s1 "java/lang/String" "value" "[B" (.ref t1)) (F2 : Fld Z h0 s1 "java/lang/String" "coder" "B" (.int (0 : Int32))) (Fa : ArF Z h0 t1 k1 .byte n f) (hbn : b ≤ n) (haft : ∀ i, b ≤ i → i < n → ¬ (f i) = (32 : Int32)) (hat : 0 < b → (f (b - 1)) = (32 : Int32)) (hcap : n ≤ 4) (S_CS : Sta Z Z.heap "java/lang/String" "COMPACT_STRINGS" "Z" (.int cs)) (hcs : ¬ (cs = (0 : Int32))) (S_SI : Sta Z Z.heap "jdk/internal/util/Preconditions" "SIOOBE_FORMATTER" "Ljava/util/function/BiFunction;" x1) (hx1 : x1.isRef = true) :
    MetW l Z (⟨"com/example/grantgate/grantgate/server/MessageReader$Head", "version", "()Ljava/lang/String;"⟩ : MethodName) prog_40_method_4_code 1 (some (.object "java/lang/String")) R_headV [] #[(.ref a1)] h0 EL1 (fun v h L => ∃ (r : Addr) (t2 : Addr) (k2 : ClassId), v = some (.ref r) ∧ Fr n0 L ∧ Keep h0 h [] ∧ Exa Z h r "java/lang/String" ∧ Fld Z h r "java/lang/String" "value" "[B" (.ref t2) ∧ Fld Z h r "java/lang/String" "coder" "B" (.int (0 : Int32)) ∧ ArF Z h t2 k2 .byte (n - b) (fun i => f (b + i))) := by
  refine MetW.walk (plainFor_of_name pn_10) ?_
  intro p e s m below meth c s₁ hx hZ hby hml hown hnm hret hlk C0 hS0 X0 e0
  have N0 := Fr.nil n0
  refine WinW.to s₁ (mkF m 0 #[.val (.ref a1)] []) (fun _ k => castTop (by first | (simp [entryFrame, mkF, argsToLocals, Value.category]; done) | rfl) k) ?_
  refine WinW.to s₁ (mkF m 1 #[.val (.ref a1)] [(.ref a1)]) (fun _ k => XS.aloadN X0.here hx rfl (hb hby d10_0) rfl rfl k) ?_
  obtain ⟨T413, X413, e413, st413⟩ := getF X0 hx hZ hown (host := "") (Or.inl (wk hw 63 rfl)) Via.refl e0 Fs (g := (mkF m 1 #[.val (.ref a1)] [(.ref a1)])) rfl rfl (hb hby d10_1)
  refine WinW.to T413 (mkF m 4 #[.val (.ref a1)] [(.ref s1)]) (fun _ k => st413 _ k) ?_
  refine WinW.to T413 (mkF m 5 #[.val (.ref a1)] [(.ref a1), (.ref s1)]) (fun _ k => XS.aloadN X413.here hx rfl (hb hby d10_4) rfl rfl k) ?_
  obtain ⟨T414, X414, e414, st414⟩ := getF X413 hx hZ hown (host := "") (Or.inl (wk hw 63 rfl)) Via.refl e413 Fs (g := (mkF m 5 #[.val (.ref a1)] [(.ref a1), (.ref s1)])) rfl rfl (hb hby d10_5)
  refine WinW.to T414 (mkF m 8 #[.val (.ref a1)] [(.ref s1), (.ref s1)]) (fun _ k => st414 _ k) ?_
  refine WinW.to T414 (mkF m 10 #[.val (.ref a1)] [(.int (32 : Int32)), (.ref s1), (.ref s1)]) (fun _ k => XS.bipush X414.here hx rfl (hb hby d10_8) k) ?_
  obtain ⟨T415, h415, v415, L415, X415, e415, ⟨rfl, N415q, r415_0⟩, st415⟩ := N.virtual X414 hx hZ (y := (⟨"java/lang/String", "lastIndexOf", "(I)I"⟩ : MethodName)) (z := (⟨"java/lang/String", "lastIndexOf", "(I)I"⟩ : MethodName)) hown (wk hw 72 rfl) (wk hw 73 rfl) (notFace_of_selects (args := #[]) (mvT hZ (wk hw 75 rfl))) (wk hw 75 rfl) (wk hw 74 rfl) (wk hw 8 rfl) (wk hw 76 rfl) (by decide) (lastI l Z a0 hw s1 t1 k1 n f b cs h0 n0 O0 E2 F1 F2 Fa hbn haft hat S_CS hcs) e414 E2 (g := (mkF m 10 #[.val (.ref a1)] [(.int (32 : Int32)), (.ref s1), (.ref s1)])) rfl (by rw [hml]; rfl) (argsL := [(.int (32 : Int32))]) (rest := [(.ref s1)]) rfl (lenOf pd__I_I rfl) rfl (W := 1) (by show 2 * 0 + _ ≤ _; exact Nat.le_of_eq rfl) (hb hby d10_10) (by decide) (by decide) (by decide) (by decide)
  have N416 := Fr.app N0 N415q
  have e415 := e415.trans r415_0
  refine WinW.to T415 (mkF m 13 #[.val (.ref a1)] [(.int (b.toInt32 - (1 : Int32))), (.ref s1)]) (fun _ k => st415 _ k) ?_
  refine WinW.to T415 (mkF m 14 #[.val (.ref a1)] [(.int (1 : Int32)), (.int (b.toInt32 - (1 : Int32))), (.ref s1)]) (fun _ k => XS.iconst X415.here hx rfl (hb hby d10_13) k) ?_
  refine WinW.to T415 (mkF m 15 #[.val (.ref a1)] [(.int b.toInt32), (.ref s1)]) (fun _ k => XS.iadd X415.here hx rfl (hb hby d10_14) rfl (by rw [show ((b.toInt32 - (1 : Int32)) + (1 : Int32)) = b.toInt32 from Int32.sub_add_cancel _ _]; exact k)) ?_
  obtain ⟨T417, h417, v417, L417, k417, X417, e417, hS417, hk417, hZ417, hown417, ⟨r_417, t2_417, k2_417, rfl, N417q, r417_0, r417_1, r417_2, r417_3, r417_4⟩, c417, st417⟩ := W.virtual X415 hS0 (Nat.zero_le _) hx hZ (y := (⟨"java/lang/String", "substring", "(I)Ljava/lang/String;"⟩ : MethodName)) (z := (⟨"java/lang/String", "substring", "(I)Ljava/lang/String;"⟩ : MethodName)) hown (wk hw 109 rfl) (wk hw 110 rfl) (notFace_of_selects (args := #[]) (mvT hZ (wk hw 112 rfl))) (wk hw 112 rfl) (wk hw 111 rfl) (wk hw 8 rfl) (wk hw 113 rfl) (by decide) (subsI l Z a0 hw s1 t1 k1 n f b cs x1 h0 n0 O0 E2 F1 F2 Fa hbn hcap S_CS hcs S_SI hx1) (own_EW hw) C0.1 e415 E2 (g := (mkF m 15 #[.val (.ref a1)] [(.int b.toInt32), (.ref s1)])) rfl (by rw [hml]; rfl) (argsL := [(.int b.toInt32)]) (rest := []) rfl (lenOf pd__I_Ljava_lang_String_ rfl) rfl (W := 0) (by show 2 * 0 + _ ≤ _; exact Nat.le_of_eq rfl) (hb hby d10_15) (by decide) (by decide) (by decide) (by decide)
  have N418 := Fr.app N416 N417q
  have O419 := Old.keep O0 r417_0 all0
  have K420 : Keep h0 h417 [] := Keep.trans (Keep.refl h0 []) r417_0 all0
  have c421 := c417
  have C422 := CHr.trans C0 c421
  refine WinW.to T417 (mkF m 18 #[.val (.ref a1)] [(.ref r_417)]) (fun _ k => st417 _ k) ?_
  exact WinW.retA X417 hS417 (by rw [e417]; exact hk417) hx hlk hret rfl rfl (hb hby d10_18) hZ417 (own_EW hw) (by rw [e417]; exact C422) (by decide) (by decide) (by (try rw [e417]); exact ⟨r_417, t2_417, k2_417, rfl, N418, K420, r417_1, r417_2, r417_3, r417_4⟩)
abbrev R_make0 : Room := ⟨4, 6, 12, 66⟩
set_option maxRecDepth 65536 in
set_option maxHeartbeats 40000000 in
theorem make0 (l : Launch) (Z : State) (a0 : Array Value) (hw : ∀ d ∈ tables_1, d.before a0 Z = true) (c1 : Addr) (kc : ClassId) (q0 : Int32) (q1 : Int32) (q2 : Int32) (q3 : Int32) (cs : Int32) (h0 : Heap) (n0 : Nat) (O0 : Old Z n0 h0) (Fc : Arv Z h0 c1 kc .char (4 : Int32) [(.int q0), (.int q1), (.int q2), (.int q3)] (.int (0 : Int32))) (hcq0 : nar .char q0 = q0) (hcq1 : nar .char q1 = q1) (hcq2 : nar .char q2 = q2) (hcq3 : nar .char q3 = q3) (hlq0 : ¬ (255 : Int32) < q0) (hlq1 : ¬ (255 : Int32) < q1) (hlq2 : ¬ (255 : Int32) < q2) (hlq3 : ¬ (255 : Int32) < q3) (S_CS : Sta Z Z.heap "java/lang/String" "COMPACT_STRINGS" "Z" (.int cs)) (hcs : ¬ (cs = (0 : Int32))) :
    MetW l Z (⟨"com/example/grantgate/grantgate/server/HeadVersionPinLaw", "make", "(I[C)Ljava/lang/String;"⟩ : MethodName) method_4_code 2 (some (.object "java/lang/String")) R_make0 [] #[(.int (0 : Int32)), (.ref c1)] h0 EL1 (fun v h L => ∃ (r : Addr) (t : Addr) (kb : ClassId), v = some (.ref r) ∧ Fr n0 L ∧ Keep h0 h [] ∧ Exa Z h r "java/lang/String" ∧ Fld Z h r "java/lang/String" "value" "[B" (.ref t) ∧ Fld Z h r "java/lang/String" "coder" "B" (.int (0 : Int32)) ∧ ArF Z h t kb .byte 0 (fun i => ((fun i => ([] : List Int32).getD i (0 : Int32)) i).toInt8.toInt32)) := by
  refine MetW.walk (plainFor_of_name pn_1) ?_
  intro p e s m below meth c s₁ hx hZ hby hml hown hnm hret hlk C0 hS0 X0 e0
  have N0 := Fr.nil n0
  refine WinW.to s₁ (mkF m 0 #[.val (.int (0 : Int32)), .val (.ref c1)] []) (fun _ k => castTop (by first | (simp [entryFrame, mkF, argsToLocals, Value.category]; done) | rfl) k) ?_
  refine WinW.to s₁ (mkF m 1 #[.val (.int (0 : Int32)), .val (.ref c1)] [(.int (0 : Int32))]) (fun _ k => XS.iloadN X0.here hx rfl (hb hby d1_0) rfl k) ?_
  refine WinW.to s₁ (mkF m 4 #[.val (.int (0 : Int32)), .val (.ref c1)] []) (fun _ k => XS.ifNo X0.here hx rfl (hb hby d1_1) rfl ((if0 _ _).trans (teq (show (0 : Int32) = (0 : Int32) from by decide)).2) k) ?_
  obtain ⟨T423, h423, X423, e423, E423, A423, D423, -, st423⟩ := newO X0 hx hZ hown (wk hw 6 rfl) (wk hw 7 rfl) (wk hw 8 rfl) e0 (g := (mkF m 4 #[.val (.int (0 : Int32)), .val (.ref c1)] [])) rfl (hb hby d1_4) (by decide) (by decide)
  obtain ⟨b423, g423⟩ : ∃ z, z = h0.size := ⟨_, rfl⟩
  rw [← g423] at A423 D423 st423
  have ne424 : c1 ≠ b423 := Nat.ne_of_lt (Nat.lt_of_lt_of_le Fc.lt (Nat.le_of_eq g423.symm))
  have g425 : n0 ≤ b423 := Nat.le_trans (own_le O0) (Nat.le_of_eq g423.symm)
  have z426 : h0.size ≤ b423 := (Nat.le_of_eq g423.symm)
  have O427 := Old.ext O0 E423
  have K428 : Keep h0 h423 [] := (Keep.refl h0 []).ext E423
  have c429 := CHr.ext E423 C0.1
  have C430 := CHr.trans C0 c429
  have F431 : Fld Z h423 b423 "java/lang/String" "value" "[B" .null := D423 (Or.inr (wk hw 21 rfl)) (ty := (.array .byte)) (by decide)
  have F432 : Fld Z h423 b423 "java/lang/String" "coder" "B" (.int (0 : Int32)) := D423 (Or.inr (wk hw 22 rfl)) (ty := .byte) (by decide)
  refine WinW.to T423 (mkF m 7 #[.val (.int (0 : Int32)), .val (.ref c1)] [(.ref b423)]) (fun _ k => st423 _ k) ?_
  refine WinW.to T423 (mkF m 8 #[.val (.int (0 : Int32)), .val (.ref c1)] [(.ref b423), (.ref b423)]) (fun _ k => XS.dup X423.here hx rfl (hb hby d1_7) rfl rfl k) ?_
  refine WinW.to T423 (mkF m 9 #[.val (.int (0 : Int32)), .val (.ref c1)] [(.int (0 : Int32)), (.ref b423), (.ref b423)]) (fun _ k => XS.iconst X423.here hx rfl (hb hby d1_8) k) ?_
  obtain ⟨T433, h433, k433, X433, e433, E433, A433, st433⟩ := newP X423 hx hZ (wk hw 1 rfl) e423 (g := (mkF m 9 #[.val (.int (0 : Int32)), .val (.ref c1)] [(.int (0 : Int32)), (.ref b423), (.ref b423)])) rfl (hb hby d1_9) rfl (by decide) (cap := 0) (by decide) (by decide) (by decide) (by decide)
  obtain ⟨b433, g433⟩ : ∃ z, z = h423.size := ⟨_, rfl⟩
  rw [← g433] at A433 st433
  have F434 : Arv Z h423 c1 kc .char (4 : Int32) [(.int q0), (.int q1), (.int q2), (.int q3)] (.int (0 : Int32)) := (Fc.ext E423)
  have ne435 : c1 ≠ b433 := Nat.ne_of_lt (Nat.lt_of_lt_of_le F434.lt (Nat.le_of_eq g433.symm))
  have ne436 : b423 ≠ b433 := Nat.ne_of_lt (Nat.lt_of_lt_of_le A423.lt (Nat.le_of_eq g433.symm))
  have g437 : n0 ≤ b433 := Nat.le_trans (own_le O427) (Nat.le_of_eq g433.symm)
  have z438 : h0.size ≤ b433 := Nat.le_trans K428.1 (Nat.le_of_eq g433.symm)
  have O439 := Old.ext O427 E433
  have K440 : Keep h0 h433 [] := K428.ext E433
  have c441 := CHr.ext E433 C430.1
  have C442 := CHr.trans C430 c441
  have F443 : Arv Z h433 b433 k433 .char (0 : Int32) [] (.int (0 : Int32)) := (Arv.new A433 (by decide)).pad (pad_rep [] (.int (0 : Int32)) 0)
  refine WinW.to T433 (mkF m 11 #[.val (.int (0 : Int32)), .val (.ref c1)] [(.ref b433), (.ref b423), (.ref b423)]) (fun _ k => st433 _ k) ?_
  have F444 : ArF Z h433 b433 k433 .char 0 (fun i => ([] : List Int32).getD i (0 : Int32)) := own_arf [] F443 rfl
  have F445 : Exa Z h433 b423 "java/lang/String" := (Exa.ext E433 A423)
  have F446 : Fld Z h433 b423 "java/lang/String" "value" "[B" .null := (Fld.ext E433 F431)
  have F447 : Fld Z h433 b423 "java/lang/String" "coder" "B" (.int (0 : Int32)) := (Fld.ext E433 F432)
  obtain ⟨T448, h448, v448, L448, k448, X448, e448, hS448, hk448, hZ448, hown448, ⟨t_448, kb_448, rfl, N448q, r448_0, r448_1, r448_2, r448_3⟩, c448, st448⟩ := W.special X433 hS0 (Nat.zero_le _) hx hZ (y := (⟨"java/lang/String", "<init>", "([C)V"⟩ : MethodName)) rfl hown (wk hw 9 rfl) (wk hw 10 rfl) (wk hw 8 rfl) (wk hw 11 rfl) (by decide) (ctor1 l Z a0 hw b423 b433 k433 0 (fun i => ([] : List Int32).getD i (0 : Int32)) cs h433 n0 O439 F445 F446 F447 F444 (fun i hi => absurd hi (Nat.not_lt_zero _)) (by decide) g425 S_CS hcs) (own_EW hw) C442.1 e433 (g := (mkF m 11 #[.val (.int (0 : Int32)), .val (.ref c1)] [(.ref b433), (.ref b423), (.ref b423)])) rfl (by rw [hml]; rfl) (a := b423) (argsL := [(.ref b433)]) (rest := [(.ref b423)]) rfl (lenOf pd___C_V rfl) rfl (W := 1) (by show 2 * 0 + _ ≤ _; exact Nat.le_of_eq rfl) (hb hby d1_11) (by decide) (by decide) (by decide) (by decide)
  have N449 := Fr.app N0 N448q
  have O450 := Old.keep O439 r448_0 (allS g425 all0)
  have K451 : Keep h0 h448 [] := Keep.trans K440 r448_0 (allS (Or.inr z426) all0)
  have c452 := c448
  have C453 := CHr.trans C442 c452
  refine WinW.to T448 (mkF m 14 #[.val (.int (0 : Int32)), .val (.ref c1)] [(.ref b423)]) (fun _ k => st448 _ k) ?_
  have F454 : Exa Z h448 b423 "java/lang/String" := (F445.keep r448_0)
  exact WinW.retA X448 hS448 (by rw [e448]; exact hk448) hx hlk hret rfl rfl (hb hby d1_14) hZ448 (own_EW hw) (by rw [e448]; exact C453) (by decide) (by decide) (by (try rw [e448]); exact ⟨b423, t_448, kb_448, rfl, N449, K451, F454, r448_1, r448_2, r448_3⟩)
abbrev R_make1 : Room := ⟨4, 6, 13, 66⟩
set_option maxRecDepth 65536 in
set_option maxHeartbeats 40000000 in
theorem make1 (l : Launch) (Z : State) (a0 : Array Value) (hw : ∀ d ∈ tables_1, d.before a0 Z = true) (c1 : Addr) (kc : ClassId) (q0 : Int32) (q1 : Int32) (q2 : Int32) (q3 : Int32) (cs : Int32) (h0 : Heap) (n0 : Nat) (O0 : Old Z n0 h0) (Fc : Arv Z h0 c1 kc .char (4 : Int32) [(.int q0), (.int q1), (.int q2), (.int q3)] (.int (0 : Int32))) (hcq0 : nar .char q0 = q0) (hcq1 : nar .char q1 = q1) (hcq2 : nar .char q2 = q2) (hcq3 : nar .char q3 = q3) (hlq0 : ¬ (255 : Int32) < q0) (hlq1 : ¬ (255 : Int32) < q1) (hlq2 : ¬ (255 : Int32) < q2) (hlq3 : ¬ (255 : Int32) < q3) (S_CS : Sta Z Z.heap "java/lang/String" "COMPACT_STRINGS" "Z" (.int cs)) (hcs : ¬ (cs = (0 : Int32))) :
    MetW l Z (⟨"com/example/grantgate/grantgate/server/HeadVersionPinLaw", "make", "(I[C)Ljava/lang/String;"⟩ : MethodName) method_4_code 2 (some (.object "java/lang/String")) R_make1 [] #[(.int (1 : Int32)), (.ref c1)] h0 EL1 (fun v h L => ∃ (r : Addr) (t : Addr) (kb : ClassId), v = some (.ref r) ∧ Fr n0 L ∧ Keep h0 h [] ∧ Exa Z h r "java/lang/String" ∧ Fld Z h r "java/lang/String" "value" "[B" (.ref t) ∧ Fld Z h r "java/lang/String" "coder" "B" (.int (0 : Int32)) ∧ ArF Z h t kb .byte 1 (fun i => ((fun i => ([q0] : List Int32).getD i (0 : Int32)) i).toInt8.toInt32)) := by
  refine MetW.walk (plainFor_of_name pn_1) ?_
  intro p e s m below meth c s₁ hx hZ hby hml hown hnm hret hlk C0 hS0 X0 e0
  have N0 := Fr.nil n0
  refine WinW.to s₁ (mkF m 0 #[.val (.int (1 : Int32)), .val (.ref c1)] []) (fun _ k => castTop (by first | (simp [entryFrame, mkF, argsToLocals, Value.category]; done) | rfl) k) ?_
  refine WinW.to s₁ (mkF m 1 #[.val (.int (1 : Int32)), .val (.ref c1)] [(.int (1 : Int32))]) (fun _ k => XS.iloadN X0.here hx rfl (hb hby d1_0) rfl k) ?_
  refine WinW.to s₁ (mkF m 15 #[.val (.int (1 : Int32)), .val (.ref c1)] []) (fun _ k => XS.ifYes X0.here hx rfl (pc0 := 1) (pc' := 15) rfl (hb hby d1_1) rfl ((if0 _ _).trans (feq (show ¬ ((1 : Int32) = (0 : Int32)) from by decide)).2) (by decide) (by decide) k) ?_
  refine WinW.to s₁ (mkF m 16 #[.val (.int (1 : Int32)), .val (.ref c1)] [(.int (1 : Int32))]) (fun _ k => XS.iloadN X0.here hx rfl (hb hby d1_15) rfl k) ?_
  refine WinW.to s₁ (mkF m 17 #[.val (.int (1 : Int32)), .val (.ref c1)] [(.int (1 : Int32)), (.int (1 : Int32))]) (fun _ k => XS.iconst X0.here hx rfl (hb hby d1_16) k) ?_
  refine WinW.to s₁ (mkF m 20 #[.val (.int (1 : Int32)), .val (.ref c1)] []) (fun _ k => XS.icmpNo X0.here hx rfl (hb hby d1_17) rfl (teq (show (1 : Int32) = (1 : Int32) from by decide)).2 k) ?_
  obtain ⟨T455, h455, X455, e455, E455, A455, D455, -, st455⟩ := newO X0 hx hZ hown (wk hw 6 rfl) (wk hw 7 rfl) (wk hw 8 rfl) e0 (g := (mkF m 20 #[.val (.int (1 : Int32)), .val (.ref c1)] [])) rfl (hb hby d1_20) (by decide) (by decide)
  obtain ⟨b455, g455⟩ : ∃ z, z = h0.size := ⟨_, rfl⟩
  rw [← g455] at A455 D455 st455
  have ne456 : c1 ≠ b455 := Nat.ne_of_lt (Nat.lt_of_lt_of_le Fc.lt (Nat.le_of_eq g455.symm))
  have g457 : n0 ≤ b455 := Nat.le_trans (own_le O0) (Nat.le_of_eq g455.symm)
  have z458 : h0.size ≤ b455 := (Nat.le_of_eq g455.symm)
  have O459 := Old.ext O0 E455
  have K460 : Keep h0 h455 [] := (Keep.refl h0 []).ext E455
  have c461 := CHr.ext E455 C0.1
  have C462 := CHr.trans C0 c461
  have F463 : Fld Z h455 b455 "java/lang/String" "value" "[B" .null := D455 (Or.inr (wk hw 21 rfl)) (ty := (.array .byte)) (by decide)
  have F464 : Fld Z h455 b455 "java/lang/String" "coder" "B" (.int (0 : Int32)) := D455 (Or.inr (wk hw 22 rfl)) (ty := .byte) (by decide)
  refine WinW.to T455 (mkF m 23 #[.val (.int (1 : Int32)), .val (.ref c1)] [(.ref b455)]) (fun _ k => st455 _ k) ?_
  refine WinW.to T455 (mkF m 24 #[.val (.int (1 : Int32)), .val (.ref c1)] [(.ref b455), (.ref b455)]) (fun _ k => XS.dup X455.here hx rfl (hb hby d1_23) rfl rfl k) ?_
  refine WinW.to T455 (mkF m 25 #[.val (.int (1 : Int32)), .val (.ref c1)] [(.int (1 : Int32)), (.ref b455), (.ref b455)]) (fun _ k => XS.iconst X455.here hx rfl (hb hby d1_24) k) ?_
  obtain ⟨T465, h465, k465, X465, e465, E465, A465, st465⟩ := newP X455 hx hZ (wk hw 1 rfl) e455 (g := (mkF m 25 #[.val (.int (1 : Int32)), .val (.ref c1)] [(.int (1 : Int32)), (.ref b455), (.ref b455)])) rfl (hb hby d1_25) rfl (by decide) (cap := 1) (by decide) (by decide) (by decide) (by decide)
  obtain ⟨b465, g465⟩ : ∃ z, z = h455.size := ⟨_, rfl⟩
  rw [← g465] at A465 st465
  have F466 : Arv Z h455 c1 kc .char (4 : Int32) [(.int q0), (.int q1), (.int q2), (.int q3)] (.int (0 : Int32)) := (Fc.ext E455)
  have ne467 : c1 ≠ b465 := Nat.ne_of_lt (Nat.lt_of_lt_of_le F466.lt (Nat.le_of_eq g465.symm))
  have ne468 : b455 ≠ b465 := Nat.ne_of_lt (Nat.lt_of_lt_of_le A455.lt (Nat.le_of_eq g465.symm))
  have g469 : n0 ≤ b465 := Nat.le_trans (own_le O459) (Nat.le_of_eq g465.symm)
  have z470 : h0.size ≤ b465 := Nat.le_trans K460.1 (Nat.le_of_eq g465.symm)
  have O471 := Old.ext O459 E465
  have K472 : Keep h0 h465 [] := K460.ext E465
  have c473 := CHr.ext E465 C462.1
  have C474 := CHr.trans C462 c473
  have F475 : Arv Z h465 b465 k465 .char (1 : Int32) [(.int (0 : Int32))] (.int (0 : Int32)) := (Arv.new A465 (by decide)).pad (pad_rep [] (.int (0 : Int32)) 1)
  refine WinW.to T465 (mkF m 27 #[.val (.int (1 : Int32)), .val (.ref c1)] [(.ref b465), (.ref b455), (.ref b455)]) (fun _ k => st465 _ k) ?_
  refine WinW.to T465 (mkF m 28 #[.val (.int (1 : Int32)), .val (.ref c1)] [(.ref b465), (.ref b465), (.ref b455), (.ref b455)]) (fun _ k => XS.dup X465.here hx rfl (hb hby d1_27) rfl rfl k) ?_
  refine WinW.to T465 (mkF m 29 #[.val (.int (1 : Int32)), .val (.ref c1)] [(.int (0 : Int32)), (.ref b465), (.ref b465), (.ref b455), (.ref b455)]) (fun _ k => XS.iconst X465.here hx rfl (hb hby d1_28) k) ?_
  refine WinW.to T465 (mkF m 30 #[.val (.int (1 : Int32)), .val (.ref c1)] [(.ref c1), (.int (0 : Int32)), (.ref b465), (.ref b465), (.ref b455), (.ref b455)]) (fun _ k => XS.aloadN X465.here hx rfl (hb hby d1_29) rfl rfl k) ?_
  refine WinW.to T465 (mkF m 31 #[.val (.int (1 : Int32)), .val (.ref c1)] [(.int (0 : Int32)), (.ref c1), (.int (0 : Int32)), (.ref b465), (.ref b465), (.ref b455), (.ref b455)]) (fun _ k => XS.iconst X465.here hx rfl (hb hby d1_30) k) ?_
  have F476 : Arv Z h465 c1 kc .char (4 : Int32) [(.int q0), (.int q1), (.int q2), (.int q3)] (.int (0 : Int32)) := (F466.ext E465)
  obtain ⟨cl477, Ar477, q477, S477, N477, H477, G477⟩ := id F476
  have hi477 : ¬ ((0 : Int32) < 0 ∨ cl477.slots.size ≤ ((0 : Int32)).toNatClampNeg) := inb_of S477 ⟨by decide, by decide⟩
  refine WinW.to T465 (mkF m 32 #[.val (.int (1 : Int32)), .val (.ref c1)] [(.int q0), (.int (0 : Int32)), (.ref b465), (.ref b465), (.ref b455), (.ref b455)]) (fun _ k => X465.caload hx (j := (0 : Int32)) (v := (.int q0)) (by rw [e465]; exact Ar477.1) (State.isArrayOf_alike hZ.alike Ar477.2.1) Ar477.2.2 hi477 (Has.at H477 hi477 rfl) (g := (mkF m 31 #[.val (.int (1 : Int32)), .val (.ref c1)] [(.int (0 : Int32)), (.ref c1), (.int (0 : Int32)), (.ref b465), (.ref b465), (.ref b455), (.ref b455)])) rfl rfl (hb hby d1_31) _ k) ?_
  obtain ⟨cl478, Ar478, q478, S478, N478, H478, G478⟩ := id F475
  have hi478 : ¬ ((0 : Int32) < 0 ∨ cl478.slots.size ≤ ((0 : Int32)).toNatClampNeg) := inb_of S478 ⟨by decide, by decide⟩
  obtain ⟨T479, h479, X479, e479, W479, st479⟩ := stC X465 hx hZ e465 Ar478 (j := (0 : Int32)) hi478 (g := (mkF m 32 #[.val (.int (1 : Int32)), .val (.ref c1)] [(.int q0), (.int (0 : Int32)), (.ref b465), (.ref b465), (.ref b455), (.ref b455)])) rfl rfl (hb hby d1_32)
  have O481 := Old.wr O471 W479 g469
  have K482 : Keep h0 h479 [] := K472.wr W479 (Or.inr z470)
  have N483 := Fr.snoc X479 N0 g469
  have c484 := CHr.wr W479 (Safe.arv hZ.alike F475 (by decide)) C474.1
  have C485 := CHr.trans C474 c484
  have eq479 : nar .char q0 = q0 := hcq0
  have W479 := eq479 ▸ W479
  have F480 : Arv Z h479 b465 k465 .char (1 : Int32) [(.int q0)] (.int (0 : Int32)) := Arv.set Ar478 q478 S478 N478 H478 G478 (eq479 ▸ (fits_nar_char _)) W479 0 rfl (Nat.le_of_ble_eq_true rfl)
  refine WinW.to T479 (mkF m 33 #[.val (.int (1 : Int32)), .val (.ref c1)] [(.ref b465), (.ref b455), (.ref b455)]) (fun _ k => st479 _ k) ?_
  have F486 : ArF Z h479 b465 k465 .char 1 (fun i => ([q0] : List Int32).getD i (0 : Int32)) := own_arf [q0] F480 rfl
  have F487 : Exa Z h479 b455 "java/lang/String" := (Exa.wr W479 (Exa.ext E465 A455))
  have F488 : Fld Z h479 b455 "java/lang/String" "value" "[B" .null := (Fld.other W479 (Fld.ext E465 F463) (Or.inl ne468))
  have F489 : Fld Z h479 b455 "java/lang/String" "coder" "B" (.int (0 : Int32)) := (Fld.other W479 (Fld.ext E465 F464) (Or.inl ne468))
  obtain ⟨T490, h490, v490, L490, k490, X490, e490, hS490, hk490, hZ490, hown490, ⟨t_490, kb_490, rfl, N490q, r490_0, r490_1, r490_2, r490_3⟩, c490, st490⟩ := W.special X479 hS0 (Nat.zero_le _) hx hZ (y := (⟨"java/lang/String", "<init>", "([C)V"⟩ : MethodName)) rfl hown (wk hw 9 rfl) (wk hw 10 rfl) (wk hw 8 rfl) (wk hw 11 rfl) (by decide) (ctor1 l Z a0 hw b455 b465 k465 1 (fun i => ([q0] : List Int32).getD i (0 : Int32)) cs h479 n0 O481 F487 F488 F489 F486 ((fun i hi => by
    match i, hi with
    | 0, _ => exact hlq0)) (by decide) g457 S_CS hcs) (own_EW hw) C485.1 e479 (g := (mkF m 33 #[.val (.int (1 : Int32)), .val (.ref c1)] [(.ref b465), (.ref b455), (.ref b455)])) rfl (by rw [hml]; rfl) (a := b455) (argsL := [(.ref b465)]) (rest := [(.ref b455)]) rfl (lenOf pd___C_V rfl) rfl (W := 1) (by show 2 * 0 + _ ≤ _; exact Nat.le_of_eq rfl) (hb hby d1_33) (by decide) (by decide) (by decide) (by decide)
  have N491 := Fr.app N483 N490q
  have O492 := Old.keep O481 r490_0 (allS g457 all0)
  have K493 : Keep h0 h490 [] := Keep.trans K482 r490_0 (allS (Or.inr z458) all0)
  have c494 := c490
  have C495 := CHr.trans C485 c494
  refine WinW.to T490 (mkF m 36 #[.val (.int (1 : Int32)), .val (.ref c1)] [(.ref b455)]) (fun _ k => st490 _ k) ?_
  have F496 : Exa Z h490 b455 "java/lang/String" := (F487.keep r490_0)
  exact WinW.retA X490 hS490 (by rw [e490]; exact hk490) hx hlk hret rfl rfl (hb hby d1_36) hZ490 (own_EW hw) (by rw [e490]; exact C495) (by decide) (by decide) (by (try rw [e490]); exact ⟨b455, t_490, kb_490, rfl, N491, K493, F496, r490_1, r490_2, r490_3⟩)
abbrev R_make2 : Room := ⟨4, 6, 14, 66⟩
set_option maxRecDepth 65536 in
set_option maxHeartbeats 40000000 in
theorem make2 (l : Launch) (Z : State) (a0 : Array Value) (hw : ∀ d ∈ tables_1, d.before a0 Z = true) (c1 : Addr) (kc : ClassId) (q0 : Int32) (q1 : Int32) (q2 : Int32) (q3 : Int32) (cs : Int32) (h0 : Heap) (n0 : Nat) (O0 : Old Z n0 h0) (Fc : Arv Z h0 c1 kc .char (4 : Int32) [(.int q0), (.int q1), (.int q2), (.int q3)] (.int (0 : Int32))) (hcq0 : nar .char q0 = q0) (hcq1 : nar .char q1 = q1) (hcq2 : nar .char q2 = q2) (hcq3 : nar .char q3 = q3) (hlq0 : ¬ (255 : Int32) < q0) (hlq1 : ¬ (255 : Int32) < q1) (hlq2 : ¬ (255 : Int32) < q2) (hlq3 : ¬ (255 : Int32) < q3) (S_CS : Sta Z Z.heap "java/lang/String" "COMPACT_STRINGS" "Z" (.int cs)) (hcs : ¬ (cs = (0 : Int32))) :
    MetW l Z (⟨"com/example/grantgate/grantgate/server/HeadVersionPinLaw", "make", "(I[C)Ljava/lang/String;"⟩ : MethodName) method_4_code 2 (some (.object "java/lang/String")) R_make2 [] #[(.int (2 : Int32)), (.ref c1)] h0 EL1 (fun v h L => ∃ (r : Addr) (t : Addr) (kb : ClassId), v = some (.ref r) ∧ Fr n0 L ∧ Keep h0 h [] ∧ Exa Z h r "java/lang/String" ∧ Fld Z h r "java/lang/String" "value" "[B" (.ref t) ∧ Fld Z h r "java/lang/String" "coder" "B" (.int (0 : Int32)) ∧ ArF Z h t kb .byte 2 (fun i => ((fun i => ([q0, q1] : List Int32).getD i (0 : Int32)) i).toInt8.toInt32)) := by
  refine MetW.walk (plainFor_of_name pn_1) ?_
  intro p e s m below meth c s₁ hx hZ hby hml hown hnm hret hlk C0 hS0 X0 e0
  have N0 := Fr.nil n0
  refine WinW.to s₁ (mkF m 0 #[.val (.int (2 : Int32)), .val (.ref c1)] []) (fun _ k => castTop (by first | (simp [entryFrame, mkF, argsToLocals, Value.category]; done) | rfl) k) ?_
  refine WinW.to s₁ (mkF m 1 #[.val (.int (2 : Int32)), .val (.ref c1)] [(.int (2 : Int32))]) (fun _ k => XS.iloadN X0.here hx rfl (hb hby d1_0) rfl k) ?_
  refine WinW.to s₁ (mkF m 15 #[.val (.int (2 : Int32)), .val (.ref c1)] []) (fun _ k => XS.ifYes X0.here hx rfl (pc0 := 1) (pc' := 15) rfl (hb hby d1_1) rfl ((if0 _ _).trans (feq (show ¬ ((2 : Int32) = (0 : Int32)) from by decide)).2) (by decide) (by decide) k) ?_
  refine WinW.to s₁ (mkF m 16 #[.val (.int (2 : Int32)), .val (.ref c1)] [(.int (2 : Int32))]) (fun _ k => XS.iloadN X0.here hx rfl (hb hby d1_15) rfl k) ?_
  refine WinW.to s₁ (mkF m 17 #[.val (.int (2 : Int32)), .val (.ref c1)] [(.int (1 : Int32)), (.int (2 : Int32))]) (fun _ k => XS.iconst X0.here hx rfl (hb hby d1_16) k) ?_
  refine WinW.to s₁ (mkF m 37 #[.val (.int (2 : Int32)), .val (.ref c1)] []) (fun _ k => XS.icmpYes X0.here hx rfl (pc0 := 17) (pc' := 37) rfl (hb hby d1_17) rfl (feq (show ¬ ((2 : Int32) = (1 : Int32)) from by decide)).2 (by decide) (by decide) k) ?_
  refine WinW.to s₁ (mkF m 38 #[.val (.int (2 : Int32)), .val (.ref c1)] [(.int (2 : Int32))]) (fun _ k => XS.iloadN X0.here hx rfl (hb hby d1_37) rfl k) ?_
  refine WinW.to s₁ (mkF m 39 #[.val (.int (2 : Int32)), .val (.ref c1)] [(.int (2 : Int32)), (.int (2 : Int32))]) (fun _ k => XS.iconst X0.here hx rfl (hb hby d1_38) k) ?_
  refine WinW.to s₁ (mkF m 42 #[.val (.int (2 : Int32)), .val (.ref c1)] []) (fun _ k => XS.icmpNo X0.here hx rfl (hb hby d1_39) rfl (teq (show (2 : Int32) = (2 : Int32) from by decide)).2 k) ?_
  obtain ⟨T497, h497, X497, e497, E497, A497, D497, -, st497⟩ := newO X0 hx hZ hown (wk hw 6 rfl) (wk hw 7 rfl) (wk hw 8 rfl) e0 (g := (mkF m 42 #[.val (.int (2 : Int32)), .val (.ref c1)] [])) rfl (hb hby d1_42) (by decide) (by decide)
  obtain ⟨b497, g497⟩ : ∃ z, z = h0.size := ⟨_, rfl⟩
  rw [← g497] at A497 D497 st497
  have ne498 : c1 ≠ b497 := Nat.ne_of_lt (Nat.lt_of_lt_of_le Fc.lt (Nat.le_of_eq g497.symm))
  have g499 : n0 ≤ b497 := Nat.le_trans (own_le O0) (Nat.le_of_eq g497.symm)
  have z500 : h0.size ≤ b497 := (Nat.le_of_eq g497.symm)
  have O501 := Old.ext O0 E497
  have K502 : Keep h0 h497 [] := (Keep.refl h0 []).ext E497
  have c503 := CHr.ext E497 C0.1
  have C504 := CHr.trans C0 c503
  have F505 : Fld Z h497 b497 "java/lang/String" "value" "[B" .null := D497 (Or.inr (wk hw 21 rfl)) (ty := (.array .byte)) (by decide)
  have F506 : Fld Z h497 b497 "java/lang/String" "coder" "B" (.int (0 : Int32)) := D497 (Or.inr (wk hw 22 rfl)) (ty := .byte) (by decide)
  refine WinW.to T497 (mkF m 45 #[.val (.int (2 : Int32)), .val (.ref c1)] [(.ref b497)]) (fun _ k => st497 _ k) ?_
  refine WinW.to T497 (mkF m 46 #[.val (.int (2 : Int32)), .val (.ref c1)] [(.ref b497), (.ref b497)]) (fun _ k => XS.dup X497.here hx rfl (hb hby d1_45) rfl rfl k) ?_
  refine WinW.to T497 (mkF m 47 #[.val (.int (2 : Int32)), .val (.ref c1)] [(.int (2 : Int32)), (.ref b497), (.ref b497)]) (fun _ k => XS.iconst X497.here hx rfl (hb hby d1_46) k) ?_
  obtain ⟨T507, h507, k507, X507, e507, E507, A507, st507⟩ := newP X497 hx hZ (wk hw 1 rfl) e497 (g := (mkF m 47 #[.val (.int (2 : Int32)), .val (.ref c1)] [(.int (2 : Int32)), (.ref b497), (.ref b497)])) rfl (hb hby d1_47) rfl (by decide) (cap := 2) (by decide) (by decide) (by decide) (by decide)
  obtain ⟨b507, g507⟩ : ∃ z, z = h497.size := ⟨_, rfl⟩
  rw [← g507] at A507 st507
  have F508 : Arv Z h497 c1 kc .char (4 : Int32) [(.int q0), (.int q1), (.int q2), (.int q3)] (.int (0 : Int32)) := (Fc.ext E497)
  have ne509 : c1 ≠ b507 := Nat.ne_of_lt (Nat.lt_of_lt_of_le F508.lt (Nat.le_of_eq g507.symm))
  have ne510 : b497 ≠ b507 := Nat.ne_of_lt (Nat.lt_of_lt_of_le A497.lt (Nat.le_of_eq g507.symm))
  have g511 : n0 ≤ b507 := Nat.le_trans (own_le O501) (Nat.le_of_eq g507.symm)
  have z512 : h0.size ≤ b507 := Nat.le_trans K502.1 (Nat.le_of_eq g507.symm)
  have O513 := Old.ext O501 E507
  have K514 : Keep h0 h507 [] := K502.ext E507
  have c515 := CHr.ext E507 C504.1
  have C516 := CHr.trans C504 c515
  have F517 : Arv Z h507 b507 k507 .char (2 : Int32) [(.int (0 : Int32)), (.int (0 : Int32))] (.int (0 : Int32)) := (Arv.new A507 (by decide)).pad (pad_rep [] (.int (0 : Int32)) 2)
  refine WinW.to T507 (mkF m 49 #[.val (.int (2 : Int32)), .val (.ref c1)] [(.ref b507), (.ref b497), (.ref b497)]) (fun _ k => st507 _ k) ?_
  refine WinW.to T507 (mkF m 50 #[.val (.int (2 : Int32)), .val (.ref c1)] [(.ref b507), (.ref b507), (.ref b497), (.ref b497)]) (fun _ k => XS.dup X507.here hx rfl (hb hby d1_49) rfl rfl k) ?_
  refine WinW.to T507 (mkF m 51 #[.val (.int (2 : Int32)), .val (.ref c1)] [(.int (0 : Int32)), (.ref b507), (.ref b507), (.ref b497), (.ref b497)]) (fun _ k => XS.iconst X507.here hx rfl (hb hby d1_50) k) ?_
  refine WinW.to T507 (mkF m 52 #[.val (.int (2 : Int32)), .val (.ref c1)] [(.ref c1), (.int (0 : Int32)), (.ref b507), (.ref b507), (.ref b497), (.ref b497)]) (fun _ k => XS.aloadN X507.here hx rfl (hb hby d1_51) rfl rfl k) ?_
  refine WinW.to T507 (mkF m 53 #[.val (.int (2 : Int32)), .val (.ref c1)] [(.int (0 : Int32)), (.ref c1), (.int (0 : Int32)), (.ref b507), (.ref b507), (.ref b497), (.ref b497)]) (fun _ k => XS.iconst X507.here hx rfl (hb hby d1_52) k) ?_
  have F518 : Arv Z h507 c1 kc .char (4 : Int32) [(.int q0), (.int q1), (.int q2), (.int q3)] (.int (0 : Int32)) := (F508.ext E507)
  obtain ⟨cl519, Ar519, q519, S519, N519, H519, G519⟩ := id F518
  have hi519 : ¬ ((0 : Int32) < 0 ∨ cl519.slots.size ≤ ((0 : Int32)).toNatClampNeg) := inb_of S519 ⟨by decide, by decide⟩
  refine WinW.to T507 (mkF m 54 #[.val (.int (2 : Int32)), .val (.ref c1)] [(.int q0), (.int (0 : Int32)), (.ref b507), (.ref b507), (.ref b497), (.ref b497)]) (fun _ k => X507.caload hx (j := (0 : Int32)) (v := (.int q0)) (by rw [e507]; exact Ar519.1) (State.isArrayOf_alike hZ.alike Ar519.2.1) Ar519.2.2 hi519 (Has.at H519 hi519 rfl) (g := (mkF m 53 #[.val (.int (2 : Int32)), .val (.ref c1)] [(.int (0 : Int32)), (.ref c1), (.int (0 : Int32)), (.ref b507), (.ref b507), (.ref b497), (.ref b497)])) rfl rfl (hb hby d1_53) _ k) ?_
  obtain ⟨cl520, Ar520, q520, S520, N520, H520, G520⟩ := id F517
  have hi520 : ¬ ((0 : Int32) < 0 ∨ cl520.slots.size ≤ ((0 : Int32)).toNatClampNeg) := inb_of S520 ⟨by decide, by decide⟩
  obtain ⟨T521, h521, X521, e521, W521, st521⟩ := stC X507 hx hZ e507 Ar520 (j := (0 : Int32)) hi520 (g := (mkF m 54 #[.val (.int (2 : Int32)), .val (.ref c1)] [(.int q0), (.int (0 : Int32)), (.ref b507), (.ref b507), (.ref b497), (.ref b497)])) rfl rfl (hb hby d1_54)
  have O523 := Old.wr O513 W521 g511
  have K524 : Keep h0 h521 [] := K514.wr W521 (Or.inr z512)
  have N525 := Fr.snoc X521 N0 g511
  have c526 := CHr.wr W521 (Safe.arv hZ.alike F517 (by decide)) C516.1
  have C527 := CHr.trans C516 c526
  have eq521 : nar .char q0 = q0 := hcq0
  have W521 := eq521 ▸ W521
  have F522 : Arv Z h521 b507 k507 .char (2 : Int32) [(.int q0), (.int (0 : Int32))] (.int (0 : Int32)) := Arv.set Ar520 q520 S520 N520 H520 G520 (eq521 ▸ (fits_nar_char _)) W521 0 rfl (Nat.le_of_ble_eq_true rfl)
  refine WinW.to T521 (mkF m 55 #[.val (.int (2 : Int32)), .val (.ref c1)] [(.ref b507), (.ref b497), (.ref b497)]) (fun _ k => st521 _ k) ?_
  refine WinW.to T521 (mkF m 56 #[.val (.int (2 : Int32)), .val (.ref c1)] [(.ref b507), (.ref b507), (.ref b497), (.ref b497)]) (fun _ k => XS.dup X521.here hx rfl (hb hby d1_55) rfl rfl k) ?_
  refine WinW.to T521 (mkF m 57 #[.val (.int (2 : Int32)), .val (.ref c1)] [(.int (1 : Int32)), (.ref b507), (.ref b507), (.ref b497), (.ref b497)]) (fun _ k => XS.iconst X521.here hx rfl (hb hby d1_56) k) ?_
  refine WinW.to T521 (mkF m 58 #[.val (.int (2 : Int32)), .val (.ref c1)] [(.ref c1), (.int (1 : Int32)), (.ref b507), (.ref b507), (.ref b497), (.ref b497)]) (fun _ k => XS.aloadN X521.here hx rfl (hb hby d1_57) rfl rfl k) ?_
  refine WinW.to T521 (mkF m 59 #[.val (.int (2 : Int32)), .val (.ref c1)] [(.int (1 : Int32)), (.ref c1), (.int (1 : Int32)), (.ref b507), (.ref b507), (.ref b497), (.ref b497)]) (fun _ k => XS.iconst X521.here hx rfl (hb hby d1_58) k) ?_
  have F528 : Arv Z h521 c1 kc .char (4 : Int32) [(.int q0), (.int q1), (.int q2), (.int q3)] (.int (0 : Int32)) := (F518.other W521 ne509)
  obtain ⟨cl529, Ar529, q529, S529, N529, H529, G529⟩ := id F528
  have hi529 : ¬ ((1 : Int32) < 0 ∨ cl529.slots.size ≤ ((1 : Int32)).toNatClampNeg) := inb_of S529 ⟨by decide, by decide⟩
  refine WinW.to T521 (mkF m 60 #[.val (.int (2 : Int32)), .val (.ref c1)] [(.int q1), (.int (1 : Int32)), (.ref b507), (.ref b507), (.ref b497), (.ref b497)]) (fun _ k => X521.caload hx (j := (1 : Int32)) (v := (.int q1)) (by rw [e521]; exact Ar529.1) (State.isArrayOf_alike hZ.alike Ar529.2.1) Ar529.2.2 hi529 (Has.at H529 hi529 rfl) (g := (mkF m 59 #[.val (.int (2 : Int32)), .val (.ref c1)] [(.int (1 : Int32)), (.ref c1), (.int (1 : Int32)), (.ref b507), (.ref b507), (.ref b497), (.ref b497)])) rfl rfl (hb hby d1_59) _ k) ?_
  obtain ⟨cl530, Ar530, q530, S530, N530, H530, G530⟩ := id F522
  have hi530 : ¬ ((1 : Int32) < 0 ∨ cl530.slots.size ≤ ((1 : Int32)).toNatClampNeg) := inb_of S530 ⟨by decide, by decide⟩
  obtain ⟨T531, h531, X531, e531, W531, st531⟩ := stC X521 hx hZ e521 Ar530 (j := (1 : Int32)) hi530 (g := (mkF m 60 #[.val (.int (2 : Int32)), .val (.ref c1)] [(.int q1), (.int (1 : Int32)), (.ref b507), (.ref b507), (.ref b497), (.ref b497)])) rfl rfl (hb hby d1_60)
  have O533 := Old.wr O523 W531 g511
  have K534 : Keep h0 h531 [] := K524.wr W531 (Or.inr z512)
  have N535 := Fr.snoc X531 N525 g511
  have c536 := CHr.wr W531 (Safe.arv hZ.alike F522 (by decide)) C527.1
  have C537 := CHr.trans C527 c536
  have eq531 : nar .char q1 = q1 := hcq1
  have W531 := eq531 ▸ W531
  have F532 : Arv Z h531 b507 k507 .char (2 : Int32) [(.int q0), (.int q1)] (.int (0 : Int32)) := Arv.set Ar530 q530 S530 N530 H530 G530 (eq531 ▸ (fits_nar_char _)) W531 1 rfl (Nat.le_of_ble_eq_true rfl)
  refine WinW.to T531 (mkF m 61 #[.val (.int (2 : Int32)), .val (.ref c1)] [(.ref b507), (.ref b497), (.ref b497)]) (fun _ k => st531 _ k) ?_
  have F538 : ArF Z h531 b507 k507 .char 2 (fun i => ([q0, q1] : List Int32).getD i (0 : Int32)) := own_arf [q0, q1] F532 rfl
  have F539 : Exa Z h531 b497 "java/lang/String" := (Exa.wr W531 (Exa.wr W521 (Exa.ext E507 A497)))
  have F540 : Fld Z h531 b497 "java/lang/String" "value" "[B" .null := (Fld.other W531 (Fld.other W521 (Fld.ext E507 F505) (Or.inl ne510)) (Or.inl ne510))
  have F541 : Fld Z h531 b497 "java/lang/String" "coder" "B" (.int (0 : Int32)) := (Fld.other W531 (Fld.other W521 (Fld.ext E507 F506) (Or.inl ne510)) (Or.inl ne510))
  obtain ⟨T542, h542, v542, L542, k542, X542, e542, hS542, hk542, hZ542, hown542, ⟨t_542, kb_542, rfl, N542q, r542_0, r542_1, r542_2, r542_3⟩, c542, st542⟩ := W.special X531 hS0 (Nat.zero_le _) hx hZ (y := (⟨"java/lang/String", "<init>", "([C)V"⟩ : MethodName)) rfl hown (wk hw 9 rfl) (wk hw 10 rfl) (wk hw 8 rfl) (wk hw 11 rfl) (by decide) (ctor1 l Z a0 hw b497 b507 k507 2 (fun i => ([q0, q1] : List Int32).getD i (0 : Int32)) cs h531 n0 O533 F539 F540 F541 F538 ((fun i hi => by
    match i, hi with
    | 0, _ => exact hlq0
    | 1, _ => exact hlq1)) (by decide) g499 S_CS hcs) (own_EW hw) C537.1 e531 (g := (mkF m 61 #[.val (.int (2 : Int32)), .val (.ref c1)] [(.ref b507), (.ref b497), (.ref b497)])) rfl (by rw [hml]; rfl) (a := b497) (argsL := [(.ref b507)]) (rest := [(.ref b497)]) rfl (lenOf pd___C_V rfl) rfl (W := 1) (by show 2 * 0 + _ ≤ _; exact Nat.le_of_eq rfl) (hb hby d1_61) (by decide) (by decide) (by decide) (by decide)
  have N543 := Fr.app N535 N542q
  have O544 := Old.keep O533 r542_0 (allS g499 all0)
  have K545 : Keep h0 h542 [] := Keep.trans K534 r542_0 (allS (Or.inr z500) all0)
  have c546 := c542
  have C547 := CHr.trans C537 c546
  refine WinW.to T542 (mkF m 64 #[.val (.int (2 : Int32)), .val (.ref c1)] [(.ref b497)]) (fun _ k => st542 _ k) ?_
  have F548 : Exa Z h542 b497 "java/lang/String" := (F539.keep r542_0)
  exact WinW.retA X542 hS542 (by rw [e542]; exact hk542) hx hlk hret rfl rfl (hb hby d1_64) hZ542 (own_EW hw) (by rw [e542]; exact C547) (by decide) (by decide) (by (try rw [e542]); exact ⟨b497, t_542, kb_542, rfl, N543, K545, F548, r542_1, r542_2, r542_3⟩)
abbrev R_make3 : Room := ⟨4, 6, 15, 66⟩
set_option maxRecDepth 65536 in
set_option maxHeartbeats 40000000 in
theorem make3 (l : Launch) (Z : State) (a0 : Array Value) (hw : ∀ d ∈ tables_1, d.before a0 Z = true) (c1 : Addr) (kc : ClassId) (q0 : Int32) (q1 : Int32) (q2 : Int32) (q3 : Int32) (cs : Int32) (h0 : Heap) (n0 : Nat) (O0 : Old Z n0 h0) (Fc : Arv Z h0 c1 kc .char (4 : Int32) [(.int q0), (.int q1), (.int q2), (.int q3)] (.int (0 : Int32))) (hcq0 : nar .char q0 = q0) (hcq1 : nar .char q1 = q1) (hcq2 : nar .char q2 = q2) (hcq3 : nar .char q3 = q3) (hlq0 : ¬ (255 : Int32) < q0) (hlq1 : ¬ (255 : Int32) < q1) (hlq2 : ¬ (255 : Int32) < q2) (hlq3 : ¬ (255 : Int32) < q3) (S_CS : Sta Z Z.heap "java/lang/String" "COMPACT_STRINGS" "Z" (.int cs)) (hcs : ¬ (cs = (0 : Int32))) :
    MetW l Z (⟨"com/example/grantgate/grantgate/server/HeadVersionPinLaw", "make", "(I[C)Ljava/lang/String;"⟩ : MethodName) method_4_code 2 (some (.object "java/lang/String")) R_make3 [] #[(.int (3 : Int32)), (.ref c1)] h0 EL1 (fun v h L => ∃ (r : Addr) (t : Addr) (kb : ClassId), v = some (.ref r) ∧ Fr n0 L ∧ Keep h0 h [] ∧ Exa Z h r "java/lang/String" ∧ Fld Z h r "java/lang/String" "value" "[B" (.ref t) ∧ Fld Z h r "java/lang/String" "coder" "B" (.int (0 : Int32)) ∧ ArF Z h t kb .byte 3 (fun i => ((fun i => ([q0, q1, q2] : List Int32).getD i (0 : Int32)) i).toInt8.toInt32)) := by
  refine MetW.walk (plainFor_of_name pn_1) ?_
  intro p e s m below meth c s₁ hx hZ hby hml hown hnm hret hlk C0 hS0 X0 e0
  have N0 := Fr.nil n0
  refine WinW.to s₁ (mkF m 0 #[.val (.int (3 : Int32)), .val (.ref c1)] []) (fun _ k => castTop (by first | (simp [entryFrame, mkF, argsToLocals, Value.category]; done) | rfl) k) ?_
  refine WinW.to s₁ (mkF m 1 #[.val (.int (3 : Int32)), .val (.ref c1)] [(.int (3 : Int32))]) (fun _ k => XS.iloadN X0.here hx rfl (hb hby d1_0) rfl k) ?_
  refine WinW.to s₁ (mkF m 15 #[.val (.int (3 : Int32)), .val (.ref c1)] []) (fun _ k => XS.ifYes X0.here hx rfl (pc0 := 1) (pc' := 15) rfl (hb hby d1_1) rfl ((if0 _ _).trans (feq (show ¬ ((3 : Int32) = (0 : Int32)) from by decide)).2) (by decide) (by decide) k) ?_
  refine WinW.to s₁ (mkF m 16 #[.val (.int (3 : Int32)), .val (.ref c1)] [(.int (3 : Int32))]) (fun _ k => XS.iloadN X0.here hx rfl (hb hby d1_15) rfl k) ?_
  refine WinW.to s₁ (mkF m 17 #[.val (.int (3 : Int32)), .val (.ref c1)] [(.int (1 : Int32)), (.int (3 : Int32))]) (fun _ k => XS.iconst X0.here hx rfl (hb hby d1_16) k) ?_
  refine WinW.to s₁ (mkF m 37 #[.val (.int (3 : Int32)), .val (.ref c1)] []) (fun _ k => XS.icmpYes X0.here hx rfl (pc0 := 17) (pc' := 37) rfl (hb hby d1_17) rfl (feq (show ¬ ((3 : Int32) = (1 : Int32)) from by decide)).2 (by decide) (by decide) k) ?_
  refine WinW.to s₁ (mkF m 38 #[.val (.int (3 : Int32)), .val (.ref c1)] [(.int (3 : Int32))]) (fun _ k => XS.iloadN X0.here hx rfl (hb hby d1_37) rfl k) ?_
  refine WinW.to s₁ (mkF m 39 #[.val (.int (3 : Int32)), .val (.ref c1)] [(.int (2 : Int32)), (.int (3 : Int32))]) (fun _ k => XS.iconst X0.here hx rfl (hb hby d1_38) k) ?_
  refine WinW.to s₁ (mkF m 65 #[.val (.int (3 : Int32)), .val (.ref c1)] []) (fun _ k => XS.icmpYes X0.here hx rfl (pc0 := 39) (pc' := 65) rfl (hb hby d1_39) rfl (feq (show ¬ ((3 : Int32) = (2 : Int32)) from by decide)).2 (by decide) (by decide) k) ?_
  refine WinW.to s₁ (mkF m 66 #[.val (.int (3 : Int32)), .val (.ref c1)] [(.int (3 : Int32))]) (fun _ k => XS.iloadN X0.here hx rfl (hb hby d1_65) rfl k) ?_
  refine WinW.to s₁ (mkF m 67 #[.val (.int (3 : Int32)), .val (.ref c1)] [(.int (3 : Int32)), (.int (3 : Int32))]) (fun _ k => XS.iconst X0.here hx rfl (hb hby d1_66) k) ?_
  refine WinW.to s₁ (mkF m 70 #[.val (.int (3 : Int32)), .val (.ref c1)] []) (fun _ k => XS.icmpNo X0.here hx rfl (hb hby d1_67) rfl (teq (show (3 : Int32) = (3 : Int32) from by decide)).2 k) ?_
  obtain ⟨T549, h549, X549, e549, E549, A549, D549, -, st549⟩ := newO X0 hx hZ hown (wk hw 6 rfl) (wk hw 7 rfl) (wk hw 8 rfl) e0 (g := (mkF m 70 #[.val (.int (3 : Int32)), .val (.ref c1)] [])) rfl (hb hby d1_70) (by decide) (by decide)
  obtain ⟨b549, g549⟩ : ∃ z, z = h0.size := ⟨_, rfl⟩
  rw [← g549] at A549 D549 st549
  have ne550 : c1 ≠ b549 := Nat.ne_of_lt (Nat.lt_of_lt_of_le Fc.lt (Nat.le_of_eq g549.symm))
  have g551 : n0 ≤ b549 := Nat.le_trans (own_le O0) (Nat.le_of_eq g549.symm)
  have z552 : h0.size ≤ b549 := (Nat.le_of_eq g549.symm)
  have O553 := Old.ext O0 E549
  have K554 : Keep h0 h549 [] := (Keep.refl h0 []).ext E549
  have c555 := CHr.ext E549 C0.1
  have C556 := CHr.trans C0 c555
  have F557 : Fld Z h549 b549 "java/lang/String" "value" "[B" .null := D549 (Or.inr (wk hw 21 rfl)) (ty := (.array .byte)) (by decide)
  have F558 : Fld Z h549 b549 "java/lang/String" "coder" "B" (.int (0 : Int32)) := D549 (Or.inr (wk hw 22 rfl)) (ty := .byte) (by decide)
  refine WinW.to T549 (mkF m 73 #[.val (.int (3 : Int32)), .val (.ref c1)] [(.ref b549)]) (fun _ k => st549 _ k) ?_
  refine WinW.to T549 (mkF m 74 #[.val (.int (3 : Int32)), .val (.ref c1)] [(.ref b549), (.ref b549)]) (fun _ k => XS.dup X549.here hx rfl (hb hby d1_73) rfl rfl k) ?_
  refine WinW.to T549 (mkF m 75 #[.val (.int (3 : Int32)), .val (.ref c1)] [(.int (3 : Int32)), (.ref b549), (.ref b549)]) (fun _ k => XS.iconst X549.here hx rfl (hb hby d1_74) k) ?_
  obtain ⟨T559, h559, k559, X559, e559, E559, A559, st559⟩ := newP X549 hx hZ (wk hw 1 rfl) e549 (g := (mkF m 75 #[.val (.int (3 : Int32)), .val (.ref c1)] [(.int (3 : Int32)), (.ref b549), (.ref b549)])) rfl (hb hby d1_75) rfl (by decide) (cap := 3) (by decide) (by decide) (by decide) (by decide)
  obtain ⟨b559, g559⟩ : ∃ z, z = h549.size := ⟨_, rfl⟩
  rw [← g559] at A559 st559
  have F560 : Arv Z h549 c1 kc .char (4 : Int32) [(.int q0), (.int q1), (.int q2), (.int q3)] (.int (0 : Int32)) := (Fc.ext E549)
  have ne561 : c1 ≠ b559 := Nat.ne_of_lt (Nat.lt_of_lt_of_le F560.lt (Nat.le_of_eq g559.symm))
  have ne562 : b549 ≠ b559 := Nat.ne_of_lt (Nat.lt_of_lt_of_le A549.lt (Nat.le_of_eq g559.symm))
  have g563 : n0 ≤ b559 := Nat.le_trans (own_le O553) (Nat.le_of_eq g559.symm)
  have z564 : h0.size ≤ b559 := Nat.le_trans K554.1 (Nat.le_of_eq g559.symm)
  have O565 := Old.ext O553 E559
  have K566 : Keep h0 h559 [] := K554.ext E559
  have c567 := CHr.ext E559 C556.1
  have C568 := CHr.trans C556 c567
  have F569 : Arv Z h559 b559 k559 .char (3 : Int32) [(.int (0 : Int32)), (.int (0 : Int32)), (.int (0 : Int32))] (.int (0 : Int32)) := (Arv.new A559 (by decide)).pad (pad_rep [] (.int (0 : Int32)) 3)
  refine WinW.to T559 (mkF m 77 #[.val (.int (3 : Int32)), .val (.ref c1)] [(.ref b559), (.ref b549), (.ref b549)]) (fun _ k => st559 _ k) ?_
  refine WinW.to T559 (mkF m 78 #[.val (.int (3 : Int32)), .val (.ref c1)] [(.ref b559), (.ref b559), (.ref b549), (.ref b549)]) (fun _ k => XS.dup X559.here hx rfl (hb hby d1_77) rfl rfl k) ?_
  refine WinW.to T559 (mkF m 79 #[.val (.int (3 : Int32)), .val (.ref c1)] [(.int (0 : Int32)), (.ref b559), (.ref b559), (.ref b549), (.ref b549)]) (fun _ k => XS.iconst X559.here hx rfl (hb hby d1_78) k) ?_
  refine WinW.to T559 (mkF m 80 #[.val (.int (3 : Int32)), .val (.ref c1)] [(.ref c1), (.int (0 : Int32)), (.ref b559), (.ref b559), (.ref b549), (.ref b549)]) (fun _ k => XS.aloadN X559.here hx rfl (hb hby d1_79) rfl rfl k) ?_
  refine WinW.to T559 (mkF m 81 #[.val (.int (3 : Int32)), .val (.ref c1)] [(.int (0 : Int32)), (.ref c1), (.int (0 : Int32)), (.ref b559), (.ref b559), (.ref b549), (.ref b549)]) (fun _ k => XS.iconst X559.here hx rfl (hb hby d1_80) k) ?_
  have F570 : Arv Z h559 c1 kc .char (4 : Int32) [(.int q0), (.int q1), (.int q2), (.int q3)] (.int (0 : Int32)) := (F560.ext E559)
  obtain ⟨cl571, Ar571, q571, S571, N571, H571, G571⟩ := id F570
  have hi571 : ¬ ((0 : Int32) < 0 ∨ cl571.slots.size ≤ ((0 : Int32)).toNatClampNeg) := inb_of S571 ⟨by decide, by decide⟩
  refine WinW.to T559 (mkF m 82 #[.val (.int (3 : Int32)), .val (.ref c1)] [(.int q0), (.int (0 : Int32)), (.ref b559), (.ref b559), (.ref b549), (.ref b549)]) (fun _ k => X559.caload hx (j := (0 : Int32)) (v := (.int q0)) (by rw [e559]; exact Ar571.1) (State.isArrayOf_alike hZ.alike Ar571.2.1) Ar571.2.2 hi571 (Has.at H571 hi571 rfl) (g := (mkF m 81 #[.val (.int (3 : Int32)), .val (.ref c1)] [(.int (0 : Int32)), (.ref c1), (.int (0 : Int32)), (.ref b559), (.ref b559), (.ref b549), (.ref b549)])) rfl rfl (hb hby d1_81) _ k) ?_
  obtain ⟨cl572, Ar572, q572, S572, N572, H572, G572⟩ := id F569
  have hi572 : ¬ ((0 : Int32) < 0 ∨ cl572.slots.size ≤ ((0 : Int32)).toNatClampNeg) := inb_of S572 ⟨by decide, by decide⟩
  obtain ⟨T573, h573, X573, e573, W573, st573⟩ := stC X559 hx hZ e559 Ar572 (j := (0 : Int32)) hi572 (g := (mkF m 82 #[.val (.int (3 : Int32)), .val (.ref c1)] [(.int q0), (.int (0 : Int32)), (.ref b559), (.ref b559), (.ref b549), (.ref b549)])) rfl rfl (hb hby d1_82)
  have O575 := Old.wr O565 W573 g563
  have K576 : Keep h0 h573 [] := K566.wr W573 (Or.inr z564)
  have N577 := Fr.snoc X573 N0 g563
  have c578 := CHr.wr W573 (Safe.arv hZ.alike F569 (by decide)) C568.1
  have C579 := CHr.trans C568 c578
  have eq573 : nar .char q0 = q0 := hcq0
  have W573 := eq573 ▸ W573
  have F574 : Arv Z h573 b559 k559 .char (3 : Int32) [(.int q0), (.int (0 : Int32)), (.int (0 : Int32))] (.int (0 : Int32)) := Arv.set Ar572 q572 S572 N572 H572 G572 (eq573 ▸ (fits_nar_char _)) W573 0 rfl (Nat.le_of_ble_eq_true rfl)
  refine WinW.to T573 (mkF m 83 #[.val (.int (3 : Int32)), .val (.ref c1)] [(.ref b559), (.ref b549), (.ref b549)]) (fun _ k => st573 _ k) ?_
  refine WinW.to T573 (mkF m 84 #[.val (.int (3 : Int32)), .val (.ref c1)] [(.ref b559), (.ref b559), (.ref b549), (.ref b549)]) (fun _ k => XS.dup X573.here hx rfl (hb hby d1_83) rfl rfl k) ?_
  refine WinW.to T573 (mkF m 85 #[.val (.int (3 : Int32)), .val (.ref c1)] [(.int (1 : Int32)), (.ref b559), (.ref b559), (.ref b549), (.ref b549)]) (fun _ k => XS.iconst X573.here hx rfl (hb hby d1_84) k) ?_
  refine WinW.to T573 (mkF m 86 #[.val (.int (3 : Int32)), .val (.ref c1)] [(.ref c1), (.int (1 : Int32)), (.ref b559), (.ref b559), (.ref b549), (.ref b549)]) (fun _ k => XS.aloadN X573.here hx rfl (hb hby d1_85) rfl rfl k) ?_
  refine WinW.to T573 (mkF m 87 #[.val (.int (3 : Int32)), .val (.ref c1)] [(.int (1 : Int32)), (.ref c1), (.int (1 : Int32)), (.ref b559), (.ref b559), (.ref b549), (.ref b549)]) (fun _ k => XS.iconst X573.here hx rfl (hb hby d1_86) k) ?_
  have F580 : Arv Z h573 c1 kc .char (4 : Int32) [(.int q0), (.int q1), (.int q2), (.int q3)] (.int (0 : Int32)) := (F570.other W573 ne561)
  obtain ⟨cl581, Ar581, q581, S581, N581, H581, G581⟩ := id F580
  have hi581 : ¬ ((1 : Int32) < 0 ∨ cl581.slots.size ≤ ((1 : Int32)).toNatClampNeg) := inb_of S581 ⟨by decide, by decide⟩
  refine WinW.to T573 (mkF m 88 #[.val (.int (3 : Int32)), .val (.ref c1)] [(.int q1), (.int (1 : Int32)), (.ref b559), (.ref b559), (.ref b549), (.ref b549)]) (fun _ k => X573.caload hx (j := (1 : Int32)) (v := (.int q1)) (by rw [e573]; exact Ar581.1) (State.isArrayOf_alike hZ.alike Ar581.2.1) Ar581.2.2 hi581 (Has.at H581 hi581 rfl) (g := (mkF m 87 #[.val (.int (3 : Int32)), .val (.ref c1)] [(.int (1 : Int32)), (.ref c1), (.int (1 : Int32)), (.ref b559), (.ref b559), (.ref b549), (.ref b549)])) rfl rfl (hb hby d1_87) _ k) ?_
  obtain ⟨cl582, Ar582, q582, S582, N582, H582, G582⟩ := id F574
  have hi582 : ¬ ((1 : Int32) < 0 ∨ cl582.slots.size ≤ ((1 : Int32)).toNatClampNeg) := inb_of S582 ⟨by decide, by decide⟩
  obtain ⟨T583, h583, X583, e583, W583, st583⟩ := stC X573 hx hZ e573 Ar582 (j := (1 : Int32)) hi582 (g := (mkF m 88 #[.val (.int (3 : Int32)), .val (.ref c1)] [(.int q1), (.int (1 : Int32)), (.ref b559), (.ref b559), (.ref b549), (.ref b549)])) rfl rfl (hb hby d1_88)
  have O585 := Old.wr O575 W583 g563
  have K586 : Keep h0 h583 [] := K576.wr W583 (Or.inr z564)
  have N587 := Fr.snoc X583 N577 g563
  have c588 := CHr.wr W583 (Safe.arv hZ.alike F574 (by decide)) C579.1
  have C589 := CHr.trans C579 c588
  have eq583 : nar .char q1 = q1 := hcq1
  have W583 := eq583 ▸ W583
  have F584 : Arv Z h583 b559 k559 .char (3 : Int32) [(.int q0), (.int q1), (.int (0 : Int32))] (.int (0 : Int32)) := Arv.set Ar582 q582 S582 N582 H582 G582 (eq583 ▸ (fits_nar_char _)) W583 1 rfl (Nat.le_of_ble_eq_true rfl)
  refine WinW.to T583 (mkF m 89 #[.val (.int (3 : Int32)), .val (.ref c1)] [(.ref b559), (.ref b549), (.ref b549)]) (fun _ k => st583 _ k) ?_
  refine WinW.to T583 (mkF m 90 #[.val (.int (3 : Int32)), .val (.ref c1)] [(.ref b559), (.ref b559), (.ref b549), (.ref b549)]) (fun _ k => XS.dup X583.here hx rfl (hb hby d1_89) rfl rfl k) ?_
  refine WinW.to T583 (mkF m 91 #[.val (.int (3 : Int32)), .val (.ref c1)] [(.int (2 : Int32)), (.ref b559), (.ref b559), (.ref b549), (.ref b549)]) (fun _ k => XS.iconst X583.here hx rfl (hb hby d1_90) k) ?_
  refine WinW.to T583 (mkF m 92 #[.val (.int (3 : Int32)), .val (.ref c1)] [(.ref c1), (.int (2 : Int32)), (.ref b559), (.ref b559), (.ref b549), (.ref b549)]) (fun _ k => XS.aloadN X583.here hx rfl (hb hby d1_91) rfl rfl k) ?_
  refine WinW.to T583 (mkF m 93 #[.val (.int (3 : Int32)), .val (.ref c1)] [(.int (2 : Int32)), (.ref c1), (.int (2 : Int32)), (.ref b559), (.ref b559), (.ref b549), (.ref b549)]) (fun _ k => XS.iconst X583.here hx rfl (hb hby d1_92) k) ?_
  have F590 : Arv Z h583 c1 kc .char (4 : Int32) [(.int q0), (.int q1), (.int q2), (.int q3)] (.int (0 : Int32)) := (F580.other W583 ne561)
  obtain ⟨cl591, Ar591, q591, S591, N591, H591, G591⟩ := id F590
  have hi591 : ¬ ((2 : Int32) < 0 ∨ cl591.slots.size ≤ ((2 : Int32)).toNatClampNeg) := inb_of S591 ⟨by decide, by decide⟩
  refine WinW.to T583 (mkF m 94 #[.val (.int (3 : Int32)), .val (.ref c1)] [(.int q2), (.int (2 : Int32)), (.ref b559), (.ref b559), (.ref b549), (.ref b549)]) (fun _ k => X583.caload hx (j := (2 : Int32)) (v := (.int q2)) (by rw [e583]; exact Ar591.1) (State.isArrayOf_alike hZ.alike Ar591.2.1) Ar591.2.2 hi591 (Has.at H591 hi591 rfl) (g := (mkF m 93 #[.val (.int (3 : Int32)), .val (.ref c1)] [(.int (2 : Int32)), (.ref c1), (.int (2 : Int32)), (.ref b559), (.ref b559), (.ref b549), (.ref b549)])) rfl rfl (hb hby d1_93) _ k) ?_
  obtain ⟨cl592, Ar592, q592, S592, N592, H592, G592⟩ := id F584
  have hi592 : ¬ ((2 : Int32) < 0 ∨ cl592.slots.size ≤ ((2 : Int32)).toNatClampNeg) := inb_of S592 ⟨by decide, by decide⟩
  obtain ⟨T593, h593, X593, e593, W593, st593⟩ := stC X583 hx hZ e583 Ar592 (j := (2 : Int32)) hi592 (g := (mkF m 94 #[.val (.int (3 : Int32)), .val (.ref c1)] [(.int q2), (.int (2 : Int32)), (.ref b559), (.ref b559), (.ref b549), (.ref b549)])) rfl rfl (hb hby d1_94)
  have O595 := Old.wr O585 W593 g563
  have K596 : Keep h0 h593 [] := K586.wr W593 (Or.inr z564)
  have N597 := Fr.snoc X593 N587 g563
  have c598 := CHr.wr W593 (Safe.arv hZ.alike F584 (by decide)) C589.1
  have C599 := CHr.trans C589 c598
  have eq593 : nar .char q2 = q2 := hcq2
  have W593 := eq593 ▸ W593
  have F594 : Arv Z h593 b559 k559 .char (3 : Int32) [(.int q0), (.int q1), (.int q2)] (.int (0 : Int32)) := Arv.set Ar592 q592 S592 N592 H592 G592 (eq593 ▸ (fits_nar_char _)) W593 2 rfl (Nat.le_of_ble_eq_true rfl)
  refine WinW.to T593 (mkF m 95 #[.val (.int (3 : Int32)), .val (.ref c1)] [(.ref b559), (.ref b549), (.ref b549)]) (fun _ k => st593 _ k) ?_
  have F600 : ArF Z h593 b559 k559 .char 3 (fun i => ([q0, q1, q2] : List Int32).getD i (0 : Int32)) := own_arf [q0, q1, q2] F594 rfl
  have F601 : Exa Z h593 b549 "java/lang/String" := (Exa.wr W593 (Exa.wr W583 (Exa.wr W573 (Exa.ext E559 A549))))
  have F602 : Fld Z h593 b549 "java/lang/String" "value" "[B" .null := (Fld.other W593 (Fld.other W583 (Fld.other W573 (Fld.ext E559 F557) (Or.inl ne562)) (Or.inl ne562)) (Or.inl ne562))
  have F603 : Fld Z h593 b549 "java/lang/String" "coder" "B" (.int (0 : Int32)) := (Fld.other W593 (Fld.other W583 (Fld.other W573 (Fld.ext E559 F558) (Or.inl ne562)) (Or.inl ne562)) (Or.inl ne562))
  obtain ⟨T604, h604, v604, L604, k604, X604, e604, hS604, hk604, hZ604, hown604, ⟨t_604, kb_604, rfl, N604q, r604_0, r604_1, r604_2, r604_3⟩, c604, st604⟩ := W.special X593 hS0 (Nat.zero_le _) hx hZ (y := (⟨"java/lang/String", "<init>", "([C)V"⟩ : MethodName)) rfl hown (wk hw 9 rfl) (wk hw 10 rfl) (wk hw 8 rfl) (wk hw 11 rfl) (by decide) (ctor1 l Z a0 hw b549 b559 k559 3 (fun i => ([q0, q1, q2] : List Int32).getD i (0 : Int32)) cs h593 n0 O595 F601 F602 F603 F600 ((fun i hi => by
    match i, hi with
    | 0, _ => exact hlq0
    | 1, _ => exact hlq1
    | 2, _ => exact hlq2)) (by decide) g551 S_CS hcs) (own_EW hw) C599.1 e593 (g := (mkF m 95 #[.val (.int (3 : Int32)), .val (.ref c1)] [(.ref b559), (.ref b549), (.ref b549)])) rfl (by rw [hml]; rfl) (a := b549) (argsL := [(.ref b559)]) (rest := [(.ref b549)]) rfl (lenOf pd___C_V rfl) rfl (W := 1) (by show 2 * 0 + _ ≤ _; exact Nat.le_of_eq rfl) (hb hby d1_95) (by decide) (by decide) (by decide) (by decide)
  have N605 := Fr.app N597 N604q
  have O606 := Old.keep O595 r604_0 (allS g551 all0)
  have K607 : Keep h0 h604 [] := Keep.trans K596 r604_0 (allS (Or.inr z552) all0)
  have c608 := c604
  have C609 := CHr.trans C599 c608
  refine WinW.to T604 (mkF m 98 #[.val (.int (3 : Int32)), .val (.ref c1)] [(.ref b549)]) (fun _ k => st604 _ k) ?_
  have F610 : Exa Z h604 b549 "java/lang/String" := (F601.keep r604_0)
  exact WinW.retA X604 hS604 (by rw [e604]; exact hk604) hx hlk hret rfl rfl (hb hby d1_98) hZ604 (own_EW hw) (by rw [e604]; exact C609) (by decide) (by decide) (by (try rw [e604]); exact ⟨b549, t_604, kb_604, rfl, N605, K607, F610, r604_1, r604_2, r604_3⟩)
abbrev R_make4 : Room := ⟨4, 6, 16, 66⟩
set_option maxRecDepth 65536 in
set_option maxHeartbeats 40000000 in
theorem make4 (l : Launch) (Z : State) (a0 : Array Value) (hw : ∀ d ∈ tables_1, d.before a0 Z = true) (c1 : Addr) (kc : ClassId) (q0 : Int32) (q1 : Int32) (q2 : Int32) (q3 : Int32) (cs : Int32) (h0 : Heap) (n0 : Nat) (O0 : Old Z n0 h0) (Fc : Arv Z h0 c1 kc .char (4 : Int32) [(.int q0), (.int q1), (.int q2), (.int q3)] (.int (0 : Int32))) (hcq0 : nar .char q0 = q0) (hcq1 : nar .char q1 = q1) (hcq2 : nar .char q2 = q2) (hcq3 : nar .char q3 = q3) (hlq0 : ¬ (255 : Int32) < q0) (hlq1 : ¬ (255 : Int32) < q1) (hlq2 : ¬ (255 : Int32) < q2) (hlq3 : ¬ (255 : Int32) < q3) (S_CS : Sta Z Z.heap "java/lang/String" "COMPACT_STRINGS" "Z" (.int cs)) (hcs : ¬ (cs = (0 : Int32))) :
    MetW l Z (⟨"com/example/grantgate/grantgate/server/HeadVersionPinLaw", "make", "(I[C)Ljava/lang/String;"⟩ : MethodName) method_4_code 2 (some (.object "java/lang/String")) R_make4 [] #[(.int (4 : Int32)), (.ref c1)] h0 EL1 (fun v h L => ∃ (r : Addr) (t : Addr) (kb : ClassId), v = some (.ref r) ∧ Fr n0 L ∧ Keep h0 h [] ∧ Exa Z h r "java/lang/String" ∧ Fld Z h r "java/lang/String" "value" "[B" (.ref t) ∧ Fld Z h r "java/lang/String" "coder" "B" (.int (0 : Int32)) ∧ ArF Z h t kb .byte 4 (fun i => ((fun i => ([q0, q1, q2, q3] : List Int32).getD i (0 : Int32)) i).toInt8.toInt32)) := by
  refine MetW.walk (plainFor_of_name pn_1) ?_
  intro p e s m below meth c s₁ hx hZ hby hml hown hnm hret hlk C0 hS0 X0 e0
  have N0 := Fr.nil n0
  refine WinW.to s₁ (mkF m 0 #[.val (.int (4 : Int32)), .val (.ref c1)] []) (fun _ k => castTop (by first | (simp [entryFrame, mkF, argsToLocals, Value.category]; done) | rfl) k) ?_
  refine WinW.to s₁ (mkF m 1 #[.val (.int (4 : Int32)), .val (.ref c1)] [(.int (4 : Int32))]) (fun _ k => XS.iloadN X0.here hx rfl (hb hby d1_0) rfl k) ?_
  refine WinW.to s₁ (mkF m 15 #[.val (.int (4 : Int32)), .val (.ref c1)] []) (fun _ k => XS.ifYes X0.here hx rfl (pc0 := 1) (pc' := 15) rfl (hb hby d1_1) rfl ((if0 _ _).trans (feq (show ¬ ((4 : Int32) = (0 : Int32)) from by decide)).2) (by decide) (by decide) k) ?_
  refine WinW.to s₁ (mkF m 16 #[.val (.int (4 : Int32)), .val (.ref c1)] [(.int (4 : Int32))]) (fun _ k => XS.iloadN X0.here hx rfl (hb hby d1_15) rfl k) ?_
  refine WinW.to s₁ (mkF m 17 #[.val (.int (4 : Int32)), .val (.ref c1)] [(.int (1 : Int32)), (.int (4 : Int32))]) (fun _ k => XS.iconst X0.here hx rfl (hb hby d1_16) k) ?_
  refine WinW.to s₁ (mkF m 37 #[.val (.int (4 : Int32)), .val (.ref c1)] []) (fun _ k => XS.icmpYes X0.here hx rfl (pc0 := 17) (pc' := 37) rfl (hb hby d1_17) rfl (feq (show ¬ ((4 : Int32) = (1 : Int32)) from by decide)).2 (by decide) (by decide) k) ?_
  refine WinW.to s₁ (mkF m 38 #[.val (.int (4 : Int32)), .val (.ref c1)] [(.int (4 : Int32))]) (fun _ k => XS.iloadN X0.here hx rfl (hb hby d1_37) rfl k) ?_
  refine WinW.to s₁ (mkF m 39 #[.val (.int (4 : Int32)), .val (.ref c1)] [(.int (2 : Int32)), (.int (4 : Int32))]) (fun _ k => XS.iconst X0.here hx rfl (hb hby d1_38) k) ?_
  refine WinW.to s₁ (mkF m 65 #[.val (.int (4 : Int32)), .val (.ref c1)] []) (fun _ k => XS.icmpYes X0.here hx rfl (pc0 := 39) (pc' := 65) rfl (hb hby d1_39) rfl (feq (show ¬ ((4 : Int32) = (2 : Int32)) from by decide)).2 (by decide) (by decide) k) ?_
  refine WinW.to s₁ (mkF m 66 #[.val (.int (4 : Int32)), .val (.ref c1)] [(.int (4 : Int32))]) (fun _ k => XS.iloadN X0.here hx rfl (hb hby d1_65) rfl k) ?_
  refine WinW.to s₁ (mkF m 67 #[.val (.int (4 : Int32)), .val (.ref c1)] [(.int (3 : Int32)), (.int (4 : Int32))]) (fun _ k => XS.iconst X0.here hx rfl (hb hby d1_66) k) ?_
  refine WinW.to s₁ (mkF m 99 #[.val (.int (4 : Int32)), .val (.ref c1)] []) (fun _ k => XS.icmpYes X0.here hx rfl (pc0 := 67) (pc' := 99) rfl (hb hby d1_67) rfl (feq (show ¬ ((4 : Int32) = (3 : Int32)) from by decide)).2 (by decide) (by decide) k) ?_
  obtain ⟨T611, h611, X611, e611, E611, A611, D611, -, st611⟩ := newO X0 hx hZ hown (wk hw 6 rfl) (wk hw 7 rfl) (wk hw 8 rfl) e0 (g := (mkF m 99 #[.val (.int (4 : Int32)), .val (.ref c1)] [])) rfl (hb hby d1_99) (by decide) (by decide)
  obtain ⟨b611, g611⟩ : ∃ z, z = h0.size := ⟨_, rfl⟩
  rw [← g611] at A611 D611 st611
  have ne612 : c1 ≠ b611 := Nat.ne_of_lt (Nat.lt_of_lt_of_le Fc.lt (Nat.le_of_eq g611.symm))
  have g613 : n0 ≤ b611 := Nat.le_trans (own_le O0) (Nat.le_of_eq g611.symm)
  have z614 : h0.size ≤ b611 := (Nat.le_of_eq g611.symm)
  have O615 := Old.ext O0 E611
  have K616 : Keep h0 h611 [] := (Keep.refl h0 []).ext E611
  have c617 := CHr.ext E611 C0.1
  have C618 := CHr.trans C0 c617
  have F619 : Fld Z h611 b611 "java/lang/String" "value" "[B" .null := D611 (Or.inr (wk hw 21 rfl)) (ty := (.array .byte)) (by decide)
  have F620 : Fld Z h611 b611 "java/lang/String" "coder" "B" (.int (0 : Int32)) := D611 (Or.inr (wk hw 22 rfl)) (ty := .byte) (by decide)
  refine WinW.to T611 (mkF m 102 #[.val (.int (4 : Int32)), .val (.ref c1)] [(.ref b611)]) (fun _ k => st611 _ k) ?_
  refine WinW.to T611 (mkF m 103 #[.val (.int (4 : Int32)), .val (.ref c1)] [(.ref b611), (.ref b611)]) (fun _ k => XS.dup X611.here hx rfl (hb hby d1_102) rfl rfl k) ?_
  refine WinW.to T611 (mkF m 104 #[.val (.int (4 : Int32)), .val (.ref c1)] [(.int (4 : Int32)), (.ref b611), (.ref b611)]) (fun _ k => XS.iconst X611.here hx rfl (hb hby d1_103) k) ?_
  obtain ⟨T621, h621, k621, X621, e621, E621, A621, st621⟩ := newP X611 hx hZ (wk hw 1 rfl) e611 (g := (mkF m 104 #[.val (.int (4 : Int32)), .val (.ref c1)] [(.int (4 : Int32)), (.ref b611), (.ref b611)])) rfl (hb hby d1_104) rfl (by decide) (cap := 4) (by decide) (by decide) (by decide) (by decide)
  obtain ⟨b621, g621⟩ : ∃ z, z = h611.size := ⟨_, rfl⟩
  rw [← g621] at A621 st621
  have F622 : Arv Z h611 c1 kc .char (4 : Int32) [(.int q0), (.int q1), (.int q2), (.int q3)] (.int (0 : Int32)) := (Fc.ext E611)
  have ne623 : c1 ≠ b621 := Nat.ne_of_lt (Nat.lt_of_lt_of_le F622.lt (Nat.le_of_eq g621.symm))
  have ne624 : b611 ≠ b621 := Nat.ne_of_lt (Nat.lt_of_lt_of_le A611.lt (Nat.le_of_eq g621.symm))
  have g625 : n0 ≤ b621 := Nat.le_trans (own_le O615) (Nat.le_of_eq g621.symm)
  have z626 : h0.size ≤ b621 := Nat.le_trans K616.1 (Nat.le_of_eq g621.symm)
  have O627 := Old.ext O615 E621
  have K628 : Keep h0 h621 [] := K616.ext E621
  have c629 := CHr.ext E621 C618.1
  have C630 := CHr.trans C618 c629
  have F631 : Arv Z h621 b621 k621 .char (4 : Int32) [(.int (0 : Int32)), (.int (0 : Int32)), (.int (0 : Int32)), (.int (0 : Int32))] (.int (0 : Int32)) := (Arv.new A621 (by decide)).pad (pad_rep [] (.int (0 : Int32)) 4)
  refine WinW.to T621 (mkF m 106 #[.val (.int (4 : Int32)), .val (.ref c1)] [(.ref b621), (.ref b611), (.ref b611)]) (fun _ k => st621 _ k) ?_
  refine WinW.to T621 (mkF m 107 #[.val (.int (4 : Int32)), .val (.ref c1)] [(.ref b621), (.ref b621), (.ref b611), (.ref b611)]) (fun _ k => XS.dup X621.here hx rfl (hb hby d1_106) rfl rfl k) ?_
  refine WinW.to T621 (mkF m 108 #[.val (.int (4 : Int32)), .val (.ref c1)] [(.int (0 : Int32)), (.ref b621), (.ref b621), (.ref b611), (.ref b611)]) (fun _ k => XS.iconst X621.here hx rfl (hb hby d1_107) k) ?_
  refine WinW.to T621 (mkF m 109 #[.val (.int (4 : Int32)), .val (.ref c1)] [(.ref c1), (.int (0 : Int32)), (.ref b621), (.ref b621), (.ref b611), (.ref b611)]) (fun _ k => XS.aloadN X621.here hx rfl (hb hby d1_108) rfl rfl k) ?_
  refine WinW.to T621 (mkF m 110 #[.val (.int (4 : Int32)), .val (.ref c1)] [(.int (0 : Int32)), (.ref c1), (.int (0 : Int32)), (.ref b621), (.ref b621), (.ref b611), (.ref b611)]) (fun _ k => XS.iconst X621.here hx rfl (hb hby d1_109) k) ?_
  have F632 : Arv Z h621 c1 kc .char (4 : Int32) [(.int q0), (.int q1), (.int q2), (.int q3)] (.int (0 : Int32)) := (F622.ext E621)
  obtain ⟨cl633, Ar633, q633, S633, N633, H633, G633⟩ := id F632
  have hi633 : ¬ ((0 : Int32) < 0 ∨ cl633.slots.size ≤ ((0 : Int32)).toNatClampNeg) := inb_of S633 ⟨by decide, by decide⟩
  refine WinW.to T621 (mkF m 111 #[.val (.int (4 : Int32)), .val (.ref c1)] [(.int q0), (.int (0 : Int32)), (.ref b621), (.ref b621), (.ref b611), (.ref b611)]) (fun _ k => X621.caload hx (j := (0 : Int32)) (v := (.int q0)) (by rw [e621]; exact Ar633.1) (State.isArrayOf_alike hZ.alike Ar633.2.1) Ar633.2.2 hi633 (Has.at H633 hi633 rfl) (g := (mkF m 110 #[.val (.int (4 : Int32)), .val (.ref c1)] [(.int (0 : Int32)), (.ref c1), (.int (0 : Int32)), (.ref b621), (.ref b621), (.ref b611), (.ref b611)])) rfl rfl (hb hby d1_110) _ k) ?_
  obtain ⟨cl634, Ar634, q634, S634, N634, H634, G634⟩ := id F631
  have hi634 : ¬ ((0 : Int32) < 0 ∨ cl634.slots.size ≤ ((0 : Int32)).toNatClampNeg) := inb_of S634 ⟨by decide, by decide⟩
  obtain ⟨T635, h635, X635, e635, W635, st635⟩ := stC X621 hx hZ e621 Ar634 (j := (0 : Int32)) hi634 (g := (mkF m 111 #[.val (.int (4 : Int32)), .val (.ref c1)] [(.int q0), (.int (0 : Int32)), (.ref b621), (.ref b621), (.ref b611), (.ref b611)])) rfl rfl (hb hby d1_111)
  have O637 := Old.wr O627 W635 g625
  have K638 : Keep h0 h635 [] := K628.wr W635 (Or.inr z626)
  have N639 := Fr.snoc X635 N0 g625
  have c640 := CHr.wr W635 (Safe.arv hZ.alike F631 (by decide)) C630.1
  have C641 := CHr.trans C630 c640
  have eq635 : nar .char q0 = q0 := hcq0
  have W635 := eq635 ▸ W635
  have F636 : Arv Z h635 b621 k621 .char (4 : Int32) [(.int q0), (.int (0 : Int32)), (.int (0 : Int32)), (.int (0 : Int32))] (.int (0 : Int32)) := Arv.set Ar634 q634 S634 N634 H634 G634 (eq635 ▸ (fits_nar_char _)) W635 0 rfl (Nat.le_of_ble_eq_true rfl)
  refine WinW.to T635 (mkF m 112 #[.val (.int (4 : Int32)), .val (.ref c1)] [(.ref b621), (.ref b611), (.ref b611)]) (fun _ k => st635 _ k) ?_
  refine WinW.to T635 (mkF m 113 #[.val (.int (4 : Int32)), .val (.ref c1)] [(.ref b621), (.ref b621), (.ref b611), (.ref b611)]) (fun _ k => XS.dup X635.here hx rfl (hb hby d1_112) rfl rfl k) ?_
  refine WinW.to T635 (mkF m 114 #[.val (.int (4 : Int32)), .val (.ref c1)] [(.int (1 : Int32)), (.ref b621), (.ref b621), (.ref b611), (.ref b611)]) (fun _ k => XS.iconst X635.here hx rfl (hb hby d1_113) k) ?_
  refine WinW.to T635 (mkF m 115 #[.val (.int (4 : Int32)), .val (.ref c1)] [(.ref c1), (.int (1 : Int32)), (.ref b621), (.ref b621), (.ref b611), (.ref b611)]) (fun _ k => XS.aloadN X635.here hx rfl (hb hby d1_114) rfl rfl k) ?_
  refine WinW.to T635 (mkF m 116 #[.val (.int (4 : Int32)), .val (.ref c1)] [(.int (1 : Int32)), (.ref c1), (.int (1 : Int32)), (.ref b621), (.ref b621), (.ref b611), (.ref b611)]) (fun _ k => XS.iconst X635.here hx rfl (hb hby d1_115) k) ?_
  have F642 : Arv Z h635 c1 kc .char (4 : Int32) [(.int q0), (.int q1), (.int q2), (.int q3)] (.int (0 : Int32)) := (F632.other W635 ne623)
  obtain ⟨cl643, Ar643, q643, S643, N643, H643, G643⟩ := id F642
  have hi643 : ¬ ((1 : Int32) < 0 ∨ cl643.slots.size ≤ ((1 : Int32)).toNatClampNeg) := inb_of S643 ⟨by decide, by decide⟩
  refine WinW.to T635 (mkF m 117 #[.val (.int (4 : Int32)), .val (.ref c1)] [(.int q1), (.int (1 : Int32)), (.ref b621), (.ref b621), (.ref b611), (.ref b611)]) (fun _ k => X635.caload hx (j := (1 : Int32)) (v := (.int q1)) (by rw [e635]; exact Ar643.1) (State.isArrayOf_alike hZ.alike Ar643.2.1) Ar643.2.2 hi643 (Has.at H643 hi643 rfl) (g := (mkF m 116 #[.val (.int (4 : Int32)), .val (.ref c1)] [(.int (1 : Int32)), (.ref c1), (.int (1 : Int32)), (.ref b621), (.ref b621), (.ref b611), (.ref b611)])) rfl rfl (hb hby d1_116) _ k) ?_
  obtain ⟨cl644, Ar644, q644, S644, N644, H644, G644⟩ := id F636
  have hi644 : ¬ ((1 : Int32) < 0 ∨ cl644.slots.size ≤ ((1 : Int32)).toNatClampNeg) := inb_of S644 ⟨by decide, by decide⟩
  obtain ⟨T645, h645, X645, e645, W645, st645⟩ := stC X635 hx hZ e635 Ar644 (j := (1 : Int32)) hi644 (g := (mkF m 117 #[.val (.int (4 : Int32)), .val (.ref c1)] [(.int q1), (.int (1 : Int32)), (.ref b621), (.ref b621), (.ref b611), (.ref b611)])) rfl rfl (hb hby d1_117)
  have O647 := Old.wr O637 W645 g625
  have K648 : Keep h0 h645 [] := K638.wr W645 (Or.inr z626)
  have N649 := Fr.snoc X645 N639 g625
  have c650 := CHr.wr W645 (Safe.arv hZ.alike F636 (by decide)) C641.1
  have C651 := CHr.trans C641 c650
  have eq645 : nar .char q1 = q1 := hcq1
  have W645 := eq645 ▸ W645
  have F646 : Arv Z h645 b621 k621 .char (4 : Int32) [(.int q0), (.int q1), (.int (0 : Int32)), (.int (0 : Int32))] (.int (0 : Int32)) := Arv.set Ar644 q644 S644 N644 H644 G644 (eq645 ▸ (fits_nar_char _)) W645 1 rfl (Nat.le_of_ble_eq_true rfl)
  refine WinW.to T645 (mkF m 118 #[.val (.int (4 : Int32)), .val (.ref c1)] [(.ref b621), (.ref b611), (.ref b611)]) (fun _ k => st645 _ k) ?_
  refine WinW.to T645 (mkF m 119 #[.val (.int (4 : Int32)), .val (.ref c1)] [(.ref b621), (.ref b621), (.ref b611), (.ref b611)]) (fun _ k => XS.dup X645.here hx rfl (hb hby d1_118) rfl rfl k) ?_
  refine WinW.to T645 (mkF m 120 #[.val (.int (4 : Int32)), .val (.ref c1)] [(.int (2 : Int32)), (.ref b621), (.ref b621), (.ref b611), (.ref b611)]) (fun _ k => XS.iconst X645.here hx rfl (hb hby d1_119) k) ?_
  refine WinW.to T645 (mkF m 121 #[.val (.int (4 : Int32)), .val (.ref c1)] [(.ref c1), (.int (2 : Int32)), (.ref b621), (.ref b621), (.ref b611), (.ref b611)]) (fun _ k => XS.aloadN X645.here hx rfl (hb hby d1_120) rfl rfl k) ?_
  refine WinW.to T645 (mkF m 122 #[.val (.int (4 : Int32)), .val (.ref c1)] [(.int (2 : Int32)), (.ref c1), (.int (2 : Int32)), (.ref b621), (.ref b621), (.ref b611), (.ref b611)]) (fun _ k => XS.iconst X645.here hx rfl (hb hby d1_121) k) ?_
  have F652 : Arv Z h645 c1 kc .char (4 : Int32) [(.int q0), (.int q1), (.int q2), (.int q3)] (.int (0 : Int32)) := (F642.other W645 ne623)
  obtain ⟨cl653, Ar653, q653, S653, N653, H653, G653⟩ := id F652
  have hi653 : ¬ ((2 : Int32) < 0 ∨ cl653.slots.size ≤ ((2 : Int32)).toNatClampNeg) := inb_of S653 ⟨by decide, by decide⟩
  refine WinW.to T645 (mkF m 123 #[.val (.int (4 : Int32)), .val (.ref c1)] [(.int q2), (.int (2 : Int32)), (.ref b621), (.ref b621), (.ref b611), (.ref b611)]) (fun _ k => X645.caload hx (j := (2 : Int32)) (v := (.int q2)) (by rw [e645]; exact Ar653.1) (State.isArrayOf_alike hZ.alike Ar653.2.1) Ar653.2.2 hi653 (Has.at H653 hi653 rfl) (g := (mkF m 122 #[.val (.int (4 : Int32)), .val (.ref c1)] [(.int (2 : Int32)), (.ref c1), (.int (2 : Int32)), (.ref b621), (.ref b621), (.ref b611), (.ref b611)])) rfl rfl (hb hby d1_122) _ k) ?_
  obtain ⟨cl654, Ar654, q654, S654, N654, H654, G654⟩ := id F646
  have hi654 : ¬ ((2 : Int32) < 0 ∨ cl654.slots.size ≤ ((2 : Int32)).toNatClampNeg) := inb_of S654 ⟨by decide, by decide⟩
  obtain ⟨T655, h655, X655, e655, W655, st655⟩ := stC X645 hx hZ e645 Ar654 (j := (2 : Int32)) hi654 (g := (mkF m 123 #[.val (.int (4 : Int32)), .val (.ref c1)] [(.int q2), (.int (2 : Int32)), (.ref b621), (.ref b621), (.ref b611), (.ref b611)])) rfl rfl (hb hby d1_123)
  have O657 := Old.wr O647 W655 g625
  have K658 : Keep h0 h655 [] := K648.wr W655 (Or.inr z626)
  have N659 := Fr.snoc X655 N649 g625
  have c660 := CHr.wr W655 (Safe.arv hZ.alike F646 (by decide)) C651.1
  have C661 := CHr.trans C651 c660
  have eq655 : nar .char q2 = q2 := hcq2
  have W655 := eq655 ▸ W655
  have F656 : Arv Z h655 b621 k621 .char (4 : Int32) [(.int q0), (.int q1), (.int q2), (.int (0 : Int32))] (.int (0 : Int32)) := Arv.set Ar654 q654 S654 N654 H654 G654 (eq655 ▸ (fits_nar_char _)) W655 2 rfl (Nat.le_of_ble_eq_true rfl)
  refine WinW.to T655 (mkF m 124 #[.val (.int (4 : Int32)), .val (.ref c1)] [(.ref b621), (.ref b611), (.ref b611)]) (fun _ k => st655 _ k) ?_
  refine WinW.to T655 (mkF m 125 #[.val (.int (4 : Int32)), .val (.ref c1)] [(.ref b621), (.ref b621), (.ref b611), (.ref b611)]) (fun _ k => XS.dup X655.here hx rfl (hb hby d1_124) rfl rfl k) ?_
  refine WinW.to T655 (mkF m 126 #[.val (.int (4 : Int32)), .val (.ref c1)] [(.int (3 : Int32)), (.ref b621), (.ref b621), (.ref b611), (.ref b611)]) (fun _ k => XS.iconst X655.here hx rfl (hb hby d1_125) k) ?_
  refine WinW.to T655 (mkF m 127 #[.val (.int (4 : Int32)), .val (.ref c1)] [(.ref c1), (.int (3 : Int32)), (.ref b621), (.ref b621), (.ref b611), (.ref b611)]) (fun _ k => XS.aloadN X655.here hx rfl (hb hby d1_126) rfl rfl k) ?_
  refine WinW.to T655 (mkF m 128 #[.val (.int (4 : Int32)), .val (.ref c1)] [(.int (3 : Int32)), (.ref c1), (.int (3 : Int32)), (.ref b621), (.ref b621), (.ref b611), (.ref b611)]) (fun _ k => XS.iconst X655.here hx rfl (hb hby d1_127) k) ?_
  have F662 : Arv Z h655 c1 kc .char (4 : Int32) [(.int q0), (.int q1), (.int q2), (.int q3)] (.int (0 : Int32)) := (F652.other W655 ne623)
  obtain ⟨cl663, Ar663, q663, S663, N663, H663, G663⟩ := id F662
  have hi663 : ¬ ((3 : Int32) < 0 ∨ cl663.slots.size ≤ ((3 : Int32)).toNatClampNeg) := inb_of S663 ⟨by decide, by decide⟩
  refine WinW.to T655 (mkF m 129 #[.val (.int (4 : Int32)), .val (.ref c1)] [(.int q3), (.int (3 : Int32)), (.ref b621), (.ref b621), (.ref b611), (.ref b611)]) (fun _ k => X655.caload hx (j := (3 : Int32)) (v := (.int q3)) (by rw [e655]; exact Ar663.1) (State.isArrayOf_alike hZ.alike Ar663.2.1) Ar663.2.2 hi663 (Has.at H663 hi663 rfl) (g := (mkF m 128 #[.val (.int (4 : Int32)), .val (.ref c1)] [(.int (3 : Int32)), (.ref c1), (.int (3 : Int32)), (.ref b621), (.ref b621), (.ref b611), (.ref b611)])) rfl rfl (hb hby d1_128) _ k) ?_
  obtain ⟨cl664, Ar664, q664, S664, N664, H664, G664⟩ := id F656
  have hi664 : ¬ ((3 : Int32) < 0 ∨ cl664.slots.size ≤ ((3 : Int32)).toNatClampNeg) := inb_of S664 ⟨by decide, by decide⟩
  obtain ⟨T665, h665, X665, e665, W665, st665⟩ := stC X655 hx hZ e655 Ar664 (j := (3 : Int32)) hi664 (g := (mkF m 129 #[.val (.int (4 : Int32)), .val (.ref c1)] [(.int q3), (.int (3 : Int32)), (.ref b621), (.ref b621), (.ref b611), (.ref b611)])) rfl rfl (hb hby d1_129)
  have O667 := Old.wr O657 W665 g625
  have K668 : Keep h0 h665 [] := K658.wr W665 (Or.inr z626)
  have N669 := Fr.snoc X665 N659 g625
  have c670 := CHr.wr W665 (Safe.arv hZ.alike F656 (by decide)) C661.1
  have C671 := CHr.trans C661 c670
  have eq665 : nar .char q3 = q3 := hcq3
  have W665 := eq665 ▸ W665
  have F666 : Arv Z h665 b621 k621 .char (4 : Int32) [(.int q0), (.int q1), (.int q2), (.int q3)] (.int (0 : Int32)) := Arv.set Ar664 q664 S664 N664 H664 G664 (eq665 ▸ (fits_nar_char _)) W665 3 rfl (Nat.le_of_ble_eq_true rfl)
  refine WinW.to T665 (mkF m 130 #[.val (.int (4 : Int32)), .val (.ref c1)] [(.ref b621), (.ref b611), (.ref b611)]) (fun _ k => st665 _ k) ?_
  have F672 : ArF Z h665 b621 k621 .char 4 (fun i => ([q0, q1, q2, q3] : List Int32).getD i (0 : Int32)) := own_arf [q0, q1, q2, q3] F666 rfl
  have F673 : Exa Z h665 b611 "java/lang/String" := (Exa.wr W665 (Exa.wr W655 (Exa.wr W645 (Exa.wr W635 (Exa.ext E621 A611)))))
  have F674 : Fld Z h665 b611 "java/lang/String" "value" "[B" .null := (Fld.other W665 (Fld.other W655 (Fld.other W645 (Fld.other W635 (Fld.ext E621 F619) (Or.inl ne624)) (Or.inl ne624)) (Or.inl ne624)) (Or.inl ne624))
  have F675 : Fld Z h665 b611 "java/lang/String" "coder" "B" (.int (0 : Int32)) := (Fld.other W665 (Fld.other W655 (Fld.other W645 (Fld.other W635 (Fld.ext E621 F620) (Or.inl ne624)) (Or.inl ne624)) (Or.inl ne624)) (Or.inl ne624))
  obtain ⟨T676, h676, v676, L676, k676, X676, e676, hS676, hk676, hZ676, hown676, ⟨t_676, kb_676, rfl, N676q, r676_0, r676_1, r676_2, r676_3⟩, c676, st676⟩ := W.special X665 hS0 (Nat.zero_le _) hx hZ (y := (⟨"java/lang/String", "<init>", "([C)V"⟩ : MethodName)) rfl hown (wk hw 9 rfl) (wk hw 10 rfl) (wk hw 8 rfl) (wk hw 11 rfl) (by decide) (ctor1 l Z a0 hw b611 b621 k621 4 (fun i => ([q0, q1, q2, q3] : List Int32).getD i (0 : Int32)) cs h665 n0 O667 F673 F674 F675 F672 ((fun i hi => by
    match i, hi with
    | 0, _ => exact hlq0
    | 1, _ => exact hlq1
    | 2, _ => exact hlq2
    | 3, _ => exact hlq3)) (by decide) g613 S_CS hcs) (own_EW hw) C671.1 e665 (g := (mkF m 130 #[.val (.int (4 : Int32)), .val (.ref c1)] [(.ref b621), (.ref b611), (.ref b611)])) rfl (by rw [hml]; rfl) (a := b611) (argsL := [(.ref b621)]) (rest := [(.ref b611)]) rfl (lenOf pd___C_V rfl) rfl (W := 1) (by show 2 * 0 + _ ≤ _; exact Nat.le_of_eq rfl) (hb hby d1_130) (by decide) (by decide) (by decide) (by decide)
  have N677 := Fr.app N669 N676q
  have O678 := Old.keep O667 r676_0 (allS g613 all0)
  have K679 : Keep h0 h676 [] := Keep.trans K668 r676_0 (allS (Or.inr z614) all0)
  have c680 := c676
  have C681 := CHr.trans C671 c680
  refine WinW.to T676 (mkF m 133 #[.val (.int (4 : Int32)), .val (.ref c1)] [(.ref b611)]) (fun _ k => st676 _ k) ?_
  have F682 : Exa Z h676 b611 "java/lang/String" := (F673.keep r676_0)
  exact WinW.retA X676 hS676 (by rw [e676]; exact hk676) hx hlk hret rfl rfl (hb hby d1_133) hZ676 (own_EW hw) (by rw [e676]; exact C681) (by decide) (by decide) (by (try rw [e676]); exact ⟨b611, t_676, kb_676, rfl, N677, K679, F682, r676_1, r676_2, r676_3⟩)
abbrev R_same : Room := ⟨4, 0, 0, 53⟩
set_option maxRecDepth 65536 in
set_option maxHeartbeats 40000000 in
theorem same (l : Launch) (Z : State) (a0 : Array Value) (hw : ∀ d ∈ tables_1, d.before a0 Z = true) (a1 : Addr) (t1 : Addr) (k1 : ClassId) (m1 : Nat) (gf : Nat → Int32) (c1 : Addr) (kc : ClassId) (cf : Nat → Int32) (i : Nat) (st : Nat) (n : Nat) (cs : Int32) (x1 : Value) (h0 : Heap) (n0 : Nat) (O0 : Old Z n0 h0) (E1 : Exa Z h0 a1 "java/lang/String") (F1 : Fld Z h0 a1 "java/lang/String" "value" "[B" (.ref t1)) (F2 : Fld Z h0 a1 "java/lang/String" "coder" "B" (.int (0 : Int32))) (Fa : ArF Z h0 t1 k1 .byte m1 gf) (Fc : ArF Z h0 c1 kc .char 4 cf) (hm1 : m1 = n - st) (hn4 : n ≤ 4) (hi4 : i ≤ 4) (hst : st ≤ 4) (heq : ∀ i, i < m1 → ((gf i) &&& (255 : Int32)) = cf (st + i)) (S_CS : Sta Z Z.heap "java/lang/String" "COMPACT_STRINGS" "Z" (.int cs)) (hcs : ¬ (cs = (0 : Int32))) (S_SI : Sta Z Z.heap "jdk/internal/util/Preconditions" "SIOOBE_FORMATTER" "Ljava/util/function/BiFunction;" x1) (hx1 : x1.isRef = true) :
    MetN l Z (⟨"com/example/grantgate/grantgate/server/HeadVersionPinLaw", "same", "(Ljava/lang/String;I[CII)Z"⟩ : MethodName) method_3_code 6 (some .boolean) R_same [] #[(.ref a1), (.int i.toInt32), (.ref c1), (.int st.toInt32), (.int n.toInt32)] h0 (fun v h L => v = some (.int (1 : Int32)) ∧ Fr n0 L ∧ h = h0) := by
  refine MetN.walk (plainFor_of_name pn_23) ?_
  intro p e s m below meth c s₁ hx hZ hby hml hown hnm hret hlk X0 e0
  have N0 := Fr.nil n0
  refine Win.to s₁ (mkF m 0 #[.val (.ref a1), .val (.int i.toInt32), .val (.ref c1), .val (.int st.toInt32), .val (.int n.toInt32), .unset] []) (fun _ k => castTop (by first | (simp [entryFrame, mkF, argsToLocals, Value.category]; done) | rfl) k) ?_
  have hsi : st + i < 2 ^ 31 := by omega
  have hn2 : n < 2 ^ 31 := by omega
  refine Win.to s₁ (mkF m 1 #[.val (.ref a1), .val (.int i.toInt32), .val (.ref c1), .val (.int st.toInt32), .val (.int n.toInt32), .unset] [(.int st.toInt32)]) (fun _ k => XS.iloadN X0.here hx rfl (hb hby d23_0) rfl k) ?_
  refine Win.to s₁ (mkF m 2 #[.val (.ref a1), .val (.int i.toInt32), .val (.ref c1), .val (.int st.toInt32), .val (.int n.toInt32), .unset] [(.int i.toInt32), (.int st.toInt32)]) (fun _ k => XS.iloadN X0.here hx rfl (hb hby d23_1) rfl k) ?_
  refine Win.to s₁ (mkF m 3 #[.val (.ref a1), .val (.int i.toInt32), .val (.ref c1), .val (.int st.toInt32), .val (.int n.toInt32), .unset] [(.int (st + i).toInt32)]) (fun _ k => XS.iadd X0.here hx rfl (hb hby d23_2) rfl (by rw [show (st.toInt32 + i.toInt32) = (st + i).toInt32 from own_add hsi]; exact k)) ?_
  refine Win.to s₁ (mkF m 5 #[.val (.ref a1), .val (.int i.toInt32), .val (.ref c1), .val (.int st.toInt32), .val (.int n.toInt32), .val (.int (st + i).toInt32)] []) (fun _ k => XS.istore X0.here hx rfl (hb hby d23_3) rfl (l' := #[.val (.ref a1), .val (.int i.toInt32), .val (.ref c1), .val (.int st.toInt32), .val (.int n.toInt32), .val (.int (st + i).toInt32)]) rfl k) ?_
  refine Win.to s₁ (mkF m 7 #[.val (.ref a1), .val (.int i.toInt32), .val (.ref c1), .val (.int st.toInt32), .val (.int n.toInt32), .val (.int (st + i).toInt32)] [(.int (st + i).toInt32)]) (fun _ k => XS.iload X0.here hx rfl (hb hby d23_5) rfl k) ?_
  refine Win.to s₁ (mkF m 9 #[.val (.ref a1), .val (.int i.toInt32), .val (.ref c1), .val (.int st.toInt32), .val (.int n.toInt32), .val (.int (st + i).toInt32)] [(.int n.toInt32), (.int (st + i).toInt32)]) (fun _ k => XS.iload X0.here hx rfl (hb hby d23_7) rfl k) ?_
  by_cases hc683 : (st + i).toInt32 < n.toInt32
  · refine Win.to s₁ (mkF m 14 #[.val (.ref a1), .val (.int i.toInt32), .val (.ref c1), .val (.int st.toInt32), .val (.int n.toInt32), .val (.int (st + i).toInt32)] []) (fun _ k => XS.icmpYes X0.here hx rfl (pc0 := 9) (pc' := 14) rfl (hb hby d23_9) rfl (tlt hc683).1 (by decide) (by decide) k) ?_
    have hlt : st + i < n := (own_lt hsi hn2).mp hc683
    have hi1 : i < m1 := by omega
    refine Win.to s₁ (mkF m 15 #[.val (.ref a1), .val (.int i.toInt32), .val (.ref c1), .val (.int st.toInt32), .val (.int n.toInt32), .val (.int (st + i).toInt32)] [(.ref a1)]) (fun _ k => XS.aloadN X0.here hx rfl (hb hby d23_14) rfl rfl k) ?_
    refine Win.to s₁ (mkF m 16 #[.val (.ref a1), .val (.int i.toInt32), .val (.ref c1), .val (.int st.toInt32), .val (.int n.toInt32), .val (.int (st + i).toInt32)] [(.int i.toInt32), (.ref a1)]) (fun _ k => XS.iloadN X0.here hx rfl (hb hby d23_15) rfl k) ?_
    obtain ⟨T684, h684, v684, L684, X684, e684, ⟨rfl, N684q, r684_0⟩, st684⟩ := N.virtual X0 hx hZ (y := (⟨"java/lang/String", "charAt", "(I)C"⟩ : MethodName)) (z := (⟨"java/lang/String", "charAt", "(I)C"⟩ : MethodName)) hown (wk hw 164 rfl) (wk hw 165 rfl) (notFace_of_selects (args := #[]) (mvT hZ (wk hw 167 rfl))) (wk hw 167 rfl) (wk hw 166 rfl) (wk hw 8 rfl) (wk hw 168 rfl) (by decide) (chAt l Z a0 hw a1 t1 k1 m1 gf i cs x1 h0 n0 O0 E1 F1 F2 Fa hi1 S_CS hcs S_SI hx1) e0 E1 (g := (mkF m 16 #[.val (.ref a1), .val (.int i.toInt32), .val (.ref c1), .val (.int st.toInt32), .val (.int n.toInt32), .val (.int (st + i).toInt32)] [(.int i.toInt32), (.ref a1)])) rfl (by rw [hml]; rfl) (argsL := [(.int i.toInt32)]) (rest := []) rfl (lenOf pd__I_C rfl) rfl (W := 0) (by show 2 * 0 + _ ≤ _; exact Nat.le_of_eq rfl) (hb hby d23_16) (by decide) (by decide) (by decide) (by decide)
    have N685 := Fr.app N0 N684q
    have e684 := e684.trans r684_0
    refine Win.to T684 (mkF m 19 #[.val (.ref a1), .val (.int i.toInt32), .val (.ref c1), .val (.int st.toInt32), .val (.int n.toInt32), .val (.int (st + i).toInt32)] [(.int ((gf i) &&& (255 : Int32)))]) (fun _ k => st684 _ k) ?_
    refine Win.to T684 (mkF m 20 #[.val (.ref a1), .val (.int i.toInt32), .val (.ref c1), .val (.int st.toInt32), .val (.int n.toInt32), .val (.int (st + i).toInt32)] [(.ref c1), (.int ((gf i) &&& (255 : Int32)))]) (fun _ k => XS.aloadN X684.here hx rfl (hb hby d23_19) rfl rfl k) ?_
    refine Win.to T684 (mkF m 22 #[.val (.ref a1), .val (.int i.toInt32), .val (.ref c1), .val (.int st.toInt32), .val (.int n.toInt32), .val (.int (st + i).toInt32)] [(.int (st + i).toInt32), (.ref c1), (.int ((gf i) &&& (255 : Int32)))]) (fun _ k => XS.iload X684.here hx rfl (hb hby d23_20) rfl k) ?_
    obtain ⟨cl686, Ar686, hi686, ha686⟩ := ArF.at Fc (j := (st + i).toInt32) (i := (st + i)) (own_tn hsi).1 (own_tn hsi).2.1 (by omega)
    refine Win.to T684 (mkF m 23 #[.val (.ref a1), .val (.int i.toInt32), .val (.ref c1), .val (.int st.toInt32), .val (.int n.toInt32), .val (.int (st + i).toInt32)] [(.int (cf (st + i))), (.int ((gf i) &&& (255 : Int32)))]) (fun _ k => X684.caload hx (j := (st + i).toInt32) (v := (.int (cf (st + i)))) (by rw [e684]; exact Ar686.1) (State.isArrayOf_alike hZ.alike Ar686.2.1) Ar686.2.2 hi686 ha686 (g := (mkF m 22 #[.val (.ref a1), .val (.int i.toInt32), .val (.ref c1), .val (.int st.toInt32), .val (.int n.toInt32), .val (.int (st + i).toInt32)] [(.int (st + i).toInt32), (.ref c1), (.int ((gf i) &&& (255 : Int32)))])) rfl rfl (hb hby d23_22) _ k) ?_
    refine Win.to T684 (mkF m 26 #[.val (.ref a1), .val (.int i.toInt32), .val (.ref c1), .val (.int st.toInt32), .val (.int n.toInt32), .val (.int (st + i).toInt32)] []) (fun _ k => XS.icmpNo X684.here hx rfl (hb hby d23_23) rfl (teq (show ((gf i) &&& (255 : Int32)) = (cf (st + i)) from (heq i hi1))).2 k) ?_
    refine Win.to T684 (mkF m 27 #[.val (.ref a1), .val (.int i.toInt32), .val (.ref c1), .val (.int st.toInt32), .val (.int n.toInt32), .val (.int (st + i).toInt32)] [(.int (1 : Int32))]) (fun _ k => XS.iconst X684.here hx rfl (hb hby d23_26) k) ?_
    refine Win.to T684 (mkF m 31 #[.val (.ref a1), .val (.int i.toInt32), .val (.ref c1), .val (.int st.toInt32), .val (.int n.toInt32), .val (.int (st + i).toInt32)] [(.int (1 : Int32))]) (fun _ k => XS.goto X684.here hx rfl (pc0 := 27) (pc' := 31) rfl (hb hby d23_27) (by decide) (by decide) k) ?_
    exact Win.retN X684 hx hlk (t := .boolean) hret (by simp) rfl (hb hby d23_31) (by decide) (by decide) (by (try rw [e684]); exact ⟨rfl, N685, rfl⟩)
  · refine Win.to s₁ (mkF m 12 #[.val (.ref a1), .val (.int i.toInt32), .val (.ref c1), .val (.int st.toInt32), .val (.int n.toInt32), .val (.int (st + i).toInt32)] []) (fun _ k => XS.icmpNo X0.here hx rfl (hb hby d23_9) rfl (flt hc683).1 k) ?_
    refine Win.to s₁ (mkF m 13 #[.val (.ref a1), .val (.int i.toInt32), .val (.ref c1), .val (.int st.toInt32), .val (.int n.toInt32), .val (.int (st + i).toInt32)] [(.int (1 : Int32))]) (fun _ k => XS.iconst X0.here hx rfl (hb hby d23_12) k) ?_
    exact Win.retN X0 hx hlk (t := .boolean) hret (by simp) rfl (hb hby d23_13) (by decide) (by decide) (by (try rw [e0]); exact ⟨rfl, N0, rfl⟩)
set_option maxRecDepth 65536 in
set_option maxHeartbeats 40000000 in
theorem rm0 (l : Launch) (Z : State) (a0 : Array Value) (hw : ∀ d ∈ tables_1, d.before a0 Z = true) (ws : List Jvm.Cond) (p0 : Int32) (p1 : Int32) (p2 : Int32) (p3 : Int32) (cs : Int32) (x1 : Value) (x2 : Value) (h0 : Heap) (n0 : Nat) (O0 : Old Z n0 h0) (S_CS : Sta Z Z.heap "java/lang/String" "COMPACT_STRINGS" "Z" (.int cs)) (hcs : ¬ (cs = (0 : Int32))) (S_SI : Sta Z Z.heap "jdk/internal/util/Preconditions" "SIOOBE_FORMATTER" "Ljava/util/function/BiFunction;" x1) (hx1 : x1.isRef = true) (S_DE : Sta Z Z.heap "java/util/ArrayList" "DEFAULTCAPACITY_EMPTY_ELEMENTDATA" "[Ljava/lang/Object;" x2) (hx2 : x2.isRef = true) :
    MetW l Z x code maxLocals ret room_1 ws #[(.int p0), (.int p1), (.int p2), (.int p3)] h0 EL1 (fun v h L => v = some (.int (1 : Int32)) ∧ Fr n0 L ∧ (True)) := by
  refine MetW.walk (plainFor_of_name pn_0) ?_
  intro p e s m below meth c s₁ hx hZ hby hml hown hnm hret hlk C0 hS0 X0 e0
  have N0 := Fr.nil n0
  refine WinW.to s₁ (mkF m 0 #[.val (.int p0), .val (.int p1), .val (.int p2), .val (.int p3), .unset, .unset, .unset, .unset, .unset, .unset, .unset] []) (fun _ k => castTop (by first | (simp [entryFrame, mkF, argsToLocals, Value.category, maxLocals]; done) | rfl) k) ?_
  refine WinW.to s₁ (mkF m 1 #[.val (.int p0), .val (.int p1), .val (.int p2), .val (.int p3), .unset, .unset, .unset, .unset, .unset, .unset, .unset] [(.int p0)]) (fun _ k => XS.iloadN X0.here hx rfl (hb hby at_0) rfl k) ?_
  refine WinW.to s₁ (mkF m 3 #[.val (.int p0), .val (.int p1), .val (.int p2), .val (.int p3), .unset, .unset, .unset, .unset, .unset, .unset, .unset] [(.int (2147483647 : Int32)), (.int p0)]) (fun _ k => X0.ldcInt hx hown (mvT hZ (wk hw 0 rfl)) (g := (mkF m 1 #[.val (.int p0), .val (.int p1), .val (.int p2), .val (.int p3), .unset, .unset, .unset, .unset, .unset, .unset, .unset] [(.int p0)])) rfl (hb hby at_1) _ k) ?_
  refine WinW.to s₁ (mkF m 4 #[.val (.int p0), .val (.int p1), .val (.int p2), .val (.int p3), .unset, .unset, .unset, .unset, .unset, .unset, .unset] [(.int (p0 &&& (2147483647 : Int32)))]) (fun _ k => XS.iand X0.here hx rfl (hb hby at_3) rfl k) ?_
  refine WinW.to s₁ (mkF m 5 #[.val (.int p0), .val (.int p1), .val (.int p2), .val (.int p3), .unset, .unset, .unset, .unset, .unset, .unset, .unset] [(.int (5 : Int32)), (.int (p0 &&& (2147483647 : Int32)))]) (fun _ k => XS.iconst X0.here hx rfl (hb hby at_4) k) ?_
  refine WinW.to s₁ (mkF m 6 #[.val (.int p0), .val (.int p1), .val (.int p2), .val (.int p3), .unset, .unset, .unset, .unset, .unset, .unset, .unset] [(.int ((p0 &&& (2147483647 : Int32)) % (5 : Int32)))]) (fun _ k => Jvm.RoadKit.iremM X0 hx rfl (hb hby at_5) rfl (by decide) k) ?_
  refine WinW.to s₁ (mkF m 8 #[.val (.int p0), .val (.int p1), .val (.int p2), .val (.int p3), .val (.int ((p0 &&& (2147483647 : Int32)) % (5 : Int32))), .unset, .unset, .unset, .unset, .unset, .unset] []) (fun _ k => XS.istore X0.here hx rfl (hb hby at_6) rfl (l' := #[.val (.int p0), .val (.int p1), .val (.int p2), .val (.int p3), .val (.int ((p0 &&& (2147483647 : Int32)) % (5 : Int32))), .unset, .unset, .unset, .unset, .unset, .unset]) rfl k) ?_
  refine WinW.to s₁ (mkF m 9 #[.val (.int p0), .val (.int p1), .val (.int p2), .val (.int p3), .val (.int ((p0 &&& (2147483647 : Int32)) % (5 : Int32))), .unset, .unset, .unset, .unset, .unset, .unset] [(.int (4 : Int32))]) (fun _ k => XS.iconst X0.here hx rfl (hb hby at_8) k) ?_
  obtain ⟨T687, h687, k687, X687, e687, E687, A687, st687⟩ := newP X0 hx hZ (wk hw 1 rfl) e0 (g := (mkF m 9 #[.val (.int p0), .val (.int p1), .val (.int p2), .val (.int p3), .val (.int ((p0 &&& (2147483647 : Int32)) % (5 : Int32))), .unset, .unset, .unset, .unset, .unset, .unset] [(.int (4 : Int32))])) rfl (hb hby at_9) rfl (by decide) (cap := 4) (by decide) (by decide) (by decide) (by decide)
  obtain ⟨b687, g687⟩ : ∃ z, z = h0.size := ⟨_, rfl⟩
  rw [← g687] at A687 st687
  have g688 : n0 ≤ b687 := Nat.le_trans (own_le O0) (Nat.le_of_eq g687.symm)
  have z689 : h0.size ≤ b687 := (Nat.le_of_eq g687.symm)
  have O690 := Old.ext O0 E687
  have K691 : Keep h0 h687 [] := (Keep.refl h0 []).ext E687
  have c692 := CHr.ext E687 C0.1
  have C693 := CHr.trans C0 c692
  have F694 : Arv Z h687 b687 k687 .char (4 : Int32) [(.int (0 : Int32)), (.int (0 : Int32)), (.int (0 : Int32)), (.int (0 : Int32))] (.int (0 : Int32)) := (Arv.new A687 (by decide)).pad (pad_rep [] (.int (0 : Int32)) 4)
  refine WinW.to T687 (mkF m 11 #[.val (.int p0), .val (.int p1), .val (.int p2), .val (.int p3), .val (.int ((p0 &&& (2147483647 : Int32)) % (5 : Int32))), .unset, .unset, .unset, .unset, .unset, .unset] [(.ref b687)]) (fun _ k => st687 _ k) ?_
  refine WinW.to T687 (mkF m 13 #[.val (.int p0), .val (.int p1), .val (.int p2), .val (.int p3), .val (.int ((p0 &&& (2147483647 : Int32)) % (5 : Int32))), .val (.ref b687), .unset, .unset, .unset, .unset, .unset] []) (fun _ k => XS.astore X687.here hx rfl (hb hby at_11) rfl rfl (l' := #[.val (.int p0), .val (.int p1), .val (.int p2), .val (.int p3), .val (.int ((p0 &&& (2147483647 : Int32)) % (5 : Int32))), .val (.ref b687), .unset, .unset, .unset, .unset, .unset]) rfl k) ?_
  refine WinW.to T687 (mkF m 15 #[.val (.int p0), .val (.int p1), .val (.int p2), .val (.int p3), .val (.int ((p0 &&& (2147483647 : Int32)) % (5 : Int32))), .val (.ref b687), .unset, .unset, .unset, .unset, .unset] [(.ref b687)]) (fun _ k => XS.aload X687.here hx rfl (hb hby at_13) rfl rfl k) ?_
  refine WinW.to T687 (mkF m 16 #[.val (.int p0), .val (.int p1), .val (.int p2), .val (.int p3), .val (.int ((p0 &&& (2147483647 : Int32)) % (5 : Int32))), .val (.ref b687), .unset, .unset, .unset, .unset, .unset] [(.int (0 : Int32)), (.ref b687)]) (fun _ k => XS.iconst X687.here hx rfl (hb hby at_15) k) ?_
  refine WinW.to T687 (mkF m 17 #[.val (.int p0), .val (.int p1), .val (.int p2), .val (.int p3), .val (.int ((p0 &&& (2147483647 : Int32)) % (5 : Int32))), .val (.ref b687), .unset, .unset, .unset, .unset, .unset] [(.int p2), (.int (0 : Int32)), (.ref b687)]) (fun _ k => XS.iloadN X687.here hx rfl (hb hby at_16) rfl k) ?_
  refine WinW.to T687 (mkF m 20 #[.val (.int p0), .val (.int p1), .val (.int p2), .val (.int p3), .val (.int ((p0 &&& (2147483647 : Int32)) % (5 : Int32))), .val (.ref b687), .unset, .unset, .unset, .unset, .unset] [(.int (255 : Int32)), (.int p2), (.int (0 : Int32)), (.ref b687)]) (fun _ k => XS.sipush X687.here hx rfl (hb hby at_17) k) ?_
  refine WinW.to T687 (mkF m 21 #[.val (.int p0), .val (.int p1), .val (.int p2), .val (.int p3), .val (.int ((p0 &&& (2147483647 : Int32)) % (5 : Int32))), .val (.ref b687), .unset, .unset, .unset, .unset, .unset] [(.int (p2 &&& (255 : Int32))), (.int (0 : Int32)), (.ref b687)]) (fun _ k => XS.iand X687.here hx rfl (hb hby at_20) rfl k) ?_
  refine WinW.to T687 (mkF m 22 #[.val (.int p0), .val (.int p1), .val (.int p2), .val (.int p3), .val (.int ((p0 &&& (2147483647 : Int32)) % (5 : Int32))), .val (.ref b687), .unset, .unset, .unset, .unset, .unset] [(.int (p2 &&& (255 : Int32))), (.int (0 : Int32)), (.ref b687)]) (fun _ k => XS.i2c X687.here hx rfl (hb hby at_21) rfl (by rw [show ((p2 &&& (255 : Int32)).toUInt32.toUInt16.toUInt32.toInt32) = (p2 &&& (255 : Int32)) from (i2c_mask p2)]; exact k)) ?_
  obtain ⟨cl695, Ar695, q695, S695, N695, H695, G695⟩ := id F694
  have hi695 : ¬ ((0 : Int32) < 0 ∨ cl695.slots.size ≤ ((0 : Int32)).toNatClampNeg) := inb_of S695 ⟨by decide, by decide⟩
  obtain ⟨T696, h696, X696, e696, W696, st696⟩ := stC X687 hx hZ e687 Ar695 (j := (0 : Int32)) hi695 (g := (mkF m 22 #[.val (.int p0), .val (.int p1), .val (.int p2), .val (.int p3), .val (.int ((p0 &&& (2147483647 : Int32)) % (5 : Int32))), .val (.ref b687), .unset, .unset, .unset, .unset, .unset] [(.int (p2 &&& (255 : Int32))), (.int (0 : Int32)), (.ref b687)])) rfl rfl (hb hby at_22)
  have O698 := Old.wr O690 W696 g688
  have K699 : Keep h0 h696 [] := K691.wr W696 (Or.inr z689)
  have N700 := Fr.snoc X696 N0 g688
  have c701 := CHr.wr W696 (Safe.arv hZ.alike F694 (by decide)) C693.1
  have C702 := CHr.trans C693 c701
  have eq696 : nar .char (p2 &&& (255 : Int32)) = (p2 &&& (255 : Int32)) := (i2c_mask p2)
  have W696 := eq696 ▸ W696
  have F697 : Arv Z h696 b687 k687 .char (4 : Int32) [(.int (p2 &&& (255 : Int32))), (.int (0 : Int32)), (.int (0 : Int32)), (.int (0 : Int32))] (.int (0 : Int32)) := Arv.set Ar695 q695 S695 N695 H695 G695 (eq696 ▸ (fits_nar_char _)) W696 0 rfl (Nat.le_of_ble_eq_true rfl)
  refine WinW.to T696 (mkF m 23 #[.val (.int p0), .val (.int p1), .val (.int p2), .val (.int p3), .val (.int ((p0 &&& (2147483647 : Int32)) % (5 : Int32))), .val (.ref b687), .unset, .unset, .unset, .unset, .unset] []) (fun _ k => st696 _ k) ?_
  refine WinW.to T696 (mkF m 25 #[.val (.int p0), .val (.int p1), .val (.int p2), .val (.int p3), .val (.int ((p0 &&& (2147483647 : Int32)) % (5 : Int32))), .val (.ref b687), .unset, .unset, .unset, .unset, .unset] [(.ref b687)]) (fun _ k => XS.aload X696.here hx rfl (hb hby at_23) rfl rfl k) ?_
  refine WinW.to T696 (mkF m 26 #[.val (.int p0), .val (.int p1), .val (.int p2), .val (.int p3), .val (.int ((p0 &&& (2147483647 : Int32)) % (5 : Int32))), .val (.ref b687), .unset, .unset, .unset, .unset, .unset] [(.int (1 : Int32)), (.ref b687)]) (fun _ k => XS.iconst X696.here hx rfl (hb hby at_25) k) ?_
  refine WinW.to T696 (mkF m 27 #[.val (.int p0), .val (.int p1), .val (.int p2), .val (.int p3), .val (.int ((p0 &&& (2147483647 : Int32)) % (5 : Int32))), .val (.ref b687), .unset, .unset, .unset, .unset, .unset] [(.int p2), (.int (1 : Int32)), (.ref b687)]) (fun _ k => XS.iloadN X696.here hx rfl (hb hby at_26) rfl k) ?_
  refine WinW.to T696 (mkF m 29 #[.val (.int p0), .val (.int p1), .val (.int p2), .val (.int p3), .val (.int ((p0 &&& (2147483647 : Int32)) % (5 : Int32))), .val (.ref b687), .unset, .unset, .unset, .unset, .unset] [(.int (8 : Int32)), (.int p2), (.int (1 : Int32)), (.ref b687)]) (fun _ k => XS.bipush X696.here hx rfl (hb hby at_27) k) ?_
  refine WinW.to T696 (mkF m 30 #[.val (.int p0), .val (.int p1), .val (.int p2), .val (.int p3), .val (.int ((p0 &&& (2147483647 : Int32)) % (5 : Int32))), .val (.ref b687), .unset, .unset, .unset, .unset, .unset] [(.int ((p2.toUInt32 >>> ((8 : Int32) &&& 31).toUInt32).toInt32)), (.int (1 : Int32)), (.ref b687)]) (fun _ k => XS.iushr X696.here hx rfl (hb hby at_29) rfl k) ?_
  refine WinW.to T696 (mkF m 33 #[.val (.int p0), .val (.int p1), .val (.int p2), .val (.int p3), .val (.int ((p0 &&& (2147483647 : Int32)) % (5 : Int32))), .val (.ref b687), .unset, .unset, .unset, .unset, .unset] [(.int (255 : Int32)), (.int ((p2.toUInt32 >>> ((8 : Int32) &&& 31).toUInt32).toInt32)), (.int (1 : Int32)), (.ref b687)]) (fun _ k => XS.sipush X696.here hx rfl (hb hby at_30) k) ?_
  refine WinW.to T696 (mkF m 34 #[.val (.int p0), .val (.int p1), .val (.int p2), .val (.int p3), .val (.int ((p0 &&& (2147483647 : Int32)) % (5 : Int32))), .val (.ref b687), .unset, .unset, .unset, .unset, .unset] [(.int (((p2.toUInt32 >>> ((8 : Int32) &&& 31).toUInt32).toInt32) &&& (255 : Int32))), (.int (1 : Int32)), (.ref b687)]) (fun _ k => XS.iand X696.here hx rfl (hb hby at_33) rfl k) ?_
  refine WinW.to T696 (mkF m 35 #[.val (.int p0), .val (.int p1), .val (.int p2), .val (.int p3), .val (.int ((p0 &&& (2147483647 : Int32)) % (5 : Int32))), .val (.ref b687), .unset, .unset, .unset, .unset, .unset] [(.int (((p2.toUInt32 >>> ((8 : Int32) &&& 31).toUInt32).toInt32) &&& (255 : Int32))), (.int (1 : Int32)), (.ref b687)]) (fun _ k => XS.i2c X696.here hx rfl (hb hby at_34) rfl (by rw [show ((((p2.toUInt32 >>> ((8 : Int32) &&& 31).toUInt32).toInt32) &&& (255 : Int32)).toUInt32.toUInt16.toUInt32.toInt32) = (((p2.toUInt32 >>> ((8 : Int32) &&& 31).toUInt32).toInt32) &&& (255 : Int32)) from (i2c_mask ((p2.toUInt32 >>> ((8 : Int32) &&& 31).toUInt32).toInt32))]; exact k)) ?_
  obtain ⟨cl703, Ar703, q703, S703, N703, H703, G703⟩ := id F697
  have hi703 : ¬ ((1 : Int32) < 0 ∨ cl703.slots.size ≤ ((1 : Int32)).toNatClampNeg) := inb_of S703 ⟨by decide, by decide⟩
  obtain ⟨T704, h704, X704, e704, W704, st704⟩ := stC X696 hx hZ e696 Ar703 (j := (1 : Int32)) hi703 (g := (mkF m 35 #[.val (.int p0), .val (.int p1), .val (.int p2), .val (.int p3), .val (.int ((p0 &&& (2147483647 : Int32)) % (5 : Int32))), .val (.ref b687), .unset, .unset, .unset, .unset, .unset] [(.int (((p2.toUInt32 >>> ((8 : Int32) &&& 31).toUInt32).toInt32) &&& (255 : Int32))), (.int (1 : Int32)), (.ref b687)])) rfl rfl (hb hby at_35)
  have O706 := Old.wr O698 W704 g688
  have K707 : Keep h0 h704 [] := K699.wr W704 (Or.inr z689)
  have N708 := Fr.snoc X704 N700 g688
  have c709 := CHr.wr W704 (Safe.arv hZ.alike F697 (by decide)) C702.1
  have C710 := CHr.trans C702 c709
  have eq704 : nar .char (((p2.toUInt32 >>> ((8 : Int32) &&& 31).toUInt32).toInt32) &&& (255 : Int32)) = (((p2.toUInt32 >>> ((8 : Int32) &&& 31).toUInt32).toInt32) &&& (255 : Int32)) := (i2c_mask ((p2.toUInt32 >>> ((8 : Int32) &&& 31).toUInt32).toInt32))
  have W704 := eq704 ▸ W704
  have F705 : Arv Z h704 b687 k687 .char (4 : Int32) [(.int (p2 &&& (255 : Int32))), (.int (((p2.toUInt32 >>> ((8 : Int32) &&& 31).toUInt32).toInt32) &&& (255 : Int32))), (.int (0 : Int32)), (.int (0 : Int32))] (.int (0 : Int32)) := Arv.set Ar703 q703 S703 N703 H703 G703 (eq704 ▸ (fits_nar_char _)) W704 1 rfl (Nat.le_of_ble_eq_true rfl)
  refine WinW.to T704 (mkF m 36 #[.val (.int p0), .val (.int p1), .val (.int p2), .val (.int p3), .val (.int ((p0 &&& (2147483647 : Int32)) % (5 : Int32))), .val (.ref b687), .unset, .unset, .unset, .unset, .unset] []) (fun _ k => st704 _ k) ?_
  refine WinW.to T704 (mkF m 38 #[.val (.int p0), .val (.int p1), .val (.int p2), .val (.int p3), .val (.int ((p0 &&& (2147483647 : Int32)) % (5 : Int32))), .val (.ref b687), .unset, .unset, .unset, .unset, .unset] [(.ref b687)]) (fun _ k => XS.aload X704.here hx rfl (hb hby at_36) rfl rfl k) ?_
  refine WinW.to T704 (mkF m 39 #[.val (.int p0), .val (.int p1), .val (.int p2), .val (.int p3), .val (.int ((p0 &&& (2147483647 : Int32)) % (5 : Int32))), .val (.ref b687), .unset, .unset, .unset, .unset, .unset] [(.int (2 : Int32)), (.ref b687)]) (fun _ k => XS.iconst X704.here hx rfl (hb hby at_38) k) ?_
  refine WinW.to T704 (mkF m 40 #[.val (.int p0), .val (.int p1), .val (.int p2), .val (.int p3), .val (.int ((p0 &&& (2147483647 : Int32)) % (5 : Int32))), .val (.ref b687), .unset, .unset, .unset, .unset, .unset] [(.int p3), (.int (2 : Int32)), (.ref b687)]) (fun _ k => XS.iloadN X704.here hx rfl (hb hby at_39) rfl k) ?_
  refine WinW.to T704 (mkF m 43 #[.val (.int p0), .val (.int p1), .val (.int p2), .val (.int p3), .val (.int ((p0 &&& (2147483647 : Int32)) % (5 : Int32))), .val (.ref b687), .unset, .unset, .unset, .unset, .unset] [(.int (255 : Int32)), (.int p3), (.int (2 : Int32)), (.ref b687)]) (fun _ k => XS.sipush X704.here hx rfl (hb hby at_40) k) ?_
  refine WinW.to T704 (mkF m 44 #[.val (.int p0), .val (.int p1), .val (.int p2), .val (.int p3), .val (.int ((p0 &&& (2147483647 : Int32)) % (5 : Int32))), .val (.ref b687), .unset, .unset, .unset, .unset, .unset] [(.int (p3 &&& (255 : Int32))), (.int (2 : Int32)), (.ref b687)]) (fun _ k => XS.iand X704.here hx rfl (hb hby at_43) rfl k) ?_
  refine WinW.to T704 (mkF m 45 #[.val (.int p0), .val (.int p1), .val (.int p2), .val (.int p3), .val (.int ((p0 &&& (2147483647 : Int32)) % (5 : Int32))), .val (.ref b687), .unset, .unset, .unset, .unset, .unset] [(.int (p3 &&& (255 : Int32))), (.int (2 : Int32)), (.ref b687)]) (fun _ k => XS.i2c X704.here hx rfl (hb hby at_44) rfl (by rw [show ((p3 &&& (255 : Int32)).toUInt32.toUInt16.toUInt32.toInt32) = (p3 &&& (255 : Int32)) from (i2c_mask p3)]; exact k)) ?_
  obtain ⟨cl711, Ar711, q711, S711, N711, H711, G711⟩ := id F705
  have hi711 : ¬ ((2 : Int32) < 0 ∨ cl711.slots.size ≤ ((2 : Int32)).toNatClampNeg) := inb_of S711 ⟨by decide, by decide⟩
  obtain ⟨T712, h712, X712, e712, W712, st712⟩ := stC X704 hx hZ e704 Ar711 (j := (2 : Int32)) hi711 (g := (mkF m 45 #[.val (.int p0), .val (.int p1), .val (.int p2), .val (.int p3), .val (.int ((p0 &&& (2147483647 : Int32)) % (5 : Int32))), .val (.ref b687), .unset, .unset, .unset, .unset, .unset] [(.int (p3 &&& (255 : Int32))), (.int (2 : Int32)), (.ref b687)])) rfl rfl (hb hby at_45)
  have O714 := Old.wr O706 W712 g688
  have K715 : Keep h0 h712 [] := K707.wr W712 (Or.inr z689)
  have N716 := Fr.snoc X712 N708 g688
  have c717 := CHr.wr W712 (Safe.arv hZ.alike F705 (by decide)) C710.1
  have C718 := CHr.trans C710 c717
  have eq712 : nar .char (p3 &&& (255 : Int32)) = (p3 &&& (255 : Int32)) := (i2c_mask p3)
  have W712 := eq712 ▸ W712
  have F713 : Arv Z h712 b687 k687 .char (4 : Int32) [(.int (p2 &&& (255 : Int32))), (.int (((p2.toUInt32 >>> ((8 : Int32) &&& 31).toUInt32).toInt32) &&& (255 : Int32))), (.int (p3 &&& (255 : Int32))), (.int (0 : Int32))] (.int (0 : Int32)) := Arv.set Ar711 q711 S711 N711 H711 G711 (eq712 ▸ (fits_nar_char _)) W712 2 rfl (Nat.le_of_ble_eq_true rfl)
  refine WinW.to T712 (mkF m 46 #[.val (.int p0), .val (.int p1), .val (.int p2), .val (.int p3), .val (.int ((p0 &&& (2147483647 : Int32)) % (5 : Int32))), .val (.ref b687), .unset, .unset, .unset, .unset, .unset] []) (fun _ k => st712 _ k) ?_
  refine WinW.to T712 (mkF m 48 #[.val (.int p0), .val (.int p1), .val (.int p2), .val (.int p3), .val (.int ((p0 &&& (2147483647 : Int32)) % (5 : Int32))), .val (.ref b687), .unset, .unset, .unset, .unset, .unset] [(.ref b687)]) (fun _ k => XS.aload X712.here hx rfl (hb hby at_46) rfl rfl k) ?_
  refine WinW.to T712 (mkF m 49 #[.val (.int p0), .val (.int p1), .val (.int p2), .val (.int p3), .val (.int ((p0 &&& (2147483647 : Int32)) % (5 : Int32))), .val (.ref b687), .unset, .unset, .unset, .unset, .unset] [(.int (3 : Int32)), (.ref b687)]) (fun _ k => XS.iconst X712.here hx rfl (hb hby at_48) k) ?_
  refine WinW.to T712 (mkF m 50 #[.val (.int p0), .val (.int p1), .val (.int p2), .val (.int p3), .val (.int ((p0 &&& (2147483647 : Int32)) % (5 : Int32))), .val (.ref b687), .unset, .unset, .unset, .unset, .unset] [(.int p3), (.int (3 : Int32)), (.ref b687)]) (fun _ k => XS.iloadN X712.here hx rfl (hb hby at_49) rfl k) ?_
  refine WinW.to T712 (mkF m 52 #[.val (.int p0), .val (.int p1), .val (.int p2), .val (.int p3), .val (.int ((p0 &&& (2147483647 : Int32)) % (5 : Int32))), .val (.ref b687), .unset, .unset, .unset, .unset, .unset] [(.int (8 : Int32)), (.int p3), (.int (3 : Int32)), (.ref b687)]) (fun _ k => XS.bipush X712.here hx rfl (hb hby at_50) k) ?_
  refine WinW.to T712 (mkF m 53 #[.val (.int p0), .val (.int p1), .val (.int p2), .val (.int p3), .val (.int ((p0 &&& (2147483647 : Int32)) % (5 : Int32))), .val (.ref b687), .unset, .unset, .unset, .unset, .unset] [(.int ((p3.toUInt32 >>> ((8 : Int32) &&& 31).toUInt32).toInt32)), (.int (3 : Int32)), (.ref b687)]) (fun _ k => XS.iushr X712.here hx rfl (hb hby at_52) rfl k) ?_
  refine WinW.to T712 (mkF m 56 #[.val (.int p0), .val (.int p1), .val (.int p2), .val (.int p3), .val (.int ((p0 &&& (2147483647 : Int32)) % (5 : Int32))), .val (.ref b687), .unset, .unset, .unset, .unset, .unset] [(.int (255 : Int32)), (.int ((p3.toUInt32 >>> ((8 : Int32) &&& 31).toUInt32).toInt32)), (.int (3 : Int32)), (.ref b687)]) (fun _ k => XS.sipush X712.here hx rfl (hb hby at_53) k) ?_
  refine WinW.to T712 (mkF m 57 #[.val (.int p0), .val (.int p1), .val (.int p2), .val (.int p3), .val (.int ((p0 &&& (2147483647 : Int32)) % (5 : Int32))), .val (.ref b687), .unset, .unset, .unset, .unset, .unset] [(.int (((p3.toUInt32 >>> ((8 : Int32) &&& 31).toUInt32).toInt32) &&& (255 : Int32))), (.int (3 : Int32)), (.ref b687)]) (fun _ k => XS.iand X712.here hx rfl (hb hby at_56) rfl k) ?_
  refine WinW.to T712 (mkF m 58 #[.val (.int p0), .val (.int p1), .val (.int p2), .val (.int p3), .val (.int ((p0 &&& (2147483647 : Int32)) % (5 : Int32))), .val (.ref b687), .unset, .unset, .unset, .unset, .unset] [(.int (((p3.toUInt32 >>> ((8 : Int32) &&& 31).toUInt32).toInt32) &&& (255 : Int32))), (.int (3 : Int32)), (.ref b687)]) (fun _ k => XS.i2c X712.here hx rfl (hb hby at_57) rfl (by rw [show ((((p3.toUInt32 >>> ((8 : Int32) &&& 31).toUInt32).toInt32) &&& (255 : Int32)).toUInt32.toUInt16.toUInt32.toInt32) = (((p3.toUInt32 >>> ((8 : Int32) &&& 31).toUInt32).toInt32) &&& (255 : Int32)) from (i2c_mask ((p3.toUInt32 >>> ((8 : Int32) &&& 31).toUInt32).toInt32))]; exact k)) ?_
  obtain ⟨cl719, Ar719, q719, S719, N719, H719, G719⟩ := id F713
  have hi719 : ¬ ((3 : Int32) < 0 ∨ cl719.slots.size ≤ ((3 : Int32)).toNatClampNeg) := inb_of S719 ⟨by decide, by decide⟩
  obtain ⟨T720, h720, X720, e720, W720, st720⟩ := stC X712 hx hZ e712 Ar719 (j := (3 : Int32)) hi719 (g := (mkF m 58 #[.val (.int p0), .val (.int p1), .val (.int p2), .val (.int p3), .val (.int ((p0 &&& (2147483647 : Int32)) % (5 : Int32))), .val (.ref b687), .unset, .unset, .unset, .unset, .unset] [(.int (((p3.toUInt32 >>> ((8 : Int32) &&& 31).toUInt32).toInt32) &&& (255 : Int32))), (.int (3 : Int32)), (.ref b687)])) rfl rfl (hb hby at_58)
  have O722 := Old.wr O714 W720 g688
  have K723 : Keep h0 h720 [] := K715.wr W720 (Or.inr z689)
  have N724 := Fr.snoc X720 N716 g688
  have c725 := CHr.wr W720 (Safe.arv hZ.alike F713 (by decide)) C718.1
  have C726 := CHr.trans C718 c725
  have eq720 : nar .char (((p3.toUInt32 >>> ((8 : Int32) &&& 31).toUInt32).toInt32) &&& (255 : Int32)) = (((p3.toUInt32 >>> ((8 : Int32) &&& 31).toUInt32).toInt32) &&& (255 : Int32)) := (i2c_mask ((p3.toUInt32 >>> ((8 : Int32) &&& 31).toUInt32).toInt32))
  have W720 := eq720 ▸ W720
  have F721 : Arv Z h720 b687 k687 .char (4 : Int32) [(.int (p2 &&& (255 : Int32))), (.int (((p2.toUInt32 >>> ((8 : Int32) &&& 31).toUInt32).toInt32) &&& (255 : Int32))), (.int (p3 &&& (255 : Int32))), (.int (((p3.toUInt32 >>> ((8 : Int32) &&& 31).toUInt32).toInt32) &&& (255 : Int32)))] (.int (0 : Int32)) := Arv.set Ar719 q719 S719 N719 H719 G719 (eq720 ▸ (fits_nar_char _)) W720 3 rfl (Nat.le_of_ble_eq_true rfl)
  refine WinW.to T720 (mkF m 59 #[.val (.int p0), .val (.int p1), .val (.int p2), .val (.int p3), .val (.int ((p0 &&& (2147483647 : Int32)) % (5 : Int32))), .val (.ref b687), .unset, .unset, .unset, .unset, .unset] []) (fun _ k => st720 _ k) ?_
  have Jc108 : ∀ (vmc108 : Vm) (kc108 : Nat) (Tc108 : State) (locsc108 : List Loc) (hc108 : Heap) (Xc108 : Stand p l e room_1 (s.setVm vmc108) m #[(.int p0), (.int p1), (.int p2), (.int p3)] below meth c Tc108 locsc108 1 4) (Nc108 : Fr n0 locsc108) (ec108 : Tc108.heap = hc108) (Oc108 : Old Z n0 hc108) (Kc108 : Keep h0 hc108 []) (hSc108 : s.Since vmc108 kc108) (hkc108 : kc108 ≤ hc108.size) (hZc108 : Z.Warmed39 (s.setVm vmc108).vm) (hownc108 : (s.setVm vmc108).vm.findClass "com/example/grantgate/grantgate/server/HeadVersionPinLaw" = some m.cls) (Cc108 : CHr Z EL1 s.vm s.heap vmc108 hc108) (c1 : Addr) (kc : ClassId) (q0 : Int32) (q1 : Int32) (q2 : Int32) (q3 : Int32)  (Fc108_0 : Arv Z hc108 c1 kc .char (4 : Int32) [(.int q0), (.int q1), (.int q2), (.int q3)] (.int (0 : Int32))) (hcq0 : nar .char q0 = q0) (hcq1 : nar .char q1 = q1) (hcq2 : nar .char q2 = q2) (hcq3 : nar .char q3 = q3) (hlq0 : ¬ (255 : Int32) < q0) (hlq1 : ¬ (255 : Int32) < q1) (hlq2 : ¬ (255 : Int32) < q2) (hlq3 : ¬ (255 : Int32) < q3) (hg : n0 ≤ c1) (hz : h0.size ≤ c1), WinW p e below s room_1 Z EL1 (fun v h L => v = some (.int (1 : Int32)) ∧ Fr n0 L ∧ (True)) (Tc108.setTop (mkF m 108 #[.val (.int p0), .val (.int p1), .val (.int p2), .val (.int p3), .val (.int ((p0 &&& (2147483647 : Int32)) % (5 : Int32))), .val (.ref c1), .unset, .unset, .unset, .unset, .unset] [])) := by
    intro vmc108 kc108 Tc108 locsc108 hc108 Xc108 Nc108 ec108 Oc108 Kc108 hSc108 hkc108 hZc108 hownc108 Cc108 c1 kc q0 q1 q2 q3 Fc108_0 hcq0 hcq1 hcq2 hcq3 hlq0 hlq1 hlq2 hlq3 hg hz
    have Jc216 : ∀ (vmc216 : Vm) (kc216 : Nat) (Tc216 : State) (locsc216 : List Loc) (hc216 : Heap) (Xc216 : Stand p l e room_1 (s.setVm vmc216) m #[(.int p0), (.int p1), (.int p2), (.int p3)] below meth c Tc216 locsc216 20 100) (Nc216 : Fr n0 locsc216) (ec216 : Tc216.heap = hc216) (Oc216 : Old Z n0 hc216) (Kc216 : Keep h0 hc216 []) (hSc216 : s.Since vmc216 kc216) (hkc216 : kc216 ≤ hc216.size) (hZc216 : Z.Warmed39 (s.setVm vmc216).vm) (hownc216 : (s.setVm vmc216).vm.findClass "com/example/grantgate/grantgate/server/HeadVersionPinLaw" = some m.cls) (Cc216 : CHr Z EL1 s.vm s.heap vmc216 hc216) (v1 : Addr) (pg : Int32) (t2 : Addr) (k2 : ClassId) (m1 : Nat) (gf : Nat → Int32) (n : Nat) (b : Nat) (sc216_6 : Slot) (sc216_7 : Slot) (Fc216_0 : Exa Z hc216 v1 "java/lang/String") (Fc216_1 : Fld Z hc216 v1 "java/lang/String" "value" "[B" (.ref t2)) (Fc216_2 : Fld Z hc216 v1 "java/lang/String" "coder" "B" (.int (0 : Int32))) (Fc216_3 : ArF Z hc216 t2 k2 .byte m1 gf) (Fc216_4 : Arv Z hc216 c1 kc .char (4 : Int32) [(.int q0), (.int q1), (.int q2), (.int q3)] (.int (0 : Int32))) (hm1 : m1 = n - b) (hn4 : n ≤ 4) (hst : b ≤ n) (heq : ∀ i, i < m1 → ((gf i) &&& (255 : Int32)) = (fun i => ([q0, q1, q2, q3] : List Int32).getD i (0 : Int32)) (b + i)) (hpg : (pg + (1 : Int32)) = b.toInt32), WinW p e below s room_1 Z EL1 (fun v h L => v = some (.int (1 : Int32)) ∧ Fr n0 L ∧ (True)) (Tc216.setTop (mkF m 216 #[.val (.int p0), .val (.int p1), .val (.int p2), .val (.int p3), .val (.int n.toInt32), .val (.ref c1), sc216_6, sc216_7, .val (.ref v1), .val (.int pg), .unset] [])) := by
      intro vmc216 kc216 Tc216 locsc216 hc216 Xc216 Nc216 ec216 Oc216 Kc216 hSc216 hkc216 hZc216 hownc216 Cc216 v1 pg t2 k2 m1 gf n b sc216_6 sc216_7 Fc216_0 Fc216_1 Fc216_2 Fc216_3 Fc216_4 hm1 hn4 hst heq hpg
      have hn2 : n < 2 ^ 31 := by omega
      have hb2 : b < 2 ^ 31 := by omega
      have F727 : ArF Z hc216 c1 kc .char 4 (fun i => ([q0, q1, q2, q3] : List Int32).getD i (0 : Int32)) := own_arf [q0, q1, q2, q3] Fc216_4 rfl
      refine WinW.to Tc216 (mkF m 218 #[.val (.int p0), .val (.int p1), .val (.int p2), .val (.int p3), .val (.int n.toInt32), .val (.ref c1), sc216_6, sc216_7, .val (.ref v1), .val (.int pg), .unset] [(.int pg)]) (fun _ k => XS.iload Xc216.here hx rfl (hb hby at_216) rfl k) ?_
      refine WinW.to Tc216 (mkF m 219 #[.val (.int p0), .val (.int p1), .val (.int p2), .val (.int p3), .val (.int n.toInt32), .val (.ref c1), sc216_6, sc216_7, .val (.ref v1), .val (.int pg), .unset] [(.int (1 : Int32)), (.int pg)]) (fun _ k => XS.iconst Xc216.here hx rfl (hb hby at_218) k) ?_
      refine WinW.to Tc216 (mkF m 220 #[.val (.int p0), .val (.int p1), .val (.int p2), .val (.int p3), .val (.int n.toInt32), .val (.ref c1), sc216_6, sc216_7, .val (.ref v1), .val (.int pg), .unset] [(.int b.toInt32)]) (fun _ k => XS.iadd Xc216.here hx rfl (hb hby at_219) rfl (by rw [show (pg + (1 : Int32)) = b.toInt32 from hpg]; exact k)) ?_
      refine WinW.to Tc216 (mkF m 222 #[.val (.int p0), .val (.int p1), .val (.int p2), .val (.int p3), .val (.int n.toInt32), .val (.ref c1), sc216_6, sc216_7, .val (.ref v1), .val (.int pg), .val (.int b.toInt32)] []) (fun _ k => XS.istore Xc216.here hx rfl (hb hby at_220) rfl (l' := #[.val (.int p0), .val (.int p1), .val (.int p2), .val (.int p3), .val (.int n.toInt32), .val (.ref c1), sc216_6, sc216_7, .val (.ref v1), .val (.int pg), .val (.int b.toInt32)]) rfl k) ?_
      refine WinW.to Tc216 (mkF m 224 #[.val (.int p0), .val (.int p1), .val (.int p2), .val (.int p3), .val (.int n.toInt32), .val (.ref c1), sc216_6, sc216_7, .val (.ref v1), .val (.int pg), .val (.int b.toInt32)] [(.ref v1)]) (fun _ k => XS.aload Xc216.here hx rfl (hb hby at_222) rfl rfl k) ?_
      refine WinW.to Tc216 (mkF m 227 #[.val (.int p0), .val (.int p1), .val (.int p2), .val (.int p3), .val (.int n.toInt32), .val (.ref c1), sc216_6, sc216_7, .val (.ref v1), .val (.int pg), .val (.int b.toInt32)] []) (fun _ k => XS.ifnullNo Xc216.here hx rfl (hb hby at_224) rfl k) ?_
      refine WinW.to Tc216 (mkF m 229 #[.val (.int p0), .val (.int p1), .val (.int p2), .val (.int p3), .val (.int n.toInt32), .val (.ref c1), sc216_6, sc216_7, .val (.ref v1), .val (.int pg), .val (.int b.toInt32)] [(.ref v1)]) (fun _ k => XS.aload Xc216.here hx rfl (hb hby at_227) rfl rfl k) ?_
      obtain ⟨T728, h728, v728, L728, X728, e728, ⟨rfl, N728q, r728_0⟩, st728⟩ := N.virtual Xc216 hx hZc216 (y := (⟨"java/lang/String", "length", "()I"⟩ : MethodName)) (z := (⟨"java/lang/String", "length", "()I"⟩ : MethodName)) hownc216 (wk hw 127 rfl) (wk hw 78 rfl) (notFace_of_selects (args := #[]) (mvT hZc216 (wk hw 80 rfl))) (wk hw 80 rfl) (wk hw 79 rfl) (wk hw 8 rfl) (wk hw 81 rfl) (by decide) (strLen l Z a0 hw v1 t2 k2 m1 gf cs hc216 n0 Oc216 Fc216_0 Fc216_1 Fc216_2 Fc216_3 S_CS hcs) ec216 Fc216_0 (g := (mkF m 229 #[.val (.int p0), .val (.int p1), .val (.int p2), .val (.int p3), .val (.int n.toInt32), .val (.ref c1), sc216_6, sc216_7, .val (.ref v1), .val (.int pg), .val (.int b.toInt32)] [(.ref v1)])) rfl (by rw [hml]; rfl) (argsL := []) (rest := []) rfl (lenOf pd___I rfl) rfl (W := 0) (by show 2 * 0 + _ ≤ _; exact Nat.le_of_eq rfl) (hb hby at_229) (by decide) (by decide) (by decide) (by decide)
      have N729 := Fr.app Nc216 N728q
      have e728 := e728.trans r728_0
      refine WinW.to T728 (mkF m 232 #[.val (.int p0), .val (.int p1), .val (.int p2), .val (.int p3), .val (.int n.toInt32), .val (.ref c1), sc216_6, sc216_7, .val (.ref v1), .val (.int pg), .val (.int b.toInt32)] [(.int m1.toInt32)]) (fun _ k => st728 _ k) ?_
      refine WinW.to T728 (mkF m 234 #[.val (.int p0), .val (.int p1), .val (.int p2), .val (.int p3), .val (.int n.toInt32), .val (.ref c1), sc216_6, sc216_7, .val (.ref v1), .val (.int pg), .val (.int b.toInt32)] [(.int n.toInt32), (.int m1.toInt32)]) (fun _ k => XS.iload X728.here hx rfl (hb hby at_232) rfl k) ?_
      refine WinW.to T728 (mkF m 236 #[.val (.int p0), .val (.int p1), .val (.int p2), .val (.int p3), .val (.int n.toInt32), .val (.ref c1), sc216_6, sc216_7, .val (.ref v1), .val (.int pg), .val (.int b.toInt32)] [(.int b.toInt32), (.int n.toInt32), (.int m1.toInt32)]) (fun _ k => XS.iload X728.here hx rfl (hb hby at_234) rfl k) ?_
      refine WinW.to T728 (mkF m 237 #[.val (.int p0), .val (.int p1), .val (.int p2), .val (.int p3), .val (.int n.toInt32), .val (.ref c1), sc216_6, sc216_7, .val (.ref v1), .val (.int pg), .val (.int b.toInt32)] [(.int (n - b).toInt32), (.int m1.toInt32)]) (fun _ k => XS.isub X728.here hx rfl (hb hby at_236) rfl (by rw [show (n.toInt32 - b.toInt32) = (n - b).toInt32 from own_sub hb2 hn2 hst]; exact k)) ?_
      refine WinW.to T728 (mkF m 242 #[.val (.int p0), .val (.int p1), .val (.int p2), .val (.int p3), .val (.int n.toInt32), .val (.ref c1), sc216_6, sc216_7, .val (.ref v1), .val (.int pg), .val (.int b.toInt32)] []) (fun _ k => XS.icmpYes X728.here hx rfl (pc0 := 237) (pc' := 242) rfl (hb hby at_237) rfl (teq (show m1.toInt32 = (n - b).toInt32 from (by rw [hm1]))).1 (by decide) (by decide) k) ?_
      refine WinW.to T728 (mkF m 244 #[.val (.int p0), .val (.int p1), .val (.int p2), .val (.int p3), .val (.int n.toInt32), .val (.ref c1), sc216_6, sc216_7, .val (.ref v1), .val (.int pg), .val (.int b.toInt32)] [(.ref v1)]) (fun _ k => XS.aload X728.here hx rfl (hb hby at_242) rfl rfl k) ?_
      refine WinW.to T728 (mkF m 245 #[.val (.int p0), .val (.int p1), .val (.int p2), .val (.int p3), .val (.int n.toInt32), .val (.ref c1), sc216_6, sc216_7, .val (.ref v1), .val (.int pg), .val (.int b.toInt32)] [(.int (0 : Int32)), (.ref v1)]) (fun _ k => XS.iconst X728.here hx rfl (hb hby at_244) k) ?_
      refine WinW.to T728 (mkF m 247 #[.val (.int p0), .val (.int p1), .val (.int p2), .val (.int p3), .val (.int n.toInt32), .val (.ref c1), sc216_6, sc216_7, .val (.ref v1), .val (.int pg), .val (.int b.toInt32)] [(.ref c1), (.int (0 : Int32)), (.ref v1)]) (fun _ k => XS.aload X728.here hx rfl (hb hby at_245) rfl rfl k) ?_
      refine WinW.to T728 (mkF m 249 #[.val (.int p0), .val (.int p1), .val (.int p2), .val (.int p3), .val (.int n.toInt32), .val (.ref c1), sc216_6, sc216_7, .val (.ref v1), .val (.int pg), .val (.int b.toInt32)] [(.int b.toInt32), (.ref c1), (.int (0 : Int32)), (.ref v1)]) (fun _ k => XS.iload X728.here hx rfl (hb hby at_247) rfl k) ?_
      refine WinW.to T728 (mkF m 251 #[.val (.int p0), .val (.int p1), .val (.int p2), .val (.int p3), .val (.int n.toInt32), .val (.ref c1), sc216_6, sc216_7, .val (.ref v1), .val (.int pg), .val (.int b.toInt32)] [(.int n.toInt32), (.int b.toInt32), (.ref c1), (.int (0 : Int32)), (.ref v1)]) (fun _ k => XS.iload X728.here hx rfl (hb hby at_249) rfl k) ?_
      obtain ⟨T730, h730, v730, L730, X730, e730, ⟨rfl, N730q, r730_0⟩, st730⟩ := N.static X728 hx hZc216 (y := (⟨"com/example/grantgate/grantgate/server/HeadVersionPinLaw", "same", "(Ljava/lang/String;I[CII)Z"⟩ : MethodName)) hownc216 (wk hw 128 rfl) (wk hw 129 rfl) (wk hw 4 rfl) (wk hw 130 rfl) (by decide) (same l Z a0 hw v1 t2 k2 m1 gf c1 kc (fun i => ([q0, q1, q2, q3] : List Int32).getD i (0 : Int32)) 0 b n cs x1 hc216 n0 Oc216 Fc216_0 Fc216_1 Fc216_2 Fc216_3 F727 hm1 hn4 (by decide) (by omega) heq S_CS hcs S_SI hx1) e728 (g := (mkF m 251 #[.val (.int p0), .val (.int p1), .val (.int p2), .val (.int p3), .val (.int n.toInt32), .val (.ref c1), sc216_6, sc216_7, .val (.ref v1), .val (.int pg), .val (.int b.toInt32)] [(.int n.toInt32), (.int b.toInt32), (.ref c1), (.int (0 : Int32)), (.ref v1)])) rfl (by rw [hml]; rfl) (argsL := [(.ref v1), (.int (0 : Int32)), (.ref c1), (.int b.toInt32), (.int n.toInt32)]) (rest := []) rfl (lenOf pd__Ljava_lang_String_I_CII_Z rfl) rfl (W := 0) (by show 2 * 0 + _ ≤ _; exact Nat.le_of_eq rfl) (hb hby at_251) (by decide) (by decide) (by decide) (by decide)
      have N731 := Fr.app N729 N730q
      have e730 := e730.trans r730_0
      refine WinW.to T730 (mkF m 254 #[.val (.int p0), .val (.int p1), .val (.int p2), .val (.int p3), .val (.int n.toInt32), .val (.ref c1), sc216_6, sc216_7, .val (.ref v1), .val (.int pg), .val (.int b.toInt32)] [(.int (1 : Int32))]) (fun _ k => st730 _ k) ?_
      refine WinW.to T730 (mkF m 257 #[.val (.int p0), .val (.int p1), .val (.int p2), .val (.int p3), .val (.int n.toInt32), .val (.ref c1), sc216_6, sc216_7, .val (.ref v1), .val (.int pg), .val (.int b.toInt32)] []) (fun _ k => XS.ifNo X730.here hx rfl (hb hby at_254) rfl ((if0 _ _).trans (feq (show ¬ ((1 : Int32) = (0 : Int32)) from by decide)).1) k) ?_
      refine WinW.to T730 (mkF m 259 #[.val (.int p0), .val (.int p1), .val (.int p2), .val (.int p3), .val (.int n.toInt32), .val (.ref c1), sc216_6, sc216_7, .val (.ref v1), .val (.int pg), .val (.int b.toInt32)] [(.ref v1)]) (fun _ k => XS.aload X730.here hx rfl (hb hby at_257) rfl rfl k) ?_
      refine WinW.to T730 (mkF m 260 #[.val (.int p0), .val (.int p1), .val (.int p2), .val (.int p3), .val (.int n.toInt32), .val (.ref c1), sc216_6, sc216_7, .val (.ref v1), .val (.int pg), .val (.int b.toInt32)] [(.int (1 : Int32)), (.ref v1)]) (fun _ k => XS.iconst X730.here hx rfl (hb hby at_259) k) ?_
      refine WinW.to T730 (mkF m 262 #[.val (.int p0), .val (.int p1), .val (.int p2), .val (.int p3), .val (.int n.toInt32), .val (.ref c1), sc216_6, sc216_7, .val (.ref v1), .val (.int pg), .val (.int b.toInt32)] [(.ref c1), (.int (1 : Int32)), (.ref v1)]) (fun _ k => XS.aload X730.here hx rfl (hb hby at_260) rfl rfl k) ?_
      refine WinW.to T730 (mkF m 264 #[.val (.int p0), .val (.int p1), .val (.int p2), .val (.int p3), .val (.int n.toInt32), .val (.ref c1), sc216_6, sc216_7, .val (.ref v1), .val (.int pg), .val (.int b.toInt32)] [(.int b.toInt32), (.ref c1), (.int (1 : Int32)), (.ref v1)]) (fun _ k => XS.iload X730.here hx rfl (hb hby at_262) rfl k) ?_
      refine WinW.to T730 (mkF m 266 #[.val (.int p0), .val (.int p1), .val (.int p2), .val (.int p3), .val (.int n.toInt32), .val (.ref c1), sc216_6, sc216_7, .val (.ref v1), .val (.int pg), .val (.int b.toInt32)] [(.int n.toInt32), (.int b.toInt32), (.ref c1), (.int (1 : Int32)), (.ref v1)]) (fun _ k => XS.iload X730.here hx rfl (hb hby at_264) rfl k) ?_
      obtain ⟨T732, h732, v732, L732, X732, e732, ⟨rfl, N732q, r732_0⟩, st732⟩ := N.static X730 hx hZc216 (y := (⟨"com/example/grantgate/grantgate/server/HeadVersionPinLaw", "same", "(Ljava/lang/String;I[CII)Z"⟩ : MethodName)) hownc216 (wk hw 128 rfl) (wk hw 129 rfl) (wk hw 4 rfl) (wk hw 130 rfl) (by decide) (same l Z a0 hw v1 t2 k2 m1 gf c1 kc (fun i => ([q0, q1, q2, q3] : List Int32).getD i (0 : Int32)) 1 b n cs x1 hc216 n0 Oc216 Fc216_0 Fc216_1 Fc216_2 Fc216_3 F727 hm1 hn4 (by decide) (by omega) heq S_CS hcs S_SI hx1) e730 (g := (mkF m 266 #[.val (.int p0), .val (.int p1), .val (.int p2), .val (.int p3), .val (.int n.toInt32), .val (.ref c1), sc216_6, sc216_7, .val (.ref v1), .val (.int pg), .val (.int b.toInt32)] [(.int n.toInt32), (.int b.toInt32), (.ref c1), (.int (1 : Int32)), (.ref v1)])) rfl (by rw [hml]; rfl) (argsL := [(.ref v1), (.int (1 : Int32)), (.ref c1), (.int b.toInt32), (.int n.toInt32)]) (rest := []) rfl (lenOf pd__Ljava_lang_String_I_CII_Z rfl) rfl (W := 0) (by show 2 * 0 + _ ≤ _; exact Nat.le_of_eq rfl) (hb hby at_266) (by decide) (by decide) (by decide) (by decide)
      have N733 := Fr.app N731 N732q
      have e732 := e732.trans r732_0
      refine WinW.to T732 (mkF m 269 #[.val (.int p0), .val (.int p1), .val (.int p2), .val (.int p3), .val (.int n.toInt32), .val (.ref c1), sc216_6, sc216_7, .val (.ref v1), .val (.int pg), .val (.int b.toInt32)] [(.int (1 : Int32))]) (fun _ k => st732 _ k) ?_
      refine WinW.to T732 (mkF m 272 #[.val (.int p0), .val (.int p1), .val (.int p2), .val (.int p3), .val (.int n.toInt32), .val (.ref c1), sc216_6, sc216_7, .val (.ref v1), .val (.int pg), .val (.int b.toInt32)] []) (fun _ k => XS.ifNo X732.here hx rfl (hb hby at_269) rfl ((if0 _ _).trans (feq (show ¬ ((1 : Int32) = (0 : Int32)) from by decide)).1) k) ?_
      refine WinW.to T732 (mkF m 274 #[.val (.int p0), .val (.int p1), .val (.int p2), .val (.int p3), .val (.int n.toInt32), .val (.ref c1), sc216_6, sc216_7, .val (.ref v1), .val (.int pg), .val (.int b.toInt32)] [(.ref v1)]) (fun _ k => XS.aload X732.here hx rfl (hb hby at_272) rfl rfl k) ?_
      refine WinW.to T732 (mkF m 275 #[.val (.int p0), .val (.int p1), .val (.int p2), .val (.int p3), .val (.int n.toInt32), .val (.ref c1), sc216_6, sc216_7, .val (.ref v1), .val (.int pg), .val (.int b.toInt32)] [(.int (2 : Int32)), (.ref v1)]) (fun _ k => XS.iconst X732.here hx rfl (hb hby at_274) k) ?_
      refine WinW.to T732 (mkF m 277 #[.val (.int p0), .val (.int p1), .val (.int p2), .val (.int p3), .val (.int n.toInt32), .val (.ref c1), sc216_6, sc216_7, .val (.ref v1), .val (.int pg), .val (.int b.toInt32)] [(.ref c1), (.int (2 : Int32)), (.ref v1)]) (fun _ k => XS.aload X732.here hx rfl (hb hby at_275) rfl rfl k) ?_
      refine WinW.to T732 (mkF m 279 #[.val (.int p0), .val (.int p1), .val (.int p2), .val (.int p3), .val (.int n.toInt32), .val (.ref c1), sc216_6, sc216_7, .val (.ref v1), .val (.int pg), .val (.int b.toInt32)] [(.int b.toInt32), (.ref c1), (.int (2 : Int32)), (.ref v1)]) (fun _ k => XS.iload X732.here hx rfl (hb hby at_277) rfl k) ?_
      refine WinW.to T732 (mkF m 281 #[.val (.int p0), .val (.int p1), .val (.int p2), .val (.int p3), .val (.int n.toInt32), .val (.ref c1), sc216_6, sc216_7, .val (.ref v1), .val (.int pg), .val (.int b.toInt32)] [(.int n.toInt32), (.int b.toInt32), (.ref c1), (.int (2 : Int32)), (.ref v1)]) (fun _ k => XS.iload X732.here hx rfl (hb hby at_279) rfl k) ?_
      obtain ⟨T734, h734, v734, L734, X734, e734, ⟨rfl, N734q, r734_0⟩, st734⟩ := N.static X732 hx hZc216 (y := (⟨"com/example/grantgate/grantgate/server/HeadVersionPinLaw", "same", "(Ljava/lang/String;I[CII)Z"⟩ : MethodName)) hownc216 (wk hw 128 rfl) (wk hw 129 rfl) (wk hw 4 rfl) (wk hw 130 rfl) (by decide) (same l Z a0 hw v1 t2 k2 m1 gf c1 kc (fun i => ([q0, q1, q2, q3] : List Int32).getD i (0 : Int32)) 2 b n cs x1 hc216 n0 Oc216 Fc216_0 Fc216_1 Fc216_2 Fc216_3 F727 hm1 hn4 (by decide) (by omega) heq S_CS hcs S_SI hx1) e732 (g := (mkF m 281 #[.val (.int p0), .val (.int p1), .val (.int p2), .val (.int p3), .val (.int n.toInt32), .val (.ref c1), sc216_6, sc216_7, .val (.ref v1), .val (.int pg), .val (.int b.toInt32)] [(.int n.toInt32), (.int b.toInt32), (.ref c1), (.int (2 : Int32)), (.ref v1)])) rfl (by rw [hml]; rfl) (argsL := [(.ref v1), (.int (2 : Int32)), (.ref c1), (.int b.toInt32), (.int n.toInt32)]) (rest := []) rfl (lenOf pd__Ljava_lang_String_I_CII_Z rfl) rfl (W := 0) (by show 2 * 0 + _ ≤ _; exact Nat.le_of_eq rfl) (hb hby at_281) (by decide) (by decide) (by decide) (by decide)
      have N735 := Fr.app N733 N734q
      have e734 := e734.trans r734_0
      refine WinW.to T734 (mkF m 284 #[.val (.int p0), .val (.int p1), .val (.int p2), .val (.int p3), .val (.int n.toInt32), .val (.ref c1), sc216_6, sc216_7, .val (.ref v1), .val (.int pg), .val (.int b.toInt32)] [(.int (1 : Int32))]) (fun _ k => st734 _ k) ?_
      refine WinW.to T734 (mkF m 287 #[.val (.int p0), .val (.int p1), .val (.int p2), .val (.int p3), .val (.int n.toInt32), .val (.ref c1), sc216_6, sc216_7, .val (.ref v1), .val (.int pg), .val (.int b.toInt32)] []) (fun _ k => XS.ifNo X734.here hx rfl (hb hby at_284) rfl ((if0 _ _).trans (feq (show ¬ ((1 : Int32) = (0 : Int32)) from by decide)).1) k) ?_
      refine WinW.to T734 (mkF m 289 #[.val (.int p0), .val (.int p1), .val (.int p2), .val (.int p3), .val (.int n.toInt32), .val (.ref c1), sc216_6, sc216_7, .val (.ref v1), .val (.int pg), .val (.int b.toInt32)] [(.ref v1)]) (fun _ k => XS.aload X734.here hx rfl (hb hby at_287) rfl rfl k) ?_
      refine WinW.to T734 (mkF m 290 #[.val (.int p0), .val (.int p1), .val (.int p2), .val (.int p3), .val (.int n.toInt32), .val (.ref c1), sc216_6, sc216_7, .val (.ref v1), .val (.int pg), .val (.int b.toInt32)] [(.int (3 : Int32)), (.ref v1)]) (fun _ k => XS.iconst X734.here hx rfl (hb hby at_289) k) ?_
      refine WinW.to T734 (mkF m 292 #[.val (.int p0), .val (.int p1), .val (.int p2), .val (.int p3), .val (.int n.toInt32), .val (.ref c1), sc216_6, sc216_7, .val (.ref v1), .val (.int pg), .val (.int b.toInt32)] [(.ref c1), (.int (3 : Int32)), (.ref v1)]) (fun _ k => XS.aload X734.here hx rfl (hb hby at_290) rfl rfl k) ?_
      refine WinW.to T734 (mkF m 294 #[.val (.int p0), .val (.int p1), .val (.int p2), .val (.int p3), .val (.int n.toInt32), .val (.ref c1), sc216_6, sc216_7, .val (.ref v1), .val (.int pg), .val (.int b.toInt32)] [(.int b.toInt32), (.ref c1), (.int (3 : Int32)), (.ref v1)]) (fun _ k => XS.iload X734.here hx rfl (hb hby at_292) rfl k) ?_
      refine WinW.to T734 (mkF m 296 #[.val (.int p0), .val (.int p1), .val (.int p2), .val (.int p3), .val (.int n.toInt32), .val (.ref c1), sc216_6, sc216_7, .val (.ref v1), .val (.int pg), .val (.int b.toInt32)] [(.int n.toInt32), (.int b.toInt32), (.ref c1), (.int (3 : Int32)), (.ref v1)]) (fun _ k => XS.iload X734.here hx rfl (hb hby at_294) rfl k) ?_
      obtain ⟨T736, h736, v736, L736, X736, e736, ⟨rfl, N736q, r736_0⟩, st736⟩ := N.static X734 hx hZc216 (y := (⟨"com/example/grantgate/grantgate/server/HeadVersionPinLaw", "same", "(Ljava/lang/String;I[CII)Z"⟩ : MethodName)) hownc216 (wk hw 128 rfl) (wk hw 129 rfl) (wk hw 4 rfl) (wk hw 130 rfl) (by decide) (same l Z a0 hw v1 t2 k2 m1 gf c1 kc (fun i => ([q0, q1, q2, q3] : List Int32).getD i (0 : Int32)) 3 b n cs x1 hc216 n0 Oc216 Fc216_0 Fc216_1 Fc216_2 Fc216_3 F727 hm1 hn4 (by decide) (by omega) heq S_CS hcs S_SI hx1) e734 (g := (mkF m 296 #[.val (.int p0), .val (.int p1), .val (.int p2), .val (.int p3), .val (.int n.toInt32), .val (.ref c1), sc216_6, sc216_7, .val (.ref v1), .val (.int pg), .val (.int b.toInt32)] [(.int n.toInt32), (.int b.toInt32), (.ref c1), (.int (3 : Int32)), (.ref v1)])) rfl (by rw [hml]; rfl) (argsL := [(.ref v1), (.int (3 : Int32)), (.ref c1), (.int b.toInt32), (.int n.toInt32)]) (rest := []) rfl (lenOf pd__Ljava_lang_String_I_CII_Z rfl) rfl (W := 0) (by show 2 * 0 + _ ≤ _; exact Nat.le_of_eq rfl) (hb hby at_296) (by decide) (by decide) (by decide) (by decide)
      have N737 := Fr.app N735 N736q
      have e736 := e736.trans r736_0
      refine WinW.to T736 (mkF m 299 #[.val (.int p0), .val (.int p1), .val (.int p2), .val (.int p3), .val (.int n.toInt32), .val (.ref c1), sc216_6, sc216_7, .val (.ref v1), .val (.int pg), .val (.int b.toInt32)] [(.int (1 : Int32))]) (fun _ k => st736 _ k) ?_
      refine WinW.to T736 (mkF m 302 #[.val (.int p0), .val (.int p1), .val (.int p2), .val (.int p3), .val (.int n.toInt32), .val (.ref c1), sc216_6, sc216_7, .val (.ref v1), .val (.int pg), .val (.int b.toInt32)] []) (fun _ k => XS.ifNo X736.here hx rfl (hb hby at_299) rfl ((if0 _ _).trans (feq (show ¬ ((1 : Int32) = (0 : Int32)) from by decide)).1) k) ?_
      refine WinW.to T736 (mkF m 303 #[.val (.int p0), .val (.int p1), .val (.int p2), .val (.int p3), .val (.int n.toInt32), .val (.ref c1), sc216_6, sc216_7, .val (.ref v1), .val (.int pg), .val (.int b.toInt32)] [(.int (1 : Int32))]) (fun _ k => XS.iconst X736.here hx rfl (hb hby at_302) k) ?_
      refine WinW.to T736 (mkF m 307 #[.val (.int p0), .val (.int p1), .val (.int p2), .val (.int p3), .val (.int n.toInt32), .val (.ref c1), sc216_6, sc216_7, .val (.ref v1), .val (.int pg), .val (.int b.toInt32)] [(.int (1 : Int32))]) (fun _ k => XS.goto X736.here hx rfl (pc0 := 303) (pc' := 307) rfl (hb hby at_303) (by decide) (by decide) k) ?_
      exact WinW.retN X736 hSc216 (by rw [e736]; exact hkc216) hx hlk (t := .boolean) hret (by simp) rfl (hb hby at_307) hZc216 (own_EW hw) (by rw [e736]; exact Cc216) (by decide) (by decide) (by (try rw [e736]); exact ⟨rfl, N737, trivial⟩)
    rcases own_rem p0 with hk | hk | hk | hk | hk
    · rw [hk]
      refine WinW.to Tc108 (mkF m 110 #[.val (.int p0), .val (.int p1), .val (.int p2), .val (.int p3), .val (.int (0 : Int32)), .val (.ref c1), .unset, .unset, .unset, .unset, .unset] [(.int (0 : Int32))]) (fun _ k => XS.iload Xc108.here hx rfl (hb hby at_108) rfl k) ?_
      refine WinW.to Tc108 (mkF m 112 #[.val (.int p0), .val (.int p1), .val (.int p2), .val (.int p3), .val (.int (0 : Int32)), .val (.ref c1), .unset, .unset, .unset, .unset, .unset] [(.ref c1), (.int (0 : Int32))]) (fun _ k => XS.aload Xc108.here hx rfl (hb hby at_110) rfl rfl k) ?_
      obtain ⟨T738, h738, v738, L738, k738, X738, e738, hS738, hk738, hZ738, hown738, ⟨r_738, t_738, kb_738, rfl, N738q, r738_0, r738_1, r738_2, r738_3, r738_4⟩, c738, st738⟩ := W.static Xc108 hSc108 hkc108 hx hZc108 (y := (⟨"com/example/grantgate/grantgate/server/HeadVersionPinLaw", "make", "(I[C)Ljava/lang/String;"⟩ : MethodName)) hownc108 (wk hw 2 rfl) (wk hw 3 rfl) (wk hw 4 rfl) (wk hw 5 rfl) (by decide) (make0 l Z a0 hw c1 kc q0 q1 q2 q3 cs hc108 n0 Oc108 Fc108_0 hcq0 hcq1 hcq2 hcq3 hlq0 hlq1 hlq2 hlq3 S_CS hcs) (own_EW hw) Cc108.1 ec108 (g := (mkF m 112 #[.val (.int p0), .val (.int p1), .val (.int p2), .val (.int p3), .val (.int (0 : Int32)), .val (.ref c1), .unset, .unset, .unset, .unset, .unset] [(.ref c1), (.int (0 : Int32))])) rfl (by rw [hml]; rfl) (argsL := [(.int (0 : Int32)), (.ref c1)]) (rest := []) rfl (lenOf pd__I_C_Ljava_lang_String_ rfl) rfl (W := 0) (by show 2 * 0 + _ ≤ _; exact Nat.le_of_eq rfl) (hb hby at_112) (by decide) (by decide) (by decide) (by decide)
      have N739 := Fr.app Nc108 N738q
      have O740 := Old.keep Oc108 r738_0 all0
      have K741 : Keep h0 h738 [] := Keep.trans Kc108 r738_0 all0
      have c742 := c738
      have C743 := CHr.trans Cc108 c742
      refine WinW.to T738 (mkF m 115 #[.val (.int p0), .val (.int p1), .val (.int p2), .val (.int p3), .val (.int (0 : Int32)), .val (.ref c1), .unset, .unset, .unset, .unset, .unset] [(.ref r_738)]) (fun _ k => st738 _ k) ?_
      refine WinW.to T738 (mkF m 117 #[.val (.int p0), .val (.int p1), .val (.int p2), .val (.int p3), .val (.int (0 : Int32)), .val (.ref c1), .val (.ref r_738), .unset, .unset, .unset, .unset] []) (fun _ k => XS.astore X738.here hx rfl (hb hby at_115) rfl rfl (l' := #[.val (.int p0), .val (.int p1), .val (.int p2), .val (.int p3), .val (.int (0 : Int32)), .val (.ref c1), .val (.ref r_738), .unset, .unset, .unset, .unset]) rfl k) ?_
      obtain ⟨T744, h744, X744, e744, E744, A744, D744, -, st744⟩ := newO X738 hx hZ738 hown738 (wk hw 27 rfl) (wk hw 28 rfl) (wk hw 29 rfl) e738 (g := (mkF m 117 #[.val (.int p0), .val (.int p1), .val (.int p2), .val (.int p3), .val (.int (0 : Int32)), .val (.ref c1), .val (.ref r_738), .unset, .unset, .unset, .unset] [])) rfl (hb hby at_117) (by decide) (by decide)
      obtain ⟨b744, g744⟩ : ∃ z, z = h738.size := ⟨_, rfl⟩
      rw [← g744] at A744 D744 st744
      have F745 : Arv Z h738 c1 kc .char (4 : Int32) [(.int q0), (.int q1), (.int q2), (.int q3)] (.int (0 : Int32)) := (Fc108_0.keep r738_0 nin0)
      have ne746 : c1 ≠ b744 := Nat.ne_of_lt (Nat.lt_of_lt_of_le F745.lt (Nat.le_of_eq g744.symm))
      have ne747 : r_738 ≠ b744 := Nat.ne_of_lt (Nat.lt_of_lt_of_le r738_1.lt (Nat.le_of_eq g744.symm))
      have ne748 : t_738 ≠ b744 := Nat.ne_of_lt (Nat.lt_of_lt_of_le r738_4.lt (Nat.le_of_eq g744.symm))
      have g749 : n0 ≤ b744 := Nat.le_trans (own_le O740) (Nat.le_of_eq g744.symm)
      have z750 : h0.size ≤ b744 := Nat.le_trans K741.1 (Nat.le_of_eq g744.symm)
      have O751 := Old.ext O740 E744
      have hk752 := Nat.le_trans hk738 E744.1
      have K753 : Keep h0 h744 [] := K741.ext E744
      have c754 := CHr.ext E744 C743.1
      have C755 := CHr.trans C743 c754
      have F756 : Fld Z h744 b744 "com/example/grantgate/grantgate/server/MessageReader$Head" "startLine" "Ljava/lang/String;" .null := D744 (Or.inr (wk hw 64 rfl)) (ty := (.object "java/lang/String")) (by decide)
      have F757 : Fld Z h744 b744 "com/example/grantgate/grantgate/server/MessageReader$Head" "fields" "Ljava/util/List;" .null := D744 (Or.inr (wk hw 66 rfl)) (ty := (.object "java/util/List")) (by decide)
      refine WinW.to T744 (mkF m 120 #[.val (.int p0), .val (.int p1), .val (.int p2), .val (.int p3), .val (.int (0 : Int32)), .val (.ref c1), .val (.ref r_738), .unset, .unset, .unset, .unset] [(.ref b744)]) (fun _ k => st744 _ k) ?_
      refine WinW.to T744 (mkF m 121 #[.val (.int p0), .val (.int p1), .val (.int p2), .val (.int p3), .val (.int (0 : Int32)), .val (.ref c1), .val (.ref r_738), .unset, .unset, .unset, .unset] [(.ref b744), (.ref b744)]) (fun _ k => XS.dup X744.here hx rfl (hb hby at_120) rfl rfl k) ?_
      refine WinW.to T744 (mkF m 123 #[.val (.int p0), .val (.int p1), .val (.int p2), .val (.int p3), .val (.int (0 : Int32)), .val (.ref c1), .val (.ref r_738), .unset, .unset, .unset, .unset] [(.ref r_738), (.ref b744), (.ref b744)]) (fun _ k => XS.aload X744.here hx rfl (hb hby at_121) rfl rfl k) ?_
      obtain ⟨T758, h758, X758, e758, E758, A758, D758, -, st758⟩ := newO X744 hx hZ738 hown738 (wk hw 30 rfl) (wk hw 31 rfl) (wk hw 32 rfl) e744 (g := (mkF m 123 #[.val (.int p0), .val (.int p1), .val (.int p2), .val (.int p3), .val (.int (0 : Int32)), .val (.ref c1), .val (.ref r_738), .unset, .unset, .unset, .unset] [(.ref r_738), (.ref b744), (.ref b744)])) rfl (hb hby at_123) (by decide) (by decide)
      obtain ⟨b758, g758⟩ : ∃ z, z = h744.size := ⟨_, rfl⟩
      rw [← g758] at A758 D758 st758
      have F759 : Arv Z h744 c1 kc .char (4 : Int32) [(.int q0), (.int q1), (.int q2), (.int q3)] (.int (0 : Int32)) := (F745.ext E744)
      have ne760 : c1 ≠ b758 := Nat.ne_of_lt (Nat.lt_of_lt_of_le F759.lt (Nat.le_of_eq g758.symm))
      have F761 : Exa Z h744 r_738 "java/lang/String" := (Exa.ext E744 r738_1)
      have ne762 : r_738 ≠ b758 := Nat.ne_of_lt (Nat.lt_of_lt_of_le F761.lt (Nat.le_of_eq g758.symm))
      have F763 : ArF Z h744 t_738 kb_738 .byte 0 (fun i => ((fun i => ([] : List Int32).getD i (0 : Int32)) i).toInt8.toInt32) := (r738_4.ext E744)
      have ne764 : t_738 ≠ b758 := Nat.ne_of_lt (Nat.lt_of_lt_of_le F763.lt (Nat.le_of_eq g758.symm))
      have ne765 : b744 ≠ b758 := Nat.ne_of_lt (Nat.lt_of_lt_of_le A744.lt (Nat.le_of_eq g758.symm))
      have g766 : n0 ≤ b758 := Nat.le_trans (own_le O751) (Nat.le_of_eq g758.symm)
      have z767 : h0.size ≤ b758 := Nat.le_trans K753.1 (Nat.le_of_eq g758.symm)
      have O768 := Old.ext O751 E758
      have hk769 := Nat.le_trans hk752 E758.1
      have K770 : Keep h0 h758 [] := K753.ext E758
      have c771 := CHr.ext E758 C755.1
      have C772 := CHr.trans C755 c771
      have F773 : Fld Z h758 b758 "java/util/AbstractList" "modCount" "I" (.int (0 : Int32)) := D758 (Or.inl (wk hw 50 rfl)) (ty := .int) (by decide)
      have F774 : Fld Z h758 b758 "java/util/ArrayList" "elementData" "[Ljava/lang/Object;" .null := D758 (Or.inl (wk hw 53 rfl)) (ty := (.array (.object "java/lang/Object"))) (by decide)
      refine WinW.to T758 (mkF m 126 #[.val (.int p0), .val (.int p1), .val (.int p2), .val (.int p3), .val (.int (0 : Int32)), .val (.ref c1), .val (.ref r_738), .unset, .unset, .unset, .unset] [(.ref b758), (.ref r_738), (.ref b744), (.ref b744)]) (fun _ k => st758 _ k) ?_
      refine WinW.to T758 (mkF m 127 #[.val (.int p0), .val (.int p1), .val (.int p2), .val (.int p3), .val (.int (0 : Int32)), .val (.ref c1), .val (.ref r_738), .unset, .unset, .unset, .unset] [(.ref b758), (.ref b758), (.ref r_738), (.ref b744), (.ref b744)]) (fun _ k => XS.dup X758.here hx rfl (hb hby at_126) rfl rfl k) ?_
      obtain ⟨T775, h775, v775, L775, X775, e775, ⟨rfl, N775q, r775_0⟩, st775⟩ := N.special X758 hx hZ738 (y := (⟨"java/util/ArrayList", "<init>", "()V"⟩ : MethodName)) rfl hown738 (wk hw 33 rfl) (wk hw 34 rfl) (wk hw 32 rfl) (wk hw 35 rfl) (by decide) (mkAL l Z a0 hw b758 x2 h758 n0 O768 A758 F773 F774 g766 S_DE hx2) e758 (g := (mkF m 127 #[.val (.int p0), .val (.int p1), .val (.int p2), .val (.int p3), .val (.int (0 : Int32)), .val (.ref c1), .val (.ref r_738), .unset, .unset, .unset, .unset] [(.ref b758), (.ref b758), (.ref r_738), (.ref b744), (.ref b744)])) rfl (by rw [hml]; rfl) (a := b758) (argsL := []) (rest := [(.ref b758), (.ref r_738), (.ref b744), (.ref b744)]) rfl (lenOf pd___V rfl) rfl (W := 4) (by show 2 * 0 + _ ≤ _; exact Nat.le_of_eq rfl) (hb hby at_127) (by decide) (by decide) (by decide) (by decide)
      have N776 := Fr.app N739 N775q
      have O777 := Old.keep O768 r775_0 (allS g766 all0)
      have hk778 := Nat.le_trans hk769 r775_0.1
      have K779 : Keep h0 h775 [] := Keep.trans K770 r775_0 (allS (Or.inr z767) all0)
      have c780 := CHr.keep r775_0 (sfS (Safe.exa hZ738.alike A758 (by decide) (by decide)) sf0) C772.1
      have C781 := CHr.trans C772 c780
      refine WinW.to T775 (mkF m 130 #[.val (.int p0), .val (.int p1), .val (.int p2), .val (.int p3), .val (.int (0 : Int32)), .val (.ref c1), .val (.ref r_738), .unset, .unset, .unset, .unset] [(.ref b758), (.ref r_738), (.ref b744), (.ref b744)]) (fun _ k => st775 _ k) ?_
      have F782 : Exa Z h775 b744 "com/example/grantgate/grantgate/server/MessageReader$Head" := ((Exa.ext E758 A744).keep r775_0)
      have F783 : Fld Z h775 b744 "com/example/grantgate/grantgate/server/MessageReader$Head" "startLine" "Ljava/lang/String;" .null := ((Fld.ext E758 F756).keep r775_0 (ninS ne765 nin0))
      have F784 : Fld Z h775 b744 "com/example/grantgate/grantgate/server/MessageReader$Head" "fields" "Ljava/util/List;" .null := ((Fld.ext E758 F757).keep r775_0 (ninS ne765 nin0))
      obtain ⟨T785, h785, v785, L785, X785, e785, ⟨rfl, N785q, r785_0, r785_1⟩, st785⟩ := N.special X775 hx hZ738 (y := (⟨"com/example/grantgate/grantgate/server/MessageReader$Head", "<init>", "(Ljava/lang/String;Ljava/util/List;)V"⟩ : MethodName)) rfl hown738 (wk hw 54 rfl) (wk hw 55 rfl) (wk hw 29 rfl) (wk hw 56 rfl) (by decide) (mkHead l Z a0 hw b744 r_738 b758 h775 n0 O777 F782 F783 F784 g749) e775 (g := (mkF m 130 #[.val (.int p0), .val (.int p1), .val (.int p2), .val (.int p3), .val (.int (0 : Int32)), .val (.ref c1), .val (.ref r_738), .unset, .unset, .unset, .unset] [(.ref b758), (.ref r_738), (.ref b744), (.ref b744)])) rfl (by rw [hml]; rfl) (a := b744) (argsL := [(.ref r_738), (.ref b758)]) (rest := [(.ref b744)]) rfl (lenOf pd__Ljava_lang_String_Ljava_util_List__V rfl) rfl (W := 1) (by show 2 * 0 + _ ≤ _; exact Nat.le_of_eq rfl) (hb hby at_130) (by decide) (by decide) (by decide) (by decide)
      have N786 := Fr.app N776 N785q
      have O787 := Old.keep O777 r785_0 (allS g749 all0)
      have hk788 := Nat.le_trans hk778 r785_0.1
      have K789 : Keep h0 h785 [] := Keep.trans K779 r785_0 (allS (Or.inr z750) all0)
      have c790 := CHr.keep r785_0 (sfS (Safe.exa hZ738.alike F782 (by decide) (by decide)) sf0) C781.1
      have C791 := CHr.trans C781 c790
      refine WinW.to T785 (mkF m 133 #[.val (.int p0), .val (.int p1), .val (.int p2), .val (.int p3), .val (.int (0 : Int32)), .val (.ref c1), .val (.ref r_738), .unset, .unset, .unset, .unset] [(.ref b744)]) (fun _ k => st785 _ k) ?_
      refine WinW.to T785 (mkF m 135 #[.val (.int p0), .val (.int p1), .val (.int p2), .val (.int p3), .val (.int (0 : Int32)), .val (.ref c1), .val (.ref r_738), .val (.ref b744), .unset, .unset, .unset] []) (fun _ k => XS.astore X785.here hx rfl (hb hby at_133) rfl rfl (l' := #[.val (.int p0), .val (.int p1), .val (.int p2), .val (.int p3), .val (.int (0 : Int32)), .val (.ref c1), .val (.ref r_738), .val (.ref b744), .unset, .unset, .unset]) rfl k) ?_
      refine WinW.to T785 (mkF m 137 #[.val (.int p0), .val (.int p1), .val (.int p2), .val (.int p3), .val (.int (0 : Int32)), .val (.ref c1), .val (.ref r_738), .val (.ref b744), .unset, .unset, .unset] [(.ref b744)]) (fun _ k => XS.aload X785.here hx rfl (hb hby at_135) rfl rfl k) ?_
      have F792 : Exa Z h785 r_738 "java/lang/String" := (((Exa.ext E758 F761).keep r775_0).keep r785_0)
      have F793 : Fld Z h785 r_738 "java/lang/String" "value" "[B" (.ref t_738) := (((Fld.ext E758 (Fld.ext E744 r738_2)).keep r775_0 (ninS ne762 nin0)).keep r785_0 (ninS ne747 nin0))
      have F794 : Fld Z h785 r_738 "java/lang/String" "coder" "B" (.int (0 : Int32)) := (((Fld.ext E758 (Fld.ext E744 r738_3)).keep r775_0 (ninS ne762 nin0)).keep r785_0 (ninS ne747 nin0))
      have F795 : ArF Z h785 t_738 kb_738 .byte 0 (fun i => ((fun i => ([] : List Int32).getD i (0 : Int32)) i).toInt8.toInt32) := (((F763.ext E758).keep r775_0 (ninS ne764 nin0)).keep r785_0 (ninS ne748 nin0))
      have F797 : Exa Z h785 b744 "com/example/grantgate/grantgate/server/MessageReader$Head" := (F782.keep r785_0)
      obtain ⟨T796, h796, v796, L796, k796, X796, e796, hS796, hk796, hZ796, hown796, ⟨r_796, t2_796, k2_796, rfl, N796q, r796_0, r796_1, r796_2, r796_3, r796_4⟩, c796, st796⟩ := W.virtual X785 hS738 hk788 hx hZ738 (y := (⟨"com/example/grantgate/grantgate/server/MessageReader$Head", "version", "()Ljava/lang/String;"⟩ : MethodName)) (z := (⟨"com/example/grantgate/grantgate/server/MessageReader$Head", "version", "()Ljava/lang/String;"⟩ : MethodName)) hown738 (wk hw 67 rfl) (wk hw 68 rfl) (notFace_of_selects (args := #[]) (mvT hZ738 (wk hw 70 rfl))) (wk hw 70 rfl) (wk hw 69 rfl) (wk hw 29 rfl) (wk hw 71 rfl) (by decide) (headV l Z a0 hw b744 r_738 t_738 kb_738 0 (fun i => ((fun i => ([] : List Int32).getD i (0 : Int32)) i).toInt8.toInt32) 0 cs x1 h785 n0 O787 r785_1 F792 F793 F794 F795 (by decide) (fun i hb hi => absurd hi (Nat.not_lt_zero _)) (fun q => absurd q (Nat.lt_irrefl _)) (by decide) S_CS hcs S_SI hx1) (own_EW hw) C791.1 e785 F797 (g := (mkF m 137 #[.val (.int p0), .val (.int p1), .val (.int p2), .val (.int p3), .val (.int (0 : Int32)), .val (.ref c1), .val (.ref r_738), .val (.ref b744), .unset, .unset, .unset] [(.ref b744)])) rfl (by rw [hml]; rfl) (argsL := []) (rest := []) rfl (lenOf pd___Ljava_lang_String_ rfl) rfl (W := 0) (by show 2 * 0 + _ ≤ _; exact Nat.le_of_eq rfl) (hb hby at_137) (by decide) (by decide) (by decide) (by decide)
      have N798 := Fr.app N786 N796q
      have O799 := Old.keep O787 r796_0 all0
      have K800 : Keep h0 h796 [] := Keep.trans K789 r796_0 all0
      have c801 := c796
      have C802 := CHr.trans C791 c801
      refine WinW.to T796 (mkF m 140 #[.val (.int p0), .val (.int p1), .val (.int p2), .val (.int p3), .val (.int (0 : Int32)), .val (.ref c1), .val (.ref r_738), .val (.ref b744), .unset, .unset, .unset] [(.ref r_796)]) (fun _ k => st796 _ k) ?_
      refine WinW.to T796 (mkF m 142 #[.val (.int p0), .val (.int p1), .val (.int p2), .val (.int p3), .val (.int (0 : Int32)), .val (.ref c1), .val (.ref r_738), .val (.ref b744), .val (.ref r_796), .unset, .unset] []) (fun _ k => XS.astore X796.here hx rfl (hb hby at_140) rfl rfl (l' := #[.val (.int p0), .val (.int p1), .val (.int p2), .val (.int p3), .val (.int (0 : Int32)), .val (.ref c1), .val (.ref r_738), .val (.ref b744), .val (.ref r_796), .unset, .unset]) rfl k) ?_
      refine WinW.to T796 (mkF m 143 #[.val (.int p0), .val (.int p1), .val (.int p2), .val (.int p3), .val (.int (0 : Int32)), .val (.ref c1), .val (.ref r_738), .val (.ref b744), .val (.ref r_796), .unset, .unset] [(.int (-1 : Int32))]) (fun _ k => XS.iconst X796.here hx rfl (hb hby at_142) k) ?_
      refine WinW.to T796 (mkF m 145 #[.val (.int p0), .val (.int p1), .val (.int p2), .val (.int p3), .val (.int (0 : Int32)), .val (.ref c1), .val (.ref r_738), .val (.ref b744), .val (.ref r_796), .val (.int (-1 : Int32)), .unset] []) (fun _ k => XS.istore X796.here hx rfl (hb hby at_143) rfl (l' := #[.val (.int p0), .val (.int p1), .val (.int p2), .val (.int p3), .val (.int (0 : Int32)), .val (.ref c1), .val (.ref r_738), .val (.ref b744), .val (.ref r_796), .val (.int (-1 : Int32)), .unset]) rfl k) ?_
      refine WinW.to T796 (mkF m 147 #[.val (.int p0), .val (.int p1), .val (.int p2), .val (.int p3), .val (.int (0 : Int32)), .val (.ref c1), .val (.ref r_738), .val (.ref b744), .val (.ref r_796), .val (.int (-1 : Int32)), .unset] [(.int (0 : Int32))]) (fun _ k => XS.iload X796.here hx rfl (hb hby at_145) rfl k) ?_
      refine WinW.to T796 (mkF m 162 #[.val (.int p0), .val (.int p1), .val (.int p2), .val (.int p3), .val (.int (0 : Int32)), .val (.ref c1), .val (.ref r_738), .val (.ref b744), .val (.ref r_796), .val (.int (-1 : Int32)), .unset] []) (fun _ k => XS.ifYes X796.here hx rfl (pc0 := 147) (pc' := 162) rfl (hb hby at_147) rfl ((if0 _ _).trans (flt (show ¬ ((0 : Int32) < (0 : Int32)) from by decide)).2.2.2) (by decide) (by decide) k) ?_
      refine WinW.to T796 (mkF m 164 #[.val (.int p0), .val (.int p1), .val (.int p2), .val (.int p3), .val (.int (0 : Int32)), .val (.ref c1), .val (.ref r_738), .val (.ref b744), .val (.ref r_796), .val (.int (-1 : Int32)), .unset] [(.int (0 : Int32))]) (fun _ k => XS.iload X796.here hx rfl (hb hby at_162) rfl k) ?_
      refine WinW.to T796 (mkF m 165 #[.val (.int p0), .val (.int p1), .val (.int p2), .val (.int p3), .val (.int (0 : Int32)), .val (.ref c1), .val (.ref r_738), .val (.ref b744), .val (.ref r_796), .val (.int (-1 : Int32)), .unset] [(.int (1 : Int32)), (.int (0 : Int32))]) (fun _ k => XS.iconst X796.here hx rfl (hb hby at_164) k) ?_
      refine WinW.to T796 (mkF m 180 #[.val (.int p0), .val (.int p1), .val (.int p2), .val (.int p3), .val (.int (0 : Int32)), .val (.ref c1), .val (.ref r_738), .val (.ref b744), .val (.ref r_796), .val (.int (-1 : Int32)), .unset] []) (fun _ k => XS.icmpYes X796.here hx rfl (pc0 := 165) (pc' := 180) rfl (hb hby at_165) rfl (flt (show ¬ ((1 : Int32) < (0 : Int32)) from by decide)).2.2.2 (by decide) (by decide) k) ?_
      refine WinW.to T796 (mkF m 182 #[.val (.int p0), .val (.int p1), .val (.int p2), .val (.int p3), .val (.int (0 : Int32)), .val (.ref c1), .val (.ref r_738), .val (.ref b744), .val (.ref r_796), .val (.int (-1 : Int32)), .unset] [(.int (0 : Int32))]) (fun _ k => XS.iload X796.here hx rfl (hb hby at_180) rfl k) ?_
      refine WinW.to T796 (mkF m 183 #[.val (.int p0), .val (.int p1), .val (.int p2), .val (.int p3), .val (.int (0 : Int32)), .val (.ref c1), .val (.ref r_738), .val (.ref b744), .val (.ref r_796), .val (.int (-1 : Int32)), .unset] [(.int (2 : Int32)), (.int (0 : Int32))]) (fun _ k => XS.iconst X796.here hx rfl (hb hby at_182) k) ?_
      refine WinW.to T796 (mkF m 198 #[.val (.int p0), .val (.int p1), .val (.int p2), .val (.int p3), .val (.int (0 : Int32)), .val (.ref c1), .val (.ref r_738), .val (.ref b744), .val (.ref r_796), .val (.int (-1 : Int32)), .unset] []) (fun _ k => XS.icmpYes X796.here hx rfl (pc0 := 183) (pc' := 198) rfl (hb hby at_183) rfl (flt (show ¬ ((2 : Int32) < (0 : Int32)) from by decide)).2.2.2 (by decide) (by decide) k) ?_
      refine WinW.to T796 (mkF m 200 #[.val (.int p0), .val (.int p1), .val (.int p2), .val (.int p3), .val (.int (0 : Int32)), .val (.ref c1), .val (.ref r_738), .val (.ref b744), .val (.ref r_796), .val (.int (-1 : Int32)), .unset] [(.int (0 : Int32))]) (fun _ k => XS.iload X796.here hx rfl (hb hby at_198) rfl k) ?_
      refine WinW.to T796 (mkF m 201 #[.val (.int p0), .val (.int p1), .val (.int p2), .val (.int p3), .val (.int (0 : Int32)), .val (.ref c1), .val (.ref r_738), .val (.ref b744), .val (.ref r_796), .val (.int (-1 : Int32)), .unset] [(.int (3 : Int32)), (.int (0 : Int32))]) (fun _ k => XS.iconst X796.here hx rfl (hb hby at_200) k) ?_
      refine WinW.to T796 (mkF m 216 #[.val (.int p0), .val (.int p1), .val (.int p2), .val (.int p3), .val (.int (0 : Int32)), .val (.ref c1), .val (.ref r_738), .val (.ref b744), .val (.ref r_796), .val (.int (-1 : Int32)), .unset] []) (fun _ k => XS.icmpYes X796.here hx rfl (pc0 := 201) (pc' := 216) rfl (hb hby at_201) rfl (flt (show ¬ ((3 : Int32) < (0 : Int32)) from by decide)).2.2.2 (by decide) (by decide) k) ?_
      have F803 : Arv Z h796 c1 kc .char (4 : Int32) [(.int q0), (.int q1), (.int q2), (.int q3)] (.int (0 : Int32)) := ((((F759.ext E758).keep r775_0 (ninS ne760 nin0)).keep r785_0 (ninS ne746 nin0)).keep r796_0 nin0)
      exact Jc216 _ _ T796 _ h796 (X796.mono (by decide) (by decide)) N798 e796 O799 K800 hS796 hk796 hZ796 hown796 C802 r_796 (-1 : Int32) t2_796 k2_796 0 (fun i => (fun i => ((fun i => ([] : List Int32).getD i (0 : Int32)) i).toInt8.toInt32) (0 + i)) 0 0 (.val (.ref r_738)) (.val (.ref b744)) r796_1 r796_2 r796_3 r796_4 F803 (by decide) (by decide) (by decide) (fun i hi => absurd hi (Nat.not_lt_zero _)) (by decide)
    · rw [hk]
      refine WinW.to Tc108 (mkF m 110 #[.val (.int p0), .val (.int p1), .val (.int p2), .val (.int p3), .val (.int (1 : Int32)), .val (.ref c1), .unset, .unset, .unset, .unset, .unset] [(.int (1 : Int32))]) (fun _ k => XS.iload Xc108.here hx rfl (hb hby at_108) rfl k) ?_
      refine WinW.to Tc108 (mkF m 112 #[.val (.int p0), .val (.int p1), .val (.int p2), .val (.int p3), .val (.int (1 : Int32)), .val (.ref c1), .unset, .unset, .unset, .unset, .unset] [(.ref c1), (.int (1 : Int32))]) (fun _ k => XS.aload Xc108.here hx rfl (hb hby at_110) rfl rfl k) ?_
      obtain ⟨T804, h804, v804, L804, k804, X804, e804, hS804, hk804, hZ804, hown804, ⟨r_804, t_804, kb_804, rfl, N804q, r804_0, r804_1, r804_2, r804_3, r804_4⟩, c804, st804⟩ := W.static Xc108 hSc108 hkc108 hx hZc108 (y := (⟨"com/example/grantgate/grantgate/server/HeadVersionPinLaw", "make", "(I[C)Ljava/lang/String;"⟩ : MethodName)) hownc108 (wk hw 2 rfl) (wk hw 3 rfl) (wk hw 4 rfl) (wk hw 5 rfl) (by decide) (make1 l Z a0 hw c1 kc q0 q1 q2 q3 cs hc108 n0 Oc108 Fc108_0 hcq0 hcq1 hcq2 hcq3 hlq0 hlq1 hlq2 hlq3 S_CS hcs) (own_EW hw) Cc108.1 ec108 (g := (mkF m 112 #[.val (.int p0), .val (.int p1), .val (.int p2), .val (.int p3), .val (.int (1 : Int32)), .val (.ref c1), .unset, .unset, .unset, .unset, .unset] [(.ref c1), (.int (1 : Int32))])) rfl (by rw [hml]; rfl) (argsL := [(.int (1 : Int32)), (.ref c1)]) (rest := []) rfl (lenOf pd__I_C_Ljava_lang_String_ rfl) rfl (W := 0) (by show 2 * 0 + _ ≤ _; exact Nat.le_of_eq rfl) (hb hby at_112) (by decide) (by decide) (by decide) (by decide)
      have N805 := Fr.app Nc108 N804q
      have O806 := Old.keep Oc108 r804_0 all0
      have K807 : Keep h0 h804 [] := Keep.trans Kc108 r804_0 all0
      have c808 := c804
      have C809 := CHr.trans Cc108 c808
      refine WinW.to T804 (mkF m 115 #[.val (.int p0), .val (.int p1), .val (.int p2), .val (.int p3), .val (.int (1 : Int32)), .val (.ref c1), .unset, .unset, .unset, .unset, .unset] [(.ref r_804)]) (fun _ k => st804 _ k) ?_
      refine WinW.to T804 (mkF m 117 #[.val (.int p0), .val (.int p1), .val (.int p2), .val (.int p3), .val (.int (1 : Int32)), .val (.ref c1), .val (.ref r_804), .unset, .unset, .unset, .unset] []) (fun _ k => XS.astore X804.here hx rfl (hb hby at_115) rfl rfl (l' := #[.val (.int p0), .val (.int p1), .val (.int p2), .val (.int p3), .val (.int (1 : Int32)), .val (.ref c1), .val (.ref r_804), .unset, .unset, .unset, .unset]) rfl k) ?_
      obtain ⟨T810, h810, X810, e810, E810, A810, D810, -, st810⟩ := newO X804 hx hZ804 hown804 (wk hw 27 rfl) (wk hw 28 rfl) (wk hw 29 rfl) e804 (g := (mkF m 117 #[.val (.int p0), .val (.int p1), .val (.int p2), .val (.int p3), .val (.int (1 : Int32)), .val (.ref c1), .val (.ref r_804), .unset, .unset, .unset, .unset] [])) rfl (hb hby at_117) (by decide) (by decide)
      obtain ⟨b810, g810⟩ : ∃ z, z = h804.size := ⟨_, rfl⟩
      rw [← g810] at A810 D810 st810
      have F811 : Arv Z h804 c1 kc .char (4 : Int32) [(.int q0), (.int q1), (.int q2), (.int q3)] (.int (0 : Int32)) := (Fc108_0.keep r804_0 nin0)
      have ne812 : c1 ≠ b810 := Nat.ne_of_lt (Nat.lt_of_lt_of_le F811.lt (Nat.le_of_eq g810.symm))
      have ne813 : r_804 ≠ b810 := Nat.ne_of_lt (Nat.lt_of_lt_of_le r804_1.lt (Nat.le_of_eq g810.symm))
      have ne814 : t_804 ≠ b810 := Nat.ne_of_lt (Nat.lt_of_lt_of_le r804_4.lt (Nat.le_of_eq g810.symm))
      have g815 : n0 ≤ b810 := Nat.le_trans (own_le O806) (Nat.le_of_eq g810.symm)
      have z816 : h0.size ≤ b810 := Nat.le_trans K807.1 (Nat.le_of_eq g810.symm)
      have O817 := Old.ext O806 E810
      have hk818 := Nat.le_trans hk804 E810.1
      have K819 : Keep h0 h810 [] := K807.ext E810
      have c820 := CHr.ext E810 C809.1
      have C821 := CHr.trans C809 c820
      have F822 : Fld Z h810 b810 "com/example/grantgate/grantgate/server/MessageReader$Head" "startLine" "Ljava/lang/String;" .null := D810 (Or.inr (wk hw 64 rfl)) (ty := (.object "java/lang/String")) (by decide)
      have F823 : Fld Z h810 b810 "com/example/grantgate/grantgate/server/MessageReader$Head" "fields" "Ljava/util/List;" .null := D810 (Or.inr (wk hw 66 rfl)) (ty := (.object "java/util/List")) (by decide)
      refine WinW.to T810 (mkF m 120 #[.val (.int p0), .val (.int p1), .val (.int p2), .val (.int p3), .val (.int (1 : Int32)), .val (.ref c1), .val (.ref r_804), .unset, .unset, .unset, .unset] [(.ref b810)]) (fun _ k => st810 _ k) ?_
      refine WinW.to T810 (mkF m 121 #[.val (.int p0), .val (.int p1), .val (.int p2), .val (.int p3), .val (.int (1 : Int32)), .val (.ref c1), .val (.ref r_804), .unset, .unset, .unset, .unset] [(.ref b810), (.ref b810)]) (fun _ k => XS.dup X810.here hx rfl (hb hby at_120) rfl rfl k) ?_
      refine WinW.to T810 (mkF m 123 #[.val (.int p0), .val (.int p1), .val (.int p2), .val (.int p3), .val (.int (1 : Int32)), .val (.ref c1), .val (.ref r_804), .unset, .unset, .unset, .unset] [(.ref r_804), (.ref b810), (.ref b810)]) (fun _ k => XS.aload X810.here hx rfl (hb hby at_121) rfl rfl k) ?_
      obtain ⟨T824, h824, X824, e824, E824, A824, D824, -, st824⟩ := newO X810 hx hZ804 hown804 (wk hw 30 rfl) (wk hw 31 rfl) (wk hw 32 rfl) e810 (g := (mkF m 123 #[.val (.int p0), .val (.int p1), .val (.int p2), .val (.int p3), .val (.int (1 : Int32)), .val (.ref c1), .val (.ref r_804), .unset, .unset, .unset, .unset] [(.ref r_804), (.ref b810), (.ref b810)])) rfl (hb hby at_123) (by decide) (by decide)
      obtain ⟨b824, g824⟩ : ∃ z, z = h810.size := ⟨_, rfl⟩
      rw [← g824] at A824 D824 st824
      have F825 : Arv Z h810 c1 kc .char (4 : Int32) [(.int q0), (.int q1), (.int q2), (.int q3)] (.int (0 : Int32)) := (F811.ext E810)
      have ne826 : c1 ≠ b824 := Nat.ne_of_lt (Nat.lt_of_lt_of_le F825.lt (Nat.le_of_eq g824.symm))
      have F827 : Exa Z h810 r_804 "java/lang/String" := (Exa.ext E810 r804_1)
      have ne828 : r_804 ≠ b824 := Nat.ne_of_lt (Nat.lt_of_lt_of_le F827.lt (Nat.le_of_eq g824.symm))
      have F829 : ArF Z h810 t_804 kb_804 .byte 1 (fun i => ((fun i => ([q0] : List Int32).getD i (0 : Int32)) i).toInt8.toInt32) := (r804_4.ext E810)
      have ne830 : t_804 ≠ b824 := Nat.ne_of_lt (Nat.lt_of_lt_of_le F829.lt (Nat.le_of_eq g824.symm))
      have ne831 : b810 ≠ b824 := Nat.ne_of_lt (Nat.lt_of_lt_of_le A810.lt (Nat.le_of_eq g824.symm))
      have g832 : n0 ≤ b824 := Nat.le_trans (own_le O817) (Nat.le_of_eq g824.symm)
      have z833 : h0.size ≤ b824 := Nat.le_trans K819.1 (Nat.le_of_eq g824.symm)
      have O834 := Old.ext O817 E824
      have hk835 := Nat.le_trans hk818 E824.1
      have K836 : Keep h0 h824 [] := K819.ext E824
      have c837 := CHr.ext E824 C821.1
      have C838 := CHr.trans C821 c837
      have F839 : Fld Z h824 b824 "java/util/AbstractList" "modCount" "I" (.int (0 : Int32)) := D824 (Or.inl (wk hw 50 rfl)) (ty := .int) (by decide)
      have F840 : Fld Z h824 b824 "java/util/ArrayList" "elementData" "[Ljava/lang/Object;" .null := D824 (Or.inl (wk hw 53 rfl)) (ty := (.array (.object "java/lang/Object"))) (by decide)
      refine WinW.to T824 (mkF m 126 #[.val (.int p0), .val (.int p1), .val (.int p2), .val (.int p3), .val (.int (1 : Int32)), .val (.ref c1), .val (.ref r_804), .unset, .unset, .unset, .unset] [(.ref b824), (.ref r_804), (.ref b810), (.ref b810)]) (fun _ k => st824 _ k) ?_
      refine WinW.to T824 (mkF m 127 #[.val (.int p0), .val (.int p1), .val (.int p2), .val (.int p3), .val (.int (1 : Int32)), .val (.ref c1), .val (.ref r_804), .unset, .unset, .unset, .unset] [(.ref b824), (.ref b824), (.ref r_804), (.ref b810), (.ref b810)]) (fun _ k => XS.dup X824.here hx rfl (hb hby at_126) rfl rfl k) ?_
      obtain ⟨T841, h841, v841, L841, X841, e841, ⟨rfl, N841q, r841_0⟩, st841⟩ := N.special X824 hx hZ804 (y := (⟨"java/util/ArrayList", "<init>", "()V"⟩ : MethodName)) rfl hown804 (wk hw 33 rfl) (wk hw 34 rfl) (wk hw 32 rfl) (wk hw 35 rfl) (by decide) (mkAL l Z a0 hw b824 x2 h824 n0 O834 A824 F839 F840 g832 S_DE hx2) e824 (g := (mkF m 127 #[.val (.int p0), .val (.int p1), .val (.int p2), .val (.int p3), .val (.int (1 : Int32)), .val (.ref c1), .val (.ref r_804), .unset, .unset, .unset, .unset] [(.ref b824), (.ref b824), (.ref r_804), (.ref b810), (.ref b810)])) rfl (by rw [hml]; rfl) (a := b824) (argsL := []) (rest := [(.ref b824), (.ref r_804), (.ref b810), (.ref b810)]) rfl (lenOf pd___V rfl) rfl (W := 4) (by show 2 * 0 + _ ≤ _; exact Nat.le_of_eq rfl) (hb hby at_127) (by decide) (by decide) (by decide) (by decide)
      have N842 := Fr.app N805 N841q
      have O843 := Old.keep O834 r841_0 (allS g832 all0)
      have hk844 := Nat.le_trans hk835 r841_0.1
      have K845 : Keep h0 h841 [] := Keep.trans K836 r841_0 (allS (Or.inr z833) all0)
      have c846 := CHr.keep r841_0 (sfS (Safe.exa hZ804.alike A824 (by decide) (by decide)) sf0) C838.1
      have C847 := CHr.trans C838 c846
      refine WinW.to T841 (mkF m 130 #[.val (.int p0), .val (.int p1), .val (.int p2), .val (.int p3), .val (.int (1 : Int32)), .val (.ref c1), .val (.ref r_804), .unset, .unset, .unset, .unset] [(.ref b824), (.ref r_804), (.ref b810), (.ref b810)]) (fun _ k => st841 _ k) ?_
      have F848 : Exa Z h841 b810 "com/example/grantgate/grantgate/server/MessageReader$Head" := ((Exa.ext E824 A810).keep r841_0)
      have F849 : Fld Z h841 b810 "com/example/grantgate/grantgate/server/MessageReader$Head" "startLine" "Ljava/lang/String;" .null := ((Fld.ext E824 F822).keep r841_0 (ninS ne831 nin0))
      have F850 : Fld Z h841 b810 "com/example/grantgate/grantgate/server/MessageReader$Head" "fields" "Ljava/util/List;" .null := ((Fld.ext E824 F823).keep r841_0 (ninS ne831 nin0))
      obtain ⟨T851, h851, v851, L851, X851, e851, ⟨rfl, N851q, r851_0, r851_1⟩, st851⟩ := N.special X841 hx hZ804 (y := (⟨"com/example/grantgate/grantgate/server/MessageReader$Head", "<init>", "(Ljava/lang/String;Ljava/util/List;)V"⟩ : MethodName)) rfl hown804 (wk hw 54 rfl) (wk hw 55 rfl) (wk hw 29 rfl) (wk hw 56 rfl) (by decide) (mkHead l Z a0 hw b810 r_804 b824 h841 n0 O843 F848 F849 F850 g815) e841 (g := (mkF m 130 #[.val (.int p0), .val (.int p1), .val (.int p2), .val (.int p3), .val (.int (1 : Int32)), .val (.ref c1), .val (.ref r_804), .unset, .unset, .unset, .unset] [(.ref b824), (.ref r_804), (.ref b810), (.ref b810)])) rfl (by rw [hml]; rfl) (a := b810) (argsL := [(.ref r_804), (.ref b824)]) (rest := [(.ref b810)]) rfl (lenOf pd__Ljava_lang_String_Ljava_util_List__V rfl) rfl (W := 1) (by show 2 * 0 + _ ≤ _; exact Nat.le_of_eq rfl) (hb hby at_130) (by decide) (by decide) (by decide) (by decide)
      have N852 := Fr.app N842 N851q
      have O853 := Old.keep O843 r851_0 (allS g815 all0)
      have hk854 := Nat.le_trans hk844 r851_0.1
      have K855 : Keep h0 h851 [] := Keep.trans K845 r851_0 (allS (Or.inr z816) all0)
      have c856 := CHr.keep r851_0 (sfS (Safe.exa hZ804.alike F848 (by decide) (by decide)) sf0) C847.1
      have C857 := CHr.trans C847 c856
      refine WinW.to T851 (mkF m 133 #[.val (.int p0), .val (.int p1), .val (.int p2), .val (.int p3), .val (.int (1 : Int32)), .val (.ref c1), .val (.ref r_804), .unset, .unset, .unset, .unset] [(.ref b810)]) (fun _ k => st851 _ k) ?_
      refine WinW.to T851 (mkF m 135 #[.val (.int p0), .val (.int p1), .val (.int p2), .val (.int p3), .val (.int (1 : Int32)), .val (.ref c1), .val (.ref r_804), .val (.ref b810), .unset, .unset, .unset] []) (fun _ k => XS.astore X851.here hx rfl (hb hby at_133) rfl rfl (l' := #[.val (.int p0), .val (.int p1), .val (.int p2), .val (.int p3), .val (.int (1 : Int32)), .val (.ref c1), .val (.ref r_804), .val (.ref b810), .unset, .unset, .unset]) rfl k) ?_
      by_cases hq0 : q0 = (32 : Int32)
      · refine WinW.to T851 (mkF m 137 #[.val (.int p0), .val (.int p1), .val (.int p2), .val (.int p3), .val (.int (1 : Int32)), .val (.ref c1), .val (.ref r_804), .val (.ref b810), .unset, .unset, .unset] [(.ref b810)]) (fun _ k => XS.aload X851.here hx rfl (hb hby at_135) rfl rfl k) ?_
        have F858 : Exa Z h851 r_804 "java/lang/String" := (((Exa.ext E824 F827).keep r841_0).keep r851_0)
        have F859 : Fld Z h851 r_804 "java/lang/String" "value" "[B" (.ref t_804) := (((Fld.ext E824 (Fld.ext E810 r804_2)).keep r841_0 (ninS ne828 nin0)).keep r851_0 (ninS ne813 nin0))
        have F860 : Fld Z h851 r_804 "java/lang/String" "coder" "B" (.int (0 : Int32)) := (((Fld.ext E824 (Fld.ext E810 r804_3)).keep r841_0 (ninS ne828 nin0)).keep r851_0 (ninS ne813 nin0))
        have F861 : ArF Z h851 t_804 kb_804 .byte 1 (fun i => ((fun i => ([q0] : List Int32).getD i (0 : Int32)) i).toInt8.toInt32) := (((F829.ext E824).keep r841_0 (ninS ne830 nin0)).keep r851_0 (ninS ne814 nin0))
        have F863 : Exa Z h851 b810 "com/example/grantgate/grantgate/server/MessageReader$Head" := (F848.keep r851_0)
        obtain ⟨T862, h862, v862, L862, k862, X862, e862, hS862, hk862, hZ862, hown862, ⟨r_862, t2_862, k2_862, rfl, N862q, r862_0, r862_1, r862_2, r862_3, r862_4⟩, c862, st862⟩ := W.virtual X851 hS804 hk854 hx hZ804 (y := (⟨"com/example/grantgate/grantgate/server/MessageReader$Head", "version", "()Ljava/lang/String;"⟩ : MethodName)) (z := (⟨"com/example/grantgate/grantgate/server/MessageReader$Head", "version", "()Ljava/lang/String;"⟩ : MethodName)) hown804 (wk hw 67 rfl) (wk hw 68 rfl) (notFace_of_selects (args := #[]) (mvT hZ804 (wk hw 70 rfl))) (wk hw 70 rfl) (wk hw 69 rfl) (wk hw 29 rfl) (wk hw 71 rfl) (by decide) (headV l Z a0 hw b810 r_804 t_804 kb_804 1 (fun i => ((fun i => ([q0] : List Int32).getD i (0 : Int32)) i).toInt8.toInt32) 1 cs x1 h851 n0 O853 r851_1 F858 F859 F860 F861 (by decide) ((fun i hb hi => by
          match i, hb, hi with
          | 0, hb, _ => exact absurd hb (by decide))) (fun _ => (show q0.toInt8.toInt32 = (32 : Int32) from by rw [hq0]; decide)) (by decide) S_CS hcs S_SI hx1) (own_EW hw) C857.1 e851 F863 (g := (mkF m 137 #[.val (.int p0), .val (.int p1), .val (.int p2), .val (.int p3), .val (.int (1 : Int32)), .val (.ref c1), .val (.ref r_804), .val (.ref b810), .unset, .unset, .unset] [(.ref b810)])) rfl (by rw [hml]; rfl) (argsL := []) (rest := []) rfl (lenOf pd___Ljava_lang_String_ rfl) rfl (W := 0) (by show 2 * 0 + _ ≤ _; exact Nat.le_of_eq rfl) (hb hby at_137) (by decide) (by decide) (by decide) (by decide)
        have N864 := Fr.app N852 N862q
        have O865 := Old.keep O853 r862_0 all0
        have K866 : Keep h0 h862 [] := Keep.trans K855 r862_0 all0
        have c867 := c862
        have C868 := CHr.trans C857 c867
        refine WinW.to T862 (mkF m 140 #[.val (.int p0), .val (.int p1), .val (.int p2), .val (.int p3), .val (.int (1 : Int32)), .val (.ref c1), .val (.ref r_804), .val (.ref b810), .unset, .unset, .unset] [(.ref r_862)]) (fun _ k => st862 _ k) ?_
        refine WinW.to T862 (mkF m 142 #[.val (.int p0), .val (.int p1), .val (.int p2), .val (.int p3), .val (.int (1 : Int32)), .val (.ref c1), .val (.ref r_804), .val (.ref b810), .val (.ref r_862), .unset, .unset] []) (fun _ k => XS.astore X862.here hx rfl (hb hby at_140) rfl rfl (l' := #[.val (.int p0), .val (.int p1), .val (.int p2), .val (.int p3), .val (.int (1 : Int32)), .val (.ref c1), .val (.ref r_804), .val (.ref b810), .val (.ref r_862), .unset, .unset]) rfl k) ?_
        refine WinW.to T862 (mkF m 143 #[.val (.int p0), .val (.int p1), .val (.int p2), .val (.int p3), .val (.int (1 : Int32)), .val (.ref c1), .val (.ref r_804), .val (.ref b810), .val (.ref r_862), .unset, .unset] [(.int (-1 : Int32))]) (fun _ k => XS.iconst X862.here hx rfl (hb hby at_142) k) ?_
        refine WinW.to T862 (mkF m 145 #[.val (.int p0), .val (.int p1), .val (.int p2), .val (.int p3), .val (.int (1 : Int32)), .val (.ref c1), .val (.ref r_804), .val (.ref b810), .val (.ref r_862), .val (.int (-1 : Int32)), .unset] []) (fun _ k => XS.istore X862.here hx rfl (hb hby at_143) rfl (l' := #[.val (.int p0), .val (.int p1), .val (.int p2), .val (.int p3), .val (.int (1 : Int32)), .val (.ref c1), .val (.ref r_804), .val (.ref b810), .val (.ref r_862), .val (.int (-1 : Int32)), .unset]) rfl k) ?_
        refine WinW.to T862 (mkF m 147 #[.val (.int p0), .val (.int p1), .val (.int p2), .val (.int p3), .val (.int (1 : Int32)), .val (.ref c1), .val (.ref r_804), .val (.ref b810), .val (.ref r_862), .val (.int (-1 : Int32)), .unset] [(.int (1 : Int32))]) (fun _ k => XS.iload X862.here hx rfl (hb hby at_145) rfl k) ?_
        refine WinW.to T862 (mkF m 150 #[.val (.int p0), .val (.int p1), .val (.int p2), .val (.int p3), .val (.int (1 : Int32)), .val (.ref c1), .val (.ref r_804), .val (.ref b810), .val (.ref r_862), .val (.int (-1 : Int32)), .unset] []) (fun _ k => XS.ifNo X862.here hx rfl (hb hby at_147) rfl ((if0 _ _).trans (tlt (show (0 : Int32) < (1 : Int32) from by decide)).2.2.2) k) ?_
        refine WinW.to T862 (mkF m 152 #[.val (.int p0), .val (.int p1), .val (.int p2), .val (.int p3), .val (.int (1 : Int32)), .val (.ref c1), .val (.ref r_804), .val (.ref b810), .val (.ref r_862), .val (.int (-1 : Int32)), .unset] [(.ref c1)]) (fun _ k => XS.aload X862.here hx rfl (hb hby at_150) rfl rfl k) ?_
        refine WinW.to T862 (mkF m 153 #[.val (.int p0), .val (.int p1), .val (.int p2), .val (.int p3), .val (.int (1 : Int32)), .val (.ref c1), .val (.ref r_804), .val (.ref b810), .val (.ref r_862), .val (.int (-1 : Int32)), .unset] [(.int (0 : Int32)), (.ref c1)]) (fun _ k => XS.iconst X862.here hx rfl (hb hby at_152) k) ?_
        have F869 : Arv Z h862 c1 kc .char (4 : Int32) [(.int q0), (.int q1), (.int q2), (.int q3)] (.int (0 : Int32)) := ((((F825.ext E824).keep r841_0 (ninS ne826 nin0)).keep r851_0 (ninS ne812 nin0)).keep r862_0 nin0)
        obtain ⟨cl870, Ar870, q870, S870, N870, H870, G870⟩ := id F869
        have hi870 : ¬ ((0 : Int32) < 0 ∨ cl870.slots.size ≤ ((0 : Int32)).toNatClampNeg) := inb_of S870 ⟨by decide, by decide⟩
        refine WinW.to T862 (mkF m 154 #[.val (.int p0), .val (.int p1), .val (.int p2), .val (.int p3), .val (.int (1 : Int32)), .val (.ref c1), .val (.ref r_804), .val (.ref b810), .val (.ref r_862), .val (.int (-1 : Int32)), .unset] [(.int q0)]) (fun _ k => X862.caload hx (j := (0 : Int32)) (v := (.int q0)) (by rw [e862]; exact Ar870.1) (State.isArrayOf_alike hZ862.alike Ar870.2.1) Ar870.2.2 hi870 (Has.at H870 hi870 rfl) (g := (mkF m 153 #[.val (.int p0), .val (.int p1), .val (.int p2), .val (.int p3), .val (.int (1 : Int32)), .val (.ref c1), .val (.ref r_804), .val (.ref b810), .val (.ref r_862), .val (.int (-1 : Int32)), .unset] [(.int (0 : Int32)), (.ref c1)])) rfl rfl (hb hby at_153) _ k) ?_
        refine WinW.to T862 (mkF m 156 #[.val (.int p0), .val (.int p1), .val (.int p2), .val (.int p3), .val (.int (1 : Int32)), .val (.ref c1), .val (.ref r_804), .val (.ref b810), .val (.ref r_862), .val (.int (-1 : Int32)), .unset] [(.int (32 : Int32)), (.int q0)]) (fun _ k => XS.bipush X862.here hx rfl (hb hby at_154) k) ?_
        refine WinW.to T862 (mkF m 159 #[.val (.int p0), .val (.int p1), .val (.int p2), .val (.int p3), .val (.int (1 : Int32)), .val (.ref c1), .val (.ref r_804), .val (.ref b810), .val (.ref r_862), .val (.int (-1 : Int32)), .unset] []) (fun _ k => XS.icmpNo X862.here hx rfl (hb hby at_156) rfl (teq (show q0 = (32 : Int32) from hq0)).2 k) ?_
        refine WinW.to T862 (mkF m 160 #[.val (.int p0), .val (.int p1), .val (.int p2), .val (.int p3), .val (.int (1 : Int32)), .val (.ref c1), .val (.ref r_804), .val (.ref b810), .val (.ref r_862), .val (.int (-1 : Int32)), .unset] [(.int (0 : Int32))]) (fun _ k => XS.iconst X862.here hx rfl (hb hby at_159) k) ?_
        refine WinW.to T862 (mkF m 162 #[.val (.int p0), .val (.int p1), .val (.int p2), .val (.int p3), .val (.int (1 : Int32)), .val (.ref c1), .val (.ref r_804), .val (.ref b810), .val (.ref r_862), .val (.int (0 : Int32)), .unset] []) (fun _ k => XS.istore X862.here hx rfl (hb hby at_160) rfl (l' := #[.val (.int p0), .val (.int p1), .val (.int p2), .val (.int p3), .val (.int (1 : Int32)), .val (.ref c1), .val (.ref r_804), .val (.ref b810), .val (.ref r_862), .val (.int (0 : Int32)), .unset]) rfl k) ?_
        refine WinW.to T862 (mkF m 164 #[.val (.int p0), .val (.int p1), .val (.int p2), .val (.int p3), .val (.int (1 : Int32)), .val (.ref c1), .val (.ref r_804), .val (.ref b810), .val (.ref r_862), .val (.int (0 : Int32)), .unset] [(.int (1 : Int32))]) (fun _ k => XS.iload X862.here hx rfl (hb hby at_162) rfl k) ?_
        refine WinW.to T862 (mkF m 165 #[.val (.int p0), .val (.int p1), .val (.int p2), .val (.int p3), .val (.int (1 : Int32)), .val (.ref c1), .val (.ref r_804), .val (.ref b810), .val (.ref r_862), .val (.int (0 : Int32)), .unset] [(.int (1 : Int32)), (.int (1 : Int32))]) (fun _ k => XS.iconst X862.here hx rfl (hb hby at_164) k) ?_
        refine WinW.to T862 (mkF m 180 #[.val (.int p0), .val (.int p1), .val (.int p2), .val (.int p3), .val (.int (1 : Int32)), .val (.ref c1), .val (.ref r_804), .val (.ref b810), .val (.ref r_862), .val (.int (0 : Int32)), .unset] []) (fun _ k => XS.icmpYes X862.here hx rfl (pc0 := 165) (pc' := 180) rfl (hb hby at_165) rfl (flt (show ¬ ((1 : Int32) < (1 : Int32)) from by decide)).2.2.2 (by decide) (by decide) k) ?_
        refine WinW.to T862 (mkF m 182 #[.val (.int p0), .val (.int p1), .val (.int p2), .val (.int p3), .val (.int (1 : Int32)), .val (.ref c1), .val (.ref r_804), .val (.ref b810), .val (.ref r_862), .val (.int (0 : Int32)), .unset] [(.int (1 : Int32))]) (fun _ k => XS.iload X862.here hx rfl (hb hby at_180) rfl k) ?_
        refine WinW.to T862 (mkF m 183 #[.val (.int p0), .val (.int p1), .val (.int p2), .val (.int p3), .val (.int (1 : Int32)), .val (.ref c1), .val (.ref r_804), .val (.ref b810), .val (.ref r_862), .val (.int (0 : Int32)), .unset] [(.int (2 : Int32)), (.int (1 : Int32))]) (fun _ k => XS.iconst X862.here hx rfl (hb hby at_182) k) ?_
        refine WinW.to T862 (mkF m 198 #[.val (.int p0), .val (.int p1), .val (.int p2), .val (.int p3), .val (.int (1 : Int32)), .val (.ref c1), .val (.ref r_804), .val (.ref b810), .val (.ref r_862), .val (.int (0 : Int32)), .unset] []) (fun _ k => XS.icmpYes X862.here hx rfl (pc0 := 183) (pc' := 198) rfl (hb hby at_183) rfl (flt (show ¬ ((2 : Int32) < (1 : Int32)) from by decide)).2.2.2 (by decide) (by decide) k) ?_
        refine WinW.to T862 (mkF m 200 #[.val (.int p0), .val (.int p1), .val (.int p2), .val (.int p3), .val (.int (1 : Int32)), .val (.ref c1), .val (.ref r_804), .val (.ref b810), .val (.ref r_862), .val (.int (0 : Int32)), .unset] [(.int (1 : Int32))]) (fun _ k => XS.iload X862.here hx rfl (hb hby at_198) rfl k) ?_
        refine WinW.to T862 (mkF m 201 #[.val (.int p0), .val (.int p1), .val (.int p2), .val (.int p3), .val (.int (1 : Int32)), .val (.ref c1), .val (.ref r_804), .val (.ref b810), .val (.ref r_862), .val (.int (0 : Int32)), .unset] [(.int (3 : Int32)), (.int (1 : Int32))]) (fun _ k => XS.iconst X862.here hx rfl (hb hby at_200) k) ?_
        refine WinW.to T862 (mkF m 216 #[.val (.int p0), .val (.int p1), .val (.int p2), .val (.int p3), .val (.int (1 : Int32)), .val (.ref c1), .val (.ref r_804), .val (.ref b810), .val (.ref r_862), .val (.int (0 : Int32)), .unset] []) (fun _ k => XS.icmpYes X862.here hx rfl (pc0 := 201) (pc' := 216) rfl (hb hby at_201) rfl (flt (show ¬ ((3 : Int32) < (1 : Int32)) from by decide)).2.2.2 (by decide) (by decide) k) ?_
        exact Jc216 _ _ T862 _ h862 (X862.mono (by decide) (by decide)) N864 e862 O865 K866 hS862 hk862 hZ862 hown862 C868 r_862 (0 : Int32) t2_862 k2_862 0 (fun i => (fun i => ((fun i => ([q0] : List Int32).getD i (0 : Int32)) i).toInt8.toInt32) (1 + i)) 1 1 (.val (.ref r_804)) (.val (.ref b810)) r862_1 r862_2 r862_3 r862_4 F869 (by decide) (by decide) (by decide) (fun i hi => absurd hi (Nat.not_lt_zero _)) (by decide)
      · refine WinW.to T851 (mkF m 137 #[.val (.int p0), .val (.int p1), .val (.int p2), .val (.int p3), .val (.int (1 : Int32)), .val (.ref c1), .val (.ref r_804), .val (.ref b810), .unset, .unset, .unset] [(.ref b810)]) (fun _ k => XS.aload X851.here hx rfl (hb hby at_135) rfl rfl k) ?_
        have F871 : Exa Z h851 r_804 "java/lang/String" := (((Exa.ext E824 F827).keep r841_0).keep r851_0)
        have F872 : Fld Z h851 r_804 "java/lang/String" "value" "[B" (.ref t_804) := (((Fld.ext E824 (Fld.ext E810 r804_2)).keep r841_0 (ninS ne828 nin0)).keep r851_0 (ninS ne813 nin0))
        have F873 : Fld Z h851 r_804 "java/lang/String" "coder" "B" (.int (0 : Int32)) := (((Fld.ext E824 (Fld.ext E810 r804_3)).keep r841_0 (ninS ne828 nin0)).keep r851_0 (ninS ne813 nin0))
        have F874 : ArF Z h851 t_804 kb_804 .byte 1 (fun i => ((fun i => ([q0] : List Int32).getD i (0 : Int32)) i).toInt8.toInt32) := (((F829.ext E824).keep r841_0 (ninS ne830 nin0)).keep r851_0 (ninS ne814 nin0))
        have F876 : Exa Z h851 b810 "com/example/grantgate/grantgate/server/MessageReader$Head" := (F848.keep r851_0)
        obtain ⟨T875, h875, v875, L875, k875, X875, e875, hS875, hk875, hZ875, hown875, ⟨r_875, t2_875, k2_875, rfl, N875q, r875_0, r875_1, r875_2, r875_3, r875_4⟩, c875, st875⟩ := W.virtual X851 hS804 hk854 hx hZ804 (y := (⟨"com/example/grantgate/grantgate/server/MessageReader$Head", "version", "()Ljava/lang/String;"⟩ : MethodName)) (z := (⟨"com/example/grantgate/grantgate/server/MessageReader$Head", "version", "()Ljava/lang/String;"⟩ : MethodName)) hown804 (wk hw 67 rfl) (wk hw 68 rfl) (notFace_of_selects (args := #[]) (mvT hZ804 (wk hw 70 rfl))) (wk hw 70 rfl) (wk hw 69 rfl) (wk hw 29 rfl) (wk hw 71 rfl) (by decide) (headV l Z a0 hw b810 r_804 t_804 kb_804 1 (fun i => ((fun i => ([q0] : List Int32).getD i (0 : Int32)) i).toInt8.toInt32) 0 cs x1 h851 n0 O853 r851_1 F871 F872 F873 F874 (by decide) ((fun i hb hi => by
          match i, hb, hi with
          | 0, hb, _ => exact (own_sp2 hlq0 hcq0 hq0))) (fun q => absurd q (Nat.lt_irrefl _)) (by decide) S_CS hcs S_SI hx1) (own_EW hw) C857.1 e851 F876 (g := (mkF m 137 #[.val (.int p0), .val (.int p1), .val (.int p2), .val (.int p3), .val (.int (1 : Int32)), .val (.ref c1), .val (.ref r_804), .val (.ref b810), .unset, .unset, .unset] [(.ref b810)])) rfl (by rw [hml]; rfl) (argsL := []) (rest := []) rfl (lenOf pd___Ljava_lang_String_ rfl) rfl (W := 0) (by show 2 * 0 + _ ≤ _; exact Nat.le_of_eq rfl) (hb hby at_137) (by decide) (by decide) (by decide) (by decide)
        have N877 := Fr.app N852 N875q
        have O878 := Old.keep O853 r875_0 all0
        have K879 : Keep h0 h875 [] := Keep.trans K855 r875_0 all0
        have c880 := c875
        have C881 := CHr.trans C857 c880
        refine WinW.to T875 (mkF m 140 #[.val (.int p0), .val (.int p1), .val (.int p2), .val (.int p3), .val (.int (1 : Int32)), .val (.ref c1), .val (.ref r_804), .val (.ref b810), .unset, .unset, .unset] [(.ref r_875)]) (fun _ k => st875 _ k) ?_
        refine WinW.to T875 (mkF m 142 #[.val (.int p0), .val (.int p1), .val (.int p2), .val (.int p3), .val (.int (1 : Int32)), .val (.ref c1), .val (.ref r_804), .val (.ref b810), .val (.ref r_875), .unset, .unset] []) (fun _ k => XS.astore X875.here hx rfl (hb hby at_140) rfl rfl (l' := #[.val (.int p0), .val (.int p1), .val (.int p2), .val (.int p3), .val (.int (1 : Int32)), .val (.ref c1), .val (.ref r_804), .val (.ref b810), .val (.ref r_875), .unset, .unset]) rfl k) ?_
        refine WinW.to T875 (mkF m 143 #[.val (.int p0), .val (.int p1), .val (.int p2), .val (.int p3), .val (.int (1 : Int32)), .val (.ref c1), .val (.ref r_804), .val (.ref b810), .val (.ref r_875), .unset, .unset] [(.int (-1 : Int32))]) (fun _ k => XS.iconst X875.here hx rfl (hb hby at_142) k) ?_
        refine WinW.to T875 (mkF m 145 #[.val (.int p0), .val (.int p1), .val (.int p2), .val (.int p3), .val (.int (1 : Int32)), .val (.ref c1), .val (.ref r_804), .val (.ref b810), .val (.ref r_875), .val (.int (-1 : Int32)), .unset] []) (fun _ k => XS.istore X875.here hx rfl (hb hby at_143) rfl (l' := #[.val (.int p0), .val (.int p1), .val (.int p2), .val (.int p3), .val (.int (1 : Int32)), .val (.ref c1), .val (.ref r_804), .val (.ref b810), .val (.ref r_875), .val (.int (-1 : Int32)), .unset]) rfl k) ?_
        refine WinW.to T875 (mkF m 147 #[.val (.int p0), .val (.int p1), .val (.int p2), .val (.int p3), .val (.int (1 : Int32)), .val (.ref c1), .val (.ref r_804), .val (.ref b810), .val (.ref r_875), .val (.int (-1 : Int32)), .unset] [(.int (1 : Int32))]) (fun _ k => XS.iload X875.here hx rfl (hb hby at_145) rfl k) ?_
        refine WinW.to T875 (mkF m 150 #[.val (.int p0), .val (.int p1), .val (.int p2), .val (.int p3), .val (.int (1 : Int32)), .val (.ref c1), .val (.ref r_804), .val (.ref b810), .val (.ref r_875), .val (.int (-1 : Int32)), .unset] []) (fun _ k => XS.ifNo X875.here hx rfl (hb hby at_147) rfl ((if0 _ _).trans (tlt (show (0 : Int32) < (1 : Int32) from by decide)).2.2.2) k) ?_
        refine WinW.to T875 (mkF m 152 #[.val (.int p0), .val (.int p1), .val (.int p2), .val (.int p3), .val (.int (1 : Int32)), .val (.ref c1), .val (.ref r_804), .val (.ref b810), .val (.ref r_875), .val (.int (-1 : Int32)), .unset] [(.ref c1)]) (fun _ k => XS.aload X875.here hx rfl (hb hby at_150) rfl rfl k) ?_
        refine WinW.to T875 (mkF m 153 #[.val (.int p0), .val (.int p1), .val (.int p2), .val (.int p3), .val (.int (1 : Int32)), .val (.ref c1), .val (.ref r_804), .val (.ref b810), .val (.ref r_875), .val (.int (-1 : Int32)), .unset] [(.int (0 : Int32)), (.ref c1)]) (fun _ k => XS.iconst X875.here hx rfl (hb hby at_152) k) ?_
        have F882 : Arv Z h875 c1 kc .char (4 : Int32) [(.int q0), (.int q1), (.int q2), (.int q3)] (.int (0 : Int32)) := ((((F825.ext E824).keep r841_0 (ninS ne826 nin0)).keep r851_0 (ninS ne812 nin0)).keep r875_0 nin0)
        obtain ⟨cl883, Ar883, q883, S883, N883, H883, G883⟩ := id F882
        have hi883 : ¬ ((0 : Int32) < 0 ∨ cl883.slots.size ≤ ((0 : Int32)).toNatClampNeg) := inb_of S883 ⟨by decide, by decide⟩
        refine WinW.to T875 (mkF m 154 #[.val (.int p0), .val (.int p1), .val (.int p2), .val (.int p3), .val (.int (1 : Int32)), .val (.ref c1), .val (.ref r_804), .val (.ref b810), .val (.ref r_875), .val (.int (-1 : Int32)), .unset] [(.int q0)]) (fun _ k => X875.caload hx (j := (0 : Int32)) (v := (.int q0)) (by rw [e875]; exact Ar883.1) (State.isArrayOf_alike hZ875.alike Ar883.2.1) Ar883.2.2 hi883 (Has.at H883 hi883 rfl) (g := (mkF m 153 #[.val (.int p0), .val (.int p1), .val (.int p2), .val (.int p3), .val (.int (1 : Int32)), .val (.ref c1), .val (.ref r_804), .val (.ref b810), .val (.ref r_875), .val (.int (-1 : Int32)), .unset] [(.int (0 : Int32)), (.ref c1)])) rfl rfl (hb hby at_153) _ k) ?_
        refine WinW.to T875 (mkF m 156 #[.val (.int p0), .val (.int p1), .val (.int p2), .val (.int p3), .val (.int (1 : Int32)), .val (.ref c1), .val (.ref r_804), .val (.ref b810), .val (.ref r_875), .val (.int (-1 : Int32)), .unset] [(.int (32 : Int32)), (.int q0)]) (fun _ k => XS.bipush X875.here hx rfl (hb hby at_154) k) ?_
        refine WinW.to T875 (mkF m 162 #[.val (.int p0), .val (.int p1), .val (.int p2), .val (.int p3), .val (.int (1 : Int32)), .val (.ref c1), .val (.ref r_804), .val (.ref b810), .val (.ref r_875), .val (.int (-1 : Int32)), .unset] []) (fun _ k => XS.icmpYes X875.here hx rfl (pc0 := 156) (pc' := 162) rfl (hb hby at_156) rfl (feq (show ¬ (q0 = (32 : Int32)) from hq0)).2 (by decide) (by decide) k) ?_
        refine WinW.to T875 (mkF m 164 #[.val (.int p0), .val (.int p1), .val (.int p2), .val (.int p3), .val (.int (1 : Int32)), .val (.ref c1), .val (.ref r_804), .val (.ref b810), .val (.ref r_875), .val (.int (-1 : Int32)), .unset] [(.int (1 : Int32))]) (fun _ k => XS.iload X875.here hx rfl (hb hby at_162) rfl k) ?_
        refine WinW.to T875 (mkF m 165 #[.val (.int p0), .val (.int p1), .val (.int p2), .val (.int p3), .val (.int (1 : Int32)), .val (.ref c1), .val (.ref r_804), .val (.ref b810), .val (.ref r_875), .val (.int (-1 : Int32)), .unset] [(.int (1 : Int32)), (.int (1 : Int32))]) (fun _ k => XS.iconst X875.here hx rfl (hb hby at_164) k) ?_
        refine WinW.to T875 (mkF m 180 #[.val (.int p0), .val (.int p1), .val (.int p2), .val (.int p3), .val (.int (1 : Int32)), .val (.ref c1), .val (.ref r_804), .val (.ref b810), .val (.ref r_875), .val (.int (-1 : Int32)), .unset] []) (fun _ k => XS.icmpYes X875.here hx rfl (pc0 := 165) (pc' := 180) rfl (hb hby at_165) rfl (flt (show ¬ ((1 : Int32) < (1 : Int32)) from by decide)).2.2.2 (by decide) (by decide) k) ?_
        refine WinW.to T875 (mkF m 182 #[.val (.int p0), .val (.int p1), .val (.int p2), .val (.int p3), .val (.int (1 : Int32)), .val (.ref c1), .val (.ref r_804), .val (.ref b810), .val (.ref r_875), .val (.int (-1 : Int32)), .unset] [(.int (1 : Int32))]) (fun _ k => XS.iload X875.here hx rfl (hb hby at_180) rfl k) ?_
        refine WinW.to T875 (mkF m 183 #[.val (.int p0), .val (.int p1), .val (.int p2), .val (.int p3), .val (.int (1 : Int32)), .val (.ref c1), .val (.ref r_804), .val (.ref b810), .val (.ref r_875), .val (.int (-1 : Int32)), .unset] [(.int (2 : Int32)), (.int (1 : Int32))]) (fun _ k => XS.iconst X875.here hx rfl (hb hby at_182) k) ?_
        refine WinW.to T875 (mkF m 198 #[.val (.int p0), .val (.int p1), .val (.int p2), .val (.int p3), .val (.int (1 : Int32)), .val (.ref c1), .val (.ref r_804), .val (.ref b810), .val (.ref r_875), .val (.int (-1 : Int32)), .unset] []) (fun _ k => XS.icmpYes X875.here hx rfl (pc0 := 183) (pc' := 198) rfl (hb hby at_183) rfl (flt (show ¬ ((2 : Int32) < (1 : Int32)) from by decide)).2.2.2 (by decide) (by decide) k) ?_
        refine WinW.to T875 (mkF m 200 #[.val (.int p0), .val (.int p1), .val (.int p2), .val (.int p3), .val (.int (1 : Int32)), .val (.ref c1), .val (.ref r_804), .val (.ref b810), .val (.ref r_875), .val (.int (-1 : Int32)), .unset] [(.int (1 : Int32))]) (fun _ k => XS.iload X875.here hx rfl (hb hby at_198) rfl k) ?_
        refine WinW.to T875 (mkF m 201 #[.val (.int p0), .val (.int p1), .val (.int p2), .val (.int p3), .val (.int (1 : Int32)), .val (.ref c1), .val (.ref r_804), .val (.ref b810), .val (.ref r_875), .val (.int (-1 : Int32)), .unset] [(.int (3 : Int32)), (.int (1 : Int32))]) (fun _ k => XS.iconst X875.here hx rfl (hb hby at_200) k) ?_
        refine WinW.to T875 (mkF m 216 #[.val (.int p0), .val (.int p1), .val (.int p2), .val (.int p3), .val (.int (1 : Int32)), .val (.ref c1), .val (.ref r_804), .val (.ref b810), .val (.ref r_875), .val (.int (-1 : Int32)), .unset] []) (fun _ k => XS.icmpYes X875.here hx rfl (pc0 := 201) (pc' := 216) rfl (hb hby at_201) rfl (flt (show ¬ ((3 : Int32) < (1 : Int32)) from by decide)).2.2.2 (by decide) (by decide) k) ?_
        exact Jc216 _ _ T875 _ h875 (X875.mono (by decide) (by decide)) N877 e875 O878 K879 hS875 hk875 hZ875 hown875 C881 r_875 (-1 : Int32) t2_875 k2_875 1 (fun i => (fun i => ((fun i => ([q0] : List Int32).getD i (0 : Int32)) i).toInt8.toInt32) (0 + i)) 1 0 (.val (.ref r_804)) (.val (.ref b810)) r875_1 r875_2 r875_3 r875_4 F882 (by decide) (by decide) (by decide) ((fun i hi => by
          match i, hi with
          | 0, _ => exact (own_b255 hlq0 hcq0))) (by decide)
    · rw [hk]
      refine WinW.to Tc108 (mkF m 110 #[.val (.int p0), .val (.int p1), .val (.int p2), .val (.int p3), .val (.int (2 : Int32)), .val (.ref c1), .unset, .unset, .unset, .unset, .unset] [(.int (2 : Int32))]) (fun _ k => XS.iload Xc108.here hx rfl (hb hby at_108) rfl k) ?_
      refine WinW.to Tc108 (mkF m 112 #[.val (.int p0), .val (.int p1), .val (.int p2), .val (.int p3), .val (.int (2 : Int32)), .val (.ref c1), .unset, .unset, .unset, .unset, .unset] [(.ref c1), (.int (2 : Int32))]) (fun _ k => XS.aload Xc108.here hx rfl (hb hby at_110) rfl rfl k) ?_
      obtain ⟨T884, h884, v884, L884, k884, X884, e884, hS884, hk884, hZ884, hown884, ⟨r_884, t_884, kb_884, rfl, N884q, r884_0, r884_1, r884_2, r884_3, r884_4⟩, c884, st884⟩ := W.static Xc108 hSc108 hkc108 hx hZc108 (y := (⟨"com/example/grantgate/grantgate/server/HeadVersionPinLaw", "make", "(I[C)Ljava/lang/String;"⟩ : MethodName)) hownc108 (wk hw 2 rfl) (wk hw 3 rfl) (wk hw 4 rfl) (wk hw 5 rfl) (by decide) (make2 l Z a0 hw c1 kc q0 q1 q2 q3 cs hc108 n0 Oc108 Fc108_0 hcq0 hcq1 hcq2 hcq3 hlq0 hlq1 hlq2 hlq3 S_CS hcs) (own_EW hw) Cc108.1 ec108 (g := (mkF m 112 #[.val (.int p0), .val (.int p1), .val (.int p2), .val (.int p3), .val (.int (2 : Int32)), .val (.ref c1), .unset, .unset, .unset, .unset, .unset] [(.ref c1), (.int (2 : Int32))])) rfl (by rw [hml]; rfl) (argsL := [(.int (2 : Int32)), (.ref c1)]) (rest := []) rfl (lenOf pd__I_C_Ljava_lang_String_ rfl) rfl (W := 0) (by show 2 * 0 + _ ≤ _; exact Nat.le_of_eq rfl) (hb hby at_112) (by decide) (by decide) (by decide) (by decide)
      have N885 := Fr.app Nc108 N884q
      have O886 := Old.keep Oc108 r884_0 all0
      have K887 : Keep h0 h884 [] := Keep.trans Kc108 r884_0 all0
      have c888 := c884
      have C889 := CHr.trans Cc108 c888
      refine WinW.to T884 (mkF m 115 #[.val (.int p0), .val (.int p1), .val (.int p2), .val (.int p3), .val (.int (2 : Int32)), .val (.ref c1), .unset, .unset, .unset, .unset, .unset] [(.ref r_884)]) (fun _ k => st884 _ k) ?_
      refine WinW.to T884 (mkF m 117 #[.val (.int p0), .val (.int p1), .val (.int p2), .val (.int p3), .val (.int (2 : Int32)), .val (.ref c1), .val (.ref r_884), .unset, .unset, .unset, .unset] []) (fun _ k => XS.astore X884.here hx rfl (hb hby at_115) rfl rfl (l' := #[.val (.int p0), .val (.int p1), .val (.int p2), .val (.int p3), .val (.int (2 : Int32)), .val (.ref c1), .val (.ref r_884), .unset, .unset, .unset, .unset]) rfl k) ?_
      obtain ⟨T890, h890, X890, e890, E890, A890, D890, -, st890⟩ := newO X884 hx hZ884 hown884 (wk hw 27 rfl) (wk hw 28 rfl) (wk hw 29 rfl) e884 (g := (mkF m 117 #[.val (.int p0), .val (.int p1), .val (.int p2), .val (.int p3), .val (.int (2 : Int32)), .val (.ref c1), .val (.ref r_884), .unset, .unset, .unset, .unset] [])) rfl (hb hby at_117) (by decide) (by decide)
      obtain ⟨b890, g890⟩ : ∃ z, z = h884.size := ⟨_, rfl⟩
      rw [← g890] at A890 D890 st890
      have F891 : Arv Z h884 c1 kc .char (4 : Int32) [(.int q0), (.int q1), (.int q2), (.int q3)] (.int (0 : Int32)) := (Fc108_0.keep r884_0 nin0)
      have ne892 : c1 ≠ b890 := Nat.ne_of_lt (Nat.lt_of_lt_of_le F891.lt (Nat.le_of_eq g890.symm))
      have ne893 : r_884 ≠ b890 := Nat.ne_of_lt (Nat.lt_of_lt_of_le r884_1.lt (Nat.le_of_eq g890.symm))
      have ne894 : t_884 ≠ b890 := Nat.ne_of_lt (Nat.lt_of_lt_of_le r884_4.lt (Nat.le_of_eq g890.symm))
      have g895 : n0 ≤ b890 := Nat.le_trans (own_le O886) (Nat.le_of_eq g890.symm)
      have z896 : h0.size ≤ b890 := Nat.le_trans K887.1 (Nat.le_of_eq g890.symm)
      have O897 := Old.ext O886 E890
      have hk898 := Nat.le_trans hk884 E890.1
      have K899 : Keep h0 h890 [] := K887.ext E890
      have c900 := CHr.ext E890 C889.1
      have C901 := CHr.trans C889 c900
      have F902 : Fld Z h890 b890 "com/example/grantgate/grantgate/server/MessageReader$Head" "startLine" "Ljava/lang/String;" .null := D890 (Or.inr (wk hw 64 rfl)) (ty := (.object "java/lang/String")) (by decide)
      have F903 : Fld Z h890 b890 "com/example/grantgate/grantgate/server/MessageReader$Head" "fields" "Ljava/util/List;" .null := D890 (Or.inr (wk hw 66 rfl)) (ty := (.object "java/util/List")) (by decide)
      refine WinW.to T890 (mkF m 120 #[.val (.int p0), .val (.int p1), .val (.int p2), .val (.int p3), .val (.int (2 : Int32)), .val (.ref c1), .val (.ref r_884), .unset, .unset, .unset, .unset] [(.ref b890)]) (fun _ k => st890 _ k) ?_
      refine WinW.to T890 (mkF m 121 #[.val (.int p0), .val (.int p1), .val (.int p2), .val (.int p3), .val (.int (2 : Int32)), .val (.ref c1), .val (.ref r_884), .unset, .unset, .unset, .unset] [(.ref b890), (.ref b890)]) (fun _ k => XS.dup X890.here hx rfl (hb hby at_120) rfl rfl k) ?_
      refine WinW.to T890 (mkF m 123 #[.val (.int p0), .val (.int p1), .val (.int p2), .val (.int p3), .val (.int (2 : Int32)), .val (.ref c1), .val (.ref r_884), .unset, .unset, .unset, .unset] [(.ref r_884), (.ref b890), (.ref b890)]) (fun _ k => XS.aload X890.here hx rfl (hb hby at_121) rfl rfl k) ?_
      obtain ⟨T904, h904, X904, e904, E904, A904, D904, -, st904⟩ := newO X890 hx hZ884 hown884 (wk hw 30 rfl) (wk hw 31 rfl) (wk hw 32 rfl) e890 (g := (mkF m 123 #[.val (.int p0), .val (.int p1), .val (.int p2), .val (.int p3), .val (.int (2 : Int32)), .val (.ref c1), .val (.ref r_884), .unset, .unset, .unset, .unset] [(.ref r_884), (.ref b890), (.ref b890)])) rfl (hb hby at_123) (by decide) (by decide)
      obtain ⟨b904, g904⟩ : ∃ z, z = h890.size := ⟨_, rfl⟩
      rw [← g904] at A904 D904 st904
      have F905 : Arv Z h890 c1 kc .char (4 : Int32) [(.int q0), (.int q1), (.int q2), (.int q3)] (.int (0 : Int32)) := (F891.ext E890)
      have ne906 : c1 ≠ b904 := Nat.ne_of_lt (Nat.lt_of_lt_of_le F905.lt (Nat.le_of_eq g904.symm))
      have F907 : Exa Z h890 r_884 "java/lang/String" := (Exa.ext E890 r884_1)
      have ne908 : r_884 ≠ b904 := Nat.ne_of_lt (Nat.lt_of_lt_of_le F907.lt (Nat.le_of_eq g904.symm))
      have F909 : ArF Z h890 t_884 kb_884 .byte 2 (fun i => ((fun i => ([q0, q1] : List Int32).getD i (0 : Int32)) i).toInt8.toInt32) := (r884_4.ext E890)
      have ne910 : t_884 ≠ b904 := Nat.ne_of_lt (Nat.lt_of_lt_of_le F909.lt (Nat.le_of_eq g904.symm))
      have ne911 : b890 ≠ b904 := Nat.ne_of_lt (Nat.lt_of_lt_of_le A890.lt (Nat.le_of_eq g904.symm))
      have g912 : n0 ≤ b904 := Nat.le_trans (own_le O897) (Nat.le_of_eq g904.symm)
      have z913 : h0.size ≤ b904 := Nat.le_trans K899.1 (Nat.le_of_eq g904.symm)
      have O914 := Old.ext O897 E904
      have hk915 := Nat.le_trans hk898 E904.1
      have K916 : Keep h0 h904 [] := K899.ext E904
      have c917 := CHr.ext E904 C901.1
      have C918 := CHr.trans C901 c917
      have F919 : Fld Z h904 b904 "java/util/AbstractList" "modCount" "I" (.int (0 : Int32)) := D904 (Or.inl (wk hw 50 rfl)) (ty := .int) (by decide)
      have F920 : Fld Z h904 b904 "java/util/ArrayList" "elementData" "[Ljava/lang/Object;" .null := D904 (Or.inl (wk hw 53 rfl)) (ty := (.array (.object "java/lang/Object"))) (by decide)
      refine WinW.to T904 (mkF m 126 #[.val (.int p0), .val (.int p1), .val (.int p2), .val (.int p3), .val (.int (2 : Int32)), .val (.ref c1), .val (.ref r_884), .unset, .unset, .unset, .unset] [(.ref b904), (.ref r_884), (.ref b890), (.ref b890)]) (fun _ k => st904 _ k) ?_
      refine WinW.to T904 (mkF m 127 #[.val (.int p0), .val (.int p1), .val (.int p2), .val (.int p3), .val (.int (2 : Int32)), .val (.ref c1), .val (.ref r_884), .unset, .unset, .unset, .unset] [(.ref b904), (.ref b904), (.ref r_884), (.ref b890), (.ref b890)]) (fun _ k => XS.dup X904.here hx rfl (hb hby at_126) rfl rfl k) ?_
      obtain ⟨T921, h921, v921, L921, X921, e921, ⟨rfl, N921q, r921_0⟩, st921⟩ := N.special X904 hx hZ884 (y := (⟨"java/util/ArrayList", "<init>", "()V"⟩ : MethodName)) rfl hown884 (wk hw 33 rfl) (wk hw 34 rfl) (wk hw 32 rfl) (wk hw 35 rfl) (by decide) (mkAL l Z a0 hw b904 x2 h904 n0 O914 A904 F919 F920 g912 S_DE hx2) e904 (g := (mkF m 127 #[.val (.int p0), .val (.int p1), .val (.int p2), .val (.int p3), .val (.int (2 : Int32)), .val (.ref c1), .val (.ref r_884), .unset, .unset, .unset, .unset] [(.ref b904), (.ref b904), (.ref r_884), (.ref b890), (.ref b890)])) rfl (by rw [hml]; rfl) (a := b904) (argsL := []) (rest := [(.ref b904), (.ref r_884), (.ref b890), (.ref b890)]) rfl (lenOf pd___V rfl) rfl (W := 4) (by show 2 * 0 + _ ≤ _; exact Nat.le_of_eq rfl) (hb hby at_127) (by decide) (by decide) (by decide) (by decide)
      have N922 := Fr.app N885 N921q
      have O923 := Old.keep O914 r921_0 (allS g912 all0)
      have hk924 := Nat.le_trans hk915 r921_0.1
      have K925 : Keep h0 h921 [] := Keep.trans K916 r921_0 (allS (Or.inr z913) all0)
      have c926 := CHr.keep r921_0 (sfS (Safe.exa hZ884.alike A904 (by decide) (by decide)) sf0) C918.1
      have C927 := CHr.trans C918 c926
      refine WinW.to T921 (mkF m 130 #[.val (.int p0), .val (.int p1), .val (.int p2), .val (.int p3), .val (.int (2 : Int32)), .val (.ref c1), .val (.ref r_884), .unset, .unset, .unset, .unset] [(.ref b904), (.ref r_884), (.ref b890), (.ref b890)]) (fun _ k => st921 _ k) ?_
      have F928 : Exa Z h921 b890 "com/example/grantgate/grantgate/server/MessageReader$Head" := ((Exa.ext E904 A890).keep r921_0)
      have F929 : Fld Z h921 b890 "com/example/grantgate/grantgate/server/MessageReader$Head" "startLine" "Ljava/lang/String;" .null := ((Fld.ext E904 F902).keep r921_0 (ninS ne911 nin0))
      have F930 : Fld Z h921 b890 "com/example/grantgate/grantgate/server/MessageReader$Head" "fields" "Ljava/util/List;" .null := ((Fld.ext E904 F903).keep r921_0 (ninS ne911 nin0))
      obtain ⟨T931, h931, v931, L931, X931, e931, ⟨rfl, N931q, r931_0, r931_1⟩, st931⟩ := N.special X921 hx hZ884 (y := (⟨"com/example/grantgate/grantgate/server/MessageReader$Head", "<init>", "(Ljava/lang/String;Ljava/util/List;)V"⟩ : MethodName)) rfl hown884 (wk hw 54 rfl) (wk hw 55 rfl) (wk hw 29 rfl) (wk hw 56 rfl) (by decide) (mkHead l Z a0 hw b890 r_884 b904 h921 n0 O923 F928 F929 F930 g895) e921 (g := (mkF m 130 #[.val (.int p0), .val (.int p1), .val (.int p2), .val (.int p3), .val (.int (2 : Int32)), .val (.ref c1), .val (.ref r_884), .unset, .unset, .unset, .unset] [(.ref b904), (.ref r_884), (.ref b890), (.ref b890)])) rfl (by rw [hml]; rfl) (a := b890) (argsL := [(.ref r_884), (.ref b904)]) (rest := [(.ref b890)]) rfl (lenOf pd__Ljava_lang_String_Ljava_util_List__V rfl) rfl (W := 1) (by show 2 * 0 + _ ≤ _; exact Nat.le_of_eq rfl) (hb hby at_130) (by decide) (by decide) (by decide) (by decide)
      have N932 := Fr.app N922 N931q
      have O933 := Old.keep O923 r931_0 (allS g895 all0)
      have hk934 := Nat.le_trans hk924 r931_0.1
      have K935 : Keep h0 h931 [] := Keep.trans K925 r931_0 (allS (Or.inr z896) all0)
      have c936 := CHr.keep r931_0 (sfS (Safe.exa hZ884.alike F928 (by decide) (by decide)) sf0) C927.1
      have C937 := CHr.trans C927 c936
      refine WinW.to T931 (mkF m 133 #[.val (.int p0), .val (.int p1), .val (.int p2), .val (.int p3), .val (.int (2 : Int32)), .val (.ref c1), .val (.ref r_884), .unset, .unset, .unset, .unset] [(.ref b890)]) (fun _ k => st931 _ k) ?_
      refine WinW.to T931 (mkF m 135 #[.val (.int p0), .val (.int p1), .val (.int p2), .val (.int p3), .val (.int (2 : Int32)), .val (.ref c1), .val (.ref r_884), .val (.ref b890), .unset, .unset, .unset] []) (fun _ k => XS.astore X931.here hx rfl (hb hby at_133) rfl rfl (l' := #[.val (.int p0), .val (.int p1), .val (.int p2), .val (.int p3), .val (.int (2 : Int32)), .val (.ref c1), .val (.ref r_884), .val (.ref b890), .unset, .unset, .unset]) rfl k) ?_
      by_cases hq1 : q1 = (32 : Int32)
      · refine WinW.to T931 (mkF m 137 #[.val (.int p0), .val (.int p1), .val (.int p2), .val (.int p3), .val (.int (2 : Int32)), .val (.ref c1), .val (.ref r_884), .val (.ref b890), .unset, .unset, .unset] [(.ref b890)]) (fun _ k => XS.aload X931.here hx rfl (hb hby at_135) rfl rfl k) ?_
        have F938 : Exa Z h931 r_884 "java/lang/String" := (((Exa.ext E904 F907).keep r921_0).keep r931_0)
        have F939 : Fld Z h931 r_884 "java/lang/String" "value" "[B" (.ref t_884) := (((Fld.ext E904 (Fld.ext E890 r884_2)).keep r921_0 (ninS ne908 nin0)).keep r931_0 (ninS ne893 nin0))
        have F940 : Fld Z h931 r_884 "java/lang/String" "coder" "B" (.int (0 : Int32)) := (((Fld.ext E904 (Fld.ext E890 r884_3)).keep r921_0 (ninS ne908 nin0)).keep r931_0 (ninS ne893 nin0))
        have F941 : ArF Z h931 t_884 kb_884 .byte 2 (fun i => ((fun i => ([q0, q1] : List Int32).getD i (0 : Int32)) i).toInt8.toInt32) := (((F909.ext E904).keep r921_0 (ninS ne910 nin0)).keep r931_0 (ninS ne894 nin0))
        have F943 : Exa Z h931 b890 "com/example/grantgate/grantgate/server/MessageReader$Head" := (F928.keep r931_0)
        obtain ⟨T942, h942, v942, L942, k942, X942, e942, hS942, hk942, hZ942, hown942, ⟨r_942, t2_942, k2_942, rfl, N942q, r942_0, r942_1, r942_2, r942_3, r942_4⟩, c942, st942⟩ := W.virtual X931 hS884 hk934 hx hZ884 (y := (⟨"com/example/grantgate/grantgate/server/MessageReader$Head", "version", "()Ljava/lang/String;"⟩ : MethodName)) (z := (⟨"com/example/grantgate/grantgate/server/MessageReader$Head", "version", "()Ljava/lang/String;"⟩ : MethodName)) hown884 (wk hw 67 rfl) (wk hw 68 rfl) (notFace_of_selects (args := #[]) (mvT hZ884 (wk hw 70 rfl))) (wk hw 70 rfl) (wk hw 69 rfl) (wk hw 29 rfl) (wk hw 71 rfl) (by decide) (headV l Z a0 hw b890 r_884 t_884 kb_884 2 (fun i => ((fun i => ([q0, q1] : List Int32).getD i (0 : Int32)) i).toInt8.toInt32) 2 cs x1 h931 n0 O933 r931_1 F938 F939 F940 F941 (by decide) ((fun i hb hi => by
          match i, hb, hi with
          | 0, hb, _ => exact absurd hb (by decide)
          | 1, hb, _ => exact absurd hb (by decide))) (fun _ => (show q1.toInt8.toInt32 = (32 : Int32) from by rw [hq1]; decide)) (by decide) S_CS hcs S_SI hx1) (own_EW hw) C937.1 e931 F943 (g := (mkF m 137 #[.val (.int p0), .val (.int p1), .val (.int p2), .val (.int p3), .val (.int (2 : Int32)), .val (.ref c1), .val (.ref r_884), .val (.ref b890), .unset, .unset, .unset] [(.ref b890)])) rfl (by rw [hml]; rfl) (argsL := []) (rest := []) rfl (lenOf pd___Ljava_lang_String_ rfl) rfl (W := 0) (by show 2 * 0 + _ ≤ _; exact Nat.le_of_eq rfl) (hb hby at_137) (by decide) (by decide) (by decide) (by decide)
        have N944 := Fr.app N932 N942q
        have O945 := Old.keep O933 r942_0 all0
        have K946 : Keep h0 h942 [] := Keep.trans K935 r942_0 all0
        have c947 := c942
        have C948 := CHr.trans C937 c947
        refine WinW.to T942 (mkF m 140 #[.val (.int p0), .val (.int p1), .val (.int p2), .val (.int p3), .val (.int (2 : Int32)), .val (.ref c1), .val (.ref r_884), .val (.ref b890), .unset, .unset, .unset] [(.ref r_942)]) (fun _ k => st942 _ k) ?_
        refine WinW.to T942 (mkF m 142 #[.val (.int p0), .val (.int p1), .val (.int p2), .val (.int p3), .val (.int (2 : Int32)), .val (.ref c1), .val (.ref r_884), .val (.ref b890), .val (.ref r_942), .unset, .unset] []) (fun _ k => XS.astore X942.here hx rfl (hb hby at_140) rfl rfl (l' := #[.val (.int p0), .val (.int p1), .val (.int p2), .val (.int p3), .val (.int (2 : Int32)), .val (.ref c1), .val (.ref r_884), .val (.ref b890), .val (.ref r_942), .unset, .unset]) rfl k) ?_
        refine WinW.to T942 (mkF m 143 #[.val (.int p0), .val (.int p1), .val (.int p2), .val (.int p3), .val (.int (2 : Int32)), .val (.ref c1), .val (.ref r_884), .val (.ref b890), .val (.ref r_942), .unset, .unset] [(.int (-1 : Int32))]) (fun _ k => XS.iconst X942.here hx rfl (hb hby at_142) k) ?_
        refine WinW.to T942 (mkF m 145 #[.val (.int p0), .val (.int p1), .val (.int p2), .val (.int p3), .val (.int (2 : Int32)), .val (.ref c1), .val (.ref r_884), .val (.ref b890), .val (.ref r_942), .val (.int (-1 : Int32)), .unset] []) (fun _ k => XS.istore X942.here hx rfl (hb hby at_143) rfl (l' := #[.val (.int p0), .val (.int p1), .val (.int p2), .val (.int p3), .val (.int (2 : Int32)), .val (.ref c1), .val (.ref r_884), .val (.ref b890), .val (.ref r_942), .val (.int (-1 : Int32)), .unset]) rfl k) ?_
        have Jd162 : ∀ (vmd162 : Vm) (kd162 : Nat) (Td162 : State) (locsd162 : List Loc) (Xd162 : Stand p l e room_1 (s.setVm vmd162) m #[(.int p0), (.int p1), (.int p2), (.int p3)] below meth c Td162 locsd162 11 31) (Nd162 : Fr n0 locsd162) (ed162 : Td162.heap = h942) (hSd162 : s.Since vmd162 kd162) (hkd162 : kd162 ≤ h942.size) (hZd162 : Z.Warmed39 (s.setVm vmd162).vm) (hownd162 : (s.setVm vmd162).vm.findClass "com/example/grantgate/grantgate/server/HeadVersionPinLaw" = some m.cls) (Cd162 : CHr Z EL1 s.vm s.heap vmd162 h942) (pg : Int32) , WinW p e below s room_1 Z EL1 (fun v h L => v = some (.int (1 : Int32)) ∧ Fr n0 L ∧ (True)) (Td162.setTop (mkF m 162 #[.val (.int p0), .val (.int p1), .val (.int p2), .val (.int p3), .val (.int (2 : Int32)), .val (.ref c1), .val (.ref r_884), .val (.ref b890), .val (.ref r_942), .val (.int pg), .unset] [])) := by
          intro vmd162 kd162 Td162 locsd162 Xd162 Nd162 ed162 hSd162 hkd162 hZd162 hownd162 Cd162 pg
          refine WinW.to Td162 (mkF m 164 #[.val (.int p0), .val (.int p1), .val (.int p2), .val (.int p3), .val (.int (2 : Int32)), .val (.ref c1), .val (.ref r_884), .val (.ref b890), .val (.ref r_942), .val (.int pg), .unset] [(.int (2 : Int32))]) (fun _ k => XS.iload Xd162.here hx rfl (hb hby at_162) rfl k) ?_
          refine WinW.to Td162 (mkF m 165 #[.val (.int p0), .val (.int p1), .val (.int p2), .val (.int p3), .val (.int (2 : Int32)), .val (.ref c1), .val (.ref r_884), .val (.ref b890), .val (.ref r_942), .val (.int pg), .unset] [(.int (1 : Int32)), (.int (2 : Int32))]) (fun _ k => XS.iconst Xd162.here hx rfl (hb hby at_164) k) ?_
          refine WinW.to Td162 (mkF m 168 #[.val (.int p0), .val (.int p1), .val (.int p2), .val (.int p3), .val (.int (2 : Int32)), .val (.ref c1), .val (.ref r_884), .val (.ref b890), .val (.ref r_942), .val (.int pg), .unset] []) (fun _ k => XS.icmpNo Xd162.here hx rfl (hb hby at_165) rfl (tlt (show (1 : Int32) < (2 : Int32) from by decide)).2.2.2 k) ?_
          refine WinW.to Td162 (mkF m 170 #[.val (.int p0), .val (.int p1), .val (.int p2), .val (.int p3), .val (.int (2 : Int32)), .val (.ref c1), .val (.ref r_884), .val (.ref b890), .val (.ref r_942), .val (.int pg), .unset] [(.ref c1)]) (fun _ k => XS.aload Xd162.here hx rfl (hb hby at_168) rfl rfl k) ?_
          refine WinW.to Td162 (mkF m 171 #[.val (.int p0), .val (.int p1), .val (.int p2), .val (.int p3), .val (.int (2 : Int32)), .val (.ref c1), .val (.ref r_884), .val (.ref b890), .val (.ref r_942), .val (.int pg), .unset] [(.int (1 : Int32)), (.ref c1)]) (fun _ k => XS.iconst Xd162.here hx rfl (hb hby at_170) k) ?_
          have F949 : Arv Z h942 c1 kc .char (4 : Int32) [(.int q0), (.int q1), (.int q2), (.int q3)] (.int (0 : Int32)) := ((((F905.ext E904).keep r921_0 (ninS ne906 nin0)).keep r931_0 (ninS ne892 nin0)).keep r942_0 nin0)
          obtain ⟨cl950, Ar950, q950, S950, N950, H950, G950⟩ := id F949
          have hi950 : ¬ ((1 : Int32) < 0 ∨ cl950.slots.size ≤ ((1 : Int32)).toNatClampNeg) := inb_of S950 ⟨by decide, by decide⟩
          refine WinW.to Td162 (mkF m 172 #[.val (.int p0), .val (.int p1), .val (.int p2), .val (.int p3), .val (.int (2 : Int32)), .val (.ref c1), .val (.ref r_884), .val (.ref b890), .val (.ref r_942), .val (.int pg), .unset] [(.int q1)]) (fun _ k => Xd162.caload hx (j := (1 : Int32)) (v := (.int q1)) (by rw [ed162]; exact Ar950.1) (State.isArrayOf_alike hZd162.alike Ar950.2.1) Ar950.2.2 hi950 (Has.at H950 hi950 rfl) (g := (mkF m 171 #[.val (.int p0), .val (.int p1), .val (.int p2), .val (.int p3), .val (.int (2 : Int32)), .val (.ref c1), .val (.ref r_884), .val (.ref b890), .val (.ref r_942), .val (.int pg), .unset] [(.int (1 : Int32)), (.ref c1)])) rfl rfl (hb hby at_171) _ k) ?_
          refine WinW.to Td162 (mkF m 174 #[.val (.int p0), .val (.int p1), .val (.int p2), .val (.int p3), .val (.int (2 : Int32)), .val (.ref c1), .val (.ref r_884), .val (.ref b890), .val (.ref r_942), .val (.int pg), .unset] [(.int (32 : Int32)), (.int q1)]) (fun _ k => XS.bipush Xd162.here hx rfl (hb hby at_172) k) ?_
          refine WinW.to Td162 (mkF m 177 #[.val (.int p0), .val (.int p1), .val (.int p2), .val (.int p3), .val (.int (2 : Int32)), .val (.ref c1), .val (.ref r_884), .val (.ref b890), .val (.ref r_942), .val (.int pg), .unset] []) (fun _ k => XS.icmpNo Xd162.here hx rfl (hb hby at_174) rfl (teq (show q1 = (32 : Int32) from hq1)).2 k) ?_
          refine WinW.to Td162 (mkF m 178 #[.val (.int p0), .val (.int p1), .val (.int p2), .val (.int p3), .val (.int (2 : Int32)), .val (.ref c1), .val (.ref r_884), .val (.ref b890), .val (.ref r_942), .val (.int pg), .unset] [(.int (1 : Int32))]) (fun _ k => XS.iconst Xd162.here hx rfl (hb hby at_177) k) ?_
          refine WinW.to Td162 (mkF m 180 #[.val (.int p0), .val (.int p1), .val (.int p2), .val (.int p3), .val (.int (2 : Int32)), .val (.ref c1), .val (.ref r_884), .val (.ref b890), .val (.ref r_942), .val (.int (1 : Int32)), .unset] []) (fun _ k => XS.istore Xd162.here hx rfl (hb hby at_178) rfl (l' := #[.val (.int p0), .val (.int p1), .val (.int p2), .val (.int p3), .val (.int (2 : Int32)), .val (.ref c1), .val (.ref r_884), .val (.ref b890), .val (.ref r_942), .val (.int (1 : Int32)), .unset]) rfl k) ?_
          refine WinW.to Td162 (mkF m 182 #[.val (.int p0), .val (.int p1), .val (.int p2), .val (.int p3), .val (.int (2 : Int32)), .val (.ref c1), .val (.ref r_884), .val (.ref b890), .val (.ref r_942), .val (.int (1 : Int32)), .unset] [(.int (2 : Int32))]) (fun _ k => XS.iload Xd162.here hx rfl (hb hby at_180) rfl k) ?_
          refine WinW.to Td162 (mkF m 183 #[.val (.int p0), .val (.int p1), .val (.int p2), .val (.int p3), .val (.int (2 : Int32)), .val (.ref c1), .val (.ref r_884), .val (.ref b890), .val (.ref r_942), .val (.int (1 : Int32)), .unset] [(.int (2 : Int32)), (.int (2 : Int32))]) (fun _ k => XS.iconst Xd162.here hx rfl (hb hby at_182) k) ?_
          refine WinW.to Td162 (mkF m 198 #[.val (.int p0), .val (.int p1), .val (.int p2), .val (.int p3), .val (.int (2 : Int32)), .val (.ref c1), .val (.ref r_884), .val (.ref b890), .val (.ref r_942), .val (.int (1 : Int32)), .unset] []) (fun _ k => XS.icmpYes Xd162.here hx rfl (pc0 := 183) (pc' := 198) rfl (hb hby at_183) rfl (flt (show ¬ ((2 : Int32) < (2 : Int32)) from by decide)).2.2.2 (by decide) (by decide) k) ?_
          refine WinW.to Td162 (mkF m 200 #[.val (.int p0), .val (.int p1), .val (.int p2), .val (.int p3), .val (.int (2 : Int32)), .val (.ref c1), .val (.ref r_884), .val (.ref b890), .val (.ref r_942), .val (.int (1 : Int32)), .unset] [(.int (2 : Int32))]) (fun _ k => XS.iload Xd162.here hx rfl (hb hby at_198) rfl k) ?_
          refine WinW.to Td162 (mkF m 201 #[.val (.int p0), .val (.int p1), .val (.int p2), .val (.int p3), .val (.int (2 : Int32)), .val (.ref c1), .val (.ref r_884), .val (.ref b890), .val (.ref r_942), .val (.int (1 : Int32)), .unset] [(.int (3 : Int32)), (.int (2 : Int32))]) (fun _ k => XS.iconst Xd162.here hx rfl (hb hby at_200) k) ?_
          refine WinW.to Td162 (mkF m 216 #[.val (.int p0), .val (.int p1), .val (.int p2), .val (.int p3), .val (.int (2 : Int32)), .val (.ref c1), .val (.ref r_884), .val (.ref b890), .val (.ref r_942), .val (.int (1 : Int32)), .unset] []) (fun _ k => XS.icmpYes Xd162.here hx rfl (pc0 := 201) (pc' := 216) rfl (hb hby at_201) rfl (flt (show ¬ ((3 : Int32) < (2 : Int32)) from by decide)).2.2.2 (by decide) (by decide) k) ?_
          exact Jc216 _ _ Td162 _ h942 (Xd162.mono (by decide) (by decide)) Nd162 ed162 O945 K946 hSd162 hkd162 hZd162 hownd162 Cd162 r_942 (1 : Int32) t2_942 k2_942 0 (fun i => (fun i => ((fun i => ([q0, q1] : List Int32).getD i (0 : Int32)) i).toInt8.toInt32) (2 + i)) 2 2 (.val (.ref r_884)) (.val (.ref b890)) r942_1 r942_2 r942_3 r942_4 F949 (by decide) (by decide) (by decide) (fun i hi => absurd hi (Nat.not_lt_zero _)) (by decide)
        refine WinW.to T942 (mkF m 147 #[.val (.int p0), .val (.int p1), .val (.int p2), .val (.int p3), .val (.int (2 : Int32)), .val (.ref c1), .val (.ref r_884), .val (.ref b890), .val (.ref r_942), .val (.int (-1 : Int32)), .unset] [(.int (2 : Int32))]) (fun _ k => XS.iload X942.here hx rfl (hb hby at_145) rfl k) ?_
        refine WinW.to T942 (mkF m 150 #[.val (.int p0), .val (.int p1), .val (.int p2), .val (.int p3), .val (.int (2 : Int32)), .val (.ref c1), .val (.ref r_884), .val (.ref b890), .val (.ref r_942), .val (.int (-1 : Int32)), .unset] []) (fun _ k => XS.ifNo X942.here hx rfl (hb hby at_147) rfl ((if0 _ _).trans (tlt (show (0 : Int32) < (2 : Int32) from by decide)).2.2.2) k) ?_
        refine WinW.to T942 (mkF m 152 #[.val (.int p0), .val (.int p1), .val (.int p2), .val (.int p3), .val (.int (2 : Int32)), .val (.ref c1), .val (.ref r_884), .val (.ref b890), .val (.ref r_942), .val (.int (-1 : Int32)), .unset] [(.ref c1)]) (fun _ k => XS.aload X942.here hx rfl (hb hby at_150) rfl rfl k) ?_
        refine WinW.to T942 (mkF m 153 #[.val (.int p0), .val (.int p1), .val (.int p2), .val (.int p3), .val (.int (2 : Int32)), .val (.ref c1), .val (.ref r_884), .val (.ref b890), .val (.ref r_942), .val (.int (-1 : Int32)), .unset] [(.int (0 : Int32)), (.ref c1)]) (fun _ k => XS.iconst X942.here hx rfl (hb hby at_152) k) ?_
        have F951 : Arv Z h942 c1 kc .char (4 : Int32) [(.int q0), (.int q1), (.int q2), (.int q3)] (.int (0 : Int32)) := ((((F905.ext E904).keep r921_0 (ninS ne906 nin0)).keep r931_0 (ninS ne892 nin0)).keep r942_0 nin0)
        obtain ⟨cl952, Ar952, q952, S952, N952, H952, G952⟩ := id F951
        have hi952 : ¬ ((0 : Int32) < 0 ∨ cl952.slots.size ≤ ((0 : Int32)).toNatClampNeg) := inb_of S952 ⟨by decide, by decide⟩
        refine WinW.to T942 (mkF m 154 #[.val (.int p0), .val (.int p1), .val (.int p2), .val (.int p3), .val (.int (2 : Int32)), .val (.ref c1), .val (.ref r_884), .val (.ref b890), .val (.ref r_942), .val (.int (-1 : Int32)), .unset] [(.int q0)]) (fun _ k => X942.caload hx (j := (0 : Int32)) (v := (.int q0)) (by rw [e942]; exact Ar952.1) (State.isArrayOf_alike hZ942.alike Ar952.2.1) Ar952.2.2 hi952 (Has.at H952 hi952 rfl) (g := (mkF m 153 #[.val (.int p0), .val (.int p1), .val (.int p2), .val (.int p3), .val (.int (2 : Int32)), .val (.ref c1), .val (.ref r_884), .val (.ref b890), .val (.ref r_942), .val (.int (-1 : Int32)), .unset] [(.int (0 : Int32)), (.ref c1)])) rfl rfl (hb hby at_153) _ k) ?_
        refine WinW.to T942 (mkF m 156 #[.val (.int p0), .val (.int p1), .val (.int p2), .val (.int p3), .val (.int (2 : Int32)), .val (.ref c1), .val (.ref r_884), .val (.ref b890), .val (.ref r_942), .val (.int (-1 : Int32)), .unset] [(.int (32 : Int32)), (.int q0)]) (fun _ k => XS.bipush X942.here hx rfl (hb hby at_154) k) ?_
        by_cases hc953 : q0 = (32 : Int32)
        · refine WinW.to T942 (mkF m 159 #[.val (.int p0), .val (.int p1), .val (.int p2), .val (.int p3), .val (.int (2 : Int32)), .val (.ref c1), .val (.ref r_884), .val (.ref b890), .val (.ref r_942), .val (.int (-1 : Int32)), .unset] []) (fun _ k => XS.icmpNo X942.here hx rfl (hb hby at_156) rfl (teq hc953).2 k) ?_
          refine WinW.to T942 (mkF m 160 #[.val (.int p0), .val (.int p1), .val (.int p2), .val (.int p3), .val (.int (2 : Int32)), .val (.ref c1), .val (.ref r_884), .val (.ref b890), .val (.ref r_942), .val (.int (-1 : Int32)), .unset] [(.int (0 : Int32))]) (fun _ k => XS.iconst X942.here hx rfl (hb hby at_159) k) ?_
          refine WinW.to T942 (mkF m 162 #[.val (.int p0), .val (.int p1), .val (.int p2), .val (.int p3), .val (.int (2 : Int32)), .val (.ref c1), .val (.ref r_884), .val (.ref b890), .val (.ref r_942), .val (.int (0 : Int32)), .unset] []) (fun _ k => XS.istore X942.here hx rfl (hb hby at_160) rfl (l' := #[.val (.int p0), .val (.int p1), .val (.int p2), .val (.int p3), .val (.int (2 : Int32)), .val (.ref c1), .val (.ref r_884), .val (.ref b890), .val (.ref r_942), .val (.int (0 : Int32)), .unset]) rfl k) ?_
          exact Jd162 _ _ T942 _ X942 N944 e942 hS942 hk942 hZ942 hown942 C948 (0 : Int32)
        · refine WinW.to T942 (mkF m 162 #[.val (.int p0), .val (.int p1), .val (.int p2), .val (.int p3), .val (.int (2 : Int32)), .val (.ref c1), .val (.ref r_884), .val (.ref b890), .val (.ref r_942), .val (.int (-1 : Int32)), .unset] []) (fun _ k => XS.icmpYes X942.here hx rfl (pc0 := 156) (pc' := 162) rfl (hb hby at_156) rfl (feq hc953).2 (by decide) (by decide) k) ?_
          exact Jd162 _ _ T942 _ X942 N944 e942 hS942 hk942 hZ942 hown942 C948 (-1 : Int32)
      · by_cases hq0 : q0 = (32 : Int32)
        · refine WinW.to T931 (mkF m 137 #[.val (.int p0), .val (.int p1), .val (.int p2), .val (.int p3), .val (.int (2 : Int32)), .val (.ref c1), .val (.ref r_884), .val (.ref b890), .unset, .unset, .unset] [(.ref b890)]) (fun _ k => XS.aload X931.here hx rfl (hb hby at_135) rfl rfl k) ?_
          have F954 : Exa Z h931 r_884 "java/lang/String" := (((Exa.ext E904 F907).keep r921_0).keep r931_0)
          have F955 : Fld Z h931 r_884 "java/lang/String" "value" "[B" (.ref t_884) := (((Fld.ext E904 (Fld.ext E890 r884_2)).keep r921_0 (ninS ne908 nin0)).keep r931_0 (ninS ne893 nin0))
          have F956 : Fld Z h931 r_884 "java/lang/String" "coder" "B" (.int (0 : Int32)) := (((Fld.ext E904 (Fld.ext E890 r884_3)).keep r921_0 (ninS ne908 nin0)).keep r931_0 (ninS ne893 nin0))
          have F957 : ArF Z h931 t_884 kb_884 .byte 2 (fun i => ((fun i => ([q0, q1] : List Int32).getD i (0 : Int32)) i).toInt8.toInt32) := (((F909.ext E904).keep r921_0 (ninS ne910 nin0)).keep r931_0 (ninS ne894 nin0))
          have F959 : Exa Z h931 b890 "com/example/grantgate/grantgate/server/MessageReader$Head" := (F928.keep r931_0)
          obtain ⟨T958, h958, v958, L958, k958, X958, e958, hS958, hk958, hZ958, hown958, ⟨r_958, t2_958, k2_958, rfl, N958q, r958_0, r958_1, r958_2, r958_3, r958_4⟩, c958, st958⟩ := W.virtual X931 hS884 hk934 hx hZ884 (y := (⟨"com/example/grantgate/grantgate/server/MessageReader$Head", "version", "()Ljava/lang/String;"⟩ : MethodName)) (z := (⟨"com/example/grantgate/grantgate/server/MessageReader$Head", "version", "()Ljava/lang/String;"⟩ : MethodName)) hown884 (wk hw 67 rfl) (wk hw 68 rfl) (notFace_of_selects (args := #[]) (mvT hZ884 (wk hw 70 rfl))) (wk hw 70 rfl) (wk hw 69 rfl) (wk hw 29 rfl) (wk hw 71 rfl) (by decide) (headV l Z a0 hw b890 r_884 t_884 kb_884 2 (fun i => ((fun i => ([q0, q1] : List Int32).getD i (0 : Int32)) i).toInt8.toInt32) 1 cs x1 h931 n0 O933 r931_1 F954 F955 F956 F957 (by decide) ((fun i hb hi => by
            match i, hb, hi with
            | 0, hb, _ => exact absurd hb (by decide)
            | 1, hb, _ => exact (own_sp2 hlq1 hcq1 hq1))) (fun _ => (show q0.toInt8.toInt32 = (32 : Int32) from by rw [hq0]; decide)) (by decide) S_CS hcs S_SI hx1) (own_EW hw) C937.1 e931 F959 (g := (mkF m 137 #[.val (.int p0), .val (.int p1), .val (.int p2), .val (.int p3), .val (.int (2 : Int32)), .val (.ref c1), .val (.ref r_884), .val (.ref b890), .unset, .unset, .unset] [(.ref b890)])) rfl (by rw [hml]; rfl) (argsL := []) (rest := []) rfl (lenOf pd___Ljava_lang_String_ rfl) rfl (W := 0) (by show 2 * 0 + _ ≤ _; exact Nat.le_of_eq rfl) (hb hby at_137) (by decide) (by decide) (by decide) (by decide)
          have N960 := Fr.app N932 N958q
          have O961 := Old.keep O933 r958_0 all0
          have K962 : Keep h0 h958 [] := Keep.trans K935 r958_0 all0
          have c963 := c958
          have C964 := CHr.trans C937 c963
          refine WinW.to T958 (mkF m 140 #[.val (.int p0), .val (.int p1), .val (.int p2), .val (.int p3), .val (.int (2 : Int32)), .val (.ref c1), .val (.ref r_884), .val (.ref b890), .unset, .unset, .unset] [(.ref r_958)]) (fun _ k => st958 _ k) ?_
          refine WinW.to T958 (mkF m 142 #[.val (.int p0), .val (.int p1), .val (.int p2), .val (.int p3), .val (.int (2 : Int32)), .val (.ref c1), .val (.ref r_884), .val (.ref b890), .val (.ref r_958), .unset, .unset] []) (fun _ k => XS.astore X958.here hx rfl (hb hby at_140) rfl rfl (l' := #[.val (.int p0), .val (.int p1), .val (.int p2), .val (.int p3), .val (.int (2 : Int32)), .val (.ref c1), .val (.ref r_884), .val (.ref b890), .val (.ref r_958), .unset, .unset]) rfl k) ?_
          refine WinW.to T958 (mkF m 143 #[.val (.int p0), .val (.int p1), .val (.int p2), .val (.int p3), .val (.int (2 : Int32)), .val (.ref c1), .val (.ref r_884), .val (.ref b890), .val (.ref r_958), .unset, .unset] [(.int (-1 : Int32))]) (fun _ k => XS.iconst X958.here hx rfl (hb hby at_142) k) ?_
          refine WinW.to T958 (mkF m 145 #[.val (.int p0), .val (.int p1), .val (.int p2), .val (.int p3), .val (.int (2 : Int32)), .val (.ref c1), .val (.ref r_884), .val (.ref b890), .val (.ref r_958), .val (.int (-1 : Int32)), .unset] []) (fun _ k => XS.istore X958.here hx rfl (hb hby at_143) rfl (l' := #[.val (.int p0), .val (.int p1), .val (.int p2), .val (.int p3), .val (.int (2 : Int32)), .val (.ref c1), .val (.ref r_884), .val (.ref b890), .val (.ref r_958), .val (.int (-1 : Int32)), .unset]) rfl k) ?_
          refine WinW.to T958 (mkF m 147 #[.val (.int p0), .val (.int p1), .val (.int p2), .val (.int p3), .val (.int (2 : Int32)), .val (.ref c1), .val (.ref r_884), .val (.ref b890), .val (.ref r_958), .val (.int (-1 : Int32)), .unset] [(.int (2 : Int32))]) (fun _ k => XS.iload X958.here hx rfl (hb hby at_145) rfl k) ?_
          refine WinW.to T958 (mkF m 150 #[.val (.int p0), .val (.int p1), .val (.int p2), .val (.int p3), .val (.int (2 : Int32)), .val (.ref c1), .val (.ref r_884), .val (.ref b890), .val (.ref r_958), .val (.int (-1 : Int32)), .unset] []) (fun _ k => XS.ifNo X958.here hx rfl (hb hby at_147) rfl ((if0 _ _).trans (tlt (show (0 : Int32) < (2 : Int32) from by decide)).2.2.2) k) ?_
          refine WinW.to T958 (mkF m 152 #[.val (.int p0), .val (.int p1), .val (.int p2), .val (.int p3), .val (.int (2 : Int32)), .val (.ref c1), .val (.ref r_884), .val (.ref b890), .val (.ref r_958), .val (.int (-1 : Int32)), .unset] [(.ref c1)]) (fun _ k => XS.aload X958.here hx rfl (hb hby at_150) rfl rfl k) ?_
          refine WinW.to T958 (mkF m 153 #[.val (.int p0), .val (.int p1), .val (.int p2), .val (.int p3), .val (.int (2 : Int32)), .val (.ref c1), .val (.ref r_884), .val (.ref b890), .val (.ref r_958), .val (.int (-1 : Int32)), .unset] [(.int (0 : Int32)), (.ref c1)]) (fun _ k => XS.iconst X958.here hx rfl (hb hby at_152) k) ?_
          have F965 : Arv Z h958 c1 kc .char (4 : Int32) [(.int q0), (.int q1), (.int q2), (.int q3)] (.int (0 : Int32)) := ((((F905.ext E904).keep r921_0 (ninS ne906 nin0)).keep r931_0 (ninS ne892 nin0)).keep r958_0 nin0)
          obtain ⟨cl966, Ar966, q966, S966, N966, H966, G966⟩ := id F965
          have hi966 : ¬ ((0 : Int32) < 0 ∨ cl966.slots.size ≤ ((0 : Int32)).toNatClampNeg) := inb_of S966 ⟨by decide, by decide⟩
          refine WinW.to T958 (mkF m 154 #[.val (.int p0), .val (.int p1), .val (.int p2), .val (.int p3), .val (.int (2 : Int32)), .val (.ref c1), .val (.ref r_884), .val (.ref b890), .val (.ref r_958), .val (.int (-1 : Int32)), .unset] [(.int q0)]) (fun _ k => X958.caload hx (j := (0 : Int32)) (v := (.int q0)) (by rw [e958]; exact Ar966.1) (State.isArrayOf_alike hZ958.alike Ar966.2.1) Ar966.2.2 hi966 (Has.at H966 hi966 rfl) (g := (mkF m 153 #[.val (.int p0), .val (.int p1), .val (.int p2), .val (.int p3), .val (.int (2 : Int32)), .val (.ref c1), .val (.ref r_884), .val (.ref b890), .val (.ref r_958), .val (.int (-1 : Int32)), .unset] [(.int (0 : Int32)), (.ref c1)])) rfl rfl (hb hby at_153) _ k) ?_
          refine WinW.to T958 (mkF m 156 #[.val (.int p0), .val (.int p1), .val (.int p2), .val (.int p3), .val (.int (2 : Int32)), .val (.ref c1), .val (.ref r_884), .val (.ref b890), .val (.ref r_958), .val (.int (-1 : Int32)), .unset] [(.int (32 : Int32)), (.int q0)]) (fun _ k => XS.bipush X958.here hx rfl (hb hby at_154) k) ?_
          refine WinW.to T958 (mkF m 159 #[.val (.int p0), .val (.int p1), .val (.int p2), .val (.int p3), .val (.int (2 : Int32)), .val (.ref c1), .val (.ref r_884), .val (.ref b890), .val (.ref r_958), .val (.int (-1 : Int32)), .unset] []) (fun _ k => XS.icmpNo X958.here hx rfl (hb hby at_156) rfl (teq (show q0 = (32 : Int32) from hq0)).2 k) ?_
          refine WinW.to T958 (mkF m 160 #[.val (.int p0), .val (.int p1), .val (.int p2), .val (.int p3), .val (.int (2 : Int32)), .val (.ref c1), .val (.ref r_884), .val (.ref b890), .val (.ref r_958), .val (.int (-1 : Int32)), .unset] [(.int (0 : Int32))]) (fun _ k => XS.iconst X958.here hx rfl (hb hby at_159) k) ?_
          refine WinW.to T958 (mkF m 162 #[.val (.int p0), .val (.int p1), .val (.int p2), .val (.int p3), .val (.int (2 : Int32)), .val (.ref c1), .val (.ref r_884), .val (.ref b890), .val (.ref r_958), .val (.int (0 : Int32)), .unset] []) (fun _ k => XS.istore X958.here hx rfl (hb hby at_160) rfl (l' := #[.val (.int p0), .val (.int p1), .val (.int p2), .val (.int p3), .val (.int (2 : Int32)), .val (.ref c1), .val (.ref r_884), .val (.ref b890), .val (.ref r_958), .val (.int (0 : Int32)), .unset]) rfl k) ?_
          refine WinW.to T958 (mkF m 164 #[.val (.int p0), .val (.int p1), .val (.int p2), .val (.int p3), .val (.int (2 : Int32)), .val (.ref c1), .val (.ref r_884), .val (.ref b890), .val (.ref r_958), .val (.int (0 : Int32)), .unset] [(.int (2 : Int32))]) (fun _ k => XS.iload X958.here hx rfl (hb hby at_162) rfl k) ?_
          refine WinW.to T958 (mkF m 165 #[.val (.int p0), .val (.int p1), .val (.int p2), .val (.int p3), .val (.int (2 : Int32)), .val (.ref c1), .val (.ref r_884), .val (.ref b890), .val (.ref r_958), .val (.int (0 : Int32)), .unset] [(.int (1 : Int32)), (.int (2 : Int32))]) (fun _ k => XS.iconst X958.here hx rfl (hb hby at_164) k) ?_
          refine WinW.to T958 (mkF m 168 #[.val (.int p0), .val (.int p1), .val (.int p2), .val (.int p3), .val (.int (2 : Int32)), .val (.ref c1), .val (.ref r_884), .val (.ref b890), .val (.ref r_958), .val (.int (0 : Int32)), .unset] []) (fun _ k => XS.icmpNo X958.here hx rfl (hb hby at_165) rfl (tlt (show (1 : Int32) < (2 : Int32) from by decide)).2.2.2 k) ?_
          refine WinW.to T958 (mkF m 170 #[.val (.int p0), .val (.int p1), .val (.int p2), .val (.int p3), .val (.int (2 : Int32)), .val (.ref c1), .val (.ref r_884), .val (.ref b890), .val (.ref r_958), .val (.int (0 : Int32)), .unset] [(.ref c1)]) (fun _ k => XS.aload X958.here hx rfl (hb hby at_168) rfl rfl k) ?_
          refine WinW.to T958 (mkF m 171 #[.val (.int p0), .val (.int p1), .val (.int p2), .val (.int p3), .val (.int (2 : Int32)), .val (.ref c1), .val (.ref r_884), .val (.ref b890), .val (.ref r_958), .val (.int (0 : Int32)), .unset] [(.int (1 : Int32)), (.ref c1)]) (fun _ k => XS.iconst X958.here hx rfl (hb hby at_170) k) ?_
          obtain ⟨cl967, Ar967, q967, S967, N967, H967, G967⟩ := id F965
          have hi967 : ¬ ((1 : Int32) < 0 ∨ cl967.slots.size ≤ ((1 : Int32)).toNatClampNeg) := inb_of S967 ⟨by decide, by decide⟩
          refine WinW.to T958 (mkF m 172 #[.val (.int p0), .val (.int p1), .val (.int p2), .val (.int p3), .val (.int (2 : Int32)), .val (.ref c1), .val (.ref r_884), .val (.ref b890), .val (.ref r_958), .val (.int (0 : Int32)), .unset] [(.int q1)]) (fun _ k => X958.caload hx (j := (1 : Int32)) (v := (.int q1)) (by rw [e958]; exact Ar967.1) (State.isArrayOf_alike hZ958.alike Ar967.2.1) Ar967.2.2 hi967 (Has.at H967 hi967 rfl) (g := (mkF m 171 #[.val (.int p0), .val (.int p1), .val (.int p2), .val (.int p3), .val (.int (2 : Int32)), .val (.ref c1), .val (.ref r_884), .val (.ref b890), .val (.ref r_958), .val (.int (0 : Int32)), .unset] [(.int (1 : Int32)), (.ref c1)])) rfl rfl (hb hby at_171) _ k) ?_
          refine WinW.to T958 (mkF m 174 #[.val (.int p0), .val (.int p1), .val (.int p2), .val (.int p3), .val (.int (2 : Int32)), .val (.ref c1), .val (.ref r_884), .val (.ref b890), .val (.ref r_958), .val (.int (0 : Int32)), .unset] [(.int (32 : Int32)), (.int q1)]) (fun _ k => XS.bipush X958.here hx rfl (hb hby at_172) k) ?_
          refine WinW.to T958 (mkF m 180 #[.val (.int p0), .val (.int p1), .val (.int p2), .val (.int p3), .val (.int (2 : Int32)), .val (.ref c1), .val (.ref r_884), .val (.ref b890), .val (.ref r_958), .val (.int (0 : Int32)), .unset] []) (fun _ k => XS.icmpYes X958.here hx rfl (pc0 := 174) (pc' := 180) rfl (hb hby at_174) rfl (feq (show ¬ (q1 = (32 : Int32)) from hq1)).2 (by decide) (by decide) k) ?_
          refine WinW.to T958 (mkF m 182 #[.val (.int p0), .val (.int p1), .val (.int p2), .val (.int p3), .val (.int (2 : Int32)), .val (.ref c1), .val (.ref r_884), .val (.ref b890), .val (.ref r_958), .val (.int (0 : Int32)), .unset] [(.int (2 : Int32))]) (fun _ k => XS.iload X958.here hx rfl (hb hby at_180) rfl k) ?_
          refine WinW.to T958 (mkF m 183 #[.val (.int p0), .val (.int p1), .val (.int p2), .val (.int p3), .val (.int (2 : Int32)), .val (.ref c1), .val (.ref r_884), .val (.ref b890), .val (.ref r_958), .val (.int (0 : Int32)), .unset] [(.int (2 : Int32)), (.int (2 : Int32))]) (fun _ k => XS.iconst X958.here hx rfl (hb hby at_182) k) ?_
          refine WinW.to T958 (mkF m 198 #[.val (.int p0), .val (.int p1), .val (.int p2), .val (.int p3), .val (.int (2 : Int32)), .val (.ref c1), .val (.ref r_884), .val (.ref b890), .val (.ref r_958), .val (.int (0 : Int32)), .unset] []) (fun _ k => XS.icmpYes X958.here hx rfl (pc0 := 183) (pc' := 198) rfl (hb hby at_183) rfl (flt (show ¬ ((2 : Int32) < (2 : Int32)) from by decide)).2.2.2 (by decide) (by decide) k) ?_
          refine WinW.to T958 (mkF m 200 #[.val (.int p0), .val (.int p1), .val (.int p2), .val (.int p3), .val (.int (2 : Int32)), .val (.ref c1), .val (.ref r_884), .val (.ref b890), .val (.ref r_958), .val (.int (0 : Int32)), .unset] [(.int (2 : Int32))]) (fun _ k => XS.iload X958.here hx rfl (hb hby at_198) rfl k) ?_
          refine WinW.to T958 (mkF m 201 #[.val (.int p0), .val (.int p1), .val (.int p2), .val (.int p3), .val (.int (2 : Int32)), .val (.ref c1), .val (.ref r_884), .val (.ref b890), .val (.ref r_958), .val (.int (0 : Int32)), .unset] [(.int (3 : Int32)), (.int (2 : Int32))]) (fun _ k => XS.iconst X958.here hx rfl (hb hby at_200) k) ?_
          refine WinW.to T958 (mkF m 216 #[.val (.int p0), .val (.int p1), .val (.int p2), .val (.int p3), .val (.int (2 : Int32)), .val (.ref c1), .val (.ref r_884), .val (.ref b890), .val (.ref r_958), .val (.int (0 : Int32)), .unset] []) (fun _ k => XS.icmpYes X958.here hx rfl (pc0 := 201) (pc' := 216) rfl (hb hby at_201) rfl (flt (show ¬ ((3 : Int32) < (2 : Int32)) from by decide)).2.2.2 (by decide) (by decide) k) ?_
          exact Jc216 _ _ T958 _ h958 (X958.mono (by decide) (by decide)) N960 e958 O961 K962 hS958 hk958 hZ958 hown958 C964 r_958 (0 : Int32) t2_958 k2_958 1 (fun i => (fun i => ((fun i => ([q0, q1] : List Int32).getD i (0 : Int32)) i).toInt8.toInt32) (1 + i)) 2 1 (.val (.ref r_884)) (.val (.ref b890)) r958_1 r958_2 r958_3 r958_4 F965 (by decide) (by decide) (by decide) ((fun i hi => by
            match i, hi with
            | 0, _ => exact (own_b255 hlq1 hcq1))) (by decide)
        · refine WinW.to T931 (mkF m 137 #[.val (.int p0), .val (.int p1), .val (.int p2), .val (.int p3), .val (.int (2 : Int32)), .val (.ref c1), .val (.ref r_884), .val (.ref b890), .unset, .unset, .unset] [(.ref b890)]) (fun _ k => XS.aload X931.here hx rfl (hb hby at_135) rfl rfl k) ?_
          have F968 : Exa Z h931 r_884 "java/lang/String" := (((Exa.ext E904 F907).keep r921_0).keep r931_0)
          have F969 : Fld Z h931 r_884 "java/lang/String" "value" "[B" (.ref t_884) := (((Fld.ext E904 (Fld.ext E890 r884_2)).keep r921_0 (ninS ne908 nin0)).keep r931_0 (ninS ne893 nin0))
          have F970 : Fld Z h931 r_884 "java/lang/String" "coder" "B" (.int (0 : Int32)) := (((Fld.ext E904 (Fld.ext E890 r884_3)).keep r921_0 (ninS ne908 nin0)).keep r931_0 (ninS ne893 nin0))
          have F971 : ArF Z h931 t_884 kb_884 .byte 2 (fun i => ((fun i => ([q0, q1] : List Int32).getD i (0 : Int32)) i).toInt8.toInt32) := (((F909.ext E904).keep r921_0 (ninS ne910 nin0)).keep r931_0 (ninS ne894 nin0))
          have F973 : Exa Z h931 b890 "com/example/grantgate/grantgate/server/MessageReader$Head" := (F928.keep r931_0)
          obtain ⟨T972, h972, v972, L972, k972, X972, e972, hS972, hk972, hZ972, hown972, ⟨r_972, t2_972, k2_972, rfl, N972q, r972_0, r972_1, r972_2, r972_3, r972_4⟩, c972, st972⟩ := W.virtual X931 hS884 hk934 hx hZ884 (y := (⟨"com/example/grantgate/grantgate/server/MessageReader$Head", "version", "()Ljava/lang/String;"⟩ : MethodName)) (z := (⟨"com/example/grantgate/grantgate/server/MessageReader$Head", "version", "()Ljava/lang/String;"⟩ : MethodName)) hown884 (wk hw 67 rfl) (wk hw 68 rfl) (notFace_of_selects (args := #[]) (mvT hZ884 (wk hw 70 rfl))) (wk hw 70 rfl) (wk hw 69 rfl) (wk hw 29 rfl) (wk hw 71 rfl) (by decide) (headV l Z a0 hw b890 r_884 t_884 kb_884 2 (fun i => ((fun i => ([q0, q1] : List Int32).getD i (0 : Int32)) i).toInt8.toInt32) 0 cs x1 h931 n0 O933 r931_1 F968 F969 F970 F971 (by decide) ((fun i hb hi => by
            match i, hb, hi with
            | 0, hb, _ => exact (own_sp2 hlq0 hcq0 hq0)
            | 1, hb, _ => exact (own_sp2 hlq1 hcq1 hq1))) (fun q => absurd q (Nat.lt_irrefl _)) (by decide) S_CS hcs S_SI hx1) (own_EW hw) C937.1 e931 F973 (g := (mkF m 137 #[.val (.int p0), .val (.int p1), .val (.int p2), .val (.int p3), .val (.int (2 : Int32)), .val (.ref c1), .val (.ref r_884), .val (.ref b890), .unset, .unset, .unset] [(.ref b890)])) rfl (by rw [hml]; rfl) (argsL := []) (rest := []) rfl (lenOf pd___Ljava_lang_String_ rfl) rfl (W := 0) (by show 2 * 0 + _ ≤ _; exact Nat.le_of_eq rfl) (hb hby at_137) (by decide) (by decide) (by decide) (by decide)
          have N974 := Fr.app N932 N972q
          have O975 := Old.keep O933 r972_0 all0
          have K976 : Keep h0 h972 [] := Keep.trans K935 r972_0 all0
          have c977 := c972
          have C978 := CHr.trans C937 c977
          refine WinW.to T972 (mkF m 140 #[.val (.int p0), .val (.int p1), .val (.int p2), .val (.int p3), .val (.int (2 : Int32)), .val (.ref c1), .val (.ref r_884), .val (.ref b890), .unset, .unset, .unset] [(.ref r_972)]) (fun _ k => st972 _ k) ?_
          refine WinW.to T972 (mkF m 142 #[.val (.int p0), .val (.int p1), .val (.int p2), .val (.int p3), .val (.int (2 : Int32)), .val (.ref c1), .val (.ref r_884), .val (.ref b890), .val (.ref r_972), .unset, .unset] []) (fun _ k => XS.astore X972.here hx rfl (hb hby at_140) rfl rfl (l' := #[.val (.int p0), .val (.int p1), .val (.int p2), .val (.int p3), .val (.int (2 : Int32)), .val (.ref c1), .val (.ref r_884), .val (.ref b890), .val (.ref r_972), .unset, .unset]) rfl k) ?_
          refine WinW.to T972 (mkF m 143 #[.val (.int p0), .val (.int p1), .val (.int p2), .val (.int p3), .val (.int (2 : Int32)), .val (.ref c1), .val (.ref r_884), .val (.ref b890), .val (.ref r_972), .unset, .unset] [(.int (-1 : Int32))]) (fun _ k => XS.iconst X972.here hx rfl (hb hby at_142) k) ?_
          refine WinW.to T972 (mkF m 145 #[.val (.int p0), .val (.int p1), .val (.int p2), .val (.int p3), .val (.int (2 : Int32)), .val (.ref c1), .val (.ref r_884), .val (.ref b890), .val (.ref r_972), .val (.int (-1 : Int32)), .unset] []) (fun _ k => XS.istore X972.here hx rfl (hb hby at_143) rfl (l' := #[.val (.int p0), .val (.int p1), .val (.int p2), .val (.int p3), .val (.int (2 : Int32)), .val (.ref c1), .val (.ref r_884), .val (.ref b890), .val (.ref r_972), .val (.int (-1 : Int32)), .unset]) rfl k) ?_
          refine WinW.to T972 (mkF m 147 #[.val (.int p0), .val (.int p1), .val (.int p2), .val (.int p3), .val (.int (2 : Int32)), .val (.ref c1), .val (.ref r_884), .val (.ref b890), .val (.ref r_972), .val (.int (-1 : Int32)), .unset] [(.int (2 : Int32))]) (fun _ k => XS.iload X972.here hx rfl (hb hby at_145) rfl k) ?_
          refine WinW.to T972 (mkF m 150 #[.val (.int p0), .val (.int p1), .val (.int p2), .val (.int p3), .val (.int (2 : Int32)), .val (.ref c1), .val (.ref r_884), .val (.ref b890), .val (.ref r_972), .val (.int (-1 : Int32)), .unset] []) (fun _ k => XS.ifNo X972.here hx rfl (hb hby at_147) rfl ((if0 _ _).trans (tlt (show (0 : Int32) < (2 : Int32) from by decide)).2.2.2) k) ?_
          refine WinW.to T972 (mkF m 152 #[.val (.int p0), .val (.int p1), .val (.int p2), .val (.int p3), .val (.int (2 : Int32)), .val (.ref c1), .val (.ref r_884), .val (.ref b890), .val (.ref r_972), .val (.int (-1 : Int32)), .unset] [(.ref c1)]) (fun _ k => XS.aload X972.here hx rfl (hb hby at_150) rfl rfl k) ?_
          refine WinW.to T972 (mkF m 153 #[.val (.int p0), .val (.int p1), .val (.int p2), .val (.int p3), .val (.int (2 : Int32)), .val (.ref c1), .val (.ref r_884), .val (.ref b890), .val (.ref r_972), .val (.int (-1 : Int32)), .unset] [(.int (0 : Int32)), (.ref c1)]) (fun _ k => XS.iconst X972.here hx rfl (hb hby at_152) k) ?_
          have F979 : Arv Z h972 c1 kc .char (4 : Int32) [(.int q0), (.int q1), (.int q2), (.int q3)] (.int (0 : Int32)) := ((((F905.ext E904).keep r921_0 (ninS ne906 nin0)).keep r931_0 (ninS ne892 nin0)).keep r972_0 nin0)
          obtain ⟨cl980, Ar980, q980, S980, N980, H980, G980⟩ := id F979
          have hi980 : ¬ ((0 : Int32) < 0 ∨ cl980.slots.size ≤ ((0 : Int32)).toNatClampNeg) := inb_of S980 ⟨by decide, by decide⟩
          refine WinW.to T972 (mkF m 154 #[.val (.int p0), .val (.int p1), .val (.int p2), .val (.int p3), .val (.int (2 : Int32)), .val (.ref c1), .val (.ref r_884), .val (.ref b890), .val (.ref r_972), .val (.int (-1 : Int32)), .unset] [(.int q0)]) (fun _ k => X972.caload hx (j := (0 : Int32)) (v := (.int q0)) (by rw [e972]; exact Ar980.1) (State.isArrayOf_alike hZ972.alike Ar980.2.1) Ar980.2.2 hi980 (Has.at H980 hi980 rfl) (g := (mkF m 153 #[.val (.int p0), .val (.int p1), .val (.int p2), .val (.int p3), .val (.int (2 : Int32)), .val (.ref c1), .val (.ref r_884), .val (.ref b890), .val (.ref r_972), .val (.int (-1 : Int32)), .unset] [(.int (0 : Int32)), (.ref c1)])) rfl rfl (hb hby at_153) _ k) ?_
          refine WinW.to T972 (mkF m 156 #[.val (.int p0), .val (.int p1), .val (.int p2), .val (.int p3), .val (.int (2 : Int32)), .val (.ref c1), .val (.ref r_884), .val (.ref b890), .val (.ref r_972), .val (.int (-1 : Int32)), .unset] [(.int (32 : Int32)), (.int q0)]) (fun _ k => XS.bipush X972.here hx rfl (hb hby at_154) k) ?_
          refine WinW.to T972 (mkF m 162 #[.val (.int p0), .val (.int p1), .val (.int p2), .val (.int p3), .val (.int (2 : Int32)), .val (.ref c1), .val (.ref r_884), .val (.ref b890), .val (.ref r_972), .val (.int (-1 : Int32)), .unset] []) (fun _ k => XS.icmpYes X972.here hx rfl (pc0 := 156) (pc' := 162) rfl (hb hby at_156) rfl (feq (show ¬ (q0 = (32 : Int32)) from hq0)).2 (by decide) (by decide) k) ?_
          refine WinW.to T972 (mkF m 164 #[.val (.int p0), .val (.int p1), .val (.int p2), .val (.int p3), .val (.int (2 : Int32)), .val (.ref c1), .val (.ref r_884), .val (.ref b890), .val (.ref r_972), .val (.int (-1 : Int32)), .unset] [(.int (2 : Int32))]) (fun _ k => XS.iload X972.here hx rfl (hb hby at_162) rfl k) ?_
          refine WinW.to T972 (mkF m 165 #[.val (.int p0), .val (.int p1), .val (.int p2), .val (.int p3), .val (.int (2 : Int32)), .val (.ref c1), .val (.ref r_884), .val (.ref b890), .val (.ref r_972), .val (.int (-1 : Int32)), .unset] [(.int (1 : Int32)), (.int (2 : Int32))]) (fun _ k => XS.iconst X972.here hx rfl (hb hby at_164) k) ?_
          refine WinW.to T972 (mkF m 168 #[.val (.int p0), .val (.int p1), .val (.int p2), .val (.int p3), .val (.int (2 : Int32)), .val (.ref c1), .val (.ref r_884), .val (.ref b890), .val (.ref r_972), .val (.int (-1 : Int32)), .unset] []) (fun _ k => XS.icmpNo X972.here hx rfl (hb hby at_165) rfl (tlt (show (1 : Int32) < (2 : Int32) from by decide)).2.2.2 k) ?_
          refine WinW.to T972 (mkF m 170 #[.val (.int p0), .val (.int p1), .val (.int p2), .val (.int p3), .val (.int (2 : Int32)), .val (.ref c1), .val (.ref r_884), .val (.ref b890), .val (.ref r_972), .val (.int (-1 : Int32)), .unset] [(.ref c1)]) (fun _ k => XS.aload X972.here hx rfl (hb hby at_168) rfl rfl k) ?_
          refine WinW.to T972 (mkF m 171 #[.val (.int p0), .val (.int p1), .val (.int p2), .val (.int p3), .val (.int (2 : Int32)), .val (.ref c1), .val (.ref r_884), .val (.ref b890), .val (.ref r_972), .val (.int (-1 : Int32)), .unset] [(.int (1 : Int32)), (.ref c1)]) (fun _ k => XS.iconst X972.here hx rfl (hb hby at_170) k) ?_
          obtain ⟨cl981, Ar981, q981, S981, N981, H981, G981⟩ := id F979
          have hi981 : ¬ ((1 : Int32) < 0 ∨ cl981.slots.size ≤ ((1 : Int32)).toNatClampNeg) := inb_of S981 ⟨by decide, by decide⟩
          refine WinW.to T972 (mkF m 172 #[.val (.int p0), .val (.int p1), .val (.int p2), .val (.int p3), .val (.int (2 : Int32)), .val (.ref c1), .val (.ref r_884), .val (.ref b890), .val (.ref r_972), .val (.int (-1 : Int32)), .unset] [(.int q1)]) (fun _ k => X972.caload hx (j := (1 : Int32)) (v := (.int q1)) (by rw [e972]; exact Ar981.1) (State.isArrayOf_alike hZ972.alike Ar981.2.1) Ar981.2.2 hi981 (Has.at H981 hi981 rfl) (g := (mkF m 171 #[.val (.int p0), .val (.int p1), .val (.int p2), .val (.int p3), .val (.int (2 : Int32)), .val (.ref c1), .val (.ref r_884), .val (.ref b890), .val (.ref r_972), .val (.int (-1 : Int32)), .unset] [(.int (1 : Int32)), (.ref c1)])) rfl rfl (hb hby at_171) _ k) ?_
          refine WinW.to T972 (mkF m 174 #[.val (.int p0), .val (.int p1), .val (.int p2), .val (.int p3), .val (.int (2 : Int32)), .val (.ref c1), .val (.ref r_884), .val (.ref b890), .val (.ref r_972), .val (.int (-1 : Int32)), .unset] [(.int (32 : Int32)), (.int q1)]) (fun _ k => XS.bipush X972.here hx rfl (hb hby at_172) k) ?_
          refine WinW.to T972 (mkF m 180 #[.val (.int p0), .val (.int p1), .val (.int p2), .val (.int p3), .val (.int (2 : Int32)), .val (.ref c1), .val (.ref r_884), .val (.ref b890), .val (.ref r_972), .val (.int (-1 : Int32)), .unset] []) (fun _ k => XS.icmpYes X972.here hx rfl (pc0 := 174) (pc' := 180) rfl (hb hby at_174) rfl (feq (show ¬ (q1 = (32 : Int32)) from hq1)).2 (by decide) (by decide) k) ?_
          refine WinW.to T972 (mkF m 182 #[.val (.int p0), .val (.int p1), .val (.int p2), .val (.int p3), .val (.int (2 : Int32)), .val (.ref c1), .val (.ref r_884), .val (.ref b890), .val (.ref r_972), .val (.int (-1 : Int32)), .unset] [(.int (2 : Int32))]) (fun _ k => XS.iload X972.here hx rfl (hb hby at_180) rfl k) ?_
          refine WinW.to T972 (mkF m 183 #[.val (.int p0), .val (.int p1), .val (.int p2), .val (.int p3), .val (.int (2 : Int32)), .val (.ref c1), .val (.ref r_884), .val (.ref b890), .val (.ref r_972), .val (.int (-1 : Int32)), .unset] [(.int (2 : Int32)), (.int (2 : Int32))]) (fun _ k => XS.iconst X972.here hx rfl (hb hby at_182) k) ?_
          refine WinW.to T972 (mkF m 198 #[.val (.int p0), .val (.int p1), .val (.int p2), .val (.int p3), .val (.int (2 : Int32)), .val (.ref c1), .val (.ref r_884), .val (.ref b890), .val (.ref r_972), .val (.int (-1 : Int32)), .unset] []) (fun _ k => XS.icmpYes X972.here hx rfl (pc0 := 183) (pc' := 198) rfl (hb hby at_183) rfl (flt (show ¬ ((2 : Int32) < (2 : Int32)) from by decide)).2.2.2 (by decide) (by decide) k) ?_
          refine WinW.to T972 (mkF m 200 #[.val (.int p0), .val (.int p1), .val (.int p2), .val (.int p3), .val (.int (2 : Int32)), .val (.ref c1), .val (.ref r_884), .val (.ref b890), .val (.ref r_972), .val (.int (-1 : Int32)), .unset] [(.int (2 : Int32))]) (fun _ k => XS.iload X972.here hx rfl (hb hby at_198) rfl k) ?_
          refine WinW.to T972 (mkF m 201 #[.val (.int p0), .val (.int p1), .val (.int p2), .val (.int p3), .val (.int (2 : Int32)), .val (.ref c1), .val (.ref r_884), .val (.ref b890), .val (.ref r_972), .val (.int (-1 : Int32)), .unset] [(.int (3 : Int32)), (.int (2 : Int32))]) (fun _ k => XS.iconst X972.here hx rfl (hb hby at_200) k) ?_
          refine WinW.to T972 (mkF m 216 #[.val (.int p0), .val (.int p1), .val (.int p2), .val (.int p3), .val (.int (2 : Int32)), .val (.ref c1), .val (.ref r_884), .val (.ref b890), .val (.ref r_972), .val (.int (-1 : Int32)), .unset] []) (fun _ k => XS.icmpYes X972.here hx rfl (pc0 := 201) (pc' := 216) rfl (hb hby at_201) rfl (flt (show ¬ ((3 : Int32) < (2 : Int32)) from by decide)).2.2.2 (by decide) (by decide) k) ?_
          exact Jc216 _ _ T972 _ h972 (X972.mono (by decide) (by decide)) N974 e972 O975 K976 hS972 hk972 hZ972 hown972 C978 r_972 (-1 : Int32) t2_972 k2_972 2 (fun i => (fun i => ((fun i => ([q0, q1] : List Int32).getD i (0 : Int32)) i).toInt8.toInt32) (0 + i)) 2 0 (.val (.ref r_884)) (.val (.ref b890)) r972_1 r972_2 r972_3 r972_4 F979 (by decide) (by decide) (by decide) ((fun i hi => by
            match i, hi with
            | 0, _ => exact (own_b255 hlq0 hcq0)
            | 1, _ => exact (own_b255 hlq1 hcq1))) (by decide)
    · rw [hk]
      refine WinW.to Tc108 (mkF m 110 #[.val (.int p0), .val (.int p1), .val (.int p2), .val (.int p3), .val (.int (3 : Int32)), .val (.ref c1), .unset, .unset, .unset, .unset, .unset] [(.int (3 : Int32))]) (fun _ k => XS.iload Xc108.here hx rfl (hb hby at_108) rfl k) ?_
      refine WinW.to Tc108 (mkF m 112 #[.val (.int p0), .val (.int p1), .val (.int p2), .val (.int p3), .val (.int (3 : Int32)), .val (.ref c1), .unset, .unset, .unset, .unset, .unset] [(.ref c1), (.int (3 : Int32))]) (fun _ k => XS.aload Xc108.here hx rfl (hb hby at_110) rfl rfl k) ?_
      obtain ⟨T982, h982, v982, L982, k982, X982, e982, hS982, hk982, hZ982, hown982, ⟨r_982, t_982, kb_982, rfl, N982q, r982_0, r982_1, r982_2, r982_3, r982_4⟩, c982, st982⟩ := W.static Xc108 hSc108 hkc108 hx hZc108 (y := (⟨"com/example/grantgate/grantgate/server/HeadVersionPinLaw", "make", "(I[C)Ljava/lang/String;"⟩ : MethodName)) hownc108 (wk hw 2 rfl) (wk hw 3 rfl) (wk hw 4 rfl) (wk hw 5 rfl) (by decide) (make3 l Z a0 hw c1 kc q0 q1 q2 q3 cs hc108 n0 Oc108 Fc108_0 hcq0 hcq1 hcq2 hcq3 hlq0 hlq1 hlq2 hlq3 S_CS hcs) (own_EW hw) Cc108.1 ec108 (g := (mkF m 112 #[.val (.int p0), .val (.int p1), .val (.int p2), .val (.int p3), .val (.int (3 : Int32)), .val (.ref c1), .unset, .unset, .unset, .unset, .unset] [(.ref c1), (.int (3 : Int32))])) rfl (by rw [hml]; rfl) (argsL := [(.int (3 : Int32)), (.ref c1)]) (rest := []) rfl (lenOf pd__I_C_Ljava_lang_String_ rfl) rfl (W := 0) (by show 2 * 0 + _ ≤ _; exact Nat.le_of_eq rfl) (hb hby at_112) (by decide) (by decide) (by decide) (by decide)
      have N983 := Fr.app Nc108 N982q
      have O984 := Old.keep Oc108 r982_0 all0
      have K985 : Keep h0 h982 [] := Keep.trans Kc108 r982_0 all0
      have c986 := c982
      have C987 := CHr.trans Cc108 c986
      refine WinW.to T982 (mkF m 115 #[.val (.int p0), .val (.int p1), .val (.int p2), .val (.int p3), .val (.int (3 : Int32)), .val (.ref c1), .unset, .unset, .unset, .unset, .unset] [(.ref r_982)]) (fun _ k => st982 _ k) ?_
      refine WinW.to T982 (mkF m 117 #[.val (.int p0), .val (.int p1), .val (.int p2), .val (.int p3), .val (.int (3 : Int32)), .val (.ref c1), .val (.ref r_982), .unset, .unset, .unset, .unset] []) (fun _ k => XS.astore X982.here hx rfl (hb hby at_115) rfl rfl (l' := #[.val (.int p0), .val (.int p1), .val (.int p2), .val (.int p3), .val (.int (3 : Int32)), .val (.ref c1), .val (.ref r_982), .unset, .unset, .unset, .unset]) rfl k) ?_
      obtain ⟨T988, h988, X988, e988, E988, A988, D988, -, st988⟩ := newO X982 hx hZ982 hown982 (wk hw 27 rfl) (wk hw 28 rfl) (wk hw 29 rfl) e982 (g := (mkF m 117 #[.val (.int p0), .val (.int p1), .val (.int p2), .val (.int p3), .val (.int (3 : Int32)), .val (.ref c1), .val (.ref r_982), .unset, .unset, .unset, .unset] [])) rfl (hb hby at_117) (by decide) (by decide)
      obtain ⟨b988, g988⟩ : ∃ z, z = h982.size := ⟨_, rfl⟩
      rw [← g988] at A988 D988 st988
      have F989 : Arv Z h982 c1 kc .char (4 : Int32) [(.int q0), (.int q1), (.int q2), (.int q3)] (.int (0 : Int32)) := (Fc108_0.keep r982_0 nin0)
      have ne990 : c1 ≠ b988 := Nat.ne_of_lt (Nat.lt_of_lt_of_le F989.lt (Nat.le_of_eq g988.symm))
      have ne991 : r_982 ≠ b988 := Nat.ne_of_lt (Nat.lt_of_lt_of_le r982_1.lt (Nat.le_of_eq g988.symm))
      have ne992 : t_982 ≠ b988 := Nat.ne_of_lt (Nat.lt_of_lt_of_le r982_4.lt (Nat.le_of_eq g988.symm))
      have g993 : n0 ≤ b988 := Nat.le_trans (own_le O984) (Nat.le_of_eq g988.symm)
      have z994 : h0.size ≤ b988 := Nat.le_trans K985.1 (Nat.le_of_eq g988.symm)
      have O995 := Old.ext O984 E988
      have hk996 := Nat.le_trans hk982 E988.1
      have K997 : Keep h0 h988 [] := K985.ext E988
      have c998 := CHr.ext E988 C987.1
      have C999 := CHr.trans C987 c998
      have F1000 : Fld Z h988 b988 "com/example/grantgate/grantgate/server/MessageReader$Head" "startLine" "Ljava/lang/String;" .null := D988 (Or.inr (wk hw 64 rfl)) (ty := (.object "java/lang/String")) (by decide)
      have F1001 : Fld Z h988 b988 "com/example/grantgate/grantgate/server/MessageReader$Head" "fields" "Ljava/util/List;" .null := D988 (Or.inr (wk hw 66 rfl)) (ty := (.object "java/util/List")) (by decide)
      refine WinW.to T988 (mkF m 120 #[.val (.int p0), .val (.int p1), .val (.int p2), .val (.int p3), .val (.int (3 : Int32)), .val (.ref c1), .val (.ref r_982), .unset, .unset, .unset, .unset] [(.ref b988)]) (fun _ k => st988 _ k) ?_
      refine WinW.to T988 (mkF m 121 #[.val (.int p0), .val (.int p1), .val (.int p2), .val (.int p3), .val (.int (3 : Int32)), .val (.ref c1), .val (.ref r_982), .unset, .unset, .unset, .unset] [(.ref b988), (.ref b988)]) (fun _ k => XS.dup X988.here hx rfl (hb hby at_120) rfl rfl k) ?_
      refine WinW.to T988 (mkF m 123 #[.val (.int p0), .val (.int p1), .val (.int p2), .val (.int p3), .val (.int (3 : Int32)), .val (.ref c1), .val (.ref r_982), .unset, .unset, .unset, .unset] [(.ref r_982), (.ref b988), (.ref b988)]) (fun _ k => XS.aload X988.here hx rfl (hb hby at_121) rfl rfl k) ?_
      obtain ⟨T1002, h1002, X1002, e1002, E1002, A1002, D1002, -, st1002⟩ := newO X988 hx hZ982 hown982 (wk hw 30 rfl) (wk hw 31 rfl) (wk hw 32 rfl) e988 (g := (mkF m 123 #[.val (.int p0), .val (.int p1), .val (.int p2), .val (.int p3), .val (.int (3 : Int32)), .val (.ref c1), .val (.ref r_982), .unset, .unset, .unset, .unset] [(.ref r_982), (.ref b988), (.ref b988)])) rfl (hb hby at_123) (by decide) (by decide)
      obtain ⟨b1002, g1002⟩ : ∃ z, z = h988.size := ⟨_, rfl⟩
      rw [← g1002] at A1002 D1002 st1002
      have F1003 : Arv Z h988 c1 kc .char (4 : Int32) [(.int q0), (.int q1), (.int q2), (.int q3)] (.int (0 : Int32)) := (F989.ext E988)
      have ne1004 : c1 ≠ b1002 := Nat.ne_of_lt (Nat.lt_of_lt_of_le F1003.lt (Nat.le_of_eq g1002.symm))
      have F1005 : Exa Z h988 r_982 "java/lang/String" := (Exa.ext E988 r982_1)
      have ne1006 : r_982 ≠ b1002 := Nat.ne_of_lt (Nat.lt_of_lt_of_le F1005.lt (Nat.le_of_eq g1002.symm))
      have F1007 : ArF Z h988 t_982 kb_982 .byte 3 (fun i => ((fun i => ([q0, q1, q2] : List Int32).getD i (0 : Int32)) i).toInt8.toInt32) := (r982_4.ext E988)
      have ne1008 : t_982 ≠ b1002 := Nat.ne_of_lt (Nat.lt_of_lt_of_le F1007.lt (Nat.le_of_eq g1002.symm))
      have ne1009 : b988 ≠ b1002 := Nat.ne_of_lt (Nat.lt_of_lt_of_le A988.lt (Nat.le_of_eq g1002.symm))
      have g1010 : n0 ≤ b1002 := Nat.le_trans (own_le O995) (Nat.le_of_eq g1002.symm)
      have z1011 : h0.size ≤ b1002 := Nat.le_trans K997.1 (Nat.le_of_eq g1002.symm)
      have O1012 := Old.ext O995 E1002
      have hk1013 := Nat.le_trans hk996 E1002.1
      have K1014 : Keep h0 h1002 [] := K997.ext E1002
      have c1015 := CHr.ext E1002 C999.1
      have C1016 := CHr.trans C999 c1015
      have F1017 : Fld Z h1002 b1002 "java/util/AbstractList" "modCount" "I" (.int (0 : Int32)) := D1002 (Or.inl (wk hw 50 rfl)) (ty := .int) (by decide)
      have F1018 : Fld Z h1002 b1002 "java/util/ArrayList" "elementData" "[Ljava/lang/Object;" .null := D1002 (Or.inl (wk hw 53 rfl)) (ty := (.array (.object "java/lang/Object"))) (by decide)
      refine WinW.to T1002 (mkF m 126 #[.val (.int p0), .val (.int p1), .val (.int p2), .val (.int p3), .val (.int (3 : Int32)), .val (.ref c1), .val (.ref r_982), .unset, .unset, .unset, .unset] [(.ref b1002), (.ref r_982), (.ref b988), (.ref b988)]) (fun _ k => st1002 _ k) ?_
      refine WinW.to T1002 (mkF m 127 #[.val (.int p0), .val (.int p1), .val (.int p2), .val (.int p3), .val (.int (3 : Int32)), .val (.ref c1), .val (.ref r_982), .unset, .unset, .unset, .unset] [(.ref b1002), (.ref b1002), (.ref r_982), (.ref b988), (.ref b988)]) (fun _ k => XS.dup X1002.here hx rfl (hb hby at_126) rfl rfl k) ?_
      obtain ⟨T1019, h1019, v1019, L1019, X1019, e1019, ⟨rfl, N1019q, r1019_0⟩, st1019⟩ := N.special X1002 hx hZ982 (y := (⟨"java/util/ArrayList", "<init>", "()V"⟩ : MethodName)) rfl hown982 (wk hw 33 rfl) (wk hw 34 rfl) (wk hw 32 rfl) (wk hw 35 rfl) (by decide) (mkAL l Z a0 hw b1002 x2 h1002 n0 O1012 A1002 F1017 F1018 g1010 S_DE hx2) e1002 (g := (mkF m 127 #[.val (.int p0), .val (.int p1), .val (.int p2), .val (.int p3), .val (.int (3 : Int32)), .val (.ref c1), .val (.ref r_982), .unset, .unset, .unset, .unset] [(.ref b1002), (.ref b1002), (.ref r_982), (.ref b988), (.ref b988)])) rfl (by rw [hml]; rfl) (a := b1002) (argsL := []) (rest := [(.ref b1002), (.ref r_982), (.ref b988), (.ref b988)]) rfl (lenOf pd___V rfl) rfl (W := 4) (by show 2 * 0 + _ ≤ _; exact Nat.le_of_eq rfl) (hb hby at_127) (by decide) (by decide) (by decide) (by decide)
      have N1020 := Fr.app N983 N1019q
      have O1021 := Old.keep O1012 r1019_0 (allS g1010 all0)
      have hk1022 := Nat.le_trans hk1013 r1019_0.1
      have K1023 : Keep h0 h1019 [] := Keep.trans K1014 r1019_0 (allS (Or.inr z1011) all0)
      have c1024 := CHr.keep r1019_0 (sfS (Safe.exa hZ982.alike A1002 (by decide) (by decide)) sf0) C1016.1
      have C1025 := CHr.trans C1016 c1024
      refine WinW.to T1019 (mkF m 130 #[.val (.int p0), .val (.int p1), .val (.int p2), .val (.int p3), .val (.int (3 : Int32)), .val (.ref c1), .val (.ref r_982), .unset, .unset, .unset, .unset] [(.ref b1002), (.ref r_982), (.ref b988), (.ref b988)]) (fun _ k => st1019 _ k) ?_
      have F1026 : Exa Z h1019 b988 "com/example/grantgate/grantgate/server/MessageReader$Head" := ((Exa.ext E1002 A988).keep r1019_0)
      have F1027 : Fld Z h1019 b988 "com/example/grantgate/grantgate/server/MessageReader$Head" "startLine" "Ljava/lang/String;" .null := ((Fld.ext E1002 F1000).keep r1019_0 (ninS ne1009 nin0))
      have F1028 : Fld Z h1019 b988 "com/example/grantgate/grantgate/server/MessageReader$Head" "fields" "Ljava/util/List;" .null := ((Fld.ext E1002 F1001).keep r1019_0 (ninS ne1009 nin0))
      obtain ⟨T1029, h1029, v1029, L1029, X1029, e1029, ⟨rfl, N1029q, r1029_0, r1029_1⟩, st1029⟩ := N.special X1019 hx hZ982 (y := (⟨"com/example/grantgate/grantgate/server/MessageReader$Head", "<init>", "(Ljava/lang/String;Ljava/util/List;)V"⟩ : MethodName)) rfl hown982 (wk hw 54 rfl) (wk hw 55 rfl) (wk hw 29 rfl) (wk hw 56 rfl) (by decide) (mkHead l Z a0 hw b988 r_982 b1002 h1019 n0 O1021 F1026 F1027 F1028 g993) e1019 (g := (mkF m 130 #[.val (.int p0), .val (.int p1), .val (.int p2), .val (.int p3), .val (.int (3 : Int32)), .val (.ref c1), .val (.ref r_982), .unset, .unset, .unset, .unset] [(.ref b1002), (.ref r_982), (.ref b988), (.ref b988)])) rfl (by rw [hml]; rfl) (a := b988) (argsL := [(.ref r_982), (.ref b1002)]) (rest := [(.ref b988)]) rfl (lenOf pd__Ljava_lang_String_Ljava_util_List__V rfl) rfl (W := 1) (by show 2 * 0 + _ ≤ _; exact Nat.le_of_eq rfl) (hb hby at_130) (by decide) (by decide) (by decide) (by decide)
      have N1030 := Fr.app N1020 N1029q
      have O1031 := Old.keep O1021 r1029_0 (allS g993 all0)
      have hk1032 := Nat.le_trans hk1022 r1029_0.1
      have K1033 : Keep h0 h1029 [] := Keep.trans K1023 r1029_0 (allS (Or.inr z994) all0)
      have c1034 := CHr.keep r1029_0 (sfS (Safe.exa hZ982.alike F1026 (by decide) (by decide)) sf0) C1025.1
      have C1035 := CHr.trans C1025 c1034
      refine WinW.to T1029 (mkF m 133 #[.val (.int p0), .val (.int p1), .val (.int p2), .val (.int p3), .val (.int (3 : Int32)), .val (.ref c1), .val (.ref r_982), .unset, .unset, .unset, .unset] [(.ref b988)]) (fun _ k => st1029 _ k) ?_
      refine WinW.to T1029 (mkF m 135 #[.val (.int p0), .val (.int p1), .val (.int p2), .val (.int p3), .val (.int (3 : Int32)), .val (.ref c1), .val (.ref r_982), .val (.ref b988), .unset, .unset, .unset] []) (fun _ k => XS.astore X1029.here hx rfl (hb hby at_133) rfl rfl (l' := #[.val (.int p0), .val (.int p1), .val (.int p2), .val (.int p3), .val (.int (3 : Int32)), .val (.ref c1), .val (.ref r_982), .val (.ref b988), .unset, .unset, .unset]) rfl k) ?_
      by_cases hq2 : q2 = (32 : Int32)
      · refine WinW.to T1029 (mkF m 137 #[.val (.int p0), .val (.int p1), .val (.int p2), .val (.int p3), .val (.int (3 : Int32)), .val (.ref c1), .val (.ref r_982), .val (.ref b988), .unset, .unset, .unset] [(.ref b988)]) (fun _ k => XS.aload X1029.here hx rfl (hb hby at_135) rfl rfl k) ?_
        have F1036 : Exa Z h1029 r_982 "java/lang/String" := (((Exa.ext E1002 F1005).keep r1019_0).keep r1029_0)
        have F1037 : Fld Z h1029 r_982 "java/lang/String" "value" "[B" (.ref t_982) := (((Fld.ext E1002 (Fld.ext E988 r982_2)).keep r1019_0 (ninS ne1006 nin0)).keep r1029_0 (ninS ne991 nin0))
        have F1038 : Fld Z h1029 r_982 "java/lang/String" "coder" "B" (.int (0 : Int32)) := (((Fld.ext E1002 (Fld.ext E988 r982_3)).keep r1019_0 (ninS ne1006 nin0)).keep r1029_0 (ninS ne991 nin0))
        have F1039 : ArF Z h1029 t_982 kb_982 .byte 3 (fun i => ((fun i => ([q0, q1, q2] : List Int32).getD i (0 : Int32)) i).toInt8.toInt32) := (((F1007.ext E1002).keep r1019_0 (ninS ne1008 nin0)).keep r1029_0 (ninS ne992 nin0))
        have F1041 : Exa Z h1029 b988 "com/example/grantgate/grantgate/server/MessageReader$Head" := (F1026.keep r1029_0)
        obtain ⟨T1040, h1040, v1040, L1040, k1040, X1040, e1040, hS1040, hk1040, hZ1040, hown1040, ⟨r_1040, t2_1040, k2_1040, rfl, N1040q, r1040_0, r1040_1, r1040_2, r1040_3, r1040_4⟩, c1040, st1040⟩ := W.virtual X1029 hS982 hk1032 hx hZ982 (y := (⟨"com/example/grantgate/grantgate/server/MessageReader$Head", "version", "()Ljava/lang/String;"⟩ : MethodName)) (z := (⟨"com/example/grantgate/grantgate/server/MessageReader$Head", "version", "()Ljava/lang/String;"⟩ : MethodName)) hown982 (wk hw 67 rfl) (wk hw 68 rfl) (notFace_of_selects (args := #[]) (mvT hZ982 (wk hw 70 rfl))) (wk hw 70 rfl) (wk hw 69 rfl) (wk hw 29 rfl) (wk hw 71 rfl) (by decide) (headV l Z a0 hw b988 r_982 t_982 kb_982 3 (fun i => ((fun i => ([q0, q1, q2] : List Int32).getD i (0 : Int32)) i).toInt8.toInt32) 3 cs x1 h1029 n0 O1031 r1029_1 F1036 F1037 F1038 F1039 (by decide) ((fun i hb hi => by
          match i, hb, hi with
          | 0, hb, _ => exact absurd hb (by decide)
          | 1, hb, _ => exact absurd hb (by decide)
          | 2, hb, _ => exact absurd hb (by decide))) (fun _ => (show q2.toInt8.toInt32 = (32 : Int32) from by rw [hq2]; decide)) (by decide) S_CS hcs S_SI hx1) (own_EW hw) C1035.1 e1029 F1041 (g := (mkF m 137 #[.val (.int p0), .val (.int p1), .val (.int p2), .val (.int p3), .val (.int (3 : Int32)), .val (.ref c1), .val (.ref r_982), .val (.ref b988), .unset, .unset, .unset] [(.ref b988)])) rfl (by rw [hml]; rfl) (argsL := []) (rest := []) rfl (lenOf pd___Ljava_lang_String_ rfl) rfl (W := 0) (by show 2 * 0 + _ ≤ _; exact Nat.le_of_eq rfl) (hb hby at_137) (by decide) (by decide) (by decide) (by decide)
        have N1042 := Fr.app N1030 N1040q
        have O1043 := Old.keep O1031 r1040_0 all0
        have K1044 : Keep h0 h1040 [] := Keep.trans K1033 r1040_0 all0
        have c1045 := c1040
        have C1046 := CHr.trans C1035 c1045
        refine WinW.to T1040 (mkF m 140 #[.val (.int p0), .val (.int p1), .val (.int p2), .val (.int p3), .val (.int (3 : Int32)), .val (.ref c1), .val (.ref r_982), .val (.ref b988), .unset, .unset, .unset] [(.ref r_1040)]) (fun _ k => st1040 _ k) ?_
        refine WinW.to T1040 (mkF m 142 #[.val (.int p0), .val (.int p1), .val (.int p2), .val (.int p3), .val (.int (3 : Int32)), .val (.ref c1), .val (.ref r_982), .val (.ref b988), .val (.ref r_1040), .unset, .unset] []) (fun _ k => XS.astore X1040.here hx rfl (hb hby at_140) rfl rfl (l' := #[.val (.int p0), .val (.int p1), .val (.int p2), .val (.int p3), .val (.int (3 : Int32)), .val (.ref c1), .val (.ref r_982), .val (.ref b988), .val (.ref r_1040), .unset, .unset]) rfl k) ?_
        refine WinW.to T1040 (mkF m 143 #[.val (.int p0), .val (.int p1), .val (.int p2), .val (.int p3), .val (.int (3 : Int32)), .val (.ref c1), .val (.ref r_982), .val (.ref b988), .val (.ref r_1040), .unset, .unset] [(.int (-1 : Int32))]) (fun _ k => XS.iconst X1040.here hx rfl (hb hby at_142) k) ?_
        refine WinW.to T1040 (mkF m 145 #[.val (.int p0), .val (.int p1), .val (.int p2), .val (.int p3), .val (.int (3 : Int32)), .val (.ref c1), .val (.ref r_982), .val (.ref b988), .val (.ref r_1040), .val (.int (-1 : Int32)), .unset] []) (fun _ k => XS.istore X1040.here hx rfl (hb hby at_143) rfl (l' := #[.val (.int p0), .val (.int p1), .val (.int p2), .val (.int p3), .val (.int (3 : Int32)), .val (.ref c1), .val (.ref r_982), .val (.ref b988), .val (.ref r_1040), .val (.int (-1 : Int32)), .unset]) rfl k) ?_
        have Jd180 : ∀ (vmd180 : Vm) (kd180 : Nat) (Td180 : State) (locsd180 : List Loc) (Xd180 : Stand p l e room_1 (s.setVm vmd180) m #[(.int p0), (.int p1), (.int p2), (.int p3)] below meth c Td180 locsd180 11 32) (Nd180 : Fr n0 locsd180) (ed180 : Td180.heap = h1040) (hSd180 : s.Since vmd180 kd180) (hkd180 : kd180 ≤ h1040.size) (hZd180 : Z.Warmed39 (s.setVm vmd180).vm) (hownd180 : (s.setVm vmd180).vm.findClass "com/example/grantgate/grantgate/server/HeadVersionPinLaw" = some m.cls) (Cd180 : CHr Z EL1 s.vm s.heap vmd180 h1040) (pg : Int32) , WinW p e below s room_1 Z EL1 (fun v h L => v = some (.int (1 : Int32)) ∧ Fr n0 L ∧ (True)) (Td180.setTop (mkF m 180 #[.val (.int p0), .val (.int p1), .val (.int p2), .val (.int p3), .val (.int (3 : Int32)), .val (.ref c1), .val (.ref r_982), .val (.ref b988), .val (.ref r_1040), .val (.int pg), .unset] [])) := by
          intro vmd180 kd180 Td180 locsd180 Xd180 Nd180 ed180 hSd180 hkd180 hZd180 hownd180 Cd180 pg
          refine WinW.to Td180 (mkF m 182 #[.val (.int p0), .val (.int p1), .val (.int p2), .val (.int p3), .val (.int (3 : Int32)), .val (.ref c1), .val (.ref r_982), .val (.ref b988), .val (.ref r_1040), .val (.int pg), .unset] [(.int (3 : Int32))]) (fun _ k => XS.iload Xd180.here hx rfl (hb hby at_180) rfl k) ?_
          refine WinW.to Td180 (mkF m 183 #[.val (.int p0), .val (.int p1), .val (.int p2), .val (.int p3), .val (.int (3 : Int32)), .val (.ref c1), .val (.ref r_982), .val (.ref b988), .val (.ref r_1040), .val (.int pg), .unset] [(.int (2 : Int32)), (.int (3 : Int32))]) (fun _ k => XS.iconst Xd180.here hx rfl (hb hby at_182) k) ?_
          refine WinW.to Td180 (mkF m 186 #[.val (.int p0), .val (.int p1), .val (.int p2), .val (.int p3), .val (.int (3 : Int32)), .val (.ref c1), .val (.ref r_982), .val (.ref b988), .val (.ref r_1040), .val (.int pg), .unset] []) (fun _ k => XS.icmpNo Xd180.here hx rfl (hb hby at_183) rfl (tlt (show (2 : Int32) < (3 : Int32) from by decide)).2.2.2 k) ?_
          refine WinW.to Td180 (mkF m 188 #[.val (.int p0), .val (.int p1), .val (.int p2), .val (.int p3), .val (.int (3 : Int32)), .val (.ref c1), .val (.ref r_982), .val (.ref b988), .val (.ref r_1040), .val (.int pg), .unset] [(.ref c1)]) (fun _ k => XS.aload Xd180.here hx rfl (hb hby at_186) rfl rfl k) ?_
          refine WinW.to Td180 (mkF m 189 #[.val (.int p0), .val (.int p1), .val (.int p2), .val (.int p3), .val (.int (3 : Int32)), .val (.ref c1), .val (.ref r_982), .val (.ref b988), .val (.ref r_1040), .val (.int pg), .unset] [(.int (2 : Int32)), (.ref c1)]) (fun _ k => XS.iconst Xd180.here hx rfl (hb hby at_188) k) ?_
          have F1047 : Arv Z h1040 c1 kc .char (4 : Int32) [(.int q0), (.int q1), (.int q2), (.int q3)] (.int (0 : Int32)) := ((((F1003.ext E1002).keep r1019_0 (ninS ne1004 nin0)).keep r1029_0 (ninS ne990 nin0)).keep r1040_0 nin0)
          obtain ⟨cl1048, Ar1048, q1048, S1048, N1048, H1048, G1048⟩ := id F1047
          have hi1048 : ¬ ((2 : Int32) < 0 ∨ cl1048.slots.size ≤ ((2 : Int32)).toNatClampNeg) := inb_of S1048 ⟨by decide, by decide⟩
          refine WinW.to Td180 (mkF m 190 #[.val (.int p0), .val (.int p1), .val (.int p2), .val (.int p3), .val (.int (3 : Int32)), .val (.ref c1), .val (.ref r_982), .val (.ref b988), .val (.ref r_1040), .val (.int pg), .unset] [(.int q2)]) (fun _ k => Xd180.caload hx (j := (2 : Int32)) (v := (.int q2)) (by rw [ed180]; exact Ar1048.1) (State.isArrayOf_alike hZd180.alike Ar1048.2.1) Ar1048.2.2 hi1048 (Has.at H1048 hi1048 rfl) (g := (mkF m 189 #[.val (.int p0), .val (.int p1), .val (.int p2), .val (.int p3), .val (.int (3 : Int32)), .val (.ref c1), .val (.ref r_982), .val (.ref b988), .val (.ref r_1040), .val (.int pg), .unset] [(.int (2 : Int32)), (.ref c1)])) rfl rfl (hb hby at_189) _ k) ?_
          refine WinW.to Td180 (mkF m 192 #[.val (.int p0), .val (.int p1), .val (.int p2), .val (.int p3), .val (.int (3 : Int32)), .val (.ref c1), .val (.ref r_982), .val (.ref b988), .val (.ref r_1040), .val (.int pg), .unset] [(.int (32 : Int32)), (.int q2)]) (fun _ k => XS.bipush Xd180.here hx rfl (hb hby at_190) k) ?_
          refine WinW.to Td180 (mkF m 195 #[.val (.int p0), .val (.int p1), .val (.int p2), .val (.int p3), .val (.int (3 : Int32)), .val (.ref c1), .val (.ref r_982), .val (.ref b988), .val (.ref r_1040), .val (.int pg), .unset] []) (fun _ k => XS.icmpNo Xd180.here hx rfl (hb hby at_192) rfl (teq (show q2 = (32 : Int32) from hq2)).2 k) ?_
          refine WinW.to Td180 (mkF m 196 #[.val (.int p0), .val (.int p1), .val (.int p2), .val (.int p3), .val (.int (3 : Int32)), .val (.ref c1), .val (.ref r_982), .val (.ref b988), .val (.ref r_1040), .val (.int pg), .unset] [(.int (2 : Int32))]) (fun _ k => XS.iconst Xd180.here hx rfl (hb hby at_195) k) ?_
          refine WinW.to Td180 (mkF m 198 #[.val (.int p0), .val (.int p1), .val (.int p2), .val (.int p3), .val (.int (3 : Int32)), .val (.ref c1), .val (.ref r_982), .val (.ref b988), .val (.ref r_1040), .val (.int (2 : Int32)), .unset] []) (fun _ k => XS.istore Xd180.here hx rfl (hb hby at_196) rfl (l' := #[.val (.int p0), .val (.int p1), .val (.int p2), .val (.int p3), .val (.int (3 : Int32)), .val (.ref c1), .val (.ref r_982), .val (.ref b988), .val (.ref r_1040), .val (.int (2 : Int32)), .unset]) rfl k) ?_
          refine WinW.to Td180 (mkF m 200 #[.val (.int p0), .val (.int p1), .val (.int p2), .val (.int p3), .val (.int (3 : Int32)), .val (.ref c1), .val (.ref r_982), .val (.ref b988), .val (.ref r_1040), .val (.int (2 : Int32)), .unset] [(.int (3 : Int32))]) (fun _ k => XS.iload Xd180.here hx rfl (hb hby at_198) rfl k) ?_
          refine WinW.to Td180 (mkF m 201 #[.val (.int p0), .val (.int p1), .val (.int p2), .val (.int p3), .val (.int (3 : Int32)), .val (.ref c1), .val (.ref r_982), .val (.ref b988), .val (.ref r_1040), .val (.int (2 : Int32)), .unset] [(.int (3 : Int32)), (.int (3 : Int32))]) (fun _ k => XS.iconst Xd180.here hx rfl (hb hby at_200) k) ?_
          refine WinW.to Td180 (mkF m 216 #[.val (.int p0), .val (.int p1), .val (.int p2), .val (.int p3), .val (.int (3 : Int32)), .val (.ref c1), .val (.ref r_982), .val (.ref b988), .val (.ref r_1040), .val (.int (2 : Int32)), .unset] []) (fun _ k => XS.icmpYes Xd180.here hx rfl (pc0 := 201) (pc' := 216) rfl (hb hby at_201) rfl (flt (show ¬ ((3 : Int32) < (3 : Int32)) from by decide)).2.2.2 (by decide) (by decide) k) ?_
          exact Jc216 _ _ Td180 _ h1040 (Xd180.mono (by decide) (by decide)) Nd180 ed180 O1043 K1044 hSd180 hkd180 hZd180 hownd180 Cd180 r_1040 (2 : Int32) t2_1040 k2_1040 0 (fun i => (fun i => ((fun i => ([q0, q1, q2] : List Int32).getD i (0 : Int32)) i).toInt8.toInt32) (3 + i)) 3 3 (.val (.ref r_982)) (.val (.ref b988)) r1040_1 r1040_2 r1040_3 r1040_4 F1047 (by decide) (by decide) (by decide) (fun i hi => absurd hi (Nat.not_lt_zero _)) (by decide)
        refine WinW.to T1040 (mkF m 147 #[.val (.int p0), .val (.int p1), .val (.int p2), .val (.int p3), .val (.int (3 : Int32)), .val (.ref c1), .val (.ref r_982), .val (.ref b988), .val (.ref r_1040), .val (.int (-1 : Int32)), .unset] [(.int (3 : Int32))]) (fun _ k => XS.iload X1040.here hx rfl (hb hby at_145) rfl k) ?_
        refine WinW.to T1040 (mkF m 150 #[.val (.int p0), .val (.int p1), .val (.int p2), .val (.int p3), .val (.int (3 : Int32)), .val (.ref c1), .val (.ref r_982), .val (.ref b988), .val (.ref r_1040), .val (.int (-1 : Int32)), .unset] []) (fun _ k => XS.ifNo X1040.here hx rfl (hb hby at_147) rfl ((if0 _ _).trans (tlt (show (0 : Int32) < (3 : Int32) from by decide)).2.2.2) k) ?_
        refine WinW.to T1040 (mkF m 152 #[.val (.int p0), .val (.int p1), .val (.int p2), .val (.int p3), .val (.int (3 : Int32)), .val (.ref c1), .val (.ref r_982), .val (.ref b988), .val (.ref r_1040), .val (.int (-1 : Int32)), .unset] [(.ref c1)]) (fun _ k => XS.aload X1040.here hx rfl (hb hby at_150) rfl rfl k) ?_
        refine WinW.to T1040 (mkF m 153 #[.val (.int p0), .val (.int p1), .val (.int p2), .val (.int p3), .val (.int (3 : Int32)), .val (.ref c1), .val (.ref r_982), .val (.ref b988), .val (.ref r_1040), .val (.int (-1 : Int32)), .unset] [(.int (0 : Int32)), (.ref c1)]) (fun _ k => XS.iconst X1040.here hx rfl (hb hby at_152) k) ?_
        have F1049 : Arv Z h1040 c1 kc .char (4 : Int32) [(.int q0), (.int q1), (.int q2), (.int q3)] (.int (0 : Int32)) := ((((F1003.ext E1002).keep r1019_0 (ninS ne1004 nin0)).keep r1029_0 (ninS ne990 nin0)).keep r1040_0 nin0)
        obtain ⟨cl1050, Ar1050, q1050, S1050, N1050, H1050, G1050⟩ := id F1049
        have hi1050 : ¬ ((0 : Int32) < 0 ∨ cl1050.slots.size ≤ ((0 : Int32)).toNatClampNeg) := inb_of S1050 ⟨by decide, by decide⟩
        refine WinW.to T1040 (mkF m 154 #[.val (.int p0), .val (.int p1), .val (.int p2), .val (.int p3), .val (.int (3 : Int32)), .val (.ref c1), .val (.ref r_982), .val (.ref b988), .val (.ref r_1040), .val (.int (-1 : Int32)), .unset] [(.int q0)]) (fun _ k => X1040.caload hx (j := (0 : Int32)) (v := (.int q0)) (by rw [e1040]; exact Ar1050.1) (State.isArrayOf_alike hZ1040.alike Ar1050.2.1) Ar1050.2.2 hi1050 (Has.at H1050 hi1050 rfl) (g := (mkF m 153 #[.val (.int p0), .val (.int p1), .val (.int p2), .val (.int p3), .val (.int (3 : Int32)), .val (.ref c1), .val (.ref r_982), .val (.ref b988), .val (.ref r_1040), .val (.int (-1 : Int32)), .unset] [(.int (0 : Int32)), (.ref c1)])) rfl rfl (hb hby at_153) _ k) ?_
        refine WinW.to T1040 (mkF m 156 #[.val (.int p0), .val (.int p1), .val (.int p2), .val (.int p3), .val (.int (3 : Int32)), .val (.ref c1), .val (.ref r_982), .val (.ref b988), .val (.ref r_1040), .val (.int (-1 : Int32)), .unset] [(.int (32 : Int32)), (.int q0)]) (fun _ k => XS.bipush X1040.here hx rfl (hb hby at_154) k) ?_
        by_cases hc1051 : q0 = (32 : Int32)
        · refine WinW.to T1040 (mkF m 159 #[.val (.int p0), .val (.int p1), .val (.int p2), .val (.int p3), .val (.int (3 : Int32)), .val (.ref c1), .val (.ref r_982), .val (.ref b988), .val (.ref r_1040), .val (.int (-1 : Int32)), .unset] []) (fun _ k => XS.icmpNo X1040.here hx rfl (hb hby at_156) rfl (teq hc1051).2 k) ?_
          refine WinW.to T1040 (mkF m 160 #[.val (.int p0), .val (.int p1), .val (.int p2), .val (.int p3), .val (.int (3 : Int32)), .val (.ref c1), .val (.ref r_982), .val (.ref b988), .val (.ref r_1040), .val (.int (-1 : Int32)), .unset] [(.int (0 : Int32))]) (fun _ k => XS.iconst X1040.here hx rfl (hb hby at_159) k) ?_
          refine WinW.to T1040 (mkF m 162 #[.val (.int p0), .val (.int p1), .val (.int p2), .val (.int p3), .val (.int (3 : Int32)), .val (.ref c1), .val (.ref r_982), .val (.ref b988), .val (.ref r_1040), .val (.int (0 : Int32)), .unset] []) (fun _ k => XS.istore X1040.here hx rfl (hb hby at_160) rfl (l' := #[.val (.int p0), .val (.int p1), .val (.int p2), .val (.int p3), .val (.int (3 : Int32)), .val (.ref c1), .val (.ref r_982), .val (.ref b988), .val (.ref r_1040), .val (.int (0 : Int32)), .unset]) rfl k) ?_
          refine WinW.to T1040 (mkF m 164 #[.val (.int p0), .val (.int p1), .val (.int p2), .val (.int p3), .val (.int (3 : Int32)), .val (.ref c1), .val (.ref r_982), .val (.ref b988), .val (.ref r_1040), .val (.int (0 : Int32)), .unset] [(.int (3 : Int32))]) (fun _ k => XS.iload X1040.here hx rfl (hb hby at_162) rfl k) ?_
          refine WinW.to T1040 (mkF m 165 #[.val (.int p0), .val (.int p1), .val (.int p2), .val (.int p3), .val (.int (3 : Int32)), .val (.ref c1), .val (.ref r_982), .val (.ref b988), .val (.ref r_1040), .val (.int (0 : Int32)), .unset] [(.int (1 : Int32)), (.int (3 : Int32))]) (fun _ k => XS.iconst X1040.here hx rfl (hb hby at_164) k) ?_
          refine WinW.to T1040 (mkF m 168 #[.val (.int p0), .val (.int p1), .val (.int p2), .val (.int p3), .val (.int (3 : Int32)), .val (.ref c1), .val (.ref r_982), .val (.ref b988), .val (.ref r_1040), .val (.int (0 : Int32)), .unset] []) (fun _ k => XS.icmpNo X1040.here hx rfl (hb hby at_165) rfl (tlt (show (1 : Int32) < (3 : Int32) from by decide)).2.2.2 k) ?_
          refine WinW.to T1040 (mkF m 170 #[.val (.int p0), .val (.int p1), .val (.int p2), .val (.int p3), .val (.int (3 : Int32)), .val (.ref c1), .val (.ref r_982), .val (.ref b988), .val (.ref r_1040), .val (.int (0 : Int32)), .unset] [(.ref c1)]) (fun _ k => XS.aload X1040.here hx rfl (hb hby at_168) rfl rfl k) ?_
          refine WinW.to T1040 (mkF m 171 #[.val (.int p0), .val (.int p1), .val (.int p2), .val (.int p3), .val (.int (3 : Int32)), .val (.ref c1), .val (.ref r_982), .val (.ref b988), .val (.ref r_1040), .val (.int (0 : Int32)), .unset] [(.int (1 : Int32)), (.ref c1)]) (fun _ k => XS.iconst X1040.here hx rfl (hb hby at_170) k) ?_
          obtain ⟨cl1052, Ar1052, q1052, S1052, N1052, H1052, G1052⟩ := id F1049
          have hi1052 : ¬ ((1 : Int32) < 0 ∨ cl1052.slots.size ≤ ((1 : Int32)).toNatClampNeg) := inb_of S1052 ⟨by decide, by decide⟩
          refine WinW.to T1040 (mkF m 172 #[.val (.int p0), .val (.int p1), .val (.int p2), .val (.int p3), .val (.int (3 : Int32)), .val (.ref c1), .val (.ref r_982), .val (.ref b988), .val (.ref r_1040), .val (.int (0 : Int32)), .unset] [(.int q1)]) (fun _ k => X1040.caload hx (j := (1 : Int32)) (v := (.int q1)) (by rw [e1040]; exact Ar1052.1) (State.isArrayOf_alike hZ1040.alike Ar1052.2.1) Ar1052.2.2 hi1052 (Has.at H1052 hi1052 rfl) (g := (mkF m 171 #[.val (.int p0), .val (.int p1), .val (.int p2), .val (.int p3), .val (.int (3 : Int32)), .val (.ref c1), .val (.ref r_982), .val (.ref b988), .val (.ref r_1040), .val (.int (0 : Int32)), .unset] [(.int (1 : Int32)), (.ref c1)])) rfl rfl (hb hby at_171) _ k) ?_
          refine WinW.to T1040 (mkF m 174 #[.val (.int p0), .val (.int p1), .val (.int p2), .val (.int p3), .val (.int (3 : Int32)), .val (.ref c1), .val (.ref r_982), .val (.ref b988), .val (.ref r_1040), .val (.int (0 : Int32)), .unset] [(.int (32 : Int32)), (.int q1)]) (fun _ k => XS.bipush X1040.here hx rfl (hb hby at_172) k) ?_
          by_cases hc1053 : q1 = (32 : Int32)
          · refine WinW.to T1040 (mkF m 177 #[.val (.int p0), .val (.int p1), .val (.int p2), .val (.int p3), .val (.int (3 : Int32)), .val (.ref c1), .val (.ref r_982), .val (.ref b988), .val (.ref r_1040), .val (.int (0 : Int32)), .unset] []) (fun _ k => XS.icmpNo X1040.here hx rfl (hb hby at_174) rfl (teq hc1053).2 k) ?_
            refine WinW.to T1040 (mkF m 178 #[.val (.int p0), .val (.int p1), .val (.int p2), .val (.int p3), .val (.int (3 : Int32)), .val (.ref c1), .val (.ref r_982), .val (.ref b988), .val (.ref r_1040), .val (.int (0 : Int32)), .unset] [(.int (1 : Int32))]) (fun _ k => XS.iconst X1040.here hx rfl (hb hby at_177) k) ?_
            refine WinW.to T1040 (mkF m 180 #[.val (.int p0), .val (.int p1), .val (.int p2), .val (.int p3), .val (.int (3 : Int32)), .val (.ref c1), .val (.ref r_982), .val (.ref b988), .val (.ref r_1040), .val (.int (1 : Int32)), .unset] []) (fun _ k => XS.istore X1040.here hx rfl (hb hby at_178) rfl (l' := #[.val (.int p0), .val (.int p1), .val (.int p2), .val (.int p3), .val (.int (3 : Int32)), .val (.ref c1), .val (.ref r_982), .val (.ref b988), .val (.ref r_1040), .val (.int (1 : Int32)), .unset]) rfl k) ?_
            exact Jd180 _ _ T1040 _ X1040 N1042 e1040 hS1040 hk1040 hZ1040 hown1040 C1046 (1 : Int32)
          · refine WinW.to T1040 (mkF m 180 #[.val (.int p0), .val (.int p1), .val (.int p2), .val (.int p3), .val (.int (3 : Int32)), .val (.ref c1), .val (.ref r_982), .val (.ref b988), .val (.ref r_1040), .val (.int (0 : Int32)), .unset] []) (fun _ k => XS.icmpYes X1040.here hx rfl (pc0 := 174) (pc' := 180) rfl (hb hby at_174) rfl (feq hc1053).2 (by decide) (by decide) k) ?_
            exact Jd180 _ _ T1040 _ X1040 N1042 e1040 hS1040 hk1040 hZ1040 hown1040 C1046 (0 : Int32)
        · refine WinW.to T1040 (mkF m 162 #[.val (.int p0), .val (.int p1), .val (.int p2), .val (.int p3), .val (.int (3 : Int32)), .val (.ref c1), .val (.ref r_982), .val (.ref b988), .val (.ref r_1040), .val (.int (-1 : Int32)), .unset] []) (fun _ k => XS.icmpYes X1040.here hx rfl (pc0 := 156) (pc' := 162) rfl (hb hby at_156) rfl (feq hc1051).2 (by decide) (by decide) k) ?_
          refine WinW.to T1040 (mkF m 164 #[.val (.int p0), .val (.int p1), .val (.int p2), .val (.int p3), .val (.int (3 : Int32)), .val (.ref c1), .val (.ref r_982), .val (.ref b988), .val (.ref r_1040), .val (.int (-1 : Int32)), .unset] [(.int (3 : Int32))]) (fun _ k => XS.iload X1040.here hx rfl (hb hby at_162) rfl k) ?_
          refine WinW.to T1040 (mkF m 165 #[.val (.int p0), .val (.int p1), .val (.int p2), .val (.int p3), .val (.int (3 : Int32)), .val (.ref c1), .val (.ref r_982), .val (.ref b988), .val (.ref r_1040), .val (.int (-1 : Int32)), .unset] [(.int (1 : Int32)), (.int (3 : Int32))]) (fun _ k => XS.iconst X1040.here hx rfl (hb hby at_164) k) ?_
          refine WinW.to T1040 (mkF m 168 #[.val (.int p0), .val (.int p1), .val (.int p2), .val (.int p3), .val (.int (3 : Int32)), .val (.ref c1), .val (.ref r_982), .val (.ref b988), .val (.ref r_1040), .val (.int (-1 : Int32)), .unset] []) (fun _ k => XS.icmpNo X1040.here hx rfl (hb hby at_165) rfl (tlt (show (1 : Int32) < (3 : Int32) from by decide)).2.2.2 k) ?_
          refine WinW.to T1040 (mkF m 170 #[.val (.int p0), .val (.int p1), .val (.int p2), .val (.int p3), .val (.int (3 : Int32)), .val (.ref c1), .val (.ref r_982), .val (.ref b988), .val (.ref r_1040), .val (.int (-1 : Int32)), .unset] [(.ref c1)]) (fun _ k => XS.aload X1040.here hx rfl (hb hby at_168) rfl rfl k) ?_
          refine WinW.to T1040 (mkF m 171 #[.val (.int p0), .val (.int p1), .val (.int p2), .val (.int p3), .val (.int (3 : Int32)), .val (.ref c1), .val (.ref r_982), .val (.ref b988), .val (.ref r_1040), .val (.int (-1 : Int32)), .unset] [(.int (1 : Int32)), (.ref c1)]) (fun _ k => XS.iconst X1040.here hx rfl (hb hby at_170) k) ?_
          obtain ⟨cl1054, Ar1054, q1054, S1054, N1054, H1054, G1054⟩ := id F1049
          have hi1054 : ¬ ((1 : Int32) < 0 ∨ cl1054.slots.size ≤ ((1 : Int32)).toNatClampNeg) := inb_of S1054 ⟨by decide, by decide⟩
          refine WinW.to T1040 (mkF m 172 #[.val (.int p0), .val (.int p1), .val (.int p2), .val (.int p3), .val (.int (3 : Int32)), .val (.ref c1), .val (.ref r_982), .val (.ref b988), .val (.ref r_1040), .val (.int (-1 : Int32)), .unset] [(.int q1)]) (fun _ k => X1040.caload hx (j := (1 : Int32)) (v := (.int q1)) (by rw [e1040]; exact Ar1054.1) (State.isArrayOf_alike hZ1040.alike Ar1054.2.1) Ar1054.2.2 hi1054 (Has.at H1054 hi1054 rfl) (g := (mkF m 171 #[.val (.int p0), .val (.int p1), .val (.int p2), .val (.int p3), .val (.int (3 : Int32)), .val (.ref c1), .val (.ref r_982), .val (.ref b988), .val (.ref r_1040), .val (.int (-1 : Int32)), .unset] [(.int (1 : Int32)), (.ref c1)])) rfl rfl (hb hby at_171) _ k) ?_
          refine WinW.to T1040 (mkF m 174 #[.val (.int p0), .val (.int p1), .val (.int p2), .val (.int p3), .val (.int (3 : Int32)), .val (.ref c1), .val (.ref r_982), .val (.ref b988), .val (.ref r_1040), .val (.int (-1 : Int32)), .unset] [(.int (32 : Int32)), (.int q1)]) (fun _ k => XS.bipush X1040.here hx rfl (hb hby at_172) k) ?_
          by_cases hc1055 : q1 = (32 : Int32)
          · refine WinW.to T1040 (mkF m 177 #[.val (.int p0), .val (.int p1), .val (.int p2), .val (.int p3), .val (.int (3 : Int32)), .val (.ref c1), .val (.ref r_982), .val (.ref b988), .val (.ref r_1040), .val (.int (-1 : Int32)), .unset] []) (fun _ k => XS.icmpNo X1040.here hx rfl (hb hby at_174) rfl (teq hc1055).2 k) ?_
            refine WinW.to T1040 (mkF m 178 #[.val (.int p0), .val (.int p1), .val (.int p2), .val (.int p3), .val (.int (3 : Int32)), .val (.ref c1), .val (.ref r_982), .val (.ref b988), .val (.ref r_1040), .val (.int (-1 : Int32)), .unset] [(.int (1 : Int32))]) (fun _ k => XS.iconst X1040.here hx rfl (hb hby at_177) k) ?_
            refine WinW.to T1040 (mkF m 180 #[.val (.int p0), .val (.int p1), .val (.int p2), .val (.int p3), .val (.int (3 : Int32)), .val (.ref c1), .val (.ref r_982), .val (.ref b988), .val (.ref r_1040), .val (.int (1 : Int32)), .unset] []) (fun _ k => XS.istore X1040.here hx rfl (hb hby at_178) rfl (l' := #[.val (.int p0), .val (.int p1), .val (.int p2), .val (.int p3), .val (.int (3 : Int32)), .val (.ref c1), .val (.ref r_982), .val (.ref b988), .val (.ref r_1040), .val (.int (1 : Int32)), .unset]) rfl k) ?_
            exact Jd180 _ _ T1040 _ X1040 N1042 e1040 hS1040 hk1040 hZ1040 hown1040 C1046 (1 : Int32)
          · refine WinW.to T1040 (mkF m 180 #[.val (.int p0), .val (.int p1), .val (.int p2), .val (.int p3), .val (.int (3 : Int32)), .val (.ref c1), .val (.ref r_982), .val (.ref b988), .val (.ref r_1040), .val (.int (-1 : Int32)), .unset] []) (fun _ k => XS.icmpYes X1040.here hx rfl (pc0 := 174) (pc' := 180) rfl (hb hby at_174) rfl (feq hc1055).2 (by decide) (by decide) k) ?_
            exact Jd180 _ _ T1040 _ X1040 N1042 e1040 hS1040 hk1040 hZ1040 hown1040 C1046 (-1 : Int32)
      · by_cases hq1 : q1 = (32 : Int32)
        · refine WinW.to T1029 (mkF m 137 #[.val (.int p0), .val (.int p1), .val (.int p2), .val (.int p3), .val (.int (3 : Int32)), .val (.ref c1), .val (.ref r_982), .val (.ref b988), .unset, .unset, .unset] [(.ref b988)]) (fun _ k => XS.aload X1029.here hx rfl (hb hby at_135) rfl rfl k) ?_
          have F1056 : Exa Z h1029 r_982 "java/lang/String" := (((Exa.ext E1002 F1005).keep r1019_0).keep r1029_0)
          have F1057 : Fld Z h1029 r_982 "java/lang/String" "value" "[B" (.ref t_982) := (((Fld.ext E1002 (Fld.ext E988 r982_2)).keep r1019_0 (ninS ne1006 nin0)).keep r1029_0 (ninS ne991 nin0))
          have F1058 : Fld Z h1029 r_982 "java/lang/String" "coder" "B" (.int (0 : Int32)) := (((Fld.ext E1002 (Fld.ext E988 r982_3)).keep r1019_0 (ninS ne1006 nin0)).keep r1029_0 (ninS ne991 nin0))
          have F1059 : ArF Z h1029 t_982 kb_982 .byte 3 (fun i => ((fun i => ([q0, q1, q2] : List Int32).getD i (0 : Int32)) i).toInt8.toInt32) := (((F1007.ext E1002).keep r1019_0 (ninS ne1008 nin0)).keep r1029_0 (ninS ne992 nin0))
          have F1061 : Exa Z h1029 b988 "com/example/grantgate/grantgate/server/MessageReader$Head" := (F1026.keep r1029_0)
          obtain ⟨T1060, h1060, v1060, L1060, k1060, X1060, e1060, hS1060, hk1060, hZ1060, hown1060, ⟨r_1060, t2_1060, k2_1060, rfl, N1060q, r1060_0, r1060_1, r1060_2, r1060_3, r1060_4⟩, c1060, st1060⟩ := W.virtual X1029 hS982 hk1032 hx hZ982 (y := (⟨"com/example/grantgate/grantgate/server/MessageReader$Head", "version", "()Ljava/lang/String;"⟩ : MethodName)) (z := (⟨"com/example/grantgate/grantgate/server/MessageReader$Head", "version", "()Ljava/lang/String;"⟩ : MethodName)) hown982 (wk hw 67 rfl) (wk hw 68 rfl) (notFace_of_selects (args := #[]) (mvT hZ982 (wk hw 70 rfl))) (wk hw 70 rfl) (wk hw 69 rfl) (wk hw 29 rfl) (wk hw 71 rfl) (by decide) (headV l Z a0 hw b988 r_982 t_982 kb_982 3 (fun i => ((fun i => ([q0, q1, q2] : List Int32).getD i (0 : Int32)) i).toInt8.toInt32) 2 cs x1 h1029 n0 O1031 r1029_1 F1056 F1057 F1058 F1059 (by decide) ((fun i hb hi => by
            match i, hb, hi with
            | 0, hb, _ => exact absurd hb (by decide)
            | 1, hb, _ => exact absurd hb (by decide)
            | 2, hb, _ => exact (own_sp2 hlq2 hcq2 hq2))) (fun _ => (show q1.toInt8.toInt32 = (32 : Int32) from by rw [hq1]; decide)) (by decide) S_CS hcs S_SI hx1) (own_EW hw) C1035.1 e1029 F1061 (g := (mkF m 137 #[.val (.int p0), .val (.int p1), .val (.int p2), .val (.int p3), .val (.int (3 : Int32)), .val (.ref c1), .val (.ref r_982), .val (.ref b988), .unset, .unset, .unset] [(.ref b988)])) rfl (by rw [hml]; rfl) (argsL := []) (rest := []) rfl (lenOf pd___Ljava_lang_String_ rfl) rfl (W := 0) (by show 2 * 0 + _ ≤ _; exact Nat.le_of_eq rfl) (hb hby at_137) (by decide) (by decide) (by decide) (by decide)
          have N1062 := Fr.app N1030 N1060q
          have O1063 := Old.keep O1031 r1060_0 all0
          have K1064 : Keep h0 h1060 [] := Keep.trans K1033 r1060_0 all0
          have c1065 := c1060
          have C1066 := CHr.trans C1035 c1065
          refine WinW.to T1060 (mkF m 140 #[.val (.int p0), .val (.int p1), .val (.int p2), .val (.int p3), .val (.int (3 : Int32)), .val (.ref c1), .val (.ref r_982), .val (.ref b988), .unset, .unset, .unset] [(.ref r_1060)]) (fun _ k => st1060 _ k) ?_
          refine WinW.to T1060 (mkF m 142 #[.val (.int p0), .val (.int p1), .val (.int p2), .val (.int p3), .val (.int (3 : Int32)), .val (.ref c1), .val (.ref r_982), .val (.ref b988), .val (.ref r_1060), .unset, .unset] []) (fun _ k => XS.astore X1060.here hx rfl (hb hby at_140) rfl rfl (l' := #[.val (.int p0), .val (.int p1), .val (.int p2), .val (.int p3), .val (.int (3 : Int32)), .val (.ref c1), .val (.ref r_982), .val (.ref b988), .val (.ref r_1060), .unset, .unset]) rfl k) ?_
          refine WinW.to T1060 (mkF m 143 #[.val (.int p0), .val (.int p1), .val (.int p2), .val (.int p3), .val (.int (3 : Int32)), .val (.ref c1), .val (.ref r_982), .val (.ref b988), .val (.ref r_1060), .unset, .unset] [(.int (-1 : Int32))]) (fun _ k => XS.iconst X1060.here hx rfl (hb hby at_142) k) ?_
          refine WinW.to T1060 (mkF m 145 #[.val (.int p0), .val (.int p1), .val (.int p2), .val (.int p3), .val (.int (3 : Int32)), .val (.ref c1), .val (.ref r_982), .val (.ref b988), .val (.ref r_1060), .val (.int (-1 : Int32)), .unset] []) (fun _ k => XS.istore X1060.here hx rfl (hb hby at_143) rfl (l' := #[.val (.int p0), .val (.int p1), .val (.int p2), .val (.int p3), .val (.int (3 : Int32)), .val (.ref c1), .val (.ref r_982), .val (.ref b988), .val (.ref r_1060), .val (.int (-1 : Int32)), .unset]) rfl k) ?_
          have Jd162 : ∀ (vmd162 : Vm) (kd162 : Nat) (Td162 : State) (locsd162 : List Loc) (Xd162 : Stand p l e room_1 (s.setVm vmd162) m #[(.int p0), (.int p1), (.int p2), (.int p3)] below meth c Td162 locsd162 11 32) (Nd162 : Fr n0 locsd162) (ed162 : Td162.heap = h1060) (hSd162 : s.Since vmd162 kd162) (hkd162 : kd162 ≤ h1060.size) (hZd162 : Z.Warmed39 (s.setVm vmd162).vm) (hownd162 : (s.setVm vmd162).vm.findClass "com/example/grantgate/grantgate/server/HeadVersionPinLaw" = some m.cls) (Cd162 : CHr Z EL1 s.vm s.heap vmd162 h1060) (pg : Int32) , WinW p e below s room_1 Z EL1 (fun v h L => v = some (.int (1 : Int32)) ∧ Fr n0 L ∧ (True)) (Td162.setTop (mkF m 162 #[.val (.int p0), .val (.int p1), .val (.int p2), .val (.int p3), .val (.int (3 : Int32)), .val (.ref c1), .val (.ref r_982), .val (.ref b988), .val (.ref r_1060), .val (.int pg), .unset] [])) := by
            intro vmd162 kd162 Td162 locsd162 Xd162 Nd162 ed162 hSd162 hkd162 hZd162 hownd162 Cd162 pg
            refine WinW.to Td162 (mkF m 164 #[.val (.int p0), .val (.int p1), .val (.int p2), .val (.int p3), .val (.int (3 : Int32)), .val (.ref c1), .val (.ref r_982), .val (.ref b988), .val (.ref r_1060), .val (.int pg), .unset] [(.int (3 : Int32))]) (fun _ k => XS.iload Xd162.here hx rfl (hb hby at_162) rfl k) ?_
            refine WinW.to Td162 (mkF m 165 #[.val (.int p0), .val (.int p1), .val (.int p2), .val (.int p3), .val (.int (3 : Int32)), .val (.ref c1), .val (.ref r_982), .val (.ref b988), .val (.ref r_1060), .val (.int pg), .unset] [(.int (1 : Int32)), (.int (3 : Int32))]) (fun _ k => XS.iconst Xd162.here hx rfl (hb hby at_164) k) ?_
            refine WinW.to Td162 (mkF m 168 #[.val (.int p0), .val (.int p1), .val (.int p2), .val (.int p3), .val (.int (3 : Int32)), .val (.ref c1), .val (.ref r_982), .val (.ref b988), .val (.ref r_1060), .val (.int pg), .unset] []) (fun _ k => XS.icmpNo Xd162.here hx rfl (hb hby at_165) rfl (tlt (show (1 : Int32) < (3 : Int32) from by decide)).2.2.2 k) ?_
            refine WinW.to Td162 (mkF m 170 #[.val (.int p0), .val (.int p1), .val (.int p2), .val (.int p3), .val (.int (3 : Int32)), .val (.ref c1), .val (.ref r_982), .val (.ref b988), .val (.ref r_1060), .val (.int pg), .unset] [(.ref c1)]) (fun _ k => XS.aload Xd162.here hx rfl (hb hby at_168) rfl rfl k) ?_
            refine WinW.to Td162 (mkF m 171 #[.val (.int p0), .val (.int p1), .val (.int p2), .val (.int p3), .val (.int (3 : Int32)), .val (.ref c1), .val (.ref r_982), .val (.ref b988), .val (.ref r_1060), .val (.int pg), .unset] [(.int (1 : Int32)), (.ref c1)]) (fun _ k => XS.iconst Xd162.here hx rfl (hb hby at_170) k) ?_
            have F1067 : Arv Z h1060 c1 kc .char (4 : Int32) [(.int q0), (.int q1), (.int q2), (.int q3)] (.int (0 : Int32)) := ((((F1003.ext E1002).keep r1019_0 (ninS ne1004 nin0)).keep r1029_0 (ninS ne990 nin0)).keep r1060_0 nin0)
            obtain ⟨cl1068, Ar1068, q1068, S1068, N1068, H1068, G1068⟩ := id F1067
            have hi1068 : ¬ ((1 : Int32) < 0 ∨ cl1068.slots.size ≤ ((1 : Int32)).toNatClampNeg) := inb_of S1068 ⟨by decide, by decide⟩
            refine WinW.to Td162 (mkF m 172 #[.val (.int p0), .val (.int p1), .val (.int p2), .val (.int p3), .val (.int (3 : Int32)), .val (.ref c1), .val (.ref r_982), .val (.ref b988), .val (.ref r_1060), .val (.int pg), .unset] [(.int q1)]) (fun _ k => Xd162.caload hx (j := (1 : Int32)) (v := (.int q1)) (by rw [ed162]; exact Ar1068.1) (State.isArrayOf_alike hZd162.alike Ar1068.2.1) Ar1068.2.2 hi1068 (Has.at H1068 hi1068 rfl) (g := (mkF m 171 #[.val (.int p0), .val (.int p1), .val (.int p2), .val (.int p3), .val (.int (3 : Int32)), .val (.ref c1), .val (.ref r_982), .val (.ref b988), .val (.ref r_1060), .val (.int pg), .unset] [(.int (1 : Int32)), (.ref c1)])) rfl rfl (hb hby at_171) _ k) ?_
            refine WinW.to Td162 (mkF m 174 #[.val (.int p0), .val (.int p1), .val (.int p2), .val (.int p3), .val (.int (3 : Int32)), .val (.ref c1), .val (.ref r_982), .val (.ref b988), .val (.ref r_1060), .val (.int pg), .unset] [(.int (32 : Int32)), (.int q1)]) (fun _ k => XS.bipush Xd162.here hx rfl (hb hby at_172) k) ?_
            refine WinW.to Td162 (mkF m 177 #[.val (.int p0), .val (.int p1), .val (.int p2), .val (.int p3), .val (.int (3 : Int32)), .val (.ref c1), .val (.ref r_982), .val (.ref b988), .val (.ref r_1060), .val (.int pg), .unset] []) (fun _ k => XS.icmpNo Xd162.here hx rfl (hb hby at_174) rfl (teq (show q1 = (32 : Int32) from hq1)).2 k) ?_
            refine WinW.to Td162 (mkF m 178 #[.val (.int p0), .val (.int p1), .val (.int p2), .val (.int p3), .val (.int (3 : Int32)), .val (.ref c1), .val (.ref r_982), .val (.ref b988), .val (.ref r_1060), .val (.int pg), .unset] [(.int (1 : Int32))]) (fun _ k => XS.iconst Xd162.here hx rfl (hb hby at_177) k) ?_
            refine WinW.to Td162 (mkF m 180 #[.val (.int p0), .val (.int p1), .val (.int p2), .val (.int p3), .val (.int (3 : Int32)), .val (.ref c1), .val (.ref r_982), .val (.ref b988), .val (.ref r_1060), .val (.int (1 : Int32)), .unset] []) (fun _ k => XS.istore Xd162.here hx rfl (hb hby at_178) rfl (l' := #[.val (.int p0), .val (.int p1), .val (.int p2), .val (.int p3), .val (.int (3 : Int32)), .val (.ref c1), .val (.ref r_982), .val (.ref b988), .val (.ref r_1060), .val (.int (1 : Int32)), .unset]) rfl k) ?_
            refine WinW.to Td162 (mkF m 182 #[.val (.int p0), .val (.int p1), .val (.int p2), .val (.int p3), .val (.int (3 : Int32)), .val (.ref c1), .val (.ref r_982), .val (.ref b988), .val (.ref r_1060), .val (.int (1 : Int32)), .unset] [(.int (3 : Int32))]) (fun _ k => XS.iload Xd162.here hx rfl (hb hby at_180) rfl k) ?_
            refine WinW.to Td162 (mkF m 183 #[.val (.int p0), .val (.int p1), .val (.int p2), .val (.int p3), .val (.int (3 : Int32)), .val (.ref c1), .val (.ref r_982), .val (.ref b988), .val (.ref r_1060), .val (.int (1 : Int32)), .unset] [(.int (2 : Int32)), (.int (3 : Int32))]) (fun _ k => XS.iconst Xd162.here hx rfl (hb hby at_182) k) ?_
            refine WinW.to Td162 (mkF m 186 #[.val (.int p0), .val (.int p1), .val (.int p2), .val (.int p3), .val (.int (3 : Int32)), .val (.ref c1), .val (.ref r_982), .val (.ref b988), .val (.ref r_1060), .val (.int (1 : Int32)), .unset] []) (fun _ k => XS.icmpNo Xd162.here hx rfl (hb hby at_183) rfl (tlt (show (2 : Int32) < (3 : Int32) from by decide)).2.2.2 k) ?_
            refine WinW.to Td162 (mkF m 188 #[.val (.int p0), .val (.int p1), .val (.int p2), .val (.int p3), .val (.int (3 : Int32)), .val (.ref c1), .val (.ref r_982), .val (.ref b988), .val (.ref r_1060), .val (.int (1 : Int32)), .unset] [(.ref c1)]) (fun _ k => XS.aload Xd162.here hx rfl (hb hby at_186) rfl rfl k) ?_
            refine WinW.to Td162 (mkF m 189 #[.val (.int p0), .val (.int p1), .val (.int p2), .val (.int p3), .val (.int (3 : Int32)), .val (.ref c1), .val (.ref r_982), .val (.ref b988), .val (.ref r_1060), .val (.int (1 : Int32)), .unset] [(.int (2 : Int32)), (.ref c1)]) (fun _ k => XS.iconst Xd162.here hx rfl (hb hby at_188) k) ?_
            obtain ⟨cl1069, Ar1069, q1069, S1069, N1069, H1069, G1069⟩ := id F1067
            have hi1069 : ¬ ((2 : Int32) < 0 ∨ cl1069.slots.size ≤ ((2 : Int32)).toNatClampNeg) := inb_of S1069 ⟨by decide, by decide⟩
            refine WinW.to Td162 (mkF m 190 #[.val (.int p0), .val (.int p1), .val (.int p2), .val (.int p3), .val (.int (3 : Int32)), .val (.ref c1), .val (.ref r_982), .val (.ref b988), .val (.ref r_1060), .val (.int (1 : Int32)), .unset] [(.int q2)]) (fun _ k => Xd162.caload hx (j := (2 : Int32)) (v := (.int q2)) (by rw [ed162]; exact Ar1069.1) (State.isArrayOf_alike hZd162.alike Ar1069.2.1) Ar1069.2.2 hi1069 (Has.at H1069 hi1069 rfl) (g := (mkF m 189 #[.val (.int p0), .val (.int p1), .val (.int p2), .val (.int p3), .val (.int (3 : Int32)), .val (.ref c1), .val (.ref r_982), .val (.ref b988), .val (.ref r_1060), .val (.int (1 : Int32)), .unset] [(.int (2 : Int32)), (.ref c1)])) rfl rfl (hb hby at_189) _ k) ?_
            refine WinW.to Td162 (mkF m 192 #[.val (.int p0), .val (.int p1), .val (.int p2), .val (.int p3), .val (.int (3 : Int32)), .val (.ref c1), .val (.ref r_982), .val (.ref b988), .val (.ref r_1060), .val (.int (1 : Int32)), .unset] [(.int (32 : Int32)), (.int q2)]) (fun _ k => XS.bipush Xd162.here hx rfl (hb hby at_190) k) ?_
            refine WinW.to Td162 (mkF m 198 #[.val (.int p0), .val (.int p1), .val (.int p2), .val (.int p3), .val (.int (3 : Int32)), .val (.ref c1), .val (.ref r_982), .val (.ref b988), .val (.ref r_1060), .val (.int (1 : Int32)), .unset] []) (fun _ k => XS.icmpYes Xd162.here hx rfl (pc0 := 192) (pc' := 198) rfl (hb hby at_192) rfl (feq (show ¬ (q2 = (32 : Int32)) from hq2)).2 (by decide) (by decide) k) ?_
            refine WinW.to Td162 (mkF m 200 #[.val (.int p0), .val (.int p1), .val (.int p2), .val (.int p3), .val (.int (3 : Int32)), .val (.ref c1), .val (.ref r_982), .val (.ref b988), .val (.ref r_1060), .val (.int (1 : Int32)), .unset] [(.int (3 : Int32))]) (fun _ k => XS.iload Xd162.here hx rfl (hb hby at_198) rfl k) ?_
            refine WinW.to Td162 (mkF m 201 #[.val (.int p0), .val (.int p1), .val (.int p2), .val (.int p3), .val (.int (3 : Int32)), .val (.ref c1), .val (.ref r_982), .val (.ref b988), .val (.ref r_1060), .val (.int (1 : Int32)), .unset] [(.int (3 : Int32)), (.int (3 : Int32))]) (fun _ k => XS.iconst Xd162.here hx rfl (hb hby at_200) k) ?_
            refine WinW.to Td162 (mkF m 216 #[.val (.int p0), .val (.int p1), .val (.int p2), .val (.int p3), .val (.int (3 : Int32)), .val (.ref c1), .val (.ref r_982), .val (.ref b988), .val (.ref r_1060), .val (.int (1 : Int32)), .unset] []) (fun _ k => XS.icmpYes Xd162.here hx rfl (pc0 := 201) (pc' := 216) rfl (hb hby at_201) rfl (flt (show ¬ ((3 : Int32) < (3 : Int32)) from by decide)).2.2.2 (by decide) (by decide) k) ?_
            exact Jc216 _ _ Td162 _ h1060 (Xd162.mono (by decide) (by decide)) Nd162 ed162 O1063 K1064 hSd162 hkd162 hZd162 hownd162 Cd162 r_1060 (1 : Int32) t2_1060 k2_1060 1 (fun i => (fun i => ((fun i => ([q0, q1, q2] : List Int32).getD i (0 : Int32)) i).toInt8.toInt32) (2 + i)) 3 2 (.val (.ref r_982)) (.val (.ref b988)) r1060_1 r1060_2 r1060_3 r1060_4 F1067 (by decide) (by decide) (by decide) ((fun i hi => by
              match i, hi with
              | 0, _ => exact (own_b255 hlq2 hcq2))) (by decide)
          refine WinW.to T1060 (mkF m 147 #[.val (.int p0), .val (.int p1), .val (.int p2), .val (.int p3), .val (.int (3 : Int32)), .val (.ref c1), .val (.ref r_982), .val (.ref b988), .val (.ref r_1060), .val (.int (-1 : Int32)), .unset] [(.int (3 : Int32))]) (fun _ k => XS.iload X1060.here hx rfl (hb hby at_145) rfl k) ?_
          refine WinW.to T1060 (mkF m 150 #[.val (.int p0), .val (.int p1), .val (.int p2), .val (.int p3), .val (.int (3 : Int32)), .val (.ref c1), .val (.ref r_982), .val (.ref b988), .val (.ref r_1060), .val (.int (-1 : Int32)), .unset] []) (fun _ k => XS.ifNo X1060.here hx rfl (hb hby at_147) rfl ((if0 _ _).trans (tlt (show (0 : Int32) < (3 : Int32) from by decide)).2.2.2) k) ?_
          refine WinW.to T1060 (mkF m 152 #[.val (.int p0), .val (.int p1), .val (.int p2), .val (.int p3), .val (.int (3 : Int32)), .val (.ref c1), .val (.ref r_982), .val (.ref b988), .val (.ref r_1060), .val (.int (-1 : Int32)), .unset] [(.ref c1)]) (fun _ k => XS.aload X1060.here hx rfl (hb hby at_150) rfl rfl k) ?_
          refine WinW.to T1060 (mkF m 153 #[.val (.int p0), .val (.int p1), .val (.int p2), .val (.int p3), .val (.int (3 : Int32)), .val (.ref c1), .val (.ref r_982), .val (.ref b988), .val (.ref r_1060), .val (.int (-1 : Int32)), .unset] [(.int (0 : Int32)), (.ref c1)]) (fun _ k => XS.iconst X1060.here hx rfl (hb hby at_152) k) ?_
          have F1070 : Arv Z h1060 c1 kc .char (4 : Int32) [(.int q0), (.int q1), (.int q2), (.int q3)] (.int (0 : Int32)) := ((((F1003.ext E1002).keep r1019_0 (ninS ne1004 nin0)).keep r1029_0 (ninS ne990 nin0)).keep r1060_0 nin0)
          obtain ⟨cl1071, Ar1071, q1071, S1071, N1071, H1071, G1071⟩ := id F1070
          have hi1071 : ¬ ((0 : Int32) < 0 ∨ cl1071.slots.size ≤ ((0 : Int32)).toNatClampNeg) := inb_of S1071 ⟨by decide, by decide⟩
          refine WinW.to T1060 (mkF m 154 #[.val (.int p0), .val (.int p1), .val (.int p2), .val (.int p3), .val (.int (3 : Int32)), .val (.ref c1), .val (.ref r_982), .val (.ref b988), .val (.ref r_1060), .val (.int (-1 : Int32)), .unset] [(.int q0)]) (fun _ k => X1060.caload hx (j := (0 : Int32)) (v := (.int q0)) (by rw [e1060]; exact Ar1071.1) (State.isArrayOf_alike hZ1060.alike Ar1071.2.1) Ar1071.2.2 hi1071 (Has.at H1071 hi1071 rfl) (g := (mkF m 153 #[.val (.int p0), .val (.int p1), .val (.int p2), .val (.int p3), .val (.int (3 : Int32)), .val (.ref c1), .val (.ref r_982), .val (.ref b988), .val (.ref r_1060), .val (.int (-1 : Int32)), .unset] [(.int (0 : Int32)), (.ref c1)])) rfl rfl (hb hby at_153) _ k) ?_
          refine WinW.to T1060 (mkF m 156 #[.val (.int p0), .val (.int p1), .val (.int p2), .val (.int p3), .val (.int (3 : Int32)), .val (.ref c1), .val (.ref r_982), .val (.ref b988), .val (.ref r_1060), .val (.int (-1 : Int32)), .unset] [(.int (32 : Int32)), (.int q0)]) (fun _ k => XS.bipush X1060.here hx rfl (hb hby at_154) k) ?_
          by_cases hc1072 : q0 = (32 : Int32)
          · refine WinW.to T1060 (mkF m 159 #[.val (.int p0), .val (.int p1), .val (.int p2), .val (.int p3), .val (.int (3 : Int32)), .val (.ref c1), .val (.ref r_982), .val (.ref b988), .val (.ref r_1060), .val (.int (-1 : Int32)), .unset] []) (fun _ k => XS.icmpNo X1060.here hx rfl (hb hby at_156) rfl (teq hc1072).2 k) ?_
            refine WinW.to T1060 (mkF m 160 #[.val (.int p0), .val (.int p1), .val (.int p2), .val (.int p3), .val (.int (3 : Int32)), .val (.ref c1), .val (.ref r_982), .val (.ref b988), .val (.ref r_1060), .val (.int (-1 : Int32)), .unset] [(.int (0 : Int32))]) (fun _ k => XS.iconst X1060.here hx rfl (hb hby at_159) k) ?_
            refine WinW.to T1060 (mkF m 162 #[.val (.int p0), .val (.int p1), .val (.int p2), .val (.int p3), .val (.int (3 : Int32)), .val (.ref c1), .val (.ref r_982), .val (.ref b988), .val (.ref r_1060), .val (.int (0 : Int32)), .unset] []) (fun _ k => XS.istore X1060.here hx rfl (hb hby at_160) rfl (l' := #[.val (.int p0), .val (.int p1), .val (.int p2), .val (.int p3), .val (.int (3 : Int32)), .val (.ref c1), .val (.ref r_982), .val (.ref b988), .val (.ref r_1060), .val (.int (0 : Int32)), .unset]) rfl k) ?_
            exact Jd162 _ _ T1060 _ X1060 N1062 e1060 hS1060 hk1060 hZ1060 hown1060 C1066 (0 : Int32)
          · refine WinW.to T1060 (mkF m 162 #[.val (.int p0), .val (.int p1), .val (.int p2), .val (.int p3), .val (.int (3 : Int32)), .val (.ref c1), .val (.ref r_982), .val (.ref b988), .val (.ref r_1060), .val (.int (-1 : Int32)), .unset] []) (fun _ k => XS.icmpYes X1060.here hx rfl (pc0 := 156) (pc' := 162) rfl (hb hby at_156) rfl (feq hc1072).2 (by decide) (by decide) k) ?_
            exact Jd162 _ _ T1060 _ X1060 N1062 e1060 hS1060 hk1060 hZ1060 hown1060 C1066 (-1 : Int32)
        · by_cases hq0 : q0 = (32 : Int32)
          · refine WinW.to T1029 (mkF m 137 #[.val (.int p0), .val (.int p1), .val (.int p2), .val (.int p3), .val (.int (3 : Int32)), .val (.ref c1), .val (.ref r_982), .val (.ref b988), .unset, .unset, .unset] [(.ref b988)]) (fun _ k => XS.aload X1029.here hx rfl (hb hby at_135) rfl rfl k) ?_
            have F1073 : Exa Z h1029 r_982 "java/lang/String" := (((Exa.ext E1002 F1005).keep r1019_0).keep r1029_0)
            have F1074 : Fld Z h1029 r_982 "java/lang/String" "value" "[B" (.ref t_982) := (((Fld.ext E1002 (Fld.ext E988 r982_2)).keep r1019_0 (ninS ne1006 nin0)).keep r1029_0 (ninS ne991 nin0))
            have F1075 : Fld Z h1029 r_982 "java/lang/String" "coder" "B" (.int (0 : Int32)) := (((Fld.ext E1002 (Fld.ext E988 r982_3)).keep r1019_0 (ninS ne1006 nin0)).keep r1029_0 (ninS ne991 nin0))
            have F1076 : ArF Z h1029 t_982 kb_982 .byte 3 (fun i => ((fun i => ([q0, q1, q2] : List Int32).getD i (0 : Int32)) i).toInt8.toInt32) := (((F1007.ext E1002).keep r1019_0 (ninS ne1008 nin0)).keep r1029_0 (ninS ne992 nin0))
            have F1078 : Exa Z h1029 b988 "com/example/grantgate/grantgate/server/MessageReader$Head" := (F1026.keep r1029_0)
            obtain ⟨T1077, h1077, v1077, L1077, k1077, X1077, e1077, hS1077, hk1077, hZ1077, hown1077, ⟨r_1077, t2_1077, k2_1077, rfl, N1077q, r1077_0, r1077_1, r1077_2, r1077_3, r1077_4⟩, c1077, st1077⟩ := W.virtual X1029 hS982 hk1032 hx hZ982 (y := (⟨"com/example/grantgate/grantgate/server/MessageReader$Head", "version", "()Ljava/lang/String;"⟩ : MethodName)) (z := (⟨"com/example/grantgate/grantgate/server/MessageReader$Head", "version", "()Ljava/lang/String;"⟩ : MethodName)) hown982 (wk hw 67 rfl) (wk hw 68 rfl) (notFace_of_selects (args := #[]) (mvT hZ982 (wk hw 70 rfl))) (wk hw 70 rfl) (wk hw 69 rfl) (wk hw 29 rfl) (wk hw 71 rfl) (by decide) (headV l Z a0 hw b988 r_982 t_982 kb_982 3 (fun i => ((fun i => ([q0, q1, q2] : List Int32).getD i (0 : Int32)) i).toInt8.toInt32) 1 cs x1 h1029 n0 O1031 r1029_1 F1073 F1074 F1075 F1076 (by decide) ((fun i hb hi => by
              match i, hb, hi with
              | 0, hb, _ => exact absurd hb (by decide)
              | 1, hb, _ => exact (own_sp2 hlq1 hcq1 hq1)
              | 2, hb, _ => exact (own_sp2 hlq2 hcq2 hq2))) (fun _ => (show q0.toInt8.toInt32 = (32 : Int32) from by rw [hq0]; decide)) (by decide) S_CS hcs S_SI hx1) (own_EW hw) C1035.1 e1029 F1078 (g := (mkF m 137 #[.val (.int p0), .val (.int p1), .val (.int p2), .val (.int p3), .val (.int (3 : Int32)), .val (.ref c1), .val (.ref r_982), .val (.ref b988), .unset, .unset, .unset] [(.ref b988)])) rfl (by rw [hml]; rfl) (argsL := []) (rest := []) rfl (lenOf pd___Ljava_lang_String_ rfl) rfl (W := 0) (by show 2 * 0 + _ ≤ _; exact Nat.le_of_eq rfl) (hb hby at_137) (by decide) (by decide) (by decide) (by decide)
            have N1079 := Fr.app N1030 N1077q
            have O1080 := Old.keep O1031 r1077_0 all0
            have K1081 : Keep h0 h1077 [] := Keep.trans K1033 r1077_0 all0
            have c1082 := c1077
            have C1083 := CHr.trans C1035 c1082
            refine WinW.to T1077 (mkF m 140 #[.val (.int p0), .val (.int p1), .val (.int p2), .val (.int p3), .val (.int (3 : Int32)), .val (.ref c1), .val (.ref r_982), .val (.ref b988), .unset, .unset, .unset] [(.ref r_1077)]) (fun _ k => st1077 _ k) ?_
            refine WinW.to T1077 (mkF m 142 #[.val (.int p0), .val (.int p1), .val (.int p2), .val (.int p3), .val (.int (3 : Int32)), .val (.ref c1), .val (.ref r_982), .val (.ref b988), .val (.ref r_1077), .unset, .unset] []) (fun _ k => XS.astore X1077.here hx rfl (hb hby at_140) rfl rfl (l' := #[.val (.int p0), .val (.int p1), .val (.int p2), .val (.int p3), .val (.int (3 : Int32)), .val (.ref c1), .val (.ref r_982), .val (.ref b988), .val (.ref r_1077), .unset, .unset]) rfl k) ?_
            refine WinW.to T1077 (mkF m 143 #[.val (.int p0), .val (.int p1), .val (.int p2), .val (.int p3), .val (.int (3 : Int32)), .val (.ref c1), .val (.ref r_982), .val (.ref b988), .val (.ref r_1077), .unset, .unset] [(.int (-1 : Int32))]) (fun _ k => XS.iconst X1077.here hx rfl (hb hby at_142) k) ?_
            refine WinW.to T1077 (mkF m 145 #[.val (.int p0), .val (.int p1), .val (.int p2), .val (.int p3), .val (.int (3 : Int32)), .val (.ref c1), .val (.ref r_982), .val (.ref b988), .val (.ref r_1077), .val (.int (-1 : Int32)), .unset] []) (fun _ k => XS.istore X1077.here hx rfl (hb hby at_143) rfl (l' := #[.val (.int p0), .val (.int p1), .val (.int p2), .val (.int p3), .val (.int (3 : Int32)), .val (.ref c1), .val (.ref r_982), .val (.ref b988), .val (.ref r_1077), .val (.int (-1 : Int32)), .unset]) rfl k) ?_
            refine WinW.to T1077 (mkF m 147 #[.val (.int p0), .val (.int p1), .val (.int p2), .val (.int p3), .val (.int (3 : Int32)), .val (.ref c1), .val (.ref r_982), .val (.ref b988), .val (.ref r_1077), .val (.int (-1 : Int32)), .unset] [(.int (3 : Int32))]) (fun _ k => XS.iload X1077.here hx rfl (hb hby at_145) rfl k) ?_
            refine WinW.to T1077 (mkF m 150 #[.val (.int p0), .val (.int p1), .val (.int p2), .val (.int p3), .val (.int (3 : Int32)), .val (.ref c1), .val (.ref r_982), .val (.ref b988), .val (.ref r_1077), .val (.int (-1 : Int32)), .unset] []) (fun _ k => XS.ifNo X1077.here hx rfl (hb hby at_147) rfl ((if0 _ _).trans (tlt (show (0 : Int32) < (3 : Int32) from by decide)).2.2.2) k) ?_
            refine WinW.to T1077 (mkF m 152 #[.val (.int p0), .val (.int p1), .val (.int p2), .val (.int p3), .val (.int (3 : Int32)), .val (.ref c1), .val (.ref r_982), .val (.ref b988), .val (.ref r_1077), .val (.int (-1 : Int32)), .unset] [(.ref c1)]) (fun _ k => XS.aload X1077.here hx rfl (hb hby at_150) rfl rfl k) ?_
            refine WinW.to T1077 (mkF m 153 #[.val (.int p0), .val (.int p1), .val (.int p2), .val (.int p3), .val (.int (3 : Int32)), .val (.ref c1), .val (.ref r_982), .val (.ref b988), .val (.ref r_1077), .val (.int (-1 : Int32)), .unset] [(.int (0 : Int32)), (.ref c1)]) (fun _ k => XS.iconst X1077.here hx rfl (hb hby at_152) k) ?_
            have F1084 : Arv Z h1077 c1 kc .char (4 : Int32) [(.int q0), (.int q1), (.int q2), (.int q3)] (.int (0 : Int32)) := ((((F1003.ext E1002).keep r1019_0 (ninS ne1004 nin0)).keep r1029_0 (ninS ne990 nin0)).keep r1077_0 nin0)
            obtain ⟨cl1085, Ar1085, q1085, S1085, N1085, H1085, G1085⟩ := id F1084
            have hi1085 : ¬ ((0 : Int32) < 0 ∨ cl1085.slots.size ≤ ((0 : Int32)).toNatClampNeg) := inb_of S1085 ⟨by decide, by decide⟩
            refine WinW.to T1077 (mkF m 154 #[.val (.int p0), .val (.int p1), .val (.int p2), .val (.int p3), .val (.int (3 : Int32)), .val (.ref c1), .val (.ref r_982), .val (.ref b988), .val (.ref r_1077), .val (.int (-1 : Int32)), .unset] [(.int q0)]) (fun _ k => X1077.caload hx (j := (0 : Int32)) (v := (.int q0)) (by rw [e1077]; exact Ar1085.1) (State.isArrayOf_alike hZ1077.alike Ar1085.2.1) Ar1085.2.2 hi1085 (Has.at H1085 hi1085 rfl) (g := (mkF m 153 #[.val (.int p0), .val (.int p1), .val (.int p2), .val (.int p3), .val (.int (3 : Int32)), .val (.ref c1), .val (.ref r_982), .val (.ref b988), .val (.ref r_1077), .val (.int (-1 : Int32)), .unset] [(.int (0 : Int32)), (.ref c1)])) rfl rfl (hb hby at_153) _ k) ?_
            refine WinW.to T1077 (mkF m 156 #[.val (.int p0), .val (.int p1), .val (.int p2), .val (.int p3), .val (.int (3 : Int32)), .val (.ref c1), .val (.ref r_982), .val (.ref b988), .val (.ref r_1077), .val (.int (-1 : Int32)), .unset] [(.int (32 : Int32)), (.int q0)]) (fun _ k => XS.bipush X1077.here hx rfl (hb hby at_154) k) ?_
            refine WinW.to T1077 (mkF m 159 #[.val (.int p0), .val (.int p1), .val (.int p2), .val (.int p3), .val (.int (3 : Int32)), .val (.ref c1), .val (.ref r_982), .val (.ref b988), .val (.ref r_1077), .val (.int (-1 : Int32)), .unset] []) (fun _ k => XS.icmpNo X1077.here hx rfl (hb hby at_156) rfl (teq (show q0 = (32 : Int32) from hq0)).2 k) ?_
            refine WinW.to T1077 (mkF m 160 #[.val (.int p0), .val (.int p1), .val (.int p2), .val (.int p3), .val (.int (3 : Int32)), .val (.ref c1), .val (.ref r_982), .val (.ref b988), .val (.ref r_1077), .val (.int (-1 : Int32)), .unset] [(.int (0 : Int32))]) (fun _ k => XS.iconst X1077.here hx rfl (hb hby at_159) k) ?_
            refine WinW.to T1077 (mkF m 162 #[.val (.int p0), .val (.int p1), .val (.int p2), .val (.int p3), .val (.int (3 : Int32)), .val (.ref c1), .val (.ref r_982), .val (.ref b988), .val (.ref r_1077), .val (.int (0 : Int32)), .unset] []) (fun _ k => XS.istore X1077.here hx rfl (hb hby at_160) rfl (l' := #[.val (.int p0), .val (.int p1), .val (.int p2), .val (.int p3), .val (.int (3 : Int32)), .val (.ref c1), .val (.ref r_982), .val (.ref b988), .val (.ref r_1077), .val (.int (0 : Int32)), .unset]) rfl k) ?_
            refine WinW.to T1077 (mkF m 164 #[.val (.int p0), .val (.int p1), .val (.int p2), .val (.int p3), .val (.int (3 : Int32)), .val (.ref c1), .val (.ref r_982), .val (.ref b988), .val (.ref r_1077), .val (.int (0 : Int32)), .unset] [(.int (3 : Int32))]) (fun _ k => XS.iload X1077.here hx rfl (hb hby at_162) rfl k) ?_
            refine WinW.to T1077 (mkF m 165 #[.val (.int p0), .val (.int p1), .val (.int p2), .val (.int p3), .val (.int (3 : Int32)), .val (.ref c1), .val (.ref r_982), .val (.ref b988), .val (.ref r_1077), .val (.int (0 : Int32)), .unset] [(.int (1 : Int32)), (.int (3 : Int32))]) (fun _ k => XS.iconst X1077.here hx rfl (hb hby at_164) k) ?_
            refine WinW.to T1077 (mkF m 168 #[.val (.int p0), .val (.int p1), .val (.int p2), .val (.int p3), .val (.int (3 : Int32)), .val (.ref c1), .val (.ref r_982), .val (.ref b988), .val (.ref r_1077), .val (.int (0 : Int32)), .unset] []) (fun _ k => XS.icmpNo X1077.here hx rfl (hb hby at_165) rfl (tlt (show (1 : Int32) < (3 : Int32) from by decide)).2.2.2 k) ?_
            refine WinW.to T1077 (mkF m 170 #[.val (.int p0), .val (.int p1), .val (.int p2), .val (.int p3), .val (.int (3 : Int32)), .val (.ref c1), .val (.ref r_982), .val (.ref b988), .val (.ref r_1077), .val (.int (0 : Int32)), .unset] [(.ref c1)]) (fun _ k => XS.aload X1077.here hx rfl (hb hby at_168) rfl rfl k) ?_
            refine WinW.to T1077 (mkF m 171 #[.val (.int p0), .val (.int p1), .val (.int p2), .val (.int p3), .val (.int (3 : Int32)), .val (.ref c1), .val (.ref r_982), .val (.ref b988), .val (.ref r_1077), .val (.int (0 : Int32)), .unset] [(.int (1 : Int32)), (.ref c1)]) (fun _ k => XS.iconst X1077.here hx rfl (hb hby at_170) k) ?_
            obtain ⟨cl1086, Ar1086, q1086, S1086, N1086, H1086, G1086⟩ := id F1084
            have hi1086 : ¬ ((1 : Int32) < 0 ∨ cl1086.slots.size ≤ ((1 : Int32)).toNatClampNeg) := inb_of S1086 ⟨by decide, by decide⟩
            refine WinW.to T1077 (mkF m 172 #[.val (.int p0), .val (.int p1), .val (.int p2), .val (.int p3), .val (.int (3 : Int32)), .val (.ref c1), .val (.ref r_982), .val (.ref b988), .val (.ref r_1077), .val (.int (0 : Int32)), .unset] [(.int q1)]) (fun _ k => X1077.caload hx (j := (1 : Int32)) (v := (.int q1)) (by rw [e1077]; exact Ar1086.1) (State.isArrayOf_alike hZ1077.alike Ar1086.2.1) Ar1086.2.2 hi1086 (Has.at H1086 hi1086 rfl) (g := (mkF m 171 #[.val (.int p0), .val (.int p1), .val (.int p2), .val (.int p3), .val (.int (3 : Int32)), .val (.ref c1), .val (.ref r_982), .val (.ref b988), .val (.ref r_1077), .val (.int (0 : Int32)), .unset] [(.int (1 : Int32)), (.ref c1)])) rfl rfl (hb hby at_171) _ k) ?_
            refine WinW.to T1077 (mkF m 174 #[.val (.int p0), .val (.int p1), .val (.int p2), .val (.int p3), .val (.int (3 : Int32)), .val (.ref c1), .val (.ref r_982), .val (.ref b988), .val (.ref r_1077), .val (.int (0 : Int32)), .unset] [(.int (32 : Int32)), (.int q1)]) (fun _ k => XS.bipush X1077.here hx rfl (hb hby at_172) k) ?_
            refine WinW.to T1077 (mkF m 180 #[.val (.int p0), .val (.int p1), .val (.int p2), .val (.int p3), .val (.int (3 : Int32)), .val (.ref c1), .val (.ref r_982), .val (.ref b988), .val (.ref r_1077), .val (.int (0 : Int32)), .unset] []) (fun _ k => XS.icmpYes X1077.here hx rfl (pc0 := 174) (pc' := 180) rfl (hb hby at_174) rfl (feq (show ¬ (q1 = (32 : Int32)) from hq1)).2 (by decide) (by decide) k) ?_
            refine WinW.to T1077 (mkF m 182 #[.val (.int p0), .val (.int p1), .val (.int p2), .val (.int p3), .val (.int (3 : Int32)), .val (.ref c1), .val (.ref r_982), .val (.ref b988), .val (.ref r_1077), .val (.int (0 : Int32)), .unset] [(.int (3 : Int32))]) (fun _ k => XS.iload X1077.here hx rfl (hb hby at_180) rfl k) ?_
            refine WinW.to T1077 (mkF m 183 #[.val (.int p0), .val (.int p1), .val (.int p2), .val (.int p3), .val (.int (3 : Int32)), .val (.ref c1), .val (.ref r_982), .val (.ref b988), .val (.ref r_1077), .val (.int (0 : Int32)), .unset] [(.int (2 : Int32)), (.int (3 : Int32))]) (fun _ k => XS.iconst X1077.here hx rfl (hb hby at_182) k) ?_
            refine WinW.to T1077 (mkF m 186 #[.val (.int p0), .val (.int p1), .val (.int p2), .val (.int p3), .val (.int (3 : Int32)), .val (.ref c1), .val (.ref r_982), .val (.ref b988), .val (.ref r_1077), .val (.int (0 : Int32)), .unset] []) (fun _ k => XS.icmpNo X1077.here hx rfl (hb hby at_183) rfl (tlt (show (2 : Int32) < (3 : Int32) from by decide)).2.2.2 k) ?_
            refine WinW.to T1077 (mkF m 188 #[.val (.int p0), .val (.int p1), .val (.int p2), .val (.int p3), .val (.int (3 : Int32)), .val (.ref c1), .val (.ref r_982), .val (.ref b988), .val (.ref r_1077), .val (.int (0 : Int32)), .unset] [(.ref c1)]) (fun _ k => XS.aload X1077.here hx rfl (hb hby at_186) rfl rfl k) ?_
            refine WinW.to T1077 (mkF m 189 #[.val (.int p0), .val (.int p1), .val (.int p2), .val (.int p3), .val (.int (3 : Int32)), .val (.ref c1), .val (.ref r_982), .val (.ref b988), .val (.ref r_1077), .val (.int (0 : Int32)), .unset] [(.int (2 : Int32)), (.ref c1)]) (fun _ k => XS.iconst X1077.here hx rfl (hb hby at_188) k) ?_
            obtain ⟨cl1087, Ar1087, q1087, S1087, N1087, H1087, G1087⟩ := id F1084
            have hi1087 : ¬ ((2 : Int32) < 0 ∨ cl1087.slots.size ≤ ((2 : Int32)).toNatClampNeg) := inb_of S1087 ⟨by decide, by decide⟩
            refine WinW.to T1077 (mkF m 190 #[.val (.int p0), .val (.int p1), .val (.int p2), .val (.int p3), .val (.int (3 : Int32)), .val (.ref c1), .val (.ref r_982), .val (.ref b988), .val (.ref r_1077), .val (.int (0 : Int32)), .unset] [(.int q2)]) (fun _ k => X1077.caload hx (j := (2 : Int32)) (v := (.int q2)) (by rw [e1077]; exact Ar1087.1) (State.isArrayOf_alike hZ1077.alike Ar1087.2.1) Ar1087.2.2 hi1087 (Has.at H1087 hi1087 rfl) (g := (mkF m 189 #[.val (.int p0), .val (.int p1), .val (.int p2), .val (.int p3), .val (.int (3 : Int32)), .val (.ref c1), .val (.ref r_982), .val (.ref b988), .val (.ref r_1077), .val (.int (0 : Int32)), .unset] [(.int (2 : Int32)), (.ref c1)])) rfl rfl (hb hby at_189) _ k) ?_
            refine WinW.to T1077 (mkF m 192 #[.val (.int p0), .val (.int p1), .val (.int p2), .val (.int p3), .val (.int (3 : Int32)), .val (.ref c1), .val (.ref r_982), .val (.ref b988), .val (.ref r_1077), .val (.int (0 : Int32)), .unset] [(.int (32 : Int32)), (.int q2)]) (fun _ k => XS.bipush X1077.here hx rfl (hb hby at_190) k) ?_
            refine WinW.to T1077 (mkF m 198 #[.val (.int p0), .val (.int p1), .val (.int p2), .val (.int p3), .val (.int (3 : Int32)), .val (.ref c1), .val (.ref r_982), .val (.ref b988), .val (.ref r_1077), .val (.int (0 : Int32)), .unset] []) (fun _ k => XS.icmpYes X1077.here hx rfl (pc0 := 192) (pc' := 198) rfl (hb hby at_192) rfl (feq (show ¬ (q2 = (32 : Int32)) from hq2)).2 (by decide) (by decide) k) ?_
            refine WinW.to T1077 (mkF m 200 #[.val (.int p0), .val (.int p1), .val (.int p2), .val (.int p3), .val (.int (3 : Int32)), .val (.ref c1), .val (.ref r_982), .val (.ref b988), .val (.ref r_1077), .val (.int (0 : Int32)), .unset] [(.int (3 : Int32))]) (fun _ k => XS.iload X1077.here hx rfl (hb hby at_198) rfl k) ?_
            refine WinW.to T1077 (mkF m 201 #[.val (.int p0), .val (.int p1), .val (.int p2), .val (.int p3), .val (.int (3 : Int32)), .val (.ref c1), .val (.ref r_982), .val (.ref b988), .val (.ref r_1077), .val (.int (0 : Int32)), .unset] [(.int (3 : Int32)), (.int (3 : Int32))]) (fun _ k => XS.iconst X1077.here hx rfl (hb hby at_200) k) ?_
            refine WinW.to T1077 (mkF m 216 #[.val (.int p0), .val (.int p1), .val (.int p2), .val (.int p3), .val (.int (3 : Int32)), .val (.ref c1), .val (.ref r_982), .val (.ref b988), .val (.ref r_1077), .val (.int (0 : Int32)), .unset] []) (fun _ k => XS.icmpYes X1077.here hx rfl (pc0 := 201) (pc' := 216) rfl (hb hby at_201) rfl (flt (show ¬ ((3 : Int32) < (3 : Int32)) from by decide)).2.2.2 (by decide) (by decide) k) ?_
            exact Jc216 _ _ T1077 _ h1077 (X1077.mono (by decide) (by decide)) N1079 e1077 O1080 K1081 hS1077 hk1077 hZ1077 hown1077 C1083 r_1077 (0 : Int32) t2_1077 k2_1077 2 (fun i => (fun i => ((fun i => ([q0, q1, q2] : List Int32).getD i (0 : Int32)) i).toInt8.toInt32) (1 + i)) 3 1 (.val (.ref r_982)) (.val (.ref b988)) r1077_1 r1077_2 r1077_3 r1077_4 F1084 (by decide) (by decide) (by decide) ((fun i hi => by
              match i, hi with
              | 0, _ => exact (own_b255 hlq1 hcq1)
              | 1, _ => exact (own_b255 hlq2 hcq2))) (by decide)
          · refine WinW.to T1029 (mkF m 137 #[.val (.int p0), .val (.int p1), .val (.int p2), .val (.int p3), .val (.int (3 : Int32)), .val (.ref c1), .val (.ref r_982), .val (.ref b988), .unset, .unset, .unset] [(.ref b988)]) (fun _ k => XS.aload X1029.here hx rfl (hb hby at_135) rfl rfl k) ?_
            have F1088 : Exa Z h1029 r_982 "java/lang/String" := (((Exa.ext E1002 F1005).keep r1019_0).keep r1029_0)
            have F1089 : Fld Z h1029 r_982 "java/lang/String" "value" "[B" (.ref t_982) := (((Fld.ext E1002 (Fld.ext E988 r982_2)).keep r1019_0 (ninS ne1006 nin0)).keep r1029_0 (ninS ne991 nin0))
            have F1090 : Fld Z h1029 r_982 "java/lang/String" "coder" "B" (.int (0 : Int32)) := (((Fld.ext E1002 (Fld.ext E988 r982_3)).keep r1019_0 (ninS ne1006 nin0)).keep r1029_0 (ninS ne991 nin0))
            have F1091 : ArF Z h1029 t_982 kb_982 .byte 3 (fun i => ((fun i => ([q0, q1, q2] : List Int32).getD i (0 : Int32)) i).toInt8.toInt32) := (((F1007.ext E1002).keep r1019_0 (ninS ne1008 nin0)).keep r1029_0 (ninS ne992 nin0))
            have F1093 : Exa Z h1029 b988 "com/example/grantgate/grantgate/server/MessageReader$Head" := (F1026.keep r1029_0)
            obtain ⟨T1092, h1092, v1092, L1092, k1092, X1092, e1092, hS1092, hk1092, hZ1092, hown1092, ⟨r_1092, t2_1092, k2_1092, rfl, N1092q, r1092_0, r1092_1, r1092_2, r1092_3, r1092_4⟩, c1092, st1092⟩ := W.virtual X1029 hS982 hk1032 hx hZ982 (y := (⟨"com/example/grantgate/grantgate/server/MessageReader$Head", "version", "()Ljava/lang/String;"⟩ : MethodName)) (z := (⟨"com/example/grantgate/grantgate/server/MessageReader$Head", "version", "()Ljava/lang/String;"⟩ : MethodName)) hown982 (wk hw 67 rfl) (wk hw 68 rfl) (notFace_of_selects (args := #[]) (mvT hZ982 (wk hw 70 rfl))) (wk hw 70 rfl) (wk hw 69 rfl) (wk hw 29 rfl) (wk hw 71 rfl) (by decide) (headV l Z a0 hw b988 r_982 t_982 kb_982 3 (fun i => ((fun i => ([q0, q1, q2] : List Int32).getD i (0 : Int32)) i).toInt8.toInt32) 0 cs x1 h1029 n0 O1031 r1029_1 F1088 F1089 F1090 F1091 (by decide) ((fun i hb hi => by
              match i, hb, hi with
              | 0, hb, _ => exact (own_sp2 hlq0 hcq0 hq0)
              | 1, hb, _ => exact (own_sp2 hlq1 hcq1 hq1)
              | 2, hb, _ => exact (own_sp2 hlq2 hcq2 hq2))) (fun q => absurd q (Nat.lt_irrefl _)) (by decide) S_CS hcs S_SI hx1) (own_EW hw) C1035.1 e1029 F1093 (g := (mkF m 137 #[.val (.int p0), .val (.int p1), .val (.int p2), .val (.int p3), .val (.int (3 : Int32)), .val (.ref c1), .val (.ref r_982), .val (.ref b988), .unset, .unset, .unset] [(.ref b988)])) rfl (by rw [hml]; rfl) (argsL := []) (rest := []) rfl (lenOf pd___Ljava_lang_String_ rfl) rfl (W := 0) (by show 2 * 0 + _ ≤ _; exact Nat.le_of_eq rfl) (hb hby at_137) (by decide) (by decide) (by decide) (by decide)
            have N1094 := Fr.app N1030 N1092q
            have O1095 := Old.keep O1031 r1092_0 all0
            have K1096 : Keep h0 h1092 [] := Keep.trans K1033 r1092_0 all0
            have c1097 := c1092
            have C1098 := CHr.trans C1035 c1097
            refine WinW.to T1092 (mkF m 140 #[.val (.int p0), .val (.int p1), .val (.int p2), .val (.int p3), .val (.int (3 : Int32)), .val (.ref c1), .val (.ref r_982), .val (.ref b988), .unset, .unset, .unset] [(.ref r_1092)]) (fun _ k => st1092 _ k) ?_
            refine WinW.to T1092 (mkF m 142 #[.val (.int p0), .val (.int p1), .val (.int p2), .val (.int p3), .val (.int (3 : Int32)), .val (.ref c1), .val (.ref r_982), .val (.ref b988), .val (.ref r_1092), .unset, .unset] []) (fun _ k => XS.astore X1092.here hx rfl (hb hby at_140) rfl rfl (l' := #[.val (.int p0), .val (.int p1), .val (.int p2), .val (.int p3), .val (.int (3 : Int32)), .val (.ref c1), .val (.ref r_982), .val (.ref b988), .val (.ref r_1092), .unset, .unset]) rfl k) ?_
            refine WinW.to T1092 (mkF m 143 #[.val (.int p0), .val (.int p1), .val (.int p2), .val (.int p3), .val (.int (3 : Int32)), .val (.ref c1), .val (.ref r_982), .val (.ref b988), .val (.ref r_1092), .unset, .unset] [(.int (-1 : Int32))]) (fun _ k => XS.iconst X1092.here hx rfl (hb hby at_142) k) ?_
            refine WinW.to T1092 (mkF m 145 #[.val (.int p0), .val (.int p1), .val (.int p2), .val (.int p3), .val (.int (3 : Int32)), .val (.ref c1), .val (.ref r_982), .val (.ref b988), .val (.ref r_1092), .val (.int (-1 : Int32)), .unset] []) (fun _ k => XS.istore X1092.here hx rfl (hb hby at_143) rfl (l' := #[.val (.int p0), .val (.int p1), .val (.int p2), .val (.int p3), .val (.int (3 : Int32)), .val (.ref c1), .val (.ref r_982), .val (.ref b988), .val (.ref r_1092), .val (.int (-1 : Int32)), .unset]) rfl k) ?_
            refine WinW.to T1092 (mkF m 147 #[.val (.int p0), .val (.int p1), .val (.int p2), .val (.int p3), .val (.int (3 : Int32)), .val (.ref c1), .val (.ref r_982), .val (.ref b988), .val (.ref r_1092), .val (.int (-1 : Int32)), .unset] [(.int (3 : Int32))]) (fun _ k => XS.iload X1092.here hx rfl (hb hby at_145) rfl k) ?_
            refine WinW.to T1092 (mkF m 150 #[.val (.int p0), .val (.int p1), .val (.int p2), .val (.int p3), .val (.int (3 : Int32)), .val (.ref c1), .val (.ref r_982), .val (.ref b988), .val (.ref r_1092), .val (.int (-1 : Int32)), .unset] []) (fun _ k => XS.ifNo X1092.here hx rfl (hb hby at_147) rfl ((if0 _ _).trans (tlt (show (0 : Int32) < (3 : Int32) from by decide)).2.2.2) k) ?_
            refine WinW.to T1092 (mkF m 152 #[.val (.int p0), .val (.int p1), .val (.int p2), .val (.int p3), .val (.int (3 : Int32)), .val (.ref c1), .val (.ref r_982), .val (.ref b988), .val (.ref r_1092), .val (.int (-1 : Int32)), .unset] [(.ref c1)]) (fun _ k => XS.aload X1092.here hx rfl (hb hby at_150) rfl rfl k) ?_
            refine WinW.to T1092 (mkF m 153 #[.val (.int p0), .val (.int p1), .val (.int p2), .val (.int p3), .val (.int (3 : Int32)), .val (.ref c1), .val (.ref r_982), .val (.ref b988), .val (.ref r_1092), .val (.int (-1 : Int32)), .unset] [(.int (0 : Int32)), (.ref c1)]) (fun _ k => XS.iconst X1092.here hx rfl (hb hby at_152) k) ?_
            have F1099 : Arv Z h1092 c1 kc .char (4 : Int32) [(.int q0), (.int q1), (.int q2), (.int q3)] (.int (0 : Int32)) := ((((F1003.ext E1002).keep r1019_0 (ninS ne1004 nin0)).keep r1029_0 (ninS ne990 nin0)).keep r1092_0 nin0)
            obtain ⟨cl1100, Ar1100, q1100, S1100, N1100, H1100, G1100⟩ := id F1099
            have hi1100 : ¬ ((0 : Int32) < 0 ∨ cl1100.slots.size ≤ ((0 : Int32)).toNatClampNeg) := inb_of S1100 ⟨by decide, by decide⟩
            refine WinW.to T1092 (mkF m 154 #[.val (.int p0), .val (.int p1), .val (.int p2), .val (.int p3), .val (.int (3 : Int32)), .val (.ref c1), .val (.ref r_982), .val (.ref b988), .val (.ref r_1092), .val (.int (-1 : Int32)), .unset] [(.int q0)]) (fun _ k => X1092.caload hx (j := (0 : Int32)) (v := (.int q0)) (by rw [e1092]; exact Ar1100.1) (State.isArrayOf_alike hZ1092.alike Ar1100.2.1) Ar1100.2.2 hi1100 (Has.at H1100 hi1100 rfl) (g := (mkF m 153 #[.val (.int p0), .val (.int p1), .val (.int p2), .val (.int p3), .val (.int (3 : Int32)), .val (.ref c1), .val (.ref r_982), .val (.ref b988), .val (.ref r_1092), .val (.int (-1 : Int32)), .unset] [(.int (0 : Int32)), (.ref c1)])) rfl rfl (hb hby at_153) _ k) ?_
            refine WinW.to T1092 (mkF m 156 #[.val (.int p0), .val (.int p1), .val (.int p2), .val (.int p3), .val (.int (3 : Int32)), .val (.ref c1), .val (.ref r_982), .val (.ref b988), .val (.ref r_1092), .val (.int (-1 : Int32)), .unset] [(.int (32 : Int32)), (.int q0)]) (fun _ k => XS.bipush X1092.here hx rfl (hb hby at_154) k) ?_
            refine WinW.to T1092 (mkF m 162 #[.val (.int p0), .val (.int p1), .val (.int p2), .val (.int p3), .val (.int (3 : Int32)), .val (.ref c1), .val (.ref r_982), .val (.ref b988), .val (.ref r_1092), .val (.int (-1 : Int32)), .unset] []) (fun _ k => XS.icmpYes X1092.here hx rfl (pc0 := 156) (pc' := 162) rfl (hb hby at_156) rfl (feq (show ¬ (q0 = (32 : Int32)) from hq0)).2 (by decide) (by decide) k) ?_
            refine WinW.to T1092 (mkF m 164 #[.val (.int p0), .val (.int p1), .val (.int p2), .val (.int p3), .val (.int (3 : Int32)), .val (.ref c1), .val (.ref r_982), .val (.ref b988), .val (.ref r_1092), .val (.int (-1 : Int32)), .unset] [(.int (3 : Int32))]) (fun _ k => XS.iload X1092.here hx rfl (hb hby at_162) rfl k) ?_
            refine WinW.to T1092 (mkF m 165 #[.val (.int p0), .val (.int p1), .val (.int p2), .val (.int p3), .val (.int (3 : Int32)), .val (.ref c1), .val (.ref r_982), .val (.ref b988), .val (.ref r_1092), .val (.int (-1 : Int32)), .unset] [(.int (1 : Int32)), (.int (3 : Int32))]) (fun _ k => XS.iconst X1092.here hx rfl (hb hby at_164) k) ?_
            refine WinW.to T1092 (mkF m 168 #[.val (.int p0), .val (.int p1), .val (.int p2), .val (.int p3), .val (.int (3 : Int32)), .val (.ref c1), .val (.ref r_982), .val (.ref b988), .val (.ref r_1092), .val (.int (-1 : Int32)), .unset] []) (fun _ k => XS.icmpNo X1092.here hx rfl (hb hby at_165) rfl (tlt (show (1 : Int32) < (3 : Int32) from by decide)).2.2.2 k) ?_
            refine WinW.to T1092 (mkF m 170 #[.val (.int p0), .val (.int p1), .val (.int p2), .val (.int p3), .val (.int (3 : Int32)), .val (.ref c1), .val (.ref r_982), .val (.ref b988), .val (.ref r_1092), .val (.int (-1 : Int32)), .unset] [(.ref c1)]) (fun _ k => XS.aload X1092.here hx rfl (hb hby at_168) rfl rfl k) ?_
            refine WinW.to T1092 (mkF m 171 #[.val (.int p0), .val (.int p1), .val (.int p2), .val (.int p3), .val (.int (3 : Int32)), .val (.ref c1), .val (.ref r_982), .val (.ref b988), .val (.ref r_1092), .val (.int (-1 : Int32)), .unset] [(.int (1 : Int32)), (.ref c1)]) (fun _ k => XS.iconst X1092.here hx rfl (hb hby at_170) k) ?_
            obtain ⟨cl1101, Ar1101, q1101, S1101, N1101, H1101, G1101⟩ := id F1099
            have hi1101 : ¬ ((1 : Int32) < 0 ∨ cl1101.slots.size ≤ ((1 : Int32)).toNatClampNeg) := inb_of S1101 ⟨by decide, by decide⟩
            refine WinW.to T1092 (mkF m 172 #[.val (.int p0), .val (.int p1), .val (.int p2), .val (.int p3), .val (.int (3 : Int32)), .val (.ref c1), .val (.ref r_982), .val (.ref b988), .val (.ref r_1092), .val (.int (-1 : Int32)), .unset] [(.int q1)]) (fun _ k => X1092.caload hx (j := (1 : Int32)) (v := (.int q1)) (by rw [e1092]; exact Ar1101.1) (State.isArrayOf_alike hZ1092.alike Ar1101.2.1) Ar1101.2.2 hi1101 (Has.at H1101 hi1101 rfl) (g := (mkF m 171 #[.val (.int p0), .val (.int p1), .val (.int p2), .val (.int p3), .val (.int (3 : Int32)), .val (.ref c1), .val (.ref r_982), .val (.ref b988), .val (.ref r_1092), .val (.int (-1 : Int32)), .unset] [(.int (1 : Int32)), (.ref c1)])) rfl rfl (hb hby at_171) _ k) ?_
            refine WinW.to T1092 (mkF m 174 #[.val (.int p0), .val (.int p1), .val (.int p2), .val (.int p3), .val (.int (3 : Int32)), .val (.ref c1), .val (.ref r_982), .val (.ref b988), .val (.ref r_1092), .val (.int (-1 : Int32)), .unset] [(.int (32 : Int32)), (.int q1)]) (fun _ k => XS.bipush X1092.here hx rfl (hb hby at_172) k) ?_
            refine WinW.to T1092 (mkF m 180 #[.val (.int p0), .val (.int p1), .val (.int p2), .val (.int p3), .val (.int (3 : Int32)), .val (.ref c1), .val (.ref r_982), .val (.ref b988), .val (.ref r_1092), .val (.int (-1 : Int32)), .unset] []) (fun _ k => XS.icmpYes X1092.here hx rfl (pc0 := 174) (pc' := 180) rfl (hb hby at_174) rfl (feq (show ¬ (q1 = (32 : Int32)) from hq1)).2 (by decide) (by decide) k) ?_
            refine WinW.to T1092 (mkF m 182 #[.val (.int p0), .val (.int p1), .val (.int p2), .val (.int p3), .val (.int (3 : Int32)), .val (.ref c1), .val (.ref r_982), .val (.ref b988), .val (.ref r_1092), .val (.int (-1 : Int32)), .unset] [(.int (3 : Int32))]) (fun _ k => XS.iload X1092.here hx rfl (hb hby at_180) rfl k) ?_
            refine WinW.to T1092 (mkF m 183 #[.val (.int p0), .val (.int p1), .val (.int p2), .val (.int p3), .val (.int (3 : Int32)), .val (.ref c1), .val (.ref r_982), .val (.ref b988), .val (.ref r_1092), .val (.int (-1 : Int32)), .unset] [(.int (2 : Int32)), (.int (3 : Int32))]) (fun _ k => XS.iconst X1092.here hx rfl (hb hby at_182) k) ?_
            refine WinW.to T1092 (mkF m 186 #[.val (.int p0), .val (.int p1), .val (.int p2), .val (.int p3), .val (.int (3 : Int32)), .val (.ref c1), .val (.ref r_982), .val (.ref b988), .val (.ref r_1092), .val (.int (-1 : Int32)), .unset] []) (fun _ k => XS.icmpNo X1092.here hx rfl (hb hby at_183) rfl (tlt (show (2 : Int32) < (3 : Int32) from by decide)).2.2.2 k) ?_
            refine WinW.to T1092 (mkF m 188 #[.val (.int p0), .val (.int p1), .val (.int p2), .val (.int p3), .val (.int (3 : Int32)), .val (.ref c1), .val (.ref r_982), .val (.ref b988), .val (.ref r_1092), .val (.int (-1 : Int32)), .unset] [(.ref c1)]) (fun _ k => XS.aload X1092.here hx rfl (hb hby at_186) rfl rfl k) ?_
            refine WinW.to T1092 (mkF m 189 #[.val (.int p0), .val (.int p1), .val (.int p2), .val (.int p3), .val (.int (3 : Int32)), .val (.ref c1), .val (.ref r_982), .val (.ref b988), .val (.ref r_1092), .val (.int (-1 : Int32)), .unset] [(.int (2 : Int32)), (.ref c1)]) (fun _ k => XS.iconst X1092.here hx rfl (hb hby at_188) k) ?_
            obtain ⟨cl1102, Ar1102, q1102, S1102, N1102, H1102, G1102⟩ := id F1099
            have hi1102 : ¬ ((2 : Int32) < 0 ∨ cl1102.slots.size ≤ ((2 : Int32)).toNatClampNeg) := inb_of S1102 ⟨by decide, by decide⟩
            refine WinW.to T1092 (mkF m 190 #[.val (.int p0), .val (.int p1), .val (.int p2), .val (.int p3), .val (.int (3 : Int32)), .val (.ref c1), .val (.ref r_982), .val (.ref b988), .val (.ref r_1092), .val (.int (-1 : Int32)), .unset] [(.int q2)]) (fun _ k => X1092.caload hx (j := (2 : Int32)) (v := (.int q2)) (by rw [e1092]; exact Ar1102.1) (State.isArrayOf_alike hZ1092.alike Ar1102.2.1) Ar1102.2.2 hi1102 (Has.at H1102 hi1102 rfl) (g := (mkF m 189 #[.val (.int p0), .val (.int p1), .val (.int p2), .val (.int p3), .val (.int (3 : Int32)), .val (.ref c1), .val (.ref r_982), .val (.ref b988), .val (.ref r_1092), .val (.int (-1 : Int32)), .unset] [(.int (2 : Int32)), (.ref c1)])) rfl rfl (hb hby at_189) _ k) ?_
            refine WinW.to T1092 (mkF m 192 #[.val (.int p0), .val (.int p1), .val (.int p2), .val (.int p3), .val (.int (3 : Int32)), .val (.ref c1), .val (.ref r_982), .val (.ref b988), .val (.ref r_1092), .val (.int (-1 : Int32)), .unset] [(.int (32 : Int32)), (.int q2)]) (fun _ k => XS.bipush X1092.here hx rfl (hb hby at_190) k) ?_
            refine WinW.to T1092 (mkF m 198 #[.val (.int p0), .val (.int p1), .val (.int p2), .val (.int p3), .val (.int (3 : Int32)), .val (.ref c1), .val (.ref r_982), .val (.ref b988), .val (.ref r_1092), .val (.int (-1 : Int32)), .unset] []) (fun _ k => XS.icmpYes X1092.here hx rfl (pc0 := 192) (pc' := 198) rfl (hb hby at_192) rfl (feq (show ¬ (q2 = (32 : Int32)) from hq2)).2 (by decide) (by decide) k) ?_
            refine WinW.to T1092 (mkF m 200 #[.val (.int p0), .val (.int p1), .val (.int p2), .val (.int p3), .val (.int (3 : Int32)), .val (.ref c1), .val (.ref r_982), .val (.ref b988), .val (.ref r_1092), .val (.int (-1 : Int32)), .unset] [(.int (3 : Int32))]) (fun _ k => XS.iload X1092.here hx rfl (hb hby at_198) rfl k) ?_
            refine WinW.to T1092 (mkF m 201 #[.val (.int p0), .val (.int p1), .val (.int p2), .val (.int p3), .val (.int (3 : Int32)), .val (.ref c1), .val (.ref r_982), .val (.ref b988), .val (.ref r_1092), .val (.int (-1 : Int32)), .unset] [(.int (3 : Int32)), (.int (3 : Int32))]) (fun _ k => XS.iconst X1092.here hx rfl (hb hby at_200) k) ?_
            refine WinW.to T1092 (mkF m 216 #[.val (.int p0), .val (.int p1), .val (.int p2), .val (.int p3), .val (.int (3 : Int32)), .val (.ref c1), .val (.ref r_982), .val (.ref b988), .val (.ref r_1092), .val (.int (-1 : Int32)), .unset] []) (fun _ k => XS.icmpYes X1092.here hx rfl (pc0 := 201) (pc' := 216) rfl (hb hby at_201) rfl (flt (show ¬ ((3 : Int32) < (3 : Int32)) from by decide)).2.2.2 (by decide) (by decide) k) ?_
            exact Jc216 _ _ T1092 _ h1092 (X1092.mono (by decide) (by decide)) N1094 e1092 O1095 K1096 hS1092 hk1092 hZ1092 hown1092 C1098 r_1092 (-1 : Int32) t2_1092 k2_1092 3 (fun i => (fun i => ((fun i => ([q0, q1, q2] : List Int32).getD i (0 : Int32)) i).toInt8.toInt32) (0 + i)) 3 0 (.val (.ref r_982)) (.val (.ref b988)) r1092_1 r1092_2 r1092_3 r1092_4 F1099 (by decide) (by decide) (by decide) ((fun i hi => by
              match i, hi with
              | 0, _ => exact (own_b255 hlq0 hcq0)
              | 1, _ => exact (own_b255 hlq1 hcq1)
              | 2, _ => exact (own_b255 hlq2 hcq2))) (by decide)
    · rw [hk]
      refine WinW.to Tc108 (mkF m 110 #[.val (.int p0), .val (.int p1), .val (.int p2), .val (.int p3), .val (.int (4 : Int32)), .val (.ref c1), .unset, .unset, .unset, .unset, .unset] [(.int (4 : Int32))]) (fun _ k => XS.iload Xc108.here hx rfl (hb hby at_108) rfl k) ?_
      refine WinW.to Tc108 (mkF m 112 #[.val (.int p0), .val (.int p1), .val (.int p2), .val (.int p3), .val (.int (4 : Int32)), .val (.ref c1), .unset, .unset, .unset, .unset, .unset] [(.ref c1), (.int (4 : Int32))]) (fun _ k => XS.aload Xc108.here hx rfl (hb hby at_110) rfl rfl k) ?_
      obtain ⟨T1103, h1103, v1103, L1103, k1103, X1103, e1103, hS1103, hk1103, hZ1103, hown1103, ⟨r_1103, t_1103, kb_1103, rfl, N1103q, r1103_0, r1103_1, r1103_2, r1103_3, r1103_4⟩, c1103, st1103⟩ := W.static Xc108 hSc108 hkc108 hx hZc108 (y := (⟨"com/example/grantgate/grantgate/server/HeadVersionPinLaw", "make", "(I[C)Ljava/lang/String;"⟩ : MethodName)) hownc108 (wk hw 2 rfl) (wk hw 3 rfl) (wk hw 4 rfl) (wk hw 5 rfl) (by decide) (make4 l Z a0 hw c1 kc q0 q1 q2 q3 cs hc108 n0 Oc108 Fc108_0 hcq0 hcq1 hcq2 hcq3 hlq0 hlq1 hlq2 hlq3 S_CS hcs) (own_EW hw) Cc108.1 ec108 (g := (mkF m 112 #[.val (.int p0), .val (.int p1), .val (.int p2), .val (.int p3), .val (.int (4 : Int32)), .val (.ref c1), .unset, .unset, .unset, .unset, .unset] [(.ref c1), (.int (4 : Int32))])) rfl (by rw [hml]; rfl) (argsL := [(.int (4 : Int32)), (.ref c1)]) (rest := []) rfl (lenOf pd__I_C_Ljava_lang_String_ rfl) rfl (W := 0) (by show 2 * 0 + _ ≤ _; exact Nat.le_of_eq rfl) (hb hby at_112) (by decide) (by decide) (by decide) (by decide)
      have N1104 := Fr.app Nc108 N1103q
      have O1105 := Old.keep Oc108 r1103_0 all0
      have K1106 : Keep h0 h1103 [] := Keep.trans Kc108 r1103_0 all0
      have c1107 := c1103
      have C1108 := CHr.trans Cc108 c1107
      refine WinW.to T1103 (mkF m 115 #[.val (.int p0), .val (.int p1), .val (.int p2), .val (.int p3), .val (.int (4 : Int32)), .val (.ref c1), .unset, .unset, .unset, .unset, .unset] [(.ref r_1103)]) (fun _ k => st1103 _ k) ?_
      refine WinW.to T1103 (mkF m 117 #[.val (.int p0), .val (.int p1), .val (.int p2), .val (.int p3), .val (.int (4 : Int32)), .val (.ref c1), .val (.ref r_1103), .unset, .unset, .unset, .unset] []) (fun _ k => XS.astore X1103.here hx rfl (hb hby at_115) rfl rfl (l' := #[.val (.int p0), .val (.int p1), .val (.int p2), .val (.int p3), .val (.int (4 : Int32)), .val (.ref c1), .val (.ref r_1103), .unset, .unset, .unset, .unset]) rfl k) ?_
      obtain ⟨T1109, h1109, X1109, e1109, E1109, A1109, D1109, -, st1109⟩ := newO X1103 hx hZ1103 hown1103 (wk hw 27 rfl) (wk hw 28 rfl) (wk hw 29 rfl) e1103 (g := (mkF m 117 #[.val (.int p0), .val (.int p1), .val (.int p2), .val (.int p3), .val (.int (4 : Int32)), .val (.ref c1), .val (.ref r_1103), .unset, .unset, .unset, .unset] [])) rfl (hb hby at_117) (by decide) (by decide)
      obtain ⟨b1109, g1109⟩ : ∃ z, z = h1103.size := ⟨_, rfl⟩
      rw [← g1109] at A1109 D1109 st1109
      have F1110 : Arv Z h1103 c1 kc .char (4 : Int32) [(.int q0), (.int q1), (.int q2), (.int q3)] (.int (0 : Int32)) := (Fc108_0.keep r1103_0 nin0)
      have ne1111 : c1 ≠ b1109 := Nat.ne_of_lt (Nat.lt_of_lt_of_le F1110.lt (Nat.le_of_eq g1109.symm))
      have ne1112 : r_1103 ≠ b1109 := Nat.ne_of_lt (Nat.lt_of_lt_of_le r1103_1.lt (Nat.le_of_eq g1109.symm))
      have ne1113 : t_1103 ≠ b1109 := Nat.ne_of_lt (Nat.lt_of_lt_of_le r1103_4.lt (Nat.le_of_eq g1109.symm))
      have g1114 : n0 ≤ b1109 := Nat.le_trans (own_le O1105) (Nat.le_of_eq g1109.symm)
      have z1115 : h0.size ≤ b1109 := Nat.le_trans K1106.1 (Nat.le_of_eq g1109.symm)
      have O1116 := Old.ext O1105 E1109
      have hk1117 := Nat.le_trans hk1103 E1109.1
      have K1118 : Keep h0 h1109 [] := K1106.ext E1109
      have c1119 := CHr.ext E1109 C1108.1
      have C1120 := CHr.trans C1108 c1119
      have F1121 : Fld Z h1109 b1109 "com/example/grantgate/grantgate/server/MessageReader$Head" "startLine" "Ljava/lang/String;" .null := D1109 (Or.inr (wk hw 64 rfl)) (ty := (.object "java/lang/String")) (by decide)
      have F1122 : Fld Z h1109 b1109 "com/example/grantgate/grantgate/server/MessageReader$Head" "fields" "Ljava/util/List;" .null := D1109 (Or.inr (wk hw 66 rfl)) (ty := (.object "java/util/List")) (by decide)
      refine WinW.to T1109 (mkF m 120 #[.val (.int p0), .val (.int p1), .val (.int p2), .val (.int p3), .val (.int (4 : Int32)), .val (.ref c1), .val (.ref r_1103), .unset, .unset, .unset, .unset] [(.ref b1109)]) (fun _ k => st1109 _ k) ?_
      refine WinW.to T1109 (mkF m 121 #[.val (.int p0), .val (.int p1), .val (.int p2), .val (.int p3), .val (.int (4 : Int32)), .val (.ref c1), .val (.ref r_1103), .unset, .unset, .unset, .unset] [(.ref b1109), (.ref b1109)]) (fun _ k => XS.dup X1109.here hx rfl (hb hby at_120) rfl rfl k) ?_
      refine WinW.to T1109 (mkF m 123 #[.val (.int p0), .val (.int p1), .val (.int p2), .val (.int p3), .val (.int (4 : Int32)), .val (.ref c1), .val (.ref r_1103), .unset, .unset, .unset, .unset] [(.ref r_1103), (.ref b1109), (.ref b1109)]) (fun _ k => XS.aload X1109.here hx rfl (hb hby at_121) rfl rfl k) ?_
      obtain ⟨T1123, h1123, X1123, e1123, E1123, A1123, D1123, -, st1123⟩ := newO X1109 hx hZ1103 hown1103 (wk hw 30 rfl) (wk hw 31 rfl) (wk hw 32 rfl) e1109 (g := (mkF m 123 #[.val (.int p0), .val (.int p1), .val (.int p2), .val (.int p3), .val (.int (4 : Int32)), .val (.ref c1), .val (.ref r_1103), .unset, .unset, .unset, .unset] [(.ref r_1103), (.ref b1109), (.ref b1109)])) rfl (hb hby at_123) (by decide) (by decide)
      obtain ⟨b1123, g1123⟩ : ∃ z, z = h1109.size := ⟨_, rfl⟩
      rw [← g1123] at A1123 D1123 st1123
      have F1124 : Arv Z h1109 c1 kc .char (4 : Int32) [(.int q0), (.int q1), (.int q2), (.int q3)] (.int (0 : Int32)) := (F1110.ext E1109)
      have ne1125 : c1 ≠ b1123 := Nat.ne_of_lt (Nat.lt_of_lt_of_le F1124.lt (Nat.le_of_eq g1123.symm))
      have F1126 : Exa Z h1109 r_1103 "java/lang/String" := (Exa.ext E1109 r1103_1)
      have ne1127 : r_1103 ≠ b1123 := Nat.ne_of_lt (Nat.lt_of_lt_of_le F1126.lt (Nat.le_of_eq g1123.symm))
      have F1128 : ArF Z h1109 t_1103 kb_1103 .byte 4 (fun i => ((fun i => ([q0, q1, q2, q3] : List Int32).getD i (0 : Int32)) i).toInt8.toInt32) := (r1103_4.ext E1109)
      have ne1129 : t_1103 ≠ b1123 := Nat.ne_of_lt (Nat.lt_of_lt_of_le F1128.lt (Nat.le_of_eq g1123.symm))
      have ne1130 : b1109 ≠ b1123 := Nat.ne_of_lt (Nat.lt_of_lt_of_le A1109.lt (Nat.le_of_eq g1123.symm))
      have g1131 : n0 ≤ b1123 := Nat.le_trans (own_le O1116) (Nat.le_of_eq g1123.symm)
      have z1132 : h0.size ≤ b1123 := Nat.le_trans K1118.1 (Nat.le_of_eq g1123.symm)
      have O1133 := Old.ext O1116 E1123
      have hk1134 := Nat.le_trans hk1117 E1123.1
      have K1135 : Keep h0 h1123 [] := K1118.ext E1123
      have c1136 := CHr.ext E1123 C1120.1
      have C1137 := CHr.trans C1120 c1136
      have F1138 : Fld Z h1123 b1123 "java/util/AbstractList" "modCount" "I" (.int (0 : Int32)) := D1123 (Or.inl (wk hw 50 rfl)) (ty := .int) (by decide)
      have F1139 : Fld Z h1123 b1123 "java/util/ArrayList" "elementData" "[Ljava/lang/Object;" .null := D1123 (Or.inl (wk hw 53 rfl)) (ty := (.array (.object "java/lang/Object"))) (by decide)
      refine WinW.to T1123 (mkF m 126 #[.val (.int p0), .val (.int p1), .val (.int p2), .val (.int p3), .val (.int (4 : Int32)), .val (.ref c1), .val (.ref r_1103), .unset, .unset, .unset, .unset] [(.ref b1123), (.ref r_1103), (.ref b1109), (.ref b1109)]) (fun _ k => st1123 _ k) ?_
      refine WinW.to T1123 (mkF m 127 #[.val (.int p0), .val (.int p1), .val (.int p2), .val (.int p3), .val (.int (4 : Int32)), .val (.ref c1), .val (.ref r_1103), .unset, .unset, .unset, .unset] [(.ref b1123), (.ref b1123), (.ref r_1103), (.ref b1109), (.ref b1109)]) (fun _ k => XS.dup X1123.here hx rfl (hb hby at_126) rfl rfl k) ?_
      obtain ⟨T1140, h1140, v1140, L1140, X1140, e1140, ⟨rfl, N1140q, r1140_0⟩, st1140⟩ := N.special X1123 hx hZ1103 (y := (⟨"java/util/ArrayList", "<init>", "()V"⟩ : MethodName)) rfl hown1103 (wk hw 33 rfl) (wk hw 34 rfl) (wk hw 32 rfl) (wk hw 35 rfl) (by decide) (mkAL l Z a0 hw b1123 x2 h1123 n0 O1133 A1123 F1138 F1139 g1131 S_DE hx2) e1123 (g := (mkF m 127 #[.val (.int p0), .val (.int p1), .val (.int p2), .val (.int p3), .val (.int (4 : Int32)), .val (.ref c1), .val (.ref r_1103), .unset, .unset, .unset, .unset] [(.ref b1123), (.ref b1123), (.ref r_1103), (.ref b1109), (.ref b1109)])) rfl (by rw [hml]; rfl) (a := b1123) (argsL := []) (rest := [(.ref b1123), (.ref r_1103), (.ref b1109), (.ref b1109)]) rfl (lenOf pd___V rfl) rfl (W := 4) (by show 2 * 0 + _ ≤ _; exact Nat.le_of_eq rfl) (hb hby at_127) (by decide) (by decide) (by decide) (by decide)
      have N1141 := Fr.app N1104 N1140q
      have O1142 := Old.keep O1133 r1140_0 (allS g1131 all0)
      have hk1143 := Nat.le_trans hk1134 r1140_0.1
      have K1144 : Keep h0 h1140 [] := Keep.trans K1135 r1140_0 (allS (Or.inr z1132) all0)
      have c1145 := CHr.keep r1140_0 (sfS (Safe.exa hZ1103.alike A1123 (by decide) (by decide)) sf0) C1137.1
      have C1146 := CHr.trans C1137 c1145
      refine WinW.to T1140 (mkF m 130 #[.val (.int p0), .val (.int p1), .val (.int p2), .val (.int p3), .val (.int (4 : Int32)), .val (.ref c1), .val (.ref r_1103), .unset, .unset, .unset, .unset] [(.ref b1123), (.ref r_1103), (.ref b1109), (.ref b1109)]) (fun _ k => st1140 _ k) ?_
      have F1147 : Exa Z h1140 b1109 "com/example/grantgate/grantgate/server/MessageReader$Head" := ((Exa.ext E1123 A1109).keep r1140_0)
      have F1148 : Fld Z h1140 b1109 "com/example/grantgate/grantgate/server/MessageReader$Head" "startLine" "Ljava/lang/String;" .null := ((Fld.ext E1123 F1121).keep r1140_0 (ninS ne1130 nin0))
      have F1149 : Fld Z h1140 b1109 "com/example/grantgate/grantgate/server/MessageReader$Head" "fields" "Ljava/util/List;" .null := ((Fld.ext E1123 F1122).keep r1140_0 (ninS ne1130 nin0))
      obtain ⟨T1150, h1150, v1150, L1150, X1150, e1150, ⟨rfl, N1150q, r1150_0, r1150_1⟩, st1150⟩ := N.special X1140 hx hZ1103 (y := (⟨"com/example/grantgate/grantgate/server/MessageReader$Head", "<init>", "(Ljava/lang/String;Ljava/util/List;)V"⟩ : MethodName)) rfl hown1103 (wk hw 54 rfl) (wk hw 55 rfl) (wk hw 29 rfl) (wk hw 56 rfl) (by decide) (mkHead l Z a0 hw b1109 r_1103 b1123 h1140 n0 O1142 F1147 F1148 F1149 g1114) e1140 (g := (mkF m 130 #[.val (.int p0), .val (.int p1), .val (.int p2), .val (.int p3), .val (.int (4 : Int32)), .val (.ref c1), .val (.ref r_1103), .unset, .unset, .unset, .unset] [(.ref b1123), (.ref r_1103), (.ref b1109), (.ref b1109)])) rfl (by rw [hml]; rfl) (a := b1109) (argsL := [(.ref r_1103), (.ref b1123)]) (rest := [(.ref b1109)]) rfl (lenOf pd__Ljava_lang_String_Ljava_util_List__V rfl) rfl (W := 1) (by show 2 * 0 + _ ≤ _; exact Nat.le_of_eq rfl) (hb hby at_130) (by decide) (by decide) (by decide) (by decide)
      have N1151 := Fr.app N1141 N1150q
      have O1152 := Old.keep O1142 r1150_0 (allS g1114 all0)
      have hk1153 := Nat.le_trans hk1143 r1150_0.1
      have K1154 : Keep h0 h1150 [] := Keep.trans K1144 r1150_0 (allS (Or.inr z1115) all0)
      have c1155 := CHr.keep r1150_0 (sfS (Safe.exa hZ1103.alike F1147 (by decide) (by decide)) sf0) C1146.1
      have C1156 := CHr.trans C1146 c1155
      refine WinW.to T1150 (mkF m 133 #[.val (.int p0), .val (.int p1), .val (.int p2), .val (.int p3), .val (.int (4 : Int32)), .val (.ref c1), .val (.ref r_1103), .unset, .unset, .unset, .unset] [(.ref b1109)]) (fun _ k => st1150 _ k) ?_
      refine WinW.to T1150 (mkF m 135 #[.val (.int p0), .val (.int p1), .val (.int p2), .val (.int p3), .val (.int (4 : Int32)), .val (.ref c1), .val (.ref r_1103), .val (.ref b1109), .unset, .unset, .unset] []) (fun _ k => XS.astore X1150.here hx rfl (hb hby at_133) rfl rfl (l' := #[.val (.int p0), .val (.int p1), .val (.int p2), .val (.int p3), .val (.int (4 : Int32)), .val (.ref c1), .val (.ref r_1103), .val (.ref b1109), .unset, .unset, .unset]) rfl k) ?_
      by_cases hq3 : q3 = (32 : Int32)
      · refine WinW.to T1150 (mkF m 137 #[.val (.int p0), .val (.int p1), .val (.int p2), .val (.int p3), .val (.int (4 : Int32)), .val (.ref c1), .val (.ref r_1103), .val (.ref b1109), .unset, .unset, .unset] [(.ref b1109)]) (fun _ k => XS.aload X1150.here hx rfl (hb hby at_135) rfl rfl k) ?_
        have F1157 : Exa Z h1150 r_1103 "java/lang/String" := (((Exa.ext E1123 F1126).keep r1140_0).keep r1150_0)
        have F1158 : Fld Z h1150 r_1103 "java/lang/String" "value" "[B" (.ref t_1103) := (((Fld.ext E1123 (Fld.ext E1109 r1103_2)).keep r1140_0 (ninS ne1127 nin0)).keep r1150_0 (ninS ne1112 nin0))
        have F1159 : Fld Z h1150 r_1103 "java/lang/String" "coder" "B" (.int (0 : Int32)) := (((Fld.ext E1123 (Fld.ext E1109 r1103_3)).keep r1140_0 (ninS ne1127 nin0)).keep r1150_0 (ninS ne1112 nin0))
        have F1160 : ArF Z h1150 t_1103 kb_1103 .byte 4 (fun i => ((fun i => ([q0, q1, q2, q3] : List Int32).getD i (0 : Int32)) i).toInt8.toInt32) := (((F1128.ext E1123).keep r1140_0 (ninS ne1129 nin0)).keep r1150_0 (ninS ne1113 nin0))
        have F1162 : Exa Z h1150 b1109 "com/example/grantgate/grantgate/server/MessageReader$Head" := (F1147.keep r1150_0)
        obtain ⟨T1161, h1161, v1161, L1161, k1161, X1161, e1161, hS1161, hk1161, hZ1161, hown1161, ⟨r_1161, t2_1161, k2_1161, rfl, N1161q, r1161_0, r1161_1, r1161_2, r1161_3, r1161_4⟩, c1161, st1161⟩ := W.virtual X1150 hS1103 hk1153 hx hZ1103 (y := (⟨"com/example/grantgate/grantgate/server/MessageReader$Head", "version", "()Ljava/lang/String;"⟩ : MethodName)) (z := (⟨"com/example/grantgate/grantgate/server/MessageReader$Head", "version", "()Ljava/lang/String;"⟩ : MethodName)) hown1103 (wk hw 67 rfl) (wk hw 68 rfl) (notFace_of_selects (args := #[]) (mvT hZ1103 (wk hw 70 rfl))) (wk hw 70 rfl) (wk hw 69 rfl) (wk hw 29 rfl) (wk hw 71 rfl) (by decide) (headV l Z a0 hw b1109 r_1103 t_1103 kb_1103 4 (fun i => ((fun i => ([q0, q1, q2, q3] : List Int32).getD i (0 : Int32)) i).toInt8.toInt32) 4 cs x1 h1150 n0 O1152 r1150_1 F1157 F1158 F1159 F1160 (by decide) ((fun i hb hi => by
          match i, hb, hi with
          | 0, hb, _ => exact absurd hb (by decide)
          | 1, hb, _ => exact absurd hb (by decide)
          | 2, hb, _ => exact absurd hb (by decide)
          | 3, hb, _ => exact absurd hb (by decide))) (fun _ => (show q3.toInt8.toInt32 = (32 : Int32) from by rw [hq3]; decide)) (by decide) S_CS hcs S_SI hx1) (own_EW hw) C1156.1 e1150 F1162 (g := (mkF m 137 #[.val (.int p0), .val (.int p1), .val (.int p2), .val (.int p3), .val (.int (4 : Int32)), .val (.ref c1), .val (.ref r_1103), .val (.ref b1109), .unset, .unset, .unset] [(.ref b1109)])) rfl (by rw [hml]; rfl) (argsL := []) (rest := []) rfl (lenOf pd___Ljava_lang_String_ rfl) rfl (W := 0) (by show 2 * 0 + _ ≤ _; exact Nat.le_of_eq rfl) (hb hby at_137) (by decide) (by decide) (by decide) (by decide)
        have N1163 := Fr.app N1151 N1161q
        have O1164 := Old.keep O1152 r1161_0 all0
        have K1165 : Keep h0 h1161 [] := Keep.trans K1154 r1161_0 all0
        have c1166 := c1161
        have C1167 := CHr.trans C1156 c1166
        refine WinW.to T1161 (mkF m 140 #[.val (.int p0), .val (.int p1), .val (.int p2), .val (.int p3), .val (.int (4 : Int32)), .val (.ref c1), .val (.ref r_1103), .val (.ref b1109), .unset, .unset, .unset] [(.ref r_1161)]) (fun _ k => st1161 _ k) ?_
        refine WinW.to T1161 (mkF m 142 #[.val (.int p0), .val (.int p1), .val (.int p2), .val (.int p3), .val (.int (4 : Int32)), .val (.ref c1), .val (.ref r_1103), .val (.ref b1109), .val (.ref r_1161), .unset, .unset] []) (fun _ k => XS.astore X1161.here hx rfl (hb hby at_140) rfl rfl (l' := #[.val (.int p0), .val (.int p1), .val (.int p2), .val (.int p3), .val (.int (4 : Int32)), .val (.ref c1), .val (.ref r_1103), .val (.ref b1109), .val (.ref r_1161), .unset, .unset]) rfl k) ?_
        refine WinW.to T1161 (mkF m 143 #[.val (.int p0), .val (.int p1), .val (.int p2), .val (.int p3), .val (.int (4 : Int32)), .val (.ref c1), .val (.ref r_1103), .val (.ref b1109), .val (.ref r_1161), .unset, .unset] [(.int (-1 : Int32))]) (fun _ k => XS.iconst X1161.here hx rfl (hb hby at_142) k) ?_
        refine WinW.to T1161 (mkF m 145 #[.val (.int p0), .val (.int p1), .val (.int p2), .val (.int p3), .val (.int (4 : Int32)), .val (.ref c1), .val (.ref r_1103), .val (.ref b1109), .val (.ref r_1161), .val (.int (-1 : Int32)), .unset] []) (fun _ k => XS.istore X1161.here hx rfl (hb hby at_143) rfl (l' := #[.val (.int p0), .val (.int p1), .val (.int p2), .val (.int p3), .val (.int (4 : Int32)), .val (.ref c1), .val (.ref r_1103), .val (.ref b1109), .val (.ref r_1161), .val (.int (-1 : Int32)), .unset]) rfl k) ?_
        have Jd198 : ∀ (vmd198 : Vm) (kd198 : Nat) (Td198 : State) (locsd198 : List Loc) (Xd198 : Stand p l e room_1 (s.setVm vmd198) m #[(.int p0), (.int p1), (.int p2), (.int p3)] below meth c Td198 locsd198 11 33) (Nd198 : Fr n0 locsd198) (ed198 : Td198.heap = h1161) (hSd198 : s.Since vmd198 kd198) (hkd198 : kd198 ≤ h1161.size) (hZd198 : Z.Warmed39 (s.setVm vmd198).vm) (hownd198 : (s.setVm vmd198).vm.findClass "com/example/grantgate/grantgate/server/HeadVersionPinLaw" = some m.cls) (Cd198 : CHr Z EL1 s.vm s.heap vmd198 h1161) (pg : Int32) , WinW p e below s room_1 Z EL1 (fun v h L => v = some (.int (1 : Int32)) ∧ Fr n0 L ∧ (True)) (Td198.setTop (mkF m 198 #[.val (.int p0), .val (.int p1), .val (.int p2), .val (.int p3), .val (.int (4 : Int32)), .val (.ref c1), .val (.ref r_1103), .val (.ref b1109), .val (.ref r_1161), .val (.int pg), .unset] [])) := by
          intro vmd198 kd198 Td198 locsd198 Xd198 Nd198 ed198 hSd198 hkd198 hZd198 hownd198 Cd198 pg
          refine WinW.to Td198 (mkF m 200 #[.val (.int p0), .val (.int p1), .val (.int p2), .val (.int p3), .val (.int (4 : Int32)), .val (.ref c1), .val (.ref r_1103), .val (.ref b1109), .val (.ref r_1161), .val (.int pg), .unset] [(.int (4 : Int32))]) (fun _ k => XS.iload Xd198.here hx rfl (hb hby at_198) rfl k) ?_
          refine WinW.to Td198 (mkF m 201 #[.val (.int p0), .val (.int p1), .val (.int p2), .val (.int p3), .val (.int (4 : Int32)), .val (.ref c1), .val (.ref r_1103), .val (.ref b1109), .val (.ref r_1161), .val (.int pg), .unset] [(.int (3 : Int32)), (.int (4 : Int32))]) (fun _ k => XS.iconst Xd198.here hx rfl (hb hby at_200) k) ?_
          refine WinW.to Td198 (mkF m 204 #[.val (.int p0), .val (.int p1), .val (.int p2), .val (.int p3), .val (.int (4 : Int32)), .val (.ref c1), .val (.ref r_1103), .val (.ref b1109), .val (.ref r_1161), .val (.int pg), .unset] []) (fun _ k => XS.icmpNo Xd198.here hx rfl (hb hby at_201) rfl (tlt (show (3 : Int32) < (4 : Int32) from by decide)).2.2.2 k) ?_
          refine WinW.to Td198 (mkF m 206 #[.val (.int p0), .val (.int p1), .val (.int p2), .val (.int p3), .val (.int (4 : Int32)), .val (.ref c1), .val (.ref r_1103), .val (.ref b1109), .val (.ref r_1161), .val (.int pg), .unset] [(.ref c1)]) (fun _ k => XS.aload Xd198.here hx rfl (hb hby at_204) rfl rfl k) ?_
          refine WinW.to Td198 (mkF m 207 #[.val (.int p0), .val (.int p1), .val (.int p2), .val (.int p3), .val (.int (4 : Int32)), .val (.ref c1), .val (.ref r_1103), .val (.ref b1109), .val (.ref r_1161), .val (.int pg), .unset] [(.int (3 : Int32)), (.ref c1)]) (fun _ k => XS.iconst Xd198.here hx rfl (hb hby at_206) k) ?_
          have F1168 : Arv Z h1161 c1 kc .char (4 : Int32) [(.int q0), (.int q1), (.int q2), (.int q3)] (.int (0 : Int32)) := ((((F1124.ext E1123).keep r1140_0 (ninS ne1125 nin0)).keep r1150_0 (ninS ne1111 nin0)).keep r1161_0 nin0)
          obtain ⟨cl1169, Ar1169, q1169, S1169, N1169, H1169, G1169⟩ := id F1168
          have hi1169 : ¬ ((3 : Int32) < 0 ∨ cl1169.slots.size ≤ ((3 : Int32)).toNatClampNeg) := inb_of S1169 ⟨by decide, by decide⟩
          refine WinW.to Td198 (mkF m 208 #[.val (.int p0), .val (.int p1), .val (.int p2), .val (.int p3), .val (.int (4 : Int32)), .val (.ref c1), .val (.ref r_1103), .val (.ref b1109), .val (.ref r_1161), .val (.int pg), .unset] [(.int q3)]) (fun _ k => Xd198.caload hx (j := (3 : Int32)) (v := (.int q3)) (by rw [ed198]; exact Ar1169.1) (State.isArrayOf_alike hZd198.alike Ar1169.2.1) Ar1169.2.2 hi1169 (Has.at H1169 hi1169 rfl) (g := (mkF m 207 #[.val (.int p0), .val (.int p1), .val (.int p2), .val (.int p3), .val (.int (4 : Int32)), .val (.ref c1), .val (.ref r_1103), .val (.ref b1109), .val (.ref r_1161), .val (.int pg), .unset] [(.int (3 : Int32)), (.ref c1)])) rfl rfl (hb hby at_207) _ k) ?_
          refine WinW.to Td198 (mkF m 210 #[.val (.int p0), .val (.int p1), .val (.int p2), .val (.int p3), .val (.int (4 : Int32)), .val (.ref c1), .val (.ref r_1103), .val (.ref b1109), .val (.ref r_1161), .val (.int pg), .unset] [(.int (32 : Int32)), (.int q3)]) (fun _ k => XS.bipush Xd198.here hx rfl (hb hby at_208) k) ?_
          refine WinW.to Td198 (mkF m 213 #[.val (.int p0), .val (.int p1), .val (.int p2), .val (.int p3), .val (.int (4 : Int32)), .val (.ref c1), .val (.ref r_1103), .val (.ref b1109), .val (.ref r_1161), .val (.int pg), .unset] []) (fun _ k => XS.icmpNo Xd198.here hx rfl (hb hby at_210) rfl (teq (show q3 = (32 : Int32) from hq3)).2 k) ?_
          refine WinW.to Td198 (mkF m 214 #[.val (.int p0), .val (.int p1), .val (.int p2), .val (.int p3), .val (.int (4 : Int32)), .val (.ref c1), .val (.ref r_1103), .val (.ref b1109), .val (.ref r_1161), .val (.int pg), .unset] [(.int (3 : Int32))]) (fun _ k => XS.iconst Xd198.here hx rfl (hb hby at_213) k) ?_
          refine WinW.to Td198 (mkF m 216 #[.val (.int p0), .val (.int p1), .val (.int p2), .val (.int p3), .val (.int (4 : Int32)), .val (.ref c1), .val (.ref r_1103), .val (.ref b1109), .val (.ref r_1161), .val (.int (3 : Int32)), .unset] []) (fun _ k => XS.istore Xd198.here hx rfl (hb hby at_214) rfl (l' := #[.val (.int p0), .val (.int p1), .val (.int p2), .val (.int p3), .val (.int (4 : Int32)), .val (.ref c1), .val (.ref r_1103), .val (.ref b1109), .val (.ref r_1161), .val (.int (3 : Int32)), .unset]) rfl k) ?_
          exact Jc216 _ _ Td198 _ h1161 (Xd198.mono (by decide) (by decide)) Nd198 ed198 O1164 K1165 hSd198 hkd198 hZd198 hownd198 Cd198 r_1161 (3 : Int32) t2_1161 k2_1161 0 (fun i => (fun i => ((fun i => ([q0, q1, q2, q3] : List Int32).getD i (0 : Int32)) i).toInt8.toInt32) (4 + i)) 4 4 (.val (.ref r_1103)) (.val (.ref b1109)) r1161_1 r1161_2 r1161_3 r1161_4 F1168 (by decide) (by decide) (by decide) (fun i hi => absurd hi (Nat.not_lt_zero _)) (by decide)
        refine WinW.to T1161 (mkF m 147 #[.val (.int p0), .val (.int p1), .val (.int p2), .val (.int p3), .val (.int (4 : Int32)), .val (.ref c1), .val (.ref r_1103), .val (.ref b1109), .val (.ref r_1161), .val (.int (-1 : Int32)), .unset] [(.int (4 : Int32))]) (fun _ k => XS.iload X1161.here hx rfl (hb hby at_145) rfl k) ?_
        refine WinW.to T1161 (mkF m 150 #[.val (.int p0), .val (.int p1), .val (.int p2), .val (.int p3), .val (.int (4 : Int32)), .val (.ref c1), .val (.ref r_1103), .val (.ref b1109), .val (.ref r_1161), .val (.int (-1 : Int32)), .unset] []) (fun _ k => XS.ifNo X1161.here hx rfl (hb hby at_147) rfl ((if0 _ _).trans (tlt (show (0 : Int32) < (4 : Int32) from by decide)).2.2.2) k) ?_
        refine WinW.to T1161 (mkF m 152 #[.val (.int p0), .val (.int p1), .val (.int p2), .val (.int p3), .val (.int (4 : Int32)), .val (.ref c1), .val (.ref r_1103), .val (.ref b1109), .val (.ref r_1161), .val (.int (-1 : Int32)), .unset] [(.ref c1)]) (fun _ k => XS.aload X1161.here hx rfl (hb hby at_150) rfl rfl k) ?_
        refine WinW.to T1161 (mkF m 153 #[.val (.int p0), .val (.int p1), .val (.int p2), .val (.int p3), .val (.int (4 : Int32)), .val (.ref c1), .val (.ref r_1103), .val (.ref b1109), .val (.ref r_1161), .val (.int (-1 : Int32)), .unset] [(.int (0 : Int32)), (.ref c1)]) (fun _ k => XS.iconst X1161.here hx rfl (hb hby at_152) k) ?_
        have F1170 : Arv Z h1161 c1 kc .char (4 : Int32) [(.int q0), (.int q1), (.int q2), (.int q3)] (.int (0 : Int32)) := ((((F1124.ext E1123).keep r1140_0 (ninS ne1125 nin0)).keep r1150_0 (ninS ne1111 nin0)).keep r1161_0 nin0)
        obtain ⟨cl1171, Ar1171, q1171, S1171, N1171, H1171, G1171⟩ := id F1170
        have hi1171 : ¬ ((0 : Int32) < 0 ∨ cl1171.slots.size ≤ ((0 : Int32)).toNatClampNeg) := inb_of S1171 ⟨by decide, by decide⟩
        refine WinW.to T1161 (mkF m 154 #[.val (.int p0), .val (.int p1), .val (.int p2), .val (.int p3), .val (.int (4 : Int32)), .val (.ref c1), .val (.ref r_1103), .val (.ref b1109), .val (.ref r_1161), .val (.int (-1 : Int32)), .unset] [(.int q0)]) (fun _ k => X1161.caload hx (j := (0 : Int32)) (v := (.int q0)) (by rw [e1161]; exact Ar1171.1) (State.isArrayOf_alike hZ1161.alike Ar1171.2.1) Ar1171.2.2 hi1171 (Has.at H1171 hi1171 rfl) (g := (mkF m 153 #[.val (.int p0), .val (.int p1), .val (.int p2), .val (.int p3), .val (.int (4 : Int32)), .val (.ref c1), .val (.ref r_1103), .val (.ref b1109), .val (.ref r_1161), .val (.int (-1 : Int32)), .unset] [(.int (0 : Int32)), (.ref c1)])) rfl rfl (hb hby at_153) _ k) ?_
        refine WinW.to T1161 (mkF m 156 #[.val (.int p0), .val (.int p1), .val (.int p2), .val (.int p3), .val (.int (4 : Int32)), .val (.ref c1), .val (.ref r_1103), .val (.ref b1109), .val (.ref r_1161), .val (.int (-1 : Int32)), .unset] [(.int (32 : Int32)), (.int q0)]) (fun _ k => XS.bipush X1161.here hx rfl (hb hby at_154) k) ?_
        by_cases hc1172 : q0 = (32 : Int32)
        · refine WinW.to T1161 (mkF m 159 #[.val (.int p0), .val (.int p1), .val (.int p2), .val (.int p3), .val (.int (4 : Int32)), .val (.ref c1), .val (.ref r_1103), .val (.ref b1109), .val (.ref r_1161), .val (.int (-1 : Int32)), .unset] []) (fun _ k => XS.icmpNo X1161.here hx rfl (hb hby at_156) rfl (teq hc1172).2 k) ?_
          refine WinW.to T1161 (mkF m 160 #[.val (.int p0), .val (.int p1), .val (.int p2), .val (.int p3), .val (.int (4 : Int32)), .val (.ref c1), .val (.ref r_1103), .val (.ref b1109), .val (.ref r_1161), .val (.int (-1 : Int32)), .unset] [(.int (0 : Int32))]) (fun _ k => XS.iconst X1161.here hx rfl (hb hby at_159) k) ?_
          refine WinW.to T1161 (mkF m 162 #[.val (.int p0), .val (.int p1), .val (.int p2), .val (.int p3), .val (.int (4 : Int32)), .val (.ref c1), .val (.ref r_1103), .val (.ref b1109), .val (.ref r_1161), .val (.int (0 : Int32)), .unset] []) (fun _ k => XS.istore X1161.here hx rfl (hb hby at_160) rfl (l' := #[.val (.int p0), .val (.int p1), .val (.int p2), .val (.int p3), .val (.int (4 : Int32)), .val (.ref c1), .val (.ref r_1103), .val (.ref b1109), .val (.ref r_1161), .val (.int (0 : Int32)), .unset]) rfl k) ?_
          refine WinW.to T1161 (mkF m 164 #[.val (.int p0), .val (.int p1), .val (.int p2), .val (.int p3), .val (.int (4 : Int32)), .val (.ref c1), .val (.ref r_1103), .val (.ref b1109), .val (.ref r_1161), .val (.int (0 : Int32)), .unset] [(.int (4 : Int32))]) (fun _ k => XS.iload X1161.here hx rfl (hb hby at_162) rfl k) ?_
          refine WinW.to T1161 (mkF m 165 #[.val (.int p0), .val (.int p1), .val (.int p2), .val (.int p3), .val (.int (4 : Int32)), .val (.ref c1), .val (.ref r_1103), .val (.ref b1109), .val (.ref r_1161), .val (.int (0 : Int32)), .unset] [(.int (1 : Int32)), (.int (4 : Int32))]) (fun _ k => XS.iconst X1161.here hx rfl (hb hby at_164) k) ?_
          refine WinW.to T1161 (mkF m 168 #[.val (.int p0), .val (.int p1), .val (.int p2), .val (.int p3), .val (.int (4 : Int32)), .val (.ref c1), .val (.ref r_1103), .val (.ref b1109), .val (.ref r_1161), .val (.int (0 : Int32)), .unset] []) (fun _ k => XS.icmpNo X1161.here hx rfl (hb hby at_165) rfl (tlt (show (1 : Int32) < (4 : Int32) from by decide)).2.2.2 k) ?_
          refine WinW.to T1161 (mkF m 170 #[.val (.int p0), .val (.int p1), .val (.int p2), .val (.int p3), .val (.int (4 : Int32)), .val (.ref c1), .val (.ref r_1103), .val (.ref b1109), .val (.ref r_1161), .val (.int (0 : Int32)), .unset] [(.ref c1)]) (fun _ k => XS.aload X1161.here hx rfl (hb hby at_168) rfl rfl k) ?_
          refine WinW.to T1161 (mkF m 171 #[.val (.int p0), .val (.int p1), .val (.int p2), .val (.int p3), .val (.int (4 : Int32)), .val (.ref c1), .val (.ref r_1103), .val (.ref b1109), .val (.ref r_1161), .val (.int (0 : Int32)), .unset] [(.int (1 : Int32)), (.ref c1)]) (fun _ k => XS.iconst X1161.here hx rfl (hb hby at_170) k) ?_
          obtain ⟨cl1173, Ar1173, q1173, S1173, N1173, H1173, G1173⟩ := id F1170
          have hi1173 : ¬ ((1 : Int32) < 0 ∨ cl1173.slots.size ≤ ((1 : Int32)).toNatClampNeg) := inb_of S1173 ⟨by decide, by decide⟩
          refine WinW.to T1161 (mkF m 172 #[.val (.int p0), .val (.int p1), .val (.int p2), .val (.int p3), .val (.int (4 : Int32)), .val (.ref c1), .val (.ref r_1103), .val (.ref b1109), .val (.ref r_1161), .val (.int (0 : Int32)), .unset] [(.int q1)]) (fun _ k => X1161.caload hx (j := (1 : Int32)) (v := (.int q1)) (by rw [e1161]; exact Ar1173.1) (State.isArrayOf_alike hZ1161.alike Ar1173.2.1) Ar1173.2.2 hi1173 (Has.at H1173 hi1173 rfl) (g := (mkF m 171 #[.val (.int p0), .val (.int p1), .val (.int p2), .val (.int p3), .val (.int (4 : Int32)), .val (.ref c1), .val (.ref r_1103), .val (.ref b1109), .val (.ref r_1161), .val (.int (0 : Int32)), .unset] [(.int (1 : Int32)), (.ref c1)])) rfl rfl (hb hby at_171) _ k) ?_
          refine WinW.to T1161 (mkF m 174 #[.val (.int p0), .val (.int p1), .val (.int p2), .val (.int p3), .val (.int (4 : Int32)), .val (.ref c1), .val (.ref r_1103), .val (.ref b1109), .val (.ref r_1161), .val (.int (0 : Int32)), .unset] [(.int (32 : Int32)), (.int q1)]) (fun _ k => XS.bipush X1161.here hx rfl (hb hby at_172) k) ?_
          by_cases hc1174 : q1 = (32 : Int32)
          · refine WinW.to T1161 (mkF m 177 #[.val (.int p0), .val (.int p1), .val (.int p2), .val (.int p3), .val (.int (4 : Int32)), .val (.ref c1), .val (.ref r_1103), .val (.ref b1109), .val (.ref r_1161), .val (.int (0 : Int32)), .unset] []) (fun _ k => XS.icmpNo X1161.here hx rfl (hb hby at_174) rfl (teq hc1174).2 k) ?_
            refine WinW.to T1161 (mkF m 178 #[.val (.int p0), .val (.int p1), .val (.int p2), .val (.int p3), .val (.int (4 : Int32)), .val (.ref c1), .val (.ref r_1103), .val (.ref b1109), .val (.ref r_1161), .val (.int (0 : Int32)), .unset] [(.int (1 : Int32))]) (fun _ k => XS.iconst X1161.here hx rfl (hb hby at_177) k) ?_
            refine WinW.to T1161 (mkF m 180 #[.val (.int p0), .val (.int p1), .val (.int p2), .val (.int p3), .val (.int (4 : Int32)), .val (.ref c1), .val (.ref r_1103), .val (.ref b1109), .val (.ref r_1161), .val (.int (1 : Int32)), .unset] []) (fun _ k => XS.istore X1161.here hx rfl (hb hby at_178) rfl (l' := #[.val (.int p0), .val (.int p1), .val (.int p2), .val (.int p3), .val (.int (4 : Int32)), .val (.ref c1), .val (.ref r_1103), .val (.ref b1109), .val (.ref r_1161), .val (.int (1 : Int32)), .unset]) rfl k) ?_
            refine WinW.to T1161 (mkF m 182 #[.val (.int p0), .val (.int p1), .val (.int p2), .val (.int p3), .val (.int (4 : Int32)), .val (.ref c1), .val (.ref r_1103), .val (.ref b1109), .val (.ref r_1161), .val (.int (1 : Int32)), .unset] [(.int (4 : Int32))]) (fun _ k => XS.iload X1161.here hx rfl (hb hby at_180) rfl k) ?_
            refine WinW.to T1161 (mkF m 183 #[.val (.int p0), .val (.int p1), .val (.int p2), .val (.int p3), .val (.int (4 : Int32)), .val (.ref c1), .val (.ref r_1103), .val (.ref b1109), .val (.ref r_1161), .val (.int (1 : Int32)), .unset] [(.int (2 : Int32)), (.int (4 : Int32))]) (fun _ k => XS.iconst X1161.here hx rfl (hb hby at_182) k) ?_
            refine WinW.to T1161 (mkF m 186 #[.val (.int p0), .val (.int p1), .val (.int p2), .val (.int p3), .val (.int (4 : Int32)), .val (.ref c1), .val (.ref r_1103), .val (.ref b1109), .val (.ref r_1161), .val (.int (1 : Int32)), .unset] []) (fun _ k => XS.icmpNo X1161.here hx rfl (hb hby at_183) rfl (tlt (show (2 : Int32) < (4 : Int32) from by decide)).2.2.2 k) ?_
            refine WinW.to T1161 (mkF m 188 #[.val (.int p0), .val (.int p1), .val (.int p2), .val (.int p3), .val (.int (4 : Int32)), .val (.ref c1), .val (.ref r_1103), .val (.ref b1109), .val (.ref r_1161), .val (.int (1 : Int32)), .unset] [(.ref c1)]) (fun _ k => XS.aload X1161.here hx rfl (hb hby at_186) rfl rfl k) ?_
            refine WinW.to T1161 (mkF m 189 #[.val (.int p0), .val (.int p1), .val (.int p2), .val (.int p3), .val (.int (4 : Int32)), .val (.ref c1), .val (.ref r_1103), .val (.ref b1109), .val (.ref r_1161), .val (.int (1 : Int32)), .unset] [(.int (2 : Int32)), (.ref c1)]) (fun _ k => XS.iconst X1161.here hx rfl (hb hby at_188) k) ?_
            obtain ⟨cl1175, Ar1175, q1175, S1175, N1175, H1175, G1175⟩ := id F1170
            have hi1175 : ¬ ((2 : Int32) < 0 ∨ cl1175.slots.size ≤ ((2 : Int32)).toNatClampNeg) := inb_of S1175 ⟨by decide, by decide⟩
            refine WinW.to T1161 (mkF m 190 #[.val (.int p0), .val (.int p1), .val (.int p2), .val (.int p3), .val (.int (4 : Int32)), .val (.ref c1), .val (.ref r_1103), .val (.ref b1109), .val (.ref r_1161), .val (.int (1 : Int32)), .unset] [(.int q2)]) (fun _ k => X1161.caload hx (j := (2 : Int32)) (v := (.int q2)) (by rw [e1161]; exact Ar1175.1) (State.isArrayOf_alike hZ1161.alike Ar1175.2.1) Ar1175.2.2 hi1175 (Has.at H1175 hi1175 rfl) (g := (mkF m 189 #[.val (.int p0), .val (.int p1), .val (.int p2), .val (.int p3), .val (.int (4 : Int32)), .val (.ref c1), .val (.ref r_1103), .val (.ref b1109), .val (.ref r_1161), .val (.int (1 : Int32)), .unset] [(.int (2 : Int32)), (.ref c1)])) rfl rfl (hb hby at_189) _ k) ?_
            refine WinW.to T1161 (mkF m 192 #[.val (.int p0), .val (.int p1), .val (.int p2), .val (.int p3), .val (.int (4 : Int32)), .val (.ref c1), .val (.ref r_1103), .val (.ref b1109), .val (.ref r_1161), .val (.int (1 : Int32)), .unset] [(.int (32 : Int32)), (.int q2)]) (fun _ k => XS.bipush X1161.here hx rfl (hb hby at_190) k) ?_
            by_cases hc1176 : q2 = (32 : Int32)
            · refine WinW.to T1161 (mkF m 195 #[.val (.int p0), .val (.int p1), .val (.int p2), .val (.int p3), .val (.int (4 : Int32)), .val (.ref c1), .val (.ref r_1103), .val (.ref b1109), .val (.ref r_1161), .val (.int (1 : Int32)), .unset] []) (fun _ k => XS.icmpNo X1161.here hx rfl (hb hby at_192) rfl (teq hc1176).2 k) ?_
              refine WinW.to T1161 (mkF m 196 #[.val (.int p0), .val (.int p1), .val (.int p2), .val (.int p3), .val (.int (4 : Int32)), .val (.ref c1), .val (.ref r_1103), .val (.ref b1109), .val (.ref r_1161), .val (.int (1 : Int32)), .unset] [(.int (2 : Int32))]) (fun _ k => XS.iconst X1161.here hx rfl (hb hby at_195) k) ?_
              refine WinW.to T1161 (mkF m 198 #[.val (.int p0), .val (.int p1), .val (.int p2), .val (.int p3), .val (.int (4 : Int32)), .val (.ref c1), .val (.ref r_1103), .val (.ref b1109), .val (.ref r_1161), .val (.int (2 : Int32)), .unset] []) (fun _ k => XS.istore X1161.here hx rfl (hb hby at_196) rfl (l' := #[.val (.int p0), .val (.int p1), .val (.int p2), .val (.int p3), .val (.int (4 : Int32)), .val (.ref c1), .val (.ref r_1103), .val (.ref b1109), .val (.ref r_1161), .val (.int (2 : Int32)), .unset]) rfl k) ?_
              exact Jd198 _ _ T1161 _ X1161 N1163 e1161 hS1161 hk1161 hZ1161 hown1161 C1167 (2 : Int32)
            · refine WinW.to T1161 (mkF m 198 #[.val (.int p0), .val (.int p1), .val (.int p2), .val (.int p3), .val (.int (4 : Int32)), .val (.ref c1), .val (.ref r_1103), .val (.ref b1109), .val (.ref r_1161), .val (.int (1 : Int32)), .unset] []) (fun _ k => XS.icmpYes X1161.here hx rfl (pc0 := 192) (pc' := 198) rfl (hb hby at_192) rfl (feq hc1176).2 (by decide) (by decide) k) ?_
              exact Jd198 _ _ T1161 _ X1161 N1163 e1161 hS1161 hk1161 hZ1161 hown1161 C1167 (1 : Int32)
          · refine WinW.to T1161 (mkF m 180 #[.val (.int p0), .val (.int p1), .val (.int p2), .val (.int p3), .val (.int (4 : Int32)), .val (.ref c1), .val (.ref r_1103), .val (.ref b1109), .val (.ref r_1161), .val (.int (0 : Int32)), .unset] []) (fun _ k => XS.icmpYes X1161.here hx rfl (pc0 := 174) (pc' := 180) rfl (hb hby at_174) rfl (feq hc1174).2 (by decide) (by decide) k) ?_
            refine WinW.to T1161 (mkF m 182 #[.val (.int p0), .val (.int p1), .val (.int p2), .val (.int p3), .val (.int (4 : Int32)), .val (.ref c1), .val (.ref r_1103), .val (.ref b1109), .val (.ref r_1161), .val (.int (0 : Int32)), .unset] [(.int (4 : Int32))]) (fun _ k => XS.iload X1161.here hx rfl (hb hby at_180) rfl k) ?_
            refine WinW.to T1161 (mkF m 183 #[.val (.int p0), .val (.int p1), .val (.int p2), .val (.int p3), .val (.int (4 : Int32)), .val (.ref c1), .val (.ref r_1103), .val (.ref b1109), .val (.ref r_1161), .val (.int (0 : Int32)), .unset] [(.int (2 : Int32)), (.int (4 : Int32))]) (fun _ k => XS.iconst X1161.here hx rfl (hb hby at_182) k) ?_
            refine WinW.to T1161 (mkF m 186 #[.val (.int p0), .val (.int p1), .val (.int p2), .val (.int p3), .val (.int (4 : Int32)), .val (.ref c1), .val (.ref r_1103), .val (.ref b1109), .val (.ref r_1161), .val (.int (0 : Int32)), .unset] []) (fun _ k => XS.icmpNo X1161.here hx rfl (hb hby at_183) rfl (tlt (show (2 : Int32) < (4 : Int32) from by decide)).2.2.2 k) ?_
            refine WinW.to T1161 (mkF m 188 #[.val (.int p0), .val (.int p1), .val (.int p2), .val (.int p3), .val (.int (4 : Int32)), .val (.ref c1), .val (.ref r_1103), .val (.ref b1109), .val (.ref r_1161), .val (.int (0 : Int32)), .unset] [(.ref c1)]) (fun _ k => XS.aload X1161.here hx rfl (hb hby at_186) rfl rfl k) ?_
            refine WinW.to T1161 (mkF m 189 #[.val (.int p0), .val (.int p1), .val (.int p2), .val (.int p3), .val (.int (4 : Int32)), .val (.ref c1), .val (.ref r_1103), .val (.ref b1109), .val (.ref r_1161), .val (.int (0 : Int32)), .unset] [(.int (2 : Int32)), (.ref c1)]) (fun _ k => XS.iconst X1161.here hx rfl (hb hby at_188) k) ?_
            obtain ⟨cl1177, Ar1177, q1177, S1177, N1177, H1177, G1177⟩ := id F1170
            have hi1177 : ¬ ((2 : Int32) < 0 ∨ cl1177.slots.size ≤ ((2 : Int32)).toNatClampNeg) := inb_of S1177 ⟨by decide, by decide⟩
            refine WinW.to T1161 (mkF m 190 #[.val (.int p0), .val (.int p1), .val (.int p2), .val (.int p3), .val (.int (4 : Int32)), .val (.ref c1), .val (.ref r_1103), .val (.ref b1109), .val (.ref r_1161), .val (.int (0 : Int32)), .unset] [(.int q2)]) (fun _ k => X1161.caload hx (j := (2 : Int32)) (v := (.int q2)) (by rw [e1161]; exact Ar1177.1) (State.isArrayOf_alike hZ1161.alike Ar1177.2.1) Ar1177.2.2 hi1177 (Has.at H1177 hi1177 rfl) (g := (mkF m 189 #[.val (.int p0), .val (.int p1), .val (.int p2), .val (.int p3), .val (.int (4 : Int32)), .val (.ref c1), .val (.ref r_1103), .val (.ref b1109), .val (.ref r_1161), .val (.int (0 : Int32)), .unset] [(.int (2 : Int32)), (.ref c1)])) rfl rfl (hb hby at_189) _ k) ?_
            refine WinW.to T1161 (mkF m 192 #[.val (.int p0), .val (.int p1), .val (.int p2), .val (.int p3), .val (.int (4 : Int32)), .val (.ref c1), .val (.ref r_1103), .val (.ref b1109), .val (.ref r_1161), .val (.int (0 : Int32)), .unset] [(.int (32 : Int32)), (.int q2)]) (fun _ k => XS.bipush X1161.here hx rfl (hb hby at_190) k) ?_
            by_cases hc1178 : q2 = (32 : Int32)
            · refine WinW.to T1161 (mkF m 195 #[.val (.int p0), .val (.int p1), .val (.int p2), .val (.int p3), .val (.int (4 : Int32)), .val (.ref c1), .val (.ref r_1103), .val (.ref b1109), .val (.ref r_1161), .val (.int (0 : Int32)), .unset] []) (fun _ k => XS.icmpNo X1161.here hx rfl (hb hby at_192) rfl (teq hc1178).2 k) ?_
              refine WinW.to T1161 (mkF m 196 #[.val (.int p0), .val (.int p1), .val (.int p2), .val (.int p3), .val (.int (4 : Int32)), .val (.ref c1), .val (.ref r_1103), .val (.ref b1109), .val (.ref r_1161), .val (.int (0 : Int32)), .unset] [(.int (2 : Int32))]) (fun _ k => XS.iconst X1161.here hx rfl (hb hby at_195) k) ?_
              refine WinW.to T1161 (mkF m 198 #[.val (.int p0), .val (.int p1), .val (.int p2), .val (.int p3), .val (.int (4 : Int32)), .val (.ref c1), .val (.ref r_1103), .val (.ref b1109), .val (.ref r_1161), .val (.int (2 : Int32)), .unset] []) (fun _ k => XS.istore X1161.here hx rfl (hb hby at_196) rfl (l' := #[.val (.int p0), .val (.int p1), .val (.int p2), .val (.int p3), .val (.int (4 : Int32)), .val (.ref c1), .val (.ref r_1103), .val (.ref b1109), .val (.ref r_1161), .val (.int (2 : Int32)), .unset]) rfl k) ?_
              exact Jd198 _ _ T1161 _ X1161 N1163 e1161 hS1161 hk1161 hZ1161 hown1161 C1167 (2 : Int32)
            · refine WinW.to T1161 (mkF m 198 #[.val (.int p0), .val (.int p1), .val (.int p2), .val (.int p3), .val (.int (4 : Int32)), .val (.ref c1), .val (.ref r_1103), .val (.ref b1109), .val (.ref r_1161), .val (.int (0 : Int32)), .unset] []) (fun _ k => XS.icmpYes X1161.here hx rfl (pc0 := 192) (pc' := 198) rfl (hb hby at_192) rfl (feq hc1178).2 (by decide) (by decide) k) ?_
              exact Jd198 _ _ T1161 _ X1161 N1163 e1161 hS1161 hk1161 hZ1161 hown1161 C1167 (0 : Int32)
        · refine WinW.to T1161 (mkF m 162 #[.val (.int p0), .val (.int p1), .val (.int p2), .val (.int p3), .val (.int (4 : Int32)), .val (.ref c1), .val (.ref r_1103), .val (.ref b1109), .val (.ref r_1161), .val (.int (-1 : Int32)), .unset] []) (fun _ k => XS.icmpYes X1161.here hx rfl (pc0 := 156) (pc' := 162) rfl (hb hby at_156) rfl (feq hc1172).2 (by decide) (by decide) k) ?_
          refine WinW.to T1161 (mkF m 164 #[.val (.int p0), .val (.int p1), .val (.int p2), .val (.int p3), .val (.int (4 : Int32)), .val (.ref c1), .val (.ref r_1103), .val (.ref b1109), .val (.ref r_1161), .val (.int (-1 : Int32)), .unset] [(.int (4 : Int32))]) (fun _ k => XS.iload X1161.here hx rfl (hb hby at_162) rfl k) ?_
          refine WinW.to T1161 (mkF m 165 #[.val (.int p0), .val (.int p1), .val (.int p2), .val (.int p3), .val (.int (4 : Int32)), .val (.ref c1), .val (.ref r_1103), .val (.ref b1109), .val (.ref r_1161), .val (.int (-1 : Int32)), .unset] [(.int (1 : Int32)), (.int (4 : Int32))]) (fun _ k => XS.iconst X1161.here hx rfl (hb hby at_164) k) ?_
          refine WinW.to T1161 (mkF m 168 #[.val (.int p0), .val (.int p1), .val (.int p2), .val (.int p3), .val (.int (4 : Int32)), .val (.ref c1), .val (.ref r_1103), .val (.ref b1109), .val (.ref r_1161), .val (.int (-1 : Int32)), .unset] []) (fun _ k => XS.icmpNo X1161.here hx rfl (hb hby at_165) rfl (tlt (show (1 : Int32) < (4 : Int32) from by decide)).2.2.2 k) ?_
          refine WinW.to T1161 (mkF m 170 #[.val (.int p0), .val (.int p1), .val (.int p2), .val (.int p3), .val (.int (4 : Int32)), .val (.ref c1), .val (.ref r_1103), .val (.ref b1109), .val (.ref r_1161), .val (.int (-1 : Int32)), .unset] [(.ref c1)]) (fun _ k => XS.aload X1161.here hx rfl (hb hby at_168) rfl rfl k) ?_
          refine WinW.to T1161 (mkF m 171 #[.val (.int p0), .val (.int p1), .val (.int p2), .val (.int p3), .val (.int (4 : Int32)), .val (.ref c1), .val (.ref r_1103), .val (.ref b1109), .val (.ref r_1161), .val (.int (-1 : Int32)), .unset] [(.int (1 : Int32)), (.ref c1)]) (fun _ k => XS.iconst X1161.here hx rfl (hb hby at_170) k) ?_
          obtain ⟨cl1179, Ar1179, q1179, S1179, N1179, H1179, G1179⟩ := id F1170
          have hi1179 : ¬ ((1 : Int32) < 0 ∨ cl1179.slots.size ≤ ((1 : Int32)).toNatClampNeg) := inb_of S1179 ⟨by decide, by decide⟩
          refine WinW.to T1161 (mkF m 172 #[.val (.int p0), .val (.int p1), .val (.int p2), .val (.int p3), .val (.int (4 : Int32)), .val (.ref c1), .val (.ref r_1103), .val (.ref b1109), .val (.ref r_1161), .val (.int (-1 : Int32)), .unset] [(.int q1)]) (fun _ k => X1161.caload hx (j := (1 : Int32)) (v := (.int q1)) (by rw [e1161]; exact Ar1179.1) (State.isArrayOf_alike hZ1161.alike Ar1179.2.1) Ar1179.2.2 hi1179 (Has.at H1179 hi1179 rfl) (g := (mkF m 171 #[.val (.int p0), .val (.int p1), .val (.int p2), .val (.int p3), .val (.int (4 : Int32)), .val (.ref c1), .val (.ref r_1103), .val (.ref b1109), .val (.ref r_1161), .val (.int (-1 : Int32)), .unset] [(.int (1 : Int32)), (.ref c1)])) rfl rfl (hb hby at_171) _ k) ?_
          refine WinW.to T1161 (mkF m 174 #[.val (.int p0), .val (.int p1), .val (.int p2), .val (.int p3), .val (.int (4 : Int32)), .val (.ref c1), .val (.ref r_1103), .val (.ref b1109), .val (.ref r_1161), .val (.int (-1 : Int32)), .unset] [(.int (32 : Int32)), (.int q1)]) (fun _ k => XS.bipush X1161.here hx rfl (hb hby at_172) k) ?_
          by_cases hc1180 : q1 = (32 : Int32)
          · refine WinW.to T1161 (mkF m 177 #[.val (.int p0), .val (.int p1), .val (.int p2), .val (.int p3), .val (.int (4 : Int32)), .val (.ref c1), .val (.ref r_1103), .val (.ref b1109), .val (.ref r_1161), .val (.int (-1 : Int32)), .unset] []) (fun _ k => XS.icmpNo X1161.here hx rfl (hb hby at_174) rfl (teq hc1180).2 k) ?_
            refine WinW.to T1161 (mkF m 178 #[.val (.int p0), .val (.int p1), .val (.int p2), .val (.int p3), .val (.int (4 : Int32)), .val (.ref c1), .val (.ref r_1103), .val (.ref b1109), .val (.ref r_1161), .val (.int (-1 : Int32)), .unset] [(.int (1 : Int32))]) (fun _ k => XS.iconst X1161.here hx rfl (hb hby at_177) k) ?_
            refine WinW.to T1161 (mkF m 180 #[.val (.int p0), .val (.int p1), .val (.int p2), .val (.int p3), .val (.int (4 : Int32)), .val (.ref c1), .val (.ref r_1103), .val (.ref b1109), .val (.ref r_1161), .val (.int (1 : Int32)), .unset] []) (fun _ k => XS.istore X1161.here hx rfl (hb hby at_178) rfl (l' := #[.val (.int p0), .val (.int p1), .val (.int p2), .val (.int p3), .val (.int (4 : Int32)), .val (.ref c1), .val (.ref r_1103), .val (.ref b1109), .val (.ref r_1161), .val (.int (1 : Int32)), .unset]) rfl k) ?_
            refine WinW.to T1161 (mkF m 182 #[.val (.int p0), .val (.int p1), .val (.int p2), .val (.int p3), .val (.int (4 : Int32)), .val (.ref c1), .val (.ref r_1103), .val (.ref b1109), .val (.ref r_1161), .val (.int (1 : Int32)), .unset] [(.int (4 : Int32))]) (fun _ k => XS.iload X1161.here hx rfl (hb hby at_180) rfl k) ?_
            refine WinW.to T1161 (mkF m 183 #[.val (.int p0), .val (.int p1), .val (.int p2), .val (.int p3), .val (.int (4 : Int32)), .val (.ref c1), .val (.ref r_1103), .val (.ref b1109), .val (.ref r_1161), .val (.int (1 : Int32)), .unset] [(.int (2 : Int32)), (.int (4 : Int32))]) (fun _ k => XS.iconst X1161.here hx rfl (hb hby at_182) k) ?_
            refine WinW.to T1161 (mkF m 186 #[.val (.int p0), .val (.int p1), .val (.int p2), .val (.int p3), .val (.int (4 : Int32)), .val (.ref c1), .val (.ref r_1103), .val (.ref b1109), .val (.ref r_1161), .val (.int (1 : Int32)), .unset] []) (fun _ k => XS.icmpNo X1161.here hx rfl (hb hby at_183) rfl (tlt (show (2 : Int32) < (4 : Int32) from by decide)).2.2.2 k) ?_
            refine WinW.to T1161 (mkF m 188 #[.val (.int p0), .val (.int p1), .val (.int p2), .val (.int p3), .val (.int (4 : Int32)), .val (.ref c1), .val (.ref r_1103), .val (.ref b1109), .val (.ref r_1161), .val (.int (1 : Int32)), .unset] [(.ref c1)]) (fun _ k => XS.aload X1161.here hx rfl (hb hby at_186) rfl rfl k) ?_
            refine WinW.to T1161 (mkF m 189 #[.val (.int p0), .val (.int p1), .val (.int p2), .val (.int p3), .val (.int (4 : Int32)), .val (.ref c1), .val (.ref r_1103), .val (.ref b1109), .val (.ref r_1161), .val (.int (1 : Int32)), .unset] [(.int (2 : Int32)), (.ref c1)]) (fun _ k => XS.iconst X1161.here hx rfl (hb hby at_188) k) ?_
            obtain ⟨cl1181, Ar1181, q1181, S1181, N1181, H1181, G1181⟩ := id F1170
            have hi1181 : ¬ ((2 : Int32) < 0 ∨ cl1181.slots.size ≤ ((2 : Int32)).toNatClampNeg) := inb_of S1181 ⟨by decide, by decide⟩
            refine WinW.to T1161 (mkF m 190 #[.val (.int p0), .val (.int p1), .val (.int p2), .val (.int p3), .val (.int (4 : Int32)), .val (.ref c1), .val (.ref r_1103), .val (.ref b1109), .val (.ref r_1161), .val (.int (1 : Int32)), .unset] [(.int q2)]) (fun _ k => X1161.caload hx (j := (2 : Int32)) (v := (.int q2)) (by rw [e1161]; exact Ar1181.1) (State.isArrayOf_alike hZ1161.alike Ar1181.2.1) Ar1181.2.2 hi1181 (Has.at H1181 hi1181 rfl) (g := (mkF m 189 #[.val (.int p0), .val (.int p1), .val (.int p2), .val (.int p3), .val (.int (4 : Int32)), .val (.ref c1), .val (.ref r_1103), .val (.ref b1109), .val (.ref r_1161), .val (.int (1 : Int32)), .unset] [(.int (2 : Int32)), (.ref c1)])) rfl rfl (hb hby at_189) _ k) ?_
            refine WinW.to T1161 (mkF m 192 #[.val (.int p0), .val (.int p1), .val (.int p2), .val (.int p3), .val (.int (4 : Int32)), .val (.ref c1), .val (.ref r_1103), .val (.ref b1109), .val (.ref r_1161), .val (.int (1 : Int32)), .unset] [(.int (32 : Int32)), (.int q2)]) (fun _ k => XS.bipush X1161.here hx rfl (hb hby at_190) k) ?_
            by_cases hc1182 : q2 = (32 : Int32)
            · refine WinW.to T1161 (mkF m 195 #[.val (.int p0), .val (.int p1), .val (.int p2), .val (.int p3), .val (.int (4 : Int32)), .val (.ref c1), .val (.ref r_1103), .val (.ref b1109), .val (.ref r_1161), .val (.int (1 : Int32)), .unset] []) (fun _ k => XS.icmpNo X1161.here hx rfl (hb hby at_192) rfl (teq hc1182).2 k) ?_
              refine WinW.to T1161 (mkF m 196 #[.val (.int p0), .val (.int p1), .val (.int p2), .val (.int p3), .val (.int (4 : Int32)), .val (.ref c1), .val (.ref r_1103), .val (.ref b1109), .val (.ref r_1161), .val (.int (1 : Int32)), .unset] [(.int (2 : Int32))]) (fun _ k => XS.iconst X1161.here hx rfl (hb hby at_195) k) ?_
              refine WinW.to T1161 (mkF m 198 #[.val (.int p0), .val (.int p1), .val (.int p2), .val (.int p3), .val (.int (4 : Int32)), .val (.ref c1), .val (.ref r_1103), .val (.ref b1109), .val (.ref r_1161), .val (.int (2 : Int32)), .unset] []) (fun _ k => XS.istore X1161.here hx rfl (hb hby at_196) rfl (l' := #[.val (.int p0), .val (.int p1), .val (.int p2), .val (.int p3), .val (.int (4 : Int32)), .val (.ref c1), .val (.ref r_1103), .val (.ref b1109), .val (.ref r_1161), .val (.int (2 : Int32)), .unset]) rfl k) ?_
              exact Jd198 _ _ T1161 _ X1161 N1163 e1161 hS1161 hk1161 hZ1161 hown1161 C1167 (2 : Int32)
            · refine WinW.to T1161 (mkF m 198 #[.val (.int p0), .val (.int p1), .val (.int p2), .val (.int p3), .val (.int (4 : Int32)), .val (.ref c1), .val (.ref r_1103), .val (.ref b1109), .val (.ref r_1161), .val (.int (1 : Int32)), .unset] []) (fun _ k => XS.icmpYes X1161.here hx rfl (pc0 := 192) (pc' := 198) rfl (hb hby at_192) rfl (feq hc1182).2 (by decide) (by decide) k) ?_
              exact Jd198 _ _ T1161 _ X1161 N1163 e1161 hS1161 hk1161 hZ1161 hown1161 C1167 (1 : Int32)
          · refine WinW.to T1161 (mkF m 180 #[.val (.int p0), .val (.int p1), .val (.int p2), .val (.int p3), .val (.int (4 : Int32)), .val (.ref c1), .val (.ref r_1103), .val (.ref b1109), .val (.ref r_1161), .val (.int (-1 : Int32)), .unset] []) (fun _ k => XS.icmpYes X1161.here hx rfl (pc0 := 174) (pc' := 180) rfl (hb hby at_174) rfl (feq hc1180).2 (by decide) (by decide) k) ?_
            refine WinW.to T1161 (mkF m 182 #[.val (.int p0), .val (.int p1), .val (.int p2), .val (.int p3), .val (.int (4 : Int32)), .val (.ref c1), .val (.ref r_1103), .val (.ref b1109), .val (.ref r_1161), .val (.int (-1 : Int32)), .unset] [(.int (4 : Int32))]) (fun _ k => XS.iload X1161.here hx rfl (hb hby at_180) rfl k) ?_
            refine WinW.to T1161 (mkF m 183 #[.val (.int p0), .val (.int p1), .val (.int p2), .val (.int p3), .val (.int (4 : Int32)), .val (.ref c1), .val (.ref r_1103), .val (.ref b1109), .val (.ref r_1161), .val (.int (-1 : Int32)), .unset] [(.int (2 : Int32)), (.int (4 : Int32))]) (fun _ k => XS.iconst X1161.here hx rfl (hb hby at_182) k) ?_
            refine WinW.to T1161 (mkF m 186 #[.val (.int p0), .val (.int p1), .val (.int p2), .val (.int p3), .val (.int (4 : Int32)), .val (.ref c1), .val (.ref r_1103), .val (.ref b1109), .val (.ref r_1161), .val (.int (-1 : Int32)), .unset] []) (fun _ k => XS.icmpNo X1161.here hx rfl (hb hby at_183) rfl (tlt (show (2 : Int32) < (4 : Int32) from by decide)).2.2.2 k) ?_
            refine WinW.to T1161 (mkF m 188 #[.val (.int p0), .val (.int p1), .val (.int p2), .val (.int p3), .val (.int (4 : Int32)), .val (.ref c1), .val (.ref r_1103), .val (.ref b1109), .val (.ref r_1161), .val (.int (-1 : Int32)), .unset] [(.ref c1)]) (fun _ k => XS.aload X1161.here hx rfl (hb hby at_186) rfl rfl k) ?_
            refine WinW.to T1161 (mkF m 189 #[.val (.int p0), .val (.int p1), .val (.int p2), .val (.int p3), .val (.int (4 : Int32)), .val (.ref c1), .val (.ref r_1103), .val (.ref b1109), .val (.ref r_1161), .val (.int (-1 : Int32)), .unset] [(.int (2 : Int32)), (.ref c1)]) (fun _ k => XS.iconst X1161.here hx rfl (hb hby at_188) k) ?_
            obtain ⟨cl1183, Ar1183, q1183, S1183, N1183, H1183, G1183⟩ := id F1170
            have hi1183 : ¬ ((2 : Int32) < 0 ∨ cl1183.slots.size ≤ ((2 : Int32)).toNatClampNeg) := inb_of S1183 ⟨by decide, by decide⟩
            refine WinW.to T1161 (mkF m 190 #[.val (.int p0), .val (.int p1), .val (.int p2), .val (.int p3), .val (.int (4 : Int32)), .val (.ref c1), .val (.ref r_1103), .val (.ref b1109), .val (.ref r_1161), .val (.int (-1 : Int32)), .unset] [(.int q2)]) (fun _ k => X1161.caload hx (j := (2 : Int32)) (v := (.int q2)) (by rw [e1161]; exact Ar1183.1) (State.isArrayOf_alike hZ1161.alike Ar1183.2.1) Ar1183.2.2 hi1183 (Has.at H1183 hi1183 rfl) (g := (mkF m 189 #[.val (.int p0), .val (.int p1), .val (.int p2), .val (.int p3), .val (.int (4 : Int32)), .val (.ref c1), .val (.ref r_1103), .val (.ref b1109), .val (.ref r_1161), .val (.int (-1 : Int32)), .unset] [(.int (2 : Int32)), (.ref c1)])) rfl rfl (hb hby at_189) _ k) ?_
            refine WinW.to T1161 (mkF m 192 #[.val (.int p0), .val (.int p1), .val (.int p2), .val (.int p3), .val (.int (4 : Int32)), .val (.ref c1), .val (.ref r_1103), .val (.ref b1109), .val (.ref r_1161), .val (.int (-1 : Int32)), .unset] [(.int (32 : Int32)), (.int q2)]) (fun _ k => XS.bipush X1161.here hx rfl (hb hby at_190) k) ?_
            by_cases hc1184 : q2 = (32 : Int32)
            · refine WinW.to T1161 (mkF m 195 #[.val (.int p0), .val (.int p1), .val (.int p2), .val (.int p3), .val (.int (4 : Int32)), .val (.ref c1), .val (.ref r_1103), .val (.ref b1109), .val (.ref r_1161), .val (.int (-1 : Int32)), .unset] []) (fun _ k => XS.icmpNo X1161.here hx rfl (hb hby at_192) rfl (teq hc1184).2 k) ?_
              refine WinW.to T1161 (mkF m 196 #[.val (.int p0), .val (.int p1), .val (.int p2), .val (.int p3), .val (.int (4 : Int32)), .val (.ref c1), .val (.ref r_1103), .val (.ref b1109), .val (.ref r_1161), .val (.int (-1 : Int32)), .unset] [(.int (2 : Int32))]) (fun _ k => XS.iconst X1161.here hx rfl (hb hby at_195) k) ?_
              refine WinW.to T1161 (mkF m 198 #[.val (.int p0), .val (.int p1), .val (.int p2), .val (.int p3), .val (.int (4 : Int32)), .val (.ref c1), .val (.ref r_1103), .val (.ref b1109), .val (.ref r_1161), .val (.int (2 : Int32)), .unset] []) (fun _ k => XS.istore X1161.here hx rfl (hb hby at_196) rfl (l' := #[.val (.int p0), .val (.int p1), .val (.int p2), .val (.int p3), .val (.int (4 : Int32)), .val (.ref c1), .val (.ref r_1103), .val (.ref b1109), .val (.ref r_1161), .val (.int (2 : Int32)), .unset]) rfl k) ?_
              exact Jd198 _ _ T1161 _ X1161 N1163 e1161 hS1161 hk1161 hZ1161 hown1161 C1167 (2 : Int32)
            · refine WinW.to T1161 (mkF m 198 #[.val (.int p0), .val (.int p1), .val (.int p2), .val (.int p3), .val (.int (4 : Int32)), .val (.ref c1), .val (.ref r_1103), .val (.ref b1109), .val (.ref r_1161), .val (.int (-1 : Int32)), .unset] []) (fun _ k => XS.icmpYes X1161.here hx rfl (pc0 := 192) (pc' := 198) rfl (hb hby at_192) rfl (feq hc1184).2 (by decide) (by decide) k) ?_
              exact Jd198 _ _ T1161 _ X1161 N1163 e1161 hS1161 hk1161 hZ1161 hown1161 C1167 (-1 : Int32)
      · by_cases hq2 : q2 = (32 : Int32)
        · refine WinW.to T1150 (mkF m 137 #[.val (.int p0), .val (.int p1), .val (.int p2), .val (.int p3), .val (.int (4 : Int32)), .val (.ref c1), .val (.ref r_1103), .val (.ref b1109), .unset, .unset, .unset] [(.ref b1109)]) (fun _ k => XS.aload X1150.here hx rfl (hb hby at_135) rfl rfl k) ?_
          have F1185 : Exa Z h1150 r_1103 "java/lang/String" := (((Exa.ext E1123 F1126).keep r1140_0).keep r1150_0)
          have F1186 : Fld Z h1150 r_1103 "java/lang/String" "value" "[B" (.ref t_1103) := (((Fld.ext E1123 (Fld.ext E1109 r1103_2)).keep r1140_0 (ninS ne1127 nin0)).keep r1150_0 (ninS ne1112 nin0))
          have F1187 : Fld Z h1150 r_1103 "java/lang/String" "coder" "B" (.int (0 : Int32)) := (((Fld.ext E1123 (Fld.ext E1109 r1103_3)).keep r1140_0 (ninS ne1127 nin0)).keep r1150_0 (ninS ne1112 nin0))
          have F1188 : ArF Z h1150 t_1103 kb_1103 .byte 4 (fun i => ((fun i => ([q0, q1, q2, q3] : List Int32).getD i (0 : Int32)) i).toInt8.toInt32) := (((F1128.ext E1123).keep r1140_0 (ninS ne1129 nin0)).keep r1150_0 (ninS ne1113 nin0))
          have F1190 : Exa Z h1150 b1109 "com/example/grantgate/grantgate/server/MessageReader$Head" := (F1147.keep r1150_0)
          obtain ⟨T1189, h1189, v1189, L1189, k1189, X1189, e1189, hS1189, hk1189, hZ1189, hown1189, ⟨r_1189, t2_1189, k2_1189, rfl, N1189q, r1189_0, r1189_1, r1189_2, r1189_3, r1189_4⟩, c1189, st1189⟩ := W.virtual X1150 hS1103 hk1153 hx hZ1103 (y := (⟨"com/example/grantgate/grantgate/server/MessageReader$Head", "version", "()Ljava/lang/String;"⟩ : MethodName)) (z := (⟨"com/example/grantgate/grantgate/server/MessageReader$Head", "version", "()Ljava/lang/String;"⟩ : MethodName)) hown1103 (wk hw 67 rfl) (wk hw 68 rfl) (notFace_of_selects (args := #[]) (mvT hZ1103 (wk hw 70 rfl))) (wk hw 70 rfl) (wk hw 69 rfl) (wk hw 29 rfl) (wk hw 71 rfl) (by decide) (headV l Z a0 hw b1109 r_1103 t_1103 kb_1103 4 (fun i => ((fun i => ([q0, q1, q2, q3] : List Int32).getD i (0 : Int32)) i).toInt8.toInt32) 3 cs x1 h1150 n0 O1152 r1150_1 F1185 F1186 F1187 F1188 (by decide) ((fun i hb hi => by
            match i, hb, hi with
            | 0, hb, _ => exact absurd hb (by decide)
            | 1, hb, _ => exact absurd hb (by decide)
            | 2, hb, _ => exact absurd hb (by decide)
            | 3, hb, _ => exact (own_sp2 hlq3 hcq3 hq3))) (fun _ => (show q2.toInt8.toInt32 = (32 : Int32) from by rw [hq2]; decide)) (by decide) S_CS hcs S_SI hx1) (own_EW hw) C1156.1 e1150 F1190 (g := (mkF m 137 #[.val (.int p0), .val (.int p1), .val (.int p2), .val (.int p3), .val (.int (4 : Int32)), .val (.ref c1), .val (.ref r_1103), .val (.ref b1109), .unset, .unset, .unset] [(.ref b1109)])) rfl (by rw [hml]; rfl) (argsL := []) (rest := []) rfl (lenOf pd___Ljava_lang_String_ rfl) rfl (W := 0) (by show 2 * 0 + _ ≤ _; exact Nat.le_of_eq rfl) (hb hby at_137) (by decide) (by decide) (by decide) (by decide)
          have N1191 := Fr.app N1151 N1189q
          have O1192 := Old.keep O1152 r1189_0 all0
          have K1193 : Keep h0 h1189 [] := Keep.trans K1154 r1189_0 all0
          have c1194 := c1189
          have C1195 := CHr.trans C1156 c1194
          refine WinW.to T1189 (mkF m 140 #[.val (.int p0), .val (.int p1), .val (.int p2), .val (.int p3), .val (.int (4 : Int32)), .val (.ref c1), .val (.ref r_1103), .val (.ref b1109), .unset, .unset, .unset] [(.ref r_1189)]) (fun _ k => st1189 _ k) ?_
          refine WinW.to T1189 (mkF m 142 #[.val (.int p0), .val (.int p1), .val (.int p2), .val (.int p3), .val (.int (4 : Int32)), .val (.ref c1), .val (.ref r_1103), .val (.ref b1109), .val (.ref r_1189), .unset, .unset] []) (fun _ k => XS.astore X1189.here hx rfl (hb hby at_140) rfl rfl (l' := #[.val (.int p0), .val (.int p1), .val (.int p2), .val (.int p3), .val (.int (4 : Int32)), .val (.ref c1), .val (.ref r_1103), .val (.ref b1109), .val (.ref r_1189), .unset, .unset]) rfl k) ?_
          refine WinW.to T1189 (mkF m 143 #[.val (.int p0), .val (.int p1), .val (.int p2), .val (.int p3), .val (.int (4 : Int32)), .val (.ref c1), .val (.ref r_1103), .val (.ref b1109), .val (.ref r_1189), .unset, .unset] [(.int (-1 : Int32))]) (fun _ k => XS.iconst X1189.here hx rfl (hb hby at_142) k) ?_
          refine WinW.to T1189 (mkF m 145 #[.val (.int p0), .val (.int p1), .val (.int p2), .val (.int p3), .val (.int (4 : Int32)), .val (.ref c1), .val (.ref r_1103), .val (.ref b1109), .val (.ref r_1189), .val (.int (-1 : Int32)), .unset] []) (fun _ k => XS.istore X1189.here hx rfl (hb hby at_143) rfl (l' := #[.val (.int p0), .val (.int p1), .val (.int p2), .val (.int p3), .val (.int (4 : Int32)), .val (.ref c1), .val (.ref r_1103), .val (.ref b1109), .val (.ref r_1189), .val (.int (-1 : Int32)), .unset]) rfl k) ?_
          have Jd180 : ∀ (vmd180 : Vm) (kd180 : Nat) (Td180 : State) (locsd180 : List Loc) (Xd180 : Stand p l e room_1 (s.setVm vmd180) m #[(.int p0), (.int p1), (.int p2), (.int p3)] below meth c Td180 locsd180 11 33) (Nd180 : Fr n0 locsd180) (ed180 : Td180.heap = h1189) (hSd180 : s.Since vmd180 kd180) (hkd180 : kd180 ≤ h1189.size) (hZd180 : Z.Warmed39 (s.setVm vmd180).vm) (hownd180 : (s.setVm vmd180).vm.findClass "com/example/grantgate/grantgate/server/HeadVersionPinLaw" = some m.cls) (Cd180 : CHr Z EL1 s.vm s.heap vmd180 h1189) (pg : Int32) , WinW p e below s room_1 Z EL1 (fun v h L => v = some (.int (1 : Int32)) ∧ Fr n0 L ∧ (True)) (Td180.setTop (mkF m 180 #[.val (.int p0), .val (.int p1), .val (.int p2), .val (.int p3), .val (.int (4 : Int32)), .val (.ref c1), .val (.ref r_1103), .val (.ref b1109), .val (.ref r_1189), .val (.int pg), .unset] [])) := by
            intro vmd180 kd180 Td180 locsd180 Xd180 Nd180 ed180 hSd180 hkd180 hZd180 hownd180 Cd180 pg
            refine WinW.to Td180 (mkF m 182 #[.val (.int p0), .val (.int p1), .val (.int p2), .val (.int p3), .val (.int (4 : Int32)), .val (.ref c1), .val (.ref r_1103), .val (.ref b1109), .val (.ref r_1189), .val (.int pg), .unset] [(.int (4 : Int32))]) (fun _ k => XS.iload Xd180.here hx rfl (hb hby at_180) rfl k) ?_
            refine WinW.to Td180 (mkF m 183 #[.val (.int p0), .val (.int p1), .val (.int p2), .val (.int p3), .val (.int (4 : Int32)), .val (.ref c1), .val (.ref r_1103), .val (.ref b1109), .val (.ref r_1189), .val (.int pg), .unset] [(.int (2 : Int32)), (.int (4 : Int32))]) (fun _ k => XS.iconst Xd180.here hx rfl (hb hby at_182) k) ?_
            refine WinW.to Td180 (mkF m 186 #[.val (.int p0), .val (.int p1), .val (.int p2), .val (.int p3), .val (.int (4 : Int32)), .val (.ref c1), .val (.ref r_1103), .val (.ref b1109), .val (.ref r_1189), .val (.int pg), .unset] []) (fun _ k => XS.icmpNo Xd180.here hx rfl (hb hby at_183) rfl (tlt (show (2 : Int32) < (4 : Int32) from by decide)).2.2.2 k) ?_
            refine WinW.to Td180 (mkF m 188 #[.val (.int p0), .val (.int p1), .val (.int p2), .val (.int p3), .val (.int (4 : Int32)), .val (.ref c1), .val (.ref r_1103), .val (.ref b1109), .val (.ref r_1189), .val (.int pg), .unset] [(.ref c1)]) (fun _ k => XS.aload Xd180.here hx rfl (hb hby at_186) rfl rfl k) ?_
            refine WinW.to Td180 (mkF m 189 #[.val (.int p0), .val (.int p1), .val (.int p2), .val (.int p3), .val (.int (4 : Int32)), .val (.ref c1), .val (.ref r_1103), .val (.ref b1109), .val (.ref r_1189), .val (.int pg), .unset] [(.int (2 : Int32)), (.ref c1)]) (fun _ k => XS.iconst Xd180.here hx rfl (hb hby at_188) k) ?_
            have F1196 : Arv Z h1189 c1 kc .char (4 : Int32) [(.int q0), (.int q1), (.int q2), (.int q3)] (.int (0 : Int32)) := ((((F1124.ext E1123).keep r1140_0 (ninS ne1125 nin0)).keep r1150_0 (ninS ne1111 nin0)).keep r1189_0 nin0)
            obtain ⟨cl1197, Ar1197, q1197, S1197, N1197, H1197, G1197⟩ := id F1196
            have hi1197 : ¬ ((2 : Int32) < 0 ∨ cl1197.slots.size ≤ ((2 : Int32)).toNatClampNeg) := inb_of S1197 ⟨by decide, by decide⟩
            refine WinW.to Td180 (mkF m 190 #[.val (.int p0), .val (.int p1), .val (.int p2), .val (.int p3), .val (.int (4 : Int32)), .val (.ref c1), .val (.ref r_1103), .val (.ref b1109), .val (.ref r_1189), .val (.int pg), .unset] [(.int q2)]) (fun _ k => Xd180.caload hx (j := (2 : Int32)) (v := (.int q2)) (by rw [ed180]; exact Ar1197.1) (State.isArrayOf_alike hZd180.alike Ar1197.2.1) Ar1197.2.2 hi1197 (Has.at H1197 hi1197 rfl) (g := (mkF m 189 #[.val (.int p0), .val (.int p1), .val (.int p2), .val (.int p3), .val (.int (4 : Int32)), .val (.ref c1), .val (.ref r_1103), .val (.ref b1109), .val (.ref r_1189), .val (.int pg), .unset] [(.int (2 : Int32)), (.ref c1)])) rfl rfl (hb hby at_189) _ k) ?_
            refine WinW.to Td180 (mkF m 192 #[.val (.int p0), .val (.int p1), .val (.int p2), .val (.int p3), .val (.int (4 : Int32)), .val (.ref c1), .val (.ref r_1103), .val (.ref b1109), .val (.ref r_1189), .val (.int pg), .unset] [(.int (32 : Int32)), (.int q2)]) (fun _ k => XS.bipush Xd180.here hx rfl (hb hby at_190) k) ?_
            refine WinW.to Td180 (mkF m 195 #[.val (.int p0), .val (.int p1), .val (.int p2), .val (.int p3), .val (.int (4 : Int32)), .val (.ref c1), .val (.ref r_1103), .val (.ref b1109), .val (.ref r_1189), .val (.int pg), .unset] []) (fun _ k => XS.icmpNo Xd180.here hx rfl (hb hby at_192) rfl (teq (show q2 = (32 : Int32) from hq2)).2 k) ?_
            refine WinW.to Td180 (mkF m 196 #[.val (.int p0), .val (.int p1), .val (.int p2), .val (.int p3), .val (.int (4 : Int32)), .val (.ref c1), .val (.ref r_1103), .val (.ref b1109), .val (.ref r_1189), .val (.int pg), .unset] [(.int (2 : Int32))]) (fun _ k => XS.iconst Xd180.here hx rfl (hb hby at_195) k) ?_
            refine WinW.to Td180 (mkF m 198 #[.val (.int p0), .val (.int p1), .val (.int p2), .val (.int p3), .val (.int (4 : Int32)), .val (.ref c1), .val (.ref r_1103), .val (.ref b1109), .val (.ref r_1189), .val (.int (2 : Int32)), .unset] []) (fun _ k => XS.istore Xd180.here hx rfl (hb hby at_196) rfl (l' := #[.val (.int p0), .val (.int p1), .val (.int p2), .val (.int p3), .val (.int (4 : Int32)), .val (.ref c1), .val (.ref r_1103), .val (.ref b1109), .val (.ref r_1189), .val (.int (2 : Int32)), .unset]) rfl k) ?_
            refine WinW.to Td180 (mkF m 200 #[.val (.int p0), .val (.int p1), .val (.int p2), .val (.int p3), .val (.int (4 : Int32)), .val (.ref c1), .val (.ref r_1103), .val (.ref b1109), .val (.ref r_1189), .val (.int (2 : Int32)), .unset] [(.int (4 : Int32))]) (fun _ k => XS.iload Xd180.here hx rfl (hb hby at_198) rfl k) ?_
            refine WinW.to Td180 (mkF m 201 #[.val (.int p0), .val (.int p1), .val (.int p2), .val (.int p3), .val (.int (4 : Int32)), .val (.ref c1), .val (.ref r_1103), .val (.ref b1109), .val (.ref r_1189), .val (.int (2 : Int32)), .unset] [(.int (3 : Int32)), (.int (4 : Int32))]) (fun _ k => XS.iconst Xd180.here hx rfl (hb hby at_200) k) ?_
            refine WinW.to Td180 (mkF m 204 #[.val (.int p0), .val (.int p1), .val (.int p2), .val (.int p3), .val (.int (4 : Int32)), .val (.ref c1), .val (.ref r_1103), .val (.ref b1109), .val (.ref r_1189), .val (.int (2 : Int32)), .unset] []) (fun _ k => XS.icmpNo Xd180.here hx rfl (hb hby at_201) rfl (tlt (show (3 : Int32) < (4 : Int32) from by decide)).2.2.2 k) ?_
            refine WinW.to Td180 (mkF m 206 #[.val (.int p0), .val (.int p1), .val (.int p2), .val (.int p3), .val (.int (4 : Int32)), .val (.ref c1), .val (.ref r_1103), .val (.ref b1109), .val (.ref r_1189), .val (.int (2 : Int32)), .unset] [(.ref c1)]) (fun _ k => XS.aload Xd180.here hx rfl (hb hby at_204) rfl rfl k) ?_
            refine WinW.to Td180 (mkF m 207 #[.val (.int p0), .val (.int p1), .val (.int p2), .val (.int p3), .val (.int (4 : Int32)), .val (.ref c1), .val (.ref r_1103), .val (.ref b1109), .val (.ref r_1189), .val (.int (2 : Int32)), .unset] [(.int (3 : Int32)), (.ref c1)]) (fun _ k => XS.iconst Xd180.here hx rfl (hb hby at_206) k) ?_
            obtain ⟨cl1198, Ar1198, q1198, S1198, N1198, H1198, G1198⟩ := id F1196
            have hi1198 : ¬ ((3 : Int32) < 0 ∨ cl1198.slots.size ≤ ((3 : Int32)).toNatClampNeg) := inb_of S1198 ⟨by decide, by decide⟩
            refine WinW.to Td180 (mkF m 208 #[.val (.int p0), .val (.int p1), .val (.int p2), .val (.int p3), .val (.int (4 : Int32)), .val (.ref c1), .val (.ref r_1103), .val (.ref b1109), .val (.ref r_1189), .val (.int (2 : Int32)), .unset] [(.int q3)]) (fun _ k => Xd180.caload hx (j := (3 : Int32)) (v := (.int q3)) (by rw [ed180]; exact Ar1198.1) (State.isArrayOf_alike hZd180.alike Ar1198.2.1) Ar1198.2.2 hi1198 (Has.at H1198 hi1198 rfl) (g := (mkF m 207 #[.val (.int p0), .val (.int p1), .val (.int p2), .val (.int p3), .val (.int (4 : Int32)), .val (.ref c1), .val (.ref r_1103), .val (.ref b1109), .val (.ref r_1189), .val (.int (2 : Int32)), .unset] [(.int (3 : Int32)), (.ref c1)])) rfl rfl (hb hby at_207) _ k) ?_
            refine WinW.to Td180 (mkF m 210 #[.val (.int p0), .val (.int p1), .val (.int p2), .val (.int p3), .val (.int (4 : Int32)), .val (.ref c1), .val (.ref r_1103), .val (.ref b1109), .val (.ref r_1189), .val (.int (2 : Int32)), .unset] [(.int (32 : Int32)), (.int q3)]) (fun _ k => XS.bipush Xd180.here hx rfl (hb hby at_208) k) ?_
            refine WinW.to Td180 (mkF m 216 #[.val (.int p0), .val (.int p1), .val (.int p2), .val (.int p3), .val (.int (4 : Int32)), .val (.ref c1), .val (.ref r_1103), .val (.ref b1109), .val (.ref r_1189), .val (.int (2 : Int32)), .unset] []) (fun _ k => XS.icmpYes Xd180.here hx rfl (pc0 := 210) (pc' := 216) rfl (hb hby at_210) rfl (feq (show ¬ (q3 = (32 : Int32)) from hq3)).2 (by decide) (by decide) k) ?_
            exact Jc216 _ _ Td180 _ h1189 (Xd180.mono (by decide) (by decide)) Nd180 ed180 O1192 K1193 hSd180 hkd180 hZd180 hownd180 Cd180 r_1189 (2 : Int32) t2_1189 k2_1189 1 (fun i => (fun i => ((fun i => ([q0, q1, q2, q3] : List Int32).getD i (0 : Int32)) i).toInt8.toInt32) (3 + i)) 4 3 (.val (.ref r_1103)) (.val (.ref b1109)) r1189_1 r1189_2 r1189_3 r1189_4 F1196 (by decide) (by decide) (by decide) ((fun i hi => by
              match i, hi with
              | 0, _ => exact (own_b255 hlq3 hcq3))) (by decide)
          refine WinW.to T1189 (mkF m 147 #[.val (.int p0), .val (.int p1), .val (.int p2), .val (.int p3), .val (.int (4 : Int32)), .val (.ref c1), .val (.ref r_1103), .val (.ref b1109), .val (.ref r_1189), .val (.int (-1 : Int32)), .unset] [(.int (4 : Int32))]) (fun _ k => XS.iload X1189.here hx rfl (hb hby at_145) rfl k) ?_
          refine WinW.to T1189 (mkF m 150 #[.val (.int p0), .val (.int p1), .val (.int p2), .val (.int p3), .val (.int (4 : Int32)), .val (.ref c1), .val (.ref r_1103), .val (.ref b1109), .val (.ref r_1189), .val (.int (-1 : Int32)), .unset] []) (fun _ k => XS.ifNo X1189.here hx rfl (hb hby at_147) rfl ((if0 _ _).trans (tlt (show (0 : Int32) < (4 : Int32) from by decide)).2.2.2) k) ?_
          refine WinW.to T1189 (mkF m 152 #[.val (.int p0), .val (.int p1), .val (.int p2), .val (.int p3), .val (.int (4 : Int32)), .val (.ref c1), .val (.ref r_1103), .val (.ref b1109), .val (.ref r_1189), .val (.int (-1 : Int32)), .unset] [(.ref c1)]) (fun _ k => XS.aload X1189.here hx rfl (hb hby at_150) rfl rfl k) ?_
          refine WinW.to T1189 (mkF m 153 #[.val (.int p0), .val (.int p1), .val (.int p2), .val (.int p3), .val (.int (4 : Int32)), .val (.ref c1), .val (.ref r_1103), .val (.ref b1109), .val (.ref r_1189), .val (.int (-1 : Int32)), .unset] [(.int (0 : Int32)), (.ref c1)]) (fun _ k => XS.iconst X1189.here hx rfl (hb hby at_152) k) ?_
          have F1199 : Arv Z h1189 c1 kc .char (4 : Int32) [(.int q0), (.int q1), (.int q2), (.int q3)] (.int (0 : Int32)) := ((((F1124.ext E1123).keep r1140_0 (ninS ne1125 nin0)).keep r1150_0 (ninS ne1111 nin0)).keep r1189_0 nin0)
          obtain ⟨cl1200, Ar1200, q1200, S1200, N1200, H1200, G1200⟩ := id F1199
          have hi1200 : ¬ ((0 : Int32) < 0 ∨ cl1200.slots.size ≤ ((0 : Int32)).toNatClampNeg) := inb_of S1200 ⟨by decide, by decide⟩
          refine WinW.to T1189 (mkF m 154 #[.val (.int p0), .val (.int p1), .val (.int p2), .val (.int p3), .val (.int (4 : Int32)), .val (.ref c1), .val (.ref r_1103), .val (.ref b1109), .val (.ref r_1189), .val (.int (-1 : Int32)), .unset] [(.int q0)]) (fun _ k => X1189.caload hx (j := (0 : Int32)) (v := (.int q0)) (by rw [e1189]; exact Ar1200.1) (State.isArrayOf_alike hZ1189.alike Ar1200.2.1) Ar1200.2.2 hi1200 (Has.at H1200 hi1200 rfl) (g := (mkF m 153 #[.val (.int p0), .val (.int p1), .val (.int p2), .val (.int p3), .val (.int (4 : Int32)), .val (.ref c1), .val (.ref r_1103), .val (.ref b1109), .val (.ref r_1189), .val (.int (-1 : Int32)), .unset] [(.int (0 : Int32)), (.ref c1)])) rfl rfl (hb hby at_153) _ k) ?_
          refine WinW.to T1189 (mkF m 156 #[.val (.int p0), .val (.int p1), .val (.int p2), .val (.int p3), .val (.int (4 : Int32)), .val (.ref c1), .val (.ref r_1103), .val (.ref b1109), .val (.ref r_1189), .val (.int (-1 : Int32)), .unset] [(.int (32 : Int32)), (.int q0)]) (fun _ k => XS.bipush X1189.here hx rfl (hb hby at_154) k) ?_
          by_cases hc1201 : q0 = (32 : Int32)
          · refine WinW.to T1189 (mkF m 159 #[.val (.int p0), .val (.int p1), .val (.int p2), .val (.int p3), .val (.int (4 : Int32)), .val (.ref c1), .val (.ref r_1103), .val (.ref b1109), .val (.ref r_1189), .val (.int (-1 : Int32)), .unset] []) (fun _ k => XS.icmpNo X1189.here hx rfl (hb hby at_156) rfl (teq hc1201).2 k) ?_
            refine WinW.to T1189 (mkF m 160 #[.val (.int p0), .val (.int p1), .val (.int p2), .val (.int p3), .val (.int (4 : Int32)), .val (.ref c1), .val (.ref r_1103), .val (.ref b1109), .val (.ref r_1189), .val (.int (-1 : Int32)), .unset] [(.int (0 : Int32))]) (fun _ k => XS.iconst X1189.here hx rfl (hb hby at_159) k) ?_
            refine WinW.to T1189 (mkF m 162 #[.val (.int p0), .val (.int p1), .val (.int p2), .val (.int p3), .val (.int (4 : Int32)), .val (.ref c1), .val (.ref r_1103), .val (.ref b1109), .val (.ref r_1189), .val (.int (0 : Int32)), .unset] []) (fun _ k => XS.istore X1189.here hx rfl (hb hby at_160) rfl (l' := #[.val (.int p0), .val (.int p1), .val (.int p2), .val (.int p3), .val (.int (4 : Int32)), .val (.ref c1), .val (.ref r_1103), .val (.ref b1109), .val (.ref r_1189), .val (.int (0 : Int32)), .unset]) rfl k) ?_
            refine WinW.to T1189 (mkF m 164 #[.val (.int p0), .val (.int p1), .val (.int p2), .val (.int p3), .val (.int (4 : Int32)), .val (.ref c1), .val (.ref r_1103), .val (.ref b1109), .val (.ref r_1189), .val (.int (0 : Int32)), .unset] [(.int (4 : Int32))]) (fun _ k => XS.iload X1189.here hx rfl (hb hby at_162) rfl k) ?_
            refine WinW.to T1189 (mkF m 165 #[.val (.int p0), .val (.int p1), .val (.int p2), .val (.int p3), .val (.int (4 : Int32)), .val (.ref c1), .val (.ref r_1103), .val (.ref b1109), .val (.ref r_1189), .val (.int (0 : Int32)), .unset] [(.int (1 : Int32)), (.int (4 : Int32))]) (fun _ k => XS.iconst X1189.here hx rfl (hb hby at_164) k) ?_
            refine WinW.to T1189 (mkF m 168 #[.val (.int p0), .val (.int p1), .val (.int p2), .val (.int p3), .val (.int (4 : Int32)), .val (.ref c1), .val (.ref r_1103), .val (.ref b1109), .val (.ref r_1189), .val (.int (0 : Int32)), .unset] []) (fun _ k => XS.icmpNo X1189.here hx rfl (hb hby at_165) rfl (tlt (show (1 : Int32) < (4 : Int32) from by decide)).2.2.2 k) ?_
            refine WinW.to T1189 (mkF m 170 #[.val (.int p0), .val (.int p1), .val (.int p2), .val (.int p3), .val (.int (4 : Int32)), .val (.ref c1), .val (.ref r_1103), .val (.ref b1109), .val (.ref r_1189), .val (.int (0 : Int32)), .unset] [(.ref c1)]) (fun _ k => XS.aload X1189.here hx rfl (hb hby at_168) rfl rfl k) ?_
            refine WinW.to T1189 (mkF m 171 #[.val (.int p0), .val (.int p1), .val (.int p2), .val (.int p3), .val (.int (4 : Int32)), .val (.ref c1), .val (.ref r_1103), .val (.ref b1109), .val (.ref r_1189), .val (.int (0 : Int32)), .unset] [(.int (1 : Int32)), (.ref c1)]) (fun _ k => XS.iconst X1189.here hx rfl (hb hby at_170) k) ?_
            obtain ⟨cl1202, Ar1202, q1202, S1202, N1202, H1202, G1202⟩ := id F1199
            have hi1202 : ¬ ((1 : Int32) < 0 ∨ cl1202.slots.size ≤ ((1 : Int32)).toNatClampNeg) := inb_of S1202 ⟨by decide, by decide⟩
            refine WinW.to T1189 (mkF m 172 #[.val (.int p0), .val (.int p1), .val (.int p2), .val (.int p3), .val (.int (4 : Int32)), .val (.ref c1), .val (.ref r_1103), .val (.ref b1109), .val (.ref r_1189), .val (.int (0 : Int32)), .unset] [(.int q1)]) (fun _ k => X1189.caload hx (j := (1 : Int32)) (v := (.int q1)) (by rw [e1189]; exact Ar1202.1) (State.isArrayOf_alike hZ1189.alike Ar1202.2.1) Ar1202.2.2 hi1202 (Has.at H1202 hi1202 rfl) (g := (mkF m 171 #[.val (.int p0), .val (.int p1), .val (.int p2), .val (.int p3), .val (.int (4 : Int32)), .val (.ref c1), .val (.ref r_1103), .val (.ref b1109), .val (.ref r_1189), .val (.int (0 : Int32)), .unset] [(.int (1 : Int32)), (.ref c1)])) rfl rfl (hb hby at_171) _ k) ?_
            refine WinW.to T1189 (mkF m 174 #[.val (.int p0), .val (.int p1), .val (.int p2), .val (.int p3), .val (.int (4 : Int32)), .val (.ref c1), .val (.ref r_1103), .val (.ref b1109), .val (.ref r_1189), .val (.int (0 : Int32)), .unset] [(.int (32 : Int32)), (.int q1)]) (fun _ k => XS.bipush X1189.here hx rfl (hb hby at_172) k) ?_
            by_cases hc1203 : q1 = (32 : Int32)
            · refine WinW.to T1189 (mkF m 177 #[.val (.int p0), .val (.int p1), .val (.int p2), .val (.int p3), .val (.int (4 : Int32)), .val (.ref c1), .val (.ref r_1103), .val (.ref b1109), .val (.ref r_1189), .val (.int (0 : Int32)), .unset] []) (fun _ k => XS.icmpNo X1189.here hx rfl (hb hby at_174) rfl (teq hc1203).2 k) ?_
              refine WinW.to T1189 (mkF m 178 #[.val (.int p0), .val (.int p1), .val (.int p2), .val (.int p3), .val (.int (4 : Int32)), .val (.ref c1), .val (.ref r_1103), .val (.ref b1109), .val (.ref r_1189), .val (.int (0 : Int32)), .unset] [(.int (1 : Int32))]) (fun _ k => XS.iconst X1189.here hx rfl (hb hby at_177) k) ?_
              refine WinW.to T1189 (mkF m 180 #[.val (.int p0), .val (.int p1), .val (.int p2), .val (.int p3), .val (.int (4 : Int32)), .val (.ref c1), .val (.ref r_1103), .val (.ref b1109), .val (.ref r_1189), .val (.int (1 : Int32)), .unset] []) (fun _ k => XS.istore X1189.here hx rfl (hb hby at_178) rfl (l' := #[.val (.int p0), .val (.int p1), .val (.int p2), .val (.int p3), .val (.int (4 : Int32)), .val (.ref c1), .val (.ref r_1103), .val (.ref b1109), .val (.ref r_1189), .val (.int (1 : Int32)), .unset]) rfl k) ?_
              exact Jd180 _ _ T1189 _ X1189 N1191 e1189 hS1189 hk1189 hZ1189 hown1189 C1195 (1 : Int32)
            · refine WinW.to T1189 (mkF m 180 #[.val (.int p0), .val (.int p1), .val (.int p2), .val (.int p3), .val (.int (4 : Int32)), .val (.ref c1), .val (.ref r_1103), .val (.ref b1109), .val (.ref r_1189), .val (.int (0 : Int32)), .unset] []) (fun _ k => XS.icmpYes X1189.here hx rfl (pc0 := 174) (pc' := 180) rfl (hb hby at_174) rfl (feq hc1203).2 (by decide) (by decide) k) ?_
              exact Jd180 _ _ T1189 _ X1189 N1191 e1189 hS1189 hk1189 hZ1189 hown1189 C1195 (0 : Int32)
          · refine WinW.to T1189 (mkF m 162 #[.val (.int p0), .val (.int p1), .val (.int p2), .val (.int p3), .val (.int (4 : Int32)), .val (.ref c1), .val (.ref r_1103), .val (.ref b1109), .val (.ref r_1189), .val (.int (-1 : Int32)), .unset] []) (fun _ k => XS.icmpYes X1189.here hx rfl (pc0 := 156) (pc' := 162) rfl (hb hby at_156) rfl (feq hc1201).2 (by decide) (by decide) k) ?_
            refine WinW.to T1189 (mkF m 164 #[.val (.int p0), .val (.int p1), .val (.int p2), .val (.int p3), .val (.int (4 : Int32)), .val (.ref c1), .val (.ref r_1103), .val (.ref b1109), .val (.ref r_1189), .val (.int (-1 : Int32)), .unset] [(.int (4 : Int32))]) (fun _ k => XS.iload X1189.here hx rfl (hb hby at_162) rfl k) ?_
            refine WinW.to T1189 (mkF m 165 #[.val (.int p0), .val (.int p1), .val (.int p2), .val (.int p3), .val (.int (4 : Int32)), .val (.ref c1), .val (.ref r_1103), .val (.ref b1109), .val (.ref r_1189), .val (.int (-1 : Int32)), .unset] [(.int (1 : Int32)), (.int (4 : Int32))]) (fun _ k => XS.iconst X1189.here hx rfl (hb hby at_164) k) ?_
            refine WinW.to T1189 (mkF m 168 #[.val (.int p0), .val (.int p1), .val (.int p2), .val (.int p3), .val (.int (4 : Int32)), .val (.ref c1), .val (.ref r_1103), .val (.ref b1109), .val (.ref r_1189), .val (.int (-1 : Int32)), .unset] []) (fun _ k => XS.icmpNo X1189.here hx rfl (hb hby at_165) rfl (tlt (show (1 : Int32) < (4 : Int32) from by decide)).2.2.2 k) ?_
            refine WinW.to T1189 (mkF m 170 #[.val (.int p0), .val (.int p1), .val (.int p2), .val (.int p3), .val (.int (4 : Int32)), .val (.ref c1), .val (.ref r_1103), .val (.ref b1109), .val (.ref r_1189), .val (.int (-1 : Int32)), .unset] [(.ref c1)]) (fun _ k => XS.aload X1189.here hx rfl (hb hby at_168) rfl rfl k) ?_
            refine WinW.to T1189 (mkF m 171 #[.val (.int p0), .val (.int p1), .val (.int p2), .val (.int p3), .val (.int (4 : Int32)), .val (.ref c1), .val (.ref r_1103), .val (.ref b1109), .val (.ref r_1189), .val (.int (-1 : Int32)), .unset] [(.int (1 : Int32)), (.ref c1)]) (fun _ k => XS.iconst X1189.here hx rfl (hb hby at_170) k) ?_
            obtain ⟨cl1204, Ar1204, q1204, S1204, N1204, H1204, G1204⟩ := id F1199
            have hi1204 : ¬ ((1 : Int32) < 0 ∨ cl1204.slots.size ≤ ((1 : Int32)).toNatClampNeg) := inb_of S1204 ⟨by decide, by decide⟩
            refine WinW.to T1189 (mkF m 172 #[.val (.int p0), .val (.int p1), .val (.int p2), .val (.int p3), .val (.int (4 : Int32)), .val (.ref c1), .val (.ref r_1103), .val (.ref b1109), .val (.ref r_1189), .val (.int (-1 : Int32)), .unset] [(.int q1)]) (fun _ k => X1189.caload hx (j := (1 : Int32)) (v := (.int q1)) (by rw [e1189]; exact Ar1204.1) (State.isArrayOf_alike hZ1189.alike Ar1204.2.1) Ar1204.2.2 hi1204 (Has.at H1204 hi1204 rfl) (g := (mkF m 171 #[.val (.int p0), .val (.int p1), .val (.int p2), .val (.int p3), .val (.int (4 : Int32)), .val (.ref c1), .val (.ref r_1103), .val (.ref b1109), .val (.ref r_1189), .val (.int (-1 : Int32)), .unset] [(.int (1 : Int32)), (.ref c1)])) rfl rfl (hb hby at_171) _ k) ?_
            refine WinW.to T1189 (mkF m 174 #[.val (.int p0), .val (.int p1), .val (.int p2), .val (.int p3), .val (.int (4 : Int32)), .val (.ref c1), .val (.ref r_1103), .val (.ref b1109), .val (.ref r_1189), .val (.int (-1 : Int32)), .unset] [(.int (32 : Int32)), (.int q1)]) (fun _ k => XS.bipush X1189.here hx rfl (hb hby at_172) k) ?_
            by_cases hc1205 : q1 = (32 : Int32)
            · refine WinW.to T1189 (mkF m 177 #[.val (.int p0), .val (.int p1), .val (.int p2), .val (.int p3), .val (.int (4 : Int32)), .val (.ref c1), .val (.ref r_1103), .val (.ref b1109), .val (.ref r_1189), .val (.int (-1 : Int32)), .unset] []) (fun _ k => XS.icmpNo X1189.here hx rfl (hb hby at_174) rfl (teq hc1205).2 k) ?_
              refine WinW.to T1189 (mkF m 178 #[.val (.int p0), .val (.int p1), .val (.int p2), .val (.int p3), .val (.int (4 : Int32)), .val (.ref c1), .val (.ref r_1103), .val (.ref b1109), .val (.ref r_1189), .val (.int (-1 : Int32)), .unset] [(.int (1 : Int32))]) (fun _ k => XS.iconst X1189.here hx rfl (hb hby at_177) k) ?_
              refine WinW.to T1189 (mkF m 180 #[.val (.int p0), .val (.int p1), .val (.int p2), .val (.int p3), .val (.int (4 : Int32)), .val (.ref c1), .val (.ref r_1103), .val (.ref b1109), .val (.ref r_1189), .val (.int (1 : Int32)), .unset] []) (fun _ k => XS.istore X1189.here hx rfl (hb hby at_178) rfl (l' := #[.val (.int p0), .val (.int p1), .val (.int p2), .val (.int p3), .val (.int (4 : Int32)), .val (.ref c1), .val (.ref r_1103), .val (.ref b1109), .val (.ref r_1189), .val (.int (1 : Int32)), .unset]) rfl k) ?_
              exact Jd180 _ _ T1189 _ X1189 N1191 e1189 hS1189 hk1189 hZ1189 hown1189 C1195 (1 : Int32)
            · refine WinW.to T1189 (mkF m 180 #[.val (.int p0), .val (.int p1), .val (.int p2), .val (.int p3), .val (.int (4 : Int32)), .val (.ref c1), .val (.ref r_1103), .val (.ref b1109), .val (.ref r_1189), .val (.int (-1 : Int32)), .unset] []) (fun _ k => XS.icmpYes X1189.here hx rfl (pc0 := 174) (pc' := 180) rfl (hb hby at_174) rfl (feq hc1205).2 (by decide) (by decide) k) ?_
              exact Jd180 _ _ T1189 _ X1189 N1191 e1189 hS1189 hk1189 hZ1189 hown1189 C1195 (-1 : Int32)
        · by_cases hq1 : q1 = (32 : Int32)
          · refine WinW.to T1150 (mkF m 137 #[.val (.int p0), .val (.int p1), .val (.int p2), .val (.int p3), .val (.int (4 : Int32)), .val (.ref c1), .val (.ref r_1103), .val (.ref b1109), .unset, .unset, .unset] [(.ref b1109)]) (fun _ k => XS.aload X1150.here hx rfl (hb hby at_135) rfl rfl k) ?_
            have F1206 : Exa Z h1150 r_1103 "java/lang/String" := (((Exa.ext E1123 F1126).keep r1140_0).keep r1150_0)
            have F1207 : Fld Z h1150 r_1103 "java/lang/String" "value" "[B" (.ref t_1103) := (((Fld.ext E1123 (Fld.ext E1109 r1103_2)).keep r1140_0 (ninS ne1127 nin0)).keep r1150_0 (ninS ne1112 nin0))
            have F1208 : Fld Z h1150 r_1103 "java/lang/String" "coder" "B" (.int (0 : Int32)) := (((Fld.ext E1123 (Fld.ext E1109 r1103_3)).keep r1140_0 (ninS ne1127 nin0)).keep r1150_0 (ninS ne1112 nin0))
            have F1209 : ArF Z h1150 t_1103 kb_1103 .byte 4 (fun i => ((fun i => ([q0, q1, q2, q3] : List Int32).getD i (0 : Int32)) i).toInt8.toInt32) := (((F1128.ext E1123).keep r1140_0 (ninS ne1129 nin0)).keep r1150_0 (ninS ne1113 nin0))
            have F1211 : Exa Z h1150 b1109 "com/example/grantgate/grantgate/server/MessageReader$Head" := (F1147.keep r1150_0)
            obtain ⟨T1210, h1210, v1210, L1210, k1210, X1210, e1210, hS1210, hk1210, hZ1210, hown1210, ⟨r_1210, t2_1210, k2_1210, rfl, N1210q, r1210_0, r1210_1, r1210_2, r1210_3, r1210_4⟩, c1210, st1210⟩ := W.virtual X1150 hS1103 hk1153 hx hZ1103 (y := (⟨"com/example/grantgate/grantgate/server/MessageReader$Head", "version", "()Ljava/lang/String;"⟩ : MethodName)) (z := (⟨"com/example/grantgate/grantgate/server/MessageReader$Head", "version", "()Ljava/lang/String;"⟩ : MethodName)) hown1103 (wk hw 67 rfl) (wk hw 68 rfl) (notFace_of_selects (args := #[]) (mvT hZ1103 (wk hw 70 rfl))) (wk hw 70 rfl) (wk hw 69 rfl) (wk hw 29 rfl) (wk hw 71 rfl) (by decide) (headV l Z a0 hw b1109 r_1103 t_1103 kb_1103 4 (fun i => ((fun i => ([q0, q1, q2, q3] : List Int32).getD i (0 : Int32)) i).toInt8.toInt32) 2 cs x1 h1150 n0 O1152 r1150_1 F1206 F1207 F1208 F1209 (by decide) ((fun i hb hi => by
              match i, hb, hi with
              | 0, hb, _ => exact absurd hb (by decide)
              | 1, hb, _ => exact absurd hb (by decide)
              | 2, hb, _ => exact (own_sp2 hlq2 hcq2 hq2)
              | 3, hb, _ => exact (own_sp2 hlq3 hcq3 hq3))) (fun _ => (show q1.toInt8.toInt32 = (32 : Int32) from by rw [hq1]; decide)) (by decide) S_CS hcs S_SI hx1) (own_EW hw) C1156.1 e1150 F1211 (g := (mkF m 137 #[.val (.int p0), .val (.int p1), .val (.int p2), .val (.int p3), .val (.int (4 : Int32)), .val (.ref c1), .val (.ref r_1103), .val (.ref b1109), .unset, .unset, .unset] [(.ref b1109)])) rfl (by rw [hml]; rfl) (argsL := []) (rest := []) rfl (lenOf pd___Ljava_lang_String_ rfl) rfl (W := 0) (by show 2 * 0 + _ ≤ _; exact Nat.le_of_eq rfl) (hb hby at_137) (by decide) (by decide) (by decide) (by decide)
            have N1212 := Fr.app N1151 N1210q
            have O1213 := Old.keep O1152 r1210_0 all0
            have K1214 : Keep h0 h1210 [] := Keep.trans K1154 r1210_0 all0
            have c1215 := c1210
            have C1216 := CHr.trans C1156 c1215
            refine WinW.to T1210 (mkF m 140 #[.val (.int p0), .val (.int p1), .val (.int p2), .val (.int p3), .val (.int (4 : Int32)), .val (.ref c1), .val (.ref r_1103), .val (.ref b1109), .unset, .unset, .unset] [(.ref r_1210)]) (fun _ k => st1210 _ k) ?_
            refine WinW.to T1210 (mkF m 142 #[.val (.int p0), .val (.int p1), .val (.int p2), .val (.int p3), .val (.int (4 : Int32)), .val (.ref c1), .val (.ref r_1103), .val (.ref b1109), .val (.ref r_1210), .unset, .unset] []) (fun _ k => XS.astore X1210.here hx rfl (hb hby at_140) rfl rfl (l' := #[.val (.int p0), .val (.int p1), .val (.int p2), .val (.int p3), .val (.int (4 : Int32)), .val (.ref c1), .val (.ref r_1103), .val (.ref b1109), .val (.ref r_1210), .unset, .unset]) rfl k) ?_
            refine WinW.to T1210 (mkF m 143 #[.val (.int p0), .val (.int p1), .val (.int p2), .val (.int p3), .val (.int (4 : Int32)), .val (.ref c1), .val (.ref r_1103), .val (.ref b1109), .val (.ref r_1210), .unset, .unset] [(.int (-1 : Int32))]) (fun _ k => XS.iconst X1210.here hx rfl (hb hby at_142) k) ?_
            refine WinW.to T1210 (mkF m 145 #[.val (.int p0), .val (.int p1), .val (.int p2), .val (.int p3), .val (.int (4 : Int32)), .val (.ref c1), .val (.ref r_1103), .val (.ref b1109), .val (.ref r_1210), .val (.int (-1 : Int32)), .unset] []) (fun _ k => XS.istore X1210.here hx rfl (hb hby at_143) rfl (l' := #[.val (.int p0), .val (.int p1), .val (.int p2), .val (.int p3), .val (.int (4 : Int32)), .val (.ref c1), .val (.ref r_1103), .val (.ref b1109), .val (.ref r_1210), .val (.int (-1 : Int32)), .unset]) rfl k) ?_
            have Jd162 : ∀ (vmd162 : Vm) (kd162 : Nat) (Td162 : State) (locsd162 : List Loc) (Xd162 : Stand p l e room_1 (s.setVm vmd162) m #[(.int p0), (.int p1), (.int p2), (.int p3)] below meth c Td162 locsd162 11 33) (Nd162 : Fr n0 locsd162) (ed162 : Td162.heap = h1210) (hSd162 : s.Since vmd162 kd162) (hkd162 : kd162 ≤ h1210.size) (hZd162 : Z.Warmed39 (s.setVm vmd162).vm) (hownd162 : (s.setVm vmd162).vm.findClass "com/example/grantgate/grantgate/server/HeadVersionPinLaw" = some m.cls) (Cd162 : CHr Z EL1 s.vm s.heap vmd162 h1210) (pg : Int32) , WinW p e below s room_1 Z EL1 (fun v h L => v = some (.int (1 : Int32)) ∧ Fr n0 L ∧ (True)) (Td162.setTop (mkF m 162 #[.val (.int p0), .val (.int p1), .val (.int p2), .val (.int p3), .val (.int (4 : Int32)), .val (.ref c1), .val (.ref r_1103), .val (.ref b1109), .val (.ref r_1210), .val (.int pg), .unset] [])) := by
              intro vmd162 kd162 Td162 locsd162 Xd162 Nd162 ed162 hSd162 hkd162 hZd162 hownd162 Cd162 pg
              refine WinW.to Td162 (mkF m 164 #[.val (.int p0), .val (.int p1), .val (.int p2), .val (.int p3), .val (.int (4 : Int32)), .val (.ref c1), .val (.ref r_1103), .val (.ref b1109), .val (.ref r_1210), .val (.int pg), .unset] [(.int (4 : Int32))]) (fun _ k => XS.iload Xd162.here hx rfl (hb hby at_162) rfl k) ?_
              refine WinW.to Td162 (mkF m 165 #[.val (.int p0), .val (.int p1), .val (.int p2), .val (.int p3), .val (.int (4 : Int32)), .val (.ref c1), .val (.ref r_1103), .val (.ref b1109), .val (.ref r_1210), .val (.int pg), .unset] [(.int (1 : Int32)), (.int (4 : Int32))]) (fun _ k => XS.iconst Xd162.here hx rfl (hb hby at_164) k) ?_
              refine WinW.to Td162 (mkF m 168 #[.val (.int p0), .val (.int p1), .val (.int p2), .val (.int p3), .val (.int (4 : Int32)), .val (.ref c1), .val (.ref r_1103), .val (.ref b1109), .val (.ref r_1210), .val (.int pg), .unset] []) (fun _ k => XS.icmpNo Xd162.here hx rfl (hb hby at_165) rfl (tlt (show (1 : Int32) < (4 : Int32) from by decide)).2.2.2 k) ?_
              refine WinW.to Td162 (mkF m 170 #[.val (.int p0), .val (.int p1), .val (.int p2), .val (.int p3), .val (.int (4 : Int32)), .val (.ref c1), .val (.ref r_1103), .val (.ref b1109), .val (.ref r_1210), .val (.int pg), .unset] [(.ref c1)]) (fun _ k => XS.aload Xd162.here hx rfl (hb hby at_168) rfl rfl k) ?_
              refine WinW.to Td162 (mkF m 171 #[.val (.int p0), .val (.int p1), .val (.int p2), .val (.int p3), .val (.int (4 : Int32)), .val (.ref c1), .val (.ref r_1103), .val (.ref b1109), .val (.ref r_1210), .val (.int pg), .unset] [(.int (1 : Int32)), (.ref c1)]) (fun _ k => XS.iconst Xd162.here hx rfl (hb hby at_170) k) ?_
              have F1217 : Arv Z h1210 c1 kc .char (4 : Int32) [(.int q0), (.int q1), (.int q2), (.int q3)] (.int (0 : Int32)) := ((((F1124.ext E1123).keep r1140_0 (ninS ne1125 nin0)).keep r1150_0 (ninS ne1111 nin0)).keep r1210_0 nin0)
              obtain ⟨cl1218, Ar1218, q1218, S1218, N1218, H1218, G1218⟩ := id F1217
              have hi1218 : ¬ ((1 : Int32) < 0 ∨ cl1218.slots.size ≤ ((1 : Int32)).toNatClampNeg) := inb_of S1218 ⟨by decide, by decide⟩
              refine WinW.to Td162 (mkF m 172 #[.val (.int p0), .val (.int p1), .val (.int p2), .val (.int p3), .val (.int (4 : Int32)), .val (.ref c1), .val (.ref r_1103), .val (.ref b1109), .val (.ref r_1210), .val (.int pg), .unset] [(.int q1)]) (fun _ k => Xd162.caload hx (j := (1 : Int32)) (v := (.int q1)) (by rw [ed162]; exact Ar1218.1) (State.isArrayOf_alike hZd162.alike Ar1218.2.1) Ar1218.2.2 hi1218 (Has.at H1218 hi1218 rfl) (g := (mkF m 171 #[.val (.int p0), .val (.int p1), .val (.int p2), .val (.int p3), .val (.int (4 : Int32)), .val (.ref c1), .val (.ref r_1103), .val (.ref b1109), .val (.ref r_1210), .val (.int pg), .unset] [(.int (1 : Int32)), (.ref c1)])) rfl rfl (hb hby at_171) _ k) ?_
              refine WinW.to Td162 (mkF m 174 #[.val (.int p0), .val (.int p1), .val (.int p2), .val (.int p3), .val (.int (4 : Int32)), .val (.ref c1), .val (.ref r_1103), .val (.ref b1109), .val (.ref r_1210), .val (.int pg), .unset] [(.int (32 : Int32)), (.int q1)]) (fun _ k => XS.bipush Xd162.here hx rfl (hb hby at_172) k) ?_
              refine WinW.to Td162 (mkF m 177 #[.val (.int p0), .val (.int p1), .val (.int p2), .val (.int p3), .val (.int (4 : Int32)), .val (.ref c1), .val (.ref r_1103), .val (.ref b1109), .val (.ref r_1210), .val (.int pg), .unset] []) (fun _ k => XS.icmpNo Xd162.here hx rfl (hb hby at_174) rfl (teq (show q1 = (32 : Int32) from hq1)).2 k) ?_
              refine WinW.to Td162 (mkF m 178 #[.val (.int p0), .val (.int p1), .val (.int p2), .val (.int p3), .val (.int (4 : Int32)), .val (.ref c1), .val (.ref r_1103), .val (.ref b1109), .val (.ref r_1210), .val (.int pg), .unset] [(.int (1 : Int32))]) (fun _ k => XS.iconst Xd162.here hx rfl (hb hby at_177) k) ?_
              refine WinW.to Td162 (mkF m 180 #[.val (.int p0), .val (.int p1), .val (.int p2), .val (.int p3), .val (.int (4 : Int32)), .val (.ref c1), .val (.ref r_1103), .val (.ref b1109), .val (.ref r_1210), .val (.int (1 : Int32)), .unset] []) (fun _ k => XS.istore Xd162.here hx rfl (hb hby at_178) rfl (l' := #[.val (.int p0), .val (.int p1), .val (.int p2), .val (.int p3), .val (.int (4 : Int32)), .val (.ref c1), .val (.ref r_1103), .val (.ref b1109), .val (.ref r_1210), .val (.int (1 : Int32)), .unset]) rfl k) ?_
              refine WinW.to Td162 (mkF m 182 #[.val (.int p0), .val (.int p1), .val (.int p2), .val (.int p3), .val (.int (4 : Int32)), .val (.ref c1), .val (.ref r_1103), .val (.ref b1109), .val (.ref r_1210), .val (.int (1 : Int32)), .unset] [(.int (4 : Int32))]) (fun _ k => XS.iload Xd162.here hx rfl (hb hby at_180) rfl k) ?_
              refine WinW.to Td162 (mkF m 183 #[.val (.int p0), .val (.int p1), .val (.int p2), .val (.int p3), .val (.int (4 : Int32)), .val (.ref c1), .val (.ref r_1103), .val (.ref b1109), .val (.ref r_1210), .val (.int (1 : Int32)), .unset] [(.int (2 : Int32)), (.int (4 : Int32))]) (fun _ k => XS.iconst Xd162.here hx rfl (hb hby at_182) k) ?_
              refine WinW.to Td162 (mkF m 186 #[.val (.int p0), .val (.int p1), .val (.int p2), .val (.int p3), .val (.int (4 : Int32)), .val (.ref c1), .val (.ref r_1103), .val (.ref b1109), .val (.ref r_1210), .val (.int (1 : Int32)), .unset] []) (fun _ k => XS.icmpNo Xd162.here hx rfl (hb hby at_183) rfl (tlt (show (2 : Int32) < (4 : Int32) from by decide)).2.2.2 k) ?_
              refine WinW.to Td162 (mkF m 188 #[.val (.int p0), .val (.int p1), .val (.int p2), .val (.int p3), .val (.int (4 : Int32)), .val (.ref c1), .val (.ref r_1103), .val (.ref b1109), .val (.ref r_1210), .val (.int (1 : Int32)), .unset] [(.ref c1)]) (fun _ k => XS.aload Xd162.here hx rfl (hb hby at_186) rfl rfl k) ?_
              refine WinW.to Td162 (mkF m 189 #[.val (.int p0), .val (.int p1), .val (.int p2), .val (.int p3), .val (.int (4 : Int32)), .val (.ref c1), .val (.ref r_1103), .val (.ref b1109), .val (.ref r_1210), .val (.int (1 : Int32)), .unset] [(.int (2 : Int32)), (.ref c1)]) (fun _ k => XS.iconst Xd162.here hx rfl (hb hby at_188) k) ?_
              obtain ⟨cl1219, Ar1219, q1219, S1219, N1219, H1219, G1219⟩ := id F1217
              have hi1219 : ¬ ((2 : Int32) < 0 ∨ cl1219.slots.size ≤ ((2 : Int32)).toNatClampNeg) := inb_of S1219 ⟨by decide, by decide⟩
              refine WinW.to Td162 (mkF m 190 #[.val (.int p0), .val (.int p1), .val (.int p2), .val (.int p3), .val (.int (4 : Int32)), .val (.ref c1), .val (.ref r_1103), .val (.ref b1109), .val (.ref r_1210), .val (.int (1 : Int32)), .unset] [(.int q2)]) (fun _ k => Xd162.caload hx (j := (2 : Int32)) (v := (.int q2)) (by rw [ed162]; exact Ar1219.1) (State.isArrayOf_alike hZd162.alike Ar1219.2.1) Ar1219.2.2 hi1219 (Has.at H1219 hi1219 rfl) (g := (mkF m 189 #[.val (.int p0), .val (.int p1), .val (.int p2), .val (.int p3), .val (.int (4 : Int32)), .val (.ref c1), .val (.ref r_1103), .val (.ref b1109), .val (.ref r_1210), .val (.int (1 : Int32)), .unset] [(.int (2 : Int32)), (.ref c1)])) rfl rfl (hb hby at_189) _ k) ?_
              refine WinW.to Td162 (mkF m 192 #[.val (.int p0), .val (.int p1), .val (.int p2), .val (.int p3), .val (.int (4 : Int32)), .val (.ref c1), .val (.ref r_1103), .val (.ref b1109), .val (.ref r_1210), .val (.int (1 : Int32)), .unset] [(.int (32 : Int32)), (.int q2)]) (fun _ k => XS.bipush Xd162.here hx rfl (hb hby at_190) k) ?_
              refine WinW.to Td162 (mkF m 198 #[.val (.int p0), .val (.int p1), .val (.int p2), .val (.int p3), .val (.int (4 : Int32)), .val (.ref c1), .val (.ref r_1103), .val (.ref b1109), .val (.ref r_1210), .val (.int (1 : Int32)), .unset] []) (fun _ k => XS.icmpYes Xd162.here hx rfl (pc0 := 192) (pc' := 198) rfl (hb hby at_192) rfl (feq (show ¬ (q2 = (32 : Int32)) from hq2)).2 (by decide) (by decide) k) ?_
              refine WinW.to Td162 (mkF m 200 #[.val (.int p0), .val (.int p1), .val (.int p2), .val (.int p3), .val (.int (4 : Int32)), .val (.ref c1), .val (.ref r_1103), .val (.ref b1109), .val (.ref r_1210), .val (.int (1 : Int32)), .unset] [(.int (4 : Int32))]) (fun _ k => XS.iload Xd162.here hx rfl (hb hby at_198) rfl k) ?_
              refine WinW.to Td162 (mkF m 201 #[.val (.int p0), .val (.int p1), .val (.int p2), .val (.int p3), .val (.int (4 : Int32)), .val (.ref c1), .val (.ref r_1103), .val (.ref b1109), .val (.ref r_1210), .val (.int (1 : Int32)), .unset] [(.int (3 : Int32)), (.int (4 : Int32))]) (fun _ k => XS.iconst Xd162.here hx rfl (hb hby at_200) k) ?_
              refine WinW.to Td162 (mkF m 204 #[.val (.int p0), .val (.int p1), .val (.int p2), .val (.int p3), .val (.int (4 : Int32)), .val (.ref c1), .val (.ref r_1103), .val (.ref b1109), .val (.ref r_1210), .val (.int (1 : Int32)), .unset] []) (fun _ k => XS.icmpNo Xd162.here hx rfl (hb hby at_201) rfl (tlt (show (3 : Int32) < (4 : Int32) from by decide)).2.2.2 k) ?_
              refine WinW.to Td162 (mkF m 206 #[.val (.int p0), .val (.int p1), .val (.int p2), .val (.int p3), .val (.int (4 : Int32)), .val (.ref c1), .val (.ref r_1103), .val (.ref b1109), .val (.ref r_1210), .val (.int (1 : Int32)), .unset] [(.ref c1)]) (fun _ k => XS.aload Xd162.here hx rfl (hb hby at_204) rfl rfl k) ?_
              refine WinW.to Td162 (mkF m 207 #[.val (.int p0), .val (.int p1), .val (.int p2), .val (.int p3), .val (.int (4 : Int32)), .val (.ref c1), .val (.ref r_1103), .val (.ref b1109), .val (.ref r_1210), .val (.int (1 : Int32)), .unset] [(.int (3 : Int32)), (.ref c1)]) (fun _ k => XS.iconst Xd162.here hx rfl (hb hby at_206) k) ?_
              obtain ⟨cl1220, Ar1220, q1220, S1220, N1220, H1220, G1220⟩ := id F1217
              have hi1220 : ¬ ((3 : Int32) < 0 ∨ cl1220.slots.size ≤ ((3 : Int32)).toNatClampNeg) := inb_of S1220 ⟨by decide, by decide⟩
              refine WinW.to Td162 (mkF m 208 #[.val (.int p0), .val (.int p1), .val (.int p2), .val (.int p3), .val (.int (4 : Int32)), .val (.ref c1), .val (.ref r_1103), .val (.ref b1109), .val (.ref r_1210), .val (.int (1 : Int32)), .unset] [(.int q3)]) (fun _ k => Xd162.caload hx (j := (3 : Int32)) (v := (.int q3)) (by rw [ed162]; exact Ar1220.1) (State.isArrayOf_alike hZd162.alike Ar1220.2.1) Ar1220.2.2 hi1220 (Has.at H1220 hi1220 rfl) (g := (mkF m 207 #[.val (.int p0), .val (.int p1), .val (.int p2), .val (.int p3), .val (.int (4 : Int32)), .val (.ref c1), .val (.ref r_1103), .val (.ref b1109), .val (.ref r_1210), .val (.int (1 : Int32)), .unset] [(.int (3 : Int32)), (.ref c1)])) rfl rfl (hb hby at_207) _ k) ?_
              refine WinW.to Td162 (mkF m 210 #[.val (.int p0), .val (.int p1), .val (.int p2), .val (.int p3), .val (.int (4 : Int32)), .val (.ref c1), .val (.ref r_1103), .val (.ref b1109), .val (.ref r_1210), .val (.int (1 : Int32)), .unset] [(.int (32 : Int32)), (.int q3)]) (fun _ k => XS.bipush Xd162.here hx rfl (hb hby at_208) k) ?_
              refine WinW.to Td162 (mkF m 216 #[.val (.int p0), .val (.int p1), .val (.int p2), .val (.int p3), .val (.int (4 : Int32)), .val (.ref c1), .val (.ref r_1103), .val (.ref b1109), .val (.ref r_1210), .val (.int (1 : Int32)), .unset] []) (fun _ k => XS.icmpYes Xd162.here hx rfl (pc0 := 210) (pc' := 216) rfl (hb hby at_210) rfl (feq (show ¬ (q3 = (32 : Int32)) from hq3)).2 (by decide) (by decide) k) ?_
              exact Jc216 _ _ Td162 _ h1210 (Xd162.mono (by decide) (by decide)) Nd162 ed162 O1213 K1214 hSd162 hkd162 hZd162 hownd162 Cd162 r_1210 (1 : Int32) t2_1210 k2_1210 2 (fun i => (fun i => ((fun i => ([q0, q1, q2, q3] : List Int32).getD i (0 : Int32)) i).toInt8.toInt32) (2 + i)) 4 2 (.val (.ref r_1103)) (.val (.ref b1109)) r1210_1 r1210_2 r1210_3 r1210_4 F1217 (by decide) (by decide) (by decide) ((fun i hi => by
                match i, hi with
                | 0, _ => exact (own_b255 hlq2 hcq2)
                | 1, _ => exact (own_b255 hlq3 hcq3))) (by decide)
            refine WinW.to T1210 (mkF m 147 #[.val (.int p0), .val (.int p1), .val (.int p2), .val (.int p3), .val (.int (4 : Int32)), .val (.ref c1), .val (.ref r_1103), .val (.ref b1109), .val (.ref r_1210), .val (.int (-1 : Int32)), .unset] [(.int (4 : Int32))]) (fun _ k => XS.iload X1210.here hx rfl (hb hby at_145) rfl k) ?_
            refine WinW.to T1210 (mkF m 150 #[.val (.int p0), .val (.int p1), .val (.int p2), .val (.int p3), .val (.int (4 : Int32)), .val (.ref c1), .val (.ref r_1103), .val (.ref b1109), .val (.ref r_1210), .val (.int (-1 : Int32)), .unset] []) (fun _ k => XS.ifNo X1210.here hx rfl (hb hby at_147) rfl ((if0 _ _).trans (tlt (show (0 : Int32) < (4 : Int32) from by decide)).2.2.2) k) ?_
            refine WinW.to T1210 (mkF m 152 #[.val (.int p0), .val (.int p1), .val (.int p2), .val (.int p3), .val (.int (4 : Int32)), .val (.ref c1), .val (.ref r_1103), .val (.ref b1109), .val (.ref r_1210), .val (.int (-1 : Int32)), .unset] [(.ref c1)]) (fun _ k => XS.aload X1210.here hx rfl (hb hby at_150) rfl rfl k) ?_
            refine WinW.to T1210 (mkF m 153 #[.val (.int p0), .val (.int p1), .val (.int p2), .val (.int p3), .val (.int (4 : Int32)), .val (.ref c1), .val (.ref r_1103), .val (.ref b1109), .val (.ref r_1210), .val (.int (-1 : Int32)), .unset] [(.int (0 : Int32)), (.ref c1)]) (fun _ k => XS.iconst X1210.here hx rfl (hb hby at_152) k) ?_
            have F1221 : Arv Z h1210 c1 kc .char (4 : Int32) [(.int q0), (.int q1), (.int q2), (.int q3)] (.int (0 : Int32)) := ((((F1124.ext E1123).keep r1140_0 (ninS ne1125 nin0)).keep r1150_0 (ninS ne1111 nin0)).keep r1210_0 nin0)
            obtain ⟨cl1222, Ar1222, q1222, S1222, N1222, H1222, G1222⟩ := id F1221
            have hi1222 : ¬ ((0 : Int32) < 0 ∨ cl1222.slots.size ≤ ((0 : Int32)).toNatClampNeg) := inb_of S1222 ⟨by decide, by decide⟩
            refine WinW.to T1210 (mkF m 154 #[.val (.int p0), .val (.int p1), .val (.int p2), .val (.int p3), .val (.int (4 : Int32)), .val (.ref c1), .val (.ref r_1103), .val (.ref b1109), .val (.ref r_1210), .val (.int (-1 : Int32)), .unset] [(.int q0)]) (fun _ k => X1210.caload hx (j := (0 : Int32)) (v := (.int q0)) (by rw [e1210]; exact Ar1222.1) (State.isArrayOf_alike hZ1210.alike Ar1222.2.1) Ar1222.2.2 hi1222 (Has.at H1222 hi1222 rfl) (g := (mkF m 153 #[.val (.int p0), .val (.int p1), .val (.int p2), .val (.int p3), .val (.int (4 : Int32)), .val (.ref c1), .val (.ref r_1103), .val (.ref b1109), .val (.ref r_1210), .val (.int (-1 : Int32)), .unset] [(.int (0 : Int32)), (.ref c1)])) rfl rfl (hb hby at_153) _ k) ?_
            refine WinW.to T1210 (mkF m 156 #[.val (.int p0), .val (.int p1), .val (.int p2), .val (.int p3), .val (.int (4 : Int32)), .val (.ref c1), .val (.ref r_1103), .val (.ref b1109), .val (.ref r_1210), .val (.int (-1 : Int32)), .unset] [(.int (32 : Int32)), (.int q0)]) (fun _ k => XS.bipush X1210.here hx rfl (hb hby at_154) k) ?_
            by_cases hc1223 : q0 = (32 : Int32)
            · refine WinW.to T1210 (mkF m 159 #[.val (.int p0), .val (.int p1), .val (.int p2), .val (.int p3), .val (.int (4 : Int32)), .val (.ref c1), .val (.ref r_1103), .val (.ref b1109), .val (.ref r_1210), .val (.int (-1 : Int32)), .unset] []) (fun _ k => XS.icmpNo X1210.here hx rfl (hb hby at_156) rfl (teq hc1223).2 k) ?_
              refine WinW.to T1210 (mkF m 160 #[.val (.int p0), .val (.int p1), .val (.int p2), .val (.int p3), .val (.int (4 : Int32)), .val (.ref c1), .val (.ref r_1103), .val (.ref b1109), .val (.ref r_1210), .val (.int (-1 : Int32)), .unset] [(.int (0 : Int32))]) (fun _ k => XS.iconst X1210.here hx rfl (hb hby at_159) k) ?_
              refine WinW.to T1210 (mkF m 162 #[.val (.int p0), .val (.int p1), .val (.int p2), .val (.int p3), .val (.int (4 : Int32)), .val (.ref c1), .val (.ref r_1103), .val (.ref b1109), .val (.ref r_1210), .val (.int (0 : Int32)), .unset] []) (fun _ k => XS.istore X1210.here hx rfl (hb hby at_160) rfl (l' := #[.val (.int p0), .val (.int p1), .val (.int p2), .val (.int p3), .val (.int (4 : Int32)), .val (.ref c1), .val (.ref r_1103), .val (.ref b1109), .val (.ref r_1210), .val (.int (0 : Int32)), .unset]) rfl k) ?_
              exact Jd162 _ _ T1210 _ X1210 N1212 e1210 hS1210 hk1210 hZ1210 hown1210 C1216 (0 : Int32)
            · refine WinW.to T1210 (mkF m 162 #[.val (.int p0), .val (.int p1), .val (.int p2), .val (.int p3), .val (.int (4 : Int32)), .val (.ref c1), .val (.ref r_1103), .val (.ref b1109), .val (.ref r_1210), .val (.int (-1 : Int32)), .unset] []) (fun _ k => XS.icmpYes X1210.here hx rfl (pc0 := 156) (pc' := 162) rfl (hb hby at_156) rfl (feq hc1223).2 (by decide) (by decide) k) ?_
              exact Jd162 _ _ T1210 _ X1210 N1212 e1210 hS1210 hk1210 hZ1210 hown1210 C1216 (-1 : Int32)
          · by_cases hq0 : q0 = (32 : Int32)
            · refine WinW.to T1150 (mkF m 137 #[.val (.int p0), .val (.int p1), .val (.int p2), .val (.int p3), .val (.int (4 : Int32)), .val (.ref c1), .val (.ref r_1103), .val (.ref b1109), .unset, .unset, .unset] [(.ref b1109)]) (fun _ k => XS.aload X1150.here hx rfl (hb hby at_135) rfl rfl k) ?_
              have F1224 : Exa Z h1150 r_1103 "java/lang/String" := (((Exa.ext E1123 F1126).keep r1140_0).keep r1150_0)
              have F1225 : Fld Z h1150 r_1103 "java/lang/String" "value" "[B" (.ref t_1103) := (((Fld.ext E1123 (Fld.ext E1109 r1103_2)).keep r1140_0 (ninS ne1127 nin0)).keep r1150_0 (ninS ne1112 nin0))
              have F1226 : Fld Z h1150 r_1103 "java/lang/String" "coder" "B" (.int (0 : Int32)) := (((Fld.ext E1123 (Fld.ext E1109 r1103_3)).keep r1140_0 (ninS ne1127 nin0)).keep r1150_0 (ninS ne1112 nin0))
              have F1227 : ArF Z h1150 t_1103 kb_1103 .byte 4 (fun i => ((fun i => ([q0, q1, q2, q3] : List Int32).getD i (0 : Int32)) i).toInt8.toInt32) := (((F1128.ext E1123).keep r1140_0 (ninS ne1129 nin0)).keep r1150_0 (ninS ne1113 nin0))
              have F1229 : Exa Z h1150 b1109 "com/example/grantgate/grantgate/server/MessageReader$Head" := (F1147.keep r1150_0)
              obtain ⟨T1228, h1228, v1228, L1228, k1228, X1228, e1228, hS1228, hk1228, hZ1228, hown1228, ⟨r_1228, t2_1228, k2_1228, rfl, N1228q, r1228_0, r1228_1, r1228_2, r1228_3, r1228_4⟩, c1228, st1228⟩ := W.virtual X1150 hS1103 hk1153 hx hZ1103 (y := (⟨"com/example/grantgate/grantgate/server/MessageReader$Head", "version", "()Ljava/lang/String;"⟩ : MethodName)) (z := (⟨"com/example/grantgate/grantgate/server/MessageReader$Head", "version", "()Ljava/lang/String;"⟩ : MethodName)) hown1103 (wk hw 67 rfl) (wk hw 68 rfl) (notFace_of_selects (args := #[]) (mvT hZ1103 (wk hw 70 rfl))) (wk hw 70 rfl) (wk hw 69 rfl) (wk hw 29 rfl) (wk hw 71 rfl) (by decide) (headV l Z a0 hw b1109 r_1103 t_1103 kb_1103 4 (fun i => ((fun i => ([q0, q1, q2, q3] : List Int32).getD i (0 : Int32)) i).toInt8.toInt32) 1 cs x1 h1150 n0 O1152 r1150_1 F1224 F1225 F1226 F1227 (by decide) ((fun i hb hi => by
                match i, hb, hi with
                | 0, hb, _ => exact absurd hb (by decide)
                | 1, hb, _ => exact (own_sp2 hlq1 hcq1 hq1)
                | 2, hb, _ => exact (own_sp2 hlq2 hcq2 hq2)
                | 3, hb, _ => exact (own_sp2 hlq3 hcq3 hq3))) (fun _ => (show q0.toInt8.toInt32 = (32 : Int32) from by rw [hq0]; decide)) (by decide) S_CS hcs S_SI hx1) (own_EW hw) C1156.1 e1150 F1229 (g := (mkF m 137 #[.val (.int p0), .val (.int p1), .val (.int p2), .val (.int p3), .val (.int (4 : Int32)), .val (.ref c1), .val (.ref r_1103), .val (.ref b1109), .unset, .unset, .unset] [(.ref b1109)])) rfl (by rw [hml]; rfl) (argsL := []) (rest := []) rfl (lenOf pd___Ljava_lang_String_ rfl) rfl (W := 0) (by show 2 * 0 + _ ≤ _; exact Nat.le_of_eq rfl) (hb hby at_137) (by decide) (by decide) (by decide) (by decide)
              have N1230 := Fr.app N1151 N1228q
              have O1231 := Old.keep O1152 r1228_0 all0
              have K1232 : Keep h0 h1228 [] := Keep.trans K1154 r1228_0 all0
              have c1233 := c1228
              have C1234 := CHr.trans C1156 c1233
              refine WinW.to T1228 (mkF m 140 #[.val (.int p0), .val (.int p1), .val (.int p2), .val (.int p3), .val (.int (4 : Int32)), .val (.ref c1), .val (.ref r_1103), .val (.ref b1109), .unset, .unset, .unset] [(.ref r_1228)]) (fun _ k => st1228 _ k) ?_
              refine WinW.to T1228 (mkF m 142 #[.val (.int p0), .val (.int p1), .val (.int p2), .val (.int p3), .val (.int (4 : Int32)), .val (.ref c1), .val (.ref r_1103), .val (.ref b1109), .val (.ref r_1228), .unset, .unset] []) (fun _ k => XS.astore X1228.here hx rfl (hb hby at_140) rfl rfl (l' := #[.val (.int p0), .val (.int p1), .val (.int p2), .val (.int p3), .val (.int (4 : Int32)), .val (.ref c1), .val (.ref r_1103), .val (.ref b1109), .val (.ref r_1228), .unset, .unset]) rfl k) ?_
              refine WinW.to T1228 (mkF m 143 #[.val (.int p0), .val (.int p1), .val (.int p2), .val (.int p3), .val (.int (4 : Int32)), .val (.ref c1), .val (.ref r_1103), .val (.ref b1109), .val (.ref r_1228), .unset, .unset] [(.int (-1 : Int32))]) (fun _ k => XS.iconst X1228.here hx rfl (hb hby at_142) k) ?_
              refine WinW.to T1228 (mkF m 145 #[.val (.int p0), .val (.int p1), .val (.int p2), .val (.int p3), .val (.int (4 : Int32)), .val (.ref c1), .val (.ref r_1103), .val (.ref b1109), .val (.ref r_1228), .val (.int (-1 : Int32)), .unset] []) (fun _ k => XS.istore X1228.here hx rfl (hb hby at_143) rfl (l' := #[.val (.int p0), .val (.int p1), .val (.int p2), .val (.int p3), .val (.int (4 : Int32)), .val (.ref c1), .val (.ref r_1103), .val (.ref b1109), .val (.ref r_1228), .val (.int (-1 : Int32)), .unset]) rfl k) ?_
              refine WinW.to T1228 (mkF m 147 #[.val (.int p0), .val (.int p1), .val (.int p2), .val (.int p3), .val (.int (4 : Int32)), .val (.ref c1), .val (.ref r_1103), .val (.ref b1109), .val (.ref r_1228), .val (.int (-1 : Int32)), .unset] [(.int (4 : Int32))]) (fun _ k => XS.iload X1228.here hx rfl (hb hby at_145) rfl k) ?_
              refine WinW.to T1228 (mkF m 150 #[.val (.int p0), .val (.int p1), .val (.int p2), .val (.int p3), .val (.int (4 : Int32)), .val (.ref c1), .val (.ref r_1103), .val (.ref b1109), .val (.ref r_1228), .val (.int (-1 : Int32)), .unset] []) (fun _ k => XS.ifNo X1228.here hx rfl (hb hby at_147) rfl ((if0 _ _).trans (tlt (show (0 : Int32) < (4 : Int32) from by decide)).2.2.2) k) ?_
              refine WinW.to T1228 (mkF m 152 #[.val (.int p0), .val (.int p1), .val (.int p2), .val (.int p3), .val (.int (4 : Int32)), .val (.ref c1), .val (.ref r_1103), .val (.ref b1109), .val (.ref r_1228), .val (.int (-1 : Int32)), .unset] [(.ref c1)]) (fun _ k => XS.aload X1228.here hx rfl (hb hby at_150) rfl rfl k) ?_
              refine WinW.to T1228 (mkF m 153 #[.val (.int p0), .val (.int p1), .val (.int p2), .val (.int p3), .val (.int (4 : Int32)), .val (.ref c1), .val (.ref r_1103), .val (.ref b1109), .val (.ref r_1228), .val (.int (-1 : Int32)), .unset] [(.int (0 : Int32)), (.ref c1)]) (fun _ k => XS.iconst X1228.here hx rfl (hb hby at_152) k) ?_
              have F1235 : Arv Z h1228 c1 kc .char (4 : Int32) [(.int q0), (.int q1), (.int q2), (.int q3)] (.int (0 : Int32)) := ((((F1124.ext E1123).keep r1140_0 (ninS ne1125 nin0)).keep r1150_0 (ninS ne1111 nin0)).keep r1228_0 nin0)
              obtain ⟨cl1236, Ar1236, q1236, S1236, N1236, H1236, G1236⟩ := id F1235
              have hi1236 : ¬ ((0 : Int32) < 0 ∨ cl1236.slots.size ≤ ((0 : Int32)).toNatClampNeg) := inb_of S1236 ⟨by decide, by decide⟩
              refine WinW.to T1228 (mkF m 154 #[.val (.int p0), .val (.int p1), .val (.int p2), .val (.int p3), .val (.int (4 : Int32)), .val (.ref c1), .val (.ref r_1103), .val (.ref b1109), .val (.ref r_1228), .val (.int (-1 : Int32)), .unset] [(.int q0)]) (fun _ k => X1228.caload hx (j := (0 : Int32)) (v := (.int q0)) (by rw [e1228]; exact Ar1236.1) (State.isArrayOf_alike hZ1228.alike Ar1236.2.1) Ar1236.2.2 hi1236 (Has.at H1236 hi1236 rfl) (g := (mkF m 153 #[.val (.int p0), .val (.int p1), .val (.int p2), .val (.int p3), .val (.int (4 : Int32)), .val (.ref c1), .val (.ref r_1103), .val (.ref b1109), .val (.ref r_1228), .val (.int (-1 : Int32)), .unset] [(.int (0 : Int32)), (.ref c1)])) rfl rfl (hb hby at_153) _ k) ?_
              refine WinW.to T1228 (mkF m 156 #[.val (.int p0), .val (.int p1), .val (.int p2), .val (.int p3), .val (.int (4 : Int32)), .val (.ref c1), .val (.ref r_1103), .val (.ref b1109), .val (.ref r_1228), .val (.int (-1 : Int32)), .unset] [(.int (32 : Int32)), (.int q0)]) (fun _ k => XS.bipush X1228.here hx rfl (hb hby at_154) k) ?_
              refine WinW.to T1228 (mkF m 159 #[.val (.int p0), .val (.int p1), .val (.int p2), .val (.int p3), .val (.int (4 : Int32)), .val (.ref c1), .val (.ref r_1103), .val (.ref b1109), .val (.ref r_1228), .val (.int (-1 : Int32)), .unset] []) (fun _ k => XS.icmpNo X1228.here hx rfl (hb hby at_156) rfl (teq (show q0 = (32 : Int32) from hq0)).2 k) ?_
              refine WinW.to T1228 (mkF m 160 #[.val (.int p0), .val (.int p1), .val (.int p2), .val (.int p3), .val (.int (4 : Int32)), .val (.ref c1), .val (.ref r_1103), .val (.ref b1109), .val (.ref r_1228), .val (.int (-1 : Int32)), .unset] [(.int (0 : Int32))]) (fun _ k => XS.iconst X1228.here hx rfl (hb hby at_159) k) ?_
              refine WinW.to T1228 (mkF m 162 #[.val (.int p0), .val (.int p1), .val (.int p2), .val (.int p3), .val (.int (4 : Int32)), .val (.ref c1), .val (.ref r_1103), .val (.ref b1109), .val (.ref r_1228), .val (.int (0 : Int32)), .unset] []) (fun _ k => XS.istore X1228.here hx rfl (hb hby at_160) rfl (l' := #[.val (.int p0), .val (.int p1), .val (.int p2), .val (.int p3), .val (.int (4 : Int32)), .val (.ref c1), .val (.ref r_1103), .val (.ref b1109), .val (.ref r_1228), .val (.int (0 : Int32)), .unset]) rfl k) ?_
              refine WinW.to T1228 (mkF m 164 #[.val (.int p0), .val (.int p1), .val (.int p2), .val (.int p3), .val (.int (4 : Int32)), .val (.ref c1), .val (.ref r_1103), .val (.ref b1109), .val (.ref r_1228), .val (.int (0 : Int32)), .unset] [(.int (4 : Int32))]) (fun _ k => XS.iload X1228.here hx rfl (hb hby at_162) rfl k) ?_
              refine WinW.to T1228 (mkF m 165 #[.val (.int p0), .val (.int p1), .val (.int p2), .val (.int p3), .val (.int (4 : Int32)), .val (.ref c1), .val (.ref r_1103), .val (.ref b1109), .val (.ref r_1228), .val (.int (0 : Int32)), .unset] [(.int (1 : Int32)), (.int (4 : Int32))]) (fun _ k => XS.iconst X1228.here hx rfl (hb hby at_164) k) ?_
              refine WinW.to T1228 (mkF m 168 #[.val (.int p0), .val (.int p1), .val (.int p2), .val (.int p3), .val (.int (4 : Int32)), .val (.ref c1), .val (.ref r_1103), .val (.ref b1109), .val (.ref r_1228), .val (.int (0 : Int32)), .unset] []) (fun _ k => XS.icmpNo X1228.here hx rfl (hb hby at_165) rfl (tlt (show (1 : Int32) < (4 : Int32) from by decide)).2.2.2 k) ?_
              refine WinW.to T1228 (mkF m 170 #[.val (.int p0), .val (.int p1), .val (.int p2), .val (.int p3), .val (.int (4 : Int32)), .val (.ref c1), .val (.ref r_1103), .val (.ref b1109), .val (.ref r_1228), .val (.int (0 : Int32)), .unset] [(.ref c1)]) (fun _ k => XS.aload X1228.here hx rfl (hb hby at_168) rfl rfl k) ?_
              refine WinW.to T1228 (mkF m 171 #[.val (.int p0), .val (.int p1), .val (.int p2), .val (.int p3), .val (.int (4 : Int32)), .val (.ref c1), .val (.ref r_1103), .val (.ref b1109), .val (.ref r_1228), .val (.int (0 : Int32)), .unset] [(.int (1 : Int32)), (.ref c1)]) (fun _ k => XS.iconst X1228.here hx rfl (hb hby at_170) k) ?_
              obtain ⟨cl1237, Ar1237, q1237, S1237, N1237, H1237, G1237⟩ := id F1235
              have hi1237 : ¬ ((1 : Int32) < 0 ∨ cl1237.slots.size ≤ ((1 : Int32)).toNatClampNeg) := inb_of S1237 ⟨by decide, by decide⟩
              refine WinW.to T1228 (mkF m 172 #[.val (.int p0), .val (.int p1), .val (.int p2), .val (.int p3), .val (.int (4 : Int32)), .val (.ref c1), .val (.ref r_1103), .val (.ref b1109), .val (.ref r_1228), .val (.int (0 : Int32)), .unset] [(.int q1)]) (fun _ k => X1228.caload hx (j := (1 : Int32)) (v := (.int q1)) (by rw [e1228]; exact Ar1237.1) (State.isArrayOf_alike hZ1228.alike Ar1237.2.1) Ar1237.2.2 hi1237 (Has.at H1237 hi1237 rfl) (g := (mkF m 171 #[.val (.int p0), .val (.int p1), .val (.int p2), .val (.int p3), .val (.int (4 : Int32)), .val (.ref c1), .val (.ref r_1103), .val (.ref b1109), .val (.ref r_1228), .val (.int (0 : Int32)), .unset] [(.int (1 : Int32)), (.ref c1)])) rfl rfl (hb hby at_171) _ k) ?_
              refine WinW.to T1228 (mkF m 174 #[.val (.int p0), .val (.int p1), .val (.int p2), .val (.int p3), .val (.int (4 : Int32)), .val (.ref c1), .val (.ref r_1103), .val (.ref b1109), .val (.ref r_1228), .val (.int (0 : Int32)), .unset] [(.int (32 : Int32)), (.int q1)]) (fun _ k => XS.bipush X1228.here hx rfl (hb hby at_172) k) ?_
              refine WinW.to T1228 (mkF m 180 #[.val (.int p0), .val (.int p1), .val (.int p2), .val (.int p3), .val (.int (4 : Int32)), .val (.ref c1), .val (.ref r_1103), .val (.ref b1109), .val (.ref r_1228), .val (.int (0 : Int32)), .unset] []) (fun _ k => XS.icmpYes X1228.here hx rfl (pc0 := 174) (pc' := 180) rfl (hb hby at_174) rfl (feq (show ¬ (q1 = (32 : Int32)) from hq1)).2 (by decide) (by decide) k) ?_
              refine WinW.to T1228 (mkF m 182 #[.val (.int p0), .val (.int p1), .val (.int p2), .val (.int p3), .val (.int (4 : Int32)), .val (.ref c1), .val (.ref r_1103), .val (.ref b1109), .val (.ref r_1228), .val (.int (0 : Int32)), .unset] [(.int (4 : Int32))]) (fun _ k => XS.iload X1228.here hx rfl (hb hby at_180) rfl k) ?_
              refine WinW.to T1228 (mkF m 183 #[.val (.int p0), .val (.int p1), .val (.int p2), .val (.int p3), .val (.int (4 : Int32)), .val (.ref c1), .val (.ref r_1103), .val (.ref b1109), .val (.ref r_1228), .val (.int (0 : Int32)), .unset] [(.int (2 : Int32)), (.int (4 : Int32))]) (fun _ k => XS.iconst X1228.here hx rfl (hb hby at_182) k) ?_
              refine WinW.to T1228 (mkF m 186 #[.val (.int p0), .val (.int p1), .val (.int p2), .val (.int p3), .val (.int (4 : Int32)), .val (.ref c1), .val (.ref r_1103), .val (.ref b1109), .val (.ref r_1228), .val (.int (0 : Int32)), .unset] []) (fun _ k => XS.icmpNo X1228.here hx rfl (hb hby at_183) rfl (tlt (show (2 : Int32) < (4 : Int32) from by decide)).2.2.2 k) ?_
              refine WinW.to T1228 (mkF m 188 #[.val (.int p0), .val (.int p1), .val (.int p2), .val (.int p3), .val (.int (4 : Int32)), .val (.ref c1), .val (.ref r_1103), .val (.ref b1109), .val (.ref r_1228), .val (.int (0 : Int32)), .unset] [(.ref c1)]) (fun _ k => XS.aload X1228.here hx rfl (hb hby at_186) rfl rfl k) ?_
              refine WinW.to T1228 (mkF m 189 #[.val (.int p0), .val (.int p1), .val (.int p2), .val (.int p3), .val (.int (4 : Int32)), .val (.ref c1), .val (.ref r_1103), .val (.ref b1109), .val (.ref r_1228), .val (.int (0 : Int32)), .unset] [(.int (2 : Int32)), (.ref c1)]) (fun _ k => XS.iconst X1228.here hx rfl (hb hby at_188) k) ?_
              obtain ⟨cl1238, Ar1238, q1238, S1238, N1238, H1238, G1238⟩ := id F1235
              have hi1238 : ¬ ((2 : Int32) < 0 ∨ cl1238.slots.size ≤ ((2 : Int32)).toNatClampNeg) := inb_of S1238 ⟨by decide, by decide⟩
              refine WinW.to T1228 (mkF m 190 #[.val (.int p0), .val (.int p1), .val (.int p2), .val (.int p3), .val (.int (4 : Int32)), .val (.ref c1), .val (.ref r_1103), .val (.ref b1109), .val (.ref r_1228), .val (.int (0 : Int32)), .unset] [(.int q2)]) (fun _ k => X1228.caload hx (j := (2 : Int32)) (v := (.int q2)) (by rw [e1228]; exact Ar1238.1) (State.isArrayOf_alike hZ1228.alike Ar1238.2.1) Ar1238.2.2 hi1238 (Has.at H1238 hi1238 rfl) (g := (mkF m 189 #[.val (.int p0), .val (.int p1), .val (.int p2), .val (.int p3), .val (.int (4 : Int32)), .val (.ref c1), .val (.ref r_1103), .val (.ref b1109), .val (.ref r_1228), .val (.int (0 : Int32)), .unset] [(.int (2 : Int32)), (.ref c1)])) rfl rfl (hb hby at_189) _ k) ?_
              refine WinW.to T1228 (mkF m 192 #[.val (.int p0), .val (.int p1), .val (.int p2), .val (.int p3), .val (.int (4 : Int32)), .val (.ref c1), .val (.ref r_1103), .val (.ref b1109), .val (.ref r_1228), .val (.int (0 : Int32)), .unset] [(.int (32 : Int32)), (.int q2)]) (fun _ k => XS.bipush X1228.here hx rfl (hb hby at_190) k) ?_
              refine WinW.to T1228 (mkF m 198 #[.val (.int p0), .val (.int p1), .val (.int p2), .val (.int p3), .val (.int (4 : Int32)), .val (.ref c1), .val (.ref r_1103), .val (.ref b1109), .val (.ref r_1228), .val (.int (0 : Int32)), .unset] []) (fun _ k => XS.icmpYes X1228.here hx rfl (pc0 := 192) (pc' := 198) rfl (hb hby at_192) rfl (feq (show ¬ (q2 = (32 : Int32)) from hq2)).2 (by decide) (by decide) k) ?_
              refine WinW.to T1228 (mkF m 200 #[.val (.int p0), .val (.int p1), .val (.int p2), .val (.int p3), .val (.int (4 : Int32)), .val (.ref c1), .val (.ref r_1103), .val (.ref b1109), .val (.ref r_1228), .val (.int (0 : Int32)), .unset] [(.int (4 : Int32))]) (fun _ k => XS.iload X1228.here hx rfl (hb hby at_198) rfl k) ?_
              refine WinW.to T1228 (mkF m 201 #[.val (.int p0), .val (.int p1), .val (.int p2), .val (.int p3), .val (.int (4 : Int32)), .val (.ref c1), .val (.ref r_1103), .val (.ref b1109), .val (.ref r_1228), .val (.int (0 : Int32)), .unset] [(.int (3 : Int32)), (.int (4 : Int32))]) (fun _ k => XS.iconst X1228.here hx rfl (hb hby at_200) k) ?_
              refine WinW.to T1228 (mkF m 204 #[.val (.int p0), .val (.int p1), .val (.int p2), .val (.int p3), .val (.int (4 : Int32)), .val (.ref c1), .val (.ref r_1103), .val (.ref b1109), .val (.ref r_1228), .val (.int (0 : Int32)), .unset] []) (fun _ k => XS.icmpNo X1228.here hx rfl (hb hby at_201) rfl (tlt (show (3 : Int32) < (4 : Int32) from by decide)).2.2.2 k) ?_
              refine WinW.to T1228 (mkF m 206 #[.val (.int p0), .val (.int p1), .val (.int p2), .val (.int p3), .val (.int (4 : Int32)), .val (.ref c1), .val (.ref r_1103), .val (.ref b1109), .val (.ref r_1228), .val (.int (0 : Int32)), .unset] [(.ref c1)]) (fun _ k => XS.aload X1228.here hx rfl (hb hby at_204) rfl rfl k) ?_
              refine WinW.to T1228 (mkF m 207 #[.val (.int p0), .val (.int p1), .val (.int p2), .val (.int p3), .val (.int (4 : Int32)), .val (.ref c1), .val (.ref r_1103), .val (.ref b1109), .val (.ref r_1228), .val (.int (0 : Int32)), .unset] [(.int (3 : Int32)), (.ref c1)]) (fun _ k => XS.iconst X1228.here hx rfl (hb hby at_206) k) ?_
              obtain ⟨cl1239, Ar1239, q1239, S1239, N1239, H1239, G1239⟩ := id F1235
              have hi1239 : ¬ ((3 : Int32) < 0 ∨ cl1239.slots.size ≤ ((3 : Int32)).toNatClampNeg) := inb_of S1239 ⟨by decide, by decide⟩
              refine WinW.to T1228 (mkF m 208 #[.val (.int p0), .val (.int p1), .val (.int p2), .val (.int p3), .val (.int (4 : Int32)), .val (.ref c1), .val (.ref r_1103), .val (.ref b1109), .val (.ref r_1228), .val (.int (0 : Int32)), .unset] [(.int q3)]) (fun _ k => X1228.caload hx (j := (3 : Int32)) (v := (.int q3)) (by rw [e1228]; exact Ar1239.1) (State.isArrayOf_alike hZ1228.alike Ar1239.2.1) Ar1239.2.2 hi1239 (Has.at H1239 hi1239 rfl) (g := (mkF m 207 #[.val (.int p0), .val (.int p1), .val (.int p2), .val (.int p3), .val (.int (4 : Int32)), .val (.ref c1), .val (.ref r_1103), .val (.ref b1109), .val (.ref r_1228), .val (.int (0 : Int32)), .unset] [(.int (3 : Int32)), (.ref c1)])) rfl rfl (hb hby at_207) _ k) ?_
              refine WinW.to T1228 (mkF m 210 #[.val (.int p0), .val (.int p1), .val (.int p2), .val (.int p3), .val (.int (4 : Int32)), .val (.ref c1), .val (.ref r_1103), .val (.ref b1109), .val (.ref r_1228), .val (.int (0 : Int32)), .unset] [(.int (32 : Int32)), (.int q3)]) (fun _ k => XS.bipush X1228.here hx rfl (hb hby at_208) k) ?_
              refine WinW.to T1228 (mkF m 216 #[.val (.int p0), .val (.int p1), .val (.int p2), .val (.int p3), .val (.int (4 : Int32)), .val (.ref c1), .val (.ref r_1103), .val (.ref b1109), .val (.ref r_1228), .val (.int (0 : Int32)), .unset] []) (fun _ k => XS.icmpYes X1228.here hx rfl (pc0 := 210) (pc' := 216) rfl (hb hby at_210) rfl (feq (show ¬ (q3 = (32 : Int32)) from hq3)).2 (by decide) (by decide) k) ?_
              exact Jc216 _ _ T1228 _ h1228 (X1228.mono (by decide) (by decide)) N1230 e1228 O1231 K1232 hS1228 hk1228 hZ1228 hown1228 C1234 r_1228 (0 : Int32) t2_1228 k2_1228 3 (fun i => (fun i => ((fun i => ([q0, q1, q2, q3] : List Int32).getD i (0 : Int32)) i).toInt8.toInt32) (1 + i)) 4 1 (.val (.ref r_1103)) (.val (.ref b1109)) r1228_1 r1228_2 r1228_3 r1228_4 F1235 (by decide) (by decide) (by decide) ((fun i hi => by
                match i, hi with
                | 0, _ => exact (own_b255 hlq1 hcq1)
                | 1, _ => exact (own_b255 hlq2 hcq2)
                | 2, _ => exact (own_b255 hlq3 hcq3))) (by decide)
            · refine WinW.to T1150 (mkF m 137 #[.val (.int p0), .val (.int p1), .val (.int p2), .val (.int p3), .val (.int (4 : Int32)), .val (.ref c1), .val (.ref r_1103), .val (.ref b1109), .unset, .unset, .unset] [(.ref b1109)]) (fun _ k => XS.aload X1150.here hx rfl (hb hby at_135) rfl rfl k) ?_
              have F1240 : Exa Z h1150 r_1103 "java/lang/String" := (((Exa.ext E1123 F1126).keep r1140_0).keep r1150_0)
              have F1241 : Fld Z h1150 r_1103 "java/lang/String" "value" "[B" (.ref t_1103) := (((Fld.ext E1123 (Fld.ext E1109 r1103_2)).keep r1140_0 (ninS ne1127 nin0)).keep r1150_0 (ninS ne1112 nin0))
              have F1242 : Fld Z h1150 r_1103 "java/lang/String" "coder" "B" (.int (0 : Int32)) := (((Fld.ext E1123 (Fld.ext E1109 r1103_3)).keep r1140_0 (ninS ne1127 nin0)).keep r1150_0 (ninS ne1112 nin0))
              have F1243 : ArF Z h1150 t_1103 kb_1103 .byte 4 (fun i => ((fun i => ([q0, q1, q2, q3] : List Int32).getD i (0 : Int32)) i).toInt8.toInt32) := (((F1128.ext E1123).keep r1140_0 (ninS ne1129 nin0)).keep r1150_0 (ninS ne1113 nin0))
              have F1245 : Exa Z h1150 b1109 "com/example/grantgate/grantgate/server/MessageReader$Head" := (F1147.keep r1150_0)
              obtain ⟨T1244, h1244, v1244, L1244, k1244, X1244, e1244, hS1244, hk1244, hZ1244, hown1244, ⟨r_1244, t2_1244, k2_1244, rfl, N1244q, r1244_0, r1244_1, r1244_2, r1244_3, r1244_4⟩, c1244, st1244⟩ := W.virtual X1150 hS1103 hk1153 hx hZ1103 (y := (⟨"com/example/grantgate/grantgate/server/MessageReader$Head", "version", "()Ljava/lang/String;"⟩ : MethodName)) (z := (⟨"com/example/grantgate/grantgate/server/MessageReader$Head", "version", "()Ljava/lang/String;"⟩ : MethodName)) hown1103 (wk hw 67 rfl) (wk hw 68 rfl) (notFace_of_selects (args := #[]) (mvT hZ1103 (wk hw 70 rfl))) (wk hw 70 rfl) (wk hw 69 rfl) (wk hw 29 rfl) (wk hw 71 rfl) (by decide) (headV l Z a0 hw b1109 r_1103 t_1103 kb_1103 4 (fun i => ((fun i => ([q0, q1, q2, q3] : List Int32).getD i (0 : Int32)) i).toInt8.toInt32) 0 cs x1 h1150 n0 O1152 r1150_1 F1240 F1241 F1242 F1243 (by decide) ((fun i hb hi => by
                match i, hb, hi with
                | 0, hb, _ => exact (own_sp2 hlq0 hcq0 hq0)
                | 1, hb, _ => exact (own_sp2 hlq1 hcq1 hq1)
                | 2, hb, _ => exact (own_sp2 hlq2 hcq2 hq2)
                | 3, hb, _ => exact (own_sp2 hlq3 hcq3 hq3))) (fun q => absurd q (Nat.lt_irrefl _)) (by decide) S_CS hcs S_SI hx1) (own_EW hw) C1156.1 e1150 F1245 (g := (mkF m 137 #[.val (.int p0), .val (.int p1), .val (.int p2), .val (.int p3), .val (.int (4 : Int32)), .val (.ref c1), .val (.ref r_1103), .val (.ref b1109), .unset, .unset, .unset] [(.ref b1109)])) rfl (by rw [hml]; rfl) (argsL := []) (rest := []) rfl (lenOf pd___Ljava_lang_String_ rfl) rfl (W := 0) (by show 2 * 0 + _ ≤ _; exact Nat.le_of_eq rfl) (hb hby at_137) (by decide) (by decide) (by decide) (by decide)
              have N1246 := Fr.app N1151 N1244q
              have O1247 := Old.keep O1152 r1244_0 all0
              have K1248 : Keep h0 h1244 [] := Keep.trans K1154 r1244_0 all0
              have c1249 := c1244
              have C1250 := CHr.trans C1156 c1249
              refine WinW.to T1244 (mkF m 140 #[.val (.int p0), .val (.int p1), .val (.int p2), .val (.int p3), .val (.int (4 : Int32)), .val (.ref c1), .val (.ref r_1103), .val (.ref b1109), .unset, .unset, .unset] [(.ref r_1244)]) (fun _ k => st1244 _ k) ?_
              refine WinW.to T1244 (mkF m 142 #[.val (.int p0), .val (.int p1), .val (.int p2), .val (.int p3), .val (.int (4 : Int32)), .val (.ref c1), .val (.ref r_1103), .val (.ref b1109), .val (.ref r_1244), .unset, .unset] []) (fun _ k => XS.astore X1244.here hx rfl (hb hby at_140) rfl rfl (l' := #[.val (.int p0), .val (.int p1), .val (.int p2), .val (.int p3), .val (.int (4 : Int32)), .val (.ref c1), .val (.ref r_1103), .val (.ref b1109), .val (.ref r_1244), .unset, .unset]) rfl k) ?_
              refine WinW.to T1244 (mkF m 143 #[.val (.int p0), .val (.int p1), .val (.int p2), .val (.int p3), .val (.int (4 : Int32)), .val (.ref c1), .val (.ref r_1103), .val (.ref b1109), .val (.ref r_1244), .unset, .unset] [(.int (-1 : Int32))]) (fun _ k => XS.iconst X1244.here hx rfl (hb hby at_142) k) ?_
              refine WinW.to T1244 (mkF m 145 #[.val (.int p0), .val (.int p1), .val (.int p2), .val (.int p3), .val (.int (4 : Int32)), .val (.ref c1), .val (.ref r_1103), .val (.ref b1109), .val (.ref r_1244), .val (.int (-1 : Int32)), .unset] []) (fun _ k => XS.istore X1244.here hx rfl (hb hby at_143) rfl (l' := #[.val (.int p0), .val (.int p1), .val (.int p2), .val (.int p3), .val (.int (4 : Int32)), .val (.ref c1), .val (.ref r_1103), .val (.ref b1109), .val (.ref r_1244), .val (.int (-1 : Int32)), .unset]) rfl k) ?_
              refine WinW.to T1244 (mkF m 147 #[.val (.int p0), .val (.int p1), .val (.int p2), .val (.int p3), .val (.int (4 : Int32)), .val (.ref c1), .val (.ref r_1103), .val (.ref b1109), .val (.ref r_1244), .val (.int (-1 : Int32)), .unset] [(.int (4 : Int32))]) (fun _ k => XS.iload X1244.here hx rfl (hb hby at_145) rfl k) ?_
              refine WinW.to T1244 (mkF m 150 #[.val (.int p0), .val (.int p1), .val (.int p2), .val (.int p3), .val (.int (4 : Int32)), .val (.ref c1), .val (.ref r_1103), .val (.ref b1109), .val (.ref r_1244), .val (.int (-1 : Int32)), .unset] []) (fun _ k => XS.ifNo X1244.here hx rfl (hb hby at_147) rfl ((if0 _ _).trans (tlt (show (0 : Int32) < (4 : Int32) from by decide)).2.2.2) k) ?_
              refine WinW.to T1244 (mkF m 152 #[.val (.int p0), .val (.int p1), .val (.int p2), .val (.int p3), .val (.int (4 : Int32)), .val (.ref c1), .val (.ref r_1103), .val (.ref b1109), .val (.ref r_1244), .val (.int (-1 : Int32)), .unset] [(.ref c1)]) (fun _ k => XS.aload X1244.here hx rfl (hb hby at_150) rfl rfl k) ?_
              refine WinW.to T1244 (mkF m 153 #[.val (.int p0), .val (.int p1), .val (.int p2), .val (.int p3), .val (.int (4 : Int32)), .val (.ref c1), .val (.ref r_1103), .val (.ref b1109), .val (.ref r_1244), .val (.int (-1 : Int32)), .unset] [(.int (0 : Int32)), (.ref c1)]) (fun _ k => XS.iconst X1244.here hx rfl (hb hby at_152) k) ?_
              have F1251 : Arv Z h1244 c1 kc .char (4 : Int32) [(.int q0), (.int q1), (.int q2), (.int q3)] (.int (0 : Int32)) := ((((F1124.ext E1123).keep r1140_0 (ninS ne1125 nin0)).keep r1150_0 (ninS ne1111 nin0)).keep r1244_0 nin0)
              obtain ⟨cl1252, Ar1252, q1252, S1252, N1252, H1252, G1252⟩ := id F1251
              have hi1252 : ¬ ((0 : Int32) < 0 ∨ cl1252.slots.size ≤ ((0 : Int32)).toNatClampNeg) := inb_of S1252 ⟨by decide, by decide⟩
              refine WinW.to T1244 (mkF m 154 #[.val (.int p0), .val (.int p1), .val (.int p2), .val (.int p3), .val (.int (4 : Int32)), .val (.ref c1), .val (.ref r_1103), .val (.ref b1109), .val (.ref r_1244), .val (.int (-1 : Int32)), .unset] [(.int q0)]) (fun _ k => X1244.caload hx (j := (0 : Int32)) (v := (.int q0)) (by rw [e1244]; exact Ar1252.1) (State.isArrayOf_alike hZ1244.alike Ar1252.2.1) Ar1252.2.2 hi1252 (Has.at H1252 hi1252 rfl) (g := (mkF m 153 #[.val (.int p0), .val (.int p1), .val (.int p2), .val (.int p3), .val (.int (4 : Int32)), .val (.ref c1), .val (.ref r_1103), .val (.ref b1109), .val (.ref r_1244), .val (.int (-1 : Int32)), .unset] [(.int (0 : Int32)), (.ref c1)])) rfl rfl (hb hby at_153) _ k) ?_
              refine WinW.to T1244 (mkF m 156 #[.val (.int p0), .val (.int p1), .val (.int p2), .val (.int p3), .val (.int (4 : Int32)), .val (.ref c1), .val (.ref r_1103), .val (.ref b1109), .val (.ref r_1244), .val (.int (-1 : Int32)), .unset] [(.int (32 : Int32)), (.int q0)]) (fun _ k => XS.bipush X1244.here hx rfl (hb hby at_154) k) ?_
              refine WinW.to T1244 (mkF m 162 #[.val (.int p0), .val (.int p1), .val (.int p2), .val (.int p3), .val (.int (4 : Int32)), .val (.ref c1), .val (.ref r_1103), .val (.ref b1109), .val (.ref r_1244), .val (.int (-1 : Int32)), .unset] []) (fun _ k => XS.icmpYes X1244.here hx rfl (pc0 := 156) (pc' := 162) rfl (hb hby at_156) rfl (feq (show ¬ (q0 = (32 : Int32)) from hq0)).2 (by decide) (by decide) k) ?_
              refine WinW.to T1244 (mkF m 164 #[.val (.int p0), .val (.int p1), .val (.int p2), .val (.int p3), .val (.int (4 : Int32)), .val (.ref c1), .val (.ref r_1103), .val (.ref b1109), .val (.ref r_1244), .val (.int (-1 : Int32)), .unset] [(.int (4 : Int32))]) (fun _ k => XS.iload X1244.here hx rfl (hb hby at_162) rfl k) ?_
              refine WinW.to T1244 (mkF m 165 #[.val (.int p0), .val (.int p1), .val (.int p2), .val (.int p3), .val (.int (4 : Int32)), .val (.ref c1), .val (.ref r_1103), .val (.ref b1109), .val (.ref r_1244), .val (.int (-1 : Int32)), .unset] [(.int (1 : Int32)), (.int (4 : Int32))]) (fun _ k => XS.iconst X1244.here hx rfl (hb hby at_164) k) ?_
              refine WinW.to T1244 (mkF m 168 #[.val (.int p0), .val (.int p1), .val (.int p2), .val (.int p3), .val (.int (4 : Int32)), .val (.ref c1), .val (.ref r_1103), .val (.ref b1109), .val (.ref r_1244), .val (.int (-1 : Int32)), .unset] []) (fun _ k => XS.icmpNo X1244.here hx rfl (hb hby at_165) rfl (tlt (show (1 : Int32) < (4 : Int32) from by decide)).2.2.2 k) ?_
              refine WinW.to T1244 (mkF m 170 #[.val (.int p0), .val (.int p1), .val (.int p2), .val (.int p3), .val (.int (4 : Int32)), .val (.ref c1), .val (.ref r_1103), .val (.ref b1109), .val (.ref r_1244), .val (.int (-1 : Int32)), .unset] [(.ref c1)]) (fun _ k => XS.aload X1244.here hx rfl (hb hby at_168) rfl rfl k) ?_
              refine WinW.to T1244 (mkF m 171 #[.val (.int p0), .val (.int p1), .val (.int p2), .val (.int p3), .val (.int (4 : Int32)), .val (.ref c1), .val (.ref r_1103), .val (.ref b1109), .val (.ref r_1244), .val (.int (-1 : Int32)), .unset] [(.int (1 : Int32)), (.ref c1)]) (fun _ k => XS.iconst X1244.here hx rfl (hb hby at_170) k) ?_
              obtain ⟨cl1253, Ar1253, q1253, S1253, N1253, H1253, G1253⟩ := id F1251
              have hi1253 : ¬ ((1 : Int32) < 0 ∨ cl1253.slots.size ≤ ((1 : Int32)).toNatClampNeg) := inb_of S1253 ⟨by decide, by decide⟩
              refine WinW.to T1244 (mkF m 172 #[.val (.int p0), .val (.int p1), .val (.int p2), .val (.int p3), .val (.int (4 : Int32)), .val (.ref c1), .val (.ref r_1103), .val (.ref b1109), .val (.ref r_1244), .val (.int (-1 : Int32)), .unset] [(.int q1)]) (fun _ k => X1244.caload hx (j := (1 : Int32)) (v := (.int q1)) (by rw [e1244]; exact Ar1253.1) (State.isArrayOf_alike hZ1244.alike Ar1253.2.1) Ar1253.2.2 hi1253 (Has.at H1253 hi1253 rfl) (g := (mkF m 171 #[.val (.int p0), .val (.int p1), .val (.int p2), .val (.int p3), .val (.int (4 : Int32)), .val (.ref c1), .val (.ref r_1103), .val (.ref b1109), .val (.ref r_1244), .val (.int (-1 : Int32)), .unset] [(.int (1 : Int32)), (.ref c1)])) rfl rfl (hb hby at_171) _ k) ?_
              refine WinW.to T1244 (mkF m 174 #[.val (.int p0), .val (.int p1), .val (.int p2), .val (.int p3), .val (.int (4 : Int32)), .val (.ref c1), .val (.ref r_1103), .val (.ref b1109), .val (.ref r_1244), .val (.int (-1 : Int32)), .unset] [(.int (32 : Int32)), (.int q1)]) (fun _ k => XS.bipush X1244.here hx rfl (hb hby at_172) k) ?_
              refine WinW.to T1244 (mkF m 180 #[.val (.int p0), .val (.int p1), .val (.int p2), .val (.int p3), .val (.int (4 : Int32)), .val (.ref c1), .val (.ref r_1103), .val (.ref b1109), .val (.ref r_1244), .val (.int (-1 : Int32)), .unset] []) (fun _ k => XS.icmpYes X1244.here hx rfl (pc0 := 174) (pc' := 180) rfl (hb hby at_174) rfl (feq (show ¬ (q1 = (32 : Int32)) from hq1)).2 (by decide) (by decide) k) ?_
              refine WinW.to T1244 (mkF m 182 #[.val (.int p0), .val (.int p1), .val (.int p2), .val (.int p3), .val (.int (4 : Int32)), .val (.ref c1), .val (.ref r_1103), .val (.ref b1109), .val (.ref r_1244), .val (.int (-1 : Int32)), .unset] [(.int (4 : Int32))]) (fun _ k => XS.iload X1244.here hx rfl (hb hby at_180) rfl k) ?_
              refine WinW.to T1244 (mkF m 183 #[.val (.int p0), .val (.int p1), .val (.int p2), .val (.int p3), .val (.int (4 : Int32)), .val (.ref c1), .val (.ref r_1103), .val (.ref b1109), .val (.ref r_1244), .val (.int (-1 : Int32)), .unset] [(.int (2 : Int32)), (.int (4 : Int32))]) (fun _ k => XS.iconst X1244.here hx rfl (hb hby at_182) k) ?_
              refine WinW.to T1244 (mkF m 186 #[.val (.int p0), .val (.int p1), .val (.int p2), .val (.int p3), .val (.int (4 : Int32)), .val (.ref c1), .val (.ref r_1103), .val (.ref b1109), .val (.ref r_1244), .val (.int (-1 : Int32)), .unset] []) (fun _ k => XS.icmpNo X1244.here hx rfl (hb hby at_183) rfl (tlt (show (2 : Int32) < (4 : Int32) from by decide)).2.2.2 k) ?_
              refine WinW.to T1244 (mkF m 188 #[.val (.int p0), .val (.int p1), .val (.int p2), .val (.int p3), .val (.int (4 : Int32)), .val (.ref c1), .val (.ref r_1103), .val (.ref b1109), .val (.ref r_1244), .val (.int (-1 : Int32)), .unset] [(.ref c1)]) (fun _ k => XS.aload X1244.here hx rfl (hb hby at_186) rfl rfl k) ?_
              refine WinW.to T1244 (mkF m 189 #[.val (.int p0), .val (.int p1), .val (.int p2), .val (.int p3), .val (.int (4 : Int32)), .val (.ref c1), .val (.ref r_1103), .val (.ref b1109), .val (.ref r_1244), .val (.int (-1 : Int32)), .unset] [(.int (2 : Int32)), (.ref c1)]) (fun _ k => XS.iconst X1244.here hx rfl (hb hby at_188) k) ?_
              obtain ⟨cl1254, Ar1254, q1254, S1254, N1254, H1254, G1254⟩ := id F1251
              have hi1254 : ¬ ((2 : Int32) < 0 ∨ cl1254.slots.size ≤ ((2 : Int32)).toNatClampNeg) := inb_of S1254 ⟨by decide, by decide⟩
              refine WinW.to T1244 (mkF m 190 #[.val (.int p0), .val (.int p1), .val (.int p2), .val (.int p3), .val (.int (4 : Int32)), .val (.ref c1), .val (.ref r_1103), .val (.ref b1109), .val (.ref r_1244), .val (.int (-1 : Int32)), .unset] [(.int q2)]) (fun _ k => X1244.caload hx (j := (2 : Int32)) (v := (.int q2)) (by rw [e1244]; exact Ar1254.1) (State.isArrayOf_alike hZ1244.alike Ar1254.2.1) Ar1254.2.2 hi1254 (Has.at H1254 hi1254 rfl) (g := (mkF m 189 #[.val (.int p0), .val (.int p1), .val (.int p2), .val (.int p3), .val (.int (4 : Int32)), .val (.ref c1), .val (.ref r_1103), .val (.ref b1109), .val (.ref r_1244), .val (.int (-1 : Int32)), .unset] [(.int (2 : Int32)), (.ref c1)])) rfl rfl (hb hby at_189) _ k) ?_
              refine WinW.to T1244 (mkF m 192 #[.val (.int p0), .val (.int p1), .val (.int p2), .val (.int p3), .val (.int (4 : Int32)), .val (.ref c1), .val (.ref r_1103), .val (.ref b1109), .val (.ref r_1244), .val (.int (-1 : Int32)), .unset] [(.int (32 : Int32)), (.int q2)]) (fun _ k => XS.bipush X1244.here hx rfl (hb hby at_190) k) ?_
              refine WinW.to T1244 (mkF m 198 #[.val (.int p0), .val (.int p1), .val (.int p2), .val (.int p3), .val (.int (4 : Int32)), .val (.ref c1), .val (.ref r_1103), .val (.ref b1109), .val (.ref r_1244), .val (.int (-1 : Int32)), .unset] []) (fun _ k => XS.icmpYes X1244.here hx rfl (pc0 := 192) (pc' := 198) rfl (hb hby at_192) rfl (feq (show ¬ (q2 = (32 : Int32)) from hq2)).2 (by decide) (by decide) k) ?_
              refine WinW.to T1244 (mkF m 200 #[.val (.int p0), .val (.int p1), .val (.int p2), .val (.int p3), .val (.int (4 : Int32)), .val (.ref c1), .val (.ref r_1103), .val (.ref b1109), .val (.ref r_1244), .val (.int (-1 : Int32)), .unset] [(.int (4 : Int32))]) (fun _ k => XS.iload X1244.here hx rfl (hb hby at_198) rfl k) ?_
              refine WinW.to T1244 (mkF m 201 #[.val (.int p0), .val (.int p1), .val (.int p2), .val (.int p3), .val (.int (4 : Int32)), .val (.ref c1), .val (.ref r_1103), .val (.ref b1109), .val (.ref r_1244), .val (.int (-1 : Int32)), .unset] [(.int (3 : Int32)), (.int (4 : Int32))]) (fun _ k => XS.iconst X1244.here hx rfl (hb hby at_200) k) ?_
              refine WinW.to T1244 (mkF m 204 #[.val (.int p0), .val (.int p1), .val (.int p2), .val (.int p3), .val (.int (4 : Int32)), .val (.ref c1), .val (.ref r_1103), .val (.ref b1109), .val (.ref r_1244), .val (.int (-1 : Int32)), .unset] []) (fun _ k => XS.icmpNo X1244.here hx rfl (hb hby at_201) rfl (tlt (show (3 : Int32) < (4 : Int32) from by decide)).2.2.2 k) ?_
              refine WinW.to T1244 (mkF m 206 #[.val (.int p0), .val (.int p1), .val (.int p2), .val (.int p3), .val (.int (4 : Int32)), .val (.ref c1), .val (.ref r_1103), .val (.ref b1109), .val (.ref r_1244), .val (.int (-1 : Int32)), .unset] [(.ref c1)]) (fun _ k => XS.aload X1244.here hx rfl (hb hby at_204) rfl rfl k) ?_
              refine WinW.to T1244 (mkF m 207 #[.val (.int p0), .val (.int p1), .val (.int p2), .val (.int p3), .val (.int (4 : Int32)), .val (.ref c1), .val (.ref r_1103), .val (.ref b1109), .val (.ref r_1244), .val (.int (-1 : Int32)), .unset] [(.int (3 : Int32)), (.ref c1)]) (fun _ k => XS.iconst X1244.here hx rfl (hb hby at_206) k) ?_
              obtain ⟨cl1255, Ar1255, q1255, S1255, N1255, H1255, G1255⟩ := id F1251
              have hi1255 : ¬ ((3 : Int32) < 0 ∨ cl1255.slots.size ≤ ((3 : Int32)).toNatClampNeg) := inb_of S1255 ⟨by decide, by decide⟩
              refine WinW.to T1244 (mkF m 208 #[.val (.int p0), .val (.int p1), .val (.int p2), .val (.int p3), .val (.int (4 : Int32)), .val (.ref c1), .val (.ref r_1103), .val (.ref b1109), .val (.ref r_1244), .val (.int (-1 : Int32)), .unset] [(.int q3)]) (fun _ k => X1244.caload hx (j := (3 : Int32)) (v := (.int q3)) (by rw [e1244]; exact Ar1255.1) (State.isArrayOf_alike hZ1244.alike Ar1255.2.1) Ar1255.2.2 hi1255 (Has.at H1255 hi1255 rfl) (g := (mkF m 207 #[.val (.int p0), .val (.int p1), .val (.int p2), .val (.int p3), .val (.int (4 : Int32)), .val (.ref c1), .val (.ref r_1103), .val (.ref b1109), .val (.ref r_1244), .val (.int (-1 : Int32)), .unset] [(.int (3 : Int32)), (.ref c1)])) rfl rfl (hb hby at_207) _ k) ?_
              refine WinW.to T1244 (mkF m 210 #[.val (.int p0), .val (.int p1), .val (.int p2), .val (.int p3), .val (.int (4 : Int32)), .val (.ref c1), .val (.ref r_1103), .val (.ref b1109), .val (.ref r_1244), .val (.int (-1 : Int32)), .unset] [(.int (32 : Int32)), (.int q3)]) (fun _ k => XS.bipush X1244.here hx rfl (hb hby at_208) k) ?_
              refine WinW.to T1244 (mkF m 216 #[.val (.int p0), .val (.int p1), .val (.int p2), .val (.int p3), .val (.int (4 : Int32)), .val (.ref c1), .val (.ref r_1103), .val (.ref b1109), .val (.ref r_1244), .val (.int (-1 : Int32)), .unset] []) (fun _ k => XS.icmpYes X1244.here hx rfl (pc0 := 210) (pc' := 216) rfl (hb hby at_210) rfl (feq (show ¬ (q3 = (32 : Int32)) from hq3)).2 (by decide) (by decide) k) ?_
              exact Jc216 _ _ T1244 _ h1244 (X1244.mono (by decide) (by decide)) N1246 e1244 O1247 K1248 hS1244 hk1244 hZ1244 hown1244 C1250 r_1244 (-1 : Int32) t2_1244 k2_1244 4 (fun i => (fun i => ((fun i => ([q0, q1, q2, q3] : List Int32).getD i (0 : Int32)) i).toInt8.toInt32) (0 + i)) 4 0 (.val (.ref r_1103)) (.val (.ref b1109)) r1244_1 r1244_2 r1244_3 r1244_4 F1251 (by decide) (by decide) (by decide) ((fun i hi => by
                match i, hi with
                | 0, _ => exact (own_b255 hlq0 hcq0)
                | 1, _ => exact (own_b255 hlq1 hcq1)
                | 2, _ => exact (own_b255 hlq2 hcq2)
                | 3, _ => exact (own_b255 hlq3 hcq3))) (by decide)
  have Jc95 : ∀ (vmc95 : Vm) (kc95 : Nat) (Tc95 : State) (locsc95 : List Loc) (hc95 : Heap) (Xc95 : Stand p l e room_1 (s.setVm vmc95) m #[(.int p0), (.int p1), (.int p2), (.int p3)] below meth c Tc95 locsc95 1 4) (Nc95 : Fr n0 locsc95) (ec95 : Tc95.heap = hc95) (Oc95 : Old Z n0 hc95) (Kc95 : Keep h0 hc95 []) (hSc95 : s.Since vmc95 kc95) (hkc95 : kc95 ≤ hc95.size) (hZc95 : Z.Warmed39 (s.setVm vmc95).vm) (hownc95 : (s.setVm vmc95).vm.findClass "com/example/grantgate/grantgate/server/HeadVersionPinLaw" = some m.cls) (Cc95 : CHr Z EL1 s.vm s.heap vmc95 hc95) (c1 : Addr) (kc : ClassId) (q0 : Int32) (q1 : Int32) (q2 : Int32) (q3 : Int32)  (Fc95_0 : Arv Z hc95 c1 kc .char (4 : Int32) [(.int q0), (.int q1), (.int q2), (.int q3)] (.int (0 : Int32))) (hcq0 : nar .char q0 = q0) (hcq1 : nar .char q1 = q1) (hcq2 : nar .char q2 = q2) (hcq3 : nar .char q3 = q3) (hlq0 : ¬ (255 : Int32) < q0) (hlq1 : ¬ (255 : Int32) < q1) (hlq2 : ¬ (255 : Int32) < q2) (hlq3 : ¬ (255 : Int32) < q3) (hg : n0 ≤ c1) (hz : h0.size ≤ c1), WinW p e below s room_1 Z EL1 (fun v h L => v = some (.int (1 : Int32)) ∧ Fr n0 L ∧ (True)) (Tc95.setTop (mkF m 95 #[.val (.int p0), .val (.int p1), .val (.int p2), .val (.int p3), .val (.int ((p0 &&& (2147483647 : Int32)) % (5 : Int32))), .val (.ref c1), .unset, .unset, .unset, .unset, .unset] [])) := by
    intro vmc95 kc95 Tc95 locsc95 hc95 Xc95 Nc95 ec95 Oc95 Kc95 hSc95 hkc95 hZc95 hownc95 Cc95 c1 kc q0 q1 q2 q3 Fc95_0 hcq0 hcq1 hcq2 hcq3 hlq0 hlq1 hlq2 hlq3 hg hz
    refine WinW.to Tc95 (mkF m 96 #[.val (.int p0), .val (.int p1), .val (.int p2), .val (.int p3), .val (.int ((p0 &&& (2147483647 : Int32)) % (5 : Int32))), .val (.ref c1), .unset, .unset, .unset, .unset, .unset] [(.int p1)]) (fun _ k => XS.iloadN Xc95.here hx rfl (hb hby at_95) rfl k) ?_
    refine WinW.to Tc95 (mkF m 98 #[.val (.int p0), .val (.int p1), .val (.int p2), .val (.int p3), .val (.int ((p0 &&& (2147483647 : Int32)) % (5 : Int32))), .val (.ref c1), .unset, .unset, .unset, .unset, .unset] [(.int (8 : Int32)), (.int p1)]) (fun _ k => XS.bipush Xc95.here hx rfl (hb hby at_96) k) ?_
    refine WinW.to Tc95 (mkF m 99 #[.val (.int p0), .val (.int p1), .val (.int p2), .val (.int p3), .val (.int ((p0 &&& (2147483647 : Int32)) % (5 : Int32))), .val (.ref c1), .unset, .unset, .unset, .unset, .unset] [(.int (p1 &&& (8 : Int32)))]) (fun _ k => XS.iand Xc95.here hx rfl (hb hby at_98) rfl k) ?_
    by_cases hc1256 : (p1 &&& (8 : Int32)) = (0 : Int32)
    · refine WinW.to Tc95 (mkF m 108 #[.val (.int p0), .val (.int p1), .val (.int p2), .val (.int p3), .val (.int ((p0 &&& (2147483647 : Int32)) % (5 : Int32))), .val (.ref c1), .unset, .unset, .unset, .unset, .unset] []) (fun _ k => XS.ifYes Xc95.here hx rfl (pc0 := 99) (pc' := 108) rfl (hb hby at_99) rfl ((if0 _ _).trans (teq hc1256).1) (by decide) (by decide) k) ?_
      exact Jc108 _ _ Tc95 _ hc95 Xc95 Nc95 ec95 Oc95 Kc95 hSc95 hkc95 hZc95 hownc95 Cc95 c1 kc q0 q1 q2 q3 Fc95_0 hcq0 hcq1 hcq2 hcq3 hlq0 hlq1 hlq2 hlq3 hg hz
    · refine WinW.to Tc95 (mkF m 102 #[.val (.int p0), .val (.int p1), .val (.int p2), .val (.int p3), .val (.int ((p0 &&& (2147483647 : Int32)) % (5 : Int32))), .val (.ref c1), .unset, .unset, .unset, .unset, .unset] []) (fun _ k => XS.ifNo Xc95.here hx rfl (hb hby at_99) rfl ((if0 _ _).trans (feq hc1256).1) k) ?_
      refine WinW.to Tc95 (mkF m 104 #[.val (.int p0), .val (.int p1), .val (.int p2), .val (.int p3), .val (.int ((p0 &&& (2147483647 : Int32)) % (5 : Int32))), .val (.ref c1), .unset, .unset, .unset, .unset, .unset] [(.ref c1)]) (fun _ k => XS.aload Xc95.here hx rfl (hb hby at_102) rfl rfl k) ?_
      refine WinW.to Tc95 (mkF m 105 #[.val (.int p0), .val (.int p1), .val (.int p2), .val (.int p3), .val (.int ((p0 &&& (2147483647 : Int32)) % (5 : Int32))), .val (.ref c1), .unset, .unset, .unset, .unset, .unset] [(.int (3 : Int32)), (.ref c1)]) (fun _ k => XS.iconst Xc95.here hx rfl (hb hby at_104) k) ?_
      refine WinW.to Tc95 (mkF m 107 #[.val (.int p0), .val (.int p1), .val (.int p2), .val (.int p3), .val (.int ((p0 &&& (2147483647 : Int32)) % (5 : Int32))), .val (.ref c1), .unset, .unset, .unset, .unset, .unset] [(.int (32 : Int32)), (.int (3 : Int32)), (.ref c1)]) (fun _ k => XS.bipush Xc95.here hx rfl (hb hby at_105) k) ?_
      obtain ⟨cl1257, Ar1257, q1257, S1257, N1257, H1257, G1257⟩ := id Fc95_0
      have hi1257 : ¬ ((3 : Int32) < 0 ∨ cl1257.slots.size ≤ ((3 : Int32)).toNatClampNeg) := inb_of S1257 ⟨by decide, by decide⟩
      obtain ⟨T1258, h1258, X1258, e1258, W1258, st1258⟩ := stC Xc95 hx hZc95 ec95 Ar1257 (j := (3 : Int32)) hi1257 (g := (mkF m 107 #[.val (.int p0), .val (.int p1), .val (.int p2), .val (.int p3), .val (.int ((p0 &&& (2147483647 : Int32)) % (5 : Int32))), .val (.ref c1), .unset, .unset, .unset, .unset, .unset] [(.int (32 : Int32)), (.int (3 : Int32)), (.ref c1)])) rfl rfl (hb hby at_107)
      have O1260 := Old.wr Oc95 W1258 hg
      have hk1261 := Nat.le_trans hkc95 (Nat.le_of_eq (Wr.size W1258).symm)
      have K1262 : Keep h0 h1258 [] := Kc95.wr W1258 (Or.inr hz)
      have N1263 := Fr.snoc X1258 Nc95 hg
      have c1264 := CHr.wr W1258 (Safe.arv hZc95.alike Fc95_0 (by decide)) Cc95.1
      have C1265 := CHr.trans Cc95 c1264
      have eq1258 : nar .char (32 : Int32) = (32 : Int32) := (by decide)
      have W1258 := eq1258 ▸ W1258
      have F1259 : Arv Z h1258 c1 kc .char (4 : Int32) [(.int q0), (.int q1), (.int q2), (.int (32 : Int32))] (.int (0 : Int32)) := Arv.set Ar1257 q1257 S1257 N1257 H1257 G1257 (eq1258 ▸ (fits_nar_char _)) W1258 3 rfl (Nat.le_of_ble_eq_true rfl)
      refine WinW.to T1258 (mkF m 108 #[.val (.int p0), .val (.int p1), .val (.int p2), .val (.int p3), .val (.int ((p0 &&& (2147483647 : Int32)) % (5 : Int32))), .val (.ref c1), .unset, .unset, .unset, .unset, .unset] []) (fun _ k => st1258 _ k) ?_
      exact Jc108 _ _ T1258 _ h1258 X1258 N1263 e1258 O1260 K1262 hSc95 hk1261 hZc95 hownc95 C1265 c1 kc q0 q1 q2 (32 : Int32) F1259 hcq0 hcq1 hcq2 (by decide) hlq0 hlq1 hlq2 (show ¬ (255 : Int32) < (32 : Int32) from by decide) hg hz
  have Jc83 : ∀ (vmc83 : Vm) (kc83 : Nat) (Tc83 : State) (locsc83 : List Loc) (hc83 : Heap) (Xc83 : Stand p l e room_1 (s.setVm vmc83) m #[(.int p0), (.int p1), (.int p2), (.int p3)] below meth c Tc83 locsc83 1 4) (Nc83 : Fr n0 locsc83) (ec83 : Tc83.heap = hc83) (Oc83 : Old Z n0 hc83) (Kc83 : Keep h0 hc83 []) (hSc83 : s.Since vmc83 kc83) (hkc83 : kc83 ≤ hc83.size) (hZc83 : Z.Warmed39 (s.setVm vmc83).vm) (hownc83 : (s.setVm vmc83).vm.findClass "com/example/grantgate/grantgate/server/HeadVersionPinLaw" = some m.cls) (Cc83 : CHr Z EL1 s.vm s.heap vmc83 hc83) (c1 : Addr) (kc : ClassId) (q0 : Int32) (q1 : Int32) (q2 : Int32) (q3 : Int32)  (Fc83_0 : Arv Z hc83 c1 kc .char (4 : Int32) [(.int q0), (.int q1), (.int q2), (.int q3)] (.int (0 : Int32))) (hcq0 : nar .char q0 = q0) (hcq1 : nar .char q1 = q1) (hcq2 : nar .char q2 = q2) (hcq3 : nar .char q3 = q3) (hlq0 : ¬ (255 : Int32) < q0) (hlq1 : ¬ (255 : Int32) < q1) (hlq2 : ¬ (255 : Int32) < q2) (hlq3 : ¬ (255 : Int32) < q3) (hg : n0 ≤ c1) (hz : h0.size ≤ c1), WinW p e below s room_1 Z EL1 (fun v h L => v = some (.int (1 : Int32)) ∧ Fr n0 L ∧ (True)) (Tc83.setTop (mkF m 83 #[.val (.int p0), .val (.int p1), .val (.int p2), .val (.int p3), .val (.int ((p0 &&& (2147483647 : Int32)) % (5 : Int32))), .val (.ref c1), .unset, .unset, .unset, .unset, .unset] [])) := by
    intro vmc83 kc83 Tc83 locsc83 hc83 Xc83 Nc83 ec83 Oc83 Kc83 hSc83 hkc83 hZc83 hownc83 Cc83 c1 kc q0 q1 q2 q3 Fc83_0 hcq0 hcq1 hcq2 hcq3 hlq0 hlq1 hlq2 hlq3 hg hz
    refine WinW.to Tc83 (mkF m 84 #[.val (.int p0), .val (.int p1), .val (.int p2), .val (.int p3), .val (.int ((p0 &&& (2147483647 : Int32)) % (5 : Int32))), .val (.ref c1), .unset, .unset, .unset, .unset, .unset] [(.int p1)]) (fun _ k => XS.iloadN Xc83.here hx rfl (hb hby at_83) rfl k) ?_
    refine WinW.to Tc83 (mkF m 85 #[.val (.int p0), .val (.int p1), .val (.int p2), .val (.int p3), .val (.int ((p0 &&& (2147483647 : Int32)) % (5 : Int32))), .val (.ref c1), .unset, .unset, .unset, .unset, .unset] [(.int (4 : Int32)), (.int p1)]) (fun _ k => XS.iconst Xc83.here hx rfl (hb hby at_84) k) ?_
    refine WinW.to Tc83 (mkF m 86 #[.val (.int p0), .val (.int p1), .val (.int p2), .val (.int p3), .val (.int ((p0 &&& (2147483647 : Int32)) % (5 : Int32))), .val (.ref c1), .unset, .unset, .unset, .unset, .unset] [(.int (p1 &&& (4 : Int32)))]) (fun _ k => XS.iand Xc83.here hx rfl (hb hby at_85) rfl k) ?_
    by_cases hc1266 : (p1 &&& (4 : Int32)) = (0 : Int32)
    · refine WinW.to Tc83 (mkF m 95 #[.val (.int p0), .val (.int p1), .val (.int p2), .val (.int p3), .val (.int ((p0 &&& (2147483647 : Int32)) % (5 : Int32))), .val (.ref c1), .unset, .unset, .unset, .unset, .unset] []) (fun _ k => XS.ifYes Xc83.here hx rfl (pc0 := 86) (pc' := 95) rfl (hb hby at_86) rfl ((if0 _ _).trans (teq hc1266).1) (by decide) (by decide) k) ?_
      exact Jc95 _ _ Tc83 _ hc83 Xc83 Nc83 ec83 Oc83 Kc83 hSc83 hkc83 hZc83 hownc83 Cc83 c1 kc q0 q1 q2 q3 Fc83_0 hcq0 hcq1 hcq2 hcq3 hlq0 hlq1 hlq2 hlq3 hg hz
    · refine WinW.to Tc83 (mkF m 89 #[.val (.int p0), .val (.int p1), .val (.int p2), .val (.int p3), .val (.int ((p0 &&& (2147483647 : Int32)) % (5 : Int32))), .val (.ref c1), .unset, .unset, .unset, .unset, .unset] []) (fun _ k => XS.ifNo Xc83.here hx rfl (hb hby at_86) rfl ((if0 _ _).trans (feq hc1266).1) k) ?_
      refine WinW.to Tc83 (mkF m 91 #[.val (.int p0), .val (.int p1), .val (.int p2), .val (.int p3), .val (.int ((p0 &&& (2147483647 : Int32)) % (5 : Int32))), .val (.ref c1), .unset, .unset, .unset, .unset, .unset] [(.ref c1)]) (fun _ k => XS.aload Xc83.here hx rfl (hb hby at_89) rfl rfl k) ?_
      refine WinW.to Tc83 (mkF m 92 #[.val (.int p0), .val (.int p1), .val (.int p2), .val (.int p3), .val (.int ((p0 &&& (2147483647 : Int32)) % (5 : Int32))), .val (.ref c1), .unset, .unset, .unset, .unset, .unset] [(.int (2 : Int32)), (.ref c1)]) (fun _ k => XS.iconst Xc83.here hx rfl (hb hby at_91) k) ?_
      refine WinW.to Tc83 (mkF m 94 #[.val (.int p0), .val (.int p1), .val (.int p2), .val (.int p3), .val (.int ((p0 &&& (2147483647 : Int32)) % (5 : Int32))), .val (.ref c1), .unset, .unset, .unset, .unset, .unset] [(.int (32 : Int32)), (.int (2 : Int32)), (.ref c1)]) (fun _ k => XS.bipush Xc83.here hx rfl (hb hby at_92) k) ?_
      obtain ⟨cl1267, Ar1267, q1267, S1267, N1267, H1267, G1267⟩ := id Fc83_0
      have hi1267 : ¬ ((2 : Int32) < 0 ∨ cl1267.slots.size ≤ ((2 : Int32)).toNatClampNeg) := inb_of S1267 ⟨by decide, by decide⟩
      obtain ⟨T1268, h1268, X1268, e1268, W1268, st1268⟩ := stC Xc83 hx hZc83 ec83 Ar1267 (j := (2 : Int32)) hi1267 (g := (mkF m 94 #[.val (.int p0), .val (.int p1), .val (.int p2), .val (.int p3), .val (.int ((p0 &&& (2147483647 : Int32)) % (5 : Int32))), .val (.ref c1), .unset, .unset, .unset, .unset, .unset] [(.int (32 : Int32)), (.int (2 : Int32)), (.ref c1)])) rfl rfl (hb hby at_94)
      have O1270 := Old.wr Oc83 W1268 hg
      have hk1271 := Nat.le_trans hkc83 (Nat.le_of_eq (Wr.size W1268).symm)
      have K1272 : Keep h0 h1268 [] := Kc83.wr W1268 (Or.inr hz)
      have N1273 := Fr.snoc X1268 Nc83 hg
      have c1274 := CHr.wr W1268 (Safe.arv hZc83.alike Fc83_0 (by decide)) Cc83.1
      have C1275 := CHr.trans Cc83 c1274
      have eq1268 : nar .char (32 : Int32) = (32 : Int32) := (by decide)
      have W1268 := eq1268 ▸ W1268
      have F1269 : Arv Z h1268 c1 kc .char (4 : Int32) [(.int q0), (.int q1), (.int (32 : Int32)), (.int q3)] (.int (0 : Int32)) := Arv.set Ar1267 q1267 S1267 N1267 H1267 G1267 (eq1268 ▸ (fits_nar_char _)) W1268 2 rfl (Nat.le_of_ble_eq_true rfl)
      refine WinW.to T1268 (mkF m 95 #[.val (.int p0), .val (.int p1), .val (.int p2), .val (.int p3), .val (.int ((p0 &&& (2147483647 : Int32)) % (5 : Int32))), .val (.ref c1), .unset, .unset, .unset, .unset, .unset] []) (fun _ k => st1268 _ k) ?_
      exact Jc95 _ _ T1268 _ h1268 X1268 N1273 e1268 O1270 K1272 hSc83 hk1271 hZc83 hownc83 C1275 c1 kc q0 q1 (32 : Int32) q3 F1269 hcq0 hcq1 (by decide) hcq3 hlq0 hlq1 (show ¬ (255 : Int32) < (32 : Int32) from by decide) hlq3 hg hz
  have Jc71 : ∀ (vmc71 : Vm) (kc71 : Nat) (Tc71 : State) (locsc71 : List Loc) (hc71 : Heap) (Xc71 : Stand p l e room_1 (s.setVm vmc71) m #[(.int p0), (.int p1), (.int p2), (.int p3)] below meth c Tc71 locsc71 1 4) (Nc71 : Fr n0 locsc71) (ec71 : Tc71.heap = hc71) (Oc71 : Old Z n0 hc71) (Kc71 : Keep h0 hc71 []) (hSc71 : s.Since vmc71 kc71) (hkc71 : kc71 ≤ hc71.size) (hZc71 : Z.Warmed39 (s.setVm vmc71).vm) (hownc71 : (s.setVm vmc71).vm.findClass "com/example/grantgate/grantgate/server/HeadVersionPinLaw" = some m.cls) (Cc71 : CHr Z EL1 s.vm s.heap vmc71 hc71) (c1 : Addr) (kc : ClassId) (q0 : Int32) (q1 : Int32) (q2 : Int32) (q3 : Int32)  (Fc71_0 : Arv Z hc71 c1 kc .char (4 : Int32) [(.int q0), (.int q1), (.int q2), (.int q3)] (.int (0 : Int32))) (hcq0 : nar .char q0 = q0) (hcq1 : nar .char q1 = q1) (hcq2 : nar .char q2 = q2) (hcq3 : nar .char q3 = q3) (hlq0 : ¬ (255 : Int32) < q0) (hlq1 : ¬ (255 : Int32) < q1) (hlq2 : ¬ (255 : Int32) < q2) (hlq3 : ¬ (255 : Int32) < q3) (hg : n0 ≤ c1) (hz : h0.size ≤ c1), WinW p e below s room_1 Z EL1 (fun v h L => v = some (.int (1 : Int32)) ∧ Fr n0 L ∧ (True)) (Tc71.setTop (mkF m 71 #[.val (.int p0), .val (.int p1), .val (.int p2), .val (.int p3), .val (.int ((p0 &&& (2147483647 : Int32)) % (5 : Int32))), .val (.ref c1), .unset, .unset, .unset, .unset, .unset] [])) := by
    intro vmc71 kc71 Tc71 locsc71 hc71 Xc71 Nc71 ec71 Oc71 Kc71 hSc71 hkc71 hZc71 hownc71 Cc71 c1 kc q0 q1 q2 q3 Fc71_0 hcq0 hcq1 hcq2 hcq3 hlq0 hlq1 hlq2 hlq3 hg hz
    refine WinW.to Tc71 (mkF m 72 #[.val (.int p0), .val (.int p1), .val (.int p2), .val (.int p3), .val (.int ((p0 &&& (2147483647 : Int32)) % (5 : Int32))), .val (.ref c1), .unset, .unset, .unset, .unset, .unset] [(.int p1)]) (fun _ k => XS.iloadN Xc71.here hx rfl (hb hby at_71) rfl k) ?_
    refine WinW.to Tc71 (mkF m 73 #[.val (.int p0), .val (.int p1), .val (.int p2), .val (.int p3), .val (.int ((p0 &&& (2147483647 : Int32)) % (5 : Int32))), .val (.ref c1), .unset, .unset, .unset, .unset, .unset] [(.int (2 : Int32)), (.int p1)]) (fun _ k => XS.iconst Xc71.here hx rfl (hb hby at_72) k) ?_
    refine WinW.to Tc71 (mkF m 74 #[.val (.int p0), .val (.int p1), .val (.int p2), .val (.int p3), .val (.int ((p0 &&& (2147483647 : Int32)) % (5 : Int32))), .val (.ref c1), .unset, .unset, .unset, .unset, .unset] [(.int (p1 &&& (2 : Int32)))]) (fun _ k => XS.iand Xc71.here hx rfl (hb hby at_73) rfl k) ?_
    by_cases hc1276 : (p1 &&& (2 : Int32)) = (0 : Int32)
    · refine WinW.to Tc71 (mkF m 83 #[.val (.int p0), .val (.int p1), .val (.int p2), .val (.int p3), .val (.int ((p0 &&& (2147483647 : Int32)) % (5 : Int32))), .val (.ref c1), .unset, .unset, .unset, .unset, .unset] []) (fun _ k => XS.ifYes Xc71.here hx rfl (pc0 := 74) (pc' := 83) rfl (hb hby at_74) rfl ((if0 _ _).trans (teq hc1276).1) (by decide) (by decide) k) ?_
      exact Jc83 _ _ Tc71 _ hc71 Xc71 Nc71 ec71 Oc71 Kc71 hSc71 hkc71 hZc71 hownc71 Cc71 c1 kc q0 q1 q2 q3 Fc71_0 hcq0 hcq1 hcq2 hcq3 hlq0 hlq1 hlq2 hlq3 hg hz
    · refine WinW.to Tc71 (mkF m 77 #[.val (.int p0), .val (.int p1), .val (.int p2), .val (.int p3), .val (.int ((p0 &&& (2147483647 : Int32)) % (5 : Int32))), .val (.ref c1), .unset, .unset, .unset, .unset, .unset] []) (fun _ k => XS.ifNo Xc71.here hx rfl (hb hby at_74) rfl ((if0 _ _).trans (feq hc1276).1) k) ?_
      refine WinW.to Tc71 (mkF m 79 #[.val (.int p0), .val (.int p1), .val (.int p2), .val (.int p3), .val (.int ((p0 &&& (2147483647 : Int32)) % (5 : Int32))), .val (.ref c1), .unset, .unset, .unset, .unset, .unset] [(.ref c1)]) (fun _ k => XS.aload Xc71.here hx rfl (hb hby at_77) rfl rfl k) ?_
      refine WinW.to Tc71 (mkF m 80 #[.val (.int p0), .val (.int p1), .val (.int p2), .val (.int p3), .val (.int ((p0 &&& (2147483647 : Int32)) % (5 : Int32))), .val (.ref c1), .unset, .unset, .unset, .unset, .unset] [(.int (1 : Int32)), (.ref c1)]) (fun _ k => XS.iconst Xc71.here hx rfl (hb hby at_79) k) ?_
      refine WinW.to Tc71 (mkF m 82 #[.val (.int p0), .val (.int p1), .val (.int p2), .val (.int p3), .val (.int ((p0 &&& (2147483647 : Int32)) % (5 : Int32))), .val (.ref c1), .unset, .unset, .unset, .unset, .unset] [(.int (32 : Int32)), (.int (1 : Int32)), (.ref c1)]) (fun _ k => XS.bipush Xc71.here hx rfl (hb hby at_80) k) ?_
      obtain ⟨cl1277, Ar1277, q1277, S1277, N1277, H1277, G1277⟩ := id Fc71_0
      have hi1277 : ¬ ((1 : Int32) < 0 ∨ cl1277.slots.size ≤ ((1 : Int32)).toNatClampNeg) := inb_of S1277 ⟨by decide, by decide⟩
      obtain ⟨T1278, h1278, X1278, e1278, W1278, st1278⟩ := stC Xc71 hx hZc71 ec71 Ar1277 (j := (1 : Int32)) hi1277 (g := (mkF m 82 #[.val (.int p0), .val (.int p1), .val (.int p2), .val (.int p3), .val (.int ((p0 &&& (2147483647 : Int32)) % (5 : Int32))), .val (.ref c1), .unset, .unset, .unset, .unset, .unset] [(.int (32 : Int32)), (.int (1 : Int32)), (.ref c1)])) rfl rfl (hb hby at_82)
      have O1280 := Old.wr Oc71 W1278 hg
      have hk1281 := Nat.le_trans hkc71 (Nat.le_of_eq (Wr.size W1278).symm)
      have K1282 : Keep h0 h1278 [] := Kc71.wr W1278 (Or.inr hz)
      have N1283 := Fr.snoc X1278 Nc71 hg
      have c1284 := CHr.wr W1278 (Safe.arv hZc71.alike Fc71_0 (by decide)) Cc71.1
      have C1285 := CHr.trans Cc71 c1284
      have eq1278 : nar .char (32 : Int32) = (32 : Int32) := (by decide)
      have W1278 := eq1278 ▸ W1278
      have F1279 : Arv Z h1278 c1 kc .char (4 : Int32) [(.int q0), (.int (32 : Int32)), (.int q2), (.int q3)] (.int (0 : Int32)) := Arv.set Ar1277 q1277 S1277 N1277 H1277 G1277 (eq1278 ▸ (fits_nar_char _)) W1278 1 rfl (Nat.le_of_ble_eq_true rfl)
      refine WinW.to T1278 (mkF m 83 #[.val (.int p0), .val (.int p1), .val (.int p2), .val (.int p3), .val (.int ((p0 &&& (2147483647 : Int32)) % (5 : Int32))), .val (.ref c1), .unset, .unset, .unset, .unset, .unset] []) (fun _ k => st1278 _ k) ?_
      exact Jc83 _ _ T1278 _ h1278 X1278 N1283 e1278 O1280 K1282 hSc71 hk1281 hZc71 hownc71 C1285 c1 kc q0 (32 : Int32) q2 q3 F1279 hcq0 (by decide) hcq2 hcq3 hlq0 (show ¬ (255 : Int32) < (32 : Int32) from by decide) hlq2 hlq3 hg hz
  refine WinW.to T720 (mkF m 60 #[.val (.int p0), .val (.int p1), .val (.int p2), .val (.int p3), .val (.int ((p0 &&& (2147483647 : Int32)) % (5 : Int32))), .val (.ref b687), .unset, .unset, .unset, .unset, .unset] [(.int p1)]) (fun _ k => XS.iloadN X720.here hx rfl (hb hby at_59) rfl k) ?_
  refine WinW.to T720 (mkF m 61 #[.val (.int p0), .val (.int p1), .val (.int p2), .val (.int p3), .val (.int ((p0 &&& (2147483647 : Int32)) % (5 : Int32))), .val (.ref b687), .unset, .unset, .unset, .unset, .unset] [(.int (1 : Int32)), (.int p1)]) (fun _ k => XS.iconst X720.here hx rfl (hb hby at_60) k) ?_
  refine WinW.to T720 (mkF m 62 #[.val (.int p0), .val (.int p1), .val (.int p2), .val (.int p3), .val (.int ((p0 &&& (2147483647 : Int32)) % (5 : Int32))), .val (.ref b687), .unset, .unset, .unset, .unset, .unset] [(.int (p1 &&& (1 : Int32)))]) (fun _ k => XS.iand X720.here hx rfl (hb hby at_61) rfl k) ?_
  by_cases hc1286 : (p1 &&& (1 : Int32)) = (0 : Int32)
  · refine WinW.to T720 (mkF m 71 #[.val (.int p0), .val (.int p1), .val (.int p2), .val (.int p3), .val (.int ((p0 &&& (2147483647 : Int32)) % (5 : Int32))), .val (.ref b687), .unset, .unset, .unset, .unset, .unset] []) (fun _ k => XS.ifYes X720.here hx rfl (pc0 := 62) (pc' := 71) rfl (hb hby at_62) rfl ((if0 _ _).trans (teq hc1286).1) (by decide) (by decide) k) ?_
    exact Jc71 _ _ T720 _ h720 X720 N724 e720 O722 K723 hS0 (Nat.zero_le _) hZ hown C726 b687 k687 (p2 &&& (255 : Int32)) (((p2.toUInt32 >>> ((8 : Int32) &&& 31).toUInt32).toInt32) &&& (255 : Int32)) (p3 &&& (255 : Int32)) (((p3.toUInt32 >>> ((8 : Int32) &&& 31).toUInt32).toInt32) &&& (255 : Int32)) F721 (i2c_mask p2) (i2c_mask ((p2.toUInt32 >>> ((8 : Int32) &&& 31).toUInt32).toInt32)) (i2c_mask p3) (i2c_mask ((p3.toUInt32 >>> ((8 : Int32) &&& 31).toUInt32).toInt32)) (own_255 p2) (own_255 ((p2.toUInt32 >>> ((8 : Int32) &&& 31).toUInt32).toInt32)) (own_255 p3) (own_255 ((p3.toUInt32 >>> ((8 : Int32) &&& 31).toUInt32).toInt32)) g688 z689
  · refine WinW.to T720 (mkF m 65 #[.val (.int p0), .val (.int p1), .val (.int p2), .val (.int p3), .val (.int ((p0 &&& (2147483647 : Int32)) % (5 : Int32))), .val (.ref b687), .unset, .unset, .unset, .unset, .unset] []) (fun _ k => XS.ifNo X720.here hx rfl (hb hby at_62) rfl ((if0 _ _).trans (feq hc1286).1) k) ?_
    refine WinW.to T720 (mkF m 67 #[.val (.int p0), .val (.int p1), .val (.int p2), .val (.int p3), .val (.int ((p0 &&& (2147483647 : Int32)) % (5 : Int32))), .val (.ref b687), .unset, .unset, .unset, .unset, .unset] [(.ref b687)]) (fun _ k => XS.aload X720.here hx rfl (hb hby at_65) rfl rfl k) ?_
    refine WinW.to T720 (mkF m 68 #[.val (.int p0), .val (.int p1), .val (.int p2), .val (.int p3), .val (.int ((p0 &&& (2147483647 : Int32)) % (5 : Int32))), .val (.ref b687), .unset, .unset, .unset, .unset, .unset] [(.int (0 : Int32)), (.ref b687)]) (fun _ k => XS.iconst X720.here hx rfl (hb hby at_67) k) ?_
    refine WinW.to T720 (mkF m 70 #[.val (.int p0), .val (.int p1), .val (.int p2), .val (.int p3), .val (.int ((p0 &&& (2147483647 : Int32)) % (5 : Int32))), .val (.ref b687), .unset, .unset, .unset, .unset, .unset] [(.int (32 : Int32)), (.int (0 : Int32)), (.ref b687)]) (fun _ k => XS.bipush X720.here hx rfl (hb hby at_68) k) ?_
    obtain ⟨cl1287, Ar1287, q1287, S1287, N1287, H1287, G1287⟩ := id F721
    have hi1287 : ¬ ((0 : Int32) < 0 ∨ cl1287.slots.size ≤ ((0 : Int32)).toNatClampNeg) := inb_of S1287 ⟨by decide, by decide⟩
    obtain ⟨T1288, h1288, X1288, e1288, W1288, st1288⟩ := stC X720 hx hZ e720 Ar1287 (j := (0 : Int32)) hi1287 (g := (mkF m 70 #[.val (.int p0), .val (.int p1), .val (.int p2), .val (.int p3), .val (.int ((p0 &&& (2147483647 : Int32)) % (5 : Int32))), .val (.ref b687), .unset, .unset, .unset, .unset, .unset] [(.int (32 : Int32)), (.int (0 : Int32)), (.ref b687)])) rfl rfl (hb hby at_70)
    have O1290 := Old.wr O722 W1288 g688
    have K1291 : Keep h0 h1288 [] := K723.wr W1288 (Or.inr z689)
    have N1292 := Fr.snoc X1288 N724 g688
    have c1293 := CHr.wr W1288 (Safe.arv hZ.alike F721 (by decide)) C726.1
    have C1294 := CHr.trans C726 c1293
    have eq1288 : nar .char (32 : Int32) = (32 : Int32) := (by decide)
    have W1288 := eq1288 ▸ W1288
    have F1289 : Arv Z h1288 b687 k687 .char (4 : Int32) [(.int (32 : Int32)), (.int (((p2.toUInt32 >>> ((8 : Int32) &&& 31).toUInt32).toInt32) &&& (255 : Int32))), (.int (p3 &&& (255 : Int32))), (.int (((p3.toUInt32 >>> ((8 : Int32) &&& 31).toUInt32).toInt32) &&& (255 : Int32)))] (.int (0 : Int32)) := Arv.set Ar1287 q1287 S1287 N1287 H1287 G1287 (eq1288 ▸ (fits_nar_char _)) W1288 0 rfl (Nat.le_of_ble_eq_true rfl)
    refine WinW.to T1288 (mkF m 71 #[.val (.int p0), .val (.int p1), .val (.int p2), .val (.int p3), .val (.int ((p0 &&& (2147483647 : Int32)) % (5 : Int32))), .val (.ref b687), .unset, .unset, .unset, .unset, .unset] []) (fun _ k => st1288 _ k) ?_
    exact Jc71 _ _ T1288 _ h1288 X1288 N1292 e1288 O1290 K1291 hS0 (Nat.zero_le _) hZ hown C1294 b687 k687 (32 : Int32) (((p2.toUInt32 >>> ((8 : Int32) &&& 31).toUInt32).toInt32) &&& (255 : Int32)) (p3 &&& (255 : Int32)) (((p3.toUInt32 >>> ((8 : Int32) &&& 31).toUInt32).toInt32) &&& (255 : Int32)) F1289 (by decide) (i2c_mask ((p2.toUInt32 >>> ((8 : Int32) &&& 31).toUInt32).toInt32)) (i2c_mask p3) (i2c_mask ((p3.toUInt32 >>> ((8 : Int32) &&& 31).toUInt32).toInt32)) (show ¬ (255 : Int32) < (32 : Int32) from by decide) (own_255 ((p2.toUInt32 >>> ((8 : Int32) &&& 31).toUInt32).toInt32)) (own_255 p3) (own_255 ((p3.toUInt32 >>> ((8 : Int32) &&& 31).toUInt32).toInt32)) g688 z689
set_option maxRecDepth 65536 in
set_option maxHeartbeats 40000000 in
theorem comes_1 {Post : Tables → Env → Array Value → State → Outcome → State → Prop} (hpost : ∀ tb e args s v u, (limb_1_1.after args s (.returned v) u = true ∧ limb_1_2.after args s (.returned v) u = true ∧ True) → ReturnedEndW s (.returned v) u (Jvm.fieldLocs frame_1_writes args s ++ Jvm.arrayLocs frame_1_arrays args s ++ Jvm.staticLocs frame_1_statics s) 32 2176 → Post tb e args s (.returned v) u) :
    ArmFor flags0 classFile x code maxLocals ret World_1 tables_1 room_1 Calls_1 rest_1 Pre_1 Post := by
  intro l hfl _ hworld p e ha hc hk s m args below hf hA hF happ hP
  obtain ⟨hcalls, hrest, hpre⟩ := hP
  obtain ⟨-, -, -, hnamed, -, -, -, hat⟩ := (Spec.applies_iff hf).mp happ
  obtain ⟨hg, hn⟩ := and_e (Cond.before_iff.mp (show (Jvm.Cond.and given_1 narrow_1).before args s = true from hpre))
  obtain ⟨gc, hg⟩ := and_e hg
  obtain ⟨ga0, hg⟩ := and_e hg
  obtain ⟨ga1, hg⟩ := and_e hg
  obtain ⟨ga2, hg⟩ := and_e hg
  obtain ⟨w0, w1, w2, w3, rfl⟩ : ∃ w0 w1 w2 w3 : Value, args = #[w0, w1, w2, w3] := by
    have hs : args.size = 4 := by simpa [Cond.value, given_1] using gc
    obtain ⟨L⟩ := args
    match L, hs with
    | [w0, w1, w2, w3], _ => exact ⟨w0, w1, w2, w3, rfl⟩
  have hw := fun d (hd : d ∈ tables_1) => atoms_spec (ws := Jvm.Cond.code x code maxLocals ret :: tables_1) hat d (List.mem_cons_of_mem _ hd)
  have hfit : Fit s := fun {y c} hc i hi => by
    obtain ⟨ha, rfl⟩ := Array.getElem?_eq_some_iff.mp hc
    have q := List.all_eq_true.mp ((Array.all_eq_true_iff_forall_mem.mp hF) _ (Array.getElem_mem ha)) i (List.mem_range.mpr hi)
    simpa [Array.getElem?_eq_getElem hi] using q
  obtain ⟨hsets, hown0⟩ := atoms_of _ (rest_1_c_eq ▸ (show rest_1_c.before _ s = true from hrest))
  have hr0 := Cond.before_iff.mp hown0
  obtain ⟨i0, ei0⟩ := is_v ga0
  obtain rfl : w0 = (.int i0) := Option.some.inj ei0
  obtain ⟨i1, ei1⟩ := is_v ga1
  obtain rfl : w1 = (.int i1) := Option.some.inj ei1
  obtain ⟨i2, ei2⟩ := is_v ga2
  obtain rfl : w2 = (.int i2) := Option.some.inj ei2
  obtain ⟨i3, ei3⟩ := is_v hg
  obtain rfl : w3 = (.int i3) := Option.some.inj ei3
  have hs := fun i (d : Jvm.Cond) (hd : jdkStatics_1[i]? = some d) => hsets d (List.mem_of_getElem? hd)
  obtain ⟨cs, ev_cs⟩ := is_v (Cond.before_iff.mp (hs 10 _ rfl))
  have S_CS : Sta s s.heap "java/lang/String" "COMPACT_STRINGS" "Z" (.int cs) := Sta.start ev_cs (Or.inl (hs 9 _ rfl))
  have hcs : ¬ (cs = (0 : Int32)) := gotF (Cond.eq_ints ev_cs rfl) (not_v (Cond.before_iff.mp (hs 11 _ rfl)))
  obtain ⟨x1, ev_x1, hx1⟩ := isR_v (Cond.before_iff.mp (hs 17 _ rfl))
  have S_SI : Sta s s.heap "jdk/internal/util/Preconditions" "SIOOBE_FORMATTER" "Ljava/util/function/BiFunction;" x1 := Sta.start ev_x1 (Or.inl (hs 16 _ rfl))
  obtain ⟨x2, ev_x2⟩ := exa_v (Cond.before_iff.mp (hs 7 _ rfl))
  have S_DE : Sta s s.heap "java/util/ArrayList" "DEFAULTCAPACITY_EMPTY_ELEMENTDATA" "[Ljava/lang/Object;" (.ref x2) := Sta.start ev_x2 (Or.inr ⟨(wk hw 32 rfl), hs 2 _ rfl⟩)
  have hch : CHv s EL1 s.vm s.heap := CHv.start (own_EW hw) (fun p hp => hcalls.1 p hp) (hs 11 _ rfl) (wk hw 20 rfl) (wk hw 7 rfl)
  obtain ⟨n, o, h1, h2, h3, v, L, rfl, hQ, -, hq⟩ := rm0 l s _ hw tables_1 i0 i1 i2 i3 cs x1 (.ref x2) s.heap s.heap.size (Old.start s) S_CS hcs S_SI hx1 S_DE rfl p e ha hc hk s m _ below hf ((Spec.applies_iff_loose hf).mp happ).1 ⟨rfl, State.Warmed39.refl s, rfl, hch⟩ trivial
  obtain ⟨rfl, N, -⟩ := hQ
  refine ⟨n, _, h1, h2, h3, hpost _ _ _ _ _ _ ⟨Cond.after_iff.mpr rfl, Cond.after_iff.mpr (eq_i res_at (Term.int_eval (1)) rfl), trivial⟩ ⟨hq.1, hq.2.1, hq.2.2.1, (hq.2.2.2.sift fun y hy => Or.inr (N y hy)).mono (by decide) (by decide)⟩⟩
theorem main_1_1 : Claimed_1_1 := comes_1 fun _ _ _ _ _ _ h hF => ⟨h.1, hF⟩
theorem main_1_2 : Claimed_1_2 := comes_1 fun _ _ _ _ _ _ h hF => ⟨h.2.1, hF⟩
end Jvm.Pilot.@@N@@
namespace Jvm.Pilot.@@N@@
open Jvm Jvm.ClassFile Sem Op Lib Jvm.Free Jvm.Stand Jvm.Pilot.@@N@@.Jvm.D
/-! MADE BY PROGRAM (witnessworld.py) out of the Statement's table words and the real class files: 33 classes; the members and pool entries that the words name. The judged class is class 1, her method 1. -/
namespace start1
open Jvm.ClassFile
def u (s : String) : CpInfo := .utf8 (stringToUtf16 s)
/-- a pool by its gaps: so many unusable entries, then the entry; so many at the end -/
def gap : Nat → List CpInfo → List CpInfo
  | 0, r => r
  | n + 1, r => .unusable :: gap n r
def poolList (es : List (Nat × CpInfo)) (last : Nat) : List CpInfo := es.foldr (fun e r => gap e.1 (e.2 :: r)) (gap last [])
def pool (es : List (Nat × CpInfo)) (last : Nat) : Array CpInfo := ⟨poolList es last⟩
def fileOf (pool : Array CpInfo) (this : Nat) (attrs : Array Attribute := #[]) (ms : Array MethodInfo := #[]) (fl : Nat := 33) (sup : Nat := 0) (ifs : Array Nat := #[]) (fds : Array FieldInfo := #[]) : ClassFile where
  minorVersion := 0
  majorVersion := 65
  constantPool := pool
  accessFlags := fl
  thisClass := this
  superClass := sup
  interfaces := ifs
  fields := fds
  methods := ms
  attributes := attrs
def plain (name : String) (sup : Option ClassId) : Class where
  name := name
  kind := .ordinary
  loader := none
  accessFlags := 33
  super := sup
  interfaces := #[]
  cf := none
  fields := #[]
  methods := #[]
  instanceTypes := #[]
  staticTypes := #[]
  resolved := #[]
  callSites := []
  init := .initialized
  statics := none
  mirror := none

def pool0 : Array CpInfo := pool [(5, u "<init>"), (0, u "()V"), (1, .class_ 10), (1, u "java/lang/Object")] 113

def k0c0 : Code := { maxStack := 0, maxLocals := 1, code := object_method_1_code, exceptionTable := #[], attributes := #[] }
def k0m0 : Method := { name := "<init>", desc := "()V", sig := { parameters := [], returnType := none }, accessFlags := 1, code := some k0c0 }
/-- java/lang/Object -/
def k0 : Class := { plain "java/lang/Object" none with
  accessFlags := 33
  interfaces := #[]
  cf := some (fileOf pool0 8 #[] #[{ accessFlags := 1, nameIndex := 5, descriptorIndex := 6, attributes := #[] }] 33 0 #[] #[])
  fields := #[]
  methods := #[k0m0]
  instanceTypes := #[]
  staticTypes := #[]
  resolved := Array.replicate 124 none
  statics := none }

def pool1 : Array CpInfo := pool [(2, .class_ 4), (0, .nameAndType 5 6), (0, u "java/lang/Object"), (0, u "<init>"), (0, u "()V"), (0, .integer 2147483647), (0, .methodref 9 10), (0, .class_ 11), (0, .nameAndType 12 13), (0, u "com/example/grantgate/grantgate/server/HeadVersionPinLaw"), (0, u "make"), (0, u "(I[C)Ljava/lang/String;"), (0, .class_ 15), (0, u "com/example/grantgate/grantgate/server/MessageReader$Head"), (0, .class_ 17), (0, u "java/util/ArrayList"), (0, .methodref 16 3), (0, .methodref 14 20), (0, .nameAndType 5 21), (0, u "(Ljava/lang/String;Ljava/util/List;)V"), (0, .methodref 14 23), (0, .nameAndType 24 25), (0, u "version"), (0, u "()Ljava/lang/String;"), (0, .methodref 27 28), (0, .class_ 29), (0, .nameAndType 30 31), (0, u "java/lang/String"), (0, u "length"), (0, u "()I"), (0, .methodref 9 33), (0, .nameAndType 34 35), (0, u "same"), (0, u "(Ljava/lang/String;I[CII)Z"), (0, .methodref 27 37), (0, .nameAndType 38 39), (0, u "charAt"), (0, u "(I)C"), (0, .methodref 27 41), (0, .nameAndType 5 42), (0, u "([C)V"), (2, u "law"), (0, u "(IIII)Z")] 9

def k1m0 : Method := { name := "<init>", desc := "()V", sig := { parameters := [], returnType := none }, accessFlags := 1, code := none }
def k1c1 : Code := { maxStack := 5, maxLocals := 11, code := code, exceptionTable := #[], attributes := #[] }
def k1m1 : Method := { name := "law", desc := "(IIII)Z", sig := { parameters := [.int, .int, .int, .int], returnType := some .boolean }, accessFlags := 9, code := some k1c1 }
def k1c2 : Code := { maxStack := 3, maxLocals := 6, code := method_3_code, exceptionTable := #[], attributes := #[] }
def k1m2 : Method := { name := "same", desc := "(Ljava/lang/String;I[CII)Z", sig := { parameters := [(.object "java/lang/String"), .int, (.array .char), .int, .int], returnType := some .boolean }, accessFlags := 10, code := some k1c2 }
def k1c3 : Code := { maxStack := 7, maxLocals := 2, code := method_4_code, exceptionTable := #[], attributes := #[] }
def k1m3 : Method := { name := "make", desc := "(I[C)Ljava/lang/String;", sig := { parameters := [.int, (.array .char)], returnType := some (.object "java/lang/String") }, accessFlags := 10, code := some k1c3 }
/-- com/example/grantgate/grantgate/server/HeadVersionPinLaw -/
def k1 : Class := { plain "com/example/grantgate/grantgate/server/HeadVersionPinLaw" (some 0) with
  accessFlags := 49
  interfaces := #[]
  cf := some (fileOf pool1 9 #[] #[{ accessFlags := 1, nameIndex := 5, descriptorIndex := 6, attributes := #[] }, { accessFlags := 9, nameIndex := 45, descriptorIndex := 46, attributes := #[] }, { accessFlags := 10, nameIndex := 34, descriptorIndex := 35, attributes := #[] }, { accessFlags := 10, nameIndex := 12, descriptorIndex := 13, attributes := #[] }] 49 2 #[] #[])
  fields := #[]
  methods := #[k1m0, k1m1, k1m2, k1m3]
  instanceTypes := #[]
  staticTypes := #[]
  resolved := Array.replicate 56 none
  statics := none }

def pool2 : Array CpInfo := pool [(1, .class_ 2), (0, u "java/io/Serializable"), (0, .class_ 4), (0, u "java/lang/Object")] 2

/-- java/io/Serializable -/
def k2 : Class := { plain "java/io/Serializable" (some 0) with
  accessFlags := 1537
  interfaces := #[]
  cf := some (fileOf pool2 1 #[] #[] 1537 3 #[] #[])
  fields := #[]
  methods := #[]
  instanceTypes := #[]
  staticTypes := #[]
  resolved := Array.replicate 7 none
  statics := none }

def pool3 : Array CpInfo := pool [(1, .class_ 2), (0, u "java/lang/Comparable"), (0, .class_ 4), (0, u "java/lang/Object")] 7

/-- java/lang/Comparable -/
def k3 : Class := { plain "java/lang/Comparable" (some 0) with
  accessFlags := 1537
  interfaces := #[]
  cf := some (fileOf pool3 1 #[] #[] 1537 3 #[] #[])
  fields := #[]
  methods := #[]
  instanceTypes := #[]
  staticTypes := #[]
  resolved := Array.replicate 12 none
  statics := none }

def pool4 : Array CpInfo := pool [(2, .class_ 4), (1, u "java/lang/CharSequence"), (42, .class_ 48), (0, u "java/lang/CharSequence$1CodePointIterator"), (10, .class_ 60), (0, u "java/lang/CharSequence$1CharIterator"), (5, .class_ 67), (0, u "java/lang/Object")] 63

/-- java/lang/CharSequence -/
def k4 : Class := { plain "java/lang/CharSequence" (some 0) with
  accessFlags := 1537
  interfaces := #[]
  cf := some (fileOf pool4 2 #[.nestMembers #[47, 59]] #[] 1537 66 #[] #[])
  fields := #[]
  methods := #[]
  instanceTypes := #[]
  staticTypes := #[]
  resolved := Array.replicate 131 none
  statics := none }

def pool5 : Array CpInfo := pool [(1, .class_ 2), (0, u "java/lang/constant/Constable"), (0, .class_ 4), (0, u "java/lang/Object")] 6

/-- java/lang/constant/Constable -/
def k5 : Class := { plain "java/lang/constant/Constable" (some 0) with
  accessFlags := 1537
  interfaces := #[]
  cf := some (fileOf pool5 1 #[] #[] 1537 3 #[] #[])
  fields := #[]
  methods := #[]
  instanceTypes := #[]
  staticTypes := #[]
  resolved := Array.replicate 11 none
  statics := none }

def pool6 : Array CpInfo := pool [(1, .class_ 2), (0, u "java/lang/constant/ConstantDesc"), (0, .class_ 4), (0, u "java/lang/Object")] 32

/-- java/lang/constant/ConstantDesc -/
def k6 : Class := { plain "java/lang/constant/ConstantDesc" (some 0) with
  accessFlags := 1537
  interfaces := #[]
  cf := some (fileOf pool6 1 #[] #[] 1537 3 #[] #[])
  fields := #[]
  methods := #[]
  instanceTypes := #[]
  staticTypes := #[]
  resolved := Array.replicate 37 none
  statics := none }

def pool7 : Array CpInfo := pool [(1, .methodref 2 3), (0, .class_ 4), (0, .nameAndType 5 6), (0, u "java/lang/Object"), (0, u "<init>"), (0, u "()V"), (0, .string 8), (0, u ""), (0, .fieldref 10 11), (0, .class_ 12), (0, .nameAndType 13 14), (0, u "java/lang/String"), (0, u "value"), (0, u "[B"), (0, .fieldref 10 16), (0, .nameAndType 17 18), (0, u "coder"), (0, u "B"), (2, u "hash"), (0, u "I"), (2, u "hashIsZero"), (0, u "Z"), (0, .methodref 10 28), (0, .nameAndType 5 29), (0, u "([CIILjava/lang/Void;)V"), (8, .fieldref 10 39), (0, .nameAndType 40 26), (0, u "COMPACT_STRINGS"), (1, .class_ 44), (1, u "java/lang/StringUTF16"), (0, u "compress"), (1, .methodref 42 48), (0, .nameAndType 49 50), (0, u "coderFromArrayLen"), (0, u "([BI)B"), (46, u "([BII)I"), (9, .class_ 109), (1, u "java/lang/StringLatin1"), (32, u "()Z"), (34, .methodref 42 178), (0, .nameAndType 45 179), (0, u "([CII)[B"), (31, u "([BB)V"), (122, u "()I"), (0, .methodref 10 336), (0, .nameAndType 17 337), (0, u "()B"), (25, u "([BI)C"), (27, u "(II)V"), (35, u "(I)C"), (64, .methodref 10 493), (0, .nameAndType 494 142), (0, u "isLatin1"), (0, .methodref 107 496), (0, .nameAndType 497 363), (0, u "charAt"), (3, u "checkIndex"), (3, .methodref 10 506), (0, .nameAndType 507 334), (0, u "length"), (5, u "checkFromToIndex"), (7, .methodref 10 522), (0, .nameAndType 523 524), (0, u "checkBoundsBeginEnd"), (0, u "(III)V"), (50, .class_ 576), (0, u "java/lang/CharSequence"), (22, u "CASE_INSENSITIVE_ORDER"), (0, u "Ljava/util/Comparator;"), (35, u "(II)I"), (4, .methodref 10 642), (0, .nameAndType 643 636), (0, u "lastIndexOf"), (0, .methodref 107 645), (0, .nameAndType 643 97), (35, .methodref 10 682), (0, .nameAndType 683 684), (0, u "substring"), (0, u "(II)Ljava/lang/String;"), (0, .methodref 107 686), (0, .nameAndType 687 688), (0, u "newString"), (0, u "([BII)Ljava/lang/String;"), (76, u "(I)I"), (126, u "(I)Ljava/lang/String;"), (117, u "([C)V"), (42, .fieldref 1054 1055), (0, .class_ 1056), (0, .nameAndType 1057 1058), (0, u "jdk/internal/util/Preconditions"), (0, u "SIOOBE_FORMATTER"), (0, u "Ljava/util/function/BiFunction;"), (0, .methodref 1054 1060), (0, .nameAndType 501 1061), (0, u "(IILjava/util/function/BiFunction;)I"), (0, .methodref 1054 1063), (0, .nameAndType 513 1064), (0, u "(IIILjava/util/function/BiFunction;)I"), (36, u "serialPersistentFields"), (0, u "[Ljava/io/ObjectStreamField;"), (0, .class_ 1104), (0, u "java/lang/String$CaseInsensitiveComparator"), (1, .class_ 1107), (0, u "java/io/Serializable"), (0, .class_ 1109), (0, u "java/lang/Comparable"), (0, .class_ 1111), (0, u "java/lang/constant/Constable"), (0, .class_ 1113), (0, u "java/lang/constant/ConstantDesc"), (2, u "serialVersionUID"), (0, u "J"), (3, u "REPL"), (0, u "C"), (2, u "LATIN1"), (1, u "UTF16")] 323

def k7m0 : Method := { name := "<init>", desc := "()V", sig := { parameters := [], returnType := none }, accessFlags := 1, code := none }
def k7c1 : Code := { maxStack := 5, maxLocals := 2, code := jdk_42_method_3_code, exceptionTable := #[], attributes := #[] }
def k7m1 : Method := { name := "<init>", desc := "([C)V", sig := { parameters := [(.array .char)], returnType := none }, accessFlags := 1, code := some k7c1 }
def k7c2 : Code := { maxStack := 2, maxLocals := 1, code := jdk_42_method_54_code, exceptionTable := #[], attributes := #[] }
def k7m2 : Method := { name := "length", desc := "()I", sig := { parameters := [], returnType := some .int }, accessFlags := 1, code := some k7c2 }
def k7c3 : Code := { maxStack := 2, maxLocals := 2, code := jdk_42_method_56_code, exceptionTable := #[], attributes := #[] }
def k7m3 : Method := { name := "charAt", desc := "(I)C", sig := { parameters := [.int], returnType := some .char }, accessFlags := 1, code := some k7c3 }
def k7c4 : Code := { maxStack := 4, maxLocals := 2, code := jdk_42_method_82_code, exceptionTable := #[], attributes := #[] }
def k7m4 : Method := { name := "lastIndexOf", desc := "(I)I", sig := { parameters := [.int], returnType := some .int }, accessFlags := 1, code := some k7c4 }
def k7c5 : Code := { maxStack := 3, maxLocals := 3, code := jdk_42_method_83_code, exceptionTable := #[], attributes := #[] }
def k7m5 : Method := { name := "lastIndexOf", desc := "(II)I", sig := { parameters := [.int, .int], returnType := some .int }, accessFlags := 1, code := some k7c5 }
def k7c6 : Code := { maxStack := 3, maxLocals := 2, code := jdk_42_method_91_code, exceptionTable := #[], attributes := #[] }
def k7m6 : Method := { name := "substring", desc := "(I)Ljava/lang/String;", sig := { parameters := [.int], returnType := some (.object "java/lang/String") }, accessFlags := 1, code := some k7c6 }
def k7c7 : Code := { maxStack := 3, maxLocals := 5, code := jdk_42_method_92_code, exceptionTable := #[], attributes := #[] }
def k7m7 : Method := { name := "substring", desc := "(II)Ljava/lang/String;", sig := { parameters := [.int, .int], returnType := some (.object "java/lang/String") }, accessFlags := 1, code := some k7c7 }
def k7c8 : Code := { maxStack := 4, maxLocals := 6, code := jdk_42_method_149_code, exceptionTable := #[], attributes := #[] }
def k7m8 : Method := { name := "<init>", desc := "([CIILjava/lang/Void;)V", sig := { parameters := [(.array .char), .int, .int, (.object "java/lang/Void")], returnType := none }, accessFlags := 2, code := some k7c8 }
def k7c9 : Code := { maxStack := 2, maxLocals := 3, code := jdk_42_method_151_code, exceptionTable := #[], attributes := #[] }
def k7m9 : Method := { name := "<init>", desc := "([BB)V", sig := { parameters := [(.array .byte), .byte], returnType := none }, accessFlags := 0, code := some k7c9 }
def k7c10 : Code := { maxStack := 1, maxLocals := 1, code := jdk_42_method_152_code, exceptionTable := #[], attributes := #[] }
def k7m10 : Method := { name := "coder", desc := "()B", sig := { parameters := [], returnType := some .byte }, accessFlags := 0, code := some k7c10 }
def k7c11 : Code := { maxStack := 1, maxLocals := 1, code := jdk_42_method_154_code, exceptionTable := #[], attributes := #[] }
def k7m11 : Method := { name := "isLatin1", desc := "()Z", sig := { parameters := [], returnType := some .boolean }, accessFlags := 0, code := some k7c11 }
def k7c12 : Code := { maxStack := 3, maxLocals := 2, code := jdk_42_method_155_code, exceptionTable := #[], attributes := #[] }
def k7m12 : Method := { name := "checkIndex", desc := "(II)V", sig := { parameters := [.int, .int], returnType := none }, accessFlags := 8, code := some k7c12 }
def k7c13 : Code := { maxStack := 4, maxLocals := 3, code := jdk_42_method_158_code, exceptionTable := #[], attributes := #[] }
def k7m13 : Method := { name := "checkBoundsBeginEnd", desc := "(III)V", sig := { parameters := [.int, .int, .int], returnType := none }, accessFlags := 8, code := some k7c13 }
/-- java/lang/String -/
def k7 : Class := { plain "java/lang/String" (some 0) with
  accessFlags := 49
  interfaces := #[2, 3, 4, 5, 6]
  cf := some (fileOf pool7 10 #[.nestMembers #[1103]] #[{ accessFlags := 1, nameIndex := 5, descriptorIndex := 6, attributes := #[] }, { accessFlags := 1, nameIndex := 5, descriptorIndex := 1010, attributes := #[] }, { accessFlags := 1, nameIndex := 507, descriptorIndex := 334, attributes := #[] }, { accessFlags := 1, nameIndex := 497, descriptorIndex := 427, attributes := #[] }, { accessFlags := 1, nameIndex := 643, descriptorIndex := 765, attributes := #[] }, { accessFlags := 1, nameIndex := 643, descriptorIndex := 636, attributes := #[] }, { accessFlags := 1, nameIndex := 683, descriptorIndex := 892, attributes := #[] }, { accessFlags := 1, nameIndex := 683, descriptorIndex := 684, attributes := #[] }, { accessFlags := 2, nameIndex := 5, descriptorIndex := 29, attributes := #[] }, { accessFlags := 0, nameIndex := 5, descriptorIndex := 211, attributes := #[] }, { accessFlags := 0, nameIndex := 17, descriptorIndex := 337, attributes := #[] }, { accessFlags := 0, nameIndex := 494, descriptorIndex := 142, attributes := #[] }, { accessFlags := 8, nameIndex := 501, descriptorIndex := 391, attributes := #[] }, { accessFlags := 8, nameIndex := 523, descriptorIndex := 524, attributes := #[] }] 49 2 #[1106, 1108, 575, 1110, 1112] #[{ accessFlags := 18, nameIndex := 13, descriptorIndex := 14, attributes := #[] }, { accessFlags := 18, nameIndex := 17, descriptorIndex := 18, attributes := #[] }, { accessFlags := 2, nameIndex := 21, descriptorIndex := 22, attributes := #[] }, { accessFlags := 2, nameIndex := 25, descriptorIndex := 26, attributes := #[] }, { accessFlags := 26, nameIndex := 1116, descriptorIndex := 1117, attributes := #[] }, { accessFlags := 24, nameIndex := 40, descriptorIndex := 26, attributes := #[] }, { accessFlags := 26, nameIndex := 1101, descriptorIndex := 1102, attributes := #[] }, { accessFlags := 26, nameIndex := 1121, descriptorIndex := 1122, attributes := #[] }, { accessFlags := 25, nameIndex := 599, descriptorIndex := 600, attributes := #[] }, { accessFlags := 24, nameIndex := 1125, descriptorIndex := 18, attributes := #[] }, { accessFlags := 24, nameIndex := 1127, descriptorIndex := 18, attributes := #[] }])
  fields := #[{ name := "value", type := (.array .byte), accessFlags := 18, slot := 0, constantValue := 0 }, { name := "coder", type := .byte, accessFlags := 18, slot := 1, constantValue := 0 }, { name := "hash", type := .int, accessFlags := 2, slot := 2, constantValue := 0 }, { name := "hashIsZero", type := .boolean, accessFlags := 2, slot := 3, constantValue := 0 }, { name := "serialVersionUID", type := .long, accessFlags := 26, slot := 0, constantValue := 0 }, { name := "COMPACT_STRINGS", type := .boolean, accessFlags := 24, slot := 1, constantValue := 0 }, { name := "serialPersistentFields", type := (.array (.object "java/io/ObjectStreamField")), accessFlags := 26, slot := 2, constantValue := 0 }, { name := "REPL", type := .char, accessFlags := 26, slot := 3, constantValue := 0 }, { name := "CASE_INSENSITIVE_ORDER", type := (.object "java/util/Comparator"), accessFlags := 25, slot := 4, constantValue := 0 }, { name := "LATIN1", type := .byte, accessFlags := 24, slot := 5, constantValue := 0 }, { name := "UTF16", type := .byte, accessFlags := 24, slot := 6, constantValue := 0 }]
  methods := #[k7m0, k7m1, k7m2, k7m3, k7m4, k7m5, k7m6, k7m7, k7m8, k7m9, k7m10, k7m11, k7m12, k7m13]
  instanceTypes := #[(.array .byte), .byte, .int, .boolean]
  staticTypes := #[.long, .boolean, (.array (.object "java/io/ObjectStreamField")), .char, (.object "java/util/Comparator"), .byte, .byte]
  resolved := Array.replicate 1451 none
  statics := some 0 }

def pool8 : Array CpInfo := pool [(1, .methodref 2 3), (0, .class_ 4), (0, .nameAndType 5 6), (0, u "java/lang/Object"), (0, u "<init>"), (0, u "()V"), (0, .class_ 8), (0, u "java/lang/Record")] 13

def k8c0 : Code := { maxStack := 1, maxLocals := 1, code := jdk_30_method_1_code, exceptionTable := #[], attributes := #[] }
def k8m0 : Method := { name := "<init>", desc := "()V", sig := { parameters := [], returnType := none }, accessFlags := 4, code := some k8c0 }
/-- java/lang/Record -/
def k8 : Class := { plain "java/lang/Record" (some 0) with
  accessFlags := 1057
  interfaces := #[]
  cf := some (fileOf pool8 7 #[] #[{ accessFlags := 4, nameIndex := 5, descriptorIndex := 6, attributes := #[] }] 1057 2 #[] #[])
  fields := #[]
  methods := #[k8m0]
  instanceTypes := #[]
  staticTypes := #[]
  resolved := Array.replicate 22 none
  statics := none }

def pool9 : Array CpInfo := pool [(1, .methodref 2 3), (0, .class_ 4), (0, .nameAndType 5 6), (0, u "java/lang/Record"), (0, u "<init>"), (0, u "()V"), (0, .fieldref 8 9), (0, .class_ 10), (0, .nameAndType 11 12), (0, u "com/example/grantgate/grantgate/server/MessageReader$Head"), (0, u "startLine"), (0, u "Ljava/lang/String;"), (0, .fieldref 8 14), (0, .nameAndType 15 16), (0, u "fields"), (0, u "Ljava/util/List;"), (24, u "()Ljava/lang/String;"), (1, .class_ 45), (1, u "java/lang/String"), (12, u "(I)I"), (2, u "substring"), (1, .methodref 43 64), (0, .nameAndType 65 58), (0, u "lastIndexOf"), (0, .methodref 43 67), (0, .nameAndType 61 68), (0, u "(I)Ljava/lang/String;"), (14, u "(Ljava/lang/String;Ljava/util/List;)V"), (9, u "version"), (6, .class_ 101), (0, u "com/example/grantgate/grantgate/server/MessageReader")] 21

def k9c0 : Code := { maxStack := 2, maxLocals := 3, code := prog_40_method_1_code, exceptionTable := #[], attributes := #[] }
def k9m0 : Method := { name := "<init>", desc := "(Ljava/lang/String;Ljava/util/List;)V", sig := { parameters := [(.object "java/lang/String"), (.object "java/util/List")], returnType := none }, accessFlags := 0, code := some k9c0 }
def k9c1 : Code := { maxStack := 3, maxLocals := 1, code := prog_40_method_4_code, exceptionTable := #[], attributes := #[] }
def k9m1 : Method := { name := "version", desc := "()Ljava/lang/String;", sig := { parameters := [], returnType := some (.object "java/lang/String") }, accessFlags := 0, code := some k9c1 }
/-- com/example/grantgate/grantgate/server/MessageReader$Head -/
def k9 : Class := { plain "com/example/grantgate/grantgate/server/MessageReader$Head" (some 8) with
  accessFlags := 48
  interfaces := #[]
  cf := some (fileOf pool9 8 #[.nestHost 100] #[{ accessFlags := 0, nameIndex := 5, descriptorIndex := 83, attributes := #[] }, { accessFlags := 0, nameIndex := 93, descriptorIndex := 41, attributes := #[] }] 48 2 #[] #[{ accessFlags := 18, nameIndex := 11, descriptorIndex := 12, attributes := #[] }, { accessFlags := 18, nameIndex := 15, descriptorIndex := 16, attributes := #[] }])
  fields := #[{ name := "startLine", type := (.object "java/lang/String"), accessFlags := 18, slot := 0, constantValue := 0 }, { name := "fields", type := (.object "java/util/List"), accessFlags := 18, slot := 1, constantValue := 0 }]
  methods := #[k9m0, k9m1]
  instanceTypes := #[(.object "java/lang/String"), (.object "java/util/List")]
  staticTypes := #[]
  resolved := Array.replicate 123 none
  statics := none }

def pool10 : Array CpInfo := pool [(8, .class_ 10), (1, u "java/lang/Iterable"), (24, .class_ 36), (0, u "java/lang/Object")] 25

/-- java/lang/Iterable -/
def k10 : Class := { plain "java/lang/Iterable" (some 0) with
  accessFlags := 1537
  interfaces := #[]
  cf := some (fileOf pool10 8 #[] #[] 1537 35 #[] #[])
  fields := #[]
  methods := #[]
  instanceTypes := #[]
  staticTypes := #[]
  resolved := Array.replicate 62 none
  statics := none }

def pool11 : Array CpInfo := pool [(10, .class_ 12), (1, u "java/util/Collection"), (47, .class_ 61), (0, u "java/lang/Object"), (0, .class_ 63), (0, u "java/lang/Iterable")] 51

/-- java/util/Collection -/
def k11 : Class := { plain "java/util/Collection" (some 0) with
  accessFlags := 1537
  interfaces := #[10]
  cf := some (fileOf pool11 10 #[] #[] 1537 60 #[62] #[])
  fields := #[]
  methods := #[]
  instanceTypes := #[]
  staticTypes := #[]
  resolved := Array.replicate 115 none
  statics := none }

def pool12 : Array CpInfo := pool [(1, .methodref 2 3), (0, .class_ 4), (0, .nameAndType 5 6), (0, u "java/lang/Object"), (0, u "<init>"), (0, u "()V"), (1, .class_ 10), (1, u "java/util/AbstractCollection"), (66, .class_ 78), (0, u "java/util/Collection")] 81

def k12c0 : Code := { maxStack := 1, maxLocals := 1, code := jdk_22_method_1_code, exceptionTable := #[], attributes := #[] }
def k12m0 : Method := { name := "<init>", desc := "()V", sig := { parameters := [], returnType := none }, accessFlags := 4, code := some k12c0 }
/-- java/util/AbstractCollection -/
def k12 : Class := { plain "java/util/AbstractCollection" (some 0) with
  accessFlags := 1057
  interfaces := #[11]
  cf := some (fileOf pool12 8 #[] #[{ accessFlags := 4, nameIndex := 5, descriptorIndex := 6, attributes := #[] }] 1057 2 #[77] #[])
  fields := #[]
  methods := #[k12m0]
  instanceTypes := #[]
  staticTypes := #[]
  resolved := Array.replicate 160 none
  statics := none }

def pool13 : Array CpInfo := pool [(8, .class_ 10), (1, u "java/util/SequencedCollection"), (15, .class_ 27), (0, u "java/lang/Object"), (0, .class_ 29), (0, u "java/util/Collection")] 27

/-- java/util/SequencedCollection -/
def k13 : Class := { plain "java/util/SequencedCollection" (some 0) with
  accessFlags := 1537
  interfaces := #[11]
  cf := some (fileOf pool13 8 #[] #[] 1537 26 #[28] #[])
  fields := #[]
  methods := #[]
  instanceTypes := #[]
  staticTypes := #[]
  resolved := Array.replicate 57 none
  statics := none }

def pool14 : Array CpInfo := pool [(8, .class_ 10), (1, u "java/util/List"), (92, .class_ 104), (0, u "java/lang/Object"), (15, .class_ 121), (0, u "java/util/SequencedCollection")] 129

/-- java/util/List -/
def k14 : Class := { plain "java/util/List" (some 0) with
  accessFlags := 1537
  interfaces := #[13]
  cf := some (fileOf pool14 8 #[] #[] 1537 103 #[120] #[])
  fields := #[]
  methods := #[]
  instanceTypes := #[]
  staticTypes := #[]
  resolved := Array.replicate 251 none
  statics := none }

def pool15 : Array CpInfo := pool [(1, .methodref 2 3), (0, .class_ 4), (0, .nameAndType 5 6), (0, u "java/util/AbstractCollection"), (0, u "<init>"), (0, u "()V"), (0, .fieldref 8 9), (0, .class_ 10), (0, .nameAndType 11 12), (0, u "java/util/AbstractList"), (0, u "modCount"), (0, u "I"), (64, .class_ 78), (0, u "java/util/AbstractList$Itr"), (3, .class_ 83), (0, u "java/util/AbstractList$ListItr"), (9, .class_ 94), (0, u "java/util/AbstractList$RandomAccessSubList"), (3, .class_ 99), (0, u "java/util/AbstractList$SubList"), (33, .class_ 134), (0, u "java/util/List"), (73, .class_ 209), (0, u "java/util/AbstractList$SubList$1"), (0, .class_ 211), (0, u "java/util/AbstractList$RandomAccessSpliterator")] 6

def k15c0 : Code := { maxStack := 2, maxLocals := 1, code := jdk_39_method_1_code, exceptionTable := #[], attributes := #[] }
def k15m0 : Method := { name := "<init>", desc := "()V", sig := { parameters := [], returnType := none }, accessFlags := 4, code := some k15c0 }
/-- java/util/AbstractList -/
def k15 : Class := { plain "java/util/AbstractList" (some 12) with
  accessFlags := 1057
  interfaces := #[14]
  cf := some (fileOf pool15 8 #[.nestMembers #[93, 98, 208, 210, 82, 77]] #[{ accessFlags := 4, nameIndex := 5, descriptorIndex := 6, attributes := #[] }] 1057 2 #[133] #[{ accessFlags := 132, nameIndex := 11, descriptorIndex := 12, attributes := #[] }])
  fields := #[{ name := "modCount", type := .int, accessFlags := 132, slot := 0, constantValue := 0 }]
  methods := #[k15m0]
  instanceTypes := #[.int]
  staticTypes := #[]
  resolved := Array.replicate 218 none
  statics := none }

def pool16 : Array CpInfo := pool [(1, .class_ 2), (0, u "java/util/RandomAccess"), (0, .class_ 4), (0, u "java/lang/Object")] 2

/-- java/util/RandomAccess -/
def k16 : Class := { plain "java/util/RandomAccess" (some 0) with
  accessFlags := 1537
  interfaces := #[]
  cf := some (fileOf pool16 1 #[] #[] 1537 3 #[] #[])
  fields := #[]
  methods := #[]
  instanceTypes := #[]
  staticTypes := #[]
  resolved := Array.replicate 7 none
  statics := none }

def pool17 : Array CpInfo := pool [(1, .class_ 2), (0, u "java/lang/Cloneable"), (0, .class_ 4), (0, u "java/lang/Object")] 2

/-- java/lang/Cloneable -/
def k17 : Class := { plain "java/lang/Cloneable" (some 0) with
  accessFlags := 1537
  interfaces := #[]
  cf := some (fileOf pool17 1 #[] #[] 1537 3 #[] #[])
  fields := #[]
  methods := #[]
  instanceTypes := #[]
  staticTypes := #[]
  resolved := Array.replicate 7 none
  statics := none }

def pool18 : Array CpInfo := pool [(1, .methodref 2 3), (0, .class_ 4), (0, .nameAndType 5 6), (0, u "java/util/AbstractList"), (0, u "<init>"), (0, u "()V"), (2, .fieldref 10 11), (0, .class_ 12), (0, .nameAndType 13 14), (0, u "java/util/ArrayList"), (0, u "elementData"), (0, u "[Ljava/lang/Object;"), (2, u "EMPTY_ELEMENTDATA"), (21, .fieldref 10 40), (0, .nameAndType 41 14), (0, u "DEFAULTCAPACITY_EMPTY_ELEMENTDATA"), (8, u "size"), (0, u "I"), (96, .class_ 149), (0, u "java/util/List"), (112, .class_ 263), (0, u "java/util/ArrayList$ListItr"), (3, .class_ 268), (0, u "java/util/ArrayList$Itr"), (7, .class_ 277), (0, u "java/util/ArrayList$SubList"), (12, .class_ 291), (0, u "java/util/ArrayList$ArrayListSpliterator"), (37, .class_ 330), (0, u "java/util/RandomAccess"), (0, .class_ 332), (0, u "java/lang/Cloneable"), (0, .class_ 334), (0, u "java/io/Serializable"), (0, u "serialVersionUID"), (0, u "J"), (3, u "DEFAULT_CAPACITY"), (159, .class_ 501), (0, u "java/util/ArrayList$SubList$2"), (0, .class_ 503), (0, u "java/util/ArrayList$SubList$1")] 5

def k18c0 : Code := { maxStack := 2, maxLocals := 1, code := jdk_38_method_2_code, exceptionTable := #[], attributes := #[] }
def k18m0 : Method := { name := "<init>", desc := "()V", sig := { parameters := [], returnType := none }, accessFlags := 1, code := some k18c0 }
/-- java/util/ArrayList -/
def k18 : Class := { plain "java/util/ArrayList" (some 15) with
  accessFlags := 33
  interfaces := #[14, 16, 17, 2]
  cf := some (fileOf pool18 10 #[.nestMembers #[290, 276, 500, 502, 262, 267]] #[{ accessFlags := 1, nameIndex := 5, descriptorIndex := 6, attributes := #[] }] 33 2 #[148, 329, 331, 333] #[{ accessFlags := 26, nameIndex := 335, descriptorIndex := 336, attributes := #[] }, { accessFlags := 26, nameIndex := 340, descriptorIndex := 51, attributes := #[] }, { accessFlags := 26, nameIndex := 17, descriptorIndex := 14, attributes := #[] }, { accessFlags := 26, nameIndex := 41, descriptorIndex := 14, attributes := #[] }, { accessFlags := 128, nameIndex := 13, descriptorIndex := 14, attributes := #[] }, { accessFlags := 2, nameIndex := 50, descriptorIndex := 51, attributes := #[] }])
  fields := #[{ name := "serialVersionUID", type := .long, accessFlags := 26, slot := 0, constantValue := 0 }, { name := "DEFAULT_CAPACITY", type := .int, accessFlags := 26, slot := 1, constantValue := 0 }, { name := "EMPTY_ELEMENTDATA", type := (.array (.object "java/lang/Object")), accessFlags := 26, slot := 2, constantValue := 0 }, { name := "DEFAULTCAPACITY_EMPTY_ELEMENTDATA", type := (.array (.object "java/lang/Object")), accessFlags := 26, slot := 3, constantValue := 0 }, { name := "elementData", type := (.array (.object "java/lang/Object")), accessFlags := 128, slot := 1, constantValue := 0 }, { name := "size", type := .int, accessFlags := 2, slot := 2, constantValue := 0 }]
  methods := #[k18m0]
  instanceTypes := #[.int, (.array (.object "java/lang/Object")), .int]
  staticTypes := #[.long, .int, (.array (.object "java/lang/Object")), (.array (.object "java/lang/Object"))]
  resolved := Array.replicate 509 none
  statics := some 1 }

def pool19 : Array CpInfo := pool [(1, .class_ 2), (0, u "java/lang/String"), (1, .class_ 6), (1, u "java/lang/Object"), (0, u "<init>"), (0, u "()V"), (0, .methodref 1 10), (0, .nameAndType 11 12), (0, u "checkIndex"), (0, u "(II)V"), (1, .class_ 16), (1, u "java/lang/StringLatin1"), (21, .methodref 39 40), (0, .class_ 41), (0, .nameAndType 42 43), (0, u "java/lang/Math"), (0, u "min"), (0, u "(II)I"), (9, u "([BI)C"), (34, .methodref 14 89), (0, .nameAndType 90 91), (0, u "canEncode"), (0, u "(I)Z"), (20, .methodref 1 113), (0, .nameAndType 7 114), (0, u "([BB)V"), (6, u "$assertionsDisabled"), (0, u "Z"), (8, .class_ 133), (1, u "java/util/Arrays"), (17, .string 152), (0, u ""), (43, u "newString"), (0, u "([BII)Ljava/lang/String;"), (23, .class_ 223), (1, u "java/lang/StringLatin1$LinesSpliterator"), (8, .methodref 131 233), (0, .nameAndType 234 235), (0, u "copyOfRange"), (0, u "([BII)[B"), (16, u "charAt"), (8, u "([BII)I"), (47, u "lastIndexOf"), (80, .class_ 391), (0, u "java/lang/StringLatin1$CharsSpliterator")] 3

def k19m0 : Method := { name := "<init>", desc := "()V", sig := { parameters := [], returnType := none }, accessFlags := 0, code := none }
def k19c1 : Code := { maxStack := 2, maxLocals := 2, code := jdk_43_method_2_code, exceptionTable := #[], attributes := #[] }
def k19m1 : Method := { name := "charAt", desc := "([BI)C", sig := { parameters := [(.array .byte), .int], returnType := some .char }, accessFlags := 9, code := some k19c1 }
def k19c2 : Code := { maxStack := 2, maxLocals := 1, code := jdk_43_method_4_code, exceptionTable := #[], attributes := #[] }
def k19m2 : Method := { name := "canEncode", desc := "(I)Z", sig := { parameters := [.int], returnType := some .boolean }, accessFlags := 9, code := some k19c2 }
def k19c3 : Code := { maxStack := 3, maxLocals := 4, code := jdk_43_method_27_code, exceptionTable := #[], attributes := #[] }
def k19m3 : Method := { name := "lastIndexOf", desc := "([BII)I", sig := { parameters := [(.array .byte), .int, .int], returnType := some .int }, accessFlags := 9, code := some k19c3 }
def k19c4 : Code := { maxStack := 6, maxLocals := 3, code := jdk_43_method_47_code, exceptionTable := #[], attributes := #[] }
def k19m4 : Method := { name := "newString", desc := "([BII)Ljava/lang/String;", sig := { parameters := [(.array .byte), .int, .int], returnType := some (.object "java/lang/String") }, accessFlags := 9, code := some k19c4 }
/-- java/lang/StringLatin1 -/
def k19 : Class := { plain "java/lang/StringLatin1" (some 0) with
  accessFlags := 48
  interfaces := #[]
  cf := some (fileOf pool19 14 #[.nestMembers #[390, 221]] #[{ accessFlags := 0, nameIndex := 7, descriptorIndex := 8, attributes := #[] }, { accessFlags := 9, nameIndex := 252, descriptorIndex := 53, attributes := #[] }, { accessFlags := 9, nameIndex := 90, descriptorIndex := 91, attributes := #[] }, { accessFlags := 9, nameIndex := 309, descriptorIndex := 261, attributes := #[] }, { accessFlags := 9, nameIndex := 196, descriptorIndex := 197, attributes := #[] }] 48 4 #[] #[{ accessFlags := 4120, nameIndex := 121, descriptorIndex := 122, attributes := #[] }])
  fields := #[{ name := "$assertionsDisabled", type := .boolean, accessFlags := 4120, slot := 0, constantValue := 0 }]
  methods := #[k19m0, k19m1, k19m2, k19m3, k19m4]
  instanceTypes := #[]
  staticTypes := #[.boolean]
  resolved := Array.replicate 395 none
  statics := none }

def pool20 : Array CpInfo := pool [(1, .class_ 2), (0, u "java/lang/Math"), (1, .class_ 6), (1, u "java/lang/Object"), (0, u "<init>"), (0, u "()V"), (89, .class_ 100), (1, u "java/lang/Math$RandomNumberGeneratorHolder"), (71, u "negativeZeroFloatBits"), (0, u "J"), (2, u "negativeZeroDoubleBits"), (24, u "min"), (43, u "$assertionsDisabled"), (0, u "Z"), (88, u "(II)I"), (2, u "twoToTheDoubleScaleDown"), (0, u "D"), (4, u "twoToTheDoubleScaleUp"), (9, u "E"), (3, u "PI"), (2, u "TAU"), (2, u "DEGREES_TO_RADIANS"), (0, u "RADIANS_TO_DEGREES")] 94

def k20m0 : Method := { name := "<init>", desc := "()V", sig := { parameters := [], returnType := none }, accessFlags := 2, code := none }
def k20c1 : Code := { maxStack := 2, maxLocals := 2, code := jdk_29_method_69_code, exceptionTable := #[], attributes := #[] }
def k20m1 : Method := { name := "min", desc := "(II)I", sig := { parameters := [.int, .int], returnType := some .int }, accessFlags := 9, code := some k20c1 }
/-- java/lang/Math -/
def k20 : Class := { plain "java/lang/Math" (some 0) with
  accessFlags := 49
  interfaces := #[]
  cf := some (fileOf pool20 1 #[.nestMembers #[98]] #[{ accessFlags := 2, nameIndex := 7, descriptorIndex := 8, attributes := #[] }, { accessFlags := 9, nameIndex := 201, descriptorIndex := 335, attributes := #[] }] 49 4 #[] #[{ accessFlags := 25, nameIndex := 354, descriptorIndex := 339, attributes := #[] }, { accessFlags := 25, nameIndex := 358, descriptorIndex := 339, attributes := #[] }, { accessFlags := 25, nameIndex := 361, descriptorIndex := 339, attributes := #[] }, { accessFlags := 26, nameIndex := 364, descriptorIndex := 339, attributes := #[] }, { accessFlags := 26, nameIndex := 365, descriptorIndex := 339, attributes := #[] }, { accessFlags := 26, nameIndex := 172, descriptorIndex := 173, attributes := #[] }, { accessFlags := 26, nameIndex := 176, descriptorIndex := 173, attributes := #[] }, { accessFlags := 8, nameIndex := 344, descriptorIndex := 339, attributes := #[] }, { accessFlags := 8, nameIndex := 338, descriptorIndex := 339, attributes := #[] }, { accessFlags := 4120, nameIndex := 245, descriptorIndex := 246, attributes := #[] }])
  fields := #[{ name := "E", type := .double, accessFlags := 25, slot := 0, constantValue := 0 }, { name := "PI", type := .double, accessFlags := 25, slot := 1, constantValue := 0 }, { name := "TAU", type := .double, accessFlags := 25, slot := 2, constantValue := 0 }, { name := "DEGREES_TO_RADIANS", type := .double, accessFlags := 26, slot := 3, constantValue := 0 }, { name := "RADIANS_TO_DEGREES", type := .double, accessFlags := 26, slot := 4, constantValue := 0 }, { name := "negativeZeroFloatBits", type := .long, accessFlags := 26, slot := 5, constantValue := 0 }, { name := "negativeZeroDoubleBits", type := .long, accessFlags := 26, slot := 6, constantValue := 0 }, { name := "twoToTheDoubleScaleUp", type := .double, accessFlags := 8, slot := 7, constantValue := 0 }, { name := "twoToTheDoubleScaleDown", type := .double, accessFlags := 8, slot := 8, constantValue := 0 }, { name := "$assertionsDisabled", type := .boolean, accessFlags := 4120, slot := 9, constantValue := 0 }]
  methods := #[k20m0, k20m1]
  instanceTypes := #[]
  staticTypes := #[.double, .double, .double, .double, .double, .long, .long, .double, .double, .boolean]
  resolved := Array.replicate 460 none
  statics := none }

def pool21 : Array CpInfo := pool [(2, .class_ 4), (1, u "java/lang/Object"), (0, u "<init>"), (0, u "()V"), (17, .class_ 26), (1, u "jdk/internal/util/Preconditions"), (6, u "checkIndex"), (13, u "checkFromToIndex"), (7, .class_ 56), (0, u "jdk/internal/util/Preconditions$4"), (57, .class_ 115), (0, u "jdk/internal/util/Preconditions$1"), (7, u "SIOOBE_FORMATTER"), (0, u "Ljava/util/function/BiFunction;"), (0, .class_ 126), (0, u "jdk/internal/util/Preconditions$2"), (3, u "AIOOBE_FORMATTER"), (0, .class_ 132), (0, u "jdk/internal/util/Preconditions$3"), (3, u "IOOBE_FORMATTER"), (41, u "(IILjava/util/function/BiFunction;)I"), (4, u "(IIILjava/util/function/BiFunction;)I")] 10

def k21m0 : Method := { name := "<init>", desc := "()V", sig := { parameters := [], returnType := none }, accessFlags := 1, code := none }
def k21c1 : Code := { maxStack := 3, maxLocals := 3, code := jdk_41_method_11_code, exceptionTable := #[], attributes := #[] }
def k21m1 : Method := { name := "checkIndex", desc := "(IILjava/util/function/BiFunction;)I", sig := { parameters := [.int, .int, (.object "java/util/function/BiFunction")], returnType := some .int }, accessFlags := 9, code := some k21c1 }
def k21c2 : Code := { maxStack := 4, maxLocals := 4, code := jdk_41_method_12_code, exceptionTable := #[], attributes := #[] }
def k21m2 : Method := { name := "checkFromToIndex", desc := "(IIILjava/util/function/BiFunction;)I", sig := { parameters := [.int, .int, .int, (.object "java/util/function/BiFunction")], returnType := some .int }, accessFlags := 9, code := some k21c2 }
/-- jdk/internal/util/Preconditions -/
def k21 : Class := { plain "jdk/internal/util/Preconditions" (some 0) with
  accessFlags := 33
  interfaces := #[]
  cf := some (fileOf pool21 24 #[.nestMembers #[55, 131, 125, 114]] #[{ accessFlags := 1, nameIndex := 5, descriptorIndex := 6, attributes := #[] }, { accessFlags := 9, nameIndex := 33, descriptorIndex := 178, attributes := #[] }, { accessFlags := 9, nameIndex := 47, descriptorIndex := 183, attributes := #[] }] 33 2 #[] #[{ accessFlags := 25, nameIndex := 123, descriptorIndex := 124, attributes := #[] }, { accessFlags := 25, nameIndex := 130, descriptorIndex := 124, attributes := #[] }, { accessFlags := 25, nameIndex := 136, descriptorIndex := 124, attributes := #[] }])
  fields := #[{ name := "SIOOBE_FORMATTER", type := (.object "java/util/function/BiFunction"), accessFlags := 25, slot := 0, constantValue := 0 }, { name := "AIOOBE_FORMATTER", type := (.object "java/util/function/BiFunction"), accessFlags := 25, slot := 1, constantValue := 0 }, { name := "IOOBE_FORMATTER", type := (.object "java/util/function/BiFunction"), accessFlags := 25, slot := 2, constantValue := 0 }]
  methods := #[k21m0, k21m1, k21m2]
  instanceTypes := #[]
  staticTypes := #[(.object "java/util/function/BiFunction"), (.object "java/util/function/BiFunction"), (.object "java/util/function/BiFunction")]
  resolved := Array.replicate 194 none
  statics := some 2 }

def pool22 : Array CpInfo := pool [(6, .class_ 8), (1, u "java/lang/Object"), (0, u "<init>"), (0, u "()V"), (1, .class_ 14), (1, u "java/lang/StringUTF16"), (31, u "$assertionsDisabled"), (0, u "Z"), (13, u "HI_BYTE_SHIFT"), (0, u "I"), (2, u "LO_BYTE_SHIFT"), (49, .methodref 12 116), (0, .nameAndType 117 118), (0, u "compress"), (0, u "([CI[BII)I"), (3, u "([CII)[B"), (138, u "coderFromArrayLen"), (0, u "([BI)B"), (106, .class_ 371), (1, u "java/lang/StringUTF16$LinesSpliterator"), (58, u "MAX_LENGTH"), (196, .class_ 628), (0, u "java/lang/StringUTF16$CodePointsSpliterator"), (0, .class_ 630), (0, u "java/lang/StringUTF16$CharsSpliterator")] 4

def k22m0 : Method := { name := "<init>", desc := "()V", sig := { parameters := [], returnType := none }, accessFlags := 0, code := none }
def k22c1 : Code := { maxStack := 2, maxLocals := 2, code := jdk_52_method_15_code, exceptionTable := #[], attributes := #[] }
def k22m1 : Method := { name := "coderFromArrayLen", desc := "([BI)B", sig := { parameters := [(.array .byte), .int], returnType := some .byte }, accessFlags := 8, code := some k22c1 }
def k22c2 : Code := { maxStack := 5, maxLocals := 6, code := jdk_52_method_16_code, exceptionTable := #[], attributes := #[] }
def k22m2 : Method := { name := "compress", desc := "([CII)[B", sig := { parameters := [(.array .char), .int, .int], returnType := some (.array .byte) }, accessFlags := 9, code := some k22c2 }
def k22c3 : Code := { maxStack := 3, maxLocals := 7, code := jdk_52_method_21_code, exceptionTable := #[], attributes := #[] }
def k22m3 : Method := { name := "compress", desc := "([CI[BII)I", sig := { parameters := [(.array .char), .int, (.array .byte), .int, .int], returnType := some .int }, accessFlags := 9, code := some k22c3 }
/-- java/lang/StringUTF16 -/
def k22 : Class := { plain "java/lang/StringUTF16" (some 0) with
  accessFlags := 48
  interfaces := #[]
  cf := some (fileOf pool22 12 #[.nestMembers #[627, 629, 369]] #[{ accessFlags := 0, nameIndex := 9, descriptorIndex := 10, attributes := #[] }, { accessFlags := 8, nameIndex := 261, descriptorIndex := 262, attributes := #[] }, { accessFlags := 9, nameIndex := 117, descriptorIndex := 122, attributes := #[] }, { accessFlags := 9, nameIndex := 117, descriptorIndex := 118, attributes := #[] }] 48 6 #[] #[{ accessFlags := 26, nameIndex := 61, descriptorIndex := 62, attributes := #[] }, { accessFlags := 26, nameIndex := 65, descriptorIndex := 62, attributes := #[] }, { accessFlags := 24, nameIndex := 430, descriptorIndex := 62, attributes := #[] }, { accessFlags := 4120, nameIndex := 46, descriptorIndex := 47, attributes := #[] }])
  fields := #[{ name := "HI_BYTE_SHIFT", type := .int, accessFlags := 26, slot := 0, constantValue := 0 }, { name := "LO_BYTE_SHIFT", type := .int, accessFlags := 26, slot := 1, constantValue := 0 }, { name := "MAX_LENGTH", type := .int, accessFlags := 24, slot := 2, constantValue := 0 }, { name := "$assertionsDisabled", type := .boolean, accessFlags := 4120, slot := 3, constantValue := 0 }]
  methods := #[k22m0, k22m1, k22m2, k22m3]
  instanceTypes := #[]
  staticTypes := #[.int, .int, .int, .boolean]
  resolved := Array.replicate 635 none
  statics := none }

def pool23 : Array CpInfo := pool [(2, .class_ 4), (1, u "java/lang/Object"), (0, u "<init>"), (0, u "()V"), (7, .class_ 16), (1, u "java/util/Arrays"), (57, .class_ 76), (1, u "java/util/Arrays$NaturalOrder"), (36, .class_ 115), (1, u "java/util/Arrays$LegacyMergeSort"), (1, u "Z"), (21, u "copyOfRange"), (10, .methodref 151 152), (0, .class_ 153), (0, .nameAndType 154 155), (0, u "java/lang/System"), (0, u "arraycopy"), (0, u "(Ljava/lang/Object;ILjava/lang/Object;II)V"), (148, .methodref 305 306), (0, .class_ 307), (0, .nameAndType 308 309), (0, u "java/lang/Math"), (0, u "min"), (0, u "(II)I"), (29, .methodref 14 340), (0, .nameAndType 341 342), (0, u "copyOfRangeByte"), (0, u "([BII)[B"), (0, .methodref 14 344), (0, .nameAndType 345 346), (0, u "checkLength"), (0, u "(II)V"), (28, .class_ 376), (0, u "java/util/Arrays$ArrayList"), (68, u "$assertionsDisabled"), (269, u "MIN_ARRAY_SORT_GRAN"), (0, u "I"), (2, u "INSERTIONSORT_THRESHOLD"), (255, .class_ 976), (0, u "java/util/Arrays$ArrayItr")] 52

def k23m0 : Method := { name := "<init>", desc := "()V", sig := { parameters := [], returnType := none }, accessFlags := 2, code := none }
def k23c1 : Code := { maxStack := 4, maxLocals := 2, code := jdk_65_method_131_code, exceptionTable := #[], attributes := #[] }
def k23m1 : Method := { name := "checkLength", desc := "(II)V", sig := { parameters := [.int, .int], returnType := none }, accessFlags := 10, code := some k23c1 }
def k23c2 : Code := { maxStack := 3, maxLocals := 3, code := jdk_65_method_132_code, exceptionTable := #[], attributes := #[] }
def k23m2 : Method := { name := "copyOfRange", desc := "([BII)[B", sig := { parameters := [(.array .byte), .int, .int], returnType := some (.array .byte) }, accessFlags := 9, code := some k23c2 }
def k23c3 : Code := { maxStack := 6, maxLocals := 5, code := jdk_65_method_133_code, exceptionTable := #[], attributes := #[] }
def k23m3 : Method := { name := "copyOfRangeByte", desc := "([BII)[B", sig := { parameters := [(.array .byte), .int, .int], returnType := some (.array .byte) }, accessFlags := 10, code := some k23c3 }
/-- java/util/Arrays -/
def k23 : Class := { plain "java/util/Arrays" (some 0) with
  accessFlags := 49
  interfaces := #[]
  cf := some (fileOf pool23 14 #[.nestMembers #[975, 375, 113, 74]] #[{ accessFlags := 2, nameIndex := 5, descriptorIndex := 6, attributes := #[] }, { accessFlags := 10, nameIndex := 345, descriptorIndex := 346, attributes := #[] }, { accessFlags := 9, nameIndex := 139, descriptorIndex := 342, attributes := #[] }, { accessFlags := 10, nameIndex := 341, descriptorIndex := 342, attributes := #[] }] 49 2 #[] #[{ accessFlags := 26, nameIndex := 715, descriptorIndex := 716, attributes := #[] }, { accessFlags := 26, nameIndex := 719, descriptorIndex := 716, attributes := #[] }, { accessFlags := 4120, nameIndex := 445, descriptorIndex := 117, attributes := #[] }])
  fields := #[{ name := "MIN_ARRAY_SORT_GRAN", type := .int, accessFlags := 26, slot := 0, constantValue := 0 }, { name := "INSERTIONSORT_THRESHOLD", type := .int, accessFlags := 26, slot := 1, constantValue := 0 }, { name := "$assertionsDisabled", type := .boolean, accessFlags := 4120, slot := 2, constantValue := 0 }]
  methods := #[k23m0, k23m1, k23m2, k23m3]
  instanceTypes := #[]
  staticTypes := #[.int, .int, .boolean]
  resolved := Array.replicate 1029 none
  statics := none }

def pool24 : Array CpInfo := pool [(2, .class_ 4), (1, u "java/lang/Object"), (0, u "<init>"), (0, u "()V"), (1, .class_ 10), (1, u "java/lang/System"), (0, u "allowSecurityManager"), (0, u "I"), (16, u "cons"), (0, u "Ljava/io/Console;"), (77, .class_ 110), (1, u "java/lang/System$CallersHolder"), (43, u "initialErrStream"), (0, u "Ljava/io/PrintStream;"), (19, u "security"), (0, u "Ljava/lang/SecurityManager;"), (31, .class_ 209), (0, u "java/lang/System$1"), (7, u "props"), (0, u "Ljava/util/Properties;"), (2, u "lineSeparator"), (0, u "Ljava/lang/String;"), (96, .class_ 321), (1, u "java/lang/System$LoggerFinder"), (5, .class_ 328), (0, u "java/lang/System$Logger"), (67, u "err"), (2, u "out"), (91, u "notSupportedJnuEncoding"), (15, u "in"), (17, u "initialIn"), (0, u "Ljava/io/InputStream;"), (35, u "bootLayer"), (0, u "Ljava/lang/ModuleLayer;"), (99, .class_ 664), (0, u "java/lang/System$2"), (9, u "NEVER"), (2, u "MAYBE"), (49, u "arraycopy"), (0, u "(Ljava/lang/Object;ILjava/lang/Object;II)V"), (72, .class_ 802), (0, u "java/lang/System$Logger$Level")] 31

def k24m0 : Method := { name := "<init>", desc := "()V", sig := { parameters := [], returnType := none }, accessFlags := 2, code := none }
def k24m1 : Method := { name := "arraycopy", desc := "(Ljava/lang/Object;ILjava/lang/Object;II)V", sig := { parameters := [(.object "java/lang/Object"), .int, (.object "java/lang/Object"), .int, .int], returnType := none }, accessFlags := 265, code := none }
/-- java/lang/System -/
def k24 : Class := { plain "java/lang/System" (some 0) with
  accessFlags := 49
  interfaces := #[]
  cf := some (fileOf pool24 8 #[.nestMembers #[319, 327, 801, 108, 663, 208]] #[{ accessFlags := 2, nameIndex := 5, descriptorIndex := 6, attributes := #[] }, { accessFlags := 265, nameIndex := 727, descriptorIndex := 728, attributes := #[] }] 49 2 #[] #[{ accessFlags := 25, nameIndex := 507, descriptorIndex := 526, attributes := #[] }, { accessFlags := 25, nameIndex := 399, descriptorIndex := 155, attributes := #[] }, { accessFlags := 25, nameIndex := 396, descriptorIndex := 155, attributes := #[] }, { accessFlags := 10, nameIndex := 525, descriptorIndex := 526, attributes := #[] }, { accessFlags := 26, nameIndex := 674, descriptorIndex := 12, attributes := #[] }, { accessFlags := 26, nameIndex := 677, descriptorIndex := 12, attributes := #[] }, { accessFlags := 10, nameIndex := 11, descriptorIndex := 12, attributes := #[] }, { accessFlags := 74, nameIndex := 175, descriptorIndex := 176, attributes := #[] }, { accessFlags := 10, nameIndex := 491, descriptorIndex := 222, attributes := #[] }, { accessFlags := 74, nameIndex := 29, descriptorIndex := 30, attributes := #[] }, { accessFlags := 74, nameIndex := 154, descriptorIndex := 155, attributes := #[] }, { accessFlags := 10, nameIndex := 217, descriptorIndex := 218, attributes := #[] }, { accessFlags := 10, nameIndex := 221, descriptorIndex := 222, attributes := #[] }, { accessFlags := 8, nameIndex := 562, descriptorIndex := 563, attributes := #[] }])
  fields := #[{ name := "in", type := (.object "java/io/InputStream"), accessFlags := 25, slot := 0, constantValue := 0 }, { name := "out", type := (.object "java/io/PrintStream"), accessFlags := 25, slot := 1, constantValue := 0 }, { name := "err", type := (.object "java/io/PrintStream"), accessFlags := 25, slot := 2, constantValue := 0 }, { name := "initialIn", type := (.object "java/io/InputStream"), accessFlags := 10, slot := 3, constantValue := 0 }, { name := "NEVER", type := .int, accessFlags := 26, slot := 4, constantValue := 0 }, { name := "MAYBE", type := .int, accessFlags := 26, slot := 5, constantValue := 0 }, { name := "allowSecurityManager", type := .int, accessFlags := 10, slot := 6, constantValue := 0 }, { name := "security", type := (.object "java/lang/SecurityManager"), accessFlags := 74, slot := 7, constantValue := 0 }, { name := "notSupportedJnuEncoding", type := (.object "java/lang/String"), accessFlags := 10, slot := 8, constantValue := 0 }, { name := "cons", type := (.object "java/io/Console"), accessFlags := 74, slot := 9, constantValue := 0 }, { name := "initialErrStream", type := (.object "java/io/PrintStream"), accessFlags := 74, slot := 10, constantValue := 0 }, { name := "props", type := (.object "java/util/Properties"), accessFlags := 10, slot := 11, constantValue := 0 }, { name := "lineSeparator", type := (.object "java/lang/String"), accessFlags := 10, slot := 12, constantValue := 0 }, { name := "bootLayer", type := (.object "java/lang/ModuleLayer"), accessFlags := 8, slot := 13, constantValue := 0 }]
  methods := #[k24m0, k24m1]
  instanceTypes := #[]
  staticTypes := #[(.object "java/io/InputStream"), (.object "java/io/PrintStream"), (.object "java/io/PrintStream"), (.object "java/io/InputStream"), .int, .int, .int, (.object "java/lang/SecurityManager"), (.object "java/lang/String"), (.object "java/io/Console"), (.object "java/io/PrintStream"), (.object "java/util/Properties"), (.object "java/lang/String"), (.object "java/lang/ModuleLayer")]
  resolved := Array.replicate 834 none
  statics := none }

def pool25 : Array CpInfo := pool [(9, u "<init>"), (6, .class_ 18), (1, u "java/lang/Object"), (0, u "()V"), (1, .class_ 23), (1, u "jdk/internal/util/ArraysSupport"), (0, u "LOG2_ARRAY_LONG_INDEX_SCALE"), (0, u "I"), (2, u "U"), (0, u "Ljdk/internal/misc/Unsafe;"), (8, u "BIG_ENDIAN"), (0, u "Z"), (8, u "LOG2_BYTE_BIT_SIZE"), (4, u "LOG2_ARRAY_INT_INDEX_SCALE"), (54, u "JLA"), (0, u "Ljdk/internal/access/JavaLangAccess;"), (11, u "LOG2_ARRAY_BOOLEAN_INDEX_SCALE"), (9, u "LOG2_ARRAY_BYTE_INDEX_SCALE"), (5, u "LOG2_ARRAY_CHAR_INDEX_SCALE"), (5, u "LOG2_ARRAY_SHORT_INDEX_SCALE"), (18, u "LOG2_ARRAY_FLOAT_INDEX_SCALE"), (24, u "LOG2_ARRAY_DOUBLE_INDEX_SCALE"), (89, u "T_BOOLEAN"), (2, u "T_CHAR"), (1, u "T_FLOAT"), (1, u "T_DOUBLE"), (1, u "T_BYTE"), (1, u "T_SHORT"), (1, u "T_INT"), (1, u "T_LONG"), (1, u "SOFT_MAX_ARRAY_LENGTH")] 83

def k25m0 : Method := { name := "<init>", desc := "()V", sig := { parameters := [], returnType := none }, accessFlags := 2, code := none }
/-- jdk/internal/util/ArraysSupport -/
def k25 : Class := { plain "jdk/internal/util/ArraysSupport" (some 0) with
  accessFlags := 33
  interfaces := #[]
  cf := some (fileOf pool25 21 #[] #[{ accessFlags := 2, nameIndex := 9, descriptorIndex := 19, attributes := #[] }] 33 16 #[] #[{ accessFlags := 24, nameIndex := 28, descriptorIndex := 29, attributes := #[] }, { accessFlags := 26, nameIndex := 38, descriptorIndex := 39, attributes := #[] }, { accessFlags := 25, nameIndex := 121, descriptorIndex := 25, attributes := #[] }, { accessFlags := 25, nameIndex := 131, descriptorIndex := 25, attributes := #[] }, { accessFlags := 25, nameIndex := 137, descriptorIndex := 25, attributes := #[] }, { accessFlags := 25, nameIndex := 143, descriptorIndex := 25, attributes := #[] }, { accessFlags := 25, nameIndex := 53, descriptorIndex := 25, attributes := #[] }, { accessFlags := 25, nameIndex := 24, descriptorIndex := 25, attributes := #[] }, { accessFlags := 25, nameIndex := 162, descriptorIndex := 25, attributes := #[] }, { accessFlags := 25, nameIndex := 187, descriptorIndex := 25, attributes := #[] }, { accessFlags := 26, nameIndex := 48, descriptorIndex := 25, attributes := #[] }, { accessFlags := 25, nameIndex := 277, descriptorIndex := 25, attributes := #[] }, { accessFlags := 25, nameIndex := 280, descriptorIndex := 25, attributes := #[] }, { accessFlags := 25, nameIndex := 282, descriptorIndex := 25, attributes := #[] }, { accessFlags := 25, nameIndex := 284, descriptorIndex := 25, attributes := #[] }, { accessFlags := 25, nameIndex := 286, descriptorIndex := 25, attributes := #[] }, { accessFlags := 25, nameIndex := 288, descriptorIndex := 25, attributes := #[] }, { accessFlags := 25, nameIndex := 290, descriptorIndex := 25, attributes := #[] }, { accessFlags := 25, nameIndex := 292, descriptorIndex := 25, attributes := #[] }, { accessFlags := 26, nameIndex := 108, descriptorIndex := 109, attributes := #[] }, { accessFlags := 25, nameIndex := 294, descriptorIndex := 25, attributes := #[] }])
  fields := #[{ name := "U", type := (.object "jdk/internal/misc/Unsafe"), accessFlags := 24, slot := 0, constantValue := 0 }, { name := "BIG_ENDIAN", type := .boolean, accessFlags := 26, slot := 1, constantValue := 0 }, { name := "LOG2_ARRAY_BOOLEAN_INDEX_SCALE", type := .int, accessFlags := 25, slot := 2, constantValue := 0 }, { name := "LOG2_ARRAY_BYTE_INDEX_SCALE", type := .int, accessFlags := 25, slot := 3, constantValue := 0 }, { name := "LOG2_ARRAY_CHAR_INDEX_SCALE", type := .int, accessFlags := 25, slot := 4, constantValue := 0 }, { name := "LOG2_ARRAY_SHORT_INDEX_SCALE", type := .int, accessFlags := 25, slot := 5, constantValue := 0 }, { name := "LOG2_ARRAY_INT_INDEX_SCALE", type := .int, accessFlags := 25, slot := 6, constantValue := 0 }, { name := "LOG2_ARRAY_LONG_INDEX_SCALE", type := .int, accessFlags := 25, slot := 7, constantValue := 0 }, { name := "LOG2_ARRAY_FLOAT_INDEX_SCALE", type := .int, accessFlags := 25, slot := 8, constantValue := 0 }, { name := "LOG2_ARRAY_DOUBLE_INDEX_SCALE", type := .int, accessFlags := 25, slot := 9, constantValue := 0 }, { name := "LOG2_BYTE_BIT_SIZE", type := .int, accessFlags := 26, slot := 10, constantValue := 0 }, { name := "T_BOOLEAN", type := .int, accessFlags := 25, slot := 11, constantValue := 0 }, { name := "T_CHAR", type := .int, accessFlags := 25, slot := 12, constantValue := 0 }, { name := "T_FLOAT", type := .int, accessFlags := 25, slot := 13, constantValue := 0 }, { name := "T_DOUBLE", type := .int, accessFlags := 25, slot := 14, constantValue := 0 }, { name := "T_BYTE", type := .int, accessFlags := 25, slot := 15, constantValue := 0 }, { name := "T_SHORT", type := .int, accessFlags := 25, slot := 16, constantValue := 0 }, { name := "T_INT", type := .int, accessFlags := 25, slot := 17, constantValue := 0 }, { name := "T_LONG", type := .int, accessFlags := 25, slot := 18, constantValue := 0 }, { name := "JLA", type := (.object "jdk/internal/access/JavaLangAccess"), accessFlags := 26, slot := 19, constantValue := 0 }, { name := "SOFT_MAX_ARRAY_LENGTH", type := .int, accessFlags := 25, slot := 20, constantValue := 0 }]
  methods := #[k25m0]
  instanceTypes := #[]
  staticTypes := #[(.object "jdk/internal/misc/Unsafe"), .boolean, .int, .int, .int, .int, .int, .int, .int, .int, .int, .int, .int, .int, .int, .int, .int, .int, .int, (.object "jdk/internal/access/JavaLangAccess"), .int]
  resolved := Array.replicate 378 none
  statics := none }

/-- the primitive byte -/
def k26 : Class := { plain "byte" none with kind := .primitive 'B', accessFlags := 0x411 }
/-- [B -/
def k27 : Class := { plain "[B" (some 0) with kind := .array 26 .byte, interfaces := #[17, 2], accessFlags := 1041 }

/-- the primitive char -/
def k28 : Class := { plain "char" none with kind := .primitive 'C', accessFlags := 0x411 }
/-- [C -/
def k29 : Class := { plain "[C" (some 0) with kind := .array 28 .char, interfaces := #[17, 2], accessFlags := 1041 }

/-- the primitive int -/
def k30 : Class := { plain "int" none with kind := .primitive 'I', accessFlags := 0x411 }
/-- [I -/
def k31 : Class := { plain "[I" (some 0) with kind := .array 30 .int, interfaces := #[17, 2], accessFlags := 1041 }

/-- [Ljava/lang/Object; -/
def k32 : Class := { plain "[Ljava/lang/Object;" (some 0) with kind := .array 0 (.object "java/lang/Object"), interfaces := #[17, 2], accessFlags := 1041 }

def heap : Heap := #[{ cls := 7, slots := #[.long 0, .int 1, .null, .int 0, .null, .int 0, .int 0], vm := .statics 7 },
  { cls := 18, slots := #[.long 0, .int 0, .ref 3, .ref 4], vm := .statics 18 },
  { cls := 21, slots := #[.null, .null, .null], vm := .statics 21 },
  { cls := 32, slots := #[], vm := .none },
  { cls := 32, slots := #[], vm := .none }]
def classes : Array Class := #[k0, k1, k2, k3, k4, k5, k6, k7, k8, k9, k10, k11, k12, k13, k14, k15, k16, k17, k18, k19, k20, k21, k22, k23, k24, k25, k26, k27, k28, k29, k30, k31, k32]
def interned : List (Array UInt16 × Addr) := []
def slotsUsed : Nat := 14
def theMethod : MethodId := ⟨1, 1⟩
def args0 : Array Value := #[.int 5, .int 6, .int 7, .int 8]
def aboutOver (below : List Frame) : State where
  vm := { classes := classes, interned := interned.toArray }
  heap := heap
  slotsUsed := slotsUsed
  threads := #[{ frames := .invoking theMethod args0 :: below }]
def below0 : List Frame := [.native { method := ⟨0, 0⟩, args := #[] }]
def about1 : State := aboutOver below0
def p0 : Program := .bare "" "" ""
def e0 : Env := launch0.env 0 0 0
theorem w_frames : about1.frames = Frame.invoking theMethod args0 :: below0 := rfl
set_option maxRecDepth 65536 in
theorem w_args : argsFit about1.vm theMethod args0 = true := by decide +kernel
set_option maxRecDepth 65536 in
theorem w_heap : heapFits about1 = true := by decide +kernel
set_option maxRecDepth 65536 in
theorem w_runnable : about1.curStatus? = some .runnable := by decide +kernel
set_option maxRecDepth 65536 in
theorem w_alone : about1.alone = true := by decide +kernel
set_option maxRecDepth 65536 in
theorem w_named : about1.methodNamed? x = some theMethod := by decide +kernel
set_option maxRecDepth 65536 in
theorem w_hears : about1.hears theMethod below0 = true := by decide +kernel
set_option maxRecDepth 65536 in
theorem w_ripe : about1.ripe theMethod args0 below0 = true := by decide +kernel
theorem w_running : about1.status = .running := rfl
set_option maxRecDepth 65536 in
theorem w_room : about1.hasRoom e0.platform room_1 = true :=
  launch0.hasRoom_least _ room_1 (by decide +kernel) (by decide +kernel) (by decide +kernel) (by decide +kernel) (by decide +kernel) (by decide +kernel)
theorem allAtoms_all (ts : List Jvm.Cond) (a : Array Jvm.Value) (st : Jvm.State) : (allAtoms ts).before a st = ts.all (fun c => c.before a st) := by
  induction ts with
  | nil => rfl
  | cons c t ih =>
    show (Jvm.Cond.and c (allAtoms t)).before a st = _
    rw [Jvm.Cond.before_and, ih, List.all_cons]
def words1 : List Jvm.Cond := Jvm.Cond.code x code maxLocals ret :: tables_1
/-- a 'code' word, met by the world's own term for the bytes: nothing is compared byte by byte -/
theorem code_word {y : MethodName} {bytes : ByteArray} {mx : Nat} {rt : Option FieldType} {a : Array Value} {s : State} {m : MethodId} {meth : Method} {c : Code} (h1 : s.methodNamed? y = some m) (h2 : s.vm.method? m = some meth) (h3 : meth.code = some c) (h4 : c.code = bytes)
    (h5 : (c.maxLocals == mx && c.exceptionTable.isEmpty && decide (c.maxStack ≤ mostOperands) && decide (meth.sig.returnType = rt) && !meth.locks && decide (parseMethodDescriptor y.desc = some meth.sig)) = true) : (Jvm.Cond.code y bytes mx rt).before a s = true := by
  simp only [Bool.and_eq_true, beq_iff_eq, Bool.not_eq_true', decide_eq_true_eq] at h5
  obtain ⟨⟨⟨⟨⟨g1, g2⟩, g3⟩, g4⟩, g5⟩, g6⟩ := h5
  simp [Cond.before, Cond.holds, Cond.value, h1, h2, h3, h4, g1, g2, g3, g4, g5, g6]
def isCode : Jvm.Cond → Bool
  | .code _ _ _ _ => true
  | _ => false
theorem all_split {L : List Jvm.Cond} {P : Jvm.Cond → Bool} (h1 : L.all (fun c => isCode c || P c) = true) (h2 : ∀ c ∈ L.filter isCode, P c = true) : L.all P = true := by
  refine List.all_eq_true.mpr fun c hc => ?_
  have h := List.all_eq_true.mp h1 c hc
  rcases Bool.eq_false_or_eq_true (isCode c) with hi | hi
  · exact h2 c (List.mem_filter.mpr ⟨hc, hi⟩)
  · simpa [hi] using h
set_option maxRecDepth 65536 in
theorem w_c0 : (Jvm.Cond.code x code maxLocals ret).before args0 about1 = true := code_word (m := ⟨1, 1⟩) (meth := k1m1) (c := k1c1) (by decide +kernel) rfl rfl rfl (by decide +kernel)
set_option maxRecDepth 65536 in
theorem w_c1 : (Jvm.Cond.code ({ cls := "com/example/grantgate/grantgate/server/HeadVersionPinLaw", name := "make", desc := "(I[C)Ljava/lang/String;" } : Jvm.MethodName) method_4_code (2 : Nat) (Option.some (Jvm.ClassFile.FieldType.object "java/lang/String"))).before args0 about1 = true := code_word (m := ⟨1, 3⟩) (meth := k1m3) (c := k1c3) (by decide +kernel) rfl rfl rfl (by decide +kernel)
set_option maxRecDepth 65536 in
theorem w_c2 : (Jvm.Cond.code ({ cls := "java/lang/String", name := "<init>", desc := "([C)V" } : Jvm.MethodName) jdk_42_method_3_code (2 : Nat) (Option.none : Option Jvm.ClassFile.FieldType)).before args0 about1 = true := code_word (m := ⟨7, 1⟩) (meth := k7m1) (c := k7c1) (by decide +kernel) rfl rfl rfl (by decide +kernel)
set_option maxRecDepth 65536 in
theorem w_c3 : (Jvm.Cond.code ({ cls := "java/lang/String", name := "<init>", desc := "([CIILjava/lang/Void;)V" } : Jvm.MethodName) jdk_42_method_149_code (6 : Nat) (Option.none : Option Jvm.ClassFile.FieldType)).before args0 about1 = true := code_word (m := ⟨7, 8⟩) (meth := k7m8) (c := k7c8) (by decide +kernel) rfl rfl rfl (by decide +kernel)
set_option maxRecDepth 65536 in
theorem w_c4 : (Jvm.Cond.code ({ cls := "java/lang/Object", name := "<init>", desc := "()V" } : Jvm.MethodName) object_method_1_code (1 : Nat) (Option.none : Option Jvm.ClassFile.FieldType)).before args0 about1 = true := code_word (m := ⟨0, 0⟩) (meth := k0m0) (c := k0c0) (by decide +kernel) rfl rfl rfl (by decide +kernel)
set_option maxRecDepth 65536 in
theorem w_c5 : (Jvm.Cond.code ({ cls := "java/util/ArrayList", name := "<init>", desc := "()V" } : Jvm.MethodName) jdk_38_method_2_code (1 : Nat) (Option.none : Option Jvm.ClassFile.FieldType)).before args0 about1 = true := code_word (m := ⟨18, 0⟩) (meth := k18m0) (c := k18c0) (by decide +kernel) rfl rfl rfl (by decide +kernel)
set_option maxRecDepth 65536 in
theorem w_c6 : (Jvm.Cond.code ({ cls := "java/util/AbstractList", name := "<init>", desc := "()V" } : Jvm.MethodName) jdk_39_method_1_code (1 : Nat) (Option.none : Option Jvm.ClassFile.FieldType)).before args0 about1 = true := code_word (m := ⟨15, 0⟩) (meth := k15m0) (c := k15c0) (by decide +kernel) rfl rfl rfl (by decide +kernel)
set_option maxRecDepth 65536 in
theorem w_c7 : (Jvm.Cond.code ({ cls := "java/util/AbstractCollection", name := "<init>", desc := "()V" } : Jvm.MethodName) jdk_22_method_1_code (1 : Nat) (Option.none : Option Jvm.ClassFile.FieldType)).before args0 about1 = true := code_word (m := ⟨12, 0⟩) (meth := k12m0) (c := k12c0) (by decide +kernel) rfl rfl rfl (by decide +kernel)
set_option maxRecDepth 65536 in
theorem w_c8 : (Jvm.Cond.code ({ cls := "com/example/grantgate/grantgate/server/MessageReader$Head", name := "<init>", desc := "(Ljava/lang/String;Ljava/util/List;)V" } : Jvm.MethodName) prog_40_method_1_code (3 : Nat) (Option.none : Option Jvm.ClassFile.FieldType)).before args0 about1 = true := code_word (m := ⟨9, 0⟩) (meth := k9m0) (c := k9c0) (by decide +kernel) rfl rfl rfl (by decide +kernel)
set_option maxRecDepth 65536 in
theorem w_c9 : (Jvm.Cond.code ({ cls := "java/lang/Record", name := "<init>", desc := "()V" } : Jvm.MethodName) jdk_30_method_1_code (1 : Nat) (Option.none : Option Jvm.ClassFile.FieldType)).before args0 about1 = true := code_word (m := ⟨8, 0⟩) (meth := k8m0) (c := k8c0) (by decide +kernel) rfl rfl rfl (by decide +kernel)
set_option maxRecDepth 65536 in
theorem w_c10 : (Jvm.Cond.code ({ cls := "com/example/grantgate/grantgate/server/MessageReader$Head", name := "version", desc := "()Ljava/lang/String;" } : Jvm.MethodName) prog_40_method_4_code (1 : Nat) (Option.some (Jvm.ClassFile.FieldType.object "java/lang/String"))).before args0 about1 = true := code_word (m := ⟨9, 1⟩) (meth := k9m1) (c := k9c1) (by decide +kernel) rfl rfl rfl (by decide +kernel)
set_option maxRecDepth 65536 in
theorem w_c11 : (Jvm.Cond.code ({ cls := "java/lang/String", name := "lastIndexOf", desc := "(I)I" } : Jvm.MethodName) jdk_42_method_82_code (2 : Nat) (Option.some Jvm.ClassFile.FieldType.int)).before args0 about1 = true := code_word (m := ⟨7, 4⟩) (meth := k7m4) (c := k7c4) (by decide +kernel) rfl rfl rfl (by decide +kernel)
set_option maxRecDepth 65536 in
theorem w_c12 : (Jvm.Cond.code ({ cls := "java/lang/String", name := "length", desc := "()I" } : Jvm.MethodName) jdk_42_method_54_code (1 : Nat) (Option.some Jvm.ClassFile.FieldType.int)).before args0 about1 = true := code_word (m := ⟨7, 2⟩) (meth := k7m2) (c := k7c2) (by decide +kernel) rfl rfl rfl (by decide +kernel)
set_option maxRecDepth 65536 in
theorem w_c13 : (Jvm.Cond.code ({ cls := "java/lang/String", name := "coder", desc := "()B" } : Jvm.MethodName) jdk_42_method_152_code (1 : Nat) (Option.some Jvm.ClassFile.FieldType.byte)).before args0 about1 = true := code_word (m := ⟨7, 10⟩) (meth := k7m10) (c := k7c10) (by decide +kernel) rfl rfl rfl (by decide +kernel)
set_option maxRecDepth 65536 in
theorem w_c14 : (Jvm.Cond.code ({ cls := "java/lang/String", name := "lastIndexOf", desc := "(II)I" } : Jvm.MethodName) jdk_42_method_83_code (3 : Nat) (Option.some Jvm.ClassFile.FieldType.int)).before args0 about1 = true := code_word (m := ⟨7, 5⟩) (meth := k7m5) (c := k7c5) (by decide +kernel) rfl rfl rfl (by decide +kernel)
set_option maxRecDepth 65536 in
theorem w_c15 : (Jvm.Cond.code ({ cls := "java/lang/String", name := "isLatin1", desc := "()Z" } : Jvm.MethodName) jdk_42_method_154_code (1 : Nat) (Option.some Jvm.ClassFile.FieldType.boolean)).before args0 about1 = true := code_word (m := ⟨7, 11⟩) (meth := k7m11) (c := k7c11) (by decide +kernel) rfl rfl rfl (by decide +kernel)
set_option maxRecDepth 65536 in
theorem w_c16 : (Jvm.Cond.code ({ cls := "java/lang/StringLatin1", name := "lastIndexOf", desc := "([BII)I" } : Jvm.MethodName) jdk_43_method_27_code (4 : Nat) (Option.some Jvm.ClassFile.FieldType.int)).before args0 about1 = true := code_word (m := ⟨19, 3⟩) (meth := k19m3) (c := k19c3) (by decide +kernel) rfl rfl rfl (by decide +kernel)
set_option maxRecDepth 65536 in
theorem w_c17 : (Jvm.Cond.code ({ cls := "java/lang/StringLatin1", name := "canEncode", desc := "(I)Z" } : Jvm.MethodName) jdk_43_method_4_code (1 : Nat) (Option.some Jvm.ClassFile.FieldType.boolean)).before args0 about1 = true := code_word (m := ⟨19, 2⟩) (meth := k19m2) (c := k19c2) (by decide +kernel) rfl rfl rfl (by decide +kernel)
set_option maxRecDepth 65536 in
theorem w_c18 : (Jvm.Cond.code ({ cls := "java/lang/Math", name := "min", desc := "(II)I" } : Jvm.MethodName) jdk_29_method_69_code (2 : Nat) (Option.some Jvm.ClassFile.FieldType.int)).before args0 about1 = true := code_word (m := ⟨20, 1⟩) (meth := k20m1) (c := k20c1) (by decide +kernel) rfl rfl rfl (by decide +kernel)
set_option maxRecDepth 65536 in
theorem w_c19 : (Jvm.Cond.code ({ cls := "java/lang/String", name := "substring", desc := "(I)Ljava/lang/String;" } : Jvm.MethodName) jdk_42_method_91_code (2 : Nat) (Option.some (Jvm.ClassFile.FieldType.object "java/lang/String"))).before args0 about1 = true := code_word (m := ⟨7, 6⟩) (meth := k7m6) (c := k7c6) (by decide +kernel) rfl rfl rfl (by decide +kernel)
set_option maxRecDepth 65536 in
theorem w_c20 : (Jvm.Cond.code ({ cls := "java/lang/String", name := "substring", desc := "(II)Ljava/lang/String;" } : Jvm.MethodName) jdk_42_method_92_code (5 : Nat) (Option.some (Jvm.ClassFile.FieldType.object "java/lang/String"))).before args0 about1 = true := code_word (m := ⟨7, 7⟩) (meth := k7m7) (c := k7c7) (by decide +kernel) rfl rfl rfl (by decide +kernel)
set_option maxRecDepth 65536 in
theorem w_c21 : (Jvm.Cond.code ({ cls := "java/lang/String", name := "checkBoundsBeginEnd", desc := "(III)V" } : Jvm.MethodName) jdk_42_method_158_code (3 : Nat) (Option.none : Option Jvm.ClassFile.FieldType)).before args0 about1 = true := code_word (m := ⟨7, 13⟩) (meth := k7m13) (c := k7c13) (by decide +kernel) rfl rfl rfl (by decide +kernel)
set_option maxRecDepth 65536 in
theorem w_c22 : (Jvm.Cond.code ({ cls := "jdk/internal/util/Preconditions", name := "checkFromToIndex", desc := "(IIILjava/util/function/BiFunction;)I" } : Jvm.MethodName) jdk_41_method_12_code (4 : Nat) (Option.some Jvm.ClassFile.FieldType.int)).before args0 about1 = true := code_word (m := ⟨21, 2⟩) (meth := k21m2) (c := k21c2) (by decide +kernel) rfl rfl rfl (by decide +kernel)
set_option maxRecDepth 65536 in
theorem w_c23 : (Jvm.Cond.code ({ cls := "com/example/grantgate/grantgate/server/HeadVersionPinLaw", name := "same", desc := "(Ljava/lang/String;I[CII)Z" } : Jvm.MethodName) method_3_code (6 : Nat) (Option.some Jvm.ClassFile.FieldType.boolean)).before args0 about1 = true := code_word (m := ⟨1, 2⟩) (meth := k1m2) (c := k1c2) (by decide +kernel) rfl rfl rfl (by decide +kernel)
set_option maxRecDepth 65536 in
theorem w_c24 : (Jvm.Cond.code ({ cls := "java/lang/StringUTF16", name := "compress", desc := "([CII)[B" } : Jvm.MethodName) jdk_52_method_16_code (6 : Nat) (Option.some (Jvm.ClassFile.FieldType.array Jvm.ClassFile.FieldType.byte))).before args0 about1 = true := code_word (m := ⟨22, 2⟩) (meth := k22m2) (c := k22c2) (by decide +kernel) rfl rfl rfl (by decide +kernel)
set_option maxRecDepth 65536 in
theorem w_c25 : (Jvm.Cond.code ({ cls := "java/lang/StringUTF16", name := "compress", desc := "([CI[BII)I" } : Jvm.MethodName) jdk_52_method_21_code (7 : Nat) (Option.some Jvm.ClassFile.FieldType.int)).before args0 about1 = true := code_word (m := ⟨22, 3⟩) (meth := k22m3) (c := k22c3) (by decide +kernel) rfl rfl rfl (by decide +kernel)
set_option maxRecDepth 65536 in
theorem w_c26 : (Jvm.Cond.code ({ cls := "java/lang/StringUTF16", name := "coderFromArrayLen", desc := "([BI)B" } : Jvm.MethodName) jdk_52_method_15_code (2 : Nat) (Option.some Jvm.ClassFile.FieldType.byte)).before args0 about1 = true := code_word (m := ⟨22, 1⟩) (meth := k22m1) (c := k22c1) (by decide +kernel) rfl rfl rfl (by decide +kernel)
set_option maxRecDepth 65536 in
theorem w_c27 : (Jvm.Cond.code ({ cls := "java/lang/StringLatin1", name := "newString", desc := "([BII)Ljava/lang/String;" } : Jvm.MethodName) jdk_43_method_47_code (3 : Nat) (Option.some (Jvm.ClassFile.FieldType.object "java/lang/String"))).before args0 about1 = true := code_word (m := ⟨19, 4⟩) (meth := k19m4) (c := k19c4) (by decide +kernel) rfl rfl rfl (by decide +kernel)
set_option maxRecDepth 65536 in
theorem w_c28 : (Jvm.Cond.code ({ cls := "java/util/Arrays", name := "copyOfRange", desc := "([BII)[B" } : Jvm.MethodName) jdk_65_method_132_code (3 : Nat) (Option.some (Jvm.ClassFile.FieldType.array Jvm.ClassFile.FieldType.byte))).before args0 about1 = true := code_word (m := ⟨23, 2⟩) (meth := k23m2) (c := k23c2) (by decide +kernel) rfl rfl rfl (by decide +kernel)
set_option maxRecDepth 65536 in
theorem w_c29 : (Jvm.Cond.code ({ cls := "java/util/Arrays", name := "copyOfRangeByte", desc := "([BII)[B" } : Jvm.MethodName) jdk_65_method_133_code (5 : Nat) (Option.some (Jvm.ClassFile.FieldType.array Jvm.ClassFile.FieldType.byte))).before args0 about1 = true := code_word (m := ⟨23, 3⟩) (meth := k23m3) (c := k23c3) (by decide +kernel) rfl rfl rfl (by decide +kernel)
set_option maxRecDepth 65536 in
theorem w_c30 : (Jvm.Cond.code ({ cls := "java/util/Arrays", name := "checkLength", desc := "(II)V" } : Jvm.MethodName) jdk_65_method_131_code (2 : Nat) (Option.none : Option Jvm.ClassFile.FieldType)).before args0 about1 = true := code_word (m := ⟨23, 1⟩) (meth := k23m1) (c := k23c1) (by decide +kernel) rfl rfl rfl (by decide +kernel)
set_option maxRecDepth 65536 in
theorem w_c31 : (Jvm.Cond.code ({ cls := "java/lang/String", name := "<init>", desc := "([BB)V" } : Jvm.MethodName) jdk_42_method_151_code (3 : Nat) (Option.none : Option Jvm.ClassFile.FieldType)).before args0 about1 = true := code_word (m := ⟨7, 9⟩) (meth := k7m9) (c := k7c9) (by decide +kernel) rfl rfl rfl (by decide +kernel)
set_option maxRecDepth 65536 in
theorem w_c32 : (Jvm.Cond.code ({ cls := "java/lang/String", name := "charAt", desc := "(I)C" } : Jvm.MethodName) jdk_42_method_56_code (2 : Nat) (Option.some Jvm.ClassFile.FieldType.char)).before args0 about1 = true := code_word (m := ⟨7, 3⟩) (meth := k7m3) (c := k7c3) (by decide +kernel) rfl rfl rfl (by decide +kernel)
set_option maxRecDepth 65536 in
theorem w_c33 : (Jvm.Cond.code ({ cls := "java/lang/StringLatin1", name := "charAt", desc := "([BI)C" } : Jvm.MethodName) jdk_43_method_2_code (2 : Nat) (Option.some Jvm.ClassFile.FieldType.char)).before args0 about1 = true := code_word (m := ⟨19, 1⟩) (meth := k19m1) (c := k19c1) (by decide +kernel) rfl rfl rfl (by decide +kernel)
set_option maxRecDepth 65536 in
theorem w_c34 : (Jvm.Cond.code ({ cls := "java/lang/String", name := "checkIndex", desc := "(II)V" } : Jvm.MethodName) jdk_42_method_155_code (2 : Nat) (Option.none : Option Jvm.ClassFile.FieldType)).before args0 about1 = true := code_word (m := ⟨7, 12⟩) (meth := k7m12) (c := k7c12) (by decide +kernel) rfl rfl rfl (by decide +kernel)
set_option maxRecDepth 65536 in
theorem w_c35 : (Jvm.Cond.code ({ cls := "jdk/internal/util/Preconditions", name := "checkIndex", desc := "(IILjava/util/function/BiFunction;)I" } : Jvm.MethodName) jdk_41_method_11_code (3 : Nat) (Option.some Jvm.ClassFile.FieldType.int)).before args0 about1 = true := code_word (m := ⟨21, 1⟩) (meth := k21m1) (c := k21c1) (by decide +kernel) rfl rfl rfl (by decide +kernel)
def codes1 : List Jvm.Cond := [Jvm.Cond.code x code maxLocals ret, Jvm.Cond.code ({ cls := "com/example/grantgate/grantgate/server/HeadVersionPinLaw", name := "make", desc := "(I[C)Ljava/lang/String;" } : Jvm.MethodName) method_4_code (2 : Nat) (Option.some (Jvm.ClassFile.FieldType.object "java/lang/String")), Jvm.Cond.code ({ cls := "java/lang/String", name := "<init>", desc := "([C)V" } : Jvm.MethodName) jdk_42_method_3_code (2 : Nat) (Option.none : Option Jvm.ClassFile.FieldType), Jvm.Cond.code ({ cls := "java/lang/String", name := "<init>", desc := "([CIILjava/lang/Void;)V" } : Jvm.MethodName) jdk_42_method_149_code (6 : Nat) (Option.none : Option Jvm.ClassFile.FieldType), Jvm.Cond.code ({ cls := "java/lang/Object", name := "<init>", desc := "()V" } : Jvm.MethodName) object_method_1_code (1 : Nat) (Option.none : Option Jvm.ClassFile.FieldType), Jvm.Cond.code ({ cls := "java/util/ArrayList", name := "<init>", desc := "()V" } : Jvm.MethodName) jdk_38_method_2_code (1 : Nat) (Option.none : Option Jvm.ClassFile.FieldType), Jvm.Cond.code ({ cls := "java/util/AbstractList", name := "<init>", desc := "()V" } : Jvm.MethodName) jdk_39_method_1_code (1 : Nat) (Option.none : Option Jvm.ClassFile.FieldType), Jvm.Cond.code ({ cls := "java/util/AbstractCollection", name := "<init>", desc := "()V" } : Jvm.MethodName) jdk_22_method_1_code (1 : Nat) (Option.none : Option Jvm.ClassFile.FieldType), Jvm.Cond.code ({ cls := "com/example/grantgate/grantgate/server/MessageReader$Head", name := "<init>", desc := "(Ljava/lang/String;Ljava/util/List;)V" } : Jvm.MethodName) prog_40_method_1_code (3 : Nat) (Option.none : Option Jvm.ClassFile.FieldType), Jvm.Cond.code ({ cls := "java/lang/Record", name := "<init>", desc := "()V" } : Jvm.MethodName) jdk_30_method_1_code (1 : Nat) (Option.none : Option Jvm.ClassFile.FieldType), Jvm.Cond.code ({ cls := "com/example/grantgate/grantgate/server/MessageReader$Head", name := "version", desc := "()Ljava/lang/String;" } : Jvm.MethodName) prog_40_method_4_code (1 : Nat) (Option.some (Jvm.ClassFile.FieldType.object "java/lang/String")), Jvm.Cond.code ({ cls := "java/lang/String", name := "lastIndexOf", desc := "(I)I" } : Jvm.MethodName) jdk_42_method_82_code (2 : Nat) (Option.some Jvm.ClassFile.FieldType.int), Jvm.Cond.code ({ cls := "java/lang/String", name := "length", desc := "()I" } : Jvm.MethodName) jdk_42_method_54_code (1 : Nat) (Option.some Jvm.ClassFile.FieldType.int), Jvm.Cond.code ({ cls := "java/lang/String", name := "coder", desc := "()B" } : Jvm.MethodName) jdk_42_method_152_code (1 : Nat) (Option.some Jvm.ClassFile.FieldType.byte), Jvm.Cond.code ({ cls := "java/lang/String", name := "lastIndexOf", desc := "(II)I" } : Jvm.MethodName) jdk_42_method_83_code (3 : Nat) (Option.some Jvm.ClassFile.FieldType.int), Jvm.Cond.code ({ cls := "java/lang/String", name := "isLatin1", desc := "()Z" } : Jvm.MethodName) jdk_42_method_154_code (1 : Nat) (Option.some Jvm.ClassFile.FieldType.boolean), Jvm.Cond.code ({ cls := "java/lang/StringLatin1", name := "lastIndexOf", desc := "([BII)I" } : Jvm.MethodName) jdk_43_method_27_code (4 : Nat) (Option.some Jvm.ClassFile.FieldType.int), Jvm.Cond.code ({ cls := "java/lang/StringLatin1", name := "canEncode", desc := "(I)Z" } : Jvm.MethodName) jdk_43_method_4_code (1 : Nat) (Option.some Jvm.ClassFile.FieldType.boolean), Jvm.Cond.code ({ cls := "java/lang/Math", name := "min", desc := "(II)I" } : Jvm.MethodName) jdk_29_method_69_code (2 : Nat) (Option.some Jvm.ClassFile.FieldType.int), Jvm.Cond.code ({ cls := "java/lang/String", name := "substring", desc := "(I)Ljava/lang/String;" } : Jvm.MethodName) jdk_42_method_91_code (2 : Nat) (Option.some (Jvm.ClassFile.FieldType.object "java/lang/String")), Jvm.Cond.code ({ cls := "java/lang/String", name := "substring", desc := "(II)Ljava/lang/String;" } : Jvm.MethodName) jdk_42_method_92_code (5 : Nat) (Option.some (Jvm.ClassFile.FieldType.object "java/lang/String")), Jvm.Cond.code ({ cls := "java/lang/String", name := "checkBoundsBeginEnd", desc := "(III)V" } : Jvm.MethodName) jdk_42_method_158_code (3 : Nat) (Option.none : Option Jvm.ClassFile.FieldType), Jvm.Cond.code ({ cls := "jdk/internal/util/Preconditions", name := "checkFromToIndex", desc := "(IIILjava/util/function/BiFunction;)I" } : Jvm.MethodName) jdk_41_method_12_code (4 : Nat) (Option.some Jvm.ClassFile.FieldType.int), Jvm.Cond.code ({ cls := "com/example/grantgate/grantgate/server/HeadVersionPinLaw", name := "same", desc := "(Ljava/lang/String;I[CII)Z" } : Jvm.MethodName) method_3_code (6 : Nat) (Option.some Jvm.ClassFile.FieldType.boolean), Jvm.Cond.code ({ cls := "java/lang/StringUTF16", name := "compress", desc := "([CII)[B" } : Jvm.MethodName) jdk_52_method_16_code (6 : Nat) (Option.some (Jvm.ClassFile.FieldType.array Jvm.ClassFile.FieldType.byte)), Jvm.Cond.code ({ cls := "java/lang/StringUTF16", name := "compress", desc := "([CI[BII)I" } : Jvm.MethodName) jdk_52_method_21_code (7 : Nat) (Option.some Jvm.ClassFile.FieldType.int), Jvm.Cond.code ({ cls := "java/lang/StringUTF16", name := "coderFromArrayLen", desc := "([BI)B" } : Jvm.MethodName) jdk_52_method_15_code (2 : Nat) (Option.some Jvm.ClassFile.FieldType.byte), Jvm.Cond.code ({ cls := "java/lang/StringLatin1", name := "newString", desc := "([BII)Ljava/lang/String;" } : Jvm.MethodName) jdk_43_method_47_code (3 : Nat) (Option.some (Jvm.ClassFile.FieldType.object "java/lang/String")), Jvm.Cond.code ({ cls := "java/util/Arrays", name := "copyOfRange", desc := "([BII)[B" } : Jvm.MethodName) jdk_65_method_132_code (3 : Nat) (Option.some (Jvm.ClassFile.FieldType.array Jvm.ClassFile.FieldType.byte)), Jvm.Cond.code ({ cls := "java/util/Arrays", name := "copyOfRangeByte", desc := "([BII)[B" } : Jvm.MethodName) jdk_65_method_133_code (5 : Nat) (Option.some (Jvm.ClassFile.FieldType.array Jvm.ClassFile.FieldType.byte)), Jvm.Cond.code ({ cls := "java/util/Arrays", name := "checkLength", desc := "(II)V" } : Jvm.MethodName) jdk_65_method_131_code (2 : Nat) (Option.none : Option Jvm.ClassFile.FieldType), Jvm.Cond.code ({ cls := "java/lang/String", name := "<init>", desc := "([BB)V" } : Jvm.MethodName) jdk_42_method_151_code (3 : Nat) (Option.none : Option Jvm.ClassFile.FieldType), Jvm.Cond.code ({ cls := "java/lang/String", name := "charAt", desc := "(I)C" } : Jvm.MethodName) jdk_42_method_56_code (2 : Nat) (Option.some Jvm.ClassFile.FieldType.char), Jvm.Cond.code ({ cls := "java/lang/StringLatin1", name := "charAt", desc := "([BI)C" } : Jvm.MethodName) jdk_43_method_2_code (2 : Nat) (Option.some Jvm.ClassFile.FieldType.char), Jvm.Cond.code ({ cls := "java/lang/String", name := "checkIndex", desc := "(II)V" } : Jvm.MethodName) jdk_42_method_155_code (2 : Nat) (Option.none : Option Jvm.ClassFile.FieldType), Jvm.Cond.code ({ cls := "jdk/internal/util/Preconditions", name := "checkIndex", desc := "(IILjava/util/function/BiFunction;)I" } : Jvm.MethodName) jdk_41_method_11_code (3 : Nat) (Option.some Jvm.ClassFile.FieldType.int)]
set_option maxRecDepth 65536 in
theorem codes_eq : words1.filter isCode = codes1 := rfl
theorem w_codes : ∀ c ∈ words1.filter isCode, c.before args0 about1 = true := by
  rw [codes_eq]
  intro c hc
  simp only [codes1, List.mem_cons, List.not_mem_nil, or_false] at hc
  rcases hc with rfl | rfl | rfl | rfl | rfl | rfl | rfl | rfl | rfl | rfl | rfl | rfl | rfl | rfl | rfl | rfl | rfl | rfl | rfl | rfl | rfl | rfl | rfl | rfl | rfl | rfl | rfl | rfl | rfl | rfl | rfl | rfl | rfl | rfl | rfl | rfl
  · exact w_c0
  · exact w_c1
  · exact w_c2
  · exact w_c3
  · exact w_c4
  · exact w_c5
  · exact w_c6
  · exact w_c7
  · exact w_c8
  · exact w_c9
  · exact w_c10
  · exact w_c11
  · exact w_c12
  · exact w_c13
  · exact w_c14
  · exact w_c15
  · exact w_c16
  · exact w_c17
  · exact w_c18
  · exact w_c19
  · exact w_c20
  · exact w_c21
  · exact w_c22
  · exact w_c23
  · exact w_c24
  · exact w_c25
  · exact w_c26
  · exact w_c27
  · exact w_c28
  · exact w_c29
  · exact w_c30
  · exact w_c31
  · exact w_c32
  · exact w_c33
  · exact w_c34
  · exact w_c35
set_option maxRecDepth 65536 in
theorem w_t1 : (words1.take 24).all (fun c => isCode c || c.before args0 about1) = true := by decide +kernel
set_option maxRecDepth 65536 in
theorem w_t2 : ((words1.drop 24).take 24).all (fun c => isCode c || c.before args0 about1) = true := by decide +kernel
set_option maxRecDepth 65536 in
theorem w_t3 : (((words1.drop 24).drop 24).take 24).all (fun c => isCode c || c.before args0 about1) = true := by decide +kernel
set_option maxRecDepth 65536 in
theorem w_t4 : ((((words1.drop 24).drop 24).drop 24).take 24).all (fun c => isCode c || c.before args0 about1) = true := by decide +kernel
set_option maxRecDepth 65536 in
theorem w_t5 : (((((words1.drop 24).drop 24).drop 24).drop 24).take 24).all (fun c => isCode c || c.before args0 about1) = true := by decide +kernel
set_option maxRecDepth 65536 in
theorem w_t6 : ((((((words1.drop 24).drop 24).drop 24).drop 24).drop 24).take 24).all (fun c => isCode c || c.before args0 about1) = true := by decide +kernel
set_option maxRecDepth 65536 in
theorem w_t7 : (((((((words1.drop 24).drop 24).drop 24).drop 24).drop 24).drop 24).take 24).all (fun c => isCode c || c.before args0 about1) = true := by decide +kernel
set_option maxRecDepth 65536 in
theorem w_t8 : (((((((words1.drop 24).drop 24).drop 24).drop 24).drop 24).drop 24).drop 24).all (fun c => isCode c || c.before args0 about1) = true := by decide +kernel
theorem w_tables : (allAtoms (Jvm.Cond.code x code maxLocals ret :: tables_1)).before args0 about1 = true := by
  rw [allAtoms_all]
  show words1.all (fun c => c.before args0 about1) = true
  refine all_split ?_ w_codes
  rw [← List.take_append_drop 24 words1, List.all_append, w_t1, ← List.take_append_drop 24 (words1.drop 24), List.all_append, w_t2, ← List.take_append_drop 24 ((words1.drop 24).drop 24), List.all_append, w_t3, ← List.take_append_drop 24 (((words1.drop 24).drop 24).drop 24), List.all_append, w_t4, ← List.take_append_drop 24 ((((words1.drop 24).drop 24).drop 24).drop 24), List.all_append, w_t5, ← List.take_append_drop 24 (((((words1.drop 24).drop 24).drop 24).drop 24).drop 24), List.all_append, w_t6, ← List.take_append_drop 24 ((((((words1.drop 24).drop 24).drop 24).drop 24).drop 24).drop 24), List.all_append, w_t7, w_t8]
  rfl
set_option maxRecDepth 65536 in
theorem w_rest : rest_1_c.before args0 about1 = true := by decide +kernel
set_option maxRecDepth 65536 in
theorem w_case : (Jvm.Cond.and given_1 narrow_1).before args0 about1 = true := by decide +kernel
set_option maxRecDepth 65536 in
theorem w_consts : constsHeld consts_1 about1 := Jvm.Lit.constsHeldB_iff.mp (by decide +kernel)
theorem w_applies : (headSpec (Jvm.Cond.code x code maxLocals ret :: tables_1) room_1).applies x e0.platform about1 = true :=
  (Spec.applies_iff w_frames).mpr ⟨w_running, w_runnable, w_alone, w_named, w_hears, w_ripe, w_room, w_tables⟩
theorem atStart : AtStart classFile x code maxLocals ret World_1 tables_1 room_1 Calls_1 rest_1 Pre_1 launch0 p0 e0 about1 theMethod args0 below0 :=
  ⟨lists_1, trivial, launch0.admits_env _ _ _, launch0.least_env, fairChoices_fair.cas, fairChoices_fair.clock, w_frames, w_args, w_heap, w_applies, ⟨w_consts, trivial⟩, w_rest, w_case⟩
end start1
theorem witness_1 : WitnessClaimed_1 := ⟨start1.p0, start1.e0, start1.about1, start1.theMethod, start1.args0, start1.below0, start1.atStart⟩
end Jvm.Pilot.@@N@@
