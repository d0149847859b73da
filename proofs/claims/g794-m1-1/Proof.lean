import JvmDerived
import JvmDerived.Pilot.@@N@@Statement
import JvmDerived.Pilot.@@N@@Code
set_option linter.unusedVariables false
set_option linter.unusedSimpArgs false
namespace Jvm.Pilot.@@N@@
open Jvm Jvm.ClassFile Sem Op Lib Jvm.Free Jvm.Stand Jvm.LawKit Jvm.RoadKit Bundle Jvm.Pilot.@@N@@.Jvm.D
theorem wk {Z : State} {a0 : Array Value} {d : Jvm.Cond} (hw : ∀ d ∈ tables_1, d.before a0 Z = true) (i : Nat) (h : tables_1[i]? = some d) : d.before a0 Z = true := hw _ (List.mem_of_getElem? h)
/-! a thin layer of one form a step, over the library's road laws -/
def MetN (l : Launch) (Z : State) (y : MethodName) (bytes : ByteArray) (maxL : Nat) (ret : Option FieldType) (rm : Room) (ws : List Jvm.Cond) (as' : Array Value) (h : Heap) (Q : Option Value → Heap → List Loc → Prop) : Prop :=
  MetFree l y (head1 (Jvm.Cond.code y bytes maxL ret :: ws) rm) (fun a U => a = as' ∧ Z.Warmed39 U.vm ∧ U.heap = h) (fun _ _ _ _ _ => True) (fun _ U o U' => ∃ v L, o = .returned v ∧ Q v U'.heap L ∧ FrameEnd U o U' L rm.cells rm.slots)
def Win (p : Program) (e : Env) (below : List Frame) (s : State) (rm : Room) (Q : Option Value → Heap → List Loc → Prop) (st : State) : Prop :=
  ∃ s₂ o, Steps p.tables e below st s₂ ∧ s₂.status = .running ∧ Ended s₂ below o ∧ ∃ v L, o = .returned v ∧ Q v s₂.heap L ∧ FrameEnd s o s₂ L rm.cells rm.slots
section Own
variable {p : Program} {l : Launch} {e : Env} {R rm : Room} {s : State} {m : MethodId} {args : Array Value} {below : List Frame} {meth : Method} {c : Code} {T : State} {locs : List Loc} {cells slots : Nat} {Z : State} {a0 : Array Value} {h : Heap} {Q : Option Value → Heap → List Loc → Prop}
theorem Win.to {A : State} (T : State) (g : JFrame) (k : ∀ t, Steps p.tables e below (T.setTop g) t → Steps p.tables e below A t) (w : Win p e below s rm Q (T.setTop g)) : Win p e below s rm Q A := by
  obtain ⟨s₂, o, h1, r⟩ := w
  exact ⟨s₂, o, k _ h1, r⟩
theorem Win.out (X : Stand p l e R s m args below meth c T locs cells slots) {A : State} {v : Option Value} (hlk : meth.locks = false) (hv : meth.sig.returnType = none → v = none)
    (hst : ∀ fs, (∀ (f : JFrame) (acts : List Action), f.method = m → f.locked = none → f.entered = [] → (doReturn e (T.setTop f) acts v).1 = T.setFrames fs) → Steps p.tables e below A (T.setFrames fs))
    (hc : cells ≤ rm.cells) (hs : slots ≤ rm.slots) (hq : Q v T.heap locs) : Win p e below s rm Q A := by
  obtain ⟨fs, hr, hrun, hended, hW, hsame⟩ := X.leave (v := v) hv
  exact ⟨_, _, hst fs hr, hrun, hended, _, _, rfl, hq, ⟨_, rfl⟩, hW, hsame.mono hc hs⟩
theorem Win.retN (X : Stand p l e R s m args below meth c T locs cells slots) (hx : p.tables.exec = Jvm.exec) (hlk : meth.locks = false) {pc : Nat} {Ls : Array Slot} {z z' : Int32} {t : FieldType} {rest : List Value} (hret : meth.sig.returnType = some t) (ht : t = .boolean ∨ t = .byte ∨ t = .char ∨ t = .short) (hz : nar t z = z')
    (hd : decode c.code pc = .ok (.ireturn, 1)) (hc : cells ≤ rm.cells) (hs : slots ≤ rm.slots) (hq : Q (some (.int z')) T.heap locs) : Win p e below s rm Q (T.setTop (mkF m pc Ls (.int z :: rest))) := by
  subst hz
  exact Win.out X (v := some (.int (nar t z))) hlk (fun q => by rw [hret] at q; cases q) (fun fs hr => Jvm.RoadKit.retN X hx (t := t) hret ht hd hr) hc hs hq
theorem Win.retI (X : Stand p l e R s m args below meth c T locs cells slots) (hx : p.tables.exec = Jvm.exec) (hlk : meth.locks = false) {pc : Nat} {Ls : Array Slot} {z : Int32} {rest : List Value} (hret : meth.sig.returnType = some .int)
    (hd : decode c.code pc = .ok (.ireturn, 1)) (hc : cells ≤ rm.cells) (hs : slots ≤ rm.slots) (hq : Q (some (.int z)) T.heap locs) : Win p e below s rm Q (T.setTop (mkF m pc Ls (.int z :: rest))) :=
  Win.out X (v := some (.int z)) hlk (fun q => by rw [hret] at q; cases q) (fun fs hr => retOut X hx hret rfl (Or.inl ⟨rfl, Or.inl rfl, z, rfl⟩) hd hr) hc hs hq
theorem Win.retJ (X : Stand p l e R s m args below meth c T locs cells slots) (hx : p.tables.exec = Jvm.exec) (hlk : meth.locks = false) {pc : Nat} {Ls : Array Slot} {z : Int64} {rest : List Value} (hret : meth.sig.returnType = some .long)
    (hd : decode c.code pc = .ok (.lreturn, 1)) (hc : cells ≤ rm.cells) (hs : slots ≤ rm.slots) (hq : Q (some (.long z)) T.heap locs) : Win p e below s rm Q (T.setTop (mkF m pc Ls (.long z :: rest))) :=
  Win.out X (v := some (.long z)) hlk (fun q => by rw [hret] at q; cases q) (fun fs hr => retOut X hx hret rfl (Or.inr (Or.inl ⟨rfl, rfl, z, rfl⟩)) hd hr) hc hs hq
theorem Win.retD (X : Stand p l e R s m args below meth c T locs cells slots) (hx : p.tables.exec = Jvm.exec) (hlk : meth.locks = false) {pc : Nat} {Ls : Array Slot} {z : UInt64} {rest : List Value} (hret : meth.sig.returnType = some .double)
    (hd : decode c.code pc = .ok (.dreturn, 1)) (hc : cells ≤ rm.cells) (hs : slots ≤ rm.slots) (hq : Q (some (.double z)) T.heap locs) : Win p e below s rm Q (T.setTop (mkF m pc Ls (.double z :: rest))) :=
  Win.out X (v := some (.double z)) hlk (fun q => by rw [hret] at q; cases q) (fun fs hr => retOut X hx hret rfl (Or.inr (Or.inr (Or.inl ⟨rfl, rfl, z, rfl⟩))) hd hr) hc hs hq
theorem Win.retA (X : Stand p l e R s m args below meth c T locs cells slots) (hx : p.tables.exec = Jvm.exec) (hlk : meth.locks = false) {pc : Nat} {Ls : Array Slot} {w : Value} {t : FieldType} {rest : List Value} (hret : meth.sig.returnType = some t) (ht : t.isReference = true) (hw : w.isRef = true)
    (hd : decode c.code pc = .ok (.areturn, 1)) (hc : cells ≤ rm.cells) (hs : slots ≤ rm.slots) (hq : Q (some w) T.heap locs) : Win p e below s rm Q (T.setTop (mkF m pc Ls (w :: rest))) :=
  Win.out X (v := some w) hlk (fun q => by rw [hret] at q; cases q) (fun fs hr => retOut X hx hret (by rcases ref_cases hw with rfl | ⟨_, rfl⟩ <;> cases t <;> first | rfl | cases ht) (Or.inr (Or.inr (Or.inr (Or.inr ⟨rfl, ht, hw⟩)))) hd hr) hc hs hq
theorem Win.retV (X : Stand p l e R s m args below meth c T locs cells slots) (hx : p.tables.exec = Jvm.exec) (hlk : meth.locks = false) {pc : Nat} {Ls : Array Slot} (hret : meth.sig.returnType = none)
    (hd : decode c.code pc = .ok (.return_, 1)) (hc : cells ≤ rm.cells) (hs : slots ≤ rm.slots) (hq : Q none T.heap locs) : Win p e below s rm Q (T.setTop (mkF m pc Ls [])) :=
  Win.out X (v := none) hlk (fun _ => rfl) (fun fs hr => X.returnOut hx hret hd hr) hc hs hq
theorem MetN.walk {y : MethodName} {bytes : ByteArray} {maxL : Nat} {ret : Option FieldType} {ws : List Jvm.Cond} {as' : Array Value} (hp : plainFor y = true)
    (b : ∀ (p : Program) (e : Env) (s : State) (m : MethodId) (below : List Frame) (meth : Method) (c : Code) (s₁ : State), p.tables.exec = Jvm.exec → Z.Warmed39 s.vm → c.code = bytes → c.maxLocals = maxL → s.vm.findClass y.cls = some m.cls → meth.name = y.name → meth.sig.returnType = ret → meth.locks = false →
      Stand p l e rm s m as' below meth c s₁ [] 0 0 → s₁.heap = h → Win p e below s rm Q (s₁.setTop (entryFrame m as' maxL))) : MetN l Z y bytes maxL ret rm ws as' h Q := by
  refine MetFree.of_bodySF hp hisR ?_
  intro p e s m args below meth c s₁ Bd hml0 hP hK
  obtain ⟨rfl, hZ, hh⟩ := hP
  exact b p e s m below meth c s₁ Bd.exec hZ Bd.bytes hml0 (findClass_of_methodNamed Bd.named) (name_of_methodNamed Bd.named Bd.method).1 Bd.returns Bd.notSynchronized (Stand.of_body Bd) (by rw [← hh, Bd.state]; rfl)
theorem N.static (X : Stand p l e R s m args below meth c T locs cells slots) (hx : p.tables.exec = Jvm.exec) (hZ : Z.Warmed39 s.vm) {own : String} {index : Nat} {y : MethodName} {bytes : ByteArray} {maxL : Nat} {ret : Option FieldType} {as' : Array Value}
    (hown : s.vm.findClass own = some m.cls) (w1 : (Jvm.Cond.methodLink own index y).before a0 Z = true) (w2 : (Jvm.Cond.static y).before a0 Z = true) (w3 : (Jvm.Cond.initialized y.cls).before a0 Z = true) (w4 : (Jvm.Cond.code y bytes maxL ret).before a0 Z = true)
    (hy : y.cls ≠ "java/lang/invoke/MethodHandle" ∧ y.cls ≠ "java/lang/invoke/VarHandle") (M : MetN l Z y bytes maxL ret rm [] as' h Q) (eT : T.heap = h) {g : JFrame} (hg : g.method = m) (hsize : g.locals.size = c.maxLocals) {argsL rest : List Value} (has : argsL.toArray = as')
    (hlen : ∀ sig, parseMethodDescriptor y.desc = some sig → argsL.length = sig.parameters.length) (hstack : g.stack = argsL.reverse ++ rest) {W : Nat} (hW : 2 * g.monitorRoom + (rest.map fun v => v.category).sum ≤ W) (hd : decode c.code g.pc = .ok (.invokestatic index, 3))
    (hf : rm.frames + 1 ≤ R.frames) (hl : W + (maxL + 11) + rm.locals ≤ R.locals) (hc : cells + rm.cells ≤ R.cells) (hs : slots + rm.slots ≤ R.slots) :
    ∃ (T' : State) (h' : Heap) (v : Option Value) (L : List Loc), Stand p l e R s m args below meth c T' (locs ++ L) (cells + rm.cells) (slots + rm.slots) ∧ T'.heap = h' ∧ Q v h' L ∧ ∀ t, Steps p.tables e below (T'.setTop { g with pc := g.pc + 3, stack := v.toList ++ rest }) t → Steps p.tables e below (T.setTop g) t := by
  obtain ⟨v, _, ⟨T', L', k', n'⟩, -, X', ⟨Lc, hQ, l', y', z'⟩, st⟩ := Jvm.LawKit.callS X hx hown (mvT hZ w1) (mvT hZ w2) (mvT hZ w3) (mvT hZ w4) hy (backOf (W := W) M hZ w4 w3 hf hl) hg hsize hlen hstack hW hd (fun _ _ => ⟨has, eT, hc, hs⟩)
  dsimp only [Pt.U, Pt.locs, Pt.cells, Pt.slots] at X' l' y' z' st hQ
  subst l' y' z'
  exact ⟨T', _, v, Lc, X', rfl, hQ, st⟩
theorem N.special (X : Stand p l e R s m args below meth c T locs cells slots) (hx : p.tables.exec = Jvm.exec) (hZ : Z.Warmed39 s.vm) {own : String} {index : Nat} {y : MethodName} {bytes : ByteArray} {maxL : Nat} {as' : Array Value} (hy1 : y.name = "<init>")
    (hown : s.vm.findClass own = some m.cls) (w1 : (Jvm.Cond.methodLink own index y).before a0 Z = true) (w2 : (Jvm.Cond.instanceMethod y).before a0 Z = true) (w3 : (Jvm.Cond.initialized y.cls).before a0 Z = true) (w4 : (Jvm.Cond.code y bytes maxL none).before a0 Z = true)
    (hy : y.cls ≠ "java/lang/invoke/MethodHandle" ∧ y.cls ≠ "java/lang/invoke/VarHandle") (M : MetN l Z y bytes maxL none rm [] as' h Q) (eT : T.heap = h) {g : JFrame} (hg : g.method = m) (hsize : g.locals.size = c.maxLocals) {a : Addr} {argsL rest : List Value} (has : (Value.ref a :: argsL).toArray = as')
    (hlen : ∀ sig, parseMethodDescriptor y.desc = some sig → argsL.length = sig.parameters.length) (hstack : g.stack = argsL.reverse ++ .ref a :: rest) {W : Nat} (hW : 2 * g.monitorRoom + (rest.map fun v => v.category).sum ≤ W) (hd : decode c.code g.pc = .ok (.invokespecial index, 3))
    (hf : rm.frames + 1 ≤ R.frames) (hl : W + (maxL + 11) + rm.locals ≤ R.locals) (hc : cells + rm.cells ≤ R.cells) (hs : slots + rm.slots ≤ R.slots) :
    ∃ (T' : State) (h' : Heap) (v : Option Value) (L : List Loc), Stand p l e R s m args below meth c T' (locs ++ L) (cells + rm.cells) (slots + rm.slots) ∧ T'.heap = h' ∧ Q v h' L ∧ ∀ t, Steps p.tables e below (T'.setTop { g with pc := g.pc + 3, stack := v.toList ++ rest }) t → Steps p.tables e below (T.setTop g) t := by
  obtain ⟨v, _, ⟨T', L', k', n'⟩, -, X', ⟨Lc, hQ, l', y', z'⟩, st⟩ := X.specialBack hx hy1 hown (mvT hZ w1) (mvT hZ w2) (mvT hZ w4) hy (backOf (W := W) M hZ w4 w3 hf hl) hg hsize (Steps.refl _) (a := a) hlen hstack hW hd (fun _ _ => ⟨has, eT, hc, hs⟩)
  dsimp only [Pt.U, Pt.locs, Pt.cells, Pt.slots] at X' l' y' z' st hQ
  subst l' y' z'
  exact ⟨T', _, v, Lc, X', rfl, hQ, fun t k => st.trans k⟩
theorem N.virtual (X : Stand p l e R s m args below meth c T locs cells slots) (hx : p.tables.exec = Jvm.exec) (hZ : Z.Warmed39 s.vm) {own C : String} {index : Nat} {y z : MethodName} {bytes : ByteArray} {maxL : Nat} {ret : Option FieldType} {as' : Array Value}
    (hown : s.vm.findClass own = some m.cls) (w1 : (Jvm.Cond.methodLink own index y).before a0 Z = true) (w5 : (Jvm.Cond.declares y).before a0 Z = true) (nf : NotFace s y) (w6 : (Jvm.Cond.selects C y z).before a0 Z = true) (w2 : (Jvm.Cond.instanceMethod z).before a0 Z = true) (w3 : (Jvm.Cond.initialized z.cls).before a0 Z = true) (w4 : (Jvm.Cond.code z bytes maxL ret).before a0 Z = true)
    (hy : y.cls ≠ "java/lang/invoke/MethodHandle" ∧ y.cls ≠ "java/lang/invoke/VarHandle") (M : MetN l Z z bytes maxL ret rm [] as' h Q) (eT : T.heap = h) {a : Addr} (E : Exa Z h a C) {g : JFrame} (hg : g.method = m) (hsize : g.locals.size = c.maxLocals) {argsL rest : List Value} (has : (Value.ref a :: argsL).toArray = as')
    (hlen : ∀ sig, parseMethodDescriptor y.desc = some sig → argsL.length = sig.parameters.length) (hstack : g.stack = argsL.reverse ++ .ref a :: rest) {W : Nat} (hW : 2 * g.monitorRoom + (rest.map fun v => v.category).sum ≤ W) (hd : decode c.code g.pc = .ok (.invokevirtual index, 3))
    (hf : rm.frames + 1 ≤ R.frames) (hl : W + (maxL + 11) + rm.locals ≤ R.locals) (hc : cells + rm.cells ≤ R.cells) (hs : slots + rm.slots ≤ R.slots) :
    ∃ (T' : State) (h' : Heap) (v : Option Value) (L : List Loc), Stand p l e R s m args below meth c T' (locs ++ L) (cells + rm.cells) (slots + rm.slots) ∧ T'.heap = h' ∧ Q v h' L ∧ ∀ t, Steps p.tables e below (T'.setTop { g with pc := g.pc + 3, stack := v.toList ++ rest }) t → Steps p.tables e below (T.setTop g) t := by
  obtain ⟨cq, kq, qa, qb, qc⟩ := isOf hZ eT E
  obtain ⟨v, _, ⟨T', L', k', n'⟩, -, X', ⟨Lc, hQ, l', y', z'⟩, st⟩ := X.virtualBack hx (y := y) (z := z) hown (mvT hZ w1) (mvT hZ w5) nf (mvT hZ w6) (mvT hZ w2) hy (backOf (W := W) M hZ w4 w3 hf hl) qa qc hg hsize (Steps.refl _) (argsL := argsL) hlen hstack hW hd (fun _ _ => ⟨has, eT, hc, hs⟩)
  dsimp only [Pt.U, Pt.locs, Pt.cells, Pt.slots] at X' l' y' z' st hQ
  subst l' y' z'
  exact ⟨T', _, v, Lc, X', rfl, hQ, fun t k => st.trans k⟩
theorem own_cat {v : Value} (q : v.isRef = true) : v.category = 1 := by rcases ref_cases q with rfl | ⟨_, rfl⟩ <;> rfl
theorem own_eqi {a b : Int32} (q : a = b) : (some (Value.int b) : Option Value) = some (Value.int a) := by rw [q]
theorem own_le {n0 : Nat} (X : Old Z n0 h) : n0 ≤ h.size := X.1 ▸ X.2.1
end Own
/-! the same layer for walks that may load String constants -/
def MetW (l : Launch) (Z : State) (y : MethodName) (bytes : ByteArray) (maxL : Nat) (ret : Option FieldType) (rm : Room) (ws : List Jvm.Cond) (as' : Array Value) (h : Heap) (EL : List (String × Nat)) (Q : Option Value → Heap → List Loc → Prop) : Prop :=
  MetFree l y (head1 (Jvm.Cond.code y bytes maxL ret :: ws) rm) (fun a U => a = as' ∧ Z.Warmed39 U.vm ∧ U.heap = h ∧ CHv Z EL U.vm h) (fun _ _ _ _ _ => True) (fun _ U o U' => ∃ v L, o = .returned v ∧ Q v U'.heap L ∧ CHr Z EL U.vm U.heap U'.vm U'.heap ∧ ReturnedEndW U o U' L rm.cells rm.slots)
def WinW (p : Program) (e : Env) (below : List Frame) (s : State) (rm : Room) (Z : State) (EL : List (String × Nat)) (Q : Option Value → Heap → List Loc → Prop) (st : State) : Prop :=
  ∃ s₂ o, Steps p.tables e below st s₂ ∧ s₂.status = .running ∧ Ended s₂ below o ∧ ∃ v L, o = .returned v ∧ Q v s₂.heap L ∧ CHr Z EL s.vm s.heap s₂.vm s₂.heap ∧ ReturnedEndW s o s₂ L rm.cells rm.slots
section OwnW
variable {p : Program} {l : Launch} {e : Env} {R rm : Room} {s : State} {m : MethodId} {args : Array Value} {below : List Frame} {meth : Method} {c : Code} {T : State} {locs : List Loc} {cells slots : Nat} {Z : State} {a0 : Array Value} {h : Heap} {Q : Option Value → Heap → List Loc → Prop} {EL : List (String × Nat)} {vm0 : Vm}
theorem WinW.to {A : State} (T : State) (g : JFrame) (k : ∀ t, Steps p.tables e below (T.setTop g) t → Steps p.tables e below A t) (w : WinW p e below s rm Z EL Q (T.setTop g)) : WinW p e below s rm Z EL Q A := by
  obtain ⟨s₂, o, h1, r⟩ := w
  exact ⟨s₂, o, k _ h1, r⟩
theorem WinW.out (X : Stand p l e R (s.setVm vm0) m args below meth c T locs cells slots) {n : Nat} (hS : s.Since vm0 n) (hn : n ≤ T.heap.size) {A : State} {v : Option Value} (hlk : meth.locks = false) (hv : meth.sig.returnType = none → v = none)
    (hst : ∀ fs, (∀ (f : JFrame) (acts : List Action), f.method = m → f.locked = none → f.entered = [] → (doReturn e (T.setTop f) acts v).1 = T.setFrames fs) → Steps p.tables e below A (T.setFrames fs))
    (hZ : Z.Warmed39 (s.setVm vm0).vm) (hE : EW Z a0 EL) (hC : CHr Z EL s.vm s.heap vm0 T.heap) (hc : cells ≤ rm.cells) (hs : slots ≤ rm.slots) (hq : Q v T.heap locs) : WinW p e below s rm Z EL Q A := by
  obtain ⟨fs, hr, hrun, hended, h1, h2, h3, h4⟩ := X.leaveW hS hn (v := v) hv
  exact ⟨_, _, hst fs hr, hrun, hended, _, _, rfl, hq, (show CHr Z EL s.vm s.heap T.vm T.heap from hC.trans (CHv.at X hZ hE hC.1)), h1, h2, h3, h4.mono hc hs⟩
theorem WinW.retN (X : Stand p l e R (s.setVm vm0) m args below meth c T locs cells slots) {n : Nat} (hS : s.Since vm0 n) (hn : n ≤ T.heap.size) (hx : p.tables.exec = Jvm.exec) (hlk : meth.locks = false) {pc : Nat} {Ls : Array Slot} {z z' : Int32} {t : FieldType} {rest : List Value} (hret : meth.sig.returnType = some t) (ht : t = .boolean ∨ t = .byte ∨ t = .char ∨ t = .short) (hz : nar t z = z')
    (hd : decode c.code pc = .ok (.ireturn, 1)) (hZ : Z.Warmed39 (s.setVm vm0).vm) (hE : EW Z a0 EL) (hC : CHr Z EL s.vm s.heap vm0 T.heap) (hc : cells ≤ rm.cells) (hs : slots ≤ rm.slots) (hq : Q (some (.int z')) T.heap locs) : WinW p e below s rm Z EL Q (T.setTop (mkF m pc Ls (.int z :: rest))) := by
  subst hz
  exact WinW.out X hS hn (v := some (.int (nar t z))) hlk (fun q => by rw [hret] at q; cases q) (fun fs hr => Jvm.RoadKit.retN X hx (t := t) hret ht hd hr) hZ hE hC hc hs hq
theorem WinW.retI (X : Stand p l e R (s.setVm vm0) m args below meth c T locs cells slots) {n : Nat} (hS : s.Since vm0 n) (hn : n ≤ T.heap.size) (hx : p.tables.exec = Jvm.exec) (hlk : meth.locks = false) {pc : Nat} {Ls : Array Slot} {z : Int32} {rest : List Value} (hret : meth.sig.returnType = some .int)
    (hd : decode c.code pc = .ok (.ireturn, 1)) (hZ : Z.Warmed39 (s.setVm vm0).vm) (hE : EW Z a0 EL) (hC : CHr Z EL s.vm s.heap vm0 T.heap) (hc : cells ≤ rm.cells) (hs : slots ≤ rm.slots) (hq : Q (some (.int z)) T.heap locs) : WinW p e below s rm Z EL Q (T.setTop (mkF m pc Ls (.int z :: rest))) :=
  WinW.out X hS hn (v := some (.int z)) hlk (fun q => by rw [hret] at q; cases q) (fun fs hr => retOut X hx hret rfl (Or.inl ⟨rfl, Or.inl rfl, z, rfl⟩) hd hr) hZ hE hC hc hs hq
theorem WinW.retA (X : Stand p l e R (s.setVm vm0) m args below meth c T locs cells slots) {n : Nat} (hS : s.Since vm0 n) (hn : n ≤ T.heap.size) (hx : p.tables.exec = Jvm.exec) (hlk : meth.locks = false) {pc : Nat} {Ls : Array Slot} {w : Value} {t : FieldType} {rest : List Value} (hret : meth.sig.returnType = some t) (ht : t.isReference = true) (hw : w.isRef = true)
    (hd : decode c.code pc = .ok (.areturn, 1)) (hZ : Z.Warmed39 (s.setVm vm0).vm) (hE : EW Z a0 EL) (hC : CHr Z EL s.vm s.heap vm0 T.heap) (hc : cells ≤ rm.cells) (hs : slots ≤ rm.slots) (hq : Q (some w) T.heap locs) : WinW p e below s rm Z EL Q (T.setTop (mkF m pc Ls (w :: rest))) :=
  WinW.out X hS hn (v := some w) hlk (fun q => by rw [hret] at q; cases q) (fun fs hr => retOut X hx hret (by rcases ref_cases hw with rfl | ⟨_, rfl⟩ <;> cases t <;> first | rfl | cases ht) (Or.inr (Or.inr (Or.inr (Or.inr ⟨rfl, ht, hw⟩)))) hd hr) hZ hE hC hc hs hq
theorem WinW.retV (X : Stand p l e R (s.setVm vm0) m args below meth c T locs cells slots) {n : Nat} (hS : s.Since vm0 n) (hn : n ≤ T.heap.size) (hx : p.tables.exec = Jvm.exec) (hlk : meth.locks = false) {pc : Nat} {Ls : Array Slot} (hret : meth.sig.returnType = none)
    (hd : decode c.code pc = .ok (.return_, 1)) (hZ : Z.Warmed39 (s.setVm vm0).vm) (hE : EW Z a0 EL) (hC : CHr Z EL s.vm s.heap vm0 T.heap) (hc : cells ≤ rm.cells) (hs : slots ≤ rm.slots) (hq : Q none T.heap locs) : WinW p e below s rm Z EL Q (T.setTop (mkF m pc Ls [])) :=
  WinW.out X hS hn (v := none) hlk (fun _ => rfl) (fun fs hr => X.returnOut hx hret hd hr) hZ hE hC hc hs hq
theorem MetW.walk {y : MethodName} {bytes : ByteArray} {maxL : Nat} {ret : Option FieldType} {ws : List Jvm.Cond} {as' : Array Value} (hp : plainFor y = true)
    (b : ∀ (p : Program) (e : Env) (s : State) (m : MethodId) (below : List Frame) (meth : Method) (c : Code) (s₁ : State), p.tables.exec = Jvm.exec → Z.Warmed39 (s.setVm s.vm).vm → c.code = bytes → c.maxLocals = maxL → (s.setVm s.vm).vm.findClass y.cls = some m.cls → meth.name = y.name → meth.sig.returnType = ret → meth.locks = false → CHr Z EL s.vm s.heap s.vm h → s.Since s.vm 0 →
      Stand p l e rm (s.setVm s.vm) m as' below meth c s₁ [] 0 0 → s₁.heap = h → WinW p e below s rm Z EL Q (s₁.setTop (entryFrame m as' maxL))) : MetW l Z y bytes maxL ret rm ws as' h EL Q := by
  refine MetFree.of_bodySF hp hisR ?_
  intro p e s m args below meth c s₁ Bd hml0 hP hK
  obtain ⟨rfl, hZ, hh, hV⟩ := hP
  exact b p e s m below meth c s₁ Bd.exec hZ Bd.bytes hml0 (findClass_of_methodNamed Bd.named) (name_of_methodNamed Bd.named Bd.method).1 Bd.returns Bd.notSynchronized (hh ▸ CHr.refl (hh ▸ hV)) ((State.WarmedH.refl s).since 0) (Stand.of_body Bd) (by rw [← hh, Bd.state]; rfl)
theorem W.static (X : Stand p l e R (s.setVm vm0) m args below meth c T locs cells slots) {k0 : Nat} (hS : s.Since vm0 k0) (hk : k0 ≤ h.size) (hx : p.tables.exec = Jvm.exec) (hZ : Z.Warmed39 (s.setVm vm0).vm) {own : String} {index : Nat} {y : MethodName} {bytes : ByteArray} {maxL : Nat} {ret : Option FieldType} {as' : Array Value}
    (hown : (s.setVm vm0).vm.findClass own = some m.cls) (w1 : (Jvm.Cond.methodLink own index y).before a0 Z = true) (w2 : (Jvm.Cond.static y).before a0 Z = true) (w3 : (Jvm.Cond.initialized y.cls).before a0 Z = true) (w4 : (Jvm.Cond.code y bytes maxL ret).before a0 Z = true)
    (hy : y.cls ≠ "java/lang/invoke/MethodHandle" ∧ y.cls ≠ "java/lang/invoke/VarHandle") (M : MetW l Z y bytes maxL ret rm [] as' h EL Q) (hE : EW Z a0 EL) (hC : CHv Z EL vm0 h) (eT : T.heap = h) {g : JFrame} (hg : g.method = m) (hsize : g.locals.size = c.maxLocals) {argsL rest : List Value} (has : argsL.toArray = as')
    (hlen : ∀ sig, parseMethodDescriptor y.desc = some sig → argsL.length = sig.parameters.length) (hstack : g.stack = argsL.reverse ++ rest) {W : Nat} (hW : 2 * g.monitorRoom + (rest.map fun v => v.category).sum ≤ W) (hd : decode c.code g.pc = .ok (.invokestatic index, 3))
    (hf : rm.frames + 1 ≤ R.frames) (hl : W + (maxL + 11) + rm.locals ≤ R.locals) (hc : cells + rm.cells ≤ R.cells) (hs : slots + rm.slots ≤ R.slots) :
    ∃ (T' : State) (h' : Heap) (v : Option Value) (L : List Loc) (k1 : Nat), Stand p l e R (s.setVm T'.vm) m args below meth c T' (locs ++ L) (cells + rm.cells) (slots + rm.slots) ∧ T'.heap = h' ∧ s.Since T'.vm k1 ∧ k1 ≤ h'.size ∧ Z.Warmed39 (s.setVm T'.vm).vm ∧ (s.setVm T'.vm).vm.findClass own = some m.cls ∧ Q v h' L ∧ CHr Z EL vm0 h T'.vm h' ∧
      ∀ t, Steps p.tables e below (T'.setTop { g with pc := g.pc + 3, stack := v.toList ++ rest }) t → Steps p.tables e below (T.setTop g) t := by
  obtain ⟨v, _, ⟨T', L', k', n'⟩, -, X', hS', hgr, ⟨Lc, hQ, l', y', z', hC2⟩, st⟩ := callSS X hx hown (mvT hZ w1) (mvT hZ w2) (mvT hZ w3) (mvT hZ w4) hy (backOfSH (W := W) M hZ w4 w3 hf hl hE hC) hg hsize hlen hstack hW hd (fun _ _ => ⟨has, eT, hc, hs⟩)
  dsimp only [Pt.U, Pt.locs, Pt.cells, Pt.slots] at X' l' y' z' st hQ hS' hgr hC2
  subst l' y' z'
  obtain ⟨X2, hS2, hZ2, hown2⟩ := rebS hS hk X' hS' (by rw [← eT]; exact hgr) hZ hown
  exact ⟨T', _, v, Lc, _, X2, rfl, hS2, Nat.le_refl _, hZ2, hown2, hQ, hC2, fun t k => st.trans k⟩
theorem W.special (X : Stand p l e R (s.setVm vm0) m args below meth c T locs cells slots) {k0 : Nat} (hS : s.Since vm0 k0) (hk : k0 ≤ h.size) (hx : p.tables.exec = Jvm.exec) (hZ : Z.Warmed39 (s.setVm vm0).vm) {own : String} {index : Nat} {y : MethodName} {bytes : ByteArray} {maxL : Nat} {as' : Array Value} (hy1 : y.name = "<init>")
    (hown : (s.setVm vm0).vm.findClass own = some m.cls) (w1 : (Jvm.Cond.methodLink own index y).before a0 Z = true) (w2 : (Jvm.Cond.instanceMethod y).before a0 Z = true) (w3 : (Jvm.Cond.initialized y.cls).before a0 Z = true) (w4 : (Jvm.Cond.code y bytes maxL none).before a0 Z = true)
    (hy : y.cls ≠ "java/lang/invoke/MethodHandle" ∧ y.cls ≠ "java/lang/invoke/VarHandle") (M : MetW l Z y bytes maxL none rm [] as' h EL Q) (hE : EW Z a0 EL) (hC : CHv Z EL vm0 h) (eT : T.heap = h) {g : JFrame} (hg : g.method = m) (hsize : g.locals.size = c.maxLocals) {a : Addr} {argsL rest : List Value} (has : (Value.ref a :: argsL).toArray = as')
    (hlen : ∀ sig, parseMethodDescriptor y.desc = some sig → argsL.length = sig.parameters.length) (hstack : g.stack = argsL.reverse ++ .ref a :: rest) {W : Nat} (hW : 2 * g.monitorRoom + (rest.map fun v => v.category).sum ≤ W) (hd : decode c.code g.pc = .ok (.invokespecial index, 3))
    (hf : rm.frames + 1 ≤ R.frames) (hl : W + (maxL + 11) + rm.locals ≤ R.locals) (hc : cells + rm.cells ≤ R.cells) (hs : slots + rm.slots ≤ R.slots) :
    ∃ (T' : State) (h' : Heap) (v : Option Value) (L : List Loc) (k1 : Nat), Stand p l e R (s.setVm T'.vm) m args below meth c T' (locs ++ L) (cells + rm.cells) (slots + rm.slots) ∧ T'.heap = h' ∧ s.Since T'.vm k1 ∧ k1 ≤ h'.size ∧ Z.Warmed39 (s.setVm T'.vm).vm ∧ (s.setVm T'.vm).vm.findClass own = some m.cls ∧ Q v h' L ∧ CHr Z EL vm0 h T'.vm h' ∧
      ∀ t, Steps p.tables e below (T'.setTop { g with pc := g.pc + 3, stack := v.toList ++ rest }) t → Steps p.tables e below (T.setTop g) t := by
  obtain ⟨v, _, ⟨T', L', k', n'⟩, -, X', hS', hgr, ⟨Lc, hQ, l', y', z', hC2⟩, st⟩ := X.specialBackS hx hy1 hown (mvT hZ w1) (mvT hZ w2) (mvT hZ w4) hy (backOfSH (W := W) M hZ w4 w3 hf hl hE hC) hg hsize (Steps.refl _) (a := a) hlen hstack hW hd (fun _ _ => ⟨has, eT, hc, hs⟩)
  dsimp only [Pt.U, Pt.locs, Pt.cells, Pt.slots] at X' l' y' z' st hQ hS' hgr hC2
  subst l' y' z'
  obtain ⟨X2, hS2, hZ2, hown2⟩ := rebS hS hk X' hS' (by rw [← eT]; exact hgr) hZ hown
  exact ⟨T', _, v, Lc, _, X2, rfl, hS2, Nat.le_refl _, hZ2, hown2, hQ, hC2, fun t k => st.trans k⟩
theorem W.virtual (X : Stand p l e R (s.setVm vm0) m args below meth c T locs cells slots) {k0 : Nat} (hS : s.Since vm0 k0) (hk : k0 ≤ h.size) (hx : p.tables.exec = Jvm.exec) (hZ : Z.Warmed39 (s.setVm vm0).vm) {own C : String} {index : Nat} {y z : MethodName} {bytes : ByteArray} {maxL : Nat} {ret : Option FieldType} {as' : Array Value}
    (hown : (s.setVm vm0).vm.findClass own = some m.cls) (w1 : (Jvm.Cond.methodLink own index y).before a0 Z = true) (w5 : (Jvm.Cond.declares y).before a0 Z = true) (nf : NotFace (s.setVm vm0) y) (w6 : (Jvm.Cond.selects C y z).before a0 Z = true) (w2 : (Jvm.Cond.instanceMethod z).before a0 Z = true) (w3 : (Jvm.Cond.initialized z.cls).before a0 Z = true) (w4 : (Jvm.Cond.code z bytes maxL ret).before a0 Z = true)
    (hy : y.cls ≠ "java/lang/invoke/MethodHandle" ∧ y.cls ≠ "java/lang/invoke/VarHandle") (M : MetW l Z z bytes maxL ret rm [] as' h EL Q) (hE : EW Z a0 EL) (hC : CHv Z EL vm0 h) (eT : T.heap = h) {a : Addr} (E : Exa Z h a C) {g : JFrame} (hg : g.method = m) (hsize : g.locals.size = c.maxLocals) {argsL rest : List Value} (has : (Value.ref a :: argsL).toArray = as')
    (hlen : ∀ sig, parseMethodDescriptor y.desc = some sig → argsL.length = sig.parameters.length) (hstack : g.stack = argsL.reverse ++ .ref a :: rest) {W : Nat} (hW : 2 * g.monitorRoom + (rest.map fun v => v.category).sum ≤ W) (hd : decode c.code g.pc = .ok (.invokevirtual index, 3))
    (hf : rm.frames + 1 ≤ R.frames) (hl : W + (maxL + 11) + rm.locals ≤ R.locals) (hc : cells + rm.cells ≤ R.cells) (hs : slots + rm.slots ≤ R.slots) :
    ∃ (T' : State) (h' : Heap) (v : Option Value) (L : List Loc) (k1 : Nat), Stand p l e R (s.setVm T'.vm) m args below meth c T' (locs ++ L) (cells + rm.cells) (slots + rm.slots) ∧ T'.heap = h' ∧ s.Since T'.vm k1 ∧ k1 ≤ h'.size ∧ Z.Warmed39 (s.setVm T'.vm).vm ∧ (s.setVm T'.vm).vm.findClass own = some m.cls ∧ Q v h' L ∧ CHr Z EL vm0 h T'.vm h' ∧
      ∀ t, Steps p.tables e below (T'.setTop { g with pc := g.pc + 3, stack := v.toList ++ rest }) t → Steps p.tables e below (T.setTop g) t := by
  obtain ⟨cq, kq, qa, qb, qc⟩ := isOf hZ eT E
  obtain ⟨v, _, ⟨T', L', k', n'⟩, -, X', hS', hgr, ⟨Lc, hQ, l', y', z', hC2⟩, st⟩ := X.virtualBackS hx (y := y) (z := z) hown (mvT hZ w1) (mvT hZ w5) nf (mvT hZ w6) (mvT hZ w2) hy (backOfSH (W := W) M hZ w4 w3 hf hl hE hC) qa qc hg hsize (Steps.refl _) (argsL := argsL) hlen hstack hW hd (fun _ _ => ⟨has, eT, hc, hs⟩)
  dsimp only [Pt.U, Pt.locs, Pt.cells, Pt.slots] at X' l' y' z' st hQ hS' hgr hC2
  subst l' y' z'
  obtain ⟨X2, hS2, hZ2, hown2⟩ := rebS hS hk X' hS' (by rw [← eT]; exact hgr) hZ hown
  exact ⟨T', _, v, Lc, _, X2, rfl, hS2, Nat.le_refl _, hZ2, hown2, hQ, hC2, fun t k => st.trans k⟩
theorem own_safe {x : Addr} {n : Nat} {vm : Vm} (hal : Z.vm.Alike vm) (E : Exa Z h x "java/lang/String") (F : Fld Z h x "java/lang/String" "value" "[B" .null) (wi : (Jvm.Cond.instantiable "java/lang/String" n).before a0 Z = true) : Safe Z EL vm h x := fun B => by
  obtain ⟨cell, cf, k, i, f, f1, f2, f3, f4, f5, f6, f7⟩ := F
  obtain ⟨p, -, u, a, -, q, -, ⟨cS, ⟨⟨s1, s2, s3, ⟨cv, kv, iv, s4, s4'⟩, -, s6, s7, s8, s9, s10, s11, s12, s13, s14, s15, s16⟩, hfS, hcS⟩, -, hB, -⟩, hy⟩ := B
  rcases hy with rfl | rfl
  · obtain ⟨kv', z4⟩ := ff_back (U := Wst Z vm h) hal s4
    cases f1.symm.trans s1
    cases f2.symm.trans z4
    cases f7.symm.trans s8
  · have A : Arr Z h q.sd q.SA .byte := by
      have hB : vm.findClass "[B" = some q.SA.cls := hB
      have hBZ : Z.vm.findClass "[B" = some q.SA.cls := by rw [← hal.findClass]; exact hB
      obtain ⟨kb, hkb, -⟩ := Vm.findClass_spec hBZ
      obtain ⟨kb', hkb', ekb⟩ := hal.2.2 _ _ hkb
      obtain ⟨hst, k9, hk9, comp, hkind9⟩ := s11
      have hk9 : vm.classes[q.SA.cls]? = some k9 := hk9
      have ek9 : k9 = kb' := Option.some.inj (hk9.symm.trans hkb')
      exact ⟨s10, ⟨hst, kb, hkb, comp, by rw [ek9, ekb] at hkind9; exact hkind9⟩, s12⟩
    exact ne_arr E wi A rfl
end OwnW
/-! arrays of ints as functions -/
def upd (f : Nat → Int32) (i : Nat) (v : Int32) : Nat → Int32 := fun x => if x = i then v else f x
def ArF (Z : State) (h : Heap) (a : Addr) (k : ClassId) (ty : FieldType) (n : Nat) (f : Nat → Int32) : Prop := ∃ c : Cell, Arr Z h a c ty ∧ c.cls = k ∧ c.slots.size = n ∧ n < 2 ^ 31 ∧ (∀ i, i < n → c.slots[i]? = some (.int (f i))) ∧ ∀ i, i < n → fits ty (.int (f i)) = true
section OwnS
variable {Z : State} {h h' : Heap} {a b : Addr} {k : ClassId} {ty : FieldType} {n : Nat} {f : Nat → Int32} {sl : Nat} {v : Value} {ws : List Addr}
theorem ArF.lt (F : ArF Z h a k ty n f) : a < h.size := by obtain ⟨c, A, -⟩ := F; exact A.lt
theorem ArF.ext (F : ArF Z h a k ty n f) (E : Ext h h') : ArF Z h' a k ty n f := by obtain ⟨c, A, r⟩ := F; exact ⟨c, A.ext E, r⟩
theorem ArF.other (F : ArF Z h b k ty n f) (W : Wr h h' a sl v) (q : b ≠ a) : ArF Z h' b k ty n f := by obtain ⟨c, A, r⟩ := F; exact ⟨c, A.other W q, r⟩
theorem ArF.keep (F : ArF Z h a k ty n f) (K : Keep h h' ws) (q : a ∉ ws) : ArF Z h' a k ty n f := by obtain ⟨c, A, r⟩ := F; exact ⟨c, ⟨K.2.1 a c A.1 q, A.2⟩, r⟩
theorem ArF.big (F : ArF Z h a k ty n f) : n < 2 ^ 31 := by obtain ⟨c, -, -, -, q, -, -⟩ := F; exact q
theorem ArF.cong (F : ArF Z h a k ty n f) {g : Nat → Int32} (q : ∀ i, i < n → f i = g i) : ArF Z h a k ty n g := by
  obtain ⟨c, A, r1, r2, r3, r4, r5⟩ := F
  exact ⟨c, A, r1, r2, r3, fun i hi => by rw [← q i hi]; exact r4 i hi, fun i hi => by rw [← q i hi]; exact r5 i hi⟩
theorem ArF.at (F : ArF Z h a k ty n f) {j : Int32} {i : Nat} (hj : j.toNatClampNeg = i) (h0 : ¬ j < 0) (hi : i < n) : ∃ cl : Cell, Arr Z h a cl ty ∧ ¬ (j < 0 ∨ cl.slots.size ≤ j.toNatClampNeg) ∧ cl.slots[j.toNatClampNeg]? = some (.int (f i)) := by
  obtain ⟨c, A, -, r2, -, r4, -⟩ := F
  refine ⟨c, A, ?_, ?_⟩
  · rintro (q | q)
    · exact h0 q
    · omega
  · rw [hj]; exact r4 i hi
theorem ArF.len (F : ArF Z h a k ty n f) : ∃ cl : Cell, Arr Z h a cl ty ∧ cl.slots.size.toInt32 = n.toInt32 := by
  obtain ⟨c, A, -, r2, -, -, -⟩ := F
  exact ⟨c, A, by rw [r2]⟩
theorem ArF.set {i : Nat} {x : Int32} (F : ArF Z h a k ty n f) (W : Wr h h' a sl (.int x)) (hs : sl = i) (hi : i < n) (hf : fits ty (.int x) = true) : ArF Z h' a k ty n (upd f i x) := by
  subst hs
  obtain ⟨c, A, r1, r2, r3, r4, r5⟩ := F
  obtain ⟨c', e1, e2, e3, e4, -, e6, e7⟩ := wr_at W A.1
  have A' := A.same W
  obtain ⟨q1, q2, -⟩ := e7 rfl
  subst q1
  refine ⟨_, A', by rw [e2]; exact r1, by rw [e4]; exact r2, r3, fun j hj => ?_, fun j hj => ?_⟩
  · by_cases q : j = sl
    · subst q; simp only [upd, if_pos]; exact q2
    · rw [e6 j q]; simp only [upd, if_neg q]; exact r4 j hj
  · by_cases q : j = sl
    · subst q; simp only [upd, if_pos]; exact hf
    · simp only [upd, if_neg q]; exact r5 j hj
theorem ArF.new {z : Int32} (A : Arr Z h a (newA k ty z) ty) (q : ¬ z < 0) (hd : defaultValue ty = .int 0) : ArF Z h a k ty z.toNatClampNeg (fun _ => 0) :=
  ⟨_, A, rfl, sz_new _ _ _, (back32 q).2, fun i hi => by simp [newA, hi, hd], fun i hi => by cases ty <;> simp [defaultValue] at hd <;> rfl⟩
theorem own_arfL {z : Int32} {vs : List Value} {dv : Value} (F : Arv Z h a k ty z vs dv) (hn : z.toNatClampNeg = n) (hv : ∀ i, i < n → vs.getD i dv = .int (f i)) : ArF Z h a k ty n f := by
  obtain ⟨c, A, r1, r2, r3, H, G⟩ := F
  refine ⟨c, A, r1, by rw [r2, hn], hn ▸ (back32 r3).2, fun i hi => ?_, fun i hi => ?_⟩
  · rw [H i (by rw [r2, hn]; exact hi), hv i hi]
  · rw [← hv i hi]; exact G i (by rw [r2, hn]; exact hi)
theorem own_arf {z : Int32} {d : Int32} (cs : List Int32) (F : Arv Z h a k ty z (cs.map Value.int) (.int d)) (hn : z.toNatClampNeg = n) : ArF Z h a k ty n (fun i => cs.getD i d) :=
  own_arfL F hn fun i _ => by
    simp only [List.getD_eq_getElem?_getD, List.getElem?_map]
    cases cs[i]? <;> rfl
theorem own_arv (F : ArF Z h a k ty n f) : Arv Z h a k ty n.toInt32 ((List.range n).map fun i => Value.int (f i)) (.int 0) := by
  obtain ⟨c, A, r1, r2, r3, r4, r5⟩ := F
  have q := len_toInt r3
  have e : n.toInt32.toNatClampNeg = n := by show n.toInt32.toInt.toNat = n; rw [q]; rfl
  have g : ∀ i, i < n → ((List.range n).map fun i => Value.int (f i)).getD i (.int 0) = .int (f i) := fun i hi => by simp [hi]
  refine ⟨c, A, r1, by rw [r2, e], ?_, fun i hi => ?_, fun i hi => ?_⟩
  · rw [Int32.lt_iff_toInt_lt, q]
    have : (0 : Int32).toInt = 0 := rfl
    omega
  · rw [g i (by omega)]; exact r4 i (by omega)
  · rw [g i (by omega)]; exact r5 i (by omega)
theorem own_neF {C : String} {m : Nat} {a0 : Array Value} (E : Exa Z h a C) (F : ArF Z h b k ty n f) (w : (Jvm.Cond.instantiable C m).before a0 Z = true) : a ≠ b := by
  obtain ⟨c, A, -⟩ := F
  exact ne_arr E w A
theorem own_tn {j : Nat} (hj : j < 2 ^ 31) : j.toInt32.toNatClampNeg = j ∧ ¬ j.toInt32 < 0 ∧ j.toInt32.toInt = j := by
  have q := len_toInt hj
  refine ⟨?_, ?_, q⟩
  · show j.toInt32.toInt.toNat = j
    rw [q]; rfl
  · rw [Int32.lt_iff_toInt_lt, q]
    have : (0 : Int32).toInt = 0 := rfl
    omega
theorem own_lt {j n : Nat} (hj : j < 2 ^ 31) (hn : n < 2 ^ 31) : j.toInt32 < n.toInt32 ↔ j < n := by
  rw [Int32.lt_iff_toInt_lt, len_toInt hj, len_toInt hn]; omega
theorem own_succ (j : Nat) : j.toInt32 + (1 : Int32) = (j + 1).toInt32 := (Int32.ofNat_add j 1).symm
end OwnS
def EL1 : List (String × Nat) := [("java/lang/String", 7)]
theorem own_wS {Z : State} {a0 : Array Value} (hw : ∀ d ∈ tables_1, d.before a0 Z = true) : ∀ a ∈ Bundle.stringAtoms, a.before a0 Z = true := by
  intro a ha
  simp only [Bundle.stringAtoms, List.mem_cons, List.not_mem_nil, or_false] at ha
  rcases ha with rfl | rfl | rfl | rfl | rfl | rfl | rfl
  · exact (wk hw 31 rfl)
  · exact (wk hw 30 rfl)
  · exact (wk hw 42 rfl)
  · exact (wk hw 43 rfl)
  · exact (wk hw 44 rfl)
  · exact (wk hw 45 rfl)
  · exact (wk hw 46 rfl)
theorem own_EW {Z : State} {a0 : Array Value} (hw : ∀ d ∈ tables_1, d.before a0 Z = true) : EW Z a0 EL1 := (EW.cons (wk hw 41 rfl) (by decide) EW.nil)
theorem own_b8 (x : Int32) : nar .byte x.toInt8.toInt32 = x.toInt8.toInt32 := by
  show x.toInt8.toInt32.toInt8.toInt32 = x.toInt8.toInt32
  rw [Int8.toInt8_toInt32]
theorem own_nz {n : Nat} (hn : n < 2 ^ 31) (hp : 0 < n) : ¬ (n.toInt32 = (0 : Int32)) := fun q => by
  have e := congrArg Int32.toInt q
  rw [len_toInt hn] at e
  have : (0 : Int32).toInt = 0 := rfl
  omega
theorem own_zero {n : Nat} (hn : n < 2 ^ 31) (q : n.toInt32 = (0 : Int32)) : n = 0 := by
  have e := congrArg Int32.toInt q
  rw [len_toInt hn] at e
  have : (0 : Int32).toInt = 0 := rfl
  omega
theorem own_inj {n m : Nat} (hn : n < 2 ^ 31) (hm : m < 2 ^ 31) (q : n.toInt32 = m.toInt32) : n = m := by
  have e := congrArg Int32.toInt q
  rw [len_toInt hn, len_toInt hm] at e
  omega
theorem own_same {Z : State} {h : Heap} {a1 a2 t1 t2 : Addr} {k1 k2 : ClassId} {ty : FieldType} {n1 n2 : Nat} {f1 f2 : Nat → Int32} {C n d : String} (q : a1 = a2) (F : Fld Z h a1 C n d (.ref t1)) (G : Fld Z h a2 C n d (.ref t2)) (A : ArF Z h t1 k1 ty n1 f1) (B : ArF Z h t2 k2 ty n2 f2) : n1 = n2 ∧ ∀ i, i < n1 → f1 i = f2 i := by
  subst q
  obtain ⟨c1, cf, kk, j, fd, g1, g2, -, -, -, -, g7⟩ := F
  obtain ⟨c2, cf', kk', j', fd', e1, e2, -, -, -, -, e7⟩ := G
  cases g1.symm.trans e1
  cases g2.symm.trans e2
  cases g7.symm.trans e7
  obtain ⟨c3, A1, -, r2, -, r4, -⟩ := A
  obtain ⟨c4, B1, -, s2, -, s4, -⟩ := B
  cases A1.1.symm.trans B1.1
  have hn : n1 = n2 := r2.symm.trans s2
  exact ⟨hn, fun i hi => Value.int.inj (Option.some.inj ((r4 i hi).symm.trans (s4 i (hn ▸ hi))))⟩
theorem own_shr0 (x : Int32) : (x >>> ((0 : Int32) &&& 31)) = x := by
  rw [show ((0 : Int32) &&& 31) = 0 from rfl]
  exact Int32.shiftRight_zero
theorem own_sub {b e : Nat} (hb : b < 2 ^ 31) (he : e < 2 ^ 31) (q : b ≤ e) : e.toInt32 - b.toInt32 = (e - b).toInt32 := by
  apply Int32.toInt_inj.mp
  have a := c_isub e.toInt32 b.toInt32
  have r := rng32 (e.toInt32 - b.toInt32)
  rw [len_toInt hb, len_toInt he] at a
  rw [len_toInt (show e - b < 2 ^ 31 by omega)]
  omega
theorem own_add {b m : Nat} (q : b + m < 2 ^ 31) : b.toInt32 + m.toInt32 = (b + m).toInt32 := (Int32.ofNat_add b m).symm
theorem own_min {a m : Nat} (ha : a < 2 ^ 31) (hm : m < 2 ^ 31) (q : m ≤ a) (h : ¬ m.toInt32 < a.toInt32) : m.toInt32 = a.toInt32 := by
  rw [show m = a from Nat.le_antisymm q (Nat.le_of_not_lt fun z => h ((own_lt hm ha).mpr z))]
theorem own_cp {b m n i : Nat} {f : Nat → Int32} (hi : i < m) (hb : b + m ≤ n) :
    ((((List.range m).map fun i => Value.int ((fun _ => (0 : Int32)) i)).take (0 : Int32).toNatClampNeg) ++ ((List.range m).map fun i => ((List.range n).map fun i => Value.int (f i)).getD (b + i) (.int 0)) ++ (((List.range m).map fun i => Value.int ((fun _ => (0 : Int32)) i)).drop ((0 : Int32).toNatClampNeg + m))).getD i (.int 0) = .int (f (b + i)) := by
  have z : (0 : Int32).toNatClampNeg = 0 := rfl
  rw [z, List.take_zero, List.nil_append, List.getD_eq_getElem?_getD, List.getElem?_append_left (by simpa using hi)]
  simp [hi, show b + i < n by omega]
theorem own_pre {j : Nat} (hj : j < 2 ^ 31) (hp : 0 < j) : (j.toInt32 - (1 : Int32)).toNatClampNeg = j - 1 ∧ ¬ (j.toInt32 - (1 : Int32)) < (0 : Int32) ∧ True := by
  have a := own_sub (b := 1) (by omega) hj hp
  have b : ((1 : Nat).toInt32) = (1 : Int32) := rfl
  rw [b] at a
  rw [a]
  have c := own_tn (j := j - 1) (by omega)
  exact ⟨c.1, c.2.1, trivial⟩
theorem own_dec (i : Nat) : ((i + 1).toInt32 - (1 : Int32)) + (-1 : Int32) = i.toInt32 - (1 : Int32) := by
  rw [← own_succ i, Int32.add_sub_cancel, Int32.sub_eq_add_neg]
theorem own_255 (x : Int32) : ¬ (255 : Int32) < (x &&& (255 : Int32)) := by
  have h := (c_and x (255 : Int32) (by decide)).2
  rw [Int32.lt_iff_toInt_lt]
  omega
theorem own_rng {q : Int32} (h : ¬ (255 : Int32) < q) (hc : nar .char q = q) : 0 ≤ q.toInt ∧ q.toInt ≤ 255 := by
  have b := c_i2c q
  have e : q.toUInt32.toUInt16.toUInt32.toInt32 = q := hc
  rw [e] at b
  rw [Int32.lt_iff_toInt_lt] at h
  have e1 : (255 : Int32).toInt = 255 := by decide
  omega
theorem own_sp2 {q : Int32} (h : ¬ (255 : Int32) < q) (hc : nar .char q = q) (hn : ¬ q = (32 : Int32)) : ¬ q.toInt8.toInt32 = (32 : Int32) := fun z => hn (by
  have a := own_rng h hc
  have b := c_i2b q
  rw [z] at b
  have e2 : (32 : Int32).toInt = 32 := by decide
  apply Int32.toInt_inj.mp
  omega)
theorem own_b255 {q : Int32} (h : ¬ (255 : Int32) < q) (hc : nar .char q = q) : (q.toInt8.toInt32 &&& (255 : Int32)) = q := by
  have a := own_rng h hc
  have b := c_i2b q
  have m : (q.toInt8.toInt32 &&& (255 : Int32)).toInt = q.toInt8.toInt32.toInt % (2 ^ 8 : Nat) := c_mask q.toInt8.toInt32 (255 : Int32) 8 (by decide) (by decide)
  have e : ((2 ^ 8 : Nat) : Int) = 256 := by decide
  apply Int32.toInt_inj.mp
  rw [m, e]
  omega
theorem pn_9 : plainName "java/lang/StringUTF16" = true := by first | (simp [plainName, overriddenIn]; done) | decide +kernel
theorem d9_0 : decode jdk_52_method_21_code 0 = .ok (.iconst 0, 1) := by decide +kernel
theorem d9_1 : decode jdk_52_method_21_code 1 = .ok (.istore 5, 2) := by decide +kernel
theorem d9_3 : decode jdk_52_method_21_code 3 = .ok (.iload 5, 2) := by decide +kernel
theorem d9_5 : decode jdk_52_method_21_code 5 = .ok (.iload 4, 2) := by decide +kernel
theorem d9_7 : decode jdk_52_method_21_code 7 = .ok (.if_icmp .ge 37, 3) := by decide +kernel
theorem d9_44 : decode jdk_52_method_21_code 44 = .ok (.iload 4, 2) := by decide +kernel
theorem d9_46 : decode jdk_52_method_21_code 46 = .ok (.ireturn, 1) := by decide +kernel
theorem d9_10 : decode jdk_52_method_21_code 10 = .ok (.aload_n 0, 1) := by decide +kernel
theorem d9_11 : decode jdk_52_method_21_code 11 = .ok (.iload_n 1, 1) := by decide +kernel
theorem d9_12 : decode jdk_52_method_21_code 12 = .ok (.caload, 1) := by decide +kernel
theorem d9_13 : decode jdk_52_method_21_code 13 = .ok (.istore 6, 2) := by decide +kernel
theorem d9_15 : decode jdk_52_method_21_code 15 = .ok (.iload 6, 2) := by decide +kernel
theorem d9_17 : decode jdk_52_method_21_code 17 = .ok (.sipush 255, 3) := by decide +kernel
theorem d9_20 : decode jdk_52_method_21_code 20 = .ok (.if_icmp .le 6, 3) := by decide +kernel
theorem d9_23 : decode jdk_52_method_21_code 23 = .ok (.iload 5, 2) := by decide +kernel
theorem d9_25 : decode jdk_52_method_21_code 25 = .ok (.ireturn, 1) := by decide +kernel
theorem d9_26 : decode jdk_52_method_21_code 26 = .ok (.aload_n 2, 1) := by decide +kernel
theorem d9_27 : decode jdk_52_method_21_code 27 = .ok (.iload_n 3, 1) := by decide +kernel
theorem d9_28 : decode jdk_52_method_21_code 28 = .ok (.iload 6, 2) := by decide +kernel
theorem d9_30 : decode jdk_52_method_21_code 30 = .ok (.i2b, 1) := by decide +kernel
theorem d9_31 : decode jdk_52_method_21_code 31 = .ok (.bastore, 1) := by decide +kernel
theorem d9_32 : decode jdk_52_method_21_code 32 = .ok (.iinc 1 1, 3) := by decide +kernel
theorem d9_35 : decode jdk_52_method_21_code 35 = .ok (.iinc 3 1, 3) := by decide +kernel
theorem d9_38 : decode jdk_52_method_21_code 38 = .ok (.iinc 5 1, 3) := by decide +kernel
theorem d9_41 : decode jdk_52_method_21_code 41 = .ok (.goto (-38), 3) := by decide +kernel
theorem pn_8 : plainName "java/lang/StringUTF16" = true := by first | (simp [plainName, overriddenIn]; done) | decide +kernel
theorem d8_0 : decode jdk_52_method_16_code 0 = .ok (.iload_n 2, 1) := by decide +kernel
theorem d8_1 : decode jdk_52_method_16_code 1 = .ok (.newarray .byte, 2) := by decide +kernel
theorem d8_3 : decode jdk_52_method_16_code 3 = .ok (.astore_n 3, 1) := by decide +kernel
theorem d8_4 : decode jdk_52_method_16_code 4 = .ok (.aload_n 0, 1) := by decide +kernel
theorem d8_5 : decode jdk_52_method_16_code 5 = .ok (.iload_n 1, 1) := by decide +kernel
theorem d8_6 : decode jdk_52_method_16_code 6 = .ok (.aload_n 3, 1) := by decide +kernel
theorem d8_7 : decode jdk_52_method_16_code 7 = .ok (.iconst 0, 1) := by decide +kernel
theorem d8_8 : decode jdk_52_method_16_code 8 = .ok (.iload_n 2, 1) := by decide +kernel
theorem d8_9 : decode jdk_52_method_16_code 9 = .ok (.invokestatic 115, 3) := by decide +kernel
theorem pd___CI_BII_I : parseMethodDescriptor "([CI[BII)I" = some ⟨[(.array .char), .int, (.array .byte), .int, .int], some .int⟩ := by decide +kernel
theorem d8_12 : decode jdk_52_method_16_code 12 = .ok (.istore 4, 2) := by decide +kernel
theorem d8_14 : decode jdk_52_method_16_code 14 = .ok (.iload 4, 2) := by decide +kernel
theorem d8_16 : decode jdk_52_method_16_code 16 = .ok (.iload_n 2, 1) := by decide +kernel
theorem d8_17 : decode jdk_52_method_16_code 17 = .ok (.if_icmp .eq 40, 3) := by decide +kernel
theorem d8_57 : decode jdk_52_method_16_code 57 = .ok (.aload_n 3, 1) := by decide +kernel
theorem d8_58 : decode jdk_52_method_16_code 58 = .ok (.areturn, 1) := by decide +kernel
theorem pn_10 : plainName "java/lang/StringUTF16" = true := by first | (simp [plainName, overriddenIn]; done) | decide +kernel
theorem d10_0 : decode jdk_52_method_15_code 0 = .ok (.iload_n 1, 1) := by decide +kernel
theorem d10_1 : decode jdk_52_method_15_code 1 = .ok (.aload_n 0, 1) := by decide +kernel
theorem d10_2 : decode jdk_52_method_15_code 2 = .ok (.arraylength, 1) := by decide +kernel
theorem d10_3 : decode jdk_52_method_15_code 3 = .ok (.isub, 1) := by decide +kernel
theorem d10_4 : decode jdk_52_method_15_code 4 = .ok (.bipush 31, 2) := by decide +kernel
theorem d10_6 : decode jdk_52_method_15_code 6 = .ok (.iushr, 1) := by decide +kernel
theorem d10_7 : decode jdk_52_method_15_code 7 = .ok (.i2b, 1) := by decide +kernel
theorem d10_8 : decode jdk_52_method_15_code 8 = .ok (.ireturn, 1) := by decide +kernel
theorem pn_7 : plainName "java/lang/String" = true := by first | (simp [plainName, overriddenIn]; done) | decide +kernel
theorem d7_0 : decode jdk_42_method_149_code 0 = .ok (.aload_n 0, 1) := by decide +kernel
theorem d7_1 : decode jdk_42_method_149_code 1 = .ok (.invokespecial 1, 3) := by decide +kernel
theorem d7_4 : decode jdk_42_method_149_code 4 = .ok (.iload_n 3, 1) := by decide +kernel
theorem d7_5 : decode jdk_42_method_149_code 5 = .ok (.ifCond .ne 22, 3) := by decide +kernel
theorem d7_8 : decode jdk_42_method_149_code 8 = .ok (.aload_n 0, 1) := by decide +kernel
theorem d7_9 : decode jdk_42_method_149_code 9 = .ok (.ldc 7, 2) := by decide +kernel
theorem d7_11 : decode jdk_42_method_149_code 11 = .ok (.getfield 9, 3) := by decide +kernel
theorem d7_14 : decode jdk_42_method_149_code 14 = .ok (.putfield 9, 3) := by decide +kernel
theorem d7_17 : decode jdk_42_method_149_code 17 = .ok (.aload_n 0, 1) := by decide +kernel
theorem d7_18 : decode jdk_42_method_149_code 18 = .ok (.ldc 7, 2) := by decide +kernel
theorem d7_20 : decode jdk_42_method_149_code 20 = .ok (.getfield 15, 3) := by decide +kernel
theorem d7_23 : decode jdk_42_method_149_code 23 = .ok (.putfield 15, 3) := by decide +kernel
theorem d7_26 : decode jdk_42_method_149_code 26 = .ok (.return_, 1) := by decide +kernel
theorem d7_27 : decode jdk_42_method_149_code 27 = .ok (.getstatic 38, 3) := by decide +kernel
theorem d7_30 : decode jdk_42_method_149_code 30 = .ok (.ifCond .eq 28, 3) := by decide +kernel
theorem d7_33 : decode jdk_42_method_149_code 33 = .ok (.aload_n 1, 1) := by decide +kernel
theorem d7_34 : decode jdk_42_method_149_code 34 = .ok (.iload_n 2, 1) := by decide +kernel
theorem d7_35 : decode jdk_42_method_149_code 35 = .ok (.iload_n 3, 1) := by decide +kernel
theorem d7_36 : decode jdk_42_method_149_code 36 = .ok (.invokestatic 177, 3) := by decide +kernel
theorem pd___CII__B : parseMethodDescriptor "([CII)[B" = some ⟨[(.array .char), .int, .int], some (.array .byte)⟩ := by decide +kernel
theorem d7_39 : decode jdk_42_method_149_code 39 = .ok (.astore 5, 2) := by decide +kernel
theorem d7_41 : decode jdk_42_method_149_code 41 = .ok (.aload_n 0, 1) := by decide +kernel
theorem d7_42 : decode jdk_42_method_149_code 42 = .ok (.aload 5, 2) := by decide +kernel
theorem d7_44 : decode jdk_42_method_149_code 44 = .ok (.iload_n 3, 1) := by decide +kernel
theorem d7_45 : decode jdk_42_method_149_code 45 = .ok (.invokestatic 47, 3) := by decide +kernel
theorem pd___BI_B : parseMethodDescriptor "([BI)B" = some ⟨[(.array .byte), .int], some .byte⟩ := by decide +kernel
theorem d7_48 : decode jdk_42_method_149_code 48 = .ok (.putfield 15, 3) := by decide +kernel
theorem d7_51 : decode jdk_42_method_149_code 51 = .ok (.aload_n 0, 1) := by decide +kernel
theorem d7_52 : decode jdk_42_method_149_code 52 = .ok (.aload 5, 2) := by decide +kernel
theorem d7_54 : decode jdk_42_method_149_code 54 = .ok (.putfield 9, 3) := by decide +kernel
theorem d7_57 : decode jdk_42_method_149_code 57 = .ok (.return_, 1) := by decide +kernel
theorem pn_6 : plainName "java/lang/String" = true := by first | (simp [plainName, overriddenIn]; done) | decide +kernel
theorem d6_0 : decode jdk_42_method_3_code 0 = .ok (.aload_n 0, 1) := by decide +kernel
theorem d6_1 : decode jdk_42_method_3_code 1 = .ok (.aload_n 1, 1) := by decide +kernel
theorem d6_2 : decode jdk_42_method_3_code 2 = .ok (.iconst 0, 1) := by decide +kernel
theorem d6_3 : decode jdk_42_method_3_code 3 = .ok (.aload_n 1, 1) := by decide +kernel
theorem d6_4 : decode jdk_42_method_3_code 4 = .ok (.arraylength, 1) := by decide +kernel
theorem d6_5 : decode jdk_42_method_3_code 5 = .ok (.aconst_null, 1) := by decide +kernel
theorem d6_6 : decode jdk_42_method_3_code 6 = .ok (.invokespecial 27, 3) := by decide +kernel
theorem pd___CIILjava_lang_Void__V : parseMethodDescriptor "([CIILjava/lang/Void;)V" = some ⟨[(.array .char), .int, .int, (.object "java/lang/Void")], none⟩ := by decide +kernel
theorem d6_9 : decode jdk_42_method_3_code 9 = .ok (.return_, 1) := by decide +kernel
theorem pn_2 : plainName "java/lang/Record" = true := by first | (simp [plainName, overriddenIn]; done) | decide +kernel
theorem d2_0 : decode jdk_30_method_1_code 0 = .ok (.aload_n 0, 1) := by decide +kernel
theorem d2_1 : decode jdk_30_method_1_code 1 = .ok (.invokespecial 1, 3) := by decide +kernel
theorem d2_4 : decode jdk_30_method_1_code 4 = .ok (.return_, 1) := by decide +kernel
theorem pn_1 : plainName "com/example/stylewright/stylewright/xpath/NodeTest$NameTest" = true := by first | (simp [plainName, overriddenIn]; done) | decide +kernel
theorem d1_0 : decode prog_92_method_1_code 0 = .ok (.aload_n 0, 1) := by decide +kernel
theorem d1_1 : decode prog_92_method_1_code 1 = .ok (.invokespecial 1, 3) := by decide +kernel
theorem pd___V : parseMethodDescriptor "()V" = some ⟨[], none⟩ := by decide +kernel
theorem d1_4 : decode prog_92_method_1_code 4 = .ok (.aload_n 0, 1) := by decide +kernel
theorem d1_5 : decode prog_92_method_1_code 5 = .ok (.aload_n 1, 1) := by decide +kernel
theorem d1_6 : decode prog_92_method_1_code 6 = .ok (.putfield 7, 3) := by decide +kernel
theorem d1_9 : decode prog_92_method_1_code 9 = .ok (.aload_n 0, 1) := by decide +kernel
theorem d1_10 : decode prog_92_method_1_code 10 = .ok (.aload_n 2, 1) := by decide +kernel
theorem d1_11 : decode prog_92_method_1_code 11 = .ok (.putfield 13, 3) := by decide +kernel
theorem d1_14 : decode prog_92_method_1_code 14 = .ok (.return_, 1) := by decide +kernel
theorem pn_4 : plainName "com/example/stylewright/stylewright/xpath/NodeTest$NameTest" = true := by first | (simp [plainName, overriddenIn]; done) | decide +kernel
theorem d4_0 : decode prog_92_method_4_code 0 = .ok (.aload_n 0, 1) := by decide +kernel
theorem d4_1 : decode prog_92_method_4_code 1 = .ok (.getfield 7, 3) := by decide +kernel
theorem d4_4 : decode prog_92_method_4_code 4 = .ok (.ifnull 15, 3) := by decide +kernel
theorem d4_19 : decode prog_92_method_4_code 19 = .ok (.aload_n 0, 1) := by decide +kernel
theorem d4_20 : decode prog_92_method_4_code 20 = .ok (.getfield 7, 3) := by decide +kernel
theorem d4_23 : decode prog_92_method_4_code 23 = .ok (.ifnonnull 10, 3) := by decide +kernel
theorem d4_26 : decode prog_92_method_4_code 26 = .ok (.aload_n 0, 1) := by decide +kernel
theorem d4_27 : decode prog_92_method_4_code 27 = .ok (.getfield 13, 3) := by decide +kernel
theorem d4_30 : decode prog_92_method_4_code 30 = .ok (.ifnull 10, 3) := by decide +kernel
theorem d4_40 : decode prog_92_method_4_code 40 = .ok (.ldc2_w 47, 3) := by decide +kernel
theorem d4_43 : decode prog_92_method_4_code 43 = .ok (.dstore_n 1, 1) := by decide +kernel
theorem d4_44 : decode prog_92_method_4_code 44 = .ok (.dload_n 1, 1) := by decide +kernel
theorem d4_45 : decode prog_92_method_4_code 45 = .ok (.dreturn, 1) := by decide +kernel
theorem d4_33 : decode prog_92_method_4_code 33 = .ok (.ldc2_w 45, 3) := by decide +kernel
theorem d4_36 : decode prog_92_method_4_code 36 = .ok (.dstore_n 1, 1) := by decide +kernel
theorem d4_37 : decode prog_92_method_4_code 37 = .ok (.goto 7, 3) := by decide +kernel
theorem d4_7 : decode prog_92_method_4_code 7 = .ok (.aload_n 0, 1) := by decide +kernel
theorem d4_8 : decode prog_92_method_4_code 8 = .ok (.getfield 13, 3) := by decide +kernel
theorem d4_11 : decode prog_92_method_4_code 11 = .ok (.ifnull 8, 3) := by decide +kernel
theorem d4_14 : decode prog_92_method_4_code 14 = .ok (.dconst 0, 1) := by decide +kernel
theorem d4_15 : decode prog_92_method_4_code 15 = .ok (.dstore_n 1, 1) := by decide +kernel
theorem d4_16 : decode prog_92_method_4_code 16 = .ok (.goto 28, 3) := by decide +kernel
theorem pn_12 : plainName "java/lang/StringLatin1" = true := by first | (simp [plainName, overriddenIn]; done) | decide +kernel
theorem d12_0 : decode jdk_43_method_3_code 0 = .ok (.iload_n 0, 1) := by decide +kernel
theorem d12_1 : decode jdk_43_method_3_code 1 = .ok (.sipush 255, 3) := by decide +kernel
theorem d12_4 : decode jdk_43_method_3_code 4 = .ok (.if_icmp .gt 7, 3) := by decide +kernel
theorem d12_7 : decode jdk_43_method_3_code 7 = .ok (.iconst 1, 1) := by decide +kernel
theorem d12_8 : decode jdk_43_method_3_code 8 = .ok (.goto 4, 3) := by decide +kernel
theorem d12_12 : decode jdk_43_method_3_code 12 = .ok (.ireturn, 1) := by decide +kernel
theorem pn_13 : plainName "java/lang/StringLatin1" = true := by first | (simp [plainName, overriddenIn]; done) | decide +kernel
theorem d13_0 : decode jdk_43_method_46_code 0 = .ok (.iconst 1, 1) := by decide +kernel
theorem d13_1 : decode jdk_43_method_46_code 1 = .ok (.newarray .byte, 2) := by decide +kernel
theorem d13_3 : decode jdk_43_method_46_code 3 = .ok (.dup, 1) := by decide +kernel
theorem d13_4 : decode jdk_43_method_46_code 4 = .ok (.iconst 0, 1) := by decide +kernel
theorem d13_5 : decode jdk_43_method_46_code 5 = .ok (.iload_n 0, 1) := by decide +kernel
theorem d13_6 : decode jdk_43_method_46_code 6 = .ok (.i2b, 1) := by decide +kernel
theorem d13_7 : decode jdk_43_method_46_code 7 = .ok (.bastore, 1) := by decide +kernel
theorem d13_8 : decode jdk_43_method_46_code 8 = .ok (.areturn, 1) := by decide +kernel
theorem pn_14 : plainName "java/lang/String" = true := by first | (simp [plainName, overriddenIn]; done) | decide +kernel
theorem d14_0 : decode jdk_42_method_151_code 0 = .ok (.aload_n 0, 1) := by decide +kernel
theorem d14_1 : decode jdk_42_method_151_code 1 = .ok (.invokespecial 1, 3) := by decide +kernel
theorem d14_4 : decode jdk_42_method_151_code 4 = .ok (.aload_n 0, 1) := by decide +kernel
theorem d14_5 : decode jdk_42_method_151_code 5 = .ok (.aload_n 1, 1) := by decide +kernel
theorem d14_6 : decode jdk_42_method_151_code 6 = .ok (.putfield 9, 3) := by decide +kernel
theorem d14_9 : decode jdk_42_method_151_code 9 = .ok (.aload_n 0, 1) := by decide +kernel
theorem d14_10 : decode jdk_42_method_151_code 10 = .ok (.iload_n 2, 1) := by decide +kernel
theorem d14_11 : decode jdk_42_method_151_code 11 = .ok (.putfield 15, 3) := by decide +kernel
theorem d14_14 : decode jdk_42_method_151_code 14 = .ok (.return_, 1) := by decide +kernel
theorem pn_11 : plainName "java/lang/String" = true := by first | (simp [plainName, overriddenIn]; done) | decide +kernel
theorem d11_0 : decode jdk_42_method_139_code 0 = .ok (.getstatic 38, 3) := by decide +kernel
theorem d11_3 : decode jdk_42_method_139_code 3 = .ok (.ifCond .eq 23, 3) := by decide +kernel
theorem d11_6 : decode jdk_42_method_139_code 6 = .ok (.iload_n 0, 1) := by decide +kernel
theorem d11_7 : decode jdk_42_method_139_code 7 = .ok (.invokestatic 1015, 3) := by decide +kernel
theorem pd__C_Z : parseMethodDescriptor "(C)Z" = some ⟨[.char], some .boolean⟩ := by decide +kernel
theorem d11_10 : decode jdk_42_method_139_code 10 = .ok (.ifCond .eq 16, 3) := by decide +kernel
theorem d11_13 : decode jdk_42_method_139_code 13 = .ok (.new 10, 3) := by decide +kernel
theorem d11_16 : decode jdk_42_method_139_code 16 = .ok (.dup, 1) := by decide +kernel
theorem d11_17 : decode jdk_42_method_139_code 17 = .ok (.iload_n 0, 1) := by decide +kernel
theorem d11_18 : decode jdk_42_method_139_code 18 = .ok (.invokestatic 1018, 3) := by decide +kernel
theorem pd__C__B : parseMethodDescriptor "(C)[B" = some ⟨[.char], some (.array .byte)⟩ := by decide +kernel
theorem d11_21 : decode jdk_42_method_139_code 21 = .ok (.iconst 0, 1) := by decide +kernel
theorem d11_22 : decode jdk_42_method_139_code 22 = .ok (.invokespecial 209, 3) := by decide +kernel
theorem pd___BB_V : parseMethodDescriptor "([BB)V" = some ⟨[(.array .byte), .byte], none⟩ := by decide +kernel
theorem d11_25 : decode jdk_42_method_139_code 25 = .ok (.areturn, 1) := by decide +kernel
theorem pn_5 : plainName "com/example/stylewright/stylewright/xpath/NameTestDefaultPriorityPinLaw" = true := by first | (simp [plainName, overriddenIn]; done) | decide +kernel
theorem d5_0 : decode method_3_code 0 = .ok (.iload_n 1, 1) := by decide +kernel
theorem d5_1 : decode method_3_code 1 = .ok (.sipush 255, 3) := by decide +kernel
theorem d5_4 : decode method_3_code 4 = .ok (.iand, 1) := by decide +kernel
theorem d5_5 : decode method_3_code 5 = .ok (.i2c, 1) := by decide +kernel
theorem d5_6 : decode method_3_code 6 = .ok (.istore_n 3, 1) := by decide +kernel
theorem d5_7 : decode method_3_code 7 = .ok (.iload_n 2, 1) := by decide +kernel
theorem d5_8 : decode method_3_code 8 = .ok (.sipush 255, 3) := by decide +kernel
theorem d5_11 : decode method_3_code 11 = .ok (.iand, 1) := by decide +kernel
theorem d5_12 : decode method_3_code 12 = .ok (.i2c, 1) := by decide +kernel
theorem d5_13 : decode method_3_code 13 = .ok (.istore 4, 2) := by decide +kernel
theorem d5_15 : decode method_3_code 15 = .ok (.iload_n 0, 1) := by decide +kernel
theorem d5_16 : decode method_3_code 16 = .ok (.ifCond .ne 14, 3) := by decide +kernel
theorem d5_19 : decode method_3_code 19 = .ok (.new 24, 3) := by decide +kernel
theorem d5_22 : decode method_3_code 22 = .ok (.dup, 1) := by decide +kernel
theorem d5_23 : decode method_3_code 23 = .ok (.iconst 0, 1) := by decide +kernel
theorem d5_24 : decode method_3_code 24 = .ok (.newarray .char, 2) := by decide +kernel
theorem d5_26 : decode method_3_code 26 = .ok (.invokespecial 26, 3) := by decide +kernel
theorem pd___C_V : parseMethodDescriptor "([C)V" = some ⟨[(.array .char)], none⟩ := by decide +kernel
theorem d5_29 : decode method_3_code 29 = .ok (.areturn, 1) := by decide +kernel
theorem d5_30 : decode method_3_code 30 = .ok (.iload_n 0, 1) := by decide +kernel
theorem d5_31 : decode method_3_code 31 = .ok (.iconst 1, 1) := by decide +kernel
theorem d5_32 : decode method_3_code 32 = .ok (.if_icmp .ne 8, 3) := by decide +kernel
theorem d5_35 : decode method_3_code 35 = .ok (.iload_n 3, 1) := by decide +kernel
theorem d5_36 : decode method_3_code 36 = .ok (.invokestatic 29, 3) := by decide +kernel
theorem pd__C_Ljava_lang_String_ : parseMethodDescriptor "(C)Ljava/lang/String;" = some ⟨[.char], some (.object "java/lang/String")⟩ := by decide +kernel
theorem d5_39 : decode method_3_code 39 = .ok (.areturn, 1) := by decide +kernel
theorem d5_40 : decode method_3_code 40 = .ok (.iconst 2, 1) := by decide +kernel
theorem d5_41 : decode method_3_code 41 = .ok (.newarray .char, 2) := by decide +kernel
theorem d5_43 : decode method_3_code 43 = .ok (.astore 5, 2) := by decide +kernel
theorem d5_45 : decode method_3_code 45 = .ok (.aload 5, 2) := by decide +kernel
theorem d5_47 : decode method_3_code 47 = .ok (.iconst 0, 1) := by decide +kernel
theorem d5_48 : decode method_3_code 48 = .ok (.iload_n 3, 1) := by decide +kernel
theorem d5_49 : decode method_3_code 49 = .ok (.castore, 1) := by decide +kernel
theorem d5_50 : decode method_3_code 50 = .ok (.aload 5, 2) := by decide +kernel
theorem d5_52 : decode method_3_code 52 = .ok (.iconst 1, 1) := by decide +kernel
theorem d5_53 : decode method_3_code 53 = .ok (.iload 4, 2) := by decide +kernel
theorem d5_55 : decode method_3_code 55 = .ok (.castore, 1) := by decide +kernel
theorem d5_56 : decode method_3_code 56 = .ok (.new 24, 3) := by decide +kernel
theorem d5_59 : decode method_3_code 59 = .ok (.dup, 1) := by decide +kernel
theorem d5_60 : decode method_3_code 60 = .ok (.aload 5, 2) := by decide +kernel
theorem d5_62 : decode method_3_code 62 = .ok (.invokespecial 26, 3) := by decide +kernel
theorem d5_65 : decode method_3_code 65 = .ok (.areturn, 1) := by decide +kernel
theorem pn_0 : plainName "com/example/stylewright/stylewright/xpath/NameTestDefaultPriorityPinLaw" = true := by first | (simp [plainName, overriddenIn]; done) | decide +kernel
theorem pd__Ljava_lang_String_Ljava_lang_String__V : parseMethodDescriptor "(Ljava/lang/String;Ljava/lang/String;)V" = some ⟨[(.object "java/lang/String"), (.object "java/lang/String")], none⟩ := by decide +kernel
theorem pd___D : parseMethodDescriptor "()D" = some ⟨[], some .double⟩ := by decide +kernel
theorem pd__III_Ljava_lang_String_ : parseMethodDescriptor "(III)Ljava/lang/String;" = some ⟨[.int, .int, .int], some (.object "java/lang/String")⟩ := by decide +kernel
abbrev R_cLoop : Room := ⟨0, 0, 0, 0⟩
set_option maxRecDepth 65536 in
set_option maxHeartbeats 40000000 in
theorem cLoop (l : Launch) (Z : State) (a0 : Array Value) (hw : ∀ d ∈ tables_1, d.before a0 Z = true) (c1 : Addr) (d1 : Addr) (kc : ClassId) (kb : ClassId) (n : Nat) (f : Nat → Int32) (h0 : Heap) (n0 : Nat) (O0 : Old Z n0 h0) (Fc : ArF Z h0 c1 kc .char n f) (Fd : ArF Z h0 d1 kb .byte n (fun _ => 0)) (ne1 : c1 ≠ d1) (g1 : n0 ≤ d1) :
    MetN l Z (⟨"java/lang/StringUTF16", "compress", "([CI[BII)I"⟩ : MethodName) jdk_52_method_21_code 7 (some .int) R_cLoop [] #[(.ref c1), (.int (0 : Int32)), (.ref d1), (.int (0 : Int32)), (.int n.toInt32)] h0 (fun v h L => ∃ (r : Nat), v = some (.int r.toInt32) ∧ Fr n0 L ∧ Keep h0 h [d1] ∧ ArF Z h d1 kb .byte n (fun i => if i < r then (f i).toInt8.toInt32 else 0) ∧ (r ≤ n) ∧ (∀ i, i < r → ¬ (255 : Int32) < f i) ∧ (r < n → (255 : Int32) < f r)) := by
  refine MetN.walk (plainFor_of_name pn_9) ?_
  intro p e s m below meth c s₁ hx hZ hby hml hown hnm hret hlk X0 e0
  have N0 := Fr.nil n0
  refine Win.to s₁ (mkF m 0 #[.val (.ref c1), .val (.int (0 : Int32)), .val (.ref d1), .val (.int (0 : Int32)), .val (.int n.toInt32), .unset, .unset] []) (fun _ k => castTop (by first | (simp [entryFrame, mkF, argsToLocals, Value.category]; done) | rfl) k) ?_
  refine Win.to s₁ (mkF m 1 #[.val (.ref c1), .val (.int (0 : Int32)), .val (.ref d1), .val (.int (0 : Int32)), .val (.int n.toInt32), .unset, .unset] [(.int (0 : Int32))]) (fun _ k => XS.iconst X0.here hx rfl (hb hby d9_0) k) ?_
  refine Win.to s₁ (mkF m 3 #[.val (.ref c1), .val (.int (0 : Int32)), .val (.ref d1), .val (.int (0 : Int32)), .val (.int n.toInt32), .val (.int (0 : Int32)), .unset] []) (fun _ k => XS.istore X0.here hx rfl (hb hby d9_1) rfl (l' := #[.val (.ref c1), .val (.int (0 : Int32)), .val (.ref d1), .val (.int (0 : Int32)), .val (.int n.toInt32), .val (.int (0 : Int32)), .unset]) rfl k) ?_
  have hn := Fc.big
  have loop : ∀ (q j : Nat), j + q = n → (∀ i, i < j → ¬ (255 : Int32) < f i) → ∀ (T : State) (locs : List Loc) (h : Heap) (X : Stand p l e R_cLoop s m #[(.ref c1), (.int (0 : Int32)), (.ref d1), (.int (0 : Int32)), (.int n.toInt32)] below meth c T locs 0 0) (N : Fr n0 locs) (eT : T.heap = h) (O : Old Z n0 h) (K : Keep h0 h [d1]) (Gd : ArF Z h d1 kb .byte n (fun i => if i < j then (f i).toInt8.toInt32 else 0)) (s6 : Slot) (h6 : One s6), Win p e below s R_cLoop (fun v h L => ∃ (r : Nat), v = some (.int r.toInt32) ∧ Fr n0 L ∧ Keep h0 h [d1] ∧ ArF Z h d1 kb .byte n (fun i => if i < r then (f i).toInt8.toInt32 else 0) ∧ (r ≤ n) ∧ (∀ i, i < r → ¬ (255 : Int32) < f i) ∧ (r < n → (255 : Int32) < f r)) (T.setTop (mkF m 3 #[.val (.ref c1), .val (.int j.toInt32), .val (.ref d1), .val (.int j.toInt32), .val (.int n.toInt32), .val (.int j.toInt32), s6] [])) := by
    intro q
    induction q with
    | zero =>
      intro j hj hall T locs h X N eT O K Gd s6 h6
      obtain rfl : j = n := by omega
      refine Win.to T (mkF m 5 #[.val (.ref c1), .val (.int j.toInt32), .val (.ref d1), .val (.int j.toInt32), .val (.int j.toInt32), .val (.int j.toInt32), s6] [(.int j.toInt32)]) (fun _ k => XS.iload X.here hx rfl (hb hby d9_3) rfl k) ?_
      refine Win.to T (mkF m 7 #[.val (.ref c1), .val (.int j.toInt32), .val (.ref d1), .val (.int j.toInt32), .val (.int j.toInt32), .val (.int j.toInt32), s6] [(.int j.toInt32), (.int j.toInt32)]) (fun _ k => XS.iload X.here hx rfl (hb hby d9_5) rfl k) ?_
      refine Win.to T (mkF m 44 #[.val (.ref c1), .val (.int j.toInt32), .val (.ref d1), .val (.int j.toInt32), .val (.int j.toInt32), .val (.int j.toInt32), s6] []) (fun _ k => XS.icmpYes X.here hx rfl (pc0 := 7) (pc' := 44) rfl (hb hby d9_7) rfl (flt (show ¬ (j.toInt32 < j.toInt32) from Int32.lt_irrefl)).2.1 (by decide) (by decide) k) ?_
      refine Win.to T (mkF m 46 #[.val (.ref c1), .val (.int j.toInt32), .val (.ref d1), .val (.int j.toInt32), .val (.int j.toInt32), .val (.int j.toInt32), s6] [(.int j.toInt32)]) (fun _ k => XS.iload X.here hx rfl (hb hby d9_44) rfl k) ?_
      exact Win.retI X hx hlk hret (hb hby d9_46) (by decide) (by decide) (by (try rw [eT]); exact ⟨j, rfl, N, K, Gd, (Nat.le_refl _), hall, (fun q => absurd q (Nat.lt_irrefl _))⟩)
    | succ q ih =>
      intro j hj hall T locs h X N eT O K Gd s6 h6
      have hj1 : j < n := by omega
      have hj2 : j < 2 ^ 31 := by omega
      have Gc : ArF Z h c1 kc .char n f := Fc.keep K (ninS ne1 nin0)
      refine Win.to T (mkF m 5 #[.val (.ref c1), .val (.int j.toInt32), .val (.ref d1), .val (.int j.toInt32), .val (.int n.toInt32), .val (.int j.toInt32), s6] [(.int j.toInt32)]) (fun _ k => XS.iload X.here hx rfl (hb hby d9_3) rfl k) ?_
      refine Win.to T (mkF m 7 #[.val (.ref c1), .val (.int j.toInt32), .val (.ref d1), .val (.int j.toInt32), .val (.int n.toInt32), .val (.int j.toInt32), s6] [(.int n.toInt32), (.int j.toInt32)]) (fun _ k => XS.iload X.here hx rfl (hb hby d9_5) rfl k) ?_
      refine Win.to T (mkF m 10 #[.val (.ref c1), .val (.int j.toInt32), .val (.ref d1), .val (.int j.toInt32), .val (.int n.toInt32), .val (.int j.toInt32), s6] []) (fun _ k => XS.icmpNo X.here hx rfl (hb hby d9_7) rfl (tlt (show j.toInt32 < n.toInt32 from ((own_lt hj2 hn).mpr hj1))).2.1 k) ?_
      refine Win.to T (mkF m 11 #[.val (.ref c1), .val (.int j.toInt32), .val (.ref d1), .val (.int j.toInt32), .val (.int n.toInt32), .val (.int j.toInt32), s6] [(.ref c1)]) (fun _ k => XS.aloadN X.here hx rfl (hb hby d9_10) rfl rfl k) ?_
      refine Win.to T (mkF m 12 #[.val (.ref c1), .val (.int j.toInt32), .val (.ref d1), .val (.int j.toInt32), .val (.int n.toInt32), .val (.int j.toInt32), s6] [(.int j.toInt32), (.ref c1)]) (fun _ k => XS.iloadN X.here hx rfl (hb hby d9_11) rfl k) ?_
      obtain ⟨cl101, Ar101, hi101, ha101⟩ := ArF.at Gc (j := j.toInt32) (i := j) (own_tn hj2).1 (own_tn hj2).2.1 hj1
      refine Win.to T (mkF m 13 #[.val (.ref c1), .val (.int j.toInt32), .val (.ref d1), .val (.int j.toInt32), .val (.int n.toInt32), .val (.int j.toInt32), s6] [(.int (f j))]) (fun _ k => X.caload hx (j := j.toInt32) (v := (.int (f j))) (by rw [eT]; exact Ar101.1) (State.isArrayOf_alike hZ.alike Ar101.2.1) Ar101.2.2 hi101 ha101 (g := (mkF m 12 #[.val (.ref c1), .val (.int j.toInt32), .val (.ref d1), .val (.int j.toInt32), .val (.int n.toInt32), .val (.int j.toInt32), s6] [(.int j.toInt32), (.ref c1)])) rfl rfl (hb hby d9_12) _ k) ?_
      refine Win.to T (mkF m 15 #[.val (.ref c1), .val (.int j.toInt32), .val (.ref d1), .val (.int j.toInt32), .val (.int n.toInt32), .val (.int j.toInt32), .val (.int (f j))] []) (fun _ k => XS.istoreS X.here hx rfl (hb hby d9_13) rfl rfl h6 k) ?_
      refine Win.to T (mkF m 17 #[.val (.ref c1), .val (.int j.toInt32), .val (.ref d1), .val (.int j.toInt32), .val (.int n.toInt32), .val (.int j.toInt32), .val (.int (f j))] [(.int (f j))]) (fun _ k => XS.iload X.here hx rfl (hb hby d9_15) rfl k) ?_
      refine Win.to T (mkF m 20 #[.val (.ref c1), .val (.int j.toInt32), .val (.ref d1), .val (.int j.toInt32), .val (.int n.toInt32), .val (.int j.toInt32), .val (.int (f j))] [(.int (255 : Int32)), (.int (f j))]) (fun _ k => XS.sipush X.here hx rfl (hb hby d9_17) k) ?_
      by_cases hc102 : (255 : Int32) < (f j)
      · refine Win.to T (mkF m 23 #[.val (.ref c1), .val (.int j.toInt32), .val (.ref d1), .val (.int j.toInt32), .val (.int n.toInt32), .val (.int j.toInt32), .val (.int (f j))] []) (fun _ k => XS.icmpNo X.here hx rfl (hb hby d9_20) rfl (tlt hc102).2.2.2 k) ?_
        refine Win.to T (mkF m 25 #[.val (.ref c1), .val (.int j.toInt32), .val (.ref d1), .val (.int j.toInt32), .val (.int n.toInt32), .val (.int j.toInt32), .val (.int (f j))] [(.int j.toInt32)]) (fun _ k => XS.iload X.here hx rfl (hb hby d9_23) rfl k) ?_
        exact Win.retI X hx hlk hret (hb hby d9_25) (by decide) (by decide) (by (try rw [eT]); exact ⟨j, rfl, N, K, Gd, (Nat.le_of_lt hj1), hall, (fun _ => hc102)⟩)
      · refine Win.to T (mkF m 26 #[.val (.ref c1), .val (.int j.toInt32), .val (.ref d1), .val (.int j.toInt32), .val (.int n.toInt32), .val (.int j.toInt32), .val (.int (f j))] []) (fun _ k => XS.icmpYes X.here hx rfl (pc0 := 20) (pc' := 26) rfl (hb hby d9_20) rfl (flt hc102).2.2.2 (by decide) (by decide) k) ?_
        refine Win.to T (mkF m 27 #[.val (.ref c1), .val (.int j.toInt32), .val (.ref d1), .val (.int j.toInt32), .val (.int n.toInt32), .val (.int j.toInt32), .val (.int (f j))] [(.ref d1)]) (fun _ k => XS.aloadN X.here hx rfl (hb hby d9_26) rfl rfl k) ?_
        refine Win.to T (mkF m 28 #[.val (.ref c1), .val (.int j.toInt32), .val (.ref d1), .val (.int j.toInt32), .val (.int n.toInt32), .val (.int j.toInt32), .val (.int (f j))] [(.int j.toInt32), (.ref d1)]) (fun _ k => XS.iloadN X.here hx rfl (hb hby d9_27) rfl k) ?_
        refine Win.to T (mkF m 30 #[.val (.ref c1), .val (.int j.toInt32), .val (.ref d1), .val (.int j.toInt32), .val (.int n.toInt32), .val (.int j.toInt32), .val (.int (f j))] [(.int (f j)), (.int j.toInt32), (.ref d1)]) (fun _ k => XS.iload X.here hx rfl (hb hby d9_28) rfl k) ?_
        refine Win.to T (mkF m 31 #[.val (.ref c1), .val (.int j.toInt32), .val (.ref d1), .val (.int j.toInt32), .val (.int n.toInt32), .val (.int j.toInt32), .val (.int (f j))] [(.int ((f j).toInt8.toInt32)), (.int j.toInt32), (.ref d1)]) (fun _ k => XS.i2b X.here hx rfl (hb hby d9_30) rfl k) ?_
        obtain ⟨cl103, Ar103, hi103, -⟩ := ArF.at Gd (j := j.toInt32) (i := j) (own_tn hj2).1 (own_tn hj2).2.1 hj1
        obtain ⟨T104, h104, X104, e104, W104, st104⟩ := stB X hx hZ eT Ar103 (j := j.toInt32) hi103 (g := (mkF m 31 #[.val (.ref c1), .val (.int j.toInt32), .val (.ref d1), .val (.int j.toInt32), .val (.int n.toInt32), .val (.int j.toInt32), .val (.int (f j))] [(.int ((f j).toInt8.toInt32)), (.int j.toInt32), (.ref d1)])) rfl rfl (hb hby d9_31)
        have O105 := Old.wr O W104 g1
        have K106 : Keep h0 h104 [d1] := K.wr W104 (Or.inl (List.mem_of_getElem? (i := 0) rfl))
        have N107 := Fr.snoc X104 N g1
        have eq104 : nar .byte ((f j).toInt8.toInt32) = ((f j).toInt8.toInt32) := (own_b8 (f j))
        have W104 := eq104 ▸ W104
        have F108 : ArF Z h104 d1 kb .byte n (upd (fun i => if i < j then (f i).toInt8.toInt32 else 0) j ((f j).toInt8.toInt32)) := ArF.set Gd W104 (own_tn hj2).1 hj1 (eq104 ▸ (fits_nar_byte _))
        refine Win.to T104 (mkF m 32 #[.val (.ref c1), .val (.int j.toInt32), .val (.ref d1), .val (.int j.toInt32), .val (.int n.toInt32), .val (.int j.toInt32), .val (.int (f j))] []) (fun _ k => st104 _ k) ?_
        refine Win.to T104 (mkF m 35 #[.val (.ref c1), .val (.int (j.toInt32 + (1 : Int32))), .val (.ref d1), .val (.int j.toInt32), .val (.int n.toInt32), .val (.int j.toInt32), .val (.int (f j))] []) (fun _ k => XS.iinc X104.here hx rfl (hb hby d9_32) rfl (l' := #[.val (.ref c1), .val (.int (j.toInt32 + (1 : Int32))), .val (.ref d1), .val (.int j.toInt32), .val (.int n.toInt32), .val (.int j.toInt32), .val (.int (f j))]) rfl k) ?_
        refine Win.to T104 (mkF m 38 #[.val (.ref c1), .val (.int (j.toInt32 + (1 : Int32))), .val (.ref d1), .val (.int (j.toInt32 + (1 : Int32))), .val (.int n.toInt32), .val (.int j.toInt32), .val (.int (f j))] []) (fun _ k => XS.iinc X104.here hx rfl (hb hby d9_35) rfl (l' := #[.val (.ref c1), .val (.int (j.toInt32 + (1 : Int32))), .val (.ref d1), .val (.int (j.toInt32 + (1 : Int32))), .val (.int n.toInt32), .val (.int j.toInt32), .val (.int (f j))]) rfl k) ?_
        refine Win.to T104 (mkF m 41 #[.val (.ref c1), .val (.int (j.toInt32 + (1 : Int32))), .val (.ref d1), .val (.int (j.toInt32 + (1 : Int32))), .val (.int n.toInt32), .val (.int (j.toInt32 + (1 : Int32))), .val (.int (f j))] []) (fun _ k => XS.iinc X104.here hx rfl (hb hby d9_38) rfl (l' := #[.val (.ref c1), .val (.int (j.toInt32 + (1 : Int32))), .val (.ref d1), .val (.int (j.toInt32 + (1 : Int32))), .val (.int n.toInt32), .val (.int (j.toInt32 + (1 : Int32))), .val (.int (f j))]) rfl k) ?_
        refine Win.to T104 (mkF m 3 #[.val (.ref c1), .val (.int (j.toInt32 + (1 : Int32))), .val (.ref d1), .val (.int (j.toInt32 + (1 : Int32))), .val (.int n.toInt32), .val (.int (j.toInt32 + (1 : Int32))), .val (.int (f j))] []) (fun _ k => XS.goto X104.here hx rfl (pc0 := 41) (pc' := 3) rfl (hb hby d9_41) (by decide) (by decide) k) ?_
        rw [own_succ j]
        refine ih (j + 1) (by omega) (fun i hi => ?_) T104 _ h104 X104 N107 e104 O105 K106 (ArF.cong F108 fun i hi => ?_) _ (One.val rfl)
        · rcases Nat.lt_succ_iff_lt_or_eq.mp hi with q | q
          · exact hall i q
          · rw [q]; exact hc102
        · simp only [upd]
          by_cases q : i = j
          · simp [q]
          · have q2 : i < j + 1 ↔ i < j := by omega
            simp [q, q2]
  exact loop n 0 (by omega) (fun i hi => absurd hi (Nat.not_lt_zero _)) s₁ [] h0 X0 N0 e0 O0 (Keep.refl _ _) (ArF.cong Fd fun i hi => by simp) _ One.u
abbrev R_comp : Room := ⟨1, 1, 2, 18⟩
set_option maxRecDepth 65536 in
set_option maxHeartbeats 40000000 in
theorem comp (l : Launch) (Z : State) (a0 : Array Value) (hw : ∀ d ∈ tables_1, d.before a0 Z = true) (c1 : Addr) (kc : ClassId) (n : Nat) (f : Nat → Int32) (h0 : Heap) (n0 : Nat) (O0 : Old Z n0 h0) (Fc : ArF Z h0 c1 kc .char n f) (hp : ∀ i, i < n → ¬ (255 : Int32) < f i) (hcap : n ≤ 2) :
    MetN l Z (⟨"java/lang/StringUTF16", "compress", "([CII)[B"⟩ : MethodName) jdk_52_method_16_code 6 (some (.array .byte)) R_comp [] #[(.ref c1), (.int (0 : Int32)), (.int n.toInt32)] h0 (fun v h L => ∃ (t : Addr) (kb : ClassId), v = some (.ref t) ∧ Fr n0 L ∧ Keep h0 h [] ∧ h0.size ≤ t ∧ ArF Z h t kb .byte n (fun i => (f i).toInt8.toInt32)) := by
  refine MetN.walk (plainFor_of_name pn_8) ?_
  intro p e s m below meth c s₁ hx hZ hby hml hown hnm hret hlk X0 e0
  have N0 := Fr.nil n0
  refine Win.to s₁ (mkF m 0 #[.val (.ref c1), .val (.int (0 : Int32)), .val (.int n.toInt32), .unset, .unset, .unset] []) (fun _ k => castTop (by first | (simp [entryFrame, mkF, argsToLocals, Value.category]; done) | rfl) k) ?_
  have hn := Fc.big
  refine Win.to s₁ (mkF m 1 #[.val (.ref c1), .val (.int (0 : Int32)), .val (.int n.toInt32), .unset, .unset, .unset] [(.int n.toInt32)]) (fun _ k => XS.iloadN X0.here hx rfl (hb hby d8_0) rfl k) ?_
  obtain ⟨T109, h109, k109, X109, e109, E109, A109, st109⟩ := newP X0 hx hZ (wk hw 42 rfl) e0 (g := (mkF m 1 #[.val (.ref c1), .val (.int (0 : Int32)), .val (.int n.toInt32), .unset, .unset, .unset] [(.int n.toInt32)])) rfl (hb hby d8_1) rfl (own_tn hn).2.1 (cap := 2) (by rw [(own_tn hn).1]; exact hcap) (by decide) (by decide) (by decide)
  obtain ⟨b109, g109⟩ : ∃ z, z = h0.size := ⟨_, rfl⟩
  rw [← g109] at A109 st109
  have ne110 : c1 ≠ b109 := Nat.ne_of_lt (Nat.lt_of_lt_of_le Fc.lt (Nat.le_of_eq g109.symm))
  have g111 : n0 ≤ b109 := Nat.le_trans (own_le O0) (Nat.le_of_eq g109.symm)
  have z112 : h0.size ≤ b109 := (Nat.le_of_eq g109.symm)
  have O113 := Old.ext O0 E109
  have K114 : Keep h0 h109 [] := (Keep.refl h0 []).ext E109
  have F115 : ArF Z h109 b109 k109 .byte n (fun _ => 0) := (own_tn hn).1 ▸ ArF.new A109 (own_tn hn).2.1 rfl
  refine Win.to T109 (mkF m 3 #[.val (.ref c1), .val (.int (0 : Int32)), .val (.int n.toInt32), .unset, .unset, .unset] [(.ref b109)]) (fun _ k => st109 _ k) ?_
  refine Win.to T109 (mkF m 4 #[.val (.ref c1), .val (.int (0 : Int32)), .val (.int n.toInt32), .val (.ref b109), .unset, .unset] []) (fun _ k => XS.astoreN X109.here hx rfl (hb hby d8_3) rfl rfl (l' := #[.val (.ref c1), .val (.int (0 : Int32)), .val (.int n.toInt32), .val (.ref b109), .unset, .unset]) rfl k) ?_
  refine Win.to T109 (mkF m 5 #[.val (.ref c1), .val (.int (0 : Int32)), .val (.int n.toInt32), .val (.ref b109), .unset, .unset] [(.ref c1)]) (fun _ k => XS.aloadN X109.here hx rfl (hb hby d8_4) rfl rfl k) ?_
  refine Win.to T109 (mkF m 6 #[.val (.ref c1), .val (.int (0 : Int32)), .val (.int n.toInt32), .val (.ref b109), .unset, .unset] [(.int (0 : Int32)), (.ref c1)]) (fun _ k => XS.iloadN X109.here hx rfl (hb hby d8_5) rfl k) ?_
  refine Win.to T109 (mkF m 7 #[.val (.ref c1), .val (.int (0 : Int32)), .val (.int n.toInt32), .val (.ref b109), .unset, .unset] [(.ref b109), (.int (0 : Int32)), (.ref c1)]) (fun _ k => XS.aloadN X109.here hx rfl (hb hby d8_6) rfl rfl k) ?_
  refine Win.to T109 (mkF m 8 #[.val (.ref c1), .val (.int (0 : Int32)), .val (.int n.toInt32), .val (.ref b109), .unset, .unset] [(.int (0 : Int32)), (.ref b109), (.int (0 : Int32)), (.ref c1)]) (fun _ k => XS.iconst X109.here hx rfl (hb hby d8_7) k) ?_
  refine Win.to T109 (mkF m 9 #[.val (.ref c1), .val (.int (0 : Int32)), .val (.int n.toInt32), .val (.ref b109), .unset, .unset] [(.int n.toInt32), (.int (0 : Int32)), (.ref b109), (.int (0 : Int32)), (.ref c1)]) (fun _ k => XS.iloadN X109.here hx rfl (hb hby d8_8) rfl k) ?_
  have F116 : ArF Z h109 c1 kc .char n f := (Fc.ext E109)
  obtain ⟨T117, h117, v117, L117, X117, e117, ⟨r_117, rfl, N117q, r117_0, r117_1, r117_2, r117_3, r117_4⟩, st117⟩ := N.static X109 hx hZ (y := (⟨"java/lang/StringUTF16", "compress", "([CI[BII)I"⟩ : MethodName)) hown (wk hw 54 rfl) (wk hw 55 rfl) (wk hw 52 rfl) (wk hw 56 rfl) (by decide) (cLoop l Z a0 hw c1 b109 kc k109 n f h109 n0 O113 F116 F115 ne110 g111) e109 (g := (mkF m 9 #[.val (.ref c1), .val (.int (0 : Int32)), .val (.int n.toInt32), .val (.ref b109), .unset, .unset] [(.int n.toInt32), (.int (0 : Int32)), (.ref b109), (.int (0 : Int32)), (.ref c1)])) rfl (by rw [hml]; rfl) (argsL := [(.ref c1), (.int (0 : Int32)), (.ref b109), (.int (0 : Int32)), (.int n.toInt32)]) (rest := []) rfl (lenOf pd___CI_BII_I rfl) rfl (W := 0) (by show 2 * 0 + _ ≤ _; exact Nat.le_of_eq rfl) (hb hby d8_9) (by decide) (by decide) (by decide) (by decide)
  have N118 := Fr.app N0 N117q
  have O119 := Old.keep O113 r117_0 (allS g111 all0)
  have K120 : Keep h0 h117 [] := Keep.trans K114 r117_0 (allS (Or.inr z112) all0)
  refine Win.to T117 (mkF m 12 #[.val (.ref c1), .val (.int (0 : Int32)), .val (.int n.toInt32), .val (.ref b109), .unset, .unset] [(.int r_117.toInt32)]) (fun _ k => st117 _ k) ?_
  have hr : r_117 = n := by
    rcases Nat.lt_or_ge r_117 n with q | q
    · exact absurd (r117_4 q) (hp _ q)
    · have := r117_2; omega
  have F121 : ArF Z h117 b109 k109 .byte n (fun i => (f i).toInt8.toInt32) := ArF.cong r117_1 fun i hi => by simp [hr, hi]
  refine Win.to T117 (mkF m 14 #[.val (.ref c1), .val (.int (0 : Int32)), .val (.int n.toInt32), .val (.ref b109), .val (.int r_117.toInt32), .unset] []) (fun _ k => XS.istore X117.here hx rfl (hb hby d8_12) rfl (l' := #[.val (.ref c1), .val (.int (0 : Int32)), .val (.int n.toInt32), .val (.ref b109), .val (.int r_117.toInt32), .unset]) rfl k) ?_
  refine Win.to T117 (mkF m 16 #[.val (.ref c1), .val (.int (0 : Int32)), .val (.int n.toInt32), .val (.ref b109), .val (.int r_117.toInt32), .unset] [(.int r_117.toInt32)]) (fun _ k => XS.iload X117.here hx rfl (hb hby d8_14) rfl k) ?_
  refine Win.to T117 (mkF m 17 #[.val (.ref c1), .val (.int (0 : Int32)), .val (.int n.toInt32), .val (.ref b109), .val (.int r_117.toInt32), .unset] [(.int n.toInt32), (.int r_117.toInt32)]) (fun _ k => XS.iloadN X117.here hx rfl (hb hby d8_16) rfl k) ?_
  refine Win.to T117 (mkF m 57 #[.val (.ref c1), .val (.int (0 : Int32)), .val (.int n.toInt32), .val (.ref b109), .val (.int r_117.toInt32), .unset] []) (fun _ k => XS.icmpYes X117.here hx rfl (pc0 := 17) (pc' := 57) rfl (hb hby d8_17) rfl (teq (show r_117.toInt32 = n.toInt32 from (by rw [hr]))).1 (by decide) (by decide) k) ?_
  refine Win.to T117 (mkF m 58 #[.val (.ref c1), .val (.int (0 : Int32)), .val (.int n.toInt32), .val (.ref b109), .val (.int r_117.toInt32), .unset] [(.ref b109)]) (fun _ k => XS.aloadN X117.here hx rfl (hb hby d8_57) rfl rfl k) ?_
  exact Win.retA X117 hx hlk hret rfl rfl (hb hby d8_58) (by decide) (by decide) (by (try rw [e117]); exact ⟨b109, k109, rfl, N118, K120, z112, F121⟩)
abbrev R_coder0 : Room := ⟨0, 0, 0, 0⟩
set_option maxRecDepth 65536 in
set_option maxHeartbeats 40000000 in
theorem coder0 (l : Launch) (Z : State) (a0 : Array Value) (hw : ∀ d ∈ tables_1, d.before a0 Z = true) (b1 : Addr) (kb : ClassId) (n : Nat) (f : Nat → Int32) (h0 : Heap) (n0 : Nat) (O0 : Old Z n0 h0) (Fb : ArF Z h0 b1 kb .byte n f) :
    MetN l Z (⟨"java/lang/StringUTF16", "coderFromArrayLen", "([BI)B"⟩ : MethodName) jdk_52_method_15_code 2 (some .byte) R_coder0 [] #[(.ref b1), (.int n.toInt32)] h0 (fun v h L => v = some (.int (0 : Int32)) ∧ Fr n0 L ∧ h = h0) := by
  refine MetN.walk (plainFor_of_name pn_10) ?_
  intro p e s m below meth c s₁ hx hZ hby hml hown hnm hret hlk X0 e0
  have N0 := Fr.nil n0
  refine Win.to s₁ (mkF m 0 #[.val (.ref b1), .val (.int n.toInt32)] []) (fun _ k => castTop (by first | (simp [entryFrame, mkF, argsToLocals, Value.category]; done) | rfl) k) ?_
  refine Win.to s₁ (mkF m 1 #[.val (.ref b1), .val (.int n.toInt32)] [(.int n.toInt32)]) (fun _ k => XS.iloadN X0.here hx rfl (hb hby d10_0) rfl k) ?_
  refine Win.to s₁ (mkF m 2 #[.val (.ref b1), .val (.int n.toInt32)] [(.ref b1), (.int n.toInt32)]) (fun _ k => XS.aloadN X0.here hx rfl (hb hby d10_1) rfl rfl k) ?_
  obtain ⟨cl122, Ar122, hl122⟩ := ArF.len Fb
  refine Win.to s₁ (mkF m 3 #[.val (.ref b1), .val (.int n.toInt32)] [(.int n.toInt32), (.int n.toInt32)]) (fun _ k => X0.arraylength hx (by rw [e0]; exact Ar122.1) (State.isArrayOf_alike hZ.alike Ar122.2.1) (g := (mkF m 2 #[.val (.ref b1), .val (.int n.toInt32)] [(.ref b1), (.int n.toInt32)])) rfl rfl (hb hby d10_2) _ (by rw [hl122]; exact k)) ?_
  refine Win.to s₁ (mkF m 4 #[.val (.ref b1), .val (.int n.toInt32)] [(.int (0 : Int32))]) (fun _ k => XS.isub X0.here hx rfl (hb hby d10_3) rfl (by rw [show (n.toInt32 - n.toInt32) = (0 : Int32) from Int32.sub_self _]; exact k)) ?_
  refine Win.to s₁ (mkF m 6 #[.val (.ref b1), .val (.int n.toInt32)] [(.int (31 : Int32)), (.int (0 : Int32))]) (fun _ k => XS.bipush X0.here hx rfl (hb hby d10_4) k) ?_
  refine Win.to s₁ (mkF m 7 #[.val (.ref b1), .val (.int n.toInt32)] [(.int (0 : Int32))]) (fun _ k => XS.iushr X0.here hx rfl (hb hby d10_6) rfl (by rw [show (((0 : Int32).toUInt32 >>> ((31 : Int32) &&& 31).toUInt32).toInt32) = (0 : Int32) from by decide]; exact k)) ?_
  refine Win.to s₁ (mkF m 8 #[.val (.ref b1), .val (.int n.toInt32)] [(.int (0 : Int32))]) (fun _ k => XS.i2b X0.here hx rfl (hb hby d10_7) rfl (by rw [show ((0 : Int32).toInt8.toInt32) = (0 : Int32) from by decide]; exact k)) ?_
  exact Win.retN X0 hx hlk (t := .byte) hret (by simp) rfl (hb hby d10_8) (by decide) (by decide) (by (try rw [e0]); exact ⟨rfl, N0, rfl⟩)
abbrev R_ctor4 : Room := ⟨2, 4, 8, 35⟩
set_option maxRecDepth 65536 in
set_option maxHeartbeats 40000000 in
theorem ctor4 (l : Launch) (Z : State) (a0 : Array Value) (hw : ∀ d ∈ tables_1, d.before a0 Z = true) (a1 : Addr) (c1 : Addr) (kc : ClassId) (n : Nat) (f : Nat → Int32) (cs : Int32) (h0 : Heap) (n0 : Nat) (O0 : Old Z n0 h0) (E1 : Exa Z h0 a1 "java/lang/String") (F1 : Fld Z h0 a1 "java/lang/String" "value" "[B" .null) (F2 : Fld Z h0 a1 "java/lang/String" "coder" "B" (.int (0 : Int32))) (Fc : ArF Z h0 c1 kc .char n f) (hp : ∀ i, i < n → ¬ (255 : Int32) < f i) (hcap : n ≤ 2) (g1 : n0 ≤ a1) (S_CS : Sta Z Z.heap "java/lang/String" "COMPACT_STRINGS" "Z" (.int cs)) (hcs : ¬ (cs = (0 : Int32))) :
    MetW l Z (⟨"java/lang/String", "<init>", "([CIILjava/lang/Void;)V"⟩ : MethodName) jdk_42_method_149_code 6 none R_ctor4 [] #[(.ref a1), (.ref c1), (.int (0 : Int32)), (.int n.toInt32), .null] h0 EL1 (fun v h L => ∃ (t : Addr) (kb : ClassId), v = none ∧ Fr n0 L ∧ Keep h0 h [a1] ∧ Fld Z h a1 "java/lang/String" "value" "[B" (.ref t) ∧ Fld Z h a1 "java/lang/String" "coder" "B" (.int (0 : Int32)) ∧ ArF Z h t kb .byte n (fun i => (f i).toInt8.toInt32)) := by
  refine MetW.walk (plainFor_of_name pn_7) ?_
  intro p e s m below meth c s₁ hx hZ hby hml hown hnm hret hlk C0 hS0 X0 e0
  have N0 := Fr.nil n0
  refine WinW.to s₁ (mkF m 0 #[.val (.ref a1), .val (.ref c1), .val (.int (0 : Int32)), .val (.int n.toInt32), .val .null, .unset] []) (fun _ k => castTop (by first | (simp [entryFrame, mkF, argsToLocals, Value.category]; done) | rfl) k) ?_
  have hn := Fc.big
  refine WinW.to s₁ (mkF m 1 #[.val (.ref a1), .val (.ref c1), .val (.int (0 : Int32)), .val (.int n.toInt32), .val .null, .unset] [(.ref a1)]) (fun _ k => XS.aloadN X0.here hx rfl (hb hby d7_0) rfl rfl k) ?_
  obtain ⟨T123, X123, e123, st123⟩ := initO X0 hx hZ hown (wk hw 40 rfl) (wk hw 12 rfl) (wk hw 13 rfl) e0 (g := (mkF m 1 #[.val (.ref a1), .val (.ref c1), .val (.int (0 : Int32)), .val (.int n.toInt32), .val .null, .unset] [(.ref a1)])) rfl (by rw [hml]; rfl) rfl (hb hby d7_1) (by decide) (W := 0) (by show 2 * 0 + _ ≤ _; exact Nat.le_of_eq rfl) (by decide)
  refine WinW.to T123 (mkF m 4 #[.val (.ref a1), .val (.ref c1), .val (.int (0 : Int32)), .val (.int n.toInt32), .val .null, .unset] []) (fun _ k => st123 _ k) ?_
  refine WinW.to T123 (mkF m 5 #[.val (.ref a1), .val (.ref c1), .val (.int (0 : Int32)), .val (.int n.toInt32), .val .null, .unset] [(.int n.toInt32)]) (fun _ k => XS.iloadN X123.here hx rfl (hb hby d7_4) rfl k) ?_
  by_cases hc124 : n.toInt32 = (0 : Int32)
  · refine WinW.to T123 (mkF m 8 #[.val (.ref a1), .val (.ref c1), .val (.int (0 : Int32)), .val (.int n.toInt32), .val .null, .unset] []) (fun _ k => XS.ifNo X123.here hx rfl (hb hby d7_5) rfl ((if0 _ _).trans (teq hc124).2) k) ?_
    have hz : n = 0 := own_zero hn hc124
    have S125 : Safe Z EL1 (s.setVm s.vm).vm h0 a1 := own_safe hZ.alike E1 F1 (wk hw 30 rfl)
    refine WinW.to T123 (mkF m 9 #[.val (.ref a1), .val (.ref c1), .val (.int (0 : Int32)), .val (.int n.toInt32), .val .null, .unset] [(.ref a1)]) (fun _ k => XS.aloadN X123.here hx rfl (hb hby d7_8) rfl rfl k) ?_
    obtain ⟨b126, T126, h126, k126, d126, kk126, X126, e126, E126, hS126, hk126, hZ126, hown126, Fe126, Fc126, Fv126, Fa126, -, -, c126, -, Sf126, st126⟩ := ldcCH X123 hx hZ hown (wk hw 41 rfl) (own_wS hw) e123 hS0 (Nat.zero_le _) (own_EW hw) (by decide) C0.1 (vs := []) (z := (0 : Int32)) (by decide) (by decide) rfl (g := (mkF m 9 #[.val (.ref a1), .val (.ref c1), .val (.int (0 : Int32)), .val (.int n.toInt32), .val .null, .unset] [(.ref a1)])) rfl (hb hby d7_9) (n := 0) (by decide) (by decide) (by decide) (by decide)
    have O127 := Old.ext O0 E126
    have K128 : Keep h0 h126 [a1] := (Keep.refl h0 [a1]).ext E126
    have c129 := c126
    have C130 := CHr.trans C0 c129
    have S131 := CHr.safe c129 E1.lt S125
    have q126_a1 := Sf126 _ S131
    refine WinW.to T126 (mkF m 11 #[.val (.ref a1), .val (.ref c1), .val (.int (0 : Int32)), .val (.int n.toInt32), .val .null, .unset] [(.ref b126), (.ref a1)]) (fun _ k => st126 _ k) ?_
    obtain ⟨T132, X132, e132, st132⟩ := getF X126 hx hZ126 hown126 (host := "") (Or.inl (wk hw 47 rfl)) Via.refl e126 Fv126 (g := (mkF m 11 #[.val (.ref a1), .val (.ref c1), .val (.int (0 : Int32)), .val (.int n.toInt32), .val .null, .unset] [(.ref b126), (.ref a1)])) rfl rfl (hb hby d7_11)
    refine WinW.to T132 (mkF m 14 #[.val (.ref a1), .val (.ref c1), .val (.int (0 : Int32)), .val (.int n.toInt32), .val .null, .unset] [(.ref d126), (.ref a1)]) (fun _ k => st132 _ k) ?_
    have F133 : Exa Z h126 a1 "java/lang/String" := (Exa.ext E126 E1)
    have F134 : Fld Z h126 a1 "java/lang/String" "value" "[B" .null := (Fld.ext E126 F1)
    have F135 : ArF Z h126 c1 kc .char n f := (Fc.ext E126)
    have ne136 : a1 ≠ c1 := own_neF F133 F135 (wk hw 30 rfl)
    obtain ⟨T137, h137, X137, e137, W137, st137⟩ := putF X132 hx hZ126 hown126 (host := "") (Or.inl (wk hw 47 rfl)) Via.refl e132 F134 F133 (Or.inr ⟨(wk hw 43 rfl), rfl, hnm⟩) (wk hw 30 rfl) (ty := (.array .byte)) (by decide) rfl rfl (g := (mkF m 14 #[.val (.ref a1), .val (.ref c1), .val (.int (0 : Int32)), .val (.int n.toInt32), .val .null, .unset] [(.ref d126), (.ref a1)])) rfl rfl (hb hby d7_14)
    have O139 := Old.wr O127 W137 g1
    have hk140 := Nat.le_trans hk126 (Nat.le_of_eq (Wr.size W137).symm)
    have K141 : Keep h0 h137 [a1] := K128.wr W137 (Or.inl (List.mem_of_getElem? (i := 0) rfl))
    have N142 := Fr.snoc X137 N0 g1
    have c143 := CHr.wr W137 S131 C130.1
    have C144 := CHr.trans C130 c143
    have S145 := CHr.safe c143 F133.lt S131
    have F138 : Fld Z h137 a1 "java/lang/String" "value" "[B" (.ref d126) := Fld.same W137 F134
    refine WinW.to T137 (mkF m 17 #[.val (.ref a1), .val (.ref c1), .val (.int (0 : Int32)), .val (.int n.toInt32), .val .null, .unset] []) (fun _ k => st137 _ k) ?_
    refine WinW.to T137 (mkF m 18 #[.val (.ref a1), .val (.ref c1), .val (.int (0 : Int32)), .val (.int n.toInt32), .val .null, .unset] [(.ref a1)]) (fun _ k => XS.aloadN X137.here hx rfl (hb hby d7_17) rfl rfl k) ?_
    have F147 : Exa Z h137 a1 "java/lang/String" := (Exa.wr W137 F133)
    obtain ⟨b146, T146, h146, k146, d146, kk146, X146, e146, E146, hS146, hk146, hZ146, hown146, Fe146, Fc146, Fv146, Fa146, -, -, c146, -, Sf146, st146⟩ := ldcCH X137 hx hZ126 hown126 (wk hw 41 rfl) (own_wS hw) e137 hS126 hk140 (own_EW hw) (by decide) C144.1 (vs := []) (z := (0 : Int32)) (by decide) (by decide) rfl (g := (mkF m 18 #[.val (.ref a1), .val (.ref c1), .val (.int (0 : Int32)), .val (.int n.toInt32), .val .null, .unset] [(.ref a1)])) rfl (hb hby d7_18) (n := 0) (by decide) (by decide) (by decide) (by decide)
    have O148 := Old.ext O139 E146
    have K149 : Keep h0 h146 [a1] := K141.ext E146
    have c150 := c146
    have C151 := CHr.trans C144 c150
    have S152 := CHr.safe c150 F147.lt S145
    have q146_a1 := Sf146 _ S152
    refine WinW.to T146 (mkF m 20 #[.val (.ref a1), .val (.ref c1), .val (.int (0 : Int32)), .val (.int n.toInt32), .val .null, .unset] [(.ref b146), (.ref a1)]) (fun _ k => st146 _ k) ?_
    obtain ⟨T153, X153, e153, st153⟩ := getF X146 hx hZ146 hown146 (host := "") (Or.inl (wk hw 48 rfl)) Via.refl e146 Fc146 (g := (mkF m 20 #[.val (.ref a1), .val (.ref c1), .val (.int (0 : Int32)), .val (.int n.toInt32), .val .null, .unset] [(.ref b146), (.ref a1)])) rfl rfl (hb hby d7_20)
    refine WinW.to T153 (mkF m 23 #[.val (.ref a1), .val (.ref c1), .val (.int (0 : Int32)), .val (.int n.toInt32), .val .null, .unset] [(.int (0 : Int32)), (.ref a1)]) (fun _ k => st153 _ k) ?_
    have F154 : Exa Z h146 a1 "java/lang/String" := (Exa.ext E146 F147)
    have F155 : Fld Z h146 a1 "java/lang/String" "coder" "B" (.int (0 : Int32)) := (Fld.ext E146 (Fld.other W137 (Fld.ext E126 F2) (Or.inr (slot_ne (Or.inr (wk hw 44 rfl)) (Or.inr (wk hw 43 rfl)) (by decide) (t := .byte) (t' := (.array .byte)) (by decide) (by decide)))))
    obtain ⟨T156, h156, X156, e156, W156, st156⟩ := putFN X153 hx hZ146 hown146 (wk hw 48 rfl) Via.refl e153 F155 F154 (Or.inr ⟨(wk hw 44 rfl), rfl, hnm⟩) (wk hw 30 rfl) (ty := .byte) (v' := (.int (0 : Int32))) (by decide) rfl rfl (g := (mkF m 23 #[.val (.ref a1), .val (.ref c1), .val (.int (0 : Int32)), .val (.int n.toInt32), .val .null, .unset] [(.int (0 : Int32)), (.ref a1)])) rfl rfl (hb hby d7_23)
    have O158 := Old.wr O148 W156 g1
    have hk159 := Nat.le_trans hk146 (Nat.le_of_eq (Wr.size W156).symm)
    have K160 : Keep h0 h156 [a1] := K149.wr W156 (Or.inl (List.mem_of_getElem? (i := 0) rfl))
    have N161 := Fr.snoc X156 N142 g1
    have c162 := CHr.wr W156 S152 C151.1
    have C163 := CHr.trans C151 c162
    have S164 := CHr.safe c162 F154.lt S152
    have F157 : Fld Z h156 a1 "java/lang/String" "coder" "B" (.int (0 : Int32)) := Fld.same W156 F155
    refine WinW.to T156 (mkF m 26 #[.val (.ref a1), .val (.ref c1), .val (.int (0 : Int32)), .val (.int n.toInt32), .val .null, .unset] []) (fun _ k => st156 _ k) ?_
    have F165 : Fld Z h156 a1 "java/lang/String" "value" "[B" (.ref d126) := (Fld.other W156 (Fld.ext E146 F138) (Or.inr (slot_ne (Or.inr (wk hw 43 rfl)) (Or.inr (wk hw 44 rfl)) (by decide) (t := (.array .byte)) (t' := .byte) (by decide) (by decide))))
    have F166 : Arv Z h156 d126 kk126 .byte (0 : Int32) [] (.int 0) := (((Fa126.other W137 (Ne.symm q126_a1.2)).ext E146).other W156 (Ne.symm q126_a1.2))
    have F167 : ArF Z h156 d126 kk126 .byte 0 (fun i => ([] : List Int32).getD i 0) := own_arf [] F166 rfl
    have F168 : ArF Z h156 d126 kk126 .byte n (fun i => (f i).toInt8.toInt32) := by rw [hz]; exact ArF.cong F167 fun i hi => absurd hi (Nat.not_lt_zero _)
    exact WinW.retV X156 hS146 (by rw [e156]; exact hk159) hx hlk hret (hb hby d7_26) hZ146 (own_EW hw) (by rw [e156]; exact C163) (by decide) (by decide) (by (try rw [e156]); exact ⟨d126, kk126, rfl, N161, K160, F165, F157, F168⟩)
  · refine WinW.to T123 (mkF m 27 #[.val (.ref a1), .val (.ref c1), .val (.int (0 : Int32)), .val (.int n.toInt32), .val .null, .unset] []) (fun _ k => XS.ifYes X123.here hx rfl (pc0 := 5) (pc' := 27) rfl (hb hby d7_5) rfl ((if0 _ _).trans (feq hc124).2) (by decide) (by decide) k) ?_
    obtain ⟨T169, X169, e169, st169⟩ := getS2 X123 hx hZ hown (host := "") (Or.inl (wk hw 49 rfl)) Via.refl e123 (Sta.ext O0.2 S_CS) (g := (mkF m 27 #[.val (.ref a1), .val (.ref c1), .val (.int (0 : Int32)), .val (.int n.toInt32), .val .null, .unset] [])) rfl (hb hby d7_27)
    refine WinW.to T169 (mkF m 30 #[.val (.ref a1), .val (.ref c1), .val (.int (0 : Int32)), .val (.int n.toInt32), .val .null, .unset] [(.int cs)]) (fun _ k => st169 _ k) ?_
    refine WinW.to T169 (mkF m 33 #[.val (.ref a1), .val (.ref c1), .val (.int (0 : Int32)), .val (.int n.toInt32), .val .null, .unset] []) (fun _ k => XS.ifNo X169.here hx rfl (hb hby d7_30) rfl ((if0 _ _).trans (feq (show ¬ (cs = (0 : Int32)) from hcs)).1) k) ?_
    refine WinW.to T169 (mkF m 34 #[.val (.ref a1), .val (.ref c1), .val (.int (0 : Int32)), .val (.int n.toInt32), .val .null, .unset] [(.ref c1)]) (fun _ k => XS.aloadN X169.here hx rfl (hb hby d7_33) rfl rfl k) ?_
    refine WinW.to T169 (mkF m 35 #[.val (.ref a1), .val (.ref c1), .val (.int (0 : Int32)), .val (.int n.toInt32), .val .null, .unset] [(.int (0 : Int32)), (.ref c1)]) (fun _ k => XS.iloadN X169.here hx rfl (hb hby d7_34) rfl k) ?_
    refine WinW.to T169 (mkF m 36 #[.val (.ref a1), .val (.ref c1), .val (.int (0 : Int32)), .val (.int n.toInt32), .val .null, .unset] [(.int n.toInt32), (.int (0 : Int32)), (.ref c1)]) (fun _ k => XS.iloadN X169.here hx rfl (hb hby d7_35) rfl k) ?_
    obtain ⟨T170, h170, v170, L170, X170, e170, ⟨t_170, kb_170, rfl, N170q, r170_0, r170_1, r170_2⟩, st170⟩ := N.static X169 hx hZ (y := (⟨"java/lang/StringUTF16", "compress", "([CII)[B"⟩ : MethodName)) hown (wk hw 50 rfl) (wk hw 51 rfl) (wk hw 52 rfl) (wk hw 53 rfl) (by decide) (comp l Z a0 hw c1 kc n f h0 n0 O0 Fc hp hcap) e169 (g := (mkF m 36 #[.val (.ref a1), .val (.ref c1), .val (.int (0 : Int32)), .val (.int n.toInt32), .val .null, .unset] [(.int n.toInt32), (.int (0 : Int32)), (.ref c1)])) rfl (by rw [hml]; rfl) (argsL := [(.ref c1), (.int (0 : Int32)), (.int n.toInt32)]) (rest := []) rfl (lenOf pd___CII__B rfl) rfl (W := 0) (by show 2 * 0 + _ ≤ _; exact Nat.le_of_eq rfl) (hb hby d7_36) (by decide) (by decide) (by decide) (by decide)
    have N171 := Fr.app N0 N170q
    have ne172 : a1 ≠ t_170 := Nat.ne_of_lt (Nat.lt_of_lt_of_le E1.lt r170_1)
    have ne173 : c1 ≠ t_170 := Nat.ne_of_lt (Nat.lt_of_lt_of_le Fc.lt r170_1)
    have g174 : n0 ≤ t_170 := Nat.le_trans (own_le O0) r170_1
    have z175 : h0.size ≤ t_170 := r170_1
    have O176 := Old.keep O0 r170_0 all0
    have K177 : Keep h0 h170 [a1] := Keep.trans (Keep.refl h0 [a1]) r170_0 all0
    have c178 := CHr.keep r170_0 sf0 C0.1
    have C179 := CHr.trans C0 c178
    refine WinW.to T170 (mkF m 39 #[.val (.ref a1), .val (.ref c1), .val (.int (0 : Int32)), .val (.int n.toInt32), .val .null, .unset] [(.ref t_170)]) (fun _ k => st170 _ k) ?_
    refine WinW.to T170 (mkF m 41 #[.val (.ref a1), .val (.ref c1), .val (.int (0 : Int32)), .val (.int n.toInt32), .val .null, .val (.ref t_170)] []) (fun _ k => XS.astore X170.here hx rfl (hb hby d7_39) rfl rfl (l' := #[.val (.ref a1), .val (.ref c1), .val (.int (0 : Int32)), .val (.int n.toInt32), .val .null, .val (.ref t_170)]) rfl k) ?_
    refine WinW.to T170 (mkF m 42 #[.val (.ref a1), .val (.ref c1), .val (.int (0 : Int32)), .val (.int n.toInt32), .val .null, .val (.ref t_170)] [(.ref a1)]) (fun _ k => XS.aloadN X170.here hx rfl (hb hby d7_41) rfl rfl k) ?_
    refine WinW.to T170 (mkF m 44 #[.val (.ref a1), .val (.ref c1), .val (.int (0 : Int32)), .val (.int n.toInt32), .val .null, .val (.ref t_170)] [(.ref t_170), (.ref a1)]) (fun _ k => XS.aload X170.here hx rfl (hb hby d7_42) rfl rfl k) ?_
    refine WinW.to T170 (mkF m 45 #[.val (.ref a1), .val (.ref c1), .val (.int (0 : Int32)), .val (.int n.toInt32), .val .null, .val (.ref t_170)] [(.int n.toInt32), (.ref t_170), (.ref a1)]) (fun _ k => XS.iloadN X170.here hx rfl (hb hby d7_44) rfl k) ?_
    obtain ⟨T180, h180, v180, L180, X180, e180, ⟨rfl, N180q, r180_0⟩, st180⟩ := N.static X170 hx hZ (y := (⟨"java/lang/StringUTF16", "coderFromArrayLen", "([BI)B"⟩ : MethodName)) hown (wk hw 57 rfl) (wk hw 58 rfl) (wk hw 52 rfl) (wk hw 59 rfl) (by decide) (coder0 l Z a0 hw t_170 kb_170 n (fun i => (f i).toInt8.toInt32) h170 n0 O176 r170_2) e170 (g := (mkF m 45 #[.val (.ref a1), .val (.ref c1), .val (.int (0 : Int32)), .val (.int n.toInt32), .val .null, .val (.ref t_170)] [(.int n.toInt32), (.ref t_170), (.ref a1)])) rfl (by rw [hml]; rfl) (argsL := [(.ref t_170), (.int n.toInt32)]) (rest := [(.ref a1)]) rfl (lenOf pd___BI_B rfl) rfl (W := 1) (by show 2 * 0 + _ ≤ _; exact Nat.le_of_eq rfl) (hb hby d7_45) (by decide) (by decide) (by decide) (by decide)
    have N181 := Fr.app N171 N180q
    have e180 := e180.trans r180_0
    refine WinW.to T180 (mkF m 48 #[.val (.ref a1), .val (.ref c1), .val (.int (0 : Int32)), .val (.int n.toInt32), .val .null, .val (.ref t_170)] [(.int (0 : Int32)), (.ref a1)]) (fun _ k => st180 _ k) ?_
    have F182 : Exa Z h170 a1 "java/lang/String" := (E1.keep r170_0)
    have F183 : Fld Z h170 a1 "java/lang/String" "coder" "B" (.int (0 : Int32)) := (F2.keep r170_0 nin0)
    have F184 : ArF Z h170 c1 kc .char n f := (Fc.keep r170_0 nin0)
    have ne185 : a1 ≠ c1 := own_neF F182 F184 (wk hw 30 rfl)
    have F186 : Fld Z h170 a1 "java/lang/String" "value" "[B" .null := (F1.keep r170_0 nin0)
    have S187 : Safe Z EL1 (s.setVm s.vm).vm h170 a1 := own_safe hZ.alike F182 F186 (wk hw 30 rfl)
    obtain ⟨T188, h188, X188, e188, W188, st188⟩ := putFN X180 hx hZ hown (wk hw 48 rfl) Via.refl e180 F183 F182 (Or.inr ⟨(wk hw 44 rfl), rfl, hnm⟩) (wk hw 30 rfl) (ty := .byte) (v' := (.int (0 : Int32))) (by decide) rfl rfl (g := (mkF m 48 #[.val (.ref a1), .val (.ref c1), .val (.int (0 : Int32)), .val (.int n.toInt32), .val .null, .val (.ref t_170)] [(.int (0 : Int32)), (.ref a1)])) rfl rfl (hb hby d7_48)
    have O190 := Old.wr O176 W188 g1
    have K191 : Keep h0 h188 [a1] := K177.wr W188 (Or.inl (List.mem_of_getElem? (i := 0) rfl))
    have N192 := Fr.snoc X188 N181 g1
    have c193 := CHr.wr W188 S187 C179.1
    have C194 := CHr.trans C179 c193
    have S195 := CHr.safe c193 F182.lt S187
    have F189 : Fld Z h188 a1 "java/lang/String" "coder" "B" (.int (0 : Int32)) := Fld.same W188 F183
    refine WinW.to T188 (mkF m 51 #[.val (.ref a1), .val (.ref c1), .val (.int (0 : Int32)), .val (.int n.toInt32), .val .null, .val (.ref t_170)] []) (fun _ k => st188 _ k) ?_
    refine WinW.to T188 (mkF m 52 #[.val (.ref a1), .val (.ref c1), .val (.int (0 : Int32)), .val (.int n.toInt32), .val .null, .val (.ref t_170)] [(.ref a1)]) (fun _ k => XS.aloadN X188.here hx rfl (hb hby d7_51) rfl rfl k) ?_
    refine WinW.to T188 (mkF m 54 #[.val (.ref a1), .val (.ref c1), .val (.int (0 : Int32)), .val (.int n.toInt32), .val .null, .val (.ref t_170)] [(.ref t_170), (.ref a1)]) (fun _ k => XS.aload X188.here hx rfl (hb hby d7_52) rfl rfl k) ?_
    have F196 : Exa Z h188 a1 "java/lang/String" := (Exa.wr W188 F182)
    have F197 : Fld Z h188 a1 "java/lang/String" "value" "[B" .null := (Fld.other W188 F186 (Or.inr (slot_ne (Or.inr (wk hw 43 rfl)) (Or.inr (wk hw 44 rfl)) (by decide) (t := (.array .byte)) (t' := .byte) (by decide) (by decide))))
    obtain ⟨T198, h198, X198, e198, W198, st198⟩ := putF X188 hx hZ hown (host := "") (Or.inl (wk hw 47 rfl)) Via.refl e188 F197 F196 (Or.inr ⟨(wk hw 43 rfl), rfl, hnm⟩) (wk hw 30 rfl) (ty := (.array .byte)) (by decide) rfl rfl (g := (mkF m 54 #[.val (.ref a1), .val (.ref c1), .val (.int (0 : Int32)), .val (.int n.toInt32), .val .null, .val (.ref t_170)] [(.ref t_170), (.ref a1)])) rfl rfl (hb hby d7_54)
    have O200 := Old.wr O190 W198 g1
    have K201 : Keep h0 h198 [a1] := K191.wr W198 (Or.inl (List.mem_of_getElem? (i := 0) rfl))
    have N202 := Fr.snoc X198 N192 g1
    have c203 := CHr.wr W198 S195 C194.1
    have C204 := CHr.trans C194 c203
    have S205 := CHr.safe c203 F196.lt S195
    have F199 : Fld Z h198 a1 "java/lang/String" "value" "[B" (.ref t_170) := Fld.same W198 F197
    refine WinW.to T198 (mkF m 57 #[.val (.ref a1), .val (.ref c1), .val (.int (0 : Int32)), .val (.int n.toInt32), .val .null, .val (.ref t_170)] []) (fun _ k => st198 _ k) ?_
    have F206 : Fld Z h198 a1 "java/lang/String" "coder" "B" (.int (0 : Int32)) := (Fld.other W198 F189 (Or.inr (slot_ne (Or.inr (wk hw 44 rfl)) (Or.inr (wk hw 43 rfl)) (by decide) (t := .byte) (t' := (.array .byte)) (by decide) (by decide))))
    have F207 : ArF Z h198 t_170 kb_170 .byte n (fun i => (f i).toInt8.toInt32) := ((r170_2.other W188 (Ne.symm ne172)).other W198 (Ne.symm ne172))
    exact WinW.retV X198 hS0 (by rw [e198]; exact (Nat.zero_le _)) hx hlk hret (hb hby d7_57) hZ (own_EW hw) (by rw [e198]; exact C204) (by decide) (by decide) (by (try rw [e198]); exact ⟨t_170, kb_170, rfl, N202, K201, F199, F206, F207⟩)
abbrev R_ctor1 : Room := ⟨3, 4, 8, 52⟩
set_option maxRecDepth 65536 in
set_option maxHeartbeats 40000000 in
theorem ctor1 (l : Launch) (Z : State) (a0 : Array Value) (hw : ∀ d ∈ tables_1, d.before a0 Z = true) (a1 : Addr) (c1 : Addr) (kc : ClassId) (n : Nat) (f : Nat → Int32) (cs : Int32) (h0 : Heap) (n0 : Nat) (O0 : Old Z n0 h0) (E1 : Exa Z h0 a1 "java/lang/String") (F1 : Fld Z h0 a1 "java/lang/String" "value" "[B" .null) (F2 : Fld Z h0 a1 "java/lang/String" "coder" "B" (.int (0 : Int32))) (Fc : ArF Z h0 c1 kc .char n f) (hp : ∀ i, i < n → ¬ (255 : Int32) < f i) (hcap : n ≤ 2) (g1 : n0 ≤ a1) (S_CS : Sta Z Z.heap "java/lang/String" "COMPACT_STRINGS" "Z" (.int cs)) (hcs : ¬ (cs = (0 : Int32))) :
    MetW l Z (⟨"java/lang/String", "<init>", "([C)V"⟩ : MethodName) jdk_42_method_3_code 2 none R_ctor1 [] #[(.ref a1), (.ref c1)] h0 EL1 (fun v h L => ∃ (t : Addr) (kb : ClassId), v = none ∧ Fr n0 L ∧ Keep h0 h [a1] ∧ Fld Z h a1 "java/lang/String" "value" "[B" (.ref t) ∧ Fld Z h a1 "java/lang/String" "coder" "B" (.int (0 : Int32)) ∧ ArF Z h t kb .byte n (fun i => (f i).toInt8.toInt32)) := by
  refine MetW.walk (plainFor_of_name pn_6) ?_
  intro p e s m below meth c s₁ hx hZ hby hml hown hnm hret hlk C0 hS0 X0 e0
  have N0 := Fr.nil n0
  refine WinW.to s₁ (mkF m 0 #[.val (.ref a1), .val (.ref c1)] []) (fun _ k => castTop (by first | (simp [entryFrame, mkF, argsToLocals, Value.category]; done) | rfl) k) ?_
  refine WinW.to s₁ (mkF m 1 #[.val (.ref a1), .val (.ref c1)] [(.ref a1)]) (fun _ k => XS.aloadN X0.here hx rfl (hb hby d6_0) rfl rfl k) ?_
  refine WinW.to s₁ (mkF m 2 #[.val (.ref a1), .val (.ref c1)] [(.ref c1), (.ref a1)]) (fun _ k => XS.aloadN X0.here hx rfl (hb hby d6_1) rfl rfl k) ?_
  refine WinW.to s₁ (mkF m 3 #[.val (.ref a1), .val (.ref c1)] [(.int (0 : Int32)), (.ref c1), (.ref a1)]) (fun _ k => XS.iconst X0.here hx rfl (hb hby d6_2) k) ?_
  refine WinW.to s₁ (mkF m 4 #[.val (.ref a1), .val (.ref c1)] [(.ref c1), (.int (0 : Int32)), (.ref c1), (.ref a1)]) (fun _ k => XS.aloadN X0.here hx rfl (hb hby d6_3) rfl rfl k) ?_
  obtain ⟨cl208, Ar208, hl208⟩ := ArF.len Fc
  refine WinW.to s₁ (mkF m 5 #[.val (.ref a1), .val (.ref c1)] [(.int n.toInt32), (.int (0 : Int32)), (.ref c1), (.ref a1)]) (fun _ k => X0.arraylength hx (by rw [e0]; exact Ar208.1) (State.isArrayOf_alike hZ.alike Ar208.2.1) (g := (mkF m 4 #[.val (.ref a1), .val (.ref c1)] [(.ref c1), (.int (0 : Int32)), (.ref c1), (.ref a1)])) rfl rfl (hb hby d6_4) _ (by rw [hl208]; exact k)) ?_
  refine WinW.to s₁ (mkF m 6 #[.val (.ref a1), .val (.ref c1)] [.null, (.int n.toInt32), (.int (0 : Int32)), (.ref c1), (.ref a1)]) (fun _ k => XS.aconstNull X0.here hx rfl (hb hby d6_5) k) ?_
  obtain ⟨T209, h209, v209, L209, k209, X209, e209, hS209, hk209, hZ209, hown209, ⟨t_209, kb_209, rfl, N209q, r209_0, r209_1, r209_2, r209_3⟩, c209, st209⟩ := W.special X0 hS0 (Nat.zero_le _) hx hZ (y := (⟨"java/lang/String", "<init>", "([CIILjava/lang/Void;)V"⟩ : MethodName)) rfl hown (wk hw 36 rfl) (wk hw 37 rfl) (wk hw 31 rfl) (wk hw 39 rfl) (by decide) (ctor4 l Z a0 hw a1 c1 kc n f cs h0 n0 O0 E1 F1 F2 Fc hp hcap g1 S_CS hcs) (own_EW hw) C0.1 e0 (g := (mkF m 6 #[.val (.ref a1), .val (.ref c1)] [.null, (.int n.toInt32), (.int (0 : Int32)), (.ref c1), (.ref a1)])) rfl (by rw [hml]; rfl) (a := a1) (argsL := [(.ref c1), (.int (0 : Int32)), (.int n.toInt32), .null]) (rest := []) rfl (lenOf pd___CIILjava_lang_Void__V rfl) rfl (W := 0) (by show 2 * 0 + _ ≤ _; exact Nat.le_of_eq rfl) (hb hby d6_6) (by decide) (by decide) (by decide) (by decide)
  have N210 := Fr.app N0 N209q
  have O211 := Old.keep O0 r209_0 (allS g1 all0)
  have K212 : Keep h0 h209 [a1] := Keep.trans (Keep.refl h0 [a1]) r209_0 (allS (Or.inl (List.mem_of_getElem? (i := 0) rfl)) all0)
  have c213 := c209
  have C214 := CHr.trans C0 c213
  refine WinW.to T209 (mkF m 9 #[.val (.ref a1), .val (.ref c1)] []) (fun _ k => st209 _ k) ?_
  exact WinW.retV X209 hS209 (by rw [e209]; exact hk209) hx hlk hret (hb hby d6_9) hZ209 (own_EW hw) (by rw [e209]; exact C214) (by decide) (by decide) (by (try rw [e209]); exact ⟨t_209, kb_209, rfl, N210, K212, r209_1, r209_2, r209_3⟩)
abbrev R_mkRec : Room := ⟨1, 0, 0, 12⟩
set_option maxRecDepth 65536 in
set_option maxHeartbeats 40000000 in
theorem mkRec (l : Launch) (Z : State) (a0 : Array Value) (hw : ∀ d ∈ tables_1, d.before a0 Z = true) (a1 : Addr) (h0 : Heap) (n0 : Nat) (O0 : Old Z n0 h0)  :
    MetN l Z (⟨"java/lang/Record", "<init>", "()V"⟩ : MethodName) jdk_30_method_1_code 1 none R_mkRec [] #[(.ref a1)] h0 (fun v h L => v = none ∧ Fr n0 L ∧ h = h0) := by
  refine MetN.walk (plainFor_of_name pn_2) ?_
  intro p e s m below meth c s₁ hx hZ hby hml hown hnm hret hlk X0 e0
  have N0 := Fr.nil n0
  refine Win.to s₁ (mkF m 0 #[.val (.ref a1)] []) (fun _ k => castTop (by first | (simp [entryFrame, mkF, argsToLocals, Value.category]; done) | rfl) k) ?_
  refine Win.to s₁ (mkF m 1 #[.val (.ref a1)] [(.ref a1)]) (fun _ k => XS.aloadN X0.here hx rfl (hb hby d2_0) rfl rfl k) ?_
  obtain ⟨T215, X215, e215, st215⟩ := initO X0 hx hZ hown (wk hw 11 rfl) (wk hw 12 rfl) (wk hw 13 rfl) e0 (g := (mkF m 1 #[.val (.ref a1)] [(.ref a1)])) rfl (by rw [hml]; rfl) rfl (hb hby d2_1) (by decide) (W := 0) (by show 2 * 0 + _ ≤ _; exact Nat.le_of_eq rfl) (by decide)
  refine Win.to T215 (mkF m 4 #[.val (.ref a1)] []) (fun _ k => st215 _ k) ?_
  exact Win.retV X215 hx hlk hret (hb hby d2_4) (by decide) (by decide) (by (try rw [e215]); exact ⟨rfl, N0, rfl⟩)
abbrev R_mkNT00 : Room := ⟨2, 0, 0, 24⟩
set_option maxRecDepth 65536 in
set_option maxHeartbeats 40000000 in
theorem mkNT00 (l : Launch) (Z : State) (a0 : Array Value) (hw : ∀ d ∈ tables_1, d.before a0 Z = true) (a1 : Addr) (h0 : Heap) (n0 : Nat) (O0 : Old Z n0 h0) (E1 : Exa Z h0 a1 "com/example/stylewright/stylewright/xpath/NodeTest$NameTest") (F1 : Fld Z h0 a1 "com/example/stylewright/stylewright/xpath/NodeTest$NameTest" "namespaceUri" "Ljava/lang/String;" .null) (F2 : Fld Z h0 a1 "com/example/stylewright/stylewright/xpath/NodeTest$NameTest" "localName" "Ljava/lang/String;" .null) (g1 : n0 ≤ a1) :
    MetN l Z (⟨"com/example/stylewright/stylewright/xpath/NodeTest$NameTest", "<init>", "(Ljava/lang/String;Ljava/lang/String;)V"⟩ : MethodName) prog_92_method_1_code 3 none R_mkNT00 [] #[(.ref a1), .null, .null] h0 (fun v h L => v = none ∧ Fr n0 L ∧ Keep h0 h [a1] ∧ Fld Z h a1 "com/example/stylewright/stylewright/xpath/NodeTest$NameTest" "namespaceUri" "Ljava/lang/String;" .null ∧ Fld Z h a1 "com/example/stylewright/stylewright/xpath/NodeTest$NameTest" "localName" "Ljava/lang/String;" .null) := by
  refine MetN.walk (plainFor_of_name pn_1) ?_
  intro p e s m below meth c s₁ hx hZ hby hml hown hnm hret hlk X0 e0
  have N0 := Fr.nil n0
  refine Win.to s₁ (mkF m 0 #[.val (.ref a1), .val .null, .val .null] []) (fun _ k => castTop (by first | (simp [entryFrame, mkF, argsToLocals, Value.category]; done) | rfl) k) ?_
  refine Win.to s₁ (mkF m 1 #[.val (.ref a1), .val .null, .val .null] [(.ref a1)]) (fun _ k => XS.aloadN X0.here hx rfl (hb hby d1_0) rfl rfl k) ?_
  obtain ⟨T216, h216, v216, L216, X216, e216, ⟨rfl, N216q, r216_0⟩, st216⟩ := N.special X0 hx hZ (y := (⟨"java/lang/Record", "<init>", "()V"⟩ : MethodName)) rfl hown (wk hw 6 rfl) (wk hw 7 rfl) (wk hw 9 rfl) (wk hw 10 rfl) (by decide) (mkRec l Z a0 hw a1 h0 n0 O0 ) e0 (g := (mkF m 1 #[.val (.ref a1), .val .null, .val .null] [(.ref a1)])) rfl (by rw [hml]; rfl) (a := a1) (argsL := []) (rest := []) rfl (lenOf pd___V rfl) rfl (W := 0) (by show 2 * 0 + _ ≤ _; exact Nat.le_of_eq rfl) (hb hby d1_1) (by decide) (by decide) (by decide) (by decide)
  have N217 := Fr.app N0 N216q
  have e216 := e216.trans r216_0
  refine Win.to T216 (mkF m 4 #[.val (.ref a1), .val .null, .val .null] []) (fun _ k => st216 _ k) ?_
  refine Win.to T216 (mkF m 5 #[.val (.ref a1), .val .null, .val .null] [(.ref a1)]) (fun _ k => XS.aloadN X216.here hx rfl (hb hby d1_4) rfl rfl k) ?_
  refine Win.to T216 (mkF m 6 #[.val (.ref a1), .val .null, .val .null] [.null, (.ref a1)]) (fun _ k => XS.aloadN X216.here hx rfl (hb hby d1_5) rfl rfl k) ?_
  obtain ⟨T218, h218, X218, e218, W218, st218⟩ := putF X216 hx hZ hown (host := "") (Or.inl (wk hw 14 rfl)) Via.refl e216 F1 E1 (Or.inr ⟨(wk hw 15 rfl), rfl, hnm⟩) (wk hw 1 rfl) (ty := (.object "java/lang/String")) (by decide) rfl rfl (g := (mkF m 6 #[.val (.ref a1), .val .null, .val .null] [.null, (.ref a1)])) rfl rfl (hb hby d1_6)
  have O220 := Old.wr O0 W218 g1
  have K221 : Keep h0 h218 [a1] := (Keep.refl h0 [a1]).wr W218 (Or.inl (List.mem_of_getElem? (i := 0) rfl))
  have N222 := Fr.snoc X218 N217 g1
  have F219 : Fld Z h218 a1 "com/example/stylewright/stylewright/xpath/NodeTest$NameTest" "namespaceUri" "Ljava/lang/String;" .null := Fld.same W218 F1
  refine Win.to T218 (mkF m 9 #[.val (.ref a1), .val .null, .val .null] []) (fun _ k => st218 _ k) ?_
  refine Win.to T218 (mkF m 10 #[.val (.ref a1), .val .null, .val .null] [(.ref a1)]) (fun _ k => XS.aloadN X218.here hx rfl (hb hby d1_9) rfl rfl k) ?_
  refine Win.to T218 (mkF m 11 #[.val (.ref a1), .val .null, .val .null] [.null, (.ref a1)]) (fun _ k => XS.aloadN X218.here hx rfl (hb hby d1_10) rfl rfl k) ?_
  have F223 : Exa Z h218 a1 "com/example/stylewright/stylewright/xpath/NodeTest$NameTest" := (Exa.wr W218 E1)
  have F224 : Fld Z h218 a1 "com/example/stylewright/stylewright/xpath/NodeTest$NameTest" "localName" "Ljava/lang/String;" .null := (Fld.other W218 F2 (Or.inr (slot_ne (Or.inr (wk hw 17 rfl)) (Or.inr (wk hw 15 rfl)) (by decide) (t := (.object "java/lang/String")) (t' := (.object "java/lang/String")) (by decide) (by decide))))
  obtain ⟨T225, h225, X225, e225, W225, st225⟩ := putF X218 hx hZ hown (host := "") (Or.inl (wk hw 16 rfl)) Via.refl e218 F224 F223 (Or.inr ⟨(wk hw 17 rfl), rfl, hnm⟩) (wk hw 1 rfl) (ty := (.object "java/lang/String")) (by decide) rfl rfl (g := (mkF m 11 #[.val (.ref a1), .val .null, .val .null] [.null, (.ref a1)])) rfl rfl (hb hby d1_11)
  have O227 := Old.wr O220 W225 g1
  have K228 : Keep h0 h225 [a1] := K221.wr W225 (Or.inl (List.mem_of_getElem? (i := 0) rfl))
  have N229 := Fr.snoc X225 N222 g1
  have F226 : Fld Z h225 a1 "com/example/stylewright/stylewright/xpath/NodeTest$NameTest" "localName" "Ljava/lang/String;" .null := Fld.same W225 F224
  refine Win.to T225 (mkF m 14 #[.val (.ref a1), .val .null, .val .null] []) (fun _ k => st225 _ k) ?_
  have F230 : Fld Z h225 a1 "com/example/stylewright/stylewright/xpath/NodeTest$NameTest" "namespaceUri" "Ljava/lang/String;" .null := (Fld.other W225 F219 (Or.inr (slot_ne (Or.inr (wk hw 15 rfl)) (Or.inr (wk hw 17 rfl)) (by decide) (t := (.object "java/lang/String")) (t' := (.object "java/lang/String")) (by decide) (by decide))))
  exact Win.retV X225 hx hlk hret (hb hby d1_14) (by decide) (by decide) (by (try rw [e225]); exact ⟨rfl, N229, K228, F230, F226⟩)
abbrev R_prio00 : Room := ⟨0, 0, 0, 0⟩
set_option maxRecDepth 65536 in
set_option maxHeartbeats 40000000 in
theorem prio00 (l : Launch) (Z : State) (a0 : Array Value) (hw : ∀ d ∈ tables_1, d.before a0 Z = true) (a1 : Addr) (h0 : Heap) (n0 : Nat) (O0 : Old Z n0 h0) (F1 : Fld Z h0 a1 "com/example/stylewright/stylewright/xpath/NodeTest$NameTest" "namespaceUri" "Ljava/lang/String;" .null) (F2 : Fld Z h0 a1 "com/example/stylewright/stylewright/xpath/NodeTest$NameTest" "localName" "Ljava/lang/String;" .null) :
    MetN l Z (⟨"com/example/stylewright/stylewright/xpath/NodeTest$NameTest", "defaultPriority", "()D"⟩ : MethodName) prog_92_method_4_code 3 (some .double) R_prio00 [] #[(.ref a1)] h0 (fun v h L => v = some (.double (13826050856027422720 : UInt64)) ∧ Fr n0 L ∧ h = h0) := by
  refine MetN.walk (plainFor_of_name pn_4) ?_
  intro p e s m below meth c s₁ hx hZ hby hml hown hnm hret hlk X0 e0
  have N0 := Fr.nil n0
  refine Win.to s₁ (mkF m 0 #[.val (.ref a1), .unset, .unset] []) (fun _ k => castTop (by first | (simp [entryFrame, mkF, argsToLocals, Value.category]; done) | rfl) k) ?_
  refine Win.to s₁ (mkF m 1 #[.val (.ref a1), .unset, .unset] [(.ref a1)]) (fun _ k => XS.aloadN X0.here hx rfl (hb hby d4_0) rfl rfl k) ?_
  obtain ⟨T231, X231, e231, st231⟩ := getF X0 hx hZ hown (host := "") (Or.inl (wk hw 14 rfl)) Via.refl e0 F1 (g := (mkF m 1 #[.val (.ref a1), .unset, .unset] [(.ref a1)])) rfl rfl (hb hby d4_1)
  refine Win.to T231 (mkF m 4 #[.val (.ref a1), .unset, .unset] [.null]) (fun _ k => st231 _ k) ?_
  refine Win.to T231 (mkF m 19 #[.val (.ref a1), .unset, .unset] []) (fun _ k => XS.ifnullYes X231.here hx rfl (pc0 := 4) (pc' := 19) rfl (hb hby d4_4) rfl (by decide) (by decide) k) ?_
  refine Win.to T231 (mkF m 20 #[.val (.ref a1), .unset, .unset] [(.ref a1)]) (fun _ k => XS.aloadN X231.here hx rfl (hb hby d4_19) rfl rfl k) ?_
  obtain ⟨T232, X232, e232, st232⟩ := getF X231 hx hZ hown (host := "") (Or.inl (wk hw 14 rfl)) Via.refl e231 F1 (g := (mkF m 20 #[.val (.ref a1), .unset, .unset] [(.ref a1)])) rfl rfl (hb hby d4_20)
  refine Win.to T232 (mkF m 23 #[.val (.ref a1), .unset, .unset] [.null]) (fun _ k => st232 _ k) ?_
  refine Win.to T232 (mkF m 26 #[.val (.ref a1), .unset, .unset] []) (fun _ k => XS.ifnonnullNo X232.here hx rfl (hb hby d4_23) rfl k) ?_
  refine Win.to T232 (mkF m 27 #[.val (.ref a1), .unset, .unset] [(.ref a1)]) (fun _ k => XS.aloadN X232.here hx rfl (hb hby d4_26) rfl rfl k) ?_
  obtain ⟨T233, X233, e233, st233⟩ := getF X232 hx hZ hown (host := "") (Or.inl (wk hw 16 rfl)) Via.refl e232 F2 (g := (mkF m 27 #[.val (.ref a1), .unset, .unset] [(.ref a1)])) rfl rfl (hb hby d4_27)
  refine Win.to T233 (mkF m 30 #[.val (.ref a1), .unset, .unset] [.null]) (fun _ k => st233 _ k) ?_
  refine Win.to T233 (mkF m 40 #[.val (.ref a1), .unset, .unset] []) (fun _ k => XS.ifnullYes X233.here hx rfl (pc0 := 30) (pc' := 40) rfl (hb hby d4_30) rfl (by decide) (by decide) k) ?_
  refine Win.to T233 (mkF m 43 #[.val (.ref a1), .unset, .unset] [(.double (13826050856027422720 : UInt64))]) (fun _ k => X233.ldc2DoubleC hx hown (mvT hZ (wk hw 23 rfl)) (g := (mkF m 40 #[.val (.ref a1), .unset, .unset] [])) rfl (hb hby d4_40) _ k) ?_
  refine Win.to T233 (mkF m 44 #[.val (.ref a1), .val (.double (13826050856027422720 : UInt64)), .second] []) (fun _ k => XS.dstoreN X233.here hx rfl (hb hby d4_43) rfl (l' := #[.val (.ref a1), .val (.double (13826050856027422720 : UInt64)), .second]) rfl k) ?_
  refine Win.to T233 (mkF m 45 #[.val (.ref a1), .val (.double (13826050856027422720 : UInt64)), .second] [(.double (13826050856027422720 : UInt64))]) (fun _ k => XS.dloadN X233.here hx rfl (hb hby d4_44) rfl k) ?_
  exact Win.retD X233 hx hlk hret (hb hby d4_45) (by decide) (by decide) (by (try rw [e233]); exact ⟨rfl, N0, rfl⟩)
abbrev R_mkNT01 : Room := ⟨2, 0, 0, 24⟩
set_option maxRecDepth 65536 in
set_option maxHeartbeats 40000000 in
theorem mkNT01 (l : Launch) (Z : State) (a0 : Array Value) (hw : ∀ d ∈ tables_1, d.before a0 Z = true) (a1 : Addr) (l1 : Addr) (h0 : Heap) (n0 : Nat) (O0 : Old Z n0 h0) (E1 : Exa Z h0 a1 "com/example/stylewright/stylewright/xpath/NodeTest$NameTest") (F1 : Fld Z h0 a1 "com/example/stylewright/stylewright/xpath/NodeTest$NameTest" "namespaceUri" "Ljava/lang/String;" .null) (F2 : Fld Z h0 a1 "com/example/stylewright/stylewright/xpath/NodeTest$NameTest" "localName" "Ljava/lang/String;" .null) (g1 : n0 ≤ a1) :
    MetN l Z (⟨"com/example/stylewright/stylewright/xpath/NodeTest$NameTest", "<init>", "(Ljava/lang/String;Ljava/lang/String;)V"⟩ : MethodName) prog_92_method_1_code 3 none R_mkNT01 [] #[(.ref a1), .null, (.ref l1)] h0 (fun v h L => v = none ∧ Fr n0 L ∧ Keep h0 h [a1] ∧ Fld Z h a1 "com/example/stylewright/stylewright/xpath/NodeTest$NameTest" "namespaceUri" "Ljava/lang/String;" .null ∧ Fld Z h a1 "com/example/stylewright/stylewright/xpath/NodeTest$NameTest" "localName" "Ljava/lang/String;" (.ref l1)) := by
  refine MetN.walk (plainFor_of_name pn_1) ?_
  intro p e s m below meth c s₁ hx hZ hby hml hown hnm hret hlk X0 e0
  have N0 := Fr.nil n0
  refine Win.to s₁ (mkF m 0 #[.val (.ref a1), .val .null, .val (.ref l1)] []) (fun _ k => castTop (by first | (simp [entryFrame, mkF, argsToLocals, Value.category]; done) | rfl) k) ?_
  refine Win.to s₁ (mkF m 1 #[.val (.ref a1), .val .null, .val (.ref l1)] [(.ref a1)]) (fun _ k => XS.aloadN X0.here hx rfl (hb hby d1_0) rfl rfl k) ?_
  obtain ⟨T234, h234, v234, L234, X234, e234, ⟨rfl, N234q, r234_0⟩, st234⟩ := N.special X0 hx hZ (y := (⟨"java/lang/Record", "<init>", "()V"⟩ : MethodName)) rfl hown (wk hw 6 rfl) (wk hw 7 rfl) (wk hw 9 rfl) (wk hw 10 rfl) (by decide) (mkRec l Z a0 hw a1 h0 n0 O0 ) e0 (g := (mkF m 1 #[.val (.ref a1), .val .null, .val (.ref l1)] [(.ref a1)])) rfl (by rw [hml]; rfl) (a := a1) (argsL := []) (rest := []) rfl (lenOf pd___V rfl) rfl (W := 0) (by show 2 * 0 + _ ≤ _; exact Nat.le_of_eq rfl) (hb hby d1_1) (by decide) (by decide) (by decide) (by decide)
  have N235 := Fr.app N0 N234q
  have e234 := e234.trans r234_0
  refine Win.to T234 (mkF m 4 #[.val (.ref a1), .val .null, .val (.ref l1)] []) (fun _ k => st234 _ k) ?_
  refine Win.to T234 (mkF m 5 #[.val (.ref a1), .val .null, .val (.ref l1)] [(.ref a1)]) (fun _ k => XS.aloadN X234.here hx rfl (hb hby d1_4) rfl rfl k) ?_
  refine Win.to T234 (mkF m 6 #[.val (.ref a1), .val .null, .val (.ref l1)] [.null, (.ref a1)]) (fun _ k => XS.aloadN X234.here hx rfl (hb hby d1_5) rfl rfl k) ?_
  obtain ⟨T236, h236, X236, e236, W236, st236⟩ := putF X234 hx hZ hown (host := "") (Or.inl (wk hw 14 rfl)) Via.refl e234 F1 E1 (Or.inr ⟨(wk hw 15 rfl), rfl, hnm⟩) (wk hw 1 rfl) (ty := (.object "java/lang/String")) (by decide) rfl rfl (g := (mkF m 6 #[.val (.ref a1), .val .null, .val (.ref l1)] [.null, (.ref a1)])) rfl rfl (hb hby d1_6)
  have O238 := Old.wr O0 W236 g1
  have K239 : Keep h0 h236 [a1] := (Keep.refl h0 [a1]).wr W236 (Or.inl (List.mem_of_getElem? (i := 0) rfl))
  have N240 := Fr.snoc X236 N235 g1
  have F237 : Fld Z h236 a1 "com/example/stylewright/stylewright/xpath/NodeTest$NameTest" "namespaceUri" "Ljava/lang/String;" .null := Fld.same W236 F1
  refine Win.to T236 (mkF m 9 #[.val (.ref a1), .val .null, .val (.ref l1)] []) (fun _ k => st236 _ k) ?_
  refine Win.to T236 (mkF m 10 #[.val (.ref a1), .val .null, .val (.ref l1)] [(.ref a1)]) (fun _ k => XS.aloadN X236.here hx rfl (hb hby d1_9) rfl rfl k) ?_
  refine Win.to T236 (mkF m 11 #[.val (.ref a1), .val .null, .val (.ref l1)] [(.ref l1), (.ref a1)]) (fun _ k => XS.aloadN X236.here hx rfl (hb hby d1_10) rfl rfl k) ?_
  have F241 : Exa Z h236 a1 "com/example/stylewright/stylewright/xpath/NodeTest$NameTest" := (Exa.wr W236 E1)
  have F242 : Fld Z h236 a1 "com/example/stylewright/stylewright/xpath/NodeTest$NameTest" "localName" "Ljava/lang/String;" .null := (Fld.other W236 F2 (Or.inr (slot_ne (Or.inr (wk hw 17 rfl)) (Or.inr (wk hw 15 rfl)) (by decide) (t := (.object "java/lang/String")) (t' := (.object "java/lang/String")) (by decide) (by decide))))
  obtain ⟨T243, h243, X243, e243, W243, st243⟩ := putF X236 hx hZ hown (host := "") (Or.inl (wk hw 16 rfl)) Via.refl e236 F242 F241 (Or.inr ⟨(wk hw 17 rfl), rfl, hnm⟩) (wk hw 1 rfl) (ty := (.object "java/lang/String")) (by decide) rfl rfl (g := (mkF m 11 #[.val (.ref a1), .val .null, .val (.ref l1)] [(.ref l1), (.ref a1)])) rfl rfl (hb hby d1_11)
  have O245 := Old.wr O238 W243 g1
  have K246 : Keep h0 h243 [a1] := K239.wr W243 (Or.inl (List.mem_of_getElem? (i := 0) rfl))
  have N247 := Fr.snoc X243 N240 g1
  have F244 : Fld Z h243 a1 "com/example/stylewright/stylewright/xpath/NodeTest$NameTest" "localName" "Ljava/lang/String;" (.ref l1) := Fld.same W243 F242
  refine Win.to T243 (mkF m 14 #[.val (.ref a1), .val .null, .val (.ref l1)] []) (fun _ k => st243 _ k) ?_
  have F248 : Fld Z h243 a1 "com/example/stylewright/stylewright/xpath/NodeTest$NameTest" "namespaceUri" "Ljava/lang/String;" .null := (Fld.other W243 F237 (Or.inr (slot_ne (Or.inr (wk hw 15 rfl)) (Or.inr (wk hw 17 rfl)) (by decide) (t := (.object "java/lang/String")) (t' := (.object "java/lang/String")) (by decide) (by decide))))
  exact Win.retV X243 hx hlk hret (hb hby d1_14) (by decide) (by decide) (by (try rw [e243]); exact ⟨rfl, N247, K246, F248, F244⟩)
abbrev R_prio01 : Room := ⟨0, 0, 0, 0⟩
set_option maxRecDepth 65536 in
set_option maxHeartbeats 40000000 in
theorem prio01 (l : Launch) (Z : State) (a0 : Array Value) (hw : ∀ d ∈ tables_1, d.before a0 Z = true) (a1 : Addr) (l1 : Addr) (h0 : Heap) (n0 : Nat) (O0 : Old Z n0 h0) (F1 : Fld Z h0 a1 "com/example/stylewright/stylewright/xpath/NodeTest$NameTest" "namespaceUri" "Ljava/lang/String;" .null) (F2 : Fld Z h0 a1 "com/example/stylewright/stylewright/xpath/NodeTest$NameTest" "localName" "Ljava/lang/String;" (.ref l1)) :
    MetN l Z (⟨"com/example/stylewright/stylewright/xpath/NodeTest$NameTest", "defaultPriority", "()D"⟩ : MethodName) prog_92_method_4_code 3 (some .double) R_prio01 [] #[(.ref a1)] h0 (fun v h L => v = some (.double (13821547256400052224 : UInt64)) ∧ Fr n0 L ∧ h = h0) := by
  refine MetN.walk (plainFor_of_name pn_4) ?_
  intro p e s m below meth c s₁ hx hZ hby hml hown hnm hret hlk X0 e0
  have N0 := Fr.nil n0
  refine Win.to s₁ (mkF m 0 #[.val (.ref a1), .unset, .unset] []) (fun _ k => castTop (by first | (simp [entryFrame, mkF, argsToLocals, Value.category]; done) | rfl) k) ?_
  refine Win.to s₁ (mkF m 1 #[.val (.ref a1), .unset, .unset] [(.ref a1)]) (fun _ k => XS.aloadN X0.here hx rfl (hb hby d4_0) rfl rfl k) ?_
  obtain ⟨T249, X249, e249, st249⟩ := getF X0 hx hZ hown (host := "") (Or.inl (wk hw 14 rfl)) Via.refl e0 F1 (g := (mkF m 1 #[.val (.ref a1), .unset, .unset] [(.ref a1)])) rfl rfl (hb hby d4_1)
  refine Win.to T249 (mkF m 4 #[.val (.ref a1), .unset, .unset] [.null]) (fun _ k => st249 _ k) ?_
  refine Win.to T249 (mkF m 19 #[.val (.ref a1), .unset, .unset] []) (fun _ k => XS.ifnullYes X249.here hx rfl (pc0 := 4) (pc' := 19) rfl (hb hby d4_4) rfl (by decide) (by decide) k) ?_
  refine Win.to T249 (mkF m 20 #[.val (.ref a1), .unset, .unset] [(.ref a1)]) (fun _ k => XS.aloadN X249.here hx rfl (hb hby d4_19) rfl rfl k) ?_
  obtain ⟨T250, X250, e250, st250⟩ := getF X249 hx hZ hown (host := "") (Or.inl (wk hw 14 rfl)) Via.refl e249 F1 (g := (mkF m 20 #[.val (.ref a1), .unset, .unset] [(.ref a1)])) rfl rfl (hb hby d4_20)
  refine Win.to T250 (mkF m 23 #[.val (.ref a1), .unset, .unset] [.null]) (fun _ k => st250 _ k) ?_
  refine Win.to T250 (mkF m 26 #[.val (.ref a1), .unset, .unset] []) (fun _ k => XS.ifnonnullNo X250.here hx rfl (hb hby d4_23) rfl k) ?_
  refine Win.to T250 (mkF m 27 #[.val (.ref a1), .unset, .unset] [(.ref a1)]) (fun _ k => XS.aloadN X250.here hx rfl (hb hby d4_26) rfl rfl k) ?_
  obtain ⟨T251, X251, e251, st251⟩ := getF X250 hx hZ hown (host := "") (Or.inl (wk hw 16 rfl)) Via.refl e250 F2 (g := (mkF m 27 #[.val (.ref a1), .unset, .unset] [(.ref a1)])) rfl rfl (hb hby d4_27)
  refine Win.to T251 (mkF m 30 #[.val (.ref a1), .unset, .unset] [(.ref l1)]) (fun _ k => st251 _ k) ?_
  refine Win.to T251 (mkF m 33 #[.val (.ref a1), .unset, .unset] []) (fun _ k => XS.ifnullNo X251.here hx rfl (hb hby d4_30) rfl k) ?_
  refine Win.to T251 (mkF m 36 #[.val (.ref a1), .unset, .unset] [(.double (13821547256400052224 : UInt64))]) (fun _ k => X251.ldc2DoubleC hx hown (mvT hZ (wk hw 74 rfl)) (g := (mkF m 33 #[.val (.ref a1), .unset, .unset] [])) rfl (hb hby d4_33) _ k) ?_
  refine Win.to T251 (mkF m 37 #[.val (.ref a1), .val (.double (13821547256400052224 : UInt64)), .second] []) (fun _ k => XS.dstoreN X251.here hx rfl (hb hby d4_36) rfl (l' := #[.val (.ref a1), .val (.double (13821547256400052224 : UInt64)), .second]) rfl k) ?_
  refine Win.to T251 (mkF m 44 #[.val (.ref a1), .val (.double (13821547256400052224 : UInt64)), .second] []) (fun _ k => XS.goto X251.here hx rfl (pc0 := 37) (pc' := 44) rfl (hb hby d4_37) (by decide) (by decide) k) ?_
  refine Win.to T251 (mkF m 45 #[.val (.ref a1), .val (.double (13821547256400052224 : UInt64)), .second] [(.double (13821547256400052224 : UInt64))]) (fun _ k => XS.dloadN X251.here hx rfl (hb hby d4_44) rfl k) ?_
  exact Win.retD X251 hx hlk hret (hb hby d4_45) (by decide) (by decide) (by (try rw [e251]); exact ⟨rfl, N0, rfl⟩)
abbrev R_mkNT10 : Room := ⟨2, 0, 0, 24⟩
set_option maxRecDepth 65536 in
set_option maxHeartbeats 40000000 in
theorem mkNT10 (l : Launch) (Z : State) (a0 : Array Value) (hw : ∀ d ∈ tables_1, d.before a0 Z = true) (a1 : Addr) (u1 : Addr) (h0 : Heap) (n0 : Nat) (O0 : Old Z n0 h0) (E1 : Exa Z h0 a1 "com/example/stylewright/stylewright/xpath/NodeTest$NameTest") (F1 : Fld Z h0 a1 "com/example/stylewright/stylewright/xpath/NodeTest$NameTest" "namespaceUri" "Ljava/lang/String;" .null) (F2 : Fld Z h0 a1 "com/example/stylewright/stylewright/xpath/NodeTest$NameTest" "localName" "Ljava/lang/String;" .null) (g1 : n0 ≤ a1) :
    MetN l Z (⟨"com/example/stylewright/stylewright/xpath/NodeTest$NameTest", "<init>", "(Ljava/lang/String;Ljava/lang/String;)V"⟩ : MethodName) prog_92_method_1_code 3 none R_mkNT10 [] #[(.ref a1), (.ref u1), .null] h0 (fun v h L => v = none ∧ Fr n0 L ∧ Keep h0 h [a1] ∧ Fld Z h a1 "com/example/stylewright/stylewright/xpath/NodeTest$NameTest" "namespaceUri" "Ljava/lang/String;" (.ref u1) ∧ Fld Z h a1 "com/example/stylewright/stylewright/xpath/NodeTest$NameTest" "localName" "Ljava/lang/String;" .null) := by
  refine MetN.walk (plainFor_of_name pn_1) ?_
  intro p e s m below meth c s₁ hx hZ hby hml hown hnm hret hlk X0 e0
  have N0 := Fr.nil n0
  refine Win.to s₁ (mkF m 0 #[.val (.ref a1), .val (.ref u1), .val .null] []) (fun _ k => castTop (by first | (simp [entryFrame, mkF, argsToLocals, Value.category]; done) | rfl) k) ?_
  refine Win.to s₁ (mkF m 1 #[.val (.ref a1), .val (.ref u1), .val .null] [(.ref a1)]) (fun _ k => XS.aloadN X0.here hx rfl (hb hby d1_0) rfl rfl k) ?_
  obtain ⟨T252, h252, v252, L252, X252, e252, ⟨rfl, N252q, r252_0⟩, st252⟩ := N.special X0 hx hZ (y := (⟨"java/lang/Record", "<init>", "()V"⟩ : MethodName)) rfl hown (wk hw 6 rfl) (wk hw 7 rfl) (wk hw 9 rfl) (wk hw 10 rfl) (by decide) (mkRec l Z a0 hw a1 h0 n0 O0 ) e0 (g := (mkF m 1 #[.val (.ref a1), .val (.ref u1), .val .null] [(.ref a1)])) rfl (by rw [hml]; rfl) (a := a1) (argsL := []) (rest := []) rfl (lenOf pd___V rfl) rfl (W := 0) (by show 2 * 0 + _ ≤ _; exact Nat.le_of_eq rfl) (hb hby d1_1) (by decide) (by decide) (by decide) (by decide)
  have N253 := Fr.app N0 N252q
  have e252 := e252.trans r252_0
  refine Win.to T252 (mkF m 4 #[.val (.ref a1), .val (.ref u1), .val .null] []) (fun _ k => st252 _ k) ?_
  refine Win.to T252 (mkF m 5 #[.val (.ref a1), .val (.ref u1), .val .null] [(.ref a1)]) (fun _ k => XS.aloadN X252.here hx rfl (hb hby d1_4) rfl rfl k) ?_
  refine Win.to T252 (mkF m 6 #[.val (.ref a1), .val (.ref u1), .val .null] [(.ref u1), (.ref a1)]) (fun _ k => XS.aloadN X252.here hx rfl (hb hby d1_5) rfl rfl k) ?_
  obtain ⟨T254, h254, X254, e254, W254, st254⟩ := putF X252 hx hZ hown (host := "") (Or.inl (wk hw 14 rfl)) Via.refl e252 F1 E1 (Or.inr ⟨(wk hw 15 rfl), rfl, hnm⟩) (wk hw 1 rfl) (ty := (.object "java/lang/String")) (by decide) rfl rfl (g := (mkF m 6 #[.val (.ref a1), .val (.ref u1), .val .null] [(.ref u1), (.ref a1)])) rfl rfl (hb hby d1_6)
  have O256 := Old.wr O0 W254 g1
  have K257 : Keep h0 h254 [a1] := (Keep.refl h0 [a1]).wr W254 (Or.inl (List.mem_of_getElem? (i := 0) rfl))
  have N258 := Fr.snoc X254 N253 g1
  have F255 : Fld Z h254 a1 "com/example/stylewright/stylewright/xpath/NodeTest$NameTest" "namespaceUri" "Ljava/lang/String;" (.ref u1) := Fld.same W254 F1
  refine Win.to T254 (mkF m 9 #[.val (.ref a1), .val (.ref u1), .val .null] []) (fun _ k => st254 _ k) ?_
  refine Win.to T254 (mkF m 10 #[.val (.ref a1), .val (.ref u1), .val .null] [(.ref a1)]) (fun _ k => XS.aloadN X254.here hx rfl (hb hby d1_9) rfl rfl k) ?_
  refine Win.to T254 (mkF m 11 #[.val (.ref a1), .val (.ref u1), .val .null] [.null, (.ref a1)]) (fun _ k => XS.aloadN X254.here hx rfl (hb hby d1_10) rfl rfl k) ?_
  have F259 : Exa Z h254 a1 "com/example/stylewright/stylewright/xpath/NodeTest$NameTest" := (Exa.wr W254 E1)
  have F260 : Fld Z h254 a1 "com/example/stylewright/stylewright/xpath/NodeTest$NameTest" "localName" "Ljava/lang/String;" .null := (Fld.other W254 F2 (Or.inr (slot_ne (Or.inr (wk hw 17 rfl)) (Or.inr (wk hw 15 rfl)) (by decide) (t := (.object "java/lang/String")) (t' := (.object "java/lang/String")) (by decide) (by decide))))
  obtain ⟨T261, h261, X261, e261, W261, st261⟩ := putF X254 hx hZ hown (host := "") (Or.inl (wk hw 16 rfl)) Via.refl e254 F260 F259 (Or.inr ⟨(wk hw 17 rfl), rfl, hnm⟩) (wk hw 1 rfl) (ty := (.object "java/lang/String")) (by decide) rfl rfl (g := (mkF m 11 #[.val (.ref a1), .val (.ref u1), .val .null] [.null, (.ref a1)])) rfl rfl (hb hby d1_11)
  have O263 := Old.wr O256 W261 g1
  have K264 : Keep h0 h261 [a1] := K257.wr W261 (Or.inl (List.mem_of_getElem? (i := 0) rfl))
  have N265 := Fr.snoc X261 N258 g1
  have F262 : Fld Z h261 a1 "com/example/stylewright/stylewright/xpath/NodeTest$NameTest" "localName" "Ljava/lang/String;" .null := Fld.same W261 F260
  refine Win.to T261 (mkF m 14 #[.val (.ref a1), .val (.ref u1), .val .null] []) (fun _ k => st261 _ k) ?_
  have F266 : Fld Z h261 a1 "com/example/stylewright/stylewright/xpath/NodeTest$NameTest" "namespaceUri" "Ljava/lang/String;" (.ref u1) := (Fld.other W261 F255 (Or.inr (slot_ne (Or.inr (wk hw 15 rfl)) (Or.inr (wk hw 17 rfl)) (by decide) (t := (.object "java/lang/String")) (t' := (.object "java/lang/String")) (by decide) (by decide))))
  exact Win.retV X261 hx hlk hret (hb hby d1_14) (by decide) (by decide) (by (try rw [e261]); exact ⟨rfl, N265, K264, F266, F262⟩)
abbrev R_prio10 : Room := ⟨0, 0, 0, 0⟩
set_option maxRecDepth 65536 in
set_option maxHeartbeats 40000000 in
theorem prio10 (l : Launch) (Z : State) (a0 : Array Value) (hw : ∀ d ∈ tables_1, d.before a0 Z = true) (a1 : Addr) (u1 : Addr) (h0 : Heap) (n0 : Nat) (O0 : Old Z n0 h0) (F1 : Fld Z h0 a1 "com/example/stylewright/stylewright/xpath/NodeTest$NameTest" "namespaceUri" "Ljava/lang/String;" (.ref u1)) (F2 : Fld Z h0 a1 "com/example/stylewright/stylewright/xpath/NodeTest$NameTest" "localName" "Ljava/lang/String;" .null) :
    MetN l Z (⟨"com/example/stylewright/stylewright/xpath/NodeTest$NameTest", "defaultPriority", "()D"⟩ : MethodName) prog_92_method_4_code 3 (some .double) R_prio10 [] #[(.ref a1)] h0 (fun v h L => v = some (.double (13821547256400052224 : UInt64)) ∧ Fr n0 L ∧ h = h0) := by
  refine MetN.walk (plainFor_of_name pn_4) ?_
  intro p e s m below meth c s₁ hx hZ hby hml hown hnm hret hlk X0 e0
  have N0 := Fr.nil n0
  refine Win.to s₁ (mkF m 0 #[.val (.ref a1), .unset, .unset] []) (fun _ k => castTop (by first | (simp [entryFrame, mkF, argsToLocals, Value.category]; done) | rfl) k) ?_
  refine Win.to s₁ (mkF m 1 #[.val (.ref a1), .unset, .unset] [(.ref a1)]) (fun _ k => XS.aloadN X0.here hx rfl (hb hby d4_0) rfl rfl k) ?_
  obtain ⟨T267, X267, e267, st267⟩ := getF X0 hx hZ hown (host := "") (Or.inl (wk hw 14 rfl)) Via.refl e0 F1 (g := (mkF m 1 #[.val (.ref a1), .unset, .unset] [(.ref a1)])) rfl rfl (hb hby d4_1)
  refine Win.to T267 (mkF m 4 #[.val (.ref a1), .unset, .unset] [(.ref u1)]) (fun _ k => st267 _ k) ?_
  refine Win.to T267 (mkF m 7 #[.val (.ref a1), .unset, .unset] []) (fun _ k => XS.ifnullNo X267.here hx rfl (hb hby d4_4) rfl k) ?_
  refine Win.to T267 (mkF m 8 #[.val (.ref a1), .unset, .unset] [(.ref a1)]) (fun _ k => XS.aloadN X267.here hx rfl (hb hby d4_7) rfl rfl k) ?_
  obtain ⟨T268, X268, e268, st268⟩ := getF X267 hx hZ hown (host := "") (Or.inl (wk hw 16 rfl)) Via.refl e267 F2 (g := (mkF m 8 #[.val (.ref a1), .unset, .unset] [(.ref a1)])) rfl rfl (hb hby d4_8)
  refine Win.to T268 (mkF m 11 #[.val (.ref a1), .unset, .unset] [.null]) (fun _ k => st268 _ k) ?_
  refine Win.to T268 (mkF m 19 #[.val (.ref a1), .unset, .unset] []) (fun _ k => XS.ifnullYes X268.here hx rfl (pc0 := 11) (pc' := 19) rfl (hb hby d4_11) rfl (by decide) (by decide) k) ?_
  refine Win.to T268 (mkF m 20 #[.val (.ref a1), .unset, .unset] [(.ref a1)]) (fun _ k => XS.aloadN X268.here hx rfl (hb hby d4_19) rfl rfl k) ?_
  obtain ⟨T269, X269, e269, st269⟩ := getF X268 hx hZ hown (host := "") (Or.inl (wk hw 14 rfl)) Via.refl e268 F1 (g := (mkF m 20 #[.val (.ref a1), .unset, .unset] [(.ref a1)])) rfl rfl (hb hby d4_20)
  refine Win.to T269 (mkF m 23 #[.val (.ref a1), .unset, .unset] [(.ref u1)]) (fun _ k => st269 _ k) ?_
  refine Win.to T269 (mkF m 33 #[.val (.ref a1), .unset, .unset] []) (fun _ k => XS.ifnonnullYes X269.here hx rfl (pc0 := 23) (pc' := 33) rfl (hb hby d4_23) rfl (by decide) (by decide) k) ?_
  refine Win.to T269 (mkF m 36 #[.val (.ref a1), .unset, .unset] [(.double (13821547256400052224 : UInt64))]) (fun _ k => X269.ldc2DoubleC hx hown (mvT hZ (wk hw 74 rfl)) (g := (mkF m 33 #[.val (.ref a1), .unset, .unset] [])) rfl (hb hby d4_33) _ k) ?_
  refine Win.to T269 (mkF m 37 #[.val (.ref a1), .val (.double (13821547256400052224 : UInt64)), .second] []) (fun _ k => XS.dstoreN X269.here hx rfl (hb hby d4_36) rfl (l' := #[.val (.ref a1), .val (.double (13821547256400052224 : UInt64)), .second]) rfl k) ?_
  refine Win.to T269 (mkF m 44 #[.val (.ref a1), .val (.double (13821547256400052224 : UInt64)), .second] []) (fun _ k => XS.goto X269.here hx rfl (pc0 := 37) (pc' := 44) rfl (hb hby d4_37) (by decide) (by decide) k) ?_
  refine Win.to T269 (mkF m 45 #[.val (.ref a1), .val (.double (13821547256400052224 : UInt64)), .second] [(.double (13821547256400052224 : UInt64))]) (fun _ k => XS.dloadN X269.here hx rfl (hb hby d4_44) rfl k) ?_
  exact Win.retD X269 hx hlk hret (hb hby d4_45) (by decide) (by decide) (by (try rw [e269]); exact ⟨rfl, N0, rfl⟩)
abbrev R_mkNT11 : Room := ⟨2, 0, 0, 24⟩
set_option maxRecDepth 65536 in
set_option maxHeartbeats 40000000 in
theorem mkNT11 (l : Launch) (Z : State) (a0 : Array Value) (hw : ∀ d ∈ tables_1, d.before a0 Z = true) (a1 : Addr) (u1 : Addr) (l1 : Addr) (h0 : Heap) (n0 : Nat) (O0 : Old Z n0 h0) (E1 : Exa Z h0 a1 "com/example/stylewright/stylewright/xpath/NodeTest$NameTest") (F1 : Fld Z h0 a1 "com/example/stylewright/stylewright/xpath/NodeTest$NameTest" "namespaceUri" "Ljava/lang/String;" .null) (F2 : Fld Z h0 a1 "com/example/stylewright/stylewright/xpath/NodeTest$NameTest" "localName" "Ljava/lang/String;" .null) (g1 : n0 ≤ a1) :
    MetN l Z (⟨"com/example/stylewright/stylewright/xpath/NodeTest$NameTest", "<init>", "(Ljava/lang/String;Ljava/lang/String;)V"⟩ : MethodName) prog_92_method_1_code 3 none R_mkNT11 [] #[(.ref a1), (.ref u1), (.ref l1)] h0 (fun v h L => v = none ∧ Fr n0 L ∧ Keep h0 h [a1] ∧ Fld Z h a1 "com/example/stylewright/stylewright/xpath/NodeTest$NameTest" "namespaceUri" "Ljava/lang/String;" (.ref u1) ∧ Fld Z h a1 "com/example/stylewright/stylewright/xpath/NodeTest$NameTest" "localName" "Ljava/lang/String;" (.ref l1)) := by
  refine MetN.walk (plainFor_of_name pn_1) ?_
  intro p e s m below meth c s₁ hx hZ hby hml hown hnm hret hlk X0 e0
  have N0 := Fr.nil n0
  refine Win.to s₁ (mkF m 0 #[.val (.ref a1), .val (.ref u1), .val (.ref l1)] []) (fun _ k => castTop (by first | (simp [entryFrame, mkF, argsToLocals, Value.category]; done) | rfl) k) ?_
  refine Win.to s₁ (mkF m 1 #[.val (.ref a1), .val (.ref u1), .val (.ref l1)] [(.ref a1)]) (fun _ k => XS.aloadN X0.here hx rfl (hb hby d1_0) rfl rfl k) ?_
  obtain ⟨T270, h270, v270, L270, X270, e270, ⟨rfl, N270q, r270_0⟩, st270⟩ := N.special X0 hx hZ (y := (⟨"java/lang/Record", "<init>", "()V"⟩ : MethodName)) rfl hown (wk hw 6 rfl) (wk hw 7 rfl) (wk hw 9 rfl) (wk hw 10 rfl) (by decide) (mkRec l Z a0 hw a1 h0 n0 O0 ) e0 (g := (mkF m 1 #[.val (.ref a1), .val (.ref u1), .val (.ref l1)] [(.ref a1)])) rfl (by rw [hml]; rfl) (a := a1) (argsL := []) (rest := []) rfl (lenOf pd___V rfl) rfl (W := 0) (by show 2 * 0 + _ ≤ _; exact Nat.le_of_eq rfl) (hb hby d1_1) (by decide) (by decide) (by decide) (by decide)
  have N271 := Fr.app N0 N270q
  have e270 := e270.trans r270_0
  refine Win.to T270 (mkF m 4 #[.val (.ref a1), .val (.ref u1), .val (.ref l1)] []) (fun _ k => st270 _ k) ?_
  refine Win.to T270 (mkF m 5 #[.val (.ref a1), .val (.ref u1), .val (.ref l1)] [(.ref a1)]) (fun _ k => XS.aloadN X270.here hx rfl (hb hby d1_4) rfl rfl k) ?_
  refine Win.to T270 (mkF m 6 #[.val (.ref a1), .val (.ref u1), .val (.ref l1)] [(.ref u1), (.ref a1)]) (fun _ k => XS.aloadN X270.here hx rfl (hb hby d1_5) rfl rfl k) ?_
  obtain ⟨T272, h272, X272, e272, W272, st272⟩ := putF X270 hx hZ hown (host := "") (Or.inl (wk hw 14 rfl)) Via.refl e270 F1 E1 (Or.inr ⟨(wk hw 15 rfl), rfl, hnm⟩) (wk hw 1 rfl) (ty := (.object "java/lang/String")) (by decide) rfl rfl (g := (mkF m 6 #[.val (.ref a1), .val (.ref u1), .val (.ref l1)] [(.ref u1), (.ref a1)])) rfl rfl (hb hby d1_6)
  have O274 := Old.wr O0 W272 g1
  have K275 : Keep h0 h272 [a1] := (Keep.refl h0 [a1]).wr W272 (Or.inl (List.mem_of_getElem? (i := 0) rfl))
  have N276 := Fr.snoc X272 N271 g1
  have F273 : Fld Z h272 a1 "com/example/stylewright/stylewright/xpath/NodeTest$NameTest" "namespaceUri" "Ljava/lang/String;" (.ref u1) := Fld.same W272 F1
  refine Win.to T272 (mkF m 9 #[.val (.ref a1), .val (.ref u1), .val (.ref l1)] []) (fun _ k => st272 _ k) ?_
  refine Win.to T272 (mkF m 10 #[.val (.ref a1), .val (.ref u1), .val (.ref l1)] [(.ref a1)]) (fun _ k => XS.aloadN X272.here hx rfl (hb hby d1_9) rfl rfl k) ?_
  refine Win.to T272 (mkF m 11 #[.val (.ref a1), .val (.ref u1), .val (.ref l1)] [(.ref l1), (.ref a1)]) (fun _ k => XS.aloadN X272.here hx rfl (hb hby d1_10) rfl rfl k) ?_
  have F277 : Exa Z h272 a1 "com/example/stylewright/stylewright/xpath/NodeTest$NameTest" := (Exa.wr W272 E1)
  have F278 : Fld Z h272 a1 "com/example/stylewright/stylewright/xpath/NodeTest$NameTest" "localName" "Ljava/lang/String;" .null := (Fld.other W272 F2 (Or.inr (slot_ne (Or.inr (wk hw 17 rfl)) (Or.inr (wk hw 15 rfl)) (by decide) (t := (.object "java/lang/String")) (t' := (.object "java/lang/String")) (by decide) (by decide))))
  obtain ⟨T279, h279, X279, e279, W279, st279⟩ := putF X272 hx hZ hown (host := "") (Or.inl (wk hw 16 rfl)) Via.refl e272 F278 F277 (Or.inr ⟨(wk hw 17 rfl), rfl, hnm⟩) (wk hw 1 rfl) (ty := (.object "java/lang/String")) (by decide) rfl rfl (g := (mkF m 11 #[.val (.ref a1), .val (.ref u1), .val (.ref l1)] [(.ref l1), (.ref a1)])) rfl rfl (hb hby d1_11)
  have O281 := Old.wr O274 W279 g1
  have K282 : Keep h0 h279 [a1] := K275.wr W279 (Or.inl (List.mem_of_getElem? (i := 0) rfl))
  have N283 := Fr.snoc X279 N276 g1
  have F280 : Fld Z h279 a1 "com/example/stylewright/stylewright/xpath/NodeTest$NameTest" "localName" "Ljava/lang/String;" (.ref l1) := Fld.same W279 F278
  refine Win.to T279 (mkF m 14 #[.val (.ref a1), .val (.ref u1), .val (.ref l1)] []) (fun _ k => st279 _ k) ?_
  have F284 : Fld Z h279 a1 "com/example/stylewright/stylewright/xpath/NodeTest$NameTest" "namespaceUri" "Ljava/lang/String;" (.ref u1) := (Fld.other W279 F273 (Or.inr (slot_ne (Or.inr (wk hw 15 rfl)) (Or.inr (wk hw 17 rfl)) (by decide) (t := (.object "java/lang/String")) (t' := (.object "java/lang/String")) (by decide) (by decide))))
  exact Win.retV X279 hx hlk hret (hb hby d1_14) (by decide) (by decide) (by (try rw [e279]); exact ⟨rfl, N283, K282, F284, F280⟩)
abbrev R_prio11 : Room := ⟨0, 0, 0, 0⟩
set_option maxRecDepth 65536 in
set_option maxHeartbeats 40000000 in
theorem prio11 (l : Launch) (Z : State) (a0 : Array Value) (hw : ∀ d ∈ tables_1, d.before a0 Z = true) (a1 : Addr) (u1 : Addr) (l1 : Addr) (h0 : Heap) (n0 : Nat) (O0 : Old Z n0 h0) (F1 : Fld Z h0 a1 "com/example/stylewright/stylewright/xpath/NodeTest$NameTest" "namespaceUri" "Ljava/lang/String;" (.ref u1)) (F2 : Fld Z h0 a1 "com/example/stylewright/stylewright/xpath/NodeTest$NameTest" "localName" "Ljava/lang/String;" (.ref l1)) :
    MetN l Z (⟨"com/example/stylewright/stylewright/xpath/NodeTest$NameTest", "defaultPriority", "()D"⟩ : MethodName) prog_92_method_4_code 3 (some .double) R_prio11 [] #[(.ref a1)] h0 (fun v h L => v = some (.double (0 : UInt64)) ∧ Fr n0 L ∧ h = h0) := by
  refine MetN.walk (plainFor_of_name pn_4) ?_
  intro p e s m below meth c s₁ hx hZ hby hml hown hnm hret hlk X0 e0
  have N0 := Fr.nil n0
  refine Win.to s₁ (mkF m 0 #[.val (.ref a1), .unset, .unset] []) (fun _ k => castTop (by first | (simp [entryFrame, mkF, argsToLocals, Value.category]; done) | rfl) k) ?_
  refine Win.to s₁ (mkF m 1 #[.val (.ref a1), .unset, .unset] [(.ref a1)]) (fun _ k => XS.aloadN X0.here hx rfl (hb hby d4_0) rfl rfl k) ?_
  obtain ⟨T285, X285, e285, st285⟩ := getF X0 hx hZ hown (host := "") (Or.inl (wk hw 14 rfl)) Via.refl e0 F1 (g := (mkF m 1 #[.val (.ref a1), .unset, .unset] [(.ref a1)])) rfl rfl (hb hby d4_1)
  refine Win.to T285 (mkF m 4 #[.val (.ref a1), .unset, .unset] [(.ref u1)]) (fun _ k => st285 _ k) ?_
  refine Win.to T285 (mkF m 7 #[.val (.ref a1), .unset, .unset] []) (fun _ k => XS.ifnullNo X285.here hx rfl (hb hby d4_4) rfl k) ?_
  refine Win.to T285 (mkF m 8 #[.val (.ref a1), .unset, .unset] [(.ref a1)]) (fun _ k => XS.aloadN X285.here hx rfl (hb hby d4_7) rfl rfl k) ?_
  obtain ⟨T286, X286, e286, st286⟩ := getF X285 hx hZ hown (host := "") (Or.inl (wk hw 16 rfl)) Via.refl e285 F2 (g := (mkF m 8 #[.val (.ref a1), .unset, .unset] [(.ref a1)])) rfl rfl (hb hby d4_8)
  refine Win.to T286 (mkF m 11 #[.val (.ref a1), .unset, .unset] [(.ref l1)]) (fun _ k => st286 _ k) ?_
  refine Win.to T286 (mkF m 14 #[.val (.ref a1), .unset, .unset] []) (fun _ k => XS.ifnullNo X286.here hx rfl (hb hby d4_11) rfl k) ?_
  refine Win.to T286 (mkF m 15 #[.val (.ref a1), .unset, .unset] [(.double (0 : UInt64))]) (fun _ k => XS.dconst0 X286.here hx rfl (hb hby d4_14) (show FP.dconst0 = (0 : UInt64) from by decide +kernel) k) ?_
  refine Win.to T286 (mkF m 16 #[.val (.ref a1), .val (.double (0 : UInt64)), .second] []) (fun _ k => XS.dstoreN X286.here hx rfl (hb hby d4_15) rfl (l' := #[.val (.ref a1), .val (.double (0 : UInt64)), .second]) rfl k) ?_
  refine Win.to T286 (mkF m 44 #[.val (.ref a1), .val (.double (0 : UInt64)), .second] []) (fun _ k => XS.goto X286.here hx rfl (pc0 := 16) (pc' := 44) rfl (hb hby d4_16) (by decide) (by decide) k) ?_
  refine Win.to T286 (mkF m 45 #[.val (.ref a1), .val (.double (0 : UInt64)), .second] [(.double (0 : UInt64))]) (fun _ k => XS.dloadN X286.here hx rfl (hb hby d4_44) rfl k) ?_
  exact Win.retD X286 hx hlk hret (hb hby d4_45) (by decide) (by decide) (by (try rw [e286]); exact ⟨rfl, N0, rfl⟩)
abbrev R_canEncC : Room := ⟨0, 0, 0, 0⟩
set_option maxRecDepth 65536 in
set_option maxHeartbeats 40000000 in
theorem canEncC (l : Launch) (Z : State) (a0 : Array Value) (hw : ∀ d ∈ tables_1, d.before a0 Z = true) (p1 : Int32) (h0 : Heap) (n0 : Nat) (O0 : Old Z n0 h0) (hl : ¬ (255 : Int32) < p1) :
    MetN l Z (⟨"java/lang/StringLatin1", "canEncode", "(C)Z"⟩ : MethodName) jdk_43_method_3_code 1 (some .boolean) R_canEncC [] #[(.int p1)] h0 (fun v h L => v = some (.int (1 : Int32)) ∧ Fr n0 L ∧ h = h0) := by
  refine MetN.walk (plainFor_of_name pn_12) ?_
  intro p e s m below meth c s₁ hx hZ hby hml hown hnm hret hlk X0 e0
  have N0 := Fr.nil n0
  refine Win.to s₁ (mkF m 0 #[.val (.int p1)] []) (fun _ k => castTop (by first | (simp [entryFrame, mkF, argsToLocals, Value.category]; done) | rfl) k) ?_
  refine Win.to s₁ (mkF m 1 #[.val (.int p1)] [(.int p1)]) (fun _ k => XS.iloadN X0.here hx rfl (hb hby d12_0) rfl k) ?_
  refine Win.to s₁ (mkF m 4 #[.val (.int p1)] [(.int (255 : Int32)), (.int p1)]) (fun _ k => XS.sipush X0.here hx rfl (hb hby d12_1) k) ?_
  refine Win.to s₁ (mkF m 7 #[.val (.int p1)] []) (fun _ k => XS.icmpNo X0.here hx rfl (hb hby d12_4) rfl (flt (show ¬ ((255 : Int32) < p1) from hl)).2.2.1 k) ?_
  refine Win.to s₁ (mkF m 8 #[.val (.int p1)] [(.int (1 : Int32))]) (fun _ k => XS.iconst X0.here hx rfl (hb hby d12_7) k) ?_
  refine Win.to s₁ (mkF m 12 #[.val (.int p1)] [(.int (1 : Int32))]) (fun _ k => XS.goto X0.here hx rfl (pc0 := 8) (pc' := 12) rfl (hb hby d12_8) (by decide) (by decide) k) ?_
  exact Win.retN X0 hx hlk (t := .boolean) hret (by simp) rfl (hb hby d12_12) (by decide) (by decide) (by (try rw [e0]); exact ⟨rfl, N0, rfl⟩)
abbrev R_toB : Room := ⟨0, 1, 1, 0⟩
set_option maxRecDepth 65536 in
set_option maxHeartbeats 40000000 in
theorem toB (l : Launch) (Z : State) (a0 : Array Value) (hw : ∀ d ∈ tables_1, d.before a0 Z = true) (p1 : Int32) (h0 : Heap) (n0 : Nat) (O0 : Old Z n0 h0)  :
    MetN l Z (⟨"java/lang/StringLatin1", "toBytes", "(C)[B"⟩ : MethodName) jdk_43_method_46_code 1 (some (.array .byte)) R_toB [] #[(.int p1)] h0 (fun v h L => ∃ (t : Addr) (kb : ClassId), v = some (.ref t) ∧ Fr n0 L ∧ Keep h0 h [] ∧ h0.size ≤ t ∧ Arv Z h t kb .byte (1 : Int32) [(.int (p1.toInt8.toInt32))] (.int (0 : Int32))) := by
  refine MetN.walk (plainFor_of_name pn_13) ?_
  intro p e s m below meth c s₁ hx hZ hby hml hown hnm hret hlk X0 e0
  have N0 := Fr.nil n0
  refine Win.to s₁ (mkF m 0 #[.val (.int p1)] []) (fun _ k => castTop (by first | (simp [entryFrame, mkF, argsToLocals, Value.category]; done) | rfl) k) ?_
  refine Win.to s₁ (mkF m 1 #[.val (.int p1)] [(.int (1 : Int32))]) (fun _ k => XS.iconst X0.here hx rfl (hb hby d13_0) k) ?_
  obtain ⟨T287, h287, k287, X287, e287, E287, A287, st287⟩ := newP X0 hx hZ (wk hw 42 rfl) e0 (g := (mkF m 1 #[.val (.int p1)] [(.int (1 : Int32))])) rfl (hb hby d13_1) rfl (by decide) (cap := 1) (by decide) (by decide) (by decide) (by decide)
  obtain ⟨b287, g287⟩ : ∃ z, z = h0.size := ⟨_, rfl⟩
  rw [← g287] at A287 st287
  have g288 : n0 ≤ b287 := Nat.le_trans (own_le O0) (Nat.le_of_eq g287.symm)
  have z289 : h0.size ≤ b287 := (Nat.le_of_eq g287.symm)
  have O290 := Old.ext O0 E287
  have K291 : Keep h0 h287 [] := (Keep.refl h0 []).ext E287
  have F292 : Arv Z h287 b287 k287 .byte (1 : Int32) [(.int (0 : Int32))] (.int (0 : Int32)) := (Arv.new A287 (by decide)).pad (pad_rep [] (.int (0 : Int32)) 1)
  refine Win.to T287 (mkF m 3 #[.val (.int p1)] [(.ref b287)]) (fun _ k => st287 _ k) ?_
  refine Win.to T287 (mkF m 4 #[.val (.int p1)] [(.ref b287), (.ref b287)]) (fun _ k => XS.dup X287.here hx rfl (hb hby d13_3) rfl rfl k) ?_
  refine Win.to T287 (mkF m 5 #[.val (.int p1)] [(.int (0 : Int32)), (.ref b287), (.ref b287)]) (fun _ k => XS.iconst X287.here hx rfl (hb hby d13_4) k) ?_
  refine Win.to T287 (mkF m 6 #[.val (.int p1)] [(.int p1), (.int (0 : Int32)), (.ref b287), (.ref b287)]) (fun _ k => XS.iloadN X287.here hx rfl (hb hby d13_5) rfl k) ?_
  refine Win.to T287 (mkF m 7 #[.val (.int p1)] [(.int (p1.toInt8.toInt32)), (.int (0 : Int32)), (.ref b287), (.ref b287)]) (fun _ k => XS.i2b X287.here hx rfl (hb hby d13_6) rfl k) ?_
  obtain ⟨cl293, Ar293, q293, S293, N293, H293, G293⟩ := id F292
  have hi293 : ¬ ((0 : Int32) < 0 ∨ cl293.slots.size ≤ ((0 : Int32)).toNatClampNeg) := inb_of S293 ⟨by decide, by decide⟩
  obtain ⟨T294, h294, X294, e294, W294, st294⟩ := stB X287 hx hZ e287 Ar293 (j := (0 : Int32)) hi293 (g := (mkF m 7 #[.val (.int p1)] [(.int (p1.toInt8.toInt32)), (.int (0 : Int32)), (.ref b287), (.ref b287)])) rfl rfl (hb hby d13_7)
  have O296 := Old.wr O290 W294 g288
  have K297 : Keep h0 h294 [] := K291.wr W294 (Or.inr z289)
  have N298 := Fr.snoc X294 N0 g288
  have eq294 : nar .byte (p1.toInt8.toInt32) = (p1.toInt8.toInt32) := (own_b8 p1)
  have W294 := eq294 ▸ W294
  have F295 : Arv Z h294 b287 k287 .byte (1 : Int32) [(.int (p1.toInt8.toInt32))] (.int (0 : Int32)) := Arv.set Ar293 q293 S293 N293 H293 G293 (eq294 ▸ (fits_nar_byte _)) W294 0 rfl (Nat.le_of_ble_eq_true rfl)
  refine Win.to T294 (mkF m 8 #[.val (.int p1)] [(.ref b287)]) (fun _ k => st294 _ k) ?_
  exact Win.retA X294 hx hlk hret rfl rfl (hb hby d13_8) (by decide) (by decide) (by (try rw [e294]); exact ⟨b287, k287, rfl, N298, K297, z289, F295⟩)
abbrev R_ctorBB : Room := ⟨1, 0, 0, 12⟩
set_option maxRecDepth 65536 in
set_option maxHeartbeats 40000000 in
theorem ctorBB (l : Launch) (Z : State) (a0 : Array Value) (hw : ∀ d ∈ tables_1, d.before a0 Z = true) (a1 : Addr) (t1 : Addr) (h0 : Heap) (n0 : Nat) (O0 : Old Z n0 h0) (E1 : Exa Z h0 a1 "java/lang/String") (F1 : Fld Z h0 a1 "java/lang/String" "value" "[B" .null) (F2 : Fld Z h0 a1 "java/lang/String" "coder" "B" (.int (0 : Int32))) (g1 : n0 ≤ a1) :
    MetN l Z (⟨"java/lang/String", "<init>", "([BB)V"⟩ : MethodName) jdk_42_method_151_code 3 none R_ctorBB [] #[(.ref a1), (.ref t1), (.int (0 : Int32))] h0 (fun v h L => v = none ∧ Fr n0 L ∧ Keep h0 h [a1] ∧ Fld Z h a1 "java/lang/String" "value" "[B" (.ref t1) ∧ Fld Z h a1 "java/lang/String" "coder" "B" (.int (0 : Int32))) := by
  refine MetN.walk (plainFor_of_name pn_14) ?_
  intro p e s m below meth c s₁ hx hZ hby hml hown hnm hret hlk X0 e0
  have N0 := Fr.nil n0
  refine Win.to s₁ (mkF m 0 #[.val (.ref a1), .val (.ref t1), .val (.int (0 : Int32))] []) (fun _ k => castTop (by first | (simp [entryFrame, mkF, argsToLocals, Value.category]; done) | rfl) k) ?_
  refine Win.to s₁ (mkF m 1 #[.val (.ref a1), .val (.ref t1), .val (.int (0 : Int32))] [(.ref a1)]) (fun _ k => XS.aloadN X0.here hx rfl (hb hby d14_0) rfl rfl k) ?_
  obtain ⟨T299, X299, e299, st299⟩ := initO X0 hx hZ hown (wk hw 40 rfl) (wk hw 12 rfl) (wk hw 13 rfl) e0 (g := (mkF m 1 #[.val (.ref a1), .val (.ref t1), .val (.int (0 : Int32))] [(.ref a1)])) rfl (by rw [hml]; rfl) rfl (hb hby d14_1) (by decide) (W := 0) (by show 2 * 0 + _ ≤ _; exact Nat.le_of_eq rfl) (by decide)
  refine Win.to T299 (mkF m 4 #[.val (.ref a1), .val (.ref t1), .val (.int (0 : Int32))] []) (fun _ k => st299 _ k) ?_
  refine Win.to T299 (mkF m 5 #[.val (.ref a1), .val (.ref t1), .val (.int (0 : Int32))] [(.ref a1)]) (fun _ k => XS.aloadN X299.here hx rfl (hb hby d14_4) rfl rfl k) ?_
  refine Win.to T299 (mkF m 6 #[.val (.ref a1), .val (.ref t1), .val (.int (0 : Int32))] [(.ref t1), (.ref a1)]) (fun _ k => XS.aloadN X299.here hx rfl (hb hby d14_5) rfl rfl k) ?_
  obtain ⟨T300, h300, X300, e300, W300, st300⟩ := putF X299 hx hZ hown (host := "") (Or.inl (wk hw 47 rfl)) Via.refl e299 F1 E1 (Or.inr ⟨(wk hw 43 rfl), rfl, hnm⟩) (wk hw 30 rfl) (ty := (.array .byte)) (by decide) rfl rfl (g := (mkF m 6 #[.val (.ref a1), .val (.ref t1), .val (.int (0 : Int32))] [(.ref t1), (.ref a1)])) rfl rfl (hb hby d14_6)
  have O302 := Old.wr O0 W300 g1
  have K303 : Keep h0 h300 [a1] := (Keep.refl h0 [a1]).wr W300 (Or.inl (List.mem_of_getElem? (i := 0) rfl))
  have N304 := Fr.snoc X300 N0 g1
  have F301 : Fld Z h300 a1 "java/lang/String" "value" "[B" (.ref t1) := Fld.same W300 F1
  refine Win.to T300 (mkF m 9 #[.val (.ref a1), .val (.ref t1), .val (.int (0 : Int32))] []) (fun _ k => st300 _ k) ?_
  refine Win.to T300 (mkF m 10 #[.val (.ref a1), .val (.ref t1), .val (.int (0 : Int32))] [(.ref a1)]) (fun _ k => XS.aloadN X300.here hx rfl (hb hby d14_9) rfl rfl k) ?_
  refine Win.to T300 (mkF m 11 #[.val (.ref a1), .val (.ref t1), .val (.int (0 : Int32))] [(.int (0 : Int32)), (.ref a1)]) (fun _ k => XS.iloadN X300.here hx rfl (hb hby d14_10) rfl k) ?_
  have F305 : Exa Z h300 a1 "java/lang/String" := (Exa.wr W300 E1)
  have F306 : Fld Z h300 a1 "java/lang/String" "coder" "B" (.int (0 : Int32)) := (Fld.other W300 F2 (Or.inr (slot_ne (Or.inr (wk hw 44 rfl)) (Or.inr (wk hw 43 rfl)) (by decide) (t := .byte) (t' := (.array .byte)) (by decide) (by decide))))
  obtain ⟨T307, h307, X307, e307, W307, st307⟩ := putFN X300 hx hZ hown (wk hw 48 rfl) Via.refl e300 F306 F305 (Or.inr ⟨(wk hw 44 rfl), rfl, hnm⟩) (wk hw 30 rfl) (ty := .byte) (v' := (.int (0 : Int32))) (by decide) rfl rfl (g := (mkF m 11 #[.val (.ref a1), .val (.ref t1), .val (.int (0 : Int32))] [(.int (0 : Int32)), (.ref a1)])) rfl rfl (hb hby d14_11)
  have O309 := Old.wr O302 W307 g1
  have K310 : Keep h0 h307 [a1] := K303.wr W307 (Or.inl (List.mem_of_getElem? (i := 0) rfl))
  have N311 := Fr.snoc X307 N304 g1
  have F308 : Fld Z h307 a1 "java/lang/String" "coder" "B" (.int (0 : Int32)) := Fld.same W307 F306
  refine Win.to T307 (mkF m 14 #[.val (.ref a1), .val (.ref t1), .val (.int (0 : Int32))] []) (fun _ k => st307 _ k) ?_
  have F312 : Fld Z h307 a1 "java/lang/String" "value" "[B" (.ref t1) := (Fld.other W307 F301 (Or.inr (slot_ne (Or.inr (wk hw 43 rfl)) (Or.inr (wk hw 44 rfl)) (by decide) (t := (.array .byte)) (t' := .byte) (by decide) (by decide))))
  exact Win.retV X307 hx hlk hret (hb hby d14_14) (by decide) (by decide) (by (try rw [e307]); exact ⟨rfl, N311, K310, F312, F308⟩)
abbrev R_valOf : Room := ⟨2, 2, 5, 27⟩
set_option maxRecDepth 65536 in
set_option maxHeartbeats 40000000 in
theorem valOf (l : Launch) (Z : State) (a0 : Array Value) (hw : ∀ d ∈ tables_1, d.before a0 Z = true) (p1 : Int32) (cs : Int32) (h0 : Heap) (n0 : Nat) (O0 : Old Z n0 h0) (hl : ¬ (255 : Int32) < p1) (S_CS : Sta Z Z.heap "java/lang/String" "COMPACT_STRINGS" "Z" (.int cs)) (hcs : ¬ (cs = (0 : Int32))) :
    MetN l Z (⟨"java/lang/String", "valueOf", "(C)Ljava/lang/String;"⟩ : MethodName) jdk_42_method_139_code 1 (some (.object "java/lang/String")) R_valOf [] #[(.int p1)] h0 (fun v h L => ∃ (r : Addr), v = some (.ref r) ∧ Fr n0 L ∧ Keep h0 h [] ∧ Exa Z h r "java/lang/String") := by
  refine MetN.walk (plainFor_of_name pn_11) ?_
  intro p e s m below meth c s₁ hx hZ hby hml hown hnm hret hlk X0 e0
  have N0 := Fr.nil n0
  refine Win.to s₁ (mkF m 0 #[.val (.int p1)] []) (fun _ k => castTop (by first | (simp [entryFrame, mkF, argsToLocals, Value.category]; done) | rfl) k) ?_
  obtain ⟨T313, X313, e313, st313⟩ := getS2 X0 hx hZ hown (host := "") (Or.inl (wk hw 49 rfl)) Via.refl e0 (Sta.ext O0.2 S_CS) (g := (mkF m 0 #[.val (.int p1)] [])) rfl (hb hby d11_0)
  refine Win.to T313 (mkF m 3 #[.val (.int p1)] [(.int cs)]) (fun _ k => st313 _ k) ?_
  refine Win.to T313 (mkF m 6 #[.val (.int p1)] []) (fun _ k => XS.ifNo X313.here hx rfl (hb hby d11_3) rfl ((if0 _ _).trans (feq (show ¬ (cs = (0 : Int32)) from hcs)).1) k) ?_
  refine Win.to T313 (mkF m 7 #[.val (.int p1)] [(.int p1)]) (fun _ k => XS.iloadN X313.here hx rfl (hb hby d11_6) rfl k) ?_
  obtain ⟨T314, h314, v314, L314, X314, e314, ⟨rfl, N314q, r314_0⟩, st314⟩ := N.static X313 hx hZ (y := (⟨"java/lang/StringLatin1", "canEncode", "(C)Z"⟩ : MethodName)) hown (wk hw 63 rfl) (wk hw 64 rfl) (wk hw 65 rfl) (wk hw 66 rfl) (by decide) (canEncC l Z a0 hw p1 h0 n0 O0 hl) e313 (g := (mkF m 7 #[.val (.int p1)] [(.int p1)])) rfl (by rw [hml]; rfl) (argsL := [(.int p1)]) (rest := []) rfl (lenOf pd__C_Z rfl) rfl (W := 0) (by show 2 * 0 + _ ≤ _; exact Nat.le_of_eq rfl) (hb hby d11_7) (by decide) (by decide) (by decide) (by decide)
  have N315 := Fr.app N0 N314q
  have e314 := e314.trans r314_0
  refine Win.to T314 (mkF m 10 #[.val (.int p1)] [(.int (1 : Int32))]) (fun _ k => st314 _ k) ?_
  refine Win.to T314 (mkF m 13 #[.val (.int p1)] []) (fun _ k => XS.ifNo X314.here hx rfl (hb hby d11_10) rfl ((if0 _ _).trans (feq (show ¬ ((1 : Int32) = (0 : Int32)) from by decide)).1) k) ?_
  obtain ⟨T316, h316, X316, e316, E316, A316, D316, -, st316⟩ := newO X314 hx hZ hown (wk hw 67 rfl) (wk hw 30 rfl) (wk hw 31 rfl) e314 (g := (mkF m 13 #[.val (.int p1)] [])) rfl (hb hby d11_13) (by decide) (by decide)
  obtain ⟨b316, g316⟩ : ∃ z, z = h0.size := ⟨_, rfl⟩
  rw [← g316] at A316 D316 st316
  have g317 : n0 ≤ b316 := Nat.le_trans (own_le O0) (Nat.le_of_eq g316.symm)
  have z318 : h0.size ≤ b316 := (Nat.le_of_eq g316.symm)
  have O319 := Old.ext O0 E316
  have K320 : Keep h0 h316 [] := (Keep.refl h0 []).ext E316
  have F321 : Fld Z h316 b316 "java/lang/String" "value" "[B" .null := D316 (Or.inr (wk hw 43 rfl)) (ty := (.array .byte)) (by decide)
  have F322 : Fld Z h316 b316 "java/lang/String" "coder" "B" (.int (0 : Int32)) := D316 (Or.inr (wk hw 44 rfl)) (ty := .byte) (by decide)
  refine Win.to T316 (mkF m 16 #[.val (.int p1)] [(.ref b316)]) (fun _ k => st316 _ k) ?_
  refine Win.to T316 (mkF m 17 #[.val (.int p1)] [(.ref b316), (.ref b316)]) (fun _ k => XS.dup X316.here hx rfl (hb hby d11_16) rfl rfl k) ?_
  refine Win.to T316 (mkF m 18 #[.val (.int p1)] [(.int p1), (.ref b316), (.ref b316)]) (fun _ k => XS.iloadN X316.here hx rfl (hb hby d11_17) rfl k) ?_
  obtain ⟨T323, h323, v323, L323, X323, e323, ⟨t_323, kb_323, rfl, N323q, r323_0, r323_1, r323_2⟩, st323⟩ := N.static X316 hx hZ (y := (⟨"java/lang/StringLatin1", "toBytes", "(C)[B"⟩ : MethodName)) hown (wk hw 68 rfl) (wk hw 69 rfl) (wk hw 65 rfl) (wk hw 70 rfl) (by decide) (toB l Z a0 hw p1 h316 n0 O319 ) e316 (g := (mkF m 18 #[.val (.int p1)] [(.int p1), (.ref b316), (.ref b316)])) rfl (by rw [hml]; rfl) (argsL := [(.int p1)]) (rest := [(.ref b316), (.ref b316)]) rfl (lenOf pd__C__B rfl) rfl (W := 2) (by show 2 * 0 + _ ≤ _; exact Nat.le_of_eq rfl) (hb hby d11_18) (by decide) (by decide) (by decide) (by decide)
  have N324 := Fr.app N315 N323q
  have ne325 : b316 ≠ t_323 := Nat.ne_of_lt (Nat.lt_of_lt_of_le A316.lt r323_1)
  have g326 : n0 ≤ t_323 := Nat.le_trans (own_le O319) r323_1
  have z327 : h0.size ≤ t_323 := Nat.le_trans K320.1 r323_1
  have O328 := Old.keep O319 r323_0 all0
  have K329 : Keep h0 h323 [] := Keep.trans K320 r323_0 all0
  refine Win.to T323 (mkF m 21 #[.val (.int p1)] [(.ref t_323), (.ref b316), (.ref b316)]) (fun _ k => st323 _ k) ?_
  refine Win.to T323 (mkF m 22 #[.val (.int p1)] [(.int (0 : Int32)), (.ref t_323), (.ref b316), (.ref b316)]) (fun _ k => XS.iconst X323.here hx rfl (hb hby d11_21) k) ?_
  have F330 : Exa Z h323 b316 "java/lang/String" := (A316.keep r323_0)
  have F331 : Fld Z h323 b316 "java/lang/String" "value" "[B" .null := (F321.keep r323_0 nin0)
  have F332 : Fld Z h323 b316 "java/lang/String" "coder" "B" (.int (0 : Int32)) := (F322.keep r323_0 nin0)
  obtain ⟨T333, h333, v333, L333, X333, e333, ⟨rfl, N333q, r333_0, r333_1, r333_2⟩, st333⟩ := N.special X323 hx hZ (y := (⟨"java/lang/String", "<init>", "([BB)V"⟩ : MethodName)) rfl hown (wk hw 71 rfl) (wk hw 72 rfl) (wk hw 31 rfl) (wk hw 73 rfl) (by decide) (ctorBB l Z a0 hw b316 t_323 h323 n0 O328 F330 F331 F332 g317) e323 (g := (mkF m 22 #[.val (.int p1)] [(.int (0 : Int32)), (.ref t_323), (.ref b316), (.ref b316)])) rfl (by rw [hml]; rfl) (a := b316) (argsL := [(.ref t_323), (.int (0 : Int32))]) (rest := [(.ref b316)]) rfl (lenOf pd___BB_V rfl) rfl (W := 1) (by show 2 * 0 + _ ≤ _; exact Nat.le_of_eq rfl) (hb hby d11_22) (by decide) (by decide) (by decide) (by decide)
  have N334 := Fr.app N324 N333q
  have O335 := Old.keep O328 r333_0 (allS g317 all0)
  have K336 : Keep h0 h333 [] := Keep.trans K329 r333_0 (allS (Or.inr z318) all0)
  refine Win.to T333 (mkF m 25 #[.val (.int p1)] [(.ref b316)]) (fun _ k => st333 _ k) ?_
  have F337 : Exa Z h333 b316 "java/lang/String" := (F330.keep r333_0)
  exact Win.retA X333 hx hlk hret rfl rfl (hb hby d11_25) (by decide) (by decide) (by (try rw [e333]); exact ⟨b316, rfl, N334, K336, F337⟩)
abbrev R_draw : Room := ⟨4, 6, 14, 66⟩
set_option maxRecDepth 65536 in
set_option maxHeartbeats 40000000 in
theorem draw (l : Launch) (Z : State) (a0 : Array Value) (hw : ∀ d ∈ tables_1, d.before a0 Z = true) (p1 : Int32) (p2 : Int32) (p3 : Int32) (cs : Int32) (h0 : Heap) (n0 : Nat) (O0 : Old Z n0 h0) (S_CS : Sta Z Z.heap "java/lang/String" "COMPACT_STRINGS" "Z" (.int cs)) (hcs : ¬ (cs = (0 : Int32))) :
    MetW l Z (⟨"com/example/stylewright/stylewright/xpath/NameTestDefaultPriorityPinLaw", "draw", "(III)Ljava/lang/String;"⟩ : MethodName) method_3_code 6 (some (.object "java/lang/String")) R_draw [] #[(.int p1), (.int p2), (.int p3)] h0 EL1 (fun v h L => ∃ (r : Addr), v = some (.ref r) ∧ Fr n0 L ∧ Keep h0 h [] ∧ Exa Z h r "java/lang/String") := by
  refine MetW.walk (plainFor_of_name pn_5) ?_
  intro p e s m below meth c s₁ hx hZ hby hml hown hnm hret hlk C0 hS0 X0 e0
  have N0 := Fr.nil n0
  refine WinW.to s₁ (mkF m 0 #[.val (.int p1), .val (.int p2), .val (.int p3), .unset, .unset, .unset] []) (fun _ k => castTop (by first | (simp [entryFrame, mkF, argsToLocals, Value.category]; done) | rfl) k) ?_
  refine WinW.to s₁ (mkF m 1 #[.val (.int p1), .val (.int p2), .val (.int p3), .unset, .unset, .unset] [(.int p2)]) (fun _ k => XS.iloadN X0.here hx rfl (hb hby d5_0) rfl k) ?_
  refine WinW.to s₁ (mkF m 4 #[.val (.int p1), .val (.int p2), .val (.int p3), .unset, .unset, .unset] [(.int (255 : Int32)), (.int p2)]) (fun _ k => XS.sipush X0.here hx rfl (hb hby d5_1) k) ?_
  refine WinW.to s₁ (mkF m 5 #[.val (.int p1), .val (.int p2), .val (.int p3), .unset, .unset, .unset] [(.int (p2 &&& (255 : Int32)))]) (fun _ k => XS.iand X0.here hx rfl (hb hby d5_4) rfl k) ?_
  refine WinW.to s₁ (mkF m 6 #[.val (.int p1), .val (.int p2), .val (.int p3), .unset, .unset, .unset] [(.int (p2 &&& (255 : Int32)))]) (fun _ k => XS.i2c X0.here hx rfl (hb hby d5_5) rfl (by rw [show ((p2 &&& (255 : Int32)).toUInt32.toUInt16.toUInt32.toInt32) = (p2 &&& (255 : Int32)) from (i2c_mask p2)]; exact k)) ?_
  refine WinW.to s₁ (mkF m 7 #[.val (.int p1), .val (.int p2), .val (.int p3), .val (.int (p2 &&& (255 : Int32))), .unset, .unset] []) (fun _ k => XS.istoreN X0.here hx rfl (hb hby d5_6) rfl (l' := #[.val (.int p1), .val (.int p2), .val (.int p3), .val (.int (p2 &&& (255 : Int32))), .unset, .unset]) rfl k) ?_
  refine WinW.to s₁ (mkF m 8 #[.val (.int p1), .val (.int p2), .val (.int p3), .val (.int (p2 &&& (255 : Int32))), .unset, .unset] [(.int p3)]) (fun _ k => XS.iloadN X0.here hx rfl (hb hby d5_7) rfl k) ?_
  refine WinW.to s₁ (mkF m 11 #[.val (.int p1), .val (.int p2), .val (.int p3), .val (.int (p2 &&& (255 : Int32))), .unset, .unset] [(.int (255 : Int32)), (.int p3)]) (fun _ k => XS.sipush X0.here hx rfl (hb hby d5_8) k) ?_
  refine WinW.to s₁ (mkF m 12 #[.val (.int p1), .val (.int p2), .val (.int p3), .val (.int (p2 &&& (255 : Int32))), .unset, .unset] [(.int (p3 &&& (255 : Int32)))]) (fun _ k => XS.iand X0.here hx rfl (hb hby d5_11) rfl k) ?_
  refine WinW.to s₁ (mkF m 13 #[.val (.int p1), .val (.int p2), .val (.int p3), .val (.int (p2 &&& (255 : Int32))), .unset, .unset] [(.int (p3 &&& (255 : Int32)))]) (fun _ k => XS.i2c X0.here hx rfl (hb hby d5_12) rfl (by rw [show ((p3 &&& (255 : Int32)).toUInt32.toUInt16.toUInt32.toInt32) = (p3 &&& (255 : Int32)) from (i2c_mask p3)]; exact k)) ?_
  refine WinW.to s₁ (mkF m 15 #[.val (.int p1), .val (.int p2), .val (.int p3), .val (.int (p2 &&& (255 : Int32))), .val (.int (p3 &&& (255 : Int32))), .unset] []) (fun _ k => XS.istore X0.here hx rfl (hb hby d5_13) rfl (l' := #[.val (.int p1), .val (.int p2), .val (.int p3), .val (.int (p2 &&& (255 : Int32))), .val (.int (p3 &&& (255 : Int32))), .unset]) rfl k) ?_
  refine WinW.to s₁ (mkF m 16 #[.val (.int p1), .val (.int p2), .val (.int p3), .val (.int (p2 &&& (255 : Int32))), .val (.int (p3 &&& (255 : Int32))), .unset] [(.int p1)]) (fun _ k => XS.iloadN X0.here hx rfl (hb hby d5_15) rfl k) ?_
  by_cases hc338 : p1 = (0 : Int32)
  · refine WinW.to s₁ (mkF m 19 #[.val (.int p1), .val (.int p2), .val (.int p3), .val (.int (p2 &&& (255 : Int32))), .val (.int (p3 &&& (255 : Int32))), .unset] []) (fun _ k => XS.ifNo X0.here hx rfl (hb hby d5_16) rfl ((if0 _ _).trans (teq hc338).2) k) ?_
    obtain ⟨T339, h339, X339, e339, E339, A339, D339, -, st339⟩ := newO X0 hx hZ hown (wk hw 29 rfl) (wk hw 30 rfl) (wk hw 31 rfl) e0 (g := (mkF m 19 #[.val (.int p1), .val (.int p2), .val (.int p3), .val (.int (p2 &&& (255 : Int32))), .val (.int (p3 &&& (255 : Int32))), .unset] [])) rfl (hb hby d5_19) (by decide) (by decide)
    obtain ⟨b339, g339⟩ : ∃ z, z = h0.size := ⟨_, rfl⟩
    rw [← g339] at A339 D339 st339
    have g340 : n0 ≤ b339 := Nat.le_trans (own_le O0) (Nat.le_of_eq g339.symm)
    have z341 : h0.size ≤ b339 := (Nat.le_of_eq g339.symm)
    have O342 := Old.ext O0 E339
    have K343 : Keep h0 h339 [] := (Keep.refl h0 []).ext E339
    have c344 := CHr.ext E339 C0.1
    have C345 := CHr.trans C0 c344
    have F346 : Fld Z h339 b339 "java/lang/String" "value" "[B" .null := D339 (Or.inr (wk hw 43 rfl)) (ty := (.array .byte)) (by decide)
    have F347 : Fld Z h339 b339 "java/lang/String" "coder" "B" (.int (0 : Int32)) := D339 (Or.inr (wk hw 44 rfl)) (ty := .byte) (by decide)
    refine WinW.to T339 (mkF m 22 #[.val (.int p1), .val (.int p2), .val (.int p3), .val (.int (p2 &&& (255 : Int32))), .val (.int (p3 &&& (255 : Int32))), .unset] [(.ref b339)]) (fun _ k => st339 _ k) ?_
    refine WinW.to T339 (mkF m 23 #[.val (.int p1), .val (.int p2), .val (.int p3), .val (.int (p2 &&& (255 : Int32))), .val (.int (p3 &&& (255 : Int32))), .unset] [(.ref b339), (.ref b339)]) (fun _ k => XS.dup X339.here hx rfl (hb hby d5_22) rfl rfl k) ?_
    refine WinW.to T339 (mkF m 24 #[.val (.int p1), .val (.int p2), .val (.int p3), .val (.int (p2 &&& (255 : Int32))), .val (.int (p3 &&& (255 : Int32))), .unset] [(.int (0 : Int32)), (.ref b339), (.ref b339)]) (fun _ k => XS.iconst X339.here hx rfl (hb hby d5_23) k) ?_
    obtain ⟨T348, h348, k348, X348, e348, E348, A348, st348⟩ := newP X339 hx hZ (wk hw 32 rfl) e339 (g := (mkF m 24 #[.val (.int p1), .val (.int p2), .val (.int p3), .val (.int (p2 &&& (255 : Int32))), .val (.int (p3 &&& (255 : Int32))), .unset] [(.int (0 : Int32)), (.ref b339), (.ref b339)])) rfl (hb hby d5_24) rfl (by decide) (cap := 0) (by decide) (by decide) (by decide) (by decide)
    obtain ⟨b348, g348⟩ : ∃ z, z = h339.size := ⟨_, rfl⟩
    rw [← g348] at A348 st348
    have ne349 : b339 ≠ b348 := Nat.ne_of_lt (Nat.lt_of_lt_of_le A339.lt (Nat.le_of_eq g348.symm))
    have g350 : n0 ≤ b348 := Nat.le_trans (own_le O342) (Nat.le_of_eq g348.symm)
    have z351 : h0.size ≤ b348 := Nat.le_trans K343.1 (Nat.le_of_eq g348.symm)
    have O352 := Old.ext O342 E348
    have K353 : Keep h0 h348 [] := K343.ext E348
    have c354 := CHr.ext E348 C345.1
    have C355 := CHr.trans C345 c354
    have F356 : Arv Z h348 b348 k348 .char (0 : Int32) [] (.int (0 : Int32)) := (Arv.new A348 (by decide)).pad (pad_rep [] (.int (0 : Int32)) 0)
    refine WinW.to T348 (mkF m 26 #[.val (.int p1), .val (.int p2), .val (.int p3), .val (.int (p2 &&& (255 : Int32))), .val (.int (p3 &&& (255 : Int32))), .unset] [(.ref b348), (.ref b339), (.ref b339)]) (fun _ k => st348 _ k) ?_
    have F357 : ArF Z h348 b348 k348 .char 0 (fun i => ([] : List Int32).getD i (0 : Int32)) := own_arf [] F356 rfl
    have F358 : Exa Z h348 b339 "java/lang/String" := (Exa.ext E348 A339)
    have F359 : Fld Z h348 b339 "java/lang/String" "value" "[B" .null := (Fld.ext E348 F346)
    have F360 : Fld Z h348 b339 "java/lang/String" "coder" "B" (.int (0 : Int32)) := (Fld.ext E348 F347)
    obtain ⟨T361, h361, v361, L361, k361, X361, e361, hS361, hk361, hZ361, hown361, ⟨t_361, kb_361, rfl, N361q, r361_0, r361_1, r361_2, r361_3⟩, c361, st361⟩ := W.special X348 hS0 (Nat.zero_le _) hx hZ (y := (⟨"java/lang/String", "<init>", "([C)V"⟩ : MethodName)) rfl hown (wk hw 33 rfl) (wk hw 34 rfl) (wk hw 31 rfl) (wk hw 35 rfl) (by decide) (ctor1 l Z a0 hw b339 b348 k348 0 (fun i => ([] : List Int32).getD i (0 : Int32)) cs h348 n0 O352 F358 F359 F360 F357 (fun i hi => absurd hi (Nat.not_lt_zero _)) (by decide) g340 S_CS hcs) (own_EW hw) C355.1 e348 (g := (mkF m 26 #[.val (.int p1), .val (.int p2), .val (.int p3), .val (.int (p2 &&& (255 : Int32))), .val (.int (p3 &&& (255 : Int32))), .unset] [(.ref b348), (.ref b339), (.ref b339)])) rfl (by rw [hml]; rfl) (a := b339) (argsL := [(.ref b348)]) (rest := [(.ref b339)]) rfl (lenOf pd___C_V rfl) rfl (W := 1) (by show 2 * 0 + _ ≤ _; exact Nat.le_of_eq rfl) (hb hby d5_26) (by decide) (by decide) (by decide) (by decide)
    have N362 := Fr.app N0 N361q
    have O363 := Old.keep O352 r361_0 (allS g340 all0)
    have K364 : Keep h0 h361 [] := Keep.trans K353 r361_0 (allS (Or.inr z341) all0)
    have c365 := c361
    have C366 := CHr.trans C355 c365
    refine WinW.to T361 (mkF m 29 #[.val (.int p1), .val (.int p2), .val (.int p3), .val (.int (p2 &&& (255 : Int32))), .val (.int (p3 &&& (255 : Int32))), .unset] [(.ref b339)]) (fun _ k => st361 _ k) ?_
    have F367 : Exa Z h361 b339 "java/lang/String" := (F358.keep r361_0)
    exact WinW.retA X361 hS361 (by rw [e361]; exact hk361) hx hlk hret rfl rfl (hb hby d5_29) hZ361 (own_EW hw) (by rw [e361]; exact C366) (by decide) (by decide) (by (try rw [e361]); exact ⟨b339, rfl, N362, K364, F367⟩)
  · refine WinW.to s₁ (mkF m 30 #[.val (.int p1), .val (.int p2), .val (.int p3), .val (.int (p2 &&& (255 : Int32))), .val (.int (p3 &&& (255 : Int32))), .unset] []) (fun _ k => XS.ifYes X0.here hx rfl (pc0 := 16) (pc' := 30) rfl (hb hby d5_16) rfl ((if0 _ _).trans (feq hc338).2) (by decide) (by decide) k) ?_
    refine WinW.to s₁ (mkF m 31 #[.val (.int p1), .val (.int p2), .val (.int p3), .val (.int (p2 &&& (255 : Int32))), .val (.int (p3 &&& (255 : Int32))), .unset] [(.int p1)]) (fun _ k => XS.iloadN X0.here hx rfl (hb hby d5_30) rfl k) ?_
    refine WinW.to s₁ (mkF m 32 #[.val (.int p1), .val (.int p2), .val (.int p3), .val (.int (p2 &&& (255 : Int32))), .val (.int (p3 &&& (255 : Int32))), .unset] [(.int (1 : Int32)), (.int p1)]) (fun _ k => XS.iconst X0.here hx rfl (hb hby d5_31) k) ?_
    by_cases hc368 : p1 = (1 : Int32)
    · refine WinW.to s₁ (mkF m 35 #[.val (.int p1), .val (.int p2), .val (.int p3), .val (.int (p2 &&& (255 : Int32))), .val (.int (p3 &&& (255 : Int32))), .unset] []) (fun _ k => XS.icmpNo X0.here hx rfl (hb hby d5_32) rfl (teq hc368).2 k) ?_
      refine WinW.to s₁ (mkF m 36 #[.val (.int p1), .val (.int p2), .val (.int p3), .val (.int (p2 &&& (255 : Int32))), .val (.int (p3 &&& (255 : Int32))), .unset] [(.int (p2 &&& (255 : Int32)))]) (fun _ k => XS.iloadN X0.here hx rfl (hb hby d5_35) rfl k) ?_
      obtain ⟨T369, h369, v369, L369, X369, e369, ⟨r_369, rfl, N369q, r369_0, r369_1⟩, st369⟩ := N.static X0 hx hZ (y := (⟨"java/lang/String", "valueOf", "(C)Ljava/lang/String;"⟩ : MethodName)) hown (wk hw 60 rfl) (wk hw 61 rfl) (wk hw 31 rfl) (wk hw 62 rfl) (by decide) (valOf l Z a0 hw (p2 &&& (255 : Int32)) cs h0 n0 O0 (own_255 p2) S_CS hcs) e0 (g := (mkF m 36 #[.val (.int p1), .val (.int p2), .val (.int p3), .val (.int (p2 &&& (255 : Int32))), .val (.int (p3 &&& (255 : Int32))), .unset] [(.int (p2 &&& (255 : Int32)))])) rfl (by rw [hml]; rfl) (argsL := [(.int (p2 &&& (255 : Int32)))]) (rest := []) rfl (lenOf pd__C_Ljava_lang_String_ rfl) rfl (W := 0) (by show 2 * 0 + _ ≤ _; exact Nat.le_of_eq rfl) (hb hby d5_36) (by decide) (by decide) (by decide) (by decide)
      have N370 := Fr.app N0 N369q
      have O371 := Old.keep O0 r369_0 all0
      have K372 : Keep h0 h369 [] := Keep.trans (Keep.refl h0 []) r369_0 all0
      have c373 := CHr.keep r369_0 sf0 C0.1
      have C374 := CHr.trans C0 c373
      refine WinW.to T369 (mkF m 39 #[.val (.int p1), .val (.int p2), .val (.int p3), .val (.int (p2 &&& (255 : Int32))), .val (.int (p3 &&& (255 : Int32))), .unset] [(.ref r_369)]) (fun _ k => st369 _ k) ?_
      exact WinW.retA X369 hS0 (by rw [e369]; exact (Nat.zero_le _)) hx hlk hret rfl rfl (hb hby d5_39) hZ (own_EW hw) (by rw [e369]; exact C374) (by decide) (by decide) (by (try rw [e369]); exact ⟨r_369, rfl, N370, K372, r369_1⟩)
    · refine WinW.to s₁ (mkF m 40 #[.val (.int p1), .val (.int p2), .val (.int p3), .val (.int (p2 &&& (255 : Int32))), .val (.int (p3 &&& (255 : Int32))), .unset] []) (fun _ k => XS.icmpYes X0.here hx rfl (pc0 := 32) (pc' := 40) rfl (hb hby d5_32) rfl (feq hc368).2 (by decide) (by decide) k) ?_
      refine WinW.to s₁ (mkF m 41 #[.val (.int p1), .val (.int p2), .val (.int p3), .val (.int (p2 &&& (255 : Int32))), .val (.int (p3 &&& (255 : Int32))), .unset] [(.int (2 : Int32))]) (fun _ k => XS.iconst X0.here hx rfl (hb hby d5_40) k) ?_
      obtain ⟨T375, h375, k375, X375, e375, E375, A375, st375⟩ := newP X0 hx hZ (wk hw 32 rfl) e0 (g := (mkF m 41 #[.val (.int p1), .val (.int p2), .val (.int p3), .val (.int (p2 &&& (255 : Int32))), .val (.int (p3 &&& (255 : Int32))), .unset] [(.int (2 : Int32))])) rfl (hb hby d5_41) rfl (by decide) (cap := 2) (by decide) (by decide) (by decide) (by decide)
      obtain ⟨b375, g375⟩ : ∃ z, z = h0.size := ⟨_, rfl⟩
      rw [← g375] at A375 st375
      have g376 : n0 ≤ b375 := Nat.le_trans (own_le O0) (Nat.le_of_eq g375.symm)
      have z377 : h0.size ≤ b375 := (Nat.le_of_eq g375.symm)
      have O378 := Old.ext O0 E375
      have K379 : Keep h0 h375 [] := (Keep.refl h0 []).ext E375
      have c380 := CHr.ext E375 C0.1
      have C381 := CHr.trans C0 c380
      have F382 : Arv Z h375 b375 k375 .char (2 : Int32) [(.int (0 : Int32)), (.int (0 : Int32))] (.int (0 : Int32)) := (Arv.new A375 (by decide)).pad (pad_rep [] (.int (0 : Int32)) 2)
      refine WinW.to T375 (mkF m 43 #[.val (.int p1), .val (.int p2), .val (.int p3), .val (.int (p2 &&& (255 : Int32))), .val (.int (p3 &&& (255 : Int32))), .unset] [(.ref b375)]) (fun _ k => st375 _ k) ?_
      refine WinW.to T375 (mkF m 45 #[.val (.int p1), .val (.int p2), .val (.int p3), .val (.int (p2 &&& (255 : Int32))), .val (.int (p3 &&& (255 : Int32))), .val (.ref b375)] []) (fun _ k => XS.astore X375.here hx rfl (hb hby d5_43) rfl rfl (l' := #[.val (.int p1), .val (.int p2), .val (.int p3), .val (.int (p2 &&& (255 : Int32))), .val (.int (p3 &&& (255 : Int32))), .val (.ref b375)]) rfl k) ?_
      refine WinW.to T375 (mkF m 47 #[.val (.int p1), .val (.int p2), .val (.int p3), .val (.int (p2 &&& (255 : Int32))), .val (.int (p3 &&& (255 : Int32))), .val (.ref b375)] [(.ref b375)]) (fun _ k => XS.aload X375.here hx rfl (hb hby d5_45) rfl rfl k) ?_
      refine WinW.to T375 (mkF m 48 #[.val (.int p1), .val (.int p2), .val (.int p3), .val (.int (p2 &&& (255 : Int32))), .val (.int (p3 &&& (255 : Int32))), .val (.ref b375)] [(.int (0 : Int32)), (.ref b375)]) (fun _ k => XS.iconst X375.here hx rfl (hb hby d5_47) k) ?_
      refine WinW.to T375 (mkF m 49 #[.val (.int p1), .val (.int p2), .val (.int p3), .val (.int (p2 &&& (255 : Int32))), .val (.int (p3 &&& (255 : Int32))), .val (.ref b375)] [(.int (p2 &&& (255 : Int32))), (.int (0 : Int32)), (.ref b375)]) (fun _ k => XS.iloadN X375.here hx rfl (hb hby d5_48) rfl k) ?_
      obtain ⟨cl383, Ar383, q383, S383, N383, H383, G383⟩ := id F382
      have hi383 : ¬ ((0 : Int32) < 0 ∨ cl383.slots.size ≤ ((0 : Int32)).toNatClampNeg) := inb_of S383 ⟨by decide, by decide⟩
      obtain ⟨T384, h384, X384, e384, W384, st384⟩ := stC X375 hx hZ e375 Ar383 (j := (0 : Int32)) hi383 (g := (mkF m 49 #[.val (.int p1), .val (.int p2), .val (.int p3), .val (.int (p2 &&& (255 : Int32))), .val (.int (p3 &&& (255 : Int32))), .val (.ref b375)] [(.int (p2 &&& (255 : Int32))), (.int (0 : Int32)), (.ref b375)])) rfl rfl (hb hby d5_49)
      have O386 := Old.wr O378 W384 g376
      have K387 : Keep h0 h384 [] := K379.wr W384 (Or.inr z377)
      have N388 := Fr.snoc X384 N0 g376
      have c389 := CHr.wr W384 (Safe.arv hZ.alike F382 (by decide)) C381.1
      have C390 := CHr.trans C381 c389
      have eq384 : nar .char (p2 &&& (255 : Int32)) = (p2 &&& (255 : Int32)) := (i2c_mask p2)
      have W384 := eq384 ▸ W384
      have F385 : Arv Z h384 b375 k375 .char (2 : Int32) [(.int (p2 &&& (255 : Int32))), (.int (0 : Int32))] (.int (0 : Int32)) := Arv.set Ar383 q383 S383 N383 H383 G383 (eq384 ▸ (fits_nar_char _)) W384 0 rfl (Nat.le_of_ble_eq_true rfl)
      refine WinW.to T384 (mkF m 50 #[.val (.int p1), .val (.int p2), .val (.int p3), .val (.int (p2 &&& (255 : Int32))), .val (.int (p3 &&& (255 : Int32))), .val (.ref b375)] []) (fun _ k => st384 _ k) ?_
      refine WinW.to T384 (mkF m 52 #[.val (.int p1), .val (.int p2), .val (.int p3), .val (.int (p2 &&& (255 : Int32))), .val (.int (p3 &&& (255 : Int32))), .val (.ref b375)] [(.ref b375)]) (fun _ k => XS.aload X384.here hx rfl (hb hby d5_50) rfl rfl k) ?_
      refine WinW.to T384 (mkF m 53 #[.val (.int p1), .val (.int p2), .val (.int p3), .val (.int (p2 &&& (255 : Int32))), .val (.int (p3 &&& (255 : Int32))), .val (.ref b375)] [(.int (1 : Int32)), (.ref b375)]) (fun _ k => XS.iconst X384.here hx rfl (hb hby d5_52) k) ?_
      refine WinW.to T384 (mkF m 55 #[.val (.int p1), .val (.int p2), .val (.int p3), .val (.int (p2 &&& (255 : Int32))), .val (.int (p3 &&& (255 : Int32))), .val (.ref b375)] [(.int (p3 &&& (255 : Int32))), (.int (1 : Int32)), (.ref b375)]) (fun _ k => XS.iload X384.here hx rfl (hb hby d5_53) rfl k) ?_
      obtain ⟨cl391, Ar391, q391, S391, N391, H391, G391⟩ := id F385
      have hi391 : ¬ ((1 : Int32) < 0 ∨ cl391.slots.size ≤ ((1 : Int32)).toNatClampNeg) := inb_of S391 ⟨by decide, by decide⟩
      obtain ⟨T392, h392, X392, e392, W392, st392⟩ := stC X384 hx hZ e384 Ar391 (j := (1 : Int32)) hi391 (g := (mkF m 55 #[.val (.int p1), .val (.int p2), .val (.int p3), .val (.int (p2 &&& (255 : Int32))), .val (.int (p3 &&& (255 : Int32))), .val (.ref b375)] [(.int (p3 &&& (255 : Int32))), (.int (1 : Int32)), (.ref b375)])) rfl rfl (hb hby d5_55)
      have O394 := Old.wr O386 W392 g376
      have K395 : Keep h0 h392 [] := K387.wr W392 (Or.inr z377)
      have N396 := Fr.snoc X392 N388 g376
      have c397 := CHr.wr W392 (Safe.arv hZ.alike F385 (by decide)) C390.1
      have C398 := CHr.trans C390 c397
      have eq392 : nar .char (p3 &&& (255 : Int32)) = (p3 &&& (255 : Int32)) := (i2c_mask p3)
      have W392 := eq392 ▸ W392
      have F393 : Arv Z h392 b375 k375 .char (2 : Int32) [(.int (p2 &&& (255 : Int32))), (.int (p3 &&& (255 : Int32)))] (.int (0 : Int32)) := Arv.set Ar391 q391 S391 N391 H391 G391 (eq392 ▸ (fits_nar_char _)) W392 1 rfl (Nat.le_of_ble_eq_true rfl)
      refine WinW.to T392 (mkF m 56 #[.val (.int p1), .val (.int p2), .val (.int p3), .val (.int (p2 &&& (255 : Int32))), .val (.int (p3 &&& (255 : Int32))), .val (.ref b375)] []) (fun _ k => st392 _ k) ?_
      obtain ⟨T399, h399, X399, e399, E399, A399, D399, -, st399⟩ := newO X392 hx hZ hown (wk hw 29 rfl) (wk hw 30 rfl) (wk hw 31 rfl) e392 (g := (mkF m 56 #[.val (.int p1), .val (.int p2), .val (.int p3), .val (.int (p2 &&& (255 : Int32))), .val (.int (p3 &&& (255 : Int32))), .val (.ref b375)] [])) rfl (hb hby d5_56) (by decide) (by decide)
      obtain ⟨b399, g399⟩ : ∃ z, z = h392.size := ⟨_, rfl⟩
      rw [← g399] at A399 D399 st399
      have ne400 : b375 ≠ b399 := Nat.ne_of_lt (Nat.lt_of_lt_of_le F393.lt (Nat.le_of_eq g399.symm))
      have g401 : n0 ≤ b399 := Nat.le_trans (own_le O394) (Nat.le_of_eq g399.symm)
      have z402 : h0.size ≤ b399 := Nat.le_trans K395.1 (Nat.le_of_eq g399.symm)
      have O403 := Old.ext O394 E399
      have K404 : Keep h0 h399 [] := K395.ext E399
      have c405 := CHr.ext E399 C398.1
      have C406 := CHr.trans C398 c405
      have F407 : Fld Z h399 b399 "java/lang/String" "value" "[B" .null := D399 (Or.inr (wk hw 43 rfl)) (ty := (.array .byte)) (by decide)
      have F408 : Fld Z h399 b399 "java/lang/String" "coder" "B" (.int (0 : Int32)) := D399 (Or.inr (wk hw 44 rfl)) (ty := .byte) (by decide)
      refine WinW.to T399 (mkF m 59 #[.val (.int p1), .val (.int p2), .val (.int p3), .val (.int (p2 &&& (255 : Int32))), .val (.int (p3 &&& (255 : Int32))), .val (.ref b375)] [(.ref b399)]) (fun _ k => st399 _ k) ?_
      refine WinW.to T399 (mkF m 60 #[.val (.int p1), .val (.int p2), .val (.int p3), .val (.int (p2 &&& (255 : Int32))), .val (.int (p3 &&& (255 : Int32))), .val (.ref b375)] [(.ref b399), (.ref b399)]) (fun _ k => XS.dup X399.here hx rfl (hb hby d5_59) rfl rfl k) ?_
      refine WinW.to T399 (mkF m 62 #[.val (.int p1), .val (.int p2), .val (.int p3), .val (.int (p2 &&& (255 : Int32))), .val (.int (p3 &&& (255 : Int32))), .val (.ref b375)] [(.ref b375), (.ref b399), (.ref b399)]) (fun _ k => XS.aload X399.here hx rfl (hb hby d5_60) rfl rfl k) ?_
      have F409 : Arv Z h399 b375 k375 .char (2 : Int32) [(.int (p2 &&& (255 : Int32))), (.int (p3 &&& (255 : Int32)))] (.int (0 : Int32)) := (F393.ext E399)
      have F410 : ArF Z h399 b375 k375 .char 2 (fun i => ([(p2 &&& (255 : Int32)), (p3 &&& (255 : Int32))] : List Int32).getD i (0 : Int32)) := own_arf [(p2 &&& (255 : Int32)), (p3 &&& (255 : Int32))] F409 rfl
      obtain ⟨T411, h411, v411, L411, k411, X411, e411, hS411, hk411, hZ411, hown411, ⟨t_411, kb_411, rfl, N411q, r411_0, r411_1, r411_2, r411_3⟩, c411, st411⟩ := W.special X399 hS0 (Nat.zero_le _) hx hZ (y := (⟨"java/lang/String", "<init>", "([C)V"⟩ : MethodName)) rfl hown (wk hw 33 rfl) (wk hw 34 rfl) (wk hw 31 rfl) (wk hw 35 rfl) (by decide) (ctor1 l Z a0 hw b399 b375 k375 2 (fun i => ([(p2 &&& (255 : Int32)), (p3 &&& (255 : Int32))] : List Int32).getD i (0 : Int32)) cs h399 n0 O403 A399 F407 F408 F410 ((fun i hi => by
        match i, hi with
        | 0, _ => exact (own_255 p2)
        | 1, _ => exact (own_255 p3))) (by decide) g401 S_CS hcs) (own_EW hw) C406.1 e399 (g := (mkF m 62 #[.val (.int p1), .val (.int p2), .val (.int p3), .val (.int (p2 &&& (255 : Int32))), .val (.int (p3 &&& (255 : Int32))), .val (.ref b375)] [(.ref b375), (.ref b399), (.ref b399)])) rfl (by rw [hml]; rfl) (a := b399) (argsL := [(.ref b375)]) (rest := [(.ref b399)]) rfl (lenOf pd___C_V rfl) rfl (W := 1) (by show 2 * 0 + _ ≤ _; exact Nat.le_of_eq rfl) (hb hby d5_62) (by decide) (by decide) (by decide) (by decide)
      have N412 := Fr.app N396 N411q
      have O413 := Old.keep O403 r411_0 (allS g401 all0)
      have K414 : Keep h0 h411 [] := Keep.trans K404 r411_0 (allS (Or.inr z402) all0)
      have c415 := c411
      have C416 := CHr.trans C406 c415
      refine WinW.to T411 (mkF m 65 #[.val (.int p1), .val (.int p2), .val (.int p3), .val (.int (p2 &&& (255 : Int32))), .val (.int (p3 &&& (255 : Int32))), .val (.ref b375)] [(.ref b399)]) (fun _ k => st411 _ k) ?_
      have F417 : Exa Z h411 b399 "java/lang/String" := (A399.keep r411_0)
      exact WinW.retA X411 hS411 (by rw [e411]; exact hk411) hx hlk hret rfl rfl (hb hby d5_65) hZ411 (own_EW hw) (by rw [e411]; exact C416) (by decide) (by decide) (by (try rw [e411]); exact ⟨b399, rfl, N412, K414, F417⟩)
set_option maxRecDepth 65536 in
set_option maxHeartbeats 40000000 in
theorem rm0 (l : Launch) (Z : State) (a0 : Array Value) (hw : ∀ d ∈ tables_1, d.before a0 Z = true) (ws : List Jvm.Cond) (p0 : Int32) (p1 : Int32) (p2 : Int32) (p3 : Int32) (p4 : Int32) (cs : Int32) (h0 : Heap) (n0 : Nat) (O0 : Old Z n0 h0) (S_CS : Sta Z Z.heap "java/lang/String" "COMPACT_STRINGS" "Z" (.int cs)) (hcs : ¬ (cs = (0 : Int32))) :
    MetW l Z x code maxLocals ret room_1 ws #[(.int p0), (.int p1), (.int p2), (.int p3), (.int p4)] h0 EL1 (fun v h L => v = some (.int (1 : Int32)) ∧ Fr n0 L ∧ (True)) := by
  refine MetW.walk (plainFor_of_name pn_0) ?_
  intro p e s m below meth c s₁ hx hZ hby hml hown hnm hret hlk C0 hS0 X0 e0
  have N0 := Fr.nil n0
  refine WinW.to s₁ (mkF m 0 #[.val (.int p0), .val (.int p1), .val (.int p2), .val (.int p3), .val (.int p4), .unset, .unset, .unset, .unset, .unset, .unset, .unset, .unset] []) (fun _ k => castTop (by first | (simp [entryFrame, mkF, argsToLocals, Value.category, maxLocals]; done) | rfl) k) ?_
  refine WinW.to s₁ (mkF m 1 #[.val (.int p0), .val (.int p1), .val (.int p2), .val (.int p3), .val (.int p4), .unset, .unset, .unset, .unset, .unset, .unset, .unset, .unset] [(.int p0)]) (fun _ k => XS.iloadN X0.here hx rfl (hb hby at_0) rfl k) ?_
  refine WinW.to s₁ (mkF m 2 #[.val (.int p0), .val (.int p1), .val (.int p2), .val (.int p3), .val (.int p4), .unset, .unset, .unset, .unset, .unset, .unset, .unset, .unset] [(.int (1 : Int32)), (.int p0)]) (fun _ k => XS.iconst X0.here hx rfl (hb hby at_1) k) ?_
  refine WinW.to s₁ (mkF m 3 #[.val (.int p0), .val (.int p1), .val (.int p2), .val (.int p3), .val (.int p4), .unset, .unset, .unset, .unset, .unset, .unset, .unset, .unset] [(.int (p0 &&& (1 : Int32)))]) (fun _ k => XS.iand X0.here hx rfl (hb hby at_2) rfl k) ?_
  by_cases hc418 : (p0 &&& (1 : Int32)) = (0 : Int32)
  · refine WinW.to s₁ (mkF m 6 #[.val (.int p0), .val (.int p1), .val (.int p2), .val (.int p3), .val (.int p4), .unset, .unset, .unset, .unset, .unset, .unset, .unset, .unset] []) (fun _ k => XS.ifNo X0.here hx rfl (hb hby at_3) rfl ((if0 _ _).trans (teq hc418).2) k) ?_
    refine WinW.to s₁ (mkF m 7 #[.val (.int p0), .val (.int p1), .val (.int p2), .val (.int p3), .val (.int p4), .unset, .unset, .unset, .unset, .unset, .unset, .unset, .unset] [.null]) (fun _ k => XS.aconstNull X0.here hx rfl (hb hby at_6) k) ?_
    refine WinW.to s₁ (mkF m 20 #[.val (.int p0), .val (.int p1), .val (.int p2), .val (.int p3), .val (.int p4), .unset, .unset, .unset, .unset, .unset, .unset, .unset, .unset] [.null]) (fun _ k => XS.goto X0.here hx rfl (pc0 := 7) (pc' := 20) rfl (hb hby at_7) (by decide) (by decide) k) ?_
    refine WinW.to s₁ (mkF m 22 #[.val (.int p0), .val (.int p1), .val (.int p2), .val (.int p3), .val (.int p4), .val .null, .unset, .unset, .unset, .unset, .unset, .unset, .unset] []) (fun _ k => XS.astore X0.here hx rfl (hb hby at_20) rfl rfl (l' := #[.val (.int p0), .val (.int p1), .val (.int p2), .val (.int p3), .val (.int p4), .val .null, .unset, .unset, .unset, .unset, .unset, .unset, .unset]) rfl k) ?_
    refine WinW.to s₁ (mkF m 23 #[.val (.int p0), .val (.int p1), .val (.int p2), .val (.int p3), .val (.int p4), .val .null, .unset, .unset, .unset, .unset, .unset, .unset, .unset] [(.int p0)]) (fun _ k => XS.iloadN X0.here hx rfl (hb hby at_22) rfl k) ?_
    refine WinW.to s₁ (mkF m 24 #[.val (.int p0), .val (.int p1), .val (.int p2), .val (.int p3), .val (.int p4), .val .null, .unset, .unset, .unset, .unset, .unset, .unset, .unset] [(.int (2 : Int32)), (.int p0)]) (fun _ k => XS.iconst X0.here hx rfl (hb hby at_23) k) ?_
    refine WinW.to s₁ (mkF m 25 #[.val (.int p0), .val (.int p1), .val (.int p2), .val (.int p3), .val (.int p4), .val .null, .unset, .unset, .unset, .unset, .unset, .unset, .unset] [(.int (p0 &&& (2 : Int32)))]) (fun _ k => XS.iand X0.here hx rfl (hb hby at_24) rfl k) ?_
    by_cases hc419 : (p0 &&& (2 : Int32)) = (0 : Int32)
    · refine WinW.to s₁ (mkF m 28 #[.val (.int p0), .val (.int p1), .val (.int p2), .val (.int p3), .val (.int p4), .val .null, .unset, .unset, .unset, .unset, .unset, .unset, .unset] []) (fun _ k => XS.ifNo X0.here hx rfl (hb hby at_25) rfl ((if0 _ _).trans (teq hc419).2) k) ?_
      refine WinW.to s₁ (mkF m 29 #[.val (.int p0), .val (.int p1), .val (.int p2), .val (.int p3), .val (.int p4), .val .null, .unset, .unset, .unset, .unset, .unset, .unset, .unset] [.null]) (fun _ k => XS.aconstNull X0.here hx rfl (hb hby at_28) k) ?_
      refine WinW.to s₁ (mkF m 43 #[.val (.int p0), .val (.int p1), .val (.int p2), .val (.int p3), .val (.int p4), .val .null, .unset, .unset, .unset, .unset, .unset, .unset, .unset] [.null]) (fun _ k => XS.goto X0.here hx rfl (pc0 := 29) (pc' := 43) rfl (hb hby at_29) (by decide) (by decide) k) ?_
      refine WinW.to s₁ (mkF m 45 #[.val (.int p0), .val (.int p1), .val (.int p2), .val (.int p3), .val (.int p4), .val .null, .val .null, .unset, .unset, .unset, .unset, .unset, .unset] []) (fun _ k => XS.astore X0.here hx rfl (hb hby at_43) rfl rfl (l' := #[.val (.int p0), .val (.int p1), .val (.int p2), .val (.int p3), .val (.int p4), .val .null, .val .null, .unset, .unset, .unset, .unset, .unset, .unset]) rfl k) ?_
      obtain ⟨T420, h420, X420, e420, E420, A420, D420, -, st420⟩ := newO X0 hx hZ hown (wk hw 0 rfl) (wk hw 1 rfl) (wk hw 2 rfl) e0 (g := (mkF m 45 #[.val (.int p0), .val (.int p1), .val (.int p2), .val (.int p3), .val (.int p4), .val .null, .val .null, .unset, .unset, .unset, .unset, .unset, .unset] [])) rfl (hb hby at_45) (by decide) (by decide)
      obtain ⟨b420, g420⟩ : ∃ z, z = h0.size := ⟨_, rfl⟩
      rw [← g420] at A420 D420 st420
      have g421 : n0 ≤ b420 := Nat.le_trans (own_le O0) (Nat.le_of_eq g420.symm)
      have z422 : h0.size ≤ b420 := (Nat.le_of_eq g420.symm)
      have O423 := Old.ext O0 E420
      have K424 : Keep h0 h420 [] := (Keep.refl h0 []).ext E420
      have c425 := CHr.ext E420 C0.1
      have C426 := CHr.trans C0 c425
      have F427 : Fld Z h420 b420 "com/example/stylewright/stylewright/xpath/NodeTest$NameTest" "namespaceUri" "Ljava/lang/String;" .null := D420 (Or.inr (wk hw 15 rfl)) (ty := (.object "java/lang/String")) (by decide)
      have F428 : Fld Z h420 b420 "com/example/stylewright/stylewright/xpath/NodeTest$NameTest" "localName" "Ljava/lang/String;" .null := D420 (Or.inr (wk hw 17 rfl)) (ty := (.object "java/lang/String")) (by decide)
      refine WinW.to T420 (mkF m 48 #[.val (.int p0), .val (.int p1), .val (.int p2), .val (.int p3), .val (.int p4), .val .null, .val .null, .unset, .unset, .unset, .unset, .unset, .unset] [(.ref b420)]) (fun _ k => st420 _ k) ?_
      refine WinW.to T420 (mkF m 49 #[.val (.int p0), .val (.int p1), .val (.int p2), .val (.int p3), .val (.int p4), .val .null, .val .null, .unset, .unset, .unset, .unset, .unset, .unset] [(.ref b420), (.ref b420)]) (fun _ k => XS.dup X420.here hx rfl (hb hby at_48) rfl rfl k) ?_
      refine WinW.to T420 (mkF m 51 #[.val (.int p0), .val (.int p1), .val (.int p2), .val (.int p3), .val (.int p4), .val .null, .val .null, .unset, .unset, .unset, .unset, .unset, .unset] [.null, (.ref b420), (.ref b420)]) (fun _ k => XS.aload X420.here hx rfl (hb hby at_49) rfl rfl k) ?_
      refine WinW.to T420 (mkF m 53 #[.val (.int p0), .val (.int p1), .val (.int p2), .val (.int p3), .val (.int p4), .val .null, .val .null, .unset, .unset, .unset, .unset, .unset, .unset] [.null, .null, (.ref b420), (.ref b420)]) (fun _ k => XS.aload X420.here hx rfl (hb hby at_51) rfl rfl k) ?_
      obtain ⟨T429, h429, v429, L429, X429, e429, ⟨rfl, N429q, r429_0, r429_1, r429_2⟩, st429⟩ := N.special X420 hx hZ (y := (⟨"com/example/stylewright/stylewright/xpath/NodeTest$NameTest", "<init>", "(Ljava/lang/String;Ljava/lang/String;)V"⟩ : MethodName)) rfl hown (wk hw 3 rfl) (wk hw 4 rfl) (wk hw 2 rfl) (wk hw 5 rfl) (by decide) (mkNT00 l Z a0 hw b420 h420 n0 O423 A420 F427 F428 g421) e420 (g := (mkF m 53 #[.val (.int p0), .val (.int p1), .val (.int p2), .val (.int p3), .val (.int p4), .val .null, .val .null, .unset, .unset, .unset, .unset, .unset, .unset] [.null, .null, (.ref b420), (.ref b420)])) rfl (by rw [hml]; rfl) (a := b420) (argsL := [.null, .null]) (rest := [(.ref b420)]) rfl (lenOf pd__Ljava_lang_String_Ljava_lang_String__V rfl) rfl (W := 1) (by show 2 * 0 + _ ≤ _; exact Nat.le_of_eq rfl) (hb hby at_53) (by decide) (by decide) (by decide) (by decide)
      have N430 := Fr.app N0 N429q
      have O431 := Old.keep O423 r429_0 (allS g421 all0)
      have K432 : Keep h0 h429 [] := Keep.trans K424 r429_0 (allS (Or.inr z422) all0)
      have c433 := CHr.keep r429_0 (sfS (Safe.exa hZ.alike A420 (by decide) (by decide)) sf0) C426.1
      have C434 := CHr.trans C426 c433
      refine WinW.to T429 (mkF m 56 #[.val (.int p0), .val (.int p1), .val (.int p2), .val (.int p3), .val (.int p4), .val .null, .val .null, .unset, .unset, .unset, .unset, .unset, .unset] [(.ref b420)]) (fun _ k => st429 _ k) ?_
      refine WinW.to T429 (mkF m 58 #[.val (.int p0), .val (.int p1), .val (.int p2), .val (.int p3), .val (.int p4), .val .null, .val .null, .val (.ref b420), .unset, .unset, .unset, .unset, .unset] []) (fun _ k => XS.astore X429.here hx rfl (hb hby at_56) rfl rfl (l' := #[.val (.int p0), .val (.int p1), .val (.int p2), .val (.int p3), .val (.int p4), .val .null, .val .null, .val (.ref b420), .unset, .unset, .unset, .unset, .unset]) rfl k) ?_
      refine WinW.to T429 (mkF m 60 #[.val (.int p0), .val (.int p1), .val (.int p2), .val (.int p3), .val (.int p4), .val .null, .val .null, .val (.ref b420), .unset, .unset, .unset, .unset, .unset] [(.ref b420)]) (fun _ k => XS.aload X429.here hx rfl (hb hby at_58) rfl rfl k) ?_
      have F436 : Exa Z h429 b420 "com/example/stylewright/stylewright/xpath/NodeTest$NameTest" := (A420.keep r429_0)
      obtain ⟨T435, h435, v435, L435, X435, e435, ⟨rfl, N435q, r435_0⟩, st435⟩ := N.virtual X429 hx hZ (y := (⟨"com/example/stylewright/stylewright/xpath/NodeTest$NameTest", "defaultPriority", "()D"⟩ : MethodName)) (z := (⟨"com/example/stylewright/stylewright/xpath/NodeTest$NameTest", "defaultPriority", "()D"⟩ : MethodName)) hown (wk hw 18 rfl) (wk hw 19 rfl) (notFace_of_selects (args := #[]) (mvT hZ (wk hw 21 rfl))) (wk hw 21 rfl) (wk hw 20 rfl) (wk hw 2 rfl) (wk hw 22 rfl) (by decide) (prio00 l Z a0 hw b420 h429 n0 O431 r429_1 r429_2) e429 F436 (g := (mkF m 60 #[.val (.int p0), .val (.int p1), .val (.int p2), .val (.int p3), .val (.int p4), .val .null, .val .null, .val (.ref b420), .unset, .unset, .unset, .unset, .unset] [(.ref b420)])) rfl (by rw [hml]; rfl) (argsL := []) (rest := []) rfl (lenOf pd___D rfl) rfl (W := 0) (by show 2 * 0 + _ ≤ _; exact Nat.le_of_eq rfl) (hb hby at_60) (by decide) (by decide) (by decide) (by decide)
      have N437 := Fr.app N430 N435q
      have e435 := e435.trans r435_0
      refine WinW.to T435 (mkF m 63 #[.val (.int p0), .val (.int p1), .val (.int p2), .val (.int p3), .val (.int p4), .val .null, .val .null, .val (.ref b420), .unset, .unset, .unset, .unset, .unset] [(.double (13826050856027422720 : UInt64))]) (fun _ k => st435 _ k) ?_
      refine WinW.to T435 (mkF m 65 #[.val (.int p0), .val (.int p1), .val (.int p2), .val (.int p3), .val (.int p4), .val .null, .val .null, .val (.ref b420), .val (.double (13826050856027422720 : UInt64)), .second, .unset, .unset, .unset] []) (fun _ k => XS.dstore X435.here hx rfl (hb hby at_63) rfl (l' := #[.val (.int p0), .val (.int p1), .val (.int p2), .val (.int p3), .val (.int p4), .val .null, .val .null, .val (.ref b420), .val (.double (13826050856027422720 : UInt64)), .second, .unset, .unset, .unset]) rfl k) ?_
      refine WinW.to T435 (mkF m 67 #[.val (.int p0), .val (.int p1), .val (.int p2), .val (.int p3), .val (.int p4), .val .null, .val .null, .val (.ref b420), .val (.double (13826050856027422720 : UInt64)), .second, .unset, .unset, .unset] [.null]) (fun _ k => XS.aload X435.here hx rfl (hb hby at_65) rfl rfl k) ?_
      refine WinW.to T435 (mkF m 70 #[.val (.int p0), .val (.int p1), .val (.int p2), .val (.int p3), .val (.int p4), .val .null, .val .null, .val (.ref b420), .val (.double (13826050856027422720 : UInt64)), .second, .unset, .unset, .unset] []) (fun _ k => XS.ifnonnullNo X435.here hx rfl (hb hby at_67) rfl k) ?_
      refine WinW.to T435 (mkF m 71 #[.val (.int p0), .val (.int p1), .val (.int p2), .val (.int p3), .val (.int p4), .val .null, .val .null, .val (.ref b420), .val (.double (13826050856027422720 : UInt64)), .second, .unset, .unset, .unset] [(.int (1 : Int32))]) (fun _ k => XS.iconst X435.here hx rfl (hb hby at_70) k) ?_
      refine WinW.to T435 (mkF m 75 #[.val (.int p0), .val (.int p1), .val (.int p2), .val (.int p3), .val (.int p4), .val .null, .val .null, .val (.ref b420), .val (.double (13826050856027422720 : UInt64)), .second, .unset, .unset, .unset] [(.int (1 : Int32))]) (fun _ k => XS.goto X435.here hx rfl (pc0 := 71) (pc' := 75) rfl (hb hby at_71) (by decide) (by decide) k) ?_
      refine WinW.to T435 (mkF m 77 #[.val (.int p0), .val (.int p1), .val (.int p2), .val (.int p3), .val (.int p4), .val .null, .val .null, .val (.ref b420), .val (.double (13826050856027422720 : UInt64)), .second, .unset, .unset, .unset] [.null, (.int (1 : Int32))]) (fun _ k => XS.aload X435.here hx rfl (hb hby at_75) rfl rfl k) ?_
      refine WinW.to T435 (mkF m 80 #[.val (.int p0), .val (.int p1), .val (.int p2), .val (.int p3), .val (.int p4), .val .null, .val .null, .val (.ref b420), .val (.double (13826050856027422720 : UInt64)), .second, .unset, .unset, .unset] [(.int (1 : Int32))]) (fun _ k => XS.ifnonnullNo X435.here hx rfl (hb hby at_77) rfl k) ?_
      refine WinW.to T435 (mkF m 81 #[.val (.int p0), .val (.int p1), .val (.int p2), .val (.int p3), .val (.int p4), .val .null, .val .null, .val (.ref b420), .val (.double (13826050856027422720 : UInt64)), .second, .unset, .unset, .unset] [(.int (1 : Int32)), (.int (1 : Int32))]) (fun _ k => XS.iconst X435.here hx rfl (hb hby at_80) k) ?_
      refine WinW.to T435 (mkF m 85 #[.val (.int p0), .val (.int p1), .val (.int p2), .val (.int p3), .val (.int p4), .val .null, .val .null, .val (.ref b420), .val (.double (13826050856027422720 : UInt64)), .second, .unset, .unset, .unset] [(.int (1 : Int32)), (.int (1 : Int32))]) (fun _ k => XS.goto X435.here hx rfl (pc0 := 81) (pc' := 85) rfl (hb hby at_81) (by decide) (by decide) k) ?_
      refine WinW.to T435 (mkF m 86 #[.val (.int p0), .val (.int p1), .val (.int p2), .val (.int p3), .val (.int p4), .val .null, .val .null, .val (.ref b420), .val (.double (13826050856027422720 : UInt64)), .second, .unset, .unset, .unset] [(.int (2 : Int32))]) (fun _ k => XS.iadd X435.here hx rfl (hb hby at_85) rfl (by rw [show ((1 : Int32) + (1 : Int32)) = (2 : Int32) from by decide]; exact k)) ?_
      refine WinW.to T435 (mkF m 88 #[.val (.int p0), .val (.int p1), .val (.int p2), .val (.int p3), .val (.int p4), .val .null, .val .null, .val (.ref b420), .val (.double (13826050856027422720 : UInt64)), .second, .val (.int (2 : Int32)), .unset, .unset] []) (fun _ k => XS.istore X435.here hx rfl (hb hby at_86) rfl (l' := #[.val (.int p0), .val (.int p1), .val (.int p2), .val (.int p3), .val (.int p4), .val .null, .val .null, .val (.ref b420), .val (.double (13826050856027422720 : UInt64)), .second, .val (.int (2 : Int32)), .unset, .unset]) rfl k) ?_
      refine WinW.to T435 (mkF m 91 #[.val (.int p0), .val (.int p1), .val (.int p2), .val (.int p3), .val (.int p4), .val .null, .val .null, .val (.ref b420), .val (.double (13826050856027422720 : UInt64)), .second, .val (.int (2 : Int32)), .unset, .unset] [(.double (13821547256400052224 : UInt64))]) (fun _ k => X435.ldc2DoubleC hx hown (mvT hZ (wk hw 24 rfl)) (g := (mkF m 88 #[.val (.int p0), .val (.int p1), .val (.int p2), .val (.int p3), .val (.int p4), .val .null, .val .null, .val (.ref b420), .val (.double (13826050856027422720 : UInt64)), .second, .val (.int (2 : Int32)), .unset, .unset] [])) rfl (hb hby at_88) _ k) ?_
      refine WinW.to T435 (mkF m 93 #[.val (.int p0), .val (.int p1), .val (.int p2), .val (.int p3), .val (.int p4), .val .null, .val .null, .val (.ref b420), .val (.double (13826050856027422720 : UInt64)), .second, .val (.int (2 : Int32)), .unset, .unset] [(.int (2 : Int32)), (.double (13821547256400052224 : UInt64))]) (fun _ k => XS.iload X435.here hx rfl (hb hby at_91) rfl k) ?_
      refine WinW.to T435 (mkF m 94 #[.val (.int p0), .val (.int p1), .val (.int p2), .val (.int p3), .val (.int p4), .val .null, .val .null, .val (.ref b420), .val (.double (13826050856027422720 : UInt64)), .second, .val (.int (2 : Int32)), .unset, .unset] [(.double (4611686018427387904 : UInt64)), (.double (13821547256400052224 : UInt64))]) (fun _ k => XS.i2dS X435.here hx rfl (hb hby at_93) rfl (show FP.i2d (2 : Int32) = (4611686018427387904 : UInt64) from by decide +kernel) k) ?_
      have eq438 : FP.dmul (13821547256400052224 : UInt64) (4611686018427387904 : UInt64) = (13826050856027422720 : UInt64) := by decide +kernel
      refine WinW.to T435 (mkF m 95 #[.val (.int p0), .val (.int p1), .val (.int p2), .val (.int p3), .val (.int p4), .val .null, .val .null, .val (.ref b420), .val (.double (13826050856027422720 : UInt64)), .second, .val (.int (2 : Int32)), .unset, .unset] [(.double (13826050856027422720 : UInt64))]) (fun _ k => XS.dmulS X435.here hx rfl (hb hby at_94) rfl (by rw [eq438]; decide +kernel) eq438 k) ?_
      refine WinW.to T435 (mkF m 97 #[.val (.int p0), .val (.int p1), .val (.int p2), .val (.int p3), .val (.int p4), .val .null, .val .null, .val (.ref b420), .val (.double (13826050856027422720 : UInt64)), .second, .val (.int (2 : Int32)), .val (.double (13826050856027422720 : UInt64)), .second] []) (fun _ k => XS.dstore X435.here hx rfl (hb hby at_95) rfl (l' := #[.val (.int p0), .val (.int p1), .val (.int p2), .val (.int p3), .val (.int p4), .val .null, .val .null, .val (.ref b420), .val (.double (13826050856027422720 : UInt64)), .second, .val (.int (2 : Int32)), .val (.double (13826050856027422720 : UInt64)), .second]) rfl k) ?_
      refine WinW.to T435 (mkF m 99 #[.val (.int p0), .val (.int p1), .val (.int p2), .val (.int p3), .val (.int p4), .val .null, .val .null, .val (.ref b420), .val (.double (13826050856027422720 : UInt64)), .second, .val (.int (2 : Int32)), .val (.double (13826050856027422720 : UInt64)), .second] [(.double (13826050856027422720 : UInt64))]) (fun _ k => XS.dload X435.here hx rfl (hb hby at_97) rfl k) ?_
      refine WinW.to T435 (mkF m 101 #[.val (.int p0), .val (.int p1), .val (.int p2), .val (.int p3), .val (.int p4), .val .null, .val .null, .val (.ref b420), .val (.double (13826050856027422720 : UInt64)), .second, .val (.int (2 : Int32)), .val (.double (13826050856027422720 : UInt64)), .second] [(.double (13826050856027422720 : UInt64)), (.double (13826050856027422720 : UInt64))]) (fun _ k => XS.dload X435.here hx rfl (hb hby at_99) rfl k) ?_
      refine WinW.to T435 (mkF m 102 #[.val (.int p0), .val (.int p1), .val (.int p2), .val (.int p3), .val (.int p4), .val .null, .val .null, .val (.ref b420), .val (.double (13826050856027422720 : UInt64)), .second, .val (.int (2 : Int32)), .val (.double (13826050856027422720 : UInt64)), .second] [(.int (0 : Int32))]) (fun _ k => XS.dcmpS X435.here hx rfl (hb hby at_101) rfl (show cmpValue (FP.dcmp (13826050856027422720 : UInt64) (13826050856027422720 : UInt64)) .l = (0 : Int32) from by decide +kernel) k) ?_
      refine WinW.to T435 (mkF m 105 #[.val (.int p0), .val (.int p1), .val (.int p2), .val (.int p3), .val (.int p4), .val .null, .val .null, .val (.ref b420), .val (.double (13826050856027422720 : UInt64)), .second, .val (.int (2 : Int32)), .val (.double (13826050856027422720 : UInt64)), .second] []) (fun _ k => XS.ifNo X435.here hx rfl (hb hby at_102) rfl ((if0 _ _).trans (teq (show (0 : Int32) = (0 : Int32) from by decide)).2) k) ?_
      refine WinW.to T435 (mkF m 106 #[.val (.int p0), .val (.int p1), .val (.int p2), .val (.int p3), .val (.int p4), .val .null, .val .null, .val (.ref b420), .val (.double (13826050856027422720 : UInt64)), .second, .val (.int (2 : Int32)), .val (.double (13826050856027422720 : UInt64)), .second] [(.int (1 : Int32))]) (fun _ k => XS.iconst X435.here hx rfl (hb hby at_105) k) ?_
      refine WinW.to T435 (mkF m 110 #[.val (.int p0), .val (.int p1), .val (.int p2), .val (.int p3), .val (.int p4), .val .null, .val .null, .val (.ref b420), .val (.double (13826050856027422720 : UInt64)), .second, .val (.int (2 : Int32)), .val (.double (13826050856027422720 : UInt64)), .second] [(.int (1 : Int32))]) (fun _ k => XS.goto X435.here hx rfl (pc0 := 106) (pc' := 110) rfl (hb hby at_106) (by decide) (by decide) k) ?_
      exact WinW.retN X435 hS0 (by rw [e435]; exact (Nat.zero_le _)) hx hlk (t := .boolean) hret (by simp) rfl (hb hby at_110) hZ (own_EW hw) (by rw [e435]; exact C434) (by decide) (by decide) (by (try rw [e435]); exact ⟨rfl, N437, trivial⟩)
    · refine WinW.to s₁ (mkF m 32 #[.val (.int p0), .val (.int p1), .val (.int p2), .val (.int p3), .val (.int p4), .val .null, .unset, .unset, .unset, .unset, .unset, .unset, .unset] []) (fun _ k => XS.ifYes X0.here hx rfl (pc0 := 25) (pc' := 32) rfl (hb hby at_25) rfl ((if0 _ _).trans (feq hc419).2) (by decide) (by decide) k) ?_
      refine WinW.to s₁ (mkF m 33 #[.val (.int p0), .val (.int p1), .val (.int p2), .val (.int p3), .val (.int p4), .val .null, .unset, .unset, .unset, .unset, .unset, .unset, .unset] [(.int p0)]) (fun _ k => XS.iloadN X0.here hx rfl (hb hby at_32) rfl k) ?_
      refine WinW.to s₁ (mkF m 34 #[.val (.int p0), .val (.int p1), .val (.int p2), .val (.int p3), .val (.int p4), .val .null, .unset, .unset, .unset, .unset, .unset, .unset, .unset] [(.int (4 : Int32)), (.int p0)]) (fun _ k => XS.iconst X0.here hx rfl (hb hby at_33) k) ?_
      refine WinW.to s₁ (mkF m 35 #[.val (.int p0), .val (.int p1), .val (.int p2), .val (.int p3), .val (.int p4), .val .null, .unset, .unset, .unset, .unset, .unset, .unset, .unset] [(.int ((p0.toUInt32 >>> ((4 : Int32) &&& 31).toUInt32).toInt32))]) (fun _ k => XS.iushr X0.here hx rfl (hb hby at_34) rfl k) ?_
      refine WinW.to s₁ (mkF m 36 #[.val (.int p0), .val (.int p1), .val (.int p2), .val (.int p3), .val (.int p4), .val .null, .unset, .unset, .unset, .unset, .unset, .unset, .unset] [(.int (3 : Int32)), (.int ((p0.toUInt32 >>> ((4 : Int32) &&& 31).toUInt32).toInt32))]) (fun _ k => XS.iconst X0.here hx rfl (hb hby at_35) k) ?_
      refine WinW.to s₁ (mkF m 37 #[.val (.int p0), .val (.int p1), .val (.int p2), .val (.int p3), .val (.int p4), .val .null, .unset, .unset, .unset, .unset, .unset, .unset, .unset] [(.int (((p0.toUInt32 >>> ((4 : Int32) &&& 31).toUInt32).toInt32) &&& (3 : Int32)))]) (fun _ k => XS.iand X0.here hx rfl (hb hby at_36) rfl k) ?_
      refine WinW.to s₁ (mkF m 38 #[.val (.int p0), .val (.int p1), .val (.int p2), .val (.int p3), .val (.int p4), .val .null, .unset, .unset, .unset, .unset, .unset, .unset, .unset] [(.int p3), (.int (((p0.toUInt32 >>> ((4 : Int32) &&& 31).toUInt32).toInt32) &&& (3 : Int32)))]) (fun _ k => XS.iloadN X0.here hx rfl (hb hby at_37) rfl k) ?_
      refine WinW.to s₁ (mkF m 40 #[.val (.int p0), .val (.int p1), .val (.int p2), .val (.int p3), .val (.int p4), .val .null, .unset, .unset, .unset, .unset, .unset, .unset, .unset] [(.int p4), (.int p3), (.int (((p0.toUInt32 >>> ((4 : Int32) &&& 31).toUInt32).toInt32) &&& (3 : Int32)))]) (fun _ k => XS.iload X0.here hx rfl (hb hby at_38) rfl k) ?_
      obtain ⟨T439, h439, v439, L439, k439, X439, e439, hS439, hk439, hZ439, hown439, ⟨r_439, rfl, N439q, r439_0, r439_1⟩, c439, st439⟩ := W.static X0 hS0 (Nat.zero_le _) hx hZ (y := (⟨"com/example/stylewright/stylewright/xpath/NameTestDefaultPriorityPinLaw", "draw", "(III)Ljava/lang/String;"⟩ : MethodName)) hown (wk hw 25 rfl) (wk hw 26 rfl) (wk hw 27 rfl) (wk hw 28 rfl) (by decide) (draw l Z a0 hw (((p0.toUInt32 >>> ((4 : Int32) &&& 31).toUInt32).toInt32) &&& (3 : Int32)) p3 p4 cs h0 n0 O0 S_CS hcs) (own_EW hw) C0.1 e0 (g := (mkF m 40 #[.val (.int p0), .val (.int p1), .val (.int p2), .val (.int p3), .val (.int p4), .val .null, .unset, .unset, .unset, .unset, .unset, .unset, .unset] [(.int p4), (.int p3), (.int (((p0.toUInt32 >>> ((4 : Int32) &&& 31).toUInt32).toInt32) &&& (3 : Int32)))])) rfl (by rw [hml]; rfl) (argsL := [(.int (((p0.toUInt32 >>> ((4 : Int32) &&& 31).toUInt32).toInt32) &&& (3 : Int32))), (.int p3), (.int p4)]) (rest := []) rfl (lenOf pd__III_Ljava_lang_String_ rfl) rfl (W := 0) (by show 2 * 0 + _ ≤ _; exact Nat.le_of_eq rfl) (hb hby at_40) (by decide) (by decide) (by decide) (by decide)
      have N440 := Fr.app N0 N439q
      have O441 := Old.keep O0 r439_0 all0
      have K442 : Keep h0 h439 [] := Keep.trans (Keep.refl h0 []) r439_0 all0
      have c443 := c439
      have C444 := CHr.trans C0 c443
      refine WinW.to T439 (mkF m 43 #[.val (.int p0), .val (.int p1), .val (.int p2), .val (.int p3), .val (.int p4), .val .null, .unset, .unset, .unset, .unset, .unset, .unset, .unset] [(.ref r_439)]) (fun _ k => st439 _ k) ?_
      refine WinW.to T439 (mkF m 45 #[.val (.int p0), .val (.int p1), .val (.int p2), .val (.int p3), .val (.int p4), .val .null, .val (.ref r_439), .unset, .unset, .unset, .unset, .unset, .unset] []) (fun _ k => XS.astore X439.here hx rfl (hb hby at_43) rfl rfl (l' := #[.val (.int p0), .val (.int p1), .val (.int p2), .val (.int p3), .val (.int p4), .val .null, .val (.ref r_439), .unset, .unset, .unset, .unset, .unset, .unset]) rfl k) ?_
      obtain ⟨T445, h445, X445, e445, E445, A445, D445, -, st445⟩ := newO X439 hx hZ439 hown439 (wk hw 0 rfl) (wk hw 1 rfl) (wk hw 2 rfl) e439 (g := (mkF m 45 #[.val (.int p0), .val (.int p1), .val (.int p2), .val (.int p3), .val (.int p4), .val .null, .val (.ref r_439), .unset, .unset, .unset, .unset, .unset, .unset] [])) rfl (hb hby at_45) (by decide) (by decide)
      obtain ⟨b445, g445⟩ : ∃ z, z = h439.size := ⟨_, rfl⟩
      rw [← g445] at A445 D445 st445
      have ne446 : r_439 ≠ b445 := Nat.ne_of_lt (Nat.lt_of_lt_of_le r439_1.lt (Nat.le_of_eq g445.symm))
      have g447 : n0 ≤ b445 := Nat.le_trans (own_le O441) (Nat.le_of_eq g445.symm)
      have z448 : h0.size ≤ b445 := Nat.le_trans K442.1 (Nat.le_of_eq g445.symm)
      have O449 := Old.ext O441 E445
      have hk450 := Nat.le_trans hk439 E445.1
      have K451 : Keep h0 h445 [] := K442.ext E445
      have c452 := CHr.ext E445 C444.1
      have C453 := CHr.trans C444 c452
      have F454 : Fld Z h445 b445 "com/example/stylewright/stylewright/xpath/NodeTest$NameTest" "namespaceUri" "Ljava/lang/String;" .null := D445 (Or.inr (wk hw 15 rfl)) (ty := (.object "java/lang/String")) (by decide)
      have F455 : Fld Z h445 b445 "com/example/stylewright/stylewright/xpath/NodeTest$NameTest" "localName" "Ljava/lang/String;" .null := D445 (Or.inr (wk hw 17 rfl)) (ty := (.object "java/lang/String")) (by decide)
      refine WinW.to T445 (mkF m 48 #[.val (.int p0), .val (.int p1), .val (.int p2), .val (.int p3), .val (.int p4), .val .null, .val (.ref r_439), .unset, .unset, .unset, .unset, .unset, .unset] [(.ref b445)]) (fun _ k => st445 _ k) ?_
      refine WinW.to T445 (mkF m 49 #[.val (.int p0), .val (.int p1), .val (.int p2), .val (.int p3), .val (.int p4), .val .null, .val (.ref r_439), .unset, .unset, .unset, .unset, .unset, .unset] [(.ref b445), (.ref b445)]) (fun _ k => XS.dup X445.here hx rfl (hb hby at_48) rfl rfl k) ?_
      refine WinW.to T445 (mkF m 51 #[.val (.int p0), .val (.int p1), .val (.int p2), .val (.int p3), .val (.int p4), .val .null, .val (.ref r_439), .unset, .unset, .unset, .unset, .unset, .unset] [.null, (.ref b445), (.ref b445)]) (fun _ k => XS.aload X445.here hx rfl (hb hby at_49) rfl rfl k) ?_
      refine WinW.to T445 (mkF m 53 #[.val (.int p0), .val (.int p1), .val (.int p2), .val (.int p3), .val (.int p4), .val .null, .val (.ref r_439), .unset, .unset, .unset, .unset, .unset, .unset] [(.ref r_439), .null, (.ref b445), (.ref b445)]) (fun _ k => XS.aload X445.here hx rfl (hb hby at_51) rfl rfl k) ?_
      obtain ⟨T456, h456, v456, L456, X456, e456, ⟨rfl, N456q, r456_0, r456_1, r456_2⟩, st456⟩ := N.special X445 hx hZ439 (y := (⟨"com/example/stylewright/stylewright/xpath/NodeTest$NameTest", "<init>", "(Ljava/lang/String;Ljava/lang/String;)V"⟩ : MethodName)) rfl hown439 (wk hw 3 rfl) (wk hw 4 rfl) (wk hw 2 rfl) (wk hw 5 rfl) (by decide) (mkNT01 l Z a0 hw b445 r_439 h445 n0 O449 A445 F454 F455 g447) e445 (g := (mkF m 53 #[.val (.int p0), .val (.int p1), .val (.int p2), .val (.int p3), .val (.int p4), .val .null, .val (.ref r_439), .unset, .unset, .unset, .unset, .unset, .unset] [(.ref r_439), .null, (.ref b445), (.ref b445)])) rfl (by rw [hml]; rfl) (a := b445) (argsL := [.null, (.ref r_439)]) (rest := [(.ref b445)]) rfl (lenOf pd__Ljava_lang_String_Ljava_lang_String__V rfl) rfl (W := 1) (by show 2 * 0 + _ ≤ _; exact Nat.le_of_eq rfl) (hb hby at_53) (by decide) (by decide) (by decide) (by decide)
      have N457 := Fr.app N440 N456q
      have O458 := Old.keep O449 r456_0 (allS g447 all0)
      have hk459 := Nat.le_trans hk450 r456_0.1
      have K460 : Keep h0 h456 [] := Keep.trans K451 r456_0 (allS (Or.inr z448) all0)
      have c461 := CHr.keep r456_0 (sfS (Safe.exa hZ439.alike A445 (by decide) (by decide)) sf0) C453.1
      have C462 := CHr.trans C453 c461
      refine WinW.to T456 (mkF m 56 #[.val (.int p0), .val (.int p1), .val (.int p2), .val (.int p3), .val (.int p4), .val .null, .val (.ref r_439), .unset, .unset, .unset, .unset, .unset, .unset] [(.ref b445)]) (fun _ k => st456 _ k) ?_
      refine WinW.to T456 (mkF m 58 #[.val (.int p0), .val (.int p1), .val (.int p2), .val (.int p3), .val (.int p4), .val .null, .val (.ref r_439), .val (.ref b445), .unset, .unset, .unset, .unset, .unset] []) (fun _ k => XS.astore X456.here hx rfl (hb hby at_56) rfl rfl (l' := #[.val (.int p0), .val (.int p1), .val (.int p2), .val (.int p3), .val (.int p4), .val .null, .val (.ref r_439), .val (.ref b445), .unset, .unset, .unset, .unset, .unset]) rfl k) ?_
      refine WinW.to T456 (mkF m 60 #[.val (.int p0), .val (.int p1), .val (.int p2), .val (.int p3), .val (.int p4), .val .null, .val (.ref r_439), .val (.ref b445), .unset, .unset, .unset, .unset, .unset] [(.ref b445)]) (fun _ k => XS.aload X456.here hx rfl (hb hby at_58) rfl rfl k) ?_
      have F464 : Exa Z h456 b445 "com/example/stylewright/stylewright/xpath/NodeTest$NameTest" := (A445.keep r456_0)
      obtain ⟨T463, h463, v463, L463, X463, e463, ⟨rfl, N463q, r463_0⟩, st463⟩ := N.virtual X456 hx hZ439 (y := (⟨"com/example/stylewright/stylewright/xpath/NodeTest$NameTest", "defaultPriority", "()D"⟩ : MethodName)) (z := (⟨"com/example/stylewright/stylewright/xpath/NodeTest$NameTest", "defaultPriority", "()D"⟩ : MethodName)) hown439 (wk hw 18 rfl) (wk hw 19 rfl) (notFace_of_selects (args := #[]) (mvT hZ439 (wk hw 21 rfl))) (wk hw 21 rfl) (wk hw 20 rfl) (wk hw 2 rfl) (wk hw 22 rfl) (by decide) (prio01 l Z a0 hw b445 r_439 h456 n0 O458 r456_1 r456_2) e456 F464 (g := (mkF m 60 #[.val (.int p0), .val (.int p1), .val (.int p2), .val (.int p3), .val (.int p4), .val .null, .val (.ref r_439), .val (.ref b445), .unset, .unset, .unset, .unset, .unset] [(.ref b445)])) rfl (by rw [hml]; rfl) (argsL := []) (rest := []) rfl (lenOf pd___D rfl) rfl (W := 0) (by show 2 * 0 + _ ≤ _; exact Nat.le_of_eq rfl) (hb hby at_60) (by decide) (by decide) (by decide) (by decide)
      have N465 := Fr.app N457 N463q
      have e463 := e463.trans r463_0
      refine WinW.to T463 (mkF m 63 #[.val (.int p0), .val (.int p1), .val (.int p2), .val (.int p3), .val (.int p4), .val .null, .val (.ref r_439), .val (.ref b445), .unset, .unset, .unset, .unset, .unset] [(.double (13821547256400052224 : UInt64))]) (fun _ k => st463 _ k) ?_
      refine WinW.to T463 (mkF m 65 #[.val (.int p0), .val (.int p1), .val (.int p2), .val (.int p3), .val (.int p4), .val .null, .val (.ref r_439), .val (.ref b445), .val (.double (13821547256400052224 : UInt64)), .second, .unset, .unset, .unset] []) (fun _ k => XS.dstore X463.here hx rfl (hb hby at_63) rfl (l' := #[.val (.int p0), .val (.int p1), .val (.int p2), .val (.int p3), .val (.int p4), .val .null, .val (.ref r_439), .val (.ref b445), .val (.double (13821547256400052224 : UInt64)), .second, .unset, .unset, .unset]) rfl k) ?_
      refine WinW.to T463 (mkF m 67 #[.val (.int p0), .val (.int p1), .val (.int p2), .val (.int p3), .val (.int p4), .val .null, .val (.ref r_439), .val (.ref b445), .val (.double (13821547256400052224 : UInt64)), .second, .unset, .unset, .unset] [.null]) (fun _ k => XS.aload X463.here hx rfl (hb hby at_65) rfl rfl k) ?_
      refine WinW.to T463 (mkF m 70 #[.val (.int p0), .val (.int p1), .val (.int p2), .val (.int p3), .val (.int p4), .val .null, .val (.ref r_439), .val (.ref b445), .val (.double (13821547256400052224 : UInt64)), .second, .unset, .unset, .unset] []) (fun _ k => XS.ifnonnullNo X463.here hx rfl (hb hby at_67) rfl k) ?_
      refine WinW.to T463 (mkF m 71 #[.val (.int p0), .val (.int p1), .val (.int p2), .val (.int p3), .val (.int p4), .val .null, .val (.ref r_439), .val (.ref b445), .val (.double (13821547256400052224 : UInt64)), .second, .unset, .unset, .unset] [(.int (1 : Int32))]) (fun _ k => XS.iconst X463.here hx rfl (hb hby at_70) k) ?_
      refine WinW.to T463 (mkF m 75 #[.val (.int p0), .val (.int p1), .val (.int p2), .val (.int p3), .val (.int p4), .val .null, .val (.ref r_439), .val (.ref b445), .val (.double (13821547256400052224 : UInt64)), .second, .unset, .unset, .unset] [(.int (1 : Int32))]) (fun _ k => XS.goto X463.here hx rfl (pc0 := 71) (pc' := 75) rfl (hb hby at_71) (by decide) (by decide) k) ?_
      refine WinW.to T463 (mkF m 77 #[.val (.int p0), .val (.int p1), .val (.int p2), .val (.int p3), .val (.int p4), .val .null, .val (.ref r_439), .val (.ref b445), .val (.double (13821547256400052224 : UInt64)), .second, .unset, .unset, .unset] [(.ref r_439), (.int (1 : Int32))]) (fun _ k => XS.aload X463.here hx rfl (hb hby at_75) rfl rfl k) ?_
      refine WinW.to T463 (mkF m 84 #[.val (.int p0), .val (.int p1), .val (.int p2), .val (.int p3), .val (.int p4), .val .null, .val (.ref r_439), .val (.ref b445), .val (.double (13821547256400052224 : UInt64)), .second, .unset, .unset, .unset] [(.int (1 : Int32))]) (fun _ k => XS.ifnonnullYes X463.here hx rfl (pc0 := 77) (pc' := 84) rfl (hb hby at_77) rfl (by decide) (by decide) k) ?_
      refine WinW.to T463 (mkF m 85 #[.val (.int p0), .val (.int p1), .val (.int p2), .val (.int p3), .val (.int p4), .val .null, .val (.ref r_439), .val (.ref b445), .val (.double (13821547256400052224 : UInt64)), .second, .unset, .unset, .unset] [(.int (0 : Int32)), (.int (1 : Int32))]) (fun _ k => XS.iconst X463.here hx rfl (hb hby at_84) k) ?_
      refine WinW.to T463 (mkF m 86 #[.val (.int p0), .val (.int p1), .val (.int p2), .val (.int p3), .val (.int p4), .val .null, .val (.ref r_439), .val (.ref b445), .val (.double (13821547256400052224 : UInt64)), .second, .unset, .unset, .unset] [(.int (1 : Int32))]) (fun _ k => XS.iadd X463.here hx rfl (hb hby at_85) rfl (by rw [show ((1 : Int32) + (0 : Int32)) = (1 : Int32) from by decide]; exact k)) ?_
      refine WinW.to T463 (mkF m 88 #[.val (.int p0), .val (.int p1), .val (.int p2), .val (.int p3), .val (.int p4), .val .null, .val (.ref r_439), .val (.ref b445), .val (.double (13821547256400052224 : UInt64)), .second, .val (.int (1 : Int32)), .unset, .unset] []) (fun _ k => XS.istore X463.here hx rfl (hb hby at_86) rfl (l' := #[.val (.int p0), .val (.int p1), .val (.int p2), .val (.int p3), .val (.int p4), .val .null, .val (.ref r_439), .val (.ref b445), .val (.double (13821547256400052224 : UInt64)), .second, .val (.int (1 : Int32)), .unset, .unset]) rfl k) ?_
      refine WinW.to T463 (mkF m 91 #[.val (.int p0), .val (.int p1), .val (.int p2), .val (.int p3), .val (.int p4), .val .null, .val (.ref r_439), .val (.ref b445), .val (.double (13821547256400052224 : UInt64)), .second, .val (.int (1 : Int32)), .unset, .unset] [(.double (13821547256400052224 : UInt64))]) (fun _ k => X463.ldc2DoubleC hx hown439 (mvT hZ439 (wk hw 24 rfl)) (g := (mkF m 88 #[.val (.int p0), .val (.int p1), .val (.int p2), .val (.int p3), .val (.int p4), .val .null, .val (.ref r_439), .val (.ref b445), .val (.double (13821547256400052224 : UInt64)), .second, .val (.int (1 : Int32)), .unset, .unset] [])) rfl (hb hby at_88) _ k) ?_
      refine WinW.to T463 (mkF m 93 #[.val (.int p0), .val (.int p1), .val (.int p2), .val (.int p3), .val (.int p4), .val .null, .val (.ref r_439), .val (.ref b445), .val (.double (13821547256400052224 : UInt64)), .second, .val (.int (1 : Int32)), .unset, .unset] [(.int (1 : Int32)), (.double (13821547256400052224 : UInt64))]) (fun _ k => XS.iload X463.here hx rfl (hb hby at_91) rfl k) ?_
      refine WinW.to T463 (mkF m 94 #[.val (.int p0), .val (.int p1), .val (.int p2), .val (.int p3), .val (.int p4), .val .null, .val (.ref r_439), .val (.ref b445), .val (.double (13821547256400052224 : UInt64)), .second, .val (.int (1 : Int32)), .unset, .unset] [(.double (4607182418800017408 : UInt64)), (.double (13821547256400052224 : UInt64))]) (fun _ k => XS.i2dS X463.here hx rfl (hb hby at_93) rfl (show FP.i2d (1 : Int32) = (4607182418800017408 : UInt64) from by decide +kernel) k) ?_
      have eq466 : FP.dmul (13821547256400052224 : UInt64) (4607182418800017408 : UInt64) = (13821547256400052224 : UInt64) := by decide +kernel
      refine WinW.to T463 (mkF m 95 #[.val (.int p0), .val (.int p1), .val (.int p2), .val (.int p3), .val (.int p4), .val .null, .val (.ref r_439), .val (.ref b445), .val (.double (13821547256400052224 : UInt64)), .second, .val (.int (1 : Int32)), .unset, .unset] [(.double (13821547256400052224 : UInt64))]) (fun _ k => XS.dmulS X463.here hx rfl (hb hby at_94) rfl (by rw [eq466]; decide +kernel) eq466 k) ?_
      refine WinW.to T463 (mkF m 97 #[.val (.int p0), .val (.int p1), .val (.int p2), .val (.int p3), .val (.int p4), .val .null, .val (.ref r_439), .val (.ref b445), .val (.double (13821547256400052224 : UInt64)), .second, .val (.int (1 : Int32)), .val (.double (13821547256400052224 : UInt64)), .second] []) (fun _ k => XS.dstore X463.here hx rfl (hb hby at_95) rfl (l' := #[.val (.int p0), .val (.int p1), .val (.int p2), .val (.int p3), .val (.int p4), .val .null, .val (.ref r_439), .val (.ref b445), .val (.double (13821547256400052224 : UInt64)), .second, .val (.int (1 : Int32)), .val (.double (13821547256400052224 : UInt64)), .second]) rfl k) ?_
      refine WinW.to T463 (mkF m 99 #[.val (.int p0), .val (.int p1), .val (.int p2), .val (.int p3), .val (.int p4), .val .null, .val (.ref r_439), .val (.ref b445), .val (.double (13821547256400052224 : UInt64)), .second, .val (.int (1 : Int32)), .val (.double (13821547256400052224 : UInt64)), .second] [(.double (13821547256400052224 : UInt64))]) (fun _ k => XS.dload X463.here hx rfl (hb hby at_97) rfl k) ?_
      refine WinW.to T463 (mkF m 101 #[.val (.int p0), .val (.int p1), .val (.int p2), .val (.int p3), .val (.int p4), .val .null, .val (.ref r_439), .val (.ref b445), .val (.double (13821547256400052224 : UInt64)), .second, .val (.int (1 : Int32)), .val (.double (13821547256400052224 : UInt64)), .second] [(.double (13821547256400052224 : UInt64)), (.double (13821547256400052224 : UInt64))]) (fun _ k => XS.dload X463.here hx rfl (hb hby at_99) rfl k) ?_
      refine WinW.to T463 (mkF m 102 #[.val (.int p0), .val (.int p1), .val (.int p2), .val (.int p3), .val (.int p4), .val .null, .val (.ref r_439), .val (.ref b445), .val (.double (13821547256400052224 : UInt64)), .second, .val (.int (1 : Int32)), .val (.double (13821547256400052224 : UInt64)), .second] [(.int (0 : Int32))]) (fun _ k => XS.dcmpS X463.here hx rfl (hb hby at_101) rfl (show cmpValue (FP.dcmp (13821547256400052224 : UInt64) (13821547256400052224 : UInt64)) .l = (0 : Int32) from by decide +kernel) k) ?_
      refine WinW.to T463 (mkF m 105 #[.val (.int p0), .val (.int p1), .val (.int p2), .val (.int p3), .val (.int p4), .val .null, .val (.ref r_439), .val (.ref b445), .val (.double (13821547256400052224 : UInt64)), .second, .val (.int (1 : Int32)), .val (.double (13821547256400052224 : UInt64)), .second] []) (fun _ k => XS.ifNo X463.here hx rfl (hb hby at_102) rfl ((if0 _ _).trans (teq (show (0 : Int32) = (0 : Int32) from by decide)).2) k) ?_
      refine WinW.to T463 (mkF m 106 #[.val (.int p0), .val (.int p1), .val (.int p2), .val (.int p3), .val (.int p4), .val .null, .val (.ref r_439), .val (.ref b445), .val (.double (13821547256400052224 : UInt64)), .second, .val (.int (1 : Int32)), .val (.double (13821547256400052224 : UInt64)), .second] [(.int (1 : Int32))]) (fun _ k => XS.iconst X463.here hx rfl (hb hby at_105) k) ?_
      refine WinW.to T463 (mkF m 110 #[.val (.int p0), .val (.int p1), .val (.int p2), .val (.int p3), .val (.int p4), .val .null, .val (.ref r_439), .val (.ref b445), .val (.double (13821547256400052224 : UInt64)), .second, .val (.int (1 : Int32)), .val (.double (13821547256400052224 : UInt64)), .second] [(.int (1 : Int32))]) (fun _ k => XS.goto X463.here hx rfl (pc0 := 106) (pc' := 110) rfl (hb hby at_106) (by decide) (by decide) k) ?_
      exact WinW.retN X463 hS439 (by rw [e463]; exact hk459) hx hlk (t := .boolean) hret (by simp) rfl (hb hby at_110) hZ439 (own_EW hw) (by rw [e463]; exact C462) (by decide) (by decide) (by (try rw [e463]); exact ⟨rfl, N465, trivial⟩)
  · refine WinW.to s₁ (mkF m 10 #[.val (.int p0), .val (.int p1), .val (.int p2), .val (.int p3), .val (.int p4), .unset, .unset, .unset, .unset, .unset, .unset, .unset, .unset] []) (fun _ k => XS.ifYes X0.here hx rfl (pc0 := 3) (pc' := 10) rfl (hb hby at_3) rfl ((if0 _ _).trans (feq hc418).2) (by decide) (by decide) k) ?_
    refine WinW.to s₁ (mkF m 11 #[.val (.int p0), .val (.int p1), .val (.int p2), .val (.int p3), .val (.int p4), .unset, .unset, .unset, .unset, .unset, .unset, .unset, .unset] [(.int p0)]) (fun _ k => XS.iloadN X0.here hx rfl (hb hby at_10) rfl k) ?_
    refine WinW.to s₁ (mkF m 12 #[.val (.int p0), .val (.int p1), .val (.int p2), .val (.int p3), .val (.int p4), .unset, .unset, .unset, .unset, .unset, .unset, .unset, .unset] [(.int (2 : Int32)), (.int p0)]) (fun _ k => XS.iconst X0.here hx rfl (hb hby at_11) k) ?_
    refine WinW.to s₁ (mkF m 13 #[.val (.int p0), .val (.int p1), .val (.int p2), .val (.int p3), .val (.int p4), .unset, .unset, .unset, .unset, .unset, .unset, .unset, .unset] [(.int ((p0.toUInt32 >>> ((2 : Int32) &&& 31).toUInt32).toInt32))]) (fun _ k => XS.iushr X0.here hx rfl (hb hby at_12) rfl k) ?_
    refine WinW.to s₁ (mkF m 14 #[.val (.int p0), .val (.int p1), .val (.int p2), .val (.int p3), .val (.int p4), .unset, .unset, .unset, .unset, .unset, .unset, .unset, .unset] [(.int (3 : Int32)), (.int ((p0.toUInt32 >>> ((2 : Int32) &&& 31).toUInt32).toInt32))]) (fun _ k => XS.iconst X0.here hx rfl (hb hby at_13) k) ?_
    refine WinW.to s₁ (mkF m 15 #[.val (.int p0), .val (.int p1), .val (.int p2), .val (.int p3), .val (.int p4), .unset, .unset, .unset, .unset, .unset, .unset, .unset, .unset] [(.int (((p0.toUInt32 >>> ((2 : Int32) &&& 31).toUInt32).toInt32) &&& (3 : Int32)))]) (fun _ k => XS.iand X0.here hx rfl (hb hby at_14) rfl k) ?_
    refine WinW.to s₁ (mkF m 16 #[.val (.int p0), .val (.int p1), .val (.int p2), .val (.int p3), .val (.int p4), .unset, .unset, .unset, .unset, .unset, .unset, .unset, .unset] [(.int p1), (.int (((p0.toUInt32 >>> ((2 : Int32) &&& 31).toUInt32).toInt32) &&& (3 : Int32)))]) (fun _ k => XS.iloadN X0.here hx rfl (hb hby at_15) rfl k) ?_
    refine WinW.to s₁ (mkF m 17 #[.val (.int p0), .val (.int p1), .val (.int p2), .val (.int p3), .val (.int p4), .unset, .unset, .unset, .unset, .unset, .unset, .unset, .unset] [(.int p2), (.int p1), (.int (((p0.toUInt32 >>> ((2 : Int32) &&& 31).toUInt32).toInt32) &&& (3 : Int32)))]) (fun _ k => XS.iloadN X0.here hx rfl (hb hby at_16) rfl k) ?_
    obtain ⟨T467, h467, v467, L467, k467, X467, e467, hS467, hk467, hZ467, hown467, ⟨r_467, rfl, N467q, r467_0, r467_1⟩, c467, st467⟩ := W.static X0 hS0 (Nat.zero_le _) hx hZ (y := (⟨"com/example/stylewright/stylewright/xpath/NameTestDefaultPriorityPinLaw", "draw", "(III)Ljava/lang/String;"⟩ : MethodName)) hown (wk hw 25 rfl) (wk hw 26 rfl) (wk hw 27 rfl) (wk hw 28 rfl) (by decide) (draw l Z a0 hw (((p0.toUInt32 >>> ((2 : Int32) &&& 31).toUInt32).toInt32) &&& (3 : Int32)) p1 p2 cs h0 n0 O0 S_CS hcs) (own_EW hw) C0.1 e0 (g := (mkF m 17 #[.val (.int p0), .val (.int p1), .val (.int p2), .val (.int p3), .val (.int p4), .unset, .unset, .unset, .unset, .unset, .unset, .unset, .unset] [(.int p2), (.int p1), (.int (((p0.toUInt32 >>> ((2 : Int32) &&& 31).toUInt32).toInt32) &&& (3 : Int32)))])) rfl (by rw [hml]; rfl) (argsL := [(.int (((p0.toUInt32 >>> ((2 : Int32) &&& 31).toUInt32).toInt32) &&& (3 : Int32))), (.int p1), (.int p2)]) (rest := []) rfl (lenOf pd__III_Ljava_lang_String_ rfl) rfl (W := 0) (by show 2 * 0 + _ ≤ _; exact Nat.le_of_eq rfl) (hb hby at_17) (by decide) (by decide) (by decide) (by decide)
    have N468 := Fr.app N0 N467q
    have O469 := Old.keep O0 r467_0 all0
    have K470 : Keep h0 h467 [] := Keep.trans (Keep.refl h0 []) r467_0 all0
    have c471 := c467
    have C472 := CHr.trans C0 c471
    refine WinW.to T467 (mkF m 20 #[.val (.int p0), .val (.int p1), .val (.int p2), .val (.int p3), .val (.int p4), .unset, .unset, .unset, .unset, .unset, .unset, .unset, .unset] [(.ref r_467)]) (fun _ k => st467 _ k) ?_
    refine WinW.to T467 (mkF m 22 #[.val (.int p0), .val (.int p1), .val (.int p2), .val (.int p3), .val (.int p4), .val (.ref r_467), .unset, .unset, .unset, .unset, .unset, .unset, .unset] []) (fun _ k => XS.astore X467.here hx rfl (hb hby at_20) rfl rfl (l' := #[.val (.int p0), .val (.int p1), .val (.int p2), .val (.int p3), .val (.int p4), .val (.ref r_467), .unset, .unset, .unset, .unset, .unset, .unset, .unset]) rfl k) ?_
    refine WinW.to T467 (mkF m 23 #[.val (.int p0), .val (.int p1), .val (.int p2), .val (.int p3), .val (.int p4), .val (.ref r_467), .unset, .unset, .unset, .unset, .unset, .unset, .unset] [(.int p0)]) (fun _ k => XS.iloadN X467.here hx rfl (hb hby at_22) rfl k) ?_
    refine WinW.to T467 (mkF m 24 #[.val (.int p0), .val (.int p1), .val (.int p2), .val (.int p3), .val (.int p4), .val (.ref r_467), .unset, .unset, .unset, .unset, .unset, .unset, .unset] [(.int (2 : Int32)), (.int p0)]) (fun _ k => XS.iconst X467.here hx rfl (hb hby at_23) k) ?_
    refine WinW.to T467 (mkF m 25 #[.val (.int p0), .val (.int p1), .val (.int p2), .val (.int p3), .val (.int p4), .val (.ref r_467), .unset, .unset, .unset, .unset, .unset, .unset, .unset] [(.int (p0 &&& (2 : Int32)))]) (fun _ k => XS.iand X467.here hx rfl (hb hby at_24) rfl k) ?_
    by_cases hc473 : (p0 &&& (2 : Int32)) = (0 : Int32)
    · refine WinW.to T467 (mkF m 28 #[.val (.int p0), .val (.int p1), .val (.int p2), .val (.int p3), .val (.int p4), .val (.ref r_467), .unset, .unset, .unset, .unset, .unset, .unset, .unset] []) (fun _ k => XS.ifNo X467.here hx rfl (hb hby at_25) rfl ((if0 _ _).trans (teq hc473).2) k) ?_
      refine WinW.to T467 (mkF m 29 #[.val (.int p0), .val (.int p1), .val (.int p2), .val (.int p3), .val (.int p4), .val (.ref r_467), .unset, .unset, .unset, .unset, .unset, .unset, .unset] [.null]) (fun _ k => XS.aconstNull X467.here hx rfl (hb hby at_28) k) ?_
      refine WinW.to T467 (mkF m 43 #[.val (.int p0), .val (.int p1), .val (.int p2), .val (.int p3), .val (.int p4), .val (.ref r_467), .unset, .unset, .unset, .unset, .unset, .unset, .unset] [.null]) (fun _ k => XS.goto X467.here hx rfl (pc0 := 29) (pc' := 43) rfl (hb hby at_29) (by decide) (by decide) k) ?_
      refine WinW.to T467 (mkF m 45 #[.val (.int p0), .val (.int p1), .val (.int p2), .val (.int p3), .val (.int p4), .val (.ref r_467), .val .null, .unset, .unset, .unset, .unset, .unset, .unset] []) (fun _ k => XS.astore X467.here hx rfl (hb hby at_43) rfl rfl (l' := #[.val (.int p0), .val (.int p1), .val (.int p2), .val (.int p3), .val (.int p4), .val (.ref r_467), .val .null, .unset, .unset, .unset, .unset, .unset, .unset]) rfl k) ?_
      obtain ⟨T474, h474, X474, e474, E474, A474, D474, -, st474⟩ := newO X467 hx hZ467 hown467 (wk hw 0 rfl) (wk hw 1 rfl) (wk hw 2 rfl) e467 (g := (mkF m 45 #[.val (.int p0), .val (.int p1), .val (.int p2), .val (.int p3), .val (.int p4), .val (.ref r_467), .val .null, .unset, .unset, .unset, .unset, .unset, .unset] [])) rfl (hb hby at_45) (by decide) (by decide)
      obtain ⟨b474, g474⟩ : ∃ z, z = h467.size := ⟨_, rfl⟩
      rw [← g474] at A474 D474 st474
      have ne475 : r_467 ≠ b474 := Nat.ne_of_lt (Nat.lt_of_lt_of_le r467_1.lt (Nat.le_of_eq g474.symm))
      have g476 : n0 ≤ b474 := Nat.le_trans (own_le O469) (Nat.le_of_eq g474.symm)
      have z477 : h0.size ≤ b474 := Nat.le_trans K470.1 (Nat.le_of_eq g474.symm)
      have O478 := Old.ext O469 E474
      have hk479 := Nat.le_trans hk467 E474.1
      have K480 : Keep h0 h474 [] := K470.ext E474
      have c481 := CHr.ext E474 C472.1
      have C482 := CHr.trans C472 c481
      have F483 : Fld Z h474 b474 "com/example/stylewright/stylewright/xpath/NodeTest$NameTest" "namespaceUri" "Ljava/lang/String;" .null := D474 (Or.inr (wk hw 15 rfl)) (ty := (.object "java/lang/String")) (by decide)
      have F484 : Fld Z h474 b474 "com/example/stylewright/stylewright/xpath/NodeTest$NameTest" "localName" "Ljava/lang/String;" .null := D474 (Or.inr (wk hw 17 rfl)) (ty := (.object "java/lang/String")) (by decide)
      refine WinW.to T474 (mkF m 48 #[.val (.int p0), .val (.int p1), .val (.int p2), .val (.int p3), .val (.int p4), .val (.ref r_467), .val .null, .unset, .unset, .unset, .unset, .unset, .unset] [(.ref b474)]) (fun _ k => st474 _ k) ?_
      refine WinW.to T474 (mkF m 49 #[.val (.int p0), .val (.int p1), .val (.int p2), .val (.int p3), .val (.int p4), .val (.ref r_467), .val .null, .unset, .unset, .unset, .unset, .unset, .unset] [(.ref b474), (.ref b474)]) (fun _ k => XS.dup X474.here hx rfl (hb hby at_48) rfl rfl k) ?_
      refine WinW.to T474 (mkF m 51 #[.val (.int p0), .val (.int p1), .val (.int p2), .val (.int p3), .val (.int p4), .val (.ref r_467), .val .null, .unset, .unset, .unset, .unset, .unset, .unset] [(.ref r_467), (.ref b474), (.ref b474)]) (fun _ k => XS.aload X474.here hx rfl (hb hby at_49) rfl rfl k) ?_
      refine WinW.to T474 (mkF m 53 #[.val (.int p0), .val (.int p1), .val (.int p2), .val (.int p3), .val (.int p4), .val (.ref r_467), .val .null, .unset, .unset, .unset, .unset, .unset, .unset] [.null, (.ref r_467), (.ref b474), (.ref b474)]) (fun _ k => XS.aload X474.here hx rfl (hb hby at_51) rfl rfl k) ?_
      obtain ⟨T485, h485, v485, L485, X485, e485, ⟨rfl, N485q, r485_0, r485_1, r485_2⟩, st485⟩ := N.special X474 hx hZ467 (y := (⟨"com/example/stylewright/stylewright/xpath/NodeTest$NameTest", "<init>", "(Ljava/lang/String;Ljava/lang/String;)V"⟩ : MethodName)) rfl hown467 (wk hw 3 rfl) (wk hw 4 rfl) (wk hw 2 rfl) (wk hw 5 rfl) (by decide) (mkNT10 l Z a0 hw b474 r_467 h474 n0 O478 A474 F483 F484 g476) e474 (g := (mkF m 53 #[.val (.int p0), .val (.int p1), .val (.int p2), .val (.int p3), .val (.int p4), .val (.ref r_467), .val .null, .unset, .unset, .unset, .unset, .unset, .unset] [.null, (.ref r_467), (.ref b474), (.ref b474)])) rfl (by rw [hml]; rfl) (a := b474) (argsL := [(.ref r_467), .null]) (rest := [(.ref b474)]) rfl (lenOf pd__Ljava_lang_String_Ljava_lang_String__V rfl) rfl (W := 1) (by show 2 * 0 + _ ≤ _; exact Nat.le_of_eq rfl) (hb hby at_53) (by decide) (by decide) (by decide) (by decide)
      have N486 := Fr.app N468 N485q
      have O487 := Old.keep O478 r485_0 (allS g476 all0)
      have hk488 := Nat.le_trans hk479 r485_0.1
      have K489 : Keep h0 h485 [] := Keep.trans K480 r485_0 (allS (Or.inr z477) all0)
      have c490 := CHr.keep r485_0 (sfS (Safe.exa hZ467.alike A474 (by decide) (by decide)) sf0) C482.1
      have C491 := CHr.trans C482 c490
      refine WinW.to T485 (mkF m 56 #[.val (.int p0), .val (.int p1), .val (.int p2), .val (.int p3), .val (.int p4), .val (.ref r_467), .val .null, .unset, .unset, .unset, .unset, .unset, .unset] [(.ref b474)]) (fun _ k => st485 _ k) ?_
      refine WinW.to T485 (mkF m 58 #[.val (.int p0), .val (.int p1), .val (.int p2), .val (.int p3), .val (.int p4), .val (.ref r_467), .val .null, .val (.ref b474), .unset, .unset, .unset, .unset, .unset] []) (fun _ k => XS.astore X485.here hx rfl (hb hby at_56) rfl rfl (l' := #[.val (.int p0), .val (.int p1), .val (.int p2), .val (.int p3), .val (.int p4), .val (.ref r_467), .val .null, .val (.ref b474), .unset, .unset, .unset, .unset, .unset]) rfl k) ?_
      refine WinW.to T485 (mkF m 60 #[.val (.int p0), .val (.int p1), .val (.int p2), .val (.int p3), .val (.int p4), .val (.ref r_467), .val .null, .val (.ref b474), .unset, .unset, .unset, .unset, .unset] [(.ref b474)]) (fun _ k => XS.aload X485.here hx rfl (hb hby at_58) rfl rfl k) ?_
      have F493 : Exa Z h485 b474 "com/example/stylewright/stylewright/xpath/NodeTest$NameTest" := (A474.keep r485_0)
      obtain ⟨T492, h492, v492, L492, X492, e492, ⟨rfl, N492q, r492_0⟩, st492⟩ := N.virtual X485 hx hZ467 (y := (⟨"com/example/stylewright/stylewright/xpath/NodeTest$NameTest", "defaultPriority", "()D"⟩ : MethodName)) (z := (⟨"com/example/stylewright/stylewright/xpath/NodeTest$NameTest", "defaultPriority", "()D"⟩ : MethodName)) hown467 (wk hw 18 rfl) (wk hw 19 rfl) (notFace_of_selects (args := #[]) (mvT hZ467 (wk hw 21 rfl))) (wk hw 21 rfl) (wk hw 20 rfl) (wk hw 2 rfl) (wk hw 22 rfl) (by decide) (prio10 l Z a0 hw b474 r_467 h485 n0 O487 r485_1 r485_2) e485 F493 (g := (mkF m 60 #[.val (.int p0), .val (.int p1), .val (.int p2), .val (.int p3), .val (.int p4), .val (.ref r_467), .val .null, .val (.ref b474), .unset, .unset, .unset, .unset, .unset] [(.ref b474)])) rfl (by rw [hml]; rfl) (argsL := []) (rest := []) rfl (lenOf pd___D rfl) rfl (W := 0) (by show 2 * 0 + _ ≤ _; exact Nat.le_of_eq rfl) (hb hby at_60) (by decide) (by decide) (by decide) (by decide)
      have N494 := Fr.app N486 N492q
      have e492 := e492.trans r492_0
      refine WinW.to T492 (mkF m 63 #[.val (.int p0), .val (.int p1), .val (.int p2), .val (.int p3), .val (.int p4), .val (.ref r_467), .val .null, .val (.ref b474), .unset, .unset, .unset, .unset, .unset] [(.double (13821547256400052224 : UInt64))]) (fun _ k => st492 _ k) ?_
      refine WinW.to T492 (mkF m 65 #[.val (.int p0), .val (.int p1), .val (.int p2), .val (.int p3), .val (.int p4), .val (.ref r_467), .val .null, .val (.ref b474), .val (.double (13821547256400052224 : UInt64)), .second, .unset, .unset, .unset] []) (fun _ k => XS.dstore X492.here hx rfl (hb hby at_63) rfl (l' := #[.val (.int p0), .val (.int p1), .val (.int p2), .val (.int p3), .val (.int p4), .val (.ref r_467), .val .null, .val (.ref b474), .val (.double (13821547256400052224 : UInt64)), .second, .unset, .unset, .unset]) rfl k) ?_
      refine WinW.to T492 (mkF m 67 #[.val (.int p0), .val (.int p1), .val (.int p2), .val (.int p3), .val (.int p4), .val (.ref r_467), .val .null, .val (.ref b474), .val (.double (13821547256400052224 : UInt64)), .second, .unset, .unset, .unset] [(.ref r_467)]) (fun _ k => XS.aload X492.here hx rfl (hb hby at_65) rfl rfl k) ?_
      refine WinW.to T492 (mkF m 74 #[.val (.int p0), .val (.int p1), .val (.int p2), .val (.int p3), .val (.int p4), .val (.ref r_467), .val .null, .val (.ref b474), .val (.double (13821547256400052224 : UInt64)), .second, .unset, .unset, .unset] []) (fun _ k => XS.ifnonnullYes X492.here hx rfl (pc0 := 67) (pc' := 74) rfl (hb hby at_67) rfl (by decide) (by decide) k) ?_
      refine WinW.to T492 (mkF m 75 #[.val (.int p0), .val (.int p1), .val (.int p2), .val (.int p3), .val (.int p4), .val (.ref r_467), .val .null, .val (.ref b474), .val (.double (13821547256400052224 : UInt64)), .second, .unset, .unset, .unset] [(.int (0 : Int32))]) (fun _ k => XS.iconst X492.here hx rfl (hb hby at_74) k) ?_
      refine WinW.to T492 (mkF m 77 #[.val (.int p0), .val (.int p1), .val (.int p2), .val (.int p3), .val (.int p4), .val (.ref r_467), .val .null, .val (.ref b474), .val (.double (13821547256400052224 : UInt64)), .second, .unset, .unset, .unset] [.null, (.int (0 : Int32))]) (fun _ k => XS.aload X492.here hx rfl (hb hby at_75) rfl rfl k) ?_
      refine WinW.to T492 (mkF m 80 #[.val (.int p0), .val (.int p1), .val (.int p2), .val (.int p3), .val (.int p4), .val (.ref r_467), .val .null, .val (.ref b474), .val (.double (13821547256400052224 : UInt64)), .second, .unset, .unset, .unset] [(.int (0 : Int32))]) (fun _ k => XS.ifnonnullNo X492.here hx rfl (hb hby at_77) rfl k) ?_
      refine WinW.to T492 (mkF m 81 #[.val (.int p0), .val (.int p1), .val (.int p2), .val (.int p3), .val (.int p4), .val (.ref r_467), .val .null, .val (.ref b474), .val (.double (13821547256400052224 : UInt64)), .second, .unset, .unset, .unset] [(.int (1 : Int32)), (.int (0 : Int32))]) (fun _ k => XS.iconst X492.here hx rfl (hb hby at_80) k) ?_
      refine WinW.to T492 (mkF m 85 #[.val (.int p0), .val (.int p1), .val (.int p2), .val (.int p3), .val (.int p4), .val (.ref r_467), .val .null, .val (.ref b474), .val (.double (13821547256400052224 : UInt64)), .second, .unset, .unset, .unset] [(.int (1 : Int32)), (.int (0 : Int32))]) (fun _ k => XS.goto X492.here hx rfl (pc0 := 81) (pc' := 85) rfl (hb hby at_81) (by decide) (by decide) k) ?_
      refine WinW.to T492 (mkF m 86 #[.val (.int p0), .val (.int p1), .val (.int p2), .val (.int p3), .val (.int p4), .val (.ref r_467), .val .null, .val (.ref b474), .val (.double (13821547256400052224 : UInt64)), .second, .unset, .unset, .unset] [(.int (1 : Int32))]) (fun _ k => XS.iadd X492.here hx rfl (hb hby at_85) rfl (by rw [show ((0 : Int32) + (1 : Int32)) = (1 : Int32) from by decide]; exact k)) ?_
      refine WinW.to T492 (mkF m 88 #[.val (.int p0), .val (.int p1), .val (.int p2), .val (.int p3), .val (.int p4), .val (.ref r_467), .val .null, .val (.ref b474), .val (.double (13821547256400052224 : UInt64)), .second, .val (.int (1 : Int32)), .unset, .unset] []) (fun _ k => XS.istore X492.here hx rfl (hb hby at_86) rfl (l' := #[.val (.int p0), .val (.int p1), .val (.int p2), .val (.int p3), .val (.int p4), .val (.ref r_467), .val .null, .val (.ref b474), .val (.double (13821547256400052224 : UInt64)), .second, .val (.int (1 : Int32)), .unset, .unset]) rfl k) ?_
      refine WinW.to T492 (mkF m 91 #[.val (.int p0), .val (.int p1), .val (.int p2), .val (.int p3), .val (.int p4), .val (.ref r_467), .val .null, .val (.ref b474), .val (.double (13821547256400052224 : UInt64)), .second, .val (.int (1 : Int32)), .unset, .unset] [(.double (13821547256400052224 : UInt64))]) (fun _ k => X492.ldc2DoubleC hx hown467 (mvT hZ467 (wk hw 24 rfl)) (g := (mkF m 88 #[.val (.int p0), .val (.int p1), .val (.int p2), .val (.int p3), .val (.int p4), .val (.ref r_467), .val .null, .val (.ref b474), .val (.double (13821547256400052224 : UInt64)), .second, .val (.int (1 : Int32)), .unset, .unset] [])) rfl (hb hby at_88) _ k) ?_
      refine WinW.to T492 (mkF m 93 #[.val (.int p0), .val (.int p1), .val (.int p2), .val (.int p3), .val (.int p4), .val (.ref r_467), .val .null, .val (.ref b474), .val (.double (13821547256400052224 : UInt64)), .second, .val (.int (1 : Int32)), .unset, .unset] [(.int (1 : Int32)), (.double (13821547256400052224 : UInt64))]) (fun _ k => XS.iload X492.here hx rfl (hb hby at_91) rfl k) ?_
      refine WinW.to T492 (mkF m 94 #[.val (.int p0), .val (.int p1), .val (.int p2), .val (.int p3), .val (.int p4), .val (.ref r_467), .val .null, .val (.ref b474), .val (.double (13821547256400052224 : UInt64)), .second, .val (.int (1 : Int32)), .unset, .unset] [(.double (4607182418800017408 : UInt64)), (.double (13821547256400052224 : UInt64))]) (fun _ k => XS.i2dS X492.here hx rfl (hb hby at_93) rfl (show FP.i2d (1 : Int32) = (4607182418800017408 : UInt64) from by decide +kernel) k) ?_
      have eq495 : FP.dmul (13821547256400052224 : UInt64) (4607182418800017408 : UInt64) = (13821547256400052224 : UInt64) := by decide +kernel
      refine WinW.to T492 (mkF m 95 #[.val (.int p0), .val (.int p1), .val (.int p2), .val (.int p3), .val (.int p4), .val (.ref r_467), .val .null, .val (.ref b474), .val (.double (13821547256400052224 : UInt64)), .second, .val (.int (1 : Int32)), .unset, .unset] [(.double (13821547256400052224 : UInt64))]) (fun _ k => XS.dmulS X492.here hx rfl (hb hby at_94) rfl (by rw [eq495]; decide +kernel) eq495 k) ?_
      refine WinW.to T492 (mkF m 97 #[.val (.int p0), .val (.int p1), .val (.int p2), .val (.int p3), .val (.int p4), .val (.ref r_467), .val .null, .val (.ref b474), .val (.double (13821547256400052224 : UInt64)), .second, .val (.int (1 : Int32)), .val (.double (13821547256400052224 : UInt64)), .second] []) (fun _ k => XS.dstore X492.here hx rfl (hb hby at_95) rfl (l' := #[.val (.int p0), .val (.int p1), .val (.int p2), .val (.int p3), .val (.int p4), .val (.ref r_467), .val .null, .val (.ref b474), .val (.double (13821547256400052224 : UInt64)), .second, .val (.int (1 : Int32)), .val (.double (13821547256400052224 : UInt64)), .second]) rfl k) ?_
      refine WinW.to T492 (mkF m 99 #[.val (.int p0), .val (.int p1), .val (.int p2), .val (.int p3), .val (.int p4), .val (.ref r_467), .val .null, .val (.ref b474), .val (.double (13821547256400052224 : UInt64)), .second, .val (.int (1 : Int32)), .val (.double (13821547256400052224 : UInt64)), .second] [(.double (13821547256400052224 : UInt64))]) (fun _ k => XS.dload X492.here hx rfl (hb hby at_97) rfl k) ?_
      refine WinW.to T492 (mkF m 101 #[.val (.int p0), .val (.int p1), .val (.int p2), .val (.int p3), .val (.int p4), .val (.ref r_467), .val .null, .val (.ref b474), .val (.double (13821547256400052224 : UInt64)), .second, .val (.int (1 : Int32)), .val (.double (13821547256400052224 : UInt64)), .second] [(.double (13821547256400052224 : UInt64)), (.double (13821547256400052224 : UInt64))]) (fun _ k => XS.dload X492.here hx rfl (hb hby at_99) rfl k) ?_
      refine WinW.to T492 (mkF m 102 #[.val (.int p0), .val (.int p1), .val (.int p2), .val (.int p3), .val (.int p4), .val (.ref r_467), .val .null, .val (.ref b474), .val (.double (13821547256400052224 : UInt64)), .second, .val (.int (1 : Int32)), .val (.double (13821547256400052224 : UInt64)), .second] [(.int (0 : Int32))]) (fun _ k => XS.dcmpS X492.here hx rfl (hb hby at_101) rfl (show cmpValue (FP.dcmp (13821547256400052224 : UInt64) (13821547256400052224 : UInt64)) .l = (0 : Int32) from by decide +kernel) k) ?_
      refine WinW.to T492 (mkF m 105 #[.val (.int p0), .val (.int p1), .val (.int p2), .val (.int p3), .val (.int p4), .val (.ref r_467), .val .null, .val (.ref b474), .val (.double (13821547256400052224 : UInt64)), .second, .val (.int (1 : Int32)), .val (.double (13821547256400052224 : UInt64)), .second] []) (fun _ k => XS.ifNo X492.here hx rfl (hb hby at_102) rfl ((if0 _ _).trans (teq (show (0 : Int32) = (0 : Int32) from by decide)).2) k) ?_
      refine WinW.to T492 (mkF m 106 #[.val (.int p0), .val (.int p1), .val (.int p2), .val (.int p3), .val (.int p4), .val (.ref r_467), .val .null, .val (.ref b474), .val (.double (13821547256400052224 : UInt64)), .second, .val (.int (1 : Int32)), .val (.double (13821547256400052224 : UInt64)), .second] [(.int (1 : Int32))]) (fun _ k => XS.iconst X492.here hx rfl (hb hby at_105) k) ?_
      refine WinW.to T492 (mkF m 110 #[.val (.int p0), .val (.int p1), .val (.int p2), .val (.int p3), .val (.int p4), .val (.ref r_467), .val .null, .val (.ref b474), .val (.double (13821547256400052224 : UInt64)), .second, .val (.int (1 : Int32)), .val (.double (13821547256400052224 : UInt64)), .second] [(.int (1 : Int32))]) (fun _ k => XS.goto X492.here hx rfl (pc0 := 106) (pc' := 110) rfl (hb hby at_106) (by decide) (by decide) k) ?_
      exact WinW.retN X492 hS467 (by rw [e492]; exact hk488) hx hlk (t := .boolean) hret (by simp) rfl (hb hby at_110) hZ467 (own_EW hw) (by rw [e492]; exact C491) (by decide) (by decide) (by (try rw [e492]); exact ⟨rfl, N494, trivial⟩)
    · refine WinW.to T467 (mkF m 32 #[.val (.int p0), .val (.int p1), .val (.int p2), .val (.int p3), .val (.int p4), .val (.ref r_467), .unset, .unset, .unset, .unset, .unset, .unset, .unset] []) (fun _ k => XS.ifYes X467.here hx rfl (pc0 := 25) (pc' := 32) rfl (hb hby at_25) rfl ((if0 _ _).trans (feq hc473).2) (by decide) (by decide) k) ?_
      refine WinW.to T467 (mkF m 33 #[.val (.int p0), .val (.int p1), .val (.int p2), .val (.int p3), .val (.int p4), .val (.ref r_467), .unset, .unset, .unset, .unset, .unset, .unset, .unset] [(.int p0)]) (fun _ k => XS.iloadN X467.here hx rfl (hb hby at_32) rfl k) ?_
      refine WinW.to T467 (mkF m 34 #[.val (.int p0), .val (.int p1), .val (.int p2), .val (.int p3), .val (.int p4), .val (.ref r_467), .unset, .unset, .unset, .unset, .unset, .unset, .unset] [(.int (4 : Int32)), (.int p0)]) (fun _ k => XS.iconst X467.here hx rfl (hb hby at_33) k) ?_
      refine WinW.to T467 (mkF m 35 #[.val (.int p0), .val (.int p1), .val (.int p2), .val (.int p3), .val (.int p4), .val (.ref r_467), .unset, .unset, .unset, .unset, .unset, .unset, .unset] [(.int ((p0.toUInt32 >>> ((4 : Int32) &&& 31).toUInt32).toInt32))]) (fun _ k => XS.iushr X467.here hx rfl (hb hby at_34) rfl k) ?_
      refine WinW.to T467 (mkF m 36 #[.val (.int p0), .val (.int p1), .val (.int p2), .val (.int p3), .val (.int p4), .val (.ref r_467), .unset, .unset, .unset, .unset, .unset, .unset, .unset] [(.int (3 : Int32)), (.int ((p0.toUInt32 >>> ((4 : Int32) &&& 31).toUInt32).toInt32))]) (fun _ k => XS.iconst X467.here hx rfl (hb hby at_35) k) ?_
      refine WinW.to T467 (mkF m 37 #[.val (.int p0), .val (.int p1), .val (.int p2), .val (.int p3), .val (.int p4), .val (.ref r_467), .unset, .unset, .unset, .unset, .unset, .unset, .unset] [(.int (((p0.toUInt32 >>> ((4 : Int32) &&& 31).toUInt32).toInt32) &&& (3 : Int32)))]) (fun _ k => XS.iand X467.here hx rfl (hb hby at_36) rfl k) ?_
      refine WinW.to T467 (mkF m 38 #[.val (.int p0), .val (.int p1), .val (.int p2), .val (.int p3), .val (.int p4), .val (.ref r_467), .unset, .unset, .unset, .unset, .unset, .unset, .unset] [(.int p3), (.int (((p0.toUInt32 >>> ((4 : Int32) &&& 31).toUInt32).toInt32) &&& (3 : Int32)))]) (fun _ k => XS.iloadN X467.here hx rfl (hb hby at_37) rfl k) ?_
      refine WinW.to T467 (mkF m 40 #[.val (.int p0), .val (.int p1), .val (.int p2), .val (.int p3), .val (.int p4), .val (.ref r_467), .unset, .unset, .unset, .unset, .unset, .unset, .unset] [(.int p4), (.int p3), (.int (((p0.toUInt32 >>> ((4 : Int32) &&& 31).toUInt32).toInt32) &&& (3 : Int32)))]) (fun _ k => XS.iload X467.here hx rfl (hb hby at_38) rfl k) ?_
      obtain ⟨T496, h496, v496, L496, k496, X496, e496, hS496, hk496, hZ496, hown496, ⟨r_496, rfl, N496q, r496_0, r496_1⟩, c496, st496⟩ := W.static X467 hS467 hk467 hx hZ467 (y := (⟨"com/example/stylewright/stylewright/xpath/NameTestDefaultPriorityPinLaw", "draw", "(III)Ljava/lang/String;"⟩ : MethodName)) hown467 (wk hw 25 rfl) (wk hw 26 rfl) (wk hw 27 rfl) (wk hw 28 rfl) (by decide) (draw l Z a0 hw (((p0.toUInt32 >>> ((4 : Int32) &&& 31).toUInt32).toInt32) &&& (3 : Int32)) p3 p4 cs h467 n0 O469 S_CS hcs) (own_EW hw) C472.1 e467 (g := (mkF m 40 #[.val (.int p0), .val (.int p1), .val (.int p2), .val (.int p3), .val (.int p4), .val (.ref r_467), .unset, .unset, .unset, .unset, .unset, .unset, .unset] [(.int p4), (.int p3), (.int (((p0.toUInt32 >>> ((4 : Int32) &&& 31).toUInt32).toInt32) &&& (3 : Int32)))])) rfl (by rw [hml]; rfl) (argsL := [(.int (((p0.toUInt32 >>> ((4 : Int32) &&& 31).toUInt32).toInt32) &&& (3 : Int32))), (.int p3), (.int p4)]) (rest := []) rfl (lenOf pd__III_Ljava_lang_String_ rfl) rfl (W := 0) (by show 2 * 0 + _ ≤ _; exact Nat.le_of_eq rfl) (hb hby at_40) (by decide) (by decide) (by decide) (by decide)
      have N497 := Fr.app N468 N496q
      have O498 := Old.keep O469 r496_0 all0
      have K499 : Keep h0 h496 [] := Keep.trans K470 r496_0 all0
      have c500 := c496
      have C501 := CHr.trans C472 c500
      refine WinW.to T496 (mkF m 43 #[.val (.int p0), .val (.int p1), .val (.int p2), .val (.int p3), .val (.int p4), .val (.ref r_467), .unset, .unset, .unset, .unset, .unset, .unset, .unset] [(.ref r_496)]) (fun _ k => st496 _ k) ?_
      refine WinW.to T496 (mkF m 45 #[.val (.int p0), .val (.int p1), .val (.int p2), .val (.int p3), .val (.int p4), .val (.ref r_467), .val (.ref r_496), .unset, .unset, .unset, .unset, .unset, .unset] []) (fun _ k => XS.astore X496.here hx rfl (hb hby at_43) rfl rfl (l' := #[.val (.int p0), .val (.int p1), .val (.int p2), .val (.int p3), .val (.int p4), .val (.ref r_467), .val (.ref r_496), .unset, .unset, .unset, .unset, .unset, .unset]) rfl k) ?_
      obtain ⟨T502, h502, X502, e502, E502, A502, D502, -, st502⟩ := newO X496 hx hZ496 hown496 (wk hw 0 rfl) (wk hw 1 rfl) (wk hw 2 rfl) e496 (g := (mkF m 45 #[.val (.int p0), .val (.int p1), .val (.int p2), .val (.int p3), .val (.int p4), .val (.ref r_467), .val (.ref r_496), .unset, .unset, .unset, .unset, .unset, .unset] [])) rfl (hb hby at_45) (by decide) (by decide)
      obtain ⟨b502, g502⟩ : ∃ z, z = h496.size := ⟨_, rfl⟩
      rw [← g502] at A502 D502 st502
      have F503 : Exa Z h496 r_467 "java/lang/String" := (r467_1.keep r496_0)
      have ne504 : r_467 ≠ b502 := Nat.ne_of_lt (Nat.lt_of_lt_of_le F503.lt (Nat.le_of_eq g502.symm))
      have ne505 : r_496 ≠ b502 := Nat.ne_of_lt (Nat.lt_of_lt_of_le r496_1.lt (Nat.le_of_eq g502.symm))
      have g506 : n0 ≤ b502 := Nat.le_trans (own_le O498) (Nat.le_of_eq g502.symm)
      have z507 : h0.size ≤ b502 := Nat.le_trans K499.1 (Nat.le_of_eq g502.symm)
      have O508 := Old.ext O498 E502
      have hk509 := Nat.le_trans hk496 E502.1
      have K510 : Keep h0 h502 [] := K499.ext E502
      have c511 := CHr.ext E502 C501.1
      have C512 := CHr.trans C501 c511
      have F513 : Fld Z h502 b502 "com/example/stylewright/stylewright/xpath/NodeTest$NameTest" "namespaceUri" "Ljava/lang/String;" .null := D502 (Or.inr (wk hw 15 rfl)) (ty := (.object "java/lang/String")) (by decide)
      have F514 : Fld Z h502 b502 "com/example/stylewright/stylewright/xpath/NodeTest$NameTest" "localName" "Ljava/lang/String;" .null := D502 (Or.inr (wk hw 17 rfl)) (ty := (.object "java/lang/String")) (by decide)
      refine WinW.to T502 (mkF m 48 #[.val (.int p0), .val (.int p1), .val (.int p2), .val (.int p3), .val (.int p4), .val (.ref r_467), .val (.ref r_496), .unset, .unset, .unset, .unset, .unset, .unset] [(.ref b502)]) (fun _ k => st502 _ k) ?_
      refine WinW.to T502 (mkF m 49 #[.val (.int p0), .val (.int p1), .val (.int p2), .val (.int p3), .val (.int p4), .val (.ref r_467), .val (.ref r_496), .unset, .unset, .unset, .unset, .unset, .unset] [(.ref b502), (.ref b502)]) (fun _ k => XS.dup X502.here hx rfl (hb hby at_48) rfl rfl k) ?_
      refine WinW.to T502 (mkF m 51 #[.val (.int p0), .val (.int p1), .val (.int p2), .val (.int p3), .val (.int p4), .val (.ref r_467), .val (.ref r_496), .unset, .unset, .unset, .unset, .unset, .unset] [(.ref r_467), (.ref b502), (.ref b502)]) (fun _ k => XS.aload X502.here hx rfl (hb hby at_49) rfl rfl k) ?_
      refine WinW.to T502 (mkF m 53 #[.val (.int p0), .val (.int p1), .val (.int p2), .val (.int p3), .val (.int p4), .val (.ref r_467), .val (.ref r_496), .unset, .unset, .unset, .unset, .unset, .unset] [(.ref r_496), (.ref r_467), (.ref b502), (.ref b502)]) (fun _ k => XS.aload X502.here hx rfl (hb hby at_51) rfl rfl k) ?_
      obtain ⟨T515, h515, v515, L515, X515, e515, ⟨rfl, N515q, r515_0, r515_1, r515_2⟩, st515⟩ := N.special X502 hx hZ496 (y := (⟨"com/example/stylewright/stylewright/xpath/NodeTest$NameTest", "<init>", "(Ljava/lang/String;Ljava/lang/String;)V"⟩ : MethodName)) rfl hown496 (wk hw 3 rfl) (wk hw 4 rfl) (wk hw 2 rfl) (wk hw 5 rfl) (by decide) (mkNT11 l Z a0 hw b502 r_467 r_496 h502 n0 O508 A502 F513 F514 g506) e502 (g := (mkF m 53 #[.val (.int p0), .val (.int p1), .val (.int p2), .val (.int p3), .val (.int p4), .val (.ref r_467), .val (.ref r_496), .unset, .unset, .unset, .unset, .unset, .unset] [(.ref r_496), (.ref r_467), (.ref b502), (.ref b502)])) rfl (by rw [hml]; rfl) (a := b502) (argsL := [(.ref r_467), (.ref r_496)]) (rest := [(.ref b502)]) rfl (lenOf pd__Ljava_lang_String_Ljava_lang_String__V rfl) rfl (W := 1) (by show 2 * 0 + _ ≤ _; exact Nat.le_of_eq rfl) (hb hby at_53) (by decide) (by decide) (by decide) (by decide)
      have N516 := Fr.app N497 N515q
      have O517 := Old.keep O508 r515_0 (allS g506 all0)
      have hk518 := Nat.le_trans hk509 r515_0.1
      have K519 : Keep h0 h515 [] := Keep.trans K510 r515_0 (allS (Or.inr z507) all0)
      have c520 := CHr.keep r515_0 (sfS (Safe.exa hZ496.alike A502 (by decide) (by decide)) sf0) C512.1
      have C521 := CHr.trans C512 c520
      refine WinW.to T515 (mkF m 56 #[.val (.int p0), .val (.int p1), .val (.int p2), .val (.int p3), .val (.int p4), .val (.ref r_467), .val (.ref r_496), .unset, .unset, .unset, .unset, .unset, .unset] [(.ref b502)]) (fun _ k => st515 _ k) ?_
      refine WinW.to T515 (mkF m 58 #[.val (.int p0), .val (.int p1), .val (.int p2), .val (.int p3), .val (.int p4), .val (.ref r_467), .val (.ref r_496), .val (.ref b502), .unset, .unset, .unset, .unset, .unset] []) (fun _ k => XS.astore X515.here hx rfl (hb hby at_56) rfl rfl (l' := #[.val (.int p0), .val (.int p1), .val (.int p2), .val (.int p3), .val (.int p4), .val (.ref r_467), .val (.ref r_496), .val (.ref b502), .unset, .unset, .unset, .unset, .unset]) rfl k) ?_
      refine WinW.to T515 (mkF m 60 #[.val (.int p0), .val (.int p1), .val (.int p2), .val (.int p3), .val (.int p4), .val (.ref r_467), .val (.ref r_496), .val (.ref b502), .unset, .unset, .unset, .unset, .unset] [(.ref b502)]) (fun _ k => XS.aload X515.here hx rfl (hb hby at_58) rfl rfl k) ?_
      have F523 : Exa Z h515 b502 "com/example/stylewright/stylewright/xpath/NodeTest$NameTest" := (A502.keep r515_0)
      obtain ⟨T522, h522, v522, L522, X522, e522, ⟨rfl, N522q, r522_0⟩, st522⟩ := N.virtual X515 hx hZ496 (y := (⟨"com/example/stylewright/stylewright/xpath/NodeTest$NameTest", "defaultPriority", "()D"⟩ : MethodName)) (z := (⟨"com/example/stylewright/stylewright/xpath/NodeTest$NameTest", "defaultPriority", "()D"⟩ : MethodName)) hown496 (wk hw 18 rfl) (wk hw 19 rfl) (notFace_of_selects (args := #[]) (mvT hZ496 (wk hw 21 rfl))) (wk hw 21 rfl) (wk hw 20 rfl) (wk hw 2 rfl) (wk hw 22 rfl) (by decide) (prio11 l Z a0 hw b502 r_467 r_496 h515 n0 O517 r515_1 r515_2) e515 F523 (g := (mkF m 60 #[.val (.int p0), .val (.int p1), .val (.int p2), .val (.int p3), .val (.int p4), .val (.ref r_467), .val (.ref r_496), .val (.ref b502), .unset, .unset, .unset, .unset, .unset] [(.ref b502)])) rfl (by rw [hml]; rfl) (argsL := []) (rest := []) rfl (lenOf pd___D rfl) rfl (W := 0) (by show 2 * 0 + _ ≤ _; exact Nat.le_of_eq rfl) (hb hby at_60) (by decide) (by decide) (by decide) (by decide)
      have N524 := Fr.app N516 N522q
      have e522 := e522.trans r522_0
      refine WinW.to T522 (mkF m 63 #[.val (.int p0), .val (.int p1), .val (.int p2), .val (.int p3), .val (.int p4), .val (.ref r_467), .val (.ref r_496), .val (.ref b502), .unset, .unset, .unset, .unset, .unset] [(.double (0 : UInt64))]) (fun _ k => st522 _ k) ?_
      refine WinW.to T522 (mkF m 65 #[.val (.int p0), .val (.int p1), .val (.int p2), .val (.int p3), .val (.int p4), .val (.ref r_467), .val (.ref r_496), .val (.ref b502), .val (.double (0 : UInt64)), .second, .unset, .unset, .unset] []) (fun _ k => XS.dstore X522.here hx rfl (hb hby at_63) rfl (l' := #[.val (.int p0), .val (.int p1), .val (.int p2), .val (.int p3), .val (.int p4), .val (.ref r_467), .val (.ref r_496), .val (.ref b502), .val (.double (0 : UInt64)), .second, .unset, .unset, .unset]) rfl k) ?_
      refine WinW.to T522 (mkF m 67 #[.val (.int p0), .val (.int p1), .val (.int p2), .val (.int p3), .val (.int p4), .val (.ref r_467), .val (.ref r_496), .val (.ref b502), .val (.double (0 : UInt64)), .second, .unset, .unset, .unset] [(.ref r_467)]) (fun _ k => XS.aload X522.here hx rfl (hb hby at_65) rfl rfl k) ?_
      refine WinW.to T522 (mkF m 74 #[.val (.int p0), .val (.int p1), .val (.int p2), .val (.int p3), .val (.int p4), .val (.ref r_467), .val (.ref r_496), .val (.ref b502), .val (.double (0 : UInt64)), .second, .unset, .unset, .unset] []) (fun _ k => XS.ifnonnullYes X522.here hx rfl (pc0 := 67) (pc' := 74) rfl (hb hby at_67) rfl (by decide) (by decide) k) ?_
      refine WinW.to T522 (mkF m 75 #[.val (.int p0), .val (.int p1), .val (.int p2), .val (.int p3), .val (.int p4), .val (.ref r_467), .val (.ref r_496), .val (.ref b502), .val (.double (0 : UInt64)), .second, .unset, .unset, .unset] [(.int (0 : Int32))]) (fun _ k => XS.iconst X522.here hx rfl (hb hby at_74) k) ?_
      refine WinW.to T522 (mkF m 77 #[.val (.int p0), .val (.int p1), .val (.int p2), .val (.int p3), .val (.int p4), .val (.ref r_467), .val (.ref r_496), .val (.ref b502), .val (.double (0 : UInt64)), .second, .unset, .unset, .unset] [(.ref r_496), (.int (0 : Int32))]) (fun _ k => XS.aload X522.here hx rfl (hb hby at_75) rfl rfl k) ?_
      refine WinW.to T522 (mkF m 84 #[.val (.int p0), .val (.int p1), .val (.int p2), .val (.int p3), .val (.int p4), .val (.ref r_467), .val (.ref r_496), .val (.ref b502), .val (.double (0 : UInt64)), .second, .unset, .unset, .unset] [(.int (0 : Int32))]) (fun _ k => XS.ifnonnullYes X522.here hx rfl (pc0 := 77) (pc' := 84) rfl (hb hby at_77) rfl (by decide) (by decide) k) ?_
      refine WinW.to T522 (mkF m 85 #[.val (.int p0), .val (.int p1), .val (.int p2), .val (.int p3), .val (.int p4), .val (.ref r_467), .val (.ref r_496), .val (.ref b502), .val (.double (0 : UInt64)), .second, .unset, .unset, .unset] [(.int (0 : Int32)), (.int (0 : Int32))]) (fun _ k => XS.iconst X522.here hx rfl (hb hby at_84) k) ?_
      refine WinW.to T522 (mkF m 86 #[.val (.int p0), .val (.int p1), .val (.int p2), .val (.int p3), .val (.int p4), .val (.ref r_467), .val (.ref r_496), .val (.ref b502), .val (.double (0 : UInt64)), .second, .unset, .unset, .unset] [(.int (0 : Int32))]) (fun _ k => XS.iadd X522.here hx rfl (hb hby at_85) rfl (by rw [show ((0 : Int32) + (0 : Int32)) = (0 : Int32) from by decide]; exact k)) ?_
      refine WinW.to T522 (mkF m 88 #[.val (.int p0), .val (.int p1), .val (.int p2), .val (.int p3), .val (.int p4), .val (.ref r_467), .val (.ref r_496), .val (.ref b502), .val (.double (0 : UInt64)), .second, .val (.int (0 : Int32)), .unset, .unset] []) (fun _ k => XS.istore X522.here hx rfl (hb hby at_86) rfl (l' := #[.val (.int p0), .val (.int p1), .val (.int p2), .val (.int p3), .val (.int p4), .val (.ref r_467), .val (.ref r_496), .val (.ref b502), .val (.double (0 : UInt64)), .second, .val (.int (0 : Int32)), .unset, .unset]) rfl k) ?_
      refine WinW.to T522 (mkF m 91 #[.val (.int p0), .val (.int p1), .val (.int p2), .val (.int p3), .val (.int p4), .val (.ref r_467), .val (.ref r_496), .val (.ref b502), .val (.double (0 : UInt64)), .second, .val (.int (0 : Int32)), .unset, .unset] [(.double (13821547256400052224 : UInt64))]) (fun _ k => X522.ldc2DoubleC hx hown496 (mvT hZ496 (wk hw 24 rfl)) (g := (mkF m 88 #[.val (.int p0), .val (.int p1), .val (.int p2), .val (.int p3), .val (.int p4), .val (.ref r_467), .val (.ref r_496), .val (.ref b502), .val (.double (0 : UInt64)), .second, .val (.int (0 : Int32)), .unset, .unset] [])) rfl (hb hby at_88) _ k) ?_
      refine WinW.to T522 (mkF m 93 #[.val (.int p0), .val (.int p1), .val (.int p2), .val (.int p3), .val (.int p4), .val (.ref r_467), .val (.ref r_496), .val (.ref b502), .val (.double (0 : UInt64)), .second, .val (.int (0 : Int32)), .unset, .unset] [(.int (0 : Int32)), (.double (13821547256400052224 : UInt64))]) (fun _ k => XS.iload X522.here hx rfl (hb hby at_91) rfl k) ?_
      refine WinW.to T522 (mkF m 94 #[.val (.int p0), .val (.int p1), .val (.int p2), .val (.int p3), .val (.int p4), .val (.ref r_467), .val (.ref r_496), .val (.ref b502), .val (.double (0 : UInt64)), .second, .val (.int (0 : Int32)), .unset, .unset] [(.double (0 : UInt64)), (.double (13821547256400052224 : UInt64))]) (fun _ k => XS.i2dS X522.here hx rfl (hb hby at_93) rfl (show FP.i2d (0 : Int32) = (0 : UInt64) from by decide +kernel) k) ?_
      have eq525 : FP.dmul (13821547256400052224 : UInt64) (0 : UInt64) = (9223372036854775808 : UInt64) := by decide +kernel
      refine WinW.to T522 (mkF m 95 #[.val (.int p0), .val (.int p1), .val (.int p2), .val (.int p3), .val (.int p4), .val (.ref r_467), .val (.ref r_496), .val (.ref b502), .val (.double (0 : UInt64)), .second, .val (.int (0 : Int32)), .unset, .unset] [(.double (9223372036854775808 : UInt64))]) (fun _ k => XS.dmulS X522.here hx rfl (hb hby at_94) rfl (by rw [eq525]; decide +kernel) eq525 k) ?_
      refine WinW.to T522 (mkF m 97 #[.val (.int p0), .val (.int p1), .val (.int p2), .val (.int p3), .val (.int p4), .val (.ref r_467), .val (.ref r_496), .val (.ref b502), .val (.double (0 : UInt64)), .second, .val (.int (0 : Int32)), .val (.double (9223372036854775808 : UInt64)), .second] []) (fun _ k => XS.dstore X522.here hx rfl (hb hby at_95) rfl (l' := #[.val (.int p0), .val (.int p1), .val (.int p2), .val (.int p3), .val (.int p4), .val (.ref r_467), .val (.ref r_496), .val (.ref b502), .val (.double (0 : UInt64)), .second, .val (.int (0 : Int32)), .val (.double (9223372036854775808 : UInt64)), .second]) rfl k) ?_
      refine WinW.to T522 (mkF m 99 #[.val (.int p0), .val (.int p1), .val (.int p2), .val (.int p3), .val (.int p4), .val (.ref r_467), .val (.ref r_496), .val (.ref b502), .val (.double (0 : UInt64)), .second, .val (.int (0 : Int32)), .val (.double (9223372036854775808 : UInt64)), .second] [(.double (0 : UInt64))]) (fun _ k => XS.dload X522.here hx rfl (hb hby at_97) rfl k) ?_
      refine WinW.to T522 (mkF m 101 #[.val (.int p0), .val (.int p1), .val (.int p2), .val (.int p3), .val (.int p4), .val (.ref r_467), .val (.ref r_496), .val (.ref b502), .val (.double (0 : UInt64)), .second, .val (.int (0 : Int32)), .val (.double (9223372036854775808 : UInt64)), .second] [(.double (9223372036854775808 : UInt64)), (.double (0 : UInt64))]) (fun _ k => XS.dload X522.here hx rfl (hb hby at_99) rfl k) ?_
      refine WinW.to T522 (mkF m 102 #[.val (.int p0), .val (.int p1), .val (.int p2), .val (.int p3), .val (.int p4), .val (.ref r_467), .val (.ref r_496), .val (.ref b502), .val (.double (0 : UInt64)), .second, .val (.int (0 : Int32)), .val (.double (9223372036854775808 : UInt64)), .second] [(.int (0 : Int32))]) (fun _ k => XS.dcmpS X522.here hx rfl (hb hby at_101) rfl (show cmpValue (FP.dcmp (0 : UInt64) (9223372036854775808 : UInt64)) .l = (0 : Int32) from by decide +kernel) k) ?_
      refine WinW.to T522 (mkF m 105 #[.val (.int p0), .val (.int p1), .val (.int p2), .val (.int p3), .val (.int p4), .val (.ref r_467), .val (.ref r_496), .val (.ref b502), .val (.double (0 : UInt64)), .second, .val (.int (0 : Int32)), .val (.double (9223372036854775808 : UInt64)), .second] []) (fun _ k => XS.ifNo X522.here hx rfl (hb hby at_102) rfl ((if0 _ _).trans (teq (show (0 : Int32) = (0 : Int32) from by decide)).2) k) ?_
      refine WinW.to T522 (mkF m 106 #[.val (.int p0), .val (.int p1), .val (.int p2), .val (.int p3), .val (.int p4), .val (.ref r_467), .val (.ref r_496), .val (.ref b502), .val (.double (0 : UInt64)), .second, .val (.int (0 : Int32)), .val (.double (9223372036854775808 : UInt64)), .second] [(.int (1 : Int32))]) (fun _ k => XS.iconst X522.here hx rfl (hb hby at_105) k) ?_
      refine WinW.to T522 (mkF m 110 #[.val (.int p0), .val (.int p1), .val (.int p2), .val (.int p3), .val (.int p4), .val (.ref r_467), .val (.ref r_496), .val (.ref b502), .val (.double (0 : UInt64)), .second, .val (.int (0 : Int32)), .val (.double (9223372036854775808 : UInt64)), .second] [(.int (1 : Int32))]) (fun _ k => XS.goto X522.here hx rfl (pc0 := 106) (pc' := 110) rfl (hb hby at_106) (by decide) (by decide) k) ?_
      exact WinW.retN X522 hS496 (by rw [e522]; exact hk518) hx hlk (t := .boolean) hret (by simp) rfl (hb hby at_110) hZ496 (own_EW hw) (by rw [e522]; exact C521) (by decide) (by decide) (by (try rw [e522]); exact ⟨rfl, N524, trivial⟩)
set_option maxRecDepth 65536 in
set_option maxHeartbeats 40000000 in
theorem comes_1 {Post : Tables → Env → Array Value → State → Outcome → State → Prop} (hpost : ∀ tb e args s v u, (limb_1_1.after args s (.returned v) u = true ∧ limb_1_2.after args s (.returned v) u = true ∧ True) → ReturnedEndW s (.returned v) u (Jvm.fieldLocs frame_1_writes args s ++ Jvm.arrayLocs frame_1_arrays args s ++ Jvm.staticLocs frame_1_statics s) 24 1152 → Post tb e args s (.returned v) u) :
    ArmFor flags0 classFile x code maxLocals ret World_1 tables_1 room_1 Calls_1 rest_1 Pre_1 Post := by
  intro l hfl _ hworld p e ha hc hk s m args below hf hA hF happ hP
  obtain ⟨hcalls, hrest, hpre⟩ := hP
  obtain ⟨-, -, -, hnamed, -, -, -, hat⟩ := (Spec.applies_iff hf).mp happ
  obtain ⟨hg, hn⟩ := and_e (Cond.before_iff.mp (show (Jvm.Cond.and given_1 narrow_1).before args s = true from hpre))
  obtain ⟨gc, hg⟩ := and_e hg
  obtain ⟨ga0, hg⟩ := and_e hg
  obtain ⟨ga1, hg⟩ := and_e hg
  obtain ⟨ga2, hg⟩ := and_e hg
  obtain ⟨ga3, hg⟩ := and_e hg
  obtain ⟨w0, w1, w2, w3, w4, rfl⟩ : ∃ w0 w1 w2 w3 w4 : Value, args = #[w0, w1, w2, w3, w4] := by
    have hs : args.size = 5 := by simpa [Cond.value, given_1] using gc
    obtain ⟨L⟩ := args
    match L, hs with
    | [w0, w1, w2, w3, w4], _ => exact ⟨w0, w1, w2, w3, w4, rfl⟩
  have hw := fun d (hd : d ∈ tables_1) => atoms_spec (ws := Jvm.Cond.code x code maxLocals ret :: tables_1) hat d (List.mem_cons_of_mem _ hd)
  have hfit : Fit s := fun {y c} hc i hi => by
    obtain ⟨ha, rfl⟩ := Array.getElem?_eq_some_iff.mp hc
    have q := List.all_eq_true.mp ((Array.all_eq_true_iff_forall_mem.mp hF) _ (Array.getElem_mem ha)) i (List.mem_range.mpr hi)
    simpa [Array.getElem?_eq_getElem hi] using q
  obtain ⟨hsets, hown0⟩ := atoms_of _ (rest_1_c_eq ▸ (show rest_1_c.before _ s = true from hrest))
  have hr0 := Cond.before_iff.mp hown0
  obtain ⟨i0, ei0⟩ := is_v ga0
  obtain rfl : w0 = (.int i0) := Option.some.inj ei0
  obtain ⟨i1, ei1⟩ := is_v ga1
  obtain rfl : w1 = (.int i1) := Option.some.inj ei1
  obtain ⟨i2, ei2⟩ := is_v ga2
  obtain rfl : w2 = (.int i2) := Option.some.inj ei2
  obtain ⟨i3, ei3⟩ := is_v ga3
  obtain rfl : w3 = (.int i3) := Option.some.inj ei3
  obtain ⟨i4, ei4⟩ := is_v hg
  obtain rfl : w4 = (.int i4) := Option.some.inj ei4
  have hs := fun i (d : Jvm.Cond) (hd : jdkStatics_1[i]? = some d) => hsets d (List.mem_of_getElem? hd)
  obtain ⟨cs, ev_cs⟩ := is_v (Cond.before_iff.mp (hs 1 _ rfl))
  have S_CS : Sta s s.heap "java/lang/String" "COMPACT_STRINGS" "Z" (.int cs) := Sta.start ev_cs (Or.inl (hs 0 _ rfl))
  have hcs : ¬ (cs = (0 : Int32)) := gotF (Cond.eq_ints ev_cs rfl) (not_v (Cond.before_iff.mp (hs 2 _ rfl)))
  have hch : CHv s EL1 s.vm s.heap := CHv.start (own_EW hw) (fun p hp => hcalls.1 p hp) (hs 2 _ rfl) (wk hw 42 rfl) (wk hw 30 rfl)
  obtain ⟨n, o, h1, h2, h3, v, L, rfl, hQ, -, hq⟩ := rm0 l s _ hw tables_1 i0 i1 i2 i3 i4 cs s.heap s.heap.size (Old.start s) S_CS hcs p e ha hc hk s m _ below hf ((Spec.applies_iff_loose hf).mp happ).1 ⟨rfl, State.Warmed39.refl s, rfl, hch⟩ trivial
  obtain ⟨rfl, N, -⟩ := hQ
  refine ⟨n, _, h1, h2, h3, hpost _ _ _ _ _ _ ⟨Cond.after_iff.mpr rfl, Cond.after_iff.mpr (eq_i res_at (Term.int_eval (1)) rfl), trivial⟩ ⟨hq.1, hq.2.1, hq.2.2.1, (hq.2.2.2.sift fun y hy => Or.inr (N y hy)).mono (by decide) (by decide)⟩⟩
theorem main_1_1 : Claimed_1_1 := comes_1 fun _ _ _ _ _ _ h hF => ⟨h.1, hF⟩
theorem main_1_2 : Claimed_1_2 := comes_1 fun _ _ _ _ _ _ h hF => ⟨h.2.1, hF⟩
end Jvm.Pilot.@@N@@
namespace Jvm.Pilot.@@N@@
open Jvm Jvm.ClassFile Sem Op Lib Jvm.Free Jvm.Stand Jvm.Pilot.@@N@@.Jvm.D
/-! MADE BY PROGRAM (witnessworld.py) out of the Statement's table words and the real class files: 22 classes; the members and pool entries that the words name. The judged class is class 1, her method 1. -/
namespace start1
open Jvm.ClassFile
def u (s : String) : CpInfo := .utf8 (stringToUtf16 s)
/-- a pool by its gaps: so many unusable entries, then the entry; so many at the end -/
def gap : Nat → List CpInfo → List CpInfo
  | 0, r => r
  | n + 1, r => .unusable :: gap n r
def poolList (es : List (Nat × CpInfo)) (last : Nat) : List CpInfo := es.foldr (fun e r => gap e.1 (e.2 :: r)) (gap last [])
def pool (es : List (Nat × CpInfo)) (last : Nat) : Array CpInfo := ⟨poolList es last⟩
def fileOf (pool : Array CpInfo) (this : Nat) (attrs : Array Attribute := #[]) (ms : Array MethodInfo := #[]) (fl : Nat := 33) (sup : Nat := 0) (ifs : Array Nat := #[]) (fds : Array FieldInfo := #[]) : ClassFile where
  minorVersion := 0
  majorVersion := 65
  constantPool := pool
  accessFlags := fl
  thisClass := this
  superClass := sup
  interfaces := ifs
  fields := fds
  methods := ms
  attributes := attrs
def plain (name : String) (sup : Option ClassId) : Class where
  name := name
  kind := .ordinary
  loader := none
  accessFlags := 33
  super := sup
  interfaces := #[]
  cf := none
  fields := #[]
  methods := #[]
  instanceTypes := #[]
  staticTypes := #[]
  resolved := #[]
  callSites := []
  init := .initialized
  statics := none
  mirror := none

def pool0 : Array CpInfo := pool [(5, u "<init>"), (0, u "()V"), (1, .class_ 10), (1, u "java/lang/Object")] 113

def k0c0 : Code := { maxStack := 0, maxLocals := 1, code := object_method_1_code, exceptionTable := #[], attributes := #[] }
def k0m0 : Method := { name := "<init>", desc := "()V", sig := { parameters := [], returnType := none }, accessFlags := 1, code := some k0c0 }
/-- java/lang/Object -/
def k0 : Class := { plain "java/lang/Object" none with
  accessFlags := 33
  interfaces := #[]
  cf := some (fileOf pool0 8 #[] #[{ accessFlags := 1, nameIndex := 5, descriptorIndex := 6, attributes := #[] }] 33 0 #[] #[])
  fields := #[]
  methods := #[k0m0]
  instanceTypes := #[]
  staticTypes := #[]
  resolved := Array.replicate 124 none
  statics := none }

def pool1 : Array CpInfo := pool [(2, .class_ 4), (1, u "java/lang/Object"), (0, u "<init>"), (0, u "()V"), (0, .methodref 8 9), (0, .class_ 10), (0, .nameAndType 11 12), (0, u "com/example/stylewright/stylewright/xpath/NameTestDefaultPriorityPinLaw"), (0, u "draw"), (0, u "(III)Ljava/lang/String;"), (0, .class_ 14), (0, u "com/example/stylewright/stylewright/xpath/NodeTest$NameTest"), (0, .methodref 13 16), (0, .nameAndType 5 17), (0, u "(Ljava/lang/String;Ljava/lang/String;)V"), (0, .methodref 13 19), (0, .nameAndType 20 21), (0, u "defaultPriority"), (0, u "()D"), (0, .double 13821547256400052224), (1, .class_ 25), (0, u "java/lang/String"), (0, .methodref 24 27), (0, .nameAndType 5 28), (0, u "([C)V"), (0, .methodref 24 30), (0, .nameAndType 31 32), (0, u "valueOf"), (0, u "(C)Ljava/lang/String;"), (2, u "law"), (0, u "(IIIII)Z")] 7

def k1m0 : Method := { name := "<init>", desc := "()V", sig := { parameters := [], returnType := none }, accessFlags := 1, code := none }
def k1c1 : Code := { maxStack := 4, maxLocals := 13, code := code, exceptionTable := #[], attributes := #[] }
def k1m1 : Method := { name := "law", desc := "(IIIII)Z", sig := { parameters := [.int, .int, .int, .int, .int], returnType := some .boolean }, accessFlags := 9, code := some k1c1 }
def k1c2 : Code := { maxStack := 3, maxLocals := 6, code := method_3_code, exceptionTable := #[], attributes := #[] }
def k1m2 : Method := { name := "draw", desc := "(III)Ljava/lang/String;", sig := { parameters := [.int, .int, .int], returnType := some (.object "java/lang/String") }, accessFlags := 10, code := some k1c2 }
/-- com/example/stylewright/stylewright/xpath/NameTestDefaultPriorityPinLaw -/
def k1 : Class := { plain "com/example/stylewright/stylewright/xpath/NameTestDefaultPriorityPinLaw" (some 0) with
  accessFlags := 49
  interfaces := #[]
  cf := some (fileOf pool1 8 #[] #[{ accessFlags := 1, nameIndex := 5, descriptorIndex := 6, attributes := #[] }, { accessFlags := 9, nameIndex := 35, descriptorIndex := 36, attributes := #[] }, { accessFlags := 10, nameIndex := 11, descriptorIndex := 12, attributes := #[] }] 49 2 #[] #[])
  fields := #[]
  methods := #[k1m0, k1m1, k1m2]
  instanceTypes := #[]
  staticTypes := #[]
  resolved := Array.replicate 44 none
  statics := none }

def pool2 : Array CpInfo := pool [(1, .methodref 2 3), (0, .class_ 4), (0, .nameAndType 5 6), (0, u "java/lang/Object"), (0, u "<init>"), (0, u "()V"), (0, .class_ 8), (0, u "java/lang/Record")] 13

def k2c0 : Code := { maxStack := 1, maxLocals := 1, code := jdk_30_method_1_code, exceptionTable := #[], attributes := #[] }
def k2m0 : Method := { name := "<init>", desc := "()V", sig := { parameters := [], returnType := none }, accessFlags := 4, code := some k2c0 }
/-- java/lang/Record -/
def k2 : Class := { plain "java/lang/Record" (some 0) with
  accessFlags := 1057
  interfaces := #[]
  cf := some (fileOf pool2 7 #[] #[{ accessFlags := 4, nameIndex := 5, descriptorIndex := 6, attributes := #[] }] 1057 2 #[] #[])
  fields := #[]
  methods := #[k2m0]
  instanceTypes := #[]
  staticTypes := #[]
  resolved := Array.replicate 22 none
  statics := none }

def pool3 : Array CpInfo := pool [(1, .class_ 2), (0, u "com/example/stylewright/stylewright/xpath/NodeTest"), (0, .class_ 4), (0, u "java/lang/Object"), (7, .class_ 13), (0, u "com/example/stylewright/stylewright/xpath/NodeTest$DocumentTest"), (0, .class_ 15), (0, u "com/example/stylewright/stylewright/xpath/NodeTest$KindTest"), (0, .class_ 17), (0, u "com/example/stylewright/stylewright/xpath/NodeTest$NameTest")] 5

/-- com/example/stylewright/stylewright/xpath/NodeTest -/
def k3 : Class := { plain "com/example/stylewright/stylewright/xpath/NodeTest" (some 0) with
  accessFlags := 1537
  interfaces := #[]
  cf := some (fileOf pool3 1 #[.nestMembers #[12, 14, 16]] #[] 1537 3 #[] #[])
  fields := #[]
  methods := #[]
  instanceTypes := #[]
  staticTypes := #[]
  resolved := Array.replicate 23 none
  statics := none }

def pool4 : Array CpInfo := pool [(1, .methodref 2 3), (0, .class_ 4), (0, .nameAndType 5 6), (0, u "java/lang/Record"), (0, u "<init>"), (0, u "()V"), (0, .fieldref 8 9), (0, .class_ 10), (0, .nameAndType 11 12), (0, u "com/example/stylewright/stylewright/xpath/NodeTest$NameTest"), (0, u "namespaceUri"), (0, u "Ljava/lang/String;"), (0, .fieldref 8 14), (0, .nameAndType 15 12), (0, u "localName"), (29, .double 13821547256400052224), (1, .double 13826050856027422720), (12, .class_ 61), (0, u "com/example/stylewright/stylewright/xpath/NodeTest"), (0, u "(Ljava/lang/String;Ljava/lang/String;)V"), (6, u "defaultPriority"), (0, u "()D")] 24

def k4c0 : Code := { maxStack := 2, maxLocals := 3, code := prog_92_method_1_code, exceptionTable := #[], attributes := #[] }
def k4m0 : Method := { name := "<init>", desc := "(Ljava/lang/String;Ljava/lang/String;)V", sig := { parameters := [(.object "java/lang/String"), (.object "java/lang/String")], returnType := none }, accessFlags := 1, code := some k4c0 }
def k4c1 : Code := { maxStack := 2, maxLocals := 3, code := prog_92_method_4_code, exceptionTable := #[], attributes := #[] }
def k4m1 : Method := { name := "defaultPriority", desc := "()D", sig := { parameters := [], returnType := some .double }, accessFlags := 1, code := some k4c1 }
/-- com/example/stylewright/stylewright/xpath/NodeTest$NameTest -/
def k4 : Class := { plain "com/example/stylewright/stylewright/xpath/NodeTest$NameTest" (some 2) with
  accessFlags := 49
  interfaces := #[3]
  cf := some (fileOf pool4 8 #[.nestHost 60] #[{ accessFlags := 1, nameIndex := 5, descriptorIndex := 62, attributes := #[] }, { accessFlags := 1, nameIndex := 69, descriptorIndex := 70, attributes := #[] }] 49 2 #[60] #[{ accessFlags := 18, nameIndex := 11, descriptorIndex := 12, attributes := #[] }, { accessFlags := 18, nameIndex := 15, descriptorIndex := 12, attributes := #[] }])
  fields := #[{ name := "namespaceUri", type := (.object "java/lang/String"), accessFlags := 18, slot := 0, constantValue := 0 }, { name := "localName", type := (.object "java/lang/String"), accessFlags := 18, slot := 1, constantValue := 0 }]
  methods := #[k4m0, k4m1]
  instanceTypes := #[(.object "java/lang/String"), (.object "java/lang/String")]
  staticTypes := #[]
  resolved := Array.replicate 95 none
  statics := none }

def pool5 : Array CpInfo := pool [(1, .class_ 2), (0, u "java/io/Serializable"), (0, .class_ 4), (0, u "java/lang/Object")] 2

/-- java/io/Serializable -/
def k5 : Class := { plain "java/io/Serializable" (some 0) with
  accessFlags := 1537
  interfaces := #[]
  cf := some (fileOf pool5 1 #[] #[] 1537 3 #[] #[])
  fields := #[]
  methods := #[]
  instanceTypes := #[]
  staticTypes := #[]
  resolved := Array.replicate 7 none
  statics := none }

def pool6 : Array CpInfo := pool [(1, .class_ 2), (0, u "java/lang/Comparable"), (0, .class_ 4), (0, u "java/lang/Object")] 7

/-- java/lang/Comparable -/
def k6 : Class := { plain "java/lang/Comparable" (some 0) with
  accessFlags := 1537
  interfaces := #[]
  cf := some (fileOf pool6 1 #[] #[] 1537 3 #[] #[])
  fields := #[]
  methods := #[]
  instanceTypes := #[]
  staticTypes := #[]
  resolved := Array.replicate 12 none
  statics := none }

def pool7 : Array CpInfo := pool [(2, .class_ 4), (1, u "java/lang/CharSequence"), (42, .class_ 48), (0, u "java/lang/CharSequence$1CodePointIterator"), (10, .class_ 60), (0, u "java/lang/CharSequence$1CharIterator"), (5, .class_ 67), (0, u "java/lang/Object")] 63

/-- java/lang/CharSequence -/
def k7 : Class := { plain "java/lang/CharSequence" (some 0) with
  accessFlags := 1537
  interfaces := #[]
  cf := some (fileOf pool7 2 #[.nestMembers #[47, 59]] #[] 1537 66 #[] #[])
  fields := #[]
  methods := #[]
  instanceTypes := #[]
  staticTypes := #[]
  resolved := Array.replicate 131 none
  statics := none }

def pool8 : Array CpInfo := pool [(1, .class_ 2), (0, u "java/lang/constant/Constable"), (0, .class_ 4), (0, u "java/lang/Object")] 6

/-- java/lang/constant/Constable -/
def k8 : Class := { plain "java/lang/constant/Constable" (some 0) with
  accessFlags := 1537
  interfaces := #[]
  cf := some (fileOf pool8 1 #[] #[] 1537 3 #[] #[])
  fields := #[]
  methods := #[]
  instanceTypes := #[]
  staticTypes := #[]
  resolved := Array.replicate 11 none
  statics := none }

def pool9 : Array CpInfo := pool [(1, .class_ 2), (0, u "java/lang/constant/ConstantDesc"), (0, .class_ 4), (0, u "java/lang/Object")] 32

/-- java/lang/constant/ConstantDesc -/
def k9 : Class := { plain "java/lang/constant/ConstantDesc" (some 0) with
  accessFlags := 1537
  interfaces := #[]
  cf := some (fileOf pool9 1 #[] #[] 1537 3 #[] #[])
  fields := #[]
  methods := #[]
  instanceTypes := #[]
  staticTypes := #[]
  resolved := Array.replicate 37 none
  statics := none }

def pool10 : Array CpInfo := pool [(1, .methodref 2 3), (0, .class_ 4), (0, .nameAndType 5 6), (0, u "java/lang/Object"), (0, u "<init>"), (0, u "()V"), (0, .string 8), (0, u ""), (0, .fieldref 10 11), (0, .class_ 12), (0, .nameAndType 13 14), (0, u "java/lang/String"), (0, u "value"), (0, u "[B"), (0, .fieldref 10 16), (0, .nameAndType 17 18), (0, u "coder"), (0, u "B"), (2, u "hash"), (0, u "I"), (2, u "hashIsZero"), (0, u "Z"), (0, .methodref 10 28), (0, .nameAndType 5 29), (0, u "([CIILjava/lang/Void;)V"), (8, .fieldref 10 39), (0, .nameAndType 40 26), (0, u "COMPACT_STRINGS"), (1, .class_ 44), (1, u "java/lang/StringUTF16"), (0, u "compress"), (1, .methodref 42 48), (0, .nameAndType 49 50), (0, u "coderFromArrayLen"), (0, u "([BI)B"), (2, u "toBytes"), (53, .class_ 109), (1, u "java/lang/StringLatin1"), (67, .methodref 42 178), (0, .nameAndType 45 179), (0, u "([CII)[B"), (29, .methodref 10 210), (0, .nameAndType 5 211), (0, u "([BB)V"), (157, u "(C)Z"), (205, .class_ 576), (0, u "java/lang/CharSequence"), (22, u "CASE_INSENSITIVE_ORDER"), (0, u "Ljava/util/Comparator;"), (181, u "valueOf"), (0, u "(C)Ljava/lang/String;"), (226, u "([C)V"), (4, .methodref 107 1016), (0, .nameAndType 1017 369), (0, u "canEncode"), (0, .methodref 107 1019), (0, .nameAndType 53 1020), (0, u "(C)[B"), (80, u "serialPersistentFields"), (0, u "[Ljava/io/ObjectStreamField;"), (0, .class_ 1104), (0, u "java/lang/String$CaseInsensitiveComparator"), (1, .class_ 1107), (0, u "java/io/Serializable"), (0, .class_ 1109), (0, u "java/lang/Comparable"), (0, .class_ 1111), (0, u "java/lang/constant/Constable"), (0, .class_ 1113), (0, u "java/lang/constant/ConstantDesc"), (2, u "serialVersionUID"), (0, u "J"), (3, u "REPL"), (0, u "C"), (2, u "LATIN1"), (1, u "UTF16")] 323

def k10m0 : Method := { name := "<init>", desc := "()V", sig := { parameters := [], returnType := none }, accessFlags := 1, code := none }
def k10c1 : Code := { maxStack := 5, maxLocals := 2, code := jdk_42_method_3_code, exceptionTable := #[], attributes := #[] }
def k10m1 : Method := { name := "<init>", desc := "([C)V", sig := { parameters := [(.array .char)], returnType := none }, accessFlags := 1, code := some k10c1 }
def k10c2 : Code := { maxStack := 4, maxLocals := 1, code := jdk_42_method_139_code, exceptionTable := #[], attributes := #[] }
def k10m2 : Method := { name := "valueOf", desc := "(C)Ljava/lang/String;", sig := { parameters := [.char], returnType := some (.object "java/lang/String") }, accessFlags := 9, code := some k10c2 }
def k10c3 : Code := { maxStack := 4, maxLocals := 6, code := jdk_42_method_149_code, exceptionTable := #[], attributes := #[] }
def k10m3 : Method := { name := "<init>", desc := "([CIILjava/lang/Void;)V", sig := { parameters := [(.array .char), .int, .int, (.object "java/lang/Void")], returnType := none }, accessFlags := 2, code := some k10c3 }
def k10c4 : Code := { maxStack := 2, maxLocals := 3, code := jdk_42_method_151_code, exceptionTable := #[], attributes := #[] }
def k10m4 : Method := { name := "<init>", desc := "([BB)V", sig := { parameters := [(.array .byte), .byte], returnType := none }, accessFlags := 0, code := some k10c4 }
/-- java/lang/String -/
def k10 : Class := { plain "java/lang/String" (some 0) with
  accessFlags := 49
  interfaces := #[5, 6, 7, 8, 9]
  cf := some (fileOf pool10 10 #[.nestMembers #[1103]] #[{ accessFlags := 1, nameIndex := 5, descriptorIndex := 6, attributes := #[] }, { accessFlags := 1, nameIndex := 5, descriptorIndex := 1010, attributes := #[] }, { accessFlags := 9, nameIndex := 782, descriptorIndex := 783, attributes := #[] }, { accessFlags := 2, nameIndex := 5, descriptorIndex := 29, attributes := #[] }, { accessFlags := 0, nameIndex := 5, descriptorIndex := 211, attributes := #[] }] 49 2 #[1106, 1108, 575, 1110, 1112] #[{ accessFlags := 18, nameIndex := 13, descriptorIndex := 14, attributes := #[] }, { accessFlags := 18, nameIndex := 17, descriptorIndex := 18, attributes := #[] }, { accessFlags := 2, nameIndex := 21, descriptorIndex := 22, attributes := #[] }, { accessFlags := 2, nameIndex := 25, descriptorIndex := 26, attributes := #[] }, { accessFlags := 26, nameIndex := 1116, descriptorIndex := 1117, attributes := #[] }, { accessFlags := 24, nameIndex := 40, descriptorIndex := 26, attributes := #[] }, { accessFlags := 26, nameIndex := 1101, descriptorIndex := 1102, attributes := #[] }, { accessFlags := 26, nameIndex := 1121, descriptorIndex := 1122, attributes := #[] }, { accessFlags := 25, nameIndex := 599, descriptorIndex := 600, attributes := #[] }, { accessFlags := 24, nameIndex := 1125, descriptorIndex := 18, attributes := #[] }, { accessFlags := 24, nameIndex := 1127, descriptorIndex := 18, attributes := #[] }])
  fields := #[{ name := "value", type := (.array .byte), accessFlags := 18, slot := 0, constantValue := 0 }, { name := "coder", type := .byte, accessFlags := 18, slot := 1, constantValue := 0 }, { name := "hash", type := .int, accessFlags := 2, slot := 2, constantValue := 0 }, { name := "hashIsZero", type := .boolean, accessFlags := 2, slot := 3, constantValue := 0 }, { name := "serialVersionUID", type := .long, accessFlags := 26, slot := 0, constantValue := 0 }, { name := "COMPACT_STRINGS", type := .boolean, accessFlags := 24, slot := 1, constantValue := 0 }, { name := "serialPersistentFields", type := (.array (.object "java/io/ObjectStreamField")), accessFlags := 26, slot := 2, constantValue := 0 }, { name := "REPL", type := .char, accessFlags := 26, slot := 3, constantValue := 0 }, { name := "CASE_INSENSITIVE_ORDER", type := (.object "java/util/Comparator"), accessFlags := 25, slot := 4, constantValue := 0 }, { name := "LATIN1", type := .byte, accessFlags := 24, slot := 5, constantValue := 0 }, { name := "UTF16", type := .byte, accessFlags := 24, slot := 6, constantValue := 0 }]
  methods := #[k10m0, k10m1, k10m2, k10m3, k10m4]
  instanceTypes := #[(.array .byte), .byte, .int, .boolean]
  staticTypes := #[.long, .boolean, (.array (.object "java/io/ObjectStreamField")), .char, (.object "java/util/Comparator"), .byte, .byte]
  resolved := Array.replicate 1451 none
  statics := some 0 }

def pool11 : Array CpInfo := pool [(6, .class_ 8), (1, u "java/lang/Object"), (0, u "<init>"), (0, u "()V"), (1, .class_ 14), (1, u "java/lang/StringUTF16"), (31, u "$assertionsDisabled"), (0, u "Z"), (13, u "HI_BYTE_SHIFT"), (0, u "I"), (2, u "LO_BYTE_SHIFT"), (49, .methodref 12 116), (0, .nameAndType 117 118), (0, u "compress"), (0, u "([CI[BII)I"), (3, u "([CII)[B"), (138, u "coderFromArrayLen"), (0, u "([BI)B"), (106, .class_ 371), (1, u "java/lang/StringUTF16$LinesSpliterator"), (58, u "MAX_LENGTH"), (196, .class_ 628), (0, u "java/lang/StringUTF16$CodePointsSpliterator"), (0, .class_ 630), (0, u "java/lang/StringUTF16$CharsSpliterator")] 4

def k11m0 : Method := { name := "<init>", desc := "()V", sig := { parameters := [], returnType := none }, accessFlags := 0, code := none }
def k11c1 : Code := { maxStack := 2, maxLocals := 2, code := jdk_52_method_15_code, exceptionTable := #[], attributes := #[] }
def k11m1 : Method := { name := "coderFromArrayLen", desc := "([BI)B", sig := { parameters := [(.array .byte), .int], returnType := some .byte }, accessFlags := 8, code := some k11c1 }
def k11c2 : Code := { maxStack := 5, maxLocals := 6, code := jdk_52_method_16_code, exceptionTable := #[], attributes := #[] }
def k11m2 : Method := { name := "compress", desc := "([CII)[B", sig := { parameters := [(.array .char), .int, .int], returnType := some (.array .byte) }, accessFlags := 9, code := some k11c2 }
def k11c3 : Code := { maxStack := 3, maxLocals := 7, code := jdk_52_method_21_code, exceptionTable := #[], attributes := #[] }
def k11m3 : Method := { name := "compress", desc := "([CI[BII)I", sig := { parameters := [(.array .char), .int, (.array .byte), .int, .int], returnType := some .int }, accessFlags := 9, code := some k11c3 }
/-- java/lang/StringUTF16 -/
def k11 : Class := { plain "java/lang/StringUTF16" (some 0) with
  accessFlags := 48
  interfaces := #[]
  cf := some (fileOf pool11 12 #[.nestMembers #[627, 629, 369]] #[{ accessFlags := 0, nameIndex := 9, descriptorIndex := 10, attributes := #[] }, { accessFlags := 8, nameIndex := 261, descriptorIndex := 262, attributes := #[] }, { accessFlags := 9, nameIndex := 117, descriptorIndex := 122, attributes := #[] }, { accessFlags := 9, nameIndex := 117, descriptorIndex := 118, attributes := #[] }] 48 6 #[] #[{ accessFlags := 26, nameIndex := 61, descriptorIndex := 62, attributes := #[] }, { accessFlags := 26, nameIndex := 65, descriptorIndex := 62, attributes := #[] }, { accessFlags := 24, nameIndex := 430, descriptorIndex := 62, attributes := #[] }, { accessFlags := 4120, nameIndex := 46, descriptorIndex := 47, attributes := #[] }])
  fields := #[{ name := "HI_BYTE_SHIFT", type := .int, accessFlags := 26, slot := 0, constantValue := 0 }, { name := "LO_BYTE_SHIFT", type := .int, accessFlags := 26, slot := 1, constantValue := 0 }, { name := "MAX_LENGTH", type := .int, accessFlags := 24, slot := 2, constantValue := 0 }, { name := "$assertionsDisabled", type := .boolean, accessFlags := 4120, slot := 3, constantValue := 0 }]
  methods := #[k11m0, k11m1, k11m2, k11m3]
  instanceTypes := #[]
  staticTypes := #[.int, .int, .int, .boolean]
  resolved := Array.replicate 635 none
  statics := none }

def pool12 : Array CpInfo := pool [(4, .class_ 6), (1, u "java/lang/Object"), (0, u "<init>"), (0, u "()V"), (5, .class_ 16), (1, u "java/lang/StringLatin1"), (73, u "canEncode"), (14, u "(C)Z"), (15, u "$assertionsDisabled"), (0, u "Z"), (98, .class_ 223), (1, u "java/lang/StringLatin1$LinesSpliterator"), (156, u "toBytes"), (1, u "(C)[B"), (7, .class_ 391), (0, u "java/lang/StringLatin1$CharsSpliterator")] 3

def k12m0 : Method := { name := "<init>", desc := "()V", sig := { parameters := [], returnType := none }, accessFlags := 0, code := none }
def k12c1 : Code := { maxStack := 2, maxLocals := 1, code := jdk_43_method_3_code, exceptionTable := #[], attributes := #[] }
def k12m1 : Method := { name := "canEncode", desc := "(C)Z", sig := { parameters := [.char], returnType := some .boolean }, accessFlags := 9, code := some k12c1 }
def k12c2 : Code := { maxStack := 4, maxLocals := 1, code := jdk_43_method_46_code, exceptionTable := #[], attributes := #[] }
def k12m2 : Method := { name := "toBytes", desc := "(C)[B", sig := { parameters := [.char], returnType := some (.array .byte) }, accessFlags := 9, code := some k12c2 }
/-- java/lang/StringLatin1 -/
def k12 : Class := { plain "java/lang/StringLatin1" (some 0) with
  accessFlags := 48
  interfaces := #[]
  cf := some (fileOf pool12 14 #[.nestMembers #[390, 221]] #[{ accessFlags := 0, nameIndex := 7, descriptorIndex := 8, attributes := #[] }, { accessFlags := 9, nameIndex := 90, descriptorIndex := 105, attributes := #[] }, { accessFlags := 9, nameIndex := 380, descriptorIndex := 382, attributes := #[] }] 48 4 #[] #[{ accessFlags := 4120, nameIndex := 121, descriptorIndex := 122, attributes := #[] }])
  fields := #[{ name := "$assertionsDisabled", type := .boolean, accessFlags := 4120, slot := 0, constantValue := 0 }]
  methods := #[k12m0, k12m1, k12m2]
  instanceTypes := #[]
  staticTypes := #[.boolean]
  resolved := Array.replicate 395 none
  statics := none }

def pool13 : Array CpInfo := pool [(2, .class_ 4), (1, u "java/lang/Object"), (0, u "<init>"), (0, u "()V"), (17, .class_ 26), (1, u "jdk/internal/util/Preconditions"), (28, .class_ 56), (0, u "jdk/internal/util/Preconditions$4"), (57, .class_ 115), (0, u "jdk/internal/util/Preconditions$1"), (7, u "SIOOBE_FORMATTER"), (0, u "Ljava/util/function/BiFunction;"), (0, .class_ 126), (0, u "jdk/internal/util/Preconditions$2"), (3, u "AIOOBE_FORMATTER"), (0, .class_ 132), (0, u "jdk/internal/util/Preconditions$3"), (3, u "IOOBE_FORMATTER")] 57

def k13m0 : Method := { name := "<init>", desc := "()V", sig := { parameters := [], returnType := none }, accessFlags := 1, code := none }
/-- jdk/internal/util/Preconditions -/
def k13 : Class := { plain "jdk/internal/util/Preconditions" (some 0) with
  accessFlags := 33
  interfaces := #[]
  cf := some (fileOf pool13 24 #[.nestMembers #[55, 131, 125, 114]] #[{ accessFlags := 1, nameIndex := 5, descriptorIndex := 6, attributes := #[] }] 33 2 #[] #[{ accessFlags := 25, nameIndex := 123, descriptorIndex := 124, attributes := #[] }, { accessFlags := 25, nameIndex := 130, descriptorIndex := 124, attributes := #[] }, { accessFlags := 25, nameIndex := 136, descriptorIndex := 124, attributes := #[] }])
  fields := #[{ name := "SIOOBE_FORMATTER", type := (.object "java/util/function/BiFunction"), accessFlags := 25, slot := 0, constantValue := 0 }, { name := "AIOOBE_FORMATTER", type := (.object "java/util/function/BiFunction"), accessFlags := 25, slot := 1, constantValue := 0 }, { name := "IOOBE_FORMATTER", type := (.object "java/util/function/BiFunction"), accessFlags := 25, slot := 2, constantValue := 0 }]
  methods := #[k13m0]
  instanceTypes := #[]
  staticTypes := #[(.object "java/util/function/BiFunction"), (.object "java/util/function/BiFunction"), (.object "java/util/function/BiFunction")]
  resolved := Array.replicate 194 none
  statics := some 1 }

def pool14 : Array CpInfo := pool [(9, u "<init>"), (6, .class_ 18), (1, u "java/lang/Object"), (0, u "()V"), (1, .class_ 23), (1, u "jdk/internal/util/ArraysSupport"), (0, u "LOG2_ARRAY_LONG_INDEX_SCALE"), (0, u "I"), (2, u "U"), (0, u "Ljdk/internal/misc/Unsafe;"), (8, u "BIG_ENDIAN"), (0, u "Z"), (8, u "LOG2_BYTE_BIT_SIZE"), (4, u "LOG2_ARRAY_INT_INDEX_SCALE"), (54, u "JLA"), (0, u "Ljdk/internal/access/JavaLangAccess;"), (11, u "LOG2_ARRAY_BOOLEAN_INDEX_SCALE"), (9, u "LOG2_ARRAY_BYTE_INDEX_SCALE"), (5, u "LOG2_ARRAY_CHAR_INDEX_SCALE"), (5, u "LOG2_ARRAY_SHORT_INDEX_SCALE"), (18, u "LOG2_ARRAY_FLOAT_INDEX_SCALE"), (24, u "LOG2_ARRAY_DOUBLE_INDEX_SCALE"), (89, u "T_BOOLEAN"), (2, u "T_CHAR"), (1, u "T_FLOAT"), (1, u "T_DOUBLE"), (1, u "T_BYTE"), (1, u "T_SHORT"), (1, u "T_INT"), (1, u "T_LONG"), (1, u "SOFT_MAX_ARRAY_LENGTH")] 83

def k14m0 : Method := { name := "<init>", desc := "()V", sig := { parameters := [], returnType := none }, accessFlags := 2, code := none }
/-- jdk/internal/util/ArraysSupport -/
def k14 : Class := { plain "jdk/internal/util/ArraysSupport" (some 0) with
  accessFlags := 33
  interfaces := #[]
  cf := some (fileOf pool14 21 #[] #[{ accessFlags := 2, nameIndex := 9, descriptorIndex := 19, attributes := #[] }] 33 16 #[] #[{ accessFlags := 24, nameIndex := 28, descriptorIndex := 29, attributes := #[] }, { accessFlags := 26, nameIndex := 38, descriptorIndex := 39, attributes := #[] }, { accessFlags := 25, nameIndex := 121, descriptorIndex := 25, attributes := #[] }, { accessFlags := 25, nameIndex := 131, descriptorIndex := 25, attributes := #[] }, { accessFlags := 25, nameIndex := 137, descriptorIndex := 25, attributes := #[] }, { accessFlags := 25, nameIndex := 143, descriptorIndex := 25, attributes := #[] }, { accessFlags := 25, nameIndex := 53, descriptorIndex := 25, attributes := #[] }, { accessFlags := 25, nameIndex := 24, descriptorIndex := 25, attributes := #[] }, { accessFlags := 25, nameIndex := 162, descriptorIndex := 25, attributes := #[] }, { accessFlags := 25, nameIndex := 187, descriptorIndex := 25, attributes := #[] }, { accessFlags := 26, nameIndex := 48, descriptorIndex := 25, attributes := #[] }, { accessFlags := 25, nameIndex := 277, descriptorIndex := 25, attributes := #[] }, { accessFlags := 25, nameIndex := 280, descriptorIndex := 25, attributes := #[] }, { accessFlags := 25, nameIndex := 282, descriptorIndex := 25, attributes := #[] }, { accessFlags := 25, nameIndex := 284, descriptorIndex := 25, attributes := #[] }, { accessFlags := 25, nameIndex := 286, descriptorIndex := 25, attributes := #[] }, { accessFlags := 25, nameIndex := 288, descriptorIndex := 25, attributes := #[] }, { accessFlags := 25, nameIndex := 290, descriptorIndex := 25, attributes := #[] }, { accessFlags := 25, nameIndex := 292, descriptorIndex := 25, attributes := #[] }, { accessFlags := 26, nameIndex := 108, descriptorIndex := 109, attributes := #[] }, { accessFlags := 25, nameIndex := 294, descriptorIndex := 25, attributes := #[] }])
  fields := #[{ name := "U", type := (.object "jdk/internal/misc/Unsafe"), accessFlags := 24, slot := 0, constantValue := 0 }, { name := "BIG_ENDIAN", type := .boolean, accessFlags := 26, slot := 1, constantValue := 0 }, { name := "LOG2_ARRAY_BOOLEAN_INDEX_SCALE", type := .int, accessFlags := 25, slot := 2, constantValue := 0 }, { name := "LOG2_ARRAY_BYTE_INDEX_SCALE", type := .int, accessFlags := 25, slot := 3, constantValue := 0 }, { name := "LOG2_ARRAY_CHAR_INDEX_SCALE", type := .int, accessFlags := 25, slot := 4, constantValue := 0 }, { name := "LOG2_ARRAY_SHORT_INDEX_SCALE", type := .int, accessFlags := 25, slot := 5, constantValue := 0 }, { name := "LOG2_ARRAY_INT_INDEX_SCALE", type := .int, accessFlags := 25, slot := 6, constantValue := 0 }, { name := "LOG2_ARRAY_LONG_INDEX_SCALE", type := .int, accessFlags := 25, slot := 7, constantValue := 0 }, { name := "LOG2_ARRAY_FLOAT_INDEX_SCALE", type := .int, accessFlags := 25, slot := 8, constantValue := 0 }, { name := "LOG2_ARRAY_DOUBLE_INDEX_SCALE", type := .int, accessFlags := 25, slot := 9, constantValue := 0 }, { name := "LOG2_BYTE_BIT_SIZE", type := .int, accessFlags := 26, slot := 10, constantValue := 0 }, { name := "T_BOOLEAN", type := .int, accessFlags := 25, slot := 11, constantValue := 0 }, { name := "T_CHAR", type := .int, accessFlags := 25, slot := 12, constantValue := 0 }, { name := "T_FLOAT", type := .int, accessFlags := 25, slot := 13, constantValue := 0 }, { name := "T_DOUBLE", type := .int, accessFlags := 25, slot := 14, constantValue := 0 }, { name := "T_BYTE", type := .int, accessFlags := 25, slot := 15, constantValue := 0 }, { name := "T_SHORT", type := .int, accessFlags := 25, slot := 16, constantValue := 0 }, { name := "T_INT", type := .int, accessFlags := 25, slot := 17, constantValue := 0 }, { name := "T_LONG", type := .int, accessFlags := 25, slot := 18, constantValue := 0 }, { name := "JLA", type := (.object "jdk/internal/access/JavaLangAccess"), accessFlags := 26, slot := 19, constantValue := 0 }, { name := "SOFT_MAX_ARRAY_LENGTH", type := .int, accessFlags := 25, slot := 20, constantValue := 0 }]
  methods := #[k14m0]
  instanceTypes := #[]
  staticTypes := #[(.object "jdk/internal/misc/Unsafe"), .boolean, .int, .int, .int, .int, .int, .int, .int, .int, .int, .int, .int, .int, .int, .int, .int, .int, .int, (.object "jdk/internal/access/JavaLangAccess"), .int]
  resolved := Array.replicate 378 none
  statics := none }

def pool15 : Array CpInfo := pool [(1, u "java/lang/Cloneable"), (0, .class_ 1), (0, u "java/lang/Object"), (0, .class_ 3)] 3

/-- java/lang/Cloneable -/
def k15 : Class := { plain "java/lang/Cloneable" (some 0) with
  accessFlags := 1537
  interfaces := #[]
  cf := some (fileOf pool15 2 #[] #[] 1537 4 #[] #[])
  fields := #[]
  methods := #[]
  instanceTypes := #[]
  staticTypes := #[]
  resolved := Array.replicate 8 none
  statics := none }

/-- the primitive byte -/
def k16 : Class := { plain "byte" none with kind := .primitive 'B', accessFlags := 0x411 }
/-- [B -/
def k17 : Class := { plain "[B" (some 0) with kind := .array 16 .byte, interfaces := #[15, 5], accessFlags := 1041 }

/-- the primitive char -/
def k18 : Class := { plain "char" none with kind := .primitive 'C', accessFlags := 0x411 }
/-- [C -/
def k19 : Class := { plain "[C" (some 0) with kind := .array 18 .char, interfaces := #[15, 5], accessFlags := 1041 }

/-- the primitive int -/
def k20 : Class := { plain "int" none with kind := .primitive 'I', accessFlags := 0x411 }
/-- [I -/
def k21 : Class := { plain "[I" (some 0) with kind := .array 20 .int, interfaces := #[15, 5], accessFlags := 1041 }

def heap : Heap := #[{ cls := 10, slots := #[.long 0, .int 1, .null, .int 0, .null, .int 0, .int 0], vm := .statics 10 },
  { cls := 13, slots := #[.null, .null, .null], vm := .statics 13 }]
def classes : Array Class := #[k0, k1, k2, k3, k4, k5, k6, k7, k8, k9, k10, k11, k12, k13, k14, k15, k16, k17, k18, k19, k20, k21]
def interned : List (Array UInt16 × Addr) := []
def slotsUsed : Nat := 10
def theMethod : MethodId := ⟨1, 1⟩
def args0 : Array Value := #[.int 5, .int 5, .int 5, .int 5, .int 5]
def aboutOver (below : List Frame) : State where
  vm := { classes := classes, interned := interned.toArray }
  heap := heap
  slotsUsed := slotsUsed
  threads := #[{ frames := .invoking theMethod args0 :: below }]
def below0 : List Frame := [.native { method := ⟨0, 0⟩, args := #[] }]
def about1 : State := aboutOver below0
def p0 : Program := .bare "" "" ""
def e0 : Env := launch0.env 0 0 0
theorem w_frames : about1.frames = Frame.invoking theMethod args0 :: below0 := rfl
set_option maxRecDepth 65536 in
theorem w_args : argsFit about1.vm theMethod args0 = true := by decide +kernel
set_option maxRecDepth 65536 in
theorem w_heap : heapFits about1 = true := by decide +kernel
set_option maxRecDepth 65536 in
theorem w_runnable : about1.curStatus? = some .runnable := by decide +kernel
set_option maxRecDepth 65536 in
theorem w_alone : about1.alone = true := by decide +kernel
set_option maxRecDepth 65536 in
theorem w_named : about1.methodNamed? x = some theMethod := by decide +kernel
set_option maxRecDepth 65536 in
theorem w_hears : about1.hears theMethod below0 = true := by decide +kernel
set_option maxRecDepth 65536 in
theorem w_ripe : about1.ripe theMethod args0 below0 = true := by decide +kernel
theorem w_running : about1.status = .running := rfl
set_option maxRecDepth 65536 in
theorem w_room : about1.hasRoom e0.platform room_1 = true :=
  launch0.hasRoom_least _ room_1 (by decide +kernel) (by decide +kernel) (by decide +kernel) (by decide +kernel) (by decide +kernel) (by decide +kernel)
theorem allAtoms_all (ts : List Jvm.Cond) (a : Array Jvm.Value) (st : Jvm.State) : (allAtoms ts).before a st = ts.all (fun c => c.before a st) := by
  induction ts with
  | nil => rfl
  | cons c t ih =>
    show (Jvm.Cond.and c (allAtoms t)).before a st = _
    rw [Jvm.Cond.before_and, ih, List.all_cons]
def words1 : List Jvm.Cond := Jvm.Cond.code x code maxLocals ret :: tables_1
/-- a 'code' word, met by the world's own term for the bytes: nothing is compared byte by byte -/
theorem code_word {y : MethodName} {bytes : ByteArray} {mx : Nat} {rt : Option FieldType} {a : Array Value} {s : State} {m : MethodId} {meth : Method} {c : Code} (h1 : s.methodNamed? y = some m) (h2 : s.vm.method? m = some meth) (h3 : meth.code = some c) (h4 : c.code = bytes)
    (h5 : (c.maxLocals == mx && c.exceptionTable.isEmpty && decide (c.maxStack ≤ mostOperands) && decide (meth.sig.returnType = rt) && !meth.locks && decide (parseMethodDescriptor y.desc = some meth.sig)) = true) : (Jvm.Cond.code y bytes mx rt).before a s = true := by
  simp only [Bool.and_eq_true, beq_iff_eq, Bool.not_eq_true', decide_eq_true_eq] at h5
  obtain ⟨⟨⟨⟨⟨g1, g2⟩, g3⟩, g4⟩, g5⟩, g6⟩ := h5
  simp [Cond.before, Cond.holds, Cond.value, h1, h2, h3, h4, g1, g2, g3, g4, g5, g6]
def isCode : Jvm.Cond → Bool
  | .code _ _ _ _ => true
  | _ => false
theorem all_split {L : List Jvm.Cond} {P : Jvm.Cond → Bool} (h1 : L.all (fun c => isCode c || P c) = true) (h2 : ∀ c ∈ L.filter isCode, P c = true) : L.all P = true := by
  refine List.all_eq_true.mpr fun c hc => ?_
  have h := List.all_eq_true.mp h1 c hc
  rcases Bool.eq_false_or_eq_true (isCode c) with hi | hi
  · exact h2 c (List.mem_filter.mpr ⟨hc, hi⟩)
  · simpa [hi] using h
set_option maxRecDepth 65536 in
theorem w_c0 : (Jvm.Cond.code x code maxLocals ret).before args0 about1 = true := code_word (m := ⟨1, 1⟩) (meth := k1m1) (c := k1c1) (by decide +kernel) rfl rfl rfl (by decide +kernel)
set_option maxRecDepth 65536 in
theorem w_c1 : (Jvm.Cond.code ({ cls := "com/example/stylewright/stylewright/xpath/NodeTest$NameTest", name := "<init>", desc := "(Ljava/lang/String;Ljava/lang/String;)V" } : Jvm.MethodName) prog_92_method_1_code (3 : Nat) (Option.none : Option Jvm.ClassFile.FieldType)).before args0 about1 = true := code_word (m := ⟨4, 0⟩) (meth := k4m0) (c := k4c0) (by decide +kernel) rfl rfl rfl (by decide +kernel)
set_option maxRecDepth 65536 in
theorem w_c2 : (Jvm.Cond.code ({ cls := "java/lang/Record", name := "<init>", desc := "()V" } : Jvm.MethodName) jdk_30_method_1_code (1 : Nat) (Option.none : Option Jvm.ClassFile.FieldType)).before args0 about1 = true := code_word (m := ⟨2, 0⟩) (meth := k2m0) (c := k2c0) (by decide +kernel) rfl rfl rfl (by decide +kernel)
set_option maxRecDepth 65536 in
theorem w_c3 : (Jvm.Cond.code ({ cls := "java/lang/Object", name := "<init>", desc := "()V" } : Jvm.MethodName) object_method_1_code (1 : Nat) (Option.none : Option Jvm.ClassFile.FieldType)).before args0 about1 = true := code_word (m := ⟨0, 0⟩) (meth := k0m0) (c := k0c0) (by decide +kernel) rfl rfl rfl (by decide +kernel)
set_option maxRecDepth 65536 in
theorem w_c4 : (Jvm.Cond.code ({ cls := "com/example/stylewright/stylewright/xpath/NodeTest$NameTest", name := "defaultPriority", desc := "()D" } : Jvm.MethodName) prog_92_method_4_code (3 : Nat) (Option.some Jvm.ClassFile.FieldType.double)).before args0 about1 = true := code_word (m := ⟨4, 1⟩) (meth := k4m1) (c := k4c1) (by decide +kernel) rfl rfl rfl (by decide +kernel)
set_option maxRecDepth 65536 in
theorem w_c5 : (Jvm.Cond.code ({ cls := "com/example/stylewright/stylewright/xpath/NameTestDefaultPriorityPinLaw", name := "draw", desc := "(III)Ljava/lang/String;" } : Jvm.MethodName) method_3_code (6 : Nat) (Option.some (Jvm.ClassFile.FieldType.object "java/lang/String"))).before args0 about1 = true := code_word (m := ⟨1, 2⟩) (meth := k1m2) (c := k1c2) (by decide +kernel) rfl rfl rfl (by decide +kernel)
set_option maxRecDepth 65536 in
theorem w_c6 : (Jvm.Cond.code ({ cls := "java/lang/String", name := "<init>", desc := "([C)V" } : Jvm.MethodName) jdk_42_method_3_code (2 : Nat) (Option.none : Option Jvm.ClassFile.FieldType)).before args0 about1 = true := code_word (m := ⟨10, 1⟩) (meth := k10m1) (c := k10c1) (by decide +kernel) rfl rfl rfl (by decide +kernel)
set_option maxRecDepth 65536 in
theorem w_c7 : (Jvm.Cond.code ({ cls := "java/lang/String", name := "<init>", desc := "([CIILjava/lang/Void;)V" } : Jvm.MethodName) jdk_42_method_149_code (6 : Nat) (Option.none : Option Jvm.ClassFile.FieldType)).before args0 about1 = true := code_word (m := ⟨10, 3⟩) (meth := k10m3) (c := k10c3) (by decide +kernel) rfl rfl rfl (by decide +kernel)
set_option maxRecDepth 65536 in
theorem w_c8 : (Jvm.Cond.code ({ cls := "java/lang/StringUTF16", name := "compress", desc := "([CII)[B" } : Jvm.MethodName) jdk_52_method_16_code (6 : Nat) (Option.some (Jvm.ClassFile.FieldType.array Jvm.ClassFile.FieldType.byte))).before args0 about1 = true := code_word (m := ⟨11, 2⟩) (meth := k11m2) (c := k11c2) (by decide +kernel) rfl rfl rfl (by decide +kernel)
set_option maxRecDepth 65536 in
theorem w_c9 : (Jvm.Cond.code ({ cls := "java/lang/StringUTF16", name := "compress", desc := "([CI[BII)I" } : Jvm.MethodName) jdk_52_method_21_code (7 : Nat) (Option.some Jvm.ClassFile.FieldType.int)).before args0 about1 = true := code_word (m := ⟨11, 3⟩) (meth := k11m3) (c := k11c3) (by decide +kernel) rfl rfl rfl (by decide +kernel)
set_option maxRecDepth 65536 in
theorem w_c10 : (Jvm.Cond.code ({ cls := "java/lang/StringUTF16", name := "coderFromArrayLen", desc := "([BI)B" } : Jvm.MethodName) jdk_52_method_15_code (2 : Nat) (Option.some Jvm.ClassFile.FieldType.byte)).before args0 about1 = true := code_word (m := ⟨11, 1⟩) (meth := k11m1) (c := k11c1) (by decide +kernel) rfl rfl rfl (by decide +kernel)
set_option maxRecDepth 65536 in
theorem w_c11 : (Jvm.Cond.code ({ cls := "java/lang/String", name := "valueOf", desc := "(C)Ljava/lang/String;" } : Jvm.MethodName) jdk_42_method_139_code (1 : Nat) (Option.some (Jvm.ClassFile.FieldType.object "java/lang/String"))).before args0 about1 = true := code_word (m := ⟨10, 2⟩) (meth := k10m2) (c := k10c2) (by decide +kernel) rfl rfl rfl (by decide +kernel)
set_option maxRecDepth 65536 in
theorem w_c12 : (Jvm.Cond.code ({ cls := "java/lang/StringLatin1", name := "canEncode", desc := "(C)Z" } : Jvm.MethodName) jdk_43_method_3_code (1 : Nat) (Option.some Jvm.ClassFile.FieldType.boolean)).before args0 about1 = true := code_word (m := ⟨12, 1⟩) (meth := k12m1) (c := k12c1) (by decide +kernel) rfl rfl rfl (by decide +kernel)
set_option maxRecDepth 65536 in
theorem w_c13 : (Jvm.Cond.code ({ cls := "java/lang/StringLatin1", name := "toBytes", desc := "(C)[B" } : Jvm.MethodName) jdk_43_method_46_code (1 : Nat) (Option.some (Jvm.ClassFile.FieldType.array Jvm.ClassFile.FieldType.byte))).before args0 about1 = true := code_word (m := ⟨12, 2⟩) (meth := k12m2) (c := k12c2) (by decide +kernel) rfl rfl rfl (by decide +kernel)
set_option maxRecDepth 65536 in
theorem w_c14 : (Jvm.Cond.code ({ cls := "java/lang/String", name := "<init>", desc := "([BB)V" } : Jvm.MethodName) jdk_42_method_151_code (3 : Nat) (Option.none : Option Jvm.ClassFile.FieldType)).before args0 about1 = true := code_word (m := ⟨10, 4⟩) (meth := k10m4) (c := k10c4) (by decide +kernel) rfl rfl rfl (by decide +kernel)
def codes1 : List Jvm.Cond := [Jvm.Cond.code x code maxLocals ret, Jvm.Cond.code ({ cls := "com/example/stylewright/stylewright/xpath/NodeTest$NameTest", name := "<init>", desc := "(Ljava/lang/String;Ljava/lang/String;)V" } : Jvm.MethodName) prog_92_method_1_code (3 : Nat) (Option.none : Option Jvm.ClassFile.FieldType), Jvm.Cond.code ({ cls := "java/lang/Record", name := "<init>", desc := "()V" } : Jvm.MethodName) jdk_30_method_1_code (1 : Nat) (Option.none : Option Jvm.ClassFile.FieldType), Jvm.Cond.code ({ cls := "java/lang/Object", name := "<init>", desc := "()V" } : Jvm.MethodName) object_method_1_code (1 : Nat) (Option.none : Option Jvm.ClassFile.FieldType), Jvm.Cond.code ({ cls := "com/example/stylewright/stylewright/xpath/NodeTest$NameTest", name := "defaultPriority", desc := "()D" } : Jvm.MethodName) prog_92_method_4_code (3 : Nat) (Option.some Jvm.ClassFile.FieldType.double), Jvm.Cond.code ({ cls := "com/example/stylewright/stylewright/xpath/NameTestDefaultPriorityPinLaw", name := "draw", desc := "(III)Ljava/lang/String;" } : Jvm.MethodName) method_3_code (6 : Nat) (Option.some (Jvm.ClassFile.FieldType.object "java/lang/String")), Jvm.Cond.code ({ cls := "java/lang/String", name := "<init>", desc := "([C)V" } : Jvm.MethodName) jdk_42_method_3_code (2 : Nat) (Option.none : Option Jvm.ClassFile.FieldType), Jvm.Cond.code ({ cls := "java/lang/String", name := "<init>", desc := "([CIILjava/lang/Void;)V" } : Jvm.MethodName) jdk_42_method_149_code (6 : Nat) (Option.none : Option Jvm.ClassFile.FieldType), Jvm.Cond.code ({ cls := "java/lang/StringUTF16", name := "compress", desc := "([CII)[B" } : Jvm.MethodName) jdk_52_method_16_code (6 : Nat) (Option.some (Jvm.ClassFile.FieldType.array Jvm.ClassFile.FieldType.byte)), Jvm.Cond.code ({ cls := "java/lang/StringUTF16", name := "compress", desc := "([CI[BII)I" } : Jvm.MethodName) jdk_52_method_21_code (7 : Nat) (Option.some Jvm.ClassFile.FieldType.int), Jvm.Cond.code ({ cls := "java/lang/StringUTF16", name := "coderFromArrayLen", desc := "([BI)B" } : Jvm.MethodName) jdk_52_method_15_code (2 : Nat) (Option.some Jvm.ClassFile.FieldType.byte), Jvm.Cond.code ({ cls := "java/lang/String", name := "valueOf", desc := "(C)Ljava/lang/String;" } : Jvm.MethodName) jdk_42_method_139_code (1 : Nat) (Option.some (Jvm.ClassFile.FieldType.object "java/lang/String")), Jvm.Cond.code ({ cls := "java/lang/StringLatin1", name := "canEncode", desc := "(C)Z" } : Jvm.MethodName) jdk_43_method_3_code (1 : Nat) (Option.some Jvm.ClassFile.FieldType.boolean), Jvm.Cond.code ({ cls := "java/lang/StringLatin1", name := "toBytes", desc := "(C)[B" } : Jvm.MethodName) jdk_43_method_46_code (1 : Nat) (Option.some (Jvm.ClassFile.FieldType.array Jvm.ClassFile.FieldType.byte)), Jvm.Cond.code ({ cls := "java/lang/String", name := "<init>", desc := "([BB)V" } : Jvm.MethodName) jdk_42_method_151_code (3 : Nat) (Option.none : Option Jvm.ClassFile.FieldType)]
set_option maxRecDepth 65536 in
theorem codes_eq : words1.filter isCode = codes1 := rfl
theorem w_codes : ∀ c ∈ words1.filter isCode, c.before args0 about1 = true := by
  rw [codes_eq]
  intro c hc
  simp only [codes1, List.mem_cons, List.not_mem_nil, or_false] at hc
  rcases hc with rfl | rfl | rfl | rfl | rfl | rfl | rfl | rfl | rfl | rfl | rfl | rfl | rfl | rfl | rfl
  · exact w_c0
  · exact w_c1
  · exact w_c2
  · exact w_c3
  · exact w_c4
  · exact w_c5
  · exact w_c6
  · exact w_c7
  · exact w_c8
  · exact w_c9
  · exact w_c10
  · exact w_c11
  · exact w_c12
  · exact w_c13
  · exact w_c14
set_option maxRecDepth 65536 in
theorem w_t1 : (words1.take 24).all (fun c => isCode c || c.before args0 about1) = true := by decide +kernel
set_option maxRecDepth 65536 in
theorem w_t2 : ((words1.drop 24).take 24).all (fun c => isCode c || c.before args0 about1) = true := by decide +kernel
set_option maxRecDepth 65536 in
theorem w_t3 : (((words1.drop 24).drop 24).take 24).all (fun c => isCode c || c.before args0 about1) = true := by decide +kernel
set_option maxRecDepth 65536 in
theorem w_t4 : (((words1.drop 24).drop 24).drop 24).all (fun c => isCode c || c.before args0 about1) = true := by decide +kernel
theorem w_tables : (allAtoms (Jvm.Cond.code x code maxLocals ret :: tables_1)).before args0 about1 = true := by
  rw [allAtoms_all]
  show words1.all (fun c => c.before args0 about1) = true
  refine all_split ?_ w_codes
  rw [← List.take_append_drop 24 words1, List.all_append, w_t1, ← List.take_append_drop 24 (words1.drop 24), List.all_append, w_t2, ← List.take_append_drop 24 ((words1.drop 24).drop 24), List.all_append, w_t3, w_t4]
  rfl
set_option maxRecDepth 65536 in
theorem w_rest : rest_1_c.before args0 about1 = true := by decide +kernel
set_option maxRecDepth 65536 in
theorem w_case : (Jvm.Cond.and given_1 narrow_1).before args0 about1 = true := by decide +kernel
set_option maxRecDepth 65536 in
theorem w_consts : constsHeld consts_1 about1 := Jvm.Lit.constsHeldB_iff.mp (by decide +kernel)
theorem w_applies : (headSpec (Jvm.Cond.code x code maxLocals ret :: tables_1) room_1).applies x e0.platform about1 = true :=
  (Spec.applies_iff w_frames).mpr ⟨w_running, w_runnable, w_alone, w_named, w_hears, w_ripe, w_room, w_tables⟩
theorem atStart : AtStart classFile x code maxLocals ret World_1 tables_1 room_1 Calls_1 rest_1 Pre_1 launch0 p0 e0 about1 theMethod args0 below0 :=
  ⟨lists_1, trivial, launch0.admits_env _ _ _, launch0.least_env, fairChoices_fair.cas, fairChoices_fair.clock, w_frames, w_args, w_heap, w_applies, ⟨w_consts, trivial⟩, w_rest, w_case⟩
end start1
theorem witness_1 : WitnessClaimed_1 := ⟨start1.p0, start1.e0, start1.about1, start1.theMethod, start1.args0, start1.below0, start1.atStart⟩
end Jvm.Pilot.@@N@@
