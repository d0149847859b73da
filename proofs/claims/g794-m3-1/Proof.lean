import JvmDerived
import JvmDerived.Pilot.@@N@@Statement
import JvmDerived.Pilot.@@N@@Code
set_option linter.unusedVariables false
set_option linter.unusedSimpArgs false
namespace Jvm.Pilot.@@N@@
open Jvm Jvm.ClassFile Sem Op Lib Jvm.Free Jvm.Stand Jvm.LawKit Jvm.RoadKit Bundle Jvm.Pilot.@@N@@.Jvm.D
/-! a thin layer of one form a step, over the library's road laws -/
def MetN (l : Launch) (Z : State) (y : MethodName) (bytes : ByteArray) (maxL : Nat) (ret : Option FieldType) (rm : Room) (ws : List Jvm.Cond) (as' : Array Value) (h : Heap) (Q : Option Value → Heap → List Loc → Prop) : Prop :=
  MetFree l y (head1 (Jvm.Cond.code y bytes maxL ret :: ws) rm) (fun a U => a = as' ∧ Z.Warmed39 U.vm ∧ U.heap = h) (fun _ _ _ _ _ => True) (fun _ U o U' => ∃ v L, o = .returned v ∧ Q v U'.heap L ∧ FrameEnd U o U' L rm.cells rm.slots)
def Win (p : Program) (e : Env) (below : List Frame) (s : State) (rm : Room) (Q : Option Value → Heap → List Loc → Prop) (st : State) : Prop :=
  ∃ s₂ o, Steps p.tables e below st s₂ ∧ s₂.status = .running ∧ Ended s₂ below o ∧ ∃ v L, o = .returned v ∧ Q v s₂.heap L ∧ FrameEnd s o s₂ L rm.cells rm.slots
section Own
variable {p : Program} {l : Launch} {e : Env} {R rm : Room} {s : State} {m : MethodId} {args : Array Value} {below : List Frame} {meth : Method} {c : Code} {T : State} {locs : List Loc} {cells slots : Nat} {Z : State} {a0 : Array Value} {h : Heap} {Q : Option Value → Heap → List Loc → Prop}
theorem Win.to {A : State} (T : State) (g : JFrame) (k : ∀ t, Steps p.tables e below (T.setTop g) t → Steps p.tables e below A t) (w : Win p e below s rm Q (T.setTop g)) : Win p e below s rm Q A := by
  obtain ⟨s₂, o, h1, r⟩ := w
  exact ⟨s₂, o, k _ h1, r⟩
theorem Win.out (X : Stand p l e R s m args below meth c T locs cells slots) {A : State} {v : Option Value} (hlk : meth.locks = false) (hv : meth.sig.returnType = none → v = none)
    (hst : ∀ fs, (∀ (f : JFrame) (acts : List Action), f.method = m → f.locked = none → f.entered = [] → (doReturn e (T.setTop f) acts v).1 = T.setFrames fs) → Steps p.tables e below A (T.setFrames fs))
    (hc : cells ≤ rm.cells) (hs : slots ≤ rm.slots) (hq : Q v T.heap locs) : Win p e below s rm Q A := by
  obtain ⟨fs, hr, hrun, hended, hW, hsame⟩ := X.leave (v := v) hv
  exact ⟨_, _, hst fs hr, hrun, hended, _, _, rfl, hq, ⟨_, rfl⟩, hW, hsame.mono hc hs⟩
theorem Win.retN (X : Stand p l e R s m args below meth c T locs cells slots) (hx : p.tables.exec = Jvm.exec) (hlk : meth.locks = false) {pc : Nat} {Ls : Array Slot} {z z' : Int32} {t : FieldType} {rest : List Value} (hret : meth.sig.returnType = some t) (ht : t = .boolean ∨ t = .byte ∨ t = .char ∨ t = .short) (hz : nar t z = z')
    (hd : decode c.code pc = .ok (.ireturn, 1)) (hc : cells ≤ rm.cells) (hs : slots ≤ rm.slots) (hq : Q (some (.int z')) T.heap locs) : Win p e below s rm Q (T.setTop (mkF m pc Ls (.int z :: rest))) := by
  subst hz
  exact Win.out X (v := some (.int (nar t z))) hlk (fun q => by rw [hret] at q; cases q) (fun fs hr => Jvm.RoadKit.retN X hx (t := t) hret ht hd hr) hc hs hq
theorem Win.retI (X : Stand p l e R s m args below meth c T locs cells slots) (hx : p.tables.exec = Jvm.exec) (hlk : meth.locks = false) {pc : Nat} {Ls : Array Slot} {z : Int32} {rest : List Value} (hret : meth.sig.returnType = some .int)
    (hd : decode c.code pc = .ok (.ireturn, 1)) (hc : cells ≤ rm.cells) (hs : slots ≤ rm.slots) (hq : Q (some (.int z)) T.heap locs) : Win p e below s rm Q (T.setTop (mkF m pc Ls (.int z :: rest))) :=
  Win.out X (v := some (.int z)) hlk (fun q => by rw [hret] at q; cases q) (fun fs hr => retOut X hx hret rfl (Or.inl ⟨rfl, Or.inl rfl, z, rfl⟩) hd hr) hc hs hq
theorem Win.retJ (X : Stand p l e R s m args below meth c T locs cells slots) (hx : p.tables.exec = Jvm.exec) (hlk : meth.locks = false) {pc : Nat} {Ls : Array Slot} {z : Int64} {rest : List Value} (hret : meth.sig.returnType = some .long)
    (hd : decode c.code pc = .ok (.lreturn, 1)) (hc : cells ≤ rm.cells) (hs : slots ≤ rm.slots) (hq : Q (some (.long z)) T.heap locs) : Win p e below s rm Q (T.setTop (mkF m pc Ls (.long z :: rest))) :=
  Win.out X (v := some (.long z)) hlk (fun q => by rw [hret] at q; cases q) (fun fs hr => retOut X hx hret rfl (Or.inr (Or.inl ⟨rfl, rfl, z, rfl⟩)) hd hr) hc hs hq
theorem Win.retD (X : Stand p l e R s m args below meth c T locs cells slots) (hx : p.tables.exec = Jvm.exec) (hlk : meth.locks = false) {pc : Nat} {Ls : Array Slot} {z : UInt64} {rest : List Value} (hret : meth.sig.returnType = some .double)
    (hd : decode c.code pc = .ok (.dreturn, 1)) (hc : cells ≤ rm.cells) (hs : slots ≤ rm.slots) (hq : Q (some (.double z)) T.heap locs) : Win p e below s rm Q (T.setTop (mkF m pc Ls (.double z :: rest))) :=
  Win.out X (v := some (.double z)) hlk (fun q => by rw [hret] at q; cases q) (fun fs hr => retOut X hx hret rfl (Or.inr (Or.inr (Or.inl ⟨rfl, rfl, z, rfl⟩))) hd hr) hc hs hq
theorem Win.retA (X : Stand p l e R s m args below meth c T locs cells slots) (hx : p.tables.exec = Jvm.exec) (hlk : meth.locks = false) {pc : Nat} {Ls : Array Slot} {w : Value} {t : FieldType} {rest : List Value} (hret : meth.sig.returnType = some t) (ht : t.isReference = true) (hw : w.isRef = true)
    (hd : decode c.code pc = .ok (.areturn, 1)) (hc : cells ≤ rm.cells) (hs : slots ≤ rm.slots) (hq : Q (some w) T.heap locs) : Win p e below s rm Q (T.setTop (mkF m pc Ls (w :: rest))) :=
  Win.out X (v := some w) hlk (fun q => by rw [hret] at q; cases q) (fun fs hr => retOut X hx hret (by rcases ref_cases hw with rfl | ⟨_, rfl⟩ <;> cases t <;> first | rfl | cases ht) (Or.inr (Or.inr (Or.inr (Or.inr ⟨rfl, ht, hw⟩)))) hd hr) hc hs hq
theorem Win.retV (X : Stand p l e R s m args below meth c T locs cells slots) (hx : p.tables.exec = Jvm.exec) (hlk : meth.locks = false) {pc : Nat} {Ls : Array Slot} (hret : meth.sig.returnType = none)
    (hd : decode c.code pc = .ok (.return_, 1)) (hc : cells ≤ rm.cells) (hs : slots ≤ rm.slots) (hq : Q none T.heap locs) : Win p e below s rm Q (T.setTop (mkF m pc Ls [])) :=
  Win.out X (v := none) hlk (fun _ => rfl) (fun fs hr => X.returnOut hx hret hd hr) hc hs hq
theorem MetN.walk {y : MethodName} {bytes : ByteArray} {maxL : Nat} {ret : Option FieldType} {ws : List Jvm.Cond} {as' : Array Value} (hp : plainFor y = true)
    (b : ∀ (p : Program) (e : Env) (s : State) (m : MethodId) (below : List Frame) (meth : Method) (c : Code) (s₁ : State), p.tables.exec = Jvm.exec → Z.Warmed39 s.vm → c.code = bytes → c.maxLocals = maxL → s.vm.findClass y.cls = some m.cls → meth.name = y.name → meth.sig.returnType = ret → meth.locks = false →
      Stand p l e rm s m as' below meth c s₁ [] 0 0 → s₁.heap = h → Win p e below s rm Q (s₁.setTop (entryFrame m as' maxL))) : MetN l Z y bytes maxL ret rm ws as' h Q := by
  refine MetFree.of_bodySF hp hisR ?_
  intro p e s m args below meth c s₁ Bd hml0 hP hK
  obtain ⟨rfl, hZ, hh⟩ := hP
  exact b p e s m below meth c s₁ Bd.exec hZ Bd.bytes hml0 (findClass_of_methodNamed Bd.named) (name_of_methodNamed Bd.named Bd.method).1 Bd.returns Bd.notSynchronized (Stand.of_body Bd) (by rw [← hh, Bd.state]; rfl)
theorem N.static (X : Stand p l e R s m args below meth c T locs cells slots) (hx : p.tables.exec = Jvm.exec) (hZ : Z.Warmed39 s.vm) {own : String} {index : Nat} {y : MethodName} {bytes : ByteArray} {maxL : Nat} {ret : Option FieldType} {as' : Array Value}
    (hown : s.vm.findClass own = some m.cls) (w1 : (Jvm.Cond.methodLink own index y).before a0 Z = true) (w2 : (Jvm.Cond.static y).before a0 Z = true) (w3 : (Jvm.Cond.initialized y.cls).before a0 Z = true) (w4 : (Jvm.Cond.code y bytes maxL ret).before a0 Z = true)
    (hy : y.cls ≠ "java/lang/invoke/MethodHandle" ∧ y.cls ≠ "java/lang/invoke/VarHandle") (M : MetN l Z y bytes maxL ret rm [] as' h Q) (eT : T.heap = h) {g : JFrame} (hg : g.method = m) (hsize : g.locals.size = c.maxLocals) {argsL rest : List Value} (has : argsL.toArray = as')
    (hlen : ∀ sig, parseMethodDescriptor y.desc = some sig → argsL.length = sig.parameters.length) (hstack : g.stack = argsL.reverse ++ rest) {W : Nat} (hW : 2 * g.monitorRoom + (rest.map fun v => v.category).sum ≤ W) (hd : decode c.code g.pc = .ok (.invokestatic index, 3))
    (hf : rm.frames + 1 ≤ R.frames) (hl : W + (maxL + 11) + rm.locals ≤ R.locals) (hc : cells + rm.cells ≤ R.cells) (hs : slots + rm.slots ≤ R.slots) :
    ∃ (T' : State) (h' : Heap) (v : Option Value) (L : List Loc), Stand p l e R s m args below meth c T' (locs ++ L) (cells + rm.cells) (slots + rm.slots) ∧ T'.heap = h' ∧ Q v h' L ∧ ∀ t, Steps p.tables e below (T'.setTop { g with pc := g.pc + 3, stack := v.toList ++ rest }) t → Steps p.tables e below (T.setTop g) t := by
  obtain ⟨v, _, ⟨T', L', k', n'⟩, -, X', ⟨Lc, hQ, l', y', z'⟩, st⟩ := Jvm.LawKit.callS X hx hown (mvT hZ w1) (mvT hZ w2) (mvT hZ w3) (mvT hZ w4) hy (backOf (W := W) M hZ w4 w3 hf hl) hg hsize hlen hstack hW hd (fun _ _ => ⟨has, eT, hc, hs⟩)
  dsimp only [Pt.U, Pt.locs, Pt.cells, Pt.slots] at X' l' y' z' st hQ
  subst l' y' z'
  exact ⟨T', _, v, Lc, X', rfl, hQ, st⟩
theorem N.special (X : Stand p l e R s m args below meth c T locs cells slots) (hx : p.tables.exec = Jvm.exec) (hZ : Z.Warmed39 s.vm) {own : String} {index : Nat} {y : MethodName} {bytes : ByteArray} {maxL : Nat} {as' : Array Value} (hy1 : y.name = "<init>")
    (hown : s.vm.findClass own = some m.cls) (w1 : (Jvm.Cond.methodLink own index y).before a0 Z = true) (w2 : (Jvm.Cond.instanceMethod y).before a0 Z = true) (w3 : (Jvm.Cond.initialized y.cls).before a0 Z = true) (w4 : (Jvm.Cond.code y bytes maxL none).before a0 Z = true)
    (hy : y.cls ≠ "java/lang/invoke/MethodHandle" ∧ y.cls ≠ "java/lang/invoke/VarHandle") (M : MetN l Z y bytes maxL none rm [] as' h Q) (eT : T.heap = h) {g : JFrame} (hg : g.method = m) (hsize : g.locals.size = c.maxLocals) {a : Addr} {argsL rest : List Value} (has : (Value.ref a :: argsL).toArray = as')
    (hlen : ∀ sig, parseMethodDescriptor y.desc = some sig → argsL.length = sig.parameters.length) (hstack : g.stack = argsL.reverse ++ .ref a :: rest) {W : Nat} (hW : 2 * g.monitorRoom + (rest.map fun v => v.category).sum ≤ W) (hd : decode c.code g.pc = .ok (.invokespecial index, 3))
    (hf : rm.frames + 1 ≤ R.frames) (hl : W + (maxL + 11) + rm.locals ≤ R.locals) (hc : cells + rm.cells ≤ R.cells) (hs : slots + rm.slots ≤ R.slots) :
    ∃ (T' : State) (h' : Heap) (v : Option Value) (L : List Loc), Stand p l e R s m args below meth c T' (locs ++ L) (cells + rm.cells) (slots + rm.slots) ∧ T'.heap = h' ∧ Q v h' L ∧ ∀ t, Steps p.tables e below (T'.setTop { g with pc := g.pc + 3, stack := v.toList ++ rest }) t → Steps p.tables e below (T.setTop g) t := by
  obtain ⟨v, _, ⟨T', L', k', n'⟩, -, X', ⟨Lc, hQ, l', y', z'⟩, st⟩ := X.specialBack hx hy1 hown (mvT hZ w1) (mvT hZ w2) (mvT hZ w4) hy (backOf (W := W) M hZ w4 w3 hf hl) hg hsize (Steps.refl _) (a := a) hlen hstack hW hd (fun _ _ => ⟨has, eT, hc, hs⟩)
  dsimp only [Pt.U, Pt.locs, Pt.cells, Pt.slots] at X' l' y' z' st hQ
  subst l' y' z'
  exact ⟨T', _, v, Lc, X', rfl, hQ, fun t k => st.trans k⟩
theorem N.virtual (X : Stand p l e R s m args below meth c T locs cells slots) (hx : p.tables.exec = Jvm.exec) (hZ : Z.Warmed39 s.vm) {own C : String} {index : Nat} {y z : MethodName} {bytes : ByteArray} {maxL : Nat} {ret : Option FieldType} {as' : Array Value}
    (hown : s.vm.findClass own = some m.cls) (w1 : (Jvm.Cond.methodLink own index y).before a0 Z = true) (w5 : (Jvm.Cond.declares y).before a0 Z = true) (nf : NotFace s y) (w6 : (Jvm.Cond.selects C y z).before a0 Z = true) (w2 : (Jvm.Cond.instanceMethod z).before a0 Z = true) (w3 : (Jvm.Cond.initialized z.cls).before a0 Z = true) (w4 : (Jvm.Cond.code z bytes maxL ret).before a0 Z = true)
    (hy : y.cls ≠ "java/lang/invoke/MethodHandle" ∧ y.cls ≠ "java/lang/invoke/VarHandle") (M : MetN l Z z bytes maxL ret rm [] as' h Q) (eT : T.heap = h) {a : Addr} (E : Exa Z h a C) {g : JFrame} (hg : g.method = m) (hsize : g.locals.size = c.maxLocals) {argsL rest : List Value} (has : (Value.ref a :: argsL).toArray = as')
    (hlen : ∀ sig, parseMethodDescriptor y.desc = some sig → argsL.length = sig.parameters.length) (hstack : g.stack = argsL.reverse ++ .ref a :: rest) {W : Nat} (hW : 2 * g.monitorRoom + (rest.map fun v => v.category).sum ≤ W) (hd : decode c.code g.pc = .ok (.invokevirtual index, 3))
    (hf : rm.frames + 1 ≤ R.frames) (hl : W + (maxL + 11) + rm.locals ≤ R.locals) (hc : cells + rm.cells ≤ R.cells) (hs : slots + rm.slots ≤ R.slots) :
    ∃ (T' : State) (h' : Heap) (v : Option Value) (L : List Loc), Stand p l e R s m args below meth c T' (locs ++ L) (cells + rm.cells) (slots + rm.slots) ∧ T'.heap = h' ∧ Q v h' L ∧ ∀ t, Steps p.tables e below (T'.setTop { g with pc := g.pc + 3, stack := v.toList ++ rest }) t → Steps p.tables e below (T.setTop g) t := by
  obtain ⟨cq, kq, qa, qb, qc⟩ := isOf hZ eT E
  obtain ⟨v, _, ⟨T', L', k', n'⟩, -, X', ⟨Lc, hQ, l', y', z'⟩, st⟩ := X.virtualBack hx (y := y) (z := z) hown (mvT hZ w1) (mvT hZ w5) nf (mvT hZ w6) (mvT hZ w2) hy (backOf (W := W) M hZ w4 w3 hf hl) qa qc hg hsize (Steps.refl _) (argsL := argsL) hlen hstack hW hd (fun _ _ => ⟨has, eT, hc, hs⟩)
  dsimp only [Pt.U, Pt.locs, Pt.cells, Pt.slots] at X' l' y' z' st hQ
  subst l' y' z'
  exact ⟨T', _, v, Lc, X', rfl, hQ, fun t k => st.trans k⟩
theorem own_eqi {a b : Int32} (q : a = b) : (some (Value.int b) : Option Value) = some (Value.int a) := by rw [q]
theorem own_le {n0 : Nat} (X : Old Z n0 h) : n0 ≤ h.size := X.1 ▸ X.2.1
end Own
theorem pn_1 : plainName "com/example/stylewright/stylewright/xpath/ComparisonExpression$Operator" = true := by first | (simp [plainName, overriddenIn]; done) | decide +kernel
theorem d1_0 : decode prog_58_method_7_code 0 = .ok (.aload_n 0, 1) := by decide +kernel
theorem d1_1 : decode prog_58_method_7_code 1 = .ok (.getstatic 3, 3) := by decide +kernel
theorem d1_4 : decode prog_58_method_7_code 4 = .ok (.if_acmp .eq 14, 3) := by decide +kernel
theorem d1_18 : decode prog_58_method_7_code 18 = .ok (.iconst 0, 1) := by decide +kernel
theorem d1_19 : decode prog_58_method_7_code 19 = .ok (.ireturn, 1) := by decide +kernel
theorem d1_7 : decode prog_58_method_7_code 7 = .ok (.aload_n 0, 1) := by decide +kernel
theorem d1_8 : decode prog_58_method_7_code 8 = .ok (.getstatic 7, 3) := by decide +kernel
theorem d1_11 : decode prog_58_method_7_code 11 = .ok (.if_acmp .eq 7, 3) := by decide +kernel
theorem d1_14 : decode prog_58_method_7_code 14 = .ok (.iconst 1, 1) := by decide +kernel
theorem d1_15 : decode prog_58_method_7_code 15 = .ok (.goto 4, 3) := by decide +kernel
theorem pn_0 : plainName "com/example/stylewright/stylewright/xpath/OperatorIsOrderingPinLaw" = true := by first | (simp [plainName, overriddenIn]; done) | decide +kernel
theorem pd___Z : parseMethodDescriptor "()Z" = some ⟨[], some .boolean⟩ := by decide +kernel
abbrev R_rm1 : Room := ⟨0, 0, 0, 0⟩
set_option maxRecDepth 65536 in
set_option maxHeartbeats 40000000 in
theorem rm1 (l : Launch) (Z : State) (a0 : Array Value) (hw : ∀ d ∈ tables_1, d.before a0 Z = true) (a1 : Addr) (w_EQ : Addr) (w_NE : Addr) (r : Int32) (h0 : Heap) (n0 : Nat) (O0 : Old Z n0 h0) (S_EQ : Sta Z Z.heap "com/example/stylewright/stylewright/xpath/ComparisonExpression$Operator" "EQ" "Lcom/example/stylewright/stylewright/xpath/ComparisonExpression$Operator;" (.ref w_EQ)) (S_NE : Sta Z Z.heap "com/example/stylewright/stylewright/xpath/ComparisonExpression$Operator" "NE" "Lcom/example/stylewright/stylewright/xpath/ComparisonExpression$Operator;" (.ref w_NE)) (h1 : a1 = w_EQ → r = 0) (h2 : a1 = w_NE → r = 0) (h3 : ¬ a1 = w_EQ → ¬ a1 = w_NE → r = 1) :
    MetN l Z (⟨"com/example/stylewright/stylewright/xpath/ComparisonExpression$Operator", "isOrdering", "()Z"⟩ : MethodName) prog_58_method_7_code 1 (some .boolean) R_rm1 [] #[(.ref a1)] h0 (fun v h L => v = some (.int r) ∧ Fr n0 L ∧ h = h0) := by
  refine MetN.walk (plainFor_of_name pn_1) ?_
  intro p e s m below meth c s₁ hx hZ hby hml hown hnm hret hlk X0 e0
  have N0 := Fr.nil n0
  refine Win.to s₁ (mkF m 0 #[.val (.ref a1)] []) (fun _ k => castTop (by first | (simp [entryFrame, mkF, argsToLocals, Value.category]; done) | rfl) k) ?_
  refine Win.to s₁ (mkF m 1 #[.val (.ref a1)] [(.ref a1)]) (fun _ k => XS.aloadN X0.here hx rfl (hb hby d1_0) rfl rfl k) ?_
  obtain ⟨T1, X1, e1, st1⟩ := getS2 X0 hx hZ hown (host := "") (Or.inl (hw _ (List.mem_of_getElem? (i := 9) rfl))) Via.refl e0 (Sta.ext O0.2 S_EQ) (g := (mkF m 1 #[.val (.ref a1)] [(.ref a1)])) rfl (hb hby d1_1)
  refine Win.to T1 (mkF m 4 #[.val (.ref a1)] [(.ref w_EQ), (.ref a1)]) (fun _ k => st1 _ k) ?_
  by_cases hc2 : a1 = w_EQ
  · refine Win.to T1 (mkF m 18 #[.val (.ref a1)] []) (fun _ k => Jvm.RoadKit.acmp (g := (mkF m 4 #[.val (.ref a1)] [(.ref w_EQ), (.ref a1)])) X1 hx rfl rfl rfl (pc0 := 4) (pc' := 18) (same := true) rfl (hb hby d1_4) rfl (decide_eq_true (congrArg Value.ref hc2)) (by decide) (by decide) k) ?_
    refine Win.to T1 (mkF m 19 #[.val (.ref a1)] [(.int (0 : Int32))]) (fun _ k => XS.iconst X1.here hx rfl (hb hby d1_18) k) ?_
    exact Win.retN X1 hx hlk (t := .boolean) hret (by simp) rfl (hb hby d1_19) (by decide) (by decide) (by (try rw [e1]); exact ⟨(own_eqi (h1 hc2)), N0, rfl⟩)
  · refine Win.to T1 (mkF m 7 #[.val (.ref a1)] []) (fun _ k => Jvm.RoadKit.acmp (g := (mkF m 4 #[.val (.ref a1)] [(.ref w_EQ), (.ref a1)])) X1 hx rfl rfl rfl (pc0 := 4) (pc' := 7) (same := false) rfl (hb hby d1_4) rfl (decide_eq_false fun q => hc2 (Value.ref.inj q)) (by decide) (by decide) k) ?_
    refine Win.to T1 (mkF m 8 #[.val (.ref a1)] [(.ref a1)]) (fun _ k => XS.aloadN X1.here hx rfl (hb hby d1_7) rfl rfl k) ?_
    obtain ⟨T3, X3, e3, st3⟩ := getS2 X1 hx hZ hown (host := "") (Or.inl (hw _ (List.mem_of_getElem? (i := 12) rfl))) Via.refl e1 (Sta.ext O0.2 S_NE) (g := (mkF m 8 #[.val (.ref a1)] [(.ref a1)])) rfl (hb hby d1_8)
    refine Win.to T3 (mkF m 11 #[.val (.ref a1)] [(.ref w_NE), (.ref a1)]) (fun _ k => st3 _ k) ?_
    by_cases hc4 : a1 = w_NE
    · refine Win.to T3 (mkF m 18 #[.val (.ref a1)] []) (fun _ k => Jvm.RoadKit.acmp (g := (mkF m 11 #[.val (.ref a1)] [(.ref w_NE), (.ref a1)])) X3 hx rfl rfl rfl (pc0 := 11) (pc' := 18) (same := true) rfl (hb hby d1_11) rfl (decide_eq_true (congrArg Value.ref hc4)) (by decide) (by decide) k) ?_
      refine Win.to T3 (mkF m 19 #[.val (.ref a1)] [(.int (0 : Int32))]) (fun _ k => XS.iconst X3.here hx rfl (hb hby d1_18) k) ?_
      exact Win.retN X3 hx hlk (t := .boolean) hret (by simp) rfl (hb hby d1_19) (by decide) (by decide) (by (try rw [e3]); exact ⟨(own_eqi (h2 hc4)), N0, rfl⟩)
    · refine Win.to T3 (mkF m 14 #[.val (.ref a1)] []) (fun _ k => Jvm.RoadKit.acmp (g := (mkF m 11 #[.val (.ref a1)] [(.ref w_NE), (.ref a1)])) X3 hx rfl rfl rfl (pc0 := 11) (pc' := 14) (same := false) rfl (hb hby d1_11) rfl (decide_eq_false fun q => hc4 (Value.ref.inj q)) (by decide) (by decide) k) ?_
      refine Win.to T3 (mkF m 15 #[.val (.ref a1)] [(.int (1 : Int32))]) (fun _ k => XS.iconst X3.here hx rfl (hb hby d1_14) k) ?_
      refine Win.to T3 (mkF m 19 #[.val (.ref a1)] [(.int (1 : Int32))]) (fun _ k => XS.goto X3.here hx rfl (pc0 := 15) (pc' := 19) rfl (hb hby d1_15) (by decide) (by decide) k) ?_
      exact Win.retN X3 hx hlk (t := .boolean) hret (by simp) rfl (hb hby d1_19) (by decide) (by decide) (by (try rw [e3]); exact ⟨(own_eqi (h3 hc2 hc4)), N0, rfl⟩)
set_option maxRecDepth 65536 in
set_option maxHeartbeats 40000000 in
theorem rm0 (l : Launch) (Z : State) (a0 : Array Value) (hw : ∀ d ∈ tables_1, d.before a0 Z = true) (ws : List Jvm.Cond) (p1 : Int32) (w_EQ : Addr) (w_NE : Addr) (w_LT : Addr) (w_LE : Addr) (w_GT : Addr) (w_GE : Addr) (h0 : Heap) (n0 : Nat) (O0 : Old Z n0 h0) (S_EQ : Sta Z Z.heap "com/example/stylewright/stylewright/xpath/ComparisonExpression$Operator" "EQ" "Lcom/example/stylewright/stylewright/xpath/ComparisonExpression$Operator;" (.ref w_EQ)) (S_NE : Sta Z Z.heap "com/example/stylewright/stylewright/xpath/ComparisonExpression$Operator" "NE" "Lcom/example/stylewright/stylewright/xpath/ComparisonExpression$Operator;" (.ref w_NE)) (S_LT : Sta Z Z.heap "com/example/stylewright/stylewright/xpath/ComparisonExpression$Operator" "LT" "Lcom/example/stylewright/stylewright/xpath/ComparisonExpression$Operator;" (.ref w_LT)) (S_LE : Sta Z Z.heap "com/example/stylewright/stylewright/xpath/ComparisonExpression$Operator" "LE" "Lcom/example/stylewright/stylewright/xpath/ComparisonExpression$Operator;" (.ref w_LE)) (S_GT : Sta Z Z.heap "com/example/stylewright/stylewright/xpath/ComparisonExpression$Operator" "GT" "Lcom/example/stylewright/stylewright/xpath/ComparisonExpression$Operator;" (.ref w_GT)) (S_GE : Sta Z Z.heap "com/example/stylewright/stylewright/xpath/ComparisonExpression$Operator" "GE" "Lcom/example/stylewright/stylewright/xpath/ComparisonExpression$Operator;" (.ref w_GE)) (E_EQ : Exa Z Z.heap w_EQ "com/example/stylewright/stylewright/xpath/ComparisonExpression$Operator") (E_NE : Exa Z Z.heap w_NE "com/example/stylewright/stylewright/xpath/ComparisonExpression$Operator") (E_LT : Exa Z Z.heap w_LT "com/example/stylewright/stylewright/xpath/ComparisonExpression$Operator") (E_LE : Exa Z Z.heap w_LE "com/example/stylewright/stylewright/xpath/ComparisonExpression$Operator") (E_GT : Exa Z Z.heap w_GT "com/example/stylewright/stylewright/xpath/ComparisonExpression$Operator") (E_GE : Exa Z Z.heap w_GE "com/example/stylewright/stylewright/xpath/ComparisonExpression$Operator") (d_LT_EQ : w_LT ≠ w_EQ) (d_LT_NE : w_LT ≠ w_NE) (d_LE_EQ : w_LE ≠ w_EQ) (d_LE_NE : w_LE ≠ w_NE) (d_GT_EQ : w_GT ≠ w_EQ) (d_GT_NE : w_GT ≠ w_NE) (d_GE_EQ : w_GE ≠ w_EQ) (d_GE_NE : w_GE ≠ w_NE) :
    MetN l Z x code maxLocals ret room_1 ws #[(.int p1)] h0 (fun v h L => v = some (.int (1 : Int32)) ∧ Fr n0 L ∧ h = h0) := by
  refine MetN.walk (plainFor_of_name pn_0) ?_
  intro p e s m below meth c s₁ hx hZ hby hml hown hnm hret hlk X0 e0
  have N0 := Fr.nil n0
  refine Win.to s₁ (mkF m 0 #[.val (.int p1), .unset, .unset, .unset] []) (fun _ k => castTop (by first | (simp [entryFrame, mkF, argsToLocals, Value.category, maxLocals]; done) | rfl) k) ?_
  have F5 : Exa Z h0 w_EQ "com/example/stylewright/stylewright/xpath/ComparisonExpression$Operator" := (Exa.ext O0.2 E_EQ)
  have F6 : Exa Z h0 w_NE "com/example/stylewright/stylewright/xpath/ComparisonExpression$Operator" := (Exa.ext O0.2 E_NE)
  have F7 : Exa Z h0 w_LT "com/example/stylewright/stylewright/xpath/ComparisonExpression$Operator" := (Exa.ext O0.2 E_LT)
  have F8 : Exa Z h0 w_LE "com/example/stylewright/stylewright/xpath/ComparisonExpression$Operator" := (Exa.ext O0.2 E_LE)
  have F9 : Exa Z h0 w_GT "com/example/stylewright/stylewright/xpath/ComparisonExpression$Operator" := (Exa.ext O0.2 E_GT)
  have F10 : Exa Z h0 w_GE "com/example/stylewright/stylewright/xpath/ComparisonExpression$Operator" := (Exa.ext O0.2 E_GE)
  refine Win.to s₁ (mkF m 1 #[.val (.int p1), .unset, .unset, .unset] [(.int p1)]) (fun _ k => XS.iloadN X0.here hx rfl (hb hby at_0) rfl k) ?_
  refine Win.to s₁ (mkF m 3 #[.val (.int p1), .unset, .unset, .unset] [(.int (2147483647 : Int32)), (.int p1)]) (fun _ k => X0.ldcInt hx hown (mvT hZ (hw _ (List.mem_of_getElem? (i := 0) rfl))) (g := (mkF m 1 #[.val (.int p1), .unset, .unset, .unset] [(.int p1)])) rfl (hb hby at_1) _ k) ?_
  refine Win.to s₁ (mkF m 4 #[.val (.int p1), .unset, .unset, .unset] [(.int (p1 &&& (2147483647 : Int32)))]) (fun _ k => XS.iand X0.here hx rfl (hb hby at_3) rfl k) ?_
  refine Win.to s₁ (mkF m 6 #[.val (.int p1), .unset, .unset, .unset] [(.int (6 : Int32)), (.int (p1 &&& (2147483647 : Int32)))]) (fun _ k => XS.bipush X0.here hx rfl (hb hby at_4) k) ?_
  refine Win.to s₁ (mkF m 7 #[.val (.int p1), .unset, .unset, .unset] [(.int ((p1 &&& (2147483647 : Int32)) % (6 : Int32)))]) (fun _ k => Jvm.RoadKit.iremM X0 hx rfl (hb hby at_6) rfl (by decide) k) ?_
  refine Win.to s₁ (mkF m 8 #[.val (.int p1), .val (.int ((p1 &&& (2147483647 : Int32)) % (6 : Int32))), .unset, .unset] []) (fun _ k => XS.istoreN X0.here hx rfl (hb hby at_7) rfl (l' := #[.val (.int p1), .val (.int ((p1 &&& (2147483647 : Int32)) % (6 : Int32))), .unset, .unset]) rfl k) ?_
  refine Win.to s₁ (mkF m 9 #[.val (.int p1), .val (.int ((p1 &&& (2147483647 : Int32)) % (6 : Int32))), .unset, .unset] [(.int ((p1 &&& (2147483647 : Int32)) % (6 : Int32)))]) (fun _ k => XS.iloadN X0.here hx rfl (hb hby at_8) rfl k) ?_
  by_cases hc11 : ((p1 &&& (2147483647 : Int32)) % (6 : Int32)) = (0 : Int32)
  · refine Win.to s₁ (mkF m 12 #[.val (.int p1), .val (.int ((p1 &&& (2147483647 : Int32)) % (6 : Int32))), .unset, .unset] []) (fun _ k => XS.ifNo X0.here hx rfl (hb hby at_9) rfl ((if0 _ _).trans (teq hc11).2) k) ?_
    obtain ⟨T12, X12, e12, st12⟩ := getS2 X0 hx hZ hown (host := "") (Or.inl (hw _ (List.mem_of_getElem? (i := 1) rfl))) Via.refl e0 (Sta.ext O0.2 S_EQ) (g := (mkF m 12 #[.val (.int p1), .val (.int ((p1 &&& (2147483647 : Int32)) % (6 : Int32))), .unset, .unset] [])) rfl (hb hby at_12)
    refine Win.to T12 (mkF m 15 #[.val (.int p1), .val (.int ((p1 &&& (2147483647 : Int32)) % (6 : Int32))), .unset, .unset] [(.ref w_EQ)]) (fun _ k => st12 _ k) ?_
    refine Win.to T12 (mkF m 16 #[.val (.int p1), .val (.int ((p1 &&& (2147483647 : Int32)) % (6 : Int32))), .val (.ref w_EQ), .unset] []) (fun _ k => XS.astoreN X12.here hx rfl (hb hby at_15) rfl rfl (l' := #[.val (.int p1), .val (.int ((p1 &&& (2147483647 : Int32)) % (6 : Int32))), .val (.ref w_EQ), .unset]) rfl k) ?_
    refine Win.to T12 (mkF m 17 #[.val (.int p1), .val (.int ((p1 &&& (2147483647 : Int32)) % (6 : Int32))), .val (.ref w_EQ), .unset] [(.int (0 : Int32))]) (fun _ k => XS.iconst X12.here hx rfl (hb hby at_16) k) ?_
    refine Win.to T12 (mkF m 18 #[.val (.int p1), .val (.int ((p1 &&& (2147483647 : Int32)) % (6 : Int32))), .val (.ref w_EQ), .val (.int (0 : Int32))] []) (fun _ k => XS.istoreN X12.here hx rfl (hb hby at_17) rfl (l' := #[.val (.int p1), .val (.int ((p1 &&& (2147483647 : Int32)) % (6 : Int32))), .val (.ref w_EQ), .val (.int (0 : Int32))]) rfl k) ?_
    refine Win.to T12 (mkF m 83 #[.val (.int p1), .val (.int ((p1 &&& (2147483647 : Int32)) % (6 : Int32))), .val (.ref w_EQ), .val (.int (0 : Int32))] []) (fun _ k => XS.goto X12.here hx rfl (pc0 := 18) (pc' := 83) rfl (hb hby at_18) (by decide) (by decide) k) ?_
    refine Win.to T12 (mkF m 84 #[.val (.int p1), .val (.int ((p1 &&& (2147483647 : Int32)) % (6 : Int32))), .val (.ref w_EQ), .val (.int (0 : Int32))] [(.ref w_EQ)]) (fun _ k => XS.aloadN X12.here hx rfl (hb hby at_83) rfl rfl k) ?_
    obtain ⟨T13, h13, v13, L13, X13, e13, ⟨rfl, N13q, r13_0⟩, st13⟩ := N.virtual X12 hx hZ (y := (⟨"com/example/stylewright/stylewright/xpath/ComparisonExpression$Operator", "isOrdering", "()Z"⟩ : MethodName)) (z := (⟨"com/example/stylewright/stylewright/xpath/ComparisonExpression$Operator", "isOrdering", "()Z"⟩ : MethodName)) hown (hw _ (List.mem_of_getElem? (i := 4) rfl)) (hw _ (List.mem_of_getElem? (i := 5) rfl)) (notFace_of_selects (args := #[]) (mvT hZ (hw _ (List.mem_of_getElem? (i := 7) rfl)))) (hw _ (List.mem_of_getElem? (i := 7) rfl)) (hw _ (List.mem_of_getElem? (i := 6) rfl)) (hw _ (List.mem_of_getElem? (i := 2) rfl)) (hw _ (List.mem_of_getElem? (i := 8) rfl)) (by decide) (rm1 l Z a0 hw w_EQ w_EQ w_NE (0 : Int32) h0 n0 O0 S_EQ S_NE (fun _ => rfl) (fun _ => rfl) (fun q _ => absurd rfl q)) e12 F5 (g := (mkF m 84 #[.val (.int p1), .val (.int ((p1 &&& (2147483647 : Int32)) % (6 : Int32))), .val (.ref w_EQ), .val (.int (0 : Int32))] [(.ref w_EQ)])) rfl (by rw [hml]; rfl) (argsL := []) (rest := []) rfl (lenOf pd___Z rfl) rfl (W := 0) (by show 2 * 0 + _ ≤ _; exact Nat.le_of_eq rfl) (hb hby at_84) (by decide) (by decide) (by decide) (by decide)
    have N14 := Fr.app N0 N13q
    have e13 := e13.trans r13_0
    refine Win.to T13 (mkF m 87 #[.val (.int p1), .val (.int ((p1 &&& (2147483647 : Int32)) % (6 : Int32))), .val (.ref w_EQ), .val (.int (0 : Int32))] [(.int (0 : Int32))]) (fun _ k => st13 _ k) ?_
    refine Win.to T13 (mkF m 88 #[.val (.int p1), .val (.int ((p1 &&& (2147483647 : Int32)) % (6 : Int32))), .val (.ref w_EQ), .val (.int (0 : Int32))] [(.int (0 : Int32)), (.int (0 : Int32))]) (fun _ k => XS.iloadN X13.here hx rfl (hb hby at_87) rfl k) ?_
    refine Win.to T13 (mkF m 91 #[.val (.int p1), .val (.int ((p1 &&& (2147483647 : Int32)) % (6 : Int32))), .val (.ref w_EQ), .val (.int (0 : Int32))] []) (fun _ k => XS.icmpNo X13.here hx rfl (hb hby at_88) rfl (teq (show (0 : Int32) = (0 : Int32) from by decide)).2 k) ?_
    refine Win.to T13 (mkF m 92 #[.val (.int p1), .val (.int ((p1 &&& (2147483647 : Int32)) % (6 : Int32))), .val (.ref w_EQ), .val (.int (0 : Int32))] [(.int (1 : Int32))]) (fun _ k => XS.iconst X13.here hx rfl (hb hby at_91) k) ?_
    refine Win.to T13 (mkF m 96 #[.val (.int p1), .val (.int ((p1 &&& (2147483647 : Int32)) % (6 : Int32))), .val (.ref w_EQ), .val (.int (0 : Int32))] [(.int (1 : Int32))]) (fun _ k => XS.goto X13.here hx rfl (pc0 := 92) (pc' := 96) rfl (hb hby at_92) (by decide) (by decide) k) ?_
    exact Win.retN X13 hx hlk (t := .boolean) hret (by simp) rfl (hb hby at_96) (by decide) (by decide) (by (try rw [e13]); exact ⟨rfl, N14, rfl⟩)
  · refine Win.to s₁ (mkF m 21 #[.val (.int p1), .val (.int ((p1 &&& (2147483647 : Int32)) % (6 : Int32))), .unset, .unset] []) (fun _ k => XS.ifYes X0.here hx rfl (pc0 := 9) (pc' := 21) rfl (hb hby at_9) rfl ((if0 _ _).trans (feq hc11).2) (by decide) (by decide) k) ?_
    refine Win.to s₁ (mkF m 22 #[.val (.int p1), .val (.int ((p1 &&& (2147483647 : Int32)) % (6 : Int32))), .unset, .unset] [(.int ((p1 &&& (2147483647 : Int32)) % (6 : Int32)))]) (fun _ k => XS.iloadN X0.here hx rfl (hb hby at_21) rfl k) ?_
    refine Win.to s₁ (mkF m 23 #[.val (.int p1), .val (.int ((p1 &&& (2147483647 : Int32)) % (6 : Int32))), .unset, .unset] [(.int (1 : Int32)), (.int ((p1 &&& (2147483647 : Int32)) % (6 : Int32)))]) (fun _ k => XS.iconst X0.here hx rfl (hb hby at_22) k) ?_
    by_cases hc15 : ((p1 &&& (2147483647 : Int32)) % (6 : Int32)) = (1 : Int32)
    · refine Win.to s₁ (mkF m 26 #[.val (.int p1), .val (.int ((p1 &&& (2147483647 : Int32)) % (6 : Int32))), .unset, .unset] []) (fun _ k => XS.icmpNo X0.here hx rfl (hb hby at_23) rfl (teq hc15).2 k) ?_
      obtain ⟨T16, X16, e16, st16⟩ := getS2 X0 hx hZ hown (host := "") (Or.inl (hw _ (List.mem_of_getElem? (i := 16) rfl))) Via.refl e0 (Sta.ext O0.2 S_NE) (g := (mkF m 26 #[.val (.int p1), .val (.int ((p1 &&& (2147483647 : Int32)) % (6 : Int32))), .unset, .unset] [])) rfl (hb hby at_26)
      refine Win.to T16 (mkF m 29 #[.val (.int p1), .val (.int ((p1 &&& (2147483647 : Int32)) % (6 : Int32))), .unset, .unset] [(.ref w_NE)]) (fun _ k => st16 _ k) ?_
      refine Win.to T16 (mkF m 30 #[.val (.int p1), .val (.int ((p1 &&& (2147483647 : Int32)) % (6 : Int32))), .val (.ref w_NE), .unset] []) (fun _ k => XS.astoreN X16.here hx rfl (hb hby at_29) rfl rfl (l' := #[.val (.int p1), .val (.int ((p1 &&& (2147483647 : Int32)) % (6 : Int32))), .val (.ref w_NE), .unset]) rfl k) ?_
      refine Win.to T16 (mkF m 31 #[.val (.int p1), .val (.int ((p1 &&& (2147483647 : Int32)) % (6 : Int32))), .val (.ref w_NE), .unset] [(.int (0 : Int32))]) (fun _ k => XS.iconst X16.here hx rfl (hb hby at_30) k) ?_
      refine Win.to T16 (mkF m 32 #[.val (.int p1), .val (.int ((p1 &&& (2147483647 : Int32)) % (6 : Int32))), .val (.ref w_NE), .val (.int (0 : Int32))] []) (fun _ k => XS.istoreN X16.here hx rfl (hb hby at_31) rfl (l' := #[.val (.int p1), .val (.int ((p1 &&& (2147483647 : Int32)) % (6 : Int32))), .val (.ref w_NE), .val (.int (0 : Int32))]) rfl k) ?_
      refine Win.to T16 (mkF m 83 #[.val (.int p1), .val (.int ((p1 &&& (2147483647 : Int32)) % (6 : Int32))), .val (.ref w_NE), .val (.int (0 : Int32))] []) (fun _ k => XS.goto X16.here hx rfl (pc0 := 32) (pc' := 83) rfl (hb hby at_32) (by decide) (by decide) k) ?_
      refine Win.to T16 (mkF m 84 #[.val (.int p1), .val (.int ((p1 &&& (2147483647 : Int32)) % (6 : Int32))), .val (.ref w_NE), .val (.int (0 : Int32))] [(.ref w_NE)]) (fun _ k => XS.aloadN X16.here hx rfl (hb hby at_83) rfl rfl k) ?_
      obtain ⟨T17, h17, v17, L17, X17, e17, ⟨rfl, N17q, r17_0⟩, st17⟩ := N.virtual X16 hx hZ (y := (⟨"com/example/stylewright/stylewright/xpath/ComparisonExpression$Operator", "isOrdering", "()Z"⟩ : MethodName)) (z := (⟨"com/example/stylewright/stylewright/xpath/ComparisonExpression$Operator", "isOrdering", "()Z"⟩ : MethodName)) hown (hw _ (List.mem_of_getElem? (i := 4) rfl)) (hw _ (List.mem_of_getElem? (i := 5) rfl)) (notFace_of_selects (args := #[]) (mvT hZ (hw _ (List.mem_of_getElem? (i := 7) rfl)))) (hw _ (List.mem_of_getElem? (i := 7) rfl)) (hw _ (List.mem_of_getElem? (i := 6) rfl)) (hw _ (List.mem_of_getElem? (i := 2) rfl)) (hw _ (List.mem_of_getElem? (i := 8) rfl)) (by decide) (rm1 l Z a0 hw w_NE w_EQ w_NE (0 : Int32) h0 n0 O0 S_EQ S_NE (fun _ => rfl) (fun _ => rfl) (fun _ q => absurd rfl q)) e16 F6 (g := (mkF m 84 #[.val (.int p1), .val (.int ((p1 &&& (2147483647 : Int32)) % (6 : Int32))), .val (.ref w_NE), .val (.int (0 : Int32))] [(.ref w_NE)])) rfl (by rw [hml]; rfl) (argsL := []) (rest := []) rfl (lenOf pd___Z rfl) rfl (W := 0) (by show 2 * 0 + _ ≤ _; exact Nat.le_of_eq rfl) (hb hby at_84) (by decide) (by decide) (by decide) (by decide)
      have N18 := Fr.app N0 N17q
      have e17 := e17.trans r17_0
      refine Win.to T17 (mkF m 87 #[.val (.int p1), .val (.int ((p1 &&& (2147483647 : Int32)) % (6 : Int32))), .val (.ref w_NE), .val (.int (0 : Int32))] [(.int (0 : Int32))]) (fun _ k => st17 _ k) ?_
      refine Win.to T17 (mkF m 88 #[.val (.int p1), .val (.int ((p1 &&& (2147483647 : Int32)) % (6 : Int32))), .val (.ref w_NE), .val (.int (0 : Int32))] [(.int (0 : Int32)), (.int (0 : Int32))]) (fun _ k => XS.iloadN X17.here hx rfl (hb hby at_87) rfl k) ?_
      refine Win.to T17 (mkF m 91 #[.val (.int p1), .val (.int ((p1 &&& (2147483647 : Int32)) % (6 : Int32))), .val (.ref w_NE), .val (.int (0 : Int32))] []) (fun _ k => XS.icmpNo X17.here hx rfl (hb hby at_88) rfl (teq (show (0 : Int32) = (0 : Int32) from by decide)).2 k) ?_
      refine Win.to T17 (mkF m 92 #[.val (.int p1), .val (.int ((p1 &&& (2147483647 : Int32)) % (6 : Int32))), .val (.ref w_NE), .val (.int (0 : Int32))] [(.int (1 : Int32))]) (fun _ k => XS.iconst X17.here hx rfl (hb hby at_91) k) ?_
      refine Win.to T17 (mkF m 96 #[.val (.int p1), .val (.int ((p1 &&& (2147483647 : Int32)) % (6 : Int32))), .val (.ref w_NE), .val (.int (0 : Int32))] [(.int (1 : Int32))]) (fun _ k => XS.goto X17.here hx rfl (pc0 := 92) (pc' := 96) rfl (hb hby at_92) (by decide) (by decide) k) ?_
      exact Win.retN X17 hx hlk (t := .boolean) hret (by simp) rfl (hb hby at_96) (by decide) (by decide) (by (try rw [e17]); exact ⟨rfl, N18, rfl⟩)
    · refine Win.to s₁ (mkF m 35 #[.val (.int p1), .val (.int ((p1 &&& (2147483647 : Int32)) % (6 : Int32))), .unset, .unset] []) (fun _ k => XS.icmpYes X0.here hx rfl (pc0 := 23) (pc' := 35) rfl (hb hby at_23) rfl (feq hc15).2 (by decide) (by decide) k) ?_
      refine Win.to s₁ (mkF m 36 #[.val (.int p1), .val (.int ((p1 &&& (2147483647 : Int32)) % (6 : Int32))), .unset, .unset] [(.int ((p1 &&& (2147483647 : Int32)) % (6 : Int32)))]) (fun _ k => XS.iloadN X0.here hx rfl (hb hby at_35) rfl k) ?_
      refine Win.to s₁ (mkF m 37 #[.val (.int p1), .val (.int ((p1 &&& (2147483647 : Int32)) % (6 : Int32))), .unset, .unset] [(.int (2 : Int32)), (.int ((p1 &&& (2147483647 : Int32)) % (6 : Int32)))]) (fun _ k => XS.iconst X0.here hx rfl (hb hby at_36) k) ?_
      by_cases hc19 : ((p1 &&& (2147483647 : Int32)) % (6 : Int32)) = (2 : Int32)
      · refine Win.to s₁ (mkF m 40 #[.val (.int p1), .val (.int ((p1 &&& (2147483647 : Int32)) % (6 : Int32))), .unset, .unset] []) (fun _ k => XS.icmpNo X0.here hx rfl (hb hby at_37) rfl (teq hc19).2 k) ?_
        obtain ⟨T20, X20, e20, st20⟩ := getS2 X0 hx hZ hown (host := "") (Or.inl (hw _ (List.mem_of_getElem? (i := 14) rfl))) Via.refl e0 (Sta.ext O0.2 S_LT) (g := (mkF m 40 #[.val (.int p1), .val (.int ((p1 &&& (2147483647 : Int32)) % (6 : Int32))), .unset, .unset] [])) rfl (hb hby at_40)
        refine Win.to T20 (mkF m 43 #[.val (.int p1), .val (.int ((p1 &&& (2147483647 : Int32)) % (6 : Int32))), .unset, .unset] [(.ref w_LT)]) (fun _ k => st20 _ k) ?_
        refine Win.to T20 (mkF m 44 #[.val (.int p1), .val (.int ((p1 &&& (2147483647 : Int32)) % (6 : Int32))), .val (.ref w_LT), .unset] []) (fun _ k => XS.astoreN X20.here hx rfl (hb hby at_43) rfl rfl (l' := #[.val (.int p1), .val (.int ((p1 &&& (2147483647 : Int32)) % (6 : Int32))), .val (.ref w_LT), .unset]) rfl k) ?_
        refine Win.to T20 (mkF m 45 #[.val (.int p1), .val (.int ((p1 &&& (2147483647 : Int32)) % (6 : Int32))), .val (.ref w_LT), .unset] [(.int (1 : Int32))]) (fun _ k => XS.iconst X20.here hx rfl (hb hby at_44) k) ?_
        refine Win.to T20 (mkF m 46 #[.val (.int p1), .val (.int ((p1 &&& (2147483647 : Int32)) % (6 : Int32))), .val (.ref w_LT), .val (.int (1 : Int32))] []) (fun _ k => XS.istoreN X20.here hx rfl (hb hby at_45) rfl (l' := #[.val (.int p1), .val (.int ((p1 &&& (2147483647 : Int32)) % (6 : Int32))), .val (.ref w_LT), .val (.int (1 : Int32))]) rfl k) ?_
        refine Win.to T20 (mkF m 83 #[.val (.int p1), .val (.int ((p1 &&& (2147483647 : Int32)) % (6 : Int32))), .val (.ref w_LT), .val (.int (1 : Int32))] []) (fun _ k => XS.goto X20.here hx rfl (pc0 := 46) (pc' := 83) rfl (hb hby at_46) (by decide) (by decide) k) ?_
        refine Win.to T20 (mkF m 84 #[.val (.int p1), .val (.int ((p1 &&& (2147483647 : Int32)) % (6 : Int32))), .val (.ref w_LT), .val (.int (1 : Int32))] [(.ref w_LT)]) (fun _ k => XS.aloadN X20.here hx rfl (hb hby at_83) rfl rfl k) ?_
        obtain ⟨T21, h21, v21, L21, X21, e21, ⟨rfl, N21q, r21_0⟩, st21⟩ := N.virtual X20 hx hZ (y := (⟨"com/example/stylewright/stylewright/xpath/ComparisonExpression$Operator", "isOrdering", "()Z"⟩ : MethodName)) (z := (⟨"com/example/stylewright/stylewright/xpath/ComparisonExpression$Operator", "isOrdering", "()Z"⟩ : MethodName)) hown (hw _ (List.mem_of_getElem? (i := 4) rfl)) (hw _ (List.mem_of_getElem? (i := 5) rfl)) (notFace_of_selects (args := #[]) (mvT hZ (hw _ (List.mem_of_getElem? (i := 7) rfl)))) (hw _ (List.mem_of_getElem? (i := 7) rfl)) (hw _ (List.mem_of_getElem? (i := 6) rfl)) (hw _ (List.mem_of_getElem? (i := 2) rfl)) (hw _ (List.mem_of_getElem? (i := 8) rfl)) (by decide) (rm1 l Z a0 hw w_LT w_EQ w_NE (1 : Int32) h0 n0 O0 S_EQ S_NE (fun q => absurd q d_LT_EQ) (fun q => absurd q d_LT_NE) (fun _ _ => rfl)) e20 F7 (g := (mkF m 84 #[.val (.int p1), .val (.int ((p1 &&& (2147483647 : Int32)) % (6 : Int32))), .val (.ref w_LT), .val (.int (1 : Int32))] [(.ref w_LT)])) rfl (by rw [hml]; rfl) (argsL := []) (rest := []) rfl (lenOf pd___Z rfl) rfl (W := 0) (by show 2 * 0 + _ ≤ _; exact Nat.le_of_eq rfl) (hb hby at_84) (by decide) (by decide) (by decide) (by decide)
        have N22 := Fr.app N0 N21q
        have e21 := e21.trans r21_0
        refine Win.to T21 (mkF m 87 #[.val (.int p1), .val (.int ((p1 &&& (2147483647 : Int32)) % (6 : Int32))), .val (.ref w_LT), .val (.int (1 : Int32))] [(.int (1 : Int32))]) (fun _ k => st21 _ k) ?_
        refine Win.to T21 (mkF m 88 #[.val (.int p1), .val (.int ((p1 &&& (2147483647 : Int32)) % (6 : Int32))), .val (.ref w_LT), .val (.int (1 : Int32))] [(.int (1 : Int32)), (.int (1 : Int32))]) (fun _ k => XS.iloadN X21.here hx rfl (hb hby at_87) rfl k) ?_
        refine Win.to T21 (mkF m 91 #[.val (.int p1), .val (.int ((p1 &&& (2147483647 : Int32)) % (6 : Int32))), .val (.ref w_LT), .val (.int (1 : Int32))] []) (fun _ k => XS.icmpNo X21.here hx rfl (hb hby at_88) rfl (teq (show (1 : Int32) = (1 : Int32) from by decide)).2 k) ?_
        refine Win.to T21 (mkF m 92 #[.val (.int p1), .val (.int ((p1 &&& (2147483647 : Int32)) % (6 : Int32))), .val (.ref w_LT), .val (.int (1 : Int32))] [(.int (1 : Int32))]) (fun _ k => XS.iconst X21.here hx rfl (hb hby at_91) k) ?_
        refine Win.to T21 (mkF m 96 #[.val (.int p1), .val (.int ((p1 &&& (2147483647 : Int32)) % (6 : Int32))), .val (.ref w_LT), .val (.int (1 : Int32))] [(.int (1 : Int32))]) (fun _ k => XS.goto X21.here hx rfl (pc0 := 92) (pc' := 96) rfl (hb hby at_92) (by decide) (by decide) k) ?_
        exact Win.retN X21 hx hlk (t := .boolean) hret (by simp) rfl (hb hby at_96) (by decide) (by decide) (by (try rw [e21]); exact ⟨rfl, N22, rfl⟩)
      · refine Win.to s₁ (mkF m 49 #[.val (.int p1), .val (.int ((p1 &&& (2147483647 : Int32)) % (6 : Int32))), .unset, .unset] []) (fun _ k => XS.icmpYes X0.here hx rfl (pc0 := 37) (pc' := 49) rfl (hb hby at_37) rfl (feq hc19).2 (by decide) (by decide) k) ?_
        refine Win.to s₁ (mkF m 50 #[.val (.int p1), .val (.int ((p1 &&& (2147483647 : Int32)) % (6 : Int32))), .unset, .unset] [(.int ((p1 &&& (2147483647 : Int32)) % (6 : Int32)))]) (fun _ k => XS.iloadN X0.here hx rfl (hb hby at_49) rfl k) ?_
        refine Win.to s₁ (mkF m 51 #[.val (.int p1), .val (.int ((p1 &&& (2147483647 : Int32)) % (6 : Int32))), .unset, .unset] [(.int (3 : Int32)), (.int ((p1 &&& (2147483647 : Int32)) % (6 : Int32)))]) (fun _ k => XS.iconst X0.here hx rfl (hb hby at_50) k) ?_
        by_cases hc23 : ((p1 &&& (2147483647 : Int32)) % (6 : Int32)) = (3 : Int32)
        · refine Win.to s₁ (mkF m 54 #[.val (.int p1), .val (.int ((p1 &&& (2147483647 : Int32)) % (6 : Int32))), .unset, .unset] []) (fun _ k => XS.icmpNo X0.here hx rfl (hb hby at_51) rfl (teq hc23).2 k) ?_
          obtain ⟨T24, X24, e24, st24⟩ := getS2 X0 hx hZ hown (host := "") (Or.inl (hw _ (List.mem_of_getElem? (i := 10) rfl))) Via.refl e0 (Sta.ext O0.2 S_LE) (g := (mkF m 54 #[.val (.int p1), .val (.int ((p1 &&& (2147483647 : Int32)) % (6 : Int32))), .unset, .unset] [])) rfl (hb hby at_54)
          refine Win.to T24 (mkF m 57 #[.val (.int p1), .val (.int ((p1 &&& (2147483647 : Int32)) % (6 : Int32))), .unset, .unset] [(.ref w_LE)]) (fun _ k => st24 _ k) ?_
          refine Win.to T24 (mkF m 58 #[.val (.int p1), .val (.int ((p1 &&& (2147483647 : Int32)) % (6 : Int32))), .val (.ref w_LE), .unset] []) (fun _ k => XS.astoreN X24.here hx rfl (hb hby at_57) rfl rfl (l' := #[.val (.int p1), .val (.int ((p1 &&& (2147483647 : Int32)) % (6 : Int32))), .val (.ref w_LE), .unset]) rfl k) ?_
          refine Win.to T24 (mkF m 59 #[.val (.int p1), .val (.int ((p1 &&& (2147483647 : Int32)) % (6 : Int32))), .val (.ref w_LE), .unset] [(.int (1 : Int32))]) (fun _ k => XS.iconst X24.here hx rfl (hb hby at_58) k) ?_
          refine Win.to T24 (mkF m 60 #[.val (.int p1), .val (.int ((p1 &&& (2147483647 : Int32)) % (6 : Int32))), .val (.ref w_LE), .val (.int (1 : Int32))] []) (fun _ k => XS.istoreN X24.here hx rfl (hb hby at_59) rfl (l' := #[.val (.int p1), .val (.int ((p1 &&& (2147483647 : Int32)) % (6 : Int32))), .val (.ref w_LE), .val (.int (1 : Int32))]) rfl k) ?_
          refine Win.to T24 (mkF m 83 #[.val (.int p1), .val (.int ((p1 &&& (2147483647 : Int32)) % (6 : Int32))), .val (.ref w_LE), .val (.int (1 : Int32))] []) (fun _ k => XS.goto X24.here hx rfl (pc0 := 60) (pc' := 83) rfl (hb hby at_60) (by decide) (by decide) k) ?_
          refine Win.to T24 (mkF m 84 #[.val (.int p1), .val (.int ((p1 &&& (2147483647 : Int32)) % (6 : Int32))), .val (.ref w_LE), .val (.int (1 : Int32))] [(.ref w_LE)]) (fun _ k => XS.aloadN X24.here hx rfl (hb hby at_83) rfl rfl k) ?_
          obtain ⟨T25, h25, v25, L25, X25, e25, ⟨rfl, N25q, r25_0⟩, st25⟩ := N.virtual X24 hx hZ (y := (⟨"com/example/stylewright/stylewright/xpath/ComparisonExpression$Operator", "isOrdering", "()Z"⟩ : MethodName)) (z := (⟨"com/example/stylewright/stylewright/xpath/ComparisonExpression$Operator", "isOrdering", "()Z"⟩ : MethodName)) hown (hw _ (List.mem_of_getElem? (i := 4) rfl)) (hw _ (List.mem_of_getElem? (i := 5) rfl)) (notFace_of_selects (args := #[]) (mvT hZ (hw _ (List.mem_of_getElem? (i := 7) rfl)))) (hw _ (List.mem_of_getElem? (i := 7) rfl)) (hw _ (List.mem_of_getElem? (i := 6) rfl)) (hw _ (List.mem_of_getElem? (i := 2) rfl)) (hw _ (List.mem_of_getElem? (i := 8) rfl)) (by decide) (rm1 l Z a0 hw w_LE w_EQ w_NE (1 : Int32) h0 n0 O0 S_EQ S_NE (fun q => absurd q d_LE_EQ) (fun q => absurd q d_LE_NE) (fun _ _ => rfl)) e24 F8 (g := (mkF m 84 #[.val (.int p1), .val (.int ((p1 &&& (2147483647 : Int32)) % (6 : Int32))), .val (.ref w_LE), .val (.int (1 : Int32))] [(.ref w_LE)])) rfl (by rw [hml]; rfl) (argsL := []) (rest := []) rfl (lenOf pd___Z rfl) rfl (W := 0) (by show 2 * 0 + _ ≤ _; exact Nat.le_of_eq rfl) (hb hby at_84) (by decide) (by decide) (by decide) (by decide)
          have N26 := Fr.app N0 N25q
          have e25 := e25.trans r25_0
          refine Win.to T25 (mkF m 87 #[.val (.int p1), .val (.int ((p1 &&& (2147483647 : Int32)) % (6 : Int32))), .val (.ref w_LE), .val (.int (1 : Int32))] [(.int (1 : Int32))]) (fun _ k => st25 _ k) ?_
          refine Win.to T25 (mkF m 88 #[.val (.int p1), .val (.int ((p1 &&& (2147483647 : Int32)) % (6 : Int32))), .val (.ref w_LE), .val (.int (1 : Int32))] [(.int (1 : Int32)), (.int (1 : Int32))]) (fun _ k => XS.iloadN X25.here hx rfl (hb hby at_87) rfl k) ?_
          refine Win.to T25 (mkF m 91 #[.val (.int p1), .val (.int ((p1 &&& (2147483647 : Int32)) % (6 : Int32))), .val (.ref w_LE), .val (.int (1 : Int32))] []) (fun _ k => XS.icmpNo X25.here hx rfl (hb hby at_88) rfl (teq (show (1 : Int32) = (1 : Int32) from by decide)).2 k) ?_
          refine Win.to T25 (mkF m 92 #[.val (.int p1), .val (.int ((p1 &&& (2147483647 : Int32)) % (6 : Int32))), .val (.ref w_LE), .val (.int (1 : Int32))] [(.int (1 : Int32))]) (fun _ k => XS.iconst X25.here hx rfl (hb hby at_91) k) ?_
          refine Win.to T25 (mkF m 96 #[.val (.int p1), .val (.int ((p1 &&& (2147483647 : Int32)) % (6 : Int32))), .val (.ref w_LE), .val (.int (1 : Int32))] [(.int (1 : Int32))]) (fun _ k => XS.goto X25.here hx rfl (pc0 := 92) (pc' := 96) rfl (hb hby at_92) (by decide) (by decide) k) ?_
          exact Win.retN X25 hx hlk (t := .boolean) hret (by simp) rfl (hb hby at_96) (by decide) (by decide) (by (try rw [e25]); exact ⟨rfl, N26, rfl⟩)
        · refine Win.to s₁ (mkF m 63 #[.val (.int p1), .val (.int ((p1 &&& (2147483647 : Int32)) % (6 : Int32))), .unset, .unset] []) (fun _ k => XS.icmpYes X0.here hx rfl (pc0 := 51) (pc' := 63) rfl (hb hby at_51) rfl (feq hc23).2 (by decide) (by decide) k) ?_
          refine Win.to s₁ (mkF m 64 #[.val (.int p1), .val (.int ((p1 &&& (2147483647 : Int32)) % (6 : Int32))), .unset, .unset] [(.int ((p1 &&& (2147483647 : Int32)) % (6 : Int32)))]) (fun _ k => XS.iloadN X0.here hx rfl (hb hby at_63) rfl k) ?_
          refine Win.to s₁ (mkF m 65 #[.val (.int p1), .val (.int ((p1 &&& (2147483647 : Int32)) % (6 : Int32))), .unset, .unset] [(.int (4 : Int32)), (.int ((p1 &&& (2147483647 : Int32)) % (6 : Int32)))]) (fun _ k => XS.iconst X0.here hx rfl (hb hby at_64) k) ?_
          by_cases hc27 : ((p1 &&& (2147483647 : Int32)) % (6 : Int32)) = (4 : Int32)
          · refine Win.to s₁ (mkF m 68 #[.val (.int p1), .val (.int ((p1 &&& (2147483647 : Int32)) % (6 : Int32))), .unset, .unset] []) (fun _ k => XS.icmpNo X0.here hx rfl (hb hby at_65) rfl (teq hc27).2 k) ?_
            obtain ⟨T28, X28, e28, st28⟩ := getS2 X0 hx hZ hown (host := "") (Or.inl (hw _ (List.mem_of_getElem? (i := 19) rfl))) Via.refl e0 (Sta.ext O0.2 S_GT) (g := (mkF m 68 #[.val (.int p1), .val (.int ((p1 &&& (2147483647 : Int32)) % (6 : Int32))), .unset, .unset] [])) rfl (hb hby at_68)
            refine Win.to T28 (mkF m 71 #[.val (.int p1), .val (.int ((p1 &&& (2147483647 : Int32)) % (6 : Int32))), .unset, .unset] [(.ref w_GT)]) (fun _ k => st28 _ k) ?_
            refine Win.to T28 (mkF m 72 #[.val (.int p1), .val (.int ((p1 &&& (2147483647 : Int32)) % (6 : Int32))), .val (.ref w_GT), .unset] []) (fun _ k => XS.astoreN X28.here hx rfl (hb hby at_71) rfl rfl (l' := #[.val (.int p1), .val (.int ((p1 &&& (2147483647 : Int32)) % (6 : Int32))), .val (.ref w_GT), .unset]) rfl k) ?_
            refine Win.to T28 (mkF m 73 #[.val (.int p1), .val (.int ((p1 &&& (2147483647 : Int32)) % (6 : Int32))), .val (.ref w_GT), .unset] [(.int (1 : Int32))]) (fun _ k => XS.iconst X28.here hx rfl (hb hby at_72) k) ?_
            refine Win.to T28 (mkF m 74 #[.val (.int p1), .val (.int ((p1 &&& (2147483647 : Int32)) % (6 : Int32))), .val (.ref w_GT), .val (.int (1 : Int32))] []) (fun _ k => XS.istoreN X28.here hx rfl (hb hby at_73) rfl (l' := #[.val (.int p1), .val (.int ((p1 &&& (2147483647 : Int32)) % (6 : Int32))), .val (.ref w_GT), .val (.int (1 : Int32))]) rfl k) ?_
            refine Win.to T28 (mkF m 83 #[.val (.int p1), .val (.int ((p1 &&& (2147483647 : Int32)) % (6 : Int32))), .val (.ref w_GT), .val (.int (1 : Int32))] []) (fun _ k => XS.goto X28.here hx rfl (pc0 := 74) (pc' := 83) rfl (hb hby at_74) (by decide) (by decide) k) ?_
            refine Win.to T28 (mkF m 84 #[.val (.int p1), .val (.int ((p1 &&& (2147483647 : Int32)) % (6 : Int32))), .val (.ref w_GT), .val (.int (1 : Int32))] [(.ref w_GT)]) (fun _ k => XS.aloadN X28.here hx rfl (hb hby at_83) rfl rfl k) ?_
            obtain ⟨T29, h29, v29, L29, X29, e29, ⟨rfl, N29q, r29_0⟩, st29⟩ := N.virtual X28 hx hZ (y := (⟨"com/example/stylewright/stylewright/xpath/ComparisonExpression$Operator", "isOrdering", "()Z"⟩ : MethodName)) (z := (⟨"com/example/stylewright/stylewright/xpath/ComparisonExpression$Operator", "isOrdering", "()Z"⟩ : MethodName)) hown (hw _ (List.mem_of_getElem? (i := 4) rfl)) (hw _ (List.mem_of_getElem? (i := 5) rfl)) (notFace_of_selects (args := #[]) (mvT hZ (hw _ (List.mem_of_getElem? (i := 7) rfl)))) (hw _ (List.mem_of_getElem? (i := 7) rfl)) (hw _ (List.mem_of_getElem? (i := 6) rfl)) (hw _ (List.mem_of_getElem? (i := 2) rfl)) (hw _ (List.mem_of_getElem? (i := 8) rfl)) (by decide) (rm1 l Z a0 hw w_GT w_EQ w_NE (1 : Int32) h0 n0 O0 S_EQ S_NE (fun q => absurd q d_GT_EQ) (fun q => absurd q d_GT_NE) (fun _ _ => rfl)) e28 F9 (g := (mkF m 84 #[.val (.int p1), .val (.int ((p1 &&& (2147483647 : Int32)) % (6 : Int32))), .val (.ref w_GT), .val (.int (1 : Int32))] [(.ref w_GT)])) rfl (by rw [hml]; rfl) (argsL := []) (rest := []) rfl (lenOf pd___Z rfl) rfl (W := 0) (by show 2 * 0 + _ ≤ _; exact Nat.le_of_eq rfl) (hb hby at_84) (by decide) (by decide) (by decide) (by decide)
            have N30 := Fr.app N0 N29q
            have e29 := e29.trans r29_0
            refine Win.to T29 (mkF m 87 #[.val (.int p1), .val (.int ((p1 &&& (2147483647 : Int32)) % (6 : Int32))), .val (.ref w_GT), .val (.int (1 : Int32))] [(.int (1 : Int32))]) (fun _ k => st29 _ k) ?_
            refine Win.to T29 (mkF m 88 #[.val (.int p1), .val (.int ((p1 &&& (2147483647 : Int32)) % (6 : Int32))), .val (.ref w_GT), .val (.int (1 : Int32))] [(.int (1 : Int32)), (.int (1 : Int32))]) (fun _ k => XS.iloadN X29.here hx rfl (hb hby at_87) rfl k) ?_
            refine Win.to T29 (mkF m 91 #[.val (.int p1), .val (.int ((p1 &&& (2147483647 : Int32)) % (6 : Int32))), .val (.ref w_GT), .val (.int (1 : Int32))] []) (fun _ k => XS.icmpNo X29.here hx rfl (hb hby at_88) rfl (teq (show (1 : Int32) = (1 : Int32) from by decide)).2 k) ?_
            refine Win.to T29 (mkF m 92 #[.val (.int p1), .val (.int ((p1 &&& (2147483647 : Int32)) % (6 : Int32))), .val (.ref w_GT), .val (.int (1 : Int32))] [(.int (1 : Int32))]) (fun _ k => XS.iconst X29.here hx rfl (hb hby at_91) k) ?_
            refine Win.to T29 (mkF m 96 #[.val (.int p1), .val (.int ((p1 &&& (2147483647 : Int32)) % (6 : Int32))), .val (.ref w_GT), .val (.int (1 : Int32))] [(.int (1 : Int32))]) (fun _ k => XS.goto X29.here hx rfl (pc0 := 92) (pc' := 96) rfl (hb hby at_92) (by decide) (by decide) k) ?_
            exact Win.retN X29 hx hlk (t := .boolean) hret (by simp) rfl (hb hby at_96) (by decide) (by decide) (by (try rw [e29]); exact ⟨rfl, N30, rfl⟩)
          · refine Win.to s₁ (mkF m 77 #[.val (.int p1), .val (.int ((p1 &&& (2147483647 : Int32)) % (6 : Int32))), .unset, .unset] []) (fun _ k => XS.icmpYes X0.here hx rfl (pc0 := 65) (pc' := 77) rfl (hb hby at_65) rfl (feq hc27).2 (by decide) (by decide) k) ?_
            obtain ⟨T31, X31, e31, st31⟩ := getS2 X0 hx hZ hown (host := "") (Or.inl (hw _ (List.mem_of_getElem? (i := 17) rfl))) Via.refl e0 (Sta.ext O0.2 S_GE) (g := (mkF m 77 #[.val (.int p1), .val (.int ((p1 &&& (2147483647 : Int32)) % (6 : Int32))), .unset, .unset] [])) rfl (hb hby at_77)
            refine Win.to T31 (mkF m 80 #[.val (.int p1), .val (.int ((p1 &&& (2147483647 : Int32)) % (6 : Int32))), .unset, .unset] [(.ref w_GE)]) (fun _ k => st31 _ k) ?_
            refine Win.to T31 (mkF m 81 #[.val (.int p1), .val (.int ((p1 &&& (2147483647 : Int32)) % (6 : Int32))), .val (.ref w_GE), .unset] []) (fun _ k => XS.astoreN X31.here hx rfl (hb hby at_80) rfl rfl (l' := #[.val (.int p1), .val (.int ((p1 &&& (2147483647 : Int32)) % (6 : Int32))), .val (.ref w_GE), .unset]) rfl k) ?_
            refine Win.to T31 (mkF m 82 #[.val (.int p1), .val (.int ((p1 &&& (2147483647 : Int32)) % (6 : Int32))), .val (.ref w_GE), .unset] [(.int (1 : Int32))]) (fun _ k => XS.iconst X31.here hx rfl (hb hby at_81) k) ?_
            refine Win.to T31 (mkF m 83 #[.val (.int p1), .val (.int ((p1 &&& (2147483647 : Int32)) % (6 : Int32))), .val (.ref w_GE), .val (.int (1 : Int32))] []) (fun _ k => XS.istoreN X31.here hx rfl (hb hby at_82) rfl (l' := #[.val (.int p1), .val (.int ((p1 &&& (2147483647 : Int32)) % (6 : Int32))), .val (.ref w_GE), .val (.int (1 : Int32))]) rfl k) ?_
            refine Win.to T31 (mkF m 84 #[.val (.int p1), .val (.int ((p1 &&& (2147483647 : Int32)) % (6 : Int32))), .val (.ref w_GE), .val (.int (1 : Int32))] [(.ref w_GE)]) (fun _ k => XS.aloadN X31.here hx rfl (hb hby at_83) rfl rfl k) ?_
            obtain ⟨T32, h32, v32, L32, X32, e32, ⟨rfl, N32q, r32_0⟩, st32⟩ := N.virtual X31 hx hZ (y := (⟨"com/example/stylewright/stylewright/xpath/ComparisonExpression$Operator", "isOrdering", "()Z"⟩ : MethodName)) (z := (⟨"com/example/stylewright/stylewright/xpath/ComparisonExpression$Operator", "isOrdering", "()Z"⟩ : MethodName)) hown (hw _ (List.mem_of_getElem? (i := 4) rfl)) (hw _ (List.mem_of_getElem? (i := 5) rfl)) (notFace_of_selects (args := #[]) (mvT hZ (hw _ (List.mem_of_getElem? (i := 7) rfl)))) (hw _ (List.mem_of_getElem? (i := 7) rfl)) (hw _ (List.mem_of_getElem? (i := 6) rfl)) (hw _ (List.mem_of_getElem? (i := 2) rfl)) (hw _ (List.mem_of_getElem? (i := 8) rfl)) (by decide) (rm1 l Z a0 hw w_GE w_EQ w_NE (1 : Int32) h0 n0 O0 S_EQ S_NE (fun q => absurd q d_GE_EQ) (fun q => absurd q d_GE_NE) (fun _ _ => rfl)) e31 F10 (g := (mkF m 84 #[.val (.int p1), .val (.int ((p1 &&& (2147483647 : Int32)) % (6 : Int32))), .val (.ref w_GE), .val (.int (1 : Int32))] [(.ref w_GE)])) rfl (by rw [hml]; rfl) (argsL := []) (rest := []) rfl (lenOf pd___Z rfl) rfl (W := 0) (by show 2 * 0 + _ ≤ _; exact Nat.le_of_eq rfl) (hb hby at_84) (by decide) (by decide) (by decide) (by decide)
            have N33 := Fr.app N0 N32q
            have e32 := e32.trans r32_0
            refine Win.to T32 (mkF m 87 #[.val (.int p1), .val (.int ((p1 &&& (2147483647 : Int32)) % (6 : Int32))), .val (.ref w_GE), .val (.int (1 : Int32))] [(.int (1 : Int32))]) (fun _ k => st32 _ k) ?_
            refine Win.to T32 (mkF m 88 #[.val (.int p1), .val (.int ((p1 &&& (2147483647 : Int32)) % (6 : Int32))), .val (.ref w_GE), .val (.int (1 : Int32))] [(.int (1 : Int32)), (.int (1 : Int32))]) (fun _ k => XS.iloadN X32.here hx rfl (hb hby at_87) rfl k) ?_
            refine Win.to T32 (mkF m 91 #[.val (.int p1), .val (.int ((p1 &&& (2147483647 : Int32)) % (6 : Int32))), .val (.ref w_GE), .val (.int (1 : Int32))] []) (fun _ k => XS.icmpNo X32.here hx rfl (hb hby at_88) rfl (teq (show (1 : Int32) = (1 : Int32) from by decide)).2 k) ?_
            refine Win.to T32 (mkF m 92 #[.val (.int p1), .val (.int ((p1 &&& (2147483647 : Int32)) % (6 : Int32))), .val (.ref w_GE), .val (.int (1 : Int32))] [(.int (1 : Int32))]) (fun _ k => XS.iconst X32.here hx rfl (hb hby at_91) k) ?_
            refine Win.to T32 (mkF m 96 #[.val (.int p1), .val (.int ((p1 &&& (2147483647 : Int32)) % (6 : Int32))), .val (.ref w_GE), .val (.int (1 : Int32))] [(.int (1 : Int32))]) (fun _ k => XS.goto X32.here hx rfl (pc0 := 92) (pc' := 96) rfl (hb hby at_92) (by decide) (by decide) k) ?_
            exact Win.retN X32 hx hlk (t := .boolean) hret (by simp) rfl (hb hby at_96) (by decide) (by decide) (by (try rw [e32]); exact ⟨rfl, N33, rfl⟩)
set_option maxRecDepth 65536 in
set_option maxHeartbeats 40000000 in
theorem comes_1 {Post : Tables → Env → Array Value → State → Outcome → State → Prop} (hpost : ∀ tb e args s v u, (limb_1_1.after args s (.returned v) u = true ∧ limb_1_2.after args s (.returned v) u = true ∧ True) → FrameEnd s (.returned v) u (Jvm.fieldLocs frame_1_writes args s ++ Jvm.arrayLocs frame_1_arrays args s ++ Jvm.staticLocs frame_1_statics s) 0 0 → Post tb e args s (.returned v) u) :
    ArmFor flags0 classFile x code maxLocals ret World_1 tables_1 room_1 Calls_1 rest_1 Pre_1 Post := by
  intro l hfl _ hworld p e ha hc hk s m args below hf hA hF happ hP
  obtain ⟨hcalls, hrest, hpre⟩ := hP
  obtain ⟨-, -, -, hnamed, -, -, -, hat⟩ := (Spec.applies_iff hf).mp happ
  obtain ⟨hg, hn⟩ := and_e (Cond.before_iff.mp (show (Jvm.Cond.and given_1 narrow_1).before args s = true from hpre))
  obtain ⟨gc, hg⟩ := and_e hg
  obtain ⟨w0, rfl⟩ : ∃ w0 : Value, args = #[w0] := by
    have hs : args.size = 1 := by simpa [Cond.value, given_1] using gc
    obtain ⟨L⟩ := args
    match L, hs with
    | [w0], _ => exact ⟨w0, rfl⟩
  have hw := fun d (hd : d ∈ tables_1) => atoms_spec (ws := Jvm.Cond.code x code maxLocals ret :: tables_1) hat d (List.mem_cons_of_mem _ hd)
  have hfit : Fit s := fun {y c} hc i hi => by
    obtain ⟨ha, rfl⟩ := Array.getElem?_eq_some_iff.mp hc
    have q := List.all_eq_true.mp ((Array.all_eq_true_iff_forall_mem.mp hF) _ (Array.getElem_mem ha)) i (List.mem_range.mpr hi)
    simpa [Array.getElem?_eq_getElem hi] using q
  obtain ⟨i0, ei0⟩ := is_v hg
  obtain rfl : w0 = (.int i0) := Option.some.inj ei0
  obtain ⟨c0, hn⟩ := and_e hn
  obtain ⟨c1, hn⟩ := and_e hn
  obtain ⟨c2, hn⟩ := and_e hn
  obtain ⟨c3, hn⟩ := and_e hn
  obtain ⟨c4, hn⟩ := and_e hn
  obtain ⟨c5, hn⟩ := and_e hn
  obtain ⟨c6, hn⟩ := and_e hn
  obtain ⟨c7, hn⟩ := and_e hn
  obtain ⟨c8, hn⟩ := and_e hn
  obtain ⟨c9, hn⟩ := and_e hn
  obtain ⟨c10, hn⟩ := and_e hn
  have c11 := hn
  obtain ⟨w_EQ, ev_EQ⟩ := exa_v c0
  have E_EQ : Exa s s.heap w_EQ "com/example/stylewright/stylewright/xpath/ComparisonExpression$Operator" := Exa.start ev_EQ c0
  have S_EQ : Sta s s.heap "com/example/stylewright/stylewright/xpath/ComparisonExpression$Operator" "EQ" "Lcom/example/stylewright/stylewright/xpath/ComparisonExpression$Operator;" (.ref w_EQ) := Sta.start ev_EQ (Or.inr ⟨(hw _ (List.mem_of_getElem? (i := 2) rfl)), (hw _ (List.mem_of_getElem? (i := 3) rfl))⟩)
  obtain ⟨w_LE, ev_LE⟩ := exa_v c1
  have E_LE : Exa s s.heap w_LE "com/example/stylewright/stylewright/xpath/ComparisonExpression$Operator" := Exa.start ev_LE c1
  have S_LE : Sta s s.heap "com/example/stylewright/stylewright/xpath/ComparisonExpression$Operator" "LE" "Lcom/example/stylewright/stylewright/xpath/ComparisonExpression$Operator;" (.ref w_LE) := Sta.start ev_LE (Or.inr ⟨(hw _ (List.mem_of_getElem? (i := 2) rfl)), (hw _ (List.mem_of_getElem? (i := 11) rfl))⟩)
  obtain ⟨w_NE, ev_NE⟩ := exa_v c4
  have E_NE : Exa s s.heap w_NE "com/example/stylewright/stylewright/xpath/ComparisonExpression$Operator" := Exa.start ev_NE c4
  have S_NE : Sta s s.heap "com/example/stylewright/stylewright/xpath/ComparisonExpression$Operator" "NE" "Lcom/example/stylewright/stylewright/xpath/ComparisonExpression$Operator;" (.ref w_NE) := Sta.start ev_NE (Or.inr ⟨(hw _ (List.mem_of_getElem? (i := 2) rfl)), (hw _ (List.mem_of_getElem? (i := 13) rfl))⟩)
  obtain ⟨w_LT, ev_LT⟩ := exa_v c6
  have E_LT : Exa s s.heap w_LT "com/example/stylewright/stylewright/xpath/ComparisonExpression$Operator" := Exa.start ev_LT c6
  have S_LT : Sta s s.heap "com/example/stylewright/stylewright/xpath/ComparisonExpression$Operator" "LT" "Lcom/example/stylewright/stylewright/xpath/ComparisonExpression$Operator;" (.ref w_LT) := Sta.start ev_LT (Or.inr ⟨(hw _ (List.mem_of_getElem? (i := 2) rfl)), (hw _ (List.mem_of_getElem? (i := 15) rfl))⟩)
  obtain ⟨w_GE, ev_GE⟩ := exa_v c8
  have E_GE : Exa s s.heap w_GE "com/example/stylewright/stylewright/xpath/ComparisonExpression$Operator" := Exa.start ev_GE c8
  have S_GE : Sta s s.heap "com/example/stylewright/stylewright/xpath/ComparisonExpression$Operator" "GE" "Lcom/example/stylewright/stylewright/xpath/ComparisonExpression$Operator;" (.ref w_GE) := Sta.start ev_GE (Or.inr ⟨(hw _ (List.mem_of_getElem? (i := 2) rfl)), (hw _ (List.mem_of_getElem? (i := 18) rfl))⟩)
  obtain ⟨w_GT, ev_GT⟩ := exa_v c10
  have E_GT : Exa s s.heap w_GT "com/example/stylewright/stylewright/xpath/ComparisonExpression$Operator" := Exa.start ev_GT c10
  have S_GT : Sta s s.heap "com/example/stylewright/stylewright/xpath/ComparisonExpression$Operator" "GT" "Lcom/example/stylewright/stylewright/xpath/ComparisonExpression$Operator;" (.ref w_GT) := Sta.start ev_GT (Or.inr ⟨(hw _ (List.mem_of_getElem? (i := 2) rfl)), (hw _ (List.mem_of_getElem? (i := 20) rfl))⟩)
  have F_LE_ordinal : Fld s s.heap w_LE "java/lang/Enum" "ordinal" "I" (.int (3 : Int32)) := Fld.start ((fld_at ev_LE).symm.trans (Cond.eq_int (Cond.before_iff.mpr c2) rfl))
  have F_EQ_ordinal : Fld s s.heap w_EQ "java/lang/Enum" "ordinal" "I" (.int (0 : Int32)) := Fld.start ((fld_at ev_EQ).symm.trans (Cond.eq_int (Cond.before_iff.mpr c3) rfl))
  have F_NE_ordinal : Fld s s.heap w_NE "java/lang/Enum" "ordinal" "I" (.int (1 : Int32)) := Fld.start ((fld_at ev_NE).symm.trans (Cond.eq_int (Cond.before_iff.mpr c5) rfl))
  have F_LT_ordinal : Fld s s.heap w_LT "java/lang/Enum" "ordinal" "I" (.int (2 : Int32)) := Fld.start ((fld_at ev_LT).symm.trans (Cond.eq_int (Cond.before_iff.mpr c7) rfl))
  have F_GE_ordinal : Fld s s.heap w_GE "java/lang/Enum" "ordinal" "I" (.int (5 : Int32)) := Fld.start ((fld_at ev_GE).symm.trans (Cond.eq_int (Cond.before_iff.mpr c9) rfl))
  have F_GT_ordinal : Fld s s.heap w_GT "java/lang/Enum" "ordinal" "I" (.int (4 : Int32)) := Fld.start ((fld_at ev_GT).symm.trans (Cond.eq_int (Cond.before_iff.mpr c11) rfl))
  obtain ⟨n, o, h1, h2, h3, v, L, rfl, hQ, hq⟩ := rm0 l s _ hw tables_1 i0 w_EQ w_NE w_LT w_LE w_GT w_GE s.heap s.heap.size (Old.start s) S_EQ S_NE S_LT S_LE S_GT S_GE E_EQ E_NE E_LT E_LE E_GT E_GE (Fld.ne F_LT_ordinal F_EQ_ordinal (by decide)) (Fld.ne F_LT_ordinal F_NE_ordinal (by decide)) (Fld.ne F_LE_ordinal F_EQ_ordinal (by decide)) (Fld.ne F_LE_ordinal F_NE_ordinal (by decide)) (Fld.ne F_GT_ordinal F_EQ_ordinal (by decide)) (Fld.ne F_GT_ordinal F_NE_ordinal (by decide)) (Fld.ne F_GE_ordinal F_EQ_ordinal (by decide)) (Fld.ne F_GE_ordinal F_NE_ordinal (by decide)) p e ha hc hk s m _ below hf ((Spec.applies_iff_loose hf).mp happ).1 ⟨rfl, State.Warmed39.refl s, rfl⟩ trivial
  obtain ⟨rfl, N, -⟩ := hQ
  refine ⟨n, _, h1, h2, h3, hpost _ _ _ _ _ _ ⟨Cond.after_iff.mpr rfl, Cond.after_iff.mpr (eq_i res_at (Term.int_eval (1)) rfl), trivial⟩ ⟨hq.1, hq.2.1, (hq.2.2.sift fun y hy => Or.inr (N y hy)).mono (by decide) (by decide)⟩⟩
theorem main_1_1 : Claimed_1_1 := comes_1 fun _ _ _ _ _ _ h hF => ⟨h.1, hF⟩
theorem main_1_2 : Claimed_1_2 := comes_1 fun _ _ _ _ _ _ h hF => ⟨h.2.1, hF⟩
end Jvm.Pilot.@@N@@
namespace Jvm.Pilot.@@N@@
open Jvm Jvm.ClassFile Sem Op Lib Jvm.Free Jvm.Stand Jvm.Pilot.@@N@@.Jvm.D
/-! MADE BY PROGRAM (witnessworld.py) out of the Statement's table words and the real class files: 12 classes; the members and pool entries that the words name. The judged class is class 1, her method 1. -/
namespace start1
open Jvm.ClassFile
def u (s : String) : CpInfo := .utf8 (stringToUtf16 s)
/-- a pool by its gaps: so many unusable entries, then the entry; so many at the end -/
def gap : Nat → List CpInfo → List CpInfo
  | 0, r => r
  | n + 1, r => .unusable :: gap n r
def poolList (es : List (Nat × CpInfo)) (last : Nat) : List CpInfo := es.foldr (fun e r => gap e.1 (e.2 :: r)) (gap last [])
def pool (es : List (Nat × CpInfo)) (last : Nat) : Array CpInfo := ⟨poolList es last⟩
def fileOf (pool : Array CpInfo) (this : Nat) (attrs : Array Attribute := #[]) (ms : Array MethodInfo := #[]) (fl : Nat := 33) (sup : Nat := 0) (ifs : Array Nat := #[]) (fds : Array FieldInfo := #[]) : ClassFile where
  minorVersion := 0
  majorVersion := 65
  constantPool := pool
  accessFlags := fl
  thisClass := this
  superClass := sup
  interfaces := ifs
  fields := fds
  methods := ms
  attributes := attrs
def plain (name : String) (sup : Option ClassId) : Class where
  name := name
  kind := .ordinary
  loader := none
  accessFlags := 33
  super := sup
  interfaces := #[]
  cf := none
  fields := #[]
  methods := #[]
  instanceTypes := #[]
  staticTypes := #[]
  resolved := #[]
  callSites := []
  init := .initialized
  statics := none
  mirror := none

def pool0 : Array CpInfo := pool [(5, u "<init>"), (0, u "()V"), (1, .class_ 10), (1, u "java/lang/Object")] 113

def k0m0 : Method := { name := "<init>", desc := "()V", sig := { parameters := [], returnType := none }, accessFlags := 1, code := none }
/-- java/lang/Object -/
def k0 : Class := { plain "java/lang/Object" none with
  accessFlags := 33
  interfaces := #[]
  cf := some (fileOf pool0 8 #[] #[{ accessFlags := 1, nameIndex := 5, descriptorIndex := 6, attributes := #[] }] 33 0 #[] #[])
  fields := #[]
  methods := #[k0m0]
  instanceTypes := #[]
  staticTypes := #[]
  resolved := Array.replicate 124 none
  statics := none }

def pool1 : Array CpInfo := pool [(2, .class_ 4), (1, u "java/lang/Object"), (0, u "<init>"), (0, u "()V"), (0, .integer 2147483647), (0, .fieldref 9 10), (0, .class_ 11), (0, .nameAndType 12 13), (0, u "com/example/stylewright/stylewright/xpath/ComparisonExpression$Operator"), (0, u "EQ"), (0, u "Lcom/example/stylewright/stylewright/xpath/ComparisonExpression$Operator;"), (0, .fieldref 9 15), (0, .nameAndType 16 13), (0, u "NE"), (0, .fieldref 9 18), (0, .nameAndType 19 13), (0, u "LT"), (0, .fieldref 9 21), (0, .nameAndType 22 13), (0, u "LE"), (0, .fieldref 9 24), (0, .nameAndType 25 13), (0, u "GT"), (0, .fieldref 9 27), (0, .nameAndType 28 13), (0, u "GE"), (0, .methodref 9 30), (0, .nameAndType 31 32), (0, u "isOrdering"), (0, u "()Z"), (0, .class_ 34), (0, u "com/example/stylewright/stylewright/xpath/OperatorIsOrderingPinLaw"), (2, u "law"), (0, u "(I)Z")] 7

def k1m0 : Method := { name := "<init>", desc := "()V", sig := { parameters := [], returnType := none }, accessFlags := 1, code := none }
def k1c1 : Code := { maxStack := 2, maxLocals := 4, code := code, exceptionTable := #[], attributes := #[] }
def k1m1 : Method := { name := "law", desc := "(I)Z", sig := { parameters := [.int], returnType := some .boolean }, accessFlags := 9, code := some k1c1 }
/-- com/example/stylewright/stylewright/xpath/OperatorIsOrderingPinLaw -/
def k1 : Class := { plain "com/example/stylewright/stylewright/xpath/OperatorIsOrderingPinLaw" (some 0) with
  accessFlags := 49
  interfaces := #[]
  cf := some (fileOf pool1 33 #[] #[{ accessFlags := 1, nameIndex := 5, descriptorIndex := 6, attributes := #[] }, { accessFlags := 9, nameIndex := 37, descriptorIndex := 38, attributes := #[] }] 49 2 #[] #[])
  fields := #[]
  methods := #[k1m0, k1m1]
  instanceTypes := #[]
  staticTypes := #[]
  resolved := Array.replicate 46 none
  statics := none }

def pool2 : Array CpInfo := pool [(1, .class_ 2), (0, u "java/lang/constant/Constable"), (0, .class_ 4), (0, u "java/lang/Object")] 6

/-- java/lang/constant/Constable -/
def k2 : Class := { plain "java/lang/constant/Constable" (some 0) with
  accessFlags := 1537
  interfaces := #[]
  cf := some (fileOf pool2 1 #[] #[] 1537 3 #[] #[])
  fields := #[]
  methods := #[]
  instanceTypes := #[]
  staticTypes := #[]
  resolved := Array.replicate 11 none
  statics := none }

def pool3 : Array CpInfo := pool [(1, .class_ 2), (0, u "java/lang/Comparable"), (0, .class_ 4), (0, u "java/lang/Object")] 7

/-- java/lang/Comparable -/
def k3 : Class := { plain "java/lang/Comparable" (some 0) with
  accessFlags := 1537
  interfaces := #[]
  cf := some (fileOf pool3 1 #[] #[] 1537 3 #[] #[])
  fields := #[]
  methods := #[]
  instanceTypes := #[]
  staticTypes := #[]
  resolved := Array.replicate 12 none
  statics := none }

def pool4 : Array CpInfo := pool [(1, .class_ 2), (0, u "java/io/Serializable"), (0, .class_ 4), (0, u "java/lang/Object")] 2

/-- java/io/Serializable -/
def k4 : Class := { plain "java/io/Serializable" (some 0) with
  accessFlags := 1537
  interfaces := #[]
  cf := some (fileOf pool4 1 #[] #[] 1537 3 #[] #[])
  fields := #[]
  methods := #[]
  instanceTypes := #[]
  staticTypes := #[]
  resolved := Array.replicate 7 none
  statics := none }

def pool5 : Array CpInfo := pool [(2, .class_ 4), (1, u "java/lang/Enum"), (0, u "name"), (0, u "Ljava/lang/String;"), (2, u "ordinal"), (0, u "I"), (1, .class_ 14), (1, u "java/lang/Object"), (4, u "hash"), (86, .class_ 108), (1, u "java/lang/Enum$EnumDesc"), (2, .class_ 112), (0, u "java/lang/constant/Constable"), (0, .class_ 114), (0, u "java/lang/Comparable"), (0, .class_ 116), (0, u "java/io/Serializable")] 87

/-- java/lang/Enum -/
def k5 : Class := { plain "java/lang/Enum" (some 0) with
  accessFlags := 1057
  interfaces := #[2, 3, 4]
  cf := some (fileOf pool5 2 #[.nestMembers #[106]] #[] 1057 12 #[111, 113, 115] #[{ accessFlags := 18, nameIndex := 5, descriptorIndex := 6, attributes := #[] }, { accessFlags := 18, nameIndex := 9, descriptorIndex := 10, attributes := #[] }, { accessFlags := 2, nameIndex := 19, descriptorIndex := 10, attributes := #[] }])
  fields := #[{ name := "name", type := (.object "java/lang/String"), accessFlags := 18, slot := 0, constantValue := 0 }, { name := "ordinal", type := .int, accessFlags := 18, slot := 1, constantValue := 0 }, { name := "hash", type := .int, accessFlags := 2, slot := 2, constantValue := 0 }]
  methods := #[]
  instanceTypes := #[(.object "java/lang/String"), .int, .int]
  staticTypes := #[]
  resolved := Array.replicate 204 none
  statics := none }

def pool6 : Array CpInfo := pool [(1, .class_ 2), (0, u "com/example/stylewright/stylewright/xpath/ComparisonExpression$Operator"), (0, .fieldref 1 4), (0, .nameAndType 5 6), (0, u "EQ"), (0, u "Lcom/example/stylewright/stylewright/xpath/ComparisonExpression$Operator;"), (0, .fieldref 1 8), (0, .nameAndType 9 6), (0, u "NE"), (2, u "LT"), (2, u "LE"), (2, u "GT"), (2, u "GE"), (2, u "$VALUES"), (0, u "[Lcom/example/stylewright/stylewright/xpath/ComparisonExpression$Operator;"), (6, .class_ 34), (1, u "java/lang/Enum"), (8, u "generalSymbol"), (0, u "Ljava/lang/String;"), (2, u "valueSymbol"), (78, u "isOrdering"), (0, u "()Z"), (6, .class_ 135), (0, u "com/example/stylewright/stylewright/xpath/ComparisonExpression")] 16

def k6c0 : Code := { maxStack := 2, maxLocals := 1, code := prog_58_method_7_code, exceptionTable := #[], attributes := #[] }
def k6m0 : Method := { name := "isOrdering", desc := "()Z", sig := { parameters := [], returnType := some .boolean }, accessFlags := 0, code := some k6c0 }
/-- com/example/stylewright/stylewright/xpath/ComparisonExpression$Operator -/
def k6 : Class := { plain "com/example/stylewright/stylewright/xpath/ComparisonExpression$Operator" (some 5) with
  accessFlags := 16432
  interfaces := #[]
  cf := some (fileOf pool6 1 #[.nestHost 134] #[{ accessFlags := 0, nameIndex := 126, descriptorIndex := 127, attributes := #[] }] 16432 32 #[] #[{ accessFlags := 16409, nameIndex := 5, descriptorIndex := 6, attributes := #[] }, { accessFlags := 16409, nameIndex := 9, descriptorIndex := 6, attributes := #[] }, { accessFlags := 16409, nameIndex := 12, descriptorIndex := 6, attributes := #[] }, { accessFlags := 16409, nameIndex := 15, descriptorIndex := 6, attributes := #[] }, { accessFlags := 16409, nameIndex := 18, descriptorIndex := 6, attributes := #[] }, { accessFlags := 16409, nameIndex := 21, descriptorIndex := 6, attributes := #[] }, { accessFlags := 18, nameIndex := 43, descriptorIndex := 44, attributes := #[] }, { accessFlags := 18, nameIndex := 47, descriptorIndex := 44, attributes := #[] }, { accessFlags := 4122, nameIndex := 24, descriptorIndex := 25, attributes := #[] }])
  fields := #[{ name := "EQ", type := (.object "com/example/stylewright/stylewright/xpath/ComparisonExpression$Operator"), accessFlags := 16409, slot := 0, constantValue := 0 }, { name := "NE", type := (.object "com/example/stylewright/stylewright/xpath/ComparisonExpression$Operator"), accessFlags := 16409, slot := 1, constantValue := 0 }, { name := "LT", type := (.object "com/example/stylewright/stylewright/xpath/ComparisonExpression$Operator"), accessFlags := 16409, slot := 2, constantValue := 0 }, { name := "LE", type := (.object "com/example/stylewright/stylewright/xpath/ComparisonExpression$Operator"), accessFlags := 16409, slot := 3, constantValue := 0 }, { name := "GT", type := (.object "com/example/stylewright/stylewright/xpath/ComparisonExpression$Operator"), accessFlags := 16409, slot := 4, constantValue := 0 }, { name := "GE", type := (.object "com/example/stylewright/stylewright/xpath/ComparisonExpression$Operator"), accessFlags := 16409, slot := 5, constantValue := 0 }, { name := "generalSymbol", type := (.object "java/lang/String"), accessFlags := 18, slot := 3, constantValue := 0 }, { name := "valueSymbol", type := (.object "java/lang/String"), accessFlags := 18, slot := 4, constantValue := 0 }, { name := "$VALUES", type := (.array (.object "com/example/stylewright/stylewright/xpath/ComparisonExpression$Operator")), accessFlags := 4122, slot := 6, constantValue := 0 }]
  methods := #[k6m0]
  instanceTypes := #[(.object "java/lang/String"), .int, .int, (.object "java/lang/String"), (.object "java/lang/String")]
  staticTypes := #[(.object "com/example/stylewright/stylewright/xpath/ComparisonExpression$Operator"), (.object "com/example/stylewright/stylewright/xpath/ComparisonExpression$Operator"), (.object "com/example/stylewright/stylewright/xpath/ComparisonExpression$Operator"), (.object "com/example/stylewright/stylewright/xpath/ComparisonExpression$Operator"), (.object "com/example/stylewright/stylewright/xpath/ComparisonExpression$Operator"), (.object "com/example/stylewright/stylewright/xpath/ComparisonExpression$Operator"), (.array (.object "com/example/stylewright/stylewright/xpath/ComparisonExpression$Operator"))]
  resolved := Array.replicate 152 none
  statics := some 0 }

def pool7 : Array CpInfo := pool [(1, u "java/lang/Cloneable"), (0, .class_ 1), (0, u "java/lang/Object"), (0, .class_ 3)] 3

/-- java/lang/Cloneable -/
def k7 : Class := { plain "java/lang/Cloneable" (some 0) with
  accessFlags := 1537
  interfaces := #[]
  cf := some (fileOf pool7 2 #[] #[] 1537 4 #[] #[])
  fields := #[]
  methods := #[]
  instanceTypes := #[]
  staticTypes := #[]
  resolved := Array.replicate 8 none
  statics := none }

/-- the primitive byte -/
def k8 : Class := { plain "byte" none with kind := .primitive 'B', accessFlags := 0x411 }
/-- [B -/
def k9 : Class := { plain "[B" (some 0) with kind := .array 8 .byte, interfaces := #[7, 4], accessFlags := 1041 }

/-- the primitive int -/
def k10 : Class := { plain "int" none with kind := .primitive 'I', accessFlags := 0x411 }
/-- [I -/
def k11 : Class := { plain "[I" (some 0) with kind := .array 10 .int, interfaces := #[7, 4], accessFlags := 1041 }

def heap : Heap := #[{ cls := 6, slots := #[.ref 1, .ref 2, .ref 3, .ref 4, .ref 5, .ref 6, .null], vm := .statics 6 },
  { cls := 6, slots := #[.null, .int 0, .int 0, .null, .null], vm := .none },
  { cls := 6, slots := #[.null, .int 1, .int 0, .null, .null], vm := .none },
  { cls := 6, slots := #[.null, .int 2, .int 0, .null, .null], vm := .none },
  { cls := 6, slots := #[.null, .int 3, .int 0, .null, .null], vm := .none },
  { cls := 6, slots := #[.null, .int 4, .int 0, .null, .null], vm := .none },
  { cls := 6, slots := #[.null, .int 5, .int 0, .null, .null], vm := .none }]
def classes : Array Class := #[k0, k1, k2, k3, k4, k5, k6, k7, k8, k9, k10, k11]
def interned : List (Array UInt16 × Addr) := []
def slotsUsed : Nat := 37
def theMethod : MethodId := ⟨1, 1⟩
def args0 : Array Value := #[.int 5]
def aboutOver (below : List Frame) : State where
  vm := { classes := classes, interned := interned.toArray }
  heap := heap
  slotsUsed := slotsUsed
  threads := #[{ frames := .invoking theMethod args0 :: below }]
def below0 : List Frame := [.native { method := ⟨0, 0⟩, args := #[] }]
def about1 : State := aboutOver below0
def p0 : Program := .bare "" "" ""
def e0 : Env := launch0.env 0 0 0
theorem w_frames : about1.frames = Frame.invoking theMethod args0 :: below0 := rfl
set_option maxRecDepth 65536 in
theorem w_args : argsFit about1.vm theMethod args0 = true := by decide +kernel
set_option maxRecDepth 65536 in
theorem w_heap : heapFits about1 = true := by decide +kernel
set_option maxRecDepth 65536 in
theorem w_runnable : about1.curStatus? = some .runnable := by decide +kernel
set_option maxRecDepth 65536 in
theorem w_alone : about1.alone = true := by decide +kernel
set_option maxRecDepth 65536 in
theorem w_named : about1.methodNamed? x = some theMethod := by decide +kernel
set_option maxRecDepth 65536 in
theorem w_hears : about1.hears theMethod below0 = true := by decide +kernel
set_option maxRecDepth 65536 in
theorem w_ripe : about1.ripe theMethod args0 below0 = true := by decide +kernel
theorem w_running : about1.status = .running := rfl
set_option maxRecDepth 65536 in
theorem w_room : about1.hasRoom e0.platform room_1 = true :=
  launch0.hasRoom_least _ room_1 (by decide +kernel) (by decide +kernel) (by decide +kernel) (by decide +kernel) (by decide +kernel) (by decide +kernel)
theorem allAtoms_all (ts : List Jvm.Cond) (a : Array Jvm.Value) (st : Jvm.State) : (allAtoms ts).before a st = ts.all (fun c => c.before a st) := by
  induction ts with
  | nil => rfl
  | cons c t ih =>
    show (Jvm.Cond.and c (allAtoms t)).before a st = _
    rw [Jvm.Cond.before_and, ih, List.all_cons]
def words1 : List Jvm.Cond := Jvm.Cond.code x code maxLocals ret :: tables_1
/-- a 'code' word, met by the world's own term for the bytes: nothing is compared byte by byte -/
theorem code_word {y : MethodName} {bytes : ByteArray} {mx : Nat} {rt : Option FieldType} {a : Array Value} {s : State} {m : MethodId} {meth : Method} {c : Code} (h1 : s.methodNamed? y = some m) (h2 : s.vm.method? m = some meth) (h3 : meth.code = some c) (h4 : c.code = bytes)
    (h5 : (c.maxLocals == mx && c.exceptionTable.isEmpty && decide (c.maxStack ≤ mostOperands) && decide (meth.sig.returnType = rt) && !meth.locks && decide (parseMethodDescriptor y.desc = some meth.sig)) = true) : (Jvm.Cond.code y bytes mx rt).before a s = true := by
  simp only [Bool.and_eq_true, beq_iff_eq, Bool.not_eq_true', decide_eq_true_eq] at h5
  obtain ⟨⟨⟨⟨⟨g1, g2⟩, g3⟩, g4⟩, g5⟩, g6⟩ := h5
  simp [Cond.before, Cond.holds, Cond.value, h1, h2, h3, h4, g1, g2, g3, g4, g5, g6]
def isCode : Jvm.Cond → Bool
  | .code _ _ _ _ => true
  | _ => false
theorem all_split {L : List Jvm.Cond} {P : Jvm.Cond → Bool} (h1 : L.all (fun c => isCode c || P c) = true) (h2 : ∀ c ∈ L.filter isCode, P c = true) : L.all P = true := by
  refine List.all_eq_true.mpr fun c hc => ?_
  have h := List.all_eq_true.mp h1 c hc
  rcases Bool.eq_false_or_eq_true (isCode c) with hi | hi
  · exact h2 c (List.mem_filter.mpr ⟨hc, hi⟩)
  · simpa [hi] using h
set_option maxRecDepth 65536 in
theorem w_c0 : (Jvm.Cond.code x code maxLocals ret).before args0 about1 = true := code_word (m := ⟨1, 1⟩) (meth := k1m1) (c := k1c1) (by decide +kernel) rfl rfl rfl (by decide +kernel)
set_option maxRecDepth 65536 in
theorem w_c1 : (Jvm.Cond.code ({ cls := "com/example/stylewright/stylewright/xpath/ComparisonExpression$Operator", name := "isOrdering", desc := "()Z" } : Jvm.MethodName) prog_58_method_7_code (1 : Nat) (Option.some Jvm.ClassFile.FieldType.boolean)).before args0 about1 = true := code_word (m := ⟨6, 0⟩) (meth := k6m0) (c := k6c0) (by decide +kernel) rfl rfl rfl (by decide +kernel)
def codes1 : List Jvm.Cond := [Jvm.Cond.code x code maxLocals ret, Jvm.Cond.code ({ cls := "com/example/stylewright/stylewright/xpath/ComparisonExpression$Operator", name := "isOrdering", desc := "()Z" } : Jvm.MethodName) prog_58_method_7_code (1 : Nat) (Option.some Jvm.ClassFile.FieldType.boolean)]
set_option maxRecDepth 65536 in
theorem codes_eq : words1.filter isCode = codes1 := rfl
theorem w_codes : ∀ c ∈ words1.filter isCode, c.before args0 about1 = true := by
  rw [codes_eq]
  intro c hc
  simp only [codes1, List.mem_cons, List.not_mem_nil, or_false] at hc
  rcases hc with rfl | rfl
  · exact w_c0
  · exact w_c1
set_option maxRecDepth 65536 in
theorem w_t1 : words1.all (fun c => isCode c || c.before args0 about1) = true := by decide +kernel
theorem w_tables : (allAtoms (Jvm.Cond.code x code maxLocals ret :: tables_1)).before args0 about1 = true := by
  rw [allAtoms_all]
  show words1.all (fun c => c.before args0 about1) = true
  refine all_split ?_ w_codes
  rw [w_t1]
set_option maxRecDepth 65536 in
theorem w_case : (Jvm.Cond.and given_1 narrow_1).before args0 about1 = true := by decide +kernel
theorem w_applies : (headSpec (Jvm.Cond.code x code maxLocals ret :: tables_1) room_1).applies x e0.platform about1 = true :=
  (Spec.applies_iff w_frames).mpr ⟨w_running, w_runnable, w_alone, w_named, w_hears, w_ripe, w_room, w_tables⟩
theorem atStart : AtStart classFile x code maxLocals ret World_1 tables_1 room_1 Calls_1 rest_1 Pre_1 launch0 p0 e0 about1 theMethod args0 below0 :=
  ⟨lists_1, trivial, launch0.admits_env _ _ _, launch0.least_env, fairChoices_fair.cas, fairChoices_fair.clock, w_frames, w_args, w_heap, w_applies, trivial, trivial, w_case⟩
end start1
theorem witness_1 : WitnessClaimed_1 := ⟨start1.p0, start1.e0, start1.about1, start1.theMethod, start1.args0, start1.below0, start1.atStart⟩
end Jvm.Pilot.@@N@@
