import JvmDerived
import JvmDerived.Pilot.@@N@@Statement
import JvmDerived.Pilot.@@N@@Code
set_option linter.unusedVariables false
set_option linter.unusedSimpArgs false
namespace Jvm.Pilot.@@N@@
open Jvm Jvm.ClassFile Sem Op Lib Jvm.Free Jvm.Stand Jvm.LawKit Jvm.RoadKit Bundle Jvm.Pilot.@@N@@.Jvm.D
/-! a thin layer of one form a step, over the library's road laws -/
def MetN (l : Launch) (Z : State) (y : MethodName) (bytes : ByteArray) (maxL : Nat) (ret : Option FieldType) (rm : Room) (ws : List Jvm.Cond) (as' : Array Value) (h : Heap) (Q : Option Value → Heap → List Loc → Prop) : Prop :=
  MetFree l y (head1 (Jvm.Cond.code y bytes maxL ret :: ws) rm) (fun a U => a = as' ∧ Z.Warmed39 U.vm ∧ U.heap = h) (fun _ _ _ _ _ => True) (fun _ U o U' => ∃ v L, o = .returned v ∧ Q v U'.heap L ∧ FrameEnd U o U' L rm.cells rm.slots)
def Win (p : Program) (e : Env) (below : List Frame) (s : State) (rm : Room) (Q : Option Value → Heap → List Loc → Prop) (st : State) : Prop :=
  ∃ s₂ o, Steps p.tables e below st s₂ ∧ s₂.status = .running ∧ Ended s₂ below o ∧ ∃ v L, o = .returned v ∧ Q v s₂.heap L ∧ FrameEnd s o s₂ L rm.cells rm.slots
section Own
variable {p : Program} {l : Launch} {e : Env} {R rm : Room} {s : State} {m : MethodId} {args : Array Value} {below : List Frame} {meth : Method} {c : Code} {T : State} {locs : List Loc} {cells slots : Nat} {Z : State} {a0 : Array Value} {h : Heap} {Q : Option Value → Heap → List Loc → Prop}
theorem Win.to {A : State} (T : State) (g : JFrame) (k : ∀ t, Steps p.tables e below (T.setTop g) t → Steps p.tables e below A t) (w : Win p e below s rm Q (T.setTop g)) : Win p e below s rm Q A := by
  obtain ⟨s₂, o, h1, r⟩ := w
  exact ⟨s₂, o, k _ h1, r⟩
theorem Win.out (X : Stand p l e R s m args below meth c T locs cells slots) {A : State} {v : Option Value} (hlk : meth.locks = false) (hv : meth.sig.returnType = none → v = none)
    (hst : ∀ fs, (∀ (f : JFrame) (acts : List Action), f.method = m → f.locked = none → f.entered = [] → (doReturn e (T.setTop f) acts v).1 = T.setFrames fs) → Steps p.tables e below A (T.setFrames fs))
    (hc : cells ≤ rm.cells) (hs : slots ≤ rm.slots) (hq : Q v T.heap locs) : Win p e below s rm Q A := by
  obtain ⟨fs, hr, hrun, hended, hW, hsame⟩ := X.leave (v := v) hv
  exact ⟨_, _, hst fs hr, hrun, hended, _, _, rfl, hq, ⟨_, rfl⟩, hW, hsame.mono hc hs⟩
theorem Win.retN (X : Stand p l e R s m args below meth c T locs cells slots) (hx : p.tables.exec = Jvm.exec) (hlk : meth.locks = false) {pc : Nat} {Ls : Array Slot} {z z' : Int32} {t : FieldType} {rest : List Value} (hret : meth.sig.returnType = some t) (ht : t = .boolean ∨ t = .byte ∨ t = .char ∨ t = .short) (hz : nar t z = z')
    (hd : decode c.code pc = .ok (.ireturn, 1)) (hc : cells ≤ rm.cells) (hs : slots ≤ rm.slots) (hq : Q (some (.int z')) T.heap locs) : Win p e below s rm Q (T.setTop (mkF m pc Ls (.int z :: rest))) := by
  subst hz
  exact Win.out X (v := some (.int (nar t z))) hlk (fun q => by rw [hret] at q; cases q) (fun fs hr => Jvm.RoadKit.retN X hx (t := t) hret ht hd hr) hc hs hq
theorem Win.retI (X : Stand p l e R s m args below meth c T locs cells slots) (hx : p.tables.exec = Jvm.exec) (hlk : meth.locks = false) {pc : Nat} {Ls : Array Slot} {z : Int32} {rest : List Value} (hret : meth.sig.returnType = some .int)
    (hd : decode c.code pc = .ok (.ireturn, 1)) (hc : cells ≤ rm.cells) (hs : slots ≤ rm.slots) (hq : Q (some (.int z)) T.heap locs) : Win p e below s rm Q (T.setTop (mkF m pc Ls (.int z :: rest))) :=
  Win.out X (v := some (.int z)) hlk (fun q => by rw [hret] at q; cases q) (fun fs hr => retOut X hx hret rfl (Or.inl ⟨rfl, Or.inl rfl, z, rfl⟩) hd hr) hc hs hq
theorem Win.retJ (X : Stand p l e R s m args below meth c T locs cells slots) (hx : p.tables.exec = Jvm.exec) (hlk : meth.locks = false) {pc : Nat} {Ls : Array Slot} {z : Int64} {rest : List Value} (hret : meth.sig.returnType = some .long)
    (hd : decode c.code pc = .ok (.lreturn, 1)) (hc : cells ≤ rm.cells) (hs : slots ≤ rm.slots) (hq : Q (some (.long z)) T.heap locs) : Win p e below s rm Q (T.setTop (mkF m pc Ls (.long z :: rest))) :=
  Win.out X (v := some (.long z)) hlk (fun q => by rw [hret] at q; cases q) (fun fs hr => retOut X hx hret rfl (Or.inr (Or.inl ⟨rfl, rfl, z, rfl⟩)) hd hr) hc hs hq
theorem Win.retD (X : Stand p l e R s m args below meth c T locs cells slots) (hx : p.tables.exec = Jvm.exec) (hlk : meth.locks = false) {pc : Nat} {Ls : Array Slot} {z : UInt64} {rest : List Value} (hret : meth.sig.returnType = some .double)
    (hd : decode c.code pc = .ok (.dreturn, 1)) (hc : cells ≤ rm.cells) (hs : slots ≤ rm.slots) (hq : Q (some (.double z)) T.heap locs) : Win p e below s rm Q (T.setTop (mkF m pc Ls (.double z :: rest))) :=
  Win.out X (v := some (.double z)) hlk (fun q => by rw [hret] at q; cases q) (fun fs hr => retOut X hx hret rfl (Or.inr (Or.inr (Or.inl ⟨rfl, rfl, z, rfl⟩))) hd hr) hc hs hq
theorem Win.retA (X : Stand p l e R s m args below meth c T locs cells slots) (hx : p.tables.exec = Jvm.exec) (hlk : meth.locks = false) {pc : Nat} {Ls : Array Slot} {w : Value} {t : FieldType} {rest : List Value} (hret : meth.sig.returnType = some t) (ht : t.isReference = true) (hw : w.isRef = true)
    (hd : decode c.code pc = .ok (.areturn, 1)) (hc : cells ≤ rm.cells) (hs : slots ≤ rm.slots) (hq : Q (some w) T.heap locs) : Win p e below s rm Q (T.setTop (mkF m pc Ls (w :: rest))) :=
  Win.out X (v := some w) hlk (fun q => by rw [hret] at q; cases q) (fun fs hr => retOut X hx hret (by rcases ref_cases hw with rfl | ⟨_, rfl⟩ <;> cases t <;> first | rfl | cases ht) (Or.inr (Or.inr (Or.inr (Or.inr ⟨rfl, ht, hw⟩)))) hd hr) hc hs hq
theorem Win.retV (X : Stand p l e R s m args below meth c T locs cells slots) (hx : p.tables.exec = Jvm.exec) (hlk : meth.locks = false) {pc : Nat} {Ls : Array Slot} (hret : meth.sig.returnType = none)
    (hd : decode c.code pc = .ok (.return_, 1)) (hc : cells ≤ rm.cells) (hs : slots ≤ rm.slots) (hq : Q none T.heap locs) : Win p e below s rm Q (T.setTop (mkF m pc Ls [])) :=
  Win.out X (v := none) hlk (fun _ => rfl) (fun fs hr => X.returnOut hx hret hd hr) hc hs hq
theorem MetN.walk {y : MethodName} {bytes : ByteArray} {maxL : Nat} {ret : Option FieldType} {ws : List Jvm.Cond} {as' : Array Value} (hp : plainFor y = true)
    (b : ∀ (p : Program) (e : Env) (s : State) (m : MethodId) (below : List Frame) (meth : Method) (c : Code) (s₁ : State), p.tables.exec = Jvm.exec → Z.Warmed39 s.vm → c.code = bytes → c.maxLocals = maxL → s.vm.findClass y.cls = some m.cls → meth.name = y.name → meth.sig.returnType = ret → meth.locks = false →
      Stand p l e rm s m as' below meth c s₁ [] 0 0 → s₁.heap = h → Win p e below s rm Q (s₁.setTop (entryFrame m as' maxL))) : MetN l Z y bytes maxL ret rm ws as' h Q := by
  refine MetFree.of_bodySF hp hisR ?_
  intro p e s m args below meth c s₁ Bd hml0 hP hK
  obtain ⟨rfl, hZ, hh⟩ := hP
  exact b p e s m below meth c s₁ Bd.exec hZ Bd.bytes hml0 (findClass_of_methodNamed Bd.named) (name_of_methodNamed Bd.named Bd.method).1 Bd.returns Bd.notSynchronized (Stand.of_body Bd) (by rw [← hh, Bd.state]; rfl)
theorem N.static (X : Stand p l e R s m args below meth c T locs cells slots) (hx : p.tables.exec = Jvm.exec) (hZ : Z.Warmed39 s.vm) {own : String} {index : Nat} {y : MethodName} {bytes : ByteArray} {maxL : Nat} {ret : Option FieldType} {as' : Array Value}
    (hown : s.vm.findClass own = some m.cls) (w1 : (Jvm.Cond.methodLink own index y).before a0 Z = true) (w2 : (Jvm.Cond.static y).before a0 Z = true) (w3 : (Jvm.Cond.initialized y.cls).before a0 Z = true) (w4 : (Jvm.Cond.code y bytes maxL ret).before a0 Z = true)
    (hy : y.cls ≠ "java/lang/invoke/MethodHandle" ∧ y.cls ≠ "java/lang/invoke/VarHandle") (M : MetN l Z y bytes maxL ret rm [] as' h Q) (eT : T.heap = h) {g : JFrame} (hg : g.method = m) (hsize : g.locals.size = c.maxLocals) {argsL rest : List Value} (has : argsL.toArray = as')
    (hlen : ∀ sig, parseMethodDescriptor y.desc = some sig → argsL.length = sig.parameters.length) (hstack : g.stack = argsL.reverse ++ rest) {W : Nat} (hW : 2 * g.monitorRoom + (rest.map fun v => v.category).sum ≤ W) (hd : decode c.code g.pc = .ok (.invokestatic index, 3))
    (hf : rm.frames + 1 ≤ R.frames) (hl : W + (maxL + 11) + rm.locals ≤ R.locals) (hc : cells + rm.cells ≤ R.cells) (hs : slots + rm.slots ≤ R.slots) :
    ∃ (T' : State) (h' : Heap) (v : Option Value) (L : List Loc), Stand p l e R s m args below meth c T' (locs ++ L) (cells + rm.cells) (slots + rm.slots) ∧ T'.heap = h' ∧ Q v h' L ∧ ∀ t, Steps p.tables e below (T'.setTop { g with pc := g.pc + 3, stack := v.toList ++ rest }) t → Steps p.tables e below (T.setTop g) t := by
  obtain ⟨v, _, ⟨T', L', k', n'⟩, -, X', ⟨Lc, hQ, l', y', z'⟩, st⟩ := Jvm.LawKit.callS X hx hown (mvT hZ w1) (mvT hZ w2) (mvT hZ w3) (mvT hZ w4) hy (backOf (W := W) M hZ w4 w3 hf hl) hg hsize hlen hstack hW hd (fun _ _ => ⟨has, eT, hc, hs⟩)
  dsimp only [Pt.U, Pt.locs, Pt.cells, Pt.slots] at X' l' y' z' st hQ
  subst l' y' z'
  exact ⟨T', _, v, Lc, X', rfl, hQ, st⟩
theorem N.special (X : Stand p l e R s m args below meth c T locs cells slots) (hx : p.tables.exec = Jvm.exec) (hZ : Z.Warmed39 s.vm) {own : String} {index : Nat} {y : MethodName} {bytes : ByteArray} {maxL : Nat} {as' : Array Value} (hy1 : y.name = "<init>")
    (hown : s.vm.findClass own = some m.cls) (w1 : (Jvm.Cond.methodLink own index y).before a0 Z = true) (w2 : (Jvm.Cond.instanceMethod y).before a0 Z = true) (w3 : (Jvm.Cond.initialized y.cls).before a0 Z = true) (w4 : (Jvm.Cond.code y bytes maxL none).before a0 Z = true)
    (hy : y.cls ≠ "java/lang/invoke/MethodHandle" ∧ y.cls ≠ "java/lang/invoke/VarHandle") (M : MetN l Z y bytes maxL none rm [] as' h Q) (eT : T.heap = h) {g : JFrame} (hg : g.method = m) (hsize : g.locals.size = c.maxLocals) {a : Addr} {argsL rest : List Value} (has : (Value.ref a :: argsL).toArray = as')
    (hlen : ∀ sig, parseMethodDescriptor y.desc = some sig → argsL.length = sig.parameters.length) (hstack : g.stack = argsL.reverse ++ .ref a :: rest) {W : Nat} (hW : 2 * g.monitorRoom + (rest.map fun v => v.category).sum ≤ W) (hd : decode c.code g.pc = .ok (.invokespecial index, 3))
    (hf : rm.frames + 1 ≤ R.frames) (hl : W + (maxL + 11) + rm.locals ≤ R.locals) (hc : cells + rm.cells ≤ R.cells) (hs : slots + rm.slots ≤ R.slots) :
    ∃ (T' : State) (h' : Heap) (v : Option Value) (L : List Loc), Stand p l e R s m args below meth c T' (locs ++ L) (cells + rm.cells) (slots + rm.slots) ∧ T'.heap = h' ∧ Q v h' L ∧ ∀ t, Steps p.tables e below (T'.setTop { g with pc := g.pc + 3, stack := v.toList ++ rest }) t → Steps p.tables e below (T.setTop g) t := by
  obtain ⟨v, _, ⟨T', L', k', n'⟩, -, X', ⟨Lc, hQ, l', y', z'⟩, st⟩ := X.specialBack hx hy1 hown (mvT hZ w1) (mvT hZ w2) (mvT hZ w4) hy (backOf (W := W) M hZ w4 w3 hf hl) hg hsize (Steps.refl _) (a := a) hlen hstack hW hd (fun _ _ => ⟨has, eT, hc, hs⟩)
  dsimp only [Pt.U, Pt.locs, Pt.cells, Pt.slots] at X' l' y' z' st hQ
  subst l' y' z'
  exact ⟨T', _, v, Lc, X', rfl, hQ, fun t k => st.trans k⟩
theorem N.virtual (X : Stand p l e R s m args below meth c T locs cells slots) (hx : p.tables.exec = Jvm.exec) (hZ : Z.Warmed39 s.vm) {own C : String} {index : Nat} {y z : MethodName} {bytes : ByteArray} {maxL : Nat} {ret : Option FieldType} {as' : Array Value}
    (hown : s.vm.findClass own = some m.cls) (w1 : (Jvm.Cond.methodLink own index y).before a0 Z = true) (w5 : (Jvm.Cond.declares y).before a0 Z = true) (nf : NotFace s y) (w6 : (Jvm.Cond.selects C y z).before a0 Z = true) (w2 : (Jvm.Cond.instanceMethod z).before a0 Z = true) (w3 : (Jvm.Cond.initialized z.cls).before a0 Z = true) (w4 : (Jvm.Cond.code z bytes maxL ret).before a0 Z = true)
    (hy : y.cls ≠ "java/lang/invoke/MethodHandle" ∧ y.cls ≠ "java/lang/invoke/VarHandle") (M : MetN l Z z bytes maxL ret rm [] as' h Q) (eT : T.heap = h) {a : Addr} (E : Exa Z h a C) {g : JFrame} (hg : g.method = m) (hsize : g.locals.size = c.maxLocals) {argsL rest : List Value} (has : (Value.ref a :: argsL).toArray = as')
    (hlen : ∀ sig, parseMethodDescriptor y.desc = some sig → argsL.length = sig.parameters.length) (hstack : g.stack = argsL.reverse ++ .ref a :: rest) {W : Nat} (hW : 2 * g.monitorRoom + (rest.map fun v => v.category).sum ≤ W) (hd : decode c.code g.pc = .ok (.invokevirtual index, 3))
    (hf : rm.frames + 1 ≤ R.frames) (hl : W + (maxL + 11) + rm.locals ≤ R.locals) (hc : cells + rm.cells ≤ R.cells) (hs : slots + rm.slots ≤ R.slots) :
    ∃ (T' : State) (h' : Heap) (v : Option Value) (L : List Loc), Stand p l e R s m args below meth c T' (locs ++ L) (cells + rm.cells) (slots + rm.slots) ∧ T'.heap = h' ∧ Q v h' L ∧ ∀ t, Steps p.tables e below (T'.setTop { g with pc := g.pc + 3, stack := v.toList ++ rest }) t → Steps p.tables e below (T.setTop g) t := by
  obtain ⟨cq, kq, qa, qb, qc⟩ := isOf hZ eT E
  obtain ⟨v, _, ⟨T', L', k', n'⟩, -, X', ⟨Lc, hQ, l', y', z'⟩, st⟩ := X.virtualBack hx (y := y) (z := z) hown (mvT hZ w1) (mvT hZ w5) nf (mvT hZ w6) (mvT hZ w2) hy (backOf (W := W) M hZ w4 w3 hf hl) qa qc hg hsize (Steps.refl _) (argsL := argsL) hlen hstack hW hd (fun _ _ => ⟨has, eT, hc, hs⟩)
  dsimp only [Pt.U, Pt.locs, Pt.cells, Pt.slots] at X' l' y' z' st hQ
  subst l' y' z'
  exact ⟨T', _, v, Lc, X', rfl, hQ, fun t k => st.trans k⟩
theorem own_eqi {a b : Int32} (q : a = b) : (some (Value.int b) : Option Value) = some (Value.int a) := by rw [q]
theorem own_le {n0 : Nat} (X : Old Z n0 h) : n0 ≤ h.size := X.1 ▸ X.2.1
end Own
theorem own_rem (x : Int32) : (x &&& (2147483647 : Int32)) % (6 : Int32) = (0 : Int32) ∨ (x &&& (2147483647 : Int32)) % (6 : Int32) = (1 : Int32) ∨ (x &&& (2147483647 : Int32)) % (6 : Int32) = (2 : Int32) ∨ (x &&& (2147483647 : Int32)) % (6 : Int32) = (3 : Int32) ∨ (x &&& (2147483647 : Int32)) % (6 : Int32) = (4 : Int32) ∨ (x &&& (2147483647 : Int32)) % (6 : Int32) = (5 : Int32) := by
  have h0 := (c_and x (2147483647 : Int32) (by decide)).1
  have h1 := (c_irem (x &&& (2147483647 : Int32)) (6 : Int32) 6 (by decide)).1 h0
  have h2 : ((x &&& (2147483647 : Int32)) % (6 : Int32)).toInt = 0 ∨ ((x &&& (2147483647 : Int32)) % (6 : Int32)).toInt = 1 ∨ ((x &&& (2147483647 : Int32)) % (6 : Int32)).toInt = 2 ∨ ((x &&& (2147483647 : Int32)) % (6 : Int32)).toInt = 3 ∨ ((x &&& (2147483647 : Int32)) % (6 : Int32)).toInt = 4 ∨ ((x &&& (2147483647 : Int32)) % (6 : Int32)).toInt = 5 := by omega
  rcases h2 with h | h | h | h | h | h
  · exact Or.inl (Int32.toInt_inj.mp (h.trans (by decide)))
  · exact Or.inr (Or.inl (Int32.toInt_inj.mp (h.trans (by decide))))
  · exact Or.inr (Or.inr (Or.inl (Int32.toInt_inj.mp (h.trans (by decide)))))
  · exact Or.inr (Or.inr (Or.inr (Or.inl (Int32.toInt_inj.mp (h.trans (by decide))))))
  · exact Or.inr (Or.inr (Or.inr (Or.inr (Or.inl (Int32.toInt_inj.mp (h.trans (by decide)))))))
  · exact Or.inr (Or.inr (Or.inr (Or.inr (Or.inr (Int32.toInt_inj.mp (h.trans (by decide)))))))
theorem pn_1 : plainName "com/example/usher/usher/lifecycle/ExecutionStateIsTerminalPinLaw" = true := by first | (simp [plainName, overriddenIn]; done) | decide +kernel
theorem d1_0 : decode method_3_code 0 = .ok (.iload_n 0, 1) := by decide +kernel
theorem d1_1 : decode method_3_code 1 = .ok (.ifCond .ne 7, 3) := by decide +kernel
theorem d1_4 : decode method_3_code 4 = .ok (.getstatic 24, 3) := by decide +kernel
theorem d1_7 : decode method_3_code 7 = .ok (.areturn, 1) := by decide +kernel
theorem pn_2 : plainName "com/example/usher/usher/lifecycle/ExecutionStateIsTerminalPinLaw" = true := by first | (simp [plainName, overriddenIn]; done) | decide +kernel
theorem d2_0 : decode method_4_code 0 = .ok (.iload_n 0, 1) := by decide +kernel
theorem d2_1 : decode method_4_code 1 = .ok (.iconst 3, 1) := by decide +kernel
theorem d2_2 : decode method_4_code 2 = .ok (.if_icmp .ne 5, 3) := by decide +kernel
theorem d2_7 : decode method_4_code 7 = .ok (.iload_n 0, 1) := by decide +kernel
theorem d2_8 : decode method_4_code 8 = .ok (.iconst 4, 1) := by decide +kernel
theorem d2_9 : decode method_4_code 9 = .ok (.if_icmp .ne 5, 3) := by decide +kernel
theorem d2_14 : decode method_4_code 14 = .ok (.iload_n 0, 1) := by decide +kernel
theorem d2_15 : decode method_4_code 15 = .ok (.iconst 5, 1) := by decide +kernel
theorem d2_16 : decode method_4_code 16 = .ok (.if_icmp .ne 5, 3) := by decide +kernel
theorem d2_21 : decode method_4_code 21 = .ok (.iconst 0, 1) := by decide +kernel
theorem d2_22 : decode method_4_code 22 = .ok (.ireturn, 1) := by decide +kernel
theorem d1_8 : decode method_3_code 8 = .ok (.iload_n 0, 1) := by decide +kernel
theorem d1_9 : decode method_3_code 9 = .ok (.iconst 1, 1) := by decide +kernel
theorem d1_10 : decode method_3_code 10 = .ok (.if_icmp .ne 7, 3) := by decide +kernel
theorem d1_13 : decode method_3_code 13 = .ok (.getstatic 28, 3) := by decide +kernel
theorem d1_16 : decode method_3_code 16 = .ok (.areturn, 1) := by decide +kernel
theorem d1_17 : decode method_3_code 17 = .ok (.iload_n 0, 1) := by decide +kernel
theorem d1_18 : decode method_3_code 18 = .ok (.iconst 2, 1) := by decide +kernel
theorem d1_19 : decode method_3_code 19 = .ok (.if_icmp .ne 7, 3) := by decide +kernel
theorem d1_22 : decode method_3_code 22 = .ok (.getstatic 31, 3) := by decide +kernel
theorem d1_25 : decode method_3_code 25 = .ok (.areturn, 1) := by decide +kernel
theorem d1_26 : decode method_3_code 26 = .ok (.iload_n 0, 1) := by decide +kernel
theorem d1_27 : decode method_3_code 27 = .ok (.iconst 3, 1) := by decide +kernel
theorem d1_28 : decode method_3_code 28 = .ok (.if_icmp .ne 7, 3) := by decide +kernel
theorem d1_31 : decode method_3_code 31 = .ok (.getstatic 34, 3) := by decide +kernel
theorem d1_34 : decode method_3_code 34 = .ok (.areturn, 1) := by decide +kernel
theorem d2_5 : decode method_4_code 5 = .ok (.iconst 1, 1) := by decide +kernel
theorem d2_6 : decode method_4_code 6 = .ok (.ireturn, 1) := by decide +kernel
theorem d1_35 : decode method_3_code 35 = .ok (.iload_n 0, 1) := by decide +kernel
theorem d1_36 : decode method_3_code 36 = .ok (.iconst 4, 1) := by decide +kernel
theorem d1_37 : decode method_3_code 37 = .ok (.if_icmp .ne 7, 3) := by decide +kernel
theorem d1_40 : decode method_3_code 40 = .ok (.getstatic 37, 3) := by decide +kernel
theorem d1_43 : decode method_3_code 43 = .ok (.areturn, 1) := by decide +kernel
theorem d2_12 : decode method_4_code 12 = .ok (.iconst 1, 1) := by decide +kernel
theorem d2_13 : decode method_4_code 13 = .ok (.ireturn, 1) := by decide +kernel
theorem d1_44 : decode method_3_code 44 = .ok (.getstatic 40, 3) := by decide +kernel
theorem d1_47 : decode method_3_code 47 = .ok (.areturn, 1) := by decide +kernel
theorem d2_19 : decode method_4_code 19 = .ok (.iconst 1, 1) := by decide +kernel
theorem d2_20 : decode method_4_code 20 = .ok (.ireturn, 1) := by decide +kernel
theorem pn_3 : plainName "com/example/usher/usher/lifecycle/ExecutionState" = true := by first | (simp [plainName, overriddenIn]; done) | decide +kernel
theorem d3_0 : decode prog_34_method_4_code 0 = .ok (.aload_n 0, 1) := by decide +kernel
theorem d3_1 : decode prog_34_method_4_code 1 = .ok (.getfield 41, 3) := by decide +kernel
theorem d3_4 : decode prog_34_method_4_code 4 = .ok (.ifnull 7, 3) := by decide +kernel
theorem d3_11 : decode prog_34_method_4_code 11 = .ok (.iconst 0, 1) := by decide +kernel
theorem d3_12 : decode prog_34_method_4_code 12 = .ok (.ireturn, 1) := by decide +kernel
theorem d3_7 : decode prog_34_method_4_code 7 = .ok (.iconst 1, 1) := by decide +kernel
theorem d3_8 : decode prog_34_method_4_code 8 = .ok (.goto 4, 3) := by decide +kernel
theorem pn_0 : plainName "com/example/usher/usher/lifecycle/ExecutionStateIsTerminalPinLaw" = true := by first | (simp [plainName, overriddenIn]; done) | decide +kernel
theorem pd__I_Lcom_example_usher_usher_lifecycle_ExecutionState_ : parseMethodDescriptor "(I)Lcom/example/usher/usher/lifecycle/ExecutionState;" = some ⟨[.int], some (.object "com/example/usher/usher/lifecycle/ExecutionState")⟩ := by decide +kernel
theorem pd__I_Z : parseMethodDescriptor "(I)Z" = some ⟨[.int], some .boolean⟩ := by decide +kernel
theorem pd___Z : parseMethodDescriptor "()Z" = some ⟨[], some .boolean⟩ := by decide +kernel
abbrev R_pick0 : Room := ⟨0, 0, 0, 0⟩
set_option maxRecDepth 65536 in
set_option maxHeartbeats 40000000 in
theorem pick0 (l : Launch) (Z : State) (a0 : Array Value) (hw : ∀ d ∈ tables_1, d.before a0 Z = true) (w_PENDING : Addr) (h0 : Heap) (n0 : Nat) (O0 : Old Z n0 h0) (S_PENDING : Sta Z Z.heap "com/example/usher/usher/lifecycle/ExecutionState" "PENDING" "Lcom/example/usher/usher/lifecycle/ExecutionState;" (.ref w_PENDING)) :
    MetN l Z (⟨"com/example/usher/usher/lifecycle/ExecutionStateIsTerminalPinLaw", "pick", "(I)Lcom/example/usher/usher/lifecycle/ExecutionState;"⟩ : MethodName) method_3_code 1 (some (.object "com/example/usher/usher/lifecycle/ExecutionState")) R_pick0 [] #[(.int (0 : Int32))] h0 (fun v h L => v = some (.ref w_PENDING) ∧ Fr n0 L ∧ h = h0) := by
  refine MetN.walk (plainFor_of_name pn_1) ?_
  intro p e s m below meth c s₁ hx hZ hby hml hown hnm hret hlk X0 e0
  have N0 := Fr.nil n0
  refine Win.to s₁ (mkF m 0 #[.val (.int (0 : Int32))] []) (fun _ k => castTop (by first | (simp [entryFrame, mkF, argsToLocals, Value.category]; done) | rfl) k) ?_
  refine Win.to s₁ (mkF m 1 #[.val (.int (0 : Int32))] [(.int (0 : Int32))]) (fun _ k => XS.iloadN X0.here hx rfl (hb hby d1_0) rfl k) ?_
  refine Win.to s₁ (mkF m 4 #[.val (.int (0 : Int32))] []) (fun _ k => XS.ifNo X0.here hx rfl (hb hby d1_1) rfl ((if0 _ _).trans (teq (show (0 : Int32) = (0 : Int32) from by decide)).2) k) ?_
  obtain ⟨T1, X1, e1, st1⟩ := getS2 X0 hx hZ hown (host := "") (Or.inl (hw _ (List.mem_of_getElem? (i := 5) rfl))) Via.refl e0 (Sta.ext O0.2 S_PENDING) (g := (mkF m 4 #[.val (.int (0 : Int32))] [])) rfl (hb hby d1_4)
  refine Win.to T1 (mkF m 7 #[.val (.int (0 : Int32))] [(.ref w_PENDING)]) (fun _ k => st1 _ k) ?_
  exact Win.retA X1 hx hlk hret rfl rfl (hb hby d1_7) (by decide) (by decide) (by (try rw [e1]); exact ⟨rfl, N0, rfl⟩)
abbrev R_exp0 : Room := ⟨0, 0, 0, 0⟩
set_option maxRecDepth 65536 in
set_option maxHeartbeats 40000000 in
theorem exp0 (l : Launch) (Z : State) (a0 : Array Value) (hw : ∀ d ∈ tables_1, d.before a0 Z = true) (h0 : Heap) (n0 : Nat) (O0 : Old Z n0 h0)  :
    MetN l Z (⟨"com/example/usher/usher/lifecycle/ExecutionStateIsTerminalPinLaw", "expectedTerminal", "(I)Z"⟩ : MethodName) method_4_code 1 (some .boolean) R_exp0 [] #[(.int (0 : Int32))] h0 (fun v h L => v = some (.int (0 : Int32)) ∧ Fr n0 L ∧ h = h0) := by
  refine MetN.walk (plainFor_of_name pn_2) ?_
  intro p e s m below meth c s₁ hx hZ hby hml hown hnm hret hlk X0 e0
  have N0 := Fr.nil n0
  refine Win.to s₁ (mkF m 0 #[.val (.int (0 : Int32))] []) (fun _ k => castTop (by first | (simp [entryFrame, mkF, argsToLocals, Value.category]; done) | rfl) k) ?_
  refine Win.to s₁ (mkF m 1 #[.val (.int (0 : Int32))] [(.int (0 : Int32))]) (fun _ k => XS.iloadN X0.here hx rfl (hb hby d2_0) rfl k) ?_
  refine Win.to s₁ (mkF m 2 #[.val (.int (0 : Int32))] [(.int (3 : Int32)), (.int (0 : Int32))]) (fun _ k => XS.iconst X0.here hx rfl (hb hby d2_1) k) ?_
  refine Win.to s₁ (mkF m 7 #[.val (.int (0 : Int32))] []) (fun _ k => XS.icmpYes X0.here hx rfl (pc0 := 2) (pc' := 7) rfl (hb hby d2_2) rfl (feq (show ¬ ((0 : Int32) = (3 : Int32)) from by decide)).2 (by decide) (by decide) k) ?_
  refine Win.to s₁ (mkF m 8 #[.val (.int (0 : Int32))] [(.int (0 : Int32))]) (fun _ k => XS.iloadN X0.here hx rfl (hb hby d2_7) rfl k) ?_
  refine Win.to s₁ (mkF m 9 #[.val (.int (0 : Int32))] [(.int (4 : Int32)), (.int (0 : Int32))]) (fun _ k => XS.iconst X0.here hx rfl (hb hby d2_8) k) ?_
  refine Win.to s₁ (mkF m 14 #[.val (.int (0 : Int32))] []) (fun _ k => XS.icmpYes X0.here hx rfl (pc0 := 9) (pc' := 14) rfl (hb hby d2_9) rfl (feq (show ¬ ((0 : Int32) = (4 : Int32)) from by decide)).2 (by decide) (by decide) k) ?_
  refine Win.to s₁ (mkF m 15 #[.val (.int (0 : Int32))] [(.int (0 : Int32))]) (fun _ k => XS.iloadN X0.here hx rfl (hb hby d2_14) rfl k) ?_
  refine Win.to s₁ (mkF m 16 #[.val (.int (0 : Int32))] [(.int (5 : Int32)), (.int (0 : Int32))]) (fun _ k => XS.iconst X0.here hx rfl (hb hby d2_15) k) ?_
  refine Win.to s₁ (mkF m 21 #[.val (.int (0 : Int32))] []) (fun _ k => XS.icmpYes X0.here hx rfl (pc0 := 16) (pc' := 21) rfl (hb hby d2_16) rfl (feq (show ¬ ((0 : Int32) = (5 : Int32)) from by decide)).2 (by decide) (by decide) k) ?_
  refine Win.to s₁ (mkF m 22 #[.val (.int (0 : Int32))] [(.int (0 : Int32))]) (fun _ k => XS.iconst X0.here hx rfl (hb hby d2_21) k) ?_
  exact Win.retN X0 hx hlk (t := .boolean) hret (by simp) rfl (hb hby d2_22) (by decide) (by decide) (by (try rw [e0]); exact ⟨rfl, N0, rfl⟩)
abbrev R_pick1 : Room := ⟨0, 0, 0, 0⟩
set_option maxRecDepth 65536 in
set_option maxHeartbeats 40000000 in
theorem pick1 (l : Launch) (Z : State) (a0 : Array Value) (hw : ∀ d ∈ tables_1, d.before a0 Z = true) (w_RUNNING : Addr) (h0 : Heap) (n0 : Nat) (O0 : Old Z n0 h0) (S_RUNNING : Sta Z Z.heap "com/example/usher/usher/lifecycle/ExecutionState" "RUNNING" "Lcom/example/usher/usher/lifecycle/ExecutionState;" (.ref w_RUNNING)) :
    MetN l Z (⟨"com/example/usher/usher/lifecycle/ExecutionStateIsTerminalPinLaw", "pick", "(I)Lcom/example/usher/usher/lifecycle/ExecutionState;"⟩ : MethodName) method_3_code 1 (some (.object "com/example/usher/usher/lifecycle/ExecutionState")) R_pick1 [] #[(.int (1 : Int32))] h0 (fun v h L => v = some (.ref w_RUNNING) ∧ Fr n0 L ∧ h = h0) := by
  refine MetN.walk (plainFor_of_name pn_1) ?_
  intro p e s m below meth c s₁ hx hZ hby hml hown hnm hret hlk X0 e0
  have N0 := Fr.nil n0
  refine Win.to s₁ (mkF m 0 #[.val (.int (1 : Int32))] []) (fun _ k => castTop (by first | (simp [entryFrame, mkF, argsToLocals, Value.category]; done) | rfl) k) ?_
  refine Win.to s₁ (mkF m 1 #[.val (.int (1 : Int32))] [(.int (1 : Int32))]) (fun _ k => XS.iloadN X0.here hx rfl (hb hby d1_0) rfl k) ?_
  refine Win.to s₁ (mkF m 8 #[.val (.int (1 : Int32))] []) (fun _ k => XS.ifYes X0.here hx rfl (pc0 := 1) (pc' := 8) rfl (hb hby d1_1) rfl ((if0 _ _).trans (feq (show ¬ ((1 : Int32) = (0 : Int32)) from by decide)).2) (by decide) (by decide) k) ?_
  refine Win.to s₁ (mkF m 9 #[.val (.int (1 : Int32))] [(.int (1 : Int32))]) (fun _ k => XS.iloadN X0.here hx rfl (hb hby d1_8) rfl k) ?_
  refine Win.to s₁ (mkF m 10 #[.val (.int (1 : Int32))] [(.int (1 : Int32)), (.int (1 : Int32))]) (fun _ k => XS.iconst X0.here hx rfl (hb hby d1_9) k) ?_
  refine Win.to s₁ (mkF m 13 #[.val (.int (1 : Int32))] []) (fun _ k => XS.icmpNo X0.here hx rfl (hb hby d1_10) rfl (teq (show (1 : Int32) = (1 : Int32) from by decide)).2 k) ?_
  obtain ⟨T2, X2, e2, st2⟩ := getS2 X0 hx hZ hown (host := "") (Or.inl (hw _ (List.mem_of_getElem? (i := 22) rfl))) Via.refl e0 (Sta.ext O0.2 S_RUNNING) (g := (mkF m 13 #[.val (.int (1 : Int32))] [])) rfl (hb hby d1_13)
  refine Win.to T2 (mkF m 16 #[.val (.int (1 : Int32))] [(.ref w_RUNNING)]) (fun _ k => st2 _ k) ?_
  exact Win.retA X2 hx hlk hret rfl rfl (hb hby d1_16) (by decide) (by decide) (by (try rw [e2]); exact ⟨rfl, N0, rfl⟩)
abbrev R_exp1 : Room := ⟨0, 0, 0, 0⟩
set_option maxRecDepth 65536 in
set_option maxHeartbeats 40000000 in
theorem exp1 (l : Launch) (Z : State) (a0 : Array Value) (hw : ∀ d ∈ tables_1, d.before a0 Z = true) (h0 : Heap) (n0 : Nat) (O0 : Old Z n0 h0)  :
    MetN l Z (⟨"com/example/usher/usher/lifecycle/ExecutionStateIsTerminalPinLaw", "expectedTerminal", "(I)Z"⟩ : MethodName) method_4_code 1 (some .boolean) R_exp1 [] #[(.int (1 : Int32))] h0 (fun v h L => v = some (.int (0 : Int32)) ∧ Fr n0 L ∧ h = h0) := by
  refine MetN.walk (plainFor_of_name pn_2) ?_
  intro p e s m below meth c s₁ hx hZ hby hml hown hnm hret hlk X0 e0
  have N0 := Fr.nil n0
  refine Win.to s₁ (mkF m 0 #[.val (.int (1 : Int32))] []) (fun _ k => castTop (by first | (simp [entryFrame, mkF, argsToLocals, Value.category]; done) | rfl) k) ?_
  refine Win.to s₁ (mkF m 1 #[.val (.int (1 : Int32))] [(.int (1 : Int32))]) (fun _ k => XS.iloadN X0.here hx rfl (hb hby d2_0) rfl k) ?_
  refine Win.to s₁ (mkF m 2 #[.val (.int (1 : Int32))] [(.int (3 : Int32)), (.int (1 : Int32))]) (fun _ k => XS.iconst X0.here hx rfl (hb hby d2_1) k) ?_
  refine Win.to s₁ (mkF m 7 #[.val (.int (1 : Int32))] []) (fun _ k => XS.icmpYes X0.here hx rfl (pc0 := 2) (pc' := 7) rfl (hb hby d2_2) rfl (feq (show ¬ ((1 : Int32) = (3 : Int32)) from by decide)).2 (by decide) (by decide) k) ?_
  refine Win.to s₁ (mkF m 8 #[.val (.int (1 : Int32))] [(.int (1 : Int32))]) (fun _ k => XS.iloadN X0.here hx rfl (hb hby d2_7) rfl k) ?_
  refine Win.to s₁ (mkF m 9 #[.val (.int (1 : Int32))] [(.int (4 : Int32)), (.int (1 : Int32))]) (fun _ k => XS.iconst X0.here hx rfl (hb hby d2_8) k) ?_
  refine Win.to s₁ (mkF m 14 #[.val (.int (1 : Int32))] []) (fun _ k => XS.icmpYes X0.here hx rfl (pc0 := 9) (pc' := 14) rfl (hb hby d2_9) rfl (feq (show ¬ ((1 : Int32) = (4 : Int32)) from by decide)).2 (by decide) (by decide) k) ?_
  refine Win.to s₁ (mkF m 15 #[.val (.int (1 : Int32))] [(.int (1 : Int32))]) (fun _ k => XS.iloadN X0.here hx rfl (hb hby d2_14) rfl k) ?_
  refine Win.to s₁ (mkF m 16 #[.val (.int (1 : Int32))] [(.int (5 : Int32)), (.int (1 : Int32))]) (fun _ k => XS.iconst X0.here hx rfl (hb hby d2_15) k) ?_
  refine Win.to s₁ (mkF m 21 #[.val (.int (1 : Int32))] []) (fun _ k => XS.icmpYes X0.here hx rfl (pc0 := 16) (pc' := 21) rfl (hb hby d2_16) rfl (feq (show ¬ ((1 : Int32) = (5 : Int32)) from by decide)).2 (by decide) (by decide) k) ?_
  refine Win.to s₁ (mkF m 22 #[.val (.int (1 : Int32))] [(.int (0 : Int32))]) (fun _ k => XS.iconst X0.here hx rfl (hb hby d2_21) k) ?_
  exact Win.retN X0 hx hlk (t := .boolean) hret (by simp) rfl (hb hby d2_22) (by decide) (by decide) (by (try rw [e0]); exact ⟨rfl, N0, rfl⟩)
abbrev R_pick2 : Room := ⟨0, 0, 0, 0⟩
set_option maxRecDepth 65536 in
set_option maxHeartbeats 40000000 in
theorem pick2 (l : Launch) (Z : State) (a0 : Array Value) (hw : ∀ d ∈ tables_1, d.before a0 Z = true) (w_WAITING : Addr) (h0 : Heap) (n0 : Nat) (O0 : Old Z n0 h0) (S_WAITING : Sta Z Z.heap "com/example/usher/usher/lifecycle/ExecutionState" "WAITING" "Lcom/example/usher/usher/lifecycle/ExecutionState;" (.ref w_WAITING)) :
    MetN l Z (⟨"com/example/usher/usher/lifecycle/ExecutionStateIsTerminalPinLaw", "pick", "(I)Lcom/example/usher/usher/lifecycle/ExecutionState;"⟩ : MethodName) method_3_code 1 (some (.object "com/example/usher/usher/lifecycle/ExecutionState")) R_pick2 [] #[(.int (2 : Int32))] h0 (fun v h L => v = some (.ref w_WAITING) ∧ Fr n0 L ∧ h = h0) := by
  refine MetN.walk (plainFor_of_name pn_1) ?_
  intro p e s m below meth c s₁ hx hZ hby hml hown hnm hret hlk X0 e0
  have N0 := Fr.nil n0
  refine Win.to s₁ (mkF m 0 #[.val (.int (2 : Int32))] []) (fun _ k => castTop (by first | (simp [entryFrame, mkF, argsToLocals, Value.category]; done) | rfl) k) ?_
  refine Win.to s₁ (mkF m 1 #[.val (.int (2 : Int32))] [(.int (2 : Int32))]) (fun _ k => XS.iloadN X0.here hx rfl (hb hby d1_0) rfl k) ?_
  refine Win.to s₁ (mkF m 8 #[.val (.int (2 : Int32))] []) (fun _ k => XS.ifYes X0.here hx rfl (pc0 := 1) (pc' := 8) rfl (hb hby d1_1) rfl ((if0 _ _).trans (feq (show ¬ ((2 : Int32) = (0 : Int32)) from by decide)).2) (by decide) (by decide) k) ?_
  refine Win.to s₁ (mkF m 9 #[.val (.int (2 : Int32))] [(.int (2 : Int32))]) (fun _ k => XS.iloadN X0.here hx rfl (hb hby d1_8) rfl k) ?_
  refine Win.to s₁ (mkF m 10 #[.val (.int (2 : Int32))] [(.int (1 : Int32)), (.int (2 : Int32))]) (fun _ k => XS.iconst X0.here hx rfl (hb hby d1_9) k) ?_
  refine Win.to s₁ (mkF m 17 #[.val (.int (2 : Int32))] []) (fun _ k => XS.icmpYes X0.here hx rfl (pc0 := 10) (pc' := 17) rfl (hb hby d1_10) rfl (feq (show ¬ ((2 : Int32) = (1 : Int32)) from by decide)).2 (by decide) (by decide) k) ?_
  refine Win.to s₁ (mkF m 18 #[.val (.int (2 : Int32))] [(.int (2 : Int32))]) (fun _ k => XS.iloadN X0.here hx rfl (hb hby d1_17) rfl k) ?_
  refine Win.to s₁ (mkF m 19 #[.val (.int (2 : Int32))] [(.int (2 : Int32)), (.int (2 : Int32))]) (fun _ k => XS.iconst X0.here hx rfl (hb hby d1_18) k) ?_
  refine Win.to s₁ (mkF m 22 #[.val (.int (2 : Int32))] []) (fun _ k => XS.icmpNo X0.here hx rfl (hb hby d1_19) rfl (teq (show (2 : Int32) = (2 : Int32) from by decide)).2 k) ?_
  obtain ⟨T3, X3, e3, st3⟩ := getS2 X0 hx hZ hown (host := "") (Or.inl (hw _ (List.mem_of_getElem? (i := 20) rfl))) Via.refl e0 (Sta.ext O0.2 S_WAITING) (g := (mkF m 22 #[.val (.int (2 : Int32))] [])) rfl (hb hby d1_22)
  refine Win.to T3 (mkF m 25 #[.val (.int (2 : Int32))] [(.ref w_WAITING)]) (fun _ k => st3 _ k) ?_
  exact Win.retA X3 hx hlk hret rfl rfl (hb hby d1_25) (by decide) (by decide) (by (try rw [e3]); exact ⟨rfl, N0, rfl⟩)
abbrev R_exp2 : Room := ⟨0, 0, 0, 0⟩
set_option maxRecDepth 65536 in
set_option maxHeartbeats 40000000 in
theorem exp2 (l : Launch) (Z : State) (a0 : Array Value) (hw : ∀ d ∈ tables_1, d.before a0 Z = true) (h0 : Heap) (n0 : Nat) (O0 : Old Z n0 h0)  :
    MetN l Z (⟨"com/example/usher/usher/lifecycle/ExecutionStateIsTerminalPinLaw", "expectedTerminal", "(I)Z"⟩ : MethodName) method_4_code 1 (some .boolean) R_exp2 [] #[(.int (2 : Int32))] h0 (fun v h L => v = some (.int (0 : Int32)) ∧ Fr n0 L ∧ h = h0) := by
  refine MetN.walk (plainFor_of_name pn_2) ?_
  intro p e s m below meth c s₁ hx hZ hby hml hown hnm hret hlk X0 e0
  have N0 := Fr.nil n0
  refine Win.to s₁ (mkF m 0 #[.val (.int (2 : Int32))] []) (fun _ k => castTop (by first | (simp [entryFrame, mkF, argsToLocals, Value.category]; done) | rfl) k) ?_
  refine Win.to s₁ (mkF m 1 #[.val (.int (2 : Int32))] [(.int (2 : Int32))]) (fun _ k => XS.iloadN X0.here hx rfl (hb hby d2_0) rfl k) ?_
  refine Win.to s₁ (mkF m 2 #[.val (.int (2 : Int32))] [(.int (3 : Int32)), (.int (2 : Int32))]) (fun _ k => XS.iconst X0.here hx rfl (hb hby d2_1) k) ?_
  refine Win.to s₁ (mkF m 7 #[.val (.int (2 : Int32))] []) (fun _ k => XS.icmpYes X0.here hx rfl (pc0 := 2) (pc' := 7) rfl (hb hby d2_2) rfl (feq (show ¬ ((2 : Int32) = (3 : Int32)) from by decide)).2 (by decide) (by decide) k) ?_
  refine Win.to s₁ (mkF m 8 #[.val (.int (2 : Int32))] [(.int (2 : Int32))]) (fun _ k => XS.iloadN X0.here hx rfl (hb hby d2_7) rfl k) ?_
  refine Win.to s₁ (mkF m 9 #[.val (.int (2 : Int32))] [(.int (4 : Int32)), (.int (2 : Int32))]) (fun _ k => XS.iconst X0.here hx rfl (hb hby d2_8) k) ?_
  refine Win.to s₁ (mkF m 14 #[.val (.int (2 : Int32))] []) (fun _ k => XS.icmpYes X0.here hx rfl (pc0 := 9) (pc' := 14) rfl (hb hby d2_9) rfl (feq (show ¬ ((2 : Int32) = (4 : Int32)) from by decide)).2 (by decide) (by decide) k) ?_
  refine Win.to s₁ (mkF m 15 #[.val (.int (2 : Int32))] [(.int (2 : Int32))]) (fun _ k => XS.iloadN X0.here hx rfl (hb hby d2_14) rfl k) ?_
  refine Win.to s₁ (mkF m 16 #[.val (.int (2 : Int32))] [(.int (5 : Int32)), (.int (2 : Int32))]) (fun _ k => XS.iconst X0.here hx rfl (hb hby d2_15) k) ?_
  refine Win.to s₁ (mkF m 21 #[.val (.int (2 : Int32))] []) (fun _ k => XS.icmpYes X0.here hx rfl (pc0 := 16) (pc' := 21) rfl (hb hby d2_16) rfl (feq (show ¬ ((2 : Int32) = (5 : Int32)) from by decide)).2 (by decide) (by decide) k) ?_
  refine Win.to s₁ (mkF m 22 #[.val (.int (2 : Int32))] [(.int (0 : Int32))]) (fun _ k => XS.iconst X0.here hx rfl (hb hby d2_21) k) ?_
  exact Win.retN X0 hx hlk (t := .boolean) hret (by simp) rfl (hb hby d2_22) (by decide) (by decide) (by (try rw [e0]); exact ⟨rfl, N0, rfl⟩)
abbrev R_pick3 : Room := ⟨0, 0, 0, 0⟩
set_option maxRecDepth 65536 in
set_option maxHeartbeats 40000000 in
theorem pick3 (l : Launch) (Z : State) (a0 : Array Value) (hw : ∀ d ∈ tables_1, d.before a0 Z = true) (w_COMPLETED : Addr) (h0 : Heap) (n0 : Nat) (O0 : Old Z n0 h0) (S_COMPLETED : Sta Z Z.heap "com/example/usher/usher/lifecycle/ExecutionState" "COMPLETED" "Lcom/example/usher/usher/lifecycle/ExecutionState;" (.ref w_COMPLETED)) :
    MetN l Z (⟨"com/example/usher/usher/lifecycle/ExecutionStateIsTerminalPinLaw", "pick", "(I)Lcom/example/usher/usher/lifecycle/ExecutionState;"⟩ : MethodName) method_3_code 1 (some (.object "com/example/usher/usher/lifecycle/ExecutionState")) R_pick3 [] #[(.int (3 : Int32))] h0 (fun v h L => v = some (.ref w_COMPLETED) ∧ Fr n0 L ∧ h = h0) := by
  refine MetN.walk (plainFor_of_name pn_1) ?_
  intro p e s m below meth c s₁ hx hZ hby hml hown hnm hret hlk X0 e0
  have N0 := Fr.nil n0
  refine Win.to s₁ (mkF m 0 #[.val (.int (3 : Int32))] []) (fun _ k => castTop (by first | (simp [entryFrame, mkF, argsToLocals, Value.category]; done) | rfl) k) ?_
  refine Win.to s₁ (mkF m 1 #[.val (.int (3 : Int32))] [(.int (3 : Int32))]) (fun _ k => XS.iloadN X0.here hx rfl (hb hby d1_0) rfl k) ?_
  refine Win.to s₁ (mkF m 8 #[.val (.int (3 : Int32))] []) (fun _ k => XS.ifYes X0.here hx rfl (pc0 := 1) (pc' := 8) rfl (hb hby d1_1) rfl ((if0 _ _).trans (feq (show ¬ ((3 : Int32) = (0 : Int32)) from by decide)).2) (by decide) (by decide) k) ?_
  refine Win.to s₁ (mkF m 9 #[.val (.int (3 : Int32))] [(.int (3 : Int32))]) (fun _ k => XS.iloadN X0.here hx rfl (hb hby d1_8) rfl k) ?_
  refine Win.to s₁ (mkF m 10 #[.val (.int (3 : Int32))] [(.int (1 : Int32)), (.int (3 : Int32))]) (fun _ k => XS.iconst X0.here hx rfl (hb hby d1_9) k) ?_
  refine Win.to s₁ (mkF m 17 #[.val (.int (3 : Int32))] []) (fun _ k => XS.icmpYes X0.here hx rfl (pc0 := 10) (pc' := 17) rfl (hb hby d1_10) rfl (feq (show ¬ ((3 : Int32) = (1 : Int32)) from by decide)).2 (by decide) (by decide) k) ?_
  refine Win.to s₁ (mkF m 18 #[.val (.int (3 : Int32))] [(.int (3 : Int32))]) (fun _ k => XS.iloadN X0.here hx rfl (hb hby d1_17) rfl k) ?_
  refine Win.to s₁ (mkF m 19 #[.val (.int (3 : Int32))] [(.int (2 : Int32)), (.int (3 : Int32))]) (fun _ k => XS.iconst X0.here hx rfl (hb hby d1_18) k) ?_
  refine Win.to s₁ (mkF m 26 #[.val (.int (3 : Int32))] []) (fun _ k => XS.icmpYes X0.here hx rfl (pc0 := 19) (pc' := 26) rfl (hb hby d1_19) rfl (feq (show ¬ ((3 : Int32) = (2 : Int32)) from by decide)).2 (by decide) (by decide) k) ?_
  refine Win.to s₁ (mkF m 27 #[.val (.int (3 : Int32))] [(.int (3 : Int32))]) (fun _ k => XS.iloadN X0.here hx rfl (hb hby d1_26) rfl k) ?_
  refine Win.to s₁ (mkF m 28 #[.val (.int (3 : Int32))] [(.int (3 : Int32)), (.int (3 : Int32))]) (fun _ k => XS.iconst X0.here hx rfl (hb hby d1_27) k) ?_
  refine Win.to s₁ (mkF m 31 #[.val (.int (3 : Int32))] []) (fun _ k => XS.icmpNo X0.here hx rfl (hb hby d1_28) rfl (teq (show (3 : Int32) = (3 : Int32) from by decide)).2 k) ?_
  obtain ⟨T4, X4, e4, st4⟩ := getS2 X0 hx hZ hown (host := "") (Or.inl (hw _ (List.mem_of_getElem? (i := 18) rfl))) Via.refl e0 (Sta.ext O0.2 S_COMPLETED) (g := (mkF m 31 #[.val (.int (3 : Int32))] [])) rfl (hb hby d1_31)
  refine Win.to T4 (mkF m 34 #[.val (.int (3 : Int32))] [(.ref w_COMPLETED)]) (fun _ k => st4 _ k) ?_
  exact Win.retA X4 hx hlk hret rfl rfl (hb hby d1_34) (by decide) (by decide) (by (try rw [e4]); exact ⟨rfl, N0, rfl⟩)
abbrev R_exp3 : Room := ⟨0, 0, 0, 0⟩
set_option maxRecDepth 65536 in
set_option maxHeartbeats 40000000 in
theorem exp3 (l : Launch) (Z : State) (a0 : Array Value) (hw : ∀ d ∈ tables_1, d.before a0 Z = true) (h0 : Heap) (n0 : Nat) (O0 : Old Z n0 h0)  :
    MetN l Z (⟨"com/example/usher/usher/lifecycle/ExecutionStateIsTerminalPinLaw", "expectedTerminal", "(I)Z"⟩ : MethodName) method_4_code 1 (some .boolean) R_exp3 [] #[(.int (3 : Int32))] h0 (fun v h L => v = some (.int (1 : Int32)) ∧ Fr n0 L ∧ h = h0) := by
  refine MetN.walk (plainFor_of_name pn_2) ?_
  intro p e s m below meth c s₁ hx hZ hby hml hown hnm hret hlk X0 e0
  have N0 := Fr.nil n0
  refine Win.to s₁ (mkF m 0 #[.val (.int (3 : Int32))] []) (fun _ k => castTop (by first | (simp [entryFrame, mkF, argsToLocals, Value.category]; done) | rfl) k) ?_
  refine Win.to s₁ (mkF m 1 #[.val (.int (3 : Int32))] [(.int (3 : Int32))]) (fun _ k => XS.iloadN X0.here hx rfl (hb hby d2_0) rfl k) ?_
  refine Win.to s₁ (mkF m 2 #[.val (.int (3 : Int32))] [(.int (3 : Int32)), (.int (3 : Int32))]) (fun _ k => XS.iconst X0.here hx rfl (hb hby d2_1) k) ?_
  refine Win.to s₁ (mkF m 5 #[.val (.int (3 : Int32))] []) (fun _ k => XS.icmpNo X0.here hx rfl (hb hby d2_2) rfl (teq (show (3 : Int32) = (3 : Int32) from by decide)).2 k) ?_
  refine Win.to s₁ (mkF m 6 #[.val (.int (3 : Int32))] [(.int (1 : Int32))]) (fun _ k => XS.iconst X0.here hx rfl (hb hby d2_5) k) ?_
  exact Win.retN X0 hx hlk (t := .boolean) hret (by simp) rfl (hb hby d2_6) (by decide) (by decide) (by (try rw [e0]); exact ⟨rfl, N0, rfl⟩)
abbrev R_pick4 : Room := ⟨0, 0, 0, 0⟩
set_option maxRecDepth 65536 in
set_option maxHeartbeats 40000000 in
theorem pick4 (l : Launch) (Z : State) (a0 : Array Value) (hw : ∀ d ∈ tables_1, d.before a0 Z = true) (w_FAILED : Addr) (h0 : Heap) (n0 : Nat) (O0 : Old Z n0 h0) (S_FAILED : Sta Z Z.heap "com/example/usher/usher/lifecycle/ExecutionState" "FAILED" "Lcom/example/usher/usher/lifecycle/ExecutionState;" (.ref w_FAILED)) :
    MetN l Z (⟨"com/example/usher/usher/lifecycle/ExecutionStateIsTerminalPinLaw", "pick", "(I)Lcom/example/usher/usher/lifecycle/ExecutionState;"⟩ : MethodName) method_3_code 1 (some (.object "com/example/usher/usher/lifecycle/ExecutionState")) R_pick4 [] #[(.int (4 : Int32))] h0 (fun v h L => v = some (.ref w_FAILED) ∧ Fr n0 L ∧ h = h0) := by
  refine MetN.walk (plainFor_of_name pn_1) ?_
  intro p e s m below meth c s₁ hx hZ hby hml hown hnm hret hlk X0 e0
  have N0 := Fr.nil n0
  refine Win.to s₁ (mkF m 0 #[.val (.int (4 : Int32))] []) (fun _ k => castTop (by first | (simp [entryFrame, mkF, argsToLocals, Value.category]; done) | rfl) k) ?_
  refine Win.to s₁ (mkF m 1 #[.val (.int (4 : Int32))] [(.int (4 : Int32))]) (fun _ k => XS.iloadN X0.here hx rfl (hb hby d1_0) rfl k) ?_
  refine Win.to s₁ (mkF m 8 #[.val (.int (4 : Int32))] []) (fun _ k => XS.ifYes X0.here hx rfl (pc0 := 1) (pc' := 8) rfl (hb hby d1_1) rfl ((if0 _ _).trans (feq (show ¬ ((4 : Int32) = (0 : Int32)) from by decide)).2) (by decide) (by decide) k) ?_
  refine Win.to s₁ (mkF m 9 #[.val (.int (4 : Int32))] [(.int (4 : Int32))]) (fun _ k => XS.iloadN X0.here hx rfl (hb hby d1_8) rfl k) ?_
  refine Win.to s₁ (mkF m 10 #[.val (.int (4 : Int32))] [(.int (1 : Int32)), (.int (4 : Int32))]) (fun _ k => XS.iconst X0.here hx rfl (hb hby d1_9) k) ?_
  refine Win.to s₁ (mkF m 17 #[.val (.int (4 : Int32))] []) (fun _ k => XS.icmpYes X0.here hx rfl (pc0 := 10) (pc' := 17) rfl (hb hby d1_10) rfl (feq (show ¬ ((4 : Int32) = (1 : Int32)) from by decide)).2 (by decide) (by decide) k) ?_
  refine Win.to s₁ (mkF m 18 #[.val (.int (4 : Int32))] [(.int (4 : Int32))]) (fun _ k => XS.iloadN X0.here hx rfl (hb hby d1_17) rfl k) ?_
  refine Win.to s₁ (mkF m 19 #[.val (.int (4 : Int32))] [(.int (2 : Int32)), (.int (4 : Int32))]) (fun _ k => XS.iconst X0.here hx rfl (hb hby d1_18) k) ?_
  refine Win.to s₁ (mkF m 26 #[.val (.int (4 : Int32))] []) (fun _ k => XS.icmpYes X0.here hx rfl (pc0 := 19) (pc' := 26) rfl (hb hby d1_19) rfl (feq (show ¬ ((4 : Int32) = (2 : Int32)) from by decide)).2 (by decide) (by decide) k) ?_
  refine Win.to s₁ (mkF m 27 #[.val (.int (4 : Int32))] [(.int (4 : Int32))]) (fun _ k => XS.iloadN X0.here hx rfl (hb hby d1_26) rfl k) ?_
  refine Win.to s₁ (mkF m 28 #[.val (.int (4 : Int32))] [(.int (3 : Int32)), (.int (4 : Int32))]) (fun _ k => XS.iconst X0.here hx rfl (hb hby d1_27) k) ?_
  refine Win.to s₁ (mkF m 35 #[.val (.int (4 : Int32))] []) (fun _ k => XS.icmpYes X0.here hx rfl (pc0 := 28) (pc' := 35) rfl (hb hby d1_28) rfl (feq (show ¬ ((4 : Int32) = (3 : Int32)) from by decide)).2 (by decide) (by decide) k) ?_
  refine Win.to s₁ (mkF m 36 #[.val (.int (4 : Int32))] [(.int (4 : Int32))]) (fun _ k => XS.iloadN X0.here hx rfl (hb hby d1_35) rfl k) ?_
  refine Win.to s₁ (mkF m 37 #[.val (.int (4 : Int32))] [(.int (4 : Int32)), (.int (4 : Int32))]) (fun _ k => XS.iconst X0.here hx rfl (hb hby d1_36) k) ?_
  refine Win.to s₁ (mkF m 40 #[.val (.int (4 : Int32))] []) (fun _ k => XS.icmpNo X0.here hx rfl (hb hby d1_37) rfl (teq (show (4 : Int32) = (4 : Int32) from by decide)).2 k) ?_
  obtain ⟨T5, X5, e5, st5⟩ := getS2 X0 hx hZ hown (host := "") (Or.inl (hw _ (List.mem_of_getElem? (i := 26) rfl))) Via.refl e0 (Sta.ext O0.2 S_FAILED) (g := (mkF m 40 #[.val (.int (4 : Int32))] [])) rfl (hb hby d1_40)
  refine Win.to T5 (mkF m 43 #[.val (.int (4 : Int32))] [(.ref w_FAILED)]) (fun _ k => st5 _ k) ?_
  exact Win.retA X5 hx hlk hret rfl rfl (hb hby d1_43) (by decide) (by decide) (by (try rw [e5]); exact ⟨rfl, N0, rfl⟩)
abbrev R_exp4 : Room := ⟨0, 0, 0, 0⟩
set_option maxRecDepth 65536 in
set_option maxHeartbeats 40000000 in
theorem exp4 (l : Launch) (Z : State) (a0 : Array Value) (hw : ∀ d ∈ tables_1, d.before a0 Z = true) (h0 : Heap) (n0 : Nat) (O0 : Old Z n0 h0)  :
    MetN l Z (⟨"com/example/usher/usher/lifecycle/ExecutionStateIsTerminalPinLaw", "expectedTerminal", "(I)Z"⟩ : MethodName) method_4_code 1 (some .boolean) R_exp4 [] #[(.int (4 : Int32))] h0 (fun v h L => v = some (.int (1 : Int32)) ∧ Fr n0 L ∧ h = h0) := by
  refine MetN.walk (plainFor_of_name pn_2) ?_
  intro p e s m below meth c s₁ hx hZ hby hml hown hnm hret hlk X0 e0
  have N0 := Fr.nil n0
  refine Win.to s₁ (mkF m 0 #[.val (.int (4 : Int32))] []) (fun _ k => castTop (by first | (simp [entryFrame, mkF, argsToLocals, Value.category]; done) | rfl) k) ?_
  refine Win.to s₁ (mkF m 1 #[.val (.int (4 : Int32))] [(.int (4 : Int32))]) (fun _ k => XS.iloadN X0.here hx rfl (hb hby d2_0) rfl k) ?_
  refine Win.to s₁ (mkF m 2 #[.val (.int (4 : Int32))] [(.int (3 : Int32)), (.int (4 : Int32))]) (fun _ k => XS.iconst X0.here hx rfl (hb hby d2_1) k) ?_
  refine Win.to s₁ (mkF m 7 #[.val (.int (4 : Int32))] []) (fun _ k => XS.icmpYes X0.here hx rfl (pc0 := 2) (pc' := 7) rfl (hb hby d2_2) rfl (feq (show ¬ ((4 : Int32) = (3 : Int32)) from by decide)).2 (by decide) (by decide) k) ?_
  refine Win.to s₁ (mkF m 8 #[.val (.int (4 : Int32))] [(.int (4 : Int32))]) (fun _ k => XS.iloadN X0.here hx rfl (hb hby d2_7) rfl k) ?_
  refine Win.to s₁ (mkF m 9 #[.val (.int (4 : Int32))] [(.int (4 : Int32)), (.int (4 : Int32))]) (fun _ k => XS.iconst X0.here hx rfl (hb hby d2_8) k) ?_
  refine Win.to s₁ (mkF m 12 #[.val (.int (4 : Int32))] []) (fun _ k => XS.icmpNo X0.here hx rfl (hb hby d2_9) rfl (teq (show (4 : Int32) = (4 : Int32) from by decide)).2 k) ?_
  refine Win.to s₁ (mkF m 13 #[.val (.int (4 : Int32))] [(.int (1 : Int32))]) (fun _ k => XS.iconst X0.here hx rfl (hb hby d2_12) k) ?_
  exact Win.retN X0 hx hlk (t := .boolean) hret (by simp) rfl (hb hby d2_13) (by decide) (by decide) (by (try rw [e0]); exact ⟨rfl, N0, rfl⟩)
abbrev R_pick5 : Room := ⟨0, 0, 0, 0⟩
set_option maxRecDepth 65536 in
set_option maxHeartbeats 40000000 in
theorem pick5 (l : Launch) (Z : State) (a0 : Array Value) (hw : ∀ d ∈ tables_1, d.before a0 Z = true) (w_CANCELLED : Addr) (h0 : Heap) (n0 : Nat) (O0 : Old Z n0 h0) (S_CANCELLED : Sta Z Z.heap "com/example/usher/usher/lifecycle/ExecutionState" "CANCELLED" "Lcom/example/usher/usher/lifecycle/ExecutionState;" (.ref w_CANCELLED)) :
    MetN l Z (⟨"com/example/usher/usher/lifecycle/ExecutionStateIsTerminalPinLaw", "pick", "(I)Lcom/example/usher/usher/lifecycle/ExecutionState;"⟩ : MethodName) method_3_code 1 (some (.object "com/example/usher/usher/lifecycle/ExecutionState")) R_pick5 [] #[(.int (5 : Int32))] h0 (fun v h L => v = some (.ref w_CANCELLED) ∧ Fr n0 L ∧ h = h0) := by
  refine MetN.walk (plainFor_of_name pn_1) ?_
  intro p e s m below meth c s₁ hx hZ hby hml hown hnm hret hlk X0 e0
  have N0 := Fr.nil n0
  refine Win.to s₁ (mkF m 0 #[.val (.int (5 : Int32))] []) (fun _ k => castTop (by first | (simp [entryFrame, mkF, argsToLocals, Value.category]; done) | rfl) k) ?_
  refine Win.to s₁ (mkF m 1 #[.val (.int (5 : Int32))] [(.int (5 : Int32))]) (fun _ k => XS.iloadN X0.here hx rfl (hb hby d1_0) rfl k) ?_
  refine Win.to s₁ (mkF m 8 #[.val (.int (5 : Int32))] []) (fun _ k => XS.ifYes X0.here hx rfl (pc0 := 1) (pc' := 8) rfl (hb hby d1_1) rfl ((if0 _ _).trans (feq (show ¬ ((5 : Int32) = (0 : Int32)) from by decide)).2) (by decide) (by decide) k) ?_
  refine Win.to s₁ (mkF m 9 #[.val (.int (5 : Int32))] [(.int (5 : Int32))]) (fun _ k => XS.iloadN X0.here hx rfl (hb hby d1_8) rfl k) ?_
  refine Win.to s₁ (mkF m 10 #[.val (.int (5 : Int32))] [(.int (1 : Int32)), (.int (5 : Int32))]) (fun _ k => XS.iconst X0.here hx rfl (hb hby d1_9) k) ?_
  refine Win.to s₁ (mkF m 17 #[.val (.int (5 : Int32))] []) (fun _ k => XS.icmpYes X0.here hx rfl (pc0 := 10) (pc' := 17) rfl (hb hby d1_10) rfl (feq (show ¬ ((5 : Int32) = (1 : Int32)) from by decide)).2 (by decide) (by decide) k) ?_
  refine Win.to s₁ (mkF m 18 #[.val (.int (5 : Int32))] [(.int (5 : Int32))]) (fun _ k => XS.iloadN X0.here hx rfl (hb hby d1_17) rfl k) ?_
  refine Win.to s₁ (mkF m 19 #[.val (.int (5 : Int32))] [(.int (2 : Int32)), (.int (5 : Int32))]) (fun _ k => XS.iconst X0.here hx rfl (hb hby d1_18) k) ?_
  refine Win.to s₁ (mkF m 26 #[.val (.int (5 : Int32))] []) (fun _ k => XS.icmpYes X0.here hx rfl (pc0 := 19) (pc' := 26) rfl (hb hby d1_19) rfl (feq (show ¬ ((5 : Int32) = (2 : Int32)) from by decide)).2 (by decide) (by decide) k) ?_
  refine Win.to s₁ (mkF m 27 #[.val (.int (5 : Int32))] [(.int (5 : Int32))]) (fun _ k => XS.iloadN X0.here hx rfl (hb hby d1_26) rfl k) ?_
  refine Win.to s₁ (mkF m 28 #[.val (.int (5 : Int32))] [(.int (3 : Int32)), (.int (5 : Int32))]) (fun _ k => XS.iconst X0.here hx rfl (hb hby d1_27) k) ?_
  refine Win.to s₁ (mkF m 35 #[.val (.int (5 : Int32))] []) (fun _ k => XS.icmpYes X0.here hx rfl (pc0 := 28) (pc' := 35) rfl (hb hby d1_28) rfl (feq (show ¬ ((5 : Int32) = (3 : Int32)) from by decide)).2 (by decide) (by decide) k) ?_
  refine Win.to s₁ (mkF m 36 #[.val (.int (5 : Int32))] [(.int (5 : Int32))]) (fun _ k => XS.iloadN X0.here hx rfl (hb hby d1_35) rfl k) ?_
  refine Win.to s₁ (mkF m 37 #[.val (.int (5 : Int32))] [(.int (4 : Int32)), (.int (5 : Int32))]) (fun _ k => XS.iconst X0.here hx rfl (hb hby d1_36) k) ?_
  refine Win.to s₁ (mkF m 44 #[.val (.int (5 : Int32))] []) (fun _ k => XS.icmpYes X0.here hx rfl (pc0 := 37) (pc' := 44) rfl (hb hby d1_37) rfl (feq (show ¬ ((5 : Int32) = (4 : Int32)) from by decide)).2 (by decide) (by decide) k) ?_
  obtain ⟨T6, X6, e6, st6⟩ := getS2 X0 hx hZ hown (host := "") (Or.inl (hw _ (List.mem_of_getElem? (i := 24) rfl))) Via.refl e0 (Sta.ext O0.2 S_CANCELLED) (g := (mkF m 44 #[.val (.int (5 : Int32))] [])) rfl (hb hby d1_44)
  refine Win.to T6 (mkF m 47 #[.val (.int (5 : Int32))] [(.ref w_CANCELLED)]) (fun _ k => st6 _ k) ?_
  exact Win.retA X6 hx hlk hret rfl rfl (hb hby d1_47) (by decide) (by decide) (by (try rw [e6]); exact ⟨rfl, N0, rfl⟩)
abbrev R_exp5 : Room := ⟨0, 0, 0, 0⟩
set_option maxRecDepth 65536 in
set_option maxHeartbeats 40000000 in
theorem exp5 (l : Launch) (Z : State) (a0 : Array Value) (hw : ∀ d ∈ tables_1, d.before a0 Z = true) (h0 : Heap) (n0 : Nat) (O0 : Old Z n0 h0)  :
    MetN l Z (⟨"com/example/usher/usher/lifecycle/ExecutionStateIsTerminalPinLaw", "expectedTerminal", "(I)Z"⟩ : MethodName) method_4_code 1 (some .boolean) R_exp5 [] #[(.int (5 : Int32))] h0 (fun v h L => v = some (.int (1 : Int32)) ∧ Fr n0 L ∧ h = h0) := by
  refine MetN.walk (plainFor_of_name pn_2) ?_
  intro p e s m below meth c s₁ hx hZ hby hml hown hnm hret hlk X0 e0
  have N0 := Fr.nil n0
  refine Win.to s₁ (mkF m 0 #[.val (.int (5 : Int32))] []) (fun _ k => castTop (by first | (simp [entryFrame, mkF, argsToLocals, Value.category]; done) | rfl) k) ?_
  refine Win.to s₁ (mkF m 1 #[.val (.int (5 : Int32))] [(.int (5 : Int32))]) (fun _ k => XS.iloadN X0.here hx rfl (hb hby d2_0) rfl k) ?_
  refine Win.to s₁ (mkF m 2 #[.val (.int (5 : Int32))] [(.int (3 : Int32)), (.int (5 : Int32))]) (fun _ k => XS.iconst X0.here hx rfl (hb hby d2_1) k) ?_
  refine Win.to s₁ (mkF m 7 #[.val (.int (5 : Int32))] []) (fun _ k => XS.icmpYes X0.here hx rfl (pc0 := 2) (pc' := 7) rfl (hb hby d2_2) rfl (feq (show ¬ ((5 : Int32) = (3 : Int32)) from by decide)).2 (by decide) (by decide) k) ?_
  refine Win.to s₁ (mkF m 8 #[.val (.int (5 : Int32))] [(.int (5 : Int32))]) (fun _ k => XS.iloadN X0.here hx rfl (hb hby d2_7) rfl k) ?_
  refine Win.to s₁ (mkF m 9 #[.val (.int (5 : Int32))] [(.int (4 : Int32)), (.int (5 : Int32))]) (fun _ k => XS.iconst X0.here hx rfl (hb hby d2_8) k) ?_
  refine Win.to s₁ (mkF m 14 #[.val (.int (5 : Int32))] []) (fun _ k => XS.icmpYes X0.here hx rfl (pc0 := 9) (pc' := 14) rfl (hb hby d2_9) rfl (feq (show ¬ ((5 : Int32) = (4 : Int32)) from by decide)).2 (by decide) (by decide) k) ?_
  refine Win.to s₁ (mkF m 15 #[.val (.int (5 : Int32))] [(.int (5 : Int32))]) (fun _ k => XS.iloadN X0.here hx rfl (hb hby d2_14) rfl k) ?_
  refine Win.to s₁ (mkF m 16 #[.val (.int (5 : Int32))] [(.int (5 : Int32)), (.int (5 : Int32))]) (fun _ k => XS.iconst X0.here hx rfl (hb hby d2_15) k) ?_
  refine Win.to s₁ (mkF m 19 #[.val (.int (5 : Int32))] []) (fun _ k => XS.icmpNo X0.here hx rfl (hb hby d2_16) rfl (teq (show (5 : Int32) = (5 : Int32) from by decide)).2 k) ?_
  refine Win.to s₁ (mkF m 20 #[.val (.int (5 : Int32))] [(.int (1 : Int32))]) (fun _ k => XS.iconst X0.here hx rfl (hb hby d2_19) k) ?_
  exact Win.retN X0 hx hlk (t := .boolean) hret (by simp) rfl (hb hby d2_20) (by decide) (by decide) (by (try rw [e0]); exact ⟨rfl, N0, rfl⟩)
abbrev R_isT0 : Room := ⟨0, 0, 0, 0⟩
set_option maxRecDepth 65536 in
set_option maxHeartbeats 40000000 in
theorem isT0 (l : Launch) (Z : State) (a0 : Array Value) (hw : ∀ d ∈ tables_1, d.before a0 Z = true) (a1 : Addr) (h0 : Heap) (n0 : Nat) (O0 : Old Z n0 h0) (F1 : Fld Z h0 a1 "com/example/usher/usher/lifecycle/ExecutionState" "terminalEvent" "Ljava/lang/String;" .null) :
    MetN l Z (⟨"com/example/usher/usher/lifecycle/ExecutionState", "isTerminal", "()Z"⟩ : MethodName) prog_34_method_4_code 1 (some .boolean) R_isT0 [] #[(.ref a1)] h0 (fun v h L => v = some (.int (0 : Int32)) ∧ Fr n0 L ∧ h = h0) := by
  refine MetN.walk (plainFor_of_name pn_3) ?_
  intro p e s m below meth c s₁ hx hZ hby hml hown hnm hret hlk X0 e0
  have N0 := Fr.nil n0
  refine Win.to s₁ (mkF m 0 #[.val (.ref a1)] []) (fun _ k => castTop (by first | (simp [entryFrame, mkF, argsToLocals, Value.category]; done) | rfl) k) ?_
  refine Win.to s₁ (mkF m 1 #[.val (.ref a1)] [(.ref a1)]) (fun _ k => XS.aloadN X0.here hx rfl (hb hby d3_0) rfl rfl k) ?_
  obtain ⟨T7, X7, e7, st7⟩ := getF X0 hx hZ hown (host := "") (Or.inl (hw _ (List.mem_of_getElem? (i := 16) rfl))) Via.refl e0 F1 (g := (mkF m 1 #[.val (.ref a1)] [(.ref a1)])) rfl rfl (hb hby d3_1)
  refine Win.to T7 (mkF m 4 #[.val (.ref a1)] [.null]) (fun _ k => st7 _ k) ?_
  refine Win.to T7 (mkF m 11 #[.val (.ref a1)] []) (fun _ k => XS.ifnullYes X7.here hx rfl (pc0 := 4) (pc' := 11) rfl (hb hby d3_4) rfl (by decide) (by decide) k) ?_
  refine Win.to T7 (mkF m 12 #[.val (.ref a1)] [(.int (0 : Int32))]) (fun _ k => XS.iconst X7.here hx rfl (hb hby d3_11) k) ?_
  exact Win.retN X7 hx hlk (t := .boolean) hret (by simp) rfl (hb hby d3_12) (by decide) (by decide) (by (try rw [e7]); exact ⟨rfl, N0, rfl⟩)
abbrev R_isT1 : Room := ⟨0, 0, 0, 0⟩
set_option maxRecDepth 65536 in
set_option maxHeartbeats 40000000 in
theorem isT1 (l : Launch) (Z : State) (a0 : Array Value) (hw : ∀ d ∈ tables_1, d.before a0 Z = true) (a1 : Addr) (x1 : Addr) (h0 : Heap) (n0 : Nat) (O0 : Old Z n0 h0) (F1 : Fld Z h0 a1 "com/example/usher/usher/lifecycle/ExecutionState" "terminalEvent" "Ljava/lang/String;" (.ref x1)) :
    MetN l Z (⟨"com/example/usher/usher/lifecycle/ExecutionState", "isTerminal", "()Z"⟩ : MethodName) prog_34_method_4_code 1 (some .boolean) R_isT1 [] #[(.ref a1)] h0 (fun v h L => v = some (.int (1 : Int32)) ∧ Fr n0 L ∧ h = h0) := by
  refine MetN.walk (plainFor_of_name pn_3) ?_
  intro p e s m below meth c s₁ hx hZ hby hml hown hnm hret hlk X0 e0
  have N0 := Fr.nil n0
  refine Win.to s₁ (mkF m 0 #[.val (.ref a1)] []) (fun _ k => castTop (by first | (simp [entryFrame, mkF, argsToLocals, Value.category]; done) | rfl) k) ?_
  refine Win.to s₁ (mkF m 1 #[.val (.ref a1)] [(.ref a1)]) (fun _ k => XS.aloadN X0.here hx rfl (hb hby d3_0) rfl rfl k) ?_
  obtain ⟨T8, X8, e8, st8⟩ := getF X0 hx hZ hown (host := "") (Or.inl (hw _ (List.mem_of_getElem? (i := 16) rfl))) Via.refl e0 F1 (g := (mkF m 1 #[.val (.ref a1)] [(.ref a1)])) rfl rfl (hb hby d3_1)
  refine Win.to T8 (mkF m 4 #[.val (.ref a1)] [(.ref x1)]) (fun _ k => st8 _ k) ?_
  refine Win.to T8 (mkF m 7 #[.val (.ref a1)] []) (fun _ k => XS.ifnullNo X8.here hx rfl (hb hby d3_4) rfl k) ?_
  refine Win.to T8 (mkF m 8 #[.val (.ref a1)] [(.int (1 : Int32))]) (fun _ k => XS.iconst X8.here hx rfl (hb hby d3_7) k) ?_
  refine Win.to T8 (mkF m 12 #[.val (.ref a1)] [(.int (1 : Int32))]) (fun _ k => XS.goto X8.here hx rfl (pc0 := 8) (pc' := 12) rfl (hb hby d3_8) (by decide) (by decide) k) ?_
  exact Win.retN X8 hx hlk (t := .boolean) hret (by simp) rfl (hb hby d3_12) (by decide) (by decide) (by (try rw [e8]); exact ⟨rfl, N0, rfl⟩)
set_option maxRecDepth 65536 in
set_option maxHeartbeats 40000000 in
theorem rm0 (l : Launch) (Z : State) (a0 : Array Value) (hw : ∀ d ∈ tables_1, d.before a0 Z = true) (ws : List Jvm.Cond) (p1 : Int32) (w_PENDING : Addr) (w_RUNNING : Addr) (w_WAITING : Addr) (w_COMPLETED : Addr) (w_FAILED : Addr) (w_CANCELLED : Addr) (x_COMPLETED_terminalEvent : Addr) (x_FAILED_terminalEvent : Addr) (x_CANCELLED_terminalEvent : Addr) (h0 : Heap) (n0 : Nat) (O0 : Old Z n0 h0) (S_PENDING : Sta Z Z.heap "com/example/usher/usher/lifecycle/ExecutionState" "PENDING" "Lcom/example/usher/usher/lifecycle/ExecutionState;" (.ref w_PENDING)) (S_RUNNING : Sta Z Z.heap "com/example/usher/usher/lifecycle/ExecutionState" "RUNNING" "Lcom/example/usher/usher/lifecycle/ExecutionState;" (.ref w_RUNNING)) (S_WAITING : Sta Z Z.heap "com/example/usher/usher/lifecycle/ExecutionState" "WAITING" "Lcom/example/usher/usher/lifecycle/ExecutionState;" (.ref w_WAITING)) (S_COMPLETED : Sta Z Z.heap "com/example/usher/usher/lifecycle/ExecutionState" "COMPLETED" "Lcom/example/usher/usher/lifecycle/ExecutionState;" (.ref w_COMPLETED)) (S_FAILED : Sta Z Z.heap "com/example/usher/usher/lifecycle/ExecutionState" "FAILED" "Lcom/example/usher/usher/lifecycle/ExecutionState;" (.ref w_FAILED)) (S_CANCELLED : Sta Z Z.heap "com/example/usher/usher/lifecycle/ExecutionState" "CANCELLED" "Lcom/example/usher/usher/lifecycle/ExecutionState;" (.ref w_CANCELLED)) (E_PENDING : Exa Z Z.heap w_PENDING "com/example/usher/usher/lifecycle/ExecutionState") (E_RUNNING : Exa Z Z.heap w_RUNNING "com/example/usher/usher/lifecycle/ExecutionState") (E_WAITING : Exa Z Z.heap w_WAITING "com/example/usher/usher/lifecycle/ExecutionState") (E_COMPLETED : Exa Z Z.heap w_COMPLETED "com/example/usher/usher/lifecycle/ExecutionState") (E_FAILED : Exa Z Z.heap w_FAILED "com/example/usher/usher/lifecycle/ExecutionState") (E_CANCELLED : Exa Z Z.heap w_CANCELLED "com/example/usher/usher/lifecycle/ExecutionState") (F_PENDING_terminalEvent : Fld Z Z.heap w_PENDING "com/example/usher/usher/lifecycle/ExecutionState" "terminalEvent" "Ljava/lang/String;" .null) (F_RUNNING_terminalEvent : Fld Z Z.heap w_RUNNING "com/example/usher/usher/lifecycle/ExecutionState" "terminalEvent" "Ljava/lang/String;" .null) (F_WAITING_terminalEvent : Fld Z Z.heap w_WAITING "com/example/usher/usher/lifecycle/ExecutionState" "terminalEvent" "Ljava/lang/String;" .null) (F_COMPLETED_terminalEvent : Fld Z Z.heap w_COMPLETED "com/example/usher/usher/lifecycle/ExecutionState" "terminalEvent" "Ljava/lang/String;" (.ref x_COMPLETED_terminalEvent)) (F_FAILED_terminalEvent : Fld Z Z.heap w_FAILED "com/example/usher/usher/lifecycle/ExecutionState" "terminalEvent" "Ljava/lang/String;" (.ref x_FAILED_terminalEvent)) (F_CANCELLED_terminalEvent : Fld Z Z.heap w_CANCELLED "com/example/usher/usher/lifecycle/ExecutionState" "terminalEvent" "Ljava/lang/String;" (.ref x_CANCELLED_terminalEvent)) :
    MetN l Z x code maxLocals ret room_1 ws #[(.int p1)] h0 (fun v h L => v = some (.int (1 : Int32)) ∧ Fr n0 L ∧ h = h0) := by
  refine MetN.walk (plainFor_of_name pn_0) ?_
  intro p e s m below meth c s₁ hx hZ hby hml hown hnm hret hlk X0 e0
  have N0 := Fr.nil n0
  refine Win.to s₁ (mkF m 0 #[.val (.int p1), .unset, .unset, .unset] []) (fun _ k => castTop (by first | (simp [entryFrame, mkF, argsToLocals, Value.category, maxLocals]; done) | rfl) k) ?_
  have F9 : Exa Z h0 w_PENDING "com/example/usher/usher/lifecycle/ExecutionState" := (Exa.ext O0.2 E_PENDING)
  have F10 : Exa Z h0 w_RUNNING "com/example/usher/usher/lifecycle/ExecutionState" := (Exa.ext O0.2 E_RUNNING)
  have F11 : Exa Z h0 w_WAITING "com/example/usher/usher/lifecycle/ExecutionState" := (Exa.ext O0.2 E_WAITING)
  have F12 : Exa Z h0 w_COMPLETED "com/example/usher/usher/lifecycle/ExecutionState" := (Exa.ext O0.2 E_COMPLETED)
  have F13 : Exa Z h0 w_FAILED "com/example/usher/usher/lifecycle/ExecutionState" := (Exa.ext O0.2 E_FAILED)
  have F14 : Exa Z h0 w_CANCELLED "com/example/usher/usher/lifecycle/ExecutionState" := (Exa.ext O0.2 E_CANCELLED)
  have F15 : Fld Z h0 w_PENDING "com/example/usher/usher/lifecycle/ExecutionState" "terminalEvent" "Ljava/lang/String;" .null := (Fld.ext O0.2 F_PENDING_terminalEvent)
  have F16 : Fld Z h0 w_RUNNING "com/example/usher/usher/lifecycle/ExecutionState" "terminalEvent" "Ljava/lang/String;" .null := (Fld.ext O0.2 F_RUNNING_terminalEvent)
  have F17 : Fld Z h0 w_WAITING "com/example/usher/usher/lifecycle/ExecutionState" "terminalEvent" "Ljava/lang/String;" .null := (Fld.ext O0.2 F_WAITING_terminalEvent)
  have F18 : Fld Z h0 w_COMPLETED "com/example/usher/usher/lifecycle/ExecutionState" "terminalEvent" "Ljava/lang/String;" (.ref x_COMPLETED_terminalEvent) := (Fld.ext O0.2 F_COMPLETED_terminalEvent)
  have F19 : Fld Z h0 w_FAILED "com/example/usher/usher/lifecycle/ExecutionState" "terminalEvent" "Ljava/lang/String;" (.ref x_FAILED_terminalEvent) := (Fld.ext O0.2 F_FAILED_terminalEvent)
  have F20 : Fld Z h0 w_CANCELLED "com/example/usher/usher/lifecycle/ExecutionState" "terminalEvent" "Ljava/lang/String;" (.ref x_CANCELLED_terminalEvent) := (Fld.ext O0.2 F_CANCELLED_terminalEvent)
  refine Win.to s₁ (mkF m 1 #[.val (.int p1), .unset, .unset, .unset] [(.int p1)]) (fun _ k => XS.iloadN X0.here hx rfl (hb hby at_0) rfl k) ?_
  refine Win.to s₁ (mkF m 3 #[.val (.int p1), .unset, .unset, .unset] [(.int (2147483647 : Int32)), (.int p1)]) (fun _ k => X0.ldcInt hx hown (mvT hZ (hw _ (List.mem_of_getElem? (i := 0) rfl))) (g := (mkF m 1 #[.val (.int p1), .unset, .unset, .unset] [(.int p1)])) rfl (hb hby at_1) _ k) ?_
  refine Win.to s₁ (mkF m 4 #[.val (.int p1), .unset, .unset, .unset] [(.int (p1 &&& (2147483647 : Int32)))]) (fun _ k => XS.iand X0.here hx rfl (hb hby at_3) rfl k) ?_
  refine Win.to s₁ (mkF m 6 #[.val (.int p1), .unset, .unset, .unset] [(.int (6 : Int32)), (.int (p1 &&& (2147483647 : Int32)))]) (fun _ k => XS.bipush X0.here hx rfl (hb hby at_4) k) ?_
  refine Win.to s₁ (mkF m 7 #[.val (.int p1), .unset, .unset, .unset] [(.int ((p1 &&& (2147483647 : Int32)) % (6 : Int32)))]) (fun _ k => Jvm.RoadKit.iremM X0 hx rfl (hb hby at_6) rfl (by decide) k) ?_
  refine Win.to s₁ (mkF m 8 #[.val (.int p1), .val (.int ((p1 &&& (2147483647 : Int32)) % (6 : Int32))), .unset, .unset] []) (fun _ k => XS.istoreN X0.here hx rfl (hb hby at_7) rfl (l' := #[.val (.int p1), .val (.int ((p1 &&& (2147483647 : Int32)) % (6 : Int32))), .unset, .unset]) rfl k) ?_
  rcases own_rem p1 with hk | hk | hk | hk | hk | hk
  · rw [hk]
    refine Win.to s₁ (mkF m 9 #[.val (.int p1), .val (.int (0 : Int32)), .unset, .unset] [(.int (0 : Int32))]) (fun _ k => XS.iloadN X0.here hx rfl (hb hby at_8) rfl k) ?_
    obtain ⟨T21, h21, v21, L21, X21, e21, ⟨rfl, N21q, r21_0⟩, st21⟩ := N.static X0 hx hZ (y := (⟨"com/example/usher/usher/lifecycle/ExecutionStateIsTerminalPinLaw", "pick", "(I)Lcom/example/usher/usher/lifecycle/ExecutionState;"⟩ : MethodName)) hown (hw _ (List.mem_of_getElem? (i := 1) rfl)) (hw _ (List.mem_of_getElem? (i := 2) rfl)) (hw _ (List.mem_of_getElem? (i := 3) rfl)) (hw _ (List.mem_of_getElem? (i := 4) rfl)) (by decide) (pick0 l Z a0 hw w_PENDING h0 n0 O0 S_PENDING) e0 (g := (mkF m 9 #[.val (.int p1), .val (.int (0 : Int32)), .unset, .unset] [(.int (0 : Int32))])) rfl (by rw [hml]; rfl) (argsL := [(.int (0 : Int32))]) (rest := []) rfl (lenOf pd__I_Lcom_example_usher_usher_lifecycle_ExecutionState_ rfl) rfl (W := 0) (by show 2 * 0 + _ ≤ _; exact Nat.le_of_eq rfl) (hb hby at_9) (by decide) (by decide) (by decide) (by decide)
    have N22 := Fr.app N0 N21q
    have e21 := e21.trans r21_0
    refine Win.to T21 (mkF m 12 #[.val (.int p1), .val (.int (0 : Int32)), .unset, .unset] [(.ref w_PENDING)]) (fun _ k => st21 _ k) ?_
    refine Win.to T21 (mkF m 13 #[.val (.int p1), .val (.int (0 : Int32)), .val (.ref w_PENDING), .unset] []) (fun _ k => XS.astoreN X21.here hx rfl (hb hby at_12) rfl rfl (l' := #[.val (.int p1), .val (.int (0 : Int32)), .val (.ref w_PENDING), .unset]) rfl k) ?_
    refine Win.to T21 (mkF m 14 #[.val (.int p1), .val (.int (0 : Int32)), .val (.ref w_PENDING), .unset] [(.int (0 : Int32))]) (fun _ k => XS.iloadN X21.here hx rfl (hb hby at_13) rfl k) ?_
    obtain ⟨T23, h23, v23, L23, X23, e23, ⟨rfl, N23q, r23_0⟩, st23⟩ := N.static X21 hx hZ (y := (⟨"com/example/usher/usher/lifecycle/ExecutionStateIsTerminalPinLaw", "expectedTerminal", "(I)Z"⟩ : MethodName)) hown (hw _ (List.mem_of_getElem? (i := 8) rfl)) (hw _ (List.mem_of_getElem? (i := 9) rfl)) (hw _ (List.mem_of_getElem? (i := 3) rfl)) (hw _ (List.mem_of_getElem? (i := 10) rfl)) (by decide) (exp0 l Z a0 hw  h0 n0 O0 ) e21 (g := (mkF m 14 #[.val (.int p1), .val (.int (0 : Int32)), .val (.ref w_PENDING), .unset] [(.int (0 : Int32))])) rfl (by rw [hml]; rfl) (argsL := [(.int (0 : Int32))]) (rest := []) rfl (lenOf pd__I_Z rfl) rfl (W := 0) (by show 2 * 0 + _ ≤ _; exact Nat.le_of_eq rfl) (hb hby at_14) (by decide) (by decide) (by decide) (by decide)
    have N24 := Fr.app N22 N23q
    have e23 := e23.trans r23_0
    refine Win.to T23 (mkF m 17 #[.val (.int p1), .val (.int (0 : Int32)), .val (.ref w_PENDING), .unset] [(.int (0 : Int32))]) (fun _ k => st23 _ k) ?_
    refine Win.to T23 (mkF m 18 #[.val (.int p1), .val (.int (0 : Int32)), .val (.ref w_PENDING), .val (.int (0 : Int32))] []) (fun _ k => XS.istoreN X23.here hx rfl (hb hby at_17) rfl (l' := #[.val (.int p1), .val (.int (0 : Int32)), .val (.ref w_PENDING), .val (.int (0 : Int32))]) rfl k) ?_
    refine Win.to T23 (mkF m 19 #[.val (.int p1), .val (.int (0 : Int32)), .val (.ref w_PENDING), .val (.int (0 : Int32))] [(.ref w_PENDING)]) (fun _ k => XS.aloadN X23.here hx rfl (hb hby at_18) rfl rfl k) ?_
    obtain ⟨T25, h25, v25, L25, X25, e25, ⟨rfl, N25q, r25_0⟩, st25⟩ := N.virtual X23 hx hZ (y := (⟨"com/example/usher/usher/lifecycle/ExecutionState", "isTerminal", "()Z"⟩ : MethodName)) (z := (⟨"com/example/usher/usher/lifecycle/ExecutionState", "isTerminal", "()Z"⟩ : MethodName)) hown (hw _ (List.mem_of_getElem? (i := 11) rfl)) (hw _ (List.mem_of_getElem? (i := 12) rfl)) (notFace_of_selects (args := #[]) (mvT hZ (hw _ (List.mem_of_getElem? (i := 14) rfl)))) (hw _ (List.mem_of_getElem? (i := 14) rfl)) (hw _ (List.mem_of_getElem? (i := 13) rfl)) (hw _ (List.mem_of_getElem? (i := 6) rfl)) (hw _ (List.mem_of_getElem? (i := 15) rfl)) (by decide) (isT0 l Z a0 hw w_PENDING h0 n0 O0 F15) e23 F9 (g := (mkF m 19 #[.val (.int p1), .val (.int (0 : Int32)), .val (.ref w_PENDING), .val (.int (0 : Int32))] [(.ref w_PENDING)])) rfl (by rw [hml]; rfl) (argsL := []) (rest := []) rfl (lenOf pd___Z rfl) rfl (W := 0) (by show 2 * 0 + _ ≤ _; exact Nat.le_of_eq rfl) (hb hby at_19) (by decide) (by decide) (by decide) (by decide)
    have N26 := Fr.app N24 N25q
    have e25 := e25.trans r25_0
    refine Win.to T25 (mkF m 22 #[.val (.int p1), .val (.int (0 : Int32)), .val (.ref w_PENDING), .val (.int (0 : Int32))] [(.int (0 : Int32))]) (fun _ k => st25 _ k) ?_
    refine Win.to T25 (mkF m 23 #[.val (.int p1), .val (.int (0 : Int32)), .val (.ref w_PENDING), .val (.int (0 : Int32))] [(.int (0 : Int32)), (.int (0 : Int32))]) (fun _ k => XS.iloadN X25.here hx rfl (hb hby at_22) rfl k) ?_
    refine Win.to T25 (mkF m 26 #[.val (.int p1), .val (.int (0 : Int32)), .val (.ref w_PENDING), .val (.int (0 : Int32))] []) (fun _ k => XS.icmpNo X25.here hx rfl (hb hby at_23) rfl (teq (show (0 : Int32) = (0 : Int32) from by decide)).2 k) ?_
    refine Win.to T25 (mkF m 27 #[.val (.int p1), .val (.int (0 : Int32)), .val (.ref w_PENDING), .val (.int (0 : Int32))] [(.int (1 : Int32))]) (fun _ k => XS.iconst X25.here hx rfl (hb hby at_26) k) ?_
    refine Win.to T25 (mkF m 31 #[.val (.int p1), .val (.int (0 : Int32)), .val (.ref w_PENDING), .val (.int (0 : Int32))] [(.int (1 : Int32))]) (fun _ k => XS.goto X25.here hx rfl (pc0 := 27) (pc' := 31) rfl (hb hby at_27) (by decide) (by decide) k) ?_
    exact Win.retN X25 hx hlk (t := .boolean) hret (by simp) rfl (hb hby at_31) (by decide) (by decide) (by (try rw [e25]); exact ⟨rfl, N26, rfl⟩)
  · rw [hk]
    refine Win.to s₁ (mkF m 9 #[.val (.int p1), .val (.int (1 : Int32)), .unset, .unset] [(.int (1 : Int32))]) (fun _ k => XS.iloadN X0.here hx rfl (hb hby at_8) rfl k) ?_
    obtain ⟨T27, h27, v27, L27, X27, e27, ⟨rfl, N27q, r27_0⟩, st27⟩ := N.static X0 hx hZ (y := (⟨"com/example/usher/usher/lifecycle/ExecutionStateIsTerminalPinLaw", "pick", "(I)Lcom/example/usher/usher/lifecycle/ExecutionState;"⟩ : MethodName)) hown (hw _ (List.mem_of_getElem? (i := 1) rfl)) (hw _ (List.mem_of_getElem? (i := 2) rfl)) (hw _ (List.mem_of_getElem? (i := 3) rfl)) (hw _ (List.mem_of_getElem? (i := 4) rfl)) (by decide) (pick1 l Z a0 hw w_RUNNING h0 n0 O0 S_RUNNING) e0 (g := (mkF m 9 #[.val (.int p1), .val (.int (1 : Int32)), .unset, .unset] [(.int (1 : Int32))])) rfl (by rw [hml]; rfl) (argsL := [(.int (1 : Int32))]) (rest := []) rfl (lenOf pd__I_Lcom_example_usher_usher_lifecycle_ExecutionState_ rfl) rfl (W := 0) (by show 2 * 0 + _ ≤ _; exact Nat.le_of_eq rfl) (hb hby at_9) (by decide) (by decide) (by decide) (by decide)
    have N28 := Fr.app N0 N27q
    have e27 := e27.trans r27_0
    refine Win.to T27 (mkF m 12 #[.val (.int p1), .val (.int (1 : Int32)), .unset, .unset] [(.ref w_RUNNING)]) (fun _ k => st27 _ k) ?_
    refine Win.to T27 (mkF m 13 #[.val (.int p1), .val (.int (1 : Int32)), .val (.ref w_RUNNING), .unset] []) (fun _ k => XS.astoreN X27.here hx rfl (hb hby at_12) rfl rfl (l' := #[.val (.int p1), .val (.int (1 : Int32)), .val (.ref w_RUNNING), .unset]) rfl k) ?_
    refine Win.to T27 (mkF m 14 #[.val (.int p1), .val (.int (1 : Int32)), .val (.ref w_RUNNING), .unset] [(.int (1 : Int32))]) (fun _ k => XS.iloadN X27.here hx rfl (hb hby at_13) rfl k) ?_
    obtain ⟨T29, h29, v29, L29, X29, e29, ⟨rfl, N29q, r29_0⟩, st29⟩ := N.static X27 hx hZ (y := (⟨"com/example/usher/usher/lifecycle/ExecutionStateIsTerminalPinLaw", "expectedTerminal", "(I)Z"⟩ : MethodName)) hown (hw _ (List.mem_of_getElem? (i := 8) rfl)) (hw _ (List.mem_of_getElem? (i := 9) rfl)) (hw _ (List.mem_of_getElem? (i := 3) rfl)) (hw _ (List.mem_of_getElem? (i := 10) rfl)) (by decide) (exp1 l Z a0 hw  h0 n0 O0 ) e27 (g := (mkF m 14 #[.val (.int p1), .val (.int (1 : Int32)), .val (.ref w_RUNNING), .unset] [(.int (1 : Int32))])) rfl (by rw [hml]; rfl) (argsL := [(.int (1 : Int32))]) (rest := []) rfl (lenOf pd__I_Z rfl) rfl (W := 0) (by show 2 * 0 + _ ≤ _; exact Nat.le_of_eq rfl) (hb hby at_14) (by decide) (by decide) (by decide) (by decide)
    have N30 := Fr.app N28 N29q
    have e29 := e29.trans r29_0
    refine Win.to T29 (mkF m 17 #[.val (.int p1), .val (.int (1 : Int32)), .val (.ref w_RUNNING), .unset] [(.int (0 : Int32))]) (fun _ k => st29 _ k) ?_
    refine Win.to T29 (mkF m 18 #[.val (.int p1), .val (.int (1 : Int32)), .val (.ref w_RUNNING), .val (.int (0 : Int32))] []) (fun _ k => XS.istoreN X29.here hx rfl (hb hby at_17) rfl (l' := #[.val (.int p1), .val (.int (1 : Int32)), .val (.ref w_RUNNING), .val (.int (0 : Int32))]) rfl k) ?_
    refine Win.to T29 (mkF m 19 #[.val (.int p1), .val (.int (1 : Int32)), .val (.ref w_RUNNING), .val (.int (0 : Int32))] [(.ref w_RUNNING)]) (fun _ k => XS.aloadN X29.here hx rfl (hb hby at_18) rfl rfl k) ?_
    obtain ⟨T31, h31, v31, L31, X31, e31, ⟨rfl, N31q, r31_0⟩, st31⟩ := N.virtual X29 hx hZ (y := (⟨"com/example/usher/usher/lifecycle/ExecutionState", "isTerminal", "()Z"⟩ : MethodName)) (z := (⟨"com/example/usher/usher/lifecycle/ExecutionState", "isTerminal", "()Z"⟩ : MethodName)) hown (hw _ (List.mem_of_getElem? (i := 11) rfl)) (hw _ (List.mem_of_getElem? (i := 12) rfl)) (notFace_of_selects (args := #[]) (mvT hZ (hw _ (List.mem_of_getElem? (i := 14) rfl)))) (hw _ (List.mem_of_getElem? (i := 14) rfl)) (hw _ (List.mem_of_getElem? (i := 13) rfl)) (hw _ (List.mem_of_getElem? (i := 6) rfl)) (hw _ (List.mem_of_getElem? (i := 15) rfl)) (by decide) (isT0 l Z a0 hw w_RUNNING h0 n0 O0 F16) e29 F10 (g := (mkF m 19 #[.val (.int p1), .val (.int (1 : Int32)), .val (.ref w_RUNNING), .val (.int (0 : Int32))] [(.ref w_RUNNING)])) rfl (by rw [hml]; rfl) (argsL := []) (rest := []) rfl (lenOf pd___Z rfl) rfl (W := 0) (by show 2 * 0 + _ ≤ _; exact Nat.le_of_eq rfl) (hb hby at_19) (by decide) (by decide) (by decide) (by decide)
    have N32 := Fr.app N30 N31q
    have e31 := e31.trans r31_0
    refine Win.to T31 (mkF m 22 #[.val (.int p1), .val (.int (1 : Int32)), .val (.ref w_RUNNING), .val (.int (0 : Int32))] [(.int (0 : Int32))]) (fun _ k => st31 _ k) ?_
    refine Win.to T31 (mkF m 23 #[.val (.int p1), .val (.int (1 : Int32)), .val (.ref w_RUNNING), .val (.int (0 : Int32))] [(.int (0 : Int32)), (.int (0 : Int32))]) (fun _ k => XS.iloadN X31.here hx rfl (hb hby at_22) rfl k) ?_
    refine Win.to T31 (mkF m 26 #[.val (.int p1), .val (.int (1 : Int32)), .val (.ref w_RUNNING), .val (.int (0 : Int32))] []) (fun _ k => XS.icmpNo X31.here hx rfl (hb hby at_23) rfl (teq (show (0 : Int32) = (0 : Int32) from by decide)).2 k) ?_
    refine Win.to T31 (mkF m 27 #[.val (.int p1), .val (.int (1 : Int32)), .val (.ref w_RUNNING), .val (.int (0 : Int32))] [(.int (1 : Int32))]) (fun _ k => XS.iconst X31.here hx rfl (hb hby at_26) k) ?_
    refine Win.to T31 (mkF m 31 #[.val (.int p1), .val (.int (1 : Int32)), .val (.ref w_RUNNING), .val (.int (0 : Int32))] [(.int (1 : Int32))]) (fun _ k => XS.goto X31.here hx rfl (pc0 := 27) (pc' := 31) rfl (hb hby at_27) (by decide) (by decide) k) ?_
    exact Win.retN X31 hx hlk (t := .boolean) hret (by simp) rfl (hb hby at_31) (by decide) (by decide) (by (try rw [e31]); exact ⟨rfl, N32, rfl⟩)
  · rw [hk]
    refine Win.to s₁ (mkF m 9 #[.val (.int p1), .val (.int (2 : Int32)), .unset, .unset] [(.int (2 : Int32))]) (fun _ k => XS.iloadN X0.here hx rfl (hb hby at_8) rfl k) ?_
    obtain ⟨T33, h33, v33, L33, X33, e33, ⟨rfl, N33q, r33_0⟩, st33⟩ := N.static X0 hx hZ (y := (⟨"com/example/usher/usher/lifecycle/ExecutionStateIsTerminalPinLaw", "pick", "(I)Lcom/example/usher/usher/lifecycle/ExecutionState;"⟩ : MethodName)) hown (hw _ (List.mem_of_getElem? (i := 1) rfl)) (hw _ (List.mem_of_getElem? (i := 2) rfl)) (hw _ (List.mem_of_getElem? (i := 3) rfl)) (hw _ (List.mem_of_getElem? (i := 4) rfl)) (by decide) (pick2 l Z a0 hw w_WAITING h0 n0 O0 S_WAITING) e0 (g := (mkF m 9 #[.val (.int p1), .val (.int (2 : Int32)), .unset, .unset] [(.int (2 : Int32))])) rfl (by rw [hml]; rfl) (argsL := [(.int (2 : Int32))]) (rest := []) rfl (lenOf pd__I_Lcom_example_usher_usher_lifecycle_ExecutionState_ rfl) rfl (W := 0) (by show 2 * 0 + _ ≤ _; exact Nat.le_of_eq rfl) (hb hby at_9) (by decide) (by decide) (by decide) (by decide)
    have N34 := Fr.app N0 N33q
    have e33 := e33.trans r33_0
    refine Win.to T33 (mkF m 12 #[.val (.int p1), .val (.int (2 : Int32)), .unset, .unset] [(.ref w_WAITING)]) (fun _ k => st33 _ k) ?_
    refine Win.to T33 (mkF m 13 #[.val (.int p1), .val (.int (2 : Int32)), .val (.ref w_WAITING), .unset] []) (fun _ k => XS.astoreN X33.here hx rfl (hb hby at_12) rfl rfl (l' := #[.val (.int p1), .val (.int (2 : Int32)), .val (.ref w_WAITING), .unset]) rfl k) ?_
    refine Win.to T33 (mkF m 14 #[.val (.int p1), .val (.int (2 : Int32)), .val (.ref w_WAITING), .unset] [(.int (2 : Int32))]) (fun _ k => XS.iloadN X33.here hx rfl (hb hby at_13) rfl k) ?_
    obtain ⟨T35, h35, v35, L35, X35, e35, ⟨rfl, N35q, r35_0⟩, st35⟩ := N.static X33 hx hZ (y := (⟨"com/example/usher/usher/lifecycle/ExecutionStateIsTerminalPinLaw", "expectedTerminal", "(I)Z"⟩ : MethodName)) hown (hw _ (List.mem_of_getElem? (i := 8) rfl)) (hw _ (List.mem_of_getElem? (i := 9) rfl)) (hw _ (List.mem_of_getElem? (i := 3) rfl)) (hw _ (List.mem_of_getElem? (i := 10) rfl)) (by decide) (exp2 l Z a0 hw  h0 n0 O0 ) e33 (g := (mkF m 14 #[.val (.int p1), .val (.int (2 : Int32)), .val (.ref w_WAITING), .unset] [(.int (2 : Int32))])) rfl (by rw [hml]; rfl) (argsL := [(.int (2 : Int32))]) (rest := []) rfl (lenOf pd__I_Z rfl) rfl (W := 0) (by show 2 * 0 + _ ≤ _; exact Nat.le_of_eq rfl) (hb hby at_14) (by decide) (by decide) (by decide) (by decide)
    have N36 := Fr.app N34 N35q
    have e35 := e35.trans r35_0
    refine Win.to T35 (mkF m 17 #[.val (.int p1), .val (.int (2 : Int32)), .val (.ref w_WAITING), .unset] [(.int (0 : Int32))]) (fun _ k => st35 _ k) ?_
    refine Win.to T35 (mkF m 18 #[.val (.int p1), .val (.int (2 : Int32)), .val (.ref w_WAITING), .val (.int (0 : Int32))] []) (fun _ k => XS.istoreN X35.here hx rfl (hb hby at_17) rfl (l' := #[.val (.int p1), .val (.int (2 : Int32)), .val (.ref w_WAITING), .val (.int (0 : Int32))]) rfl k) ?_
    refine Win.to T35 (mkF m 19 #[.val (.int p1), .val (.int (2 : Int32)), .val (.ref w_WAITING), .val (.int (0 : Int32))] [(.ref w_WAITING)]) (fun _ k => XS.aloadN X35.here hx rfl (hb hby at_18) rfl rfl k) ?_
    obtain ⟨T37, h37, v37, L37, X37, e37, ⟨rfl, N37q, r37_0⟩, st37⟩ := N.virtual X35 hx hZ (y := (⟨"com/example/usher/usher/lifecycle/ExecutionState", "isTerminal", "()Z"⟩ : MethodName)) (z := (⟨"com/example/usher/usher/lifecycle/ExecutionState", "isTerminal", "()Z"⟩ : MethodName)) hown (hw _ (List.mem_of_getElem? (i := 11) rfl)) (hw _ (List.mem_of_getElem? (i := 12) rfl)) (notFace_of_selects (args := #[]) (mvT hZ (hw _ (List.mem_of_getElem? (i := 14) rfl)))) (hw _ (List.mem_of_getElem? (i := 14) rfl)) (hw _ (List.mem_of_getElem? (i := 13) rfl)) (hw _ (List.mem_of_getElem? (i := 6) rfl)) (hw _ (List.mem_of_getElem? (i := 15) rfl)) (by decide) (isT0 l Z a0 hw w_WAITING h0 n0 O0 F17) e35 F11 (g := (mkF m 19 #[.val (.int p1), .val (.int (2 : Int32)), .val (.ref w_WAITING), .val (.int (0 : Int32))] [(.ref w_WAITING)])) rfl (by rw [hml]; rfl) (argsL := []) (rest := []) rfl (lenOf pd___Z rfl) rfl (W := 0) (by show 2 * 0 + _ ≤ _; exact Nat.le_of_eq rfl) (hb hby at_19) (by decide) (by decide) (by decide) (by decide)
    have N38 := Fr.app N36 N37q
    have e37 := e37.trans r37_0
    refine Win.to T37 (mkF m 22 #[.val (.int p1), .val (.int (2 : Int32)), .val (.ref w_WAITING), .val (.int (0 : Int32))] [(.int (0 : Int32))]) (fun _ k => st37 _ k) ?_
    refine Win.to T37 (mkF m 23 #[.val (.int p1), .val (.int (2 : Int32)), .val (.ref w_WAITING), .val (.int (0 : Int32))] [(.int (0 : Int32)), (.int (0 : Int32))]) (fun _ k => XS.iloadN X37.here hx rfl (hb hby at_22) rfl k) ?_
    refine Win.to T37 (mkF m 26 #[.val (.int p1), .val (.int (2 : Int32)), .val (.ref w_WAITING), .val (.int (0 : Int32))] []) (fun _ k => XS.icmpNo X37.here hx rfl (hb hby at_23) rfl (teq (show (0 : Int32) = (0 : Int32) from by decide)).2 k) ?_
    refine Win.to T37 (mkF m 27 #[.val (.int p1), .val (.int (2 : Int32)), .val (.ref w_WAITING), .val (.int (0 : Int32))] [(.int (1 : Int32))]) (fun _ k => XS.iconst X37.here hx rfl (hb hby at_26) k) ?_
    refine Win.to T37 (mkF m 31 #[.val (.int p1), .val (.int (2 : Int32)), .val (.ref w_WAITING), .val (.int (0 : Int32))] [(.int (1 : Int32))]) (fun _ k => XS.goto X37.here hx rfl (pc0 := 27) (pc' := 31) rfl (hb hby at_27) (by decide) (by decide) k) ?_
    exact Win.retN X37 hx hlk (t := .boolean) hret (by simp) rfl (hb hby at_31) (by decide) (by decide) (by (try rw [e37]); exact ⟨rfl, N38, rfl⟩)
  · rw [hk]
    refine Win.to s₁ (mkF m 9 #[.val (.int p1), .val (.int (3 : Int32)), .unset, .unset] [(.int (3 : Int32))]) (fun _ k => XS.iloadN X0.here hx rfl (hb hby at_8) rfl k) ?_
    obtain ⟨T39, h39, v39, L39, X39, e39, ⟨rfl, N39q, r39_0⟩, st39⟩ := N.static X0 hx hZ (y := (⟨"com/example/usher/usher/lifecycle/ExecutionStateIsTerminalPinLaw", "pick", "(I)Lcom/example/usher/usher/lifecycle/ExecutionState;"⟩ : MethodName)) hown (hw _ (List.mem_of_getElem? (i := 1) rfl)) (hw _ (List.mem_of_getElem? (i := 2) rfl)) (hw _ (List.mem_of_getElem? (i := 3) rfl)) (hw _ (List.mem_of_getElem? (i := 4) rfl)) (by decide) (pick3 l Z a0 hw w_COMPLETED h0 n0 O0 S_COMPLETED) e0 (g := (mkF m 9 #[.val (.int p1), .val (.int (3 : Int32)), .unset, .unset] [(.int (3 : Int32))])) rfl (by rw [hml]; rfl) (argsL := [(.int (3 : Int32))]) (rest := []) rfl (lenOf pd__I_Lcom_example_usher_usher_lifecycle_ExecutionState_ rfl) rfl (W := 0) (by show 2 * 0 + _ ≤ _; exact Nat.le_of_eq rfl) (hb hby at_9) (by decide) (by decide) (by decide) (by decide)
    have N40 := Fr.app N0 N39q
    have e39 := e39.trans r39_0
    refine Win.to T39 (mkF m 12 #[.val (.int p1), .val (.int (3 : Int32)), .unset, .unset] [(.ref w_COMPLETED)]) (fun _ k => st39 _ k) ?_
    refine Win.to T39 (mkF m 13 #[.val (.int p1), .val (.int (3 : Int32)), .val (.ref w_COMPLETED), .unset] []) (fun _ k => XS.astoreN X39.here hx rfl (hb hby at_12) rfl rfl (l' := #[.val (.int p1), .val (.int (3 : Int32)), .val (.ref w_COMPLETED), .unset]) rfl k) ?_
    refine Win.to T39 (mkF m 14 #[.val (.int p1), .val (.int (3 : Int32)), .val (.ref w_COMPLETED), .unset] [(.int (3 : Int32))]) (fun _ k => XS.iloadN X39.here hx rfl (hb hby at_13) rfl k) ?_
    obtain ⟨T41, h41, v41, L41, X41, e41, ⟨rfl, N41q, r41_0⟩, st41⟩ := N.static X39 hx hZ (y := (⟨"com/example/usher/usher/lifecycle/ExecutionStateIsTerminalPinLaw", "expectedTerminal", "(I)Z"⟩ : MethodName)) hown (hw _ (List.mem_of_getElem? (i := 8) rfl)) (hw _ (List.mem_of_getElem? (i := 9) rfl)) (hw _ (List.mem_of_getElem? (i := 3) rfl)) (hw _ (List.mem_of_getElem? (i := 10) rfl)) (by decide) (exp3 l Z a0 hw  h0 n0 O0 ) e39 (g := (mkF m 14 #[.val (.int p1), .val (.int (3 : Int32)), .val (.ref w_COMPLETED), .unset] [(.int (3 : Int32))])) rfl (by rw [hml]; rfl) (argsL := [(.int (3 : Int32))]) (rest := []) rfl (lenOf pd__I_Z rfl) rfl (W := 0) (by show 2 * 0 + _ ≤ _; exact Nat.le_of_eq rfl) (hb hby at_14) (by decide) (by decide) (by decide) (by decide)
    have N42 := Fr.app N40 N41q
    have e41 := e41.trans r41_0
    refine Win.to T41 (mkF m 17 #[.val (.int p1), .val (.int (3 : Int32)), .val (.ref w_COMPLETED), .unset] [(.int (1 : Int32))]) (fun _ k => st41 _ k) ?_
    refine Win.to T41 (mkF m 18 #[.val (.int p1), .val (.int (3 : Int32)), .val (.ref w_COMPLETED), .val (.int (1 : Int32))] []) (fun _ k => XS.istoreN X41.here hx rfl (hb hby at_17) rfl (l' := #[.val (.int p1), .val (.int (3 : Int32)), .val (.ref w_COMPLETED), .val (.int (1 : Int32))]) rfl k) ?_
    refine Win.to T41 (mkF m 19 #[.val (.int p1), .val (.int (3 : Int32)), .val (.ref w_COMPLETED), .val (.int (1 : Int32))] [(.ref w_COMPLETED)]) (fun _ k => XS.aloadN X41.here hx rfl (hb hby at_18) rfl rfl k) ?_
    obtain ⟨T43, h43, v43, L43, X43, e43, ⟨rfl, N43q, r43_0⟩, st43⟩ := N.virtual X41 hx hZ (y := (⟨"com/example/usher/usher/lifecycle/ExecutionState", "isTerminal", "()Z"⟩ : MethodName)) (z := (⟨"com/example/usher/usher/lifecycle/ExecutionState", "isTerminal", "()Z"⟩ : MethodName)) hown (hw _ (List.mem_of_getElem? (i := 11) rfl)) (hw _ (List.mem_of_getElem? (i := 12) rfl)) (notFace_of_selects (args := #[]) (mvT hZ (hw _ (List.mem_of_getElem? (i := 14) rfl)))) (hw _ (List.mem_of_getElem? (i := 14) rfl)) (hw _ (List.mem_of_getElem? (i := 13) rfl)) (hw _ (List.mem_of_getElem? (i := 6) rfl)) (hw _ (List.mem_of_getElem? (i := 15) rfl)) (by decide) (isT1 l Z a0 hw w_COMPLETED x_COMPLETED_terminalEvent h0 n0 O0 F18) e41 F12 (g := (mkF m 19 #[.val (.int p1), .val (.int (3 : Int32)), .val (.ref w_COMPLETED), .val (.int (1 : Int32))] [(.ref w_COMPLETED)])) rfl (by rw [hml]; rfl) (argsL := []) (rest := []) rfl (lenOf pd___Z rfl) rfl (W := 0) (by show 2 * 0 + _ ≤ _; exact Nat.le_of_eq rfl) (hb hby at_19) (by decide) (by decide) (by decide) (by decide)
    have N44 := Fr.app N42 N43q
    have e43 := e43.trans r43_0
    refine Win.to T43 (mkF m 22 #[.val (.int p1), .val (.int (3 : Int32)), .val (.ref w_COMPLETED), .val (.int (1 : Int32))] [(.int (1 : Int32))]) (fun _ k => st43 _ k) ?_
    refine Win.to T43 (mkF m 23 #[.val (.int p1), .val (.int (3 : Int32)), .val (.ref w_COMPLETED), .val (.int (1 : Int32))] [(.int (1 : Int32)), (.int (1 : Int32))]) (fun _ k => XS.iloadN X43.here hx rfl (hb hby at_22) rfl k) ?_
    refine Win.to T43 (mkF m 26 #[.val (.int p1), .val (.int (3 : Int32)), .val (.ref w_COMPLETED), .val (.int (1 : Int32))] []) (fun _ k => XS.icmpNo X43.here hx rfl (hb hby at_23) rfl (teq (show (1 : Int32) = (1 : Int32) from by decide)).2 k) ?_
    refine Win.to T43 (mkF m 27 #[.val (.int p1), .val (.int (3 : Int32)), .val (.ref w_COMPLETED), .val (.int (1 : Int32))] [(.int (1 : Int32))]) (fun _ k => XS.iconst X43.here hx rfl (hb hby at_26) k) ?_
    refine Win.to T43 (mkF m 31 #[.val (.int p1), .val (.int (3 : Int32)), .val (.ref w_COMPLETED), .val (.int (1 : Int32))] [(.int (1 : Int32))]) (fun _ k => XS.goto X43.here hx rfl (pc0 := 27) (pc' := 31) rfl (hb hby at_27) (by decide) (by decide) k) ?_
    exact Win.retN X43 hx hlk (t := .boolean) hret (by simp) rfl (hb hby at_31) (by decide) (by decide) (by (try rw [e43]); exact ⟨rfl, N44, rfl⟩)
  · rw [hk]
    refine Win.to s₁ (mkF m 9 #[.val (.int p1), .val (.int (4 : Int32)), .unset, .unset] [(.int (4 : Int32))]) (fun _ k => XS.iloadN X0.here hx rfl (hb hby at_8) rfl k) ?_
    obtain ⟨T45, h45, v45, L45, X45, e45, ⟨rfl, N45q, r45_0⟩, st45⟩ := N.static X0 hx hZ (y := (⟨"com/example/usher/usher/lifecycle/ExecutionStateIsTerminalPinLaw", "pick", "(I)Lcom/example/usher/usher/lifecycle/ExecutionState;"⟩ : MethodName)) hown (hw _ (List.mem_of_getElem? (i := 1) rfl)) (hw _ (List.mem_of_getElem? (i := 2) rfl)) (hw _ (List.mem_of_getElem? (i := 3) rfl)) (hw _ (List.mem_of_getElem? (i := 4) rfl)) (by decide) (pick4 l Z a0 hw w_FAILED h0 n0 O0 S_FAILED) e0 (g := (mkF m 9 #[.val (.int p1), .val (.int (4 : Int32)), .unset, .unset] [(.int (4 : Int32))])) rfl (by rw [hml]; rfl) (argsL := [(.int (4 : Int32))]) (rest := []) rfl (lenOf pd__I_Lcom_example_usher_usher_lifecycle_ExecutionState_ rfl) rfl (W := 0) (by show 2 * 0 + _ ≤ _; exact Nat.le_of_eq rfl) (hb hby at_9) (by decide) (by decide) (by decide) (by decide)
    have N46 := Fr.app N0 N45q
    have e45 := e45.trans r45_0
    refine Win.to T45 (mkF m 12 #[.val (.int p1), .val (.int (4 : Int32)), .unset, .unset] [(.ref w_FAILED)]) (fun _ k => st45 _ k) ?_
    refine Win.to T45 (mkF m 13 #[.val (.int p1), .val (.int (4 : Int32)), .val (.ref w_FAILED), .unset] []) (fun _ k => XS.astoreN X45.here hx rfl (hb hby at_12) rfl rfl (l' := #[.val (.int p1), .val (.int (4 : Int32)), .val (.ref w_FAILED), .unset]) rfl k) ?_
    refine Win.to T45 (mkF m 14 #[.val (.int p1), .val (.int (4 : Int32)), .val (.ref w_FAILED), .unset] [(.int (4 : Int32))]) (fun _ k => XS.iloadN X45.here hx rfl (hb hby at_13) rfl k) ?_
    obtain ⟨T47, h47, v47, L47, X47, e47, ⟨rfl, N47q, r47_0⟩, st47⟩ := N.static X45 hx hZ (y := (⟨"com/example/usher/usher/lifecycle/ExecutionStateIsTerminalPinLaw", "expectedTerminal", "(I)Z"⟩ : MethodName)) hown (hw _ (List.mem_of_getElem? (i := 8) rfl)) (hw _ (List.mem_of_getElem? (i := 9) rfl)) (hw _ (List.mem_of_getElem? (i := 3) rfl)) (hw _ (List.mem_of_getElem? (i := 10) rfl)) (by decide) (exp4 l Z a0 hw  h0 n0 O0 ) e45 (g := (mkF m 14 #[.val (.int p1), .val (.int (4 : Int32)), .val (.ref w_FAILED), .unset] [(.int (4 : Int32))])) rfl (by rw [hml]; rfl) (argsL := [(.int (4 : Int32))]) (rest := []) rfl (lenOf pd__I_Z rfl) rfl (W := 0) (by show 2 * 0 + _ ≤ _; exact Nat.le_of_eq rfl) (hb hby at_14) (by decide) (by decide) (by decide) (by decide)
    have N48 := Fr.app N46 N47q
    have e47 := e47.trans r47_0
    refine Win.to T47 (mkF m 17 #[.val (.int p1), .val (.int (4 : Int32)), .val (.ref w_FAILED), .unset] [(.int (1 : Int32))]) (fun _ k => st47 _ k) ?_
    refine Win.to T47 (mkF m 18 #[.val (.int p1), .val (.int (4 : Int32)), .val (.ref w_FAILED), .val (.int (1 : Int32))] []) (fun _ k => XS.istoreN X47.here hx rfl (hb hby at_17) rfl (l' := #[.val (.int p1), .val (.int (4 : Int32)), .val (.ref w_FAILED), .val (.int (1 : Int32))]) rfl k) ?_
    refine Win.to T47 (mkF m 19 #[.val (.int p1), .val (.int (4 : Int32)), .val (.ref w_FAILED), .val (.int (1 : Int32))] [(.ref w_FAILED)]) (fun _ k => XS.aloadN X47.here hx rfl (hb hby at_18) rfl rfl k) ?_
    obtain ⟨T49, h49, v49, L49, X49, e49, ⟨rfl, N49q, r49_0⟩, st49⟩ := N.virtual X47 hx hZ (y := (⟨"com/example/usher/usher/lifecycle/ExecutionState", "isTerminal", "()Z"⟩ : MethodName)) (z := (⟨"com/example/usher/usher/lifecycle/ExecutionState", "isTerminal", "()Z"⟩ : MethodName)) hown (hw _ (List.mem_of_getElem? (i := 11) rfl)) (hw _ (List.mem_of_getElem? (i := 12) rfl)) (notFace_of_selects (args := #[]) (mvT hZ (hw _ (List.mem_of_getElem? (i := 14) rfl)))) (hw _ (List.mem_of_getElem? (i := 14) rfl)) (hw _ (List.mem_of_getElem? (i := 13) rfl)) (hw _ (List.mem_of_getElem? (i := 6) rfl)) (hw _ (List.mem_of_getElem? (i := 15) rfl)) (by decide) (isT1 l Z a0 hw w_FAILED x_FAILED_terminalEvent h0 n0 O0 F19) e47 F13 (g := (mkF m 19 #[.val (.int p1), .val (.int (4 : Int32)), .val (.ref w_FAILED), .val (.int (1 : Int32))] [(.ref w_FAILED)])) rfl (by rw [hml]; rfl) (argsL := []) (rest := []) rfl (lenOf pd___Z rfl) rfl (W := 0) (by show 2 * 0 + _ ≤ _; exact Nat.le_of_eq rfl) (hb hby at_19) (by decide) (by decide) (by decide) (by decide)
    have N50 := Fr.app N48 N49q
    have e49 := e49.trans r49_0
    refine Win.to T49 (mkF m 22 #[.val (.int p1), .val (.int (4 : Int32)), .val (.ref w_FAILED), .val (.int (1 : Int32))] [(.int (1 : Int32))]) (fun _ k => st49 _ k) ?_
    refine Win.to T49 (mkF m 23 #[.val (.int p1), .val (.int (4 : Int32)), .val (.ref w_FAILED), .val (.int (1 : Int32))] [(.int (1 : Int32)), (.int (1 : Int32))]) (fun _ k => XS.iloadN X49.here hx rfl (hb hby at_22) rfl k) ?_
    refine Win.to T49 (mkF m 26 #[.val (.int p1), .val (.int (4 : Int32)), .val (.ref w_FAILED), .val (.int (1 : Int32))] []) (fun _ k => XS.icmpNo X49.here hx rfl (hb hby at_23) rfl (teq (show (1 : Int32) = (1 : Int32) from by decide)).2 k) ?_
    refine Win.to T49 (mkF m 27 #[.val (.int p1), .val (.int (4 : Int32)), .val (.ref w_FAILED), .val (.int (1 : Int32))] [(.int (1 : Int32))]) (fun _ k => XS.iconst X49.here hx rfl (hb hby at_26) k) ?_
    refine Win.to T49 (mkF m 31 #[.val (.int p1), .val (.int (4 : Int32)), .val (.ref w_FAILED), .val (.int (1 : Int32))] [(.int (1 : Int32))]) (fun _ k => XS.goto X49.here hx rfl (pc0 := 27) (pc' := 31) rfl (hb hby at_27) (by decide) (by decide) k) ?_
    exact Win.retN X49 hx hlk (t := .boolean) hret (by simp) rfl (hb hby at_31) (by decide) (by decide) (by (try rw [e49]); exact ⟨rfl, N50, rfl⟩)
  · rw [hk]
    refine Win.to s₁ (mkF m 9 #[.val (.int p1), .val (.int (5 : Int32)), .unset, .unset] [(.int (5 : Int32))]) (fun _ k => XS.iloadN X0.here hx rfl (hb hby at_8) rfl k) ?_
    obtain ⟨T51, h51, v51, L51, X51, e51, ⟨rfl, N51q, r51_0⟩, st51⟩ := N.static X0 hx hZ (y := (⟨"com/example/usher/usher/lifecycle/ExecutionStateIsTerminalPinLaw", "pick", "(I)Lcom/example/usher/usher/lifecycle/ExecutionState;"⟩ : MethodName)) hown (hw _ (List.mem_of_getElem? (i := 1) rfl)) (hw _ (List.mem_of_getElem? (i := 2) rfl)) (hw _ (List.mem_of_getElem? (i := 3) rfl)) (hw _ (List.mem_of_getElem? (i := 4) rfl)) (by decide) (pick5 l Z a0 hw w_CANCELLED h0 n0 O0 S_CANCELLED) e0 (g := (mkF m 9 #[.val (.int p1), .val (.int (5 : Int32)), .unset, .unset] [(.int (5 : Int32))])) rfl (by rw [hml]; rfl) (argsL := [(.int (5 : Int32))]) (rest := []) rfl (lenOf pd__I_Lcom_example_usher_usher_lifecycle_ExecutionState_ rfl) rfl (W := 0) (by show 2 * 0 + _ ≤ _; exact Nat.le_of_eq rfl) (hb hby at_9) (by decide) (by decide) (by decide) (by decide)
    have N52 := Fr.app N0 N51q
    have e51 := e51.trans r51_0
    refine Win.to T51 (mkF m 12 #[.val (.int p1), .val (.int (5 : Int32)), .unset, .unset] [(.ref w_CANCELLED)]) (fun _ k => st51 _ k) ?_
    refine Win.to T51 (mkF m 13 #[.val (.int p1), .val (.int (5 : Int32)), .val (.ref w_CANCELLED), .unset] []) (fun _ k => XS.astoreN X51.here hx rfl (hb hby at_12) rfl rfl (l' := #[.val (.int p1), .val (.int (5 : Int32)), .val (.ref w_CANCELLED), .unset]) rfl k) ?_
    refine Win.to T51 (mkF m 14 #[.val (.int p1), .val (.int (5 : Int32)), .val (.ref w_CANCELLED), .unset] [(.int (5 : Int32))]) (fun _ k => XS.iloadN X51.here hx rfl (hb hby at_13) rfl k) ?_
    obtain ⟨T53, h53, v53, L53, X53, e53, ⟨rfl, N53q, r53_0⟩, st53⟩ := N.static X51 hx hZ (y := (⟨"com/example/usher/usher/lifecycle/ExecutionStateIsTerminalPinLaw", "expectedTerminal", "(I)Z"⟩ : MethodName)) hown (hw _ (List.mem_of_getElem? (i := 8) rfl)) (hw _ (List.mem_of_getElem? (i := 9) rfl)) (hw _ (List.mem_of_getElem? (i := 3) rfl)) (hw _ (List.mem_of_getElem? (i := 10) rfl)) (by decide) (exp5 l Z a0 hw  h0 n0 O0 ) e51 (g := (mkF m 14 #[.val (.int p1), .val (.int (5 : Int32)), .val (.ref w_CANCELLED), .unset] [(.int (5 : Int32))])) rfl (by rw [hml]; rfl) (argsL := [(.int (5 : Int32))]) (rest := []) rfl (lenOf pd__I_Z rfl) rfl (W := 0) (by show 2 * 0 + _ ≤ _; exact Nat.le_of_eq rfl) (hb hby at_14) (by decide) (by decide) (by decide) (by decide)
    have N54 := Fr.app N52 N53q
    have e53 := e53.trans r53_0
    refine Win.to T53 (mkF m 17 #[.val (.int p1), .val (.int (5 : Int32)), .val (.ref w_CANCELLED), .unset] [(.int (1 : Int32))]) (fun _ k => st53 _ k) ?_
    refine Win.to T53 (mkF m 18 #[.val (.int p1), .val (.int (5 : Int32)), .val (.ref w_CANCELLED), .val (.int (1 : Int32))] []) (fun _ k => XS.istoreN X53.here hx rfl (hb hby at_17) rfl (l' := #[.val (.int p1), .val (.int (5 : Int32)), .val (.ref w_CANCELLED), .val (.int (1 : Int32))]) rfl k) ?_
    refine Win.to T53 (mkF m 19 #[.val (.int p1), .val (.int (5 : Int32)), .val (.ref w_CANCELLED), .val (.int (1 : Int32))] [(.ref w_CANCELLED)]) (fun _ k => XS.aloadN X53.here hx rfl (hb hby at_18) rfl rfl k) ?_
    obtain ⟨T55, h55, v55, L55, X55, e55, ⟨rfl, N55q, r55_0⟩, st55⟩ := N.virtual X53 hx hZ (y := (⟨"com/example/usher/usher/lifecycle/ExecutionState", "isTerminal", "()Z"⟩ : MethodName)) (z := (⟨"com/example/usher/usher/lifecycle/ExecutionState", "isTerminal", "()Z"⟩ : MethodName)) hown (hw _ (List.mem_of_getElem? (i := 11) rfl)) (hw _ (List.mem_of_getElem? (i := 12) rfl)) (notFace_of_selects (args := #[]) (mvT hZ (hw _ (List.mem_of_getElem? (i := 14) rfl)))) (hw _ (List.mem_of_getElem? (i := 14) rfl)) (hw _ (List.mem_of_getElem? (i := 13) rfl)) (hw _ (List.mem_of_getElem? (i := 6) rfl)) (hw _ (List.mem_of_getElem? (i := 15) rfl)) (by decide) (isT1 l Z a0 hw w_CANCELLED x_CANCELLED_terminalEvent h0 n0 O0 F20) e53 F14 (g := (mkF m 19 #[.val (.int p1), .val (.int (5 : Int32)), .val (.ref w_CANCELLED), .val (.int (1 : Int32))] [(.ref w_CANCELLED)])) rfl (by rw [hml]; rfl) (argsL := []) (rest := []) rfl (lenOf pd___Z rfl) rfl (W := 0) (by show 2 * 0 + _ ≤ _; exact Nat.le_of_eq rfl) (hb hby at_19) (by decide) (by decide) (by decide) (by decide)
    have N56 := Fr.app N54 N55q
    have e55 := e55.trans r55_0
    refine Win.to T55 (mkF m 22 #[.val (.int p1), .val (.int (5 : Int32)), .val (.ref w_CANCELLED), .val (.int (1 : Int32))] [(.int (1 : Int32))]) (fun _ k => st55 _ k) ?_
    refine Win.to T55 (mkF m 23 #[.val (.int p1), .val (.int (5 : Int32)), .val (.ref w_CANCELLED), .val (.int (1 : Int32))] [(.int (1 : Int32)), (.int (1 : Int32))]) (fun _ k => XS.iloadN X55.here hx rfl (hb hby at_22) rfl k) ?_
    refine Win.to T55 (mkF m 26 #[.val (.int p1), .val (.int (5 : Int32)), .val (.ref w_CANCELLED), .val (.int (1 : Int32))] []) (fun _ k => XS.icmpNo X55.here hx rfl (hb hby at_23) rfl (teq (show (1 : Int32) = (1 : Int32) from by decide)).2 k) ?_
    refine Win.to T55 (mkF m 27 #[.val (.int p1), .val (.int (5 : Int32)), .val (.ref w_CANCELLED), .val (.int (1 : Int32))] [(.int (1 : Int32))]) (fun _ k => XS.iconst X55.here hx rfl (hb hby at_26) k) ?_
    refine Win.to T55 (mkF m 31 #[.val (.int p1), .val (.int (5 : Int32)), .val (.ref w_CANCELLED), .val (.int (1 : Int32))] [(.int (1 : Int32))]) (fun _ k => XS.goto X55.here hx rfl (pc0 := 27) (pc' := 31) rfl (hb hby at_27) (by decide) (by decide) k) ?_
    exact Win.retN X55 hx hlk (t := .boolean) hret (by simp) rfl (hb hby at_31) (by decide) (by decide) (by (try rw [e55]); exact ⟨rfl, N56, rfl⟩)
set_option maxRecDepth 65536 in
set_option maxHeartbeats 40000000 in
theorem comes_1 {Post : Tables → Env → Array Value → State → Outcome → State → Prop} (hpost : ∀ tb e args s v u, (limb_1_1.after args s (.returned v) u = true ∧ limb_1_2.after args s (.returned v) u = true ∧ True) → FrameEnd s (.returned v) u (Jvm.fieldLocs frame_1_writes args s ++ Jvm.arrayLocs frame_1_arrays args s ++ Jvm.staticLocs frame_1_statics s) 0 0 → Post tb e args s (.returned v) u) :
    ArmFor flags0 classFile x code maxLocals ret World_1 tables_1 room_1 Calls_1 rest_1 Pre_1 Post := by
  intro l hfl _ hworld p e ha hc hk s m args below hf hA hF happ hP
  obtain ⟨hcalls, hrest, hpre⟩ := hP
  obtain ⟨-, -, -, hnamed, -, -, -, hat⟩ := (Spec.applies_iff hf).mp happ
  obtain ⟨hg, hn⟩ := and_e (Cond.before_iff.mp (show (Jvm.Cond.and given_1 narrow_1).before args s = true from hpre))
  obtain ⟨gc, hg⟩ := and_e hg
  obtain ⟨w0, rfl⟩ : ∃ w0 : Value, args = #[w0] := by
    have hs : args.size = 1 := by simpa [Cond.value, given_1] using gc
    obtain ⟨L⟩ := args
    match L, hs with
    | [w0], _ => exact ⟨w0, rfl⟩
  have hw := fun d (hd : d ∈ tables_1) => atoms_spec (ws := Jvm.Cond.code x code maxLocals ret :: tables_1) hat d (List.mem_cons_of_mem _ hd)
  have hfit : Fit s := fun {y c} hc i hi => by
    obtain ⟨ha, rfl⟩ := Array.getElem?_eq_some_iff.mp hc
    have q := List.all_eq_true.mp ((Array.all_eq_true_iff_forall_mem.mp hF) _ (Array.getElem_mem ha)) i (List.mem_range.mpr hi)
    simpa [Array.getElem?_eq_getElem hi] using q
  obtain ⟨i0, ei0⟩ := is_v hg
  obtain rfl : w0 = (.int i0) := Option.some.inj ei0
  obtain ⟨c0, hn⟩ := and_e hn
  obtain ⟨c1, hn⟩ := and_e hn
  obtain ⟨c2, hn⟩ := and_e hn
  obtain ⟨c3, hn⟩ := and_e hn
  obtain ⟨c4, hn⟩ := and_e hn
  obtain ⟨c5, hn⟩ := and_e hn
  obtain ⟨c6, hn⟩ := and_e hn
  obtain ⟨c7, hn⟩ := and_e hn
  obtain ⟨c8, hn⟩ := and_e hn
  obtain ⟨c9, hn⟩ := and_e hn
  obtain ⟨c10, hn⟩ := and_e hn
  have c11 := hn
  obtain ⟨w_PENDING, ev_PENDING⟩ := exa_v c0
  have E_PENDING : Exa s s.heap w_PENDING "com/example/usher/usher/lifecycle/ExecutionState" := Exa.start ev_PENDING c0
  have S_PENDING : Sta s s.heap "com/example/usher/usher/lifecycle/ExecutionState" "PENDING" "Lcom/example/usher/usher/lifecycle/ExecutionState;" (.ref w_PENDING) := Sta.start ev_PENDING (Or.inr ⟨(hw _ (List.mem_of_getElem? (i := 6) rfl)), (hw _ (List.mem_of_getElem? (i := 7) rfl))⟩)
  obtain ⟨w_COMPLETED, ev_COMPLETED⟩ := exa_v c2
  have E_COMPLETED : Exa s s.heap w_COMPLETED "com/example/usher/usher/lifecycle/ExecutionState" := Exa.start ev_COMPLETED c2
  have S_COMPLETED : Sta s s.heap "com/example/usher/usher/lifecycle/ExecutionState" "COMPLETED" "Lcom/example/usher/usher/lifecycle/ExecutionState;" (.ref w_COMPLETED) := Sta.start ev_COMPLETED (Or.inr ⟨(hw _ (List.mem_of_getElem? (i := 6) rfl)), (hw _ (List.mem_of_getElem? (i := 19) rfl))⟩)
  obtain ⟨w_WAITING, ev_WAITING⟩ := exa_v c4
  have E_WAITING : Exa s s.heap w_WAITING "com/example/usher/usher/lifecycle/ExecutionState" := Exa.start ev_WAITING c4
  have S_WAITING : Sta s s.heap "com/example/usher/usher/lifecycle/ExecutionState" "WAITING" "Lcom/example/usher/usher/lifecycle/ExecutionState;" (.ref w_WAITING) := Sta.start ev_WAITING (Or.inr ⟨(hw _ (List.mem_of_getElem? (i := 6) rfl)), (hw _ (List.mem_of_getElem? (i := 21) rfl))⟩)
  obtain ⟨w_RUNNING, ev_RUNNING⟩ := exa_v c6
  have E_RUNNING : Exa s s.heap w_RUNNING "com/example/usher/usher/lifecycle/ExecutionState" := Exa.start ev_RUNNING c6
  have S_RUNNING : Sta s s.heap "com/example/usher/usher/lifecycle/ExecutionState" "RUNNING" "Lcom/example/usher/usher/lifecycle/ExecutionState;" (.ref w_RUNNING) := Sta.start ev_RUNNING (Or.inr ⟨(hw _ (List.mem_of_getElem? (i := 6) rfl)), (hw _ (List.mem_of_getElem? (i := 23) rfl))⟩)
  obtain ⟨w_CANCELLED, ev_CANCELLED⟩ := exa_v c8
  have E_CANCELLED : Exa s s.heap w_CANCELLED "com/example/usher/usher/lifecycle/ExecutionState" := Exa.start ev_CANCELLED c8
  have S_CANCELLED : Sta s s.heap "com/example/usher/usher/lifecycle/ExecutionState" "CANCELLED" "Lcom/example/usher/usher/lifecycle/ExecutionState;" (.ref w_CANCELLED) := Sta.start ev_CANCELLED (Or.inr ⟨(hw _ (List.mem_of_getElem? (i := 6) rfl)), (hw _ (List.mem_of_getElem? (i := 25) rfl))⟩)
  obtain ⟨w_FAILED, ev_FAILED⟩ := exa_v c10
  have E_FAILED : Exa s s.heap w_FAILED "com/example/usher/usher/lifecycle/ExecutionState" := Exa.start ev_FAILED c10
  have S_FAILED : Sta s s.heap "com/example/usher/usher/lifecycle/ExecutionState" "FAILED" "Lcom/example/usher/usher/lifecycle/ExecutionState;" (.ref w_FAILED) := Sta.start ev_FAILED (Or.inr ⟨(hw _ (List.mem_of_getElem? (i := 6) rfl)), (hw _ (List.mem_of_getElem? (i := 27) rfl))⟩)
  have F_PENDING_terminalEvent : Fld s s.heap w_PENDING "com/example/usher/usher/lifecycle/ExecutionState" "terminalEvent" "Ljava/lang/String;" .null := Fld.start ((fld_at ev_PENDING).symm.trans (null_v c1))
  obtain ⟨x_COMPLETED_terminalEvent, ex_COMPLETED_terminalEvent⟩ := exa_v c3
  have F_COMPLETED_terminalEvent : Fld s s.heap w_COMPLETED "com/example/usher/usher/lifecycle/ExecutionState" "terminalEvent" "Ljava/lang/String;" (.ref x_COMPLETED_terminalEvent) := Fld.start ((fld_at ev_COMPLETED).symm.trans ex_COMPLETED_terminalEvent)
  have E_COMPLETED_terminalEvent : Exa s s.heap x_COMPLETED_terminalEvent "java/lang/String" := Exa.start ex_COMPLETED_terminalEvent c3
  have F_WAITING_terminalEvent : Fld s s.heap w_WAITING "com/example/usher/usher/lifecycle/ExecutionState" "terminalEvent" "Ljava/lang/String;" .null := Fld.start ((fld_at ev_WAITING).symm.trans (null_v c5))
  have F_RUNNING_terminalEvent : Fld s s.heap w_RUNNING "com/example/usher/usher/lifecycle/ExecutionState" "terminalEvent" "Ljava/lang/String;" .null := Fld.start ((fld_at ev_RUNNING).symm.trans (null_v c7))
  obtain ⟨x_CANCELLED_terminalEvent, ex_CANCELLED_terminalEvent⟩ := exa_v c9
  have F_CANCELLED_terminalEvent : Fld s s.heap w_CANCELLED "com/example/usher/usher/lifecycle/ExecutionState" "terminalEvent" "Ljava/lang/String;" (.ref x_CANCELLED_terminalEvent) := Fld.start ((fld_at ev_CANCELLED).symm.trans ex_CANCELLED_terminalEvent)
  have E_CANCELLED_terminalEvent : Exa s s.heap x_CANCELLED_terminalEvent "java/lang/String" := Exa.start ex_CANCELLED_terminalEvent c9
  obtain ⟨x_FAILED_terminalEvent, ex_FAILED_terminalEvent⟩ := exa_v c11
  have F_FAILED_terminalEvent : Fld s s.heap w_FAILED "com/example/usher/usher/lifecycle/ExecutionState" "terminalEvent" "Ljava/lang/String;" (.ref x_FAILED_terminalEvent) := Fld.start ((fld_at ev_FAILED).symm.trans ex_FAILED_terminalEvent)
  have E_FAILED_terminalEvent : Exa s s.heap x_FAILED_terminalEvent "java/lang/String" := Exa.start ex_FAILED_terminalEvent c11
  obtain ⟨n, o, h1, h2, h3, v, L, rfl, hQ, hq⟩ := rm0 l s _ hw tables_1 i0 w_PENDING w_RUNNING w_WAITING w_COMPLETED w_FAILED w_CANCELLED x_COMPLETED_terminalEvent x_FAILED_terminalEvent x_CANCELLED_terminalEvent s.heap s.heap.size (Old.start s) S_PENDING S_RUNNING S_WAITING S_COMPLETED S_FAILED S_CANCELLED E_PENDING E_RUNNING E_WAITING E_COMPLETED E_FAILED E_CANCELLED F_PENDING_terminalEvent F_RUNNING_terminalEvent F_WAITING_terminalEvent F_COMPLETED_terminalEvent F_FAILED_terminalEvent F_CANCELLED_terminalEvent p e ha hc hk s m _ below hf ((Spec.applies_iff_loose hf).mp happ).1 ⟨rfl, State.Warmed39.refl s, rfl⟩ trivial
  obtain ⟨rfl, N, -⟩ := hQ
  refine ⟨n, _, h1, h2, h3, hpost _ _ _ _ _ _ ⟨Cond.after_iff.mpr rfl, Cond.after_iff.mpr (eq_i res_at (Term.int_eval (1)) rfl), trivial⟩ ⟨hq.1, hq.2.1, (hq.2.2.sift fun y hy => Or.inr (N y hy)).mono (by decide) (by decide)⟩⟩
theorem main_1_1 : Claimed_1_1 := comes_1 fun _ _ _ _ _ _ h hF => ⟨h.1, hF⟩
theorem main_1_2 : Claimed_1_2 := comes_1 fun _ _ _ _ _ _ h hF => ⟨h.2.1, hF⟩
end Jvm.Pilot.@@N@@
namespace Jvm.Pilot.@@N@@
open Jvm Jvm.ClassFile Sem Op Lib Jvm.Free Jvm.Stand Jvm.Pilot.@@N@@.Jvm.D
/-! MADE BY PROGRAM (witnessworld.py) out of the Statement's table words and the real class files: 15 classes; the members and pool entries that the words name. The judged class is class 1, her method 1. -/
namespace start1
open Jvm.ClassFile
def u (s : String) : CpInfo := .utf8 (stringToUtf16 s)
/-- a pool by its gaps: so many unusable entries, then the entry; so many at the end -/
def gap : Nat → List CpInfo → List CpInfo
  | 0, r => r
  | n + 1, r => .unusable :: gap n r
def poolList (es : List (Nat × CpInfo)) (last : Nat) : List CpInfo := es.foldr (fun e r => gap e.1 (e.2 :: r)) (gap last [])
def pool (es : List (Nat × CpInfo)) (last : Nat) : Array CpInfo := ⟨poolList es last⟩
def fileOf (pool : Array CpInfo) (this : Nat) (attrs : Array Attribute := #[]) (ms : Array MethodInfo := #[]) (fl : Nat := 33) (sup : Nat := 0) (ifs : Array Nat := #[]) (fds : Array FieldInfo := #[]) : ClassFile where
  minorVersion := 0
  majorVersion := 65
  constantPool := pool
  accessFlags := fl
  thisClass := this
  superClass := sup
  interfaces := ifs
  fields := fds
  methods := ms
  attributes := attrs
def plain (name : String) (sup : Option ClassId) : Class where
  name := name
  kind := .ordinary
  loader := none
  accessFlags := 33
  super := sup
  interfaces := #[]
  cf := none
  fields := #[]
  methods := #[]
  instanceTypes := #[]
  staticTypes := #[]
  resolved := #[]
  callSites := []
  init := .initialized
  statics := none
  mirror := none

def pool0 : Array CpInfo := pool [(5, u "<init>"), (0, u "()V"), (1, .class_ 10), (1, u "java/lang/Object")] 113

def k0m0 : Method := { name := "<init>", desc := "()V", sig := { parameters := [], returnType := none }, accessFlags := 1, code := none }
/-- java/lang/Object -/
def k0 : Class := { plain "java/lang/Object" none with
  accessFlags := 33
  interfaces := #[]
  cf := some (fileOf pool0 8 #[] #[{ accessFlags := 1, nameIndex := 5, descriptorIndex := 6, attributes := #[] }] 33 0 #[] #[])
  fields := #[]
  methods := #[k0m0]
  instanceTypes := #[]
  staticTypes := #[]
  resolved := Array.replicate 124 none
  statics := none }

def pool1 : Array CpInfo := pool [(2, .class_ 4), (1, u "java/lang/Object"), (0, u "<init>"), (0, u "()V"), (0, .integer 2147483647), (0, .methodref 9 10), (0, .class_ 11), (0, .nameAndType 12 13), (0, u "com/example/usher/usher/lifecycle/ExecutionStateIsTerminalPinLaw"), (0, u "pick"), (0, u "(I)Lcom/example/usher/usher/lifecycle/ExecutionState;"), (0, .methodref 9 15), (0, .nameAndType 16 17), (0, u "expectedTerminal"), (0, u "(I)Z"), (0, .methodref 19 20), (0, .class_ 21), (0, .nameAndType 22 23), (0, u "com/example/usher/usher/lifecycle/ExecutionState"), (0, u "isTerminal"), (0, u "()Z"), (0, .fieldref 19 25), (0, .nameAndType 26 27), (0, u "PENDING"), (0, u "Lcom/example/usher/usher/lifecycle/ExecutionState;"), (0, .fieldref 19 29), (0, .nameAndType 30 27), (0, u "RUNNING"), (0, .fieldref 19 32), (0, .nameAndType 33 27), (0, u "WAITING"), (0, .fieldref 19 35), (0, .nameAndType 36 27), (0, u "COMPLETED"), (0, .fieldref 19 38), (0, .nameAndType 39 27), (0, u "FAILED"), (0, .fieldref 19 41), (0, .nameAndType 42 27), (0, u "CANCELLED"), (2, u "law")] 3

def k1m0 : Method := { name := "<init>", desc := "()V", sig := { parameters := [], returnType := none }, accessFlags := 1, code := none }
def k1c1 : Code := { maxStack := 2, maxLocals := 4, code := code, exceptionTable := #[], attributes := #[] }
def k1m1 : Method := { name := "law", desc := "(I)Z", sig := { parameters := [.int], returnType := some .boolean }, accessFlags := 9, code := some k1c1 }
def k1c2 : Code := { maxStack := 2, maxLocals := 1, code := method_3_code, exceptionTable := #[], attributes := #[] }
def k1m2 : Method := { name := "pick", desc := "(I)Lcom/example/usher/usher/lifecycle/ExecutionState;", sig := { parameters := [.int], returnType := some (.object "com/example/usher/usher/lifecycle/ExecutionState") }, accessFlags := 10, code := some k1c2 }
def k1c3 : Code := { maxStack := 2, maxLocals := 1, code := method_4_code, exceptionTable := #[], attributes := #[] }
def k1m3 : Method := { name := "expectedTerminal", desc := "(I)Z", sig := { parameters := [.int], returnType := some .boolean }, accessFlags := 10, code := some k1c3 }
/-- com/example/usher/usher/lifecycle/ExecutionStateIsTerminalPinLaw -/
def k1 : Class := { plain "com/example/usher/usher/lifecycle/ExecutionStateIsTerminalPinLaw" (some 0) with
  accessFlags := 49
  interfaces := #[]
  cf := some (fileOf pool1 9 #[] #[{ accessFlags := 1, nameIndex := 5, descriptorIndex := 6, attributes := #[] }, { accessFlags := 9, nameIndex := 45, descriptorIndex := 17, attributes := #[] }, { accessFlags := 10, nameIndex := 12, descriptorIndex := 13, attributes := #[] }, { accessFlags := 10, nameIndex := 16, descriptorIndex := 17, attributes := #[] }] 49 2 #[] #[])
  fields := #[]
  methods := #[k1m0, k1m1, k1m2, k1m3]
  instanceTypes := #[]
  staticTypes := #[]
  resolved := Array.replicate 49 none
  statics := none }

def pool2 : Array CpInfo := pool [(1, .class_ 2), (0, u "java/lang/constant/Constable"), (0, .class_ 4), (0, u "java/lang/Object")] 6

/-- java/lang/constant/Constable -/
def k2 : Class := { plain "java/lang/constant/Constable" (some 0) with
  accessFlags := 1537
  interfaces := #[]
  cf := some (fileOf pool2 1 #[] #[] 1537 3 #[] #[])
  fields := #[]
  methods := #[]
  instanceTypes := #[]
  staticTypes := #[]
  resolved := Array.replicate 11 none
  statics := none }

def pool3 : Array CpInfo := pool [(1, .class_ 2), (0, u "java/lang/Comparable"), (0, .class_ 4), (0, u "java/lang/Object")] 7

/-- java/lang/Comparable -/
def k3 : Class := { plain "java/lang/Comparable" (some 0) with
  accessFlags := 1537
  interfaces := #[]
  cf := some (fileOf pool3 1 #[] #[] 1537 3 #[] #[])
  fields := #[]
  methods := #[]
  instanceTypes := #[]
  staticTypes := #[]
  resolved := Array.replicate 12 none
  statics := none }

def pool4 : Array CpInfo := pool [(1, .class_ 2), (0, u "java/io/Serializable"), (0, .class_ 4), (0, u "java/lang/Object")] 2

/-- java/io/Serializable -/
def k4 : Class := { plain "java/io/Serializable" (some 0) with
  accessFlags := 1537
  interfaces := #[]
  cf := some (fileOf pool4 1 #[] #[] 1537 3 #[] #[])
  fields := #[]
  methods := #[]
  instanceTypes := #[]
  staticTypes := #[]
  resolved := Array.replicate 7 none
  statics := none }

def pool5 : Array CpInfo := pool [(2, .class_ 4), (1, u "java/lang/Enum"), (0, u "name"), (0, u "Ljava/lang/String;"), (2, u "ordinal"), (0, u "I"), (1, .class_ 14), (1, u "java/lang/Object"), (4, u "hash"), (86, .class_ 108), (1, u "java/lang/Enum$EnumDesc"), (2, .class_ 112), (0, u "java/lang/constant/Constable"), (0, .class_ 114), (0, u "java/lang/Comparable"), (0, .class_ 116), (0, u "java/io/Serializable")] 87

/-- java/lang/Enum -/
def k5 : Class := { plain "java/lang/Enum" (some 0) with
  accessFlags := 1057
  interfaces := #[2, 3, 4]
  cf := some (fileOf pool5 2 #[.nestMembers #[106]] #[] 1057 12 #[111, 113, 115] #[{ accessFlags := 18, nameIndex := 5, descriptorIndex := 6, attributes := #[] }, { accessFlags := 18, nameIndex := 9, descriptorIndex := 10, attributes := #[] }, { accessFlags := 2, nameIndex := 19, descriptorIndex := 10, attributes := #[] }])
  fields := #[{ name := "name", type := (.object "java/lang/String"), accessFlags := 18, slot := 0, constantValue := 0 }, { name := "ordinal", type := .int, accessFlags := 18, slot := 1, constantValue := 0 }, { name := "hash", type := .int, accessFlags := 2, slot := 2, constantValue := 0 }]
  methods := #[]
  instanceTypes := #[(.object "java/lang/String"), .int, .int]
  staticTypes := #[]
  resolved := Array.replicate 204 none
  statics := none }

def pool6 : Array CpInfo := pool [(1, .class_ 2), (0, u "com/example/usher/usher/lifecycle/ExecutionState"), (2, u "PENDING"), (0, u "Lcom/example/usher/usher/lifecycle/ExecutionState;"), (2, u "RUNNING"), (2, u "WAITING"), (2, u "COMPLETED"), (2, u "FAILED"), (2, u "CANCELLED"), (2, u "$VALUES"), (0, u "[Lcom/example/usher/usher/lifecycle/ExecutionState;"), (6, .class_ 34), (1, u "java/lang/Enum"), (6, .fieldref 1 42), (0, .nameAndType 43 44), (0, u "terminalEvent"), (0, u "Ljava/lang/String;"), (32, u "isTerminal"), (0, u "()Z")] 8

def k6c0 : Code := { maxStack := 1, maxLocals := 1, code := prog_34_method_4_code, exceptionTable := #[], attributes := #[] }
def k6m0 : Method := { name := "isTerminal", desc := "()Z", sig := { parameters := [], returnType := some .boolean }, accessFlags := 1, code := some k6c0 }
/-- com/example/usher/usher/lifecycle/ExecutionState -/
def k6 : Class := { plain "com/example/usher/usher/lifecycle/ExecutionState" (some 5) with
  accessFlags := 16433
  interfaces := #[]
  cf := some (fileOf pool6 1 #[] #[{ accessFlags := 1, nameIndex := 77, descriptorIndex := 78, attributes := #[] }] 16433 32 #[] #[{ accessFlags := 16409, nameIndex := 5, descriptorIndex := 6, attributes := #[] }, { accessFlags := 16409, nameIndex := 9, descriptorIndex := 6, attributes := #[] }, { accessFlags := 16409, nameIndex := 12, descriptorIndex := 6, attributes := #[] }, { accessFlags := 16409, nameIndex := 15, descriptorIndex := 6, attributes := #[] }, { accessFlags := 16409, nameIndex := 18, descriptorIndex := 6, attributes := #[] }, { accessFlags := 16409, nameIndex := 21, descriptorIndex := 6, attributes := #[] }, { accessFlags := 18, nameIndex := 43, descriptorIndex := 44, attributes := #[] }, { accessFlags := 4122, nameIndex := 24, descriptorIndex := 25, attributes := #[] }])
  fields := #[{ name := "PENDING", type := (.object "com/example/usher/usher/lifecycle/ExecutionState"), accessFlags := 16409, slot := 0, constantValue := 0 }, { name := "RUNNING", type := (.object "com/example/usher/usher/lifecycle/ExecutionState"), accessFlags := 16409, slot := 1, constantValue := 0 }, { name := "WAITING", type := (.object "com/example/usher/usher/lifecycle/ExecutionState"), accessFlags := 16409, slot := 2, constantValue := 0 }, { name := "COMPLETED", type := (.object "com/example/usher/usher/lifecycle/ExecutionState"), accessFlags := 16409, slot := 3, constantValue := 0 }, { name := "FAILED", type := (.object "com/example/usher/usher/lifecycle/ExecutionState"), accessFlags := 16409, slot := 4, constantValue := 0 }, { name := "CANCELLED", type := (.object "com/example/usher/usher/lifecycle/ExecutionState"), accessFlags := 16409, slot := 5, constantValue := 0 }, { name := "terminalEvent", type := (.object "java/lang/String"), accessFlags := 18, slot := 3, constantValue := 0 }, { name := "$VALUES", type := (.array (.object "com/example/usher/usher/lifecycle/ExecutionState")), accessFlags := 4122, slot := 6, constantValue := 0 }]
  methods := #[k6m0]
  instanceTypes := #[(.object "java/lang/String"), .int, .int, (.object "java/lang/String")]
  staticTypes := #[(.object "com/example/usher/usher/lifecycle/ExecutionState"), (.object "com/example/usher/usher/lifecycle/ExecutionState"), (.object "com/example/usher/usher/lifecycle/ExecutionState"), (.object "com/example/usher/usher/lifecycle/ExecutionState"), (.object "com/example/usher/usher/lifecycle/ExecutionState"), (.object "com/example/usher/usher/lifecycle/ExecutionState"), (.array (.object "com/example/usher/usher/lifecycle/ExecutionState"))]
  resolved := Array.replicate 87 none
  statics := some 0 }

def pool7 : Array CpInfo := pool [(2, .class_ 4), (1, u "java/lang/CharSequence"), (42, .class_ 48), (0, u "java/lang/CharSequence$1CodePointIterator"), (10, .class_ 60), (0, u "java/lang/CharSequence$1CharIterator"), (5, .class_ 67), (0, u "java/lang/Object")] 63

/-- java/lang/CharSequence -/
def k7 : Class := { plain "java/lang/CharSequence" (some 0) with
  accessFlags := 1537
  interfaces := #[]
  cf := some (fileOf pool7 2 #[.nestMembers #[47, 59]] #[] 1537 66 #[] #[])
  fields := #[]
  methods := #[]
  instanceTypes := #[]
  staticTypes := #[]
  resolved := Array.replicate 131 none
  statics := none }

def pool8 : Array CpInfo := pool [(1, .class_ 2), (0, u "java/lang/constant/ConstantDesc"), (0, .class_ 4), (0, u "java/lang/Object")] 32

/-- java/lang/constant/ConstantDesc -/
def k8 : Class := { plain "java/lang/constant/ConstantDesc" (some 0) with
  accessFlags := 1537
  interfaces := #[]
  cf := some (fileOf pool8 1 #[] #[] 1537 3 #[] #[])
  fields := #[]
  methods := #[]
  instanceTypes := #[]
  staticTypes := #[]
  resolved := Array.replicate 37 none
  statics := none }

def pool9 : Array CpInfo := pool [(2, .class_ 4), (1, u "java/lang/Object"), (0, u "<init>"), (0, u "()V"), (3, .class_ 12), (1, u "java/lang/String"), (0, u "value"), (0, u "[B"), (2, u "coder"), (0, u "B"), (2, u "hash"), (0, u "I"), (2, u "hashIsZero"), (0, u "Z"), (13, u "COMPACT_STRINGS"), (534, .class_ 576), (0, u "java/lang/CharSequence"), (22, u "CASE_INSENSITIVE_ORDER"), (0, u "Ljava/util/Comparator;"), (500, u "serialPersistentFields"), (0, u "[Ljava/io/ObjectStreamField;"), (0, .class_ 1104), (0, u "java/lang/String$CaseInsensitiveComparator"), (1, .class_ 1107), (0, u "java/io/Serializable"), (0, .class_ 1109), (0, u "java/lang/Comparable"), (0, .class_ 1111), (0, u "java/lang/constant/Constable"), (0, .class_ 1113), (0, u "java/lang/constant/ConstantDesc"), (2, u "serialVersionUID"), (0, u "J"), (3, u "REPL"), (0, u "C"), (2, u "LATIN1"), (1, u "UTF16")] 323

def k9m0 : Method := { name := "<init>", desc := "()V", sig := { parameters := [], returnType := none }, accessFlags := 1, code := none }
/-- java/lang/String -/
def k9 : Class := { plain "java/lang/String" (some 0) with
  accessFlags := 49
  interfaces := #[4, 3, 7, 2, 8]
  cf := some (fileOf pool9 10 #[.nestMembers #[1103]] #[{ accessFlags := 1, nameIndex := 5, descriptorIndex := 6, attributes := #[] }] 49 2 #[1106, 1108, 575, 1110, 1112] #[{ accessFlags := 18, nameIndex := 13, descriptorIndex := 14, attributes := #[] }, { accessFlags := 18, nameIndex := 17, descriptorIndex := 18, attributes := #[] }, { accessFlags := 2, nameIndex := 21, descriptorIndex := 22, attributes := #[] }, { accessFlags := 2, nameIndex := 25, descriptorIndex := 26, attributes := #[] }, { accessFlags := 26, nameIndex := 1116, descriptorIndex := 1117, attributes := #[] }, { accessFlags := 24, nameIndex := 40, descriptorIndex := 26, attributes := #[] }, { accessFlags := 26, nameIndex := 1101, descriptorIndex := 1102, attributes := #[] }, { accessFlags := 26, nameIndex := 1121, descriptorIndex := 1122, attributes := #[] }, { accessFlags := 25, nameIndex := 599, descriptorIndex := 600, attributes := #[] }, { accessFlags := 24, nameIndex := 1125, descriptorIndex := 18, attributes := #[] }, { accessFlags := 24, nameIndex := 1127, descriptorIndex := 18, attributes := #[] }])
  fields := #[{ name := "value", type := (.array .byte), accessFlags := 18, slot := 0, constantValue := 0 }, { name := "coder", type := .byte, accessFlags := 18, slot := 1, constantValue := 0 }, { name := "hash", type := .int, accessFlags := 2, slot := 2, constantValue := 0 }, { name := "hashIsZero", type := .boolean, accessFlags := 2, slot := 3, constantValue := 0 }, { name := "serialVersionUID", type := .long, accessFlags := 26, slot := 0, constantValue := 0 }, { name := "COMPACT_STRINGS", type := .boolean, accessFlags := 24, slot := 1, constantValue := 0 }, { name := "serialPersistentFields", type := (.array (.object "java/io/ObjectStreamField")), accessFlags := 26, slot := 2, constantValue := 0 }, { name := "REPL", type := .char, accessFlags := 26, slot := 3, constantValue := 0 }, { name := "CASE_INSENSITIVE_ORDER", type := (.object "java/util/Comparator"), accessFlags := 25, slot := 4, constantValue := 0 }, { name := "LATIN1", type := .byte, accessFlags := 24, slot := 5, constantValue := 0 }, { name := "UTF16", type := .byte, accessFlags := 24, slot := 6, constantValue := 0 }]
  methods := #[k9m0]
  instanceTypes := #[(.array .byte), .byte, .int, .boolean]
  staticTypes := #[.long, .boolean, (.array (.object "java/io/ObjectStreamField")), .char, (.object "java/util/Comparator"), .byte, .byte]
  resolved := Array.replicate 1451 none
  statics := none }

def pool10 : Array CpInfo := pool [(1, u "java/lang/Cloneable"), (0, .class_ 1), (0, u "java/lang/Object"), (0, .class_ 3)] 3

/-- java/lang/Cloneable -/
def k10 : Class := { plain "java/lang/Cloneable" (some 0) with
  accessFlags := 1537
  interfaces := #[]
  cf := some (fileOf pool10 2 #[] #[] 1537 4 #[] #[])
  fields := #[]
  methods := #[]
  instanceTypes := #[]
  staticTypes := #[]
  resolved := Array.replicate 8 none
  statics := none }

/-- the primitive byte -/
def k11 : Class := { plain "byte" none with kind := .primitive 'B', accessFlags := 0x411 }
/-- [B -/
def k12 : Class := { plain "[B" (some 0) with kind := .array 11 .byte, interfaces := #[10, 4], accessFlags := 1041 }

/-- the primitive int -/
def k13 : Class := { plain "int" none with kind := .primitive 'I', accessFlags := 0x411 }
/-- [I -/
def k14 : Class := { plain "[I" (some 0) with kind := .array 13 .int, interfaces := #[10, 4], accessFlags := 1041 }

def heap : Heap := #[{ cls := 6, slots := #[.ref 1, .ref 2, .ref 3, .ref 4, .ref 5, .ref 6, .null], vm := .statics 6 },
  { cls := 6, slots := #[.null, .int 0, .int 0, .null], vm := .none },
  { cls := 6, slots := #[.null, .int 1, .int 0, .null], vm := .none },
  { cls := 6, slots := #[.null, .int 2, .int 0, .null], vm := .none },
  { cls := 6, slots := #[.null, .int 3, .int 0, .ref 7], vm := .none },
  { cls := 6, slots := #[.null, .int 4, .int 0, .ref 7], vm := .none },
  { cls := 6, slots := #[.null, .int 5, .int 0, .ref 7], vm := .none },
  { cls := 9, slots := #[.null, .int 0, .int 0, .int 0], vm := .none }]
def classes : Array Class := #[k0, k1, k2, k3, k4, k5, k6, k7, k8, k9, k10, k11, k12, k13, k14]
def interned : List (Array UInt16 × Addr) := []
def slotsUsed : Nat := 35
def theMethod : MethodId := ⟨1, 1⟩
def args0 : Array Value := #[.int 5]
def aboutOver (below : List Frame) : State where
  vm := { classes := classes, interned := interned.toArray }
  heap := heap
  slotsUsed := slotsUsed
  threads := #[{ frames := .invoking theMethod args0 :: below }]
def below0 : List Frame := [.native { method := ⟨0, 0⟩, args := #[] }]
def about1 : State := aboutOver below0
def p0 : Program := .bare "" "" ""
def e0 : Env := launch0.env 0 0 0
theorem w_frames : about1.frames = Frame.invoking theMethod args0 :: below0 := rfl
set_option maxRecDepth 65536 in
theorem w_args : argsFit about1.vm theMethod args0 = true := by decide +kernel
set_option maxRecDepth 65536 in
theorem w_heap : heapFits about1 = true := by decide +kernel
set_option maxRecDepth 65536 in
theorem w_runnable : about1.curStatus? = some .runnable := by decide +kernel
set_option maxRecDepth 65536 in
theorem w_alone : about1.alone = true := by decide +kernel
set_option maxRecDepth 65536 in
theorem w_named : about1.methodNamed? x = some theMethod := by decide +kernel
set_option maxRecDepth 65536 in
theorem w_hears : about1.hears theMethod below0 = true := by decide +kernel
set_option maxRecDepth 65536 in
theorem w_ripe : about1.ripe theMethod args0 below0 = true := by decide +kernel
theorem w_running : about1.status = .running := rfl
set_option maxRecDepth 65536 in
theorem w_room : about1.hasRoom e0.platform room_1 = true :=
  launch0.hasRoom_least _ room_1 (by decide +kernel) (by decide +kernel) (by decide +kernel) (by decide +kernel) (by decide +kernel) (by decide +kernel)
theorem allAtoms_all (ts : List Jvm.Cond) (a : Array Jvm.Value) (st : Jvm.State) : (allAtoms ts).before a st = ts.all (fun c => c.before a st) := by
  induction ts with
  | nil => rfl
  | cons c t ih =>
    show (Jvm.Cond.and c (allAtoms t)).before a st = _
    rw [Jvm.Cond.before_and, ih, List.all_cons]
def words1 : List Jvm.Cond := Jvm.Cond.code x code maxLocals ret :: tables_1
/-- a 'code' word, met by the world's own term for the bytes: nothing is compared byte by byte -/
theorem code_word {y : MethodName} {bytes : ByteArray} {mx : Nat} {rt : Option FieldType} {a : Array Value} {s : State} {m : MethodId} {meth : Method} {c : Code} (h1 : s.methodNamed? y = some m) (h2 : s.vm.method? m = some meth) (h3 : meth.code = some c) (h4 : c.code = bytes)
    (h5 : (c.maxLocals == mx && c.exceptionTable.isEmpty && decide (c.maxStack ≤ mostOperands) && decide (meth.sig.returnType = rt) && !meth.locks && decide (parseMethodDescriptor y.desc = some meth.sig)) = true) : (Jvm.Cond.code y bytes mx rt).before a s = true := by
  simp only [Bool.and_eq_true, beq_iff_eq, Bool.not_eq_true', decide_eq_true_eq] at h5
  obtain ⟨⟨⟨⟨⟨g1, g2⟩, g3⟩, g4⟩, g5⟩, g6⟩ := h5
  simp [Cond.before, Cond.holds, Cond.value, h1, h2, h3, h4, g1, g2, g3, g4, g5, g6]
def isCode : Jvm.Cond → Bool
  | .code _ _ _ _ => true
  | _ => false
theorem all_split {L : List Jvm.Cond} {P : Jvm.Cond → Bool} (h1 : L.all (fun c => isCode c || P c) = true) (h2 : ∀ c ∈ L.filter isCode, P c = true) : L.all P = true := by
  refine List.all_eq_true.mpr fun c hc => ?_
  have h := List.all_eq_true.mp h1 c hc
  rcases Bool.eq_false_or_eq_true (isCode c) with hi | hi
  · exact h2 c (List.mem_filter.mpr ⟨hc, hi⟩)
  · simpa [hi] using h
set_option maxRecDepth 65536 in
theorem w_c0 : (Jvm.Cond.code x code maxLocals ret).before args0 about1 = true := code_word (m := ⟨1, 1⟩) (meth := k1m1) (c := k1c1) (by decide +kernel) rfl rfl rfl (by decide +kernel)
set_option maxRecDepth 65536 in
theorem w_c1 : (Jvm.Cond.code ({ cls := "com/example/usher/usher/lifecycle/ExecutionStateIsTerminalPinLaw", name := "pick", desc := "(I)Lcom/example/usher/usher/lifecycle/ExecutionState;" } : Jvm.MethodName) method_3_code (1 : Nat) (Option.some (Jvm.ClassFile.FieldType.object "com/example/usher/usher/lifecycle/ExecutionState"))).before args0 about1 = true := code_word (m := ⟨1, 2⟩) (meth := k1m2) (c := k1c2) (by decide +kernel) rfl rfl rfl (by decide +kernel)
set_option maxRecDepth 65536 in
theorem w_c2 : (Jvm.Cond.code ({ cls := "com/example/usher/usher/lifecycle/ExecutionStateIsTerminalPinLaw", name := "expectedTerminal", desc := "(I)Z" } : Jvm.MethodName) method_4_code (1 : Nat) (Option.some Jvm.ClassFile.FieldType.boolean)).before args0 about1 = true := code_word (m := ⟨1, 3⟩) (meth := k1m3) (c := k1c3) (by decide +kernel) rfl rfl rfl (by decide +kernel)
set_option maxRecDepth 65536 in
theorem w_c3 : (Jvm.Cond.code ({ cls := "com/example/usher/usher/lifecycle/ExecutionState", name := "isTerminal", desc := "()Z" } : Jvm.MethodName) prog_34_method_4_code (1 : Nat) (Option.some Jvm.ClassFile.FieldType.boolean)).before args0 about1 = true := code_word (m := ⟨6, 0⟩) (meth := k6m0) (c := k6c0) (by decide +kernel) rfl rfl rfl (by decide +kernel)
def codes1 : List Jvm.Cond := [Jvm.Cond.code x code maxLocals ret, Jvm.Cond.code ({ cls := "com/example/usher/usher/lifecycle/ExecutionStateIsTerminalPinLaw", name := "pick", desc := "(I)Lcom/example/usher/usher/lifecycle/ExecutionState;" } : Jvm.MethodName) method_3_code (1 : Nat) (Option.some (Jvm.ClassFile.FieldType.object "com/example/usher/usher/lifecycle/ExecutionState")), Jvm.Cond.code ({ cls := "com/example/usher/usher/lifecycle/ExecutionStateIsTerminalPinLaw", name := "expectedTerminal", desc := "(I)Z" } : Jvm.MethodName) method_4_code (1 : Nat) (Option.some Jvm.ClassFile.FieldType.boolean), Jvm.Cond.code ({ cls := "com/example/usher/usher/lifecycle/ExecutionState", name := "isTerminal", desc := "()Z" } : Jvm.MethodName) prog_34_method_4_code (1 : Nat) (Option.some Jvm.ClassFile.FieldType.boolean)]
set_option maxRecDepth 65536 in
theorem codes_eq : words1.filter isCode = codes1 := rfl
theorem w_codes : ∀ c ∈ words1.filter isCode, c.before args0 about1 = true := by
  rw [codes_eq]
  intro c hc
  simp only [codes1, List.mem_cons, List.not_mem_nil, or_false] at hc
  rcases hc with rfl | rfl | rfl | rfl
  · exact w_c0
  · exact w_c1
  · exact w_c2
  · exact w_c3
set_option maxRecDepth 65536 in
theorem w_t1 : (words1.take 24).all (fun c => isCode c || c.before args0 about1) = true := by decide +kernel
set_option maxRecDepth 65536 in
theorem w_t2 : (words1.drop 24).all (fun c => isCode c || c.before args0 about1) = true := by decide +kernel
theorem w_tables : (allAtoms (Jvm.Cond.code x code maxLocals ret :: tables_1)).before args0 about1 = true := by
  rw [allAtoms_all]
  show words1.all (fun c => c.before args0 about1) = true
  refine all_split ?_ w_codes
  rw [← List.take_append_drop 24 words1, List.all_append, w_t1, w_t2]
  rfl
set_option maxRecDepth 65536 in
theorem w_case : (Jvm.Cond.and given_1 narrow_1).before args0 about1 = true := by decide +kernel
theorem w_applies : (headSpec (Jvm.Cond.code x code maxLocals ret :: tables_1) room_1).applies x e0.platform about1 = true :=
  (Spec.applies_iff w_frames).mpr ⟨w_running, w_runnable, w_alone, w_named, w_hears, w_ripe, w_room, w_tables⟩
theorem atStart : AtStart classFile x code maxLocals ret World_1 tables_1 room_1 Calls_1 rest_1 Pre_1 launch0 p0 e0 about1 theMethod args0 below0 :=
  ⟨lists_1, trivial, launch0.admits_env _ _ _, launch0.least_env, fairChoices_fair.cas, fairChoices_fair.clock, w_frames, w_args, w_heap, w_applies, trivial, trivial, w_case⟩
end start1
theorem witness_1 : WitnessClaimed_1 := ⟨start1.p0, start1.e0, start1.about1, start1.theMethod, start1.args0, start1.below0, start1.atStart⟩
end Jvm.Pilot.@@N@@
