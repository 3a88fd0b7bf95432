import JvmDerived
import JvmDerived.Pilot.@@N@@Statement
import JvmDerived.Pilot.@@N@@Code
set_option linter.unusedVariables false
set_option linter.unusedSimpArgs false

namespace Jvm.Pilot.@@N@@
open Jvm Jvm.ClassFile Sem Op Lib Jvm.Free Jvm.Stand Jvm.LawKit Jvm.RoadKit Bundle Jvm.Pilot.@@N@@.Jvm.D
/-! own text: the run of a body in continuation form -/
section OwnKit
variable {wd : Option (Vm → Heap → Prop)} {p : Program} {l : Launch} {e : Env} {R : Room} {s : State} {m : MethodId} {args : Array Value} {below : List Frame} {meth : Method} {c : Code} {T : State} {locs : List Loc} {cells slots : Nat} {Z : State} {a0 : Array Value} {h : Heap} {Qb : Option Value → Heap → List Loc → Prop} {kc ks : Nat}
/-- from the state T with the frame g on top the run comes to the end of the body, and there Qb holds -/
def OkF (wd : Option (Vm → Heap → Prop)) (vm : Vm) (h : Heap) : Prop := match wd with
  | none => True
  | some F => F vm h
def FE (wd : Option (Vm → Heap → Prop)) (s : State) (o : Outcome) (t : State) (L : List Loc) (k n : Nat) : Prop := match wd with
  | none => FrameEnd s o t L k n
  | some F => ReturnedEndW s o t L k n ∧ F t.vm t.heap
theorem FE.of {s t : State} {o : Outcome} {L : List Loc} {k n : Nat} {wd : Option (Vm → Heap → Prop)} (h : FrameEnd s o t L k n) (g : OkF wd t.vm t.heap) : FE wd s o t L k n := by
  cases wd
  · exact h
  · exact ⟨ReturnedEndW.of_narrow h.1 h.2.1 h.2.2, g⟩
def Ends (wd : Option (Vm → Heap → Prop)) (p : Program) (e : Env) (below : List Frame) (s : State) (Qb : Option Value → Heap → List Loc → Prop) (kc ks : Nat) (T : State) (g : JFrame) : Prop :=
  ∃ s₂ o, Steps p.tables e below (T.setTop g) s₂ ∧ s₂.status = .running ∧ Ended s₂ below o ∧ ∃ v L, o = .returned v ∧ Qb v s₂.heap L ∧ FE wd s o s₂ L kc ks
theorem Ends.go {T T' : State} {g g' : JFrame} (h : ∀ t, Steps p.tables e below (T'.setTop g') t → Steps p.tables e below (T.setTop g) t) (k : Ends wd p e below s Qb kc ks T' g') : Ends wd p e below s Qb kc ks T g := by
  obtain ⟨s2, o, st, r⟩ := k
  exact ⟨s2, o, h _ st, r⟩
theorem Ends.cast {T : State} {g g' : JFrame} (h : g = g') (k : Ends wd p e below s Qb kc ks T g') : Ends wd p e below s Qb kc ks T g := h ▸ k
abbrev Con (l : Launch) (y : MethodName) (code : ByteArray) (ml : Nat) (rt : Option FieldType) (ws : List Jvm.Cond) (rm : Room) (as' : Array Value) (Z : State) (h0 : Heap) (Q : Option Value → Heap → List Loc → Prop) : Prop :=
  MetFree l y (head1 (Jvm.Cond.code y code ml rt :: ws) rm) (fun a U => a = as' ∧ Z.Warmed39 U.vm ∧ U.heap = h0) (fun _ _ _ _ _ => True) (fun _ U o U' => ∃ v L, o = .returned v ∧ Q v U'.heap L ∧ FrameEnd U o U' L rm.cells rm.slots)
theorem Con.of {y : MethodName} {code : ByteArray} {ml : Nat} {rt : Option FieldType} {ws : List Jvm.Cond} {rm : Room} {as' : Array Value} {h0 : Heap} {Q : Option Value → Heap → List Loc → Prop} (hp : plainFor y = true)
    (k : ∀ (p : Program) (e : Env) (s : State) (m : MethodId) (below : List Frame) (meth : Method) (c : Code) (s₁ : State), p.tables.exec = Jvm.exec → Z.Warmed39 s.vm → c.code = code → c.maxLocals = ml → s.vm.findClass y.cls = some m.cls → meth.name = y.name → meth.sig.returnType = rt → meth.locks = false →
      Stand p l e rm s m as' below meth c s₁ [] 0 0 → s₁.heap = h0 → Ends none p e below s Q rm.cells rm.slots s₁ (entryFrame m as' ml)) : Con l y code ml rt ws rm as' Z h0 Q := by
  refine MetFree.of_bodySF hp hisR ?_
  intro p e s m args below meth c s₁ Bd hml0 hP hK
  obtain ⟨rfl, hZ, hh⟩ := hP
  exact k p e s m below meth c s₁ Bd.exec hZ Bd.bytes hml0 (findClass_of_methodNamed Bd.named) (name_of_methodNamed Bd.named Bd.method).1 Bd.returns Bd.notSynchronized (Stand.of_body Bd) (by rw [← hh, Bd.state]; rfl)
theorem Ends.ret (X : Stand p l e R s m args below meth c T locs cells slots) (hx : p.tables.exec = Jvm.exec) (hlk : meth.locks = false) {pc : Nat} {Ls : Array Slot} {w : Value} {t : FieldType} {i : Instr} {rest : List Value} (hret : meth.sig.returnType = some t) (hn : narrow t w = w)
    (hi : (i = .ireturn ∧ (t = .int ∨ t = .boolean ∨ t = .byte ∨ t = .char ∨ t = .short) ∧ ∃ z, w = .int z) ∨ (i = .lreturn ∧ t = .long ∧ ∃ z, w = .long z) ∨ (i = .dreturn ∧ t = .double ∧ ∃ z, w = .double z) ∨ (i = .freturn ∧ t = .float ∧ ∃ z, w = .float z) ∨ (i = .areturn ∧ t.isReference = true ∧ w.isRef = true))
    (hd : decode c.code pc = .ok (i, 1)) (hc : cells ≤ kc) (hs : slots ≤ ks) (hQ : Qb (some w) T.heap locs) (hF : OkF wd T.vm T.heap := by exact True.intro) : Ends wd p e below s Qb kc ks T (mkF m pc Ls (w :: rest)) := by
  obtain ⟨fs, hr, hrun, hended, hW, hsame⟩ := X.leave (v := some w) (fun h => by rw [hret] at h; cases h) hlk
  exact ⟨_, _, retOut X hx hret hn hi hd hr, hrun, hended, _, _, rfl, hQ, FE.of ⟨⟨_, rfl⟩, hW, hsame.mono hc hs⟩ hF⟩
theorem Ends.retI (X : Stand p l e R s m args below meth c T locs cells slots) (hx : p.tables.exec = Jvm.exec) (hlk : meth.locks = false) {pc : Nat} {Ls : Array Slot} {z : Int32} {rest : List Value} (hret : meth.sig.returnType = some .int) (hd : decode c.code pc = .ok (.ireturn, 1)) (hc : cells ≤ kc) (hs : slots ≤ ks) (hQ : Qb (some (.int z)) T.heap locs) (hF : OkF wd T.vm T.heap := by exact True.intro) : Ends wd p e below s Qb kc ks T (mkF m pc Ls (.int z :: rest)) :=
  Ends.ret X hx hlk hret rfl (Or.inl ⟨rfl, Or.inl rfl, _, rfl⟩) hd hc hs hQ hF
theorem Ends.retJ (X : Stand p l e R s m args below meth c T locs cells slots) (hx : p.tables.exec = Jvm.exec) (hlk : meth.locks = false) {pc : Nat} {Ls : Array Slot} {z : Int64} {rest : List Value} (hret : meth.sig.returnType = some .long) (hd : decode c.code pc = .ok (.lreturn, 1)) (hc : cells ≤ kc) (hs : slots ≤ ks) (hQ : Qb (some (.long z)) T.heap locs) (hF : OkF wd T.vm T.heap := by exact True.intro) : Ends wd p e below s Qb kc ks T (mkF m pc Ls (.long z :: rest)) :=
  Ends.ret X hx hlk hret rfl (Or.inr (Or.inl ⟨rfl, rfl, _, rfl⟩)) hd hc hs hQ hF
theorem Ends.retS (X : Stand p l e R s m args below meth c T locs cells slots) (hx : p.tables.exec = Jvm.exec) (hlk : meth.locks = false) {pc : Nat} {Ls : Array Slot} {z : Int32} {t : FieldType} {rest : List Value} (hret : meth.sig.returnType = some t) (ht : t = .boolean ∨ t = .byte ∨ t = .char ∨ t = .short) (hn : narrow t (.int z) = .int z) (hd : decode c.code pc = .ok (.ireturn, 1)) (hc : cells ≤ kc) (hs : slots ≤ ks) (hQ : Qb (some (.int z)) T.heap locs) (hF : OkF wd T.vm T.heap := by exact True.intro) : Ends wd p e below s Qb kc ks T (mkF m pc Ls (.int z :: rest)) :=
  Ends.ret X hx hlk hret hn (Or.inl ⟨rfl, Or.inr ht, _, rfl⟩) hd hc hs hQ hF
theorem Ends.retA (X : Stand p l e R s m args below meth c T locs cells slots) (hx : p.tables.exec = Jvm.exec) (hlk : meth.locks = false) {pc : Nat} {Ls : Array Slot} {w : Value} {t : FieldType} {rest : List Value} (hret : meth.sig.returnType = some t) (ht : t.isReference = true) (hw : w.isRef = true) (hn : narrow t w = w) (hd : decode c.code pc = .ok (.areturn, 1)) (hc : cells ≤ kc) (hs : slots ≤ ks) (hQ : Qb (some w) T.heap locs) (hF : OkF wd T.vm T.heap := by exact True.intro) : Ends wd p e below s Qb kc ks T (mkF m pc Ls (w :: rest)) :=
  Ends.ret X hx hlk hret hn (Or.inr (Or.inr (Or.inr (Or.inr ⟨rfl, ht, hw⟩)))) hd hc hs hQ hF
theorem Ends.retV (X : Stand p l e R s m args below meth c T locs cells slots) (hx : p.tables.exec = Jvm.exec) (hlk : meth.locks = false) {pc : Nat} {Ls : Array Slot} (hret : meth.sig.returnType = none) (hd : decode c.code pc = .ok (.return_, 1)) (hc : cells ≤ kc) (hs : slots ≤ ks) (hQ : Qb none T.heap locs) (hF : OkF wd T.vm T.heap := by exact True.intro) : Ends wd p e below s Qb kc ks T (mkF m pc Ls []) := by
  obtain ⟨fs, hr, hrun, hended, hW, hsame⟩ := X.leave (v := none) (fun _ => rfl) hlk
  exact ⟨_, _, X.returnOut hx hret hd hr, hrun, hended, _, _, rfl, hQ, FE.of ⟨⟨_, rfl⟩, hW, hsame.mono hc hs⟩ hF⟩
/-- a static call by its contract -/
theorem Ends.callS (X : Stand p l e R s m args below meth c T locs cells slots) (hx : p.tables.exec = Jvm.exec) (hZ : Z.Warmed39 s.vm) {own : String} (hown : s.vm.findClass own = some m.cls) {index : Nat} {y : MethodName} {bytes : ByteArray} {maxL : Nat} {rt : Option FieldType} {rm : Room} {Q : Option Value → Heap → List Loc → Prop}
    (w1 : (Jvm.Cond.methodLink own index y).before a0 Z = true) (w2 : (Jvm.Cond.static y).before a0 Z = true) (w3 : (Jvm.Cond.initialized y.cls).before a0 Z = true) (w4 : (Jvm.Cond.code y bytes maxL rt).before a0 Z = true) (hy : y.cls ≠ "java/lang/invoke/MethodHandle" ∧ y.cls ≠ "java/lang/invoke/VarHandle")
    {argsL rest : List Value} (eT : T.heap = h) (M : Con l y bytes maxL rt [] rm argsL.toArray Z h Q) {W pc : Nat} (hf : rm.frames + 1 ≤ R.frames) (hl : W + (maxL + 11) + rm.locals ≤ R.locals) {Ls : Array Slot} (hsz : Ls.size = c.maxLocals)
    (hlen : ∀ sig, parseMethodDescriptor y.desc = some sig → argsL.length = sig.parameters.length) (hW : (rest.map fun v => v.category).sum ≤ W) (hd : decode c.code pc = .ok (.invokestatic index, 3)) (hc : cells + rm.cells ≤ R.cells) (hs : slots + rm.slots ≤ R.slots) {st : List Value} (hst : st = argsL.reverse ++ rest)
    (k : ∀ T' v L, Stand p l e R s m args below meth c T' (locs ++ L) (cells + rm.cells) (slots + rm.slots) → Q v T'.heap L → Ends wd p e below s Qb kc ks T' (mkF m (pc + 3) Ls (v.toList ++ rest))) :
    Ends wd p e below s Qb kc ks T (mkF m pc Ls st) := by
  obtain ⟨v, vm1, ⟨T1, L1, k1, n1⟩, -, X1, ⟨Lc, hQ, q1, q2, q3⟩, st1⟩ := Jvm.LawKit.callS X hx hown (mvT hZ w1) (mvT hZ w2) (mvT hZ w3) (mvT hZ w4) hy (backOf (W := W) M hZ w4 w3 hf hl) (g := mkF m pc Ls st) rfl hsz (argsL := argsL) (rest := rest) hlen hst (by show 2 * 0 + _ ≤ _; omega) hd (fun _ _ => ⟨rfl, eT, hc, hs⟩)
  dsimp only [Pt.U, Pt.locs, Pt.cells, Pt.slots] at X1 q1 q2 q3 st1 hQ
  subst q1 q2 q3
  exact Ends.go st1 (k T1 v Lc X1 hQ)
/-- a constructor by its contract -/
theorem Ends.callI (X : Stand p l e R s m args below meth c T locs cells slots) (hx : p.tables.exec = Jvm.exec) (hZ : Z.Warmed39 s.vm) {own : String} (hown : s.vm.findClass own = some m.cls) {index : Nat} {y : MethodName} {bytes : ByteArray} {maxL : Nat} {rm : Room} {Q : Option Value → Heap → List Loc → Prop}
    (w1 : (Jvm.Cond.methodLink own index y).before a0 Z = true) (w2 : (Jvm.Cond.instanceMethod y).before a0 Z = true) (w3 : (Jvm.Cond.initialized y.cls).before a0 Z = true) (w4 : (Jvm.Cond.code y bytes maxL none).before a0 Z = true) (hyn : y.name = "<init>") (hy : y.cls ≠ "java/lang/invoke/MethodHandle" ∧ y.cls ≠ "java/lang/invoke/VarHandle")
    {b : Addr} {argsL rest : List Value} (eT : T.heap = h) (M : Con l y bytes maxL none [] rm (.ref b :: argsL).toArray Z h Q) {W pc : Nat} (hf : rm.frames + 1 ≤ R.frames) (hl : W + (maxL + 11) + rm.locals ≤ R.locals) {Ls : Array Slot} (hsz : Ls.size = c.maxLocals)
    (hlen : ∀ sig, parseMethodDescriptor y.desc = some sig → argsL.length = sig.parameters.length) (hW : (rest.map fun v => v.category).sum ≤ W) (hd : decode c.code pc = .ok (.invokespecial index, 3)) (hc : cells + rm.cells ≤ R.cells) (hs : slots + rm.slots ≤ R.slots) {st : List Value} (hst : st = argsL.reverse ++ .ref b :: rest)
    (k : ∀ T' v L, Stand p l e R s m args below meth c T' (locs ++ L) (cells + rm.cells) (slots + rm.slots) → Q v T'.heap L → Ends wd p e below s Qb kc ks T' (mkF m (pc + 3) Ls (v.toList ++ rest))) :
    Ends wd p e below s Qb kc ks T (mkF m pc Ls st) := by
  obtain ⟨v, vm1, ⟨T1, L1, k1, n1⟩, -, X1, ⟨Lc, hQ, q1, q2, q3⟩, st1⟩ := X.specialBack hx hyn hown (mvT hZ w1) (mvT hZ w2) (mvT hZ w4) hy (backOf (W := W) M hZ w4 w3 hf hl) (g := mkF m pc Ls st) rfl hsz (Steps.refl _) (a := b) (argsL := argsL) (rest := rest) hlen hst (by show 2 * 0 + _ ≤ _; omega) hd (fun _ _ => ⟨rfl, eT, hc, hs⟩)
  dsimp only [Pt.U, Pt.locs, Pt.cells, Pt.slots] at X1 q1 q2 q3 st1 hQ
  subst q1 q2 q3
  exact Ends.go (fun t kt => st1.trans kt) (k T1 v Lc X1 hQ)
/-- an instance method by its contract -/
theorem Ends.callV (X : Stand p l e R s m args below meth c T locs cells slots) (hx : p.tables.exec = Jvm.exec) (hZ : Z.Warmed39 s.vm) {own C : String} (hown : s.vm.findClass own = some m.cls) {index : Nat} {y : MethodName} {bytes : ByteArray} {maxL : Nat} {rt : Option FieldType} {rm : Room} {Q : Option Value → Heap → List Loc → Prop}
    (w1 : (Jvm.Cond.methodLink own index y).before a0 Z = true) (w2 : (Jvm.Cond.declares y).before a0 Z = true) (w5 : (Jvm.Cond.selects C y y).before a0 Z = true) (w6 : (Jvm.Cond.instanceMethod y).before a0 Z = true) (w3 : (Jvm.Cond.initialized y.cls).before a0 Z = true) (w4 : (Jvm.Cond.code y bytes maxL rt).before a0 Z = true) (hy : y.cls ≠ "java/lang/invoke/MethodHandle" ∧ y.cls ≠ "java/lang/invoke/VarHandle")
    {b : Addr} {argsL rest : List Value} (eT : T.heap = h) (E : Exa Z h b C) (M : Con l y bytes maxL rt [] rm (.ref b :: argsL).toArray Z h Q) {W pc : Nat} (hf : rm.frames + 1 ≤ R.frames) (hl : W + (maxL + 11) + rm.locals ≤ R.locals) {Ls : Array Slot} (hsz : Ls.size = c.maxLocals)
    (hlen : ∀ sig, parseMethodDescriptor y.desc = some sig → argsL.length = sig.parameters.length) (hW : (rest.map fun v => v.category).sum ≤ W) (hd : decode c.code pc = .ok (.invokevirtual index, 3)) (hc : cells + rm.cells ≤ R.cells) (hs : slots + rm.slots ≤ R.slots) {st : List Value} (hst : st = argsL.reverse ++ .ref b :: rest)
    (k : ∀ T' v L, Stand p l e R s m args below meth c T' (locs ++ L) (cells + rm.cells) (slots + rm.slots) → Q v T'.heap L → Ends wd p e below s Qb kc ks T' (mkF m (pc + 3) Ls (v.toList ++ rest))) :
    Ends wd p e below s Qb kc ks T (mkF m pc Ls st) := by
  obtain ⟨cq, kq, qa, qb, qc⟩ := isOf (T := T) hZ eT E
  obtain ⟨v, vm1, ⟨T1, L1, k1, n1⟩, -, X1, ⟨Lc, hQ, q1, q2, q3⟩, st1⟩ := X.virtualBack hx (y := y) (z := y) hown (mvT hZ w1) (mvT hZ w2) (notFace_of_selects (args := #[]) (mvT hZ w5)) (mvT hZ w5) (mvT hZ w6) hy (backOf (W := W) M hZ w4 w3 hf hl) qa qc (g := mkF m pc Ls st) rfl hsz (Steps.refl _) (argsL := argsL) (rest := rest) hlen hst (by show 2 * 0 + _ ≤ _; omega) hd (fun _ _ => ⟨rfl, eT, hc, hs⟩)
  dsimp only [Pt.U, Pt.locs, Pt.cells, Pt.slots] at X1 q1 q2 q3 st1 hQ
  subst q1 q2 q3
  exact Ends.go (fun t kt => st1.trans kt) (k T1 v Lc X1 hQ)
end OwnKit
/-! own text, printed by mksteps.py: one lemma a plain instruction -/
section OwnSteps
variable {wd : Option (Vm → Heap → Prop)} {p : Program} {l : Launch} {e : Env} {R : Room} {s : State} {m : MethodId} {args : Array Value} {below : List Frame} {meth : Method} {c : Code} {T : State} {locs : List Loc} {cells slots : Nat} {Z : State} {a0 : Array Value} {h : Heap} {Qb : Option Value → Heap → List Loc → Prop} {kc ks : Nat} {Ls l' : Array Slot} {st : List Value} {pc q k : Nat} {kf : Fin 4} {k2 : Fin 2}
theorem E.iload {v : Int32} (X : Stand p l e R s m args below meth c T locs cells slots) (hx : p.tables.exec = Jvm.exec) (hd : decode c.code pc = .ok (.iload k, 2)) (hl : Ls[k]? = some (.val (.int v))) (k' : Ends wd p e below s Qb kc ks T (mkF m q Ls (.int v :: st))) (hq : pc + 2 = q := by rfl) : Ends wd p e below s Qb kc ks T (mkF m pc Ls st) := by
  subst hq; exact Ends.go (fun t => XS.iload X.here hx rfl hd hl) k'
theorem E.iloadN {v : Int32} (X : Stand p l e R s m args below meth c T locs cells slots) (hx : p.tables.exec = Jvm.exec) (hd : decode c.code pc = .ok (.iload_n kf, 1)) (hl : Ls[kf.val]? = some (.val (.int v))) (k' : Ends wd p e below s Qb kc ks T (mkF m q Ls (.int v :: st))) (hq : pc + 1 = q := by rfl) : Ends wd p e below s Qb kc ks T (mkF m pc Ls st) := by
  subst hq; exact Ends.go (fun t => XS.iloadN X.here hx rfl hd hl) k'
theorem E.istore {v : Int32} (X : Stand p l e R s m args below meth c T locs cells slots) (hx : p.tables.exec = Jvm.exec) (hd : decode c.code pc = .ok (.istore k, 2)) (hl : storeLocals Ls k (.int v) = some l') (k' : Ends wd p e below s Qb kc ks T (mkF m q l' st)) (hq : pc + 2 = q := by rfl) : Ends wd p e below s Qb kc ks T (mkF m pc Ls (.int v :: st)) := by
  subst hq; exact Ends.go (fun t => XS.istore X.here hx rfl hd rfl hl) k'
theorem E.istoreN {v : Int32} (X : Stand p l e R s m args below meth c T locs cells slots) (hx : p.tables.exec = Jvm.exec) (hd : decode c.code pc = .ok (.istore_n kf, 1)) (hl : storeLocals Ls kf.val (.int v) = some l') (k' : Ends wd p e below s Qb kc ks T (mkF m q l' st)) (hq : pc + 1 = q := by rfl) : Ends wd p e below s Qb kc ks T (mkF m pc Ls (.int v :: st)) := by
  subst hq; exact Ends.go (fun t => XS.istoreN X.here hx rfl hd rfl hl) k'
theorem E.lload {v : Int64} (X : Stand p l e R s m args below meth c T locs cells slots) (hx : p.tables.exec = Jvm.exec) (hd : decode c.code pc = .ok (.lload k, 2)) (hl : Ls[k]? = some (.val (.long v))) (k' : Ends wd p e below s Qb kc ks T (mkF m q Ls (.long v :: st))) (hq : pc + 2 = q := by rfl) : Ends wd p e below s Qb kc ks T (mkF m pc Ls st) := by
  subst hq; exact Ends.go (fun t => XS.lload X.here hx rfl hd hl) k'
theorem E.lloadN {v : Int64} (X : Stand p l e R s m args below meth c T locs cells slots) (hx : p.tables.exec = Jvm.exec) (hd : decode c.code pc = .ok (.lload_n kf, 1)) (hl : Ls[kf.val]? = some (.val (.long v))) (k' : Ends wd p e below s Qb kc ks T (mkF m q Ls (.long v :: st))) (hq : pc + 1 = q := by rfl) : Ends wd p e below s Qb kc ks T (mkF m pc Ls st) := by
  subst hq; exact Ends.go (fun t => XS.lloadN X.here hx rfl hd hl) k'
theorem E.lstore {v : Int64} (X : Stand p l e R s m args below meth c T locs cells slots) (hx : p.tables.exec = Jvm.exec) (hd : decode c.code pc = .ok (.lstore k, 2)) (hl : storeLocals Ls k (.long v) = some l') (k' : Ends wd p e below s Qb kc ks T (mkF m q l' st)) (hq : pc + 2 = q := by rfl) : Ends wd p e below s Qb kc ks T (mkF m pc Ls (.long v :: st)) := by
  subst hq; exact Ends.go (fun t => XS.lstore X.here hx rfl hd rfl hl) k'
theorem E.lstoreN {v : Int64} (X : Stand p l e R s m args below meth c T locs cells slots) (hx : p.tables.exec = Jvm.exec) (hd : decode c.code pc = .ok (.lstore_n kf, 1)) (hl : storeLocals Ls kf.val (.long v) = some l') (k' : Ends wd p e below s Qb kc ks T (mkF m q l' st)) (hq : pc + 1 = q := by rfl) : Ends wd p e below s Qb kc ks T (mkF m pc Ls (.long v :: st)) := by
  subst hq; exact Ends.go (fun t => XS.lstoreN X.here hx rfl hd rfl hl) k'
theorem E.dload {v : UInt64} (X : Stand p l e R s m args below meth c T locs cells slots) (hx : p.tables.exec = Jvm.exec) (hd : decode c.code pc = .ok (.dload k, 2)) (hl : Ls[k]? = some (.val (.double v))) (k' : Ends wd p e below s Qb kc ks T (mkF m q Ls (.double v :: st))) (hq : pc + 2 = q := by rfl) : Ends wd p e below s Qb kc ks T (mkF m pc Ls st) := by
  subst hq; exact Ends.go (fun t => XS.dload X.here hx rfl hd hl) k'
theorem E.dloadN {v : UInt64} (X : Stand p l e R s m args below meth c T locs cells slots) (hx : p.tables.exec = Jvm.exec) (hd : decode c.code pc = .ok (.dload_n kf, 1)) (hl : Ls[kf.val]? = some (.val (.double v))) (k' : Ends wd p e below s Qb kc ks T (mkF m q Ls (.double v :: st))) (hq : pc + 1 = q := by rfl) : Ends wd p e below s Qb kc ks T (mkF m pc Ls st) := by
  subst hq; exact Ends.go (fun t => XS.dloadN X.here hx rfl hd hl) k'
theorem E.dstore {v : UInt64} (X : Stand p l e R s m args below meth c T locs cells slots) (hx : p.tables.exec = Jvm.exec) (hd : decode c.code pc = .ok (.dstore k, 2)) (hl : storeLocals Ls k (.double v) = some l') (k' : Ends wd p e below s Qb kc ks T (mkF m q l' st)) (hq : pc + 2 = q := by rfl) : Ends wd p e below s Qb kc ks T (mkF m pc Ls (.double v :: st)) := by
  subst hq; exact Ends.go (fun t => XS.dstore X.here hx rfl hd rfl hl) k'
theorem E.dstoreN {v : UInt64} (X : Stand p l e R s m args below meth c T locs cells slots) (hx : p.tables.exec = Jvm.exec) (hd : decode c.code pc = .ok (.dstore_n kf, 1)) (hl : storeLocals Ls kf.val (.double v) = some l') (k' : Ends wd p e below s Qb kc ks T (mkF m q l' st)) (hq : pc + 1 = q := by rfl) : Ends wd p e below s Qb kc ks T (mkF m pc Ls (.double v :: st)) := by
  subst hq; exact Ends.go (fun t => XS.dstoreN X.here hx rfl hd rfl hl) k'
theorem E.aload {v : Value} (X : Stand p l e R s m args below meth c T locs cells slots) (hx : p.tables.exec = Jvm.exec) (hd : decode c.code pc = .ok (.aload k, 2)) (hl : Ls[k]? = some (.val v)) (hv : v.isRef = true) (k' : Ends wd p e below s Qb kc ks T (mkF m q Ls (v :: st))) (hq : pc + 2 = q := by rfl) : Ends wd p e below s Qb kc ks T (mkF m pc Ls st) := by
  subst hq; exact Ends.go (fun t => XS.aload X.here hx rfl hd hl hv) k'
theorem E.aloadN {v : Value} (X : Stand p l e R s m args below meth c T locs cells slots) (hx : p.tables.exec = Jvm.exec) (hd : decode c.code pc = .ok (.aload_n kf, 1)) (hl : Ls[kf.val]? = some (.val v)) (hv : v.isRef = true) (k' : Ends wd p e below s Qb kc ks T (mkF m q Ls (v :: st))) (hq : pc + 1 = q := by rfl) : Ends wd p e below s Qb kc ks T (mkF m pc Ls st) := by
  subst hq; exact Ends.go (fun t => XS.aloadN X.here hx rfl hd hl hv) k'
theorem E.astore {v : Value} (X : Stand p l e R s m args below meth c T locs cells slots) (hx : p.tables.exec = Jvm.exec) (hd : decode c.code pc = .ok (.astore k, 2)) (hv : v.isRef = true) (hl : storeLocals Ls k v = some l') (k' : Ends wd p e below s Qb kc ks T (mkF m q l' st)) (hq : pc + 2 = q := by rfl) : Ends wd p e below s Qb kc ks T (mkF m pc Ls (v :: st)) := by
  subst hq; exact Ends.go (fun t => XS.astore X.here hx rfl hd rfl hv hl) k'
theorem E.astoreN {v : Value} (X : Stand p l e R s m args below meth c T locs cells slots) (hx : p.tables.exec = Jvm.exec) (hd : decode c.code pc = .ok (.astore_n kf, 1)) (hv : v.isRef = true) (hl : storeLocals Ls kf.val v = some l') (k' : Ends wd p e below s Qb kc ks T (mkF m q l' st)) (hq : pc + 1 = q := by rfl) : Ends wd p e below s Qb kc ks T (mkF m pc Ls (v :: st)) := by
  subst hq; exact Ends.go (fun t => XS.astoreN X.here hx rfl hd rfl hv hl) k'
theorem E.iconst {i : Int} {v : Int32} (X : Stand p l e R s m args below meth c T locs cells slots) (hx : p.tables.exec = Jvm.exec) (hd : decode c.code pc = .ok (.iconst i, 1)) (hv : Int32.ofInt i = v) (k' : Ends wd p e below s Qb kc ks T (mkF m q Ls (.int v :: st))) (hq : pc + 1 = q := by rfl) : Ends wd p e below s Qb kc ks T (mkF m pc Ls st) := by
  subst hq; subst hv; exact Ends.go (fun t => XS.iconst X.here hx rfl hd) k'
theorem E.bipush {i : Int} {v : Int32} (X : Stand p l e R s m args below meth c T locs cells slots) (hx : p.tables.exec = Jvm.exec) (hd : decode c.code pc = .ok (.bipush i, 2)) (hv : (Int8.ofInt i).toInt32 = v) (k' : Ends wd p e below s Qb kc ks T (mkF m q Ls (.int v :: st))) (hq : pc + 2 = q := by rfl) : Ends wd p e below s Qb kc ks T (mkF m pc Ls st) := by
  subst hq; subst hv; exact Ends.go (fun t => XS.bipush X.here hx rfl hd) k'
theorem E.sipush {i : Int} {v : Int32} (X : Stand p l e R s m args below meth c T locs cells slots) (hx : p.tables.exec = Jvm.exec) (hd : decode c.code pc = .ok (.sipush i, 3)) (hv : (Int16.ofInt i).toInt32 = v) (k' : Ends wd p e below s Qb kc ks T (mkF m q Ls (.int v :: st))) (hq : pc + 3 = q := by rfl) : Ends wd p e below s Qb kc ks T (mkF m pc Ls st) := by
  subst hq; subst hv; exact Ends.go (fun t => XS.sipush X.here hx rfl hd) k'
theorem E.lconst {v : Int64} (X : Stand p l e R s m args below meth c T locs cells slots) (hx : p.tables.exec = Jvm.exec) (hd : decode c.code pc = .ok (.lconst k2, 1)) (hv : Int64.ofNat k2 = v) (k' : Ends wd p e below s Qb kc ks T (mkF m q Ls (.long v :: st))) (hq : pc + 1 = q := by rfl) : Ends wd p e below s Qb kc ks T (mkF m pc Ls st) := by
  subst hq; subst hv; exact Ends.go (fun t => XS.lconst X.here hx rfl hd) k'
theorem E.dconst0 {v : UInt64} (X : Stand p l e R s m args below meth c T locs cells slots) (hx : p.tables.exec = Jvm.exec) (hd : decode c.code pc = .ok (.dconst 0, 1)) (hv : FP.dconst0 = v) (k' : Ends wd p e below s Qb kc ks T (mkF m q Ls (.double v :: st))) (hq : pc + 1 = q := by rfl) : Ends wd p e below s Qb kc ks T (mkF m pc Ls st) := by
  subst hq; exact Ends.go (fun t => XS.dconst0 X.here hx rfl hd hv) k'
theorem E.dconst1 {v : UInt64} (X : Stand p l e R s m args below meth c T locs cells slots) (hx : p.tables.exec = Jvm.exec) (hd : decode c.code pc = .ok (.dconst 1, 1)) (hv : FP.dconst1 = v) (k' : Ends wd p e below s Qb kc ks T (mkF m q Ls (.double v :: st))) (hq : pc + 1 = q := by rfl) : Ends wd p e below s Qb kc ks T (mkF m pc Ls st) := by
  subst hq; exact Ends.go (fun t => XS.dconst1 X.here hx rfl hd hv) k'
theorem E.aconstNull  (X : Stand p l e R s m args below meth c T locs cells slots) (hx : p.tables.exec = Jvm.exec) (hd : decode c.code pc = .ok (.aconst_null, 1)) (k' : Ends wd p e below s Qb kc ks T (mkF m q Ls (.null :: st))) (hq : pc + 1 = q := by rfl) : Ends wd p e below s Qb kc ks T (mkF m pc Ls st) := by
  subst hq; exact Ends.go (fun t => XS.aconstNull X.here hx rfl hd) k'
theorem E.iadd {x y : Int32} (X : Stand p l e R s m args below meth c T locs cells slots) (hx : p.tables.exec = Jvm.exec) (hd : decode c.code pc = .ok (.iadd, 1)) (k' : Ends wd p e below s Qb kc ks T (mkF m q Ls (.int (x + y) :: st))) (hq : pc + 1 = q := by rfl) : Ends wd p e below s Qb kc ks T (mkF m pc Ls (.int y :: .int x :: st)) := by
  subst hq; exact Ends.go (fun t => XS.iadd X.here hx rfl hd rfl) k'
theorem E.isub {x y : Int32} (X : Stand p l e R s m args below meth c T locs cells slots) (hx : p.tables.exec = Jvm.exec) (hd : decode c.code pc = .ok (.isub, 1)) (k' : Ends wd p e below s Qb kc ks T (mkF m q Ls (.int (x - y) :: st))) (hq : pc + 1 = q := by rfl) : Ends wd p e below s Qb kc ks T (mkF m pc Ls (.int y :: .int x :: st)) := by
  subst hq; exact Ends.go (fun t => XS.isub X.here hx rfl hd rfl) k'
theorem E.imul {x y : Int32} (X : Stand p l e R s m args below meth c T locs cells slots) (hx : p.tables.exec = Jvm.exec) (hd : decode c.code pc = .ok (.imul, 1)) (k' : Ends wd p e below s Qb kc ks T (mkF m q Ls (.int (x * y) :: st))) (hq : pc + 1 = q := by rfl) : Ends wd p e below s Qb kc ks T (mkF m pc Ls (.int y :: .int x :: st)) := by
  subst hq; exact Ends.go (fun t => XS.imul X.here hx rfl hd rfl) k'
theorem E.iand {x y : Int32} (X : Stand p l e R s m args below meth c T locs cells slots) (hx : p.tables.exec = Jvm.exec) (hd : decode c.code pc = .ok (.iand, 1)) (k' : Ends wd p e below s Qb kc ks T (mkF m q Ls (.int (x &&& y) :: st))) (hq : pc + 1 = q := by rfl) : Ends wd p e below s Qb kc ks T (mkF m pc Ls (.int y :: .int x :: st)) := by
  subst hq; exact Ends.go (fun t => XS.iand X.here hx rfl hd rfl) k'
theorem E.ior {x y : Int32} (X : Stand p l e R s m args below meth c T locs cells slots) (hx : p.tables.exec = Jvm.exec) (hd : decode c.code pc = .ok (.ior, 1)) (k' : Ends wd p e below s Qb kc ks T (mkF m q Ls (.int (x ||| y) :: st))) (hq : pc + 1 = q := by rfl) : Ends wd p e below s Qb kc ks T (mkF m pc Ls (.int y :: .int x :: st)) := by
  subst hq; exact Ends.go (fun t => XS.ior X.here hx rfl hd rfl) k'
theorem E.ixor {x y : Int32} (X : Stand p l e R s m args below meth c T locs cells slots) (hx : p.tables.exec = Jvm.exec) (hd : decode c.code pc = .ok (.ixor, 1)) (k' : Ends wd p e below s Qb kc ks T (mkF m q Ls (.int (x ^^^ y) :: st))) (hq : pc + 1 = q := by rfl) : Ends wd p e below s Qb kc ks T (mkF m pc Ls (.int y :: .int x :: st)) := by
  subst hq; exact Ends.go (fun t => XS.ixor X.here hx rfl hd rfl) k'
theorem E.ladd {x y : Int64} (X : Stand p l e R s m args below meth c T locs cells slots) (hx : p.tables.exec = Jvm.exec) (hd : decode c.code pc = .ok (.ladd, 1)) (k' : Ends wd p e below s Qb kc ks T (mkF m q Ls (.long (x + y) :: st))) (hq : pc + 1 = q := by rfl) : Ends wd p e below s Qb kc ks T (mkF m pc Ls (.long y :: .long x :: st)) := by
  subst hq; exact Ends.go (fun t => XS.ladd X.here hx rfl hd rfl) k'
theorem E.lsub {x y : Int64} (X : Stand p l e R s m args below meth c T locs cells slots) (hx : p.tables.exec = Jvm.exec) (hd : decode c.code pc = .ok (.lsub, 1)) (k' : Ends wd p e below s Qb kc ks T (mkF m q Ls (.long (x - y) :: st))) (hq : pc + 1 = q := by rfl) : Ends wd p e below s Qb kc ks T (mkF m pc Ls (.long y :: .long x :: st)) := by
  subst hq; exact Ends.go (fun t => XS.lsub X.here hx rfl hd rfl) k'
theorem E.lmul {x y : Int64} (X : Stand p l e R s m args below meth c T locs cells slots) (hx : p.tables.exec = Jvm.exec) (hd : decode c.code pc = .ok (.lmul, 1)) (k' : Ends wd p e below s Qb kc ks T (mkF m q Ls (.long (x * y) :: st))) (hq : pc + 1 = q := by rfl) : Ends wd p e below s Qb kc ks T (mkF m pc Ls (.long y :: .long x :: st)) := by
  subst hq; exact Ends.go (fun t => XS.lmul X.here hx rfl hd rfl) k'
theorem E.land {x y : Int64} (X : Stand p l e R s m args below meth c T locs cells slots) (hx : p.tables.exec = Jvm.exec) (hd : decode c.code pc = .ok (.land, 1)) (k' : Ends wd p e below s Qb kc ks T (mkF m q Ls (.long (x &&& y) :: st))) (hq : pc + 1 = q := by rfl) : Ends wd p e below s Qb kc ks T (mkF m pc Ls (.long y :: .long x :: st)) := by
  subst hq; exact Ends.go (fun t => XS.land X.here hx rfl hd rfl) k'
theorem E.lor {x y : Int64} (X : Stand p l e R s m args below meth c T locs cells slots) (hx : p.tables.exec = Jvm.exec) (hd : decode c.code pc = .ok (.lor, 1)) (k' : Ends wd p e below s Qb kc ks T (mkF m q Ls (.long (x ||| y) :: st))) (hq : pc + 1 = q := by rfl) : Ends wd p e below s Qb kc ks T (mkF m pc Ls (.long y :: .long x :: st)) := by
  subst hq; exact Ends.go (fun t => XS.lor X.here hx rfl hd rfl) k'
theorem E.lxor {x y : Int64} (X : Stand p l e R s m args below meth c T locs cells slots) (hx : p.tables.exec = Jvm.exec) (hd : decode c.code pc = .ok (.lxor, 1)) (k' : Ends wd p e below s Qb kc ks T (mkF m q Ls (.long (x ^^^ y) :: st))) (hq : pc + 1 = q := by rfl) : Ends wd p e below s Qb kc ks T (mkF m pc Ls (.long y :: .long x :: st)) := by
  subst hq; exact Ends.go (fun t => XS.lxor X.here hx rfl hd rfl) k'
theorem E.ishl {x : Int32} {y : Int32} (X : Stand p l e R s m args below meth c T locs cells slots) (hx : p.tables.exec = Jvm.exec) (hd : decode c.code pc = .ok (.ishl, 1)) (k' : Ends wd p e below s Qb kc ks T (mkF m q Ls (.int (x <<< (y &&& 31)) :: st))) (hq : pc + 1 = q := by rfl) : Ends wd p e below s Qb kc ks T (mkF m pc Ls (.int y :: .int x :: st)) := by
  subst hq; exact Ends.go (fun t => XS.ishl X.here hx rfl hd rfl) k'
theorem E.ishr {x : Int32} {y : Int32} (X : Stand p l e R s m args below meth c T locs cells slots) (hx : p.tables.exec = Jvm.exec) (hd : decode c.code pc = .ok (.ishr, 1)) (k' : Ends wd p e below s Qb kc ks T (mkF m q Ls (.int (x >>> (y &&& 31)) :: st))) (hq : pc + 1 = q := by rfl) : Ends wd p e below s Qb kc ks T (mkF m pc Ls (.int y :: .int x :: st)) := by
  subst hq; exact Ends.go (fun t => XS.ishr X.here hx rfl hd rfl) k'
theorem E.iushr {x : Int32} {y : Int32} (X : Stand p l e R s m args below meth c T locs cells slots) (hx : p.tables.exec = Jvm.exec) (hd : decode c.code pc = .ok (.iushr, 1)) (k' : Ends wd p e below s Qb kc ks T (mkF m q Ls (.int ((x.toUInt32 >>> (y &&& 31).toUInt32).toInt32) :: st))) (hq : pc + 1 = q := by rfl) : Ends wd p e below s Qb kc ks T (mkF m pc Ls (.int y :: .int x :: st)) := by
  subst hq; exact Ends.go (fun t => XS.iushr X.here hx rfl hd rfl) k'
theorem E.lshl {x : Int64} {y : Int32} (X : Stand p l e R s m args below meth c T locs cells slots) (hx : p.tables.exec = Jvm.exec) (hd : decode c.code pc = .ok (.lshl, 1)) (k' : Ends wd p e below s Qb kc ks T (mkF m q Ls (.long (x <<< (y &&& 0x3f).toInt64) :: st))) (hq : pc + 1 = q := by rfl) : Ends wd p e below s Qb kc ks T (mkF m pc Ls (.int y :: .long x :: st)) := by
  subst hq; exact Ends.go (fun t => XS.lshl X.here hx rfl hd rfl) k'
theorem E.lshr {x : Int64} {y : Int32} (X : Stand p l e R s m args below meth c T locs cells slots) (hx : p.tables.exec = Jvm.exec) (hd : decode c.code pc = .ok (.lshr, 1)) (k' : Ends wd p e below s Qb kc ks T (mkF m q Ls (.long (x >>> (y &&& 0x3f).toInt64) :: st))) (hq : pc + 1 = q := by rfl) : Ends wd p e below s Qb kc ks T (mkF m pc Ls (.int y :: .long x :: st)) := by
  subst hq; exact Ends.go (fun t => XS.lshr X.here hx rfl hd rfl) k'
theorem E.lushr {x : Int64} {y : Int32} (X : Stand p l e R s m args below meth c T locs cells slots) (hx : p.tables.exec = Jvm.exec) (hd : decode c.code pc = .ok (.lushr, 1)) (k' : Ends wd p e below s Qb kc ks T (mkF m q Ls (.long ((x.toUInt64 >>> (y &&& 0x3f).toInt64.toUInt64).toInt64) :: st))) (hq : pc + 1 = q := by rfl) : Ends wd p e below s Qb kc ks T (mkF m pc Ls (.int y :: .long x :: st)) := by
  subst hq; exact Ends.go (fun t => XS.lushr X.here hx rfl hd rfl) k'
theorem E.ineg {x : Int32} (X : Stand p l e R s m args below meth c T locs cells slots) (hx : p.tables.exec = Jvm.exec) (hd : decode c.code pc = .ok (.ineg, 1)) (k' : Ends wd p e below s Qb kc ks T (mkF m q Ls (.int (-x) :: st))) (hq : pc + 1 = q := by rfl) : Ends wd p e below s Qb kc ks T (mkF m pc Ls (.int x :: st)) := by
  subst hq; exact Ends.go (fun t => XS.ineg X.here hx rfl hd rfl) k'
theorem E.lneg {x : Int64} (X : Stand p l e R s m args below meth c T locs cells slots) (hx : p.tables.exec = Jvm.exec) (hd : decode c.code pc = .ok (.lneg, 1)) (k' : Ends wd p e below s Qb kc ks T (mkF m q Ls (.long (-x) :: st))) (hq : pc + 1 = q := by rfl) : Ends wd p e below s Qb kc ks T (mkF m pc Ls (.long x :: st)) := by
  subst hq; exact Ends.go (fun t => XS.lneg X.here hx rfl hd rfl) k'
theorem E.i2l {x : Int32} (X : Stand p l e R s m args below meth c T locs cells slots) (hx : p.tables.exec = Jvm.exec) (hd : decode c.code pc = .ok (.i2l, 1)) (k' : Ends wd p e below s Qb kc ks T (mkF m q Ls (.long (x.toInt64) :: st))) (hq : pc + 1 = q := by rfl) : Ends wd p e below s Qb kc ks T (mkF m pc Ls (.int x :: st)) := by
  subst hq; exact Ends.go (fun t => XS.i2l X.here hx rfl hd rfl) k'
theorem E.l2i {x : Int64} (X : Stand p l e R s m args below meth c T locs cells slots) (hx : p.tables.exec = Jvm.exec) (hd : decode c.code pc = .ok (.l2i, 1)) (k' : Ends wd p e below s Qb kc ks T (mkF m q Ls (.int (x.toInt32) :: st))) (hq : pc + 1 = q := by rfl) : Ends wd p e below s Qb kc ks T (mkF m pc Ls (.long x :: st)) := by
  subst hq; exact Ends.go (fun t => XS.l2i X.here hx rfl hd rfl) k'
theorem E.i2b {x : Int32} (X : Stand p l e R s m args below meth c T locs cells slots) (hx : p.tables.exec = Jvm.exec) (hd : decode c.code pc = .ok (.i2b, 1)) (k' : Ends wd p e below s Qb kc ks T (mkF m q Ls (.int (x.toInt8.toInt32) :: st))) (hq : pc + 1 = q := by rfl) : Ends wd p e below s Qb kc ks T (mkF m pc Ls (.int x :: st)) := by
  subst hq; exact Ends.go (fun t => XS.i2b X.here hx rfl hd rfl) k'
theorem E.i2s {x : Int32} (X : Stand p l e R s m args below meth c T locs cells slots) (hx : p.tables.exec = Jvm.exec) (hd : decode c.code pc = .ok (.i2s, 1)) (k' : Ends wd p e below s Qb kc ks T (mkF m q Ls (.int (x.toInt16.toInt32) :: st))) (hq : pc + 1 = q := by rfl) : Ends wd p e below s Qb kc ks T (mkF m pc Ls (.int x :: st)) := by
  subst hq; exact Ends.go (fun t => XS.i2s X.here hx rfl hd rfl) k'
theorem E.i2c {x : Int32} (X : Stand p l e R s m args below meth c T locs cells slots) (hx : p.tables.exec = Jvm.exec) (hd : decode c.code pc = .ok (.i2c, 1)) (k' : Ends wd p e below s Qb kc ks T (mkF m q Ls (.int (x.toUInt32.toUInt16.toUInt32.toInt32) :: st))) (hq : pc + 1 = q := by rfl) : Ends wd p e below s Qb kc ks T (mkF m pc Ls (.int x :: st)) := by
  subst hq; exact Ends.go (fun t => XS.i2c X.here hx rfl hd rfl) k'
theorem E.i2d {x : Int32} (X : Stand p l e R s m args below meth c T locs cells slots) (hx : p.tables.exec = Jvm.exec) (hd : decode c.code pc = .ok (.i2d, 1)) (k' : Ends wd p e below s Qb kc ks T (mkF m q Ls (.double (FP.i2d x) :: st))) (hq : pc + 1 = q := by rfl) : Ends wd p e below s Qb kc ks T (mkF m pc Ls (.int x :: st)) := by
  subst hq; exact Ends.go (fun t => XS.i2dS X.here hx rfl hd rfl rfl) k'
theorem E.lcmp {x y : Int64} (X : Stand p l e R s m args below meth c T locs cells slots) (hx : p.tables.exec = Jvm.exec) (hd : decode c.code pc = .ok (.lcmp, 1)) (k' : Ends wd p e below s Qb kc ks T (mkF m q Ls (.int (lcmpW x y) :: st))) (hq : pc + 1 = q := by rfl) : Ends wd p e below s Qb kc ks T (mkF m pc Ls (.long y :: .long x :: st)) := by
  subst hq; exact Ends.go (fun t => XS.lcmp X.here hx rfl hd rfl) k'
theorem E.dcmp {x y : UInt64} {o : CmpOp} (X : Stand p l e R s m args below meth c T locs cells slots) (hx : p.tables.exec = Jvm.exec) (hd : decode c.code pc = .ok (.dcmp o, 1)) (k' : Ends wd p e below s Qb kc ks T (mkF m q Ls (.int (cmpValue (FP.dcmp x y) o) :: st))) (hq : pc + 1 = q := by rfl) : Ends wd p e below s Qb kc ks T (mkF m pc Ls (.double y :: .double x :: st)) := by
  subst hq; exact Ends.go (fun t => XS.dcmpS X.here hx rfl hd rfl rfl) k'
theorem E.idiv {x y : Int32} (X : Stand p l e R s m args below meth c T locs cells slots) (hx : p.tables.exec = Jvm.exec) (hd : decode c.code pc = .ok (.idiv, 1)) (hy : ¬ y = 0) (k' : Ends wd p e below s Qb kc ks T (mkF m q Ls (.int (x / y) :: st))) (hq : pc + 1 = q := by rfl) : Ends wd p e below s Qb kc ks T (mkF m pc Ls (.int y :: .int x :: st)) := by
  subst hq; exact Ends.go (fun t => XS.idiv X.here hx rfl hd rfl hy) k'
theorem E.irem {x y : Int32} (X : Stand p l e R s m args below meth c T locs cells slots) (hx : p.tables.exec = Jvm.exec) (hd : decode c.code pc = .ok (.irem, 1)) (hy : ¬ y = 0) (k' : Ends wd p e below s Qb kc ks T (mkF m q Ls (.int (x % y) :: st))) (hq : pc + 1 = q := by rfl) : Ends wd p e below s Qb kc ks T (mkF m pc Ls (.int y :: .int x :: st)) := by
  subst hq; exact Ends.go (fun t => iremM X hx rfl hd rfl hy) k'
theorem E.ldiv {x y : Int64} (X : Stand p l e R s m args below meth c T locs cells slots) (hx : p.tables.exec = Jvm.exec) (hd : decode c.code pc = .ok (.ldiv, 1)) (hy : ¬ y = 0) (k' : Ends wd p e below s Qb kc ks T (mkF m q Ls (.long (x / y) :: st))) (hq : pc + 1 = q := by rfl) : Ends wd p e below s Qb kc ks T (mkF m pc Ls (.long y :: .long x :: st)) := by
  subst hq; exact Ends.go (fun t => XS.ldiv X.here hx rfl hd rfl hy) k'
theorem E.lrem {x y : Int64} (X : Stand p l e R s m args below meth c T locs cells slots) (hx : p.tables.exec = Jvm.exec) (hd : decode c.code pc = .ok (.lrem, 1)) (hy : ¬ y = 0) (k' : Ends wd p e below s Qb kc ks T (mkF m q Ls (.long (x - (x / y) * y) :: st))) (hq : pc + 1 = q := by rfl) : Ends wd p e below s Qb kc ks T (mkF m pc Ls (.long y :: .long x :: st)) := by
  subst hq; exact Ends.go (fun t => XS.lrem X.here hx rfl hd rfl hy) k'
theorem E.iinc {x v : Int32} {cst : Int} (X : Stand p l e R s m args below meth c T locs cells slots) (hx : p.tables.exec = Jvm.exec) (hd : decode c.code pc = .ok (.iinc k cst, 3)) (hl : Ls[k]? = some (.val (.int x))) (hv : x + Int32.ofInt cst = v) (hl' : storeLocals Ls k (.int v) = some l') (k' : Ends wd p e below s Qb kc ks T (mkF m q l' st)) (hq : pc + 3 = q := by rfl) : Ends wd p e below s Qb kc ks T (mkF m pc Ls st) := by
  subst hq; subst hv; exact Ends.go (fun t => XS.iinc X.here hx rfl hd hl hl') k'
theorem E.dup {v : Value} (X : Stand p l e R s m args below meth c T locs cells slots) (hx : p.tables.exec = Jvm.exec) (hd : decode c.code pc = .ok (.dup, 1)) (hc : v.category = 1) (k' : Ends wd p e below s Qb kc ks T (mkF m q Ls (v :: v :: st))) (hq : pc + 1 = q := by rfl) : Ends wd p e below s Qb kc ks T (mkF m pc Ls (v :: st)) := by
  subst hq; exact Ends.go (fun t => XS.dup X.here hx rfl hd rfl hc) k'
theorem E.pop {v : Value} (X : Stand p l e R s m args below meth c T locs cells slots) (hx : p.tables.exec = Jvm.exec) (hd : decode c.code pc = .ok (.pop, 1)) (hc : v.category = 1) (k' : Ends wd p e below s Qb kc ks T (mkF m q Ls st)) (hq : pc + 1 = q := by rfl) : Ends wd p e below s Qb kc ks T (mkF m pc Ls (v :: st)) := by
  subst hq; exact Ends.go (fun t => XS.pop X.here hx rfl hd rfl hc) k'
theorem E.dupX1 {v w : Value} (X : Stand p l e R s m args below meth c T locs cells slots) (hx : p.tables.exec = Jvm.exec) (hd : decode c.code pc = .ok (.dup_x1, 1)) (hc : v.category = 1) (hc2 : w.category = 1) (k' : Ends wd p e below s Qb kc ks T (mkF m q Ls (v :: w :: v :: st))) (hq : pc + 1 = q := by rfl) : Ends wd p e below s Qb kc ks T (mkF m pc Ls (v :: w :: st)) := by
  subst hq; exact Ends.go (fun t => XS.dupX1 X.here hx rfl hd rfl hc hc2) k'
theorem E.icmpY {x y : Int32} {cd : ClassFile.Cond} {o : Int} (X : Stand p l e R s m args below meth c T locs cells slots) (hx : p.tables.exec = Jvm.exec) (hd : decode c.code pc = .ok (.if_icmp cd o, 3)) (hc : if_icmp.holds cd x y = true) (k' : Ends wd p e below s Qb kc ks T (mkF m q Ls st)) (ho : 0 ≤ (pc : Int) + o := by decide) (hq : ((pc : Int) + o).toNat = q := by decide) : Ends wd p e below s Qb kc ks T (mkF m pc Ls (.int y :: .int x :: st)) :=
  Ends.go (fun t => XS.icmpYes X.here hx rfl rfl hd rfl hc ho hq) k'
theorem E.icmpN {x y : Int32} {cd : ClassFile.Cond} {o : Int} (X : Stand p l e R s m args below meth c T locs cells slots) (hx : p.tables.exec = Jvm.exec) (hd : decode c.code pc = .ok (.if_icmp cd o, 3)) (hc : if_icmp.holds cd x y = false) (k' : Ends wd p e below s Qb kc ks T (mkF m q Ls st)) (hq : pc + 3 = q := by rfl) : Ends wd p e below s Qb kc ks T (mkF m pc Ls (.int y :: .int x :: st)) := by
  subst hq; exact Ends.go (fun t => XS.icmpNo X.here hx rfl hd rfl hc) k'
theorem E.ifY {x : Int32} {cd : ClassFile.Cond} {o : Int} (X : Stand p l e R s m args below meth c T locs cells slots) (hx : p.tables.exec = Jvm.exec) (hd : decode c.code pc = .ok (.ifCond cd o, 3)) (hc : ifCond.holds cd x = true) (k' : Ends wd p e below s Qb kc ks T (mkF m q Ls st)) (ho : 0 ≤ (pc : Int) + o := by decide) (hq : ((pc : Int) + o).toNat = q := by decide) : Ends wd p e below s Qb kc ks T (mkF m pc Ls (.int x :: st)) :=
  Ends.go (fun t => XS.ifYes X.here hx rfl rfl hd rfl hc ho hq) k'
theorem E.ifN {x : Int32} {cd : ClassFile.Cond} {o : Int} (X : Stand p l e R s m args below meth c T locs cells slots) (hx : p.tables.exec = Jvm.exec) (hd : decode c.code pc = .ok (.ifCond cd o, 3)) (hc : ifCond.holds cd x = false) (k' : Ends wd p e below s Qb kc ks T (mkF m q Ls st)) (hq : pc + 3 = q := by rfl) : Ends wd p e below s Qb kc ks T (mkF m pc Ls (.int x :: st)) := by
  subst hq; exact Ends.go (fun t => XS.ifNo X.here hx rfl hd rfl hc) k'
theorem E.goto {o : Int} (X : Stand p l e R s m args below meth c T locs cells slots) (hx : p.tables.exec = Jvm.exec) (hd : decode c.code pc = .ok (.goto o, 3)) (k' : Ends wd p e below s Qb kc ks T (mkF m q Ls st)) (ho : 0 ≤ (pc : Int) + o := by decide) (hq : ((pc : Int) + o).toNat = q := by decide) : Ends wd p e below s Qb kc ks T (mkF m pc Ls st) :=
  Ends.go (fun t => XS.goto X.here hx rfl rfl hd ho hq) k'
theorem E.nullY {o : Int} (X : Stand p l e R s m args below meth c T locs cells slots) (hx : p.tables.exec = Jvm.exec) (hd : decode c.code pc = .ok (.ifnull o, 3)) (k' : Ends wd p e below s Qb kc ks T (mkF m q Ls st)) (ho : 0 ≤ (pc : Int) + o := by decide) (hq : ((pc : Int) + o).toNat = q := by decide) : Ends wd p e below s Qb kc ks T (mkF m pc Ls (.null :: st)) :=
  Ends.go (fun t => XS.ifnullYes X.here hx rfl rfl hd rfl ho hq) k'
theorem E.nullN {o : Int} {b : Addr} (X : Stand p l e R s m args below meth c T locs cells slots) (hx : p.tables.exec = Jvm.exec) (hd : decode c.code pc = .ok (.ifnull o, 3)) (k' : Ends wd p e below s Qb kc ks T (mkF m q Ls st)) (hq : pc + 3 = q := by rfl) : Ends wd p e below s Qb kc ks T (mkF m pc Ls (.ref b :: st)) := by
  subst hq; exact Ends.go (fun t => XS.ifnullNo X.here hx rfl hd rfl) k'
theorem E.nonnullY {o : Int} {b : Addr} (X : Stand p l e R s m args below meth c T locs cells slots) (hx : p.tables.exec = Jvm.exec) (hd : decode c.code pc = .ok (.ifnonnull o, 3)) (k' : Ends wd p e below s Qb kc ks T (mkF m q Ls st)) (ho : 0 ≤ (pc : Int) + o := by decide) (hq : ((pc : Int) + o).toNat = q := by decide) : Ends wd p e below s Qb kc ks T (mkF m pc Ls (.ref b :: st)) :=
  Ends.go (fun t => XS.ifnonnullYes X.here hx rfl rfl hd rfl ho hq) k'
theorem E.nonnullN {o : Int} (X : Stand p l e R s m args below meth c T locs cells slots) (hx : p.tables.exec = Jvm.exec) (hd : decode c.code pc = .ok (.ifnonnull o, 3)) (k' : Ends wd p e below s Qb kc ks T (mkF m q Ls st)) (hq : pc + 3 = q := by rfl) : Ends wd p e below s Qb kc ks T (mkF m pc Ls (.null :: st)) := by
  subst hq; exact Ends.go (fun t => XS.ifnonnullNo X.here hx rfl hd rfl) k'
theorem E.ldc {v : Int32} {own : String} {index : Nat} (X : Stand p l e R s m args below meth c T locs cells slots) (hx : p.tables.exec = Jvm.exec) (hZ : Z.Warmed39 s.vm) (hown : s.vm.findClass own = some m.cls) (hc : (Jvm.Cond.constant own index v).before a0 Z = true) (hd : decode c.code pc = .ok (.ldc index, 2)) (k' : Ends wd p e below s Qb kc ks T (mkF m q Ls (.int v :: st))) (hq : pc + 2 = q := by rfl) : Ends wd p e below s Qb kc ks T (mkF m pc Ls st) := by
  subst hq; exact Ends.go (fun t => X.ldcI hx hown (mvT hZ hc) rfl hd) k'
theorem E.ldcW {v : Int32} {own : String} {index : Nat} (X : Stand p l e R s m args below meth c T locs cells slots) (hx : p.tables.exec = Jvm.exec) (hZ : Z.Warmed39 s.vm) (hown : s.vm.findClass own = some m.cls) (hc : (Jvm.Cond.constant own index v).before a0 Z = true) (hd : decode c.code pc = .ok (.ldc_w index, 3)) (k' : Ends wd p e below s Qb kc ks T (mkF m q Ls (.int v :: st))) (hq : pc + 3 = q := by rfl) : Ends wd p e below s Qb kc ks T (mkF m pc Ls st) := by
  subst hq; exact Ends.go (fun t => X.ldcWI hx hown (mvT hZ hc) rfl hd) k'
theorem E.ldc2 {v : Int64} {own : String} {index : Nat} (X : Stand p l e R s m args below meth c T locs cells slots) (hx : p.tables.exec = Jvm.exec) (hZ : Z.Warmed39 s.vm) (hown : s.vm.findClass own = some m.cls) (hc : (Jvm.Cond.constantLong own index v).before a0 Z = true) (hd : decode c.code pc = .ok (.ldc2_w index, 3)) (k' : Ends wd p e below s Qb kc ks T (mkF m q Ls (.long v :: st))) (hq : pc + 3 = q := by rfl) : Ends wd p e below s Qb kc ks T (mkF m pc Ls st) := by
  subst hq; exact Ends.go (fun t => X.ldc2J hx hown (mvT hZ hc) rfl hd) k'
end OwnSteps
/-! own text: arrays by their whole contents; what a body may have done to the heap -/
section OwnHeap
variable {wd : Option (Vm → Heap → Prop)} {p : Program} {l : Launch} {e : Env} {R : Room} {s : State} {m : MethodId} {args : Array Value} {below : List Frame} {meth : Method} {c : Code} {T : State} {locs : List Loc} {cells slots : Nat} {Z : State} {a0 : Array Value} {h h' h0 : Heap} {Qb : Option Value → Heap → List Loc → Prop} {kc ks : Nat} {a b : Addr} {ty : FieldType} {vs : List Value} {v : Value} {sl i : Nat} {ws ws' : List Addr} {L L' : List Loc} {pc : Nat} {Ls : Array Slot} {st : List Value} {j : Int32}
def Ary (Z : State) (h : Heap) (a : Addr) (ty : FieldType) (vs : List Value) : Prop := ∃ c : Cell, Arr Z h a c ty ∧ c.slots = vs.toArray ∧ vs.length < 2 ^ 31
theorem Ary.lt (A : Ary Z h a ty vs) : a < h.size := by obtain ⟨c, A, -⟩ := A; exact A.lt
theorem Ary.ext (E : Ext h h') (A : Ary Z h a ty vs) : Ary Z h' a ty vs := by obtain ⟨c, A, r⟩ := A; exact ⟨c, A.ext E, r⟩
theorem Ary.other (W : Wr h h' b sl v) (A : Ary Z h a ty vs) (q : a ≠ b) : Ary Z h' a ty vs := by obtain ⟨c, A, r⟩ := A; exact ⟨c, Arr.other W A q, r⟩
theorem Ary.keep (A : Ary Z h a ty vs) (K : Keep h h' ws) (q : a ∉ ws) : Ary Z h' a ty vs := by obtain ⟨c, A, r⟩ := A; exact ⟨c, ⟨K.2.1 a c A.1 q, A.2⟩, r⟩
theorem Ary.set (A : Ary Z h a ty vs) (W : Wr h h' a i v) : Ary Z h' a ty (vs.set i v) := by
  obtain ⟨c, A, e, l⟩ := A
  refine ⟨c.setSlot i v, Arr.same W A, ?_, by rw [List.length_set]; exact l⟩
  show c.slots.setIfInBounds i v = _
  rw [e]; simp
theorem own_ofNat {i : Nat} (h : i < 2 ^ 31) : (Int32.ofNat i).toInt = (i : Int) := by
  rw [Int32.toInt_ofNat_of_lt h]
theorem own_clamp {i : Nat} (h : i < 2 ^ 31) : (Int32.ofNat i).toNatClampNeg = i ∧ ¬ (Int32.ofNat i) < 0 := by
  have q := own_ofNat h
  refine ⟨?_, ?_⟩
  · show (Int32.ofNat i).toInt.toNat = i
    omega
  · rw [Int32.lt_iff_toInt_lt]
    have : (0 : Int32).toInt = 0 := by decide
    omega
theorem Ary.new {k : ClassId} {n : Int32} {N : Nat} (A : Arr Z h a (newA k ty n) ty) (hn : n = Int32.ofNat N) (hN : N < 2 ^ 31) : Ary Z h a ty (List.replicate N (defaultValue ty)) := by
  refine ⟨_, A, ?_, by rw [List.length_replicate]; exact hN⟩
  subst hn
  show Array.replicate (Int32.ofNat N).toNatClampNeg (defaultValue ty) = _
  rw [(own_clamp hN).1]; simp
theorem own_inb {c : Cell} (e : c.slots = vs.toArray) (l : vs.length < 2 ^ 31) (hj : j = Int32.ofNat i) (hi : i < vs.length) : ¬ (j < 0 ∨ c.slots.size ≤ j.toNatClampNeg) := by
  subst hj
  have q := own_clamp (i := i) (by omega)
  rw [q.1, e]
  rintro (r | r)
  · exact q.2 r
  · simp at r; omega
theorem own_at {c : Cell} (e : c.slots = vs.toArray) (l : vs.length < 2 ^ 31) (hj : j = Int32.ofNat i) (hv : vs[i]? = some v) : ¬ (j < 0 ∨ c.slots.size ≤ j.toNatClampNeg) ∧ c.slots[j.toNatClampNeg]? = some v := by
  have hi : i < vs.length := (List.getElem?_eq_some_iff.mp hv).1
  refine ⟨own_inb e l hj hi, ?_⟩
  subst hj
  rw [(own_clamp (i := i) (by omega)).1, e]
  simpa using hv
/-- what the walk has done so far: of the elder cells only those in ws are written -/
def Ok (h0 h : Heap) (ws : List Addr) (L : List Loc) : Prop := Keep h0 h ws ∧ ∀ y ∈ L, y.base ∈ ws ∨ h0.size ≤ y.base
theorem Ok.refl (h : Heap) (ws : List Addr) : Ok h h ws [] := ⟨Keep.refl h ws, fun _ q => nomatch q⟩
theorem Ok.ext (O : Ok h0 h ws L) (E : Ext h h') : Ok h0 h' ws L := ⟨O.1.ext E, O.2⟩
theorem Ok.wr (O : Ok h0 h ws L) (W : Wr h h' a sl v) (q : a ∈ ws ∨ h0.size ≤ a) : Ok h0 h' ws (L ++ [⟨a, sl⟩]) :=
  ⟨O.1.wr W q, fun y hy => (List.mem_append.mp hy).elim (O.2 y) fun r => by cases List.mem_singleton.mp r; exact q⟩
theorem Ok.call (O : Ok h0 h ws L) (O' : Ok h h' ws' L') (q : ∀ x ∈ ws', x ∈ ws ∨ h0.size ≤ x) : Ok h0 h' ws (L ++ L') :=
  ⟨O.1.trans O'.1 q, fun y hy => (List.mem_append.mp hy).elim (O.2 y) fun r => (O'.2 y r).elim (q _) fun u => Or.inr (Nat.le_trans O.1.1 u)⟩
theorem Ok.fr (O : Ok h0 h [] L) : Fr h0.size L := fun y hy => (O.2 y hy).elim (fun q => nomatch q) id
theorem Ok.le (O : Ok h0 h ws L) : h0.size ≤ h.size := O.1.1
theorem Ends.alen (X : Stand p l e R s m args below meth c T locs cells slots) (hx : p.tables.exec = Jvm.exec) (hZ : Z.Warmed39 s.vm) (eT : T.heap = h) (A : Ary Z h a ty vs) (hd : decode c.code pc = .ok (.arraylength, 1)) {n : Int32} (hn : Int32.ofNat vs.length = n)
    (k : Ends wd p e below s Qb kc ks T (mkF m (pc + 1) Ls (.int n :: st))) : Ends wd p e below s Qb kc ks T (mkF m pc Ls (.ref a :: st)) := by
  obtain ⟨cl, A, q, -⟩ := A
  refine Ends.go (fun t => X.arraylength hx (cell := cl) (by rw [eT]; exact A.1) (State.isArrayOf_alike hZ.alike A.2.1) (g := mkF m pc Ls (.ref a :: st)) rfl (rest := st) rfl hd t) ?_
  have e1 : cl.slots.size.toInt32 = n := by rw [q, ← hn]; simp
  rw [e1]; exact k
theorem Ends.ild (X : Stand p l e R s m args below meth c T locs cells slots) (hx : p.tables.exec = Jvm.exec) (hZ : Z.Warmed39 s.vm) (eT : T.heap = h) (A : Ary Z h a .int vs) (hj : j = Int32.ofNat i) (hv : vs[i]? = some v) (hd : decode c.code pc = .ok (.iaload, 1))
    (k : Ends wd p e below s Qb kc ks T (mkF m (pc + 1) Ls (v :: st))) : Ends wd p e below s Qb kc ks T (mkF m pc Ls (.int j :: .ref a :: st)) := by
  obtain ⟨cl, A, q, q2⟩ := A
  obtain ⟨r1, r2⟩ := own_at q q2 hj hv
  exact Ends.go (fun t => X.iaload hx (by rw [eT]; exact A.1) (State.isArrayOf_alike hZ.alike A.2.1) A.2.2 r1 r2 (g := mkF m pc Ls (.int j :: .ref a :: st)) rfl rfl hd t) k
theorem Ends.cld (X : Stand p l e R s m args below meth c T locs cells slots) (hx : p.tables.exec = Jvm.exec) (hZ : Z.Warmed39 s.vm) (eT : T.heap = h) (A : Ary Z h a .char vs) (hj : j = Int32.ofNat i) (hv : vs[i]? = some v) (hd : decode c.code pc = .ok (.caload, 1))
    (k : Ends wd p e below s Qb kc ks T (mkF m (pc + 1) Ls (v :: st))) : Ends wd p e below s Qb kc ks T (mkF m pc Ls (.int j :: .ref a :: st)) := by
  obtain ⟨cl, A, q, q2⟩ := A
  obtain ⟨r1, r2⟩ := own_at q q2 hj hv
  exact Ends.go (fun t => X.caload hx (by rw [eT]; exact A.1) (State.isArrayOf_alike hZ.alike A.2.1) A.2.2 r1 r2 (g := mkF m pc Ls (.int j :: .ref a :: st)) rfl rfl hd t) k
theorem Ends.bld (X : Stand p l e R s m args below meth c T locs cells slots) (hx : p.tables.exec = Jvm.exec) (hZ : Z.Warmed39 s.vm) (eT : T.heap = h) (A : Ary Z h a .byte vs) (hj : j = Int32.ofNat i) (hv : vs[i]? = some v) (hd : decode c.code pc = .ok (.baload, 1))
    (k : Ends wd p e below s Qb kc ks T (mkF m (pc + 1) Ls (v :: st))) : Ends wd p e below s Qb kc ks T (mkF m pc Ls (.int j :: .ref a :: st)) := by
  obtain ⟨cl, A, q, q2⟩ := A
  obtain ⟨r1, r2⟩ := own_at q q2 hj hv
  exact Ends.go (fun t => X.baloadBytes hx (by rw [eT]; exact A.1) (State.isArrayOf_alike hZ.alike A.2.1) A.2.2 r1 r2 (g := mkF m pc Ls (.int j :: .ref a :: st)) rfl rfl hd t) k
theorem Ends.dld (X : Stand p l e R s m args below meth c T locs cells slots) (hx : p.tables.exec = Jvm.exec) (hZ : Z.Warmed39 s.vm) (eT : T.heap = h) (A : Ary Z h a .double vs) (hj : j = Int32.ofNat i) (hv : vs[i]? = some v) (hd : decode c.code pc = .ok (.daload, 1))
    (k : Ends wd p e below s Qb kc ks T (mkF m (pc + 1) Ls (v :: st))) : Ends wd p e below s Qb kc ks T (mkF m pc Ls (.int j :: .ref a :: st)) := by
  obtain ⟨cl, A, q, q2⟩ := A
  obtain ⟨r1, r2⟩ := own_at q q2 hj hv
  exact Ends.go (fun t => X.daload hx (by rw [eT]; exact A.1) (State.isArrayOf_alike hZ.alike A.2.1) A.2.2 r1 r2 (g := mkF m pc Ls (.int j :: .ref a :: st)) rfl rfl hd t) k
theorem Ends.ald (X : Stand p l e R s m args below meth c T locs cells slots) (hx : p.tables.exec = Jvm.exec) (hZ : Z.Warmed39 s.vm) (eT : T.heap = h) (A : Ary Z h a ty vs) (hty : ty.isReference = true) (hj : j = Int32.ofNat i) (hv : vs[i]? = some v) (hd : decode c.code pc = .ok (.aaload, 1))
    (k : Ends wd p e below s Qb kc ks T (mkF m (pc + 1) Ls (v :: st))) : Ends wd p e below s Qb kc ks T (mkF m pc Ls (.int j :: .ref a :: st)) := by
  obtain ⟨cl, A, q, q2⟩ := A
  obtain ⟨r1, r2⟩ := own_at q q2 hj hv
  exact Ends.go (fun t => X.aaload hx (by rw [eT]; exact A.1) (State.isArrayOf_alike hZ.alike A.2.1) hty A.2.2 r1 r2 (g := mkF m pc Ls (.int j :: .ref a :: st)) rfl rfl hd t) k
theorem Ends.ist (X : Stand p l e R s m args below meth c T locs cells slots) (hx : p.tables.exec = Jvm.exec) (hZ : Z.Warmed39 s.vm) (eT : T.heap = h) (A : Ary Z h a .int vs) {x : Int32} (hj : j = Int32.ofNat i) (hi : i < vs.length) (hd : decode c.code pc = .ok (.iastore, 1))
    (k : ∀ T' h', Stand p l e R s m args below meth c T' (locs ++ [⟨a, i⟩]) cells slots → T'.heap = h' → Wr h h' a i (.int x) → Ary Z h' a .int (vs.set i (.int x)) → Ends wd p e below s Qb kc ks T' (mkF m (pc + 1) Ls st)) : Ends wd p e below s Qb kc ks T (mkF m pc Ls (.int x :: .int j :: .ref a :: st)) := by
  obtain ⟨cl, A', q, q2⟩ := id A
  obtain ⟨T', h', X', e', W, st'⟩ := stI X hx hZ eT A' (j := j) (own_inb q q2 hj hi) (g := mkF m pc Ls (.int x :: .int j :: .ref a :: st)) rfl rfl hd
  have hc : j.toNatClampNeg = i := by rw [hj]; exact (own_clamp (by omega)).1
  rw [hc] at X' W
  exact Ends.go st' (k T' h' X' e' W (A.set W))
theorem Ends.cst (X : Stand p l e R s m args below meth c T locs cells slots) (hx : p.tables.exec = Jvm.exec) (hZ : Z.Warmed39 s.vm) (eT : T.heap = h) (A : Ary Z h a .char vs) {x x' : Int32} (hxx : nar .char x = x') (hj : j = Int32.ofNat i) (hi : i < vs.length) (hd : decode c.code pc = .ok (.castore, 1))
    (k : ∀ T' h', Stand p l e R s m args below meth c T' (locs ++ [⟨a, i⟩]) cells slots → T'.heap = h' → Wr h h' a i (.int x') → Ary Z h' a .char (vs.set i (.int x')) → Ends wd p e below s Qb kc ks T' (mkF m (pc + 1) Ls st)) : Ends wd p e below s Qb kc ks T (mkF m pc Ls (.int x :: .int j :: .ref a :: st)) := by
  obtain ⟨cl, A', q, q2⟩ := id A
  obtain ⟨T', h', X', e', W, st'⟩ := stC X hx hZ eT A' (j := j) (own_inb q q2 hj hi) (g := mkF m pc Ls (.int x :: .int j :: .ref a :: st)) rfl rfl hd
  have hc : j.toNatClampNeg = i := by rw [hj]; exact (own_clamp (by omega)).1
  rw [hc] at X' W
  rw [hxx] at W
  exact Ends.go st' (k T' h' X' e' W (A.set W))
theorem Ends.bst (X : Stand p l e R s m args below meth c T locs cells slots) (hx : p.tables.exec = Jvm.exec) (hZ : Z.Warmed39 s.vm) (eT : T.heap = h) (A : Ary Z h a .byte vs) {x x' : Int32} (hxx : nar .byte x = x') (hj : j = Int32.ofNat i) (hi : i < vs.length) (hd : decode c.code pc = .ok (.bastore, 1))
    (k : ∀ T' h', Stand p l e R s m args below meth c T' (locs ++ [⟨a, i⟩]) cells slots → T'.heap = h' → Wr h h' a i (.int x') → Ary Z h' a .byte (vs.set i (.int x')) → Ends wd p e below s Qb kc ks T' (mkF m (pc + 1) Ls st)) : Ends wd p e below s Qb kc ks T (mkF m pc Ls (.int x :: .int j :: .ref a :: st)) := by
  obtain ⟨cl, A', q, q2⟩ := id A
  obtain ⟨T', h', X', e', W, st'⟩ := stB X hx hZ eT A' (j := j) (own_inb q q2 hj hi) (g := mkF m pc Ls (.int x :: .int j :: .ref a :: st)) rfl rfl hd
  have hc : j.toNatClampNeg = i := by rw [hj]; exact (own_clamp (by omega)).1
  rw [hc] at X' W
  rw [hxx] at W
  exact Ends.go st' (k T' h' X' e' W (A.set W))
theorem Ends.dst (X : Stand p l e R s m args below meth c T locs cells slots) (hx : p.tables.exec = Jvm.exec) (hZ : Z.Warmed39 s.vm) (eT : T.heap = h) (A : Ary Z h a .double vs) {x : UInt64} (hj : j = Int32.ofNat i) (hi : i < vs.length) (hd : decode c.code pc = .ok (.dastore, 1))
    (k : ∀ T' h', Stand p l e R s m args below meth c T' (locs ++ [⟨a, i⟩]) cells slots → T'.heap = h' → Wr h h' a i (.double x) → Ary Z h' a .double (vs.set i (.double x)) → Ends wd p e below s Qb kc ks T' (mkF m (pc + 1) Ls st)) : Ends wd p e below s Qb kc ks T (mkF m pc Ls (.double x :: .int j :: .ref a :: st)) := by
  obtain ⟨cl, A', q, q2⟩ := id A
  obtain ⟨T', h', X', e', W, st'⟩ := stD X hx hZ eT A' (j := j) (own_inb q q2 hj hi) (g := mkF m pc Ls (.double x :: .int j :: .ref a :: st)) rfl rfl hd
  have hc : j.toNatClampNeg = i := by rw [hj]; exact (own_clamp (by omega)).1
  rw [hc] at X' W
  exact Ends.go st' (k T' h' X' e' W (A.set W))
theorem Ends.newA (X : Stand p l e R s m args below meth c T locs cells slots) (hx : p.tables.exec = Jvm.exec) (hZ : Z.Warmed39 s.vm) {aty : ArrayType} (w : (Jvm.Cond.arrayClass (newarray.typeOf aty)).before a0 Z = true) (eT : T.heap = h) (hd : decode c.code pc = .ok (.newarray aty, 2)) {n : Int32} {N : Nat} (hn : n = Int32.ofNat N) (hN : N * 8 ≤ 536870912) (hc : cells + 1 ≤ R.cells) (hl : slots + N ≤ R.slots)
    (k : ∀ T' h' b, b = h.size → Stand p l e R s m args below meth c T' locs (cells + 1) (slots + N) → T'.heap = h' → Ext h h' → Ary Z h' b (newarray.typeOf aty) (List.replicate N (defaultValue (newarray.typeOf aty))) → Ends wd p e below s Qb kc ks T' (mkF m (pc + 2) Ls (.ref b :: st))) : Ends wd p e below s Qb kc ks T (mkF m pc Ls (.int n :: st)) := by
  have q := own_clamp (i := N) (by omega)
  obtain ⟨T', h', cA, X', e', E, A, st'⟩ := newP X hx hZ w eT (g := mkF m pc Ls (.int n :: st)) rfl hd rfl (by rw [hn]; exact q.2) (cap := N) (by rw [hn, q.1]; exact Nat.le_refl _) hN hc hl
  exact Ends.go st' (k T' h' _ rfl X' e' E (Ary.new A hn (by omega)))
theorem Ends.newC (X : Stand p l e R s m args below meth c T locs cells slots) (hx : p.tables.exec = Jvm.exec) (hZ : Z.Warmed39 s.vm) {own C : String} {index n : Nat} (hown : s.vm.findClass own = some m.cls) (w : (Jvm.Cond.classLink own index C).before a0 Z = true) (wi : (Jvm.Cond.instantiable C n).before a0 Z = true) (wz : (Jvm.Cond.initialized C).before a0 Z = true) (eT : T.heap = h) (hd : decode c.code pc = .ok (.new index, 3)) (hc : cells + 1 ≤ R.cells) (hl : slots + n ≤ R.slots)
    (k : ∀ T' h' b, b = h.size → Stand p l e R s m args below meth c T' locs (cells + 1) (slots + n) → T'.heap = h' → Ext h h' → Exa Z h' b C → (∀ {O nm d : String} {ty : FieldType}, Laid Z a0 C O nm d → parseFieldDescriptor d = some ty → Fld Z h' b O nm d (defaultValue ty)) → Ends wd p e below s Qb kc ks T' (mkF m (pc + 3) Ls (.ref b :: st))) : Ends wd p e below s Qb kc ks T (mkF m pc Ls st) := by
  obtain ⟨T', h', X', e', E, A, D, -, st'⟩ := newO X hx hZ hown w wi wz eT (g := mkF m pc Ls st) rfl hd hc hl
  exact Ends.go st' (k T' h' _ rfl X' e' E A D)
end OwnHeap
section OwnHeap2
variable {wd : Option (Vm → Heap → Prop)} {p : Program} {l : Launch} {e : Env} {R : Room} {s : State} {m : MethodId} {args : Array Value} {below : List Frame} {meth : Method} {c : Code} {T : State} {locs : List Loc} {cells slots : Nat} {Z : State} {a0 : Array Value} {h h' h0 : Heap} {Qb : Option Value → Heap → List Loc → Prop} {kc ks : Nat} {a b : Addr} {ty : FieldType} {v v' old : Value} {pc index kk : Nat} {Ls : Array Slot} {st : List Value} {own R0 O n d host C : String}
theorem Ends.getF (X : Stand p l e R s m args below meth c T locs cells slots) (hx : p.tables.exec = Jvm.exec) (hZ : Z.Warmed39 s.vm) (hown : s.vm.findClass own = some m.cls) (w : (Jvm.Cond.fieldLink own index R0 n d).before a0 Z = true ∨ (Jvm.Cond.fieldLinkNest own index R0 n d host).before a0 Z = true) (via : Via Z R0 O n d) (eT : T.heap = h) (F : Fld Z h a O n d v) (hd : decode c.code pc = .ok (.getfield index, 3))
    (k : ∀ T', Stand p l e R s m args below meth c T' locs cells slots → T'.heap = h → Ends wd p e below s Qb kc ks T' (mkF m (pc + 3) Ls (v :: st))) : Ends wd p e below s Qb kc ks T (mkF m pc Ls (.ref a :: st)) := by
  obtain ⟨T', X', e', st'⟩ := Jvm.RoadKit.getF X hx hZ hown w via eT F (g := mkF m pc Ls (.ref a :: st)) rfl rfl hd
  exact Ends.go st' (k T' X' e')
theorem Ends.putF (X : Stand p l e R s m args below meth c T locs cells slots) (hx : p.tables.exec = Jvm.exec) (hZ : Z.Warmed39 s.vm) (hown : s.vm.findClass own = some m.cls) (w : (Jvm.Cond.fieldLink own index R0 n d).before a0 Z = true ∨ (Jvm.Cond.fieldLinkNest own index R0 n d host).before a0 Z = true) (via : Via Z R0 O n d) (eT : T.heap = h) (F : Fld Z h a O n d old) (E : Exa Z h a C) (L : (Jvm.Cond.lays C O n d).before a0 Z = true ∨ ((Jvm.Cond.laysFinal C O n d).before a0 Z = true ∧ own = O ∧ meth.name = "<init>")) (wi : (Jvm.Cond.instantiable C kk).before a0 Z = true) (hty : parseFieldDescriptor d = some ty) (hn : narrow ty v = v) (hf : fits ty v = true) (hd : decode c.code pc = .ok (.putfield index, 3))
    (k : ∀ T' h', Stand p l e R s m args below meth c T' (locs ++ [⟨a, Jvm.RoadKit.slotOf Z O n d⟩]) cells slots → T'.heap = h' → Wr h h' a (Jvm.RoadKit.slotOf Z O n d) v → Fld Z h' a O n d v → Ends wd p e below s Qb kc ks T' (mkF m (pc + 3) Ls st)) : Ends wd p e below s Qb kc ks T (mkF m pc Ls (v :: .ref a :: st)) := by
  obtain ⟨T', h', X', e', W, st'⟩ := Jvm.RoadKit.putF X hx hZ hown w via eT F E L wi hty hn hf (g := mkF m pc Ls (v :: .ref a :: st)) rfl rfl hd
  exact Ends.go st' (k T' h' X' e' W (F.same W))
theorem Ends.putN (X : Stand p l e R s m args below meth c T locs cells slots) (hx : p.tables.exec = Jvm.exec) (hZ : Z.Warmed39 s.vm) (hown : s.vm.findClass own = some m.cls) (w : (Jvm.Cond.fieldLink own index R0 n d).before a0 Z = true) (via : Via Z R0 O n d) (eT : T.heap = h) (F : Fld Z h a O n d old) (E : Exa Z h a C) (L : (Jvm.Cond.lays C O n d).before a0 Z = true ∨ ((Jvm.Cond.laysFinal C O n d).before a0 Z = true ∧ own = O ∧ meth.name = "<init>")) (wi : (Jvm.Cond.instantiable C kk).before a0 Z = true) (hty : parseFieldDescriptor d = some ty) (hn : narrow ty v = v') (hf : fits ty v' = true) (hd : decode c.code pc = .ok (.putfield index, 3))
    (k : ∀ T' h', Stand p l e R s m args below meth c T' (locs ++ [⟨a, Jvm.RoadKit.slotOf Z O n d⟩]) cells slots → T'.heap = h' → Wr h h' a (Jvm.RoadKit.slotOf Z O n d) v' → Fld Z h' a O n d v' → Ends wd p e below s Qb kc ks T' (mkF m (pc + 3) Ls st)) : Ends wd p e below s Qb kc ks T (mkF m pc Ls (v :: .ref a :: st)) := by
  obtain ⟨T', h', X', e', W, st'⟩ := Jvm.RoadKit.putFN X hx hZ hown w via eT F E L wi hty hn hf (g := mkF m pc Ls (v :: .ref a :: st)) rfl rfl hd
  exact Ends.go st' (k T' h' X' e' W (F.same W))
theorem Ends.initO (X : Stand p l e R s m args below meth c T locs cells slots) (hx : p.tables.exec = Jvm.exec) (hZ : Z.Warmed39 s.vm) (hown : s.vm.findClass own = some m.cls) (w1 : (Jvm.Cond.methodLink own index Lib.objectInit).before a0 Z = true) (w2 : (Jvm.Cond.instanceMethod Lib.objectInit).before a0 Z = true) (w3 : (Jvm.Cond.code Lib.objectInit ⟨#[0xb1]⟩ 1 none).before a0 Z = true) (eT : T.heap = h) (hsz : Ls.size = c.maxLocals) (hd : decode c.code pc = .ok (.invokespecial index, 3)) (hf : 1 ≤ R.frames) {W : Nat} (hW : (st.map fun v => v.category).sum ≤ W) (hl : W + 12 ≤ R.locals)
    (k : ∀ T', Stand p l e R s m args below meth c T' locs cells slots → T'.heap = h → Ends wd p e below s Qb kc ks T' (mkF m (pc + 3) Ls st)) : Ends wd p e below s Qb kc ks T (mkF m pc Ls (.ref a :: st)) := by
  obtain ⟨T', X', e', st'⟩ := Jvm.RoadKit.initO X hx hZ hown w1 w2 w3 eT (g := mkF m pc Ls (.ref a :: st)) rfl hsz rfl hd hf (W := W) (by show 2 * 0 + _ ≤ _; omega) hl
  exact Ends.go st' (k T' X' e')
end OwnHeap2
section OwnHeap3
variable {wd : Option (Vm → Heap → Prop)} {p : Program} {l : Launch} {e : Env} {R : Room} {s : State} {m : MethodId} {args : Array Value} {below : List Frame} {meth : Method} {c : Code} {T : State} {locs : List Loc} {cells slots : Nat} {Z : State} {a0 : Array Value} {h h' h0 : Heap} {Qb : Option Value → Heap → List Loc → Prop} {kc ks : Nat} {a b y : Addr} {ty : FieldType} {vs : List Value} {v : Value} {sl i : Nat} {ws : List Addr} {pc q index : Nat} {Ls : Array Slot} {st : List Value} {j : Int32} {own C n d O R0 host : String}
theorem own_sta_keep (F : Sta Z h C n d v) (K : Keep h h' ws) (q : ∀ x ∈ ws, ∀ cell : Cell, h[x]? = some cell → cell.vm.isStatics = false) : Sta Z h' C n d v := by
  obtain ⟨cf, i, k, f, st, cell, h1, h2, h3, h4, h5, h6, h7⟩ := F
  have ni : st ∉ ws := fun m => by rw [q st m cell h5] at h6; cases h6
  exact ⟨cf, i, k, f, st, cell, h1, h2, h3, h4, K.2.1 st cell h5 ni, h6, h7⟩
theorem own_ns (E : Exa Z h a C) : ∀ x ∈ [a], ∀ cell : Cell, h[x]? = some cell → cell.vm.isStatics = false := fun x m cell q => by
  cases List.mem_singleton.mp m
  obtain ⟨c1, _, h1, -, -, h4, -⟩ := E
  cases h1.symm.trans q; exact h4
theorem own_ns0 : ∀ x ∈ ([] : List Addr), ∀ cell : Cell, h[x]? = some cell → cell.vm.isStatics = false := fun x m => nomatch m
theorem Ends.getS (X : Stand p l e R s m args below meth c T locs cells slots) (hx : p.tables.exec = Jvm.exec) (hZ : Z.Warmed39 s.vm) (hown : s.vm.findClass own = some m.cls) (w : (Jvm.Cond.fieldLink own index R0 n d).before a0 Z = true ∨ (Jvm.Cond.fieldLinkNest own index R0 n d host).before a0 Z = true) (via : Via Z R0 O n d) (eT : T.heap = h) (F : Sta Z h O n d v) (hd : decode c.code pc = .ok (.getstatic index, 3))
    (k : ∀ T', Stand p l e R s m args below meth c T' locs cells slots → T'.heap = h → Ends wd p e below s Qb kc ks T' (mkF m (pc + 3) Ls (v :: st))) : Ends wd p e below s Qb kc ks T (mkF m pc Ls st) := by
  obtain ⟨T', X', e', st'⟩ := getS2 X hx hZ hown w via eT F (g := mkF m pc Ls st) rfl hd
  exact Ends.go st' (k T' X' e')
theorem E.ldc2D {w : UInt64} (X : Stand p l e R s m args below meth c T locs cells slots) (hx : p.tables.exec = Jvm.exec) (hZ : Z.Warmed39 s.vm) (hown : s.vm.findClass own = some m.cls) (hc : (Jvm.Cond.constantDouble own index w).before a0 Z = true) (hd : decode c.code pc = .ok (.ldc2_w index, 3)) (k' : Ends wd p e below s Qb kc ks T (mkF m q Ls (.double w :: st))) (hq : pc + 3 = q := by rfl) : Ends wd p e below s Qb kc ks T (mkF m pc Ls st) := by
  subst hq; exact Ends.go (fun t => X.ldc2DoubleC hx hown (mvT hZ hc) (g := mkF m pc Ls st) rfl hd t) k'
theorem Ends.retD (X : Stand p l e R s m args below meth c T locs cells slots) (hx : p.tables.exec = Jvm.exec) (hlk : meth.locks = false) {z : UInt64} (hret : meth.sig.returnType = some .double) (hd : decode c.code pc = .ok (.dreturn, 1)) (hc : cells ≤ kc) (hs : slots ≤ ks) (hQ : Qb (some (.double z)) T.heap locs) (hF : OkF wd T.vm T.heap := by exact True.intro) : Ends wd p e below s Qb kc ks T (mkF m pc Ls (.double z :: st)) :=
  Ends.ret X hx hlk hret rfl (Or.inr (Or.inr (Or.inl ⟨rfl, rfl, _, rfl⟩))) hd hc hs hQ hF
/-- an array of arrays, with what may lie in it -/
def Ar2 (Z : State) (h : Heap) (a : Addr) (ty : FieldType) (C : String) (vs : List Value) : Prop := ∃ c : Cell, Arr Z h a c (.array ty) ∧ c.slots = vs.toArray ∧ vs.length < 2 ^ 31 ∧ OvrA Z c.cls ty C
theorem Ar2.ary (A : Ar2 Z h a ty C vs) : Ary Z h a (.array ty) vs := by obtain ⟨c, A, q, r, -⟩ := A; exact ⟨c, A, q, r⟩
theorem Ar2.lt (A : Ar2 Z h a ty C vs) : a < h.size := A.ary.lt
theorem Ar2.ext (E : Ext h h') (A : Ar2 Z h a ty C vs) : Ar2 Z h' a ty C vs := by obtain ⟨c, A, r⟩ := A; exact ⟨c, A.ext E, r⟩
theorem Ar2.other (W : Wr h h' b sl v) (A : Ar2 Z h a ty C vs) (q : a ≠ b) : Ar2 Z h' a ty C vs := by obtain ⟨c, A, r⟩ := A; exact ⟨c, Arr.other W A q, r⟩
theorem Ar2.keep (A : Ar2 Z h a ty C vs) (K : Keep h h' ws) (q : a ∉ ws) : Ar2 Z h' a ty C vs := by obtain ⟨c, A, r⟩ := A; exact ⟨c, ⟨K.2.1 a c A.1 q, A.2⟩, r⟩
theorem Ar2.set (A : Ar2 Z h a ty C vs) (W : Wr h h' a i v) : Ar2 Z h' a ty C (vs.set i v) := by
  obtain ⟨c, A, e, l, o⟩ := A
  refine ⟨c.setSlot i v, Arr.same W A, ?_, by rw [List.length_set]; exact l, o⟩
  show c.slots.setIfInBounds i v = _
  rw [e]; simp
theorem Ends.newA2 (X : Stand p l e R s m args below meth c T locs cells slots) (hx : p.tables.exec = Jvm.exec) (hZ : Z.Warmed39 s.vm) (hown : s.vm.findClass own = some m.cls) (hC : (FieldType.array ty).toString = C) (w1 : (Jvm.Cond.classLink own index C).before a0 Z = true) (w2 : (Jvm.Cond.arrayOver (.array ty)).before a0 Z = true) (eT : T.heap = h) (hd : decode c.code pc = .ok (.anewarray index, 3)) {n : Int32} {N : Nat} (hn : n = Int32.ofNat N) (hN : N * 8 ≤ 536870912) (hc : cells + 1 ≤ R.cells) (hl : slots + N ≤ R.slots)
    (k : ∀ T' h' b, b = h.size → Stand p l e R s m args below meth c T' locs (cells + 1) (slots + N) → T'.heap = h' → Ext h h' → Ar2 Z h' b ty C (List.replicate N .null) → Ends wd p e below s Qb kc ks T' (mkF m (pc + 3) Ls (.ref b :: st))) : Ends wd p e below s Qb kc ks T (mkF m pc Ls (.int n :: st)) := by
  have q := own_clamp (i := N) (by omega)
  obtain ⟨T', h', cA, X', e', E, A, -, O, st'⟩ := newRA X hx hZ hown hC w1 w2 eT (g := mkF m pc Ls (.int n :: st)) rfl hd rfl (by rw [hn]; exact q.2) (cap := N) (by rw [hn, q.1]; exact Nat.le_refl _) hN hc hl (ad := "[" ++ C) rfl
  refine Ends.go st' (k T' h' _ rfl X' e' E ?_)
  obtain ⟨c', A', q1, q2⟩ := Ary.new (ty := .array ty) A hn (by omega)
  have e1 : c' = Jvm.RoadKit.newA cA (.array ty) n := Option.some.inj (A'.1.symm.trans A.1)
  exact ⟨c', A', q1, q2, by rw [e1]; exact O⟩
theorem Ends.ast (X : Stand p l e R s m args below meth c T locs cells slots) (hx : p.tables.exec = Jvm.exec) (hZ : Z.Warmed39 s.vm) (eT : T.heap = h) (A : Ar2 Z h a ty C vs) (I : Exa Z h y C) (hj : j = Int32.ofNat i) (hi : i < vs.length) (hd : decode c.code pc = .ok (.aastore, 1))
    (k : ∀ T' h', Stand p l e R s m args below meth c T' (locs ++ [⟨a, i⟩]) cells slots → T'.heap = h' → Wr h h' a i (.ref y) → Ar2 Z h' a ty C (vs.set i (.ref y)) → Ends wd p e below s Qb kc ks T' (mkF m (pc + 1) Ls st)) : Ends wd p e below s Qb kc ks T (mkF m pc Ls (.ref y :: .int j :: .ref a :: st)) := by
  obtain ⟨cl, A', q, q2, O⟩ := id A
  obtain ⟨T', h', X', e', W, st'⟩ := stR X hx hZ eT A' (j := j) (own_inb q q2 hj hi) rfl (Sto.ofVA A' rfl O (Ins.self I)) (g := mkF m pc Ls (.ref y :: .int j :: .ref a :: st)) rfl rfl hd
  have hc : j.toNatClampNeg = i := by rw [hj]; exact (own_clamp (by omega)).1
  rw [hc] at X' W
  exact Ends.go st' (k T' h' X' e' W (A.set W))
theorem Ends.newAE (X : Stand p l e R s m args below meth c T locs cells slots) (hx : p.tables.exec = Jvm.exec) (hZ : Z.Warmed39 s.vm) {aty : ArrayType} (w : (Jvm.Cond.arrayClass (newarray.typeOf aty)).before a0 Z = true) (eT : T.heap = h) (hd : decode c.code pc = .ok (.newarray aty, 2)) {n : Int32} {N : Nat} (hn : n = Int32.ofNat N) (hN : N * 8 ≤ 536870912) (hc : cells + 1 ≤ R.cells) (hl : slots + N ≤ R.slots) {ad : String} (had : "[" ++ (newarray.typeOf aty).toString = ad)
    (k : ∀ T' h' b, b = h.size → Stand p l e R s m args below meth c T' locs (cells + 1) (slots + N) → T'.heap = h' → Ext h h' → Ary Z h' b (newarray.typeOf aty) (List.replicate N (defaultValue (newarray.typeOf aty))) → Exa Z h' b ad → Ends wd p e below s Qb kc ks T' (mkF m (pc + 2) Ls (.ref b :: st))) : Ends wd p e below s Qb kc ks T (mkF m pc Ls (.int n :: st)) := by
  have q := own_clamp (i := N) (by omega)
  obtain ⟨T', h', cA, X', e', E, A, E2, st'⟩ := newPE X hx hZ w eT (g := mkF m pc Ls (.int n :: st)) rfl hd rfl (by rw [hn]; exact q.2) (cap := N) (by rw [hn, q.1]; exact Nat.le_refl _) hN hc hl had
  exact Ends.go st' (k T' h' _ rfl X' e' E (Ary.new A hn (by omega)) E2)
end OwnHeap3
/-! own text: roads that load string constants (the base state moves, ReturnedEndW at the end) -/
section OwnWide
variable {wd : Option (Vm → Heap → Prop)} {p : Program} {l : Launch} {e : Env} {R : Room} {s : State} {m : MethodId} {args : Array Value} {below : List Frame} {meth : Method} {c : Code} {T : State} {locs : List Loc} {cells slots : Nat} {Z : State} {a0 : Array Value} {h : Heap} {Qb : Option Value → Heap → List Loc → Prop} {kc ks : Nat} {F : Vm → Heap → Prop}
def Fl (Q : Option Value → Heap → List Loc → Prop) (f : Nat) : Option Value → Heap → List Loc → Prop := fun v h L => Q v h L ∧ f ≤ h.size
theorem Ends.rebase {vm1 : Vm} {f f0 k1 : Nat} {g : JFrame} (hS : s.Since vm1 k1) (hk : k1 ≤ f) (hf : f0 ≤ f) (k : Ends (some F) p e below (s.setVm vm1) (Fl Qb f) kc ks T g) : Ends (some F) p e below s (Fl Qb f0) kc ks T g := by
  obtain ⟨s2, o, st, hr, hE, v, L, ho, hQ, ⟨hret, hW, hB, hs⟩, hF⟩ := k
  have hS2 : (s.setVm vm1).Since s2.vm s2.heap.size := ⟨hW, hB⟩
  have hS3 := hS.trans hS2 (Nat.le_trans hk hQ.2)
  exact ⟨s2, o, st, hr, hE, v, L, ho, ⟨hQ.1, Nat.le_trans hf hQ.2⟩, ⟨hret, hS3.1, hS3.2, hs.setVm s.vm⟩, hF⟩
abbrev ConW (l : Launch) (y : MethodName) (code : ByteArray) (ml : Nat) (rt : Option FieldType) (ws : List Jvm.Cond) (rm : Room) (as' : Array Value) (Z : State) (h0 : Heap) (Q : Option Value → Heap → List Loc → Prop) : Prop :=
  MetFree l y (head1 (Jvm.Cond.code y code ml rt :: ws) rm) (fun a U => a = as' ∧ Z.Warmed39 U.vm ∧ U.heap = h0) (fun _ _ _ _ _ => True) (fun _ U o U' => ∃ v L, o = .returned v ∧ Q v U'.heap L ∧ ReturnedEndW U o U' L rm.cells rm.slots)
theorem ConW.of {y : MethodName} {code : ByteArray} {ml : Nat} {rt : Option FieldType} {ws : List Jvm.Cond} {rm : Room} {as' : Array Value} {h0 : Heap} {Q : Option Value → Heap → List Loc → Prop} (hp : plainFor y = true)
    (k : ∀ (p : Program) (e : Env) (s : State) (m : MethodId) (below : List Frame) (meth : Method) (c : Code) (s₁ : State), p.tables.exec = Jvm.exec → Z.Warmed39 s.vm → c.code = code → c.maxLocals = ml → s.vm.findClass y.cls = some m.cls → meth.name = y.name → meth.sig.returnType = rt → meth.locks = false →
      Stand p l e rm s m as' below meth c s₁ [] 0 0 → s₁.heap = h0 → Ends (some fun _ _ => True) p e below s (Fl Q 0) rm.cells rm.slots s₁ (entryFrame m as' ml)) : ConW l y code ml rt ws rm as' Z h0 Q := by
  refine MetFree.of_bodySF hp hisR ?_
  intro p e s m args below meth c s₁ Bd hml0 hP hK
  obtain ⟨rfl, hZ, hh⟩ := hP
  obtain ⟨s2, o, h1, h2, h3, v, L, h4, h5, h6, -⟩ := k p e s m below meth c s₁ Bd.exec hZ Bd.bytes hml0 (findClass_of_methodNamed Bd.named) (name_of_methodNamed Bd.named Bd.method).1 Bd.returns Bd.notSynchronized (Stand.of_body Bd) (by rw [← hh, Bd.state]; rfl)
  exact ⟨s2, o, h1, h2, h3, v, L, h4, h5.1, h6⟩
theorem own_since (s : State) : s.Since s.vm 0 := ⟨State.Warmed39.refl s, fun j p hj hp => absurd (Array.getElem?_eq_some_iff.mp hp).1 (Nat.not_lt.mpr hj)⟩
/-- a string constant, loaded cold: what it spells isn't said -/
theorem Ends.ldcS {f0 : Nat} (X : Stand p l e R s m args below meth c T locs cells slots) (hx : p.tables.exec = Jvm.exec) (hZ : Z.Warmed39 s.vm) {own text : String} {index : Nat} (hown : s.vm.findClass own = some m.cls) (w : (Jvm.Cond.stringLink own index text).before a0 Z = true) (wS : ∀ a ∈ Bundle.stringAtoms, a.before a0 Z = true)
    (eT : T.heap = h) (hf : f0 ≤ h.size) {pc : Nat} {Ls : Array Slot} {st : List Value} (hd : decode c.code pc = .ok (.ldc index, 2)) (n : Nat) (hn : 4 * text.toList.length ≤ n) (hbig : n ≤ 536870912) (hc : cells + 2 ≤ R.cells) (hl : slots + (n + 4) ≤ R.slots)
    (k : ∀ s' T' h' a, Stand p l e R s' m args below meth c T' locs (cells + 2) (slots + (n + 4)) → T'.heap = h' → Ext h h' → Z.Warmed39 s'.vm → s'.vm.findClass own = some m.cls → Ends (some F) p e below s' (Fl Qb h'.size) kc ks T' (mkF m (pc + 2) Ls (.ref a :: st))) : Ends (some F) p e below s (Fl Qb f0) kc ks T (mkF m pc Ls st) := by
  obtain ⟨a, T', h', k1, X', e', E, hS, hk1, hZ', hown', st'⟩ := Jvm.RoadKit.ldcS (s := s) (vm0 := s.vm) X hx hZ hown w wS eT (own_since s) (Nat.zero_le _) (g := mkF m pc Ls st) rfl hd hn hbig hc hl
  exact Ends.rebase hS hk1 (Nat.le_trans hf E.1) (Ends.go st' (k _ T' h' a X' e' E hZ' hown'))
/-- a static call by its contract, wide -/
theorem Ends.callSW {f0 : Nat} (X : Stand p l e R s m args below meth c T locs cells slots) (hx : p.tables.exec = Jvm.exec) (hZ : Z.Warmed39 s.vm) {own : String} (hown : s.vm.findClass own = some m.cls) {index : Nat} {y : MethodName} {bytes : ByteArray} {maxL : Nat} {rt : Option FieldType} {rm : Room} {Q : Option Value → Heap → List Loc → Prop}
    (w1 : (Jvm.Cond.methodLink own index y).before a0 Z = true) (w2 : (Jvm.Cond.static y).before a0 Z = true) (w3 : (Jvm.Cond.initialized y.cls).before a0 Z = true) (w4 : (Jvm.Cond.code y bytes maxL rt).before a0 Z = true) (hy : y.cls ≠ "java/lang/invoke/MethodHandle" ∧ y.cls ≠ "java/lang/invoke/VarHandle")
    {argsL rest : List Value} (eT : T.heap = h) (hf0 : f0 ≤ h.size) (M : ConW l y bytes maxL rt [] rm argsL.toArray Z h Q) {W pc : Nat} (hf : rm.frames + 1 ≤ R.frames) (hl : W + (maxL + 11) + rm.locals ≤ R.locals) {Ls : Array Slot} (hsz : Ls.size = c.maxLocals)
    (hlen : ∀ sig, parseMethodDescriptor y.desc = some sig → argsL.length = sig.parameters.length) (hW : (rest.map fun v => v.category).sum ≤ W) (hd : decode c.code pc = .ok (.invokestatic index, 3)) (hc : cells + rm.cells ≤ R.cells) (hs : slots + rm.slots ≤ R.slots) {st : List Value} (hst : st = argsL.reverse ++ rest)
    (k : ∀ s' T' v L, Stand p l e R s' m args below meth c T' (locs ++ L) (cells + rm.cells) (slots + rm.slots) → Z.Warmed39 s'.vm → s'.vm.findClass own = some m.cls → Q v T'.heap L → Ends (some F) p e below s' (Fl Qb T'.heap.size) kc ks T' (mkF m (pc + 3) Ls (v.toList ++ rest))) :
    Ends (some F) p e below s (Fl Qb f0) kc ks T (mkF m pc Ls st) := by
  obtain ⟨v, vm1, ⟨T1, L1, k1, n1⟩, -, X1, hS, hgr, ⟨Lc, hQ, q1, q2, q3⟩, st1⟩ := Jvm.RoadKit.callSS X hx hown (mvT hZ w1) (mvT hZ w2) (mvT hZ w3) (mvT hZ w4) hy (backOfS (W := W) M hZ w4 w3 hf hl) (g := mkF m pc Ls st) rfl hsz (argsL := argsL) (rest := rest) hlen hst (by show 2 * 0 + _ ≤ _; omega) hd (fun _ _ => ⟨rfl, eT, hc, hs⟩)
  dsimp only [Pt.U, Pt.locs, Pt.cells, Pt.slots] at X1 q1 q2 q3 st1 hQ hS hgr
  subst q1 q2 q3
  refine Ends.rebase hS (Nat.le_refl _) (Nat.le_trans hf0 (by rw [← eT]; exact hgr)) (Ends.go (fun t kt => st1.trans kt) (k _ T1 v Lc X1 (State.Warmed39.trans (t := s) hZ hS.1) (by show T1.vm.findClass own = _; rw [hS.1.alike.findClass]; exact hown) hQ))
/-- a constructor by its contract, wide -/
theorem Ends.callIW {f0 : Nat} (X : Stand p l e R s m args below meth c T locs cells slots) (hx : p.tables.exec = Jvm.exec) (hZ : Z.Warmed39 s.vm) {own : String} (hown : s.vm.findClass own = some m.cls) {index : Nat} {y : MethodName} {bytes : ByteArray} {maxL : Nat} {rm : Room} {Q : Option Value → Heap → List Loc → Prop}
    (w1 : (Jvm.Cond.methodLink own index y).before a0 Z = true) (w2 : (Jvm.Cond.instanceMethod y).before a0 Z = true) (w3 : (Jvm.Cond.initialized y.cls).before a0 Z = true) (w4 : (Jvm.Cond.code y bytes maxL none).before a0 Z = true) (hyn : y.name = "<init>") (hy : y.cls ≠ "java/lang/invoke/MethodHandle" ∧ y.cls ≠ "java/lang/invoke/VarHandle")
    {b : Addr} {argsL rest : List Value} (eT : T.heap = h) (hf0 : f0 ≤ h.size) (M : ConW l y bytes maxL none [] rm (.ref b :: argsL).toArray Z h Q) {W pc : Nat} (hf : rm.frames + 1 ≤ R.frames) (hl : W + (maxL + 11) + rm.locals ≤ R.locals) {Ls : Array Slot} (hsz : Ls.size = c.maxLocals)
    (hlen : ∀ sig, parseMethodDescriptor y.desc = some sig → argsL.length = sig.parameters.length) (hW : (rest.map fun v => v.category).sum ≤ W) (hd : decode c.code pc = .ok (.invokespecial index, 3)) (hc : cells + rm.cells ≤ R.cells) (hs : slots + rm.slots ≤ R.slots) {st : List Value} (hst : st = argsL.reverse ++ .ref b :: rest)
    (k : ∀ s' T' v L, Stand p l e R s' m args below meth c T' (locs ++ L) (cells + rm.cells) (slots + rm.slots) → Z.Warmed39 s'.vm → s'.vm.findClass own = some m.cls → Q v T'.heap L → Ends (some F) p e below s' (Fl Qb T'.heap.size) kc ks T' (mkF m (pc + 3) Ls (v.toList ++ rest))) :
    Ends (some F) p e below s (Fl Qb f0) kc ks T (mkF m pc Ls st) := by
  obtain ⟨v, vm1, ⟨T1, L1, k1, n1⟩, -, X1, hS, hgr, ⟨Lc, hQ, q1, q2, q3⟩, st1⟩ := X.specialBackS hx hyn hown (mvT hZ w1) (mvT hZ w2) (mvT hZ w4) hy (backOfS (W := W) M hZ w4 w3 hf hl) (g := mkF m pc Ls st) rfl hsz (Steps.refl _) (a := b) (argsL := argsL) (rest := rest) hlen hst (by show 2 * 0 + _ ≤ _; omega) hd (fun _ _ => ⟨rfl, eT, hc, hs⟩)
  dsimp only [Pt.U, Pt.locs, Pt.cells, Pt.slots] at X1 q1 q2 q3 st1 hQ hS hgr
  subst q1 q2 q3
  refine Ends.rebase hS (Nat.le_refl _) (Nat.le_trans hf0 (by rw [← eT]; exact hgr)) (Ends.go (fun t kt => st1.trans kt) (k _ T1 v Lc X1 (State.Warmed39.trans (t := s) hZ hS.1) (by show T1.vm.findClass own = _; rw [hS.1.alike.findClass]; exact hown) hQ))
/-- instanceof and checkcast -/
theorem Ends.instY (X : Stand p l e R s m args below meth c T locs cells slots) (hx : p.tables.exec = Jvm.exec) (hZ : Z.Warmed39 s.vm) {own K : String} {index : Nat} (hown : s.vm.findClass own = some m.cls) (w : (Jvm.Cond.classLink own index K).before a0 Z = true) (eT : T.heap = h) {a : Addr} (F : Ins Z h a K true) {pc : Nat} {Ls : Array Slot} {st : List Value} (hd : decode c.code pc = .ok (.instanceof index, 3))
    (k : ∀ T', Stand p l e R s m args below meth c T' locs cells slots → T'.heap = h → Ends wd p e below s Qb kc ks T' (mkF m (pc + 3) Ls (.int 1 :: st))) : Ends wd p e below s Qb kc ks T (mkF m pc Ls (.ref a :: st)) := by
  obtain ⟨T', X', e', st'⟩ := Jvm.RoadKit.instY X hx hZ hown w eT F (g := mkF m pc Ls (.ref a :: st)) rfl rfl hd
  exact Ends.go st' (k T' X' e')
theorem Ends.instNo (X : Stand p l e R s m args below meth c T locs cells slots) (hx : p.tables.exec = Jvm.exec) (hZ : Z.Warmed39 s.vm) {own K C : String} {index : Nat} (hown : s.vm.findClass own = some m.cls) (w : (Jvm.Cond.classLink own index K).before a0 Z = true) (eT : T.heap = h) {a : Addr} (E : Exa Z h a C) (F : ∃ c t, Z.vm.findClass C = some c ∧ Z.vm.findClass K = some t ∧ Z.vm.assignable c t = false) {pc : Nat} {Ls : Array Slot} {st : List Value} (hd : decode c.code pc = .ok (.instanceof index, 3))
    (k : ∀ T', Stand p l e R s m args below meth c T' locs cells slots → T'.heap = h → Ends wd p e below s Qb kc ks T' (mkF m (pc + 3) Ls (.int 0 :: st))) : Ends wd p e below s Qb kc ks T (mkF m pc Ls (.ref a :: st)) := by
  obtain ⟨T', X', e', st'⟩ := Jvm.RoadKit.instNo X hx hZ hown w eT E F (g := mkF m pc Ls (.ref a :: st)) rfl rfl hd
  exact Ends.go st' (k T' X' e')
theorem Ends.castY (X : Stand p l e R s m args below meth c T locs cells slots) (hx : p.tables.exec = Jvm.exec) (hZ : Z.Warmed39 s.vm) {own K : String} {index : Nat} (hown : s.vm.findClass own = some m.cls) (w : (Jvm.Cond.classLink own index K).before a0 Z = true) (eT : T.heap = h) {a : Addr} (F : Ins Z h a K true) {pc : Nat} {Ls : Array Slot} {st : List Value} (hd : decode c.code pc = .ok (.checkcast index, 3))
    (k : ∀ T', Stand p l e R s m args below meth c T' locs cells slots → T'.heap = h → Ends wd p e below s Qb kc ks T' (mkF m (pc + 3) Ls (.ref a :: st))) : Ends wd p e below s Qb kc ks T (mkF m pc Ls (.ref a :: st)) := by
  obtain ⟨T', X', e', st'⟩ := Jvm.RoadKit.castY X hx hZ hown w eT F (g := mkF m pc Ls (.ref a :: st)) rfl rfl hd
  exact Ends.go st' (k T' X' e')
theorem Ends.instNull (X : Stand p l e R s m args below meth c T locs cells slots) (hx : p.tables.exec = Jvm.exec) {index pc : Nat} {Ls : Array Slot} {st : List Value} (hd : decode c.code pc = .ok (.instanceof index, 3)) (k : Ends wd p e below s Qb kc ks T (mkF m (pc + 3) Ls (.int 0 :: st))) : Ends wd p e below s Qb kc ks T (mkF m pc Ls (.null :: st)) :=
  Ends.go (fun t => X.instanceofNull hx (g := mkF m pc Ls (.null :: st)) rfl rfl hd t) k
theorem E.acmpY {x y : Value} {cd : ClassFile.ACond} {o : Int} {pc q : Nat} {Ls : Array Slot} {st : List Value} (X : Stand p l e R s m args below meth c T locs cells slots) (hx : p.tables.exec = Jvm.exec) (hd : decode c.code pc = .ok (.if_acmp cd o, 3)) (h1 : x.isRef = true) (h2 : y.isRef = true) (hc : Jvm.Free.XT.acmp cd x y = true) (k' : Ends wd p e below s Qb kc ks T (mkF m q Ls st)) (ho : 0 ≤ (pc : Int) + o := by decide) (hq : ((pc : Int) + o).toNat = q := by decide) : Ends wd p e below s Qb kc ks T (mkF m pc Ls (y :: x :: st)) :=
  Ends.go (fun t => Jvm.Free.XT.acmpYes X.here hx rfl rfl hd rfl h1 h2 hc ho hq) k'
theorem E.acmpN {x y : Value} {cd : ClassFile.ACond} {o : Int} {pc q : Nat} {Ls : Array Slot} {st : List Value} (X : Stand p l e R s m args below meth c T locs cells slots) (hx : p.tables.exec = Jvm.exec) (hd : decode c.code pc = .ok (.if_acmp cd o, 3)) (h1 : x.isRef = true) (h2 : y.isRef = true) (hc : Jvm.Free.XT.acmp cd x y = false) (k' : Ends wd p e below s Qb kc ks T (mkF m q Ls st)) (hq : pc + 3 = q := by rfl) : Ends wd p e below s Qb kc ks T (mkF m pc Ls (y :: x :: st)) := by
  subst hq; exact Ends.go (fun t => Jvm.Free.XT.acmpNo X.here hx rfl hd rfl h1 h2 hc) k'
theorem own_notA {C S K : String} {n : Nat} (w : (Jvm.Cond.superclass C S).before a0 Z = true) (w2 : (Jvm.Cond.noSuperclass S).before a0 Z = true) (wi : (Jvm.Cond.instantiable K n).before a0 Z = true) (h1 : C ≠ K) (h2 : S ≠ K) : ∃ c t, Z.vm.findClass C = some c ∧ Z.vm.findClass K = some t ∧ Z.vm.assignable c t = false := by
  obtain ⟨t, kt, f1, f2, f3, f4, -, -⟩ := Cond.instantiable_spec wi
  obtain ⟨c, h0⟩ := found_sup w
  obtain ⟨p, k, kp, g1, g2, g3, g4, g5, -, g7⟩ := Cond.superclass_spec h0 w
  obtain ⟨c', k', q1, q2, q3, -, -⟩ := Cond.noSuperclass_spec w2
  cases q1.symm.trans g1
  have ne1 := ids_ne h0 f1 h1
  have ne2 := ids_ne g1 f1 h2
  have hi : kt.isInterface = false := by simp only [Bool.or_eq_false_iff] at f4; exact f4.1
  refine ⟨c, t, h0, f1, ?_⟩
  show Z.vm.assignableAux (255 + 1) c t = false
  have n3 : ∀ fuel, Z.vm.isSubclassAux fuel c t = false := fun fuel => by
    cases fuel with
    | zero => rfl
    | succ f =>
      cases f with
      | zero => simp [Vm.isSubclassAux, ne1, g2, g4]
      | succ f => simp [Vm.isSubclassAux, ne1, ne2, g2, g4, q2, q3]
  simp [Vm.assignableAux, ne1, g2, f2, g5, f3, hi, Vm.isSubclass, n3]
theorem Ary.len {a : Addr} {ty : FieldType} {vs : List Value} (A : Ary Z h a ty vs) : vs.length < 2 ^ 31 := by obtain ⟨_, _, _, q⟩ := A; exact q
/-! held: the string constants of EL say their text (the library's CHv, CHr) -/
abbrev ConH (l : Launch) (y : MethodName) (code : ByteArray) (ml : Nat) (rt : Option FieldType) (ws : List Jvm.Cond) (rm : Room) (as' : Array Value) (Z : State) (h0 : Heap) (EL : List (String × Nat)) (Q : Option Value → Heap → List Loc → Prop) : Prop :=
  MetFree l y (head1 (Jvm.Cond.code y code ml rt :: ws) rm) (fun a U => a = as' ∧ Z.Warmed39 U.vm ∧ U.heap = h0 ∧ CHv Z EL U.vm h0) (fun _ _ _ _ _ => True) (fun _ U o U' => ∃ v L, o = .returned v ∧ Q v U'.heap L ∧ CHr Z EL U.vm U.heap U'.vm U'.heap ∧ ReturnedEndW U o U' L rm.cells rm.slots)
theorem ConH.of {y : MethodName} {code : ByteArray} {ml : Nat} {rt : Option FieldType} {ws : List Jvm.Cond} {rm : Room} {as' : Array Value} {h0 : Heap} {EL : List (String × Nat)} {Q : Option Value → Heap → List Loc → Prop} (hp : plainFor y = true)
    (k : ∀ (p : Program) (e : Env) (s : State) (m : MethodId) (below : List Frame) (meth : Method) (c : Code) (s₁ : State) (vm0 : Vm), CHr Z EL vm0 h0 s.vm h0 → p.tables.exec = Jvm.exec → Z.Warmed39 s.vm → c.code = code → c.maxLocals = ml → s.vm.findClass y.cls = some m.cls → meth.name = y.name → meth.sig.returnType = rt → meth.locks = false →
      Stand p l e rm s m as' below meth c s₁ [] 0 0 → s₁.heap = h0 → Ends (some (CHr Z EL vm0 h0)) p e below s (Fl Q 0) rm.cells rm.slots s₁ (entryFrame m as' ml)) : ConH l y code ml rt ws rm as' Z h0 EL Q := by
  refine MetFree.of_bodySF hp hisR ?_
  intro p e s m args below meth c s₁ Bd hml0 hP hK
  obtain ⟨rfl, hZ, hh, hC⟩ := hP
  obtain ⟨s2, o, h1, h2, h3, v, L, h4, h5, h6, h7⟩ := k p e s m below meth c s₁ s.vm (CHr.refl hC) Bd.exec hZ Bd.bytes hml0 (findClass_of_methodNamed Bd.named) (name_of_methodNamed Bd.named Bd.method).1 Bd.returns Bd.notSynchronized (Stand.of_body Bd) (by rw [← hh, Bd.state]; rfl)
  exact ⟨s2, o, h1, h2, h3, v, L, h4, h5.1, by rw [hh]; exact h7, h6⟩
theorem own_chret {EL : List (String × Nat)} {vm0 : Vm} {h0 : Heap} (X : Stand p l e R s m args below meth c T locs cells slots) (hZ : Z.Warmed39 s.vm) (w : EW Z a0 EL) (H : CHr Z EL vm0 h0 s.vm h) (eT : T.heap = h) : CHr Z EL vm0 h0 T.vm T.heap := by
  rw [eT]; exact H.trans (CHv.at (s := s) (vm0 := s.vm) X hZ w H.1)
/-- a string constant, loaded cold, not read -/
theorem Ends.ldcO {f0 : Nat} {EL : List (String × Nat)} (X : Stand p l e R s m args below meth c T locs cells slots) (hx : p.tables.exec = Jvm.exec) (hZ : Z.Warmed39 s.vm) {own text : String} {index : Nat} (hown : s.vm.findClass own = some m.cls) (w : (Jvm.Cond.stringLink own index text).before a0 Z = true) (wS : ∀ a ∈ Bundle.stringAtoms, a.before a0 Z = true)
    (eT : T.heap = h) (hf : f0 ≤ h.size) (hEL : EW Z a0 EL) (H : CHv Z EL s.vm h) {pc : Nat} {Ls : Array Slot} {st : List Value} (hd : decode c.code pc = .ok (.ldc index, 2)) (n : Nat) (hn : 4 * text.toList.length ≤ n) (hbig : n ≤ 536870912) (hc : cells + 2 ≤ R.cells) (hl : slots + (n + 4) ≤ R.slots)
    (k : ∀ s' T' h' a, Stand p l e R s' m args below meth c T' locs (cells + 2) (slots + (n + 4)) → T'.heap = h' → Ext h h' → CHr Z EL s.vm h s'.vm h' → Z.Warmed39 s'.vm → s'.vm.findClass own = some m.cls → Ends (some F) p e below s' (Fl Qb h'.size) kc ks T' (mkF m (pc + 2) Ls (.ref a :: st))) : Ends (some F) p e below s (Fl Qb f0) kc ks T (mkF m pc Ls st) := by
  obtain ⟨a, T', h', k1, X', e', E, hS, hk1, hZ', hown', hC, -, st'⟩ := ldcOH (s := s) (vm0 := s.vm) X hx hZ hown w wS eT (own_since s) (Nat.zero_le _) hEL H (g := mkF m pc Ls st) rfl hd hn hbig hc hl
  exact Ends.rebase hS hk1 (Nat.le_trans hf E.1) (Ends.go st' (k _ T' h' a X' e' E hC hZ' hown'))
theorem Ary.of_arv {a : Addr} {k : ClassId} {ty : FieldType} {z : Int32} {vs : List Value} {d : Value} (A : Arv Z h a k ty z vs d) (hz : z.toNatClampNeg = vs.length) : Ary Z h a ty vs := by
  obtain ⟨c, A, -, h1, h2, h3, -⟩ := A
  have hl : vs.length < 2 ^ 31 := by rw [← hz]; exact (back32 h2).2
  refine ⟨c, A, ?_, hl⟩
  refine Array.ext' ?_
  refine List.ext_getElem? fun i => ?_
  rw [Array.getElem?_toList]
  by_cases q : i < c.slots.size
  · rw [h3 i q]
    have q' : i < vs.length := by omega
    simp [List.getD, q']
  · rw [Array.getElem?_eq_none (by omega)]
    have q' : vs.length ≤ i := by omega
    simp [q']
/-- a string constant of EL, read -/
theorem Ends.ldcR {f0 : Nat} {EL : List (String × Nat)} (X : Stand p l e R s m args below meth c T locs cells slots) (hx : p.tables.exec = Jvm.exec) (hZ : Z.Warmed39 s.vm) {own text : String} {index : Nat} (hown : s.vm.findClass own = some m.cls) (w : (Jvm.Cond.stringLink own index text).before a0 Z = true) (wS : ∀ a ∈ Bundle.stringAtoms, a.before a0 Z = true)
    (eT : T.heap = h) (hf : f0 ≤ h.size) (hEL : EW Z a0 EL) (hmem : (own, index) ∈ EL) (H : CHv Z EL s.vm h) {vs : List Value} {z : Int32} (ht : (∀ c ∈ text.toList, c.toNat < 256) ∧ text.toList.map (fun c => Value.int (Jvm.Lit.byteI c.toNat.toUInt16)) = vs) (hz : ¬ z < 0) (hzl : z.toNatClampNeg = vs.length)
    {pc : Nat} {Ls : Array Slot} {st : List Value} (hd : decode c.code pc = .ok (.ldc index, 2)) (n : Nat) (hn : 4 * text.toList.length ≤ n) (hbig : n ≤ 536870912) (hc : cells + 2 ≤ R.cells) (hl : slots + (n + 4) ≤ R.slots)
    (k : ∀ s' T' h' a b, Stand p l e R s' m args below meth c T' locs (cells + 2) (slots + (n + 4)) → T'.heap = h' → Ext h h' → CHr Z EL s.vm h s'.vm h' → Z.Warmed39 s'.vm → s'.vm.findClass own = some m.cls → Exa Z h' a "java/lang/String" → Fld Z h' a "java/lang/String" "coder" "B" (.int 0) → Fld Z h' a "java/lang/String" "value" "[B" (.ref b) → Ary Z h' b .byte vs → (∀ x, Safe Z EL s'.vm h' x → x ≠ a ∧ x ≠ b) →
      Ends (some F) p e below s' (Fl Qb h'.size) kc ks T' (mkF m (pc + 2) Ls (.ref a :: st))) : Ends (some F) p e below s (Fl Qb f0) kc ks T (mkF m pc Ls st) := by
  obtain ⟨a, T', h', k1, b, kk, X', e', E, hS, hk1, hZ', hown', A1, A2, A3, A4, -, -, hC, -, hsafe, st'⟩ := ldcCH (s := s) (vm0 := s.vm) X hx hZ hown w wS eT (own_since s) (Nat.zero_le _) hEL hmem H ht hz hzl (g := mkF m pc Ls st) rfl hd hn hbig hc hl
  exact Ends.rebase hS hk1 (Nat.le_trans hf E.1) (Ends.go st' (k _ T' h' a b X' e' E hC hZ' hown' A1 A2 A3 (Ary.of_arv A4 hzl) hsafe))

theorem Ends.callSH {f0 : Nat} {EL : List (String × Nat)} (X : Stand p l e R s m args below meth c T locs cells slots) (hx : p.tables.exec = Jvm.exec) (hZ : Z.Warmed39 s.vm) {own : String} (hown : s.vm.findClass own = some m.cls) {index : Nat} {y : MethodName} {bytes : ByteArray} {maxL : Nat} {rt : Option FieldType} {rm : Room} {Q : Option Value → Heap → List Loc → Prop}
    (w1 : (Jvm.Cond.methodLink own index y).before a0 Z = true) (w2 : (Jvm.Cond.static y).before a0 Z = true) (w3 : (Jvm.Cond.initialized y.cls).before a0 Z = true) (w4 : (Jvm.Cond.code y bytes maxL rt).before a0 Z = true) (hy : y.cls ≠ "java/lang/invoke/MethodHandle" ∧ y.cls ≠ "java/lang/invoke/VarHandle")
    {argsL rest : List Value} (eT : T.heap = h) (hf0 : f0 ≤ h.size) (hEL : EW Z a0 EL) (H : CHv Z EL s.vm h) (M : ConH l y bytes maxL rt [] rm argsL.toArray Z h EL Q) {W pc : Nat} (hf : rm.frames + 1 ≤ R.frames) (hl : W + (maxL + 11) + rm.locals ≤ R.locals) {Ls : Array Slot} (hsz : Ls.size = c.maxLocals)
    (hlen : ∀ sig, parseMethodDescriptor y.desc = some sig → argsL.length = sig.parameters.length) (hW : (rest.map fun v => v.category).sum ≤ W) (hd : decode c.code pc = .ok (.invokestatic index, 3)) (hc : cells + rm.cells ≤ R.cells) (hs : slots + rm.slots ≤ R.slots) {st : List Value} (hst : st = argsL.reverse ++ rest)
    (k : ∀ s' T' v L, Stand p l e R s' m args below meth c T' (locs ++ L) (cells + rm.cells) (slots + rm.slots) → CHr Z EL s.vm h s'.vm T'.heap → Z.Warmed39 s'.vm → s'.vm.findClass own = some m.cls → Q v T'.heap L → Ends (some F) p e below s' (Fl Qb T'.heap.size) kc ks T' (mkF m (pc + 3) Ls (v.toList ++ rest))) :
    Ends (some F) p e below s (Fl Qb f0) kc ks T (mkF m pc Ls st) := by
  obtain ⟨v, vm1, ⟨T1, L1, k1, n1⟩, -, X1, hS, hgr, ⟨Lc, hQ, q1, q2, q3, hC⟩, st1⟩ := Jvm.RoadKit.callSS X hx hown (mvT hZ w1) (mvT hZ w2) (mvT hZ w3) (mvT hZ w4) hy (backOfSH (s := s) (vm0 := s.vm) (W := W) M hZ w4 w3 hf hl hEL H) (g := mkF m pc Ls st) rfl hsz (argsL := argsL) (rest := rest) hlen hst (by show 2 * 0 + _ ≤ _; omega) hd (fun _ _ => ⟨rfl, eT, hc, hs⟩)
  dsimp only [Pt.U, Pt.locs, Pt.cells, Pt.slots] at X1 q1 q2 q3 st1 hQ hS hgr hC
  subst q1 q2 q3
  refine Ends.rebase hS (Nat.le_refl _) (Nat.le_trans hf0 (by rw [← eT]; exact hgr)) (Ends.go (fun t kt => st1.trans kt) (k _ T1 v Lc X1 hC (State.Warmed39.trans (t := s) hZ hS.1) (by show T1.vm.findClass own = _; rw [hS.1.alike.findClass]; exact hown) hQ))
theorem Ends.callIH {f0 : Nat} {EL : List (String × Nat)} (X : Stand p l e R s m args below meth c T locs cells slots) (hx : p.tables.exec = Jvm.exec) (hZ : Z.Warmed39 s.vm) {own : String} (hown : s.vm.findClass own = some m.cls) {index : Nat} {y : MethodName} {bytes : ByteArray} {maxL : Nat} {rm : Room} {Q : Option Value → Heap → List Loc → Prop}
    (w1 : (Jvm.Cond.methodLink own index y).before a0 Z = true) (w2 : (Jvm.Cond.instanceMethod y).before a0 Z = true) (w3 : (Jvm.Cond.initialized y.cls).before a0 Z = true) (w4 : (Jvm.Cond.code y bytes maxL none).before a0 Z = true) (hyn : y.name = "<init>") (hy : y.cls ≠ "java/lang/invoke/MethodHandle" ∧ y.cls ≠ "java/lang/invoke/VarHandle")
    {b : Addr} {argsL rest : List Value} (eT : T.heap = h) (hf0 : f0 ≤ h.size) (hEL : EW Z a0 EL) (H : CHv Z EL s.vm h) (M : ConH l y bytes maxL none [] rm (.ref b :: argsL).toArray Z h EL Q) {W pc : Nat} (hf : rm.frames + 1 ≤ R.frames) (hl : W + (maxL + 11) + rm.locals ≤ R.locals) {Ls : Array Slot} (hsz : Ls.size = c.maxLocals)
    (hlen : ∀ sig, parseMethodDescriptor y.desc = some sig → argsL.length = sig.parameters.length) (hW : (rest.map fun v => v.category).sum ≤ W) (hd : decode c.code pc = .ok (.invokespecial index, 3)) (hc : cells + rm.cells ≤ R.cells) (hs : slots + rm.slots ≤ R.slots) {st : List Value} (hst : st = argsL.reverse ++ .ref b :: rest)
    (k : ∀ s' T' v L, Stand p l e R s' m args below meth c T' (locs ++ L) (cells + rm.cells) (slots + rm.slots) → CHr Z EL s.vm h s'.vm T'.heap → Z.Warmed39 s'.vm → s'.vm.findClass own = some m.cls → Q v T'.heap L → Ends (some F) p e below s' (Fl Qb T'.heap.size) kc ks T' (mkF m (pc + 3) Ls (v.toList ++ rest))) :
    Ends (some F) p e below s (Fl Qb f0) kc ks T (mkF m pc Ls st) := by
  obtain ⟨v, vm1, ⟨T1, L1, k1, n1⟩, -, X1, hS, hgr, ⟨Lc, hQ, q1, q2, q3, hC⟩, st1⟩ := X.specialBackS hx hyn hown (mvT hZ w1) (mvT hZ w2) (mvT hZ w4) hy (backOfSH (s := s) (vm0 := s.vm) (W := W) M hZ w4 w3 hf hl hEL H) (g := mkF m pc Ls st) rfl hsz (Steps.refl _) (a := b) (argsL := argsL) (rest := rest) hlen hst (by show 2 * 0 + _ ≤ _; omega) hd (fun _ _ => ⟨rfl, eT, hc, hs⟩)
  dsimp only [Pt.U, Pt.locs, Pt.cells, Pt.slots] at X1 q1 q2 q3 st1 hQ hS hgr hC
  subst q1 q2 q3
  refine Ends.rebase hS (Nat.le_refl _) (Nat.le_trans hf0 (by rw [← eT]; exact hgr)) (Ends.go (fun t kt => st1.trans kt) (k _ T1 v Lc X1 hC (State.Warmed39.trans (t := s) hZ hS.1) (by show T1.vm.findClass own = _; rw [hS.1.alike.findClass]; exact hown) hQ))
theorem own_safe_ary {EL : List (String × Nat)} {vm : Vm} {a : Addr} {ty : FieldType} {vs : List Value} (hal : Z.vm.Alike vm) (A : Ary Z h a ty vs) (ht : ty ≠ .byte) : Safe Z EL vm h a := by
  obtain ⟨c, A, -⟩ := A; exact Safe.arr hal A ht
/-- a String under construction isn't a constant's -/
theorem own_safe_blank {EL : List (String × Nat)} {vm : Vm} {a : Addr} (hal : Z.vm.Alike vm) (E : Exa Z h a "java/lang/String") (F : Fld Z h a "java/lang/String" "value" "[B" .null) : Safe Z EL vm h a := fun B => by
  obtain ⟨cell, k, e1, e2, e3, -, -⟩ := E
  obtain ⟨cell', cf, kf, i, f, f1, f2, f3, f4, f5, f6, f7⟩ := F
  cases e1.symm.trans f1
  obtain ⟨p, -, u, a', -, q, -, G, rfl | rfl⟩ := B
  · cases (show h[q.sa]? = some q.sC from G.ha).symm.trans e1
    obtain ⟨cS, ⟨⟨-, -, -, ⟨c1, k1, i1, g1, -⟩, -, -, -, v1, -⟩, -⟩, -⟩ := G
    obtain ⟨k3, g3, -⟩ := State.fieldFound?_setVm (s := Z) hal f2
    have e4 := (show (Wst Z vm h).fieldFound? _ _ _ = _ from g3).symm.trans g1
    simp only [Option.some.injEq, Prod.mk.injEq] at e4
    rw [← e4.2.2.2, f7] at v1
    cases v1
  · cases (show h[q.sd]? = some q.SA from G.hd).symm.trans e1
    obtain ⟨cS, -, -, g, -⟩ := G
    have g' : vm.findClass "[B" = some q.SA.cls := g
    rw [hal.findClass] at g'
    exact ids_ne e2 g' (by decide) rfl
end OwnWide
/-! own text: bytes of chars 0 to 255 -/
theorem own_wr_le {h h' : Heap} {a : Addr} {sl : Nat} {v : Value} (W : Wr h h' a sl v) : h.size ≤ h'.size := by
  obtain ⟨c, -, -, -, rfl⟩ := W; simp
theorem own_nb8 (c : Int32) : nar .byte c.toInt8.toInt32 = c.toInt8.toInt32 := by
  show (c.toInt8.toInt32).toInt8.toInt32 = c.toInt8.toInt32
  simp
/-- a sign of one byte -/
def own_B (z : Int32) : Prop := 0 ≤ z.toInt ∧ z.toInt ≤ 255
theorem own_B_le {z : Int32} (h : own_B z) : ¬ (255 : Int32) < z := by
  rw [Int32.lt_iff_toInt_lt, show (255 : Int32).toInt = 255 from by decide]; have := h.2; omega
theorem own_i8 (z : Int32) : z.toInt8.toInt32.toInt = z.toInt.bmod 256 := by
  rw [Int8.toInt_toInt32]; exact Int32.toInt_toInt8 z
theorem own_b8 {z w : Int32} (h : own_B z) (g : own_B w) : z.toInt8.toInt32 = w.toInt8.toInt32 ↔ z = w := by
  refine ⟨fun q => ?_, fun q => by rw [q]⟩
  have q' := congrArg Int32.toInt q
  rw [own_i8, own_i8] at q'
  refine Int32.toInt_inj.mp ?_
  obtain ⟨h1, h2⟩ := h; obtain ⟨g1, g2⟩ := g
  simp only [Int.bmod] at q'
  split at q' <;> split at q' <;> omega
theorem own_and255 (x : Int32) : own_B (x &&& 255) := by
  have e : (x &&& 255).toInt = ((x.toBitVec.toNat &&& 255 : Nat) : Int) := by
    show ((x &&& 255).toBitVec).toInt = _
    rw [BitVec.toInt_eq_toNat_of_lt]
    · congr 1
    · show 2 * (x.toBitVec.toNat &&& 255) < 2 ^ 32
      have : x.toBitVec.toNat &&& 255 ≤ 255 := Nat.and_le_right
      omega
  have : x.toBitVec.toNat &&& 255 ≤ 255 := Nat.and_le_right
  constructor <;> rw [e] <;> omega
theorem own_nc {z : Int32} (h : own_B z) : z.toUInt32.toUInt16.toUInt32.toInt32 = z := by
  have q : z.toBitVec.toNat ≤ 255 := by
    have e : z.toInt = z.toBitVec.toInt := rfl
    obtain ⟨h1, h2⟩ := h
    rw [e, BitVec.toInt_eq_toNat_cond] at h1 h2
    split at h1 <;> split at h2 <;> omega
  have e : z.toUInt32.toUInt16.toUInt32 = z.toUInt32 := by
    refine UInt32.toNat_inj.mp ?_
    have r : z.toUInt32.toNat ≤ 255 := q
    simp
    omega
  rw [e]; simp
theorem own_ch {x z : Int32} (e : z = (x &&& 255).toUInt32.toUInt16.toUInt32.toInt32) : own_B z ∧ nar .char z = z := by
  have h := own_and255 x
  rw [own_nc h] at e
  subst e
  exact ⟨h, own_nc h⟩
theorem own_succ (i : Nat) : (Int32.ofNat i + (1 : Int32)) = Int32.ofNat (i + 1) := (Int32.ofNat_add i 1).symm
theorem own_all0 {P : Addr → Prop} : ∀ x ∈ ([] : List Addr), P x := fun _ q => nomatch q
theorem own_all1 {P : Addr → Prop} {a : Addr} (h : P a) : ∀ x ∈ [a], P x := fun x q => by cases List.mem_singleton.mp q; exact h
/-- an object and an array are two cells -/
theorem own_ne_ea {Z : State} {h : Heap} {a b : Addr} {C : String} {n : Nat} {a0 : Array Value} {ty : FieldType} {vs : List Value} (w : (Jvm.Cond.instantiable C n).before a0 Z = true) (E : Exa Z h a C) (A : Ary Z h b ty vs) : b ≠ a := fun q => by
  subst q
  obtain ⟨c, k, e1, e2, e3, -⟩ := E
  obtain ⟨c', ⟨f1, ⟨-, k', f2, comp, f3⟩, -⟩, -⟩ := A
  cases e1.symm.trans f1
  obtain ⟨cc, kk, g1, g2, g3, -⟩ := Cond.instantiable_spec w
  cases g1.symm.trans e2
  cases g2.symm.trans f2
  rw [g3] at f3
  cases f3
def own_c0 (x : Int32) : Int32 := ((((x.toUInt32 >>> ((8 : Int32) &&& 31).toUInt32).toInt32) &&& (255 : Int32)).toUInt32.toUInt16.toUInt32.toInt32)
def own_c1 (x : Int32) : Int32 := ((((x.toUInt32 >>> ((16 : Int32) &&& 31).toUInt32).toInt32) &&& (255 : Int32)).toUInt32.toUInt16.toUInt32.toInt32)
def own_c2 (x : Int32) : Int32 := ((((x.toUInt32 >>> ((24 : Int32) &&& 31).toUInt32).toInt32) &&& (255 : Int32)).toUInt32.toUInt16.toUInt32.toInt32)
theorem own_h0 (x : Int32) : own_B (own_c0 x) ∧ nar .char (own_c0 x) = own_c0 x := own_ch rfl
theorem own_h1 (x : Int32) : own_B (own_c1 x) ∧ nar .char (own_c1 x) = own_c1 x := own_ch rfl
theorem own_h2 (x : Int32) : own_B (own_c2 x) ∧ nar .char (own_c2 x) = own_c2 x := own_ch rfl
def own_s (x : Int32) : List Int32 := if x &&& 3 = 0 then [] else if x &&& 3 = 1 then [(own_c0 x).toInt8.toInt32] else if x &&& 3 = 2 then [(own_c0 x).toInt8.toInt32, (own_c1 x).toInt8.toInt32] else [(own_c0 x).toInt8.toInt32, (own_c1 x).toInt8.toInt32, (own_c2 x).toInt8.toInt32]
theorem own_s0 {x : Int32} (h : x &&& 3 = 0) : own_s x = [] := by unfold own_s; rw [if_pos h]
theorem own_s1 {x : Int32} (h0 : ¬ x &&& 3 = 0) (h : x &&& 3 = 1) : own_s x = [(own_c0 x).toInt8.toInt32] := by unfold own_s; rw [if_neg h0, if_pos h]
theorem own_s2 {x : Int32} (h0 : ¬ x &&& 3 = 0) (h1 : ¬ x &&& 3 = 1) (h : x &&& 3 = 2) : own_s x = [(own_c0 x).toInt8.toInt32, (own_c1 x).toInt8.toInt32] := by unfold own_s; rw [if_neg h0, if_neg h1, if_pos h]
theorem own_s3 {x : Int32} (h0 : ¬ x &&& 3 = 0) (h1 : ¬ x &&& 3 = 1) (h : ¬ x &&& 3 = 2) : own_s x = [(own_c0 x).toInt8.toInt32, (own_c1 x).toInt8.toInt32, (own_c2 x).toInt8.toInt32] := by unfold own_s; rw [if_neg h0, if_neg h1, if_neg h]
theorem own_and3 (x : Int32) : x &&& 3 = 0 ∨ x &&& 3 = 1 ∨ x &&& 3 = 2 ∨ x &&& 3 = 3 := by
  have e : (x &&& 3).toBitVec.toNat = x.toBitVec.toNat &&& 3 := rfl
  have q : x.toBitVec.toNat &&& 3 ≤ 3 := Nat.and_le_right
  have f : ∀ n : Nat, (x &&& 3).toBitVec.toNat = n → n < 2 ^ 32 → x &&& 3 = Int32.ofBitVec (BitVec.ofNat 32 n) := fun n hn _ => by
    apply Int32.toBitVec_inj.mp
    apply BitVec.eq_of_toNat_eq
    rw [hn]
    simp
    omega
  have r : (x &&& 3).toBitVec.toNat = 0 ∨ (x &&& 3).toBitVec.toNat = 1 ∨ (x &&& 3).toBitVec.toNat = 2 ∨ (x &&& 3).toBitVec.toNat = 3 := by omega
  rcases r with r | r | r | r
  · exact Or.inl (f _ r (by decide))
  · exact Or.inr (Or.inl (f _ r (by decide)))
  · exact Or.inr (Or.inr (Or.inl (f _ r (by decide))))
  · exact Or.inr (Or.inr (Or.inr (f _ r (by decide))))
theorem own_same {x y : Int32} : own_s x = own_s y ↔ (x &&& 3 = y &&& 3 ∧ (¬ x &&& 3 < 1 → own_c0 x = own_c0 y) ∧ (¬ x &&& 3 < 2 → own_c1 x = own_c1 y) ∧ (¬ x &&& 3 < 3 → own_c2 x = own_c2 y)) := by
  have b0 := own_b8 (own_h0 x).1 (own_h0 y).1
  have b1 := own_b8 (own_h1 x).1 (own_h1 y).1
  have b2 := own_b8 (own_h2 x).1 (own_h2 y).1
  unfold own_s
  rcases own_and3 x with hx | hx | hx | hx <;> rcases own_and3 y with hy | hy | hy | hy <;> rw [hx, hy] <;> simp [b0, b1, b2]
theorem own_sw2 {A B A' B' : List Int32} : (if A' = A ∧ B' = B then (1 : Int32) else 0) = if A = A' ∧ B = B' then (1 : Int32) else 0 := by
  simp only [eq_comm]
theorem pn_0 : plainName "java/lang/StringUTF16" = true := by first | (simp [plainName, overriddenIn]; done) | decide +kernel
theorem pn_1 : plainName "java/lang/String" = true := by first | (simp [plainName, overriddenIn]; done) | decide +kernel
theorem pn_2 : plainName "java/lang/StringLatin1" = true := by first | (simp [plainName, overriddenIn]; done) | decide +kernel
theorem pn_3 : plainName "com/example/people_in_groups/peopleingroups/model/CustomPairEqualsPinLaw" = true := by first | (simp [plainName, overriddenIn]; done) | decide +kernel
theorem pn_4 : plainName "java/util/Objects" = true := by first | (simp [plainName, overriddenIn]; done) | decide +kernel
theorem pn_5 : plainName "com/example/people_in_groups/peopleingroups/model/CustomPair" = true := by first | (simp [plainName, overriddenIn]; done) | decide +kernel
theorem pd_0 : parseMethodDescriptor "([CI[BII)I" = some ⟨[(.array .char), .int, (.array .byte), .int, .int], some .int⟩ := by decide +kernel
theorem pd_1 : parseMethodDescriptor "([CII)[B" = some ⟨[(.array .char), .int, .int], some (.array .byte)⟩ := by decide +kernel
theorem pd_2 : parseMethodDescriptor "([BI)B" = some ⟨[(.array .byte), .int], some .byte⟩ := by decide +kernel
theorem pd_3 : parseMethodDescriptor "([CIILjava/lang/Void;)V" = some ⟨[(.array .char), .int, .int, (.object "java/lang/Void")], none⟩ := by decide +kernel
theorem pd_4 : parseMethodDescriptor "([B[B)Z" = some ⟨[(.array .byte), (.array .byte)], some .boolean⟩ := by decide +kernel
theorem pd_5 : parseMethodDescriptor "(I)I" = some ⟨[.int], some .int⟩ := by decide +kernel
theorem pd_6 : parseMethodDescriptor "([C)V" = some ⟨[(.array .char)], none⟩ := by decide +kernel
theorem pd_7 : parseMethodDescriptor "(I)C" = some ⟨[.int], some .char⟩ := by decide +kernel
theorem pd_8 : parseMethodDescriptor "(Ljava/lang/Object;Ljava/lang/String;)Ljava/lang/Object;" = some ⟨[(.object "java/lang/Object"), (.object "java/lang/String")], some (.object "java/lang/Object")⟩ := by decide +kernel
theorem pd_9 : parseMethodDescriptor "(Ljava/lang/Object;)Z" = some ⟨[(.object "java/lang/Object")], some .boolean⟩ := by decide +kernel
theorem pd_10 : parseMethodDescriptor "(I)Ljava/lang/String;" = some ⟨[.int], some (.object "java/lang/String")⟩ := by decide +kernel
theorem pd_11 : parseMethodDescriptor "(Ljava/lang/String;Ljava/lang/String;)V" = some ⟨[(.object "java/lang/String"), (.object "java/lang/String")], none⟩ := by decide +kernel
theorem pd_12 : parseMethodDescriptor "(II)Z" = some ⟨[.int, .int], some .boolean⟩ := by decide +kernel
theorem d1_0 : decode method_6_code 0 = .ok (.iload_n 0, 1) := by decide +kernel
theorem d1_1 : decode method_6_code 1 = .ok (.invokestatic 7, 3) := by decide +kernel
theorem d1_4 : decode method_6_code 4 = .ok (.istore_n 1, 1) := by decide +kernel
theorem d1_5 : decode method_6_code 5 = .ok (.iload_n 1, 1) := by decide +kernel
theorem d1_6 : decode method_6_code 6 = .ok (.ifCond .ne 14, 3) := by decide +kernel
theorem d1_9 : decode method_6_code 9 = .ok (.new 13, 3) := by decide +kernel
theorem d1_12 : decode method_6_code 12 = .ok (.dup, 1) := by decide +kernel
theorem d1_13 : decode method_6_code 13 = .ok (.iconst 0, 1) := by decide +kernel
theorem d1_14 : decode method_6_code 14 = .ok (.newarray .char, 2) := by decide +kernel
theorem d1_16 : decode method_6_code 16 = .ok (.invokespecial 15, 3) := by decide +kernel
theorem d1_19 : decode method_6_code 19 = .ok (.areturn, 1) := by decide +kernel
theorem d1_20 : decode method_6_code 20 = .ok (.iload_n 1, 1) := by decide +kernel
theorem d1_21 : decode method_6_code 21 = .ok (.iconst 1, 1) := by decide +kernel
theorem d1_22 : decode method_6_code 22 = .ok (.if_icmp .ne 21, 3) := by decide +kernel
theorem d1_25 : decode method_6_code 25 = .ok (.new 13, 3) := by decide +kernel
theorem d1_28 : decode method_6_code 28 = .ok (.dup, 1) := by decide +kernel
theorem d1_29 : decode method_6_code 29 = .ok (.iconst 1, 1) := by decide +kernel
theorem d1_30 : decode method_6_code 30 = .ok (.newarray .char, 2) := by decide +kernel
theorem d1_32 : decode method_6_code 32 = .ok (.dup, 1) := by decide +kernel
theorem d1_33 : decode method_6_code 33 = .ok (.iconst 0, 1) := by decide +kernel
theorem d1_34 : decode method_6_code 34 = .ok (.iload_n 0, 1) := by decide +kernel
theorem d1_35 : decode method_6_code 35 = .ok (.invokestatic 18, 3) := by decide +kernel
theorem d1_38 : decode method_6_code 38 = .ok (.castore, 1) := by decide +kernel
theorem d1_39 : decode method_6_code 39 = .ok (.invokespecial 15, 3) := by decide +kernel
theorem d1_42 : decode method_6_code 42 = .ok (.areturn, 1) := by decide +kernel
theorem d1_43 : decode method_6_code 43 = .ok (.iload_n 1, 1) := by decide +kernel
theorem d1_44 : decode method_6_code 44 = .ok (.iconst 2, 1) := by decide +kernel
theorem d1_45 : decode method_6_code 45 = .ok (.if_icmp .ne 28, 3) := by decide +kernel
theorem d1_48 : decode method_6_code 48 = .ok (.new 13, 3) := by decide +kernel
theorem d1_51 : decode method_6_code 51 = .ok (.dup, 1) := by decide +kernel
theorem d1_52 : decode method_6_code 52 = .ok (.iconst 2, 1) := by decide +kernel
theorem d1_53 : decode method_6_code 53 = .ok (.newarray .char, 2) := by decide +kernel
theorem d1_55 : decode method_6_code 55 = .ok (.dup, 1) := by decide +kernel
theorem d1_56 : decode method_6_code 56 = .ok (.iconst 0, 1) := by decide +kernel
theorem d1_57 : decode method_6_code 57 = .ok (.iload_n 0, 1) := by decide +kernel
theorem d1_58 : decode method_6_code 58 = .ok (.invokestatic 18, 3) := by decide +kernel
theorem d1_61 : decode method_6_code 61 = .ok (.castore, 1) := by decide +kernel
theorem d1_62 : decode method_6_code 62 = .ok (.dup, 1) := by decide +kernel
theorem d1_63 : decode method_6_code 63 = .ok (.iconst 1, 1) := by decide +kernel
theorem d1_64 : decode method_6_code 64 = .ok (.iload_n 0, 1) := by decide +kernel
theorem d1_65 : decode method_6_code 65 = .ok (.invokestatic 22, 3) := by decide +kernel
theorem d1_68 : decode method_6_code 68 = .ok (.castore, 1) := by decide +kernel
theorem d1_69 : decode method_6_code 69 = .ok (.invokespecial 15, 3) := by decide +kernel
theorem d1_72 : decode method_6_code 72 = .ok (.areturn, 1) := by decide +kernel
theorem d1_73 : decode method_6_code 73 = .ok (.new 13, 3) := by decide +kernel
theorem d1_76 : decode method_6_code 76 = .ok (.dup, 1) := by decide +kernel
theorem d1_77 : decode method_6_code 77 = .ok (.iconst 3, 1) := by decide +kernel
theorem d1_78 : decode method_6_code 78 = .ok (.newarray .char, 2) := by decide +kernel
theorem d1_80 : decode method_6_code 80 = .ok (.dup, 1) := by decide +kernel
theorem d1_81 : decode method_6_code 81 = .ok (.iconst 0, 1) := by decide +kernel
theorem d1_82 : decode method_6_code 82 = .ok (.iload_n 0, 1) := by decide +kernel
theorem d1_83 : decode method_6_code 83 = .ok (.invokestatic 18, 3) := by decide +kernel
theorem d1_86 : decode method_6_code 86 = .ok (.castore, 1) := by decide +kernel
theorem d1_87 : decode method_6_code 87 = .ok (.dup, 1) := by decide +kernel
theorem d1_88 : decode method_6_code 88 = .ok (.iconst 1, 1) := by decide +kernel
theorem d1_89 : decode method_6_code 89 = .ok (.iload_n 0, 1) := by decide +kernel
theorem d1_90 : decode method_6_code 90 = .ok (.invokestatic 22, 3) := by decide +kernel
theorem d1_93 : decode method_6_code 93 = .ok (.castore, 1) := by decide +kernel
theorem d1_94 : decode method_6_code 94 = .ok (.dup, 1) := by decide +kernel
theorem d1_95 : decode method_6_code 95 = .ok (.iconst 2, 1) := by decide +kernel
theorem d1_96 : decode method_6_code 96 = .ok (.iload_n 0, 1) := by decide +kernel
theorem d1_97 : decode method_6_code 97 = .ok (.invokestatic 25, 3) := by decide +kernel
theorem d1_100 : decode method_6_code 100 = .ok (.castore, 1) := by decide +kernel
theorem d1_101 : decode method_6_code 101 = .ok (.invokespecial 15, 3) := by decide +kernel
theorem d1_104 : decode method_6_code 104 = .ok (.areturn, 1) := by decide +kernel
theorem d2_0 : decode method_2_code 0 = .ok (.iload_n 0, 1) := by decide +kernel
theorem d2_1 : decode method_2_code 1 = .ok (.iconst 3, 1) := by decide +kernel
theorem d2_2 : decode method_2_code 2 = .ok (.iand, 1) := by decide +kernel
theorem d2_3 : decode method_2_code 3 = .ok (.ireturn, 1) := by decide +kernel
theorem d3_0 : decode jdk_42_method_3_code 0 = .ok (.aload_n 0, 1) := by decide +kernel
theorem d3_1 : decode jdk_42_method_3_code 1 = .ok (.aload_n 1, 1) := by decide +kernel
theorem d3_2 : decode jdk_42_method_3_code 2 = .ok (.iconst 0, 1) := by decide +kernel
theorem d3_3 : decode jdk_42_method_3_code 3 = .ok (.aload_n 1, 1) := by decide +kernel
theorem d3_4 : decode jdk_42_method_3_code 4 = .ok (.arraylength, 1) := by decide +kernel
theorem d3_5 : decode jdk_42_method_3_code 5 = .ok (.aconst_null, 1) := by decide +kernel
theorem d3_6 : decode jdk_42_method_3_code 6 = .ok (.invokespecial 27, 3) := by decide +kernel
theorem d3_9 : decode jdk_42_method_3_code 9 = .ok (.return_, 1) := by decide +kernel
theorem d4_0 : decode jdk_42_method_149_code 0 = .ok (.aload_n 0, 1) := by decide +kernel
theorem d4_1 : decode jdk_42_method_149_code 1 = .ok (.invokespecial 1, 3) := by decide +kernel
theorem d4_4 : decode jdk_42_method_149_code 4 = .ok (.iload_n 3, 1) := by decide +kernel
theorem d4_5 : decode jdk_42_method_149_code 5 = .ok (.ifCond .ne 22, 3) := by decide +kernel
theorem d4_8 : decode jdk_42_method_149_code 8 = .ok (.aload_n 0, 1) := by decide +kernel
theorem d4_9 : decode jdk_42_method_149_code 9 = .ok (.ldc 7, 2) := by decide +kernel
theorem d4_11 : decode jdk_42_method_149_code 11 = .ok (.getfield 9, 3) := by decide +kernel
theorem d4_14 : decode jdk_42_method_149_code 14 = .ok (.putfield 9, 3) := by decide +kernel
theorem d4_17 : decode jdk_42_method_149_code 17 = .ok (.aload_n 0, 1) := by decide +kernel
theorem d4_18 : decode jdk_42_method_149_code 18 = .ok (.ldc 7, 2) := by decide +kernel
theorem d4_20 : decode jdk_42_method_149_code 20 = .ok (.getfield 15, 3) := by decide +kernel
theorem d4_23 : decode jdk_42_method_149_code 23 = .ok (.putfield 15, 3) := by decide +kernel
theorem d4_26 : decode jdk_42_method_149_code 26 = .ok (.return_, 1) := by decide +kernel
theorem d4_27 : decode jdk_42_method_149_code 27 = .ok (.getstatic 38, 3) := by decide +kernel
theorem d4_30 : decode jdk_42_method_149_code 30 = .ok (.ifCond .eq 28, 3) := by decide +kernel
theorem d4_33 : decode jdk_42_method_149_code 33 = .ok (.aload_n 1, 1) := by decide +kernel
theorem d4_34 : decode jdk_42_method_149_code 34 = .ok (.iload_n 2, 1) := by decide +kernel
theorem d4_35 : decode jdk_42_method_149_code 35 = .ok (.iload_n 3, 1) := by decide +kernel
theorem d4_36 : decode jdk_42_method_149_code 36 = .ok (.invokestatic 177, 3) := by decide +kernel
theorem d4_39 : decode jdk_42_method_149_code 39 = .ok (.astore 5, 2) := by decide +kernel
theorem d4_41 : decode jdk_42_method_149_code 41 = .ok (.aload_n 0, 1) := by decide +kernel
theorem d4_42 : decode jdk_42_method_149_code 42 = .ok (.aload 5, 2) := by decide +kernel
theorem d4_44 : decode jdk_42_method_149_code 44 = .ok (.iload_n 3, 1) := by decide +kernel
theorem d4_45 : decode jdk_42_method_149_code 45 = .ok (.invokestatic 47, 3) := by decide +kernel
theorem d4_48 : decode jdk_42_method_149_code 48 = .ok (.putfield 15, 3) := by decide +kernel
theorem d4_51 : decode jdk_42_method_149_code 51 = .ok (.aload_n 0, 1) := by decide +kernel
theorem d4_52 : decode jdk_42_method_149_code 52 = .ok (.aload 5, 2) := by decide +kernel
theorem d4_54 : decode jdk_42_method_149_code 54 = .ok (.putfield 9, 3) := by decide +kernel
theorem d4_57 : decode jdk_42_method_149_code 57 = .ok (.return_, 1) := by decide +kernel
theorem d6_0 : decode method_3_code 0 = .ok (.iload_n 0, 1) := by decide +kernel
theorem d6_1 : decode method_3_code 1 = .ok (.bipush 8, 2) := by decide +kernel
theorem d6_3 : decode method_3_code 3 = .ok (.iushr, 1) := by decide +kernel
theorem d6_4 : decode method_3_code 4 = .ok (.sipush 255, 3) := by decide +kernel
theorem d6_7 : decode method_3_code 7 = .ok (.iand, 1) := by decide +kernel
theorem d6_8 : decode method_3_code 8 = .ok (.i2c, 1) := by decide +kernel
theorem d6_9 : decode method_3_code 9 = .ok (.ireturn, 1) := by decide +kernel
theorem d7_0 : decode method_4_code 0 = .ok (.iload_n 0, 1) := by decide +kernel
theorem d7_1 : decode method_4_code 1 = .ok (.bipush 16, 2) := by decide +kernel
theorem d7_3 : decode method_4_code 3 = .ok (.iushr, 1) := by decide +kernel
theorem d7_4 : decode method_4_code 4 = .ok (.sipush 255, 3) := by decide +kernel
theorem d7_7 : decode method_4_code 7 = .ok (.iand, 1) := by decide +kernel
theorem d7_8 : decode method_4_code 8 = .ok (.i2c, 1) := by decide +kernel
theorem d7_9 : decode method_4_code 9 = .ok (.ireturn, 1) := by decide +kernel
theorem d8_0 : decode method_5_code 0 = .ok (.iload_n 0, 1) := by decide +kernel
theorem d8_1 : decode method_5_code 1 = .ok (.bipush 24, 2) := by decide +kernel
theorem d8_3 : decode method_5_code 3 = .ok (.iushr, 1) := by decide +kernel
theorem d8_4 : decode method_5_code 4 = .ok (.sipush 255, 3) := by decide +kernel
theorem d8_7 : decode method_5_code 7 = .ok (.iand, 1) := by decide +kernel
theorem d8_8 : decode method_5_code 8 = .ok (.i2c, 1) := by decide +kernel
theorem d8_9 : decode method_5_code 9 = .ok (.ireturn, 1) := by decide +kernel
theorem d9_0 : decode jdk_52_method_16_code 0 = .ok (.iload_n 2, 1) := by decide +kernel
theorem d9_1 : decode jdk_52_method_16_code 1 = .ok (.newarray .byte, 2) := by decide +kernel
theorem d9_3 : decode jdk_52_method_16_code 3 = .ok (.astore_n 3, 1) := by decide +kernel
theorem d9_4 : decode jdk_52_method_16_code 4 = .ok (.aload_n 0, 1) := by decide +kernel
theorem d9_5 : decode jdk_52_method_16_code 5 = .ok (.iload_n 1, 1) := by decide +kernel
theorem d9_6 : decode jdk_52_method_16_code 6 = .ok (.aload_n 3, 1) := by decide +kernel
theorem d9_7 : decode jdk_52_method_16_code 7 = .ok (.iconst 0, 1) := by decide +kernel
theorem d9_8 : decode jdk_52_method_16_code 8 = .ok (.iload_n 2, 1) := by decide +kernel
theorem d9_9 : decode jdk_52_method_16_code 9 = .ok (.invokestatic 115, 3) := by decide +kernel
theorem d9_12 : decode jdk_52_method_16_code 12 = .ok (.istore 4, 2) := by decide +kernel
theorem d9_14 : decode jdk_52_method_16_code 14 = .ok (.iload 4, 2) := by decide +kernel
theorem d9_16 : decode jdk_52_method_16_code 16 = .ok (.iload_n 2, 1) := by decide +kernel
theorem d9_17 : decode jdk_52_method_16_code 17 = .ok (.if_icmp .eq 40, 3) := by decide +kernel
theorem d9_57 : decode jdk_52_method_16_code 57 = .ok (.aload_n 3, 1) := by decide +kernel
theorem d9_58 : decode jdk_52_method_16_code 58 = .ok (.areturn, 1) := by decide +kernel
theorem d10_0 : decode jdk_52_method_21_code 0 = .ok (.iconst 0, 1) := by decide +kernel
theorem d10_1 : decode jdk_52_method_21_code 1 = .ok (.istore 5, 2) := by decide +kernel
theorem d10_3 : decode jdk_52_method_21_code 3 = .ok (.iload 5, 2) := by decide +kernel
theorem d10_5 : decode jdk_52_method_21_code 5 = .ok (.iload 4, 2) := by decide +kernel
theorem d10_7 : decode jdk_52_method_21_code 7 = .ok (.if_icmp .ge 37, 3) := by decide +kernel
theorem d10_10 : decode jdk_52_method_21_code 10 = .ok (.aload_n 0, 1) := by decide +kernel
theorem d10_11 : decode jdk_52_method_21_code 11 = .ok (.iload_n 1, 1) := by decide +kernel
theorem d10_12 : decode jdk_52_method_21_code 12 = .ok (.caload, 1) := by decide +kernel
theorem d10_13 : decode jdk_52_method_21_code 13 = .ok (.istore 6, 2) := by decide +kernel
theorem d10_15 : decode jdk_52_method_21_code 15 = .ok (.iload 6, 2) := by decide +kernel
theorem d10_17 : decode jdk_52_method_21_code 17 = .ok (.sipush 255, 3) := by decide +kernel
theorem d10_20 : decode jdk_52_method_21_code 20 = .ok (.if_icmp .le 6, 3) := by decide +kernel
theorem d10_26 : decode jdk_52_method_21_code 26 = .ok (.aload_n 2, 1) := by decide +kernel
theorem d10_27 : decode jdk_52_method_21_code 27 = .ok (.iload_n 3, 1) := by decide +kernel
theorem d10_28 : decode jdk_52_method_21_code 28 = .ok (.iload 6, 2) := by decide +kernel
theorem d10_30 : decode jdk_52_method_21_code 30 = .ok (.i2b, 1) := by decide +kernel
theorem d10_31 : decode jdk_52_method_21_code 31 = .ok (.bastore, 1) := by decide +kernel
theorem d10_32 : decode jdk_52_method_21_code 32 = .ok (.iinc 1 1, 3) := by decide +kernel
theorem d10_35 : decode jdk_52_method_21_code 35 = .ok (.iinc 3 1, 3) := by decide +kernel
theorem d10_38 : decode jdk_52_method_21_code 38 = .ok (.iinc 5 1, 3) := by decide +kernel
theorem d10_41 : decode jdk_52_method_21_code 41 = .ok (.goto (-38), 3) := by decide +kernel
theorem d10_44 : decode jdk_52_method_21_code 44 = .ok (.iload 4, 2) := by decide +kernel
theorem d10_46 : decode jdk_52_method_21_code 46 = .ok (.ireturn, 1) := by decide +kernel
theorem d11_0 : decode jdk_52_method_15_code 0 = .ok (.iload_n 1, 1) := by decide +kernel
theorem d11_1 : decode jdk_52_method_15_code 1 = .ok (.aload_n 0, 1) := by decide +kernel
theorem d11_2 : decode jdk_52_method_15_code 2 = .ok (.arraylength, 1) := by decide +kernel
theorem d11_3 : decode jdk_52_method_15_code 3 = .ok (.isub, 1) := by decide +kernel
theorem d11_4 : decode jdk_52_method_15_code 4 = .ok (.bipush 31, 2) := by decide +kernel
theorem d11_6 : decode jdk_52_method_15_code 6 = .ok (.iushr, 1) := by decide +kernel
theorem d11_7 : decode jdk_52_method_15_code 7 = .ok (.i2b, 1) := by decide +kernel
theorem d11_8 : decode jdk_52_method_15_code 8 = .ok (.ireturn, 1) := by decide +kernel
theorem d12_0 : decode prog_5_method_1_code 0 = .ok (.aload_n 0, 1) := by decide +kernel
theorem d12_1 : decode prog_5_method_1_code 1 = .ok (.invokespecial 1, 3) := by decide +kernel
theorem d12_4 : decode prog_5_method_1_code 4 = .ok (.aload_n 0, 1) := by decide +kernel
theorem d12_5 : decode prog_5_method_1_code 5 = .ok (.aload_n 1, 1) := by decide +kernel
theorem d12_6 : decode prog_5_method_1_code 6 = .ok (.ldc 7, 2) := by decide +kernel
theorem d12_8 : decode prog_5_method_1_code 8 = .ok (.invokestatic 9, 3) := by decide +kernel
theorem d12_11 : decode prog_5_method_1_code 11 = .ok (.checkcast 15, 3) := by decide +kernel
theorem d12_14 : decode prog_5_method_1_code 14 = .ok (.putfield 17, 3) := by decide +kernel
theorem d12_17 : decode prog_5_method_1_code 17 = .ok (.aload_n 0, 1) := by decide +kernel
theorem d12_18 : decode prog_5_method_1_code 18 = .ok (.aload_n 2, 1) := by decide +kernel
theorem d12_19 : decode prog_5_method_1_code 19 = .ok (.ldc 22, 2) := by decide +kernel
theorem d12_21 : decode prog_5_method_1_code 21 = .ok (.invokestatic 9, 3) := by decide +kernel
theorem d12_24 : decode prog_5_method_1_code 24 = .ok (.checkcast 15, 3) := by decide +kernel
theorem d12_27 : decode prog_5_method_1_code 27 = .ok (.putfield 24, 3) := by decide +kernel
theorem d12_30 : decode prog_5_method_1_code 30 = .ok (.return_, 1) := by decide +kernel
theorem d13_0 : decode jdk_31_method_11_code 0 = .ok (.aload_n 0, 1) := by decide +kernel
theorem d13_1 : decode jdk_31_method_11_code 1 = .ok (.ifnonnull 12, 3) := by decide +kernel
theorem d13_13 : decode jdk_31_method_11_code 13 = .ok (.aload_n 0, 1) := by decide +kernel
theorem d13_14 : decode jdk_31_method_11_code 14 = .ok (.areturn, 1) := by decide +kernel
theorem d14_0 : decode method_7_code 0 = .ok (.iload_n 0, 1) := by decide +kernel
theorem d14_1 : decode method_7_code 1 = .ok (.invokestatic 7, 3) := by decide +kernel
theorem d14_4 : decode method_7_code 4 = .ok (.istore_n 2, 1) := by decide +kernel
theorem d14_5 : decode method_7_code 5 = .ok (.iload_n 2, 1) := by decide +kernel
theorem d14_6 : decode method_7_code 6 = .ok (.iload_n 1, 1) := by decide +kernel
theorem d14_7 : decode method_7_code 7 = .ok (.invokestatic 7, 3) := by decide +kernel
theorem d14_10 : decode method_7_code 10 = .ok (.if_icmp .eq 5, 3) := by decide +kernel
theorem d14_13 : decode method_7_code 13 = .ok (.iconst 0, 1) := by decide +kernel
theorem d14_14 : decode method_7_code 14 = .ok (.ireturn, 1) := by decide +kernel
theorem d14_15 : decode method_7_code 15 = .ok (.iload_n 2, 1) := by decide +kernel
theorem d14_16 : decode method_7_code 16 = .ok (.iconst 1, 1) := by decide +kernel
theorem d14_17 : decode method_7_code 17 = .ok (.if_icmp .lt 16, 3) := by decide +kernel
theorem d14_20 : decode method_7_code 20 = .ok (.iload_n 0, 1) := by decide +kernel
theorem d14_21 : decode method_7_code 21 = .ok (.invokestatic 18, 3) := by decide +kernel
theorem d14_24 : decode method_7_code 24 = .ok (.iload_n 1, 1) := by decide +kernel
theorem d14_25 : decode method_7_code 25 = .ok (.invokestatic 18, 3) := by decide +kernel
theorem d14_28 : decode method_7_code 28 = .ok (.if_icmp .eq 5, 3) := by decide +kernel
theorem d14_31 : decode method_7_code 31 = .ok (.iconst 0, 1) := by decide +kernel
theorem d14_32 : decode method_7_code 32 = .ok (.ireturn, 1) := by decide +kernel
theorem d14_33 : decode method_7_code 33 = .ok (.iload_n 2, 1) := by decide +kernel
theorem d14_34 : decode method_7_code 34 = .ok (.iconst 2, 1) := by decide +kernel
theorem d14_35 : decode method_7_code 35 = .ok (.if_icmp .lt 16, 3) := by decide +kernel
theorem d14_38 : decode method_7_code 38 = .ok (.iload_n 0, 1) := by decide +kernel
theorem d14_39 : decode method_7_code 39 = .ok (.invokestatic 22, 3) := by decide +kernel
theorem d14_42 : decode method_7_code 42 = .ok (.iload_n 1, 1) := by decide +kernel
theorem d14_43 : decode method_7_code 43 = .ok (.invokestatic 22, 3) := by decide +kernel
theorem d14_46 : decode method_7_code 46 = .ok (.if_icmp .eq 5, 3) := by decide +kernel
theorem d14_49 : decode method_7_code 49 = .ok (.iconst 0, 1) := by decide +kernel
theorem d14_50 : decode method_7_code 50 = .ok (.ireturn, 1) := by decide +kernel
theorem d14_51 : decode method_7_code 51 = .ok (.iload_n 2, 1) := by decide +kernel
theorem d14_52 : decode method_7_code 52 = .ok (.iconst 3, 1) := by decide +kernel
theorem d14_53 : decode method_7_code 53 = .ok (.if_icmp .lt 16, 3) := by decide +kernel
theorem d14_56 : decode method_7_code 56 = .ok (.iload_n 0, 1) := by decide +kernel
theorem d14_57 : decode method_7_code 57 = .ok (.invokestatic 25, 3) := by decide +kernel
theorem d14_60 : decode method_7_code 60 = .ok (.iload_n 1, 1) := by decide +kernel
theorem d14_61 : decode method_7_code 61 = .ok (.invokestatic 25, 3) := by decide +kernel
theorem d14_64 : decode method_7_code 64 = .ok (.if_icmp .eq 5, 3) := by decide +kernel
theorem d14_67 : decode method_7_code 67 = .ok (.iconst 0, 1) := by decide +kernel
theorem d14_68 : decode method_7_code 68 = .ok (.ireturn, 1) := by decide +kernel
theorem d14_69 : decode method_7_code 69 = .ok (.iconst 1, 1) := by decide +kernel
theorem d14_70 : decode method_7_code 70 = .ok (.ireturn, 1) := by decide +kernel
theorem d15_0 : decode prog_5_method_4_code 0 = .ok (.aload_n 1, 1) := by decide +kernel
theorem d15_1 : decode prog_5_method_4_code 1 = .ok (.instanceof 18, 3) := by decide +kernel
theorem d15_4 : decode prog_5_method_4_code 4 = .ok (.ifCond .eq 41, 3) := by decide +kernel
theorem d15_7 : decode prog_5_method_4_code 7 = .ok (.aload_n 0, 1) := by decide +kernel
theorem d15_8 : decode prog_5_method_4_code 8 = .ok (.getfield 17, 3) := by decide +kernel
theorem d15_11 : decode prog_5_method_4_code 11 = .ok (.aload_n 1, 1) := by decide +kernel
theorem d15_12 : decode prog_5_method_4_code 12 = .ok (.checkcast 18, 3) := by decide +kernel
theorem d15_15 : decode prog_5_method_4_code 15 = .ok (.getfield 17, 3) := by decide +kernel
theorem d15_18 : decode prog_5_method_4_code 18 = .ok (.invokevirtual 26, 3) := by decide +kernel
theorem d15_21 : decode prog_5_method_4_code 21 = .ok (.ifCond .eq 24, 3) := by decide +kernel
theorem d15_24 : decode prog_5_method_4_code 24 = .ok (.aload_n 0, 1) := by decide +kernel
theorem d15_25 : decode prog_5_method_4_code 25 = .ok (.getfield 24, 3) := by decide +kernel
theorem d15_28 : decode prog_5_method_4_code 28 = .ok (.aload_n 1, 1) := by decide +kernel
theorem d15_29 : decode prog_5_method_4_code 29 = .ok (.checkcast 18, 3) := by decide +kernel
theorem d15_32 : decode prog_5_method_4_code 32 = .ok (.getfield 24, 3) := by decide +kernel
theorem d15_35 : decode prog_5_method_4_code 35 = .ok (.invokevirtual 26, 3) := by decide +kernel
theorem d15_38 : decode prog_5_method_4_code 38 = .ok (.ifCond .eq 7, 3) := by decide +kernel
theorem d15_41 : decode prog_5_method_4_code 41 = .ok (.iconst 1, 1) := by decide +kernel
theorem d15_42 : decode prog_5_method_4_code 42 = .ok (.goto 4, 3) := by decide +kernel
theorem d15_45 : decode prog_5_method_4_code 45 = .ok (.iconst 0, 1) := by decide +kernel
theorem d15_46 : decode prog_5_method_4_code 46 = .ok (.ireturn, 1) := by decide +kernel
theorem d16_0 : decode jdk_42_method_66_code 0 = .ok (.aload_n 0, 1) := by decide +kernel
theorem d16_1 : decode jdk_42_method_66_code 1 = .ok (.aload_n 1, 1) := by decide +kernel
theorem d16_2 : decode jdk_42_method_66_code 2 = .ok (.if_acmp .ne 5, 3) := by decide +kernel
theorem d16_5 : decode jdk_42_method_66_code 5 = .ok (.iconst 1, 1) := by decide +kernel
theorem d16_6 : decode jdk_42_method_66_code 6 = .ok (.ireturn, 1) := by decide +kernel
theorem d16_7 : decode jdk_42_method_66_code 7 = .ok (.aload_n 1, 1) := by decide +kernel
theorem d16_8 : decode jdk_42_method_66_code 8 = .ok (.instanceof 10, 3) := by decide +kernel
theorem d16_11 : decode jdk_42_method_66_code 11 = .ok (.ifCond .eq 43, 3) := by decide +kernel
theorem d16_14 : decode jdk_42_method_66_code 14 = .ok (.aload_n 1, 1) := by decide +kernel
theorem d16_15 : decode jdk_42_method_66_code 15 = .ok (.checkcast 10, 3) := by decide +kernel
theorem d16_18 : decode jdk_42_method_66_code 18 = .ok (.astore_n 2, 1) := by decide +kernel
theorem d16_19 : decode jdk_42_method_66_code 19 = .ok (.getstatic 38, 3) := by decide +kernel
theorem d16_22 : decode jdk_42_method_66_code 22 = .ok (.ifCond .eq 14, 3) := by decide +kernel
theorem d16_25 : decode jdk_42_method_66_code 25 = .ok (.aload_n 0, 1) := by decide +kernel
theorem d16_26 : decode jdk_42_method_66_code 26 = .ok (.getfield 15, 3) := by decide +kernel
theorem d16_29 : decode jdk_42_method_66_code 29 = .ok (.aload_n 2, 1) := by decide +kernel
theorem d16_30 : decode jdk_42_method_66_code 30 = .ok (.getfield 15, 3) := by decide +kernel
theorem d16_33 : decode jdk_42_method_66_code 33 = .ok (.if_icmp .ne 21, 3) := by decide +kernel
theorem d16_36 : decode jdk_42_method_66_code 36 = .ok (.aload_n 0, 1) := by decide +kernel
theorem d16_37 : decode jdk_42_method_66_code 37 = .ok (.getfield 9, 3) := by decide +kernel
theorem d16_40 : decode jdk_42_method_66_code 40 = .ok (.aload_n 2, 1) := by decide +kernel
theorem d16_41 : decode jdk_42_method_66_code 41 = .ok (.getfield 9, 3) := by decide +kernel
theorem d16_44 : decode jdk_42_method_66_code 44 = .ok (.invokestatic 541, 3) := by decide +kernel
theorem d16_47 : decode jdk_42_method_66_code 47 = .ok (.ifCond .eq 7, 3) := by decide +kernel
theorem d16_50 : decode jdk_42_method_66_code 50 = .ok (.iconst 1, 1) := by decide +kernel
theorem d16_51 : decode jdk_42_method_66_code 51 = .ok (.goto 4, 3) := by decide +kernel
theorem d16_54 : decode jdk_42_method_66_code 54 = .ok (.iconst 0, 1) := by decide +kernel
theorem d16_55 : decode jdk_42_method_66_code 55 = .ok (.ireturn, 1) := by decide +kernel
theorem d17_0 : decode jdk_43_method_13_code 0 = .ok (.aload_n 0, 1) := by decide +kernel
theorem d17_1 : decode jdk_43_method_13_code 1 = .ok (.arraylength, 1) := by decide +kernel
theorem d17_2 : decode jdk_43_method_13_code 2 = .ok (.aload_n 1, 1) := by decide +kernel
theorem d17_3 : decode jdk_43_method_13_code 3 = .ok (.arraylength, 1) := by decide +kernel
theorem d17_4 : decode jdk_43_method_13_code 4 = .ok (.if_icmp .ne 30, 3) := by decide +kernel
theorem d17_7 : decode jdk_43_method_13_code 7 = .ok (.iconst 0, 1) := by decide +kernel
theorem d17_8 : decode jdk_43_method_13_code 8 = .ok (.istore_n 2, 1) := by decide +kernel
theorem d17_9 : decode jdk_43_method_13_code 9 = .ok (.iload_n 2, 1) := by decide +kernel
theorem d17_10 : decode jdk_43_method_13_code 10 = .ok (.aload_n 0, 1) := by decide +kernel
theorem d17_11 : decode jdk_43_method_13_code 11 = .ok (.arraylength, 1) := by decide +kernel
theorem d17_12 : decode jdk_43_method_13_code 12 = .ok (.if_icmp .ge 20, 3) := by decide +kernel
theorem d17_15 : decode jdk_43_method_13_code 15 = .ok (.aload_n 0, 1) := by decide +kernel
theorem d17_16 : decode jdk_43_method_13_code 16 = .ok (.iload_n 2, 1) := by decide +kernel
theorem d17_17 : decode jdk_43_method_13_code 17 = .ok (.baload, 1) := by decide +kernel
theorem d17_18 : decode jdk_43_method_13_code 18 = .ok (.aload_n 1, 1) := by decide +kernel
theorem d17_19 : decode jdk_43_method_13_code 19 = .ok (.iload_n 2, 1) := by decide +kernel
theorem d17_20 : decode jdk_43_method_13_code 20 = .ok (.baload, 1) := by decide +kernel
theorem d17_21 : decode jdk_43_method_13_code 21 = .ok (.if_icmp .eq 5, 3) := by decide +kernel
theorem d17_24 : decode jdk_43_method_13_code 24 = .ok (.iconst 0, 1) := by decide +kernel
theorem d17_25 : decode jdk_43_method_13_code 25 = .ok (.ireturn, 1) := by decide +kernel
theorem d17_26 : decode jdk_43_method_13_code 26 = .ok (.iinc 2 1, 3) := by decide +kernel
theorem d17_29 : decode jdk_43_method_13_code 29 = .ok (.goto (-20), 3) := by decide +kernel
theorem d17_32 : decode jdk_43_method_13_code 32 = .ok (.iconst 1, 1) := by decide +kernel
theorem d17_33 : decode jdk_43_method_13_code 33 = .ok (.ireturn, 1) := by decide +kernel
theorem d17_34 : decode jdk_43_method_13_code 34 = .ok (.iconst 0, 1) := by decide +kernel
theorem d17_35 : decode jdk_43_method_13_code 35 = .ok (.ireturn, 1) := by decide +kernel
theorem own_sat {Z : State} {a0 : Array Value} (hw : ∀ d ∈ tables_1, d.before a0 Z = true) : ∀ a ∈ Bundle.stringAtoms, a.before a0 Z = true := by
  intro a ha
  simp only [Bundle.stringAtoms, List.mem_cons, List.not_mem_nil, or_false] at ha
  rcases ha with rfl | rfl | rfl | rfl | rfl | rfl | rfl
  · exact (hw _ (List.mem_of_getElem? (i := 12) rfl))
  · exact (hw _ (List.mem_of_getElem? (i := 11) rfl))
  · exact (hw _ (List.mem_of_getElem? (i := 25) rfl))
  · exact (hw _ (List.mem_of_getElem? (i := 26) rfl))
  · exact (hw _ (List.mem_of_getElem? (i := 27) rfl))
  · exact (hw _ (List.mem_of_getElem? (i := 28) rfl))
  · exact (hw _ (List.mem_of_getElem? (i := 29) rfl))
def own_EL : List (String × Nat) := [("java/lang/String", 7)]
theorem own_EW {Z : State} {a0 : Array Value} (hw : ∀ d ∈ tables_1, d.before a0 Z = true) : EW Z a0 own_EL := EW.cons (hw _ (List.mem_of_getElem? (i := 24) rfl)) (by decide) EW.nil
theorem efC5_1 (m : MethodId) (x0 : Addr) (x1 : Int32) (x2 : Addr) (x3 : Int32) (x4 : Int32) : entryFrame m #[(.ref x0), (.int x1), (.ref x2), (.int x3), (.int x4)] 7 = mkF m 0 #[.val (.ref x0), .val (.int x1), .val (.ref x2), .val (.int x3), .val (.int x4), .unset, .unset] [] := by first | (simp [entryFrame, mkF, argsToLocals, Value.category]; done) | rfl
set_option maxRecDepth 65536 in
set_option maxHeartbeats 40000000 in
theorem rmC5_1 (l : Launch) (Z : State) (a0 : Array Value) (hw : ∀ d ∈ tables_1, d.before a0 Z = true) (oc : Addr) (od : Addr) (c0 : Int32) (h0 : Heap) (hc0 : own_B c0) (A_c : Ary Z h0 oc .char [(.int c0)]) (A_d : Ary Z h0 od .byte [(.int (0 : Int32))]) (hne : oc ≠ od) :
    Con l (⟨"java/lang/StringUTF16", "compress", "([CI[BII)I"⟩ : MethodName) jdk_52_method_21_code 7 (some .int) [] ({ frames := 0, cells := 0, slots := 0, locals := 0 } : Room) #[(.ref oc), (.int (0 : Int32)), (.ref od), (.int (0 : Int32)), (.int (1 : Int32))] Z h0 (fun v h L => v = some (.int (1 : Int32)) ∧ Ok h0 h [od] L ∧ Ary Z h od .byte [(.int c0.toInt8.toInt32)]) := by
  refine Con.of (plainFor_of_name pn_0) ?_
  intro p e s m below meth c s₁ hx hZ hby hml hown hnm hret hlk X0 e0
  refine Ends.cast (efC5_1 m oc (0 : Int32) od (0 : Int32) (1 : Int32)) ?_
  show Ends none p e below s _ _ _ s₁ (mkF m 0 #[.val (.ref oc), .val (.int (0 : Int32)), .val (.ref od), .val (.int (0 : Int32)), .val (.int (1 : Int32)), .unset, .unset] [])
  have O0 := Ok.refl h0 [od]
  refine E.iconst (q := 1) (v := (0 : Int32)) X0 hx (hb hby d10_0) rfl ?_
  refine E.istore (q := 3) (l' := #[.val (.ref oc), .val (.int (0 : Int32)), .val (.ref od), .val (.int (0 : Int32)), .val (.int (1 : Int32)), .val (.int (0 : Int32)), .unset]) X0 hx (hb hby d10_1) rfl ?_
  refine E.iload (q := 5) X0 hx (hb hby d10_3) rfl ?_
  refine E.iload (q := 7) X0 hx (hb hby d10_5) rfl ?_
  refine E.icmpN (q := 10) X0 hx (hb hby d10_7) (XT.ii_ge_f (by decide)) ?_
  refine E.aloadN (q := 11) X0 hx (hb hby d10_10) rfl rfl ?_
  refine E.iloadN (q := 12) X0 hx (hb hby d10_11) rfl ?_
  refine Ends.cld X0 hx hZ e0 A_c (i := 0) rfl rfl (hb hby d10_12) ?_
  refine E.istore (q := 15) (l' := #[.val (.ref oc), .val (.int (0 : Int32)), .val (.ref od), .val (.int (0 : Int32)), .val (.int (1 : Int32)), .val (.int (0 : Int32)), .val (.int c0)]) X0 hx (hb hby d10_13) rfl ?_
  refine E.iload (q := 17) X0 hx (hb hby d10_15) rfl ?_
  refine E.sipush (q := 20) (v := (255 : Int32)) X0 hx (hb hby d10_17) rfl ?_
  refine E.icmpY (q := 26) X0 hx (hb hby d10_20) (XT.ii_le_t (own_B_le hc0)) ?_
  refine E.aloadN (q := 27) X0 hx (hb hby d10_26) rfl rfl ?_
  refine E.iloadN (q := 28) X0 hx (hb hby d10_27) rfl ?_
  refine E.iload (q := 30) X0 hx (hb hby d10_28) rfl ?_
  refine E.i2b (q := 31) X0 hx (hb hby d10_30) ?_
  refine Ends.bst X0 hx hZ e0 A_d (x' := (c0.toInt8.toInt32)) (own_nb8 _) (i := 0) rfl (show 0 < 1 from by decide) (hb hby d10_31) ?_
  intro T1 h1 X1 e1 W1 V1
  have V1 : Ary Z h1 od .byte [(.int (c0.toInt8.toInt32))] := V1
  have O1 := O0.wr W1 (Or.inl (List.mem_of_getElem? (i := 0) rfl))
  refine E.iinc (q := 35) (v := (1 : Int32)) (l' := #[.val (.ref oc), .val (.int (1 : Int32)), .val (.ref od), .val (.int (0 : Int32)), .val (.int (1 : Int32)), .val (.int (0 : Int32)), .val (.int c0)]) X1 hx (hb hby d10_32) rfl (by decide) rfl ?_
  refine E.iinc (q := 38) (v := (1 : Int32)) (l' := #[.val (.ref oc), .val (.int (1 : Int32)), .val (.ref od), .val (.int (1 : Int32)), .val (.int (1 : Int32)), .val (.int (0 : Int32)), .val (.int c0)]) X1 hx (hb hby d10_35) rfl (by decide) rfl ?_
  refine E.iinc (q := 41) (v := (1 : Int32)) (l' := #[.val (.ref oc), .val (.int (1 : Int32)), .val (.ref od), .val (.int (1 : Int32)), .val (.int (1 : Int32)), .val (.int (1 : Int32)), .val (.int c0)]) X1 hx (hb hby d10_38) rfl (by decide) rfl ?_
  refine E.goto (q := 3) X1 hx (hb hby d10_41) ?_
  refine E.iload (q := 5) X1 hx (hb hby d10_3) rfl ?_
  refine E.iload (q := 7) X1 hx (hb hby d10_5) rfl ?_
  refine E.icmpY (q := 44) X1 hx (hb hby d10_7) (XT.ii_ge_t (by decide)) ?_
  refine E.iload (q := 46) X1 hx (hb hby d10_44) rfl ?_
  subst e1
  exact Ends.retI X1 hx hlk hret (hb hby d10_46) (by decide) (by decide) ⟨rfl, O1, V1⟩
theorem efC3_1 (m : MethodId) (x0 : Addr) (x1 : Int32) (x2 : Int32) : entryFrame m #[(.ref x0), (.int x1), (.int x2)] 6 = mkF m 0 #[.val (.ref x0), .val (.int x1), .val (.int x2), .unset, .unset, .unset] [] := by first | (simp [entryFrame, mkF, argsToLocals, Value.category]; done) | rfl
set_option maxRecDepth 65536 in
set_option maxHeartbeats 40000000 in
theorem rmC3_1 (l : Launch) (Z : State) (a0 : Array Value) (hw : ∀ d ∈ tables_1, d.before a0 Z = true) (oc : Addr) (c0 : Int32) (h0 : Heap) (hc0 : own_B c0) (A_c : Ary Z h0 oc .char [(.int c0)]) :
    Con l (⟨"java/lang/StringUTF16", "compress", "([CII)[B"⟩ : MethodName) jdk_52_method_16_code 6 (some (.array .byte)) [] ({ frames := 1, cells := 1, slots := 1, locals := 24 } : Room) #[(.ref oc), (.int (0 : Int32)), (.int (1 : Int32))] Z h0 (fun v h L => ∃ b, v = some (.ref b) ∧ h0.size ≤ b ∧ Ok h0 h [] L ∧ Ary Z h b .byte [(.int c0.toInt8.toInt32)]) := by
  refine Con.of (plainFor_of_name pn_0) ?_
  intro p e s m below meth c s₁ hx hZ hby hml hown hnm hret hlk X0 e0
  refine Ends.cast (efC3_1 m oc (0 : Int32) (1 : Int32)) ?_
  show Ends none p e below s _ _ _ s₁ (mkF m 0 #[.val (.ref oc), .val (.int (0 : Int32)), .val (.int (1 : Int32)), .unset, .unset, .unset] [])
  have O0 := Ok.refl h0 []
  refine E.iloadN (q := 1) X0 hx (hb hby d9_0) rfl ?_
  refine Ends.newA X0 hx hZ (hw _ (List.mem_of_getElem? (i := 25) rfl)) e0 (hb hby d9_1) (N := 1) rfl (by decide) (by decide) (by decide) ?_
  intro T2 h2 b2 g2 X2 e2 E2 A2
  have ge_b2 : h0.size ≤ b2 := Nat.le_trans O0.le (Nat.le_of_eq g2.symm)
  have O2 := O0.ext E2
  have V2 : Ary Z h2 b2 .byte [(.int (0 : Int32))] := A2
  refine E.astoreN (q := 4) (l' := #[.val (.ref oc), .val (.int (0 : Int32)), .val (.int (1 : Int32)), .val (.ref b2), .unset, .unset]) X2 hx (hb hby d9_3) rfl rfl ?_
  refine E.aloadN (q := 5) X2 hx (hb hby d9_4) rfl rfl ?_
  refine E.iloadN (q := 6) X2 hx (hb hby d9_5) rfl ?_
  refine E.aloadN (q := 7) X2 hx (hb hby d9_6) rfl rfl ?_
  refine E.iconst (q := 8) (v := (0 : Int32)) X2 hx (hb hby d9_7) rfl ?_
  refine E.iloadN (q := 9) X2 hx (hb hby d9_8) rfl ?_
  have f3 := A_c.ext E2
  refine Ends.callS X2 hx hZ hown (hw _ (List.mem_of_getElem? (i := 46) rfl)) (hw _ (List.mem_of_getElem? (i := 47) rfl)) (hw _ (List.mem_of_getElem? (i := 44) rfl)) (hw _ (List.mem_of_getElem? (i := 48) rfl)) (by decide) (argsL := [(.ref oc), (.int (0 : Int32)), (.ref b2), (.int (0 : Int32)), (.int (1 : Int32))]) (rest := []) e2 (rmC5_1 l Z a0 hw oc b2 c0 _ hc0 f3 V2 (Nat.ne_of_lt (Nat.lt_of_lt_of_eq A_c.lt g2.symm))) (W := 0) (by decide) (by decide) (by rw [hml]; rfl) (lenOf pd_0 rfl) (Nat.le_of_eq rfl) (hb hby d9_9) (by decide) (by decide) rfl ?_
  rintro T4 v4 L4 X4 ⟨rfl, hO4, V4⟩
  have e4 : T4.heap = T4.heap := rfl
  have O4 := O2.call hO4 (allS (Or.inr ge_b2) all0)
  show Ends none p e below s _ _ _ T4 (mkF m 12 #[.val (.ref oc), .val (.int (0 : Int32)), .val (.int (1 : Int32)), .val (.ref b2), .unset, .unset] [(.int (1 : Int32))])
  refine E.istore (q := 14) (l' := #[.val (.ref oc), .val (.int (0 : Int32)), .val (.int (1 : Int32)), .val (.ref b2), .val (.int (1 : Int32)), .unset]) X4 hx (hb hby d9_12) rfl ?_
  refine E.iload (q := 16) X4 hx (hb hby d9_14) rfl ?_
  refine E.iloadN (q := 17) X4 hx (hb hby d9_16) rfl ?_
  refine E.icmpY (q := 57) X4 hx (hb hby d9_17) (XT.ii_eq_t (by decide)) ?_
  refine E.aloadN (q := 58) X4 hx (hb hby d9_57) rfl rfl ?_
  exact Ends.retA X4 hx hlk hret rfl rfl rfl (hb hby d9_58) (by decide) (by decide) ⟨_, rfl, ge_b2, O4, V4⟩
theorem efCL_1 (m : MethodId) (x0 : Addr) (x1 : Int32) : entryFrame m #[(.ref x0), (.int x1)] 2 = mkF m 0 #[.val (.ref x0), .val (.int x1)] [] := by first | (simp [entryFrame, mkF, argsToLocals, Value.category]; done) | rfl
set_option maxRecDepth 65536 in
set_option maxHeartbeats 40000000 in
theorem rmCL_1 (l : Launch) (Z : State) (a0 : Array Value) (hw : ∀ d ∈ tables_1, d.before a0 Z = true) (od : Addr) (vs : List Value) (h0 : Heap) (A_d : Ary Z h0 od .byte vs) (hl : vs.length = 1) :
    Con l (⟨"java/lang/StringUTF16", "coderFromArrayLen", "([BI)B"⟩ : MethodName) jdk_52_method_15_code 2 (some .byte) [] ({ frames := 0, cells := 0, slots := 0, locals := 0 } : Room) #[(.ref od), (.int (1 : Int32))] Z h0 (fun v h L => v = some (.int (0 : Int32)) ∧ h = h0 ∧ L = []) := by
  refine Con.of (plainFor_of_name pn_0) ?_
  intro p e s m below meth c s₁ hx hZ hby hml hown hnm hret hlk X0 e0
  refine Ends.cast (efCL_1 m od (1 : Int32)) ?_
  show Ends none p e below s _ _ _ s₁ (mkF m 0 #[.val (.ref od), .val (.int (1 : Int32))] [])
  refine E.iloadN (q := 1) X0 hx (hb hby d11_0) rfl ?_
  refine E.aloadN (q := 2) X0 hx (hb hby d11_1) rfl rfl ?_
  refine Ends.alen X0 hx hZ e0 A_d (hb hby d11_2) (n := (1 : Int32)) (by rw [hl]; rfl) ?_
  refine E.isub (q := 4) X0 hx (hb hby d11_3) ?_
  rw [show ((1 : Int32) - (1 : Int32)) = (0 : Int32) from by decide]
  refine E.bipush (q := 6) (v := (31 : Int32)) X0 hx (hb hby d11_4) rfl ?_
  refine E.iushr (q := 7) X0 hx (hb hby d11_6) ?_
  rw [show (((0 : Int32).toUInt32 >>> ((31 : Int32) &&& 31).toUInt32).toInt32) = (0 : Int32) from by decide]
  refine E.i2b (q := 8) X0 hx (hb hby d11_7) ?_
  exact Ends.retS X0 hx hlk hret (by simp) rfl (hb hby d11_8) (by decide) (by decide) ⟨by decide, e0, rfl⟩
theorem efI4_1 (m : MethodId) (x0 : Addr) (x1 : Addr) (x2 : Int32) (x3 : Int32) : entryFrame m #[(.ref x0), (.ref x1), (.int x2), (.int x3), .null] 6 = mkF m 0 #[.val (.ref x0), .val (.ref x1), .val (.int x2), .val (.int x3), .val .null, .unset] [] := by first | (simp [entryFrame, mkF, argsToLocals, Value.category]; done) | rfl
set_option maxRecDepth 65536 in
set_option maxHeartbeats 40000000 in
theorem rmI4_1 (l : Launch) (Z : State) (a0 : Array Value) (hw : ∀ d ∈ tables_1, d.before a0 Z = true) (oa : Addr) (oc : Addr) (c0 : Int32) (h0 : Heap) (hc0 : own_B c0) (E0 : Exa Z h0 oa "java/lang/String") (F_v : Fld Z h0 oa "java/lang/String" "value" "[B" .null) (F_c : Fld Z h0 oa "java/lang/String" "coder" "B" (.int (0 : Int32))) (A_c : Ary Z h0 oc .char [(.int c0)]) (hne : oc ≠ oa) (cs : Int32) (hcs : ¬ cs = (0 : Int32)) (S0 : Sta Z h0 "java/lang/String" "COMPACT_STRINGS" "Z" (.int cs)) :
    Con l (⟨"java/lang/String", "<init>", "([CIILjava/lang/Void;)V"⟩ : MethodName) jdk_42_method_149_code 6 none [] ({ frames := 2, cells := 1, slots := 1, locals := 48 } : Room) #[(.ref oa), (.ref oc), (.int (0 : Int32)), (.int (1 : Int32)), .null] Z h0 (fun v h L => v = none ∧ ∃ V, h0.size ≤ V ∧ Ok h0 h [oa] L ∧ Fld Z h oa "java/lang/String" "value" "[B" (.ref V) ∧ Fld Z h oa "java/lang/String" "coder" "B" (.int (0 : Int32)) ∧ Ary Z h V .byte [(.int c0.toInt8.toInt32)]) := by
  refine Con.of (plainFor_of_name pn_1) ?_
  intro p e s m below meth c s₁ hx hZ hby hml hown hnm hret hlk X0 e0
  refine Ends.cast (efI4_1 m oa oc (0 : Int32) (1 : Int32)) ?_
  show Ends none p e below s _ _ _ s₁ (mkF m 0 #[.val (.ref oa), .val (.ref oc), .val (.int (0 : Int32)), .val (.int (1 : Int32)), .val .null, .unset] [])
  have O0 := Ok.refl h0 [oa]
  refine E.aloadN (q := 1) X0 hx (hb hby d4_0) rfl rfl ?_
  refine Ends.initO X0 hx hZ hown (hw _ (List.mem_of_getElem? (i := 21) rfl)) (hw _ (List.mem_of_getElem? (i := 22) rfl)) (hw _ (List.mem_of_getElem? (i := 23) rfl)) e0 (by rw [hml]; rfl) (hb hby d4_1) (by decide) (W := 0) (Nat.le_of_eq rfl) (by decide) ?_
  intro T5 X5 e5
  refine E.iloadN (q := 5) X5 hx (hb hby d4_4) rfl ?_
  refine E.ifY (q := 27) X5 hx (hb hby d4_5) (XT.i0_ne_t (by decide)) ?_
  refine Ends.getS X5 hx hZ hown (host := "") (Or.inl (hw _ (List.mem_of_getElem? (i := 41) rfl))) Via.refl e5 (own_sta_keep S0 O0.1 (own_ns E0)) (hb hby d4_27) ?_
  intro T6 X6 e6
  refine E.ifN (q := 33) X6 hx (hb hby d4_30) (XT.i0_eq_f hcs) ?_
  refine E.aloadN (q := 34) X6 hx (hb hby d4_33) rfl rfl ?_
  refine E.iloadN (q := 35) X6 hx (hb hby d4_34) rfl ?_
  refine E.iloadN (q := 36) X6 hx (hb hby d4_35) rfl ?_
  refine Ends.callS X6 hx hZ hown (hw _ (List.mem_of_getElem? (i := 42) rfl)) (hw _ (List.mem_of_getElem? (i := 43) rfl)) (hw _ (List.mem_of_getElem? (i := 44) rfl)) (hw _ (List.mem_of_getElem? (i := 45) rfl)) (by decide) (argsL := [(.ref oc), (.int (0 : Int32)), (.int (1 : Int32))]) (rest := []) e6 (rmC3_1 l Z a0 hw oc c0 _ hc0 A_c) (W := 0) (by decide) (by decide) (by rw [hml]; rfl) (lenOf pd_1 rfl) (Nat.le_of_eq rfl) (hb hby d4_36) (by decide) (by decide) rfl ?_
  rintro T7 v7 L7 X7 ⟨b7, rfl, ge_b7, hO7, V7⟩
  have e7 : T7.heap = T7.heap := rfl
  have O7 := O0.call hO7 all0
  show Ends none p e below s _ _ _ T7 (mkF m 39 #[.val (.ref oa), .val (.ref oc), .val (.int (0 : Int32)), .val (.int (1 : Int32)), .val .null, .unset] [(.ref b7)])
  have gv : h0.size ≤ b7 := Nat.le_trans O0.le ge_b7
  refine E.astore (q := 41) (l' := #[.val (.ref oa), .val (.ref oc), .val (.int (0 : Int32)), .val (.int (1 : Int32)), .val .null, .val (.ref b7)]) X7 hx (hb hby d4_39) rfl rfl ?_
  refine E.aloadN (q := 42) X7 hx (hb hby d4_41) rfl rfl ?_
  refine E.aload (q := 44) X7 hx (hb hby d4_42) rfl rfl ?_
  refine E.iloadN (q := 45) X7 hx (hb hby d4_44) rfl ?_
  refine Ends.callS X7 hx hZ hown (hw _ (List.mem_of_getElem? (i := 49) rfl)) (hw _ (List.mem_of_getElem? (i := 50) rfl)) (hw _ (List.mem_of_getElem? (i := 44) rfl)) (hw _ (List.mem_of_getElem? (i := 51) rfl)) (by decide) (argsL := [(.ref b7), (.int (1 : Int32))]) (rest := [(.ref oa)]) e7 (rmCL_1 l Z a0 hw b7 _ _ V7 rfl) (W := 1) (by decide) (by decide) (by rw [hml]; rfl) (lenOf pd_2 rfl) (Nat.le_of_eq rfl) (hb hby d4_45) (by decide) (by decide) rfl ?_
  rintro T8 v8 L8 X8 ⟨rfl, e8, rfl⟩
  rw [List.append_nil] at X8
  show Ends none p e below s _ _ _ T8 (mkF m 48 #[.val (.ref oa), .val (.ref oc), .val (.int (0 : Int32)), .val (.int (1 : Int32)), .val .null, .val (.ref b7)] [(.int (0 : Int32)), (.ref oa)])
  have f9 := F_c.keep hO7.1 nin0
  have f10 := E0.keep hO7.1
  refine Ends.putN X8 hx hZ hown (hw _ (List.mem_of_getElem? (i := 31) rfl)) Via.refl e8 f9 f10 (Or.inr ⟨(hw _ (List.mem_of_getElem? (i := 27) rfl)), rfl, hnm⟩) (hw _ (List.mem_of_getElem? (i := 11) rfl)) (ty := .byte) (v' := .int (0 : Int32)) (by decide) rfl (by decide) (hb hby d4_48) ?_
  intro T11 h11 X11 e11 W11 Fw11
  have O11 := O7.wr W11 (Or.inl (List.mem_of_getElem? (i := 0) rfl))
  refine E.aloadN (q := 52) X11 hx (hb hby d4_51) rfl rfl ?_
  refine E.aload (q := 54) X11 hx (hb hby d4_52) rfl rfl ?_
  have f12 := F_v.keep hO7.1 nin0
  have f13 := f12.other W11 (Or.inr (slot_ne (Or.inr (hw _ (List.mem_of_getElem? (i := 26) rfl))) (Or.inr (hw _ (List.mem_of_getElem? (i := 27) rfl))) (by decide) (t := (.array .byte)) (t' := .byte) (by decide) (by decide)))
  have f14 := f10.wr W11
  refine Ends.putF X11 hx hZ hown (host := "") (Or.inl (hw _ (List.mem_of_getElem? (i := 30) rfl))) Via.refl e11 f13 f14 (Or.inr ⟨(hw _ (List.mem_of_getElem? (i := 26) rfl)), rfl, hnm⟩) (hw _ (List.mem_of_getElem? (i := 11) rfl)) (ty := (.array .byte)) (by decide) rfl rfl (hb hby d4_54) ?_
  intro T15 h15 X15 e15 W15 Fw15
  have O15 := O11.wr W15 (Or.inl (List.mem_of_getElem? (i := 0) rfl))
  have f16 := Fw11.other W15 (Or.inr (slot_ne (Or.inr (hw _ (List.mem_of_getElem? (i := 27) rfl))) (Or.inr (hw _ (List.mem_of_getElem? (i := 26) rfl))) (by decide) (t := .byte) (t' := (.array .byte)) (by decide) (by decide)))
  have f17 := V7.other W11 (Ne.symm (Nat.ne_of_lt (Nat.lt_of_lt_of_le E0.lt ge_b7)))
  have f18 := f17.other W15 (Ne.symm (Nat.ne_of_lt (Nat.lt_of_lt_of_le E0.lt ge_b7)))
  subst e15
  exact Ends.retV X15 hx hlk hret (hb hby d4_57) (by decide) (by decide) ⟨rfl, _, gv, O15, Fw15, f16, f18⟩
theorem efI1_1 (m : MethodId) (x0 : Addr) (x1 : Addr) : entryFrame m #[(.ref x0), (.ref x1)] 2 = mkF m 0 #[.val (.ref x0), .val (.ref x1)] [] := by first | (simp [entryFrame, mkF, argsToLocals, Value.category]; done) | rfl
set_option maxRecDepth 65536 in
set_option maxHeartbeats 40000000 in
theorem rmI1_1 (l : Launch) (Z : State) (a0 : Array Value) (hw : ∀ d ∈ tables_1, d.before a0 Z = true) (oa : Addr) (oc : Addr) (c0 : Int32) (h0 : Heap) (hc0 : own_B c0) (E0 : Exa Z h0 oa "java/lang/String") (F_v : Fld Z h0 oa "java/lang/String" "value" "[B" .null) (F_c : Fld Z h0 oa "java/lang/String" "coder" "B" (.int (0 : Int32))) (A_c : Ary Z h0 oc .char [(.int c0)]) (hne : oc ≠ oa) (cs : Int32) (hcs : ¬ cs = (0 : Int32)) (S0 : Sta Z h0 "java/lang/String" "COMPACT_STRINGS" "Z" (.int cs)) :
    Con l (⟨"java/lang/String", "<init>", "([C)V"⟩ : MethodName) jdk_42_method_3_code 2 none [] ({ frames := 3, cells := 1, slots := 1, locals := 72 } : Room) #[(.ref oa), (.ref oc)] Z h0 (fun v h L => v = none ∧ ∃ V, h0.size ≤ V ∧ Ok h0 h [oa] L ∧ Fld Z h oa "java/lang/String" "value" "[B" (.ref V) ∧ Fld Z h oa "java/lang/String" "coder" "B" (.int (0 : Int32)) ∧ Ary Z h V .byte [(.int c0.toInt8.toInt32)]) := by
  refine Con.of (plainFor_of_name pn_1) ?_
  intro p e s m below meth c s₁ hx hZ hby hml hown hnm hret hlk X0 e0
  refine Ends.cast (efI1_1 m oa oc) ?_
  show Ends none p e below s _ _ _ s₁ (mkF m 0 #[.val (.ref oa), .val (.ref oc)] [])
  have O0 := Ok.refl h0 [oa]
  refine E.aloadN (q := 1) X0 hx (hb hby d3_0) rfl rfl ?_
  refine E.aloadN (q := 2) X0 hx (hb hby d3_1) rfl rfl ?_
  refine E.iconst (q := 3) (v := (0 : Int32)) X0 hx (hb hby d3_2) rfl ?_
  refine E.aloadN (q := 4) X0 hx (hb hby d3_3) rfl rfl ?_
  refine Ends.alen X0 hx hZ e0 A_c (hb hby d3_4) (n := (1 : Int32)) rfl ?_
  refine E.aconstNull (q := 6) X0 hx (hb hby d3_5) ?_
  refine Ends.callI X0 hx hZ hown (hw _ (List.mem_of_getElem? (i := 17) rfl)) (hw _ (List.mem_of_getElem? (i := 18) rfl)) (hw _ (List.mem_of_getElem? (i := 12) rfl)) (hw _ (List.mem_of_getElem? (i := 20) rfl)) rfl (by decide) (argsL := [(.ref oc), (.int (0 : Int32)), (.int (1 : Int32)), .null]) (rest := []) e0 (rmI4_1 l Z a0 hw oa oc c0 _ hc0 E0 F_v F_c A_c hne cs hcs S0) (W := 0) (by decide) (by decide) (by rw [hml]; rfl) (lenOf pd_3 rfl) (Nat.le_of_eq rfl) (hb hby d3_6) (by decide) (by decide) rfl ?_
  rintro T19 v19 L19 X19 ⟨rfl, V19, gV19, hO19, a19, b19, d19⟩
  have e19 : T19.heap = T19.heap := rfl
  have O19 := O0.call hO19 (allS (Or.inl (List.mem_of_getElem? (i := 0) rfl)) all0)
  show Ends none p e below s _ _ _ T19 (mkF m 9 #[.val (.ref oa), .val (.ref oc)] [])
  exact Ends.retV X19 hx hlk hret (hb hby d3_9) (by decide) (by decide) ⟨rfl, _, gV19, hO19, a19, b19, d19⟩
theorem efC5_2 (m : MethodId) (x0 : Addr) (x1 : Int32) (x2 : Addr) (x3 : Int32) (x4 : Int32) : entryFrame m #[(.ref x0), (.int x1), (.ref x2), (.int x3), (.int x4)] 7 = mkF m 0 #[.val (.ref x0), .val (.int x1), .val (.ref x2), .val (.int x3), .val (.int x4), .unset, .unset] [] := by first | (simp [entryFrame, mkF, argsToLocals, Value.category]; done) | rfl
set_option maxRecDepth 65536 in
set_option maxHeartbeats 40000000 in
theorem rmC5_2 (l : Launch) (Z : State) (a0 : Array Value) (hw : ∀ d ∈ tables_1, d.before a0 Z = true) (oc : Addr) (od : Addr) (c0 c1 : Int32) (h0 : Heap) (hc0 : own_B c0) (hc1 : own_B c1) (A_c : Ary Z h0 oc .char [(.int c0), (.int c1)]) (A_d : Ary Z h0 od .byte [(.int (0 : Int32)), (.int (0 : Int32))]) (hne : oc ≠ od) :
    Con l (⟨"java/lang/StringUTF16", "compress", "([CI[BII)I"⟩ : MethodName) jdk_52_method_21_code 7 (some .int) [] ({ frames := 0, cells := 0, slots := 0, locals := 0 } : Room) #[(.ref oc), (.int (0 : Int32)), (.ref od), (.int (0 : Int32)), (.int (2 : Int32))] Z h0 (fun v h L => v = some (.int (2 : Int32)) ∧ Ok h0 h [od] L ∧ Ary Z h od .byte [(.int c0.toInt8.toInt32), (.int c1.toInt8.toInt32)]) := by
  refine Con.of (plainFor_of_name pn_0) ?_
  intro p e s m below meth c s₁ hx hZ hby hml hown hnm hret hlk X0 e0
  refine Ends.cast (efC5_2 m oc (0 : Int32) od (0 : Int32) (2 : Int32)) ?_
  show Ends none p e below s _ _ _ s₁ (mkF m 0 #[.val (.ref oc), .val (.int (0 : Int32)), .val (.ref od), .val (.int (0 : Int32)), .val (.int (2 : Int32)), .unset, .unset] [])
  have O0 := Ok.refl h0 [od]
  refine E.iconst (q := 1) (v := (0 : Int32)) X0 hx (hb hby d10_0) rfl ?_
  refine E.istore (q := 3) (l' := #[.val (.ref oc), .val (.int (0 : Int32)), .val (.ref od), .val (.int (0 : Int32)), .val (.int (2 : Int32)), .val (.int (0 : Int32)), .unset]) X0 hx (hb hby d10_1) rfl ?_
  refine E.iload (q := 5) X0 hx (hb hby d10_3) rfl ?_
  refine E.iload (q := 7) X0 hx (hb hby d10_5) rfl ?_
  refine E.icmpN (q := 10) X0 hx (hb hby d10_7) (XT.ii_ge_f (by decide)) ?_
  refine E.aloadN (q := 11) X0 hx (hb hby d10_10) rfl rfl ?_
  refine E.iloadN (q := 12) X0 hx (hb hby d10_11) rfl ?_
  refine Ends.cld X0 hx hZ e0 A_c (i := 0) rfl rfl (hb hby d10_12) ?_
  refine E.istore (q := 15) (l' := #[.val (.ref oc), .val (.int (0 : Int32)), .val (.ref od), .val (.int (0 : Int32)), .val (.int (2 : Int32)), .val (.int (0 : Int32)), .val (.int c0)]) X0 hx (hb hby d10_13) rfl ?_
  refine E.iload (q := 17) X0 hx (hb hby d10_15) rfl ?_
  refine E.sipush (q := 20) (v := (255 : Int32)) X0 hx (hb hby d10_17) rfl ?_
  refine E.icmpY (q := 26) X0 hx (hb hby d10_20) (XT.ii_le_t (own_B_le hc0)) ?_
  refine E.aloadN (q := 27) X0 hx (hb hby d10_26) rfl rfl ?_
  refine E.iloadN (q := 28) X0 hx (hb hby d10_27) rfl ?_
  refine E.iload (q := 30) X0 hx (hb hby d10_28) rfl ?_
  refine E.i2b (q := 31) X0 hx (hb hby d10_30) ?_
  refine Ends.bst X0 hx hZ e0 A_d (x' := (c0.toInt8.toInt32)) (own_nb8 _) (i := 0) rfl (show 0 < 2 from by decide) (hb hby d10_31) ?_
  intro T20 h20 X20 e20 W20 V20
  have V20 : Ary Z h20 od .byte [(.int (c0.toInt8.toInt32)), (.int (0 : Int32))] := V20
  have O20 := O0.wr W20 (Or.inl (List.mem_of_getElem? (i := 0) rfl))
  refine E.iinc (q := 35) (v := (1 : Int32)) (l' := #[.val (.ref oc), .val (.int (1 : Int32)), .val (.ref od), .val (.int (0 : Int32)), .val (.int (2 : Int32)), .val (.int (0 : Int32)), .val (.int c0)]) X20 hx (hb hby d10_32) rfl (by decide) rfl ?_
  refine E.iinc (q := 38) (v := (1 : Int32)) (l' := #[.val (.ref oc), .val (.int (1 : Int32)), .val (.ref od), .val (.int (1 : Int32)), .val (.int (2 : Int32)), .val (.int (0 : Int32)), .val (.int c0)]) X20 hx (hb hby d10_35) rfl (by decide) rfl ?_
  refine E.iinc (q := 41) (v := (1 : Int32)) (l' := #[.val (.ref oc), .val (.int (1 : Int32)), .val (.ref od), .val (.int (1 : Int32)), .val (.int (2 : Int32)), .val (.int (1 : Int32)), .val (.int c0)]) X20 hx (hb hby d10_38) rfl (by decide) rfl ?_
  refine E.goto (q := 3) X20 hx (hb hby d10_41) ?_
  refine E.iload (q := 5) X20 hx (hb hby d10_3) rfl ?_
  refine E.iload (q := 7) X20 hx (hb hby d10_5) rfl ?_
  refine E.icmpN (q := 10) X20 hx (hb hby d10_7) (XT.ii_ge_f (by decide)) ?_
  refine E.aloadN (q := 11) X20 hx (hb hby d10_10) rfl rfl ?_
  refine E.iloadN (q := 12) X20 hx (hb hby d10_11) rfl ?_
  have f21 := A_c.other W20 hne
  refine Ends.cld X20 hx hZ e20 f21 (i := 1) rfl rfl (hb hby d10_12) ?_
  refine E.istore (q := 15) (l' := #[.val (.ref oc), .val (.int (1 : Int32)), .val (.ref od), .val (.int (1 : Int32)), .val (.int (2 : Int32)), .val (.int (1 : Int32)), .val (.int c1)]) X20 hx (hb hby d10_13) rfl ?_
  refine E.iload (q := 17) X20 hx (hb hby d10_15) rfl ?_
  refine E.sipush (q := 20) (v := (255 : Int32)) X20 hx (hb hby d10_17) rfl ?_
  refine E.icmpY (q := 26) X20 hx (hb hby d10_20) (XT.ii_le_t (own_B_le hc1)) ?_
  refine E.aloadN (q := 27) X20 hx (hb hby d10_26) rfl rfl ?_
  refine E.iloadN (q := 28) X20 hx (hb hby d10_27) rfl ?_
  refine E.iload (q := 30) X20 hx (hb hby d10_28) rfl ?_
  refine E.i2b (q := 31) X20 hx (hb hby d10_30) ?_
  refine Ends.bst X20 hx hZ e20 V20 (x' := (c1.toInt8.toInt32)) (own_nb8 _) (i := 1) rfl (show 1 < 2 from by decide) (hb hby d10_31) ?_
  intro T22 h22 X22 e22 W22 V22
  have V22 : Ary Z h22 od .byte [(.int (c0.toInt8.toInt32)), (.int (c1.toInt8.toInt32))] := V22
  have O22 := O20.wr W22 (Or.inl (List.mem_of_getElem? (i := 0) rfl))
  refine E.iinc (q := 35) (v := (2 : Int32)) (l' := #[.val (.ref oc), .val (.int (2 : Int32)), .val (.ref od), .val (.int (1 : Int32)), .val (.int (2 : Int32)), .val (.int (1 : Int32)), .val (.int c1)]) X22 hx (hb hby d10_32) rfl (by decide) rfl ?_
  refine E.iinc (q := 38) (v := (2 : Int32)) (l' := #[.val (.ref oc), .val (.int (2 : Int32)), .val (.ref od), .val (.int (2 : Int32)), .val (.int (2 : Int32)), .val (.int (1 : Int32)), .val (.int c1)]) X22 hx (hb hby d10_35) rfl (by decide) rfl ?_
  refine E.iinc (q := 41) (v := (2 : Int32)) (l' := #[.val (.ref oc), .val (.int (2 : Int32)), .val (.ref od), .val (.int (2 : Int32)), .val (.int (2 : Int32)), .val (.int (2 : Int32)), .val (.int c1)]) X22 hx (hb hby d10_38) rfl (by decide) rfl ?_
  refine E.goto (q := 3) X22 hx (hb hby d10_41) ?_
  refine E.iload (q := 5) X22 hx (hb hby d10_3) rfl ?_
  refine E.iload (q := 7) X22 hx (hb hby d10_5) rfl ?_
  refine E.icmpY (q := 44) X22 hx (hb hby d10_7) (XT.ii_ge_t (by decide)) ?_
  refine E.iload (q := 46) X22 hx (hb hby d10_44) rfl ?_
  subst e22
  exact Ends.retI X22 hx hlk hret (hb hby d10_46) (by decide) (by decide) ⟨rfl, O22, V22⟩
theorem efC3_2 (m : MethodId) (x0 : Addr) (x1 : Int32) (x2 : Int32) : entryFrame m #[(.ref x0), (.int x1), (.int x2)] 6 = mkF m 0 #[.val (.ref x0), .val (.int x1), .val (.int x2), .unset, .unset, .unset] [] := by first | (simp [entryFrame, mkF, argsToLocals, Value.category]; done) | rfl
set_option maxRecDepth 65536 in
set_option maxHeartbeats 40000000 in
theorem rmC3_2 (l : Launch) (Z : State) (a0 : Array Value) (hw : ∀ d ∈ tables_1, d.before a0 Z = true) (oc : Addr) (c0 c1 : Int32) (h0 : Heap) (hc0 : own_B c0) (hc1 : own_B c1) (A_c : Ary Z h0 oc .char [(.int c0), (.int c1)]) :
    Con l (⟨"java/lang/StringUTF16", "compress", "([CII)[B"⟩ : MethodName) jdk_52_method_16_code 6 (some (.array .byte)) [] ({ frames := 1, cells := 1, slots := 2, locals := 24 } : Room) #[(.ref oc), (.int (0 : Int32)), (.int (2 : Int32))] Z h0 (fun v h L => ∃ b, v = some (.ref b) ∧ h0.size ≤ b ∧ Ok h0 h [] L ∧ Ary Z h b .byte [(.int c0.toInt8.toInt32), (.int c1.toInt8.toInt32)]) := by
  refine Con.of (plainFor_of_name pn_0) ?_
  intro p e s m below meth c s₁ hx hZ hby hml hown hnm hret hlk X0 e0
  refine Ends.cast (efC3_2 m oc (0 : Int32) (2 : Int32)) ?_
  show Ends none p e below s _ _ _ s₁ (mkF m 0 #[.val (.ref oc), .val (.int (0 : Int32)), .val (.int (2 : Int32)), .unset, .unset, .unset] [])
  have O0 := Ok.refl h0 []
  refine E.iloadN (q := 1) X0 hx (hb hby d9_0) rfl ?_
  refine Ends.newA X0 hx hZ (hw _ (List.mem_of_getElem? (i := 25) rfl)) e0 (hb hby d9_1) (N := 2) rfl (by decide) (by decide) (by decide) ?_
  intro T23 h23 b23 g23 X23 e23 E23 A23
  have ge_b23 : h0.size ≤ b23 := Nat.le_trans O0.le (Nat.le_of_eq g23.symm)
  have O23 := O0.ext E23
  have V23 : Ary Z h23 b23 .byte [(.int (0 : Int32)), (.int (0 : Int32))] := A23
  refine E.astoreN (q := 4) (l' := #[.val (.ref oc), .val (.int (0 : Int32)), .val (.int (2 : Int32)), .val (.ref b23), .unset, .unset]) X23 hx (hb hby d9_3) rfl rfl ?_
  refine E.aloadN (q := 5) X23 hx (hb hby d9_4) rfl rfl ?_
  refine E.iloadN (q := 6) X23 hx (hb hby d9_5) rfl ?_
  refine E.aloadN (q := 7) X23 hx (hb hby d9_6) rfl rfl ?_
  refine E.iconst (q := 8) (v := (0 : Int32)) X23 hx (hb hby d9_7) rfl ?_
  refine E.iloadN (q := 9) X23 hx (hb hby d9_8) rfl ?_
  have f24 := A_c.ext E23
  refine Ends.callS X23 hx hZ hown (hw _ (List.mem_of_getElem? (i := 46) rfl)) (hw _ (List.mem_of_getElem? (i := 47) rfl)) (hw _ (List.mem_of_getElem? (i := 44) rfl)) (hw _ (List.mem_of_getElem? (i := 48) rfl)) (by decide) (argsL := [(.ref oc), (.int (0 : Int32)), (.ref b23), (.int (0 : Int32)), (.int (2 : Int32))]) (rest := []) e23 (rmC5_2 l Z a0 hw oc b23 c0 c1 _ hc0 hc1 f24 V23 (Nat.ne_of_lt (Nat.lt_of_lt_of_eq A_c.lt g23.symm))) (W := 0) (by decide) (by decide) (by rw [hml]; rfl) (lenOf pd_0 rfl) (Nat.le_of_eq rfl) (hb hby d9_9) (by decide) (by decide) rfl ?_
  rintro T25 v25 L25 X25 ⟨rfl, hO25, V25⟩
  have e25 : T25.heap = T25.heap := rfl
  have O25 := O23.call hO25 (allS (Or.inr ge_b23) all0)
  show Ends none p e below s _ _ _ T25 (mkF m 12 #[.val (.ref oc), .val (.int (0 : Int32)), .val (.int (2 : Int32)), .val (.ref b23), .unset, .unset] [(.int (2 : Int32))])
  refine E.istore (q := 14) (l' := #[.val (.ref oc), .val (.int (0 : Int32)), .val (.int (2 : Int32)), .val (.ref b23), .val (.int (2 : Int32)), .unset]) X25 hx (hb hby d9_12) rfl ?_
  refine E.iload (q := 16) X25 hx (hb hby d9_14) rfl ?_
  refine E.iloadN (q := 17) X25 hx (hb hby d9_16) rfl ?_
  refine E.icmpY (q := 57) X25 hx (hb hby d9_17) (XT.ii_eq_t (by decide)) ?_
  refine E.aloadN (q := 58) X25 hx (hb hby d9_57) rfl rfl ?_
  exact Ends.retA X25 hx hlk hret rfl rfl rfl (hb hby d9_58) (by decide) (by decide) ⟨_, rfl, ge_b23, O25, V25⟩
theorem efCL_2 (m : MethodId) (x0 : Addr) (x1 : Int32) : entryFrame m #[(.ref x0), (.int x1)] 2 = mkF m 0 #[.val (.ref x0), .val (.int x1)] [] := by first | (simp [entryFrame, mkF, argsToLocals, Value.category]; done) | rfl
set_option maxRecDepth 65536 in
set_option maxHeartbeats 40000000 in
theorem rmCL_2 (l : Launch) (Z : State) (a0 : Array Value) (hw : ∀ d ∈ tables_1, d.before a0 Z = true) (od : Addr) (vs : List Value) (h0 : Heap) (A_d : Ary Z h0 od .byte vs) (hl : vs.length = 2) :
    Con l (⟨"java/lang/StringUTF16", "coderFromArrayLen", "([BI)B"⟩ : MethodName) jdk_52_method_15_code 2 (some .byte) [] ({ frames := 0, cells := 0, slots := 0, locals := 0 } : Room) #[(.ref od), (.int (2 : Int32))] Z h0 (fun v h L => v = some (.int (0 : Int32)) ∧ h = h0 ∧ L = []) := by
  refine Con.of (plainFor_of_name pn_0) ?_
  intro p e s m below meth c s₁ hx hZ hby hml hown hnm hret hlk X0 e0
  refine Ends.cast (efCL_2 m od (2 : Int32)) ?_
  show Ends none p e below s _ _ _ s₁ (mkF m 0 #[.val (.ref od), .val (.int (2 : Int32))] [])
  refine E.iloadN (q := 1) X0 hx (hb hby d11_0) rfl ?_
  refine E.aloadN (q := 2) X0 hx (hb hby d11_1) rfl rfl ?_
  refine Ends.alen X0 hx hZ e0 A_d (hb hby d11_2) (n := (2 : Int32)) (by rw [hl]; rfl) ?_
  refine E.isub (q := 4) X0 hx (hb hby d11_3) ?_
  rw [show ((2 : Int32) - (2 : Int32)) = (0 : Int32) from by decide]
  refine E.bipush (q := 6) (v := (31 : Int32)) X0 hx (hb hby d11_4) rfl ?_
  refine E.iushr (q := 7) X0 hx (hb hby d11_6) ?_
  rw [show (((0 : Int32).toUInt32 >>> ((31 : Int32) &&& 31).toUInt32).toInt32) = (0 : Int32) from by decide]
  refine E.i2b (q := 8) X0 hx (hb hby d11_7) ?_
  exact Ends.retS X0 hx hlk hret (by simp) rfl (hb hby d11_8) (by decide) (by decide) ⟨by decide, e0, rfl⟩
theorem efI4_2 (m : MethodId) (x0 : Addr) (x1 : Addr) (x2 : Int32) (x3 : Int32) : entryFrame m #[(.ref x0), (.ref x1), (.int x2), (.int x3), .null] 6 = mkF m 0 #[.val (.ref x0), .val (.ref x1), .val (.int x2), .val (.int x3), .val .null, .unset] [] := by first | (simp [entryFrame, mkF, argsToLocals, Value.category]; done) | rfl
set_option maxRecDepth 65536 in
set_option maxHeartbeats 40000000 in
theorem rmI4_2 (l : Launch) (Z : State) (a0 : Array Value) (hw : ∀ d ∈ tables_1, d.before a0 Z = true) (oa : Addr) (oc : Addr) (c0 c1 : Int32) (h0 : Heap) (hc0 : own_B c0) (hc1 : own_B c1) (E0 : Exa Z h0 oa "java/lang/String") (F_v : Fld Z h0 oa "java/lang/String" "value" "[B" .null) (F_c : Fld Z h0 oa "java/lang/String" "coder" "B" (.int (0 : Int32))) (A_c : Ary Z h0 oc .char [(.int c0), (.int c1)]) (hne : oc ≠ oa) (cs : Int32) (hcs : ¬ cs = (0 : Int32)) (S0 : Sta Z h0 "java/lang/String" "COMPACT_STRINGS" "Z" (.int cs)) :
    Con l (⟨"java/lang/String", "<init>", "([CIILjava/lang/Void;)V"⟩ : MethodName) jdk_42_method_149_code 6 none [] ({ frames := 2, cells := 1, slots := 2, locals := 48 } : Room) #[(.ref oa), (.ref oc), (.int (0 : Int32)), (.int (2 : Int32)), .null] Z h0 (fun v h L => v = none ∧ ∃ V, h0.size ≤ V ∧ Ok h0 h [oa] L ∧ Fld Z h oa "java/lang/String" "value" "[B" (.ref V) ∧ Fld Z h oa "java/lang/String" "coder" "B" (.int (0 : Int32)) ∧ Ary Z h V .byte [(.int c0.toInt8.toInt32), (.int c1.toInt8.toInt32)]) := by
  refine Con.of (plainFor_of_name pn_1) ?_
  intro p e s m below meth c s₁ hx hZ hby hml hown hnm hret hlk X0 e0
  refine Ends.cast (efI4_2 m oa oc (0 : Int32) (2 : Int32)) ?_
  show Ends none p e below s _ _ _ s₁ (mkF m 0 #[.val (.ref oa), .val (.ref oc), .val (.int (0 : Int32)), .val (.int (2 : Int32)), .val .null, .unset] [])
  have O0 := Ok.refl h0 [oa]
  refine E.aloadN (q := 1) X0 hx (hb hby d4_0) rfl rfl ?_
  refine Ends.initO X0 hx hZ hown (hw _ (List.mem_of_getElem? (i := 21) rfl)) (hw _ (List.mem_of_getElem? (i := 22) rfl)) (hw _ (List.mem_of_getElem? (i := 23) rfl)) e0 (by rw [hml]; rfl) (hb hby d4_1) (by decide) (W := 0) (Nat.le_of_eq rfl) (by decide) ?_
  intro T26 X26 e26
  refine E.iloadN (q := 5) X26 hx (hb hby d4_4) rfl ?_
  refine E.ifY (q := 27) X26 hx (hb hby d4_5) (XT.i0_ne_t (by decide)) ?_
  refine Ends.getS X26 hx hZ hown (host := "") (Or.inl (hw _ (List.mem_of_getElem? (i := 41) rfl))) Via.refl e26 (own_sta_keep S0 O0.1 (own_ns E0)) (hb hby d4_27) ?_
  intro T27 X27 e27
  refine E.ifN (q := 33) X27 hx (hb hby d4_30) (XT.i0_eq_f hcs) ?_
  refine E.aloadN (q := 34) X27 hx (hb hby d4_33) rfl rfl ?_
  refine E.iloadN (q := 35) X27 hx (hb hby d4_34) rfl ?_
  refine E.iloadN (q := 36) X27 hx (hb hby d4_35) rfl ?_
  refine Ends.callS X27 hx hZ hown (hw _ (List.mem_of_getElem? (i := 42) rfl)) (hw _ (List.mem_of_getElem? (i := 43) rfl)) (hw _ (List.mem_of_getElem? (i := 44) rfl)) (hw _ (List.mem_of_getElem? (i := 45) rfl)) (by decide) (argsL := [(.ref oc), (.int (0 : Int32)), (.int (2 : Int32))]) (rest := []) e27 (rmC3_2 l Z a0 hw oc c0 c1 _ hc0 hc1 A_c) (W := 0) (by decide) (by decide) (by rw [hml]; rfl) (lenOf pd_1 rfl) (Nat.le_of_eq rfl) (hb hby d4_36) (by decide) (by decide) rfl ?_
  rintro T28 v28 L28 X28 ⟨b28, rfl, ge_b28, hO28, V28⟩
  have e28 : T28.heap = T28.heap := rfl
  have O28 := O0.call hO28 all0
  show Ends none p e below s _ _ _ T28 (mkF m 39 #[.val (.ref oa), .val (.ref oc), .val (.int (0 : Int32)), .val (.int (2 : Int32)), .val .null, .unset] [(.ref b28)])
  have gv : h0.size ≤ b28 := Nat.le_trans O0.le ge_b28
  refine E.astore (q := 41) (l' := #[.val (.ref oa), .val (.ref oc), .val (.int (0 : Int32)), .val (.int (2 : Int32)), .val .null, .val (.ref b28)]) X28 hx (hb hby d4_39) rfl rfl ?_
  refine E.aloadN (q := 42) X28 hx (hb hby d4_41) rfl rfl ?_
  refine E.aload (q := 44) X28 hx (hb hby d4_42) rfl rfl ?_
  refine E.iloadN (q := 45) X28 hx (hb hby d4_44) rfl ?_
  refine Ends.callS X28 hx hZ hown (hw _ (List.mem_of_getElem? (i := 49) rfl)) (hw _ (List.mem_of_getElem? (i := 50) rfl)) (hw _ (List.mem_of_getElem? (i := 44) rfl)) (hw _ (List.mem_of_getElem? (i := 51) rfl)) (by decide) (argsL := [(.ref b28), (.int (2 : Int32))]) (rest := [(.ref oa)]) e28 (rmCL_2 l Z a0 hw b28 _ _ V28 rfl) (W := 1) (by decide) (by decide) (by rw [hml]; rfl) (lenOf pd_2 rfl) (Nat.le_of_eq rfl) (hb hby d4_45) (by decide) (by decide) rfl ?_
  rintro T29 v29 L29 X29 ⟨rfl, e29, rfl⟩
  rw [List.append_nil] at X29
  show Ends none p e below s _ _ _ T29 (mkF m 48 #[.val (.ref oa), .val (.ref oc), .val (.int (0 : Int32)), .val (.int (2 : Int32)), .val .null, .val (.ref b28)] [(.int (0 : Int32)), (.ref oa)])
  have f30 := F_c.keep hO28.1 nin0
  have f31 := E0.keep hO28.1
  refine Ends.putN X29 hx hZ hown (hw _ (List.mem_of_getElem? (i := 31) rfl)) Via.refl e29 f30 f31 (Or.inr ⟨(hw _ (List.mem_of_getElem? (i := 27) rfl)), rfl, hnm⟩) (hw _ (List.mem_of_getElem? (i := 11) rfl)) (ty := .byte) (v' := .int (0 : Int32)) (by decide) rfl (by decide) (hb hby d4_48) ?_
  intro T32 h32 X32 e32 W32 Fw32
  have O32 := O28.wr W32 (Or.inl (List.mem_of_getElem? (i := 0) rfl))
  refine E.aloadN (q := 52) X32 hx (hb hby d4_51) rfl rfl ?_
  refine E.aload (q := 54) X32 hx (hb hby d4_52) rfl rfl ?_
  have f33 := F_v.keep hO28.1 nin0
  have f34 := f33.other W32 (Or.inr (slot_ne (Or.inr (hw _ (List.mem_of_getElem? (i := 26) rfl))) (Or.inr (hw _ (List.mem_of_getElem? (i := 27) rfl))) (by decide) (t := (.array .byte)) (t' := .byte) (by decide) (by decide)))
  have f35 := f31.wr W32
  refine Ends.putF X32 hx hZ hown (host := "") (Or.inl (hw _ (List.mem_of_getElem? (i := 30) rfl))) Via.refl e32 f34 f35 (Or.inr ⟨(hw _ (List.mem_of_getElem? (i := 26) rfl)), rfl, hnm⟩) (hw _ (List.mem_of_getElem? (i := 11) rfl)) (ty := (.array .byte)) (by decide) rfl rfl (hb hby d4_54) ?_
  intro T36 h36 X36 e36 W36 Fw36
  have O36 := O32.wr W36 (Or.inl (List.mem_of_getElem? (i := 0) rfl))
  have f37 := Fw32.other W36 (Or.inr (slot_ne (Or.inr (hw _ (List.mem_of_getElem? (i := 27) rfl))) (Or.inr (hw _ (List.mem_of_getElem? (i := 26) rfl))) (by decide) (t := .byte) (t' := (.array .byte)) (by decide) (by decide)))
  have f38 := V28.other W32 (Ne.symm (Nat.ne_of_lt (Nat.lt_of_lt_of_le E0.lt ge_b28)))
  have f39 := f38.other W36 (Ne.symm (Nat.ne_of_lt (Nat.lt_of_lt_of_le E0.lt ge_b28)))
  subst e36
  exact Ends.retV X36 hx hlk hret (hb hby d4_57) (by decide) (by decide) ⟨rfl, _, gv, O36, Fw36, f37, f39⟩
theorem efI1_2 (m : MethodId) (x0 : Addr) (x1 : Addr) : entryFrame m #[(.ref x0), (.ref x1)] 2 = mkF m 0 #[.val (.ref x0), .val (.ref x1)] [] := by first | (simp [entryFrame, mkF, argsToLocals, Value.category]; done) | rfl
set_option maxRecDepth 65536 in
set_option maxHeartbeats 40000000 in
theorem rmI1_2 (l : Launch) (Z : State) (a0 : Array Value) (hw : ∀ d ∈ tables_1, d.before a0 Z = true) (oa : Addr) (oc : Addr) (c0 c1 : Int32) (h0 : Heap) (hc0 : own_B c0) (hc1 : own_B c1) (E0 : Exa Z h0 oa "java/lang/String") (F_v : Fld Z h0 oa "java/lang/String" "value" "[B" .null) (F_c : Fld Z h0 oa "java/lang/String" "coder" "B" (.int (0 : Int32))) (A_c : Ary Z h0 oc .char [(.int c0), (.int c1)]) (hne : oc ≠ oa) (cs : Int32) (hcs : ¬ cs = (0 : Int32)) (S0 : Sta Z h0 "java/lang/String" "COMPACT_STRINGS" "Z" (.int cs)) :
    Con l (⟨"java/lang/String", "<init>", "([C)V"⟩ : MethodName) jdk_42_method_3_code 2 none [] ({ frames := 3, cells := 1, slots := 2, locals := 72 } : Room) #[(.ref oa), (.ref oc)] Z h0 (fun v h L => v = none ∧ ∃ V, h0.size ≤ V ∧ Ok h0 h [oa] L ∧ Fld Z h oa "java/lang/String" "value" "[B" (.ref V) ∧ Fld Z h oa "java/lang/String" "coder" "B" (.int (0 : Int32)) ∧ Ary Z h V .byte [(.int c0.toInt8.toInt32), (.int c1.toInt8.toInt32)]) := by
  refine Con.of (plainFor_of_name pn_1) ?_
  intro p e s m below meth c s₁ hx hZ hby hml hown hnm hret hlk X0 e0
  refine Ends.cast (efI1_2 m oa oc) ?_
  show Ends none p e below s _ _ _ s₁ (mkF m 0 #[.val (.ref oa), .val (.ref oc)] [])
  have O0 := Ok.refl h0 [oa]
  refine E.aloadN (q := 1) X0 hx (hb hby d3_0) rfl rfl ?_
  refine E.aloadN (q := 2) X0 hx (hb hby d3_1) rfl rfl ?_
  refine E.iconst (q := 3) (v := (0 : Int32)) X0 hx (hb hby d3_2) rfl ?_
  refine E.aloadN (q := 4) X0 hx (hb hby d3_3) rfl rfl ?_
  refine Ends.alen X0 hx hZ e0 A_c (hb hby d3_4) (n := (2 : Int32)) rfl ?_
  refine E.aconstNull (q := 6) X0 hx (hb hby d3_5) ?_
  refine Ends.callI X0 hx hZ hown (hw _ (List.mem_of_getElem? (i := 17) rfl)) (hw _ (List.mem_of_getElem? (i := 18) rfl)) (hw _ (List.mem_of_getElem? (i := 12) rfl)) (hw _ (List.mem_of_getElem? (i := 20) rfl)) rfl (by decide) (argsL := [(.ref oc), (.int (0 : Int32)), (.int (2 : Int32)), .null]) (rest := []) e0 (rmI4_2 l Z a0 hw oa oc c0 c1 _ hc0 hc1 E0 F_v F_c A_c hne cs hcs S0) (W := 0) (by decide) (by decide) (by rw [hml]; rfl) (lenOf pd_3 rfl) (Nat.le_of_eq rfl) (hb hby d3_6) (by decide) (by decide) rfl ?_
  rintro T40 v40 L40 X40 ⟨rfl, V40, gV40, hO40, a40, b40, d40⟩
  have e40 : T40.heap = T40.heap := rfl
  have O40 := O0.call hO40 (allS (Or.inl (List.mem_of_getElem? (i := 0) rfl)) all0)
  show Ends none p e below s _ _ _ T40 (mkF m 9 #[.val (.ref oa), .val (.ref oc)] [])
  exact Ends.retV X40 hx hlk hret (hb hby d3_9) (by decide) (by decide) ⟨rfl, _, gV40, hO40, a40, b40, d40⟩
theorem efC5_3 (m : MethodId) (x0 : Addr) (x1 : Int32) (x2 : Addr) (x3 : Int32) (x4 : Int32) : entryFrame m #[(.ref x0), (.int x1), (.ref x2), (.int x3), (.int x4)] 7 = mkF m 0 #[.val (.ref x0), .val (.int x1), .val (.ref x2), .val (.int x3), .val (.int x4), .unset, .unset] [] := by first | (simp [entryFrame, mkF, argsToLocals, Value.category]; done) | rfl
set_option maxRecDepth 65536 in
set_option maxHeartbeats 40000000 in
theorem rmC5_3 (l : Launch) (Z : State) (a0 : Array Value) (hw : ∀ d ∈ tables_1, d.before a0 Z = true) (oc : Addr) (od : Addr) (c0 c1 c2 : Int32) (h0 : Heap) (hc0 : own_B c0) (hc1 : own_B c1) (hc2 : own_B c2) (A_c : Ary Z h0 oc .char [(.int c0), (.int c1), (.int c2)]) (A_d : Ary Z h0 od .byte [(.int (0 : Int32)), (.int (0 : Int32)), (.int (0 : Int32))]) (hne : oc ≠ od) :
    Con l (⟨"java/lang/StringUTF16", "compress", "([CI[BII)I"⟩ : MethodName) jdk_52_method_21_code 7 (some .int) [] ({ frames := 0, cells := 0, slots := 0, locals := 0 } : Room) #[(.ref oc), (.int (0 : Int32)), (.ref od), (.int (0 : Int32)), (.int (3 : Int32))] Z h0 (fun v h L => v = some (.int (3 : Int32)) ∧ Ok h0 h [od] L ∧ Ary Z h od .byte [(.int c0.toInt8.toInt32), (.int c1.toInt8.toInt32), (.int c2.toInt8.toInt32)]) := by
  refine Con.of (plainFor_of_name pn_0) ?_
  intro p e s m below meth c s₁ hx hZ hby hml hown hnm hret hlk X0 e0
  refine Ends.cast (efC5_3 m oc (0 : Int32) od (0 : Int32) (3 : Int32)) ?_
  show Ends none p e below s _ _ _ s₁ (mkF m 0 #[.val (.ref oc), .val (.int (0 : Int32)), .val (.ref od), .val (.int (0 : Int32)), .val (.int (3 : Int32)), .unset, .unset] [])
  have O0 := Ok.refl h0 [od]
  refine E.iconst (q := 1) (v := (0 : Int32)) X0 hx (hb hby d10_0) rfl ?_
  refine E.istore (q := 3) (l' := #[.val (.ref oc), .val (.int (0 : Int32)), .val (.ref od), .val (.int (0 : Int32)), .val (.int (3 : Int32)), .val (.int (0 : Int32)), .unset]) X0 hx (hb hby d10_1) rfl ?_
  refine E.iload (q := 5) X0 hx (hb hby d10_3) rfl ?_
  refine E.iload (q := 7) X0 hx (hb hby d10_5) rfl ?_
  refine E.icmpN (q := 10) X0 hx (hb hby d10_7) (XT.ii_ge_f (by decide)) ?_
  refine E.aloadN (q := 11) X0 hx (hb hby d10_10) rfl rfl ?_
  refine E.iloadN (q := 12) X0 hx (hb hby d10_11) rfl ?_
  refine Ends.cld X0 hx hZ e0 A_c (i := 0) rfl rfl (hb hby d10_12) ?_
  refine E.istore (q := 15) (l' := #[.val (.ref oc), .val (.int (0 : Int32)), .val (.ref od), .val (.int (0 : Int32)), .val (.int (3 : Int32)), .val (.int (0 : Int32)), .val (.int c0)]) X0 hx (hb hby d10_13) rfl ?_
  refine E.iload (q := 17) X0 hx (hb hby d10_15) rfl ?_
  refine E.sipush (q := 20) (v := (255 : Int32)) X0 hx (hb hby d10_17) rfl ?_
  refine E.icmpY (q := 26) X0 hx (hb hby d10_20) (XT.ii_le_t (own_B_le hc0)) ?_
  refine E.aloadN (q := 27) X0 hx (hb hby d10_26) rfl rfl ?_
  refine E.iloadN (q := 28) X0 hx (hb hby d10_27) rfl ?_
  refine E.iload (q := 30) X0 hx (hb hby d10_28) rfl ?_
  refine E.i2b (q := 31) X0 hx (hb hby d10_30) ?_
  refine Ends.bst X0 hx hZ e0 A_d (x' := (c0.toInt8.toInt32)) (own_nb8 _) (i := 0) rfl (show 0 < 3 from by decide) (hb hby d10_31) ?_
  intro T41 h41 X41 e41 W41 V41
  have V41 : Ary Z h41 od .byte [(.int (c0.toInt8.toInt32)), (.int (0 : Int32)), (.int (0 : Int32))] := V41
  have O41 := O0.wr W41 (Or.inl (List.mem_of_getElem? (i := 0) rfl))
  refine E.iinc (q := 35) (v := (1 : Int32)) (l' := #[.val (.ref oc), .val (.int (1 : Int32)), .val (.ref od), .val (.int (0 : Int32)), .val (.int (3 : Int32)), .val (.int (0 : Int32)), .val (.int c0)]) X41 hx (hb hby d10_32) rfl (by decide) rfl ?_
  refine E.iinc (q := 38) (v := (1 : Int32)) (l' := #[.val (.ref oc), .val (.int (1 : Int32)), .val (.ref od), .val (.int (1 : Int32)), .val (.int (3 : Int32)), .val (.int (0 : Int32)), .val (.int c0)]) X41 hx (hb hby d10_35) rfl (by decide) rfl ?_
  refine E.iinc (q := 41) (v := (1 : Int32)) (l' := #[.val (.ref oc), .val (.int (1 : Int32)), .val (.ref od), .val (.int (1 : Int32)), .val (.int (3 : Int32)), .val (.int (1 : Int32)), .val (.int c0)]) X41 hx (hb hby d10_38) rfl (by decide) rfl ?_
  refine E.goto (q := 3) X41 hx (hb hby d10_41) ?_
  refine E.iload (q := 5) X41 hx (hb hby d10_3) rfl ?_
  refine E.iload (q := 7) X41 hx (hb hby d10_5) rfl ?_
  refine E.icmpN (q := 10) X41 hx (hb hby d10_7) (XT.ii_ge_f (by decide)) ?_
  refine E.aloadN (q := 11) X41 hx (hb hby d10_10) rfl rfl ?_
  refine E.iloadN (q := 12) X41 hx (hb hby d10_11) rfl ?_
  have f42 := A_c.other W41 hne
  refine Ends.cld X41 hx hZ e41 f42 (i := 1) rfl rfl (hb hby d10_12) ?_
  refine E.istore (q := 15) (l' := #[.val (.ref oc), .val (.int (1 : Int32)), .val (.ref od), .val (.int (1 : Int32)), .val (.int (3 : Int32)), .val (.int (1 : Int32)), .val (.int c1)]) X41 hx (hb hby d10_13) rfl ?_
  refine E.iload (q := 17) X41 hx (hb hby d10_15) rfl ?_
  refine E.sipush (q := 20) (v := (255 : Int32)) X41 hx (hb hby d10_17) rfl ?_
  refine E.icmpY (q := 26) X41 hx (hb hby d10_20) (XT.ii_le_t (own_B_le hc1)) ?_
  refine E.aloadN (q := 27) X41 hx (hb hby d10_26) rfl rfl ?_
  refine E.iloadN (q := 28) X41 hx (hb hby d10_27) rfl ?_
  refine E.iload (q := 30) X41 hx (hb hby d10_28) rfl ?_
  refine E.i2b (q := 31) X41 hx (hb hby d10_30) ?_
  refine Ends.bst X41 hx hZ e41 V41 (x' := (c1.toInt8.toInt32)) (own_nb8 _) (i := 1) rfl (show 1 < 3 from by decide) (hb hby d10_31) ?_
  intro T43 h43 X43 e43 W43 V43
  have V43 : Ary Z h43 od .byte [(.int (c0.toInt8.toInt32)), (.int (c1.toInt8.toInt32)), (.int (0 : Int32))] := V43
  have O43 := O41.wr W43 (Or.inl (List.mem_of_getElem? (i := 0) rfl))
  refine E.iinc (q := 35) (v := (2 : Int32)) (l' := #[.val (.ref oc), .val (.int (2 : Int32)), .val (.ref od), .val (.int (1 : Int32)), .val (.int (3 : Int32)), .val (.int (1 : Int32)), .val (.int c1)]) X43 hx (hb hby d10_32) rfl (by decide) rfl ?_
  refine E.iinc (q := 38) (v := (2 : Int32)) (l' := #[.val (.ref oc), .val (.int (2 : Int32)), .val (.ref od), .val (.int (2 : Int32)), .val (.int (3 : Int32)), .val (.int (1 : Int32)), .val (.int c1)]) X43 hx (hb hby d10_35) rfl (by decide) rfl ?_
  refine E.iinc (q := 41) (v := (2 : Int32)) (l' := #[.val (.ref oc), .val (.int (2 : Int32)), .val (.ref od), .val (.int (2 : Int32)), .val (.int (3 : Int32)), .val (.int (2 : Int32)), .val (.int c1)]) X43 hx (hb hby d10_38) rfl (by decide) rfl ?_
  refine E.goto (q := 3) X43 hx (hb hby d10_41) ?_
  refine E.iload (q := 5) X43 hx (hb hby d10_3) rfl ?_
  refine E.iload (q := 7) X43 hx (hb hby d10_5) rfl ?_
  refine E.icmpN (q := 10) X43 hx (hb hby d10_7) (XT.ii_ge_f (by decide)) ?_
  refine E.aloadN (q := 11) X43 hx (hb hby d10_10) rfl rfl ?_
  refine E.iloadN (q := 12) X43 hx (hb hby d10_11) rfl ?_
  have f44 := f42.other W43 hne
  refine Ends.cld X43 hx hZ e43 f44 (i := 2) rfl rfl (hb hby d10_12) ?_
  refine E.istore (q := 15) (l' := #[.val (.ref oc), .val (.int (2 : Int32)), .val (.ref od), .val (.int (2 : Int32)), .val (.int (3 : Int32)), .val (.int (2 : Int32)), .val (.int c2)]) X43 hx (hb hby d10_13) rfl ?_
  refine E.iload (q := 17) X43 hx (hb hby d10_15) rfl ?_
  refine E.sipush (q := 20) (v := (255 : Int32)) X43 hx (hb hby d10_17) rfl ?_
  refine E.icmpY (q := 26) X43 hx (hb hby d10_20) (XT.ii_le_t (own_B_le hc2)) ?_
  refine E.aloadN (q := 27) X43 hx (hb hby d10_26) rfl rfl ?_
  refine E.iloadN (q := 28) X43 hx (hb hby d10_27) rfl ?_
  refine E.iload (q := 30) X43 hx (hb hby d10_28) rfl ?_
  refine E.i2b (q := 31) X43 hx (hb hby d10_30) ?_
  refine Ends.bst X43 hx hZ e43 V43 (x' := (c2.toInt8.toInt32)) (own_nb8 _) (i := 2) rfl (show 2 < 3 from by decide) (hb hby d10_31) ?_
  intro T45 h45 X45 e45 W45 V45
  have V45 : Ary Z h45 od .byte [(.int (c0.toInt8.toInt32)), (.int (c1.toInt8.toInt32)), (.int (c2.toInt8.toInt32))] := V45
  have O45 := O43.wr W45 (Or.inl (List.mem_of_getElem? (i := 0) rfl))
  refine E.iinc (q := 35) (v := (3 : Int32)) (l' := #[.val (.ref oc), .val (.int (3 : Int32)), .val (.ref od), .val (.int (2 : Int32)), .val (.int (3 : Int32)), .val (.int (2 : Int32)), .val (.int c2)]) X45 hx (hb hby d10_32) rfl (by decide) rfl ?_
  refine E.iinc (q := 38) (v := (3 : Int32)) (l' := #[.val (.ref oc), .val (.int (3 : Int32)), .val (.ref od), .val (.int (3 : Int32)), .val (.int (3 : Int32)), .val (.int (2 : Int32)), .val (.int c2)]) X45 hx (hb hby d10_35) rfl (by decide) rfl ?_
  refine E.iinc (q := 41) (v := (3 : Int32)) (l' := #[.val (.ref oc), .val (.int (3 : Int32)), .val (.ref od), .val (.int (3 : Int32)), .val (.int (3 : Int32)), .val (.int (3 : Int32)), .val (.int c2)]) X45 hx (hb hby d10_38) rfl (by decide) rfl ?_
  refine E.goto (q := 3) X45 hx (hb hby d10_41) ?_
  refine E.iload (q := 5) X45 hx (hb hby d10_3) rfl ?_
  refine E.iload (q := 7) X45 hx (hb hby d10_5) rfl ?_
  refine E.icmpY (q := 44) X45 hx (hb hby d10_7) (XT.ii_ge_t (by decide)) ?_
  refine E.iload (q := 46) X45 hx (hb hby d10_44) rfl ?_
  subst e45
  exact Ends.retI X45 hx hlk hret (hb hby d10_46) (by decide) (by decide) ⟨rfl, O45, V45⟩
theorem efC3_3 (m : MethodId) (x0 : Addr) (x1 : Int32) (x2 : Int32) : entryFrame m #[(.ref x0), (.int x1), (.int x2)] 6 = mkF m 0 #[.val (.ref x0), .val (.int x1), .val (.int x2), .unset, .unset, .unset] [] := by first | (simp [entryFrame, mkF, argsToLocals, Value.category]; done) | rfl
set_option maxRecDepth 65536 in
set_option maxHeartbeats 40000000 in
theorem rmC3_3 (l : Launch) (Z : State) (a0 : Array Value) (hw : ∀ d ∈ tables_1, d.before a0 Z = true) (oc : Addr) (c0 c1 c2 : Int32) (h0 : Heap) (hc0 : own_B c0) (hc1 : own_B c1) (hc2 : own_B c2) (A_c : Ary Z h0 oc .char [(.int c0), (.int c1), (.int c2)]) :
    Con l (⟨"java/lang/StringUTF16", "compress", "([CII)[B"⟩ : MethodName) jdk_52_method_16_code 6 (some (.array .byte)) [] ({ frames := 1, cells := 1, slots := 3, locals := 24 } : Room) #[(.ref oc), (.int (0 : Int32)), (.int (3 : Int32))] Z h0 (fun v h L => ∃ b, v = some (.ref b) ∧ h0.size ≤ b ∧ Ok h0 h [] L ∧ Ary Z h b .byte [(.int c0.toInt8.toInt32), (.int c1.toInt8.toInt32), (.int c2.toInt8.toInt32)]) := by
  refine Con.of (plainFor_of_name pn_0) ?_
  intro p e s m below meth c s₁ hx hZ hby hml hown hnm hret hlk X0 e0
  refine Ends.cast (efC3_3 m oc (0 : Int32) (3 : Int32)) ?_
  show Ends none p e below s _ _ _ s₁ (mkF m 0 #[.val (.ref oc), .val (.int (0 : Int32)), .val (.int (3 : Int32)), .unset, .unset, .unset] [])
  have O0 := Ok.refl h0 []
  refine E.iloadN (q := 1) X0 hx (hb hby d9_0) rfl ?_
  refine Ends.newA X0 hx hZ (hw _ (List.mem_of_getElem? (i := 25) rfl)) e0 (hb hby d9_1) (N := 3) rfl (by decide) (by decide) (by decide) ?_
  intro T46 h46 b46 g46 X46 e46 E46 A46
  have ge_b46 : h0.size ≤ b46 := Nat.le_trans O0.le (Nat.le_of_eq g46.symm)
  have O46 := O0.ext E46
  have V46 : Ary Z h46 b46 .byte [(.int (0 : Int32)), (.int (0 : Int32)), (.int (0 : Int32))] := A46
  refine E.astoreN (q := 4) (l' := #[.val (.ref oc), .val (.int (0 : Int32)), .val (.int (3 : Int32)), .val (.ref b46), .unset, .unset]) X46 hx (hb hby d9_3) rfl rfl ?_
  refine E.aloadN (q := 5) X46 hx (hb hby d9_4) rfl rfl ?_
  refine E.iloadN (q := 6) X46 hx (hb hby d9_5) rfl ?_
  refine E.aloadN (q := 7) X46 hx (hb hby d9_6) rfl rfl ?_
  refine E.iconst (q := 8) (v := (0 : Int32)) X46 hx (hb hby d9_7) rfl ?_
  refine E.iloadN (q := 9) X46 hx (hb hby d9_8) rfl ?_
  have f47 := A_c.ext E46
  refine Ends.callS X46 hx hZ hown (hw _ (List.mem_of_getElem? (i := 46) rfl)) (hw _ (List.mem_of_getElem? (i := 47) rfl)) (hw _ (List.mem_of_getElem? (i := 44) rfl)) (hw _ (List.mem_of_getElem? (i := 48) rfl)) (by decide) (argsL := [(.ref oc), (.int (0 : Int32)), (.ref b46), (.int (0 : Int32)), (.int (3 : Int32))]) (rest := []) e46 (rmC5_3 l Z a0 hw oc b46 c0 c1 c2 _ hc0 hc1 hc2 f47 V46 (Nat.ne_of_lt (Nat.lt_of_lt_of_eq A_c.lt g46.symm))) (W := 0) (by decide) (by decide) (by rw [hml]; rfl) (lenOf pd_0 rfl) (Nat.le_of_eq rfl) (hb hby d9_9) (by decide) (by decide) rfl ?_
  rintro T48 v48 L48 X48 ⟨rfl, hO48, V48⟩
  have e48 : T48.heap = T48.heap := rfl
  have O48 := O46.call hO48 (allS (Or.inr ge_b46) all0)
  show Ends none p e below s _ _ _ T48 (mkF m 12 #[.val (.ref oc), .val (.int (0 : Int32)), .val (.int (3 : Int32)), .val (.ref b46), .unset, .unset] [(.int (3 : Int32))])
  refine E.istore (q := 14) (l' := #[.val (.ref oc), .val (.int (0 : Int32)), .val (.int (3 : Int32)), .val (.ref b46), .val (.int (3 : Int32)), .unset]) X48 hx (hb hby d9_12) rfl ?_
  refine E.iload (q := 16) X48 hx (hb hby d9_14) rfl ?_
  refine E.iloadN (q := 17) X48 hx (hb hby d9_16) rfl ?_
  refine E.icmpY (q := 57) X48 hx (hb hby d9_17) (XT.ii_eq_t (by decide)) ?_
  refine E.aloadN (q := 58) X48 hx (hb hby d9_57) rfl rfl ?_
  exact Ends.retA X48 hx hlk hret rfl rfl rfl (hb hby d9_58) (by decide) (by decide) ⟨_, rfl, ge_b46, O48, V48⟩
theorem efCL_3 (m : MethodId) (x0 : Addr) (x1 : Int32) : entryFrame m #[(.ref x0), (.int x1)] 2 = mkF m 0 #[.val (.ref x0), .val (.int x1)] [] := by first | (simp [entryFrame, mkF, argsToLocals, Value.category]; done) | rfl
set_option maxRecDepth 65536 in
set_option maxHeartbeats 40000000 in
theorem rmCL_3 (l : Launch) (Z : State) (a0 : Array Value) (hw : ∀ d ∈ tables_1, d.before a0 Z = true) (od : Addr) (vs : List Value) (h0 : Heap) (A_d : Ary Z h0 od .byte vs) (hl : vs.length = 3) :
    Con l (⟨"java/lang/StringUTF16", "coderFromArrayLen", "([BI)B"⟩ : MethodName) jdk_52_method_15_code 2 (some .byte) [] ({ frames := 0, cells := 0, slots := 0, locals := 0 } : Room) #[(.ref od), (.int (3 : Int32))] Z h0 (fun v h L => v = some (.int (0 : Int32)) ∧ h = h0 ∧ L = []) := by
  refine Con.of (plainFor_of_name pn_0) ?_
  intro p e s m below meth c s₁ hx hZ hby hml hown hnm hret hlk X0 e0
  refine Ends.cast (efCL_3 m od (3 : Int32)) ?_
  show Ends none p e below s _ _ _ s₁ (mkF m 0 #[.val (.ref od), .val (.int (3 : Int32))] [])
  refine E.iloadN (q := 1) X0 hx (hb hby d11_0) rfl ?_
  refine E.aloadN (q := 2) X0 hx (hb hby d11_1) rfl rfl ?_
  refine Ends.alen X0 hx hZ e0 A_d (hb hby d11_2) (n := (3 : Int32)) (by rw [hl]; rfl) ?_
  refine E.isub (q := 4) X0 hx (hb hby d11_3) ?_
  rw [show ((3 : Int32) - (3 : Int32)) = (0 : Int32) from by decide]
  refine E.bipush (q := 6) (v := (31 : Int32)) X0 hx (hb hby d11_4) rfl ?_
  refine E.iushr (q := 7) X0 hx (hb hby d11_6) ?_
  rw [show (((0 : Int32).toUInt32 >>> ((31 : Int32) &&& 31).toUInt32).toInt32) = (0 : Int32) from by decide]
  refine E.i2b (q := 8) X0 hx (hb hby d11_7) ?_
  exact Ends.retS X0 hx hlk hret (by simp) rfl (hb hby d11_8) (by decide) (by decide) ⟨by decide, e0, rfl⟩
theorem efI4_3 (m : MethodId) (x0 : Addr) (x1 : Addr) (x2 : Int32) (x3 : Int32) : entryFrame m #[(.ref x0), (.ref x1), (.int x2), (.int x3), .null] 6 = mkF m 0 #[.val (.ref x0), .val (.ref x1), .val (.int x2), .val (.int x3), .val .null, .unset] [] := by first | (simp [entryFrame, mkF, argsToLocals, Value.category]; done) | rfl
set_option maxRecDepth 65536 in
set_option maxHeartbeats 40000000 in
theorem rmI4_3 (l : Launch) (Z : State) (a0 : Array Value) (hw : ∀ d ∈ tables_1, d.before a0 Z = true) (oa : Addr) (oc : Addr) (c0 c1 c2 : Int32) (h0 : Heap) (hc0 : own_B c0) (hc1 : own_B c1) (hc2 : own_B c2) (E0 : Exa Z h0 oa "java/lang/String") (F_v : Fld Z h0 oa "java/lang/String" "value" "[B" .null) (F_c : Fld Z h0 oa "java/lang/String" "coder" "B" (.int (0 : Int32))) (A_c : Ary Z h0 oc .char [(.int c0), (.int c1), (.int c2)]) (hne : oc ≠ oa) (cs : Int32) (hcs : ¬ cs = (0 : Int32)) (S0 : Sta Z h0 "java/lang/String" "COMPACT_STRINGS" "Z" (.int cs)) :
    Con l (⟨"java/lang/String", "<init>", "([CIILjava/lang/Void;)V"⟩ : MethodName) jdk_42_method_149_code 6 none [] ({ frames := 2, cells := 1, slots := 3, locals := 48 } : Room) #[(.ref oa), (.ref oc), (.int (0 : Int32)), (.int (3 : Int32)), .null] Z h0 (fun v h L => v = none ∧ ∃ V, h0.size ≤ V ∧ Ok h0 h [oa] L ∧ Fld Z h oa "java/lang/String" "value" "[B" (.ref V) ∧ Fld Z h oa "java/lang/String" "coder" "B" (.int (0 : Int32)) ∧ Ary Z h V .byte [(.int c0.toInt8.toInt32), (.int c1.toInt8.toInt32), (.int c2.toInt8.toInt32)]) := by
  refine Con.of (plainFor_of_name pn_1) ?_
  intro p e s m below meth c s₁ hx hZ hby hml hown hnm hret hlk X0 e0
  refine Ends.cast (efI4_3 m oa oc (0 : Int32) (3 : Int32)) ?_
  show Ends none p e below s _ _ _ s₁ (mkF m 0 #[.val (.ref oa), .val (.ref oc), .val (.int (0 : Int32)), .val (.int (3 : Int32)), .val .null, .unset] [])
  have O0 := Ok.refl h0 [oa]
  refine E.aloadN (q := 1) X0 hx (hb hby d4_0) rfl rfl ?_
  refine Ends.initO X0 hx hZ hown (hw _ (List.mem_of_getElem? (i := 21) rfl)) (hw _ (List.mem_of_getElem? (i := 22) rfl)) (hw _ (List.mem_of_getElem? (i := 23) rfl)) e0 (by rw [hml]; rfl) (hb hby d4_1) (by decide) (W := 0) (Nat.le_of_eq rfl) (by decide) ?_
  intro T49 X49 e49
  refine E.iloadN (q := 5) X49 hx (hb hby d4_4) rfl ?_
  refine E.ifY (q := 27) X49 hx (hb hby d4_5) (XT.i0_ne_t (by decide)) ?_
  refine Ends.getS X49 hx hZ hown (host := "") (Or.inl (hw _ (List.mem_of_getElem? (i := 41) rfl))) Via.refl e49 (own_sta_keep S0 O0.1 (own_ns E0)) (hb hby d4_27) ?_
  intro T50 X50 e50
  refine E.ifN (q := 33) X50 hx (hb hby d4_30) (XT.i0_eq_f hcs) ?_
  refine E.aloadN (q := 34) X50 hx (hb hby d4_33) rfl rfl ?_
  refine E.iloadN (q := 35) X50 hx (hb hby d4_34) rfl ?_
  refine E.iloadN (q := 36) X50 hx (hb hby d4_35) rfl ?_
  refine Ends.callS X50 hx hZ hown (hw _ (List.mem_of_getElem? (i := 42) rfl)) (hw _ (List.mem_of_getElem? (i := 43) rfl)) (hw _ (List.mem_of_getElem? (i := 44) rfl)) (hw _ (List.mem_of_getElem? (i := 45) rfl)) (by decide) (argsL := [(.ref oc), (.int (0 : Int32)), (.int (3 : Int32))]) (rest := []) e50 (rmC3_3 l Z a0 hw oc c0 c1 c2 _ hc0 hc1 hc2 A_c) (W := 0) (by decide) (by decide) (by rw [hml]; rfl) (lenOf pd_1 rfl) (Nat.le_of_eq rfl) (hb hby d4_36) (by decide) (by decide) rfl ?_
  rintro T51 v51 L51 X51 ⟨b51, rfl, ge_b51, hO51, V51⟩
  have e51 : T51.heap = T51.heap := rfl
  have O51 := O0.call hO51 all0
  show Ends none p e below s _ _ _ T51 (mkF m 39 #[.val (.ref oa), .val (.ref oc), .val (.int (0 : Int32)), .val (.int (3 : Int32)), .val .null, .unset] [(.ref b51)])
  have gv : h0.size ≤ b51 := Nat.le_trans O0.le ge_b51
  refine E.astore (q := 41) (l' := #[.val (.ref oa), .val (.ref oc), .val (.int (0 : Int32)), .val (.int (3 : Int32)), .val .null, .val (.ref b51)]) X51 hx (hb hby d4_39) rfl rfl ?_
  refine E.aloadN (q := 42) X51 hx (hb hby d4_41) rfl rfl ?_
  refine E.aload (q := 44) X51 hx (hb hby d4_42) rfl rfl ?_
  refine E.iloadN (q := 45) X51 hx (hb hby d4_44) rfl ?_
  refine Ends.callS X51 hx hZ hown (hw _ (List.mem_of_getElem? (i := 49) rfl)) (hw _ (List.mem_of_getElem? (i := 50) rfl)) (hw _ (List.mem_of_getElem? (i := 44) rfl)) (hw _ (List.mem_of_getElem? (i := 51) rfl)) (by decide) (argsL := [(.ref b51), (.int (3 : Int32))]) (rest := [(.ref oa)]) e51 (rmCL_3 l Z a0 hw b51 _ _ V51 rfl) (W := 1) (by decide) (by decide) (by rw [hml]; rfl) (lenOf pd_2 rfl) (Nat.le_of_eq rfl) (hb hby d4_45) (by decide) (by decide) rfl ?_
  rintro T52 v52 L52 X52 ⟨rfl, e52, rfl⟩
  rw [List.append_nil] at X52
  show Ends none p e below s _ _ _ T52 (mkF m 48 #[.val (.ref oa), .val (.ref oc), .val (.int (0 : Int32)), .val (.int (3 : Int32)), .val .null, .val (.ref b51)] [(.int (0 : Int32)), (.ref oa)])
  have f53 := F_c.keep hO51.1 nin0
  have f54 := E0.keep hO51.1
  refine Ends.putN X52 hx hZ hown (hw _ (List.mem_of_getElem? (i := 31) rfl)) Via.refl e52 f53 f54 (Or.inr ⟨(hw _ (List.mem_of_getElem? (i := 27) rfl)), rfl, hnm⟩) (hw _ (List.mem_of_getElem? (i := 11) rfl)) (ty := .byte) (v' := .int (0 : Int32)) (by decide) rfl (by decide) (hb hby d4_48) ?_
  intro T55 h55 X55 e55 W55 Fw55
  have O55 := O51.wr W55 (Or.inl (List.mem_of_getElem? (i := 0) rfl))
  refine E.aloadN (q := 52) X55 hx (hb hby d4_51) rfl rfl ?_
  refine E.aload (q := 54) X55 hx (hb hby d4_52) rfl rfl ?_
  have f56 := F_v.keep hO51.1 nin0
  have f57 := f56.other W55 (Or.inr (slot_ne (Or.inr (hw _ (List.mem_of_getElem? (i := 26) rfl))) (Or.inr (hw _ (List.mem_of_getElem? (i := 27) rfl))) (by decide) (t := (.array .byte)) (t' := .byte) (by decide) (by decide)))
  have f58 := f54.wr W55
  refine Ends.putF X55 hx hZ hown (host := "") (Or.inl (hw _ (List.mem_of_getElem? (i := 30) rfl))) Via.refl e55 f57 f58 (Or.inr ⟨(hw _ (List.mem_of_getElem? (i := 26) rfl)), rfl, hnm⟩) (hw _ (List.mem_of_getElem? (i := 11) rfl)) (ty := (.array .byte)) (by decide) rfl rfl (hb hby d4_54) ?_
  intro T59 h59 X59 e59 W59 Fw59
  have O59 := O55.wr W59 (Or.inl (List.mem_of_getElem? (i := 0) rfl))
  have f60 := Fw55.other W59 (Or.inr (slot_ne (Or.inr (hw _ (List.mem_of_getElem? (i := 27) rfl))) (Or.inr (hw _ (List.mem_of_getElem? (i := 26) rfl))) (by decide) (t := .byte) (t' := (.array .byte)) (by decide) (by decide)))
  have f61 := V51.other W55 (Ne.symm (Nat.ne_of_lt (Nat.lt_of_lt_of_le E0.lt ge_b51)))
  have f62 := f61.other W59 (Ne.symm (Nat.ne_of_lt (Nat.lt_of_lt_of_le E0.lt ge_b51)))
  subst e59
  exact Ends.retV X59 hx hlk hret (hb hby d4_57) (by decide) (by decide) ⟨rfl, _, gv, O59, Fw59, f60, f62⟩
theorem efI1_3 (m : MethodId) (x0 : Addr) (x1 : Addr) : entryFrame m #[(.ref x0), (.ref x1)] 2 = mkF m 0 #[.val (.ref x0), .val (.ref x1)] [] := by first | (simp [entryFrame, mkF, argsToLocals, Value.category]; done) | rfl
set_option maxRecDepth 65536 in
set_option maxHeartbeats 40000000 in
theorem rmI1_3 (l : Launch) (Z : State) (a0 : Array Value) (hw : ∀ d ∈ tables_1, d.before a0 Z = true) (oa : Addr) (oc : Addr) (c0 c1 c2 : Int32) (h0 : Heap) (hc0 : own_B c0) (hc1 : own_B c1) (hc2 : own_B c2) (E0 : Exa Z h0 oa "java/lang/String") (F_v : Fld Z h0 oa "java/lang/String" "value" "[B" .null) (F_c : Fld Z h0 oa "java/lang/String" "coder" "B" (.int (0 : Int32))) (A_c : Ary Z h0 oc .char [(.int c0), (.int c1), (.int c2)]) (hne : oc ≠ oa) (cs : Int32) (hcs : ¬ cs = (0 : Int32)) (S0 : Sta Z h0 "java/lang/String" "COMPACT_STRINGS" "Z" (.int cs)) :
    Con l (⟨"java/lang/String", "<init>", "([C)V"⟩ : MethodName) jdk_42_method_3_code 2 none [] ({ frames := 3, cells := 1, slots := 3, locals := 72 } : Room) #[(.ref oa), (.ref oc)] Z h0 (fun v h L => v = none ∧ ∃ V, h0.size ≤ V ∧ Ok h0 h [oa] L ∧ Fld Z h oa "java/lang/String" "value" "[B" (.ref V) ∧ Fld Z h oa "java/lang/String" "coder" "B" (.int (0 : Int32)) ∧ Ary Z h V .byte [(.int c0.toInt8.toInt32), (.int c1.toInt8.toInt32), (.int c2.toInt8.toInt32)]) := by
  refine Con.of (plainFor_of_name pn_1) ?_
  intro p e s m below meth c s₁ hx hZ hby hml hown hnm hret hlk X0 e0
  refine Ends.cast (efI1_3 m oa oc) ?_
  show Ends none p e below s _ _ _ s₁ (mkF m 0 #[.val (.ref oa), .val (.ref oc)] [])
  have O0 := Ok.refl h0 [oa]
  refine E.aloadN (q := 1) X0 hx (hb hby d3_0) rfl rfl ?_
  refine E.aloadN (q := 2) X0 hx (hb hby d3_1) rfl rfl ?_
  refine E.iconst (q := 3) (v := (0 : Int32)) X0 hx (hb hby d3_2) rfl ?_
  refine E.aloadN (q := 4) X0 hx (hb hby d3_3) rfl rfl ?_
  refine Ends.alen X0 hx hZ e0 A_c (hb hby d3_4) (n := (3 : Int32)) rfl ?_
  refine E.aconstNull (q := 6) X0 hx (hb hby d3_5) ?_
  refine Ends.callI X0 hx hZ hown (hw _ (List.mem_of_getElem? (i := 17) rfl)) (hw _ (List.mem_of_getElem? (i := 18) rfl)) (hw _ (List.mem_of_getElem? (i := 12) rfl)) (hw _ (List.mem_of_getElem? (i := 20) rfl)) rfl (by decide) (argsL := [(.ref oc), (.int (0 : Int32)), (.int (3 : Int32)), .null]) (rest := []) e0 (rmI4_3 l Z a0 hw oa oc c0 c1 c2 _ hc0 hc1 hc2 E0 F_v F_c A_c hne cs hcs S0) (W := 0) (by decide) (by decide) (by rw [hml]; rfl) (lenOf pd_3 rfl) (Nat.le_of_eq rfl) (hb hby d3_6) (by decide) (by decide) rfl ?_
  rintro T63 v63 L63 X63 ⟨rfl, V63, gV63, hO63, a63, b63, d63⟩
  have e63 : T63.heap = T63.heap := rfl
  have O63 := O0.call hO63 (allS (Or.inl (List.mem_of_getElem? (i := 0) rfl)) all0)
  show Ends none p e below s _ _ _ T63 (mkF m 9 #[.val (.ref oa), .val (.ref oc)] [])
  exact Ends.retV X63 hx hlk hret (hb hby d3_9) (by decide) (by decide) ⟨rfl, _, gV63, hO63, a63, b63, d63⟩
theorem ef_17 (m : MethodId) (x0 : Addr) (x1 : Addr) : entryFrame m #[(.ref x0), (.ref x1)] 3 = mkF m 0 #[.val (.ref x0), .val (.ref x1), .unset] [] := by first | (simp [entryFrame, mkF, argsToLocals, Value.category]; done) | rfl
set_option maxRecDepth 65536 in
set_option maxHeartbeats 40000000 in
theorem rm17 (l : Launch) (Z : State) (a0 : Array Value) (hw : ∀ d ∈ tables_1, d.before a0 Z = true) (oa : Addr) (ob : Addr) (xs ys : List Int32) (h0 : Heap) (A_x : Ary Z h0 oa .byte (xs.map Value.int)) (A_y : Ary Z h0 ob .byte (ys.map Value.int)) :
    Con l (⟨"java/lang/StringLatin1", "equals", "([B[B)Z"⟩ : MethodName) jdk_43_method_13_code 3 (some .boolean) [] ({ frames := 0, cells := 0, slots := 0, locals := 0 } : Room) #[(.ref oa), (.ref ob)] Z h0 (fun v h L => v = some (.int (if xs = ys then (1 : Int32) else 0)) ∧ h = h0 ∧ L = []) := by
  refine Con.of (plainFor_of_name pn_2) ?_
  intro p e s m below meth c s₁ hx hZ hby hml hown hnm hret hlk X0 e0
  refine Ends.cast (ef_17 m oa ob) ?_
  show Ends none p e below s _ _ _ s₁ (mkF m 0 #[.val (.ref oa), .val (.ref ob), .unset] [])
  have lx : xs.length < 2 ^ 31 := by have := A_x.len; rwa [List.length_map] at this
  have ly : ys.length < 2 ^ 31 := by have := A_y.len; rwa [List.length_map] at this
  refine E.aloadN (q := 1) X0 hx (hb hby d17_0) rfl rfl ?_
  refine Ends.alen X0 hx hZ e0 A_x (hb hby d17_1) (n := (Int32.ofNat xs.length)) (by rw [List.length_map]) ?_
  refine E.aloadN (q := 3) X0 hx (hb hby d17_2) rfl rfl ?_
  refine Ends.alen X0 hx hZ e0 A_y (hb hby d17_3) (n := (Int32.ofNat ys.length)) (by rw [List.length_map]) ?_
  by_cases hl : (Int32.ofNat xs.length) = (Int32.ofNat ys.length)
  · refine E.icmpN (q := 7) X0 hx (hb hby d17_4) (XT.ii_ne_f hl) ?_
    have hl' : xs.length = ys.length := by have := congrArg Int32.toInt hl; rw [own_ofNat lx, own_ofNat ly] at this; omega
    refine E.iconst (q := 8) (v := (0 : Int32)) X0 hx (hb hby d17_7) rfl ?_
    refine E.istoreN (q := 9) (l' := #[.val (.ref oa), .val (.ref ob), .val (.int (0 : Int32))]) X0 hx (hb hby d17_8) rfl ?_
    have J : ∀ n i, i + n = xs.length → xs.take i = ys.take i → Ends none p e below s (fun v h L => v = some (.int (if xs = ys then (1 : Int32) else 0)) ∧ h = h0 ∧ L = []) ({ frames := 0, cells := 0, slots := 0, locals := 0 } : Room).cells ({ frames := 0, cells := 0, slots := 0, locals := 0 } : Room).slots s₁ (mkF m 9 #[.val (.ref oa), .val (.ref ob), .val (.int (Int32.ofNat i))] []) := by
      intro n
      induction n with
      | zero =>
        intro i hi ht
        refine E.iloadN (q := 10) X0 hx (hb hby d17_9) rfl ?_
        refine E.aloadN (q := 11) X0 hx (hb hby d17_10) rfl rfl ?_
        refine Ends.alen X0 hx hZ e0 A_x (hb hby d17_11) (n := (Int32.ofNat xs.length)) (by rw [List.length_map]) ?_
        have hi' : i = xs.length := by omega
        refine E.icmpY (q := 32) X0 hx (hb hby d17_12) (XT.ii_ge_t (by rw [hi']; exact Int32.lt_irrefl)) ?_
        refine E.iconst (q := 33) (v := (1 : Int32)) X0 hx (hb hby d17_32) rfl ?_
        exact Ends.retS X0 hx hlk hret (by simp) rfl (hb hby d17_33) (by decide) (by decide) ⟨by rw [if_pos]; rw [hi'] at ht; rw [List.take_length] at ht; rw [hl', List.take_length] at ht; exact ht, e0, rfl⟩
      | succ n ih =>
        intro i hi ht
        have hix : i < xs.length := by omega
        have hiy : i < ys.length := by omega
        refine E.iloadN (q := 10) X0 hx (hb hby d17_9) rfl ?_
        refine E.aloadN (q := 11) X0 hx (hb hby d17_10) rfl rfl ?_
        refine Ends.alen X0 hx hZ e0 A_x (hb hby d17_11) (n := (Int32.ofNat xs.length)) (by rw [List.length_map]) ?_
        refine E.icmpN (q := 15) X0 hx (hb hby d17_12) (XT.ii_ge_f (by rw [Int32.lt_iff_toInt_lt, own_ofNat (by omega), own_ofNat lx]; omega)) ?_
        refine E.aloadN (q := 16) X0 hx (hb hby d17_15) rfl rfl ?_
        refine E.iloadN (q := 17) X0 hx (hb hby d17_16) rfl ?_
        refine Ends.bld X0 hx hZ e0 A_x (i := i) (v := .int (xs[i]'hix)) rfl (by rw [List.getElem?_map, List.getElem?_eq_getElem hix]; rfl) (hb hby d17_17) ?_
        show Ends none p e below s _ _ _ s₁ (mkF m 18 #[.val (.ref oa), .val (.ref ob), .val (.int (Int32.ofNat i))] [(.int (xs[i]'hix))])
        refine E.aloadN (q := 19) X0 hx (hb hby d17_18) rfl rfl ?_
        refine E.iloadN (q := 20) X0 hx (hb hby d17_19) rfl ?_
        refine Ends.bld X0 hx hZ e0 A_y (i := i) (v := .int (ys[i]'hiy)) rfl (by rw [List.getElem?_map, List.getElem?_eq_getElem hiy]; rfl) (hb hby d17_20) ?_
        show Ends none p e below s _ _ _ s₁ (mkF m 21 #[.val (.ref oa), .val (.ref ob), .val (.int (Int32.ofNat i))] [(.int (ys[i]'hiy)), (.int (xs[i]'hix))])
        by_cases hq : (xs[i]'hix) = (ys[i]'hiy)
        · refine E.icmpY (q := 26) X0 hx (hb hby d17_21) (XT.ii_eq_t hq) ?_
          refine E.iinc (q := 29) (v := ((Int32.ofNat i) + (1 : Int32))) (l' := #[.val (.ref oa), .val (.ref ob), .val (.int ((Int32.ofNat i) + (1 : Int32)))]) X0 hx (hb hby d17_26) rfl rfl rfl ?_
          refine E.goto (q := 9) X0 hx (hb hby d17_29) ?_
          rw [own_succ i]
          exact ih (i + 1) (by omega) (by rw [List.take_succ_eq_append_getElem hix, List.take_succ_eq_append_getElem hiy, ht, hq])
        · refine E.icmpN (q := 24) X0 hx (hb hby d17_21) (XT.ii_eq_f hq) ?_
          refine E.iconst (q := 25) (v := (0 : Int32)) X0 hx (hb hby d17_24) rfl ?_
          exact Ends.retS X0 hx hlk hret (by simp) rfl (hb hby d17_25) (by decide) (by decide) ⟨by rw [if_neg (fun q => hq (by subst q; rfl))], e0, rfl⟩
    exact J xs.length 0 (by omega) rfl
  · refine E.icmpY (q := 34) X0 hx (hb hby d17_4) (XT.ii_ne_t hl) ?_
    refine E.iconst (q := 35) (v := (0 : Int32)) X0 hx (hb hby d17_34) rfl ?_
    exact Ends.retS X0 hx hlk hret (by simp) rfl (hb hby d17_35) (by decide) (by decide) ⟨by rw [if_neg (fun q => hl (by rw [q]))], e0, rfl⟩
theorem ef_16 (m : MethodId) (x0 : Addr) (x1 : Addr) : entryFrame m #[(.ref x0), (.ref x1)] 3 = mkF m 0 #[.val (.ref x0), .val (.ref x1), .unset] [] := by first | (simp [entryFrame, mkF, argsToLocals, Value.category]; done) | rfl
set_option maxRecDepth 65536 in
set_option maxHeartbeats 40000000 in
theorem rm16 (l : Launch) (Z : State) (a0 : Array Value) (hw : ∀ d ∈ tables_1, d.before a0 Z = true) (oa : Addr) (ob : Addr) (Va Vb : Addr) (xs ys : List Int32) (h0 : Heap) (Ea : Exa Z h0 oa "java/lang/String") (Fva : Fld Z h0 oa "java/lang/String" "value" "[B" (.ref Va)) (Fca : Fld Z h0 oa "java/lang/String" "coder" "B" (.int (0 : Int32))) (Eb : Exa Z h0 ob "java/lang/String") (Fvb : Fld Z h0 ob "java/lang/String" "value" "[B" (.ref Vb)) (Fcb : Fld Z h0 ob "java/lang/String" "coder" "B" (.int (0 : Int32))) (A_x : Ary Z h0 Va .byte (xs.map Value.int)) (A_y : Ary Z h0 Vb .byte (ys.map Value.int)) (hne : oa ≠ ob) (cs : Int32) (hcs : ¬ cs = (0 : Int32)) (S0 : Sta Z h0 "java/lang/String" "COMPACT_STRINGS" "Z" (.int cs)) :
    Con l (⟨"java/lang/String", "equals", "(Ljava/lang/Object;)Z"⟩ : MethodName) jdk_42_method_66_code 3 (some .boolean) [] ({ frames := 1, cells := 0, slots := 0, locals := 24 } : Room) #[(.ref oa), (.ref ob)] Z h0 (fun v h L => v = some (.int (if xs = ys then (1 : Int32) else 0)) ∧ h = h0 ∧ L = []) := by
  refine Con.of (plainFor_of_name pn_1) ?_
  intro p e s m below meth c s₁ hx hZ hby hml hown hnm hret hlk X0 e0
  refine Ends.cast (ef_16 m oa ob) ?_
  show Ends none p e below s _ _ _ s₁ (mkF m 0 #[.val (.ref oa), .val (.ref ob), .unset] [])
  have O0 := Ok.refl h0 []
  refine E.aloadN (q := 1) X0 hx (hb hby d16_0) rfl rfl ?_
  refine E.aloadN (q := 2) X0 hx (hb hby d16_1) rfl rfl ?_
  refine E.acmpY (q := 7) X0 hx (hb hby d16_2) rfl rfl (Jvm.Free.XT.aa_ne_t (fun q => hne (Value.ref.inj q))) ?_
  refine E.aloadN (q := 8) X0 hx (hb hby d16_7) rfl rfl ?_
  refine Ends.instY X0 hx hZ hown (hw _ (List.mem_of_getElem? (i := 82) rfl)) e0 (Ins.self Eb) (hb hby d16_8) ?_
  intro T64 X64 e64
  refine E.ifN (q := 14) X64 hx (hb hby d16_11) (XT.i0_eq_f (by decide)) ?_
  refine E.aloadN (q := 15) X64 hx (hb hby d16_14) rfl rfl ?_
  refine Ends.castY X64 hx hZ hown (hw _ (List.mem_of_getElem? (i := 82) rfl)) e64 (Ins.self Eb) (hb hby d16_15) ?_
  intro T65 X65 e65
  refine E.astoreN (q := 19) (l' := #[.val (.ref oa), .val (.ref ob), .val (.ref ob)]) X65 hx (hb hby d16_18) rfl rfl ?_
  refine Ends.getS X65 hx hZ hown (host := "") (Or.inl (hw _ (List.mem_of_getElem? (i := 41) rfl))) Via.refl e65 (own_sta_keep S0 O0.1 own_ns0) (hb hby d16_19) ?_
  intro T66 X66 e66
  refine E.ifN (q := 25) X66 hx (hb hby d16_22) (XT.i0_eq_f hcs) ?_
  refine E.aloadN (q := 26) X66 hx (hb hby d16_25) rfl rfl ?_
  refine Ends.getF X66 hx hZ hown (host := "") (Or.inl (hw _ (List.mem_of_getElem? (i := 31) rfl))) Via.refl e66 Fca (hb hby d16_26) ?_
  intro T67 X67 e67
  refine E.aloadN (q := 30) X67 hx (hb hby d16_29) rfl rfl ?_
  refine Ends.getF X67 hx hZ hown (host := "") (Or.inl (hw _ (List.mem_of_getElem? (i := 31) rfl))) Via.refl e67 Fcb (hb hby d16_30) ?_
  intro T68 X68 e68
  refine E.icmpN (q := 36) X68 hx (hb hby d16_33) (XT.ii_ne_f (by decide)) ?_
  refine E.aloadN (q := 37) X68 hx (hb hby d16_36) rfl rfl ?_
  refine Ends.getF X68 hx hZ hown (host := "") (Or.inl (hw _ (List.mem_of_getElem? (i := 30) rfl))) Via.refl e68 Fva (hb hby d16_37) ?_
  intro T69 X69 e69
  refine E.aloadN (q := 41) X69 hx (hb hby d16_40) rfl rfl ?_
  refine Ends.getF X69 hx hZ hown (host := "") (Or.inl (hw _ (List.mem_of_getElem? (i := 30) rfl))) Via.refl e69 Fvb (hb hby d16_41) ?_
  intro T70 X70 e70
  refine Ends.callS X70 hx hZ hown (hw _ (List.mem_of_getElem? (i := 83) rfl)) (hw _ (List.mem_of_getElem? (i := 84) rfl)) (hw _ (List.mem_of_getElem? (i := 85) rfl)) (hw _ (List.mem_of_getElem? (i := 86) rfl)) (by decide) (argsL := [(.ref Va), (.ref Vb)]) (rest := []) e70 (rm17 l Z a0 hw Va Vb xs ys _ A_x A_y) (W := 0) (by decide) (by decide) (by rw [hml]; rfl) (lenOf pd_4 rfl) (Nat.le_of_eq rfl) (hb hby d16_44) (by decide) (by decide) rfl ?_
  rintro T71 v71 L71 X71 ⟨rfl, e71, rfl⟩
  rw [List.append_nil] at X71
  show Ends none p e below s _ _ _ T71 (mkF m 47 #[.val (.ref oa), .val (.ref ob), .val (.ref ob)] [(.int (if xs = ys then (1 : Int32) else 0))])
  by_cases hq : (if xs = ys then (1 : Int32) else 0) = (0 : Int32)
  · refine E.ifY (q := 54) X71 hx (hb hby d16_47) (XT.i0_eq_t hq) ?_
    refine E.iconst (q := 55) (v := (0 : Int32)) X71 hx (hb hby d16_54) rfl ?_
    exact Ends.retS X71 hx hlk hret (by simp) rfl (hb hby d16_55) (by decide) (by decide) ⟨by rw [if_neg (fun q => by rw [if_pos q] at hq; exact absurd hq (by decide))], e71, rfl⟩
  · refine E.ifN (q := 50) X71 hx (hb hby d16_47) (XT.i0_eq_f hq) ?_
    refine E.iconst (q := 51) (v := (1 : Int32)) X71 hx (hb hby d16_50) rfl ?_
    refine E.goto (q := 55) X71 hx (hb hby d16_51) ?_
    exact Ends.retS X71 hx hlk hret (by simp) rfl (hb hby d16_55) (by decide) (by decide) ⟨by rw [if_pos (Classical.byContradiction fun q => hq (if_neg q))], e71, rfl⟩
theorem efSame (m : MethodId) (x0 : Addr) (x1 : Addr) : entryFrame m #[(.ref x0), (.ref x1)] 3 = mkF m 0 #[.val (.ref x0), .val (.ref x1), .unset] [] := by first | (simp [entryFrame, mkF, argsToLocals, Value.category]; done) | rfl
set_option maxRecDepth 65536 in
set_option maxHeartbeats 40000000 in
theorem rmSame (l : Launch) (Z : State) (a0 : Array Value) (hw : ∀ d ∈ tables_1, d.before a0 Z = true) (oa : Addr) (h0 : Heap) :
    Con l (⟨"java/lang/String", "equals", "(Ljava/lang/Object;)Z"⟩ : MethodName) jdk_42_method_66_code 3 (some .boolean) [] ({ frames := 0, cells := 0, slots := 0, locals := 0 } : Room) #[(.ref oa), (.ref oa)] Z h0 (fun v h L => v = some (.int (1 : Int32)) ∧ h = h0 ∧ L = []) := by
  refine Con.of (plainFor_of_name pn_1) ?_
  intro p e s m below meth c s₁ hx hZ hby hml hown hnm hret hlk X0 e0
  refine Ends.cast (efSame m oa oa) ?_
  show Ends none p e below s _ _ _ s₁ (mkF m 0 #[.val (.ref oa), .val (.ref oa), .unset] [])
  refine E.aloadN (q := 1) X0 hx (hb hby d16_0) rfl rfl ?_
  refine E.aloadN (q := 2) X0 hx (hb hby d16_1) rfl rfl ?_
  refine E.acmpN (q := 5) X0 hx (hb hby d16_2) rfl rfl (Jvm.Free.XT.aa_ne_f rfl) ?_
  refine E.iconst (q := 6) (v := (1 : Int32)) X0 hx (hb hby d16_5) rfl ?_
  exact Ends.retS X0 hx hlk hret (by simp) rfl (hb hby d16_6) (by decide) (by decide) ⟨rfl, e0, rfl⟩
theorem efI4_0 (m : MethodId) (x0 : Addr) (x1 : Addr) (x2 : Int32) (x3 : Int32) : entryFrame m #[(.ref x0), (.ref x1), (.int x2), (.int x3), .null] 6 = mkF m 0 #[.val (.ref x0), .val (.ref x1), .val (.int x2), .val (.int x3), .val .null, .unset] [] := by first | (simp [entryFrame, mkF, argsToLocals, Value.category]; done) | rfl
set_option maxRecDepth 65536 in
set_option maxHeartbeats 40000000 in
theorem rmI4_0 (l : Launch) (Z : State) (a0 : Array Value) (hw : ∀ d ∈ tables_1, d.before a0 Z = true) (oa : Addr) (oc : Addr) (h0 : Heap) (E0 : Exa Z h0 oa "java/lang/String") (F_v : Fld Z h0 oa "java/lang/String" "value" "[B" .null) (F_c : Fld Z h0 oa "java/lang/String" "coder" "B" (.int (0 : Int32))) (A_c : Ary Z h0 oc .char []) :
    ConH l (⟨"java/lang/String", "<init>", "([CIILjava/lang/Void;)V"⟩ : MethodName) jdk_42_method_149_code 6 none [] ({ frames := 1, cells := 4, slots := 8, locals := 24 } : Room) #[(.ref oa), (.ref oc), (.int (0 : Int32)), (.int (0 : Int32)), .null] Z h0 own_EL (fun v h L => v = none ∧ ∃ V, Ok h0 h [oa] L ∧ Fld Z h oa "java/lang/String" "value" "[B" (.ref V) ∧ Fld Z h oa "java/lang/String" "coder" "B" (.int (0 : Int32)) ∧ Ary Z h V .byte []) := by
  refine ConH.of (plainFor_of_name pn_1) ?_
  intro p e s m below meth c s₁ vm0 HC0 hx hZ hby hml hown hnm hret hlk X0 e0
  refine Ends.cast (efI4_0 m oa oc (0 : Int32) (0 : Int32)) ?_
  show Ends (some (CHr Z own_EL vm0 h0)) p e below s _ _ _ s₁ (mkF m 0 #[.val (.ref oa), .val (.ref oc), .val (.int (0 : Int32)), .val (.int (0 : Int32)), .val .null, .unset] [])
  have O0 := Ok.refl h0 [oa]
  have Z0 : Safe Z own_EL s.vm h0 oa := own_safe_blank hZ.alike E0 F_v
  refine E.aloadN (q := 1) X0 hx (hb hby d4_0) rfl rfl ?_
  refine Ends.initO X0 hx hZ hown (hw _ (List.mem_of_getElem? (i := 21) rfl)) (hw _ (List.mem_of_getElem? (i := 22) rfl)) (hw _ (List.mem_of_getElem? (i := 23) rfl)) e0 (by rw [hml]; rfl) (hb hby d4_1) (by decide) (W := 0) (Nat.le_of_eq rfl) (by decide) ?_
  intro T72 X72 e72
  refine E.iloadN (q := 5) X72 hx (hb hby d4_4) rfl ?_
  refine E.ifN (q := 8) X72 hx (hb hby d4_5) (XT.i0_ne_f (by decide)) ?_
  refine E.aloadN (q := 9) X72 hx (hb hby d4_8) rfl rfl ?_
  refine Ends.ldcR X72 hx hZ hown (hw _ (List.mem_of_getElem? (i := 24) rfl)) (own_sat hw) e72 (Nat.zero_le _) (own_EW hw) (List.mem_of_getElem? (i := 0) rfl) HC0.1 (vs := []) (z := 0) (by decide) (by decide) (by decide) (hb hby d4_9) 0 (by decide) (by decide) (by decide) (by decide) ?_
  intro s T73 h73 c73 d73 X73 e73 E73 hc73 hZ hown Ea73 Fc73 Fv73 A73 sf73
  have O73 := O0.ext E73
  have HC74 := HC0.trans hc73
  show Ends (some (CHr Z own_EL vm0 h0)) p e below s _ _ _ T73 (mkF m 11 #[.val (.ref oa), .val (.ref oc), .val (.int (0 : Int32)), .val (.int (0 : Int32)), .val .null, .unset] [(.ref c73), (.ref oa)])
  have f75 := CHr.safe hc73 E0.lt Z0
  have nd73 := sf73 oa f75
  refine Ends.getF X73 hx hZ hown (host := "") (Or.inl (hw _ (List.mem_of_getElem? (i := 30) rfl))) Via.refl e73 Fv73 (hb hby d4_11) ?_
  intro T76 X76 e76
  have f77 := F_v.ext E73
  have f78 := E0.ext E73
  refine Ends.putF X76 hx hZ hown (host := "") (Or.inl (hw _ (List.mem_of_getElem? (i := 30) rfl))) Via.refl e76 f77 f78 (Or.inr ⟨(hw _ (List.mem_of_getElem? (i := 26) rfl)), rfl, hnm⟩) (hw _ (List.mem_of_getElem? (i := 11) rfl)) (ty := (.array .byte)) (by decide) rfl rfl (hb hby d4_14) ?_
  intro T79 h79 X79 e79 W79 Fw79
  have O79 := O73.wr W79 (Or.inl (List.mem_of_getElem? (i := 0) rfl))
  have HC80 := HC74.trans (CHr.wr W79 f75 HC74.1)
  refine E.aloadN (q := 18) X79 hx (hb hby d4_17) rfl rfl ?_
  refine Ends.ldcR X79 hx hZ hown (hw _ (List.mem_of_getElem? (i := 24) rfl)) (own_sat hw) e79 (Nat.le_trans (Nat.le_refl _) (own_wr_le W79)) (own_EW hw) (List.mem_of_getElem? (i := 0) rfl) HC80.1 (vs := []) (z := 0) (by decide) (by decide) (by decide) (hb hby d4_18) 0 (by decide) (by decide) (by decide) (by decide) ?_
  intro s T81 h81 c81 d81 X81 e81 E81 hc81 hZ hown Ea81 Fc81 Fv81 A81 sf81
  have O81 := O79.ext E81
  have HC82 := HC80.trans hc81
  show Ends (some (CHr Z own_EL vm0 h0)) p e below s _ _ _ T81 (mkF m 20 #[.val (.ref oa), .val (.ref oc), .val (.int (0 : Int32)), .val (.int (0 : Int32)), .val .null, .unset] [(.ref c81), (.ref oa)])
  have f83 := Safe.wr W79 f75 HC74.1 f75
  have f84 := f78.wr W79
  have f85 := CHr.safe hc81 f84.lt f83
  have nd81 := sf81 oa f85
  refine Ends.getF X81 hx hZ hown (host := "") (Or.inl (hw _ (List.mem_of_getElem? (i := 31) rfl))) Via.refl e81 Fc81 (hb hby d4_20) ?_
  intro T86 X86 e86
  have f87 := F_c.ext E73
  have f88 := f87.other W79 (Or.inr (slot_ne (Or.inr (hw _ (List.mem_of_getElem? (i := 27) rfl))) (Or.inr (hw _ (List.mem_of_getElem? (i := 26) rfl))) (by decide) (t := .byte) (t' := (.array .byte)) (by decide) (by decide)))
  have f89 := f88.ext E81
  have f90 := f84.ext E81
  refine Ends.putN X86 hx hZ hown (hw _ (List.mem_of_getElem? (i := 31) rfl)) Via.refl e86 f89 f90 (Or.inr ⟨(hw _ (List.mem_of_getElem? (i := 27) rfl)), rfl, hnm⟩) (hw _ (List.mem_of_getElem? (i := 11) rfl)) (ty := .byte) (v' := .int (0 : Int32)) (by decide) rfl (by decide) (hb hby d4_23) ?_
  intro T91 h91 X91 e91 W91 Fw91
  have O91 := O81.wr W91 (Or.inl (List.mem_of_getElem? (i := 0) rfl))
  have HC92 := HC82.trans (CHr.wr W91 f85 HC82.1)
  have f93 := Fw79.ext E81
  have f94 := f93.other W91 (Or.inr (slot_ne (Or.inr (hw _ (List.mem_of_getElem? (i := 26) rfl))) (Or.inr (hw _ (List.mem_of_getElem? (i := 27) rfl))) (by decide) (t := (.array .byte)) (t' := .byte) (by decide) (by decide)))
  have f95 := A73.other W79 (Ne.symm nd73.2)
  have f96 := f95.ext E81
  have f97 := f96.other W91 (Ne.symm nd73.2)
  subst e91
  exact Ends.retV X91 hx hlk hret (hb hby d4_26) (by decide) (by decide) ⟨⟨rfl, _, O91, f94, Fw91, f97⟩, by first | exact (Nat.le_trans (Nat.le_refl _) (own_wr_le W91)) | (rw [e91]; exact (Nat.le_trans (Nat.le_refl _) (own_wr_le W91)))⟩ (hF := own_chret X91 hZ (own_EW hw) HC92 (by first | rfl | assumption))
theorem efI1_0 (m : MethodId) (x0 : Addr) (x1 : Addr) : entryFrame m #[(.ref x0), (.ref x1)] 2 = mkF m 0 #[.val (.ref x0), .val (.ref x1)] [] := by first | (simp [entryFrame, mkF, argsToLocals, Value.category]; done) | rfl
set_option maxRecDepth 65536 in
set_option maxHeartbeats 40000000 in
theorem rmI1_0 (l : Launch) (Z : State) (a0 : Array Value) (hw : ∀ d ∈ tables_1, d.before a0 Z = true) (oa : Addr) (oc : Addr) (h0 : Heap) (E0 : Exa Z h0 oa "java/lang/String") (F_v : Fld Z h0 oa "java/lang/String" "value" "[B" .null) (F_c : Fld Z h0 oa "java/lang/String" "coder" "B" (.int (0 : Int32))) (A_c : Ary Z h0 oc .char []) :
    ConH l (⟨"java/lang/String", "<init>", "([C)V"⟩ : MethodName) jdk_42_method_3_code 2 none [] ({ frames := 2, cells := 4, slots := 8, locals := 48 } : Room) #[(.ref oa), (.ref oc)] Z h0 own_EL (fun v h L => v = none ∧ ∃ V, Ok h0 h [oa] L ∧ Fld Z h oa "java/lang/String" "value" "[B" (.ref V) ∧ Fld Z h oa "java/lang/String" "coder" "B" (.int (0 : Int32)) ∧ Ary Z h V .byte []) := by
  refine ConH.of (plainFor_of_name pn_1) ?_
  intro p e s m below meth c s₁ vm0 HC0 hx hZ hby hml hown hnm hret hlk X0 e0
  refine Ends.cast (efI1_0 m oa oc) ?_
  show Ends (some (CHr Z own_EL vm0 h0)) p e below s _ _ _ s₁ (mkF m 0 #[.val (.ref oa), .val (.ref oc)] [])
  have O0 := Ok.refl h0 [oa]
  refine E.aloadN (q := 1) X0 hx (hb hby d3_0) rfl rfl ?_
  refine E.aloadN (q := 2) X0 hx (hb hby d3_1) rfl rfl ?_
  refine E.iconst (q := 3) (v := (0 : Int32)) X0 hx (hb hby d3_2) rfl ?_
  refine E.aloadN (q := 4) X0 hx (hb hby d3_3) rfl rfl ?_
  refine Ends.alen X0 hx hZ e0 A_c (hb hby d3_4) (n := (0 : Int32)) rfl ?_
  refine E.aconstNull (q := 6) X0 hx (hb hby d3_5) ?_
  refine Ends.callIH X0 hx hZ hown (hw _ (List.mem_of_getElem? (i := 17) rfl)) (hw _ (List.mem_of_getElem? (i := 18) rfl)) (hw _ (List.mem_of_getElem? (i := 12) rfl)) (hw _ (List.mem_of_getElem? (i := 20) rfl)) rfl (by decide) (argsL := [(.ref oc), (.int (0 : Int32)), (.int (0 : Int32)), .null]) (rest := []) e0 (Nat.zero_le _) (own_EW hw) HC0.1 (rmI4_0 l Z a0 hw oa oc _ E0 F_v F_c A_c) (W := 0) (by decide) (by decide) (by rw [hml]; rfl) (lenOf pd_3 rfl) (Nat.le_of_eq rfl) (hb hby d3_6) (by decide) (by decide) rfl ?_
  rintro s T98 v98 L98 X98 hc98 hZ hown ⟨rfl, V98, hO98, a98, b98, d98⟩
  have e98 : T98.heap = T98.heap := rfl
  have O98 := O0.call hO98 (allS (Or.inl (List.mem_of_getElem? (i := 0) rfl)) all0)
  have HC99 := HC0.trans hc98
  show Ends (some (CHr Z own_EL vm0 h0)) p e below s _ _ _ T98 (mkF m 9 #[.val (.ref oa), .val (.ref oc)] [])
  exact Ends.retV X98 hx hlk hret (hb hby d3_9) (by decide) (by decide) ⟨⟨rfl, _, hO98, a98, b98, d98⟩, by first | exact (Nat.le_refl _) | (rw [e98]; exact (Nat.le_refl _))⟩ (hF := own_chret X98 hZ (own_EW hw) HC99 (by first | rfl | assumption))
theorem ef_2 (m : MethodId) (x0 : Int32) : entryFrame m #[(.int x0)] 1 = mkF m 0 #[.val (.int x0)] [] := by first | (simp [entryFrame, mkF, argsToLocals, Value.category]; done) | rfl
set_option maxRecDepth 65536 in
set_option maxHeartbeats 40000000 in
theorem rm2 (l : Launch) (Z : State) (a0 : Array Value) (hw : ∀ d ∈ tables_1, d.before a0 Z = true) (x : Int32) (h0 : Heap) :
    Con l (⟨"com/example/people_in_groups/peopleingroups/model/CustomPairEqualsPinLaw", "len", "(I)I"⟩ : MethodName) method_2_code 1 (some .int) [] ({ frames := 0, cells := 0, slots := 0, locals := 0 } : Room) #[(.int x)] Z h0 (fun v h L => v = some (.int (x &&& (3 : Int32))) ∧ h = h0 ∧ L = []) := by
  refine Con.of (plainFor_of_name pn_3) ?_
  intro p e s m below meth c s₁ hx hZ hby hml hown hnm hret hlk X0 e0
  refine Ends.cast (ef_2 m x) ?_
  show Ends none p e below s _ _ _ s₁ (mkF m 0 #[.val (.int x)] [])
  refine E.iloadN (q := 1) X0 hx (hb hby d2_0) rfl ?_
  refine E.iconst (q := 2) (v := (3 : Int32)) X0 hx (hb hby d2_1) rfl ?_
  refine E.iand (q := 3) X0 hx (hb hby d2_2) ?_
  exact Ends.retI X0 hx hlk hret (hb hby d2_3) (by decide) (by decide) ⟨rfl, e0, rfl⟩
theorem ef_6 (m : MethodId) (x0 : Int32) : entryFrame m #[(.int x0)] 1 = mkF m 0 #[.val (.int x0)] [] := by first | (simp [entryFrame, mkF, argsToLocals, Value.category]; done) | rfl
set_option maxRecDepth 65536 in
set_option maxHeartbeats 40000000 in
theorem rm6 (l : Launch) (Z : State) (a0 : Array Value) (hw : ∀ d ∈ tables_1, d.before a0 Z = true) (x : Int32) (h0 : Heap) :
    Con l (⟨"com/example/people_in_groups/peopleingroups/model/CustomPairEqualsPinLaw", "c0", "(I)C"⟩ : MethodName) method_3_code 1 (some .char) [] ({ frames := 0, cells := 0, slots := 0, locals := 0 } : Room) #[(.int x)] Z h0 (fun v h L => v = some (.int (own_c0 x)) ∧ h = h0 ∧ L = []) := by
  refine Con.of (plainFor_of_name pn_3) ?_
  intro p e s m below meth c s₁ hx hZ hby hml hown hnm hret hlk X0 e0
  refine Ends.cast (ef_6 m x) ?_
  show Ends none p e below s _ _ _ s₁ (mkF m 0 #[.val (.int x)] [])
  refine E.iloadN (q := 1) X0 hx (hb hby d6_0) rfl ?_
  refine E.bipush (q := 3) (v := (8 : Int32)) X0 hx (hb hby d6_1) rfl ?_
  refine E.iushr (q := 4) X0 hx (hb hby d6_3) ?_
  refine E.sipush (q := 7) (v := (255 : Int32)) X0 hx (hb hby d6_4) rfl ?_
  refine E.iand (q := 8) X0 hx (hb hby d6_7) ?_
  refine E.i2c (q := 9) X0 hx (hb hby d6_8) ?_
  exact Ends.retS X0 hx hlk hret (by simp) (congrArg Value.int (own_h0 x).2) (hb hby d6_9) (by decide) (by decide) ⟨rfl, e0, rfl⟩
theorem ef_7 (m : MethodId) (x0 : Int32) : entryFrame m #[(.int x0)] 1 = mkF m 0 #[.val (.int x0)] [] := by first | (simp [entryFrame, mkF, argsToLocals, Value.category]; done) | rfl
set_option maxRecDepth 65536 in
set_option maxHeartbeats 40000000 in
theorem rm7 (l : Launch) (Z : State) (a0 : Array Value) (hw : ∀ d ∈ tables_1, d.before a0 Z = true) (x : Int32) (h0 : Heap) :
    Con l (⟨"com/example/people_in_groups/peopleingroups/model/CustomPairEqualsPinLaw", "c1", "(I)C"⟩ : MethodName) method_4_code 1 (some .char) [] ({ frames := 0, cells := 0, slots := 0, locals := 0 } : Room) #[(.int x)] Z h0 (fun v h L => v = some (.int (own_c1 x)) ∧ h = h0 ∧ L = []) := by
  refine Con.of (plainFor_of_name pn_3) ?_
  intro p e s m below meth c s₁ hx hZ hby hml hown hnm hret hlk X0 e0
  refine Ends.cast (ef_7 m x) ?_
  show Ends none p e below s _ _ _ s₁ (mkF m 0 #[.val (.int x)] [])
  refine E.iloadN (q := 1) X0 hx (hb hby d7_0) rfl ?_
  refine E.bipush (q := 3) (v := (16 : Int32)) X0 hx (hb hby d7_1) rfl ?_
  refine E.iushr (q := 4) X0 hx (hb hby d7_3) ?_
  refine E.sipush (q := 7) (v := (255 : Int32)) X0 hx (hb hby d7_4) rfl ?_
  refine E.iand (q := 8) X0 hx (hb hby d7_7) ?_
  refine E.i2c (q := 9) X0 hx (hb hby d7_8) ?_
  exact Ends.retS X0 hx hlk hret (by simp) (congrArg Value.int (own_h1 x).2) (hb hby d7_9) (by decide) (by decide) ⟨rfl, e0, rfl⟩
theorem ef_8 (m : MethodId) (x0 : Int32) : entryFrame m #[(.int x0)] 1 = mkF m 0 #[.val (.int x0)] [] := by first | (simp [entryFrame, mkF, argsToLocals, Value.category]; done) | rfl
set_option maxRecDepth 65536 in
set_option maxHeartbeats 40000000 in
theorem rm8 (l : Launch) (Z : State) (a0 : Array Value) (hw : ∀ d ∈ tables_1, d.before a0 Z = true) (x : Int32) (h0 : Heap) :
    Con l (⟨"com/example/people_in_groups/peopleingroups/model/CustomPairEqualsPinLaw", "c2", "(I)C"⟩ : MethodName) method_5_code 1 (some .char) [] ({ frames := 0, cells := 0, slots := 0, locals := 0 } : Room) #[(.int x)] Z h0 (fun v h L => v = some (.int (own_c2 x)) ∧ h = h0 ∧ L = []) := by
  refine Con.of (plainFor_of_name pn_3) ?_
  intro p e s m below meth c s₁ hx hZ hby hml hown hnm hret hlk X0 e0
  refine Ends.cast (ef_8 m x) ?_
  show Ends none p e below s _ _ _ s₁ (mkF m 0 #[.val (.int x)] [])
  refine E.iloadN (q := 1) X0 hx (hb hby d8_0) rfl ?_
  refine E.bipush (q := 3) (v := (24 : Int32)) X0 hx (hb hby d8_1) rfl ?_
  refine E.iushr (q := 4) X0 hx (hb hby d8_3) ?_
  refine E.sipush (q := 7) (v := (255 : Int32)) X0 hx (hb hby d8_4) rfl ?_
  refine E.iand (q := 8) X0 hx (hb hby d8_7) ?_
  refine E.i2c (q := 9) X0 hx (hb hby d8_8) ?_
  exact Ends.retS X0 hx hlk hret (by simp) (congrArg Value.int (own_h2 x).2) (hb hby d8_9) (by decide) (by decide) ⟨rfl, e0, rfl⟩
theorem ef_1 (m : MethodId) (x0 : Int32) : entryFrame m #[(.int x0)] 2 = mkF m 0 #[.val (.int x0), .unset] [] := by first | (simp [entryFrame, mkF, argsToLocals, Value.category]; done) | rfl
set_option maxRecDepth 65536 in
set_option maxHeartbeats 40000000 in
theorem rm1 (l : Launch) (Z : State) (a0 : Array Value) (hw : ∀ d ∈ tables_1, d.before a0 Z = true) (x : Int32) (h0 : Heap) (cs : Int32) (hcs : ¬ cs = (0 : Int32)) (S0 : Sta Z h0 "java/lang/String" "COMPACT_STRINGS" "Z" (.int cs)) :
    ConH l (⟨"com/example/people_in_groups/peopleingroups/model/CustomPairEqualsPinLaw", "mk", "(I)Ljava/lang/String;"⟩ : MethodName) method_6_code 2 (some (.object "java/lang/String")) [] ({ frames := 4, cells := 6, slots := 12, locals := 96 } : Room) #[(.int x)] Z h0 own_EL (fun v h L => ∃ a V, v = some (.ref a) ∧ h0.size ≤ a ∧ Ok h0 h [] L ∧ Exa Z h a "java/lang/String" ∧ Fld Z h a "java/lang/String" "value" "[B" (.ref V) ∧ Fld Z h a "java/lang/String" "coder" "B" (.int (0 : Int32)) ∧ Ary Z h V .byte ((own_s x).map Value.int)) := by
  refine ConH.of (plainFor_of_name pn_3) ?_
  intro p e s m below meth c s₁ vm0 HC0 hx hZ hby hml hown hnm hret hlk X0 e0
  refine Ends.cast (ef_1 m x) ?_
  show Ends (some (CHr Z own_EL vm0 h0)) p e below s _ _ _ s₁ (mkF m 0 #[.val (.int x), .unset] [])
  have O0 := Ok.refl h0 []
  refine E.iloadN (q := 1) X0 hx (hb hby d1_0) rfl ?_
  refine Ends.callS X0 hx hZ hown (hw _ (List.mem_of_getElem? (i := 7) rfl)) (hw _ (List.mem_of_getElem? (i := 8) rfl)) (hw _ (List.mem_of_getElem? (i := 5) rfl)) (hw _ (List.mem_of_getElem? (i := 9) rfl)) (by decide) (argsL := [(.int x)]) (rest := []) e0 (rm2 l Z a0 hw x _) (W := 0) (by decide) (by decide) (by rw [hml]; rfl) (lenOf pd_5 rfl) (Nat.le_of_eq rfl) (hb hby d1_1) (by decide) (by decide) rfl ?_
  rintro T100 v100 L100 X100 ⟨rfl, e100, rfl⟩
  rw [List.append_nil] at X100
  show Ends (some (CHr Z own_EL vm0 h0)) p e below s _ _ _ T100 (mkF m 4 #[.val (.int x), .unset] [(.int (x &&& (3 : Int32)))])
  refine E.istoreN (q := 5) (l' := #[.val (.int x), .val (.int (x &&& (3 : Int32)))]) X100 hx (hb hby d1_4) rfl ?_
  refine E.iloadN (q := 6) X100 hx (hb hby d1_5) rfl ?_
  by_cases h0' : (x &&& (3 : Int32)) = (0 : Int32)
  · refine E.ifN (q := 9) X100 hx (hb hby d1_6) (XT.i0_ne_f h0') ?_
    refine Ends.newC X100 hx hZ hown (hw _ (List.mem_of_getElem? (i := 10) rfl)) (hw _ (List.mem_of_getElem? (i := 11) rfl)) (hw _ (List.mem_of_getElem? (i := 12) rfl)) e100 (hb hby d1_9) (by decide) (by decide) ?_
    intro T101 h101 b101 g101 X101 e101 E101 A101 D101
    have ge_b101 : h0.size ≤ b101 := Nat.le_trans O0.le (Nat.le_of_eq g101.symm)
    have O101 := O0.ext E101
    have HC102 := HC0.trans (CHr.ext E101 HC0.1)
    have F101_value : Fld Z h101 b101 "java/lang/String" "value" "[B" .null := D101 (Or.inr (hw _ (List.mem_of_getElem? (i := 26) rfl))) (ty := (.array .byte)) (by decide)
    have F101_coder : Fld Z h101 b101 "java/lang/String" "coder" "B" (.int (0 : Int32)) := D101 (Or.inr (hw _ (List.mem_of_getElem? (i := 27) rfl))) (ty := .byte) (by decide)
    refine E.dup (q := 13) X101 hx (hb hby d1_12) rfl ?_
    refine E.iconst (q := 14) (v := (0 : Int32)) X101 hx (hb hby d1_13) rfl ?_
    refine Ends.newA X101 hx hZ (hw _ (List.mem_of_getElem? (i := 13) rfl)) e101 (hb hby d1_14) (N := 0) rfl (by decide) (by decide) (by decide) ?_
    intro T103 h103 b103 g103 X103 e103 E103 A103
    have ge_b103 : h0.size ≤ b103 := Nat.le_trans O101.le (Nat.le_of_eq g103.symm)
    have O103 := O101.ext E103
    have HC104 := HC102.trans (CHr.ext E103 HC102.1)
    have V103 : Ary Z h103 b103 .char [] := A103
    have f105 := A101.ext E103
    have f106 := F101_value.ext E103
    have f107 := F101_coder.ext E103
    refine Ends.callIH X103 hx hZ hown (hw _ (List.mem_of_getElem? (i := 14) rfl)) (hw _ (List.mem_of_getElem? (i := 15) rfl)) (hw _ (List.mem_of_getElem? (i := 12) rfl)) (hw _ (List.mem_of_getElem? (i := 16) rfl)) rfl (by decide) (argsL := [(.ref b103)]) (rest := [(.ref b101)]) e103 (Nat.zero_le _) (own_EW hw) HC104.1 (rmI1_0 l Z a0 hw b101 b103 _ f105 f106 f107 V103) (W := 1) (by decide) (by decide) (by rw [hml]; rfl) (lenOf pd_6 rfl) (Nat.le_of_eq rfl) (hb hby d1_16) (by decide) (by decide) rfl ?_
    rintro s T108 v108 L108 X108 hc108 hZ hown ⟨rfl, U108, hO108, Fv108, Fc108, A108⟩
    have e108 : T108.heap = T108.heap := rfl
    have O108 := O103.call hO108 (allS (Or.inr ge_b101) all0)
    have HC109 := HC104.trans hc108
    show Ends (some (CHr Z own_EL vm0 h0)) p e below s _ _ _ T108 (mkF m 19 #[.val (.int x), .val (.int (x &&& (3 : Int32)))] [(.ref b101)])
    have f110 := f105.keep hO108.1
    exact Ends.retA X108 hx hlk hret rfl rfl rfl (hb hby d1_19) (by decide) (by decide) ⟨⟨_, _, rfl, ge_b101, O108, f110, Fv108, Fc108, by rw [own_s0 h0']; exact A108⟩, by first | exact (Nat.le_refl _) | (rw [e108]; exact (Nat.le_refl _))⟩ (hF := own_chret X108 hZ (own_EW hw) HC109 (by first | rfl | assumption))
  · refine E.ifY (q := 20) X100 hx (hb hby d1_6) (XT.i0_ne_t h0') ?_
    refine E.iloadN (q := 21) X100 hx (hb hby d1_20) rfl ?_
    refine E.iconst (q := 22) (v := (1 : Int32)) X100 hx (hb hby d1_21) rfl ?_
    by_cases h1' : (x &&& (3 : Int32)) = (1 : Int32)
    · refine E.icmpN (q := 25) X100 hx (hb hby d1_22) (XT.ii_ne_f h1') ?_
      refine Ends.newC X100 hx hZ hown (hw _ (List.mem_of_getElem? (i := 10) rfl)) (hw _ (List.mem_of_getElem? (i := 11) rfl)) (hw _ (List.mem_of_getElem? (i := 12) rfl)) e100 (hb hby d1_25) (by decide) (by decide) ?_
      intro T111 h111 b111 g111 X111 e111 E111 A111 D111
      have ge_b111 : h0.size ≤ b111 := Nat.le_trans O0.le (Nat.le_of_eq g111.symm)
      have O111 := O0.ext E111
      have HC112 := HC0.trans (CHr.ext E111 HC0.1)
      have F111_value : Fld Z h111 b111 "java/lang/String" "value" "[B" .null := D111 (Or.inr (hw _ (List.mem_of_getElem? (i := 26) rfl))) (ty := (.array .byte)) (by decide)
      have F111_coder : Fld Z h111 b111 "java/lang/String" "coder" "B" (.int (0 : Int32)) := D111 (Or.inr (hw _ (List.mem_of_getElem? (i := 27) rfl))) (ty := .byte) (by decide)
      refine E.dup (q := 29) X111 hx (hb hby d1_28) rfl ?_
      refine E.iconst (q := 30) (v := (1 : Int32)) X111 hx (hb hby d1_29) rfl ?_
      refine Ends.newA X111 hx hZ (hw _ (List.mem_of_getElem? (i := 13) rfl)) e111 (hb hby d1_30) (N := 1) rfl (by decide) (by decide) (by decide) ?_
      intro T113 h113 b113 g113 X113 e113 E113 A113
      have ge_b113 : h0.size ≤ b113 := Nat.le_trans O111.le (Nat.le_of_eq g113.symm)
      have O113 := O111.ext E113
      have HC114 := HC112.trans (CHr.ext E113 HC112.1)
      have V113 : Ary Z h113 b113 .char [(.int (0 : Int32))] := A113
      refine E.dup (q := 33) X113 hx (hb hby d1_32) rfl ?_
      refine E.iconst (q := 34) (v := (0 : Int32)) X113 hx (hb hby d1_33) rfl ?_
      refine E.iloadN (q := 35) X113 hx (hb hby d1_34) rfl ?_
      refine Ends.callS X113 hx hZ hown (hw _ (List.mem_of_getElem? (i := 32) rfl)) (hw _ (List.mem_of_getElem? (i := 33) rfl)) (hw _ (List.mem_of_getElem? (i := 5) rfl)) (hw _ (List.mem_of_getElem? (i := 34) rfl)) (by decide) (argsL := [(.int x)]) (rest := [(.int (0 : Int32)), (.ref b113), (.ref b113), (.ref b111), (.ref b111)]) e113 (rm6 l Z a0 hw x _) (W := 5) (by decide) (by decide) (by rw [hml]; rfl) (lenOf pd_7 rfl) (Nat.le_of_eq rfl) (hb hby d1_35) (by decide) (by decide) rfl ?_
      rintro T115 v115 L115 X115 ⟨rfl, e115, rfl⟩
      rw [List.append_nil] at X115
      show Ends (some (CHr Z own_EL vm0 h0)) p e below s _ _ _ T115 (mkF m 38 #[.val (.int x), .val (.int (x &&& (3 : Int32)))] [(.int (own_c0 x)), (.int (0 : Int32)), (.ref b113), (.ref b113), (.ref b111), (.ref b111)])
      refine Ends.cst X115 hx hZ e115 V113 (x' := (own_c0 x)) (own_h0 x).2 (i := 0) rfl (show 0 < 1 from by decide) (hb hby d1_38) ?_
      intro T116 h116 X116 e116 W116 V116
      have V116 : Ary Z h116 b113 .char [(.int (own_c0 x))] := V116
      have O116 := O113.wr W116 (Or.inr ge_b113)
      have HC117 := HC114.trans (CHr.wr W116 (own_safe_ary hZ.alike V113 (by decide)) HC114.1)
      have f118 := A111.ext E113
      have f119 := f118.wr W116
      have f120 := F111_value.ext E113
      have f121 := f120.other W116 (Or.inl (Nat.ne_of_lt (Nat.lt_of_lt_of_eq A111.lt g113.symm)))
      have f122 := F111_coder.ext E113
      have f123 := f122.other W116 (Or.inl (Nat.ne_of_lt (Nat.lt_of_lt_of_eq A111.lt g113.symm)))
      refine Ends.callI X116 hx hZ hown (hw _ (List.mem_of_getElem? (i := 14) rfl)) (hw _ (List.mem_of_getElem? (i := 15) rfl)) (hw _ (List.mem_of_getElem? (i := 12) rfl)) (hw _ (List.mem_of_getElem? (i := 16) rfl)) rfl (by decide) (argsL := [(.ref b113)]) (rest := [(.ref b111)]) e116 (rmI1_1 l Z a0 hw b111 b113 (own_c0 x) _ (own_h0 x).1 f119 f121 f123 V116 (Ne.symm (Nat.ne_of_lt (Nat.lt_of_lt_of_eq A111.lt g113.symm))) cs hcs (own_sta_keep S0 O116.1 own_ns0)) (W := 1) (by decide) (by decide) (by rw [hml]; rfl) (lenOf pd_6 rfl) (Nat.le_of_eq rfl) (hb hby d1_39) (by decide) (by decide) rfl ?_
      rintro T124 v124 L124 X124 ⟨rfl, U124, gU124, hO124, Fv124, Fc124, A124⟩
      have e124 : T124.heap = T124.heap := rfl
      have O124 := O116.call hO124 (allS (Or.inr ge_b111) all0)
      have HC125 := HC117.trans (CHr.keep hO124.1 (own_all1 (own_safe_blank hZ.alike f119 f121)) HC117.1)
      show Ends (some (CHr Z own_EL vm0 h0)) p e below s _ _ _ T124 (mkF m 42 #[.val (.int x), .val (.int (x &&& (3 : Int32)))] [(.ref b111)])
      have f126 := f119.keep hO124.1
      exact Ends.retA X124 hx hlk hret rfl rfl rfl (hb hby d1_42) (by decide) (by decide) ⟨⟨_, _, rfl, ge_b111, O124, f126, Fv124, Fc124, by rw [own_s1 h0' h1']; exact A124⟩, by first | exact (Nat.zero_le _) | (rw [e124]; exact (Nat.zero_le _))⟩ (hF := own_chret X124 hZ (own_EW hw) HC125 (by first | rfl | assumption))
    · refine E.icmpY (q := 43) X100 hx (hb hby d1_22) (XT.ii_ne_t h1') ?_
      refine E.iloadN (q := 44) X100 hx (hb hby d1_43) rfl ?_
      refine E.iconst (q := 45) (v := (2 : Int32)) X100 hx (hb hby d1_44) rfl ?_
      by_cases h2' : (x &&& (3 : Int32)) = (2 : Int32)
      · refine E.icmpN (q := 48) X100 hx (hb hby d1_45) (XT.ii_ne_f h2') ?_
        refine Ends.newC X100 hx hZ hown (hw _ (List.mem_of_getElem? (i := 10) rfl)) (hw _ (List.mem_of_getElem? (i := 11) rfl)) (hw _ (List.mem_of_getElem? (i := 12) rfl)) e100 (hb hby d1_48) (by decide) (by decide) ?_
        intro T127 h127 b127 g127 X127 e127 E127 A127 D127
        have ge_b127 : h0.size ≤ b127 := Nat.le_trans O0.le (Nat.le_of_eq g127.symm)
        have O127 := O0.ext E127
        have HC128 := HC0.trans (CHr.ext E127 HC0.1)
        have F127_value : Fld Z h127 b127 "java/lang/String" "value" "[B" .null := D127 (Or.inr (hw _ (List.mem_of_getElem? (i := 26) rfl))) (ty := (.array .byte)) (by decide)
        have F127_coder : Fld Z h127 b127 "java/lang/String" "coder" "B" (.int (0 : Int32)) := D127 (Or.inr (hw _ (List.mem_of_getElem? (i := 27) rfl))) (ty := .byte) (by decide)
        refine E.dup (q := 52) X127 hx (hb hby d1_51) rfl ?_
        refine E.iconst (q := 53) (v := (2 : Int32)) X127 hx (hb hby d1_52) rfl ?_
        refine Ends.newA X127 hx hZ (hw _ (List.mem_of_getElem? (i := 13) rfl)) e127 (hb hby d1_53) (N := 2) rfl (by decide) (by decide) (by decide) ?_
        intro T129 h129 b129 g129 X129 e129 E129 A129
        have ge_b129 : h0.size ≤ b129 := Nat.le_trans O127.le (Nat.le_of_eq g129.symm)
        have O129 := O127.ext E129
        have HC130 := HC128.trans (CHr.ext E129 HC128.1)
        have V129 : Ary Z h129 b129 .char [(.int (0 : Int32)), (.int (0 : Int32))] := A129
        refine E.dup (q := 56) X129 hx (hb hby d1_55) rfl ?_
        refine E.iconst (q := 57) (v := (0 : Int32)) X129 hx (hb hby d1_56) rfl ?_
        refine E.iloadN (q := 58) X129 hx (hb hby d1_57) rfl ?_
        refine Ends.callS X129 hx hZ hown (hw _ (List.mem_of_getElem? (i := 32) rfl)) (hw _ (List.mem_of_getElem? (i := 33) rfl)) (hw _ (List.mem_of_getElem? (i := 5) rfl)) (hw _ (List.mem_of_getElem? (i := 34) rfl)) (by decide) (argsL := [(.int x)]) (rest := [(.int (0 : Int32)), (.ref b129), (.ref b129), (.ref b127), (.ref b127)]) e129 (rm6 l Z a0 hw x _) (W := 5) (by decide) (by decide) (by rw [hml]; rfl) (lenOf pd_7 rfl) (Nat.le_of_eq rfl) (hb hby d1_58) (by decide) (by decide) rfl ?_
        rintro T131 v131 L131 X131 ⟨rfl, e131, rfl⟩
        rw [List.append_nil] at X131
        show Ends (some (CHr Z own_EL vm0 h0)) p e below s _ _ _ T131 (mkF m 61 #[.val (.int x), .val (.int (x &&& (3 : Int32)))] [(.int (own_c0 x)), (.int (0 : Int32)), (.ref b129), (.ref b129), (.ref b127), (.ref b127)])
        refine Ends.cst X131 hx hZ e131 V129 (x' := (own_c0 x)) (own_h0 x).2 (i := 0) rfl (show 0 < 2 from by decide) (hb hby d1_61) ?_
        intro T132 h132 X132 e132 W132 V132
        have V132 : Ary Z h132 b129 .char [(.int (own_c0 x)), (.int (0 : Int32))] := V132
        have O132 := O129.wr W132 (Or.inr ge_b129)
        have HC133 := HC130.trans (CHr.wr W132 (own_safe_ary hZ.alike V129 (by decide)) HC130.1)
        refine E.dup (q := 63) X132 hx (hb hby d1_62) rfl ?_
        refine E.iconst (q := 64) (v := (1 : Int32)) X132 hx (hb hby d1_63) rfl ?_
        refine E.iloadN (q := 65) X132 hx (hb hby d1_64) rfl ?_
        refine Ends.callS X132 hx hZ hown (hw _ (List.mem_of_getElem? (i := 35) rfl)) (hw _ (List.mem_of_getElem? (i := 36) rfl)) (hw _ (List.mem_of_getElem? (i := 5) rfl)) (hw _ (List.mem_of_getElem? (i := 37) rfl)) (by decide) (argsL := [(.int x)]) (rest := [(.int (1 : Int32)), (.ref b129), (.ref b129), (.ref b127), (.ref b127)]) e132 (rm7 l Z a0 hw x _) (W := 5) (by decide) (by decide) (by rw [hml]; rfl) (lenOf pd_7 rfl) (Nat.le_of_eq rfl) (hb hby d1_65) (by decide) (by decide) rfl ?_
        rintro T134 v134 L134 X134 ⟨rfl, e134, rfl⟩
        rw [List.append_nil] at X134
        show Ends (some (CHr Z own_EL vm0 h0)) p e below s _ _ _ T134 (mkF m 68 #[.val (.int x), .val (.int (x &&& (3 : Int32)))] [(.int (own_c1 x)), (.int (1 : Int32)), (.ref b129), (.ref b129), (.ref b127), (.ref b127)])
        refine Ends.cst X134 hx hZ e134 V132 (x' := (own_c1 x)) (own_h1 x).2 (i := 1) rfl (show 1 < 2 from by decide) (hb hby d1_68) ?_
        intro T135 h135 X135 e135 W135 V135
        have V135 : Ary Z h135 b129 .char [(.int (own_c0 x)), (.int (own_c1 x))] := V135
        have O135 := O132.wr W135 (Or.inr ge_b129)
        have HC136 := HC133.trans (CHr.wr W135 (own_safe_ary hZ.alike V132 (by decide)) HC133.1)
        have f137 := A127.ext E129
        have f138 := f137.wr W132
        have f139 := f138.wr W135
        have f140 := F127_value.ext E129
        have f141 := f140.other W132 (Or.inl (Nat.ne_of_lt (Nat.lt_of_lt_of_eq A127.lt g129.symm)))
        have f142 := f141.other W135 (Or.inl (Nat.ne_of_lt (Nat.lt_of_lt_of_eq A127.lt g129.symm)))
        have f143 := F127_coder.ext E129
        have f144 := f143.other W132 (Or.inl (Nat.ne_of_lt (Nat.lt_of_lt_of_eq A127.lt g129.symm)))
        have f145 := f144.other W135 (Or.inl (Nat.ne_of_lt (Nat.lt_of_lt_of_eq A127.lt g129.symm)))
        refine Ends.callI X135 hx hZ hown (hw _ (List.mem_of_getElem? (i := 14) rfl)) (hw _ (List.mem_of_getElem? (i := 15) rfl)) (hw _ (List.mem_of_getElem? (i := 12) rfl)) (hw _ (List.mem_of_getElem? (i := 16) rfl)) rfl (by decide) (argsL := [(.ref b129)]) (rest := [(.ref b127)]) e135 (rmI1_2 l Z a0 hw b127 b129 (own_c0 x) (own_c1 x) _ (own_h0 x).1 (own_h1 x).1 f139 f142 f145 V135 (Ne.symm (Nat.ne_of_lt (Nat.lt_of_lt_of_eq A127.lt g129.symm))) cs hcs (own_sta_keep S0 O135.1 own_ns0)) (W := 1) (by decide) (by decide) (by rw [hml]; rfl) (lenOf pd_6 rfl) (Nat.le_of_eq rfl) (hb hby d1_69) (by decide) (by decide) rfl ?_
        rintro T146 v146 L146 X146 ⟨rfl, U146, gU146, hO146, Fv146, Fc146, A146⟩
        have e146 : T146.heap = T146.heap := rfl
        have O146 := O135.call hO146 (allS (Or.inr ge_b127) all0)
        have HC147 := HC136.trans (CHr.keep hO146.1 (own_all1 (own_safe_blank hZ.alike f139 f142)) HC136.1)
        show Ends (some (CHr Z own_EL vm0 h0)) p e below s _ _ _ T146 (mkF m 72 #[.val (.int x), .val (.int (x &&& (3 : Int32)))] [(.ref b127)])
        have f148 := f139.keep hO146.1
        exact Ends.retA X146 hx hlk hret rfl rfl rfl (hb hby d1_72) (by decide) (by decide) ⟨⟨_, _, rfl, ge_b127, O146, f148, Fv146, Fc146, by rw [own_s2 h0' h1' h2']; exact A146⟩, by first | exact (Nat.zero_le _) | (rw [e146]; exact (Nat.zero_le _))⟩ (hF := own_chret X146 hZ (own_EW hw) HC147 (by first | rfl | assumption))
      · refine E.icmpY (q := 73) X100 hx (hb hby d1_45) (XT.ii_ne_t h2') ?_
        refine Ends.newC X100 hx hZ hown (hw _ (List.mem_of_getElem? (i := 10) rfl)) (hw _ (List.mem_of_getElem? (i := 11) rfl)) (hw _ (List.mem_of_getElem? (i := 12) rfl)) e100 (hb hby d1_73) (by decide) (by decide) ?_
        intro T149 h149 b149 g149 X149 e149 E149 A149 D149
        have ge_b149 : h0.size ≤ b149 := Nat.le_trans O0.le (Nat.le_of_eq g149.symm)
        have O149 := O0.ext E149
        have HC150 := HC0.trans (CHr.ext E149 HC0.1)
        have F149_value : Fld Z h149 b149 "java/lang/String" "value" "[B" .null := D149 (Or.inr (hw _ (List.mem_of_getElem? (i := 26) rfl))) (ty := (.array .byte)) (by decide)
        have F149_coder : Fld Z h149 b149 "java/lang/String" "coder" "B" (.int (0 : Int32)) := D149 (Or.inr (hw _ (List.mem_of_getElem? (i := 27) rfl))) (ty := .byte) (by decide)
        refine E.dup (q := 77) X149 hx (hb hby d1_76) rfl ?_
        refine E.iconst (q := 78) (v := (3 : Int32)) X149 hx (hb hby d1_77) rfl ?_
        refine Ends.newA X149 hx hZ (hw _ (List.mem_of_getElem? (i := 13) rfl)) e149 (hb hby d1_78) (N := 3) rfl (by decide) (by decide) (by decide) ?_
        intro T151 h151 b151 g151 X151 e151 E151 A151
        have ge_b151 : h0.size ≤ b151 := Nat.le_trans O149.le (Nat.le_of_eq g151.symm)
        have O151 := O149.ext E151
        have HC152 := HC150.trans (CHr.ext E151 HC150.1)
        have V151 : Ary Z h151 b151 .char [(.int (0 : Int32)), (.int (0 : Int32)), (.int (0 : Int32))] := A151
        refine E.dup (q := 81) X151 hx (hb hby d1_80) rfl ?_
        refine E.iconst (q := 82) (v := (0 : Int32)) X151 hx (hb hby d1_81) rfl ?_
        refine E.iloadN (q := 83) X151 hx (hb hby d1_82) rfl ?_
        refine Ends.callS X151 hx hZ hown (hw _ (List.mem_of_getElem? (i := 32) rfl)) (hw _ (List.mem_of_getElem? (i := 33) rfl)) (hw _ (List.mem_of_getElem? (i := 5) rfl)) (hw _ (List.mem_of_getElem? (i := 34) rfl)) (by decide) (argsL := [(.int x)]) (rest := [(.int (0 : Int32)), (.ref b151), (.ref b151), (.ref b149), (.ref b149)]) e151 (rm6 l Z a0 hw x _) (W := 5) (by decide) (by decide) (by rw [hml]; rfl) (lenOf pd_7 rfl) (Nat.le_of_eq rfl) (hb hby d1_83) (by decide) (by decide) rfl ?_
        rintro T153 v153 L153 X153 ⟨rfl, e153, rfl⟩
        rw [List.append_nil] at X153
        show Ends (some (CHr Z own_EL vm0 h0)) p e below s _ _ _ T153 (mkF m 86 #[.val (.int x), .val (.int (x &&& (3 : Int32)))] [(.int (own_c0 x)), (.int (0 : Int32)), (.ref b151), (.ref b151), (.ref b149), (.ref b149)])
        refine Ends.cst X153 hx hZ e153 V151 (x' := (own_c0 x)) (own_h0 x).2 (i := 0) rfl (show 0 < 3 from by decide) (hb hby d1_86) ?_
        intro T154 h154 X154 e154 W154 V154
        have V154 : Ary Z h154 b151 .char [(.int (own_c0 x)), (.int (0 : Int32)), (.int (0 : Int32))] := V154
        have O154 := O151.wr W154 (Or.inr ge_b151)
        have HC155 := HC152.trans (CHr.wr W154 (own_safe_ary hZ.alike V151 (by decide)) HC152.1)
        refine E.dup (q := 88) X154 hx (hb hby d1_87) rfl ?_
        refine E.iconst (q := 89) (v := (1 : Int32)) X154 hx (hb hby d1_88) rfl ?_
        refine E.iloadN (q := 90) X154 hx (hb hby d1_89) rfl ?_
        refine Ends.callS X154 hx hZ hown (hw _ (List.mem_of_getElem? (i := 35) rfl)) (hw _ (List.mem_of_getElem? (i := 36) rfl)) (hw _ (List.mem_of_getElem? (i := 5) rfl)) (hw _ (List.mem_of_getElem? (i := 37) rfl)) (by decide) (argsL := [(.int x)]) (rest := [(.int (1 : Int32)), (.ref b151), (.ref b151), (.ref b149), (.ref b149)]) e154 (rm7 l Z a0 hw x _) (W := 5) (by decide) (by decide) (by rw [hml]; rfl) (lenOf pd_7 rfl) (Nat.le_of_eq rfl) (hb hby d1_90) (by decide) (by decide) rfl ?_
        rintro T156 v156 L156 X156 ⟨rfl, e156, rfl⟩
        rw [List.append_nil] at X156
        show Ends (some (CHr Z own_EL vm0 h0)) p e below s _ _ _ T156 (mkF m 93 #[.val (.int x), .val (.int (x &&& (3 : Int32)))] [(.int (own_c1 x)), (.int (1 : Int32)), (.ref b151), (.ref b151), (.ref b149), (.ref b149)])
        refine Ends.cst X156 hx hZ e156 V154 (x' := (own_c1 x)) (own_h1 x).2 (i := 1) rfl (show 1 < 3 from by decide) (hb hby d1_93) ?_
        intro T157 h157 X157 e157 W157 V157
        have V157 : Ary Z h157 b151 .char [(.int (own_c0 x)), (.int (own_c1 x)), (.int (0 : Int32))] := V157
        have O157 := O154.wr W157 (Or.inr ge_b151)
        have HC158 := HC155.trans (CHr.wr W157 (own_safe_ary hZ.alike V154 (by decide)) HC155.1)
        refine E.dup (q := 95) X157 hx (hb hby d1_94) rfl ?_
        refine E.iconst (q := 96) (v := (2 : Int32)) X157 hx (hb hby d1_95) rfl ?_
        refine E.iloadN (q := 97) X157 hx (hb hby d1_96) rfl ?_
        refine Ends.callS X157 hx hZ hown (hw _ (List.mem_of_getElem? (i := 38) rfl)) (hw _ (List.mem_of_getElem? (i := 39) rfl)) (hw _ (List.mem_of_getElem? (i := 5) rfl)) (hw _ (List.mem_of_getElem? (i := 40) rfl)) (by decide) (argsL := [(.int x)]) (rest := [(.int (2 : Int32)), (.ref b151), (.ref b151), (.ref b149), (.ref b149)]) e157 (rm8 l Z a0 hw x _) (W := 5) (by decide) (by decide) (by rw [hml]; rfl) (lenOf pd_7 rfl) (Nat.le_of_eq rfl) (hb hby d1_97) (by decide) (by decide) rfl ?_
        rintro T159 v159 L159 X159 ⟨rfl, e159, rfl⟩
        rw [List.append_nil] at X159
        show Ends (some (CHr Z own_EL vm0 h0)) p e below s _ _ _ T159 (mkF m 100 #[.val (.int x), .val (.int (x &&& (3 : Int32)))] [(.int (own_c2 x)), (.int (2 : Int32)), (.ref b151), (.ref b151), (.ref b149), (.ref b149)])
        refine Ends.cst X159 hx hZ e159 V157 (x' := (own_c2 x)) (own_h2 x).2 (i := 2) rfl (show 2 < 3 from by decide) (hb hby d1_100) ?_
        intro T160 h160 X160 e160 W160 V160
        have V160 : Ary Z h160 b151 .char [(.int (own_c0 x)), (.int (own_c1 x)), (.int (own_c2 x))] := V160
        have O160 := O157.wr W160 (Or.inr ge_b151)
        have HC161 := HC158.trans (CHr.wr W160 (own_safe_ary hZ.alike V157 (by decide)) HC158.1)
        have f162 := A149.ext E151
        have f163 := f162.wr W154
        have f164 := f163.wr W157
        have f165 := f164.wr W160
        have f166 := F149_value.ext E151
        have f167 := f166.other W154 (Or.inl (Nat.ne_of_lt (Nat.lt_of_lt_of_eq A149.lt g151.symm)))
        have f168 := f167.other W157 (Or.inl (Nat.ne_of_lt (Nat.lt_of_lt_of_eq A149.lt g151.symm)))
        have f169 := f168.other W160 (Or.inl (Nat.ne_of_lt (Nat.lt_of_lt_of_eq A149.lt g151.symm)))
        have f170 := F149_coder.ext E151
        have f171 := f170.other W154 (Or.inl (Nat.ne_of_lt (Nat.lt_of_lt_of_eq A149.lt g151.symm)))
        have f172 := f171.other W157 (Or.inl (Nat.ne_of_lt (Nat.lt_of_lt_of_eq A149.lt g151.symm)))
        have f173 := f172.other W160 (Or.inl (Nat.ne_of_lt (Nat.lt_of_lt_of_eq A149.lt g151.symm)))
        refine Ends.callI X160 hx hZ hown (hw _ (List.mem_of_getElem? (i := 14) rfl)) (hw _ (List.mem_of_getElem? (i := 15) rfl)) (hw _ (List.mem_of_getElem? (i := 12) rfl)) (hw _ (List.mem_of_getElem? (i := 16) rfl)) rfl (by decide) (argsL := [(.ref b151)]) (rest := [(.ref b149)]) e160 (rmI1_3 l Z a0 hw b149 b151 (own_c0 x) (own_c1 x) (own_c2 x) _ (own_h0 x).1 (own_h1 x).1 (own_h2 x).1 f165 f169 f173 V160 (Ne.symm (Nat.ne_of_lt (Nat.lt_of_lt_of_eq A149.lt g151.symm))) cs hcs (own_sta_keep S0 O160.1 own_ns0)) (W := 1) (by decide) (by decide) (by rw [hml]; rfl) (lenOf pd_6 rfl) (Nat.le_of_eq rfl) (hb hby d1_101) (by decide) (by decide) rfl ?_
        rintro T174 v174 L174 X174 ⟨rfl, U174, gU174, hO174, Fv174, Fc174, A174⟩
        have e174 : T174.heap = T174.heap := rfl
        have O174 := O160.call hO174 (allS (Or.inr ge_b149) all0)
        have HC175 := HC161.trans (CHr.keep hO174.1 (own_all1 (own_safe_blank hZ.alike f165 f169)) HC161.1)
        show Ends (some (CHr Z own_EL vm0 h0)) p e below s _ _ _ T174 (mkF m 104 #[.val (.int x), .val (.int (x &&& (3 : Int32)))] [(.ref b149)])
        have f176 := f165.keep hO174.1
        exact Ends.retA X174 hx hlk hret rfl rfl rfl (hb hby d1_104) (by decide) (by decide) ⟨⟨_, _, rfl, ge_b149, O174, f176, Fv174, Fc174, by rw [own_s3 h0' h1' h2']; exact A174⟩, by first | exact (Nat.zero_le _) | (rw [e174]; exact (Nat.zero_le _))⟩ (hF := own_chret X174 hZ (own_EW hw) HC175 (by first | rfl | assumption))
theorem ef_14 (m : MethodId) (x0 : Int32) (x1 : Int32) : entryFrame m #[(.int x0), (.int x1)] 3 = mkF m 0 #[.val (.int x0), .val (.int x1), .unset] [] := by first | (simp [entryFrame, mkF, argsToLocals, Value.category]; done) | rfl
set_option maxRecDepth 65536 in
set_option maxHeartbeats 40000000 in
theorem rm14 (l : Launch) (Z : State) (a0 : Array Value) (hw : ∀ d ∈ tables_1, d.before a0 Z = true) (x : Int32) (y : Int32) (h0 : Heap) :
    Con l (⟨"com/example/people_in_groups/peopleingroups/model/CustomPairEqualsPinLaw", "same", "(II)Z"⟩ : MethodName) method_7_code 3 (some .boolean) [] ({ frames := 1, cells := 0, slots := 0, locals := 24 } : Room) #[(.int x), (.int y)] Z h0 (fun v h L => v = some (.int (if own_s x = own_s y then (1 : Int32) else 0)) ∧ h = h0 ∧ L = []) := by
  refine Con.of (plainFor_of_name pn_3) ?_
  intro p e s m below meth c s₁ hx hZ hby hml hown hnm hret hlk X0 e0
  refine Ends.cast (ef_14 m x y) ?_
  show Ends none p e below s _ _ _ s₁ (mkF m 0 #[.val (.int x), .val (.int y), .unset] [])
  have O0 := Ok.refl h0 []
  refine E.iloadN (q := 1) X0 hx (hb hby d14_0) rfl ?_
  refine Ends.callS X0 hx hZ hown (hw _ (List.mem_of_getElem? (i := 7) rfl)) (hw _ (List.mem_of_getElem? (i := 8) rfl)) (hw _ (List.mem_of_getElem? (i := 5) rfl)) (hw _ (List.mem_of_getElem? (i := 9) rfl)) (by decide) (argsL := [(.int x)]) (rest := []) e0 (rm2 l Z a0 hw x _) (W := 0) (by decide) (by decide) (by rw [hml]; rfl) (lenOf pd_5 rfl) (Nat.le_of_eq rfl) (hb hby d14_1) (by decide) (by decide) rfl ?_
  rintro T177 v177 L177 X177 ⟨rfl, e177, rfl⟩
  rw [List.append_nil] at X177
  show Ends none p e below s _ _ _ T177 (mkF m 4 #[.val (.int x), .val (.int y), .unset] [(.int (x &&& (3 : Int32)))])
  refine E.istoreN (q := 5) (l' := #[.val (.int x), .val (.int y), .val (.int (x &&& (3 : Int32)))]) X177 hx (hb hby d14_4) rfl ?_
  refine E.iloadN (q := 6) X177 hx (hb hby d14_5) rfl ?_
  refine E.iloadN (q := 7) X177 hx (hb hby d14_6) rfl ?_
  refine Ends.callS X177 hx hZ hown (hw _ (List.mem_of_getElem? (i := 7) rfl)) (hw _ (List.mem_of_getElem? (i := 8) rfl)) (hw _ (List.mem_of_getElem? (i := 5) rfl)) (hw _ (List.mem_of_getElem? (i := 9) rfl)) (by decide) (argsL := [(.int y)]) (rest := [(.int (x &&& (3 : Int32)))]) e177 (rm2 l Z a0 hw y _) (W := 1) (by decide) (by decide) (by rw [hml]; rfl) (lenOf pd_5 rfl) (Nat.le_of_eq rfl) (hb hby d14_7) (by decide) (by decide) rfl ?_
  rintro T178 v178 L178 X178 ⟨rfl, e178, rfl⟩
  rw [List.append_nil] at X178
  show Ends none p e below s _ _ _ T178 (mkF m 10 #[.val (.int x), .val (.int y), .val (.int (x &&& (3 : Int32)))] [(.int (y &&& (3 : Int32))), (.int (x &&& (3 : Int32)))])
  by_cases hc10_0 : (x &&& (3 : Int32)) = (y &&& (3 : Int32))
  · refine E.icmpY (q := 15) X178 hx (hb hby d14_10) (XT.ii_eq_t hc10_0) ?_
    refine E.iloadN (q := 16) X178 hx (hb hby d14_15) rfl ?_
    refine E.iconst (q := 17) (v := (1 : Int32)) X178 hx (hb hby d14_16) rfl ?_
    by_cases hc17_1 : (x &&& (3 : Int32)) < (1 : Int32)
    · refine E.icmpY (q := 33) X178 hx (hb hby d14_17) (XT.ii_lt_t hc17_1) ?_
      refine E.iloadN (q := 34) X178 hx (hb hby d14_33) rfl ?_
      refine E.iconst (q := 35) (v := (2 : Int32)) X178 hx (hb hby d14_34) rfl ?_
      by_cases hc35_2 : (x &&& (3 : Int32)) < (2 : Int32)
      · refine E.icmpY (q := 51) X178 hx (hb hby d14_35) (XT.ii_lt_t hc35_2) ?_
        refine E.iloadN (q := 52) X178 hx (hb hby d14_51) rfl ?_
        refine E.iconst (q := 53) (v := (3 : Int32)) X178 hx (hb hby d14_52) rfl ?_
        by_cases hc53_3 : (x &&& (3 : Int32)) < (3 : Int32)
        · refine E.icmpY (q := 69) X178 hx (hb hby d14_53) (XT.ii_lt_t hc53_3) ?_
          refine E.iconst (q := 70) (v := (1 : Int32)) X178 hx (hb hby d14_69) rfl ?_
          exact Ends.retS X178 hx hlk hret (by simp) rfl (hb hby d14_70) (by decide) (by decide) ⟨by rw [if_pos (own_same.mpr ⟨hc10_0, (fun g => absurd hc17_1 g), (fun g => absurd hc35_2 g), (fun g => absurd hc53_3 g)⟩)], e178, rfl⟩
        · refine E.icmpN (q := 56) X178 hx (hb hby d14_53) (XT.ii_lt_f hc53_3) ?_
          refine E.iloadN (q := 57) X178 hx (hb hby d14_56) rfl ?_
          refine Ends.callS X178 hx hZ hown (hw _ (List.mem_of_getElem? (i := 38) rfl)) (hw _ (List.mem_of_getElem? (i := 39) rfl)) (hw _ (List.mem_of_getElem? (i := 5) rfl)) (hw _ (List.mem_of_getElem? (i := 40) rfl)) (by decide) (argsL := [(.int x)]) (rest := []) e178 (rm8 l Z a0 hw x _) (W := 0) (by decide) (by decide) (by rw [hml]; rfl) (lenOf pd_7 rfl) (Nat.le_of_eq rfl) (hb hby d14_57) (by decide) (by decide) rfl ?_
          rintro T179 v179 L179 X179 ⟨rfl, e179, rfl⟩
          rw [List.append_nil] at X179
          show Ends none p e below s _ _ _ T179 (mkF m 60 #[.val (.int x), .val (.int y), .val (.int (x &&& (3 : Int32)))] [(.int (own_c2 x))])
          refine E.iloadN (q := 61) X179 hx (hb hby d14_60) rfl ?_
          refine Ends.callS X179 hx hZ hown (hw _ (List.mem_of_getElem? (i := 38) rfl)) (hw _ (List.mem_of_getElem? (i := 39) rfl)) (hw _ (List.mem_of_getElem? (i := 5) rfl)) (hw _ (List.mem_of_getElem? (i := 40) rfl)) (by decide) (argsL := [(.int y)]) (rest := [(.int (own_c2 x))]) e179 (rm8 l Z a0 hw y _) (W := 1) (by decide) (by decide) (by rw [hml]; rfl) (lenOf pd_7 rfl) (Nat.le_of_eq rfl) (hb hby d14_61) (by decide) (by decide) rfl ?_
          rintro T180 v180 L180 X180 ⟨rfl, e180, rfl⟩
          rw [List.append_nil] at X180
          show Ends none p e below s _ _ _ T180 (mkF m 64 #[.val (.int x), .val (.int y), .val (.int (x &&& (3 : Int32)))] [(.int (own_c2 y)), (.int (own_c2 x))])
          by_cases hc64_4 : (own_c2 x) = (own_c2 y)
          · refine E.icmpY (q := 69) X180 hx (hb hby d14_64) (XT.ii_eq_t hc64_4) ?_
            refine E.iconst (q := 70) (v := (1 : Int32)) X180 hx (hb hby d14_69) rfl ?_
            exact Ends.retS X180 hx hlk hret (by simp) rfl (hb hby d14_70) (by decide) (by decide) ⟨by rw [if_pos (own_same.mpr ⟨hc10_0, (fun g => absurd hc17_1 g), (fun g => absurd hc35_2 g), (fun _ => hc64_4)⟩)], e180, rfl⟩
          · refine E.icmpN (q := 67) X180 hx (hb hby d14_64) (XT.ii_eq_f hc64_4) ?_
            refine E.iconst (q := 68) (v := (0 : Int32)) X180 hx (hb hby d14_67) rfl ?_
            exact Ends.retS X180 hx hlk hret (by simp) rfl (hb hby d14_68) (by decide) (by decide) ⟨by rw [if_neg (fun q => hc64_4 ((own_same.mp q).2.2.2 hc53_3))], e180, rfl⟩
      · refine E.icmpN (q := 38) X178 hx (hb hby d14_35) (XT.ii_lt_f hc35_2) ?_
        refine E.iloadN (q := 39) X178 hx (hb hby d14_38) rfl ?_
        refine Ends.callS X178 hx hZ hown (hw _ (List.mem_of_getElem? (i := 35) rfl)) (hw _ (List.mem_of_getElem? (i := 36) rfl)) (hw _ (List.mem_of_getElem? (i := 5) rfl)) (hw _ (List.mem_of_getElem? (i := 37) rfl)) (by decide) (argsL := [(.int x)]) (rest := []) e178 (rm7 l Z a0 hw x _) (W := 0) (by decide) (by decide) (by rw [hml]; rfl) (lenOf pd_7 rfl) (Nat.le_of_eq rfl) (hb hby d14_39) (by decide) (by decide) rfl ?_
        rintro T181 v181 L181 X181 ⟨rfl, e181, rfl⟩
        rw [List.append_nil] at X181
        show Ends none p e below s _ _ _ T181 (mkF m 42 #[.val (.int x), .val (.int y), .val (.int (x &&& (3 : Int32)))] [(.int (own_c1 x))])
        refine E.iloadN (q := 43) X181 hx (hb hby d14_42) rfl ?_
        refine Ends.callS X181 hx hZ hown (hw _ (List.mem_of_getElem? (i := 35) rfl)) (hw _ (List.mem_of_getElem? (i := 36) rfl)) (hw _ (List.mem_of_getElem? (i := 5) rfl)) (hw _ (List.mem_of_getElem? (i := 37) rfl)) (by decide) (argsL := [(.int y)]) (rest := [(.int (own_c1 x))]) e181 (rm7 l Z a0 hw y _) (W := 1) (by decide) (by decide) (by rw [hml]; rfl) (lenOf pd_7 rfl) (Nat.le_of_eq rfl) (hb hby d14_43) (by decide) (by decide) rfl ?_
        rintro T182 v182 L182 X182 ⟨rfl, e182, rfl⟩
        rw [List.append_nil] at X182
        show Ends none p e below s _ _ _ T182 (mkF m 46 #[.val (.int x), .val (.int y), .val (.int (x &&& (3 : Int32)))] [(.int (own_c1 y)), (.int (own_c1 x))])
        by_cases hc46_3 : (own_c1 x) = (own_c1 y)
        · refine E.icmpY (q := 51) X182 hx (hb hby d14_46) (XT.ii_eq_t hc46_3) ?_
          refine E.iloadN (q := 52) X182 hx (hb hby d14_51) rfl ?_
          refine E.iconst (q := 53) (v := (3 : Int32)) X182 hx (hb hby d14_52) rfl ?_
          by_cases hc53_4 : (x &&& (3 : Int32)) < (3 : Int32)
          · refine E.icmpY (q := 69) X182 hx (hb hby d14_53) (XT.ii_lt_t hc53_4) ?_
            refine E.iconst (q := 70) (v := (1 : Int32)) X182 hx (hb hby d14_69) rfl ?_
            exact Ends.retS X182 hx hlk hret (by simp) rfl (hb hby d14_70) (by decide) (by decide) ⟨by rw [if_pos (own_same.mpr ⟨hc10_0, (fun g => absurd hc17_1 g), (fun _ => hc46_3), (fun g => absurd hc53_4 g)⟩)], e182, rfl⟩
          · refine E.icmpN (q := 56) X182 hx (hb hby d14_53) (XT.ii_lt_f hc53_4) ?_
            refine E.iloadN (q := 57) X182 hx (hb hby d14_56) rfl ?_
            refine Ends.callS X182 hx hZ hown (hw _ (List.mem_of_getElem? (i := 38) rfl)) (hw _ (List.mem_of_getElem? (i := 39) rfl)) (hw _ (List.mem_of_getElem? (i := 5) rfl)) (hw _ (List.mem_of_getElem? (i := 40) rfl)) (by decide) (argsL := [(.int x)]) (rest := []) e182 (rm8 l Z a0 hw x _) (W := 0) (by decide) (by decide) (by rw [hml]; rfl) (lenOf pd_7 rfl) (Nat.le_of_eq rfl) (hb hby d14_57) (by decide) (by decide) rfl ?_
            rintro T183 v183 L183 X183 ⟨rfl, e183, rfl⟩
            rw [List.append_nil] at X183
            show Ends none p e below s _ _ _ T183 (mkF m 60 #[.val (.int x), .val (.int y), .val (.int (x &&& (3 : Int32)))] [(.int (own_c2 x))])
            refine E.iloadN (q := 61) X183 hx (hb hby d14_60) rfl ?_
            refine Ends.callS X183 hx hZ hown (hw _ (List.mem_of_getElem? (i := 38) rfl)) (hw _ (List.mem_of_getElem? (i := 39) rfl)) (hw _ (List.mem_of_getElem? (i := 5) rfl)) (hw _ (List.mem_of_getElem? (i := 40) rfl)) (by decide) (argsL := [(.int y)]) (rest := [(.int (own_c2 x))]) e183 (rm8 l Z a0 hw y _) (W := 1) (by decide) (by decide) (by rw [hml]; rfl) (lenOf pd_7 rfl) (Nat.le_of_eq rfl) (hb hby d14_61) (by decide) (by decide) rfl ?_
            rintro T184 v184 L184 X184 ⟨rfl, e184, rfl⟩
            rw [List.append_nil] at X184
            show Ends none p e below s _ _ _ T184 (mkF m 64 #[.val (.int x), .val (.int y), .val (.int (x &&& (3 : Int32)))] [(.int (own_c2 y)), (.int (own_c2 x))])
            by_cases hc64_5 : (own_c2 x) = (own_c2 y)
            · refine E.icmpY (q := 69) X184 hx (hb hby d14_64) (XT.ii_eq_t hc64_5) ?_
              refine E.iconst (q := 70) (v := (1 : Int32)) X184 hx (hb hby d14_69) rfl ?_
              exact Ends.retS X184 hx hlk hret (by simp) rfl (hb hby d14_70) (by decide) (by decide) ⟨by rw [if_pos (own_same.mpr ⟨hc10_0, (fun g => absurd hc17_1 g), (fun _ => hc46_3), (fun _ => hc64_5)⟩)], e184, rfl⟩
            · refine E.icmpN (q := 67) X184 hx (hb hby d14_64) (XT.ii_eq_f hc64_5) ?_
              refine E.iconst (q := 68) (v := (0 : Int32)) X184 hx (hb hby d14_67) rfl ?_
              exact Ends.retS X184 hx hlk hret (by simp) rfl (hb hby d14_68) (by decide) (by decide) ⟨by rw [if_neg (fun q => hc64_5 ((own_same.mp q).2.2.2 hc53_4))], e184, rfl⟩
        · refine E.icmpN (q := 49) X182 hx (hb hby d14_46) (XT.ii_eq_f hc46_3) ?_
          refine E.iconst (q := 50) (v := (0 : Int32)) X182 hx (hb hby d14_49) rfl ?_
          exact Ends.retS X182 hx hlk hret (by simp) rfl (hb hby d14_50) (by decide) (by decide) ⟨by rw [if_neg (fun q => hc46_3 ((own_same.mp q).2.2.1 hc35_2))], e182, rfl⟩
    · refine E.icmpN (q := 20) X178 hx (hb hby d14_17) (XT.ii_lt_f hc17_1) ?_
      refine E.iloadN (q := 21) X178 hx (hb hby d14_20) rfl ?_
      refine Ends.callS X178 hx hZ hown (hw _ (List.mem_of_getElem? (i := 32) rfl)) (hw _ (List.mem_of_getElem? (i := 33) rfl)) (hw _ (List.mem_of_getElem? (i := 5) rfl)) (hw _ (List.mem_of_getElem? (i := 34) rfl)) (by decide) (argsL := [(.int x)]) (rest := []) e178 (rm6 l Z a0 hw x _) (W := 0) (by decide) (by decide) (by rw [hml]; rfl) (lenOf pd_7 rfl) (Nat.le_of_eq rfl) (hb hby d14_21) (by decide) (by decide) rfl ?_
      rintro T185 v185 L185 X185 ⟨rfl, e185, rfl⟩
      rw [List.append_nil] at X185
      show Ends none p e below s _ _ _ T185 (mkF m 24 #[.val (.int x), .val (.int y), .val (.int (x &&& (3 : Int32)))] [(.int (own_c0 x))])
      refine E.iloadN (q := 25) X185 hx (hb hby d14_24) rfl ?_
      refine Ends.callS X185 hx hZ hown (hw _ (List.mem_of_getElem? (i := 32) rfl)) (hw _ (List.mem_of_getElem? (i := 33) rfl)) (hw _ (List.mem_of_getElem? (i := 5) rfl)) (hw _ (List.mem_of_getElem? (i := 34) rfl)) (by decide) (argsL := [(.int y)]) (rest := [(.int (own_c0 x))]) e185 (rm6 l Z a0 hw y _) (W := 1) (by decide) (by decide) (by rw [hml]; rfl) (lenOf pd_7 rfl) (Nat.le_of_eq rfl) (hb hby d14_25) (by decide) (by decide) rfl ?_
      rintro T186 v186 L186 X186 ⟨rfl, e186, rfl⟩
      rw [List.append_nil] at X186
      show Ends none p e below s _ _ _ T186 (mkF m 28 #[.val (.int x), .val (.int y), .val (.int (x &&& (3 : Int32)))] [(.int (own_c0 y)), (.int (own_c0 x))])
      by_cases hc28_2 : (own_c0 x) = (own_c0 y)
      · refine E.icmpY (q := 33) X186 hx (hb hby d14_28) (XT.ii_eq_t hc28_2) ?_
        refine E.iloadN (q := 34) X186 hx (hb hby d14_33) rfl ?_
        refine E.iconst (q := 35) (v := (2 : Int32)) X186 hx (hb hby d14_34) rfl ?_
        by_cases hc35_3 : (x &&& (3 : Int32)) < (2 : Int32)
        · refine E.icmpY (q := 51) X186 hx (hb hby d14_35) (XT.ii_lt_t hc35_3) ?_
          refine E.iloadN (q := 52) X186 hx (hb hby d14_51) rfl ?_
          refine E.iconst (q := 53) (v := (3 : Int32)) X186 hx (hb hby d14_52) rfl ?_
          by_cases hc53_4 : (x &&& (3 : Int32)) < (3 : Int32)
          · refine E.icmpY (q := 69) X186 hx (hb hby d14_53) (XT.ii_lt_t hc53_4) ?_
            refine E.iconst (q := 70) (v := (1 : Int32)) X186 hx (hb hby d14_69) rfl ?_
            exact Ends.retS X186 hx hlk hret (by simp) rfl (hb hby d14_70) (by decide) (by decide) ⟨by rw [if_pos (own_same.mpr ⟨hc10_0, (fun _ => hc28_2), (fun g => absurd hc35_3 g), (fun g => absurd hc53_4 g)⟩)], e186, rfl⟩
          · refine E.icmpN (q := 56) X186 hx (hb hby d14_53) (XT.ii_lt_f hc53_4) ?_
            refine E.iloadN (q := 57) X186 hx (hb hby d14_56) rfl ?_
            refine Ends.callS X186 hx hZ hown (hw _ (List.mem_of_getElem? (i := 38) rfl)) (hw _ (List.mem_of_getElem? (i := 39) rfl)) (hw _ (List.mem_of_getElem? (i := 5) rfl)) (hw _ (List.mem_of_getElem? (i := 40) rfl)) (by decide) (argsL := [(.int x)]) (rest := []) e186 (rm8 l Z a0 hw x _) (W := 0) (by decide) (by decide) (by rw [hml]; rfl) (lenOf pd_7 rfl) (Nat.le_of_eq rfl) (hb hby d14_57) (by decide) (by decide) rfl ?_
            rintro T187 v187 L187 X187 ⟨rfl, e187, rfl⟩
            rw [List.append_nil] at X187
            show Ends none p e below s _ _ _ T187 (mkF m 60 #[.val (.int x), .val (.int y), .val (.int (x &&& (3 : Int32)))] [(.int (own_c2 x))])
            refine E.iloadN (q := 61) X187 hx (hb hby d14_60) rfl ?_
            refine Ends.callS X187 hx hZ hown (hw _ (List.mem_of_getElem? (i := 38) rfl)) (hw _ (List.mem_of_getElem? (i := 39) rfl)) (hw _ (List.mem_of_getElem? (i := 5) rfl)) (hw _ (List.mem_of_getElem? (i := 40) rfl)) (by decide) (argsL := [(.int y)]) (rest := [(.int (own_c2 x))]) e187 (rm8 l Z a0 hw y _) (W := 1) (by decide) (by decide) (by rw [hml]; rfl) (lenOf pd_7 rfl) (Nat.le_of_eq rfl) (hb hby d14_61) (by decide) (by decide) rfl ?_
            rintro T188 v188 L188 X188 ⟨rfl, e188, rfl⟩
            rw [List.append_nil] at X188
            show Ends none p e below s _ _ _ T188 (mkF m 64 #[.val (.int x), .val (.int y), .val (.int (x &&& (3 : Int32)))] [(.int (own_c2 y)), (.int (own_c2 x))])
            by_cases hc64_5 : (own_c2 x) = (own_c2 y)
            · refine E.icmpY (q := 69) X188 hx (hb hby d14_64) (XT.ii_eq_t hc64_5) ?_
              refine E.iconst (q := 70) (v := (1 : Int32)) X188 hx (hb hby d14_69) rfl ?_
              exact Ends.retS X188 hx hlk hret (by simp) rfl (hb hby d14_70) (by decide) (by decide) ⟨by rw [if_pos (own_same.mpr ⟨hc10_0, (fun _ => hc28_2), (fun g => absurd hc35_3 g), (fun _ => hc64_5)⟩)], e188, rfl⟩
            · refine E.icmpN (q := 67) X188 hx (hb hby d14_64) (XT.ii_eq_f hc64_5) ?_
              refine E.iconst (q := 68) (v := (0 : Int32)) X188 hx (hb hby d14_67) rfl ?_
              exact Ends.retS X188 hx hlk hret (by simp) rfl (hb hby d14_68) (by decide) (by decide) ⟨by rw [if_neg (fun q => hc64_5 ((own_same.mp q).2.2.2 hc53_4))], e188, rfl⟩
        · refine E.icmpN (q := 38) X186 hx (hb hby d14_35) (XT.ii_lt_f hc35_3) ?_
          refine E.iloadN (q := 39) X186 hx (hb hby d14_38) rfl ?_
          refine Ends.callS X186 hx hZ hown (hw _ (List.mem_of_getElem? (i := 35) rfl)) (hw _ (List.mem_of_getElem? (i := 36) rfl)) (hw _ (List.mem_of_getElem? (i := 5) rfl)) (hw _ (List.mem_of_getElem? (i := 37) rfl)) (by decide) (argsL := [(.int x)]) (rest := []) e186 (rm7 l Z a0 hw x _) (W := 0) (by decide) (by decide) (by rw [hml]; rfl) (lenOf pd_7 rfl) (Nat.le_of_eq rfl) (hb hby d14_39) (by decide) (by decide) rfl ?_
          rintro T189 v189 L189 X189 ⟨rfl, e189, rfl⟩
          rw [List.append_nil] at X189
          show Ends none p e below s _ _ _ T189 (mkF m 42 #[.val (.int x), .val (.int y), .val (.int (x &&& (3 : Int32)))] [(.int (own_c1 x))])
          refine E.iloadN (q := 43) X189 hx (hb hby d14_42) rfl ?_
          refine Ends.callS X189 hx hZ hown (hw _ (List.mem_of_getElem? (i := 35) rfl)) (hw _ (List.mem_of_getElem? (i := 36) rfl)) (hw _ (List.mem_of_getElem? (i := 5) rfl)) (hw _ (List.mem_of_getElem? (i := 37) rfl)) (by decide) (argsL := [(.int y)]) (rest := [(.int (own_c1 x))]) e189 (rm7 l Z a0 hw y _) (W := 1) (by decide) (by decide) (by rw [hml]; rfl) (lenOf pd_7 rfl) (Nat.le_of_eq rfl) (hb hby d14_43) (by decide) (by decide) rfl ?_
          rintro T190 v190 L190 X190 ⟨rfl, e190, rfl⟩
          rw [List.append_nil] at X190
          show Ends none p e below s _ _ _ T190 (mkF m 46 #[.val (.int x), .val (.int y), .val (.int (x &&& (3 : Int32)))] [(.int (own_c1 y)), (.int (own_c1 x))])
          by_cases hc46_4 : (own_c1 x) = (own_c1 y)
          · refine E.icmpY (q := 51) X190 hx (hb hby d14_46) (XT.ii_eq_t hc46_4) ?_
            refine E.iloadN (q := 52) X190 hx (hb hby d14_51) rfl ?_
            refine E.iconst (q := 53) (v := (3 : Int32)) X190 hx (hb hby d14_52) rfl ?_
            by_cases hc53_5 : (x &&& (3 : Int32)) < (3 : Int32)
            · refine E.icmpY (q := 69) X190 hx (hb hby d14_53) (XT.ii_lt_t hc53_5) ?_
              refine E.iconst (q := 70) (v := (1 : Int32)) X190 hx (hb hby d14_69) rfl ?_
              exact Ends.retS X190 hx hlk hret (by simp) rfl (hb hby d14_70) (by decide) (by decide) ⟨by rw [if_pos (own_same.mpr ⟨hc10_0, (fun _ => hc28_2), (fun _ => hc46_4), (fun g => absurd hc53_5 g)⟩)], e190, rfl⟩
            · refine E.icmpN (q := 56) X190 hx (hb hby d14_53) (XT.ii_lt_f hc53_5) ?_
              refine E.iloadN (q := 57) X190 hx (hb hby d14_56) rfl ?_
              refine Ends.callS X190 hx hZ hown (hw _ (List.mem_of_getElem? (i := 38) rfl)) (hw _ (List.mem_of_getElem? (i := 39) rfl)) (hw _ (List.mem_of_getElem? (i := 5) rfl)) (hw _ (List.mem_of_getElem? (i := 40) rfl)) (by decide) (argsL := [(.int x)]) (rest := []) e190 (rm8 l Z a0 hw x _) (W := 0) (by decide) (by decide) (by rw [hml]; rfl) (lenOf pd_7 rfl) (Nat.le_of_eq rfl) (hb hby d14_57) (by decide) (by decide) rfl ?_
              rintro T191 v191 L191 X191 ⟨rfl, e191, rfl⟩
              rw [List.append_nil] at X191
              show Ends none p e below s _ _ _ T191 (mkF m 60 #[.val (.int x), .val (.int y), .val (.int (x &&& (3 : Int32)))] [(.int (own_c2 x))])
              refine E.iloadN (q := 61) X191 hx (hb hby d14_60) rfl ?_
              refine Ends.callS X191 hx hZ hown (hw _ (List.mem_of_getElem? (i := 38) rfl)) (hw _ (List.mem_of_getElem? (i := 39) rfl)) (hw _ (List.mem_of_getElem? (i := 5) rfl)) (hw _ (List.mem_of_getElem? (i := 40) rfl)) (by decide) (argsL := [(.int y)]) (rest := [(.int (own_c2 x))]) e191 (rm8 l Z a0 hw y _) (W := 1) (by decide) (by decide) (by rw [hml]; rfl) (lenOf pd_7 rfl) (Nat.le_of_eq rfl) (hb hby d14_61) (by decide) (by decide) rfl ?_
              rintro T192 v192 L192 X192 ⟨rfl, e192, rfl⟩
              rw [List.append_nil] at X192
              show Ends none p e below s _ _ _ T192 (mkF m 64 #[.val (.int x), .val (.int y), .val (.int (x &&& (3 : Int32)))] [(.int (own_c2 y)), (.int (own_c2 x))])
              by_cases hc64_6 : (own_c2 x) = (own_c2 y)
              · refine E.icmpY (q := 69) X192 hx (hb hby d14_64) (XT.ii_eq_t hc64_6) ?_
                refine E.iconst (q := 70) (v := (1 : Int32)) X192 hx (hb hby d14_69) rfl ?_
                exact Ends.retS X192 hx hlk hret (by simp) rfl (hb hby d14_70) (by decide) (by decide) ⟨by rw [if_pos (own_same.mpr ⟨hc10_0, (fun _ => hc28_2), (fun _ => hc46_4), (fun _ => hc64_6)⟩)], e192, rfl⟩
              · refine E.icmpN (q := 67) X192 hx (hb hby d14_64) (XT.ii_eq_f hc64_6) ?_
                refine E.iconst (q := 68) (v := (0 : Int32)) X192 hx (hb hby d14_67) rfl ?_
                exact Ends.retS X192 hx hlk hret (by simp) rfl (hb hby d14_68) (by decide) (by decide) ⟨by rw [if_neg (fun q => hc64_6 ((own_same.mp q).2.2.2 hc53_5))], e192, rfl⟩
          · refine E.icmpN (q := 49) X190 hx (hb hby d14_46) (XT.ii_eq_f hc46_4) ?_
            refine E.iconst (q := 50) (v := (0 : Int32)) X190 hx (hb hby d14_49) rfl ?_
            exact Ends.retS X190 hx hlk hret (by simp) rfl (hb hby d14_50) (by decide) (by decide) ⟨by rw [if_neg (fun q => hc46_4 ((own_same.mp q).2.2.1 hc35_3))], e190, rfl⟩
      · refine E.icmpN (q := 31) X186 hx (hb hby d14_28) (XT.ii_eq_f hc28_2) ?_
        refine E.iconst (q := 32) (v := (0 : Int32)) X186 hx (hb hby d14_31) rfl ?_
        exact Ends.retS X186 hx hlk hret (by simp) rfl (hb hby d14_32) (by decide) (by decide) ⟨by rw [if_neg (fun q => hc28_2 ((own_same.mp q).2.1 hc17_1))], e186, rfl⟩
  · refine E.icmpN (q := 13) X178 hx (hb hby d14_10) (XT.ii_eq_f hc10_0) ?_
    refine E.iconst (q := 14) (v := (0 : Int32)) X178 hx (hb hby d14_13) rfl ?_
    exact Ends.retS X178 hx hlk hret (by simp) rfl (hb hby d14_14) (by decide) (by decide) ⟨by rw [if_neg (fun q => hc10_0 (own_same.mp q).1)], e178, rfl⟩
theorem ef_13 (m : MethodId) (x0 : Addr) (x1 : Addr) : entryFrame m #[(.ref x0), (.ref x1)] 2 = mkF m 0 #[.val (.ref x0), .val (.ref x1)] [] := by first | (simp [entryFrame, mkF, argsToLocals, Value.category]; done) | rfl
set_option maxRecDepth 65536 in
set_option maxHeartbeats 40000000 in
theorem rm13 (l : Launch) (Z : State) (a0 : Array Value) (hw : ∀ d ∈ tables_1, d.before a0 Z = true) (oa : Addr) (om : Addr) (h0 : Heap) :
    Con l (⟨"java/util/Objects", "requireNonNull", "(Ljava/lang/Object;Ljava/lang/String;)Ljava/lang/Object;"⟩ : MethodName) jdk_31_method_11_code 2 (some (.object "java/lang/Object")) [] ({ frames := 0, cells := 0, slots := 0, locals := 0 } : Room) #[(.ref oa), (.ref om)] Z h0 (fun v h L => v = some (.ref oa) ∧ h = h0 ∧ L = []) := by
  refine Con.of (plainFor_of_name pn_4) ?_
  intro p e s m below meth c s₁ hx hZ hby hml hown hnm hret hlk X0 e0
  refine Ends.cast (ef_13 m oa om) ?_
  show Ends none p e below s _ _ _ s₁ (mkF m 0 #[.val (.ref oa), .val (.ref om)] [])
  refine E.aloadN (q := 1) X0 hx (hb hby d13_0) rfl rfl ?_
  refine E.nonnullY (q := 13) X0 hx (hb hby d13_1) ?_
  refine E.aloadN (q := 14) X0 hx (hb hby d13_13) rfl rfl ?_
  exact Ends.retA X0 hx hlk hret rfl rfl rfl (hb hby d13_14) (by decide) (by decide) ⟨rfl, e0, rfl⟩
theorem ef_12 (m : MethodId) (x0 : Addr) (x1 : Addr) (x2 : Addr) : entryFrame m #[(.ref x0), (.ref x1), (.ref x2)] 3 = mkF m 0 #[.val (.ref x0), .val (.ref x1), .val (.ref x2)] [] := by first | (simp [entryFrame, mkF, argsToLocals, Value.category]; done) | rfl
set_option maxRecDepth 65536 in
set_option maxHeartbeats 40000000 in
theorem rm12 (l : Launch) (Z : State) (a0 : Array Value) (hw : ∀ d ∈ tables_1, d.before a0 Z = true) (oa : Addr) (ok : Addr) (ov : Addr) (h0 : Heap) (E0 : Exa Z h0 oa "com/example/people_in_groups/peopleingroups/model/CustomPair") (F_k : Fld Z h0 oa "com/example/people_in_groups/peopleingroups/model/CustomPair" "key" "Ljava/lang/String;" .null) (F_v : Fld Z h0 oa "com/example/people_in_groups/peopleingroups/model/CustomPair" "value" "Ljava/lang/String;" .null) (Ek : Exa Z h0 ok "java/lang/String") (Ev : Exa Z h0 ov "java/lang/String") :
    ConH l (⟨"com/example/people_in_groups/peopleingroups/model/CustomPair", "<init>", "(Ljava/lang/String;Ljava/lang/String;)V"⟩ : MethodName) prog_5_method_1_code 3 none [] ({ frames := 1, cells := 4, slots := 40, locals := 24 } : Room) #[(.ref oa), (.ref ok), (.ref ov)] Z h0 own_EL (fun v h L => v = none ∧ Ok h0 h [oa] L ∧ Fld Z h oa "com/example/people_in_groups/peopleingroups/model/CustomPair" "key" "Ljava/lang/String;" (.ref ok) ∧ Fld Z h oa "com/example/people_in_groups/peopleingroups/model/CustomPair" "value" "Ljava/lang/String;" (.ref ov)) := by
  refine ConH.of (plainFor_of_name pn_5) ?_
  intro p e s m below meth c s₁ vm0 HC0 hx hZ hby hml hown hnm hret hlk X0 e0
  refine Ends.cast (ef_12 m oa ok ov) ?_
  show Ends (some (CHr Z own_EL vm0 h0)) p e below s _ _ _ s₁ (mkF m 0 #[.val (.ref oa), .val (.ref ok), .val (.ref ov)] [])
  have O0 := Ok.refl h0 [oa]
  refine E.aloadN (q := 1) X0 hx (hb hby d12_0) rfl rfl ?_
  refine Ends.initO X0 hx hZ hown (hw _ (List.mem_of_getElem? (i := 55) rfl)) (hw _ (List.mem_of_getElem? (i := 22) rfl)) (hw _ (List.mem_of_getElem? (i := 23) rfl)) e0 (by rw [hml]; rfl) (hb hby d12_1) (by decide) (W := 0) (Nat.le_of_eq rfl) (by decide) ?_
  intro T193 X193 e193
  refine E.aloadN (q := 5) X193 hx (hb hby d12_4) rfl rfl ?_
  refine E.aloadN (q := 6) X193 hx (hb hby d12_5) rfl rfl ?_
  refine Ends.ldcO X193 hx hZ hown (hw _ (List.mem_of_getElem? (i := 56) rfl)) (own_sat hw) e193 (Nat.zero_le _) (own_EW hw) HC0.1 (hb hby d12_6) 12 (by decide) (by decide) (by decide) (by decide) ?_
  intro s T194 h194 c194 X194 e194 E194 hc194 hZ hown
  have O194 := O0.ext E194
  have HC195 := HC0.trans hc194
  show Ends (some (CHr Z own_EL vm0 h0)) p e below s _ _ _ T194 (mkF m 8 #[.val (.ref oa), .val (.ref ok), .val (.ref ov)] [(.ref c194), (.ref ok), (.ref oa)])
  refine Ends.callS X194 hx hZ hown (hw _ (List.mem_of_getElem? (i := 57) rfl)) (hw _ (List.mem_of_getElem? (i := 58) rfl)) (hw _ (List.mem_of_getElem? (i := 59) rfl)) (hw _ (List.mem_of_getElem? (i := 60) rfl)) (by decide) (argsL := [(.ref ok), (.ref c194)]) (rest := [(.ref oa)]) e194 (rm13 l Z a0 hw ok c194 _) (W := 1) (by decide) (by decide) (by rw [hml]; rfl) (lenOf pd_8 rfl) (Nat.le_of_eq rfl) (hb hby d12_8) (by decide) (by decide) rfl ?_
  rintro T196 v196 L196 X196 ⟨rfl, e196, rfl⟩
  rw [List.append_nil] at X196
  show Ends (some (CHr Z own_EL vm0 h0)) p e below s _ _ _ T196 (mkF m 11 #[.val (.ref oa), .val (.ref ok), .val (.ref ov)] [(.ref ok), (.ref oa)])
  have f197 := Ek.ext E194
  refine Ends.castY X196 hx hZ hown (hw _ (List.mem_of_getElem? (i := 61) rfl)) e196 (Ins.self f197) (hb hby d12_11) ?_
  intro T198 X198 e198
  have f199 := F_k.ext E194
  have f200 := E0.ext E194
  refine Ends.putF X198 hx hZ hown (host := "") (Or.inl (hw _ (List.mem_of_getElem? (i := 62) rfl))) Via.refl e198 f199 f200 (Or.inr ⟨(hw _ (List.mem_of_getElem? (i := 63) rfl)), rfl, hnm⟩) (hw _ (List.mem_of_getElem? (i := 1) rfl)) (ty := (.object "java/lang/String")) (by decide) rfl rfl (hb hby d12_14) ?_
  intro T201 h201 X201 e201 W201 Fw201
  have O201 := O194.wr W201 (Or.inl (List.mem_of_getElem? (i := 0) rfl))
  have HC202 := HC195.trans (CHr.wr W201 (Safe.exa hZ.alike f200 (by decide) (by decide)) HC195.1)
  refine E.aloadN (q := 18) X201 hx (hb hby d12_17) rfl rfl ?_
  refine E.aloadN (q := 19) X201 hx (hb hby d12_18) rfl rfl ?_
  refine Ends.ldcO X201 hx hZ hown (hw _ (List.mem_of_getElem? (i := 64) rfl)) (own_sat hw) e201 (Nat.le_trans (Nat.le_refl _) (own_wr_le W201)) (own_EW hw) HC202.1 (hb hby d12_19) 20 (by decide) (by decide) (by decide) (by decide) ?_
  intro s T203 h203 c203 X203 e203 E203 hc203 hZ hown
  have O203 := O201.ext E203
  have HC204 := HC202.trans hc203
  show Ends (some (CHr Z own_EL vm0 h0)) p e below s _ _ _ T203 (mkF m 21 #[.val (.ref oa), .val (.ref ok), .val (.ref ov)] [(.ref c203), (.ref ov), (.ref oa)])
  refine Ends.callS X203 hx hZ hown (hw _ (List.mem_of_getElem? (i := 57) rfl)) (hw _ (List.mem_of_getElem? (i := 58) rfl)) (hw _ (List.mem_of_getElem? (i := 59) rfl)) (hw _ (List.mem_of_getElem? (i := 60) rfl)) (by decide) (argsL := [(.ref ov), (.ref c203)]) (rest := [(.ref oa)]) e203 (rm13 l Z a0 hw ov c203 _) (W := 1) (by decide) (by decide) (by rw [hml]; rfl) (lenOf pd_8 rfl) (Nat.le_of_eq rfl) (hb hby d12_21) (by decide) (by decide) rfl ?_
  rintro T205 v205 L205 X205 ⟨rfl, e205, rfl⟩
  rw [List.append_nil] at X205
  show Ends (some (CHr Z own_EL vm0 h0)) p e below s _ _ _ T205 (mkF m 24 #[.val (.ref oa), .val (.ref ok), .val (.ref ov)] [(.ref ov), (.ref oa)])
  have f206 := Ev.ext E194
  have f207 := f206.wr W201
  have f208 := f207.ext E203
  refine Ends.castY X205 hx hZ hown (hw _ (List.mem_of_getElem? (i := 61) rfl)) e205 (Ins.self f208) (hb hby d12_24) ?_
  intro T209 X209 e209
  have f210 := F_v.ext E194
  have f211 := f210.other W201 (Or.inr (slot_ne (Or.inr (hw _ (List.mem_of_getElem? (i := 66) rfl))) (Or.inr (hw _ (List.mem_of_getElem? (i := 63) rfl))) (by decide) (t := (.object "java/lang/String")) (t' := (.object "java/lang/String")) (by decide) (by decide)))
  have f212 := f211.ext E203
  have f213 := f200.wr W201
  have f214 := f213.ext E203
  refine Ends.putF X209 hx hZ hown (host := "") (Or.inl (hw _ (List.mem_of_getElem? (i := 65) rfl))) Via.refl e209 f212 f214 (Or.inr ⟨(hw _ (List.mem_of_getElem? (i := 66) rfl)), rfl, hnm⟩) (hw _ (List.mem_of_getElem? (i := 1) rfl)) (ty := (.object "java/lang/String")) (by decide) rfl rfl (hb hby d12_27) ?_
  intro T215 h215 X215 e215 W215 Fw215
  have O215 := O203.wr W215 (Or.inl (List.mem_of_getElem? (i := 0) rfl))
  have HC216 := HC204.trans (CHr.wr W215 (Safe.exa hZ.alike f214 (by decide) (by decide)) HC204.1)
  have f217 := Fw201.ext E203
  have f218 := f217.other W215 (Or.inr (slot_ne (Or.inr (hw _ (List.mem_of_getElem? (i := 63) rfl))) (Or.inr (hw _ (List.mem_of_getElem? (i := 66) rfl))) (by decide) (t := (.object "java/lang/String")) (t' := (.object "java/lang/String")) (by decide) (by decide)))
  subst e215
  exact Ends.retV X215 hx hlk hret (hb hby d12_30) (by decide) (by decide) ⟨⟨rfl, O215, f218, Fw215⟩, by first | exact (Nat.le_trans (Nat.le_refl _) (own_wr_le W215)) | (rw [e215]; exact (Nat.le_trans (Nat.le_refl _) (own_wr_le W215)))⟩ (hF := own_chret X215 hZ (own_EW hw) HC216 (by first | rfl | assumption))
theorem ef_15 (m : MethodId) (x0 : Addr) (x1 : Addr) : entryFrame m #[(.ref x0), (.ref x1)] 2 = mkF m 0 #[.val (.ref x0), .val (.ref x1)] [] := by first | (simp [entryFrame, mkF, argsToLocals, Value.category]; done) | rfl
set_option maxRecDepth 65536 in
set_option maxHeartbeats 40000000 in
theorem rm15 (l : Launch) (Z : State) (a0 : Array Value) (hw : ∀ d ∈ tables_1, d.before a0 Z = true) (oa : Addr) (ob : Addr) (k1 v1 k2 v2 K1 V1 K2 V2 : Addr) (ks vs ls us : List Int32) (h0 : Heap) (Eb : Exa Z h0 ob "com/example/people_in_groups/peopleingroups/model/CustomPair") (Fk1 : Fld Z h0 oa "com/example/people_in_groups/peopleingroups/model/CustomPair" "key" "Ljava/lang/String;" (.ref k1)) (Fv1 : Fld Z h0 oa "com/example/people_in_groups/peopleingroups/model/CustomPair" "value" "Ljava/lang/String;" (.ref v1)) (Fk2 : Fld Z h0 ob "com/example/people_in_groups/peopleingroups/model/CustomPair" "key" "Ljava/lang/String;" (.ref k2)) (Fv2 : Fld Z h0 ob "com/example/people_in_groups/peopleingroups/model/CustomPair" "value" "Ljava/lang/String;" (.ref v2)) (Ek1 : Exa Z h0 k1 "java/lang/String") (Svk1 : Fld Z h0 k1 "java/lang/String" "value" "[B" (.ref K1)) (Sck1 : Fld Z h0 k1 "java/lang/String" "coder" "B" (.int (0 : Int32))) (Sak1 : Ary Z h0 K1 .byte (ks.map Value.int)) (Ev1 : Exa Z h0 v1 "java/lang/String") (Svv1 : Fld Z h0 v1 "java/lang/String" "value" "[B" (.ref V1)) (Scv1 : Fld Z h0 v1 "java/lang/String" "coder" "B" (.int (0 : Int32))) (Sav1 : Ary Z h0 V1 .byte (vs.map Value.int)) (Ek2 : Exa Z h0 k2 "java/lang/String") (Svk2 : Fld Z h0 k2 "java/lang/String" "value" "[B" (.ref K2)) (Sck2 : Fld Z h0 k2 "java/lang/String" "coder" "B" (.int (0 : Int32))) (Sak2 : Ary Z h0 K2 .byte (ls.map Value.int)) (Ev2 : Exa Z h0 v2 "java/lang/String") (Svv2 : Fld Z h0 v2 "java/lang/String" "value" "[B" (.ref V2)) (Scv2 : Fld Z h0 v2 "java/lang/String" "coder" "B" (.int (0 : Int32))) (Sav2 : Ary Z h0 V2 .byte (us.map Value.int)) (hnk : k1 ≠ k2) (hnv : v1 ≠ v2) (cs : Int32) (hcs : ¬ cs = (0 : Int32)) (S0 : Sta Z h0 "java/lang/String" "COMPACT_STRINGS" "Z" (.int cs)) :
    Con l (⟨"com/example/people_in_groups/peopleingroups/model/CustomPair", "equals", "(Ljava/lang/Object;)Z"⟩ : MethodName) prog_5_method_4_code 2 (some .boolean) [] ({ frames := 2, cells := 0, slots := 0, locals := 48 } : Room) #[(.ref oa), (.ref ob)] Z h0 (fun v h L => v = some (.int (if ks = ls ∧ vs = us then (1 : Int32) else 0)) ∧ h = h0 ∧ L = []) := by
  refine Con.of (plainFor_of_name pn_5) ?_
  intro p e s m below meth c s₁ hx hZ hby hml hown hnm hret hlk X0 e0
  refine Ends.cast (ef_15 m oa ob) ?_
  show Ends none p e below s _ _ _ s₁ (mkF m 0 #[.val (.ref oa), .val (.ref ob)] [])
  have O0 := Ok.refl h0 []
  refine E.aloadN (q := 1) X0 hx (hb hby d15_0) rfl rfl ?_
  refine Ends.instY X0 hx hZ hown (hw _ (List.mem_of_getElem? (i := 75) rfl)) e0 (Ins.self Eb) (hb hby d15_1) ?_
  intro T219 X219 e219
  refine E.ifN (q := 7) X219 hx (hb hby d15_4) (XT.i0_eq_f (by decide)) ?_
  refine E.aloadN (q := 8) X219 hx (hb hby d15_7) rfl rfl ?_
  refine Ends.getF X219 hx hZ hown (host := "") (Or.inl (hw _ (List.mem_of_getElem? (i := 62) rfl))) Via.refl e219 Fk1 (hb hby d15_8) ?_
  intro T220 X220 e220
  refine E.aloadN (q := 12) X220 hx (hb hby d15_11) rfl rfl ?_
  refine Ends.castY X220 hx hZ hown (hw _ (List.mem_of_getElem? (i := 75) rfl)) e220 (Ins.self Eb) (hb hby d15_12) ?_
  intro T221 X221 e221
  refine Ends.getF X221 hx hZ hown (host := "") (Or.inl (hw _ (List.mem_of_getElem? (i := 62) rfl))) Via.refl e221 Fk2 (hb hby d15_15) ?_
  intro T222 X222 e222
  refine Ends.callV X222 hx hZ hown (hw _ (List.mem_of_getElem? (i := 77) rfl)) (hw _ (List.mem_of_getElem? (i := 78) rfl)) (hw _ (List.mem_of_getElem? (i := 80) rfl)) (hw _ (List.mem_of_getElem? (i := 79) rfl)) (hw _ (List.mem_of_getElem? (i := 12) rfl)) (hw _ (List.mem_of_getElem? (i := 81) rfl)) (by decide) (argsL := [(.ref k2)]) (rest := []) e222 Ek1 (rm16 l Z a0 hw k1 k2 K1 K2 ks ls _ Ek1 Svk1 Sck1 Ek2 Svk2 Sck2 Sak1 Sak2 hnk cs hcs S0) (W := 0) (by decide) (by decide) (by rw [hml]; rfl) (lenOf pd_9 rfl) (Nat.le_of_eq rfl) (hb hby d15_18) (by decide) (by decide) rfl ?_
  rintro T223 v223 L223 X223 ⟨rfl, e223, rfl⟩
  rw [List.append_nil] at X223
  show Ends none p e below s _ _ _ T223 (mkF m 21 #[.val (.ref oa), .val (.ref ob)] [(.int (if ks = ls then (1 : Int32) else 0))])
  by_cases hk : (if ks = ls then (1 : Int32) else 0) = (0 : Int32)
  · refine E.ifY (q := 45) X223 hx (hb hby d15_21) (XT.i0_eq_t hk) ?_
    refine E.iconst (q := 46) (v := (0 : Int32)) X223 hx (hb hby d15_45) rfl ?_
    exact Ends.retS X223 hx hlk hret (by simp) rfl (hb hby d15_46) (by decide) (by decide) ⟨by rw [if_neg (fun q => by rw [if_pos q.1] at hk; exact absurd hk (by decide))], e223, rfl⟩
  · refine E.ifN (q := 24) X223 hx (hb hby d15_21) (XT.i0_eq_f hk) ?_
    have hk' : ks = ls := Classical.byContradiction fun q => hk (if_neg q)
    refine E.aloadN (q := 25) X223 hx (hb hby d15_24) rfl rfl ?_
    refine Ends.getF X223 hx hZ hown (host := "") (Or.inl (hw _ (List.mem_of_getElem? (i := 65) rfl))) Via.refl e223 Fv1 (hb hby d15_25) ?_
    intro T224 X224 e224
    refine E.aloadN (q := 29) X224 hx (hb hby d15_28) rfl rfl ?_
    refine Ends.castY X224 hx hZ hown (hw _ (List.mem_of_getElem? (i := 75) rfl)) e224 (Ins.self Eb) (hb hby d15_29) ?_
    intro T225 X225 e225
    refine Ends.getF X225 hx hZ hown (host := "") (Or.inl (hw _ (List.mem_of_getElem? (i := 65) rfl))) Via.refl e225 Fv2 (hb hby d15_32) ?_
    intro T226 X226 e226
    refine Ends.callV X226 hx hZ hown (hw _ (List.mem_of_getElem? (i := 77) rfl)) (hw _ (List.mem_of_getElem? (i := 78) rfl)) (hw _ (List.mem_of_getElem? (i := 80) rfl)) (hw _ (List.mem_of_getElem? (i := 79) rfl)) (hw _ (List.mem_of_getElem? (i := 12) rfl)) (hw _ (List.mem_of_getElem? (i := 81) rfl)) (by decide) (argsL := [(.ref v2)]) (rest := []) e226 Ev1 (rm16 l Z a0 hw v1 v2 V1 V2 vs us _ Ev1 Svv1 Scv1 Ev2 Svv2 Scv2 Sav1 Sav2 hnv cs hcs S0) (W := 0) (by decide) (by decide) (by rw [hml]; rfl) (lenOf pd_9 rfl) (Nat.le_of_eq rfl) (hb hby d15_35) (by decide) (by decide) rfl ?_
    rintro T227 v227 L227 X227 ⟨rfl, e227, rfl⟩
    rw [List.append_nil] at X227
    show Ends none p e below s _ _ _ T227 (mkF m 38 #[.val (.ref oa), .val (.ref ob)] [(.int (if vs = us then (1 : Int32) else 0))])
    by_cases hv : (if vs = us then (1 : Int32) else 0) = (0 : Int32)
    · refine E.ifY (q := 45) X227 hx (hb hby d15_38) (XT.i0_eq_t hv) ?_
      refine E.iconst (q := 46) (v := (0 : Int32)) X227 hx (hb hby d15_45) rfl ?_
      exact Ends.retS X227 hx hlk hret (by simp) rfl (hb hby d15_46) (by decide) (by decide) ⟨by rw [if_neg (fun q => by rw [if_pos q.2] at hv; exact absurd hv (by decide))], e227, rfl⟩
    · refine E.ifN (q := 41) X227 hx (hb hby d15_38) (XT.i0_eq_f hv) ?_
      have hv' : vs = us := Classical.byContradiction fun q => hv (if_neg q)
      refine E.iconst (q := 42) (v := (1 : Int32)) X227 hx (hb hby d15_41) rfl ?_
      refine E.goto (q := 46) X227 hx (hb hby d15_42) ?_
      exact Ends.retS X227 hx hlk hret (by simp) rfl (hb hby d15_46) (by decide) (by decide) ⟨by rw [if_pos ⟨hk', hv'⟩], e227, rfl⟩
theorem efEs (m : MethodId) (x0 : Addr) (x1 : Addr) : entryFrame m #[(.ref x0), (.ref x1)] 2 = mkF m 0 #[.val (.ref x0), .val (.ref x1)] [] := by first | (simp [entryFrame, mkF, argsToLocals, Value.category]; done) | rfl
set_option maxRecDepth 65536 in
set_option maxHeartbeats 40000000 in
theorem rmEs (l : Launch) (Z : State) (a0 : Array Value) (hw : ∀ d ∈ tables_1, d.before a0 Z = true) (oa : Addr) (k1 v1 : Addr) (h0 : Heap) (Eb : Exa Z h0 oa "com/example/people_in_groups/peopleingroups/model/CustomPair") (Fk1 : Fld Z h0 oa "com/example/people_in_groups/peopleingroups/model/CustomPair" "key" "Ljava/lang/String;" (.ref k1)) (Fv1 : Fld Z h0 oa "com/example/people_in_groups/peopleingroups/model/CustomPair" "value" "Ljava/lang/String;" (.ref v1)) (Ek1 : Exa Z h0 k1 "java/lang/String") (Ev1 : Exa Z h0 v1 "java/lang/String") :
    Con l (⟨"com/example/people_in_groups/peopleingroups/model/CustomPair", "equals", "(Ljava/lang/Object;)Z"⟩ : MethodName) prog_5_method_4_code 2 (some .boolean) [] ({ frames := 1, cells := 0, slots := 0, locals := 24 } : Room) #[(.ref oa), (.ref oa)] Z h0 (fun v h L => v = some (.int (1 : Int32)) ∧ h = h0 ∧ L = []) := by
  refine Con.of (plainFor_of_name pn_5) ?_
  intro p e s m below meth c s₁ hx hZ hby hml hown hnm hret hlk X0 e0
  refine Ends.cast (efEs m oa oa) ?_
  show Ends none p e below s _ _ _ s₁ (mkF m 0 #[.val (.ref oa), .val (.ref oa)] [])
  have O0 := Ok.refl h0 []
  refine E.aloadN (q := 1) X0 hx (hb hby d15_0) rfl rfl ?_
  refine Ends.instY X0 hx hZ hown (hw _ (List.mem_of_getElem? (i := 75) rfl)) e0 (Ins.self Eb) (hb hby d15_1) ?_
  intro T228 X228 e228
  refine E.ifN (q := 7) X228 hx (hb hby d15_4) (XT.i0_eq_f (by decide)) ?_
  refine E.aloadN (q := 8) X228 hx (hb hby d15_7) rfl rfl ?_
  refine Ends.getF X228 hx hZ hown (host := "") (Or.inl (hw _ (List.mem_of_getElem? (i := 62) rfl))) Via.refl e228 Fk1 (hb hby d15_8) ?_
  intro T229 X229 e229
  refine E.aloadN (q := 12) X229 hx (hb hby d15_11) rfl rfl ?_
  refine Ends.castY X229 hx hZ hown (hw _ (List.mem_of_getElem? (i := 75) rfl)) e229 (Ins.self Eb) (hb hby d15_12) ?_
  intro T230 X230 e230
  refine Ends.getF X230 hx hZ hown (host := "") (Or.inl (hw _ (List.mem_of_getElem? (i := 62) rfl))) Via.refl e230 Fk1 (hb hby d15_15) ?_
  intro T231 X231 e231
  refine Ends.callV X231 hx hZ hown (hw _ (List.mem_of_getElem? (i := 77) rfl)) (hw _ (List.mem_of_getElem? (i := 78) rfl)) (hw _ (List.mem_of_getElem? (i := 80) rfl)) (hw _ (List.mem_of_getElem? (i := 79) rfl)) (hw _ (List.mem_of_getElem? (i := 12) rfl)) (hw _ (List.mem_of_getElem? (i := 81) rfl)) (by decide) (argsL := [(.ref k1)]) (rest := []) e231 Ek1 (rmSame l Z a0 hw k1 _) (W := 0) (by decide) (by decide) (by rw [hml]; rfl) (lenOf pd_9 rfl) (Nat.le_of_eq rfl) (hb hby d15_18) (by decide) (by decide) rfl ?_
  rintro T232 v232 L232 X232 ⟨rfl, e232, rfl⟩
  rw [List.append_nil] at X232
  show Ends none p e below s _ _ _ T232 (mkF m 21 #[.val (.ref oa), .val (.ref oa)] [(.int (1 : Int32))])
  refine E.ifN (q := 24) X232 hx (hb hby d15_21) (XT.i0_eq_f (by decide)) ?_
  refine E.aloadN (q := 25) X232 hx (hb hby d15_24) rfl rfl ?_
  refine Ends.getF X232 hx hZ hown (host := "") (Or.inl (hw _ (List.mem_of_getElem? (i := 65) rfl))) Via.refl e232 Fv1 (hb hby d15_25) ?_
  intro T233 X233 e233
  refine E.aloadN (q := 29) X233 hx (hb hby d15_28) rfl rfl ?_
  refine Ends.castY X233 hx hZ hown (hw _ (List.mem_of_getElem? (i := 75) rfl)) e233 (Ins.self Eb) (hb hby d15_29) ?_
  intro T234 X234 e234
  refine Ends.getF X234 hx hZ hown (host := "") (Or.inl (hw _ (List.mem_of_getElem? (i := 65) rfl))) Via.refl e234 Fv1 (hb hby d15_32) ?_
  intro T235 X235 e235
  refine Ends.callV X235 hx hZ hown (hw _ (List.mem_of_getElem? (i := 77) rfl)) (hw _ (List.mem_of_getElem? (i := 78) rfl)) (hw _ (List.mem_of_getElem? (i := 80) rfl)) (hw _ (List.mem_of_getElem? (i := 79) rfl)) (hw _ (List.mem_of_getElem? (i := 12) rfl)) (hw _ (List.mem_of_getElem? (i := 81) rfl)) (by decide) (argsL := [(.ref v1)]) (rest := []) e235 Ev1 (rmSame l Z a0 hw v1 _) (W := 0) (by decide) (by decide) (by rw [hml]; rfl) (lenOf pd_9 rfl) (Nat.le_of_eq rfl) (hb hby d15_35) (by decide) (by decide) rfl ?_
  rintro T236 v236 L236 X236 ⟨rfl, e236, rfl⟩
  rw [List.append_nil] at X236
  show Ends none p e below s _ _ _ T236 (mkF m 38 #[.val (.ref oa), .val (.ref oa)] [(.int (1 : Int32))])
  refine E.ifN (q := 41) X236 hx (hb hby d15_38) (XT.i0_eq_f (by decide)) ?_
  refine E.iconst (q := 42) (v := (1 : Int32)) X236 hx (hb hby d15_41) rfl ?_
  refine E.goto (q := 46) X236 hx (hb hby d15_42) ?_
  exact Ends.retS X236 hx hlk hret (by simp) rfl (hb hby d15_46) (by decide) (by decide) ⟨rfl, e236, rfl⟩
theorem efEn (m : MethodId) (x0 : Addr) : entryFrame m #[(.ref x0), .null] 2 = mkF m 0 #[.val (.ref x0), .val .null] [] := by first | (simp [entryFrame, mkF, argsToLocals, Value.category]; done) | rfl
set_option maxRecDepth 65536 in
set_option maxHeartbeats 40000000 in
theorem rmEn (l : Launch) (Z : State) (a0 : Array Value) (hw : ∀ d ∈ tables_1, d.before a0 Z = true) (oa : Addr) (h0 : Heap) :
    Con l (⟨"com/example/people_in_groups/peopleingroups/model/CustomPair", "equals", "(Ljava/lang/Object;)Z"⟩ : MethodName) prog_5_method_4_code 2 (some .boolean) [] ({ frames := 0, cells := 0, slots := 0, locals := 0 } : Room) #[(.ref oa), .null] Z h0 (fun v h L => v = some (.int (0 : Int32)) ∧ h = h0 ∧ L = []) := by
  refine Con.of (plainFor_of_name pn_5) ?_
  intro p e s m below meth c s₁ hx hZ hby hml hown hnm hret hlk X0 e0
  refine Ends.cast (efEn m oa) ?_
  show Ends none p e below s _ _ _ s₁ (mkF m 0 #[.val (.ref oa), .val .null] [])
  have O0 := Ok.refl h0 []
  refine E.aloadN (q := 1) X0 hx (hb hby d15_0) rfl rfl ?_
  refine Ends.instNull X0 hx (hb hby d15_1) ?_
  refine E.ifY (q := 45) X0 hx (hb hby d15_4) (XT.i0_eq_t (by decide)) ?_
  refine E.iconst (q := 46) (v := (0 : Int32)) X0 hx (hb hby d15_45) rfl ?_
  exact Ends.retS X0 hx hlk hret (by simp) rfl (hb hby d15_46) (by decide) (by decide) ⟨rfl, e0, rfl⟩
theorem efEt (m : MethodId) (x0 : Addr) (x1 : Addr) : entryFrame m #[(.ref x0), (.ref x1)] 2 = mkF m 0 #[.val (.ref x0), .val (.ref x1)] [] := by first | (simp [entryFrame, mkF, argsToLocals, Value.category]; done) | rfl
set_option maxRecDepth 65536 in
set_option maxHeartbeats 40000000 in
theorem rmEt (l : Launch) (Z : State) (a0 : Array Value) (hw : ∀ d ∈ tables_1, d.before a0 Z = true) (oa : Addr) (ob : Addr) (h0 : Heap) (Eb : Exa Z h0 ob "java/lang/String") :
    Con l (⟨"com/example/people_in_groups/peopleingroups/model/CustomPair", "equals", "(Ljava/lang/Object;)Z"⟩ : MethodName) prog_5_method_4_code 2 (some .boolean) [] ({ frames := 0, cells := 0, slots := 0, locals := 0 } : Room) #[(.ref oa), (.ref ob)] Z h0 (fun v h L => v = some (.int (0 : Int32)) ∧ h = h0 ∧ L = []) := by
  refine Con.of (plainFor_of_name pn_5) ?_
  intro p e s m below meth c s₁ hx hZ hby hml hown hnm hret hlk X0 e0
  refine Ends.cast (efEt m oa ob) ?_
  show Ends none p e below s _ _ _ s₁ (mkF m 0 #[.val (.ref oa), .val (.ref ob)] [])
  have O0 := Ok.refl h0 []
  refine E.aloadN (q := 1) X0 hx (hb hby d15_0) rfl rfl ?_
  refine Ends.instNo X0 hx hZ hown (hw _ (List.mem_of_getElem? (i := 75) rfl)) e0 Eb (own_notA (hw _ (List.mem_of_getElem? (i := 87) rfl)) (hw _ (List.mem_of_getElem? (i := 88) rfl)) (hw _ (List.mem_of_getElem? (i := 1) rfl)) (by decide) (by decide)) (hb hby d15_1) ?_
  intro T237 X237 e237
  refine E.ifY (q := 45) X237 hx (hb hby d15_4) (XT.i0_eq_t (by decide)) ?_
  refine E.iconst (q := 46) (v := (0 : Int32)) X237 hx (hb hby d15_45) rfl ?_
  exact Ends.retS X237 hx hlk hret (by simp) rfl (hb hby d15_46) (by decide) (by decide) ⟨rfl, e237, rfl⟩
theorem ef_0 (m : MethodId) (x0 : Int32) (x1 : Int32) (x2 : Int32) (x3 : Int32) (x4 : Int32) : entryFrame m #[(.int x0), (.int x1), (.int x2), (.int x3), (.int x4)] maxLocals = mkF m 0 #[.val (.int x0), .val (.int x1), .val (.int x2), .val (.int x3), .val (.int x4), .unset, .unset, .unset, .unset, .unset, .unset] [] := by first | (simp [entryFrame, mkF, argsToLocals, Value.category, maxLocals]; done) | rfl
set_option maxRecDepth 65536 in
set_option maxHeartbeats 40000000 in
theorem rm0 (l : Launch) (Z : State) (a0 : Array Value) (hw : ∀ d ∈ tables_1, d.before a0 Z = true) (k1 : Int32) (v1 : Int32) (k2 : Int32) (v2 : Int32) (md : Int32) (h0 : Heap) (cs : Int32) (hcs : ¬ cs = (0 : Int32)) (S0 : Sta Z h0 "java/lang/String" "COMPACT_STRINGS" "Z" (.int cs)) :
    ConH l x code maxLocals ret tables_1 room_1 #[(.int k1), (.int v1), (.int k2), (.int v2), (.int md)] Z h0 own_EL (fun v h L => v = some (.int 1) ∧ Fr h0.size L) := by
  refine ConH.of (plainFor_of_name pn_3) ?_
  intro p e s m below meth c s₁ vm0 HC0 hx hZ hby hml hown hnm hret hlk X0 e0
  refine Ends.cast (ef_0 m k1 v1 k2 v2 md) ?_
  show Ends (some (CHr Z own_EL vm0 h0)) p e below s _ _ _ s₁ (mkF m 0 #[.val (.int k1), .val (.int v1), .val (.int k2), .val (.int v2), .val (.int md), .unset, .unset, .unset, .unset, .unset, .unset] [])
  have O0 := Ok.refl h0 []
  refine Ends.newC X0 hx hZ hown (hw _ (List.mem_of_getElem? (i := 0) rfl)) (hw _ (List.mem_of_getElem? (i := 1) rfl)) (hw _ (List.mem_of_getElem? (i := 2) rfl)) e0 (hb hby at_0) (by decide) (by decide) ?_
  intro T238 h238 b238 g238 X238 e238 E238 A238 D238
  have ge_b238 : h0.size ≤ b238 := Nat.le_trans O0.le (Nat.le_of_eq g238.symm)
  have O238 := O0.ext E238
  have HC239 := HC0.trans (CHr.ext E238 HC0.1)
  have F238_key : Fld Z h238 b238 "com/example/people_in_groups/peopleingroups/model/CustomPair" "key" "Ljava/lang/String;" .null := D238 (Or.inr (hw _ (List.mem_of_getElem? (i := 63) rfl))) (ty := (.object "java/lang/String")) (by decide)
  have F238_value : Fld Z h238 b238 "com/example/people_in_groups/peopleingroups/model/CustomPair" "value" "Ljava/lang/String;" .null := D238 (Or.inr (hw _ (List.mem_of_getElem? (i := 66) rfl))) (ty := (.object "java/lang/String")) (by decide)
  refine E.dup (q := 4) X238 hx (hb hby at_3) rfl ?_
  refine E.iloadN (q := 5) X238 hx (hb hby at_4) rfl ?_
  refine Ends.callSH X238 hx hZ hown (hw _ (List.mem_of_getElem? (i := 3) rfl)) (hw _ (List.mem_of_getElem? (i := 4) rfl)) (hw _ (List.mem_of_getElem? (i := 5) rfl)) (hw _ (List.mem_of_getElem? (i := 6) rfl)) (by decide) (argsL := [(.int k1)]) (rest := [(.ref b238), (.ref b238)]) e238 (Nat.zero_le _) (own_EW hw) HC239.1 (rm1 l Z a0 hw k1 _ cs hcs (own_sta_keep S0 O238.1 own_ns0)) (W := 2) (by decide) (by decide) (by rw [hml]; rfl) (lenOf pd_10 rfl) (Nat.le_of_eq rfl) (hb hby at_5) (by decide) (by decide) rfl ?_
  rintro s T240 v240 L240 X240 hc240 hZ hown ⟨a240, U240, rfl, ga240, hO240, Ea240, Fv240, Fc240, A240⟩
  have e240 : T240.heap = T240.heap := rfl
  have O240 := O238.call hO240 all0
  have HC241 := HC239.trans hc240
  show Ends (some (CHr Z own_EL vm0 h0)) p e below s _ _ _ T240 (mkF m 8 #[.val (.int k1), .val (.int v1), .val (.int k2), .val (.int v2), .val (.int md), .unset, .unset, .unset, .unset, .unset, .unset] [(.ref a240), (.ref b238), (.ref b238)])
  have f242 := A238.keep hO240.1
  have nU240 : U240 ≠ b238 := own_ne_ea (hw _ (List.mem_of_getElem? (i := 1) rfl)) f242 A240
  refine E.iloadN (q := 9) X240 hx (hb hby at_8) rfl ?_
  refine Ends.callSH X240 hx hZ hown (hw _ (List.mem_of_getElem? (i := 3) rfl)) (hw _ (List.mem_of_getElem? (i := 4) rfl)) (hw _ (List.mem_of_getElem? (i := 5) rfl)) (hw _ (List.mem_of_getElem? (i := 6) rfl)) (by decide) (argsL := [(.int v1)]) (rest := [(.ref a240), (.ref b238), (.ref b238)]) e240 (Nat.le_refl _) (own_EW hw) HC241.1 (rm1 l Z a0 hw v1 _ cs hcs (own_sta_keep S0 O240.1 own_ns0)) (W := 3) (by decide) (by decide) (by rw [hml]; rfl) (lenOf pd_10 rfl) (Nat.le_of_eq rfl) (hb hby at_9) (by decide) (by decide) rfl ?_
  rintro s T243 v243 L243 X243 hc243 hZ hown ⟨a243, U243, rfl, ga243, hO243, Ea243, Fv243, Fc243, A243⟩
  have e243 : T243.heap = T243.heap := rfl
  have O243 := O240.call hO243 all0
  have HC244 := HC241.trans hc243
  show Ends (some (CHr Z own_EL vm0 h0)) p e below s _ _ _ T243 (mkF m 12 #[.val (.int k1), .val (.int v1), .val (.int k2), .val (.int v2), .val (.int md), .unset, .unset, .unset, .unset, .unset, .unset] [(.ref a243), (.ref a240), (.ref b238), (.ref b238)])
  have f245 := f242.keep hO243.1
  have nU243 : U243 ≠ b238 := own_ne_ea (hw _ (List.mem_of_getElem? (i := 1) rfl)) f245 A243
  have f246 := F238_key.keep hO240.1 nin0
  have f247 := f246.keep hO243.1 nin0
  have f248 := F238_value.keep hO240.1 nin0
  have f249 := f248.keep hO243.1 nin0
  have f250 := Ea240.keep hO243.1
  refine Ends.callIH X243 hx hZ hown (hw _ (List.mem_of_getElem? (i := 52) rfl)) (hw _ (List.mem_of_getElem? (i := 53) rfl)) (hw _ (List.mem_of_getElem? (i := 2) rfl)) (hw _ (List.mem_of_getElem? (i := 54) rfl)) rfl (by decide) (argsL := [(.ref a240), (.ref a243)]) (rest := [(.ref b238)]) e243 (Nat.le_refl _) (own_EW hw) HC244.1 (rm12 l Z a0 hw b238 a240 a243 _ f245 f247 f249 f250 Ea243) (W := 1) (by decide) (by decide) (by rw [hml]; rfl) (lenOf pd_11 rfl) (Nat.le_of_eq rfl) (hb hby at_12) (by decide) (by decide) rfl ?_
  rintro s T251 v251 L251 X251 hc251 hZ hown ⟨rfl, hO251, Fk251, Fv251⟩
  have e251 : T251.heap = T251.heap := rfl
  have O251 := O243.call hO251 (allS (Or.inr ge_b238) all0)
  have HC252 := HC244.trans hc251
  show Ends (some (CHr Z own_EL vm0 h0)) p e below s _ _ _ T251 (mkF m 15 #[.val (.int k1), .val (.int v1), .val (.int k2), .val (.int v2), .val (.int md), .unset, .unset, .unset, .unset, .unset, .unset] [(.ref b238)])
  refine E.astore (q := 17) (l' := #[.val (.int k1), .val (.int v1), .val (.int k2), .val (.int v2), .val (.int md), .val (.ref b238), .unset, .unset, .unset, .unset, .unset]) X251 hx (hb hby at_15) rfl rfl ?_
  refine E.iload (q := 19) X251 hx (hb hby at_17) rfl ?_
  refine E.iconst (q := 20) (v := (3 : Int32)) X251 hx (hb hby at_19) rfl ?_
  refine E.iand (q := 21) X251 hx (hb hby at_20) ?_
  refine E.istore (q := 23) (l' := #[.val (.int k1), .val (.int v1), .val (.int k2), .val (.int v2), .val (.int md), .val (.ref b238), .val (.int (md &&& (3 : Int32))), .unset, .unset, .unset, .unset]) X251 hx (hb hby at_21) rfl ?_
  refine E.iload (q := 25) X251 hx (hb hby at_23) rfl ?_
  refine E.iconst (q := 26) (v := (1 : Int32)) X251 hx (hb hby at_25) rfl ?_
  by_cases h1 : (md &&& (3 : Int32)) = (1 : Int32)
  · refine E.icmpN (q := 29) X251 hx (hb hby at_26) (XT.ii_ne_f h1) ?_
    refine E.aload (q := 31) X251 hx (hb hby at_29) rfl rfl ?_
    refine E.aconstNull (q := 32) X251 hx (hb hby at_31) ?_
    have f253 := f245.keep hO251.1
    refine Ends.callV X251 hx hZ hown (hw _ (List.mem_of_getElem? (i := 70) rfl)) (hw _ (List.mem_of_getElem? (i := 71) rfl)) (hw _ (List.mem_of_getElem? (i := 73) rfl)) (hw _ (List.mem_of_getElem? (i := 72) rfl)) (hw _ (List.mem_of_getElem? (i := 2) rfl)) (hw _ (List.mem_of_getElem? (i := 74) rfl)) (by decide) (argsL := [.null]) (rest := []) e251 f253 (rmEn l Z a0 hw b238 _) (W := 0) (by decide) (by decide) (by rw [hml]; rfl) (lenOf pd_9 rfl) (Nat.le_of_eq rfl) (hb hby at_32) (by decide) (by decide) rfl ?_
    rintro T254 v254 L254 X254 ⟨rfl, e254, rfl⟩
    rw [List.append_nil] at X254
    show Ends (some (CHr Z own_EL vm0 h0)) p e below s _ _ _ T254 (mkF m 35 #[.val (.int k1), .val (.int v1), .val (.int k2), .val (.int v2), .val (.int md), .val (.ref b238), .val (.int (md &&& (3 : Int32))), .unset, .unset, .unset, .unset] [(.int (0 : Int32))])
    refine E.ifN (q := 38) X254 hx (hb hby at_35) (XT.i0_ne_f (by decide)) ?_
    refine E.iconst (q := 39) (v := (1 : Int32)) X254 hx (hb hby at_38) rfl ?_
    refine E.goto (q := 43) X254 hx (hb hby at_39) ?_
    exact Ends.retS X254 hx hlk hret (by simp) rfl (hb hby at_43) (by decide) (by decide) ⟨⟨rfl, (O251).fr⟩, by first | exact (Nat.le_refl _) | (rw [e254]; exact (Nat.le_refl _))⟩ (hF := own_chret X254 hZ (own_EW hw) HC252 (by first | rfl | assumption))
  · refine E.icmpY (q := 44) X251 hx (hb hby at_26) (XT.ii_ne_t h1) ?_
    refine E.iload (q := 46) X251 hx (hb hby at_44) rfl ?_
    refine E.iconst (q := 47) (v := (2 : Int32)) X251 hx (hb hby at_46) rfl ?_
    by_cases h2 : (md &&& (3 : Int32)) = (2 : Int32)
    · refine E.icmpN (q := 50) X251 hx (hb hby at_47) (XT.ii_ne_f h2) ?_
      refine E.aload (q := 52) X251 hx (hb hby at_50) rfl rfl ?_
      refine E.iloadN (q := 53) X251 hx (hb hby at_52) rfl ?_
      refine Ends.callSH X251 hx hZ hown (hw _ (List.mem_of_getElem? (i := 3) rfl)) (hw _ (List.mem_of_getElem? (i := 4) rfl)) (hw _ (List.mem_of_getElem? (i := 5) rfl)) (hw _ (List.mem_of_getElem? (i := 6) rfl)) (by decide) (argsL := [(.int k1)]) (rest := [(.ref b238)]) e251 (Nat.le_refl _) (own_EW hw) HC252.1 (rm1 l Z a0 hw k1 _ cs hcs (own_sta_keep S0 O251.1 own_ns0)) (W := 1) (by decide) (by decide) (by rw [hml]; rfl) (lenOf pd_10 rfl) (Nat.le_of_eq rfl) (hb hby at_53) (by decide) (by decide) rfl ?_
      rintro s T255 v255 L255 X255 hc255 hZ hown ⟨a255, U255, rfl, ga255, hO255, Ea255, Fv255, Fc255, A255⟩
      have e255 : T255.heap = T255.heap := rfl
      have O255 := O251.call hO255 all0
      have HC256 := HC252.trans hc255
      show Ends (some (CHr Z own_EL vm0 h0)) p e below s _ _ _ T255 (mkF m 56 #[.val (.int k1), .val (.int v1), .val (.int k2), .val (.int v2), .val (.int md), .val (.ref b238), .val (.int (md &&& (3 : Int32))), .unset, .unset, .unset, .unset] [(.ref a255), (.ref b238)])
      have f257 := f245.keep hO251.1
      have f258 := f257.keep hO255.1
      refine Ends.callV X255 hx hZ hown (hw _ (List.mem_of_getElem? (i := 70) rfl)) (hw _ (List.mem_of_getElem? (i := 71) rfl)) (hw _ (List.mem_of_getElem? (i := 73) rfl)) (hw _ (List.mem_of_getElem? (i := 72) rfl)) (hw _ (List.mem_of_getElem? (i := 2) rfl)) (hw _ (List.mem_of_getElem? (i := 74) rfl)) (by decide) (argsL := [(.ref a255)]) (rest := []) e255 f258 (rmEt l Z a0 hw b238 a255 _ Ea255) (W := 0) (by decide) (by decide) (by rw [hml]; rfl) (lenOf pd_9 rfl) (Nat.le_of_eq rfl) (hb hby at_56) (by decide) (by decide) rfl ?_
      rintro T259 v259 L259 X259 ⟨rfl, e259, rfl⟩
      rw [List.append_nil] at X259
      show Ends (some (CHr Z own_EL vm0 h0)) p e below s _ _ _ T259 (mkF m 59 #[.val (.int k1), .val (.int v1), .val (.int k2), .val (.int v2), .val (.int md), .val (.ref b238), .val (.int (md &&& (3 : Int32))), .unset, .unset, .unset, .unset] [(.int (0 : Int32))])
      refine E.ifN (q := 62) X259 hx (hb hby at_59) (XT.i0_ne_f (by decide)) ?_
      refine E.iconst (q := 63) (v := (1 : Int32)) X259 hx (hb hby at_62) rfl ?_
      refine E.goto (q := 67) X259 hx (hb hby at_63) ?_
      exact Ends.retS X259 hx hlk hret (by simp) rfl (hb hby at_67) (by decide) (by decide) ⟨⟨rfl, (O255).fr⟩, by first | exact (Nat.le_refl _) | (rw [e259]; exact (Nat.le_refl _))⟩ (hF := own_chret X259 hZ (own_EW hw) HC256 (by first | rfl | assumption))
    · refine E.icmpY (q := 68) X251 hx (hb hby at_47) (XT.ii_ne_t h2) ?_
      refine E.iload (q := 70) X251 hx (hb hby at_68) rfl ?_
      refine E.iconst (q := 71) (v := (3 : Int32)) X251 hx (hb hby at_70) rfl ?_
      by_cases h3 : (md &&& (3 : Int32)) = (3 : Int32)
      · refine E.icmpN (q := 74) X251 hx (hb hby at_71) (XT.ii_ne_f h3) ?_
        refine E.aload (q := 76) X251 hx (hb hby at_74) rfl rfl ?_
        refine E.aload (q := 78) X251 hx (hb hby at_76) rfl rfl ?_
        have f260 := f245.keep hO251.1
        have f261 := f250.keep hO251.1
        have f262 := Ea243.keep hO251.1
        refine Ends.callV X251 hx hZ hown (hw _ (List.mem_of_getElem? (i := 70) rfl)) (hw _ (List.mem_of_getElem? (i := 71) rfl)) (hw _ (List.mem_of_getElem? (i := 73) rfl)) (hw _ (List.mem_of_getElem? (i := 72) rfl)) (hw _ (List.mem_of_getElem? (i := 2) rfl)) (hw _ (List.mem_of_getElem? (i := 74) rfl)) (by decide) (argsL := [(.ref b238)]) (rest := []) e251 f260 (rmEs l Z a0 hw b238 a240 a243 _ f260 Fk251 Fv251 f261 f262) (W := 0) (by decide) (by decide) (by rw [hml]; rfl) (lenOf pd_9 rfl) (Nat.le_of_eq rfl) (hb hby at_78) (by decide) (by decide) rfl ?_
        rintro T263 v263 L263 X263 ⟨rfl, e263, rfl⟩
        rw [List.append_nil] at X263
        show Ends (some (CHr Z own_EL vm0 h0)) p e below s _ _ _ T263 (mkF m 81 #[.val (.int k1), .val (.int v1), .val (.int k2), .val (.int v2), .val (.int md), .val (.ref b238), .val (.int (md &&& (3 : Int32))), .unset, .unset, .unset, .unset] [(.int (1 : Int32))])
        exact Ends.retS X263 hx hlk hret (by simp) rfl (hb hby at_81) (by decide) (by decide) ⟨⟨rfl, (O251).fr⟩, by first | exact (Nat.le_refl _) | (rw [e263]; exact (Nat.le_refl _))⟩ (hF := own_chret X263 hZ (own_EW hw) HC252 (by first | rfl | assumption))
      · refine E.icmpY (q := 82) X251 hx (hb hby at_71) (XT.ii_ne_t h3) ?_
        refine E.iload (q := 84) X251 hx (hb hby at_82) rfl ?_
        refine E.iconst (q := 85) (v := (4 : Int32)) X251 hx (hb hby at_84) rfl ?_
        refine E.iand (q := 86) X251 hx (hb hby at_85) ?_
        have Jkk : ∀ kk2 : Int32, Ends (some (CHr Z own_EL vm0 h0)) p e below s (Fl (fun v h L => v = some (.int 1) ∧ Fr h0.size L) T251.heap.size) room_1.cells room_1.slots T251 (mkF m 94 #[.val (.int k1), .val (.int v1), .val (.int k2), .val (.int v2), .val (.int md), .val (.ref b238), .val (.int (md &&& (3 : Int32))), .unset, .unset, .unset, .unset] [(.int kk2)]) := by
          intro kk2
          show Ends (some (CHr Z own_EL vm0 h0)) p e below s _ _ _ T251 (mkF m 94 #[.val (.int k1), .val (.int v1), .val (.int k2), .val (.int v2), .val (.int md), .val (.ref b238), .val (.int (md &&& (3 : Int32))), .unset, .unset, .unset, .unset] [(.int kk2)])
          refine E.istore (q := 96) (l' := #[.val (.int k1), .val (.int v1), .val (.int k2), .val (.int v2), .val (.int md), .val (.ref b238), .val (.int (md &&& (3 : Int32))), .val (.int kk2), .unset, .unset, .unset]) X251 hx (hb hby at_94) rfl ?_
          refine E.iload (q := 98) X251 hx (hb hby at_96) rfl ?_
          refine E.bipush (q := 100) (v := (8 : Int32)) X251 hx (hb hby at_98) rfl ?_
          refine E.iand (q := 101) X251 hx (hb hby at_100) ?_
          have Jvv : ∀ vv2 : Int32, Ends (some (CHr Z own_EL vm0 h0)) p e below s (Fl (fun v h L => v = some (.int 1) ∧ Fr h0.size L) T251.heap.size) room_1.cells room_1.slots T251 (mkF m 109 #[.val (.int k1), .val (.int v1), .val (.int k2), .val (.int v2), .val (.int md), .val (.ref b238), .val (.int (md &&& (3 : Int32))), .val (.int kk2), .unset, .unset, .unset] [(.int vv2)]) := by
            intro vv2
            show Ends (some (CHr Z own_EL vm0 h0)) p e below s _ _ _ T251 (mkF m 109 #[.val (.int k1), .val (.int v1), .val (.int k2), .val (.int v2), .val (.int md), .val (.ref b238), .val (.int (md &&& (3 : Int32))), .val (.int kk2), .unset, .unset, .unset] [(.int vv2)])
            refine E.istore (q := 111) (l' := #[.val (.int k1), .val (.int v1), .val (.int k2), .val (.int v2), .val (.int md), .val (.ref b238), .val (.int (md &&& (3 : Int32))), .val (.int kk2), .val (.int vv2), .unset, .unset]) X251 hx (hb hby at_109) rfl ?_
            refine Ends.newC X251 hx hZ hown (hw _ (List.mem_of_getElem? (i := 0) rfl)) (hw _ (List.mem_of_getElem? (i := 1) rfl)) (hw _ (List.mem_of_getElem? (i := 2) rfl)) e251 (hb hby at_111) (by decide) (by decide) ?_
            intro T264 h264 b264 g264 X264 e264 E264 A264 D264
            have ge_b264 : h0.size ≤ b264 := Nat.le_trans O251.le (Nat.le_of_eq g264.symm)
            have O264 := O251.ext E264
            have HC265 := HC252.trans (CHr.ext E264 HC252.1)
            have F264_key : Fld Z h264 b264 "com/example/people_in_groups/peopleingroups/model/CustomPair" "key" "Ljava/lang/String;" .null := D264 (Or.inr (hw _ (List.mem_of_getElem? (i := 63) rfl))) (ty := (.object "java/lang/String")) (by decide)
            have F264_value : Fld Z h264 b264 "com/example/people_in_groups/peopleingroups/model/CustomPair" "value" "Ljava/lang/String;" .null := D264 (Or.inr (hw _ (List.mem_of_getElem? (i := 66) rfl))) (ty := (.object "java/lang/String")) (by decide)
            refine E.dup (q := 115) X264 hx (hb hby at_114) rfl ?_
            refine E.iload (q := 117) X264 hx (hb hby at_115) rfl ?_
            refine Ends.callSH X264 hx hZ hown (hw _ (List.mem_of_getElem? (i := 3) rfl)) (hw _ (List.mem_of_getElem? (i := 4) rfl)) (hw _ (List.mem_of_getElem? (i := 5) rfl)) (hw _ (List.mem_of_getElem? (i := 6) rfl)) (by decide) (argsL := [(.int kk2)]) (rest := [(.ref b264), (.ref b264)]) e264 (Nat.le_trans (Nat.le_refl _) E264.1) (own_EW hw) HC265.1 (rm1 l Z a0 hw kk2 _ cs hcs (own_sta_keep S0 O264.1 own_ns0)) (W := 2) (by decide) (by decide) (by rw [hml]; rfl) (lenOf pd_10 rfl) (Nat.le_of_eq rfl) (hb hby at_117) (by decide) (by decide) rfl ?_
            rintro s T266 v266 L266 X266 hc266 hZ hown ⟨a266, U266, rfl, ga266, hO266, Ea266, Fv266, Fc266, A266⟩
            have e266 : T266.heap = T266.heap := rfl
            have O266 := O264.call hO266 all0
            have HC267 := HC265.trans hc266
            show Ends (some (CHr Z own_EL vm0 h0)) p e below s _ _ _ T266 (mkF m 120 #[.val (.int k1), .val (.int v1), .val (.int k2), .val (.int v2), .val (.int md), .val (.ref b238), .val (.int (md &&& (3 : Int32))), .val (.int kk2), .val (.int vv2), .unset, .unset] [(.ref a266), (.ref b264), (.ref b264)])
            have f268 := A264.keep hO266.1
            have nU266 : U266 ≠ b264 := own_ne_ea (hw _ (List.mem_of_getElem? (i := 1) rfl)) f268 A266
            refine E.iload (q := 122) X266 hx (hb hby at_120) rfl ?_
            refine Ends.callSH X266 hx hZ hown (hw _ (List.mem_of_getElem? (i := 3) rfl)) (hw _ (List.mem_of_getElem? (i := 4) rfl)) (hw _ (List.mem_of_getElem? (i := 5) rfl)) (hw _ (List.mem_of_getElem? (i := 6) rfl)) (by decide) (argsL := [(.int vv2)]) (rest := [(.ref a266), (.ref b264), (.ref b264)]) e266 (Nat.le_refl _) (own_EW hw) HC267.1 (rm1 l Z a0 hw vv2 _ cs hcs (own_sta_keep S0 O266.1 own_ns0)) (W := 3) (by decide) (by decide) (by rw [hml]; rfl) (lenOf pd_10 rfl) (Nat.le_of_eq rfl) (hb hby at_122) (by decide) (by decide) rfl ?_
            rintro s T269 v269 L269 X269 hc269 hZ hown ⟨a269, U269, rfl, ga269, hO269, Ea269, Fv269, Fc269, A269⟩
            have e269 : T269.heap = T269.heap := rfl
            have O269 := O266.call hO269 all0
            have HC270 := HC267.trans hc269
            show Ends (some (CHr Z own_EL vm0 h0)) p e below s _ _ _ T269 (mkF m 125 #[.val (.int k1), .val (.int v1), .val (.int k2), .val (.int v2), .val (.int md), .val (.ref b238), .val (.int (md &&& (3 : Int32))), .val (.int kk2), .val (.int vv2), .unset, .unset] [(.ref a269), (.ref a266), (.ref b264), (.ref b264)])
            have f271 := f268.keep hO269.1
            have nU269 : U269 ≠ b264 := own_ne_ea (hw _ (List.mem_of_getElem? (i := 1) rfl)) f271 A269
            have f272 := F264_key.keep hO266.1 nin0
            have f273 := f272.keep hO269.1 nin0
            have f274 := F264_value.keep hO266.1 nin0
            have f275 := f274.keep hO269.1 nin0
            have f276 := Ea266.keep hO269.1
            refine Ends.callIH X269 hx hZ hown (hw _ (List.mem_of_getElem? (i := 52) rfl)) (hw _ (List.mem_of_getElem? (i := 53) rfl)) (hw _ (List.mem_of_getElem? (i := 2) rfl)) (hw _ (List.mem_of_getElem? (i := 54) rfl)) rfl (by decide) (argsL := [(.ref a266), (.ref a269)]) (rest := [(.ref b264)]) e269 (Nat.le_refl _) (own_EW hw) HC270.1 (rm12 l Z a0 hw b264 a266 a269 _ f271 f273 f275 f276 Ea269) (W := 1) (by decide) (by decide) (by rw [hml]; rfl) (lenOf pd_11 rfl) (Nat.le_of_eq rfl) (hb hby at_125) (by decide) (by decide) rfl ?_
            rintro s T277 v277 L277 X277 hc277 hZ hown ⟨rfl, hO277, Fk277, Fv277⟩
            have e277 : T277.heap = T277.heap := rfl
            have O277 := O269.call hO277 (allS (Or.inr ge_b264) all0)
            have HC278 := HC270.trans hc277
            show Ends (some (CHr Z own_EL vm0 h0)) p e below s _ _ _ T277 (mkF m 128 #[.val (.int k1), .val (.int v1), .val (.int k2), .val (.int v2), .val (.int md), .val (.ref b238), .val (.int (md &&& (3 : Int32))), .val (.int kk2), .val (.int vv2), .unset, .unset] [(.ref b264)])
            refine E.astore (q := 130) (l' := #[.val (.int k1), .val (.int v1), .val (.int k2), .val (.int v2), .val (.int md), .val (.ref b238), .val (.int (md &&& (3 : Int32))), .val (.int kk2), .val (.int vv2), .val (.ref b264), .unset]) X277 hx (hb hby at_128) rfl rfl ?_
            refine E.iloadN (q := 131) X277 hx (hb hby at_130) rfl ?_
            refine E.iload (q := 133) X277 hx (hb hby at_131) rfl ?_
            refine Ends.callS X277 hx hZ hown (hw _ (List.mem_of_getElem? (i := 67) rfl)) (hw _ (List.mem_of_getElem? (i := 68) rfl)) (hw _ (List.mem_of_getElem? (i := 5) rfl)) (hw _ (List.mem_of_getElem? (i := 69) rfl)) (by decide) (argsL := [(.int k1), (.int kk2)]) (rest := []) e277 (rm14 l Z a0 hw k1 kk2 _) (W := 0) (by decide) (by decide) (by rw [hml]; rfl) (lenOf pd_12 rfl) (Nat.le_of_eq rfl) (hb hby at_133) (by decide) (by decide) rfl ?_
            rintro T279 v279 L279 X279 ⟨rfl, e279, rfl⟩
            rw [List.append_nil] at X279
            show Ends (some (CHr Z own_EL vm0 h0)) p e below s _ _ _ T279 (mkF m 136 #[.val (.int k1), .val (.int v1), .val (.int k2), .val (.int v2), .val (.int md), .val (.ref b238), .val (.int (md &&& (3 : Int32))), .val (.int kk2), .val (.int vv2), .val (.ref b264), .unset] [(.int (if own_s k1 = own_s kk2 then (1 : Int32) else 0))])
            by_cases hs1 : (if own_s k1 = own_s kk2 then (1 : Int32) else 0) = (0 : Int32)
            · refine E.ifY (q := 152) X279 hx (hb hby at_136) (XT.i0_eq_t hs1) ?_
              refine E.iconst (q := 153) (v := (0 : Int32)) X279 hx (hb hby at_152) rfl ?_
              have hxv : (if (own_s k1) = (own_s kk2) ∧ (own_s v1) = (own_s vv2) then (1 : Int32) else 0) = (0 : Int32) := (by rw [if_neg (fun q => by rw [if_pos q.1] at hs1; exact absurd hs1 (by decide))])
              refine E.istore (q := 155) (l' := #[.val (.int k1), .val (.int v1), .val (.int k2), .val (.int v2), .val (.int md), .val (.ref b238), .val (.int (md &&& (3 : Int32))), .val (.int kk2), .val (.int vv2), .val (.ref b264), .val (.int (0 : Int32))]) X279 hx (hb hby at_153) rfl ?_
              refine E.aload (q := 157) X279 hx (hb hby at_155) rfl rfl ?_
              refine E.aload (q := 159) X279 hx (hb hby at_157) rfl rfl ?_
              have f280 := f271.keep hO277.1
              have f281 := Fk251.ext E264
              have f282 := f281.keep hO266.1 nin0
              have f283 := f282.keep hO269.1 nin0
              have f284 := f245.keep hO251.1
              have f285 := f283.keep hO277.1 (ninS (Nat.ne_of_lt (Nat.lt_of_lt_of_eq f284.lt g264.symm)) nin0)
              have f286 := Fv251.ext E264
              have f287 := f286.keep hO266.1 nin0
              have f288 := f287.keep hO269.1 nin0
              have f289 := f288.keep hO277.1 (ninS (Nat.ne_of_lt (Nat.lt_of_lt_of_eq f284.lt g264.symm)) nin0)
              have f290 := f250.keep hO251.1
              have f291 := f290.ext E264
              have f292 := f291.keep hO266.1
              have f293 := f292.keep hO269.1
              have f294 := f293.keep hO277.1
              have f295 := Fv240.keep hO243.1 nin0
              have f296 := f295.keep hO251.1 (ninS (Ne.symm (Nat.ne_of_lt (Nat.lt_of_lt_of_le A238.lt ga240))) nin0)
              have f297 := f296.ext E264
              have f298 := f297.keep hO266.1 nin0
              have f299 := f298.keep hO269.1 nin0
              have f300 := f299.keep hO277.1 (ninS (Nat.ne_of_lt (Nat.lt_of_lt_of_eq f290.lt g264.symm)) nin0)
              have f301 := Fc240.keep hO243.1 nin0
              have f302 := f301.keep hO251.1 (ninS (Ne.symm (Nat.ne_of_lt (Nat.lt_of_lt_of_le A238.lt ga240))) nin0)
              have f303 := f302.ext E264
              have f304 := f303.keep hO266.1 nin0
              have f305 := f304.keep hO269.1 nin0
              have f306 := f305.keep hO277.1 (ninS (Nat.ne_of_lt (Nat.lt_of_lt_of_eq f290.lt g264.symm)) nin0)
              have f307 := A240.keep hO243.1 nin0
              have f308 := f307.keep hO251.1 (ninS nU240 nin0)
              have f309 := f308.ext E264
              have f310 := f309.keep hO266.1 nin0
              have f311 := f310.keep hO269.1 nin0
              have f312 := f311.keep hO277.1 (ninS (Nat.ne_of_lt (Nat.lt_of_lt_of_eq f308.lt g264.symm)) nin0)
              have f313 := Ea243.keep hO251.1
              have f314 := f313.ext E264
              have f315 := f314.keep hO266.1
              have f316 := f315.keep hO269.1
              have f317 := f316.keep hO277.1
              have f318 := Fv243.keep hO251.1 (ninS (Ne.symm (Nat.ne_of_lt (Nat.lt_of_lt_of_le f242.lt ga243))) nin0)
              have f319 := f318.ext E264
              have f320 := f319.keep hO266.1 nin0
              have f321 := f320.keep hO269.1 nin0
              have f322 := f321.keep hO277.1 (ninS (Nat.ne_of_lt (Nat.lt_of_lt_of_eq f313.lt g264.symm)) nin0)
              have f323 := Fc243.keep hO251.1 (ninS (Ne.symm (Nat.ne_of_lt (Nat.lt_of_lt_of_le f242.lt ga243))) nin0)
              have f324 := f323.ext E264
              have f325 := f324.keep hO266.1 nin0
              have f326 := f325.keep hO269.1 nin0
              have f327 := f326.keep hO277.1 (ninS (Nat.ne_of_lt (Nat.lt_of_lt_of_eq f313.lt g264.symm)) nin0)
              have f328 := A243.keep hO251.1 (ninS nU243 nin0)
              have f329 := f328.ext E264
              have f330 := f329.keep hO266.1 nin0
              have f331 := f330.keep hO269.1 nin0
              have f332 := f331.keep hO277.1 (ninS (Nat.ne_of_lt (Nat.lt_of_lt_of_eq f328.lt g264.symm)) nin0)
              have f333 := f276.keep hO277.1
              have f334 := Fv266.keep hO269.1 nin0
              have f335 := f334.keep hO277.1 (ninS (Ne.symm (Nat.ne_of_lt (Nat.lt_of_lt_of_le A264.lt ga266))) nin0)
              have f336 := Fc266.keep hO269.1 nin0
              have f337 := f336.keep hO277.1 (ninS (Ne.symm (Nat.ne_of_lt (Nat.lt_of_lt_of_le A264.lt ga266))) nin0)
              have f338 := A266.keep hO269.1 nin0
              have f339 := f338.keep hO277.1 (ninS nU266 nin0)
              have f340 := Ea269.keep hO277.1
              have f341 := Fv269.keep hO277.1 (ninS (Ne.symm (Nat.ne_of_lt (Nat.lt_of_lt_of_le f268.lt ga269))) nin0)
              have f342 := Fc269.keep hO277.1 (ninS (Ne.symm (Nat.ne_of_lt (Nat.lt_of_lt_of_le f268.lt ga269))) nin0)
              have f343 := A269.keep hO277.1 (ninS nU269 nin0)
              have f344 := f284.ext E264
              have f345 := f344.keep hO266.1
              have f346 := f345.keep hO269.1
              have f347 := f346.keep hO277.1
              refine Ends.callV X279 hx hZ hown (hw _ (List.mem_of_getElem? (i := 70) rfl)) (hw _ (List.mem_of_getElem? (i := 71) rfl)) (hw _ (List.mem_of_getElem? (i := 73) rfl)) (hw _ (List.mem_of_getElem? (i := 72) rfl)) (hw _ (List.mem_of_getElem? (i := 2) rfl)) (hw _ (List.mem_of_getElem? (i := 74) rfl)) (by decide) (argsL := [(.ref b264)]) (rest := []) e279 f347 (rm15 l Z a0 hw b238 b264 a240 a243 a266 a269 U240 U243 U266 U269 (own_s k1) (own_s v1) (own_s kk2) (own_s vv2) _ f280 f285 f289 Fk277 Fv277 f294 f300 f306 f312 f317 f322 f327 f332 f333 f335 f337 f339 f340 f341 f342 f343 (Nat.ne_of_lt (Nat.lt_of_lt_of_le f291.lt ga266)) (Nat.ne_of_lt (Nat.lt_of_lt_of_le f315.lt ga269)) cs hcs (own_sta_keep S0 O277.1 own_ns0)) (W := 0) (by decide) (by decide) (by rw [hml]; rfl) (lenOf pd_9 rfl) (Nat.le_of_eq rfl) (hb hby at_159) (by decide) (by decide) rfl ?_
              rintro T348 v348 L348 X348 ⟨rfl, e348, rfl⟩
              rw [List.append_nil] at X348
              show Ends (some (CHr Z own_EL vm0 h0)) p e below s _ _ _ T348 (mkF m 162 #[.val (.int k1), .val (.int v1), .val (.int k2), .val (.int v2), .val (.int md), .val (.ref b238), .val (.int (md &&& (3 : Int32))), .val (.int kk2), .val (.int vv2), .val (.ref b264), .val (.int (0 : Int32))] [(.int (if (own_s k1) = (own_s kk2) ∧ (own_s v1) = (own_s vv2) then (1 : Int32) else 0))])
              refine E.iload (q := 164) X348 hx (hb hby at_162) rfl ?_
              refine E.icmpN (q := 167) X348 hx (hb hby at_164) (XT.ii_ne_f hxv) ?_
              refine E.aload (q := 169) X348 hx (hb hby at_167) rfl rfl ?_
              refine E.aload (q := 171) X348 hx (hb hby at_169) rfl rfl ?_
              refine Ends.callV X348 hx hZ hown (hw _ (List.mem_of_getElem? (i := 70) rfl)) (hw _ (List.mem_of_getElem? (i := 71) rfl)) (hw _ (List.mem_of_getElem? (i := 73) rfl)) (hw _ (List.mem_of_getElem? (i := 72) rfl)) (hw _ (List.mem_of_getElem? (i := 2) rfl)) (hw _ (List.mem_of_getElem? (i := 74) rfl)) (by decide) (argsL := [(.ref b238)]) (rest := []) e348 f280 (rm15 l Z a0 hw b264 b238 a266 a269 a240 a243 U266 U269 U240 U243 (own_s kk2) (own_s vv2) (own_s k1) (own_s v1) _ f347 Fk277 Fv277 f285 f289 f333 f335 f337 f339 f340 f341 f342 f343 f294 f300 f306 f312 f317 f322 f327 f332 (Ne.symm (Nat.ne_of_lt (Nat.lt_of_lt_of_le f291.lt ga266))) (Ne.symm (Nat.ne_of_lt (Nat.lt_of_lt_of_le f315.lt ga269))) cs hcs (own_sta_keep S0 O277.1 own_ns0)) (W := 0) (by decide) (by decide) (by rw [hml]; rfl) (lenOf pd_9 rfl) (Nat.le_of_eq rfl) (hb hby at_171) (by decide) (by decide) rfl ?_
              rintro T349 v349 L349 X349 ⟨rfl, e349, rfl⟩
              rw [List.append_nil] at X349
              show Ends (some (CHr Z own_EL vm0 h0)) p e below s _ _ _ T349 (mkF m 174 #[.val (.int k1), .val (.int v1), .val (.int k2), .val (.int v2), .val (.int md), .val (.ref b238), .val (.int (md &&& (3 : Int32))), .val (.int kk2), .val (.int vv2), .val (.ref b264), .val (.int (0 : Int32))] [(.int (if (own_s kk2) = (own_s k1) ∧ (own_s vv2) = (own_s v1) then (1 : Int32) else 0))])
              refine E.iload (q := 176) X349 hx (hb hby at_174) rfl ?_
              refine E.icmpN (q := 179) X349 hx (hb hby at_176) (XT.ii_ne_f (own_sw2.trans hxv)) ?_
              refine E.iconst (q := 180) (v := (1 : Int32)) X349 hx (hb hby at_179) rfl ?_
              refine E.goto (q := 184) X349 hx (hb hby at_180) ?_
              exact Ends.retS X349 hx hlk hret (by simp) rfl (hb hby at_184) (by decide) (by decide) ⟨⟨rfl, (O277).fr⟩, by first | exact (Nat.le_refl _) | (rw [e349]; exact (Nat.le_refl _))⟩ (hF := own_chret X349 hZ (own_EW hw) HC278 (by first | rfl | assumption))
            · refine E.ifN (q := 139) X279 hx (hb hby at_136) (XT.i0_eq_f hs1) ?_
              have hs1' : own_s k1 = own_s kk2 := Classical.byContradiction fun q => hs1 (if_neg q)
              refine E.iloadN (q := 140) X279 hx (hb hby at_139) rfl ?_
              refine E.iload (q := 142) X279 hx (hb hby at_140) rfl ?_
              refine Ends.callS X279 hx hZ hown (hw _ (List.mem_of_getElem? (i := 67) rfl)) (hw _ (List.mem_of_getElem? (i := 68) rfl)) (hw _ (List.mem_of_getElem? (i := 5) rfl)) (hw _ (List.mem_of_getElem? (i := 69) rfl)) (by decide) (argsL := [(.int v1), (.int vv2)]) (rest := []) e279 (rm14 l Z a0 hw v1 vv2 _) (W := 0) (by decide) (by decide) (by rw [hml]; rfl) (lenOf pd_12 rfl) (Nat.le_of_eq rfl) (hb hby at_142) (by decide) (by decide) rfl ?_
              rintro T350 v350 L350 X350 ⟨rfl, e350, rfl⟩
              rw [List.append_nil] at X350
              show Ends (some (CHr Z own_EL vm0 h0)) p e below s _ _ _ T350 (mkF m 145 #[.val (.int k1), .val (.int v1), .val (.int k2), .val (.int v2), .val (.int md), .val (.ref b238), .val (.int (md &&& (3 : Int32))), .val (.int kk2), .val (.int vv2), .val (.ref b264), .unset] [(.int (if own_s v1 = own_s vv2 then (1 : Int32) else 0))])
              by_cases hs2 : (if own_s v1 = own_s vv2 then (1 : Int32) else 0) = (0 : Int32)
              · refine E.ifY (q := 152) X350 hx (hb hby at_145) (XT.i0_eq_t hs2) ?_
                refine E.iconst (q := 153) (v := (0 : Int32)) X350 hx (hb hby at_152) rfl ?_
                have hxv : (if (own_s k1) = (own_s kk2) ∧ (own_s v1) = (own_s vv2) then (1 : Int32) else 0) = (0 : Int32) := (by rw [if_neg (fun q => by rw [if_pos q.2] at hs2; exact absurd hs2 (by decide))])
                refine E.istore (q := 155) (l' := #[.val (.int k1), .val (.int v1), .val (.int k2), .val (.int v2), .val (.int md), .val (.ref b238), .val (.int (md &&& (3 : Int32))), .val (.int kk2), .val (.int vv2), .val (.ref b264), .val (.int (0 : Int32))]) X350 hx (hb hby at_153) rfl ?_
                refine E.aload (q := 157) X350 hx (hb hby at_155) rfl rfl ?_
                refine E.aload (q := 159) X350 hx (hb hby at_157) rfl rfl ?_
                have f351 := f271.keep hO277.1
                have f352 := Fk251.ext E264
                have f353 := f352.keep hO266.1 nin0
                have f354 := f353.keep hO269.1 nin0
                have f355 := f245.keep hO251.1
                have f356 := f354.keep hO277.1 (ninS (Nat.ne_of_lt (Nat.lt_of_lt_of_eq f355.lt g264.symm)) nin0)
                have f357 := Fv251.ext E264
                have f358 := f357.keep hO266.1 nin0
                have f359 := f358.keep hO269.1 nin0
                have f360 := f359.keep hO277.1 (ninS (Nat.ne_of_lt (Nat.lt_of_lt_of_eq f355.lt g264.symm)) nin0)
                have f361 := f250.keep hO251.1
                have f362 := f361.ext E264
                have f363 := f362.keep hO266.1
                have f364 := f363.keep hO269.1
                have f365 := f364.keep hO277.1
                have f366 := Fv240.keep hO243.1 nin0
                have f367 := f366.keep hO251.1 (ninS (Ne.symm (Nat.ne_of_lt (Nat.lt_of_lt_of_le A238.lt ga240))) nin0)
                have f368 := f367.ext E264
                have f369 := f368.keep hO266.1 nin0
                have f370 := f369.keep hO269.1 nin0
                have f371 := f370.keep hO277.1 (ninS (Nat.ne_of_lt (Nat.lt_of_lt_of_eq f361.lt g264.symm)) nin0)
                have f372 := Fc240.keep hO243.1 nin0
                have f373 := f372.keep hO251.1 (ninS (Ne.symm (Nat.ne_of_lt (Nat.lt_of_lt_of_le A238.lt ga240))) nin0)
                have f374 := f373.ext E264
                have f375 := f374.keep hO266.1 nin0
                have f376 := f375.keep hO269.1 nin0
                have f377 := f376.keep hO277.1 (ninS (Nat.ne_of_lt (Nat.lt_of_lt_of_eq f361.lt g264.symm)) nin0)
                have f378 := A240.keep hO243.1 nin0
                have f379 := f378.keep hO251.1 (ninS nU240 nin0)
                have f380 := f379.ext E264
                have f381 := f380.keep hO266.1 nin0
                have f382 := f381.keep hO269.1 nin0
                have f383 := f382.keep hO277.1 (ninS (Nat.ne_of_lt (Nat.lt_of_lt_of_eq f379.lt g264.symm)) nin0)
                have f384 := Ea243.keep hO251.1
                have f385 := f384.ext E264
                have f386 := f385.keep hO266.1
                have f387 := f386.keep hO269.1
                have f388 := f387.keep hO277.1
                have f389 := Fv243.keep hO251.1 (ninS (Ne.symm (Nat.ne_of_lt (Nat.lt_of_lt_of_le f242.lt ga243))) nin0)
                have f390 := f389.ext E264
                have f391 := f390.keep hO266.1 nin0
                have f392 := f391.keep hO269.1 nin0
                have f393 := f392.keep hO277.1 (ninS (Nat.ne_of_lt (Nat.lt_of_lt_of_eq f384.lt g264.symm)) nin0)
                have f394 := Fc243.keep hO251.1 (ninS (Ne.symm (Nat.ne_of_lt (Nat.lt_of_lt_of_le f242.lt ga243))) nin0)
                have f395 := f394.ext E264
                have f396 := f395.keep hO266.1 nin0
                have f397 := f396.keep hO269.1 nin0
                have f398 := f397.keep hO277.1 (ninS (Nat.ne_of_lt (Nat.lt_of_lt_of_eq f384.lt g264.symm)) nin0)
                have f399 := A243.keep hO251.1 (ninS nU243 nin0)
                have f400 := f399.ext E264
                have f401 := f400.keep hO266.1 nin0
                have f402 := f401.keep hO269.1 nin0
                have f403 := f402.keep hO277.1 (ninS (Nat.ne_of_lt (Nat.lt_of_lt_of_eq f399.lt g264.symm)) nin0)
                have f404 := f276.keep hO277.1
                have f405 := Fv266.keep hO269.1 nin0
                have f406 := f405.keep hO277.1 (ninS (Ne.symm (Nat.ne_of_lt (Nat.lt_of_lt_of_le A264.lt ga266))) nin0)
                have f407 := Fc266.keep hO269.1 nin0
                have f408 := f407.keep hO277.1 (ninS (Ne.symm (Nat.ne_of_lt (Nat.lt_of_lt_of_le A264.lt ga266))) nin0)
                have f409 := A266.keep hO269.1 nin0
                have f410 := f409.keep hO277.1 (ninS nU266 nin0)
                have f411 := Ea269.keep hO277.1
                have f412 := Fv269.keep hO277.1 (ninS (Ne.symm (Nat.ne_of_lt (Nat.lt_of_lt_of_le f268.lt ga269))) nin0)
                have f413 := Fc269.keep hO277.1 (ninS (Ne.symm (Nat.ne_of_lt (Nat.lt_of_lt_of_le f268.lt ga269))) nin0)
                have f414 := A269.keep hO277.1 (ninS nU269 nin0)
                have f415 := f355.ext E264
                have f416 := f415.keep hO266.1
                have f417 := f416.keep hO269.1
                have f418 := f417.keep hO277.1
                refine Ends.callV X350 hx hZ hown (hw _ (List.mem_of_getElem? (i := 70) rfl)) (hw _ (List.mem_of_getElem? (i := 71) rfl)) (hw _ (List.mem_of_getElem? (i := 73) rfl)) (hw _ (List.mem_of_getElem? (i := 72) rfl)) (hw _ (List.mem_of_getElem? (i := 2) rfl)) (hw _ (List.mem_of_getElem? (i := 74) rfl)) (by decide) (argsL := [(.ref b264)]) (rest := []) e350 f418 (rm15 l Z a0 hw b238 b264 a240 a243 a266 a269 U240 U243 U266 U269 (own_s k1) (own_s v1) (own_s kk2) (own_s vv2) _ f351 f356 f360 Fk277 Fv277 f365 f371 f377 f383 f388 f393 f398 f403 f404 f406 f408 f410 f411 f412 f413 f414 (Nat.ne_of_lt (Nat.lt_of_lt_of_le f362.lt ga266)) (Nat.ne_of_lt (Nat.lt_of_lt_of_le f386.lt ga269)) cs hcs (own_sta_keep S0 O277.1 own_ns0)) (W := 0) (by decide) (by decide) (by rw [hml]; rfl) (lenOf pd_9 rfl) (Nat.le_of_eq rfl) (hb hby at_159) (by decide) (by decide) rfl ?_
                rintro T419 v419 L419 X419 ⟨rfl, e419, rfl⟩
                rw [List.append_nil] at X419
                show Ends (some (CHr Z own_EL vm0 h0)) p e below s _ _ _ T419 (mkF m 162 #[.val (.int k1), .val (.int v1), .val (.int k2), .val (.int v2), .val (.int md), .val (.ref b238), .val (.int (md &&& (3 : Int32))), .val (.int kk2), .val (.int vv2), .val (.ref b264), .val (.int (0 : Int32))] [(.int (if (own_s k1) = (own_s kk2) ∧ (own_s v1) = (own_s vv2) then (1 : Int32) else 0))])
                refine E.iload (q := 164) X419 hx (hb hby at_162) rfl ?_
                refine E.icmpN (q := 167) X419 hx (hb hby at_164) (XT.ii_ne_f hxv) ?_
                refine E.aload (q := 169) X419 hx (hb hby at_167) rfl rfl ?_
                refine E.aload (q := 171) X419 hx (hb hby at_169) rfl rfl ?_
                refine Ends.callV X419 hx hZ hown (hw _ (List.mem_of_getElem? (i := 70) rfl)) (hw _ (List.mem_of_getElem? (i := 71) rfl)) (hw _ (List.mem_of_getElem? (i := 73) rfl)) (hw _ (List.mem_of_getElem? (i := 72) rfl)) (hw _ (List.mem_of_getElem? (i := 2) rfl)) (hw _ (List.mem_of_getElem? (i := 74) rfl)) (by decide) (argsL := [(.ref b238)]) (rest := []) e419 f351 (rm15 l Z a0 hw b264 b238 a266 a269 a240 a243 U266 U269 U240 U243 (own_s kk2) (own_s vv2) (own_s k1) (own_s v1) _ f418 Fk277 Fv277 f356 f360 f404 f406 f408 f410 f411 f412 f413 f414 f365 f371 f377 f383 f388 f393 f398 f403 (Ne.symm (Nat.ne_of_lt (Nat.lt_of_lt_of_le f362.lt ga266))) (Ne.symm (Nat.ne_of_lt (Nat.lt_of_lt_of_le f386.lt ga269))) cs hcs (own_sta_keep S0 O277.1 own_ns0)) (W := 0) (by decide) (by decide) (by rw [hml]; rfl) (lenOf pd_9 rfl) (Nat.le_of_eq rfl) (hb hby at_171) (by decide) (by decide) rfl ?_
                rintro T420 v420 L420 X420 ⟨rfl, e420, rfl⟩
                rw [List.append_nil] at X420
                show Ends (some (CHr Z own_EL vm0 h0)) p e below s _ _ _ T420 (mkF m 174 #[.val (.int k1), .val (.int v1), .val (.int k2), .val (.int v2), .val (.int md), .val (.ref b238), .val (.int (md &&& (3 : Int32))), .val (.int kk2), .val (.int vv2), .val (.ref b264), .val (.int (0 : Int32))] [(.int (if (own_s kk2) = (own_s k1) ∧ (own_s vv2) = (own_s v1) then (1 : Int32) else 0))])
                refine E.iload (q := 176) X420 hx (hb hby at_174) rfl ?_
                refine E.icmpN (q := 179) X420 hx (hb hby at_176) (XT.ii_ne_f (own_sw2.trans hxv)) ?_
                refine E.iconst (q := 180) (v := (1 : Int32)) X420 hx (hb hby at_179) rfl ?_
                refine E.goto (q := 184) X420 hx (hb hby at_180) ?_
                exact Ends.retS X420 hx hlk hret (by simp) rfl (hb hby at_184) (by decide) (by decide) ⟨⟨rfl, (O277).fr⟩, by first | exact (Nat.le_refl _) | (rw [e420]; exact (Nat.le_refl _))⟩ (hF := own_chret X420 hZ (own_EW hw) HC278 (by first | rfl | assumption))
              · refine E.ifN (q := 148) X350 hx (hb hby at_145) (XT.i0_eq_f hs2) ?_
                have hs2' : own_s v1 = own_s vv2 := Classical.byContradiction fun q => hs2 (if_neg q)
                refine E.iconst (q := 149) (v := (1 : Int32)) X350 hx (hb hby at_148) rfl ?_
                refine E.goto (q := 153) X350 hx (hb hby at_149) ?_
                have hxv : (if (own_s k1) = (own_s kk2) ∧ (own_s v1) = (own_s vv2) then (1 : Int32) else 0) = (1 : Int32) := (by rw [if_pos ⟨hs1', hs2'⟩])
                refine E.istore (q := 155) (l' := #[.val (.int k1), .val (.int v1), .val (.int k2), .val (.int v2), .val (.int md), .val (.ref b238), .val (.int (md &&& (3 : Int32))), .val (.int kk2), .val (.int vv2), .val (.ref b264), .val (.int (1 : Int32))]) X350 hx (hb hby at_153) rfl ?_
                refine E.aload (q := 157) X350 hx (hb hby at_155) rfl rfl ?_
                refine E.aload (q := 159) X350 hx (hb hby at_157) rfl rfl ?_
                have f421 := f271.keep hO277.1
                have f422 := Fk251.ext E264
                have f423 := f422.keep hO266.1 nin0
                have f424 := f423.keep hO269.1 nin0
                have f425 := f245.keep hO251.1
                have f426 := f424.keep hO277.1 (ninS (Nat.ne_of_lt (Nat.lt_of_lt_of_eq f425.lt g264.symm)) nin0)
                have f427 := Fv251.ext E264
                have f428 := f427.keep hO266.1 nin0
                have f429 := f428.keep hO269.1 nin0
                have f430 := f429.keep hO277.1 (ninS (Nat.ne_of_lt (Nat.lt_of_lt_of_eq f425.lt g264.symm)) nin0)
                have f431 := f250.keep hO251.1
                have f432 := f431.ext E264
                have f433 := f432.keep hO266.1
                have f434 := f433.keep hO269.1
                have f435 := f434.keep hO277.1
                have f436 := Fv240.keep hO243.1 nin0
                have f437 := f436.keep hO251.1 (ninS (Ne.symm (Nat.ne_of_lt (Nat.lt_of_lt_of_le A238.lt ga240))) nin0)
                have f438 := f437.ext E264
                have f439 := f438.keep hO266.1 nin0
                have f440 := f439.keep hO269.1 nin0
                have f441 := f440.keep hO277.1 (ninS (Nat.ne_of_lt (Nat.lt_of_lt_of_eq f431.lt g264.symm)) nin0)
                have f442 := Fc240.keep hO243.1 nin0
                have f443 := f442.keep hO251.1 (ninS (Ne.symm (Nat.ne_of_lt (Nat.lt_of_lt_of_le A238.lt ga240))) nin0)
                have f444 := f443.ext E264
                have f445 := f444.keep hO266.1 nin0
                have f446 := f445.keep hO269.1 nin0
                have f447 := f446.keep hO277.1 (ninS (Nat.ne_of_lt (Nat.lt_of_lt_of_eq f431.lt g264.symm)) nin0)
                have f448 := A240.keep hO243.1 nin0
                have f449 := f448.keep hO251.1 (ninS nU240 nin0)
                have f450 := f449.ext E264
                have f451 := f450.keep hO266.1 nin0
                have f452 := f451.keep hO269.1 nin0
                have f453 := f452.keep hO277.1 (ninS (Nat.ne_of_lt (Nat.lt_of_lt_of_eq f449.lt g264.symm)) nin0)
                have f454 := Ea243.keep hO251.1
                have f455 := f454.ext E264
                have f456 := f455.keep hO266.1
                have f457 := f456.keep hO269.1
                have f458 := f457.keep hO277.1
                have f459 := Fv243.keep hO251.1 (ninS (Ne.symm (Nat.ne_of_lt (Nat.lt_of_lt_of_le f242.lt ga243))) nin0)
                have f460 := f459.ext E264
                have f461 := f460.keep hO266.1 nin0
                have f462 := f461.keep hO269.1 nin0
                have f463 := f462.keep hO277.1 (ninS (Nat.ne_of_lt (Nat.lt_of_lt_of_eq f454.lt g264.symm)) nin0)
                have f464 := Fc243.keep hO251.1 (ninS (Ne.symm (Nat.ne_of_lt (Nat.lt_of_lt_of_le f242.lt ga243))) nin0)
                have f465 := f464.ext E264
                have f466 := f465.keep hO266.1 nin0
                have f467 := f466.keep hO269.1 nin0
                have f468 := f467.keep hO277.1 (ninS (Nat.ne_of_lt (Nat.lt_of_lt_of_eq f454.lt g264.symm)) nin0)
                have f469 := A243.keep hO251.1 (ninS nU243 nin0)
                have f470 := f469.ext E264
                have f471 := f470.keep hO266.1 nin0
                have f472 := f471.keep hO269.1 nin0
                have f473 := f472.keep hO277.1 (ninS (Nat.ne_of_lt (Nat.lt_of_lt_of_eq f469.lt g264.symm)) nin0)
                have f474 := f276.keep hO277.1
                have f475 := Fv266.keep hO269.1 nin0
                have f476 := f475.keep hO277.1 (ninS (Ne.symm (Nat.ne_of_lt (Nat.lt_of_lt_of_le A264.lt ga266))) nin0)
                have f477 := Fc266.keep hO269.1 nin0
                have f478 := f477.keep hO277.1 (ninS (Ne.symm (Nat.ne_of_lt (Nat.lt_of_lt_of_le A264.lt ga266))) nin0)
                have f479 := A266.keep hO269.1 nin0
                have f480 := f479.keep hO277.1 (ninS nU266 nin0)
                have f481 := Ea269.keep hO277.1
                have f482 := Fv269.keep hO277.1 (ninS (Ne.symm (Nat.ne_of_lt (Nat.lt_of_lt_of_le f268.lt ga269))) nin0)
                have f483 := Fc269.keep hO277.1 (ninS (Ne.symm (Nat.ne_of_lt (Nat.lt_of_lt_of_le f268.lt ga269))) nin0)
                have f484 := A269.keep hO277.1 (ninS nU269 nin0)
                have f485 := f425.ext E264
                have f486 := f485.keep hO266.1
                have f487 := f486.keep hO269.1
                have f488 := f487.keep hO277.1
                refine Ends.callV X350 hx hZ hown (hw _ (List.mem_of_getElem? (i := 70) rfl)) (hw _ (List.mem_of_getElem? (i := 71) rfl)) (hw _ (List.mem_of_getElem? (i := 73) rfl)) (hw _ (List.mem_of_getElem? (i := 72) rfl)) (hw _ (List.mem_of_getElem? (i := 2) rfl)) (hw _ (List.mem_of_getElem? (i := 74) rfl)) (by decide) (argsL := [(.ref b264)]) (rest := []) e350 f488 (rm15 l Z a0 hw b238 b264 a240 a243 a266 a269 U240 U243 U266 U269 (own_s k1) (own_s v1) (own_s kk2) (own_s vv2) _ f421 f426 f430 Fk277 Fv277 f435 f441 f447 f453 f458 f463 f468 f473 f474 f476 f478 f480 f481 f482 f483 f484 (Nat.ne_of_lt (Nat.lt_of_lt_of_le f432.lt ga266)) (Nat.ne_of_lt (Nat.lt_of_lt_of_le f456.lt ga269)) cs hcs (own_sta_keep S0 O277.1 own_ns0)) (W := 0) (by decide) (by decide) (by rw [hml]; rfl) (lenOf pd_9 rfl) (Nat.le_of_eq rfl) (hb hby at_159) (by decide) (by decide) rfl ?_
                rintro T489 v489 L489 X489 ⟨rfl, e489, rfl⟩
                rw [List.append_nil] at X489
                show Ends (some (CHr Z own_EL vm0 h0)) p e below s _ _ _ T489 (mkF m 162 #[.val (.int k1), .val (.int v1), .val (.int k2), .val (.int v2), .val (.int md), .val (.ref b238), .val (.int (md &&& (3 : Int32))), .val (.int kk2), .val (.int vv2), .val (.ref b264), .val (.int (1 : Int32))] [(.int (if (own_s k1) = (own_s kk2) ∧ (own_s v1) = (own_s vv2) then (1 : Int32) else 0))])
                refine E.iload (q := 164) X489 hx (hb hby at_162) rfl ?_
                refine E.icmpN (q := 167) X489 hx (hb hby at_164) (XT.ii_ne_f hxv) ?_
                refine E.aload (q := 169) X489 hx (hb hby at_167) rfl rfl ?_
                refine E.aload (q := 171) X489 hx (hb hby at_169) rfl rfl ?_
                refine Ends.callV X489 hx hZ hown (hw _ (List.mem_of_getElem? (i := 70) rfl)) (hw _ (List.mem_of_getElem? (i := 71) rfl)) (hw _ (List.mem_of_getElem? (i := 73) rfl)) (hw _ (List.mem_of_getElem? (i := 72) rfl)) (hw _ (List.mem_of_getElem? (i := 2) rfl)) (hw _ (List.mem_of_getElem? (i := 74) rfl)) (by decide) (argsL := [(.ref b238)]) (rest := []) e489 f421 (rm15 l Z a0 hw b264 b238 a266 a269 a240 a243 U266 U269 U240 U243 (own_s kk2) (own_s vv2) (own_s k1) (own_s v1) _ f488 Fk277 Fv277 f426 f430 f474 f476 f478 f480 f481 f482 f483 f484 f435 f441 f447 f453 f458 f463 f468 f473 (Ne.symm (Nat.ne_of_lt (Nat.lt_of_lt_of_le f432.lt ga266))) (Ne.symm (Nat.ne_of_lt (Nat.lt_of_lt_of_le f456.lt ga269))) cs hcs (own_sta_keep S0 O277.1 own_ns0)) (W := 0) (by decide) (by decide) (by rw [hml]; rfl) (lenOf pd_9 rfl) (Nat.le_of_eq rfl) (hb hby at_171) (by decide) (by decide) rfl ?_
                rintro T490 v490 L490 X490 ⟨rfl, e490, rfl⟩
                rw [List.append_nil] at X490
                show Ends (some (CHr Z own_EL vm0 h0)) p e below s _ _ _ T490 (mkF m 174 #[.val (.int k1), .val (.int v1), .val (.int k2), .val (.int v2), .val (.int md), .val (.ref b238), .val (.int (md &&& (3 : Int32))), .val (.int kk2), .val (.int vv2), .val (.ref b264), .val (.int (1 : Int32))] [(.int (if (own_s kk2) = (own_s k1) ∧ (own_s vv2) = (own_s v1) then (1 : Int32) else 0))])
                refine E.iload (q := 176) X490 hx (hb hby at_174) rfl ?_
                refine E.icmpN (q := 179) X490 hx (hb hby at_176) (XT.ii_ne_f (own_sw2.trans hxv)) ?_
                refine E.iconst (q := 180) (v := (1 : Int32)) X490 hx (hb hby at_179) rfl ?_
                refine E.goto (q := 184) X490 hx (hb hby at_180) ?_
                exact Ends.retS X490 hx hlk hret (by simp) rfl (hb hby at_184) (by decide) (by decide) ⟨⟨rfl, (O277).fr⟩, by first | exact (Nat.le_refl _) | (rw [e490]; exact (Nat.le_refl _))⟩ (hF := own_chret X490 hZ (own_EW hw) HC278 (by first | rfl | assumption))
          by_cases hqvv : (md &&& (8 : Int32)) = (0 : Int32)
          · refine E.ifY (q := 108) X251 hx (hb hby at_101) (XT.i0_eq_t hqvv) ?_
            refine E.iloadN (q := 109) X251 hx (hb hby at_108) rfl ?_
            exact Jvv _
          · refine E.ifN (q := 104) X251 hx (hb hby at_101) (XT.i0_eq_f hqvv) ?_
            refine E.iloadN (q := 105) X251 hx (hb hby at_104) rfl ?_
            refine E.goto (q := 109) X251 hx (hb hby at_105) ?_
            exact Jvv _
        by_cases hqkk : (md &&& (4 : Int32)) = (0 : Int32)
        · refine E.ifY (q := 93) X251 hx (hb hby at_86) (XT.i0_eq_t hqkk) ?_
          refine E.iloadN (q := 94) X251 hx (hb hby at_93) rfl ?_
          exact Jkk _
        · refine E.ifN (q := 89) X251 hx (hb hby at_86) (XT.i0_eq_f hqkk) ?_
          refine E.iloadN (q := 90) X251 hx (hb hby at_89) rfl ?_
          refine E.goto (q := 94) X251 hx (hb hby at_90) ?_
          exact Jkk _
theorem own_cs {args : Array Value} {s : State} (hj : ∀ w ∈ jdkStatics_1, w.before args s = true) : ∃ cs : Int32, ¬ cs = (0 : Int32) ∧ Sta s s.heap "java/lang/String" "COMPACT_STRINGS" "Z" (.int cs) := by
  obtain ⟨cs, hv⟩ := is_v (Cond.before_iff.mp (hj _ (List.mem_of_getElem? (i := 1) rfl)))
  refine ⟨cs, fun q => ?_, Sta.start (args := args) hv (Or.inl (hj _ (List.mem_of_getElem? (i := 0) rfl)))⟩
  have h := (hj _ (List.mem_of_getElem? (i := 2) rfl))
  subst q
  simp only [Cond.before, Cond.holds, Cond.value] at h
  rw [hv] at h
  simp [Term.eval] at h
theorem own_CH {args : Array Value} {s : State} (hw : ∀ d ∈ tables_1, d.before args s = true) (hj : ∀ w ∈ jdkStatics_1, w.before args s = true) {tb : Tables} {e : Env} (hc : call_1_1 tb e args s) : CHv s own_EL s.vm s.heap := by
  refine CHv.start (own_EW hw) ?_ (hj _ (List.mem_of_getElem? (i := 2) rfl)) (hw _ (List.mem_of_getElem? (i := 25) rfl)) (hw _ (List.mem_of_getElem? (i := 11) rfl))
  intro p hp
  simp only [own_EL, List.mem_cons, List.not_mem_nil, or_false] at hp
  rcases hp with rfl
  exact hc ("java/lang/String", 7) (List.mem_of_getElem? (i := 2) rfl)
set_option maxRecDepth 65536 in
set_option maxHeartbeats 40000000 in
theorem comes_1 {Post : Tables → Env → Array Value → State → Outcome → State → Prop} (hpost : ∀ tb e args s v u, (limb_1_1.after args s (.returned v) u = true ∧ limb_1_2.after args s (.returned v) u = true) → ReturnedEndW s (.returned v) u (Jvm.fieldLocs frame_1_writes args s ++ Jvm.arrayLocs frame_1_arrays args s ++ Jvm.staticLocs frame_1_statics s) 48 3264 → Post tb e args s (.returned v) u) :
    ArmFor flags0 classFile x code maxLocals ret World_1 tables_1 room_1 Calls_1 rest_1 Pre_1 Post := by
  intro l hfl _ _ p e ha hc hk s m args below hf hA hF happ hP
  obtain ⟨hcalls, hrest, hpre⟩ := hP
  obtain ⟨-, -, -, hnamed, -, -, -, hat⟩ := (Spec.applies_iff hf).mp happ
  obtain ⟨hg, hn⟩ := and_e (Cond.before_iff.mp (show (Jvm.Cond.and given_1 narrow_1).before args s = true from hpre))
  obtain ⟨g0, hg⟩ := and_e hg
  obtain ⟨ga0, hg⟩ := and_e hg
  obtain ⟨ga1, hg⟩ := and_e hg
  obtain ⟨ga2, hg⟩ := and_e hg
  obtain ⟨ga3, hg⟩ := and_e hg
  obtain ⟨w0, w1, w2, w3, w4, rfl⟩ : ∃ w0 w1 w2 w3 w4 : Value, args = #[w0, w1, w2, w3, w4] := by
    have hs : args.size = 5 := by simpa [Cond.value, given_1] using g0
    obtain ⟨L⟩ := args
    match L, hs with
    | [w0, w1, w2, w3, w4], _ => exact ⟨w0, w1, w2, w3, w4, rfl⟩
  have hw := fun d (hd : d ∈ tables_1) => atoms_spec (ws := Jvm.Cond.code x code maxLocals ret :: tables_1) hat d (List.mem_cons_of_mem _ hd)
  have hj := (atoms_of (own := restOwn_1) jdkStatics_1 (show (jdkStatics_1.foldr Jvm.Cond.and restOwn_1).before _ s = true from hrest)).1
  obtain ⟨cs, hcs, S0⟩ := own_cs hj
  have hCH := own_CH hw hj hcalls.1
  obtain ⟨i0, ei0⟩ := is_v ga0
  obtain rfl : w0 = (.int i0) := Option.some.inj ei0
  obtain ⟨i1, ei1⟩ := is_v ga1
  obtain rfl : w1 = (.int i1) := Option.some.inj ei1
  obtain ⟨i2, ei2⟩ := is_v ga2
  obtain rfl : w2 = (.int i2) := Option.some.inj ei2
  obtain ⟨i3, ei3⟩ := is_v ga3
  obtain rfl : w3 = (.int i3) := Option.some.inj ei3
  obtain ⟨i4, ei4⟩ := is_v hg
  obtain rfl : w4 = (.int i4) := Option.some.inj ei4
  obtain ⟨n, o, h1, h2, h3, _, L, rfl, ⟨rfl, N⟩, -, hq⟩ := rm0 l s _ hw i0 i1 i2 i3 i4 s.heap cs hcs S0 p e ha hc hk s m _ below hf ((Spec.applies_iff_loose hf).mp happ).1 ⟨rfl, State.Warmed39.refl s, rfl, hCH⟩ trivial
  exact ⟨n, _, h1, h2, h3, hpost _ _ _ _ _ _ ⟨Cond.after_iff.mpr rfl, Cond.after_iff.mpr (eq_i res_at (Term.int_eval (1)) rfl)⟩ ⟨hq.1, hq.2.1, hq.2.2.1, (hq.2.2.2.sift fun y hy => Or.inr (N y hy)).mono (by decide) (by decide)⟩⟩
theorem main_1_1 : Claimed_1_1 := comes_1 fun _ _ _ _ _ _ h hF => ⟨h.1, hF⟩
theorem main_1_2 : Claimed_1_2 := comes_1 fun _ _ _ _ _ _ h hF => ⟨h.2, hF⟩
end Jvm.Pilot.@@N@@
namespace Jvm.Pilot.@@N@@
open Jvm Jvm.ClassFile Sem Op Lib Jvm.Free Jvm.Stand Jvm.Pilot.@@N@@.Jvm.D
/-! MADE BY PROGRAM (witnessworld.py) out of the Statement's table words and the real class files: 21 classes; the members and pool entries that the words name. The judged class is class 1, her method 7. -/
namespace start1
open Jvm.ClassFile
def u (s : String) : CpInfo := .utf8 (stringToUtf16 s)
/-- a pool by its gaps: so many unusable entries, then the entry; so many at the end -/
def gap : Nat → List CpInfo → List CpInfo
  | 0, r => r
  | n + 1, r => .unusable :: gap n r
def poolList (es : List (Nat × CpInfo)) (last : Nat) : List CpInfo := es.foldr (fun e r => gap e.1 (e.2 :: r)) (gap last [])
def pool (es : List (Nat × CpInfo)) (last : Nat) : Array CpInfo := ⟨poolList es last⟩
def fileOf (pool : Array CpInfo) (this : Nat) (attrs : Array Attribute := #[]) (ms : Array MethodInfo := #[]) (fl : Nat := 33) (sup : Nat := 0) (ifs : Array Nat := #[]) (fds : Array FieldInfo := #[]) : ClassFile where
  minorVersion := 0
  majorVersion := 65
  constantPool := pool
  accessFlags := fl
  thisClass := this
  superClass := sup
  interfaces := ifs
  fields := fds
  methods := ms
  attributes := attrs
def plain (name : String) (sup : Option ClassId) : Class where
  name := name
  kind := .ordinary
  loader := none
  accessFlags := 33
  super := sup
  interfaces := #[]
  cf := none
  fields := #[]
  methods := #[]
  instanceTypes := #[]
  staticTypes := #[]
  resolved := #[]
  callSites := []
  init := .initialized
  statics := none
  mirror := none

def pool0 : Array CpInfo := pool [(5, u "<init>"), (0, u "()V"), (1, .class_ 10), (1, u "java/lang/Object")] 113

def k0c0 : Code := { maxStack := 0, maxLocals := 1, code := object_method_1_code, exceptionTable := #[], attributes := #[] }
def k0m0 : Method := { name := "<init>", desc := "()V", sig := { parameters := [], returnType := none }, accessFlags := 1, code := some k0c0 }
/-- java/lang/Object -/
def k0 : Class := { plain "java/lang/Object" none with
  accessFlags := 33
  interfaces := #[]
  cf := some (fileOf pool0 8 #[] #[{ accessFlags := 1, nameIndex := 5, descriptorIndex := 6, attributes := #[] }] 33 0 #[] #[])
  fields := #[]
  methods := #[k0m0]
  instanceTypes := #[]
  staticTypes := #[]
  resolved := Array.replicate 124 none
  statics := none }

def pool1 : Array CpInfo := pool [(2, .class_ 4), (1, u "java/lang/Object"), (0, u "<init>"), (0, u "()V"), (0, .methodref 8 9), (0, .class_ 10), (0, .nameAndType 11 12), (0, u "com/example/people_in_groups/peopleingroups/model/CustomPairEqualsPinLaw"), (0, u "len"), (0, u "(I)I"), (0, .class_ 14), (0, u "java/lang/String"), (0, .methodref 13 16), (0, .nameAndType 5 17), (0, u "([C)V"), (0, .methodref 8 19), (0, .nameAndType 20 21), (0, u "c0"), (0, u "(I)C"), (0, .methodref 8 23), (0, .nameAndType 24 21), (0, u "c1"), (0, .methodref 8 26), (0, .nameAndType 27 21), (0, u "c2"), (0, .class_ 29), (0, u "com/example/people_in_groups/peopleingroups/model/CustomPair"), (0, .methodref 8 31), (0, .nameAndType 32 33), (0, u "mk"), (0, u "(I)Ljava/lang/String;"), (0, .methodref 28 35), (0, .nameAndType 5 36), (0, u "(Ljava/lang/String;Ljava/lang/String;)V"), (0, .methodref 28 38), (0, .nameAndType 39 40), (0, u "equals"), (0, u "(Ljava/lang/Object;)Z"), (0, .methodref 8 42), (0, .nameAndType 43 44), (0, u "same"), (0, u "(II)Z"), (3, u "law"), (0, u "(IIIII)Z")] 2

def k1m0 : Method := { name := "<init>", desc := "()V", sig := { parameters := [], returnType := none }, accessFlags := 1, code := none }
def k1c1 : Code := { maxStack := 2, maxLocals := 1, code := method_2_code, exceptionTable := #[], attributes := #[] }
def k1m1 : Method := { name := "len", desc := "(I)I", sig := { parameters := [.int], returnType := some .int }, accessFlags := 10, code := some k1c1 }
def k1c2 : Code := { maxStack := 2, maxLocals := 1, code := method_3_code, exceptionTable := #[], attributes := #[] }
def k1m2 : Method := { name := "c0", desc := "(I)C", sig := { parameters := [.int], returnType := some .char }, accessFlags := 10, code := some k1c2 }
def k1c3 : Code := { maxStack := 2, maxLocals := 1, code := method_4_code, exceptionTable := #[], attributes := #[] }
def k1m3 : Method := { name := "c1", desc := "(I)C", sig := { parameters := [.int], returnType := some .char }, accessFlags := 10, code := some k1c3 }
def k1c4 : Code := { maxStack := 2, maxLocals := 1, code := method_5_code, exceptionTable := #[], attributes := #[] }
def k1m4 : Method := { name := "c2", desc := "(I)C", sig := { parameters := [.int], returnType := some .char }, accessFlags := 10, code := some k1c4 }
def k1c5 : Code := { maxStack := 6, maxLocals := 2, code := method_6_code, exceptionTable := #[], attributes := #[] }
def k1m5 : Method := { name := "mk", desc := "(I)Ljava/lang/String;", sig := { parameters := [.int], returnType := some (.object "java/lang/String") }, accessFlags := 10, code := some k1c5 }
def k1c6 : Code := { maxStack := 2, maxLocals := 3, code := method_7_code, exceptionTable := #[], attributes := #[] }
def k1m6 : Method := { name := "same", desc := "(II)Z", sig := { parameters := [.int, .int], returnType := some .boolean }, accessFlags := 10, code := some k1c6 }
def k1c7 : Code := { maxStack := 4, maxLocals := 11, code := code, exceptionTable := #[], attributes := #[] }
def k1m7 : Method := { name := "law", desc := "(IIIII)Z", sig := { parameters := [.int, .int, .int, .int, .int], returnType := some .boolean }, accessFlags := 9, code := some k1c7 }
/-- com/example/people_in_groups/peopleingroups/model/CustomPairEqualsPinLaw -/
def k1 : Class := { plain "com/example/people_in_groups/peopleingroups/model/CustomPairEqualsPinLaw" (some 0) with
  accessFlags := 49
  interfaces := #[]
  cf := some (fileOf pool1 8 #[] #[{ accessFlags := 1, nameIndex := 5, descriptorIndex := 6, attributes := #[] }, { accessFlags := 10, nameIndex := 11, descriptorIndex := 12, attributes := #[] }, { accessFlags := 10, nameIndex := 20, descriptorIndex := 21, attributes := #[] }, { accessFlags := 10, nameIndex := 24, descriptorIndex := 21, attributes := #[] }, { accessFlags := 10, nameIndex := 27, descriptorIndex := 21, attributes := #[] }, { accessFlags := 10, nameIndex := 32, descriptorIndex := 33, attributes := #[] }, { accessFlags := 10, nameIndex := 43, descriptorIndex := 44, attributes := #[] }, { accessFlags := 9, nameIndex := 48, descriptorIndex := 49, attributes := #[] }] 49 2 #[] #[])
  fields := #[]
  methods := #[k1m0, k1m1, k1m2, k1m3, k1m4, k1m5, k1m6, k1m7]
  instanceTypes := #[]
  staticTypes := #[]
  resolved := Array.replicate 52 none
  statics := none }

def pool2 : Array CpInfo := pool [(1, .methodref 2 3), (0, .class_ 4), (0, .nameAndType 5 6), (0, u "java/lang/Object"), (0, u "<init>"), (0, u "()V"), (0, .string 8), (0, u "key"), (0, .methodref 10 11), (0, .class_ 12), (0, .nameAndType 13 14), (0, u "java/util/Objects"), (0, u "requireNonNull"), (0, u "(Ljava/lang/Object;Ljava/lang/String;)Ljava/lang/Object;"), (0, .class_ 16), (0, u "java/lang/String"), (0, .fieldref 18 19), (0, .class_ 20), (0, .nameAndType 8 21), (0, u "com/example/people_in_groups/peopleingroups/model/CustomPair"), (0, u "Ljava/lang/String;"), (0, .string 23), (0, u "value"), (0, .fieldref 18 25), (0, .nameAndType 23 21), (0, .methodref 15 27), (0, .nameAndType 28 29), (0, u "equals"), (0, u "(Ljava/lang/Object;)Z"), (8, u "(Ljava/lang/String;Ljava/lang/String;)V")] 26

def k2c0 : Code := { maxStack := 3, maxLocals := 3, code := prog_5_method_1_code, exceptionTable := #[], attributes := #[] }
def k2m0 : Method := { name := "<init>", desc := "(Ljava/lang/String;Ljava/lang/String;)V", sig := { parameters := [(.object "java/lang/String"), (.object "java/lang/String")], returnType := none }, accessFlags := 1, code := some k2c0 }
def k2c1 : Code := { maxStack := 2, maxLocals := 2, code := prog_5_method_4_code, exceptionTable := #[], attributes := #[] }
def k2m1 : Method := { name := "equals", desc := "(Ljava/lang/Object;)Z", sig := { parameters := [(.object "java/lang/Object")], returnType := some .boolean }, accessFlags := 1, code := some k2c1 }
/-- com/example/people_in_groups/peopleingroups/model/CustomPair -/
def k2 : Class := { plain "com/example/people_in_groups/peopleingroups/model/CustomPair" (some 0) with
  accessFlags := 33
  interfaces := #[]
  cf := some (fileOf pool2 18 #[] #[{ accessFlags := 1, nameIndex := 5, descriptorIndex := 38, attributes := #[] }, { accessFlags := 1, nameIndex := 28, descriptorIndex := 29, attributes := #[] }] 33 2 #[] #[{ accessFlags := 18, nameIndex := 8, descriptorIndex := 21, attributes := #[] }, { accessFlags := 18, nameIndex := 23, descriptorIndex := 21, attributes := #[] }])
  fields := #[{ name := "key", type := (.object "java/lang/String"), accessFlags := 18, slot := 0, constantValue := 0 }, { name := "value", type := (.object "java/lang/String"), accessFlags := 18, slot := 1, constantValue := 0 }]
  methods := #[k2m0, k2m1]
  instanceTypes := #[(.object "java/lang/String"), (.object "java/lang/String")]
  staticTypes := #[]
  resolved := Array.replicate 65 none
  statics := none }

def pool3 : Array CpInfo := pool [(1, .class_ 2), (0, u "java/io/Serializable"), (0, .class_ 4), (0, u "java/lang/Object")] 2

/-- java/io/Serializable -/
def k3 : Class := { plain "java/io/Serializable" (some 0) with
  accessFlags := 1537
  interfaces := #[]
  cf := some (fileOf pool3 1 #[] #[] 1537 3 #[] #[])
  fields := #[]
  methods := #[]
  instanceTypes := #[]
  staticTypes := #[]
  resolved := Array.replicate 7 none
  statics := none }

def pool4 : Array CpInfo := pool [(1, .class_ 2), (0, u "java/lang/Comparable"), (0, .class_ 4), (0, u "java/lang/Object")] 7

/-- java/lang/Comparable -/
def k4 : Class := { plain "java/lang/Comparable" (some 0) with
  accessFlags := 1537
  interfaces := #[]
  cf := some (fileOf pool4 1 #[] #[] 1537 3 #[] #[])
  fields := #[]
  methods := #[]
  instanceTypes := #[]
  staticTypes := #[]
  resolved := Array.replicate 12 none
  statics := none }

def pool5 : Array CpInfo := pool [(2, .class_ 4), (1, u "java/lang/CharSequence"), (42, .class_ 48), (0, u "java/lang/CharSequence$1CodePointIterator"), (10, .class_ 60), (0, u "java/lang/CharSequence$1CharIterator"), (5, .class_ 67), (0, u "java/lang/Object")] 63

/-- java/lang/CharSequence -/
def k5 : Class := { plain "java/lang/CharSequence" (some 0) with
  accessFlags := 1537
  interfaces := #[]
  cf := some (fileOf pool5 2 #[.nestMembers #[47, 59]] #[] 1537 66 #[] #[])
  fields := #[]
  methods := #[]
  instanceTypes := #[]
  staticTypes := #[]
  resolved := Array.replicate 131 none
  statics := none }

def pool6 : Array CpInfo := pool [(1, .class_ 2), (0, u "java/lang/constant/Constable"), (0, .class_ 4), (0, u "java/lang/Object")] 6

/-- java/lang/constant/Constable -/
def k6 : Class := { plain "java/lang/constant/Constable" (some 0) with
  accessFlags := 1537
  interfaces := #[]
  cf := some (fileOf pool6 1 #[] #[] 1537 3 #[] #[])
  fields := #[]
  methods := #[]
  instanceTypes := #[]
  staticTypes := #[]
  resolved := Array.replicate 11 none
  statics := none }

def pool7 : Array CpInfo := pool [(1, .class_ 2), (0, u "java/lang/constant/ConstantDesc"), (0, .class_ 4), (0, u "java/lang/Object")] 32

/-- java/lang/constant/ConstantDesc -/
def k7 : Class := { plain "java/lang/constant/ConstantDesc" (some 0) with
  accessFlags := 1537
  interfaces := #[]
  cf := some (fileOf pool7 1 #[] #[] 1537 3 #[] #[])
  fields := #[]
  methods := #[]
  instanceTypes := #[]
  staticTypes := #[]
  resolved := Array.replicate 37 none
  statics := none }

def pool8 : Array CpInfo := pool [(1, .methodref 2 3), (0, .class_ 4), (0, .nameAndType 5 6), (0, u "java/lang/Object"), (0, u "<init>"), (0, u "()V"), (0, .string 8), (0, u ""), (0, .fieldref 10 11), (0, .class_ 12), (0, .nameAndType 13 14), (0, u "java/lang/String"), (0, u "value"), (0, u "[B"), (0, .fieldref 10 16), (0, .nameAndType 17 18), (0, u "coder"), (0, u "B"), (2, u "hash"), (0, u "I"), (2, u "hashIsZero"), (0, u "Z"), (0, .methodref 10 28), (0, .nameAndType 5 29), (0, u "([CIILjava/lang/Void;)V"), (8, .fieldref 10 39), (0, .nameAndType 40 26), (0, u "COMPACT_STRINGS"), (1, .class_ 44), (1, u "java/lang/StringUTF16"), (0, u "compress"), (1, .methodref 42 48), (0, .nameAndType 49 50), (0, u "coderFromArrayLen"), (0, u "([BI)B"), (56, .class_ 109), (1, u "java/lang/StringLatin1"), (67, .methodref 42 178), (0, .nameAndType 45 179), (0, u "([CII)[B"), (361, .methodref 107 542), (0, .nameAndType 543 544), (0, u "equals"), (0, u "([B[B)Z"), (28, u "(Ljava/lang/Object;)Z"), (1, .class_ 576), (0, u "java/lang/CharSequence"), (22, u "CASE_INSENSITIVE_ORDER"), (0, u "Ljava/util/Comparator;"), (409, u "([C)V"), (90, u "serialPersistentFields"), (0, u "[Ljava/io/ObjectStreamField;"), (0, .class_ 1104), (0, u "java/lang/String$CaseInsensitiveComparator"), (1, .class_ 1107), (0, u "java/io/Serializable"), (0, .class_ 1109), (0, u "java/lang/Comparable"), (0, .class_ 1111), (0, u "java/lang/constant/Constable"), (0, .class_ 1113), (0, u "java/lang/constant/ConstantDesc"), (2, u "serialVersionUID"), (0, u "J"), (3, u "REPL"), (0, u "C"), (2, u "LATIN1"), (1, u "UTF16")] 323

def k8m0 : Method := { name := "<init>", desc := "()V", sig := { parameters := [], returnType := none }, accessFlags := 1, code := none }
def k8c1 : Code := { maxStack := 5, maxLocals := 2, code := jdk_42_method_3_code, exceptionTable := #[], attributes := #[] }
def k8m1 : Method := { name := "<init>", desc := "([C)V", sig := { parameters := [(.array .char)], returnType := none }, accessFlags := 1, code := some k8c1 }
def k8c2 : Code := { maxStack := 2, maxLocals := 3, code := jdk_42_method_66_code, exceptionTable := #[], attributes := #[] }
def k8m2 : Method := { name := "equals", desc := "(Ljava/lang/Object;)Z", sig := { parameters := [(.object "java/lang/Object")], returnType := some .boolean }, accessFlags := 1, code := some k8c2 }
def k8c3 : Code := { maxStack := 4, maxLocals := 6, code := jdk_42_method_149_code, exceptionTable := #[], attributes := #[] }
def k8m3 : Method := { name := "<init>", desc := "([CIILjava/lang/Void;)V", sig := { parameters := [(.array .char), .int, .int, (.object "java/lang/Void")], returnType := none }, accessFlags := 2, code := some k8c3 }
/-- java/lang/String -/
def k8 : Class := { plain "java/lang/String" (some 0) with
  accessFlags := 49
  interfaces := #[3, 4, 5, 6, 7]
  cf := some (fileOf pool8 10 #[.nestMembers #[1103]] #[{ accessFlags := 1, nameIndex := 5, descriptorIndex := 6, attributes := #[] }, { accessFlags := 1, nameIndex := 5, descriptorIndex := 1010, attributes := #[] }, { accessFlags := 1, nameIndex := 543, descriptorIndex := 573, attributes := #[] }, { accessFlags := 2, nameIndex := 5, descriptorIndex := 29, attributes := #[] }] 49 2 #[1106, 1108, 575, 1110, 1112] #[{ accessFlags := 18, nameIndex := 13, descriptorIndex := 14, attributes := #[] }, { accessFlags := 18, nameIndex := 17, descriptorIndex := 18, attributes := #[] }, { accessFlags := 2, nameIndex := 21, descriptorIndex := 22, attributes := #[] }, { accessFlags := 2, nameIndex := 25, descriptorIndex := 26, attributes := #[] }, { accessFlags := 26, nameIndex := 1116, descriptorIndex := 1117, attributes := #[] }, { accessFlags := 24, nameIndex := 40, descriptorIndex := 26, attributes := #[] }, { accessFlags := 26, nameIndex := 1101, descriptorIndex := 1102, attributes := #[] }, { accessFlags := 26, nameIndex := 1121, descriptorIndex := 1122, attributes := #[] }, { accessFlags := 25, nameIndex := 599, descriptorIndex := 600, attributes := #[] }, { accessFlags := 24, nameIndex := 1125, descriptorIndex := 18, attributes := #[] }, { accessFlags := 24, nameIndex := 1127, descriptorIndex := 18, attributes := #[] }])
  fields := #[{ name := "value", type := (.array .byte), accessFlags := 18, slot := 0, constantValue := 0 }, { name := "coder", type := .byte, accessFlags := 18, slot := 1, constantValue := 0 }, { name := "hash", type := .int, accessFlags := 2, slot := 2, constantValue := 0 }, { name := "hashIsZero", type := .boolean, accessFlags := 2, slot := 3, constantValue := 0 }, { name := "serialVersionUID", type := .long, accessFlags := 26, slot := 0, constantValue := 0 }, { name := "COMPACT_STRINGS", type := .boolean, accessFlags := 24, slot := 1, constantValue := 0 }, { name := "serialPersistentFields", type := (.array (.object "java/io/ObjectStreamField")), accessFlags := 26, slot := 2, constantValue := 0 }, { name := "REPL", type := .char, accessFlags := 26, slot := 3, constantValue := 0 }, { name := "CASE_INSENSITIVE_ORDER", type := (.object "java/util/Comparator"), accessFlags := 25, slot := 4, constantValue := 0 }, { name := "LATIN1", type := .byte, accessFlags := 24, slot := 5, constantValue := 0 }, { name := "UTF16", type := .byte, accessFlags := 24, slot := 6, constantValue := 0 }]
  methods := #[k8m0, k8m1, k8m2, k8m3]
  instanceTypes := #[(.array .byte), .byte, .int, .boolean]
  staticTypes := #[.long, .boolean, (.array (.object "java/io/ObjectStreamField")), .char, (.object "java/util/Comparator"), .byte, .byte]
  resolved := Array.replicate 1451 none
  statics := some 0 }

def pool9 : Array CpInfo := pool [(6, .class_ 8), (1, u "java/lang/Object"), (0, u "<init>"), (0, u "()V"), (1, .class_ 14), (1, u "java/lang/StringUTF16"), (31, u "$assertionsDisabled"), (0, u "Z"), (13, u "HI_BYTE_SHIFT"), (0, u "I"), (2, u "LO_BYTE_SHIFT"), (49, .methodref 12 116), (0, .nameAndType 117 118), (0, u "compress"), (0, u "([CI[BII)I"), (3, u "([CII)[B"), (138, u "coderFromArrayLen"), (0, u "([BI)B"), (106, .class_ 371), (1, u "java/lang/StringUTF16$LinesSpliterator"), (58, u "MAX_LENGTH"), (196, .class_ 628), (0, u "java/lang/StringUTF16$CodePointsSpliterator"), (0, .class_ 630), (0, u "java/lang/StringUTF16$CharsSpliterator")] 4

def k9m0 : Method := { name := "<init>", desc := "()V", sig := { parameters := [], returnType := none }, accessFlags := 0, code := none }
def k9c1 : Code := { maxStack := 2, maxLocals := 2, code := jdk_52_method_15_code, exceptionTable := #[], attributes := #[] }
def k9m1 : Method := { name := "coderFromArrayLen", desc := "([BI)B", sig := { parameters := [(.array .byte), .int], returnType := some .byte }, accessFlags := 8, code := some k9c1 }
def k9c2 : Code := { maxStack := 5, maxLocals := 6, code := jdk_52_method_16_code, exceptionTable := #[], attributes := #[] }
def k9m2 : Method := { name := "compress", desc := "([CII)[B", sig := { parameters := [(.array .char), .int, .int], returnType := some (.array .byte) }, accessFlags := 9, code := some k9c2 }
def k9c3 : Code := { maxStack := 3, maxLocals := 7, code := jdk_52_method_21_code, exceptionTable := #[], attributes := #[] }
def k9m3 : Method := { name := "compress", desc := "([CI[BII)I", sig := { parameters := [(.array .char), .int, (.array .byte), .int, .int], returnType := some .int }, accessFlags := 9, code := some k9c3 }
/-- java/lang/StringUTF16 -/
def k9 : Class := { plain "java/lang/StringUTF16" (some 0) with
  accessFlags := 48
  interfaces := #[]
  cf := some (fileOf pool9 12 #[.nestMembers #[627, 629, 369]] #[{ accessFlags := 0, nameIndex := 9, descriptorIndex := 10, attributes := #[] }, { accessFlags := 8, nameIndex := 261, descriptorIndex := 262, attributes := #[] }, { accessFlags := 9, nameIndex := 117, descriptorIndex := 122, attributes := #[] }, { accessFlags := 9, nameIndex := 117, descriptorIndex := 118, attributes := #[] }] 48 6 #[] #[{ accessFlags := 26, nameIndex := 61, descriptorIndex := 62, attributes := #[] }, { accessFlags := 26, nameIndex := 65, descriptorIndex := 62, attributes := #[] }, { accessFlags := 24, nameIndex := 430, descriptorIndex := 62, attributes := #[] }, { accessFlags := 4120, nameIndex := 46, descriptorIndex := 47, attributes := #[] }])
  fields := #[{ name := "HI_BYTE_SHIFT", type := .int, accessFlags := 26, slot := 0, constantValue := 0 }, { name := "LO_BYTE_SHIFT", type := .int, accessFlags := 26, slot := 1, constantValue := 0 }, { name := "MAX_LENGTH", type := .int, accessFlags := 24, slot := 2, constantValue := 0 }, { name := "$assertionsDisabled", type := .boolean, accessFlags := 4120, slot := 3, constantValue := 0 }]
  methods := #[k9m0, k9m1, k9m2, k9m3]
  instanceTypes := #[]
  staticTypes := #[.int, .int, .int, .boolean]
  resolved := Array.replicate 635 none
  statics := none }

def pool10 : Array CpInfo := pool [(2, .class_ 4), (1, u "java/lang/Object"), (0, u "<init>"), (0, u "()V"), (35, .class_ 44), (1, u "java/util/Objects"), (0, u "requireNonNull"), (48, u "(Ljava/lang/Object;Ljava/lang/String;)Ljava/lang/Object;")] 89

def k10m0 : Method := { name := "<init>", desc := "()V", sig := { parameters := [], returnType := none }, accessFlags := 2, code := none }
def k10c1 : Code := { maxStack := 3, maxLocals := 2, code := jdk_31_method_11_code, exceptionTable := #[], attributes := #[] }
def k10m1 : Method := { name := "requireNonNull", desc := "(Ljava/lang/Object;Ljava/lang/String;)Ljava/lang/Object;", sig := { parameters := [(.object "java/lang/Object"), (.object "java/lang/String")], returnType := some (.object "java/lang/Object") }, accessFlags := 9, code := some k10c1 }
/-- java/util/Objects -/
def k10 : Class := { plain "java/util/Objects" (some 0) with
  accessFlags := 49
  interfaces := #[]
  cf := some (fileOf pool10 42 #[] #[{ accessFlags := 2, nameIndex := 5, descriptorIndex := 6, attributes := #[] }, { accessFlags := 9, nameIndex := 45, descriptorIndex := 94, attributes := #[] }] 49 2 #[] #[])
  fields := #[]
  methods := #[k10m0, k10m1]
  instanceTypes := #[]
  staticTypes := #[]
  resolved := Array.replicate 184 none
  statics := none }

def pool11 : Array CpInfo := pool [(4, .class_ 6), (1, u "java/lang/Object"), (0, u "<init>"), (0, u "()V"), (5, .class_ 16), (1, u "java/lang/StringLatin1"), (104, u "$assertionsDisabled"), (0, u "Z"), (98, .class_ 223), (1, u "java/lang/StringLatin1$LinesSpliterator"), (57, u "equals"), (0, u "([B[B)Z"), (107, .class_ 391), (0, u "java/lang/StringLatin1$CharsSpliterator")] 3

def k11m0 : Method := { name := "<init>", desc := "()V", sig := { parameters := [], returnType := none }, accessFlags := 0, code := none }
def k11c1 : Code := { maxStack := 3, maxLocals := 3, code := jdk_43_method_13_code, exceptionTable := #[], attributes := #[] }
def k11m1 : Method := { name := "equals", desc := "([B[B)Z", sig := { parameters := [(.array .byte), (.array .byte)], returnType := some .boolean }, accessFlags := 9, code := some k11c1 }
/-- java/lang/StringLatin1 -/
def k11 : Class := { plain "java/lang/StringLatin1" (some 0) with
  accessFlags := 48
  interfaces := #[]
  cf := some (fileOf pool11 14 #[.nestMembers #[390, 221]] #[{ accessFlags := 0, nameIndex := 7, descriptorIndex := 8, attributes := #[] }, { accessFlags := 9, nameIndex := 281, descriptorIndex := 282, attributes := #[] }] 48 4 #[] #[{ accessFlags := 4120, nameIndex := 121, descriptorIndex := 122, attributes := #[] }])
  fields := #[{ name := "$assertionsDisabled", type := .boolean, accessFlags := 4120, slot := 0, constantValue := 0 }]
  methods := #[k11m0, k11m1]
  instanceTypes := #[]
  staticTypes := #[.boolean]
  resolved := Array.replicate 395 none
  statics := none }

def pool12 : Array CpInfo := pool [(2, .class_ 4), (1, u "java/lang/Object"), (0, u "<init>"), (0, u "()V"), (17, .class_ 26), (1, u "jdk/internal/util/Preconditions"), (28, .class_ 56), (0, u "jdk/internal/util/Preconditions$4"), (57, .class_ 115), (0, u "jdk/internal/util/Preconditions$1"), (7, u "SIOOBE_FORMATTER"), (0, u "Ljava/util/function/BiFunction;"), (0, .class_ 126), (0, u "jdk/internal/util/Preconditions$2"), (3, u "AIOOBE_FORMATTER"), (0, .class_ 132), (0, u "jdk/internal/util/Preconditions$3"), (3, u "IOOBE_FORMATTER")] 57

def k12m0 : Method := { name := "<init>", desc := "()V", sig := { parameters := [], returnType := none }, accessFlags := 1, code := none }
/-- jdk/internal/util/Preconditions -/
def k12 : Class := { plain "jdk/internal/util/Preconditions" (some 0) with
  accessFlags := 33
  interfaces := #[]
  cf := some (fileOf pool12 24 #[.nestMembers #[55, 131, 125, 114]] #[{ accessFlags := 1, nameIndex := 5, descriptorIndex := 6, attributes := #[] }] 33 2 #[] #[{ accessFlags := 25, nameIndex := 123, descriptorIndex := 124, attributes := #[] }, { accessFlags := 25, nameIndex := 130, descriptorIndex := 124, attributes := #[] }, { accessFlags := 25, nameIndex := 136, descriptorIndex := 124, attributes := #[] }])
  fields := #[{ name := "SIOOBE_FORMATTER", type := (.object "java/util/function/BiFunction"), accessFlags := 25, slot := 0, constantValue := 0 }, { name := "AIOOBE_FORMATTER", type := (.object "java/util/function/BiFunction"), accessFlags := 25, slot := 1, constantValue := 0 }, { name := "IOOBE_FORMATTER", type := (.object "java/util/function/BiFunction"), accessFlags := 25, slot := 2, constantValue := 0 }]
  methods := #[k12m0]
  instanceTypes := #[]
  staticTypes := #[(.object "java/util/function/BiFunction"), (.object "java/util/function/BiFunction"), (.object "java/util/function/BiFunction")]
  resolved := Array.replicate 194 none
  statics := some 1 }

def pool13 : Array CpInfo := pool [(9, u "<init>"), (6, .class_ 18), (1, u "java/lang/Object"), (0, u "()V"), (1, .class_ 23), (1, u "jdk/internal/util/ArraysSupport"), (0, u "LOG2_ARRAY_LONG_INDEX_SCALE"), (0, u "I"), (2, u "U"), (0, u "Ljdk/internal/misc/Unsafe;"), (8, u "BIG_ENDIAN"), (0, u "Z"), (8, u "LOG2_BYTE_BIT_SIZE"), (4, u "LOG2_ARRAY_INT_INDEX_SCALE"), (54, u "JLA"), (0, u "Ljdk/internal/access/JavaLangAccess;"), (11, u "LOG2_ARRAY_BOOLEAN_INDEX_SCALE"), (9, u "LOG2_ARRAY_BYTE_INDEX_SCALE"), (5, u "LOG2_ARRAY_CHAR_INDEX_SCALE"), (5, u "LOG2_ARRAY_SHORT_INDEX_SCALE"), (18, u "LOG2_ARRAY_FLOAT_INDEX_SCALE"), (24, u "LOG2_ARRAY_DOUBLE_INDEX_SCALE"), (89, u "T_BOOLEAN"), (2, u "T_CHAR"), (1, u "T_FLOAT"), (1, u "T_DOUBLE"), (1, u "T_BYTE"), (1, u "T_SHORT"), (1, u "T_INT"), (1, u "T_LONG"), (1, u "SOFT_MAX_ARRAY_LENGTH")] 83

def k13m0 : Method := { name := "<init>", desc := "()V", sig := { parameters := [], returnType := none }, accessFlags := 2, code := none }
/-- jdk/internal/util/ArraysSupport -/
def k13 : Class := { plain "jdk/internal/util/ArraysSupport" (some 0) with
  accessFlags := 33
  interfaces := #[]
  cf := some (fileOf pool13 21 #[] #[{ accessFlags := 2, nameIndex := 9, descriptorIndex := 19, attributes := #[] }] 33 16 #[] #[{ accessFlags := 24, nameIndex := 28, descriptorIndex := 29, attributes := #[] }, { accessFlags := 26, nameIndex := 38, descriptorIndex := 39, attributes := #[] }, { accessFlags := 25, nameIndex := 121, descriptorIndex := 25, attributes := #[] }, { accessFlags := 25, nameIndex := 131, descriptorIndex := 25, attributes := #[] }, { accessFlags := 25, nameIndex := 137, descriptorIndex := 25, attributes := #[] }, { accessFlags := 25, nameIndex := 143, descriptorIndex := 25, attributes := #[] }, { accessFlags := 25, nameIndex := 53, descriptorIndex := 25, attributes := #[] }, { accessFlags := 25, nameIndex := 24, descriptorIndex := 25, attributes := #[] }, { accessFlags := 25, nameIndex := 162, descriptorIndex := 25, attributes := #[] }, { accessFlags := 25, nameIndex := 187, descriptorIndex := 25, attributes := #[] }, { accessFlags := 26, nameIndex := 48, descriptorIndex := 25, attributes := #[] }, { accessFlags := 25, nameIndex := 277, descriptorIndex := 25, attributes := #[] }, { accessFlags := 25, nameIndex := 280, descriptorIndex := 25, attributes := #[] }, { accessFlags := 25, nameIndex := 282, descriptorIndex := 25, attributes := #[] }, { accessFlags := 25, nameIndex := 284, descriptorIndex := 25, attributes := #[] }, { accessFlags := 25, nameIndex := 286, descriptorIndex := 25, attributes := #[] }, { accessFlags := 25, nameIndex := 288, descriptorIndex := 25, attributes := #[] }, { accessFlags := 25, nameIndex := 290, descriptorIndex := 25, attributes := #[] }, { accessFlags := 25, nameIndex := 292, descriptorIndex := 25, attributes := #[] }, { accessFlags := 26, nameIndex := 108, descriptorIndex := 109, attributes := #[] }, { accessFlags := 25, nameIndex := 294, descriptorIndex := 25, attributes := #[] }])
  fields := #[{ name := "U", type := (.object "jdk/internal/misc/Unsafe"), accessFlags := 24, slot := 0, constantValue := 0 }, { name := "BIG_ENDIAN", type := .boolean, accessFlags := 26, slot := 1, constantValue := 0 }, { name := "LOG2_ARRAY_BOOLEAN_INDEX_SCALE", type := .int, accessFlags := 25, slot := 2, constantValue := 0 }, { name := "LOG2_ARRAY_BYTE_INDEX_SCALE", type := .int, accessFlags := 25, slot := 3, constantValue := 0 }, { name := "LOG2_ARRAY_CHAR_INDEX_SCALE", type := .int, accessFlags := 25, slot := 4, constantValue := 0 }, { name := "LOG2_ARRAY_SHORT_INDEX_SCALE", type := .int, accessFlags := 25, slot := 5, constantValue := 0 }, { name := "LOG2_ARRAY_INT_INDEX_SCALE", type := .int, accessFlags := 25, slot := 6, constantValue := 0 }, { name := "LOG2_ARRAY_LONG_INDEX_SCALE", type := .int, accessFlags := 25, slot := 7, constantValue := 0 }, { name := "LOG2_ARRAY_FLOAT_INDEX_SCALE", type := .int, accessFlags := 25, slot := 8, constantValue := 0 }, { name := "LOG2_ARRAY_DOUBLE_INDEX_SCALE", type := .int, accessFlags := 25, slot := 9, constantValue := 0 }, { name := "LOG2_BYTE_BIT_SIZE", type := .int, accessFlags := 26, slot := 10, constantValue := 0 }, { name := "T_BOOLEAN", type := .int, accessFlags := 25, slot := 11, constantValue := 0 }, { name := "T_CHAR", type := .int, accessFlags := 25, slot := 12, constantValue := 0 }, { name := "T_FLOAT", type := .int, accessFlags := 25, slot := 13, constantValue := 0 }, { name := "T_DOUBLE", type := .int, accessFlags := 25, slot := 14, constantValue := 0 }, { name := "T_BYTE", type := .int, accessFlags := 25, slot := 15, constantValue := 0 }, { name := "T_SHORT", type := .int, accessFlags := 25, slot := 16, constantValue := 0 }, { name := "T_INT", type := .int, accessFlags := 25, slot := 17, constantValue := 0 }, { name := "T_LONG", type := .int, accessFlags := 25, slot := 18, constantValue := 0 }, { name := "JLA", type := (.object "jdk/internal/access/JavaLangAccess"), accessFlags := 26, slot := 19, constantValue := 0 }, { name := "SOFT_MAX_ARRAY_LENGTH", type := .int, accessFlags := 25, slot := 20, constantValue := 0 }]
  methods := #[k13m0]
  instanceTypes := #[]
  staticTypes := #[(.object "jdk/internal/misc/Unsafe"), .boolean, .int, .int, .int, .int, .int, .int, .int, .int, .int, .int, .int, .int, .int, .int, .int, .int, .int, (.object "jdk/internal/access/JavaLangAccess"), .int]
  resolved := Array.replicate 378 none
  statics := none }

def pool14 : Array CpInfo := pool [(1, u "java/lang/Cloneable"), (0, .class_ 1), (0, u "java/lang/Object"), (0, .class_ 3)] 3

/-- java/lang/Cloneable -/
def k14 : Class := { plain "java/lang/Cloneable" (some 0) with
  accessFlags := 1537
  interfaces := #[]
  cf := some (fileOf pool14 2 #[] #[] 1537 4 #[] #[])
  fields := #[]
  methods := #[]
  instanceTypes := #[]
  staticTypes := #[]
  resolved := Array.replicate 8 none
  statics := none }

/-- the primitive byte -/
def k15 : Class := { plain "byte" none with kind := .primitive 'B', accessFlags := 0x411 }
/-- [B -/
def k16 : Class := { plain "[B" (some 0) with kind := .array 15 .byte, interfaces := #[14, 3], accessFlags := 1041 }

/-- the primitive char -/
def k17 : Class := { plain "char" none with kind := .primitive 'C', accessFlags := 0x411 }
/-- [C -/
def k18 : Class := { plain "[C" (some 0) with kind := .array 17 .char, interfaces := #[14, 3], accessFlags := 1041 }

/-- the primitive int -/
def k19 : Class := { plain "int" none with kind := .primitive 'I', accessFlags := 0x411 }
/-- [I -/
def k20 : Class := { plain "[I" (some 0) with kind := .array 19 .int, interfaces := #[14, 3], accessFlags := 1041 }

def heap : Heap := #[{ cls := 8, slots := #[.long 0, .int 1, .null, .int 0, .null, .int 0, .int 0], vm := .statics 8 },
  { cls := 12, slots := #[.null, .null, .null], vm := .statics 12 }]
def classes : Array Class := #[k0, k1, k2, k3, k4, k5, k6, k7, k8, k9, k10, k11, k12, k13, k14, k15, k16, k17, k18, k19, k20]
def interned : List (Array UInt16 × Addr) := []
def slotsUsed : Nat := 10
def theMethod : MethodId := ⟨1, 7⟩
def args0 : Array Value := #[.int 97, .int 5, .int 2, .int 7, .int 1]
def aboutOver (below : List Frame) : State where
  vm := { classes := classes, interned := interned.toArray }
  heap := heap
  slotsUsed := slotsUsed
  threads := #[{ frames := .invoking theMethod args0 :: below }]
def below0 : List Frame := [.native { method := ⟨0, 0⟩, args := #[] }]
def about1 : State := aboutOver below0
def p0 : Program := .bare "" "" ""
def e0 : Env := launch0.env 0 0 0
theorem w_frames : about1.frames = Frame.invoking theMethod args0 :: below0 := rfl
set_option maxRecDepth 65536 in
theorem w_args : argsFit about1.vm theMethod args0 = true := by decide +kernel
set_option maxRecDepth 65536 in
theorem w_heap : heapFits about1 = true := by decide +kernel
set_option maxRecDepth 65536 in
theorem w_runnable : about1.curStatus? = some .runnable := by decide +kernel
set_option maxRecDepth 65536 in
theorem w_alone : about1.alone = true := by decide +kernel
set_option maxRecDepth 65536 in
theorem w_named : about1.methodNamed? x = some theMethod := by decide +kernel
set_option maxRecDepth 65536 in
theorem w_hears : about1.hears theMethod below0 = true := by decide +kernel
set_option maxRecDepth 65536 in
theorem w_ripe : about1.ripe theMethod args0 below0 = true := by decide +kernel
theorem w_running : about1.status = .running := rfl
set_option maxRecDepth 65536 in
theorem w_room : about1.hasRoom e0.platform room_1 = true :=
  launch0.hasRoom_least _ room_1 (by decide +kernel) (by decide +kernel) (by decide +kernel) (by decide +kernel) (by decide +kernel) (by decide +kernel)
theorem allAtoms_all (ts : List Jvm.Cond) (a : Array Jvm.Value) (st : Jvm.State) : (allAtoms ts).before a st = ts.all (fun c => c.before a st) := by
  induction ts with
  | nil => rfl
  | cons c t ih =>
    show (Jvm.Cond.and c (allAtoms t)).before a st = _
    rw [Jvm.Cond.before_and, ih, List.all_cons]
def words1 : List Jvm.Cond := Jvm.Cond.code x code maxLocals ret :: tables_1
/-- a 'code' word, met by the world's own term for the bytes: nothing is compared byte by byte -/
theorem code_word {y : MethodName} {bytes : ByteArray} {mx : Nat} {rt : Option FieldType} {a : Array Value} {s : State} {m : MethodId} {meth : Method} {c : Code} (h1 : s.methodNamed? y = some m) (h2 : s.vm.method? m = some meth) (h3 : meth.code = some c) (h4 : c.code = bytes)
    (h5 : (c.maxLocals == mx && c.exceptionTable.isEmpty && decide (c.maxStack ≤ mostOperands) && decide (meth.sig.returnType = rt) && !meth.locks && decide (parseMethodDescriptor y.desc = some meth.sig)) = true) : (Jvm.Cond.code y bytes mx rt).before a s = true := by
  simp only [Bool.and_eq_true, beq_iff_eq, Bool.not_eq_true', decide_eq_true_eq] at h5
  obtain ⟨⟨⟨⟨⟨g1, g2⟩, g3⟩, g4⟩, g5⟩, g6⟩ := h5
  simp [Cond.before, Cond.holds, Cond.value, h1, h2, h3, h4, g1, g2, g3, g4, g5, g6]
def isCode : Jvm.Cond → Bool
  | .code _ _ _ _ => true
  | _ => false
theorem all_split {L : List Jvm.Cond} {P : Jvm.Cond → Bool} (h1 : L.all (fun c => isCode c || P c) = true) (h2 : ∀ c ∈ L.filter isCode, P c = true) : L.all P = true := by
  refine List.all_eq_true.mpr fun c hc => ?_
  have h := List.all_eq_true.mp h1 c hc
  rcases Bool.eq_false_or_eq_true (isCode c) with hi | hi
  · exact h2 c (List.mem_filter.mpr ⟨hc, hi⟩)
  · simpa [hi] using h
set_option maxRecDepth 65536 in
theorem w_c0 : (Jvm.Cond.code x code maxLocals ret).before args0 about1 = true := code_word (m := ⟨1, 7⟩) (meth := k1m7) (c := k1c7) (by decide +kernel) rfl rfl rfl (by decide +kernel)
set_option maxRecDepth 65536 in
theorem w_c1 : (Jvm.Cond.code ({ cls := "com/example/people_in_groups/peopleingroups/model/CustomPairEqualsPinLaw", name := "mk", desc := "(I)Ljava/lang/String;" } : Jvm.MethodName) method_6_code (2 : Nat) (Option.some (Jvm.ClassFile.FieldType.object "java/lang/String"))).before args0 about1 = true := code_word (m := ⟨1, 5⟩) (meth := k1m5) (c := k1c5) (by decide +kernel) rfl rfl rfl (by decide +kernel)
set_option maxRecDepth 65536 in
theorem w_c2 : (Jvm.Cond.code ({ cls := "com/example/people_in_groups/peopleingroups/model/CustomPairEqualsPinLaw", name := "len", desc := "(I)I" } : Jvm.MethodName) method_2_code (1 : Nat) (Option.some Jvm.ClassFile.FieldType.int)).before args0 about1 = true := code_word (m := ⟨1, 1⟩) (meth := k1m1) (c := k1c1) (by decide +kernel) rfl rfl rfl (by decide +kernel)
set_option maxRecDepth 65536 in
theorem w_c3 : (Jvm.Cond.code ({ cls := "java/lang/String", name := "<init>", desc := "([C)V" } : Jvm.MethodName) jdk_42_method_3_code (2 : Nat) (Option.none : Option Jvm.ClassFile.FieldType)).before args0 about1 = true := code_word (m := ⟨8, 1⟩) (meth := k8m1) (c := k8c1) (by decide +kernel) rfl rfl rfl (by decide +kernel)
set_option maxRecDepth 65536 in
theorem w_c4 : (Jvm.Cond.code ({ cls := "java/lang/String", name := "<init>", desc := "([CIILjava/lang/Void;)V" } : Jvm.MethodName) jdk_42_method_149_code (6 : Nat) (Option.none : Option Jvm.ClassFile.FieldType)).before args0 about1 = true := code_word (m := ⟨8, 3⟩) (meth := k8m3) (c := k8c3) (by decide +kernel) rfl rfl rfl (by decide +kernel)
set_option maxRecDepth 65536 in
theorem w_c5 : (Jvm.Cond.code ({ cls := "java/lang/Object", name := "<init>", desc := "()V" } : Jvm.MethodName) object_method_1_code (1 : Nat) (Option.none : Option Jvm.ClassFile.FieldType)).before args0 about1 = true := code_word (m := ⟨0, 0⟩) (meth := k0m0) (c := k0c0) (by decide +kernel) rfl rfl rfl (by decide +kernel)
set_option maxRecDepth 65536 in
theorem w_c6 : (Jvm.Cond.code ({ cls := "com/example/people_in_groups/peopleingroups/model/CustomPairEqualsPinLaw", name := "c0", desc := "(I)C" } : Jvm.MethodName) method_3_code (1 : Nat) (Option.some Jvm.ClassFile.FieldType.char)).before args0 about1 = true := code_word (m := ⟨1, 2⟩) (meth := k1m2) (c := k1c2) (by decide +kernel) rfl rfl rfl (by decide +kernel)
set_option maxRecDepth 65536 in
theorem w_c7 : (Jvm.Cond.code ({ cls := "com/example/people_in_groups/peopleingroups/model/CustomPairEqualsPinLaw", name := "c1", desc := "(I)C" } : Jvm.MethodName) method_4_code (1 : Nat) (Option.some Jvm.ClassFile.FieldType.char)).before args0 about1 = true := code_word (m := ⟨1, 3⟩) (meth := k1m3) (c := k1c3) (by decide +kernel) rfl rfl rfl (by decide +kernel)
set_option maxRecDepth 65536 in
theorem w_c8 : (Jvm.Cond.code ({ cls := "com/example/people_in_groups/peopleingroups/model/CustomPairEqualsPinLaw", name := "c2", desc := "(I)C" } : Jvm.MethodName) method_5_code (1 : Nat) (Option.some Jvm.ClassFile.FieldType.char)).before args0 about1 = true := code_word (m := ⟨1, 4⟩) (meth := k1m4) (c := k1c4) (by decide +kernel) rfl rfl rfl (by decide +kernel)
set_option maxRecDepth 65536 in
theorem w_c9 : (Jvm.Cond.code ({ cls := "java/lang/StringUTF16", name := "compress", desc := "([CII)[B" } : Jvm.MethodName) jdk_52_method_16_code (6 : Nat) (Option.some (Jvm.ClassFile.FieldType.array Jvm.ClassFile.FieldType.byte))).before args0 about1 = true := code_word (m := ⟨9, 2⟩) (meth := k9m2) (c := k9c2) (by decide +kernel) rfl rfl rfl (by decide +kernel)
set_option maxRecDepth 65536 in
theorem w_c10 : (Jvm.Cond.code ({ cls := "java/lang/StringUTF16", name := "compress", desc := "([CI[BII)I" } : Jvm.MethodName) jdk_52_method_21_code (7 : Nat) (Option.some Jvm.ClassFile.FieldType.int)).before args0 about1 = true := code_word (m := ⟨9, 3⟩) (meth := k9m3) (c := k9c3) (by decide +kernel) rfl rfl rfl (by decide +kernel)
set_option maxRecDepth 65536 in
theorem w_c11 : (Jvm.Cond.code ({ cls := "java/lang/StringUTF16", name := "coderFromArrayLen", desc := "([BI)B" } : Jvm.MethodName) jdk_52_method_15_code (2 : Nat) (Option.some Jvm.ClassFile.FieldType.byte)).before args0 about1 = true := code_word (m := ⟨9, 1⟩) (meth := k9m1) (c := k9c1) (by decide +kernel) rfl rfl rfl (by decide +kernel)
set_option maxRecDepth 65536 in
theorem w_c12 : (Jvm.Cond.code ({ cls := "com/example/people_in_groups/peopleingroups/model/CustomPair", name := "<init>", desc := "(Ljava/lang/String;Ljava/lang/String;)V" } : Jvm.MethodName) prog_5_method_1_code (3 : Nat) (Option.none : Option Jvm.ClassFile.FieldType)).before args0 about1 = true := code_word (m := ⟨2, 0⟩) (meth := k2m0) (c := k2c0) (by decide +kernel) rfl rfl rfl (by decide +kernel)
set_option maxRecDepth 65536 in
theorem w_c13 : (Jvm.Cond.code ({ cls := "java/util/Objects", name := "requireNonNull", desc := "(Ljava/lang/Object;Ljava/lang/String;)Ljava/lang/Object;" } : Jvm.MethodName) jdk_31_method_11_code (2 : Nat) (Option.some (Jvm.ClassFile.FieldType.object "java/lang/Object"))).before args0 about1 = true := code_word (m := ⟨10, 1⟩) (meth := k10m1) (c := k10c1) (by decide +kernel) rfl rfl rfl (by decide +kernel)
set_option maxRecDepth 65536 in
theorem w_c14 : (Jvm.Cond.code ({ cls := "com/example/people_in_groups/peopleingroups/model/CustomPairEqualsPinLaw", name := "same", desc := "(II)Z" } : Jvm.MethodName) method_7_code (3 : Nat) (Option.some Jvm.ClassFile.FieldType.boolean)).before args0 about1 = true := code_word (m := ⟨1, 6⟩) (meth := k1m6) (c := k1c6) (by decide +kernel) rfl rfl rfl (by decide +kernel)
set_option maxRecDepth 65536 in
theorem w_c15 : (Jvm.Cond.code ({ cls := "com/example/people_in_groups/peopleingroups/model/CustomPair", name := "equals", desc := "(Ljava/lang/Object;)Z" } : Jvm.MethodName) prog_5_method_4_code (2 : Nat) (Option.some Jvm.ClassFile.FieldType.boolean)).before args0 about1 = true := code_word (m := ⟨2, 1⟩) (meth := k2m1) (c := k2c1) (by decide +kernel) rfl rfl rfl (by decide +kernel)
set_option maxRecDepth 65536 in
theorem w_c16 : (Jvm.Cond.code ({ cls := "java/lang/String", name := "equals", desc := "(Ljava/lang/Object;)Z" } : Jvm.MethodName) jdk_42_method_66_code (3 : Nat) (Option.some Jvm.ClassFile.FieldType.boolean)).before args0 about1 = true := code_word (m := ⟨8, 2⟩) (meth := k8m2) (c := k8c2) (by decide +kernel) rfl rfl rfl (by decide +kernel)
set_option maxRecDepth 65536 in
theorem w_c17 : (Jvm.Cond.code ({ cls := "java/lang/StringLatin1", name := "equals", desc := "([B[B)Z" } : Jvm.MethodName) jdk_43_method_13_code (3 : Nat) (Option.some Jvm.ClassFile.FieldType.boolean)).before args0 about1 = true := code_word (m := ⟨11, 1⟩) (meth := k11m1) (c := k11c1) (by decide +kernel) rfl rfl rfl (by decide +kernel)
def codes1 : List Jvm.Cond := [Jvm.Cond.code x code maxLocals ret, Jvm.Cond.code ({ cls := "com/example/people_in_groups/peopleingroups/model/CustomPairEqualsPinLaw", name := "mk", desc := "(I)Ljava/lang/String;" } : Jvm.MethodName) method_6_code (2 : Nat) (Option.some (Jvm.ClassFile.FieldType.object "java/lang/String")), Jvm.Cond.code ({ cls := "com/example/people_in_groups/peopleingroups/model/CustomPairEqualsPinLaw", name := "len", desc := "(I)I" } : Jvm.MethodName) method_2_code (1 : Nat) (Option.some Jvm.ClassFile.FieldType.int), Jvm.Cond.code ({ cls := "java/lang/String", name := "<init>", desc := "([C)V" } : Jvm.MethodName) jdk_42_method_3_code (2 : Nat) (Option.none : Option Jvm.ClassFile.FieldType), Jvm.Cond.code ({ cls := "java/lang/String", name := "<init>", desc := "([CIILjava/lang/Void;)V" } : Jvm.MethodName) jdk_42_method_149_code (6 : Nat) (Option.none : Option Jvm.ClassFile.FieldType), Jvm.Cond.code ({ cls := "java/lang/Object", name := "<init>", desc := "()V" } : Jvm.MethodName) object_method_1_code (1 : Nat) (Option.none : Option Jvm.ClassFile.FieldType), Jvm.Cond.code ({ cls := "com/example/people_in_groups/peopleingroups/model/CustomPairEqualsPinLaw", name := "c0", desc := "(I)C" } : Jvm.MethodName) method_3_code (1 : Nat) (Option.some Jvm.ClassFile.FieldType.char), Jvm.Cond.code ({ cls := "com/example/people_in_groups/peopleingroups/model/CustomPairEqualsPinLaw", name := "c1", desc := "(I)C" } : Jvm.MethodName) method_4_code (1 : Nat) (Option.some Jvm.ClassFile.FieldType.char), Jvm.Cond.code ({ cls := "com/example/people_in_groups/peopleingroups/model/CustomPairEqualsPinLaw", name := "c2", desc := "(I)C" } : Jvm.MethodName) method_5_code (1 : Nat) (Option.some Jvm.ClassFile.FieldType.char), Jvm.Cond.code ({ cls := "java/lang/StringUTF16", name := "compress", desc := "([CII)[B" } : Jvm.MethodName) jdk_52_method_16_code (6 : Nat) (Option.some (Jvm.ClassFile.FieldType.array Jvm.ClassFile.FieldType.byte)), Jvm.Cond.code ({ cls := "java/lang/StringUTF16", name := "compress", desc := "([CI[BII)I" } : Jvm.MethodName) jdk_52_method_21_code (7 : Nat) (Option.some Jvm.ClassFile.FieldType.int), Jvm.Cond.code ({ cls := "java/lang/StringUTF16", name := "coderFromArrayLen", desc := "([BI)B" } : Jvm.MethodName) jdk_52_method_15_code (2 : Nat) (Option.some Jvm.ClassFile.FieldType.byte), Jvm.Cond.code ({ cls := "com/example/people_in_groups/peopleingroups/model/CustomPair", name := "<init>", desc := "(Ljava/lang/String;Ljava/lang/String;)V" } : Jvm.MethodName) prog_5_method_1_code (3 : Nat) (Option.none : Option Jvm.ClassFile.FieldType), Jvm.Cond.code ({ cls := "java/util/Objects", name := "requireNonNull", desc := "(Ljava/lang/Object;Ljava/lang/String;)Ljava/lang/Object;" } : Jvm.MethodName) jdk_31_method_11_code (2 : Nat) (Option.some (Jvm.ClassFile.FieldType.object "java/lang/Object")), Jvm.Cond.code ({ cls := "com/example/people_in_groups/peopleingroups/model/CustomPairEqualsPinLaw", name := "same", desc := "(II)Z" } : Jvm.MethodName) method_7_code (3 : Nat) (Option.some Jvm.ClassFile.FieldType.boolean), Jvm.Cond.code ({ cls := "com/example/people_in_groups/peopleingroups/model/CustomPair", name := "equals", desc := "(Ljava/lang/Object;)Z" } : Jvm.MethodName) prog_5_method_4_code (2 : Nat) (Option.some Jvm.ClassFile.FieldType.boolean), Jvm.Cond.code ({ cls := "java/lang/String", name := "equals", desc := "(Ljava/lang/Object;)Z" } : Jvm.MethodName) jdk_42_method_66_code (3 : Nat) (Option.some Jvm.ClassFile.FieldType.boolean), Jvm.Cond.code ({ cls := "java/lang/StringLatin1", name := "equals", desc := "([B[B)Z" } : Jvm.MethodName) jdk_43_method_13_code (3 : Nat) (Option.some Jvm.ClassFile.FieldType.boolean)]
set_option maxRecDepth 65536 in
theorem codes_eq : words1.filter isCode = codes1 := rfl
theorem w_codes : ∀ c ∈ words1.filter isCode, c.before args0 about1 = true := by
  rw [codes_eq]
  intro c hc
  simp only [codes1, List.mem_cons, List.not_mem_nil, or_false] at hc
  rcases hc with rfl | rfl | rfl | rfl | rfl | rfl | rfl | rfl | rfl | rfl | rfl | rfl | rfl | rfl | rfl | rfl | rfl | rfl
  · exact w_c0
  · exact w_c1
  · exact w_c2
  · exact w_c3
  · exact w_c4
  · exact w_c5
  · exact w_c6
  · exact w_c7
  · exact w_c8
  · exact w_c9
  · exact w_c10
  · exact w_c11
  · exact w_c12
  · exact w_c13
  · exact w_c14
  · exact w_c15
  · exact w_c16
  · exact w_c17
set_option maxRecDepth 65536 in
theorem w_t1 : (words1.take 24).all (fun c => isCode c || c.before args0 about1) = true := by decide +kernel
set_option maxRecDepth 65536 in
theorem w_t2 : ((words1.drop 24).take 24).all (fun c => isCode c || c.before args0 about1) = true := by decide +kernel
set_option maxRecDepth 65536 in
theorem w_t3 : (((words1.drop 24).drop 24).take 24).all (fun c => isCode c || c.before args0 about1) = true := by decide +kernel
set_option maxRecDepth 65536 in
theorem w_t4 : (((words1.drop 24).drop 24).drop 24).all (fun c => isCode c || c.before args0 about1) = true := by decide +kernel
theorem w_tables : (allAtoms (Jvm.Cond.code x code maxLocals ret :: tables_1)).before args0 about1 = true := by
  rw [allAtoms_all]
  show words1.all (fun c => c.before args0 about1) = true
  refine all_split ?_ w_codes
  rw [← List.take_append_drop 24 words1, List.all_append, w_t1, ← List.take_append_drop 24 (words1.drop 24), List.all_append, w_t2, ← List.take_append_drop 24 ((words1.drop 24).drop 24), List.all_append, w_t3, w_t4]
  rfl
set_option maxRecDepth 65536 in
theorem w_rest : rest_1_c.before args0 about1 = true := by decide +kernel
set_option maxRecDepth 65536 in
theorem w_case : (Jvm.Cond.and given_1 narrow_1).before args0 about1 = true := by decide +kernel
set_option maxRecDepth 65536 in
theorem w_consts : constsHeld consts_1 about1 := Jvm.Lit.constsHeldB_iff.mp (by decide +kernel)
theorem w_applies : (headSpec (Jvm.Cond.code x code maxLocals ret :: tables_1) room_1).applies x e0.platform about1 = true :=
  (Spec.applies_iff w_frames).mpr ⟨w_running, w_runnable, w_alone, w_named, w_hears, w_ripe, w_room, w_tables⟩
theorem atStart : AtStart classFile x code maxLocals ret World_1 tables_1 room_1 Calls_1 rest_1 Pre_1 launch0 p0 e0 about1 theMethod args0 below0 :=
  ⟨lists_1, trivial, launch0.admits_env _ _ _, launch0.least_env, fairChoices_fair.cas, fairChoices_fair.clock, w_frames, w_args, w_heap, w_applies, ⟨w_consts, trivial⟩, w_rest, w_case⟩
end start1
theorem witness_1 : WitnessClaimed_1 := ⟨start1.p0, start1.e0, start1.about1, start1.theMethod, start1.args0, start1.below0, start1.atStart⟩
end Jvm.Pilot.@@N@@
