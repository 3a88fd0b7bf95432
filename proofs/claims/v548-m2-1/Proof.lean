import JvmDerived
import JvmDerived.Pilot.@@N@@Statement
import JvmDerived.Pilot.@@N@@Code
set_option linter.unusedVariables false
set_option linter.unusedSimpArgs false

namespace Jvm.Pilot.@@N@@
open Jvm Jvm.ClassFile Sem Op Lib Jvm.Free Jvm.Stand Jvm.LawKit Jvm.RoadKit Bundle Jvm.Pilot.@@N@@.Jvm.D
/-! own text: the run of a body in continuation form -/
section OwnKit
variable {wd : Option (Vm → Heap → Prop)} {p : Program} {l : Launch} {e : Env} {R : Room} {s : State} {m : MethodId} {args : Array Value} {below : List Frame} {meth : Method} {c : Code} {T : State} {locs : List Loc} {cells slots : Nat} {Z : State} {a0 : Array Value} {h : Heap} {Qb : Option Value → Heap → List Loc → Prop} {kc ks : Nat}
/-- from the state T with the frame g on top the run comes to the end of the body, and there Qb holds -/
def OkF (wd : Option (Vm → Heap → Prop)) (vm : Vm) (h : Heap) : Prop := match wd with
  | none => True
  | some F => F vm h
def FE (wd : Option (Vm → Heap → Prop)) (s : State) (o : Outcome) (t : State) (L : List Loc) (k n : Nat) : Prop := match wd with
  | none => FrameEnd s o t L k n
  | some F => ReturnedEndW s o t L k n ∧ F t.vm t.heap
theorem FE.of {s t : State} {o : Outcome} {L : List Loc} {k n : Nat} {wd : Option (Vm → Heap → Prop)} (h : FrameEnd s o t L k n) (g : OkF wd t.vm t.heap) : FE wd s o t L k n := by
  cases wd
  · exact h
  · exact ⟨ReturnedEndW.of_narrow h.1 h.2.1 h.2.2, g⟩
def Ends (wd : Option (Vm → Heap → Prop)) (p : Program) (e : Env) (below : List Frame) (s : State) (Qb : Option Value → Heap → List Loc → Prop) (kc ks : Nat) (T : State) (g : JFrame) : Prop :=
  ∃ s₂ o, Steps p.tables e below (T.setTop g) s₂ ∧ s₂.status = .running ∧ Ended s₂ below o ∧ ∃ v L, o = .returned v ∧ Qb v s₂.heap L ∧ FE wd s o s₂ L kc ks
theorem Ends.go {T T' : State} {g g' : JFrame} (h : ∀ t, Steps p.tables e below (T'.setTop g') t → Steps p.tables e below (T.setTop g) t) (k : Ends wd p e below s Qb kc ks T' g') : Ends wd p e below s Qb kc ks T g := by
  obtain ⟨s2, o, st, r⟩ := k
  exact ⟨s2, o, h _ st, r⟩
theorem Ends.cast {T : State} {g g' : JFrame} (h : g = g') (k : Ends wd p e below s Qb kc ks T g') : Ends wd p e below s Qb kc ks T g := h ▸ k
abbrev Con (l : Launch) (y : MethodName) (code : ByteArray) (ml : Nat) (rt : Option FieldType) (ws : List Jvm.Cond) (rm : Room) (as' : Array Value) (Z : State) (h0 : Heap) (Q : Option Value → Heap → List Loc → Prop) : Prop :=
  MetFree l y (head1 (Jvm.Cond.code y code ml rt :: ws) rm) (fun a U => a = as' ∧ Z.Warmed39 U.vm ∧ U.heap = h0) (fun _ _ _ _ _ => True) (fun _ U o U' => ∃ v L, o = .returned v ∧ Q v U'.heap L ∧ FrameEnd U o U' L rm.cells rm.slots)
theorem Con.of {y : MethodName} {code : ByteArray} {ml : Nat} {rt : Option FieldType} {ws : List Jvm.Cond} {rm : Room} {as' : Array Value} {h0 : Heap} {Q : Option Value → Heap → List Loc → Prop} (hp : plainFor y = true)
    (k : ∀ (p : Program) (e : Env) (s : State) (m : MethodId) (below : List Frame) (meth : Method) (c : Code) (s₁ : State), p.tables.exec = Jvm.exec → Z.Warmed39 s.vm → c.code = code → c.maxLocals = ml → s.vm.findClass y.cls = some m.cls → meth.name = y.name → meth.sig.returnType = rt → meth.locks = false →
      Stand p l e rm s m as' below meth c s₁ [] 0 0 → s₁.heap = h0 → Ends none p e below s Q rm.cells rm.slots s₁ (entryFrame m as' ml)) : Con l y code ml rt ws rm as' Z h0 Q := by
  refine MetFree.of_bodySF hp hisR ?_
  intro p e s m args below meth c s₁ Bd hml0 hP hK
  obtain ⟨rfl, hZ, hh⟩ := hP
  exact k p e s m below meth c s₁ Bd.exec hZ Bd.bytes hml0 (findClass_of_methodNamed Bd.named) (name_of_methodNamed Bd.named Bd.method).1 Bd.returns Bd.notSynchronized (Stand.of_body Bd) (by rw [← hh, Bd.state]; rfl)
theorem Ends.ret (X : Stand p l e R s m args below meth c T locs cells slots) (hx : p.tables.exec = Jvm.exec) (hlk : meth.locks = false) {pc : Nat} {Ls : Array Slot} {w : Value} {t : FieldType} {i : Instr} {rest : List Value} (hret : meth.sig.returnType = some t) (hn : narrow t w = w)
    (hi : (i = .ireturn ∧ (t = .int ∨ t = .boolean ∨ t = .byte ∨ t = .char ∨ t = .short) ∧ ∃ z, w = .int z) ∨ (i = .lreturn ∧ t = .long ∧ ∃ z, w = .long z) ∨ (i = .dreturn ∧ t = .double ∧ ∃ z, w = .double z) ∨ (i = .freturn ∧ t = .float ∧ ∃ z, w = .float z) ∨ (i = .areturn ∧ t.isReference = true ∧ w.isRef = true))
    (hd : decode c.code pc = .ok (i, 1)) (hc : cells ≤ kc) (hs : slots ≤ ks) (hQ : Qb (some w) T.heap locs) (hF : OkF wd T.vm T.heap := by exact True.intro) : Ends wd p e below s Qb kc ks T (mkF m pc Ls (w :: rest)) := by
  obtain ⟨fs, hr, hrun, hended, hW, hsame⟩ := X.leave (v := some w) (fun h => by rw [hret] at h; cases h) hlk
  exact ⟨_, _, retOut X hx hret hn hi hd hr, hrun, hended, _, _, rfl, hQ, FE.of ⟨⟨_, rfl⟩, hW, hsame.mono hc hs⟩ hF⟩
theorem Ends.retI (X : Stand p l e R s m args below meth c T locs cells slots) (hx : p.tables.exec = Jvm.exec) (hlk : meth.locks = false) {pc : Nat} {Ls : Array Slot} {z : Int32} {rest : List Value} (hret : meth.sig.returnType = some .int) (hd : decode c.code pc = .ok (.ireturn, 1)) (hc : cells ≤ kc) (hs : slots ≤ ks) (hQ : Qb (some (.int z)) T.heap locs) (hF : OkF wd T.vm T.heap := by exact True.intro) : Ends wd p e below s Qb kc ks T (mkF m pc Ls (.int z :: rest)) :=
  Ends.ret X hx hlk hret rfl (Or.inl ⟨rfl, Or.inl rfl, _, rfl⟩) hd hc hs hQ hF
theorem Ends.retJ (X : Stand p l e R s m args below meth c T locs cells slots) (hx : p.tables.exec = Jvm.exec) (hlk : meth.locks = false) {pc : Nat} {Ls : Array Slot} {z : Int64} {rest : List Value} (hret : meth.sig.returnType = some .long) (hd : decode c.code pc = .ok (.lreturn, 1)) (hc : cells ≤ kc) (hs : slots ≤ ks) (hQ : Qb (some (.long z)) T.heap locs) (hF : OkF wd T.vm T.heap := by exact True.intro) : Ends wd p e below s Qb kc ks T (mkF m pc Ls (.long z :: rest)) :=
  Ends.ret X hx hlk hret rfl (Or.inr (Or.inl ⟨rfl, rfl, _, rfl⟩)) hd hc hs hQ hF
theorem Ends.retS (X : Stand p l e R s m args below meth c T locs cells slots) (hx : p.tables.exec = Jvm.exec) (hlk : meth.locks = false) {pc : Nat} {Ls : Array Slot} {z : Int32} {t : FieldType} {rest : List Value} (hret : meth.sig.returnType = some t) (ht : t = .boolean ∨ t = .byte ∨ t = .char ∨ t = .short) (hn : narrow t (.int z) = .int z) (hd : decode c.code pc = .ok (.ireturn, 1)) (hc : cells ≤ kc) (hs : slots ≤ ks) (hQ : Qb (some (.int z)) T.heap locs) (hF : OkF wd T.vm T.heap := by exact True.intro) : Ends wd p e below s Qb kc ks T (mkF m pc Ls (.int z :: rest)) :=
  Ends.ret X hx hlk hret hn (Or.inl ⟨rfl, Or.inr ht, _, rfl⟩) hd hc hs hQ hF
theorem Ends.retA (X : Stand p l e R s m args below meth c T locs cells slots) (hx : p.tables.exec = Jvm.exec) (hlk : meth.locks = false) {pc : Nat} {Ls : Array Slot} {w : Value} {t : FieldType} {rest : List Value} (hret : meth.sig.returnType = some t) (ht : t.isReference = true) (hw : w.isRef = true) (hn : narrow t w = w) (hd : decode c.code pc = .ok (.areturn, 1)) (hc : cells ≤ kc) (hs : slots ≤ ks) (hQ : Qb (some w) T.heap locs) (hF : OkF wd T.vm T.heap := by exact True.intro) : Ends wd p e below s Qb kc ks T (mkF m pc Ls (w :: rest)) :=
  Ends.ret X hx hlk hret hn (Or.inr (Or.inr (Or.inr (Or.inr ⟨rfl, ht, hw⟩)))) hd hc hs hQ hF
theorem Ends.retV (X : Stand p l e R s m args below meth c T locs cells slots) (hx : p.tables.exec = Jvm.exec) (hlk : meth.locks = false) {pc : Nat} {Ls : Array Slot} (hret : meth.sig.returnType = none) (hd : decode c.code pc = .ok (.return_, 1)) (hc : cells ≤ kc) (hs : slots ≤ ks) (hQ : Qb none T.heap locs) (hF : OkF wd T.vm T.heap := by exact True.intro) : Ends wd p e below s Qb kc ks T (mkF m pc Ls []) := by
  obtain ⟨fs, hr, hrun, hended, hW, hsame⟩ := X.leave (v := none) (fun _ => rfl) hlk
  exact ⟨_, _, X.returnOut hx hret hd hr, hrun, hended, _, _, rfl, hQ, FE.of ⟨⟨_, rfl⟩, hW, hsame.mono hc hs⟩ hF⟩
/-- a static call by its contract -/
theorem Ends.callS (X : Stand p l e R s m args below meth c T locs cells slots) (hx : p.tables.exec = Jvm.exec) (hZ : Z.Warmed39 s.vm) {own : String} (hown : s.vm.findClass own = some m.cls) {index : Nat} {y : MethodName} {bytes : ByteArray} {maxL : Nat} {rt : Option FieldType} {rm : Room} {Q : Option Value → Heap → List Loc → Prop}
    (w1 : (Jvm.Cond.methodLink own index y).before a0 Z = true) (w2 : (Jvm.Cond.static y).before a0 Z = true) (w3 : (Jvm.Cond.initialized y.cls).before a0 Z = true) (w4 : (Jvm.Cond.code y bytes maxL rt).before a0 Z = true) (hy : y.cls ≠ "java/lang/invoke/MethodHandle" ∧ y.cls ≠ "java/lang/invoke/VarHandle")
    {argsL rest : List Value} (eT : T.heap = h) (M : Con l y bytes maxL rt [] rm argsL.toArray Z h Q) {W pc : Nat} (hf : rm.frames + 1 ≤ R.frames) (hl : W + (maxL + 11) + rm.locals ≤ R.locals) {Ls : Array Slot} (hsz : Ls.size = c.maxLocals)
    (hlen : ∀ sig, parseMethodDescriptor y.desc = some sig → argsL.length = sig.parameters.length) (hW : (rest.map fun v => v.category).sum ≤ W) (hd : decode c.code pc = .ok (.invokestatic index, 3)) (hc : cells + rm.cells ≤ R.cells) (hs : slots + rm.slots ≤ R.slots) {st : List Value} (hst : st = argsL.reverse ++ rest)
    (k : ∀ T' v L, Stand p l e R s m args below meth c T' (locs ++ L) (cells + rm.cells) (slots + rm.slots) → Q v T'.heap L → Ends wd p e below s Qb kc ks T' (mkF m (pc + 3) Ls (v.toList ++ rest))) :
    Ends wd p e below s Qb kc ks T (mkF m pc Ls st) := by
  obtain ⟨v, vm1, ⟨T1, L1, k1, n1⟩, -, X1, ⟨Lc, hQ, q1, q2, q3⟩, st1⟩ := Jvm.LawKit.callS X hx hown (mvT hZ w1) (mvT hZ w2) (mvT hZ w3) (mvT hZ w4) hy (backOf (W := W) M hZ w4 w3 hf hl) (g := mkF m pc Ls st) rfl hsz (argsL := argsL) (rest := rest) hlen hst (by show 2 * 0 + _ ≤ _; omega) hd (fun _ _ => ⟨rfl, eT, hc, hs⟩)
  dsimp only [Pt.U, Pt.locs, Pt.cells, Pt.slots] at X1 q1 q2 q3 st1 hQ
  subst q1 q2 q3
  exact Ends.go st1 (k T1 v Lc X1 hQ)
/-- a constructor by its contract -/
theorem Ends.callI (X : Stand p l e R s m args below meth c T locs cells slots) (hx : p.tables.exec = Jvm.exec) (hZ : Z.Warmed39 s.vm) {own : String} (hown : s.vm.findClass own = some m.cls) {index : Nat} {y : MethodName} {bytes : ByteArray} {maxL : Nat} {rm : Room} {Q : Option Value → Heap → List Loc → Prop}
    (w1 : (Jvm.Cond.methodLink own index y).before a0 Z = true) (w2 : (Jvm.Cond.instanceMethod y).before a0 Z = true) (w3 : (Jvm.Cond.initialized y.cls).before a0 Z = true) (w4 : (Jvm.Cond.code y bytes maxL none).before a0 Z = true) (hyn : y.name = "<init>") (hy : y.cls ≠ "java/lang/invoke/MethodHandle" ∧ y.cls ≠ "java/lang/invoke/VarHandle")
    {b : Addr} {argsL rest : List Value} (eT : T.heap = h) (M : Con l y bytes maxL none [] rm (.ref b :: argsL).toArray Z h Q) {W pc : Nat} (hf : rm.frames + 1 ≤ R.frames) (hl : W + (maxL + 11) + rm.locals ≤ R.locals) {Ls : Array Slot} (hsz : Ls.size = c.maxLocals)
    (hlen : ∀ sig, parseMethodDescriptor y.desc = some sig → argsL.length = sig.parameters.length) (hW : (rest.map fun v => v.category).sum ≤ W) (hd : decode c.code pc = .ok (.invokespecial index, 3)) (hc : cells + rm.cells ≤ R.cells) (hs : slots + rm.slots ≤ R.slots) {st : List Value} (hst : st = argsL.reverse ++ .ref b :: rest)
    (k : ∀ T' v L, Stand p l e R s m args below meth c T' (locs ++ L) (cells + rm.cells) (slots + rm.slots) → Q v T'.heap L → Ends wd p e below s Qb kc ks T' (mkF m (pc + 3) Ls (v.toList ++ rest))) :
    Ends wd p e below s Qb kc ks T (mkF m pc Ls st) := by
  obtain ⟨v, vm1, ⟨T1, L1, k1, n1⟩, -, X1, ⟨Lc, hQ, q1, q2, q3⟩, st1⟩ := X.specialBack hx hyn hown (mvT hZ w1) (mvT hZ w2) (mvT hZ w4) hy (backOf (W := W) M hZ w4 w3 hf hl) (g := mkF m pc Ls st) rfl hsz (Steps.refl _) (a := b) (argsL := argsL) (rest := rest) hlen hst (by show 2 * 0 + _ ≤ _; omega) hd (fun _ _ => ⟨rfl, eT, hc, hs⟩)
  dsimp only [Pt.U, Pt.locs, Pt.cells, Pt.slots] at X1 q1 q2 q3 st1 hQ
  subst q1 q2 q3
  exact Ends.go (fun t kt => st1.trans kt) (k T1 v Lc X1 hQ)
/-- an instance method by its contract -/
theorem Ends.callV (X : Stand p l e R s m args below meth c T locs cells slots) (hx : p.tables.exec = Jvm.exec) (hZ : Z.Warmed39 s.vm) {own C : String} (hown : s.vm.findClass own = some m.cls) {index : Nat} {y : MethodName} {bytes : ByteArray} {maxL : Nat} {rt : Option FieldType} {rm : Room} {Q : Option Value → Heap → List Loc → Prop}
    (w1 : (Jvm.Cond.methodLink own index y).before a0 Z = true) (w2 : (Jvm.Cond.declares y).before a0 Z = true) (w5 : (Jvm.Cond.selects C y y).before a0 Z = true) (w6 : (Jvm.Cond.instanceMethod y).before a0 Z = true) (w3 : (Jvm.Cond.initialized y.cls).before a0 Z = true) (w4 : (Jvm.Cond.code y bytes maxL rt).before a0 Z = true) (hy : y.cls ≠ "java/lang/invoke/MethodHandle" ∧ y.cls ≠ "java/lang/invoke/VarHandle")
    {b : Addr} {argsL rest : List Value} (eT : T.heap = h) (E : Exa Z h b C) (M : Con l y bytes maxL rt [] rm (.ref b :: argsL).toArray Z h Q) {W pc : Nat} (hf : rm.frames + 1 ≤ R.frames) (hl : W + (maxL + 11) + rm.locals ≤ R.locals) {Ls : Array Slot} (hsz : Ls.size = c.maxLocals)
    (hlen : ∀ sig, parseMethodDescriptor y.desc = some sig → argsL.length = sig.parameters.length) (hW : (rest.map fun v => v.category).sum ≤ W) (hd : decode c.code pc = .ok (.invokevirtual index, 3)) (hc : cells + rm.cells ≤ R.cells) (hs : slots + rm.slots ≤ R.slots) {st : List Value} (hst : st = argsL.reverse ++ .ref b :: rest)
    (k : ∀ T' v L, Stand p l e R s m args below meth c T' (locs ++ L) (cells + rm.cells) (slots + rm.slots) → Q v T'.heap L → Ends wd p e below s Qb kc ks T' (mkF m (pc + 3) Ls (v.toList ++ rest))) :
    Ends wd p e below s Qb kc ks T (mkF m pc Ls st) := by
  obtain ⟨cq, kq, qa, qb, qc⟩ := isOf (T := T) hZ eT E
  obtain ⟨v, vm1, ⟨T1, L1, k1, n1⟩, -, X1, ⟨Lc, hQ, q1, q2, q3⟩, st1⟩ := X.virtualBack hx (y := y) (z := y) hown (mvT hZ w1) (mvT hZ w2) (notFace_of_selects (args := #[]) (mvT hZ w5)) (mvT hZ w5) (mvT hZ w6) hy (backOf (W := W) M hZ w4 w3 hf hl) qa qc (g := mkF m pc Ls st) rfl hsz (Steps.refl _) (argsL := argsL) (rest := rest) hlen hst (by show 2 * 0 + _ ≤ _; omega) hd (fun _ _ => ⟨rfl, eT, hc, hs⟩)
  dsimp only [Pt.U, Pt.locs, Pt.cells, Pt.slots] at X1 q1 q2 q3 st1 hQ
  subst q1 q2 q3
  exact Ends.go (fun t kt => st1.trans kt) (k T1 v Lc X1 hQ)
end OwnKit
/-! own text, printed by mksteps.py: one lemma a plain instruction -/
section OwnSteps
variable {wd : Option (Vm → Heap → Prop)} {p : Program} {l : Launch} {e : Env} {R : Room} {s : State} {m : MethodId} {args : Array Value} {below : List Frame} {meth : Method} {c : Code} {T : State} {locs : List Loc} {cells slots : Nat} {Z : State} {a0 : Array Value} {h : Heap} {Qb : Option Value → Heap → List Loc → Prop} {kc ks : Nat} {Ls l' : Array Slot} {st : List Value} {pc q k : Nat} {kf : Fin 4} {k2 : Fin 2}
theorem E.iload {v : Int32} (X : Stand p l e R s m args below meth c T locs cells slots) (hx : p.tables.exec = Jvm.exec) (hd : decode c.code pc = .ok (.iload k, 2)) (hl : Ls[k]? = some (.val (.int v))) (k' : Ends wd p e below s Qb kc ks T (mkF m q Ls (.int v :: st))) (hq : pc + 2 = q := by rfl) : Ends wd p e below s Qb kc ks T (mkF m pc Ls st) := by
  subst hq; exact Ends.go (fun t => XS.iload X.here hx rfl hd hl) k'
theorem E.iloadN {v : Int32} (X : Stand p l e R s m args below meth c T locs cells slots) (hx : p.tables.exec = Jvm.exec) (hd : decode c.code pc = .ok (.iload_n kf, 1)) (hl : Ls[kf.val]? = some (.val (.int v))) (k' : Ends wd p e below s Qb kc ks T (mkF m q Ls (.int v :: st))) (hq : pc + 1 = q := by rfl) : Ends wd p e below s Qb kc ks T (mkF m pc Ls st) := by
  subst hq; exact Ends.go (fun t => XS.iloadN X.here hx rfl hd hl) k'
theorem E.istore {v : Int32} (X : Stand p l e R s m args below meth c T locs cells slots) (hx : p.tables.exec = Jvm.exec) (hd : decode c.code pc = .ok (.istore k, 2)) (hl : storeLocals Ls k (.int v) = some l') (k' : Ends wd p e below s Qb kc ks T (mkF m q l' st)) (hq : pc + 2 = q := by rfl) : Ends wd p e below s Qb kc ks T (mkF m pc Ls (.int v :: st)) := by
  subst hq; exact Ends.go (fun t => XS.istore X.here hx rfl hd rfl hl) k'
theorem E.istoreN {v : Int32} (X : Stand p l e R s m args below meth c T locs cells slots) (hx : p.tables.exec = Jvm.exec) (hd : decode c.code pc = .ok (.istore_n kf, 1)) (hl : storeLocals Ls kf.val (.int v) = some l') (k' : Ends wd p e below s Qb kc ks T (mkF m q l' st)) (hq : pc + 1 = q := by rfl) : Ends wd p e below s Qb kc ks T (mkF m pc Ls (.int v :: st)) := by
  subst hq; exact Ends.go (fun t => XS.istoreN X.here hx rfl hd rfl hl) k'
theorem E.lload {v : Int64} (X : Stand p l e R s m args below meth c T locs cells slots) (hx : p.tables.exec = Jvm.exec) (hd : decode c.code pc = .ok (.lload k, 2)) (hl : Ls[k]? = some (.val (.long v))) (k' : Ends wd p e below s Qb kc ks T (mkF m q Ls (.long v :: st))) (hq : pc + 2 = q := by rfl) : Ends wd p e below s Qb kc ks T (mkF m pc Ls st) := by
  subst hq; exact Ends.go (fun t => XS.lload X.here hx rfl hd hl) k'
theorem E.lloadN {v : Int64} (X : Stand p l e R s m args below meth c T locs cells slots) (hx : p.tables.exec = Jvm.exec) (hd : decode c.code pc = .ok (.lload_n kf, 1)) (hl : Ls[kf.val]? = some (.val (.long v))) (k' : Ends wd p e below s Qb kc ks T (mkF m q Ls (.long v :: st))) (hq : pc + 1 = q := by rfl) : Ends wd p e below s Qb kc ks T (mkF m pc Ls st) := by
  subst hq; exact Ends.go (fun t => XS.lloadN X.here hx rfl hd hl) k'
theorem E.lstore {v : Int64} (X : Stand p l e R s m args below meth c T locs cells slots) (hx : p.tables.exec = Jvm.exec) (hd : decode c.code pc = .ok (.lstore k, 2)) (hl : storeLocals Ls k (.long v) = some l') (k' : Ends wd p e below s Qb kc ks T (mkF m q l' st)) (hq : pc + 2 = q := by rfl) : Ends wd p e below s Qb kc ks T (mkF m pc Ls (.long v :: st)) := by
  subst hq; exact Ends.go (fun t => XS.lstore X.here hx rfl hd rfl hl) k'
theorem E.lstoreN {v : Int64} (X : Stand p l e R s m args below meth c T locs cells slots) (hx : p.tables.exec = Jvm.exec) (hd : decode c.code pc = .ok (.lstore_n kf, 1)) (hl : storeLocals Ls kf.val (.long v) = some l') (k' : Ends wd p e below s Qb kc ks T (mkF m q l' st)) (hq : pc + 1 = q := by rfl) : Ends wd p e below s Qb kc ks T (mkF m pc Ls (.long v :: st)) := by
  subst hq; exact Ends.go (fun t => XS.lstoreN X.here hx rfl hd rfl hl) k'
theorem E.dload {v : UInt64} (X : Stand p l e R s m args below meth c T locs cells slots) (hx : p.tables.exec = Jvm.exec) (hd : decode c.code pc = .ok (.dload k, 2)) (hl : Ls[k]? = some (.val (.double v))) (k' : Ends wd p e below s Qb kc ks T (mkF m q Ls (.double v :: st))) (hq : pc + 2 = q := by rfl) : Ends wd p e below s Qb kc ks T (mkF m pc Ls st) := by
  subst hq; exact Ends.go (fun t => XS.dload X.here hx rfl hd hl) k'
theorem E.dloadN {v : UInt64} (X : Stand p l e R s m args below meth c T locs cells slots) (hx : p.tables.exec = Jvm.exec) (hd : decode c.code pc = .ok (.dload_n kf, 1)) (hl : Ls[kf.val]? = some (.val (.double v))) (k' : Ends wd p e below s Qb kc ks T (mkF m q Ls (.double v :: st))) (hq : pc + 1 = q := by rfl) : Ends wd p e below s Qb kc ks T (mkF m pc Ls st) := by
  subst hq; exact Ends.go (fun t => XS.dloadN X.here hx rfl hd hl) k'
theorem E.dstore {v : UInt64} (X : Stand p l e R s m args below meth c T locs cells slots) (hx : p.tables.exec = Jvm.exec) (hd : decode c.code pc = .ok (.dstore k, 2)) (hl : storeLocals Ls k (.double v) = some l') (k' : Ends wd p e below s Qb kc ks T (mkF m q l' st)) (hq : pc + 2 = q := by rfl) : Ends wd p e below s Qb kc ks T (mkF m pc Ls (.double v :: st)) := by
  subst hq; exact Ends.go (fun t => XS.dstore X.here hx rfl hd rfl hl) k'
theorem E.dstoreN {v : UInt64} (X : Stand p l e R s m args below meth c T locs cells slots) (hx : p.tables.exec = Jvm.exec) (hd : decode c.code pc = .ok (.dstore_n kf, 1)) (hl : storeLocals Ls kf.val (.double v) = some l') (k' : Ends wd p e below s Qb kc ks T (mkF m q l' st)) (hq : pc + 1 = q := by rfl) : Ends wd p e below s Qb kc ks T (mkF m pc Ls (.double v :: st)) := by
  subst hq; exact Ends.go (fun t => XS.dstoreN X.here hx rfl hd rfl hl) k'
theorem E.aload {v : Value} (X : Stand p l e R s m args below meth c T locs cells slots) (hx : p.tables.exec = Jvm.exec) (hd : decode c.code pc = .ok (.aload k, 2)) (hl : Ls[k]? = some (.val v)) (hv : v.isRef = true) (k' : Ends wd p e below s Qb kc ks T (mkF m q Ls (v :: st))) (hq : pc + 2 = q := by rfl) : Ends wd p e below s Qb kc ks T (mkF m pc Ls st) := by
  subst hq; exact Ends.go (fun t => XS.aload X.here hx rfl hd hl hv) k'
theorem E.aloadN {v : Value} (X : Stand p l e R s m args below meth c T locs cells slots) (hx : p.tables.exec = Jvm.exec) (hd : decode c.code pc = .ok (.aload_n kf, 1)) (hl : Ls[kf.val]? = some (.val v)) (hv : v.isRef = true) (k' : Ends wd p e below s Qb kc ks T (mkF m q Ls (v :: st))) (hq : pc + 1 = q := by rfl) : Ends wd p e below s Qb kc ks T (mkF m pc Ls st) := by
  subst hq; exact Ends.go (fun t => XS.aloadN X.here hx rfl hd hl hv) k'
theorem E.astore {v : Value} (X : Stand p l e R s m args below meth c T locs cells slots) (hx : p.tables.exec = Jvm.exec) (hd : decode c.code pc = .ok (.astore k, 2)) (hv : v.isRef = true) (hl : storeLocals Ls k v = some l') (k' : Ends wd p e below s Qb kc ks T (mkF m q l' st)) (hq : pc + 2 = q := by rfl) : Ends wd p e below s Qb kc ks T (mkF m pc Ls (v :: st)) := by
  subst hq; exact Ends.go (fun t => XS.astore X.here hx rfl hd rfl hv hl) k'
theorem E.astoreN {v : Value} (X : Stand p l e R s m args below meth c T locs cells slots) (hx : p.tables.exec = Jvm.exec) (hd : decode c.code pc = .ok (.astore_n kf, 1)) (hv : v.isRef = true) (hl : storeLocals Ls kf.val v = some l') (k' : Ends wd p e below s Qb kc ks T (mkF m q l' st)) (hq : pc + 1 = q := by rfl) : Ends wd p e below s Qb kc ks T (mkF m pc Ls (v :: st)) := by
  subst hq; exact Ends.go (fun t => XS.astoreN X.here hx rfl hd rfl hv hl) k'
theorem E.iconst {i : Int} {v : Int32} (X : Stand p l e R s m args below meth c T locs cells slots) (hx : p.tables.exec = Jvm.exec) (hd : decode c.code pc = .ok (.iconst i, 1)) (hv : Int32.ofInt i = v) (k' : Ends wd p e below s Qb kc ks T (mkF m q Ls (.int v :: st))) (hq : pc + 1 = q := by rfl) : Ends wd p e below s Qb kc ks T (mkF m pc Ls st) := by
  subst hq; subst hv; exact Ends.go (fun t => XS.iconst X.here hx rfl hd) k'
theorem E.bipush {i : Int} {v : Int32} (X : Stand p l e R s m args below meth c T locs cells slots) (hx : p.tables.exec = Jvm.exec) (hd : decode c.code pc = .ok (.bipush i, 2)) (hv : (Int8.ofInt i).toInt32 = v) (k' : Ends wd p e below s Qb kc ks T (mkF m q Ls (.int v :: st))) (hq : pc + 2 = q := by rfl) : Ends wd p e below s Qb kc ks T (mkF m pc Ls st) := by
  subst hq; subst hv; exact Ends.go (fun t => XS.bipush X.here hx rfl hd) k'
theorem E.sipush {i : Int} {v : Int32} (X : Stand p l e R s m args below meth c T locs cells slots) (hx : p.tables.exec = Jvm.exec) (hd : decode c.code pc = .ok (.sipush i, 3)) (hv : (Int16.ofInt i).toInt32 = v) (k' : Ends wd p e below s Qb kc ks T (mkF m q Ls (.int v :: st))) (hq : pc + 3 = q := by rfl) : Ends wd p e below s Qb kc ks T (mkF m pc Ls st) := by
  subst hq; subst hv; exact Ends.go (fun t => XS.sipush X.here hx rfl hd) k'
theorem E.lconst {v : Int64} (X : Stand p l e R s m args below meth c T locs cells slots) (hx : p.tables.exec = Jvm.exec) (hd : decode c.code pc = .ok (.lconst k2, 1)) (hv : Int64.ofNat k2 = v) (k' : Ends wd p e below s Qb kc ks T (mkF m q Ls (.long v :: st))) (hq : pc + 1 = q := by rfl) : Ends wd p e below s Qb kc ks T (mkF m pc Ls st) := by
  subst hq; subst hv; exact Ends.go (fun t => XS.lconst X.here hx rfl hd) k'
theorem E.dconst0 {v : UInt64} (X : Stand p l e R s m args below meth c T locs cells slots) (hx : p.tables.exec = Jvm.exec) (hd : decode c.code pc = .ok (.dconst 0, 1)) (hv : FP.dconst0 = v) (k' : Ends wd p e below s Qb kc ks T (mkF m q Ls (.double v :: st))) (hq : pc + 1 = q := by rfl) : Ends wd p e below s Qb kc ks T (mkF m pc Ls st) := by
  subst hq; exact Ends.go (fun t => XS.dconst0 X.here hx rfl hd hv) k'
theorem E.dconst1 {v : UInt64} (X : Stand p l e R s m args below meth c T locs cells slots) (hx : p.tables.exec = Jvm.exec) (hd : decode c.code pc = .ok (.dconst 1, 1)) (hv : FP.dconst1 = v) (k' : Ends wd p e below s Qb kc ks T (mkF m q Ls (.double v :: st))) (hq : pc + 1 = q := by rfl) : Ends wd p e below s Qb kc ks T (mkF m pc Ls st) := by
  subst hq; exact Ends.go (fun t => XS.dconst1 X.here hx rfl hd hv) k'
theorem E.aconstNull  (X : Stand p l e R s m args below meth c T locs cells slots) (hx : p.tables.exec = Jvm.exec) (hd : decode c.code pc = .ok (.aconst_null, 1)) (k' : Ends wd p e below s Qb kc ks T (mkF m q Ls (.null :: st))) (hq : pc + 1 = q := by rfl) : Ends wd p e below s Qb kc ks T (mkF m pc Ls st) := by
  subst hq; exact Ends.go (fun t => XS.aconstNull X.here hx rfl hd) k'
theorem E.iadd {x y : Int32} (X : Stand p l e R s m args below meth c T locs cells slots) (hx : p.tables.exec = Jvm.exec) (hd : decode c.code pc = .ok (.iadd, 1)) (k' : Ends wd p e below s Qb kc ks T (mkF m q Ls (.int (x + y) :: st))) (hq : pc + 1 = q := by rfl) : Ends wd p e below s Qb kc ks T (mkF m pc Ls (.int y :: .int x :: st)) := by
  subst hq; exact Ends.go (fun t => XS.iadd X.here hx rfl hd rfl) k'
theorem E.isub {x y : Int32} (X : Stand p l e R s m args below meth c T locs cells slots) (hx : p.tables.exec = Jvm.exec) (hd : decode c.code pc = .ok (.isub, 1)) (k' : Ends wd p e below s Qb kc ks T (mkF m q Ls (.int (x - y) :: st))) (hq : pc + 1 = q := by rfl) : Ends wd p e below s Qb kc ks T (mkF m pc Ls (.int y :: .int x :: st)) := by
  subst hq; exact Ends.go (fun t => XS.isub X.here hx rfl hd rfl) k'
theorem E.imul {x y : Int32} (X : Stand p l e R s m args below meth c T locs cells slots) (hx : p.tables.exec = Jvm.exec) (hd : decode c.code pc = .ok (.imul, 1)) (k' : Ends wd p e below s Qb kc ks T (mkF m q Ls (.int (x * y) :: st))) (hq : pc + 1 = q := by rfl) : Ends wd p e below s Qb kc ks T (mkF m pc Ls (.int y :: .int x :: st)) := by
  subst hq; exact Ends.go (fun t => XS.imul X.here hx rfl hd rfl) k'
theorem E.iand {x y : Int32} (X : Stand p l e R s m args below meth c T locs cells slots) (hx : p.tables.exec = Jvm.exec) (hd : decode c.code pc = .ok (.iand, 1)) (k' : Ends wd p e below s Qb kc ks T (mkF m q Ls (.int (x &&& y) :: st))) (hq : pc + 1 = q := by rfl) : Ends wd p e below s Qb kc ks T (mkF m pc Ls (.int y :: .int x :: st)) := by
  subst hq; exact Ends.go (fun t => XS.iand X.here hx rfl hd rfl) k'
theorem E.ior {x y : Int32} (X : Stand p l e R s m args below meth c T locs cells slots) (hx : p.tables.exec = Jvm.exec) (hd : decode c.code pc = .ok (.ior, 1)) (k' : Ends wd p e below s Qb kc ks T (mkF m q Ls (.int (x ||| y) :: st))) (hq : pc + 1 = q := by rfl) : Ends wd p e below s Qb kc ks T (mkF m pc Ls (.int y :: .int x :: st)) := by
  subst hq; exact Ends.go (fun t => XS.ior X.here hx rfl hd rfl) k'
theorem E.ixor {x y : Int32} (X : Stand p l e R s m args below meth c T locs cells slots) (hx : p.tables.exec = Jvm.exec) (hd : decode c.code pc = .ok (.ixor, 1)) (k' : Ends wd p e below s Qb kc ks T (mkF m q Ls (.int (x ^^^ y) :: st))) (hq : pc + 1 = q := by rfl) : Ends wd p e below s Qb kc ks T (mkF m pc Ls (.int y :: .int x :: st)) := by
  subst hq; exact Ends.go (fun t => XS.ixor X.here hx rfl hd rfl) k'
theorem E.ladd {x y : Int64} (X : Stand p l e R s m args below meth c T locs cells slots) (hx : p.tables.exec = Jvm.exec) (hd : decode c.code pc = .ok (.ladd, 1)) (k' : Ends wd p e below s Qb kc ks T (mkF m q Ls (.long (x + y) :: st))) (hq : pc + 1 = q := by rfl) : Ends wd p e below s Qb kc ks T (mkF m pc Ls (.long y :: .long x :: st)) := by
  subst hq; exact Ends.go (fun t => XS.ladd X.here hx rfl hd rfl) k'
theorem E.lsub {x y : Int64} (X : Stand p l e R s m args below meth c T locs cells slots) (hx : p.tables.exec = Jvm.exec) (hd : decode c.code pc = .ok (.lsub, 1)) (k' : Ends wd p e below s Qb kc ks T (mkF m q Ls (.long (x - y) :: st))) (hq : pc + 1 = q := by rfl) : Ends wd p e below s Qb kc ks T (mkF m pc Ls (.long y :: .long x :: st)) := by
  subst hq; exact Ends.go (fun t => XS.lsub X.here hx rfl hd rfl) k'
theorem E.lmul {x y : Int64} (X : Stand p l e R s m args below meth c T locs cells slots) (hx : p.tables.exec = Jvm.exec) (hd : decode c.code pc = .ok (.lmul, 1)) (k' : Ends wd p e below s Qb kc ks T (mkF m q Ls (.long (x * y) :: st))) (hq : pc + 1 = q := by rfl) : Ends wd p e below s Qb kc ks T (mkF m pc Ls (.long y :: .long x :: st)) := by
  subst hq; exact Ends.go (fun t => XS.lmul X.here hx rfl hd rfl) k'
theorem E.land {x y : Int64} (X : Stand p l e R s m args below meth c T locs cells slots) (hx : p.tables.exec = Jvm.exec) (hd : decode c.code pc = .ok (.land, 1)) (k' : Ends wd p e below s Qb kc ks T (mkF m q Ls (.long (x &&& y) :: st))) (hq : pc + 1 = q := by rfl) : Ends wd p e below s Qb kc ks T (mkF m pc Ls (.long y :: .long x :: st)) := by
  subst hq; exact Ends.go (fun t => XS.land X.here hx rfl hd rfl) k'
theorem E.lor {x y : Int64} (X : Stand p l e R s m args below meth c T locs cells slots) (hx : p.tables.exec = Jvm.exec) (hd : decode c.code pc = .ok (.lor, 1)) (k' : Ends wd p e below s Qb kc ks T (mkF m q Ls (.long (x ||| y) :: st))) (hq : pc + 1 = q := by rfl) : Ends wd p e below s Qb kc ks T (mkF m pc Ls (.long y :: .long x :: st)) := by
  subst hq; exact Ends.go (fun t => XS.lor X.here hx rfl hd rfl) k'
theorem E.lxor {x y : Int64} (X : Stand p l e R s m args below meth c T locs cells slots) (hx : p.tables.exec = Jvm.exec) (hd : decode c.code pc = .ok (.lxor, 1)) (k' : Ends wd p e below s Qb kc ks T (mkF m q Ls (.long (x ^^^ y) :: st))) (hq : pc + 1 = q := by rfl) : Ends wd p e below s Qb kc ks T (mkF m pc Ls (.long y :: .long x :: st)) := by
  subst hq; exact Ends.go (fun t => XS.lxor X.here hx rfl hd rfl) k'
theorem E.ishl {x : Int32} {y : Int32} (X : Stand p l e R s m args below meth c T locs cells slots) (hx : p.tables.exec = Jvm.exec) (hd : decode c.code pc = .ok (.ishl, 1)) (k' : Ends wd p e below s Qb kc ks T (mkF m q Ls (.int (x <<< (y &&& 31)) :: st))) (hq : pc + 1 = q := by rfl) : Ends wd p e below s Qb kc ks T (mkF m pc Ls (.int y :: .int x :: st)) := by
  subst hq; exact Ends.go (fun t => XS.ishl X.here hx rfl hd rfl) k'
theorem E.ishr {x : Int32} {y : Int32} (X : Stand p l e R s m args below meth c T locs cells slots) (hx : p.tables.exec = Jvm.exec) (hd : decode c.code pc = .ok (.ishr, 1)) (k' : Ends wd p e below s Qb kc ks T (mkF m q Ls (.int (x >>> (y &&& 31)) :: st))) (hq : pc + 1 = q := by rfl) : Ends wd p e below s Qb kc ks T (mkF m pc Ls (.int y :: .int x :: st)) := by
  subst hq; exact Ends.go (fun t => XS.ishr X.here hx rfl hd rfl) k'
theorem E.iushr {x : Int32} {y : Int32} (X : Stand p l e R s m args below meth c T locs cells slots) (hx : p.tables.exec = Jvm.exec) (hd : decode c.code pc = .ok (.iushr, 1)) (k' : Ends wd p e below s Qb kc ks T (mkF m q Ls (.int ((x.toUInt32 >>> (y &&& 31).toUInt32).toInt32) :: st))) (hq : pc + 1 = q := by rfl) : Ends wd p e below s Qb kc ks T (mkF m pc Ls (.int y :: .int x :: st)) := by
  subst hq; exact Ends.go (fun t => XS.iushr X.here hx rfl hd rfl) k'
theorem E.lshl {x : Int64} {y : Int32} (X : Stand p l e R s m args below meth c T locs cells slots) (hx : p.tables.exec = Jvm.exec) (hd : decode c.code pc = .ok (.lshl, 1)) (k' : Ends wd p e below s Qb kc ks T (mkF m q Ls (.long (x <<< (y &&& 0x3f).toInt64) :: st))) (hq : pc + 1 = q := by rfl) : Ends wd p e below s Qb kc ks T (mkF m pc Ls (.int y :: .long x :: st)) := by
  subst hq; exact Ends.go (fun t => XS.lshl X.here hx rfl hd rfl) k'
theorem E.lshr {x : Int64} {y : Int32} (X : Stand p l e R s m args below meth c T locs cells slots) (hx : p.tables.exec = Jvm.exec) (hd : decode c.code pc = .ok (.lshr, 1)) (k' : Ends wd p e below s Qb kc ks T (mkF m q Ls (.long (x >>> (y &&& 0x3f).toInt64) :: st))) (hq : pc + 1 = q := by rfl) : Ends wd p e below s Qb kc ks T (mkF m pc Ls (.int y :: .long x :: st)) := by
  subst hq; exact Ends.go (fun t => XS.lshr X.here hx rfl hd rfl) k'
theorem E.lushr {x : Int64} {y : Int32} (X : Stand p l e R s m args below meth c T locs cells slots) (hx : p.tables.exec = Jvm.exec) (hd : decode c.code pc = .ok (.lushr, 1)) (k' : Ends wd p e below s Qb kc ks T (mkF m q Ls (.long ((x.toUInt64 >>> (y &&& 0x3f).toInt64.toUInt64).toInt64) :: st))) (hq : pc + 1 = q := by rfl) : Ends wd p e below s Qb kc ks T (mkF m pc Ls (.int y :: .long x :: st)) := by
  subst hq; exact Ends.go (fun t => XS.lushr X.here hx rfl hd rfl) k'
theorem E.ineg {x : Int32} (X : Stand p l e R s m args below meth c T locs cells slots) (hx : p.tables.exec = Jvm.exec) (hd : decode c.code pc = .ok (.ineg, 1)) (k' : Ends wd p e below s Qb kc ks T (mkF m q Ls (.int (-x) :: st))) (hq : pc + 1 = q := by rfl) : Ends wd p e below s Qb kc ks T (mkF m pc Ls (.int x :: st)) := by
  subst hq; exact Ends.go (fun t => XS.ineg X.here hx rfl hd rfl) k'
theorem E.lneg {x : Int64} (X : Stand p l e R s m args below meth c T locs cells slots) (hx : p.tables.exec = Jvm.exec) (hd : decode c.code pc = .ok (.lneg, 1)) (k' : Ends wd p e below s Qb kc ks T (mkF m q Ls (.long (-x) :: st))) (hq : pc + 1 = q := by rfl) : Ends wd p e below s Qb kc ks T (mkF m pc Ls (.long x :: st)) := by
  subst hq; exact Ends.go (fun t => XS.lneg X.here hx rfl hd rfl) k'
theorem E.i2l {x : Int32} (X : Stand p l e R s m args below meth c T locs cells slots) (hx : p.tables.exec = Jvm.exec) (hd : decode c.code pc = .ok (.i2l, 1)) (k' : Ends wd p e below s Qb kc ks T (mkF m q Ls (.long (x.toInt64) :: st))) (hq : pc + 1 = q := by rfl) : Ends wd p e below s Qb kc ks T (mkF m pc Ls (.int x :: st)) := by
  subst hq; exact Ends.go (fun t => XS.i2l X.here hx rfl hd rfl) k'
theorem E.l2i {x : Int64} (X : Stand p l e R s m args below meth c T locs cells slots) (hx : p.tables.exec = Jvm.exec) (hd : decode c.code pc = .ok (.l2i, 1)) (k' : Ends wd p e below s Qb kc ks T (mkF m q Ls (.int (x.toInt32) :: st))) (hq : pc + 1 = q := by rfl) : Ends wd p e below s Qb kc ks T (mkF m pc Ls (.long x :: st)) := by
  subst hq; exact Ends.go (fun t => XS.l2i X.here hx rfl hd rfl) k'
theorem E.i2b {x : Int32} (X : Stand p l e R s m args below meth c T locs cells slots) (hx : p.tables.exec = Jvm.exec) (hd : decode c.code pc = .ok (.i2b, 1)) (k' : Ends wd p e below s Qb kc ks T (mkF m q Ls (.int (x.toInt8.toInt32) :: st))) (hq : pc + 1 = q := by rfl) : Ends wd p e below s Qb kc ks T (mkF m pc Ls (.int x :: st)) := by
  subst hq; exact Ends.go (fun t => XS.i2b X.here hx rfl hd rfl) k'
theorem E.i2s {x : Int32} (X : Stand p l e R s m args below meth c T locs cells slots) (hx : p.tables.exec = Jvm.exec) (hd : decode c.code pc = .ok (.i2s, 1)) (k' : Ends wd p e below s Qb kc ks T (mkF m q Ls (.int (x.toInt16.toInt32) :: st))) (hq : pc + 1 = q := by rfl) : Ends wd p e below s Qb kc ks T (mkF m pc Ls (.int x :: st)) := by
  subst hq; exact Ends.go (fun t => XS.i2s X.here hx rfl hd rfl) k'
theorem E.i2c {x : Int32} (X : Stand p l e R s m args below meth c T locs cells slots) (hx : p.tables.exec = Jvm.exec) (hd : decode c.code pc = .ok (.i2c, 1)) (k' : Ends wd p e below s Qb kc ks T (mkF m q Ls (.int (x.toUInt32.toUInt16.toUInt32.toInt32) :: st))) (hq : pc + 1 = q := by rfl) : Ends wd p e below s Qb kc ks T (mkF m pc Ls (.int x :: st)) := by
  subst hq; exact Ends.go (fun t => XS.i2c X.here hx rfl hd rfl) k'
theorem E.i2d {x : Int32} (X : Stand p l e R s m args below meth c T locs cells slots) (hx : p.tables.exec = Jvm.exec) (hd : decode c.code pc = .ok (.i2d, 1)) (k' : Ends wd p e below s Qb kc ks T (mkF m q Ls (.double (FP.i2d x) :: st))) (hq : pc + 1 = q := by rfl) : Ends wd p e below s Qb kc ks T (mkF m pc Ls (.int x :: st)) := by
  subst hq; exact Ends.go (fun t => XS.i2dS X.here hx rfl hd rfl rfl) k'
theorem E.dmul {x y : UInt64} (X : Stand p l e R s m args below meth c T locs cells slots) (hx : p.tables.exec = Jvm.exec) (hd : decode c.code pc = .ok (.dmul, 1)) (hn : Jvm.Free.Fl.NoNaN64 (FP.dmul x y)) (k' : Ends wd p e below s Qb kc ks T (mkF m q Ls (.double (FP.dmul x y) :: st))) (hq : pc + 1 = q := by rfl) : Ends wd p e below s Qb kc ks T (mkF m pc Ls (.double y :: .double x :: st)) := by
  subst hq; exact Ends.go (fun t => XS.dmulS X.here hx rfl hd rfl hn rfl) k'
theorem E.lcmp {x y : Int64} (X : Stand p l e R s m args below meth c T locs cells slots) (hx : p.tables.exec = Jvm.exec) (hd : decode c.code pc = .ok (.lcmp, 1)) (k' : Ends wd p e below s Qb kc ks T (mkF m q Ls (.int (lcmpW x y) :: st))) (hq : pc + 1 = q := by rfl) : Ends wd p e below s Qb kc ks T (mkF m pc Ls (.long y :: .long x :: st)) := by
  subst hq; exact Ends.go (fun t => XS.lcmp X.here hx rfl hd rfl) k'
theorem E.dcmp {x y : UInt64} {o : CmpOp} (X : Stand p l e R s m args below meth c T locs cells slots) (hx : p.tables.exec = Jvm.exec) (hd : decode c.code pc = .ok (.dcmp o, 1)) (k' : Ends wd p e below s Qb kc ks T (mkF m q Ls (.int (cmpValue (FP.dcmp x y) o) :: st))) (hq : pc + 1 = q := by rfl) : Ends wd p e below s Qb kc ks T (mkF m pc Ls (.double y :: .double x :: st)) := by
  subst hq; exact Ends.go (fun t => XS.dcmpS X.here hx rfl hd rfl rfl) k'
theorem E.idiv {x y : Int32} (X : Stand p l e R s m args below meth c T locs cells slots) (hx : p.tables.exec = Jvm.exec) (hd : decode c.code pc = .ok (.idiv, 1)) (hy : ¬ y = 0) (k' : Ends wd p e below s Qb kc ks T (mkF m q Ls (.int (x / y) :: st))) (hq : pc + 1 = q := by rfl) : Ends wd p e below s Qb kc ks T (mkF m pc Ls (.int y :: .int x :: st)) := by
  subst hq; exact Ends.go (fun t => XS.idiv X.here hx rfl hd rfl hy) k'
theorem E.irem {x y : Int32} (X : Stand p l e R s m args below meth c T locs cells slots) (hx : p.tables.exec = Jvm.exec) (hd : decode c.code pc = .ok (.irem, 1)) (hy : ¬ y = 0) (k' : Ends wd p e below s Qb kc ks T (mkF m q Ls (.int (x % y) :: st))) (hq : pc + 1 = q := by rfl) : Ends wd p e below s Qb kc ks T (mkF m pc Ls (.int y :: .int x :: st)) := by
  subst hq; exact Ends.go (fun t => iremM X hx rfl hd rfl hy) k'
theorem E.ldiv {x y : Int64} (X : Stand p l e R s m args below meth c T locs cells slots) (hx : p.tables.exec = Jvm.exec) (hd : decode c.code pc = .ok (.ldiv, 1)) (hy : ¬ y = 0) (k' : Ends wd p e below s Qb kc ks T (mkF m q Ls (.long (x / y) :: st))) (hq : pc + 1 = q := by rfl) : Ends wd p e below s Qb kc ks T (mkF m pc Ls (.long y :: .long x :: st)) := by
  subst hq; exact Ends.go (fun t => XS.ldiv X.here hx rfl hd rfl hy) k'
theorem E.lrem {x y : Int64} (X : Stand p l e R s m args below meth c T locs cells slots) (hx : p.tables.exec = Jvm.exec) (hd : decode c.code pc = .ok (.lrem, 1)) (hy : ¬ y = 0) (k' : Ends wd p e below s Qb kc ks T (mkF m q Ls (.long (x - (x / y) * y) :: st))) (hq : pc + 1 = q := by rfl) : Ends wd p e below s Qb kc ks T (mkF m pc Ls (.long y :: .long x :: st)) := by
  subst hq; exact Ends.go (fun t => XS.lrem X.here hx rfl hd rfl hy) k'
theorem E.iinc {x v : Int32} {cst : Int} (X : Stand p l e R s m args below meth c T locs cells slots) (hx : p.tables.exec = Jvm.exec) (hd : decode c.code pc = .ok (.iinc k cst, 3)) (hl : Ls[k]? = some (.val (.int x))) (hv : x + Int32.ofInt cst = v) (hl' : storeLocals Ls k (.int v) = some l') (k' : Ends wd p e below s Qb kc ks T (mkF m q l' st)) (hq : pc + 3 = q := by rfl) : Ends wd p e below s Qb kc ks T (mkF m pc Ls st) := by
  subst hq; subst hv; exact Ends.go (fun t => XS.iinc X.here hx rfl hd hl hl') k'
theorem E.dup {v : Value} (X : Stand p l e R s m args below meth c T locs cells slots) (hx : p.tables.exec = Jvm.exec) (hd : decode c.code pc = .ok (.dup, 1)) (hc : v.category = 1) (k' : Ends wd p e below s Qb kc ks T (mkF m q Ls (v :: v :: st))) (hq : pc + 1 = q := by rfl) : Ends wd p e below s Qb kc ks T (mkF m pc Ls (v :: st)) := by
  subst hq; exact Ends.go (fun t => XS.dup X.here hx rfl hd rfl hc) k'
theorem E.pop {v : Value} (X : Stand p l e R s m args below meth c T locs cells slots) (hx : p.tables.exec = Jvm.exec) (hd : decode c.code pc = .ok (.pop, 1)) (hc : v.category = 1) (k' : Ends wd p e below s Qb kc ks T (mkF m q Ls st)) (hq : pc + 1 = q := by rfl) : Ends wd p e below s Qb kc ks T (mkF m pc Ls (v :: st)) := by
  subst hq; exact Ends.go (fun t => XS.pop X.here hx rfl hd rfl hc) k'
theorem E.dupX1 {v w : Value} (X : Stand p l e R s m args below meth c T locs cells slots) (hx : p.tables.exec = Jvm.exec) (hd : decode c.code pc = .ok (.dup_x1, 1)) (hc : v.category = 1) (hc2 : w.category = 1) (k' : Ends wd p e below s Qb kc ks T (mkF m q Ls (v :: w :: v :: st))) (hq : pc + 1 = q := by rfl) : Ends wd p e below s Qb kc ks T (mkF m pc Ls (v :: w :: st)) := by
  subst hq; exact Ends.go (fun t => XS.dupX1 X.here hx rfl hd rfl hc hc2) k'
theorem E.icmpY {x y : Int32} {cd : ClassFile.Cond} {o : Int} (X : Stand p l e R s m args below meth c T locs cells slots) (hx : p.tables.exec = Jvm.exec) (hd : decode c.code pc = .ok (.if_icmp cd o, 3)) (hc : if_icmp.holds cd x y = true) (k' : Ends wd p e below s Qb kc ks T (mkF m q Ls st)) (ho : 0 ≤ (pc : Int) + o := by decide) (hq : ((pc : Int) + o).toNat = q := by decide) : Ends wd p e below s Qb kc ks T (mkF m pc Ls (.int y :: .int x :: st)) :=
  Ends.go (fun t => XS.icmpYes X.here hx rfl rfl hd rfl hc ho hq) k'
theorem E.icmpN {x y : Int32} {cd : ClassFile.Cond} {o : Int} (X : Stand p l e R s m args below meth c T locs cells slots) (hx : p.tables.exec = Jvm.exec) (hd : decode c.code pc = .ok (.if_icmp cd o, 3)) (hc : if_icmp.holds cd x y = false) (k' : Ends wd p e below s Qb kc ks T (mkF m q Ls st)) (hq : pc + 3 = q := by rfl) : Ends wd p e below s Qb kc ks T (mkF m pc Ls (.int y :: .int x :: st)) := by
  subst hq; exact Ends.go (fun t => XS.icmpNo X.here hx rfl hd rfl hc) k'
theorem E.ifY {x : Int32} {cd : ClassFile.Cond} {o : Int} (X : Stand p l e R s m args below meth c T locs cells slots) (hx : p.tables.exec = Jvm.exec) (hd : decode c.code pc = .ok (.ifCond cd o, 3)) (hc : ifCond.holds cd x = true) (k' : Ends wd p e below s Qb kc ks T (mkF m q Ls st)) (ho : 0 ≤ (pc : Int) + o := by decide) (hq : ((pc : Int) + o).toNat = q := by decide) : Ends wd p e below s Qb kc ks T (mkF m pc Ls (.int x :: st)) :=
  Ends.go (fun t => XS.ifYes X.here hx rfl rfl hd rfl hc ho hq) k'
theorem E.ifN {x : Int32} {cd : ClassFile.Cond} {o : Int} (X : Stand p l e R s m args below meth c T locs cells slots) (hx : p.tables.exec = Jvm.exec) (hd : decode c.code pc = .ok (.ifCond cd o, 3)) (hc : ifCond.holds cd x = false) (k' : Ends wd p e below s Qb kc ks T (mkF m q Ls st)) (hq : pc + 3 = q := by rfl) : Ends wd p e below s Qb kc ks T (mkF m pc Ls (.int x :: st)) := by
  subst hq; exact Ends.go (fun t => XS.ifNo X.here hx rfl hd rfl hc) k'
theorem E.goto {o : Int} (X : Stand p l e R s m args below meth c T locs cells slots) (hx : p.tables.exec = Jvm.exec) (hd : decode c.code pc = .ok (.goto o, 3)) (k' : Ends wd p e below s Qb kc ks T (mkF m q Ls st)) (ho : 0 ≤ (pc : Int) + o := by decide) (hq : ((pc : Int) + o).toNat = q := by decide) : Ends wd p e below s Qb kc ks T (mkF m pc Ls st) :=
  Ends.go (fun t => XS.goto X.here hx rfl rfl hd ho hq) k'
theorem E.nullY {o : Int} (X : Stand p l e R s m args below meth c T locs cells slots) (hx : p.tables.exec = Jvm.exec) (hd : decode c.code pc = .ok (.ifnull o, 3)) (k' : Ends wd p e below s Qb kc ks T (mkF m q Ls st)) (ho : 0 ≤ (pc : Int) + o := by decide) (hq : ((pc : Int) + o).toNat = q := by decide) : Ends wd p e below s Qb kc ks T (mkF m pc Ls (.null :: st)) :=
  Ends.go (fun t => XS.ifnullYes X.here hx rfl rfl hd rfl ho hq) k'
theorem E.nullN {o : Int} {b : Addr} (X : Stand p l e R s m args below meth c T locs cells slots) (hx : p.tables.exec = Jvm.exec) (hd : decode c.code pc = .ok (.ifnull o, 3)) (k' : Ends wd p e below s Qb kc ks T (mkF m q Ls st)) (hq : pc + 3 = q := by rfl) : Ends wd p e below s Qb kc ks T (mkF m pc Ls (.ref b :: st)) := by
  subst hq; exact Ends.go (fun t => XS.ifnullNo X.here hx rfl hd rfl) k'
theorem E.nonnullY {o : Int} {b : Addr} (X : Stand p l e R s m args below meth c T locs cells slots) (hx : p.tables.exec = Jvm.exec) (hd : decode c.code pc = .ok (.ifnonnull o, 3)) (k' : Ends wd p e below s Qb kc ks T (mkF m q Ls st)) (ho : 0 ≤ (pc : Int) + o := by decide) (hq : ((pc : Int) + o).toNat = q := by decide) : Ends wd p e below s Qb kc ks T (mkF m pc Ls (.ref b :: st)) :=
  Ends.go (fun t => XS.ifnonnullYes X.here hx rfl rfl hd rfl ho hq) k'
theorem E.nonnullN {o : Int} (X : Stand p l e R s m args below meth c T locs cells slots) (hx : p.tables.exec = Jvm.exec) (hd : decode c.code pc = .ok (.ifnonnull o, 3)) (k' : Ends wd p e below s Qb kc ks T (mkF m q Ls st)) (hq : pc + 3 = q := by rfl) : Ends wd p e below s Qb kc ks T (mkF m pc Ls (.null :: st)) := by
  subst hq; exact Ends.go (fun t => XS.ifnonnullNo X.here hx rfl hd rfl) k'
theorem E.ldc {v : Int32} {own : String} {index : Nat} (X : Stand p l e R s m args below meth c T locs cells slots) (hx : p.tables.exec = Jvm.exec) (hZ : Z.Warmed39 s.vm) (hown : s.vm.findClass own = some m.cls) (hc : (Jvm.Cond.constant own index v).before a0 Z = true) (hd : decode c.code pc = .ok (.ldc index, 2)) (k' : Ends wd p e below s Qb kc ks T (mkF m q Ls (.int v :: st))) (hq : pc + 2 = q := by rfl) : Ends wd p e below s Qb kc ks T (mkF m pc Ls st) := by
  subst hq; exact Ends.go (fun t => X.ldcI hx hown (mvT hZ hc) rfl hd) k'
theorem E.ldcW {v : Int32} {own : String} {index : Nat} (X : Stand p l e R s m args below meth c T locs cells slots) (hx : p.tables.exec = Jvm.exec) (hZ : Z.Warmed39 s.vm) (hown : s.vm.findClass own = some m.cls) (hc : (Jvm.Cond.constant own index v).before a0 Z = true) (hd : decode c.code pc = .ok (.ldc_w index, 3)) (k' : Ends wd p e below s Qb kc ks T (mkF m q Ls (.int v :: st))) (hq : pc + 3 = q := by rfl) : Ends wd p e below s Qb kc ks T (mkF m pc Ls st) := by
  subst hq; exact Ends.go (fun t => X.ldcWI hx hown (mvT hZ hc) rfl hd) k'
theorem E.ldc2 {v : Int64} {own : String} {index : Nat} (X : Stand p l e R s m args below meth c T locs cells slots) (hx : p.tables.exec = Jvm.exec) (hZ : Z.Warmed39 s.vm) (hown : s.vm.findClass own = some m.cls) (hc : (Jvm.Cond.constantLong own index v).before a0 Z = true) (hd : decode c.code pc = .ok (.ldc2_w index, 3)) (k' : Ends wd p e below s Qb kc ks T (mkF m q Ls (.long v :: st))) (hq : pc + 3 = q := by rfl) : Ends wd p e below s Qb kc ks T (mkF m pc Ls st) := by
  subst hq; exact Ends.go (fun t => X.ldc2J hx hown (mvT hZ hc) rfl hd) k'
end OwnSteps
/-! own text: arrays by their whole contents; what a body may have done to the heap -/
section OwnHeap
variable {wd : Option (Vm → Heap → Prop)} {p : Program} {l : Launch} {e : Env} {R : Room} {s : State} {m : MethodId} {args : Array Value} {below : List Frame} {meth : Method} {c : Code} {T : State} {locs : List Loc} {cells slots : Nat} {Z : State} {a0 : Array Value} {h h' h0 : Heap} {Qb : Option Value → Heap → List Loc → Prop} {kc ks : Nat} {a b : Addr} {ty : FieldType} {vs : List Value} {v : Value} {sl i : Nat} {ws ws' : List Addr} {L L' : List Loc} {pc : Nat} {Ls : Array Slot} {st : List Value} {j : Int32}
def Ary (Z : State) (h : Heap) (a : Addr) (ty : FieldType) (vs : List Value) : Prop := ∃ c : Cell, Arr Z h a c ty ∧ c.slots = vs.toArray ∧ vs.length < 2 ^ 31
theorem Ary.lt (A : Ary Z h a ty vs) : a < h.size := by obtain ⟨c, A, -⟩ := A; exact A.lt
theorem Ary.ext (E : Ext h h') (A : Ary Z h a ty vs) : Ary Z h' a ty vs := by obtain ⟨c, A, r⟩ := A; exact ⟨c, A.ext E, r⟩
theorem Ary.other (W : Wr h h' b sl v) (A : Ary Z h a ty vs) (q : a ≠ b) : Ary Z h' a ty vs := by obtain ⟨c, A, r⟩ := A; exact ⟨c, Arr.other W A q, r⟩
theorem Ary.keep (A : Ary Z h a ty vs) (K : Keep h h' ws) (q : a ∉ ws) : Ary Z h' a ty vs := by obtain ⟨c, A, r⟩ := A; exact ⟨c, ⟨K.2.1 a c A.1 q, A.2⟩, r⟩
theorem Ary.set (A : Ary Z h a ty vs) (W : Wr h h' a i v) : Ary Z h' a ty (vs.set i v) := by
  obtain ⟨c, A, e, l⟩ := A
  refine ⟨c.setSlot i v, Arr.same W A, ?_, by rw [List.length_set]; exact l⟩
  show c.slots.setIfInBounds i v = _
  rw [e]; simp
theorem own_ofNat {i : Nat} (h : i < 2 ^ 31) : (Int32.ofNat i).toInt = (i : Int) := by
  rw [Int32.toInt_ofNat_of_lt h]
theorem own_clamp {i : Nat} (h : i < 2 ^ 31) : (Int32.ofNat i).toNatClampNeg = i ∧ ¬ (Int32.ofNat i) < 0 := by
  have q := own_ofNat h
  refine ⟨?_, ?_⟩
  · show (Int32.ofNat i).toInt.toNat = i
    omega
  · rw [Int32.lt_iff_toInt_lt]
    have : (0 : Int32).toInt = 0 := by decide
    omega
theorem Ary.new {k : ClassId} {n : Int32} {N : Nat} (A : Arr Z h a (newA k ty n) ty) (hn : n = Int32.ofNat N) (hN : N < 2 ^ 31) : Ary Z h a ty (List.replicate N (defaultValue ty)) := by
  refine ⟨_, A, ?_, by rw [List.length_replicate]; exact hN⟩
  subst hn
  show Array.replicate (Int32.ofNat N).toNatClampNeg (defaultValue ty) = _
  rw [(own_clamp hN).1]; simp
theorem own_inb {c : Cell} (e : c.slots = vs.toArray) (l : vs.length < 2 ^ 31) (hj : j = Int32.ofNat i) (hi : i < vs.length) : ¬ (j < 0 ∨ c.slots.size ≤ j.toNatClampNeg) := by
  subst hj
  have q := own_clamp (i := i) (by omega)
  rw [q.1, e]
  rintro (r | r)
  · exact q.2 r
  · simp at r; omega
theorem own_at {c : Cell} (e : c.slots = vs.toArray) (l : vs.length < 2 ^ 31) (hj : j = Int32.ofNat i) (hv : vs[i]? = some v) : ¬ (j < 0 ∨ c.slots.size ≤ j.toNatClampNeg) ∧ c.slots[j.toNatClampNeg]? = some v := by
  have hi : i < vs.length := (List.getElem?_eq_some_iff.mp hv).1
  refine ⟨own_inb e l hj hi, ?_⟩
  subst hj
  rw [(own_clamp (i := i) (by omega)).1, e]
  simpa using hv
/-- what the walk has done so far: of the elder cells only those in ws are written -/
def Ok (h0 h : Heap) (ws : List Addr) (L : List Loc) : Prop := Keep h0 h ws ∧ ∀ y ∈ L, y.base ∈ ws ∨ h0.size ≤ y.base
theorem Ok.refl (h : Heap) (ws : List Addr) : Ok h h ws [] := ⟨Keep.refl h ws, fun _ q => nomatch q⟩
theorem Ok.ext (O : Ok h0 h ws L) (E : Ext h h') : Ok h0 h' ws L := ⟨O.1.ext E, O.2⟩
theorem Ok.wr (O : Ok h0 h ws L) (W : Wr h h' a sl v) (q : a ∈ ws ∨ h0.size ≤ a) : Ok h0 h' ws (L ++ [⟨a, sl⟩]) :=
  ⟨O.1.wr W q, fun y hy => (List.mem_append.mp hy).elim (O.2 y) fun r => by cases List.mem_singleton.mp r; exact q⟩
theorem Ok.call (O : Ok h0 h ws L) (O' : Ok h h' ws' L') (q : ∀ x ∈ ws', x ∈ ws ∨ h0.size ≤ x) : Ok h0 h' ws (L ++ L') :=
  ⟨O.1.trans O'.1 q, fun y hy => (List.mem_append.mp hy).elim (O.2 y) fun r => (O'.2 y r).elim (q _) fun u => Or.inr (Nat.le_trans O.1.1 u)⟩
theorem Ok.fr (O : Ok h0 h [] L) : Fr h0.size L := fun y hy => (O.2 y hy).elim (fun q => nomatch q) id
theorem Ok.le (O : Ok h0 h ws L) : h0.size ≤ h.size := O.1.1
theorem Ends.alen (X : Stand p l e R s m args below meth c T locs cells slots) (hx : p.tables.exec = Jvm.exec) (hZ : Z.Warmed39 s.vm) (eT : T.heap = h) (A : Ary Z h a ty vs) (hd : decode c.code pc = .ok (.arraylength, 1)) {n : Int32} (hn : Int32.ofNat vs.length = n)
    (k : Ends wd p e below s Qb kc ks T (mkF m (pc + 1) Ls (.int n :: st))) : Ends wd p e below s Qb kc ks T (mkF m pc Ls (.ref a :: st)) := by
  obtain ⟨cl, A, q, -⟩ := A
  refine Ends.go (fun t => X.arraylength hx (cell := cl) (by rw [eT]; exact A.1) (State.isArrayOf_alike hZ.alike A.2.1) (g := mkF m pc Ls (.ref a :: st)) rfl (rest := st) rfl hd t) ?_
  have e1 : cl.slots.size.toInt32 = n := by rw [q, ← hn]; simp
  rw [e1]; exact k
theorem Ends.ild (X : Stand p l e R s m args below meth c T locs cells slots) (hx : p.tables.exec = Jvm.exec) (hZ : Z.Warmed39 s.vm) (eT : T.heap = h) (A : Ary Z h a .int vs) (hj : j = Int32.ofNat i) (hv : vs[i]? = some v) (hd : decode c.code pc = .ok (.iaload, 1))
    (k : Ends wd p e below s Qb kc ks T (mkF m (pc + 1) Ls (v :: st))) : Ends wd p e below s Qb kc ks T (mkF m pc Ls (.int j :: .ref a :: st)) := by
  obtain ⟨cl, A, q, q2⟩ := A
  obtain ⟨r1, r2⟩ := own_at q q2 hj hv
  exact Ends.go (fun t => X.iaload hx (by rw [eT]; exact A.1) (State.isArrayOf_alike hZ.alike A.2.1) A.2.2 r1 r2 (g := mkF m pc Ls (.int j :: .ref a :: st)) rfl rfl hd t) k
theorem Ends.cld (X : Stand p l e R s m args below meth c T locs cells slots) (hx : p.tables.exec = Jvm.exec) (hZ : Z.Warmed39 s.vm) (eT : T.heap = h) (A : Ary Z h a .char vs) (hj : j = Int32.ofNat i) (hv : vs[i]? = some v) (hd : decode c.code pc = .ok (.caload, 1))
    (k : Ends wd p e below s Qb kc ks T (mkF m (pc + 1) Ls (v :: st))) : Ends wd p e below s Qb kc ks T (mkF m pc Ls (.int j :: .ref a :: st)) := by
  obtain ⟨cl, A, q, q2⟩ := A
  obtain ⟨r1, r2⟩ := own_at q q2 hj hv
  exact Ends.go (fun t => X.caload hx (by rw [eT]; exact A.1) (State.isArrayOf_alike hZ.alike A.2.1) A.2.2 r1 r2 (g := mkF m pc Ls (.int j :: .ref a :: st)) rfl rfl hd t) k
theorem Ends.bld (X : Stand p l e R s m args below meth c T locs cells slots) (hx : p.tables.exec = Jvm.exec) (hZ : Z.Warmed39 s.vm) (eT : T.heap = h) (A : Ary Z h a .byte vs) (hj : j = Int32.ofNat i) (hv : vs[i]? = some v) (hd : decode c.code pc = .ok (.baload, 1))
    (k : Ends wd p e below s Qb kc ks T (mkF m (pc + 1) Ls (v :: st))) : Ends wd p e below s Qb kc ks T (mkF m pc Ls (.int j :: .ref a :: st)) := by
  obtain ⟨cl, A, q, q2⟩ := A
  obtain ⟨r1, r2⟩ := own_at q q2 hj hv
  exact Ends.go (fun t => X.baloadBytes hx (by rw [eT]; exact A.1) (State.isArrayOf_alike hZ.alike A.2.1) A.2.2 r1 r2 (g := mkF m pc Ls (.int j :: .ref a :: st)) rfl rfl hd t) k
theorem Ends.dld (X : Stand p l e R s m args below meth c T locs cells slots) (hx : p.tables.exec = Jvm.exec) (hZ : Z.Warmed39 s.vm) (eT : T.heap = h) (A : Ary Z h a .double vs) (hj : j = Int32.ofNat i) (hv : vs[i]? = some v) (hd : decode c.code pc = .ok (.daload, 1))
    (k : Ends wd p e below s Qb kc ks T (mkF m (pc + 1) Ls (v :: st))) : Ends wd p e below s Qb kc ks T (mkF m pc Ls (.int j :: .ref a :: st)) := by
  obtain ⟨cl, A, q, q2⟩ := A
  obtain ⟨r1, r2⟩ := own_at q q2 hj hv
  exact Ends.go (fun t => X.daload hx (by rw [eT]; exact A.1) (State.isArrayOf_alike hZ.alike A.2.1) A.2.2 r1 r2 (g := mkF m pc Ls (.int j :: .ref a :: st)) rfl rfl hd t) k
theorem Ends.ald (X : Stand p l e R s m args below meth c T locs cells slots) (hx : p.tables.exec = Jvm.exec) (hZ : Z.Warmed39 s.vm) (eT : T.heap = h) (A : Ary Z h a ty vs) (hty : ty.isReference = true) (hj : j = Int32.ofNat i) (hv : vs[i]? = some v) (hd : decode c.code pc = .ok (.aaload, 1))
    (k : Ends wd p e below s Qb kc ks T (mkF m (pc + 1) Ls (v :: st))) : Ends wd p e below s Qb kc ks T (mkF m pc Ls (.int j :: .ref a :: st)) := by
  obtain ⟨cl, A, q, q2⟩ := A
  obtain ⟨r1, r2⟩ := own_at q q2 hj hv
  exact Ends.go (fun t => X.aaload hx (by rw [eT]; exact A.1) (State.isArrayOf_alike hZ.alike A.2.1) hty A.2.2 r1 r2 (g := mkF m pc Ls (.int j :: .ref a :: st)) rfl rfl hd t) k
theorem Ends.ist (X : Stand p l e R s m args below meth c T locs cells slots) (hx : p.tables.exec = Jvm.exec) (hZ : Z.Warmed39 s.vm) (eT : T.heap = h) (A : Ary Z h a .int vs) {x : Int32} (hj : j = Int32.ofNat i) (hi : i < vs.length) (hd : decode c.code pc = .ok (.iastore, 1))
    (k : ∀ T' h', Stand p l e R s m args below meth c T' (locs ++ [⟨a, i⟩]) cells slots → T'.heap = h' → Wr h h' a i (.int x) → Ary Z h' a .int (vs.set i (.int x)) → Ends wd p e below s Qb kc ks T' (mkF m (pc + 1) Ls st)) : Ends wd p e below s Qb kc ks T (mkF m pc Ls (.int x :: .int j :: .ref a :: st)) := by
  obtain ⟨cl, A', q, q2⟩ := id A
  obtain ⟨T', h', X', e', W, st'⟩ := stI X hx hZ eT A' (j := j) (own_inb q q2 hj hi) (g := mkF m pc Ls (.int x :: .int j :: .ref a :: st)) rfl rfl hd
  have hc : j.toNatClampNeg = i := by rw [hj]; exact (own_clamp (by omega)).1
  rw [hc] at X' W
  exact Ends.go st' (k T' h' X' e' W (A.set W))
theorem Ends.cst (X : Stand p l e R s m args below meth c T locs cells slots) (hx : p.tables.exec = Jvm.exec) (hZ : Z.Warmed39 s.vm) (eT : T.heap = h) (A : Ary Z h a .char vs) {x x' : Int32} (hxx : nar .char x = x') (hj : j = Int32.ofNat i) (hi : i < vs.length) (hd : decode c.code pc = .ok (.castore, 1))
    (k : ∀ T' h', Stand p l e R s m args below meth c T' (locs ++ [⟨a, i⟩]) cells slots → T'.heap = h' → Wr h h' a i (.int x') → Ary Z h' a .char (vs.set i (.int x')) → Ends wd p e below s Qb kc ks T' (mkF m (pc + 1) Ls st)) : Ends wd p e below s Qb kc ks T (mkF m pc Ls (.int x :: .int j :: .ref a :: st)) := by
  obtain ⟨cl, A', q, q2⟩ := id A
  obtain ⟨T', h', X', e', W, st'⟩ := stC X hx hZ eT A' (j := j) (own_inb q q2 hj hi) (g := mkF m pc Ls (.int x :: .int j :: .ref a :: st)) rfl rfl hd
  have hc : j.toNatClampNeg = i := by rw [hj]; exact (own_clamp (by omega)).1
  rw [hc] at X' W
  rw [hxx] at W
  exact Ends.go st' (k T' h' X' e' W (A.set W))
theorem Ends.bst (X : Stand p l e R s m args below meth c T locs cells slots) (hx : p.tables.exec = Jvm.exec) (hZ : Z.Warmed39 s.vm) (eT : T.heap = h) (A : Ary Z h a .byte vs) {x x' : Int32} (hxx : nar .byte x = x') (hj : j = Int32.ofNat i) (hi : i < vs.length) (hd : decode c.code pc = .ok (.bastore, 1))
    (k : ∀ T' h', Stand p l e R s m args below meth c T' (locs ++ [⟨a, i⟩]) cells slots → T'.heap = h' → Wr h h' a i (.int x') → Ary Z h' a .byte (vs.set i (.int x')) → Ends wd p e below s Qb kc ks T' (mkF m (pc + 1) Ls st)) : Ends wd p e below s Qb kc ks T (mkF m pc Ls (.int x :: .int j :: .ref a :: st)) := by
  obtain ⟨cl, A', q, q2⟩ := id A
  obtain ⟨T', h', X', e', W, st'⟩ := stB X hx hZ eT A' (j := j) (own_inb q q2 hj hi) (g := mkF m pc Ls (.int x :: .int j :: .ref a :: st)) rfl rfl hd
  have hc : j.toNatClampNeg = i := by rw [hj]; exact (own_clamp (by omega)).1
  rw [hc] at X' W
  rw [hxx] at W
  exact Ends.go st' (k T' h' X' e' W (A.set W))
theorem Ends.dst (X : Stand p l e R s m args below meth c T locs cells slots) (hx : p.tables.exec = Jvm.exec) (hZ : Z.Warmed39 s.vm) (eT : T.heap = h) (A : Ary Z h a .double vs) {x : UInt64} (hj : j = Int32.ofNat i) (hi : i < vs.length) (hd : decode c.code pc = .ok (.dastore, 1))
    (k : ∀ T' h', Stand p l e R s m args below meth c T' (locs ++ [⟨a, i⟩]) cells slots → T'.heap = h' → Wr h h' a i (.double x) → Ary Z h' a .double (vs.set i (.double x)) → Ends wd p e below s Qb kc ks T' (mkF m (pc + 1) Ls st)) : Ends wd p e below s Qb kc ks T (mkF m pc Ls (.double x :: .int j :: .ref a :: st)) := by
  obtain ⟨cl, A', q, q2⟩ := id A
  obtain ⟨T', h', X', e', W, st'⟩ := stD X hx hZ eT A' (j := j) (own_inb q q2 hj hi) (g := mkF m pc Ls (.double x :: .int j :: .ref a :: st)) rfl rfl hd
  have hc : j.toNatClampNeg = i := by rw [hj]; exact (own_clamp (by omega)).1
  rw [hc] at X' W
  exact Ends.go st' (k T' h' X' e' W (A.set W))
theorem Ends.newA (X : Stand p l e R s m args below meth c T locs cells slots) (hx : p.tables.exec = Jvm.exec) (hZ : Z.Warmed39 s.vm) {aty : ArrayType} (w : (Jvm.Cond.arrayClass (newarray.typeOf aty)).before a0 Z = true) (eT : T.heap = h) (hd : decode c.code pc = .ok (.newarray aty, 2)) {n : Int32} {N : Nat} (hn : n = Int32.ofNat N) (hN : N * 8 ≤ 536870912) (hc : cells + 1 ≤ R.cells) (hl : slots + N ≤ R.slots)
    (k : ∀ T' h' b, b = h.size → Stand p l e R s m args below meth c T' locs (cells + 1) (slots + N) → T'.heap = h' → Ext h h' → Ary Z h' b (newarray.typeOf aty) (List.replicate N (defaultValue (newarray.typeOf aty))) → Ends wd p e below s Qb kc ks T' (mkF m (pc + 2) Ls (.ref b :: st))) : Ends wd p e below s Qb kc ks T (mkF m pc Ls (.int n :: st)) := by
  have q := own_clamp (i := N) (by omega)
  obtain ⟨T', h', cA, X', e', E, A, st'⟩ := newP X hx hZ w eT (g := mkF m pc Ls (.int n :: st)) rfl hd rfl (by rw [hn]; exact q.2) (cap := N) (by rw [hn, q.1]; exact Nat.le_refl _) hN hc hl
  exact Ends.go st' (k T' h' _ rfl X' e' E (Ary.new A hn (by omega)))
theorem Ends.newC (X : Stand p l e R s m args below meth c T locs cells slots) (hx : p.tables.exec = Jvm.exec) (hZ : Z.Warmed39 s.vm) {own C : String} {index n : Nat} (hown : s.vm.findClass own = some m.cls) (w : (Jvm.Cond.classLink own index C).before a0 Z = true) (wi : (Jvm.Cond.instantiable C n).before a0 Z = true) (wz : (Jvm.Cond.initialized C).before a0 Z = true) (eT : T.heap = h) (hd : decode c.code pc = .ok (.new index, 3)) (hc : cells + 1 ≤ R.cells) (hl : slots + n ≤ R.slots)
    (k : ∀ T' h' b, b = h.size → Stand p l e R s m args below meth c T' locs (cells + 1) (slots + n) → T'.heap = h' → Ext h h' → Exa Z h' b C → (∀ {O nm d : String} {ty : FieldType}, Laid Z a0 C O nm d → parseFieldDescriptor d = some ty → Fld Z h' b O nm d (defaultValue ty)) → Ends wd p e below s Qb kc ks T' (mkF m (pc + 3) Ls (.ref b :: st))) : Ends wd p e below s Qb kc ks T (mkF m pc Ls st) := by
  obtain ⟨T', h', X', e', E, A, D, -, st'⟩ := newO X hx hZ hown w wi wz eT (g := mkF m pc Ls st) rfl hd hc hl
  exact Ends.go st' (k T' h' _ rfl X' e' E A D)
end OwnHeap
section OwnHeap2
variable {wd : Option (Vm → Heap → Prop)} {p : Program} {l : Launch} {e : Env} {R : Room} {s : State} {m : MethodId} {args : Array Value} {below : List Frame} {meth : Method} {c : Code} {T : State} {locs : List Loc} {cells slots : Nat} {Z : State} {a0 : Array Value} {h h' h0 : Heap} {Qb : Option Value → Heap → List Loc → Prop} {kc ks : Nat} {a b : Addr} {ty : FieldType} {v v' old : Value} {pc index kk : Nat} {Ls : Array Slot} {st : List Value} {own R0 O n d host C : String}
theorem Ends.getF (X : Stand p l e R s m args below meth c T locs cells slots) (hx : p.tables.exec = Jvm.exec) (hZ : Z.Warmed39 s.vm) (hown : s.vm.findClass own = some m.cls) (w : (Jvm.Cond.fieldLink own index R0 n d).before a0 Z = true ∨ (Jvm.Cond.fieldLinkNest own index R0 n d host).before a0 Z = true) (via : Via Z R0 O n d) (eT : T.heap = h) (F : Fld Z h a O n d v) (hd : decode c.code pc = .ok (.getfield index, 3))
    (k : ∀ T', Stand p l e R s m args below meth c T' locs cells slots → T'.heap = h → Ends wd p e below s Qb kc ks T' (mkF m (pc + 3) Ls (v :: st))) : Ends wd p e below s Qb kc ks T (mkF m pc Ls (.ref a :: st)) := by
  obtain ⟨T', X', e', st'⟩ := Jvm.RoadKit.getF X hx hZ hown w via eT F (g := mkF m pc Ls (.ref a :: st)) rfl rfl hd
  exact Ends.go st' (k T' X' e')
theorem Ends.putF (X : Stand p l e R s m args below meth c T locs cells slots) (hx : p.tables.exec = Jvm.exec) (hZ : Z.Warmed39 s.vm) (hown : s.vm.findClass own = some m.cls) (w : (Jvm.Cond.fieldLink own index R0 n d).before a0 Z = true ∨ (Jvm.Cond.fieldLinkNest own index R0 n d host).before a0 Z = true) (via : Via Z R0 O n d) (eT : T.heap = h) (F : Fld Z h a O n d old) (E : Exa Z h a C) (L : (Jvm.Cond.lays C O n d).before a0 Z = true ∨ ((Jvm.Cond.laysFinal C O n d).before a0 Z = true ∧ own = O ∧ meth.name = "<init>")) (wi : (Jvm.Cond.instantiable C kk).before a0 Z = true) (hty : parseFieldDescriptor d = some ty) (hn : narrow ty v = v) (hf : fits ty v = true) (hd : decode c.code pc = .ok (.putfield index, 3))
    (k : ∀ T' h', Stand p l e R s m args below meth c T' (locs ++ [⟨a, Jvm.RoadKit.slotOf Z O n d⟩]) cells slots → T'.heap = h' → Wr h h' a (Jvm.RoadKit.slotOf Z O n d) v → Fld Z h' a O n d v → Ends wd p e below s Qb kc ks T' (mkF m (pc + 3) Ls st)) : Ends wd p e below s Qb kc ks T (mkF m pc Ls (v :: .ref a :: st)) := by
  obtain ⟨T', h', X', e', W, st'⟩ := Jvm.RoadKit.putF X hx hZ hown w via eT F E L wi hty hn hf (g := mkF m pc Ls (v :: .ref a :: st)) rfl rfl hd
  exact Ends.go st' (k T' h' X' e' W (F.same W))
theorem Ends.putN (X : Stand p l e R s m args below meth c T locs cells slots) (hx : p.tables.exec = Jvm.exec) (hZ : Z.Warmed39 s.vm) (hown : s.vm.findClass own = some m.cls) (w : (Jvm.Cond.fieldLink own index R0 n d).before a0 Z = true) (via : Via Z R0 O n d) (eT : T.heap = h) (F : Fld Z h a O n d old) (E : Exa Z h a C) (L : (Jvm.Cond.lays C O n d).before a0 Z = true ∨ ((Jvm.Cond.laysFinal C O n d).before a0 Z = true ∧ own = O ∧ meth.name = "<init>")) (wi : (Jvm.Cond.instantiable C kk).before a0 Z = true) (hty : parseFieldDescriptor d = some ty) (hn : narrow ty v = v') (hf : fits ty v' = true) (hd : decode c.code pc = .ok (.putfield index, 3))
    (k : ∀ T' h', Stand p l e R s m args below meth c T' (locs ++ [⟨a, Jvm.RoadKit.slotOf Z O n d⟩]) cells slots → T'.heap = h' → Wr h h' a (Jvm.RoadKit.slotOf Z O n d) v' → Fld Z h' a O n d v' → Ends wd p e below s Qb kc ks T' (mkF m (pc + 3) Ls st)) : Ends wd p e below s Qb kc ks T (mkF m pc Ls (v :: .ref a :: st)) := by
  obtain ⟨T', h', X', e', W, st'⟩ := Jvm.RoadKit.putFN X hx hZ hown w via eT F E L wi hty hn hf (g := mkF m pc Ls (v :: .ref a :: st)) rfl rfl hd
  exact Ends.go st' (k T' h' X' e' W (F.same W))
theorem Ends.initO (X : Stand p l e R s m args below meth c T locs cells slots) (hx : p.tables.exec = Jvm.exec) (hZ : Z.Warmed39 s.vm) (hown : s.vm.findClass own = some m.cls) (w1 : (Jvm.Cond.methodLink own index Lib.objectInit).before a0 Z = true) (w2 : (Jvm.Cond.instanceMethod Lib.objectInit).before a0 Z = true) (w3 : (Jvm.Cond.code Lib.objectInit ⟨#[0xb1]⟩ 1 none).before a0 Z = true) (eT : T.heap = h) (hsz : Ls.size = c.maxLocals) (hd : decode c.code pc = .ok (.invokespecial index, 3)) (hf : 1 ≤ R.frames) {W : Nat} (hW : (st.map fun v => v.category).sum ≤ W) (hl : W + 12 ≤ R.locals)
    (k : ∀ T', Stand p l e R s m args below meth c T' locs cells slots → T'.heap = h → Ends wd p e below s Qb kc ks T' (mkF m (pc + 3) Ls st)) : Ends wd p e below s Qb kc ks T (mkF m pc Ls (.ref a :: st)) := by
  obtain ⟨T', X', e', st'⟩ := Jvm.RoadKit.initO X hx hZ hown w1 w2 w3 eT (g := mkF m pc Ls (.ref a :: st)) rfl hsz rfl hd hf (W := W) (by show 2 * 0 + _ ≤ _; omega) hl
  exact Ends.go st' (k T' X' e')
end OwnHeap2
section OwnHeap3
variable {wd : Option (Vm → Heap → Prop)} {p : Program} {l : Launch} {e : Env} {R : Room} {s : State} {m : MethodId} {args : Array Value} {below : List Frame} {meth : Method} {c : Code} {T : State} {locs : List Loc} {cells slots : Nat} {Z : State} {a0 : Array Value} {h h' h0 : Heap} {Qb : Option Value → Heap → List Loc → Prop} {kc ks : Nat} {a b y : Addr} {ty : FieldType} {vs : List Value} {v : Value} {sl i : Nat} {ws : List Addr} {pc q index : Nat} {Ls : Array Slot} {st : List Value} {j : Int32} {own C n d O R0 host : String}
theorem own_sta_keep (F : Sta Z h C n d v) (K : Keep h h' ws) (q : ∀ x ∈ ws, ∀ cell : Cell, h[x]? = some cell → cell.vm.isStatics = false) : Sta Z h' C n d v := by
  obtain ⟨cf, i, k, f, st, cell, h1, h2, h3, h4, h5, h6, h7⟩ := F
  have ni : st ∉ ws := fun m => by rw [q st m cell h5] at h6; cases h6
  exact ⟨cf, i, k, f, st, cell, h1, h2, h3, h4, K.2.1 st cell h5 ni, h6, h7⟩
theorem own_ns (E : Exa Z h a C) : ∀ x ∈ [a], ∀ cell : Cell, h[x]? = some cell → cell.vm.isStatics = false := fun x m cell q => by
  cases List.mem_singleton.mp m
  obtain ⟨c1, _, h1, -, -, h4, -⟩ := E
  cases h1.symm.trans q; exact h4
theorem own_ns0 : ∀ x ∈ ([] : List Addr), ∀ cell : Cell, h[x]? = some cell → cell.vm.isStatics = false := fun x m => nomatch m
theorem Ends.getS (X : Stand p l e R s m args below meth c T locs cells slots) (hx : p.tables.exec = Jvm.exec) (hZ : Z.Warmed39 s.vm) (hown : s.vm.findClass own = some m.cls) (w : (Jvm.Cond.fieldLink own index R0 n d).before a0 Z = true ∨ (Jvm.Cond.fieldLinkNest own index R0 n d host).before a0 Z = true) (via : Via Z R0 O n d) (eT : T.heap = h) (F : Sta Z h O n d v) (hd : decode c.code pc = .ok (.getstatic index, 3))
    (k : ∀ T', Stand p l e R s m args below meth c T' locs cells slots → T'.heap = h → Ends wd p e below s Qb kc ks T' (mkF m (pc + 3) Ls (v :: st))) : Ends wd p e below s Qb kc ks T (mkF m pc Ls st) := by
  obtain ⟨T', X', e', st'⟩ := getS2 X hx hZ hown w via eT F (g := mkF m pc Ls st) rfl hd
  exact Ends.go st' (k T' X' e')
theorem E.ldc2D {w : UInt64} (X : Stand p l e R s m args below meth c T locs cells slots) (hx : p.tables.exec = Jvm.exec) (hZ : Z.Warmed39 s.vm) (hown : s.vm.findClass own = some m.cls) (hc : (Jvm.Cond.constantDouble own index w).before a0 Z = true) (hd : decode c.code pc = .ok (.ldc2_w index, 3)) (k' : Ends wd p e below s Qb kc ks T (mkF m q Ls (.double w :: st))) (hq : pc + 3 = q := by rfl) : Ends wd p e below s Qb kc ks T (mkF m pc Ls st) := by
  subst hq; exact Ends.go (fun t => X.ldc2DoubleC hx hown (mvT hZ hc) (g := mkF m pc Ls st) rfl hd t) k'
theorem Ends.retD (X : Stand p l e R s m args below meth c T locs cells slots) (hx : p.tables.exec = Jvm.exec) (hlk : meth.locks = false) {z : UInt64} (hret : meth.sig.returnType = some .double) (hd : decode c.code pc = .ok (.dreturn, 1)) (hc : cells ≤ kc) (hs : slots ≤ ks) (hQ : Qb (some (.double z)) T.heap locs) (hF : OkF wd T.vm T.heap := by exact True.intro) : Ends wd p e below s Qb kc ks T (mkF m pc Ls (.double z :: st)) :=
  Ends.ret X hx hlk hret rfl (Or.inr (Or.inr (Or.inl ⟨rfl, rfl, _, rfl⟩))) hd hc hs hQ hF
/-- an array of arrays, with what may lie in it -/
def Ar2 (Z : State) (h : Heap) (a : Addr) (ty : FieldType) (C : String) (vs : List Value) : Prop := ∃ c : Cell, Arr Z h a c (.array ty) ∧ c.slots = vs.toArray ∧ vs.length < 2 ^ 31 ∧ OvrA Z c.cls ty C
theorem Ar2.ary (A : Ar2 Z h a ty C vs) : Ary Z h a (.array ty) vs := by obtain ⟨c, A, q, r, -⟩ := A; exact ⟨c, A, q, r⟩
theorem Ar2.lt (A : Ar2 Z h a ty C vs) : a < h.size := A.ary.lt
theorem Ar2.ext (E : Ext h h') (A : Ar2 Z h a ty C vs) : Ar2 Z h' a ty C vs := by obtain ⟨c, A, r⟩ := A; exact ⟨c, A.ext E, r⟩
theorem Ar2.other (W : Wr h h' b sl v) (A : Ar2 Z h a ty C vs) (q : a ≠ b) : Ar2 Z h' a ty C vs := by obtain ⟨c, A, r⟩ := A; exact ⟨c, Arr.other W A q, r⟩
theorem Ar2.keep (A : Ar2 Z h a ty C vs) (K : Keep h h' ws) (q : a ∉ ws) : Ar2 Z h' a ty C vs := by obtain ⟨c, A, r⟩ := A; exact ⟨c, ⟨K.2.1 a c A.1 q, A.2⟩, r⟩
theorem Ar2.set (A : Ar2 Z h a ty C vs) (W : Wr h h' a i v) : Ar2 Z h' a ty C (vs.set i v) := by
  obtain ⟨c, A, e, l, o⟩ := A
  refine ⟨c.setSlot i v, Arr.same W A, ?_, by rw [List.length_set]; exact l, o⟩
  show c.slots.setIfInBounds i v = _
  rw [e]; simp
theorem Ends.newA2 (X : Stand p l e R s m args below meth c T locs cells slots) (hx : p.tables.exec = Jvm.exec) (hZ : Z.Warmed39 s.vm) (hown : s.vm.findClass own = some m.cls) (hC : (FieldType.array ty).toString = C) (w1 : (Jvm.Cond.classLink own index C).before a0 Z = true) (w2 : (Jvm.Cond.arrayOver (.array ty)).before a0 Z = true) (eT : T.heap = h) (hd : decode c.code pc = .ok (.anewarray index, 3)) {n : Int32} {N : Nat} (hn : n = Int32.ofNat N) (hN : N * 8 ≤ 536870912) (hc : cells + 1 ≤ R.cells) (hl : slots + N ≤ R.slots)
    (k : ∀ T' h' b, b = h.size → Stand p l e R s m args below meth c T' locs (cells + 1) (slots + N) → T'.heap = h' → Ext h h' → Ar2 Z h' b ty C (List.replicate N .null) → Ends wd p e below s Qb kc ks T' (mkF m (pc + 3) Ls (.ref b :: st))) : Ends wd p e below s Qb kc ks T (mkF m pc Ls (.int n :: st)) := by
  have q := own_clamp (i := N) (by omega)
  obtain ⟨T', h', cA, X', e', E, A, -, O, st'⟩ := newRA X hx hZ hown hC w1 w2 eT (g := mkF m pc Ls (.int n :: st)) rfl hd rfl (by rw [hn]; exact q.2) (cap := N) (by rw [hn, q.1]; exact Nat.le_refl _) hN hc hl (ad := "[" ++ C) rfl
  refine Ends.go st' (k T' h' _ rfl X' e' E ?_)
  obtain ⟨c', A', q1, q2⟩ := Ary.new (ty := .array ty) A hn (by omega)
  have e1 : c' = Jvm.RoadKit.newA cA (.array ty) n := Option.some.inj (A'.1.symm.trans A.1)
  exact ⟨c', A', q1, q2, by rw [e1]; exact O⟩
theorem Ends.ast (X : Stand p l e R s m args below meth c T locs cells slots) (hx : p.tables.exec = Jvm.exec) (hZ : Z.Warmed39 s.vm) (eT : T.heap = h) (A : Ar2 Z h a ty C vs) (I : Exa Z h y C) (hj : j = Int32.ofNat i) (hi : i < vs.length) (hd : decode c.code pc = .ok (.aastore, 1))
    (k : ∀ T' h', Stand p l e R s m args below meth c T' (locs ++ [⟨a, i⟩]) cells slots → T'.heap = h' → Wr h h' a i (.ref y) → Ar2 Z h' a ty C (vs.set i (.ref y)) → Ends wd p e below s Qb kc ks T' (mkF m (pc + 1) Ls st)) : Ends wd p e below s Qb kc ks T (mkF m pc Ls (.ref y :: .int j :: .ref a :: st)) := by
  obtain ⟨cl, A', q, q2, O⟩ := id A
  obtain ⟨T', h', X', e', W, st'⟩ := stR X hx hZ eT A' (j := j) (own_inb q q2 hj hi) rfl (Sto.ofVA A' rfl O (Ins.self I)) (g := mkF m pc Ls (.ref y :: .int j :: .ref a :: st)) rfl rfl hd
  have hc : j.toNatClampNeg = i := by rw [hj]; exact (own_clamp (by omega)).1
  rw [hc] at X' W
  exact Ends.go st' (k T' h' X' e' W (A.set W))
theorem Ends.newAE (X : Stand p l e R s m args below meth c T locs cells slots) (hx : p.tables.exec = Jvm.exec) (hZ : Z.Warmed39 s.vm) {aty : ArrayType} (w : (Jvm.Cond.arrayClass (newarray.typeOf aty)).before a0 Z = true) (eT : T.heap = h) (hd : decode c.code pc = .ok (.newarray aty, 2)) {n : Int32} {N : Nat} (hn : n = Int32.ofNat N) (hN : N * 8 ≤ 536870912) (hc : cells + 1 ≤ R.cells) (hl : slots + N ≤ R.slots) {ad : String} (had : "[" ++ (newarray.typeOf aty).toString = ad)
    (k : ∀ T' h' b, b = h.size → Stand p l e R s m args below meth c T' locs (cells + 1) (slots + N) → T'.heap = h' → Ext h h' → Ary Z h' b (newarray.typeOf aty) (List.replicate N (defaultValue (newarray.typeOf aty))) → Exa Z h' b ad → Ends wd p e below s Qb kc ks T' (mkF m (pc + 2) Ls (.ref b :: st))) : Ends wd p e below s Qb kc ks T (mkF m pc Ls (.int n :: st)) := by
  have q := own_clamp (i := N) (by omega)
  obtain ⟨T', h', cA, X', e', E, A, E2, st'⟩ := newPE X hx hZ w eT (g := mkF m pc Ls (.int n :: st)) rfl hd rfl (by rw [hn]; exact q.2) (cap := N) (by rw [hn, q.1]; exact Nat.le_refl _) hN hc hl had
  exact Ends.go st' (k T' h' _ rfl X' e' E (Ary.new A hn (by omega)) E2)
end OwnHeap3
/-! own text: roads that load string constants (the base state moves, ReturnedEndW at the end) -/
section OwnWide
variable {wd : Option (Vm → Heap → Prop)} {p : Program} {l : Launch} {e : Env} {R : Room} {s : State} {m : MethodId} {args : Array Value} {below : List Frame} {meth : Method} {c : Code} {T : State} {locs : List Loc} {cells slots : Nat} {Z : State} {a0 : Array Value} {h : Heap} {Qb : Option Value → Heap → List Loc → Prop} {kc ks : Nat} {F : Vm → Heap → Prop}
def Fl (Q : Option Value → Heap → List Loc → Prop) (f : Nat) : Option Value → Heap → List Loc → Prop := fun v h L => Q v h L ∧ f ≤ h.size
theorem Ends.rebase {vm1 : Vm} {f f0 k1 : Nat} {g : JFrame} (hS : s.Since vm1 k1) (hk : k1 ≤ f) (hf : f0 ≤ f) (k : Ends (some F) p e below (s.setVm vm1) (Fl Qb f) kc ks T g) : Ends (some F) p e below s (Fl Qb f0) kc ks T g := by
  obtain ⟨s2, o, st, hr, hE, v, L, ho, hQ, ⟨hret, hW, hB, hs⟩, hF⟩ := k
  have hS2 : (s.setVm vm1).Since s2.vm s2.heap.size := ⟨hW, hB⟩
  have hS3 := hS.trans hS2 (Nat.le_trans hk hQ.2)
  exact ⟨s2, o, st, hr, hE, v, L, ho, ⟨hQ.1, Nat.le_trans hf hQ.2⟩, ⟨hret, hS3.1, hS3.2, hs.setVm s.vm⟩, hF⟩
abbrev ConW (l : Launch) (y : MethodName) (code : ByteArray) (ml : Nat) (rt : Option FieldType) (ws : List Jvm.Cond) (rm : Room) (as' : Array Value) (Z : State) (h0 : Heap) (Q : Option Value → Heap → List Loc → Prop) : Prop :=
  MetFree l y (head1 (Jvm.Cond.code y code ml rt :: ws) rm) (fun a U => a = as' ∧ Z.Warmed39 U.vm ∧ U.heap = h0) (fun _ _ _ _ _ => True) (fun _ U o U' => ∃ v L, o = .returned v ∧ Q v U'.heap L ∧ ReturnedEndW U o U' L rm.cells rm.slots)
theorem ConW.of {y : MethodName} {code : ByteArray} {ml : Nat} {rt : Option FieldType} {ws : List Jvm.Cond} {rm : Room} {as' : Array Value} {h0 : Heap} {Q : Option Value → Heap → List Loc → Prop} (hp : plainFor y = true)
    (k : ∀ (p : Program) (e : Env) (s : State) (m : MethodId) (below : List Frame) (meth : Method) (c : Code) (s₁ : State), p.tables.exec = Jvm.exec → Z.Warmed39 s.vm → c.code = code → c.maxLocals = ml → s.vm.findClass y.cls = some m.cls → meth.name = y.name → meth.sig.returnType = rt → meth.locks = false →
      Stand p l e rm s m as' below meth c s₁ [] 0 0 → s₁.heap = h0 → Ends (some fun _ _ => True) p e below s (Fl Q 0) rm.cells rm.slots s₁ (entryFrame m as' ml)) : ConW l y code ml rt ws rm as' Z h0 Q := by
  refine MetFree.of_bodySF hp hisR ?_
  intro p e s m args below meth c s₁ Bd hml0 hP hK
  obtain ⟨rfl, hZ, hh⟩ := hP
  obtain ⟨s2, o, h1, h2, h3, v, L, h4, h5, h6, -⟩ := k p e s m below meth c s₁ Bd.exec hZ Bd.bytes hml0 (findClass_of_methodNamed Bd.named) (name_of_methodNamed Bd.named Bd.method).1 Bd.returns Bd.notSynchronized (Stand.of_body Bd) (by rw [← hh, Bd.state]; rfl)
  exact ⟨s2, o, h1, h2, h3, v, L, h4, h5.1, h6⟩
theorem own_since (s : State) : s.Since s.vm 0 := ⟨State.Warmed39.refl s, fun j p hj hp => absurd (Array.getElem?_eq_some_iff.mp hp).1 (Nat.not_lt.mpr hj)⟩
/-- a string constant, loaded cold: what it spells isn't said -/
theorem Ends.ldcS {f0 : Nat} (X : Stand p l e R s m args below meth c T locs cells slots) (hx : p.tables.exec = Jvm.exec) (hZ : Z.Warmed39 s.vm) {own text : String} {index : Nat} (hown : s.vm.findClass own = some m.cls) (w : (Jvm.Cond.stringLink own index text).before a0 Z = true) (wS : ∀ a ∈ Bundle.stringAtoms, a.before a0 Z = true)
    (eT : T.heap = h) (hf : f0 ≤ h.size) {pc : Nat} {Ls : Array Slot} {st : List Value} (hd : decode c.code pc = .ok (.ldc index, 2)) (n : Nat) (hn : 4 * text.toList.length ≤ n) (hbig : n ≤ 536870912) (hc : cells + 2 ≤ R.cells) (hl : slots + (n + 4) ≤ R.slots)
    (k : ∀ s' T' h' a, Stand p l e R s' m args below meth c T' locs (cells + 2) (slots + (n + 4)) → T'.heap = h' → Ext h h' → Z.Warmed39 s'.vm → s'.vm.findClass own = some m.cls → Ends (some F) p e below s' (Fl Qb h'.size) kc ks T' (mkF m (pc + 2) Ls (.ref a :: st))) : Ends (some F) p e below s (Fl Qb f0) kc ks T (mkF m pc Ls st) := by
  obtain ⟨a, T', h', k1, X', e', E, hS, hk1, hZ', hown', st'⟩ := Jvm.RoadKit.ldcS (s := s) (vm0 := s.vm) X hx hZ hown w wS eT (own_since s) (Nat.zero_le _) (g := mkF m pc Ls st) rfl hd hn hbig hc hl
  exact Ends.rebase hS hk1 (Nat.le_trans hf E.1) (Ends.go st' (k _ T' h' a X' e' E hZ' hown'))
/-- a static call by its contract, wide -/
theorem Ends.callSW {f0 : Nat} (X : Stand p l e R s m args below meth c T locs cells slots) (hx : p.tables.exec = Jvm.exec) (hZ : Z.Warmed39 s.vm) {own : String} (hown : s.vm.findClass own = some m.cls) {index : Nat} {y : MethodName} {bytes : ByteArray} {maxL : Nat} {rt : Option FieldType} {rm : Room} {Q : Option Value → Heap → List Loc → Prop}
    (w1 : (Jvm.Cond.methodLink own index y).before a0 Z = true) (w2 : (Jvm.Cond.static y).before a0 Z = true) (w3 : (Jvm.Cond.initialized y.cls).before a0 Z = true) (w4 : (Jvm.Cond.code y bytes maxL rt).before a0 Z = true) (hy : y.cls ≠ "java/lang/invoke/MethodHandle" ∧ y.cls ≠ "java/lang/invoke/VarHandle")
    {argsL rest : List Value} (eT : T.heap = h) (hf0 : f0 ≤ h.size) (M : ConW l y bytes maxL rt [] rm argsL.toArray Z h Q) {W pc : Nat} (hf : rm.frames + 1 ≤ R.frames) (hl : W + (maxL + 11) + rm.locals ≤ R.locals) {Ls : Array Slot} (hsz : Ls.size = c.maxLocals)
    (hlen : ∀ sig, parseMethodDescriptor y.desc = some sig → argsL.length = sig.parameters.length) (hW : (rest.map fun v => v.category).sum ≤ W) (hd : decode c.code pc = .ok (.invokestatic index, 3)) (hc : cells + rm.cells ≤ R.cells) (hs : slots + rm.slots ≤ R.slots) {st : List Value} (hst : st = argsL.reverse ++ rest)
    (k : ∀ s' T' v L, Stand p l e R s' m args below meth c T' (locs ++ L) (cells + rm.cells) (slots + rm.slots) → Z.Warmed39 s'.vm → s'.vm.findClass own = some m.cls → Q v T'.heap L → Ends (some F) p e below s' (Fl Qb T'.heap.size) kc ks T' (mkF m (pc + 3) Ls (v.toList ++ rest))) :
    Ends (some F) p e below s (Fl Qb f0) kc ks T (mkF m pc Ls st) := by
  obtain ⟨v, vm1, ⟨T1, L1, k1, n1⟩, -, X1, hS, hgr, ⟨Lc, hQ, q1, q2, q3⟩, st1⟩ := Jvm.RoadKit.callSS X hx hown (mvT hZ w1) (mvT hZ w2) (mvT hZ w3) (mvT hZ w4) hy (backOfS (W := W) M hZ w4 w3 hf hl) (g := mkF m pc Ls st) rfl hsz (argsL := argsL) (rest := rest) hlen hst (by show 2 * 0 + _ ≤ _; omega) hd (fun _ _ => ⟨rfl, eT, hc, hs⟩)
  dsimp only [Pt.U, Pt.locs, Pt.cells, Pt.slots] at X1 q1 q2 q3 st1 hQ hS hgr
  subst q1 q2 q3
  refine Ends.rebase hS (Nat.le_refl _) (Nat.le_trans hf0 (by rw [← eT]; exact hgr)) (Ends.go (fun t kt => st1.trans kt) (k _ T1 v Lc X1 (State.Warmed39.trans (t := s) hZ hS.1) (by show T1.vm.findClass own = _; rw [hS.1.alike.findClass]; exact hown) hQ))
/-- a constructor by its contract, wide -/
theorem Ends.callIW {f0 : Nat} (X : Stand p l e R s m args below meth c T locs cells slots) (hx : p.tables.exec = Jvm.exec) (hZ : Z.Warmed39 s.vm) {own : String} (hown : s.vm.findClass own = some m.cls) {index : Nat} {y : MethodName} {bytes : ByteArray} {maxL : Nat} {rm : Room} {Q : Option Value → Heap → List Loc → Prop}
    (w1 : (Jvm.Cond.methodLink own index y).before a0 Z = true) (w2 : (Jvm.Cond.instanceMethod y).before a0 Z = true) (w3 : (Jvm.Cond.initialized y.cls).before a0 Z = true) (w4 : (Jvm.Cond.code y bytes maxL none).before a0 Z = true) (hyn : y.name = "<init>") (hy : y.cls ≠ "java/lang/invoke/MethodHandle" ∧ y.cls ≠ "java/lang/invoke/VarHandle")
    {b : Addr} {argsL rest : List Value} (eT : T.heap = h) (hf0 : f0 ≤ h.size) (M : ConW l y bytes maxL none [] rm (.ref b :: argsL).toArray Z h Q) {W pc : Nat} (hf : rm.frames + 1 ≤ R.frames) (hl : W + (maxL + 11) + rm.locals ≤ R.locals) {Ls : Array Slot} (hsz : Ls.size = c.maxLocals)
    (hlen : ∀ sig, parseMethodDescriptor y.desc = some sig → argsL.length = sig.parameters.length) (hW : (rest.map fun v => v.category).sum ≤ W) (hd : decode c.code pc = .ok (.invokespecial index, 3)) (hc : cells + rm.cells ≤ R.cells) (hs : slots + rm.slots ≤ R.slots) {st : List Value} (hst : st = argsL.reverse ++ .ref b :: rest)
    (k : ∀ s' T' v L, Stand p l e R s' m args below meth c T' (locs ++ L) (cells + rm.cells) (slots + rm.slots) → Z.Warmed39 s'.vm → s'.vm.findClass own = some m.cls → Q v T'.heap L → Ends (some F) p e below s' (Fl Qb T'.heap.size) kc ks T' (mkF m (pc + 3) Ls (v.toList ++ rest))) :
    Ends (some F) p e below s (Fl Qb f0) kc ks T (mkF m pc Ls st) := by
  obtain ⟨v, vm1, ⟨T1, L1, k1, n1⟩, -, X1, hS, hgr, ⟨Lc, hQ, q1, q2, q3⟩, st1⟩ := X.specialBackS hx hyn hown (mvT hZ w1) (mvT hZ w2) (mvT hZ w4) hy (backOfS (W := W) M hZ w4 w3 hf hl) (g := mkF m pc Ls st) rfl hsz (Steps.refl _) (a := b) (argsL := argsL) (rest := rest) hlen hst (by show 2 * 0 + _ ≤ _; omega) hd (fun _ _ => ⟨rfl, eT, hc, hs⟩)
  dsimp only [Pt.U, Pt.locs, Pt.cells, Pt.slots] at X1 q1 q2 q3 st1 hQ hS hgr
  subst q1 q2 q3
  refine Ends.rebase hS (Nat.le_refl _) (Nat.le_trans hf0 (by rw [← eT]; exact hgr)) (Ends.go (fun t kt => st1.trans kt) (k _ T1 v Lc X1 (State.Warmed39.trans (t := s) hZ hS.1) (by show T1.vm.findClass own = _; rw [hS.1.alike.findClass]; exact hown) hQ))
/-- instanceof and checkcast -/
theorem Ends.instY (X : Stand p l e R s m args below meth c T locs cells slots) (hx : p.tables.exec = Jvm.exec) (hZ : Z.Warmed39 s.vm) {own K : String} {index : Nat} (hown : s.vm.findClass own = some m.cls) (w : (Jvm.Cond.classLink own index K).before a0 Z = true) (eT : T.heap = h) {a : Addr} (F : Ins Z h a K true) {pc : Nat} {Ls : Array Slot} {st : List Value} (hd : decode c.code pc = .ok (.instanceof index, 3))
    (k : ∀ T', Stand p l e R s m args below meth c T' locs cells slots → T'.heap = h → Ends wd p e below s Qb kc ks T' (mkF m (pc + 3) Ls (.int 1 :: st))) : Ends wd p e below s Qb kc ks T (mkF m pc Ls (.ref a :: st)) := by
  obtain ⟨T', X', e', st'⟩ := Jvm.RoadKit.instY X hx hZ hown w eT F (g := mkF m pc Ls (.ref a :: st)) rfl rfl hd
  exact Ends.go st' (k T' X' e')
theorem Ends.instNo (X : Stand p l e R s m args below meth c T locs cells slots) (hx : p.tables.exec = Jvm.exec) (hZ : Z.Warmed39 s.vm) {own K C : String} {index : Nat} (hown : s.vm.findClass own = some m.cls) (w : (Jvm.Cond.classLink own index K).before a0 Z = true) (eT : T.heap = h) {a : Addr} (E : Exa Z h a C) (F : ∃ c t, Z.vm.findClass C = some c ∧ Z.vm.findClass K = some t ∧ Z.vm.assignable c t = false) {pc : Nat} {Ls : Array Slot} {st : List Value} (hd : decode c.code pc = .ok (.instanceof index, 3))
    (k : ∀ T', Stand p l e R s m args below meth c T' locs cells slots → T'.heap = h → Ends wd p e below s Qb kc ks T' (mkF m (pc + 3) Ls (.int 0 :: st))) : Ends wd p e below s Qb kc ks T (mkF m pc Ls (.ref a :: st)) := by
  obtain ⟨T', X', e', st'⟩ := Jvm.RoadKit.instNo X hx hZ hown w eT E F (g := mkF m pc Ls (.ref a :: st)) rfl rfl hd
  exact Ends.go st' (k T' X' e')
theorem Ends.castY (X : Stand p l e R s m args below meth c T locs cells slots) (hx : p.tables.exec = Jvm.exec) (hZ : Z.Warmed39 s.vm) {own K : String} {index : Nat} (hown : s.vm.findClass own = some m.cls) (w : (Jvm.Cond.classLink own index K).before a0 Z = true) (eT : T.heap = h) {a : Addr} (F : Ins Z h a K true) {pc : Nat} {Ls : Array Slot} {st : List Value} (hd : decode c.code pc = .ok (.checkcast index, 3))
    (k : ∀ T', Stand p l e R s m args below meth c T' locs cells slots → T'.heap = h → Ends wd p e below s Qb kc ks T' (mkF m (pc + 3) Ls (.ref a :: st))) : Ends wd p e below s Qb kc ks T (mkF m pc Ls (.ref a :: st)) := by
  obtain ⟨T', X', e', st'⟩ := Jvm.RoadKit.castY X hx hZ hown w eT F (g := mkF m pc Ls (.ref a :: st)) rfl rfl hd
  exact Ends.go st' (k T' X' e')
theorem Ends.instNull (X : Stand p l e R s m args below meth c T locs cells slots) (hx : p.tables.exec = Jvm.exec) {index pc : Nat} {Ls : Array Slot} {st : List Value} (hd : decode c.code pc = .ok (.instanceof index, 3)) (k : Ends wd p e below s Qb kc ks T (mkF m (pc + 3) Ls (.int 0 :: st))) : Ends wd p e below s Qb kc ks T (mkF m pc Ls (.null :: st)) :=
  Ends.go (fun t => X.instanceofNull hx (g := mkF m pc Ls (.null :: st)) rfl rfl hd t) k
theorem E.acmpY {x y : Value} {cd : ClassFile.ACond} {o : Int} {pc q : Nat} {Ls : Array Slot} {st : List Value} (X : Stand p l e R s m args below meth c T locs cells slots) (hx : p.tables.exec = Jvm.exec) (hd : decode c.code pc = .ok (.if_acmp cd o, 3)) (h1 : x.isRef = true) (h2 : y.isRef = true) (hc : Jvm.Free.XT.acmp cd x y = true) (k' : Ends wd p e below s Qb kc ks T (mkF m q Ls st)) (ho : 0 ≤ (pc : Int) + o := by decide) (hq : ((pc : Int) + o).toNat = q := by decide) : Ends wd p e below s Qb kc ks T (mkF m pc Ls (y :: x :: st)) :=
  Ends.go (fun t => Jvm.Free.XT.acmpYes X.here hx rfl rfl hd rfl h1 h2 hc ho hq) k'
theorem E.acmpN {x y : Value} {cd : ClassFile.ACond} {o : Int} {pc q : Nat} {Ls : Array Slot} {st : List Value} (X : Stand p l e R s m args below meth c T locs cells slots) (hx : p.tables.exec = Jvm.exec) (hd : decode c.code pc = .ok (.if_acmp cd o, 3)) (h1 : x.isRef = true) (h2 : y.isRef = true) (hc : Jvm.Free.XT.acmp cd x y = false) (k' : Ends wd p e below s Qb kc ks T (mkF m q Ls st)) (hq : pc + 3 = q := by rfl) : Ends wd p e below s Qb kc ks T (mkF m pc Ls (y :: x :: st)) := by
  subst hq; exact Ends.go (fun t => Jvm.Free.XT.acmpNo X.here hx rfl hd rfl h1 h2 hc) k'
theorem own_notA {C S K : String} {n : Nat} (w : (Jvm.Cond.superclass C S).before a0 Z = true) (w2 : (Jvm.Cond.noSuperclass S).before a0 Z = true) (wi : (Jvm.Cond.instantiable K n).before a0 Z = true) (h1 : C ≠ K) (h2 : S ≠ K) : ∃ c t, Z.vm.findClass C = some c ∧ Z.vm.findClass K = some t ∧ Z.vm.assignable c t = false := by
  obtain ⟨t, kt, f1, f2, f3, f4, -, -⟩ := Cond.instantiable_spec wi
  obtain ⟨c, h0⟩ := found_sup w
  obtain ⟨p, k, kp, g1, g2, g3, g4, g5, -, g7⟩ := Cond.superclass_spec h0 w
  obtain ⟨c', k', q1, q2, q3, -, -⟩ := Cond.noSuperclass_spec w2
  cases q1.symm.trans g1
  have ne1 := ids_ne h0 f1 h1
  have ne2 := ids_ne g1 f1 h2
  have hi : kt.isInterface = false := by simp only [Bool.or_eq_false_iff] at f4; exact f4.1
  refine ⟨c, t, h0, f1, ?_⟩
  show Z.vm.assignableAux (255 + 1) c t = false
  have n3 : ∀ fuel, Z.vm.isSubclassAux fuel c t = false := fun fuel => by
    cases fuel with
    | zero => rfl
    | succ f =>
      cases f with
      | zero => simp [Vm.isSubclassAux, ne1, g2, g4]
      | succ f => simp [Vm.isSubclassAux, ne1, ne2, g2, g4, q2, q3]
  simp [Vm.assignableAux, ne1, g2, f2, g5, f3, hi, Vm.isSubclass, n3]
theorem Ary.len {a : Addr} {ty : FieldType} {vs : List Value} (A : Ary Z h a ty vs) : vs.length < 2 ^ 31 := by obtain ⟨_, _, _, q⟩ := A; exact q
/-! held: the string constants of EL say their text (the library's CHv, CHr) -/
abbrev ConH (l : Launch) (y : MethodName) (code : ByteArray) (ml : Nat) (rt : Option FieldType) (ws : List Jvm.Cond) (rm : Room) (as' : Array Value) (Z : State) (h0 : Heap) (EL : List (String × Nat)) (Q : Option Value → Heap → List Loc → Prop) : Prop :=
  MetFree l y (head1 (Jvm.Cond.code y code ml rt :: ws) rm) (fun a U => a = as' ∧ Z.Warmed39 U.vm ∧ U.heap = h0 ∧ CHv Z EL U.vm h0) (fun _ _ _ _ _ => True) (fun _ U o U' => ∃ v L, o = .returned v ∧ Q v U'.heap L ∧ CHr Z EL U.vm U.heap U'.vm U'.heap ∧ ReturnedEndW U o U' L rm.cells rm.slots)
theorem ConH.of {y : MethodName} {code : ByteArray} {ml : Nat} {rt : Option FieldType} {ws : List Jvm.Cond} {rm : Room} {as' : Array Value} {h0 : Heap} {EL : List (String × Nat)} {Q : Option Value → Heap → List Loc → Prop} (hp : plainFor y = true)
    (k : ∀ (p : Program) (e : Env) (s : State) (m : MethodId) (below : List Frame) (meth : Method) (c : Code) (s₁ : State) (vm0 : Vm), CHr Z EL vm0 h0 s.vm h0 → p.tables.exec = Jvm.exec → Z.Warmed39 s.vm → c.code = code → c.maxLocals = ml → s.vm.findClass y.cls = some m.cls → meth.name = y.name → meth.sig.returnType = rt → meth.locks = false →
      Stand p l e rm s m as' below meth c s₁ [] 0 0 → s₁.heap = h0 → Ends (some (CHr Z EL vm0 h0)) p e below s (Fl Q 0) rm.cells rm.slots s₁ (entryFrame m as' ml)) : ConH l y code ml rt ws rm as' Z h0 EL Q := by
  refine MetFree.of_bodySF hp hisR ?_
  intro p e s m args below meth c s₁ Bd hml0 hP hK
  obtain ⟨rfl, hZ, hh, hC⟩ := hP
  obtain ⟨s2, o, h1, h2, h3, v, L, h4, h5, h6, h7⟩ := k p e s m below meth c s₁ s.vm (CHr.refl hC) Bd.exec hZ Bd.bytes hml0 (findClass_of_methodNamed Bd.named) (name_of_methodNamed Bd.named Bd.method).1 Bd.returns Bd.notSynchronized (Stand.of_body Bd) (by rw [← hh, Bd.state]; rfl)
  exact ⟨s2, o, h1, h2, h3, v, L, h4, h5.1, by rw [hh]; exact h7, h6⟩
theorem own_chret {EL : List (String × Nat)} {vm0 : Vm} {h0 : Heap} (X : Stand p l e R s m args below meth c T locs cells slots) (hZ : Z.Warmed39 s.vm) (w : EW Z a0 EL) (H : CHr Z EL vm0 h0 s.vm h) (eT : T.heap = h) : CHr Z EL vm0 h0 T.vm T.heap := by
  rw [eT]; exact H.trans (CHv.at (s := s) (vm0 := s.vm) X hZ w H.1)
/-- a string constant, loaded cold, not read -/
theorem Ends.ldcO {f0 : Nat} {EL : List (String × Nat)} (X : Stand p l e R s m args below meth c T locs cells slots) (hx : p.tables.exec = Jvm.exec) (hZ : Z.Warmed39 s.vm) {own text : String} {index : Nat} (hown : s.vm.findClass own = some m.cls) (w : (Jvm.Cond.stringLink own index text).before a0 Z = true) (wS : ∀ a ∈ Bundle.stringAtoms, a.before a0 Z = true)
    (eT : T.heap = h) (hf : f0 ≤ h.size) (hEL : EW Z a0 EL) (H : CHv Z EL s.vm h) {pc : Nat} {Ls : Array Slot} {st : List Value} (hd : decode c.code pc = .ok (.ldc index, 2)) (n : Nat) (hn : 4 * text.toList.length ≤ n) (hbig : n ≤ 536870912) (hc : cells + 2 ≤ R.cells) (hl : slots + (n + 4) ≤ R.slots)
    (k : ∀ s' T' h' a, Stand p l e R s' m args below meth c T' locs (cells + 2) (slots + (n + 4)) → T'.heap = h' → Ext h h' → CHr Z EL s.vm h s'.vm h' → Z.Warmed39 s'.vm → s'.vm.findClass own = some m.cls → Ends (some F) p e below s' (Fl Qb h'.size) kc ks T' (mkF m (pc + 2) Ls (.ref a :: st))) : Ends (some F) p e below s (Fl Qb f0) kc ks T (mkF m pc Ls st) := by
  obtain ⟨a, T', h', k1, X', e', E, hS, hk1, hZ', hown', hC, -, st'⟩ := ldcOH (s := s) (vm0 := s.vm) X hx hZ hown w wS eT (own_since s) (Nat.zero_le _) hEL H (g := mkF m pc Ls st) rfl hd hn hbig hc hl
  exact Ends.rebase hS hk1 (Nat.le_trans hf E.1) (Ends.go st' (k _ T' h' a X' e' E hC hZ' hown'))
theorem Ary.of_arv {a : Addr} {k : ClassId} {ty : FieldType} {z : Int32} {vs : List Value} {d : Value} (A : Arv Z h a k ty z vs d) (hz : z.toNatClampNeg = vs.length) : Ary Z h a ty vs := by
  obtain ⟨c, A, -, h1, h2, h3, -⟩ := A
  have hl : vs.length < 2 ^ 31 := by rw [← hz]; exact (back32 h2).2
  refine ⟨c, A, ?_, hl⟩
  refine Array.ext' ?_
  refine List.ext_getElem? fun i => ?_
  rw [Array.getElem?_toList]
  by_cases q : i < c.slots.size
  · rw [h3 i q]
    have q' : i < vs.length := by omega
    simp [List.getD, q']
  · rw [Array.getElem?_eq_none (by omega)]
    have q' : vs.length ≤ i := by omega
    simp [q']
/-- a string constant of EL, read -/
theorem Ends.ldcR {f0 : Nat} {EL : List (String × Nat)} (X : Stand p l e R s m args below meth c T locs cells slots) (hx : p.tables.exec = Jvm.exec) (hZ : Z.Warmed39 s.vm) {own text : String} {index : Nat} (hown : s.vm.findClass own = some m.cls) (w : (Jvm.Cond.stringLink own index text).before a0 Z = true) (wS : ∀ a ∈ Bundle.stringAtoms, a.before a0 Z = true)
    (eT : T.heap = h) (hf : f0 ≤ h.size) (hEL : EW Z a0 EL) (hmem : (own, index) ∈ EL) (H : CHv Z EL s.vm h) {vs : List Value} {z : Int32} (ht : (∀ c ∈ text.toList, c.toNat < 256) ∧ text.toList.map (fun c => Value.int (Jvm.Lit.byteI c.toNat.toUInt16)) = vs) (hz : ¬ z < 0) (hzl : z.toNatClampNeg = vs.length)
    {pc : Nat} {Ls : Array Slot} {st : List Value} (hd : decode c.code pc = .ok (.ldc index, 2)) (n : Nat) (hn : 4 * text.toList.length ≤ n) (hbig : n ≤ 536870912) (hc : cells + 2 ≤ R.cells) (hl : slots + (n + 4) ≤ R.slots)
    (k : ∀ s' T' h' a b, Stand p l e R s' m args below meth c T' locs (cells + 2) (slots + (n + 4)) → T'.heap = h' → Ext h h' → CHr Z EL s.vm h s'.vm h' → Z.Warmed39 s'.vm → s'.vm.findClass own = some m.cls → Exa Z h' a "java/lang/String" → Fld Z h' a "java/lang/String" "coder" "B" (.int 0) → Fld Z h' a "java/lang/String" "value" "[B" (.ref b) → Ary Z h' b .byte vs → (∀ x, Safe Z EL s'.vm h' x → x ≠ a ∧ x ≠ b) →
      Ends (some F) p e below s' (Fl Qb h'.size) kc ks T' (mkF m (pc + 2) Ls (.ref a :: st))) : Ends (some F) p e below s (Fl Qb f0) kc ks T (mkF m pc Ls st) := by
  obtain ⟨a, T', h', k1, b, kk, X', e', E, hS, hk1, hZ', hown', A1, A2, A3, A4, -, -, hC, -, hsafe, st'⟩ := ldcCH (s := s) (vm0 := s.vm) X hx hZ hown w wS eT (own_since s) (Nat.zero_le _) hEL hmem H ht hz hzl (g := mkF m pc Ls st) rfl hd hn hbig hc hl
  exact Ends.rebase hS hk1 (Nat.le_trans hf E.1) (Ends.go st' (k _ T' h' a b X' e' E hC hZ' hown' A1 A2 A3 (Ary.of_arv A4 hzl) hsafe))

theorem Ends.callSH {f0 : Nat} {EL : List (String × Nat)} (X : Stand p l e R s m args below meth c T locs cells slots) (hx : p.tables.exec = Jvm.exec) (hZ : Z.Warmed39 s.vm) {own : String} (hown : s.vm.findClass own = some m.cls) {index : Nat} {y : MethodName} {bytes : ByteArray} {maxL : Nat} {rt : Option FieldType} {rm : Room} {Q : Option Value → Heap → List Loc → Prop}
    (w1 : (Jvm.Cond.methodLink own index y).before a0 Z = true) (w2 : (Jvm.Cond.static y).before a0 Z = true) (w3 : (Jvm.Cond.initialized y.cls).before a0 Z = true) (w4 : (Jvm.Cond.code y bytes maxL rt).before a0 Z = true) (hy : y.cls ≠ "java/lang/invoke/MethodHandle" ∧ y.cls ≠ "java/lang/invoke/VarHandle")
    {argsL rest : List Value} (eT : T.heap = h) (hf0 : f0 ≤ h.size) (hEL : EW Z a0 EL) (H : CHv Z EL s.vm h) (M : ConH l y bytes maxL rt [] rm argsL.toArray Z h EL Q) {W pc : Nat} (hf : rm.frames + 1 ≤ R.frames) (hl : W + (maxL + 11) + rm.locals ≤ R.locals) {Ls : Array Slot} (hsz : Ls.size = c.maxLocals)
    (hlen : ∀ sig, parseMethodDescriptor y.desc = some sig → argsL.length = sig.parameters.length) (hW : (rest.map fun v => v.category).sum ≤ W) (hd : decode c.code pc = .ok (.invokestatic index, 3)) (hc : cells + rm.cells ≤ R.cells) (hs : slots + rm.slots ≤ R.slots) {st : List Value} (hst : st = argsL.reverse ++ rest)
    (k : ∀ s' T' v L, Stand p l e R s' m args below meth c T' (locs ++ L) (cells + rm.cells) (slots + rm.slots) → CHr Z EL s.vm h s'.vm T'.heap → Z.Warmed39 s'.vm → s'.vm.findClass own = some m.cls → Q v T'.heap L → Ends (some F) p e below s' (Fl Qb T'.heap.size) kc ks T' (mkF m (pc + 3) Ls (v.toList ++ rest))) :
    Ends (some F) p e below s (Fl Qb f0) kc ks T (mkF m pc Ls st) := by
  obtain ⟨v, vm1, ⟨T1, L1, k1, n1⟩, -, X1, hS, hgr, ⟨Lc, hQ, q1, q2, q3, hC⟩, st1⟩ := Jvm.RoadKit.callSS X hx hown (mvT hZ w1) (mvT hZ w2) (mvT hZ w3) (mvT hZ w4) hy (backOfSH (s := s) (vm0 := s.vm) (W := W) M hZ w4 w3 hf hl hEL H) (g := mkF m pc Ls st) rfl hsz (argsL := argsL) (rest := rest) hlen hst (by show 2 * 0 + _ ≤ _; omega) hd (fun _ _ => ⟨rfl, eT, hc, hs⟩)
  dsimp only [Pt.U, Pt.locs, Pt.cells, Pt.slots] at X1 q1 q2 q3 st1 hQ hS hgr hC
  subst q1 q2 q3
  refine Ends.rebase hS (Nat.le_refl _) (Nat.le_trans hf0 (by rw [← eT]; exact hgr)) (Ends.go (fun t kt => st1.trans kt) (k _ T1 v Lc X1 hC (State.Warmed39.trans (t := s) hZ hS.1) (by show T1.vm.findClass own = _; rw [hS.1.alike.findClass]; exact hown) hQ))
theorem Ends.callIH {f0 : Nat} {EL : List (String × Nat)} (X : Stand p l e R s m args below meth c T locs cells slots) (hx : p.tables.exec = Jvm.exec) (hZ : Z.Warmed39 s.vm) {own : String} (hown : s.vm.findClass own = some m.cls) {index : Nat} {y : MethodName} {bytes : ByteArray} {maxL : Nat} {rm : Room} {Q : Option Value → Heap → List Loc → Prop}
    (w1 : (Jvm.Cond.methodLink own index y).before a0 Z = true) (w2 : (Jvm.Cond.instanceMethod y).before a0 Z = true) (w3 : (Jvm.Cond.initialized y.cls).before a0 Z = true) (w4 : (Jvm.Cond.code y bytes maxL none).before a0 Z = true) (hyn : y.name = "<init>") (hy : y.cls ≠ "java/lang/invoke/MethodHandle" ∧ y.cls ≠ "java/lang/invoke/VarHandle")
    {b : Addr} {argsL rest : List Value} (eT : T.heap = h) (hf0 : f0 ≤ h.size) (hEL : EW Z a0 EL) (H : CHv Z EL s.vm h) (M : ConH l y bytes maxL none [] rm (.ref b :: argsL).toArray Z h EL Q) {W pc : Nat} (hf : rm.frames + 1 ≤ R.frames) (hl : W + (maxL + 11) + rm.locals ≤ R.locals) {Ls : Array Slot} (hsz : Ls.size = c.maxLocals)
    (hlen : ∀ sig, parseMethodDescriptor y.desc = some sig → argsL.length = sig.parameters.length) (hW : (rest.map fun v => v.category).sum ≤ W) (hd : decode c.code pc = .ok (.invokespecial index, 3)) (hc : cells + rm.cells ≤ R.cells) (hs : slots + rm.slots ≤ R.slots) {st : List Value} (hst : st = argsL.reverse ++ .ref b :: rest)
    (k : ∀ s' T' v L, Stand p l e R s' m args below meth c T' (locs ++ L) (cells + rm.cells) (slots + rm.slots) → CHr Z EL s.vm h s'.vm T'.heap → Z.Warmed39 s'.vm → s'.vm.findClass own = some m.cls → Q v T'.heap L → Ends (some F) p e below s' (Fl Qb T'.heap.size) kc ks T' (mkF m (pc + 3) Ls (v.toList ++ rest))) :
    Ends (some F) p e below s (Fl Qb f0) kc ks T (mkF m pc Ls st) := by
  obtain ⟨v, vm1, ⟨T1, L1, k1, n1⟩, -, X1, hS, hgr, ⟨Lc, hQ, q1, q2, q3, hC⟩, st1⟩ := X.specialBackS hx hyn hown (mvT hZ w1) (mvT hZ w2) (mvT hZ w4) hy (backOfSH (s := s) (vm0 := s.vm) (W := W) M hZ w4 w3 hf hl hEL H) (g := mkF m pc Ls st) rfl hsz (Steps.refl _) (a := b) (argsL := argsL) (rest := rest) hlen hst (by show 2 * 0 + _ ≤ _; omega) hd (fun _ _ => ⟨rfl, eT, hc, hs⟩)
  dsimp only [Pt.U, Pt.locs, Pt.cells, Pt.slots] at X1 q1 q2 q3 st1 hQ hS hgr hC
  subst q1 q2 q3
  refine Ends.rebase hS (Nat.le_refl _) (Nat.le_trans hf0 (by rw [← eT]; exact hgr)) (Ends.go (fun t kt => st1.trans kt) (k _ T1 v Lc X1 hC (State.Warmed39.trans (t := s) hZ hS.1) (by show T1.vm.findClass own = _; rw [hS.1.alike.findClass]; exact hown) hQ))
theorem own_safe_ary {EL : List (String × Nat)} {vm : Vm} {a : Addr} {ty : FieldType} {vs : List Value} (hal : Z.vm.Alike vm) (A : Ary Z h a ty vs) (ht : ty ≠ .byte) : Safe Z EL vm h a := by
  obtain ⟨c, A, -⟩ := A; exact Safe.arr hal A ht
/-- a String under construction isn't a constant's -/
theorem own_safe_blank {EL : List (String × Nat)} {vm : Vm} {a : Addr} (hal : Z.vm.Alike vm) (E : Exa Z h a "java/lang/String") (F : Fld Z h a "java/lang/String" "value" "[B" .null) : Safe Z EL vm h a := fun B => by
  obtain ⟨cell, k, e1, e2, e3, -, -⟩ := E
  obtain ⟨cell', cf, kf, i, f, f1, f2, f3, f4, f5, f6, f7⟩ := F
  cases e1.symm.trans f1
  obtain ⟨p, -, u, a', -, q, -, G, rfl | rfl⟩ := B
  · cases (show h[q.sa]? = some q.sC from G.ha).symm.trans e1
    obtain ⟨cS, ⟨⟨-, -, -, ⟨c1, k1, i1, g1, -⟩, -, -, -, v1, -⟩, -⟩, -⟩ := G
    obtain ⟨k3, g3, -⟩ := State.fieldFound?_setVm (s := Z) hal f2
    have e4 := (show (Wst Z vm h).fieldFound? _ _ _ = _ from g3).symm.trans g1
    simp only [Option.some.injEq, Prod.mk.injEq] at e4
    rw [← e4.2.2.2, f7] at v1
    cases v1
  · cases (show h[q.sd]? = some q.SA from G.hd).symm.trans e1
    obtain ⟨cS, -, -, g, -⟩ := G
    have g' : vm.findClass "[B" = some q.SA.cls := g
    rw [hal.findClass] at g'
    exact ids_ne e2 g' (by decide) rfl
end OwnWide
/-! own text: bytes of chars 0 to 255 -/
theorem own_wr_le {h h' : Heap} {a : Addr} {sl : Nat} {v : Value} (W : Wr h h' a sl v) : h.size ≤ h'.size := by
  obtain ⟨c, -, -, -, rfl⟩ := W; simp
theorem own_nb8 (c : Int32) : nar .byte c.toInt8.toInt32 = c.toInt8.toInt32 := by
  show (c.toInt8.toInt32).toInt8.toInt32 = c.toInt8.toInt32
  simp
/-- a sign of one byte -/
def own_B (z : Int32) : Prop := 0 ≤ z.toInt ∧ z.toInt ≤ 255
theorem own_B_le {z : Int32} (h : own_B z) : ¬ (255 : Int32) < z := by
  rw [Int32.lt_iff_toInt_lt, show (255 : Int32).toInt = 255 from by decide]; have := h.2; omega
theorem own_i8 (z : Int32) : z.toInt8.toInt32.toInt = z.toInt.bmod 256 := by
  rw [Int8.toInt_toInt32]; exact Int32.toInt_toInt8 z
theorem own_b8 {z w : Int32} (h : own_B z) (g : own_B w) : z.toInt8.toInt32 = w.toInt8.toInt32 ↔ z = w := by
  refine ⟨fun q => ?_, fun q => by rw [q]⟩
  have q' := congrArg Int32.toInt q
  rw [own_i8, own_i8] at q'
  refine Int32.toInt_inj.mp ?_
  obtain ⟨h1, h2⟩ := h; obtain ⟨g1, g2⟩ := g
  simp only [Int.bmod] at q'
  split at q' <;> split at q' <;> omega
theorem own_and255 (x : Int32) : own_B (x &&& 255) := by
  have e : (x &&& 255).toInt = ((x.toBitVec.toNat &&& 255 : Nat) : Int) := by
    show ((x &&& 255).toBitVec).toInt = _
    rw [BitVec.toInt_eq_toNat_of_lt]
    · congr 1
    · show 2 * (x.toBitVec.toNat &&& 255) < 2 ^ 32
      have : x.toBitVec.toNat &&& 255 ≤ 255 := Nat.and_le_right
      omega
  have : x.toBitVec.toNat &&& 255 ≤ 255 := Nat.and_le_right
  constructor <;> rw [e] <;> omega
theorem own_nc {z : Int32} (h : own_B z) : z.toUInt32.toUInt16.toUInt32.toInt32 = z := by
  have q : z.toBitVec.toNat ≤ 255 := by
    have e : z.toInt = z.toBitVec.toInt := rfl
    obtain ⟨h1, h2⟩ := h
    rw [e, BitVec.toInt_eq_toNat_cond] at h1 h2
    split at h1 <;> split at h2 <;> omega
  have e : z.toUInt32.toUInt16.toUInt32 = z.toUInt32 := by
    refine UInt32.toNat_inj.mp ?_
    have r : z.toUInt32.toNat ≤ 255 := q
    simp
    omega
  rw [e]; simp
theorem own_ch {x z : Int32} (e : z = (x &&& 255).toUInt32.toUInt16.toUInt32.toInt32) : own_B z ∧ nar .char z = z := by
  have h := own_and255 x
  rw [own_nc h] at e
  subst e
  exact ⟨h, own_nc h⟩
theorem own_succ (i : Nat) : (Int32.ofNat i + (1 : Int32)) = Int32.ofNat (i + 1) := (Int32.ofNat_add i 1).symm
/-- a private method is the one that its own class selects (after the worked proof gauge-weight) -/
theorem own_selp {y : MethodName} {s : State} {args : Array Value} {n : Nat} (hy : y.cls ≠ "java/lang/invoke/MethodHandle" ∧ y.cls ≠ "java/lang/invoke/VarHandle") (wi : (Jvm.Cond.instantiable y.cls n).before args s = true) (wp : (Jvm.Cond.privateMethod y).before args s = true) (wm : (Jvm.Cond.instanceMethod y).before args s = true) : (Jvm.Cond.selects y.cls y y).before args s = true := by
  obtain ⟨mk, me, q1, q2, -, -⟩ := Cond.instanceMethod_spec wm
  obtain ⟨c, k, q3, q4, -, q5, -, -⟩ := Cond.instantiable_spec wi
  have q6 : mk.cls = c := Option.some.inj ((findClass_of_methodNamed q1).symm.trans q3)
  have q7 : s.methodFound? y.cls y.name y.desc = some mk := State.methodFound?_of_named q1 hy
  have q8 : selectMethod {} s.vm c mk = .method mk := selectMethod_private q2 (Cond.privateMethod_at wp mk me q1 q2)
  simp only [Cond.before, Cond.holds, Cond.value, q3, q7, q1, q8, q6, q4]
  simp; exact (Bool.or_eq_false_iff.mp q5).1
/-- a private method, called by invokevirtual -/
theorem Ends.callPr {wd : Option (Vm → Heap → Prop)} {p : Program} {l : Launch} {e : Env} {R : Room} {s : State} {m : MethodId} {args : Array Value} {below : List Frame} {meth : Method} {c : Code} {T : State} {locs : List Loc} {cells slots : Nat} {Z : State} {a0 : Array Value} {h : Heap} {Qb : Option Value → Heap → List Loc → Prop} {kc ks : Nat} (X : Stand p l e R s m args below meth c T locs cells slots) (hx : p.tables.exec = Jvm.exec) (hZ : Z.Warmed39 s.vm) {own C : String} (hown : s.vm.findClass own = some m.cls) {index n : Nat} {y : MethodName} {bytes : ByteArray} {maxL : Nat} {rt : Option FieldType} {rm : Room} {Q : Option Value → Heap → List Loc → Prop}
    (w1 : (Jvm.Cond.methodLink own index y).before a0 Z = true) (w6 : (Jvm.Cond.instanceMethod y).before a0 Z = true) (w5 : (Jvm.Cond.privateMethod y).before a0 Z = true) (wi : (Jvm.Cond.instantiable y.cls n).before a0 Z = true) (w3 : (Jvm.Cond.initialized y.cls).before a0 Z = true) (w4 : (Jvm.Cond.code y bytes maxL rt).before a0 Z = true) (hy : y.cls ≠ "java/lang/invoke/MethodHandle" ∧ y.cls ≠ "java/lang/invoke/VarHandle")
    {b : Addr} {argsL rest : List Value} (eT : T.heap = h) (E : Exa Z h b C) (M : Con l y bytes maxL rt [] rm (.ref b :: argsL).toArray Z h Q) {W pc : Nat} (hf : rm.frames + 1 ≤ R.frames) (hl : W + (maxL + 11) + rm.locals ≤ R.locals) {Ls : Array Slot} (hsz : Ls.size = c.maxLocals)
    (hlen : ∀ sig, parseMethodDescriptor y.desc = some sig → argsL.length = sig.parameters.length) (hW : (rest.map fun v => v.category).sum ≤ W) (hd : decode c.code pc = .ok (.invokevirtual index, 3)) (hc : cells + rm.cells ≤ R.cells) (hs : slots + rm.slots ≤ R.slots) {st : List Value} (hst : st = argsL.reverse ++ .ref b :: rest)
    (k : ∀ T' v L, Stand p l e R s m args below meth c T' (locs ++ L) (cells + rm.cells) (slots + rm.slots) → Q v T'.heap L → Ends wd p e below s Qb kc ks T' (mkF m (pc + 3) Ls (v.toList ++ rest))) :
    Ends wd p e below s Qb kc ks T (mkF m pc Ls st) := by
  obtain ⟨cq, qa, qb⟩ := E.cell
  obtain ⟨v, vm1, ⟨T1, L1, k1, n1⟩, -, X1, ⟨Lc, hQ, q1, q2, q3⟩, st1⟩ := X.privateBack hx (y := y) hown (mvT hZ w1) (mvT hZ w6) (mvT hZ (own_selp hy wi w5 w6)) (Cond.privateMethod_at (mvP hZ w5 (args := #[]))) (mvT hZ w4) hy (backOf (W := W) M hZ w4 w3 hf hl) (g := mkF m pc Ls st) rfl hsz (Steps.refl _) (a := b) (by rw [eT]; exact qa) qb (argsL := argsL) (rest := rest) hlen hst (by show 2 * 0 + _ ≤ _; omega) hd (fun _ _ => ⟨rfl, eT, hc, hs⟩)
  dsimp only [Pt.U, Pt.locs, Pt.cells, Pt.slots] at X1 q1 q2 q3 st1 hQ
  subst q1 q2 q3
  exact Ends.go (fun t kt => st1.trans kt) (k T1 v Lc X1 hQ)
/-! own text: numbers as naturals -/
theorem own_addN (a b : Nat) : (Int32.ofNat a + Int32.ofNat b) = Int32.ofNat (a + b) := (Int32.ofNat_add a b).symm
theorem own_subN {a b : Nat} (h : a + b < 2 ^ 31) : (Int32.ofNat (a + b) - Int32.ofNat a) = Int32.ofNat b := by
  rw [Int32.ofNat_add, Int32.add_comm]; exact Int32.add_sub_cancel _ _
theorem own_ltN {a b : Nat} (ha : a < 2 ^ 31) (hb' : b < 2 ^ 31) : Int32.ofNat a < Int32.ofNat b ↔ a < b := by
  rw [Int32.lt_iff_toInt_lt, own_ofNat ha, own_ofNat hb']; omega
theorem own_eqN {a b : Nat} (ha : a < 2 ^ 31) (hb' : b < 2 ^ 31) : Int32.ofNat a = Int32.ofNat b ↔ a = b := by
  refine ⟨fun q => ?_, fun q => by rw [q]⟩
  have := congrArg Int32.toInt q
  rw [own_ofNat ha, own_ofNat hb'] at this; omega
theorem own_div8 {n : Nat} (h : n < 8) : Int32.ofNat n / (8 : Int32) + (1 : Int32) = (1 : Int32) := by
  have : n = 0 ∨ n = 1 ∨ n = 2 ∨ n = 3 ∨ n = 4 ∨ n = 5 ∨ n = 6 ∨ n = 7 := by omega
  rcases this with rfl | rfl | rfl | rfl | rfl | rfl | rfl | rfl <;> decide
theorem own_fp1 : FP.dcmp (FP.i2d 1) (FP.dmul (FP.i2d 16) 4604930618986332160) = FP.dcmp (FP.i2d 1) (FP.i2d 12) := by decide +kernel
theorem own_shr0 (z : Int32) : z >>> ((0 : Int32) &&& 31) = z := by
  rw [show ((0 : Int32) &&& 31) = 0 from by decide]; simp
def own_al : List Int32 := [65, 66, 67, 68, 69, 70, 71, 72, 73, 74, 75, 76, 77, 78, 79, 80, 81, 82, 83, 84, 85, 86, 87, 88, 89, 90, 97, 98, 99, 100, 101, 102, 103, 104, 105, 106, 107, 108, 109, 110, 111, 112, 113, 114, 115, 116, 117, 118, 119, 120, 121, 122, 48, 49, 50, 51, 52, 53, 54, 55, 56, 57, 45, 95]
theorem own_and63 (x : Int32) : ∃ k : Nat, k < 64 ∧ x &&& 63 = Int32.ofNat k := by
  have e : (x &&& 63).toBitVec.toNat = x.toBitVec.toNat &&& 63 := rfl
  have q : x.toBitVec.toNat &&& 63 ≤ 63 := Nat.and_le_right
  refine ⟨x.toBitVec.toNat &&& 63, by omega, ?_⟩
  apply Int32.toBitVec_inj.mp
  apply BitVec.eq_of_toNat_eq
  rw [e]
  simp
/-- a sign of the alphabet: a byte, not ':' -/
def own_A (z : Int32) : Prop := own_B z ∧ nar .char z = z ∧ 45 ≤ z.toInt ∧ z.toInt ≤ 122 ∧ z.toInt ≠ 58
theorem own_al_at {k : Nat} (h : k < 64) : ∃ x, own_al[k]? = some x ∧ own_A ((x &&& (255 : Int32)).toUInt32.toUInt16.toUInt32.toInt32) := by
  have hl : own_al.length = 64 := by decide
  refine ⟨own_al[k]'(by omega), List.getElem?_eq_getElem _, ?_⟩
  have q : ∀ x ∈ own_al, 45 ≤ ((x &&& (255 : Int32)).toUInt32.toUInt16.toUInt32.toInt32).toInt ∧ ((x &&& (255 : Int32)).toUInt32.toUInt16.toUInt32.toInt32).toInt ≤ 122 ∧ ((x &&& (255 : Int32)).toUInt32.toUInt16.toUInt32.toInt32).toInt ≠ 58 := by decide
  exact ⟨(own_ch rfl).1, (own_ch rfl).2, q _ (List.getElem_mem _)⟩
theorem own_all0 {P : Addr → Prop} : ∀ x ∈ ([] : List Addr), P x := fun _ q => nomatch q
theorem own_all1 {P : Addr → Prop} {a : Addr} (h : P a) : ∀ x ∈ [a], P x := fun x q => by cases List.mem_singleton.mp q; exact h
theorem own_ne_ea {Z : State} {h : Heap} {a b : Addr} {C : String} {n : Nat} {a0 : Array Value} {ty : FieldType} {vs : List Value} (w : (Jvm.Cond.instantiable C n).before a0 Z = true) (E : Exa Z h a C) (A : Ary Z h b ty vs) : b ≠ a := fun q => by
  subst q
  obtain ⟨c, k, e1, e2, e3, -⟩ := E
  obtain ⟨c', ⟨f1, ⟨-, k', f2, comp, f3⟩, -⟩, -⟩ := A
  cases e1.symm.trans f1
  obtain ⟨cc, kk, g1, g2, g3, -⟩ := Cond.instantiable_spec w
  cases g1.symm.trans e2
  cases g2.symm.trans f2
  rw [g3] at f3
  cases f3
theorem own_and3 (x : Int32) : x &&& 3 = 0 ∨ x &&& 3 = 1 ∨ x &&& 3 = 2 ∨ x &&& 3 = 3 := by
  have e : (x &&& 3).toBitVec.toNat = x.toBitVec.toNat &&& 3 := rfl
  have q : x.toBitVec.toNat &&& 3 ≤ 3 := Nat.and_le_right
  have f : ∀ n : Nat, (x &&& 3).toBitVec.toNat = n → n < 2 ^ 32 → x &&& 3 = Int32.ofBitVec (BitVec.ofNat 32 n) := fun n hn _ => by
    apply Int32.toBitVec_inj.mp
    apply BitVec.eq_of_toNat_eq
    rw [hn]
    simp
    omega
  have r : (x &&& 3).toBitVec.toNat = 0 ∨ (x &&& 3).toBitVec.toNat = 1 ∨ (x &&& 3).toBitVec.toNat = 2 ∨ (x &&& 3).toBitVec.toNat = 3 := by omega
  rcases r with r | r | r | r
  · exact Or.inl (f _ r (by decide))
  · exact Or.inr (Or.inl (f _ r (by decide)))
  · exact Or.inr (Or.inr (Or.inl (f _ r (by decide))))
  · exact Or.inr (Or.inr (Or.inr (f _ r (by decide))))
theorem own_lt8 {o n : Nat} (hn : n ≤ 3) (h : o + 8 < 2 ^ 31) : Int32.ofNat (o + n) < Int32.ofNat o + (8 : Int32) := by
  rw [show (8 : Int32) = Int32.ofNat 8 from rfl, own_addN, own_ltN (by omega) h]; omega
theorem own_lt8' {n : Nat} (hn : n ≤ 3) : Int32.ofNat n < (8 : Int32) := by
  rw [show (8 : Int32) = Int32.ofNat 8 from rfl, own_ltN (by omega) (by decide)]; omega
/-! own text: what SectionNames holds -/
theorem own_nsA {Z : State} {h : Heap} {a : Addr} {ty : FieldType} {vs : List Value} (A : Ary Z h a ty vs) {cell : Cell} (q : h[a]? = some cell) : cell.vm.isStatics = false := by
  obtain ⟨c, ⟨f1, ⟨f2, -⟩, -⟩, -⟩ := A
  cases f1.symm.trans q
  cases e : cell.vm with
  | statics k => exact absurd e (f2 k)
  | _ => rfl
theorem own_ns4 {Z : State} {h : Heap} {o a b d : Addr} {C : String} {t1 t2 t3 : FieldType} {v1 v2 v3 : List Value} (E : Exa Z h o C) (A : Ary Z h a t1 v1) (B : Ary Z h b t2 v2) (D : Ary Z h d t3 v3) : ∀ x ∈ [o, a, b, d], ∀ cell : Cell, h[x]? = some cell → cell.vm.isStatics = false := fun x m cell q => by
  simp only [List.mem_cons, List.not_mem_nil, or_false] at m
  rcases m with rfl | rfl | rfl | rfl
  · obtain ⟨c1, _, h1, -, -, h4, -⟩ := E
    cases h1.symm.trans q; exact h4
  · exact own_nsA A q
  · exact own_nsA B q
  · exact own_nsA D q
theorem own_all4 {P : Addr → Prop} {a b c d : Addr} (h1 : P a) (h2 : P b) (h3 : P c) (h4 : P d) : ∀ x ∈ [a, b, c, d], P x := fun x q => by
  simp only [List.mem_cons, List.not_mem_nil, or_false] at q
  rcases q with rfl | rfl | rfl | rfl <;> assumption
theorem own_ary_ne {Z : State} {h : Heap} {a b : Addr} {t t' : FieldType} {vs ws : List Value} (A : Ary Z h a t vs) (B : Ary Z h b t' ws) (hl : vs.length ≠ ws.length) : a ≠ b := fun q => by
  subst q
  obtain ⟨c, ⟨f1, -⟩, e1, -⟩ := A
  obtain ⟨d, ⟨f2, -⟩, e2, -⟩ := B
  cases f1.symm.trans f2
  apply hl
  have := e1.symm.trans e2
  have := congrArg Array.size this
  simpa using this
theorem own_exa_ne {Z : State} {h : Heap} {a b : Addr} {C D : String} (E : Exa Z h a C) (F : Exa Z h b D) (hn : C ≠ D) : a ≠ b := fun q => by
  subst q
  obtain ⟨c, k, e1, e2, -⟩ := E
  obtain ⟨d, k', f1, f2, -⟩ := F
  cases e1.symm.trans f1
  exact ids_ne e2 f2 hn rfl
def SNs (bs ss ls : List Int32) (u c : Nat) : Prop :=
  bs.length = 256 ∧ ss.length = 16 ∧ ls.length = 16 ∧ u ≤ 4 * c ∧ ss.countP (fun x => x != -1) ≤ c ∧ ∀ x ∈ ss, x = -1 ∨ ∃ o d : Nat, x = Int32.ofNat o ∧ d ≤ 3 ∧ o + d < u ∧ bs[o + d]? = some 58
theorem own_SN0 : SNs (List.replicate 256 0) (List.replicate 16 (-1)) (List.replicate 16 0) 0 0 :=
  ⟨List.length_replicate .., List.length_replicate .., List.length_replicate .., by decide, by decide, fun x q => Or.inl (List.eq_of_mem_replicate q)⟩
theorem own_SNw {bs ss ls : List Int32} {u c : Nat} (H : SNs bs ss ls u c) {i : Nat} (z : Int32) (hi : u ≤ i) : SNs (bs.set i z) ss ls u c := by
  obtain ⟨h1, h2, h3, h4, h5, h6⟩ := H
  refine ⟨by rw [List.length_set]; exact h1, h2, h3, h4, h5, fun x q => (h6 x q).imp id ?_⟩
  rintro ⟨o, d, r1, r2, r3, r4⟩
  exact ⟨o, d, r1, r2, r3, by rw [List.getElem?_set_ne (by omega)]; exact r4⟩
theorem own_SNa {bs ss ls : List Int32} {u c : Nat} (H : SNs bs ss ls u c) {n k : Nat} (y : Int32) (hn : n ≤ 3) (h58 : bs[u + n]? = some 58) (hk : ss[k]? = some (-1)) : SNs bs (ss.set k (Int32.ofNat u)) (ls.set k y) (u + n + 1) (c + 1) := by
  obtain ⟨h1, h2, h3, h4, h5, h6⟩ := H
  obtain ⟨hk1, hk2⟩ := List.getElem?_eq_some_iff.mp hk
  refine ⟨h1, by rw [List.length_set]; exact h2, by rw [List.length_set]; exact h3, by omega, ?_, fun x q => ?_⟩
  · rw [List.countP_set hk1]
    split <;> split <;> omega
  · rcases List.mem_or_eq_of_mem_set q with q | rfl
    · refine (h6 x q).imp id ?_
      rintro ⟨o, d, r1, r2, r3, r4⟩
      exact ⟨o, d, r1, r2, by omega, r4⟩
    · exact Or.inr ⟨u, n, rfl, hn, by omega, h58⟩
theorem own_SNe {bs ss ls : List Int32} {u c : Nat} (H : SNs bs ss ls u c) {x : Int32} (hk : x ∈ ss) (hx : ¬ x = -1) : 1 ≤ c := by
  have : 0 < ss.countP (fun x => x != -1) := List.countP_pos_iff.mpr ⟨x, hk, by simpa using hx⟩
  have := H.2.2.2.2.1
  omega
theorem own_SNf {bs ss ls : List Int32} {u c : Nat} (H : SNs bs ss ls u c) (hc : c ≤ 2) : ∃ j : Nat, j < 16 ∧ ss[j]? = some (-1 : Int32) := by
  refine Classical.byContradiction fun q => ?_
  have : ss.countP (fun x => x != -1) = ss.length := List.countP_eq_length.mpr fun x hx => by
    obtain ⟨i, hi, e⟩ := List.getElem_of_mem hx
    have : ¬ x = -1 := fun r => q ⟨i, by rw [← H.2.1]; exact hi, by rw [List.getElem?_eq_getElem hi, e, r]⟩
    simpa using this
  have h2 := H.2.1
  have h5 := H.2.2.2.2.1
  omega
theorem own_and15 (x : Int32) : ∃ k : Nat, k < 16 ∧ x &&& 15 = Int32.ofNat k := by
  have e : (x &&& 15).toBitVec.toNat = x.toBitVec.toNat &&& 15 := rfl
  have q : x.toBitVec.toNat &&& 15 ≤ 15 := Nat.and_le_right
  refine ⟨x.toBitVec.toNat &&& 15, by omega, ?_⟩
  apply Int32.toBitVec_inj.mp
  apply BitVec.eq_of_toNat_eq
  rw [e]
  simp
theorem own_next15 {i : Nat} (h : i < 16) : (Int32.ofNat i + (1 : Int32)) &&& (15 : Int32) = Int32.ofNat ((i + 1) % 16) := by
  have q : ∀ i : Fin 16, (Int32.ofNat i.val + (1 : Int32)) &&& (15 : Int32) = Int32.ofNat ((i.val + 1) % 16) := by decide
  exact q ⟨i, h⟩
theorem own_nn : Jvm.Free.Fl.NoNaN64 (FP.dmul (FP.i2d (16 : Int32)) (4604930618986332160 : UInt64)) := by decide +kernel
theorem own_fpc {c : Nat} (h : c ≤ 2) : ¬ (0 : Int32) < cmpValue (FP.dcmp (FP.i2d (Int32.ofNat (c + 1))) (FP.dmul (FP.i2d (16 : Int32)) (4604930618986332160 : UInt64))) .l := by
  have : c = 0 ∨ c = 1 ∨ c = 2 := by omega
  rcases this with rfl | rfl | rfl <;> decide +kernel
theorem own_used {u n : Nat} : (Int32.ofNat u + Int32.ofNat n) + (1 : Int32) = Int32.ofNat (u + n + 1) := by rw [own_addN, own_succ]
theorem own_set58 {bs : List Int32} {i : Nat} {z : Int32} (h : i < bs.length) : (bs.set i z)[i]? = some z := List.getElem?_set_self h
theorem own_not0 {c : Nat} (h : 1 ≤ c) (h' : c ≤ 3) : ¬ Int32.ofNat c = (0 : Int32) := fun q => by
  have := (own_eqN (a := c) (b := 0) (by omega) (by decide)).mp q
  omega
theorem pn_0 : plainName "java/lang/String" = true := by first | (simp [plainName, overriddenIn]; done) | decide +kernel
theorem pn_1 : plainName "jdk/internal/util/Preconditions" = true := by first | (simp [plainName, overriddenIn]; done) | decide +kernel
theorem pn_2 : plainName "java/lang/StringLatin1" = true := by first | (simp [plainName, overriddenIn]; done) | decide +kernel
theorem pn_3 : plainName "com/example/optpack/optpack/service/SectionNamesIsEmptyPinLaw" = true := by first | (simp [plainName, overriddenIn]; done) | decide +kernel
theorem pn_4 : plainName "java/lang/StringUTF16" = true := by first | (simp [plainName, overriddenIn]; done) | decide +kernel
theorem pn_5 : plainName "java/lang/Long" = true := by first | (simp [plainName, overriddenIn]; done) | decide +kernel
theorem pn_6 : plainName "com/example/optpack/optpack/service/SipHash" = true := by first | (simp [plainName, overriddenIn]; done) | decide +kernel
theorem pn_7 : plainName "java/util/Arrays" = true := by first | (simp [plainName, overriddenIn]; done) | decide +kernel
theorem pn_8 : plainName "com/example/optpack/optpack/service/SectionNames" = true := by first | (simp [plainName, overriddenIn]; done) | decide +kernel
theorem pd_0 : parseMethodDescriptor "()B" = some ⟨[], some .byte⟩ := by decide +kernel
theorem pd_1 : parseMethodDescriptor "(IILjava/util/function/BiFunction;)I" = some ⟨[.int, .int, (.object "java/util/function/BiFunction")], some .int⟩ := by decide +kernel
theorem pd_2 : parseMethodDescriptor "(II)V" = some ⟨[.int, .int], none⟩ := by decide +kernel
theorem pd_3 : parseMethodDescriptor "()Z" = some ⟨[], some .boolean⟩ := by decide +kernel
theorem pd_4 : parseMethodDescriptor "([BI)C" = some ⟨[(.array .byte), .int], some .char⟩ := by decide +kernel
theorem pd_5 : parseMethodDescriptor "(I)C" = some ⟨[.int], some .char⟩ := by decide +kernel
theorem pd_6 : parseMethodDescriptor "([CIILjava/lang/Void;)V" = some ⟨[(.array .char), .int, .int, (.object "java/lang/Void")], none⟩ := by decide +kernel
theorem pd_7 : parseMethodDescriptor "([CI[BII)I" = some ⟨[(.array .char), .int, (.array .byte), .int, .int], some .int⟩ := by decide +kernel
theorem pd_8 : parseMethodDescriptor "([CII)[B" = some ⟨[(.array .char), .int, .int], some (.array .byte)⟩ := by decide +kernel
theorem pd_9 : parseMethodDescriptor "([BI)B" = some ⟨[(.array .byte), .int], some .byte⟩ := by decide +kernel
theorem pd_10 : parseMethodDescriptor "([C)V" = some ⟨[(.array .char)], none⟩ := by decide +kernel
theorem pd_11 : parseMethodDescriptor "(II)I" = some ⟨[.int, .int], some .int⟩ := by decide +kernel
theorem pd_12 : parseMethodDescriptor "([BIII)J" = some ⟨[(.array .byte), .int, .int, .int], some .long⟩ := by decide +kernel
theorem pd_13 : parseMethodDescriptor "(JI)J" = some ⟨[.long, .int], some .long⟩ := by decide +kernel
theorem pd_14 : parseMethodDescriptor "([II)V" = some ⟨[(.array .int), .int], none⟩ := by decide +kernel
theorem pd_15 : parseMethodDescriptor "(I)[I" = some ⟨[.int], some (.array .int)⟩ := by decide +kernel
theorem pd_16 : parseMethodDescriptor "(JJ[BII)J" = some ⟨[.long, .long, (.array .byte), .int, .int], some .long⟩ := by decide +kernel
theorem pd_17 : parseMethodDescriptor "(I)I" = some ⟨[.int], some .int⟩ := by decide +kernel
theorem pd_18 : parseMethodDescriptor "(II)Z" = some ⟨[.int, .int], some .boolean⟩ := by decide +kernel
theorem pd_19 : parseMethodDescriptor "()I" = some ⟨[], some .int⟩ := by decide +kernel
theorem pd_20 : parseMethodDescriptor "(I)V" = some ⟨[.int], none⟩ := by decide +kernel
theorem pd_21 : parseMethodDescriptor "()V" = some ⟨[], none⟩ := by decide +kernel
theorem pd_22 : parseMethodDescriptor "(I)Ljava/lang/String;" = some ⟨[.int], some (.object "java/lang/String")⟩ := by decide +kernel
theorem pd_23 : parseMethodDescriptor "(Ljava/lang/String;I)I" = some ⟨[(.object "java/lang/String"), .int], some .int⟩ := by decide +kernel
theorem d1_0 : decode prog_73_method_1_code 0 = .ok (.aload_n 0, 1) := by decide +kernel
theorem d1_1 : decode prog_73_method_1_code 1 = .ok (.invokespecial 1, 3) := by decide +kernel
theorem d1_4 : decode prog_73_method_1_code 4 = .ok (.aload_n 0, 1) := by decide +kernel
theorem d1_5 : decode prog_73_method_1_code 5 = .ok (.sipush 256, 3) := by decide +kernel
theorem d1_8 : decode prog_73_method_1_code 8 = .ok (.newarray .byte, 2) := by decide +kernel
theorem d1_10 : decode prog_73_method_1_code 10 = .ok (.putfield 7, 3) := by decide +kernel
theorem d1_13 : decode prog_73_method_1_code 13 = .ok (.aload_n 0, 1) := by decide +kernel
theorem d1_14 : decode prog_73_method_1_code 14 = .ok (.bipush 16, 2) := by decide +kernel
theorem d1_16 : decode prog_73_method_1_code 16 = .ok (.invokestatic 13, 3) := by decide +kernel
theorem d1_19 : decode prog_73_method_1_code 19 = .ok (.putfield 17, 3) := by decide +kernel
theorem d1_22 : decode prog_73_method_1_code 22 = .ok (.aload_n 0, 1) := by decide +kernel
theorem d1_23 : decode prog_73_method_1_code 23 = .ok (.bipush 16, 2) := by decide +kernel
theorem d1_25 : decode prog_73_method_1_code 25 = .ok (.newarray .int, 2) := by decide +kernel
theorem d1_27 : decode prog_73_method_1_code 27 = .ok (.putfield 21, 3) := by decide +kernel
theorem d1_30 : decode prog_73_method_1_code 30 = .ok (.return_, 1) := by decide +kernel
theorem d3_0 : decode prog_73_method_9_code 0 = .ok (.iload_n 0, 1) := by decide +kernel
theorem d3_1 : decode prog_73_method_9_code 1 = .ok (.newarray .int, 2) := by decide +kernel
theorem d3_3 : decode prog_73_method_9_code 3 = .ok (.astore_n 1, 1) := by decide +kernel
theorem d3_4 : decode prog_73_method_9_code 4 = .ok (.aload_n 1, 1) := by decide +kernel
theorem d3_5 : decode prog_73_method_9_code 5 = .ok (.iconst (-1), 1) := by decide +kernel
theorem d3_6 : decode prog_73_method_9_code 6 = .ok (.invokestatic 93, 3) := by decide +kernel
theorem d3_9 : decode prog_73_method_9_code 9 = .ok (.aload_n 1, 1) := by decide +kernel
theorem d3_10 : decode prog_73_method_9_code 10 = .ok (.areturn, 1) := by decide +kernel
theorem d4_0 : decode jdk_65_method_103_code 0 = .ok (.iconst 0, 1) := by decide +kernel
theorem d4_1 : decode jdk_65_method_103_code 1 = .ok (.istore_n 2, 1) := by decide +kernel
theorem d4_2 : decode jdk_65_method_103_code 2 = .ok (.aload_n 0, 1) := by decide +kernel
theorem d4_3 : decode jdk_65_method_103_code 3 = .ok (.arraylength, 1) := by decide +kernel
theorem d4_4 : decode jdk_65_method_103_code 4 = .ok (.istore_n 3, 1) := by decide +kernel
theorem d4_5 : decode jdk_65_method_103_code 5 = .ok (.iload_n 2, 1) := by decide +kernel
theorem d4_6 : decode jdk_65_method_103_code 6 = .ok (.iload_n 3, 1) := by decide +kernel
theorem d4_7 : decode jdk_65_method_103_code 7 = .ok (.if_icmp .ge 13, 3) := by decide +kernel
theorem d4_10 : decode jdk_65_method_103_code 10 = .ok (.aload_n 0, 1) := by decide +kernel
theorem d4_11 : decode jdk_65_method_103_code 11 = .ok (.iload_n 2, 1) := by decide +kernel
theorem d4_12 : decode jdk_65_method_103_code 12 = .ok (.iload_n 1, 1) := by decide +kernel
theorem d4_13 : decode jdk_65_method_103_code 13 = .ok (.iastore, 1) := by decide +kernel
theorem d4_14 : decode jdk_65_method_103_code 14 = .ok (.iinc 2 1, 3) := by decide +kernel
theorem d4_17 : decode jdk_65_method_103_code 17 = .ok (.goto (-12), 3) := by decide +kernel
theorem d4_20 : decode jdk_65_method_103_code 20 = .ok (.return_, 1) := by decide +kernel
theorem d5_0 : decode prog_73_method_3_code 0 = .ok (.aload_n 0, 1) := by decide +kernel
theorem d5_1 : decode prog_73_method_3_code 1 = .ok (.getfield 46, 3) := by decide +kernel
theorem d5_4 : decode prog_73_method_3_code 4 = .ok (.ifCond .ne 7, 3) := by decide +kernel
theorem d5_7 : decode prog_73_method_3_code 7 = .ok (.iconst 1, 1) := by decide +kernel
theorem d5_8 : decode prog_73_method_3_code 8 = .ok (.goto 4, 3) := by decide +kernel
theorem d5_11 : decode prog_73_method_3_code 11 = .ok (.iconst 0, 1) := by decide +kernel
theorem d5_12 : decode prog_73_method_3_code 12 = .ok (.ireturn, 1) := by decide +kernel
theorem d6_0 : decode method_3_code 0 = .ok (.iload_n 0, 1) := by decide +kernel
theorem d6_1 : decode method_3_code 1 = .ok (.iconst 3, 1) := by decide +kernel
theorem d6_2 : decode method_3_code 2 = .ok (.iand, 1) := by decide +kernel
theorem d6_3 : decode method_3_code 3 = .ok (.istore_n 1, 1) := by decide +kernel
theorem d6_4 : decode method_3_code 4 = .ok (.iload_n 1, 1) := by decide +kernel
theorem d6_5 : decode method_3_code 5 = .ok (.newarray .char, 2) := by decide +kernel
theorem d6_7 : decode method_3_code 7 = .ok (.astore_n 2, 1) := by decide +kernel
theorem d6_8 : decode method_3_code 8 = .ok (.iload_n 1, 1) := by decide +kernel
theorem d6_9 : decode method_3_code 9 = .ok (.ifCond .le 12, 3) := by decide +kernel
theorem d6_12 : decode method_3_code 12 = .ok (.aload_n 2, 1) := by decide +kernel
theorem d6_13 : decode method_3_code 13 = .ok (.iconst 0, 1) := by decide +kernel
theorem d6_14 : decode method_3_code 14 = .ok (.iload_n 0, 1) := by decide +kernel
theorem d6_15 : decode method_3_code 15 = .ok (.iconst 2, 1) := by decide +kernel
theorem d6_16 : decode method_3_code 16 = .ok (.iushr, 1) := by decide +kernel
theorem d6_17 : decode method_3_code 17 = .ok (.invokestatic 15, 3) := by decide +kernel
theorem d6_20 : decode method_3_code 20 = .ok (.castore, 1) := by decide +kernel
theorem d6_21 : decode method_3_code 21 = .ok (.iload_n 1, 1) := by decide +kernel
theorem d6_22 : decode method_3_code 22 = .ok (.iconst 1, 1) := by decide +kernel
theorem d6_23 : decode method_3_code 23 = .ok (.if_icmp .le 13, 3) := by decide +kernel
theorem d6_26 : decode method_3_code 26 = .ok (.aload_n 2, 1) := by decide +kernel
theorem d6_27 : decode method_3_code 27 = .ok (.iconst 1, 1) := by decide +kernel
theorem d6_28 : decode method_3_code 28 = .ok (.iload_n 0, 1) := by decide +kernel
theorem d6_29 : decode method_3_code 29 = .ok (.bipush 8, 2) := by decide +kernel
theorem d6_31 : decode method_3_code 31 = .ok (.iushr, 1) := by decide +kernel
theorem d6_32 : decode method_3_code 32 = .ok (.invokestatic 15, 3) := by decide +kernel
theorem d6_35 : decode method_3_code 35 = .ok (.castore, 1) := by decide +kernel
theorem d6_36 : decode method_3_code 36 = .ok (.iload_n 1, 1) := by decide +kernel
theorem d6_37 : decode method_3_code 37 = .ok (.iconst 2, 1) := by decide +kernel
theorem d6_38 : decode method_3_code 38 = .ok (.if_icmp .le 13, 3) := by decide +kernel
theorem d6_41 : decode method_3_code 41 = .ok (.aload_n 2, 1) := by decide +kernel
theorem d6_42 : decode method_3_code 42 = .ok (.iconst 2, 1) := by decide +kernel
theorem d6_43 : decode method_3_code 43 = .ok (.iload_n 0, 1) := by decide +kernel
theorem d6_44 : decode method_3_code 44 = .ok (.bipush 14, 2) := by decide +kernel
theorem d6_46 : decode method_3_code 46 = .ok (.iushr, 1) := by decide +kernel
theorem d6_47 : decode method_3_code 47 = .ok (.invokestatic 15, 3) := by decide +kernel
theorem d6_50 : decode method_3_code 50 = .ok (.castore, 1) := by decide +kernel
theorem d6_51 : decode method_3_code 51 = .ok (.new 10, 3) := by decide +kernel
theorem d6_54 : decode method_3_code 54 = .ok (.dup, 1) := by decide +kernel
theorem d6_55 : decode method_3_code 55 = .ok (.aload_n 2, 1) := by decide +kernel
theorem d6_56 : decode method_3_code 56 = .ok (.invokespecial 20, 3) := by decide +kernel
theorem d6_59 : decode method_3_code 59 = .ok (.areturn, 1) := by decide +kernel
theorem d7_0 : decode method_2_code 0 = .ok (.ldc 7, 2) := by decide +kernel
theorem d7_2 : decode method_2_code 2 = .ok (.iload_n 0, 1) := by decide +kernel
theorem d7_3 : decode method_2_code 3 = .ok (.bipush 63, 2) := by decide +kernel
theorem d7_5 : decode method_2_code 5 = .ok (.iand, 1) := by decide +kernel
theorem d7_6 : decode method_2_code 6 = .ok (.invokevirtual 9, 3) := by decide +kernel
theorem d7_9 : decode method_2_code 9 = .ok (.ireturn, 1) := by decide +kernel
theorem d8_0 : decode jdk_42_method_56_code 0 = .ok (.aload_n 0, 1) := by decide +kernel
theorem d8_1 : decode jdk_42_method_56_code 1 = .ok (.invokevirtual 492, 3) := by decide +kernel
theorem d8_4 : decode jdk_42_method_56_code 4 = .ok (.ifCond .eq 12, 3) := by decide +kernel
theorem d8_7 : decode jdk_42_method_56_code 7 = .ok (.aload_n 0, 1) := by decide +kernel
theorem d8_8 : decode jdk_42_method_56_code 8 = .ok (.getfield 9, 3) := by decide +kernel
theorem d8_11 : decode jdk_42_method_56_code 11 = .ok (.iload_n 1, 1) := by decide +kernel
theorem d8_12 : decode jdk_42_method_56_code 12 = .ok (.invokestatic 495, 3) := by decide +kernel
theorem d8_15 : decode jdk_42_method_56_code 15 = .ok (.ireturn, 1) := by decide +kernel
theorem d9_0 : decode jdk_42_method_154_code 0 = .ok (.getstatic 38, 3) := by decide +kernel
theorem d9_3 : decode jdk_42_method_154_code 3 = .ok (.ifCond .eq 14, 3) := by decide +kernel
theorem d9_6 : decode jdk_42_method_154_code 6 = .ok (.aload_n 0, 1) := by decide +kernel
theorem d9_7 : decode jdk_42_method_154_code 7 = .ok (.getfield 15, 3) := by decide +kernel
theorem d9_10 : decode jdk_42_method_154_code 10 = .ok (.ifCond .ne 7, 3) := by decide +kernel
theorem d9_13 : decode jdk_42_method_154_code 13 = .ok (.iconst 1, 1) := by decide +kernel
theorem d9_14 : decode jdk_42_method_154_code 14 = .ok (.goto 4, 3) := by decide +kernel
theorem d9_18 : decode jdk_42_method_154_code 18 = .ok (.ireturn, 1) := by decide +kernel
theorem d10_0 : decode jdk_43_method_2_code 0 = .ok (.iload_n 1, 1) := by decide +kernel
theorem d10_1 : decode jdk_43_method_2_code 1 = .ok (.aload_n 0, 1) := by decide +kernel
theorem d10_2 : decode jdk_43_method_2_code 2 = .ok (.arraylength, 1) := by decide +kernel
theorem d10_3 : decode jdk_43_method_2_code 3 = .ok (.invokestatic 9, 3) := by decide +kernel
theorem d10_6 : decode jdk_43_method_2_code 6 = .ok (.aload_n 0, 1) := by decide +kernel
theorem d10_7 : decode jdk_43_method_2_code 7 = .ok (.iload_n 1, 1) := by decide +kernel
theorem d10_8 : decode jdk_43_method_2_code 8 = .ok (.baload, 1) := by decide +kernel
theorem d10_9 : decode jdk_43_method_2_code 9 = .ok (.sipush 255, 3) := by decide +kernel
theorem d10_12 : decode jdk_43_method_2_code 12 = .ok (.iand, 1) := by decide +kernel
theorem d10_13 : decode jdk_43_method_2_code 13 = .ok (.i2c, 1) := by decide +kernel
theorem d10_14 : decode jdk_43_method_2_code 14 = .ok (.ireturn, 1) := by decide +kernel
theorem d11_0 : decode jdk_42_method_155_code 0 = .ok (.iload_n 0, 1) := by decide +kernel
theorem d11_1 : decode jdk_42_method_155_code 1 = .ok (.iload_n 1, 1) := by decide +kernel
theorem d11_2 : decode jdk_42_method_155_code 2 = .ok (.getstatic 1053, 3) := by decide +kernel
theorem d11_5 : decode jdk_42_method_155_code 5 = .ok (.invokestatic 1059, 3) := by decide +kernel
theorem d11_8 : decode jdk_42_method_155_code 8 = .ok (.pop, 1) := by decide +kernel
theorem d11_9 : decode jdk_42_method_155_code 9 = .ok (.return_, 1) := by decide +kernel
theorem d12_0 : decode jdk_41_method_11_code 0 = .ok (.iload_n 0, 1) := by decide +kernel
theorem d12_1 : decode jdk_41_method_11_code 1 = .ok (.ifCond .lt 8, 3) := by decide +kernel
theorem d12_4 : decode jdk_41_method_11_code 4 = .ok (.iload_n 0, 1) := by decide +kernel
theorem d12_5 : decode jdk_41_method_11_code 5 = .ok (.iload_n 1, 1) := by decide +kernel
theorem d12_6 : decode jdk_41_method_11_code 6 = .ok (.if_icmp .lt 10, 3) := by decide +kernel
theorem d12_16 : decode jdk_41_method_11_code 16 = .ok (.iload_n 0, 1) := by decide +kernel
theorem d12_17 : decode jdk_41_method_11_code 17 = .ok (.ireturn, 1) := by decide +kernel
theorem d13_0 : decode jdk_42_method_3_code 0 = .ok (.aload_n 0, 1) := by decide +kernel
theorem d13_1 : decode jdk_42_method_3_code 1 = .ok (.aload_n 1, 1) := by decide +kernel
theorem d13_2 : decode jdk_42_method_3_code 2 = .ok (.iconst 0, 1) := by decide +kernel
theorem d13_3 : decode jdk_42_method_3_code 3 = .ok (.aload_n 1, 1) := by decide +kernel
theorem d13_4 : decode jdk_42_method_3_code 4 = .ok (.arraylength, 1) := by decide +kernel
theorem d13_5 : decode jdk_42_method_3_code 5 = .ok (.aconst_null, 1) := by decide +kernel
theorem d13_6 : decode jdk_42_method_3_code 6 = .ok (.invokespecial 27, 3) := by decide +kernel
theorem d13_9 : decode jdk_42_method_3_code 9 = .ok (.return_, 1) := by decide +kernel
theorem d14_0 : decode jdk_42_method_149_code 0 = .ok (.aload_n 0, 1) := by decide +kernel
theorem d14_1 : decode jdk_42_method_149_code 1 = .ok (.invokespecial 1, 3) := by decide +kernel
theorem d14_4 : decode jdk_42_method_149_code 4 = .ok (.iload_n 3, 1) := by decide +kernel
theorem d14_5 : decode jdk_42_method_149_code 5 = .ok (.ifCond .ne 22, 3) := by decide +kernel
theorem d14_8 : decode jdk_42_method_149_code 8 = .ok (.aload_n 0, 1) := by decide +kernel
theorem d14_9 : decode jdk_42_method_149_code 9 = .ok (.ldc 7, 2) := by decide +kernel
theorem d14_11 : decode jdk_42_method_149_code 11 = .ok (.getfield 9, 3) := by decide +kernel
theorem d14_14 : decode jdk_42_method_149_code 14 = .ok (.putfield 9, 3) := by decide +kernel
theorem d14_17 : decode jdk_42_method_149_code 17 = .ok (.aload_n 0, 1) := by decide +kernel
theorem d14_18 : decode jdk_42_method_149_code 18 = .ok (.ldc 7, 2) := by decide +kernel
theorem d14_20 : decode jdk_42_method_149_code 20 = .ok (.getfield 15, 3) := by decide +kernel
theorem d14_23 : decode jdk_42_method_149_code 23 = .ok (.putfield 15, 3) := by decide +kernel
theorem d14_26 : decode jdk_42_method_149_code 26 = .ok (.return_, 1) := by decide +kernel
theorem d14_27 : decode jdk_42_method_149_code 27 = .ok (.getstatic 38, 3) := by decide +kernel
theorem d14_30 : decode jdk_42_method_149_code 30 = .ok (.ifCond .eq 28, 3) := by decide +kernel
theorem d14_33 : decode jdk_42_method_149_code 33 = .ok (.aload_n 1, 1) := by decide +kernel
theorem d14_34 : decode jdk_42_method_149_code 34 = .ok (.iload_n 2, 1) := by decide +kernel
theorem d14_35 : decode jdk_42_method_149_code 35 = .ok (.iload_n 3, 1) := by decide +kernel
theorem d14_36 : decode jdk_42_method_149_code 36 = .ok (.invokestatic 177, 3) := by decide +kernel
theorem d14_39 : decode jdk_42_method_149_code 39 = .ok (.astore 5, 2) := by decide +kernel
theorem d14_41 : decode jdk_42_method_149_code 41 = .ok (.aload_n 0, 1) := by decide +kernel
theorem d14_42 : decode jdk_42_method_149_code 42 = .ok (.aload 5, 2) := by decide +kernel
theorem d14_44 : decode jdk_42_method_149_code 44 = .ok (.iload_n 3, 1) := by decide +kernel
theorem d14_45 : decode jdk_42_method_149_code 45 = .ok (.invokestatic 47, 3) := by decide +kernel
theorem d14_48 : decode jdk_42_method_149_code 48 = .ok (.putfield 15, 3) := by decide +kernel
theorem d14_51 : decode jdk_42_method_149_code 51 = .ok (.aload_n 0, 1) := by decide +kernel
theorem d14_52 : decode jdk_42_method_149_code 52 = .ok (.aload 5, 2) := by decide +kernel
theorem d14_54 : decode jdk_42_method_149_code 54 = .ok (.putfield 9, 3) := by decide +kernel
theorem d14_57 : decode jdk_42_method_149_code 57 = .ok (.return_, 1) := by decide +kernel
theorem d15_0 : decode jdk_52_method_16_code 0 = .ok (.iload_n 2, 1) := by decide +kernel
theorem d15_1 : decode jdk_52_method_16_code 1 = .ok (.newarray .byte, 2) := by decide +kernel
theorem d15_3 : decode jdk_52_method_16_code 3 = .ok (.astore_n 3, 1) := by decide +kernel
theorem d15_4 : decode jdk_52_method_16_code 4 = .ok (.aload_n 0, 1) := by decide +kernel
theorem d15_5 : decode jdk_52_method_16_code 5 = .ok (.iload_n 1, 1) := by decide +kernel
theorem d15_6 : decode jdk_52_method_16_code 6 = .ok (.aload_n 3, 1) := by decide +kernel
theorem d15_7 : decode jdk_52_method_16_code 7 = .ok (.iconst 0, 1) := by decide +kernel
theorem d15_8 : decode jdk_52_method_16_code 8 = .ok (.iload_n 2, 1) := by decide +kernel
theorem d15_9 : decode jdk_52_method_16_code 9 = .ok (.invokestatic 115, 3) := by decide +kernel
theorem d15_12 : decode jdk_52_method_16_code 12 = .ok (.istore 4, 2) := by decide +kernel
theorem d15_14 : decode jdk_52_method_16_code 14 = .ok (.iload 4, 2) := by decide +kernel
theorem d15_16 : decode jdk_52_method_16_code 16 = .ok (.iload_n 2, 1) := by decide +kernel
theorem d15_17 : decode jdk_52_method_16_code 17 = .ok (.if_icmp .eq 40, 3) := by decide +kernel
theorem d15_57 : decode jdk_52_method_16_code 57 = .ok (.aload_n 3, 1) := by decide +kernel
theorem d15_58 : decode jdk_52_method_16_code 58 = .ok (.areturn, 1) := by decide +kernel
theorem d16_0 : decode jdk_52_method_21_code 0 = .ok (.iconst 0, 1) := by decide +kernel
theorem d16_1 : decode jdk_52_method_21_code 1 = .ok (.istore 5, 2) := by decide +kernel
theorem d16_3 : decode jdk_52_method_21_code 3 = .ok (.iload 5, 2) := by decide +kernel
theorem d16_5 : decode jdk_52_method_21_code 5 = .ok (.iload 4, 2) := by decide +kernel
theorem d16_7 : decode jdk_52_method_21_code 7 = .ok (.if_icmp .ge 37, 3) := by decide +kernel
theorem d16_10 : decode jdk_52_method_21_code 10 = .ok (.aload_n 0, 1) := by decide +kernel
theorem d16_11 : decode jdk_52_method_21_code 11 = .ok (.iload_n 1, 1) := by decide +kernel
theorem d16_12 : decode jdk_52_method_21_code 12 = .ok (.caload, 1) := by decide +kernel
theorem d16_13 : decode jdk_52_method_21_code 13 = .ok (.istore 6, 2) := by decide +kernel
theorem d16_15 : decode jdk_52_method_21_code 15 = .ok (.iload 6, 2) := by decide +kernel
theorem d16_17 : decode jdk_52_method_21_code 17 = .ok (.sipush 255, 3) := by decide +kernel
theorem d16_20 : decode jdk_52_method_21_code 20 = .ok (.if_icmp .le 6, 3) := by decide +kernel
theorem d16_26 : decode jdk_52_method_21_code 26 = .ok (.aload_n 2, 1) := by decide +kernel
theorem d16_27 : decode jdk_52_method_21_code 27 = .ok (.iload_n 3, 1) := by decide +kernel
theorem d16_28 : decode jdk_52_method_21_code 28 = .ok (.iload 6, 2) := by decide +kernel
theorem d16_30 : decode jdk_52_method_21_code 30 = .ok (.i2b, 1) := by decide +kernel
theorem d16_31 : decode jdk_52_method_21_code 31 = .ok (.bastore, 1) := by decide +kernel
theorem d16_32 : decode jdk_52_method_21_code 32 = .ok (.iinc 1 1, 3) := by decide +kernel
theorem d16_35 : decode jdk_52_method_21_code 35 = .ok (.iinc 3 1, 3) := by decide +kernel
theorem d16_38 : decode jdk_52_method_21_code 38 = .ok (.iinc 5 1, 3) := by decide +kernel
theorem d16_41 : decode jdk_52_method_21_code 41 = .ok (.goto (-38), 3) := by decide +kernel
theorem d16_44 : decode jdk_52_method_21_code 44 = .ok (.iload 4, 2) := by decide +kernel
theorem d16_46 : decode jdk_52_method_21_code 46 = .ok (.ireturn, 1) := by decide +kernel
theorem d17_0 : decode jdk_52_method_15_code 0 = .ok (.iload_n 1, 1) := by decide +kernel
theorem d17_1 : decode jdk_52_method_15_code 1 = .ok (.aload_n 0, 1) := by decide +kernel
theorem d17_2 : decode jdk_52_method_15_code 2 = .ok (.arraylength, 1) := by decide +kernel
theorem d17_3 : decode jdk_52_method_15_code 3 = .ok (.isub, 1) := by decide +kernel
theorem d17_4 : decode jdk_52_method_15_code 4 = .ok (.bipush 31, 2) := by decide +kernel
theorem d17_6 : decode jdk_52_method_15_code 6 = .ok (.iushr, 1) := by decide +kernel
theorem d17_7 : decode jdk_52_method_15_code 7 = .ok (.i2b, 1) := by decide +kernel
theorem d17_8 : decode jdk_52_method_15_code 8 = .ok (.ireturn, 1) := by decide +kernel
theorem d18_0 : decode prog_73_method_2_code 0 = .ok (.aload_n 0, 1) := by decide +kernel
theorem d18_1 : decode prog_73_method_2_code 1 = .ok (.getfield 24, 3) := by decide +kernel
theorem d18_4 : decode prog_73_method_2_code 4 = .ok (.istore_n 3, 1) := by decide +kernel
theorem d18_5 : decode prog_73_method_2_code 5 = .ok (.aload_n 0, 1) := by decide +kernel
theorem d18_6 : decode prog_73_method_2_code 6 = .ok (.aload_n 1, 1) := by decide +kernel
theorem d18_7 : decode prog_73_method_2_code 7 = .ok (.invokevirtual 28, 3) := by decide +kernel
theorem d18_10 : decode prog_73_method_2_code 10 = .ok (.iconst 1, 1) := by decide +kernel
theorem d18_11 : decode prog_73_method_2_code 11 = .ok (.iadd, 1) := by decide +kernel
theorem d18_12 : decode prog_73_method_2_code 12 = .ok (.invokevirtual 34, 3) := by decide +kernel
theorem d18_15 : decode prog_73_method_2_code 15 = .ok (.iconst 0, 1) := by decide +kernel
theorem d18_16 : decode prog_73_method_2_code 16 = .ok (.istore 4, 2) := by decide +kernel
theorem d18_18 : decode prog_73_method_2_code 18 = .ok (.iload 4, 2) := by decide +kernel
theorem d18_20 : decode prog_73_method_2_code 20 = .ok (.aload_n 1, 1) := by decide +kernel
theorem d18_21 : decode prog_73_method_2_code 21 = .ok (.invokevirtual 28, 3) := by decide +kernel
theorem d18_24 : decode prog_73_method_2_code 24 = .ok (.if_icmp .ge 51, 3) := by decide +kernel
theorem d18_27 : decode prog_73_method_2_code 27 = .ok (.aload_n 1, 1) := by decide +kernel
theorem d18_28 : decode prog_73_method_2_code 28 = .ok (.iload 4, 2) := by decide +kernel
theorem d18_30 : decode prog_73_method_2_code 30 = .ok (.invokevirtual 38, 3) := by decide +kernel
theorem d18_33 : decode prog_73_method_2_code 33 = .ok (.istore 5, 2) := by decide +kernel
theorem d18_35 : decode prog_73_method_2_code 35 = .ok (.aload_n 0, 1) := by decide +kernel
theorem d18_36 : decode prog_73_method_2_code 36 = .ok (.getfield 7, 3) := by decide +kernel
theorem d18_39 : decode prog_73_method_2_code 39 = .ok (.iload_n 3, 1) := by decide +kernel
theorem d18_40 : decode prog_73_method_2_code 40 = .ok (.iload 4, 2) := by decide +kernel
theorem d18_42 : decode prog_73_method_2_code 42 = .ok (.iadd, 1) := by decide +kernel
theorem d18_43 : decode prog_73_method_2_code 43 = .ok (.iload 5, 2) := by decide +kernel
theorem d18_45 : decode prog_73_method_2_code 45 = .ok (.bipush 65, 2) := by decide +kernel
theorem d18_47 : decode prog_73_method_2_code 47 = .ok (.if_icmp .lt 18, 3) := by decide +kernel
theorem d18_50 : decode prog_73_method_2_code 50 = .ok (.iload 5, 2) := by decide +kernel
theorem d18_52 : decode prog_73_method_2_code 52 = .ok (.bipush 90, 2) := by decide +kernel
theorem d18_54 : decode prog_73_method_2_code 54 = .ok (.if_icmp .gt 11, 3) := by decide +kernel
theorem d18_57 : decode prog_73_method_2_code 57 = .ok (.iload 5, 2) := by decide +kernel
theorem d18_59 : decode prog_73_method_2_code 59 = .ok (.bipush 32, 2) := by decide +kernel
theorem d18_61 : decode prog_73_method_2_code 61 = .ok (.iadd, 1) := by decide +kernel
theorem d18_62 : decode prog_73_method_2_code 62 = .ok (.goto 5, 3) := by decide +kernel
theorem d18_65 : decode prog_73_method_2_code 65 = .ok (.iload 5, 2) := by decide +kernel
theorem d18_67 : decode prog_73_method_2_code 67 = .ok (.i2b, 1) := by decide +kernel
theorem d18_68 : decode prog_73_method_2_code 68 = .ok (.bastore, 1) := by decide +kernel
theorem d18_69 : decode prog_73_method_2_code 69 = .ok (.iinc 4 1, 3) := by decide +kernel
theorem d18_72 : decode prog_73_method_2_code 72 = .ok (.goto (-54), 3) := by decide +kernel
theorem d18_75 : decode prog_73_method_2_code 75 = .ok (.aload_n 0, 1) := by decide +kernel
theorem d18_76 : decode prog_73_method_2_code 76 = .ok (.getfield 7, 3) := by decide +kernel
theorem d18_79 : decode prog_73_method_2_code 79 = .ok (.iload_n 3, 1) := by decide +kernel
theorem d18_80 : decode prog_73_method_2_code 80 = .ok (.aload_n 1, 1) := by decide +kernel
theorem d18_81 : decode prog_73_method_2_code 81 = .ok (.invokevirtual 28, 3) := by decide +kernel
theorem d18_84 : decode prog_73_method_2_code 84 = .ok (.iadd, 1) := by decide +kernel
theorem d18_85 : decode prog_73_method_2_code 85 = .ok (.bipush 58, 2) := by decide +kernel
theorem d18_87 : decode prog_73_method_2_code 87 = .ok (.bastore, 1) := by decide +kernel
theorem d18_88 : decode prog_73_method_2_code 88 = .ok (.aload_n 0, 1) := by decide +kernel
theorem d18_89 : decode prog_73_method_2_code 89 = .ok (.iload_n 3, 1) := by decide +kernel
theorem d18_90 : decode prog_73_method_2_code 90 = .ok (.invokevirtual 42, 3) := by decide +kernel
theorem d18_93 : decode prog_73_method_2_code 93 = .ok (.istore 4, 2) := by decide +kernel
theorem d18_95 : decode prog_73_method_2_code 95 = .ok (.aload_n 0, 1) := by decide +kernel
theorem d18_96 : decode prog_73_method_2_code 96 = .ok (.getfield 17, 3) := by decide +kernel
theorem d18_99 : decode prog_73_method_2_code 99 = .ok (.iload 4, 2) := by decide +kernel
theorem d18_101 : decode prog_73_method_2_code 101 = .ok (.iaload, 1) := by decide +kernel
theorem d18_102 : decode prog_73_method_2_code 102 = .ok (.iconst (-1), 1) := by decide +kernel
theorem d18_103 : decode prog_73_method_2_code 103 = .ok (.if_icmp .eq 11, 3) := by decide +kernel
theorem d18_106 : decode prog_73_method_2_code 106 = .ok (.aload_n 0, 1) := by decide +kernel
theorem d18_107 : decode prog_73_method_2_code 107 = .ok (.getfield 21, 3) := by decide +kernel
theorem d18_110 : decode prog_73_method_2_code 110 = .ok (.iload 4, 2) := by decide +kernel
theorem d18_112 : decode prog_73_method_2_code 112 = .ok (.iaload, 1) := by decide +kernel
theorem d18_113 : decode prog_73_method_2_code 113 = .ok (.ireturn, 1) := by decide +kernel
theorem d18_114 : decode prog_73_method_2_code 114 = .ok (.aload_n 0, 1) := by decide +kernel
theorem d18_115 : decode prog_73_method_2_code 115 = .ok (.getfield 17, 3) := by decide +kernel
theorem d18_118 : decode prog_73_method_2_code 118 = .ok (.iload 4, 2) := by decide +kernel
theorem d18_120 : decode prog_73_method_2_code 120 = .ok (.iload_n 3, 1) := by decide +kernel
theorem d18_121 : decode prog_73_method_2_code 121 = .ok (.iastore, 1) := by decide +kernel
theorem d18_122 : decode prog_73_method_2_code 122 = .ok (.aload_n 0, 1) := by decide +kernel
theorem d18_123 : decode prog_73_method_2_code 123 = .ok (.getfield 21, 3) := by decide +kernel
theorem d18_126 : decode prog_73_method_2_code 126 = .ok (.iload 4, 2) := by decide +kernel
theorem d18_128 : decode prog_73_method_2_code 128 = .ok (.iload_n 2, 1) := by decide +kernel
theorem d18_129 : decode prog_73_method_2_code 129 = .ok (.iastore, 1) := by decide +kernel
theorem d18_130 : decode prog_73_method_2_code 130 = .ok (.aload_n 0, 1) := by decide +kernel
theorem d18_131 : decode prog_73_method_2_code 131 = .ok (.iload_n 3, 1) := by decide +kernel
theorem d18_132 : decode prog_73_method_2_code 132 = .ok (.aload_n 1, 1) := by decide +kernel
theorem d18_133 : decode prog_73_method_2_code 133 = .ok (.invokevirtual 28, 3) := by decide +kernel
theorem d18_136 : decode prog_73_method_2_code 136 = .ok (.iadd, 1) := by decide +kernel
theorem d18_137 : decode prog_73_method_2_code 137 = .ok (.iconst 1, 1) := by decide +kernel
theorem d18_138 : decode prog_73_method_2_code 138 = .ok (.iadd, 1) := by decide +kernel
theorem d18_139 : decode prog_73_method_2_code 139 = .ok (.putfield 24, 3) := by decide +kernel
theorem d18_142 : decode prog_73_method_2_code 142 = .ok (.aload_n 0, 1) := by decide +kernel
theorem d18_143 : decode prog_73_method_2_code 143 = .ok (.dup, 1) := by decide +kernel
theorem d18_144 : decode prog_73_method_2_code 144 = .ok (.getfield 46, 3) := by decide +kernel
theorem d18_147 : decode prog_73_method_2_code 147 = .ok (.iconst 1, 1) := by decide +kernel
theorem d18_148 : decode prog_73_method_2_code 148 = .ok (.iadd, 1) := by decide +kernel
theorem d18_149 : decode prog_73_method_2_code 149 = .ok (.putfield 46, 3) := by decide +kernel
theorem d18_152 : decode prog_73_method_2_code 152 = .ok (.aload_n 0, 1) := by decide +kernel
theorem d18_153 : decode prog_73_method_2_code 153 = .ok (.getfield 46, 3) := by decide +kernel
theorem d18_156 : decode prog_73_method_2_code 156 = .ok (.i2d, 1) := by decide +kernel
theorem d18_157 : decode prog_73_method_2_code 157 = .ok (.aload_n 0, 1) := by decide +kernel
theorem d18_158 : decode prog_73_method_2_code 158 = .ok (.getfield 17, 3) := by decide +kernel
theorem d18_161 : decode prog_73_method_2_code 161 = .ok (.arraylength, 1) := by decide +kernel
theorem d18_162 : decode prog_73_method_2_code 162 = .ok (.i2d, 1) := by decide +kernel
theorem d18_163 : decode prog_73_method_2_code 163 = .ok (.ldc2_w 49, 3) := by decide +kernel
theorem d18_166 : decode prog_73_method_2_code 166 = .ok (.dmul, 1) := by decide +kernel
theorem d18_167 : decode prog_73_method_2_code 167 = .ok (.dcmp .l, 1) := by decide +kernel
theorem d18_168 : decode prog_73_method_2_code 168 = .ok (.ifCond .le 7, 3) := by decide +kernel
theorem d18_175 : decode prog_73_method_2_code 175 = .ok (.iconst 0, 1) := by decide +kernel
theorem d18_176 : decode prog_73_method_2_code 176 = .ok (.ireturn, 1) := by decide +kernel
theorem d19_0 : decode jdk_42_method_54_code 0 = .ok (.aload_n 0, 1) := by decide +kernel
theorem d19_1 : decode jdk_42_method_54_code 1 = .ok (.getfield 9, 3) := by decide +kernel
theorem d19_4 : decode jdk_42_method_54_code 4 = .ok (.arraylength, 1) := by decide +kernel
theorem d19_5 : decode jdk_42_method_54_code 5 = .ok (.aload_n 0, 1) := by decide +kernel
theorem d19_6 : decode jdk_42_method_54_code 6 = .ok (.invokevirtual 335, 3) := by decide +kernel
theorem d19_9 : decode jdk_42_method_54_code 9 = .ok (.ishr, 1) := by decide +kernel
theorem d19_10 : decode jdk_42_method_54_code 10 = .ok (.ireturn, 1) := by decide +kernel
theorem d20_0 : decode jdk_42_method_152_code 0 = .ok (.getstatic 38, 3) := by decide +kernel
theorem d20_3 : decode jdk_42_method_152_code 3 = .ok (.ifCond .eq 10, 3) := by decide +kernel
theorem d20_6 : decode jdk_42_method_152_code 6 = .ok (.aload_n 0, 1) := by decide +kernel
theorem d20_7 : decode jdk_42_method_152_code 7 = .ok (.getfield 15, 3) := by decide +kernel
theorem d20_10 : decode jdk_42_method_152_code 10 = .ok (.goto 4, 3) := by decide +kernel
theorem d20_14 : decode jdk_42_method_152_code 14 = .ok (.ireturn, 1) := by decide +kernel
theorem d21_0 : decode prog_73_method_7_code 0 = .ok (.aload_n 0, 1) := by decide +kernel
theorem d21_1 : decode prog_73_method_7_code 1 = .ok (.getfield 24, 3) := by decide +kernel
theorem d21_4 : decode prog_73_method_7_code 4 = .ok (.iload_n 1, 1) := by decide +kernel
theorem d21_5 : decode prog_73_method_7_code 5 = .ok (.iadd, 1) := by decide +kernel
theorem d21_6 : decode prog_73_method_7_code 6 = .ok (.aload_n 0, 1) := by decide +kernel
theorem d21_7 : decode prog_73_method_7_code 7 = .ok (.getfield 7, 3) := by decide +kernel
theorem d21_10 : decode prog_73_method_7_code 10 = .ok (.arraylength, 1) := by decide +kernel
theorem d21_11 : decode prog_73_method_7_code 11 = .ok (.if_icmp .le 30, 3) := by decide +kernel
theorem d21_41 : decode prog_73_method_7_code 41 = .ok (.return_, 1) := by decide +kernel
theorem d22_0 : decode prog_73_method_4_code 0 = .ok (.aload_n 0, 1) := by decide +kernel
theorem d22_1 : decode prog_73_method_4_code 1 = .ok (.getfield 17, 3) := by decide +kernel
theorem d22_4 : decode prog_73_method_4_code 4 = .ok (.arraylength, 1) := by decide +kernel
theorem d22_5 : decode prog_73_method_4_code 5 = .ok (.iconst 1, 1) := by decide +kernel
theorem d22_6 : decode prog_73_method_4_code 6 = .ok (.isub, 1) := by decide +kernel
theorem d22_7 : decode prog_73_method_4_code 7 = .ok (.istore_n 2, 1) := by decide +kernel
theorem d22_8 : decode prog_73_method_4_code 8 = .ok (.aload_n 0, 1) := by decide +kernel
theorem d22_9 : decode prog_73_method_4_code 9 = .ok (.iload_n 1, 1) := by decide +kernel
theorem d22_10 : decode prog_73_method_4_code 10 = .ok (.invokevirtual 54, 3) := by decide +kernel
theorem d22_13 : decode prog_73_method_4_code 13 = .ok (.iload_n 2, 1) := by decide +kernel
theorem d22_14 : decode prog_73_method_4_code 14 = .ok (.iand, 1) := by decide +kernel
theorem d22_15 : decode prog_73_method_4_code 15 = .ok (.istore_n 3, 1) := by decide +kernel
theorem d22_16 : decode prog_73_method_4_code 16 = .ok (.aload_n 0, 1) := by decide +kernel
theorem d22_17 : decode prog_73_method_4_code 17 = .ok (.getfield 17, 3) := by decide +kernel
theorem d22_20 : decode prog_73_method_4_code 20 = .ok (.iload_n 3, 1) := by decide +kernel
theorem d22_21 : decode prog_73_method_4_code 21 = .ok (.iaload, 1) := by decide +kernel
theorem d22_22 : decode prog_73_method_4_code 22 = .ok (.iconst (-1), 1) := by decide +kernel
theorem d22_23 : decode prog_73_method_4_code 23 = .ok (.if_icmp .eq 26, 3) := by decide +kernel
theorem d22_26 : decode prog_73_method_4_code 26 = .ok (.aload_n 0, 1) := by decide +kernel
theorem d22_27 : decode prog_73_method_4_code 27 = .ok (.aload_n 0, 1) := by decide +kernel
theorem d22_28 : decode prog_73_method_4_code 28 = .ok (.getfield 17, 3) := by decide +kernel
theorem d22_31 : decode prog_73_method_4_code 31 = .ok (.iload_n 3, 1) := by decide +kernel
theorem d22_32 : decode prog_73_method_4_code 32 = .ok (.iaload, 1) := by decide +kernel
theorem d22_33 : decode prog_73_method_4_code 33 = .ok (.iload_n 1, 1) := by decide +kernel
theorem d22_34 : decode prog_73_method_4_code 34 = .ok (.invokevirtual 57, 3) := by decide +kernel
theorem d22_37 : decode prog_73_method_4_code 37 = .ok (.ifCond .ne 12, 3) := by decide +kernel
theorem d22_40 : decode prog_73_method_4_code 40 = .ok (.iload_n 3, 1) := by decide +kernel
theorem d22_41 : decode prog_73_method_4_code 41 = .ok (.iconst 1, 1) := by decide +kernel
theorem d22_42 : decode prog_73_method_4_code 42 = .ok (.iadd, 1) := by decide +kernel
theorem d22_43 : decode prog_73_method_4_code 43 = .ok (.iload_n 2, 1) := by decide +kernel
theorem d22_44 : decode prog_73_method_4_code 44 = .ok (.iand, 1) := by decide +kernel
theorem d22_45 : decode prog_73_method_4_code 45 = .ok (.istore_n 3, 1) := by decide +kernel
theorem d22_46 : decode prog_73_method_4_code 46 = .ok (.goto (-30), 3) := by decide +kernel
theorem d22_49 : decode prog_73_method_4_code 49 = .ok (.iload_n 3, 1) := by decide +kernel
theorem d22_50 : decode prog_73_method_4_code 50 = .ok (.ireturn, 1) := by decide +kernel
theorem d23_0 : decode prog_73_method_5_code 0 = .ok (.iload_n 1, 1) := by decide +kernel
theorem d23_1 : decode prog_73_method_5_code 1 = .ok (.istore_n 2, 1) := by decide +kernel
theorem d23_2 : decode prog_73_method_5_code 2 = .ok (.aload_n 0, 1) := by decide +kernel
theorem d23_3 : decode prog_73_method_5_code 3 = .ok (.getfield 7, 3) := by decide +kernel
theorem d23_6 : decode prog_73_method_5_code 6 = .ok (.iload_n 2, 1) := by decide +kernel
theorem d23_7 : decode prog_73_method_5_code 7 = .ok (.baload, 1) := by decide +kernel
theorem d23_8 : decode prog_73_method_5_code 8 = .ok (.bipush 58, 2) := by decide +kernel
theorem d23_10 : decode prog_73_method_5_code 10 = .ok (.if_icmp .eq 9, 3) := by decide +kernel
theorem d23_13 : decode prog_73_method_5_code 13 = .ok (.iinc 2 1, 3) := by decide +kernel
theorem d23_16 : decode prog_73_method_5_code 16 = .ok (.goto (-14), 3) := by decide +kernel
theorem d23_19 : decode prog_73_method_5_code 19 = .ok (.aload_n 0, 1) := by decide +kernel
theorem d23_20 : decode prog_73_method_5_code 20 = .ok (.getfield 61, 3) := by decide +kernel
theorem d23_23 : decode prog_73_method_5_code 23 = .ok (.aload_n 0, 1) := by decide +kernel
theorem d23_24 : decode prog_73_method_5_code 24 = .ok (.getfield 65, 3) := by decide +kernel
theorem d23_27 : decode prog_73_method_5_code 27 = .ok (.aload_n 0, 1) := by decide +kernel
theorem d23_28 : decode prog_73_method_5_code 28 = .ok (.getfield 7, 3) := by decide +kernel
theorem d23_31 : decode prog_73_method_5_code 31 = .ok (.iload_n 1, 1) := by decide +kernel
theorem d23_32 : decode prog_73_method_5_code 32 = .ok (.iload_n 2, 1) := by decide +kernel
theorem d23_33 : decode prog_73_method_5_code 33 = .ok (.invokestatic 68, 3) := by decide +kernel
theorem d23_36 : decode prog_73_method_5_code 36 = .ok (.l2i, 1) := by decide +kernel
theorem d23_37 : decode prog_73_method_5_code 37 = .ok (.ireturn, 1) := by decide +kernel
theorem d24_0 : decode prog_76_method_2_code 0 = .ok (.lload_n 0, 1) := by decide +kernel
theorem d24_1 : decode prog_76_method_2_code 1 = .ok (.ldc2_w 7, 3) := by decide +kernel
theorem d24_4 : decode prog_76_method_2_code 4 = .ok (.lxor, 1) := by decide +kernel
theorem d24_5 : decode prog_76_method_2_code 5 = .ok (.lstore 7, 2) := by decide +kernel
theorem d24_7 : decode prog_76_method_2_code 7 = .ok (.lload_n 2, 1) := by decide +kernel
theorem d24_8 : decode prog_76_method_2_code 8 = .ok (.ldc2_w 9, 3) := by decide +kernel
theorem d24_11 : decode prog_76_method_2_code 11 = .ok (.lxor, 1) := by decide +kernel
theorem d24_12 : decode prog_76_method_2_code 12 = .ok (.lstore 9, 2) := by decide +kernel
theorem d24_14 : decode prog_76_method_2_code 14 = .ok (.lload_n 0, 1) := by decide +kernel
theorem d24_15 : decode prog_76_method_2_code 15 = .ok (.ldc2_w 11, 3) := by decide +kernel
theorem d24_18 : decode prog_76_method_2_code 18 = .ok (.lxor, 1) := by decide +kernel
theorem d24_19 : decode prog_76_method_2_code 19 = .ok (.lstore 11, 2) := by decide +kernel
theorem d24_21 : decode prog_76_method_2_code 21 = .ok (.lload_n 2, 1) := by decide +kernel
theorem d24_22 : decode prog_76_method_2_code 22 = .ok (.ldc2_w 13, 3) := by decide +kernel
theorem d24_25 : decode prog_76_method_2_code 25 = .ok (.lxor, 1) := by decide +kernel
theorem d24_26 : decode prog_76_method_2_code 26 = .ok (.lstore 13, 2) := by decide +kernel
theorem d24_28 : decode prog_76_method_2_code 28 = .ok (.iload 6, 2) := by decide +kernel
theorem d24_30 : decode prog_76_method_2_code 30 = .ok (.iload 5, 2) := by decide +kernel
theorem d24_32 : decode prog_76_method_2_code 32 = .ok (.isub, 1) := by decide +kernel
theorem d24_33 : decode prog_76_method_2_code 33 = .ok (.bipush 8, 2) := by decide +kernel
theorem d24_35 : decode prog_76_method_2_code 35 = .ok (.idiv, 1) := by decide +kernel
theorem d24_36 : decode prog_76_method_2_code 36 = .ok (.iconst 1, 1) := by decide +kernel
theorem d24_37 : decode prog_76_method_2_code 37 = .ok (.iadd, 1) := by decide +kernel
theorem d24_38 : decode prog_76_method_2_code 38 = .ok (.istore 15, 2) := by decide +kernel
theorem d24_40 : decode prog_76_method_2_code 40 = .ok (.iconst 0, 1) := by decide +kernel
theorem d24_41 : decode prog_76_method_2_code 41 = .ok (.istore 16, 2) := by decide +kernel
theorem d24_43 : decode prog_76_method_2_code 43 = .ok (.iload 16, 2) := by decide +kernel
theorem d24_45 : decode prog_76_method_2_code 45 = .ok (.iload 15, 2) := by decide +kernel
theorem d24_47 : decode prog_76_method_2_code 47 = .ok (.if_icmp .gt 195, 3) := by decide +kernel
theorem d24_50 : decode prog_76_method_2_code 50 = .ok (.iload 16, 2) := by decide +kernel
theorem d24_52 : decode prog_76_method_2_code 52 = .ok (.iload 15, 2) := by decide +kernel
theorem d24_54 : decode prog_76_method_2_code 54 = .ok (.if_icmp .ge 26, 3) := by decide +kernel
theorem d24_57 : decode prog_76_method_2_code 57 = .ok (.aload 4, 2) := by decide +kernel
theorem d24_59 : decode prog_76_method_2_code 59 = .ok (.iload 5, 2) := by decide +kernel
theorem d24_61 : decode prog_76_method_2_code 61 = .ok (.iload 16, 2) := by decide +kernel
theorem d24_63 : decode prog_76_method_2_code 63 = .ok (.bipush 8, 2) := by decide +kernel
theorem d24_65 : decode prog_76_method_2_code 65 = .ok (.imul, 1) := by decide +kernel
theorem d24_66 : decode prog_76_method_2_code 66 = .ok (.iadd, 1) := by decide +kernel
theorem d24_67 : decode prog_76_method_2_code 67 = .ok (.iload 6, 2) := by decide +kernel
theorem d24_69 : decode prog_76_method_2_code 69 = .ok (.iload 6, 2) := by decide +kernel
theorem d24_71 : decode prog_76_method_2_code 71 = .ok (.iload 5, 2) := by decide +kernel
theorem d24_73 : decode prog_76_method_2_code 73 = .ok (.isub, 1) := by decide +kernel
theorem d24_74 : decode prog_76_method_2_code 74 = .ok (.invokestatic 17, 3) := by decide +kernel
theorem d24_77 : decode prog_76_method_2_code 77 = .ok (.goto 4, 3) := by decide +kernel
theorem d24_80 : decode prog_76_method_2_code 80 = .ok (.lconst 0, 1) := by decide +kernel
theorem d24_81 : decode prog_76_method_2_code 81 = .ok (.lstore 17, 2) := by decide +kernel
theorem d24_83 : decode prog_76_method_2_code 83 = .ok (.iload 16, 2) := by decide +kernel
theorem d24_85 : decode prog_76_method_2_code 85 = .ok (.iload 15, 2) := by decide +kernel
theorem d24_87 : decode prog_76_method_2_code 87 = .ok (.if_icmp .ge 7, 3) := by decide +kernel
theorem d24_90 : decode prog_76_method_2_code 90 = .ok (.iconst 2, 1) := by decide +kernel
theorem d24_91 : decode prog_76_method_2_code 91 = .ok (.goto 4, 3) := by decide +kernel
theorem d24_94 : decode prog_76_method_2_code 94 = .ok (.iconst 4, 1) := by decide +kernel
theorem d24_95 : decode prog_76_method_2_code 95 = .ok (.istore 19, 2) := by decide +kernel
theorem d24_97 : decode prog_76_method_2_code 97 = .ok (.iload 16, 2) := by decide +kernel
theorem d24_99 : decode prog_76_method_2_code 99 = .ok (.iload 15, 2) := by decide +kernel
theorem d24_101 : decode prog_76_method_2_code 101 = .ok (.if_icmp .ne 11, 3) := by decide +kernel
theorem d24_104 : decode prog_76_method_2_code 104 = .ok (.lload 11, 2) := by decide +kernel
theorem d24_106 : decode prog_76_method_2_code 106 = .ok (.ldc2_w 21, 3) := by decide +kernel
theorem d24_109 : decode prog_76_method_2_code 109 = .ok (.lxor, 1) := by decide +kernel
theorem d24_110 : decode prog_76_method_2_code 110 = .ok (.lstore 11, 2) := by decide +kernel
theorem d24_112 : decode prog_76_method_2_code 112 = .ok (.lload 13, 2) := by decide +kernel
theorem d24_114 : decode prog_76_method_2_code 114 = .ok (.lload 17, 2) := by decide +kernel
theorem d24_116 : decode prog_76_method_2_code 116 = .ok (.lxor, 1) := by decide +kernel
theorem d24_117 : decode prog_76_method_2_code 117 = .ok (.lstore 13, 2) := by decide +kernel
theorem d24_119 : decode prog_76_method_2_code 119 = .ok (.iconst 0, 1) := by decide +kernel
theorem d24_120 : decode prog_76_method_2_code 120 = .ok (.istore 20, 2) := by decide +kernel
theorem d24_122 : decode prog_76_method_2_code 122 = .ok (.iload 20, 2) := by decide +kernel
theorem d24_124 : decode prog_76_method_2_code 124 = .ok (.iload 19, 2) := by decide +kernel
theorem d24_126 : decode prog_76_method_2_code 126 = .ok (.if_icmp .ge 103, 3) := by decide +kernel
theorem d24_129 : decode prog_76_method_2_code 129 = .ok (.lload 7, 2) := by decide +kernel
theorem d24_131 : decode prog_76_method_2_code 131 = .ok (.lload 9, 2) := by decide +kernel
theorem d24_133 : decode prog_76_method_2_code 133 = .ok (.ladd, 1) := by decide +kernel
theorem d24_134 : decode prog_76_method_2_code 134 = .ok (.lstore 7, 2) := by decide +kernel
theorem d24_136 : decode prog_76_method_2_code 136 = .ok (.lload 9, 2) := by decide +kernel
theorem d24_138 : decode prog_76_method_2_code 138 = .ok (.bipush 13, 2) := by decide +kernel
theorem d24_140 : decode prog_76_method_2_code 140 = .ok (.invokestatic 23, 3) := by decide +kernel
theorem d24_143 : decode prog_76_method_2_code 143 = .ok (.lload 7, 2) := by decide +kernel
theorem d24_145 : decode prog_76_method_2_code 145 = .ok (.lxor, 1) := by decide +kernel
theorem d24_146 : decode prog_76_method_2_code 146 = .ok (.lstore 9, 2) := by decide +kernel
theorem d24_148 : decode prog_76_method_2_code 148 = .ok (.lload 7, 2) := by decide +kernel
theorem d24_150 : decode prog_76_method_2_code 150 = .ok (.bipush 32, 2) := by decide +kernel
theorem d24_152 : decode prog_76_method_2_code 152 = .ok (.invokestatic 23, 3) := by decide +kernel
theorem d24_155 : decode prog_76_method_2_code 155 = .ok (.lstore 7, 2) := by decide +kernel
theorem d24_157 : decode prog_76_method_2_code 157 = .ok (.lload 11, 2) := by decide +kernel
theorem d24_159 : decode prog_76_method_2_code 159 = .ok (.lload 13, 2) := by decide +kernel
theorem d24_161 : decode prog_76_method_2_code 161 = .ok (.ladd, 1) := by decide +kernel
theorem d24_162 : decode prog_76_method_2_code 162 = .ok (.lstore 11, 2) := by decide +kernel
theorem d24_164 : decode prog_76_method_2_code 164 = .ok (.lload 13, 2) := by decide +kernel
theorem d24_166 : decode prog_76_method_2_code 166 = .ok (.bipush 16, 2) := by decide +kernel
theorem d24_168 : decode prog_76_method_2_code 168 = .ok (.invokestatic 23, 3) := by decide +kernel
theorem d24_171 : decode prog_76_method_2_code 171 = .ok (.lload 11, 2) := by decide +kernel
theorem d24_173 : decode prog_76_method_2_code 173 = .ok (.lxor, 1) := by decide +kernel
theorem d24_174 : decode prog_76_method_2_code 174 = .ok (.lstore 13, 2) := by decide +kernel
theorem d24_176 : decode prog_76_method_2_code 176 = .ok (.lload 7, 2) := by decide +kernel
theorem d24_178 : decode prog_76_method_2_code 178 = .ok (.lload 13, 2) := by decide +kernel
theorem d24_180 : decode prog_76_method_2_code 180 = .ok (.ladd, 1) := by decide +kernel
theorem d24_181 : decode prog_76_method_2_code 181 = .ok (.lstore 7, 2) := by decide +kernel
theorem d24_183 : decode prog_76_method_2_code 183 = .ok (.lload 13, 2) := by decide +kernel
theorem d24_185 : decode prog_76_method_2_code 185 = .ok (.bipush 21, 2) := by decide +kernel
theorem d24_187 : decode prog_76_method_2_code 187 = .ok (.invokestatic 23, 3) := by decide +kernel
theorem d24_190 : decode prog_76_method_2_code 190 = .ok (.lload 7, 2) := by decide +kernel
theorem d24_192 : decode prog_76_method_2_code 192 = .ok (.lxor, 1) := by decide +kernel
theorem d24_193 : decode prog_76_method_2_code 193 = .ok (.lstore 13, 2) := by decide +kernel
theorem d24_195 : decode prog_76_method_2_code 195 = .ok (.lload 11, 2) := by decide +kernel
theorem d24_197 : decode prog_76_method_2_code 197 = .ok (.lload 9, 2) := by decide +kernel
theorem d24_199 : decode prog_76_method_2_code 199 = .ok (.ladd, 1) := by decide +kernel
theorem d24_200 : decode prog_76_method_2_code 200 = .ok (.lstore 11, 2) := by decide +kernel
theorem d24_202 : decode prog_76_method_2_code 202 = .ok (.lload 9, 2) := by decide +kernel
theorem d24_204 : decode prog_76_method_2_code 204 = .ok (.bipush 17, 2) := by decide +kernel
theorem d24_206 : decode prog_76_method_2_code 206 = .ok (.invokestatic 23, 3) := by decide +kernel
theorem d24_209 : decode prog_76_method_2_code 209 = .ok (.lload 11, 2) := by decide +kernel
theorem d24_211 : decode prog_76_method_2_code 211 = .ok (.lxor, 1) := by decide +kernel
theorem d24_212 : decode prog_76_method_2_code 212 = .ok (.lstore 9, 2) := by decide +kernel
theorem d24_214 : decode prog_76_method_2_code 214 = .ok (.lload 11, 2) := by decide +kernel
theorem d24_216 : decode prog_76_method_2_code 216 = .ok (.bipush 32, 2) := by decide +kernel
theorem d24_218 : decode prog_76_method_2_code 218 = .ok (.invokestatic 23, 3) := by decide +kernel
theorem d24_221 : decode prog_76_method_2_code 221 = .ok (.lstore 11, 2) := by decide +kernel
theorem d24_223 : decode prog_76_method_2_code 223 = .ok (.iinc 20 1, 3) := by decide +kernel
theorem d24_226 : decode prog_76_method_2_code 226 = .ok (.goto (-104), 3) := by decide +kernel
theorem d24_229 : decode prog_76_method_2_code 229 = .ok (.lload 7, 2) := by decide +kernel
theorem d24_231 : decode prog_76_method_2_code 231 = .ok (.lload 17, 2) := by decide +kernel
theorem d24_233 : decode prog_76_method_2_code 233 = .ok (.lxor, 1) := by decide +kernel
theorem d24_234 : decode prog_76_method_2_code 234 = .ok (.lstore 7, 2) := by decide +kernel
theorem d24_236 : decode prog_76_method_2_code 236 = .ok (.iinc 16 1, 3) := by decide +kernel
theorem d24_239 : decode prog_76_method_2_code 239 = .ok (.goto (-196), 3) := by decide +kernel
theorem d24_242 : decode prog_76_method_2_code 242 = .ok (.lload 7, 2) := by decide +kernel
theorem d24_244 : decode prog_76_method_2_code 244 = .ok (.lload 9, 2) := by decide +kernel
theorem d24_246 : decode prog_76_method_2_code 246 = .ok (.lxor, 1) := by decide +kernel
theorem d24_247 : decode prog_76_method_2_code 247 = .ok (.lload 11, 2) := by decide +kernel
theorem d24_249 : decode prog_76_method_2_code 249 = .ok (.lxor, 1) := by decide +kernel
theorem d24_250 : decode prog_76_method_2_code 250 = .ok (.lload 13, 2) := by decide +kernel
theorem d24_252 : decode prog_76_method_2_code 252 = .ok (.lxor, 1) := by decide +kernel
theorem d24_253 : decode prog_76_method_2_code 253 = .ok (.lreturn, 1) := by decide +kernel
theorem d25_0 : decode prog_76_method_3_code 0 = .ok (.iload_n 1, 1) := by decide +kernel
theorem d25_1 : decode prog_76_method_3_code 1 = .ok (.bipush 8, 2) := by decide +kernel
theorem d25_3 : decode prog_76_method_3_code 3 = .ok (.iadd, 1) := by decide +kernel
theorem d25_4 : decode prog_76_method_3_code 4 = .ok (.iload_n 2, 1) := by decide +kernel
theorem d25_5 : decode prog_76_method_3_code 5 = .ok (.invokestatic 29, 3) := by decide +kernel
theorem d25_8 : decode prog_76_method_3_code 8 = .ok (.istore 4, 2) := by decide +kernel
theorem d25_10 : decode prog_76_method_3_code 10 = .ok (.iload 4, 2) := by decide +kernel
theorem d25_12 : decode prog_76_method_3_code 12 = .ok (.iload_n 1, 1) := by decide +kernel
theorem d25_13 : decode prog_76_method_3_code 13 = .ok (.isub, 1) := by decide +kernel
theorem d25_14 : decode prog_76_method_3_code 14 = .ok (.bipush 8, 2) := by decide +kernel
theorem d25_16 : decode prog_76_method_3_code 16 = .ok (.if_icmp .ge 11, 3) := by decide +kernel
theorem d25_19 : decode prog_76_method_3_code 19 = .ok (.iload_n 3, 1) := by decide +kernel
theorem d25_20 : decode prog_76_method_3_code 20 = .ok (.i2l, 1) := by decide +kernel
theorem d25_21 : decode prog_76_method_3_code 21 = .ok (.bipush 56, 2) := by decide +kernel
theorem d25_23 : decode prog_76_method_3_code 23 = .ok (.lshl, 1) := by decide +kernel
theorem d25_24 : decode prog_76_method_3_code 24 = .ok (.goto 4, 3) := by decide +kernel
theorem d25_28 : decode prog_76_method_3_code 28 = .ok (.lstore 5, 2) := by decide +kernel
theorem d25_30 : decode prog_76_method_3_code 30 = .ok (.iload_n 1, 1) := by decide +kernel
theorem d25_31 : decode prog_76_method_3_code 31 = .ok (.istore 7, 2) := by decide +kernel
theorem d25_33 : decode prog_76_method_3_code 33 = .ok (.iload 7, 2) := by decide +kernel
theorem d25_35 : decode prog_76_method_3_code 35 = .ok (.iload 4, 2) := by decide +kernel
theorem d25_37 : decode prog_76_method_3_code 37 = .ok (.if_icmp .ge 31, 3) := by decide +kernel
theorem d25_40 : decode prog_76_method_3_code 40 = .ok (.lload 5, 2) := by decide +kernel
theorem d25_42 : decode prog_76_method_3_code 42 = .ok (.aload_n 0, 1) := by decide +kernel
theorem d25_43 : decode prog_76_method_3_code 43 = .ok (.iload 7, 2) := by decide +kernel
theorem d25_45 : decode prog_76_method_3_code 45 = .ok (.baload, 1) := by decide +kernel
theorem d25_46 : decode prog_76_method_3_code 46 = .ok (.i2l, 1) := by decide +kernel
theorem d25_47 : decode prog_76_method_3_code 47 = .ok (.ldc2_w 21, 3) := by decide +kernel
theorem d25_50 : decode prog_76_method_3_code 50 = .ok (.land, 1) := by decide +kernel
theorem d25_51 : decode prog_76_method_3_code 51 = .ok (.iload 7, 2) := by decide +kernel
theorem d25_53 : decode prog_76_method_3_code 53 = .ok (.iload_n 1, 1) := by decide +kernel
theorem d25_54 : decode prog_76_method_3_code 54 = .ok (.isub, 1) := by decide +kernel
theorem d25_55 : decode prog_76_method_3_code 55 = .ok (.bipush 8, 2) := by decide +kernel
theorem d25_57 : decode prog_76_method_3_code 57 = .ok (.imul, 1) := by decide +kernel
theorem d25_58 : decode prog_76_method_3_code 58 = .ok (.lshl, 1) := by decide +kernel
theorem d25_59 : decode prog_76_method_3_code 59 = .ok (.lor, 1) := by decide +kernel
theorem d25_60 : decode prog_76_method_3_code 60 = .ok (.lstore 5, 2) := by decide +kernel
theorem d25_62 : decode prog_76_method_3_code 62 = .ok (.iinc 7 1, 3) := by decide +kernel
theorem d25_65 : decode prog_76_method_3_code 65 = .ok (.goto (-32), 3) := by decide +kernel
theorem d25_68 : decode prog_76_method_3_code 68 = .ok (.lload 5, 2) := by decide +kernel
theorem d25_70 : decode prog_76_method_3_code 70 = .ok (.lreturn, 1) := by decide +kernel
theorem d26_0 : decode jdk_29_method_69_code 0 = .ok (.iload_n 0, 1) := by decide +kernel
theorem d26_1 : decode jdk_29_method_69_code 1 = .ok (.iload_n 1, 1) := by decide +kernel
theorem d26_2 : decode jdk_29_method_69_code 2 = .ok (.if_icmp .gt 7, 3) := by decide +kernel
theorem d26_9 : decode jdk_29_method_69_code 9 = .ok (.iload_n 1, 1) := by decide +kernel
theorem d26_10 : decode jdk_29_method_69_code 10 = .ok (.ireturn, 1) := by decide +kernel
theorem d27_0 : decode jdk_35_method_51_code 0 = .ok (.lload_n 0, 1) := by decide +kernel
theorem d27_1 : decode jdk_35_method_51_code 1 = .ok (.iload_n 2, 1) := by decide +kernel
theorem d27_2 : decode jdk_35_method_51_code 2 = .ok (.lshl, 1) := by decide +kernel
theorem d27_3 : decode jdk_35_method_51_code 3 = .ok (.lload_n 0, 1) := by decide +kernel
theorem d27_4 : decode jdk_35_method_51_code 4 = .ok (.iload_n 2, 1) := by decide +kernel
theorem d27_5 : decode jdk_35_method_51_code 5 = .ok (.ineg, 1) := by decide +kernel
theorem d27_6 : decode jdk_35_method_51_code 6 = .ok (.lushr, 1) := by decide +kernel
theorem d27_7 : decode jdk_35_method_51_code 7 = .ok (.lor, 1) := by decide +kernel
theorem d27_8 : decode jdk_35_method_51_code 8 = .ok (.lreturn, 1) := by decide +kernel
theorem d28_0 : decode prog_73_method_6_code 0 = .ok (.iconst 0, 1) := by decide +kernel
theorem d28_1 : decode prog_73_method_6_code 1 = .ok (.istore_n 3, 1) := by decide +kernel
theorem d28_2 : decode prog_73_method_6_code 2 = .ok (.aload_n 0, 1) := by decide +kernel
theorem d28_3 : decode prog_73_method_6_code 3 = .ok (.getfield 7, 3) := by decide +kernel
theorem d28_6 : decode prog_73_method_6_code 6 = .ok (.iload_n 1, 1) := by decide +kernel
theorem d28_7 : decode prog_73_method_6_code 7 = .ok (.iload_n 3, 1) := by decide +kernel
theorem d28_8 : decode prog_73_method_6_code 8 = .ok (.iadd, 1) := by decide +kernel
theorem d28_9 : decode prog_73_method_6_code 9 = .ok (.baload, 1) := by decide +kernel
theorem d28_10 : decode prog_73_method_6_code 10 = .ok (.aload_n 0, 1) := by decide +kernel
theorem d28_11 : decode prog_73_method_6_code 11 = .ok (.getfield 7, 3) := by decide +kernel
theorem d28_14 : decode prog_73_method_6_code 14 = .ok (.iload_n 2, 1) := by decide +kernel
theorem d28_15 : decode prog_73_method_6_code 15 = .ok (.iload_n 3, 1) := by decide +kernel
theorem d28_16 : decode prog_73_method_6_code 16 = .ok (.iadd, 1) := by decide +kernel
theorem d28_17 : decode prog_73_method_6_code 17 = .ok (.baload, 1) := by decide +kernel
theorem d28_18 : decode prog_73_method_6_code 18 = .ok (.if_icmp .ne 22, 3) := by decide +kernel
theorem d28_21 : decode prog_73_method_6_code 21 = .ok (.aload_n 0, 1) := by decide +kernel
theorem d28_22 : decode prog_73_method_6_code 22 = .ok (.getfield 7, 3) := by decide +kernel
theorem d28_25 : decode prog_73_method_6_code 25 = .ok (.iload_n 1, 1) := by decide +kernel
theorem d28_26 : decode prog_73_method_6_code 26 = .ok (.iload_n 3, 1) := by decide +kernel
theorem d28_27 : decode prog_73_method_6_code 27 = .ok (.iadd, 1) := by decide +kernel
theorem d28_28 : decode prog_73_method_6_code 28 = .ok (.baload, 1) := by decide +kernel
theorem d28_29 : decode prog_73_method_6_code 29 = .ok (.bipush 58, 2) := by decide +kernel
theorem d28_31 : decode prog_73_method_6_code 31 = .ok (.if_icmp .eq 9, 3) := by decide +kernel
theorem d28_34 : decode prog_73_method_6_code 34 = .ok (.iinc 3 1, 3) := by decide +kernel
theorem d28_37 : decode prog_73_method_6_code 37 = .ok (.goto (-35), 3) := by decide +kernel
theorem d28_40 : decode prog_73_method_6_code 40 = .ok (.aload_n 0, 1) := by decide +kernel
theorem d28_41 : decode prog_73_method_6_code 41 = .ok (.getfield 7, 3) := by decide +kernel
theorem d28_44 : decode prog_73_method_6_code 44 = .ok (.iload_n 1, 1) := by decide +kernel
theorem d28_45 : decode prog_73_method_6_code 45 = .ok (.iload_n 3, 1) := by decide +kernel
theorem d28_46 : decode prog_73_method_6_code 46 = .ok (.iadd, 1) := by decide +kernel
theorem d28_47 : decode prog_73_method_6_code 47 = .ok (.baload, 1) := by decide +kernel
theorem d28_48 : decode prog_73_method_6_code 48 = .ok (.aload_n 0, 1) := by decide +kernel
theorem d28_49 : decode prog_73_method_6_code 49 = .ok (.getfield 7, 3) := by decide +kernel
theorem d28_52 : decode prog_73_method_6_code 52 = .ok (.iload_n 2, 1) := by decide +kernel
theorem d28_53 : decode prog_73_method_6_code 53 = .ok (.iload_n 3, 1) := by decide +kernel
theorem d28_54 : decode prog_73_method_6_code 54 = .ok (.iadd, 1) := by decide +kernel
theorem d28_55 : decode prog_73_method_6_code 55 = .ok (.baload, 1) := by decide +kernel
theorem d28_56 : decode prog_73_method_6_code 56 = .ok (.if_icmp .ne 7, 3) := by decide +kernel
theorem d28_59 : decode prog_73_method_6_code 59 = .ok (.iconst 1, 1) := by decide +kernel
theorem d28_60 : decode prog_73_method_6_code 60 = .ok (.goto 4, 3) := by decide +kernel
theorem d28_63 : decode prog_73_method_6_code 63 = .ok (.iconst 0, 1) := by decide +kernel
theorem d28_64 : decode prog_73_method_6_code 64 = .ok (.ireturn, 1) := by decide +kernel
theorem own_sat {Z : State} {a0 : Array Value} (hw : ∀ d ∈ tables_1, d.before a0 Z = true) : ∀ a ∈ Bundle.stringAtoms, a.before a0 Z = true := by
  intro a ha
  simp only [Bundle.stringAtoms, List.mem_cons, List.not_mem_nil, or_false] at ha
  rcases ha with rfl | rfl | rfl | rfl | rfl | rfl | rfl
  · exact (hw _ (List.mem_of_getElem? (i := 40) rfl))
  · exact (hw _ (List.mem_of_getElem? (i := 41) rfl))
  · exact (hw _ (List.mem_of_getElem? (i := 9) rfl))
  · exact (hw _ (List.mem_of_getElem? (i := 42) rfl))
  · exact (hw _ (List.mem_of_getElem? (i := 43) rfl))
  · exact (hw _ (List.mem_of_getElem? (i := 44) rfl))
  · exact (hw _ (List.mem_of_getElem? (i := 45) rfl))
def own_EL : List (String × Nat) := [("com/example/optpack/optpack/service/SectionNamesIsEmptyPinLaw", 7), ("java/lang/String", 7)]
theorem own_EW {Z : State} {a0 : Array Value} (hw : ∀ d ∈ tables_1, d.before a0 Z = true) : EW Z a0 own_EL := EW.cons (hw _ (List.mem_of_getElem? (i := 39) rfl)) (by decide) (EW.cons (hw _ (List.mem_of_getElem? (i := 145) rfl)) (by decide) EW.nil)
theorem ef_20 (m : MethodId) (x0 : Addr) : entryFrame m #[(.ref x0)] 1 = mkF m 0 #[.val (.ref x0)] [] := by first | (simp [entryFrame, mkF, argsToLocals, Value.category]; done) | rfl
set_option maxRecDepth 65536 in
set_option maxHeartbeats 40000000 in
theorem rm20 (l : Launch) (Z : State) (a0 : Array Value) (hw : ∀ d ∈ tables_1, d.before a0 Z = true) (oa : Addr) (h0 : Heap) (Sc : Fld Z h0 oa "java/lang/String" "coder" "B" (.int (0 : Int32))) (cs : Int32) (hcs : ¬ cs = (0 : Int32)) (S0 : Sta Z h0 "java/lang/String" "COMPACT_STRINGS" "Z" (.int cs)) :
    Con l (⟨"java/lang/String", "coder", "()B"⟩ : MethodName) jdk_42_method_152_code 1 (some .byte) [] ({ frames := 0, cells := 0, slots := 0, locals := 0 } : Room) #[(.ref oa)] Z h0 (fun v h L => v = some (.int (0 : Int32)) ∧ h = h0 ∧ L = []) := by
  refine Con.of (plainFor_of_name pn_0) ?_
  intro p e s m below meth c s₁ hx hZ hby hml hown hnm hret hlk X0 e0
  refine Ends.cast (ef_20 m oa) ?_
  show Ends none p e below s _ _ _ s₁ (mkF m 0 #[.val (.ref oa)] [])
  have O0 := Ok.refl h0 []
  refine Ends.getS X0 hx hZ hown (host := "") (Or.inl (hw _ (List.mem_of_getElem? (i := 56) rfl))) Via.refl e0 (own_sta_keep S0 O0.1 own_ns0) (hb hby d20_0) ?_
  intro T1 X1 e1
  refine E.ifN (q := 6) X1 hx (hb hby d20_3) (XT.i0_eq_f hcs) ?_
  refine E.aloadN (q := 7) X1 hx (hb hby d20_6) rfl rfl ?_
  refine Ends.getF X1 hx hZ hown (host := "") (Or.inl (hw _ (List.mem_of_getElem? (i := 57) rfl))) Via.refl e1 Sc (hb hby d20_7) ?_
  intro T2 X2 e2
  refine E.goto (q := 14) X2 hx (hb hby d20_10) ?_
  exact Ends.retS X2 hx hlk hret (by simp) rfl (hb hby d20_14) (by decide) (by decide) ⟨rfl, e2, rfl⟩
theorem ef_9 (m : MethodId) (x0 : Addr) : entryFrame m #[(.ref x0)] 1 = mkF m 0 #[.val (.ref x0)] [] := by first | (simp [entryFrame, mkF, argsToLocals, Value.category]; done) | rfl
set_option maxRecDepth 65536 in
set_option maxHeartbeats 40000000 in
theorem rm9 (l : Launch) (Z : State) (a0 : Array Value) (hw : ∀ d ∈ tables_1, d.before a0 Z = true) (oa : Addr) (h0 : Heap) (Sc : Fld Z h0 oa "java/lang/String" "coder" "B" (.int (0 : Int32))) (cs : Int32) (hcs : ¬ cs = (0 : Int32)) (S0 : Sta Z h0 "java/lang/String" "COMPACT_STRINGS" "Z" (.int cs)) :
    Con l (⟨"java/lang/String", "isLatin1", "()Z"⟩ : MethodName) jdk_42_method_154_code 1 (some .boolean) [] ({ frames := 0, cells := 0, slots := 0, locals := 0 } : Room) #[(.ref oa)] Z h0 (fun v h L => v = some (.int (1 : Int32)) ∧ h = h0 ∧ L = []) := by
  refine Con.of (plainFor_of_name pn_0) ?_
  intro p e s m below meth c s₁ hx hZ hby hml hown hnm hret hlk X0 e0
  refine Ends.cast (ef_9 m oa) ?_
  show Ends none p e below s _ _ _ s₁ (mkF m 0 #[.val (.ref oa)] [])
  have O0 := Ok.refl h0 []
  refine Ends.getS X0 hx hZ hown (host := "") (Or.inl (hw _ (List.mem_of_getElem? (i := 56) rfl))) Via.refl e0 (own_sta_keep S0 O0.1 own_ns0) (hb hby d9_0) ?_
  intro T3 X3 e3
  refine E.ifN (q := 6) X3 hx (hb hby d9_3) (XT.i0_eq_f hcs) ?_
  refine E.aloadN (q := 7) X3 hx (hb hby d9_6) rfl rfl ?_
  refine Ends.getF X3 hx hZ hown (host := "") (Or.inl (hw _ (List.mem_of_getElem? (i := 57) rfl))) Via.refl e3 Sc (hb hby d9_7) ?_
  intro T4 X4 e4
  refine E.ifN (q := 13) X4 hx (hb hby d9_10) (XT.i0_ne_f (by decide)) ?_
  refine E.iconst (q := 14) (v := (1 : Int32)) X4 hx (hb hby d9_13) rfl ?_
  refine E.goto (q := 18) X4 hx (hb hby d9_14) ?_
  exact Ends.retS X4 hx hlk hret (by simp) rfl (hb hby d9_18) (by decide) (by decide) ⟨rfl, e4, rfl⟩
theorem ef_19 (m : MethodId) (x0 : Addr) : entryFrame m #[(.ref x0)] 1 = mkF m 0 #[.val (.ref x0)] [] := by first | (simp [entryFrame, mkF, argsToLocals, Value.category]; done) | rfl
set_option maxRecDepth 65536 in
set_option maxHeartbeats 40000000 in
theorem rm19 (l : Launch) (Z : State) (a0 : Array Value) (hw : ∀ d ∈ tables_1, d.before a0 Z = true) (oa : Addr) (Va : Addr) (xs : List Int32) (h0 : Heap) (Es : Exa Z h0 oa "java/lang/String") (Svs : Fld Z h0 oa "java/lang/String" "value" "[B" (.ref Va)) (Scs : Fld Z h0 oa "java/lang/String" "coder" "B" (.int (0 : Int32))) (A_x : Ary Z h0 Va .byte (xs.map Value.int)) (cs : Int32) (hcs : ¬ cs = (0 : Int32)) (S0 : Sta Z h0 "java/lang/String" "COMPACT_STRINGS" "Z" (.int cs)) :
    Con l (⟨"java/lang/String", "length", "()I"⟩ : MethodName) jdk_42_method_54_code 1 (some .int) [] ({ frames := 1, cells := 0, slots := 0, locals := 24 } : Room) #[(.ref oa)] Z h0 (fun v h L => v = some (.int (Int32.ofNat xs.length)) ∧ h = h0 ∧ L = []) := by
  refine Con.of (plainFor_of_name pn_0) ?_
  intro p e s m below meth c s₁ hx hZ hby hml hown hnm hret hlk X0 e0
  refine Ends.cast (ef_19 m oa) ?_
  show Ends none p e below s _ _ _ s₁ (mkF m 0 #[.val (.ref oa)] [])
  have O0 := Ok.refl h0 []
  refine E.aloadN (q := 1) X0 hx (hb hby d19_0) rfl rfl ?_
  refine Ends.getF X0 hx hZ hown (host := "") (Or.inl (hw _ (List.mem_of_getElem? (i := 58) rfl))) Via.refl e0 Svs (hb hby d19_1) ?_
  intro T5 X5 e5
  refine Ends.alen X5 hx hZ e5 A_x (hb hby d19_4) (n := (Int32.ofNat xs.length)) (by rw [List.length_map]) ?_
  refine E.aloadN (q := 6) X5 hx (hb hby d19_5) rfl rfl ?_
  refine Ends.callV X5 hx hZ hown (hw _ (List.mem_of_getElem? (i := 102) rfl)) (hw _ (List.mem_of_getElem? (i := 103) rfl)) (hw _ (List.mem_of_getElem? (i := 105) rfl)) (hw _ (List.mem_of_getElem? (i := 104) rfl)) (hw _ (List.mem_of_getElem? (i := 40) rfl)) (hw _ (List.mem_of_getElem? (i := 106) rfl)) (by decide) (argsL := []) (rest := [(.int (Int32.ofNat xs.length))]) e5 Es (rm20 l Z a0 hw oa _ Scs cs hcs S0) (W := 1) (by decide) (by decide) (by rw [hml]; rfl) (lenOf pd_0 rfl) (Nat.le_of_eq rfl) (hb hby d19_6) (by decide) (by decide) rfl ?_
  rintro T6 v6 L6 X6 ⟨rfl, e6, rfl⟩
  rw [List.append_nil] at X6
  show Ends none p e below s _ _ _ T6 (mkF m 9 #[.val (.ref oa)] [(.int (0 : Int32)), (.int (Int32.ofNat xs.length))])
  refine E.ishr (q := 10) X6 hx (hb hby d19_9) ?_
  exact Ends.retI X6 hx hlk hret (hb hby d19_10) (by decide) (by decide) ⟨by rw [own_shr0], e6, rfl⟩
theorem efrmPn (m : MethodId) (x0 : Int32) (x1 : Int32) : entryFrame m #[(.int x0), (.int x1), .null] 3 = mkF m 0 #[.val (.int x0), .val (.int x1), .val .null] [] := by first | (simp [entryFrame, mkF, argsToLocals, Value.category]; done) | rfl
set_option maxRecDepth 65536 in
set_option maxHeartbeats 40000000 in
theorem rmPn (l : Launch) (Z : State) (a0 : Array Value) (hw : ∀ d ∈ tables_1, d.before a0 Z = true) (k n : Nat) (hk : k < n) (hn : n < 2 ^ 31) (h0 : Heap) :
    Con l (⟨"jdk/internal/util/Preconditions", "checkIndex", "(IILjava/util/function/BiFunction;)I"⟩ : MethodName) jdk_41_method_11_code 3 (some .int) [] ({ frames := 0, cells := 0, slots := 0, locals := 0 } : Room) #[(.int (Int32.ofNat k)), (.int (Int32.ofNat n)), .null] Z h0 (fun v h L => v = some (.int (Int32.ofNat k)) ∧ h = h0 ∧ L = []) := by
  refine Con.of (plainFor_of_name pn_1) ?_
  intro p e s m below meth c s₁ hx hZ hby hml hown hnm hret hlk X0 e0
  refine Ends.cast (efrmPn m (Int32.ofNat k) (Int32.ofNat n)) ?_
  show Ends none p e below s _ _ _ s₁ (mkF m 0 #[.val (.int (Int32.ofNat k)), .val (.int (Int32.ofNat n)), .val .null] [])
  have O0 := Ok.refl h0 []
  refine E.iloadN (q := 1) X0 hx (hb hby d12_0) rfl ?_
  refine E.ifN (q := 4) X0 hx (hb hby d12_1) (XT.i0_lt_f (own_clamp (by omega)).2) ?_
  refine E.iloadN (q := 5) X0 hx (hb hby d12_4) rfl ?_
  refine E.iloadN (q := 6) X0 hx (hb hby d12_5) rfl ?_
  refine E.icmpY (q := 16) X0 hx (hb hby d12_6) (XT.ii_lt_t ((own_ltN (by omega) hn).mpr hk)) ?_
  refine E.iloadN (q := 17) X0 hx (hb hby d12_16) rfl ?_
  exact Ends.retI X0 hx hlk hret (hb hby d12_17) (by decide) (by decide) ⟨rfl, e0, rfl⟩
theorem efrmPr (m : MethodId) (x0 : Int32) (x1 : Int32) (x2 : Addr) : entryFrame m #[(.int x0), (.int x1), (.ref x2)] 3 = mkF m 0 #[.val (.int x0), .val (.int x1), .val (.ref x2)] [] := by first | (simp [entryFrame, mkF, argsToLocals, Value.category]; done) | rfl
set_option maxRecDepth 65536 in
set_option maxHeartbeats 40000000 in
theorem rmPr (l : Launch) (Z : State) (a0 : Array Value) (hw : ∀ d ∈ tables_1, d.before a0 Z = true) (k n : Nat) (hk : k < n) (hn : n < 2 ^ 31) (of : Addr) (h0 : Heap) :
    Con l (⟨"jdk/internal/util/Preconditions", "checkIndex", "(IILjava/util/function/BiFunction;)I"⟩ : MethodName) jdk_41_method_11_code 3 (some .int) [] ({ frames := 0, cells := 0, slots := 0, locals := 0 } : Room) #[(.int (Int32.ofNat k)), (.int (Int32.ofNat n)), (.ref of)] Z h0 (fun v h L => v = some (.int (Int32.ofNat k)) ∧ h = h0 ∧ L = []) := by
  refine Con.of (plainFor_of_name pn_1) ?_
  intro p e s m below meth c s₁ hx hZ hby hml hown hnm hret hlk X0 e0
  refine Ends.cast (efrmPr m (Int32.ofNat k) (Int32.ofNat n) of) ?_
  show Ends none p e below s _ _ _ s₁ (mkF m 0 #[.val (.int (Int32.ofNat k)), .val (.int (Int32.ofNat n)), .val (.ref of)] [])
  have O0 := Ok.refl h0 []
  refine E.iloadN (q := 1) X0 hx (hb hby d12_0) rfl ?_
  refine E.ifN (q := 4) X0 hx (hb hby d12_1) (XT.i0_lt_f (own_clamp (by omega)).2) ?_
  refine E.iloadN (q := 5) X0 hx (hb hby d12_4) rfl ?_
  refine E.iloadN (q := 6) X0 hx (hb hby d12_5) rfl ?_
  refine E.icmpY (q := 16) X0 hx (hb hby d12_6) (XT.ii_lt_t ((own_ltN (by omega) hn).mpr hk)) ?_
  refine E.iloadN (q := 17) X0 hx (hb hby d12_16) rfl ?_
  exact Ends.retI X0 hx hlk hret (hb hby d12_17) (by decide) (by decide) ⟨rfl, e0, rfl⟩
theorem own_pc (l : Launch) (Z : State) (a0 : Array Value) (hw : ∀ d ∈ tables_1, d.before a0 Z = true) (k n : Nat) (hk : k < n) (hn : n < 2 ^ 31) (h0 : Heap) (fv : Value) (hfv : fv = .null ∨ ∃ a, fv = .ref a) : Con l (⟨"jdk/internal/util/Preconditions", "checkIndex", "(IILjava/util/function/BiFunction;)I"⟩ : MethodName) jdk_41_method_11_code 3 (some .int) [] ({ frames := 0, cells := 0, slots := 0, locals := 0 } : Room) #[.int (Int32.ofNat k), .int (Int32.ofNat n), fv] Z h0 (fun v h L => v = some (.int (Int32.ofNat k)) ∧ h = h0 ∧ L = []) := by
  rcases hfv with rfl | ⟨a, rfl⟩
  · exact rmPn l Z a0 hw k n hk hn h0
  · exact rmPr l Z a0 hw k n hk hn a h0
theorem ef_11 (m : MethodId) (x0 : Int32) (x1 : Int32) : entryFrame m #[(.int x0), (.int x1)] 2 = mkF m 0 #[.val (.int x0), .val (.int x1)] [] := by first | (simp [entryFrame, mkF, argsToLocals, Value.category]; done) | rfl
set_option maxRecDepth 65536 in
set_option maxHeartbeats 40000000 in
theorem rm11 (l : Launch) (Z : State) (a0 : Array Value) (hw : ∀ d ∈ tables_1, d.before a0 Z = true) (k n : Nat) (hk : k < n) (hn : n < 2 ^ 31) (h0 : Heap) (cs : Int32) (hcs : ¬ cs = (0 : Int32)) (S0 : Sta Z h0 "java/lang/String" "COMPACT_STRINGS" "Z" (.int cs)) (fv : Value) (hfv : fv = .null ∨ ∃ a, fv = .ref a) (S1 : Sta Z h0 "jdk/internal/util/Preconditions" "SIOOBE_FORMATTER" "Ljava/util/function/BiFunction;" fv) :
    Con l (⟨"java/lang/String", "checkIndex", "(II)V"⟩ : MethodName) jdk_42_method_155_code 2 none [] ({ frames := 1, cells := 0, slots := 0, locals := 24 } : Room) #[(.int (Int32.ofNat k)), (.int (Int32.ofNat n))] Z h0 (fun v h L => v = none ∧ h = h0 ∧ L = []) := by
  refine Con.of (plainFor_of_name pn_0) ?_
  intro p e s m below meth c s₁ hx hZ hby hml hown hnm hret hlk X0 e0
  refine Ends.cast (ef_11 m (Int32.ofNat k) (Int32.ofNat n)) ?_
  show Ends none p e below s _ _ _ s₁ (mkF m 0 #[.val (.int (Int32.ofNat k)), .val (.int (Int32.ofNat n))] [])
  have O0 := Ok.refl h0 []
  refine E.iloadN (q := 1) X0 hx (hb hby d11_0) rfl ?_
  refine E.iloadN (q := 2) X0 hx (hb hby d11_1) rfl ?_
  refine Ends.getS X0 hx hZ hown (host := "") (Or.inl (hw _ (List.mem_of_getElem? (i := 66) rfl))) Via.refl e0 (own_sta_keep S1 O0.1 own_ns0) (hb hby d11_2) ?_
  intro T7 X7 e7
  refine Ends.callS X7 hx hZ hown (hw _ (List.mem_of_getElem? (i := 68) rfl)) (hw _ (List.mem_of_getElem? (i := 69) rfl)) (hw _ (List.mem_of_getElem? (i := 67) rfl)) (hw _ (List.mem_of_getElem? (i := 70) rfl)) (by decide) (argsL := [(.int (Int32.ofNat k)), (.int (Int32.ofNat n)), fv]) (rest := []) e7 (own_pc l Z a0 hw k n hk hn _ fv hfv) (W := 0) (by decide) (by decide) (by rw [hml]; rfl) (lenOf pd_1 rfl) (Nat.le_of_eq rfl) (hb hby d11_5) (by decide) (by decide) rfl ?_
  rintro T8 v8 L8 X8 ⟨rfl, e8, rfl⟩
  rw [List.append_nil] at X8
  show Ends none p e below s _ _ _ T8 (mkF m 8 #[.val (.int (Int32.ofNat k)), .val (.int (Int32.ofNat n))] [(.int (Int32.ofNat k))])
  refine E.pop (q := 9) X8 hx (hb hby d11_8) rfl ?_
  exact Ends.retV X8 hx hlk hret (hb hby d11_9) (by decide) (by decide) ⟨rfl, e8, rfl⟩
theorem ef_10 (m : MethodId) (x0 : Addr) (x1 : Int32) : entryFrame m #[(.ref x0), (.int x1)] 2 = mkF m 0 #[.val (.ref x0), .val (.int x1)] [] := by first | (simp [entryFrame, mkF, argsToLocals, Value.category]; done) | rfl
set_option maxRecDepth 65536 in
set_option maxHeartbeats 40000000 in
theorem rm10 (l : Launch) (Z : State) (a0 : Array Value) (hw : ∀ d ∈ tables_1, d.before a0 Z = true) (oa : Addr) (k : Nat) (xs : List Int32) (x : Int32) (hk : xs[k]? = some x) (h0 : Heap) (A_x : Ary Z h0 oa .byte (xs.map Value.int)) (cs : Int32) (hcs : ¬ cs = (0 : Int32)) (S0 : Sta Z h0 "java/lang/String" "COMPACT_STRINGS" "Z" (.int cs)) (fv : Value) (hfv : fv = .null ∨ ∃ a, fv = .ref a) (S1 : Sta Z h0 "jdk/internal/util/Preconditions" "SIOOBE_FORMATTER" "Ljava/util/function/BiFunction;" fv) :
    Con l (⟨"java/lang/StringLatin1", "charAt", "([BI)C"⟩ : MethodName) jdk_43_method_2_code 2 (some .char) [] ({ frames := 2, cells := 0, slots := 0, locals := 48 } : Room) #[(.ref oa), (.int (Int32.ofNat k))] Z h0 (fun v h L => v = some (.int ((x &&& (255 : Int32)).toUInt32.toUInt16.toUInt32.toInt32)) ∧ h = h0 ∧ L = []) := by
  refine Con.of (plainFor_of_name pn_2) ?_
  intro p e s m below meth c s₁ hx hZ hby hml hown hnm hret hlk X0 e0
  refine Ends.cast (ef_10 m oa (Int32.ofNat k)) ?_
  show Ends none p e below s _ _ _ s₁ (mkF m 0 #[.val (.ref oa), .val (.int (Int32.ofNat k))] [])
  have O0 := Ok.refl h0 []
  have lx : xs.length < 2 ^ 31 := by have := A_x.len; rwa [List.length_map] at this
  have hkl : k < xs.length := (List.getElem?_eq_some_iff.mp hk).1
  refine E.iloadN (q := 1) X0 hx (hb hby d10_0) rfl ?_
  refine E.aloadN (q := 2) X0 hx (hb hby d10_1) rfl rfl ?_
  refine Ends.alen X0 hx hZ e0 A_x (hb hby d10_2) (n := (Int32.ofNat xs.length)) (by rw [List.length_map]) ?_
  refine Ends.callS X0 hx hZ hown (hw _ (List.mem_of_getElem? (i := 63) rfl)) (hw _ (List.mem_of_getElem? (i := 64) rfl)) (hw _ (List.mem_of_getElem? (i := 40) rfl)) (hw _ (List.mem_of_getElem? (i := 65) rfl)) (by decide) (argsL := [(.int (Int32.ofNat k)), (.int (Int32.ofNat xs.length))]) (rest := []) e0 (rm11 l Z a0 hw k xs.length hkl lx _ cs hcs S0 fv hfv S1) (W := 0) (by decide) (by decide) (by rw [hml]; rfl) (lenOf pd_2 rfl) (Nat.le_of_eq rfl) (hb hby d10_3) (by decide) (by decide) rfl ?_
  rintro T9 v9 L9 X9 ⟨rfl, e9, rfl⟩
  rw [List.append_nil] at X9
  show Ends none p e below s _ _ _ T9 (mkF m 6 #[.val (.ref oa), .val (.int (Int32.ofNat k))] [])
  refine E.aloadN (q := 7) X9 hx (hb hby d10_6) rfl rfl ?_
  refine E.iloadN (q := 8) X9 hx (hb hby d10_7) rfl ?_
  refine Ends.bld X9 hx hZ e9 A_x (i := k) (v := .int x) rfl (by rw [List.getElem?_map, hk]; rfl) (hb hby d10_8) ?_
  show Ends none p e below s _ _ _ T9 (mkF m 9 #[.val (.ref oa), .val (.int (Int32.ofNat k))] [(.int x)])
  refine E.sipush (q := 12) (v := (255 : Int32)) X9 hx (hb hby d10_9) rfl ?_
  refine E.iand (q := 13) X9 hx (hb hby d10_12) ?_
  refine E.i2c (q := 14) X9 hx (hb hby d10_13) ?_
  exact Ends.retS X9 hx hlk hret (by simp) (congrArg Value.int (own_ch rfl).2) (hb hby d10_14) (by decide) (by decide) ⟨rfl, e9, rfl⟩
theorem ef_8 (m : MethodId) (x0 : Addr) (x1 : Int32) : entryFrame m #[(.ref x0), (.int x1)] 2 = mkF m 0 #[.val (.ref x0), .val (.int x1)] [] := by first | (simp [entryFrame, mkF, argsToLocals, Value.category]; done) | rfl
set_option maxRecDepth 65536 in
set_option maxHeartbeats 40000000 in
theorem rm8 (l : Launch) (Z : State) (a0 : Array Value) (hw : ∀ d ∈ tables_1, d.before a0 Z = true) (oa : Addr) (Va : Addr) (k : Nat) (xs : List Int32) (x : Int32) (hk : xs[k]? = some x) (h0 : Heap) (Es : Exa Z h0 oa "java/lang/String") (Svs : Fld Z h0 oa "java/lang/String" "value" "[B" (.ref Va)) (Scs : Fld Z h0 oa "java/lang/String" "coder" "B" (.int (0 : Int32))) (A_x : Ary Z h0 Va .byte (xs.map Value.int)) (cs : Int32) (hcs : ¬ cs = (0 : Int32)) (S0 : Sta Z h0 "java/lang/String" "COMPACT_STRINGS" "Z" (.int cs)) (fv : Value) (hfv : fv = .null ∨ ∃ a, fv = .ref a) (S1 : Sta Z h0 "jdk/internal/util/Preconditions" "SIOOBE_FORMATTER" "Ljava/util/function/BiFunction;" fv) :
    Con l (⟨"java/lang/String", "charAt", "(I)C"⟩ : MethodName) jdk_42_method_56_code 2 (some .char) [] ({ frames := 3, cells := 0, slots := 0, locals := 72 } : Room) #[(.ref oa), (.int (Int32.ofNat k))] Z h0 (fun v h L => v = some (.int ((x &&& (255 : Int32)).toUInt32.toUInt16.toUInt32.toInt32)) ∧ h = h0 ∧ L = []) := by
  refine Con.of (plainFor_of_name pn_0) ?_
  intro p e s m below meth c s₁ hx hZ hby hml hown hnm hret hlk X0 e0
  refine Ends.cast (ef_8 m oa (Int32.ofNat k)) ?_
  show Ends none p e below s _ _ _ s₁ (mkF m 0 #[.val (.ref oa), .val (.int (Int32.ofNat k))] [])
  have O0 := Ok.refl h0 []
  refine E.aloadN (q := 1) X0 hx (hb hby d8_0) rfl rfl ?_
  refine Ends.callV X0 hx hZ hown (hw _ (List.mem_of_getElem? (i := 51) rfl)) (hw _ (List.mem_of_getElem? (i := 52) rfl)) (hw _ (List.mem_of_getElem? (i := 54) rfl)) (hw _ (List.mem_of_getElem? (i := 53) rfl)) (hw _ (List.mem_of_getElem? (i := 40) rfl)) (hw _ (List.mem_of_getElem? (i := 55) rfl)) (by decide) (argsL := []) (rest := []) e0 Es (rm9 l Z a0 hw oa _ Scs cs hcs S0) (W := 0) (by decide) (by decide) (by rw [hml]; rfl) (lenOf pd_3 rfl) (Nat.le_of_eq rfl) (hb hby d8_1) (by decide) (by decide) rfl ?_
  rintro T10 v10 L10 X10 ⟨rfl, e10, rfl⟩
  rw [List.append_nil] at X10
  show Ends none p e below s _ _ _ T10 (mkF m 4 #[.val (.ref oa), .val (.int (Int32.ofNat k))] [(.int (1 : Int32))])
  refine E.ifN (q := 7) X10 hx (hb hby d8_4) (XT.i0_eq_f (by decide)) ?_
  refine E.aloadN (q := 8) X10 hx (hb hby d8_7) rfl rfl ?_
  refine Ends.getF X10 hx hZ hown (host := "") (Or.inl (hw _ (List.mem_of_getElem? (i := 58) rfl))) Via.refl e10 Svs (hb hby d8_8) ?_
  intro T11 X11 e11
  refine E.iloadN (q := 12) X11 hx (hb hby d8_11) rfl ?_
  refine Ends.callS X11 hx hZ hown (hw _ (List.mem_of_getElem? (i := 59) rfl)) (hw _ (List.mem_of_getElem? (i := 60) rfl)) (hw _ (List.mem_of_getElem? (i := 61) rfl)) (hw _ (List.mem_of_getElem? (i := 62) rfl)) (by decide) (argsL := [(.ref Va), (.int (Int32.ofNat k))]) (rest := []) e11 (rm10 l Z a0 hw Va k xs x hk _ A_x cs hcs S0 fv hfv S1) (W := 0) (by decide) (by decide) (by rw [hml]; rfl) (lenOf pd_4 rfl) (Nat.le_of_eq rfl) (hb hby d8_12) (by decide) (by decide) rfl ?_
  rintro T12 v12 L12 X12 ⟨rfl, e12, rfl⟩
  rw [List.append_nil] at X12
  show Ends none p e below s _ _ _ T12 (mkF m 15 #[.val (.ref oa), .val (.int (Int32.ofNat k))] [(.int ((x &&& (255 : Int32)).toUInt32.toUInt16.toUInt32.toInt32))])
  exact Ends.retS X12 hx hlk hret (by simp) (congrArg Value.int (own_ch rfl).2) (hb hby d8_15) (by decide) (by decide) ⟨rfl, e12, rfl⟩
theorem ef_7 (m : MethodId) (x0 : Int32) : entryFrame m #[(.int x0)] 1 = mkF m 0 #[.val (.int x0)] [] := by first | (simp [entryFrame, mkF, argsToLocals, Value.category]; done) | rfl
set_option maxRecDepth 65536 in
set_option maxHeartbeats 40000000 in
theorem rm7 (l : Launch) (Z : State) (a0 : Array Value) (hw : ∀ d ∈ tables_1, d.before a0 Z = true) (x : Int32) (h0 : Heap) (cs : Int32) (hcs : ¬ cs = (0 : Int32)) (S0 : Sta Z h0 "java/lang/String" "COMPACT_STRINGS" "Z" (.int cs)) (fv : Value) (hfv : fv = .null ∨ ∃ a, fv = .ref a) (S1 : Sta Z h0 "jdk/internal/util/Preconditions" "SIOOBE_FORMATTER" "Ljava/util/function/BiFunction;" fv) :
    ConH l (⟨"com/example/optpack/optpack/service/SectionNamesIsEmptyPinLaw", "pick", "(I)C"⟩ : MethodName) method_2_code 1 (some .char) [] ({ frames := 4, cells := 2, slots := 260, locals := 96 } : Room) #[(.int x)] Z h0 own_EL (fun v h L => ∃ z, v = some (.int z) ∧ own_A z ∧ Ok h0 h [] L) := by
  refine ConH.of (plainFor_of_name pn_3) ?_
  intro p e s m below meth c s₁ vm0 HC0 hx hZ hby hml hown hnm hret hlk X0 e0
  refine Ends.cast (ef_7 m x) ?_
  show Ends (some (CHr Z own_EL vm0 h0)) p e below s _ _ _ s₁ (mkF m 0 #[.val (.int x)] [])
  have O0 := Ok.refl h0 []
  refine Ends.ldcR X0 hx hZ hown (hw _ (List.mem_of_getElem? (i := 39) rfl)) (own_sat hw) e0 (Nat.zero_le _) (own_EW hw) (List.mem_of_getElem? (i := 0) rfl) HC0.1 (vs := [(.int (65 : Int32)), (.int (66 : Int32)), (.int (67 : Int32)), (.int (68 : Int32)), (.int (69 : Int32)), (.int (70 : Int32)), (.int (71 : Int32)), (.int (72 : Int32)), (.int (73 : Int32)), (.int (74 : Int32)), (.int (75 : Int32)), (.int (76 : Int32)), (.int (77 : Int32)), (.int (78 : Int32)), (.int (79 : Int32)), (.int (80 : Int32)), (.int (81 : Int32)), (.int (82 : Int32)), (.int (83 : Int32)), (.int (84 : Int32)), (.int (85 : Int32)), (.int (86 : Int32)), (.int (87 : Int32)), (.int (88 : Int32)), (.int (89 : Int32)), (.int (90 : Int32)), (.int (97 : Int32)), (.int (98 : Int32)), (.int (99 : Int32)), (.int (100 : Int32)), (.int (101 : Int32)), (.int (102 : Int32)), (.int (103 : Int32)), (.int (104 : Int32)), (.int (105 : Int32)), (.int (106 : Int32)), (.int (107 : Int32)), (.int (108 : Int32)), (.int (109 : Int32)), (.int (110 : Int32)), (.int (111 : Int32)), (.int (112 : Int32)), (.int (113 : Int32)), (.int (114 : Int32)), (.int (115 : Int32)), (.int (116 : Int32)), (.int (117 : Int32)), (.int (118 : Int32)), (.int (119 : Int32)), (.int (120 : Int32)), (.int (121 : Int32)), (.int (122 : Int32)), (.int (48 : Int32)), (.int (49 : Int32)), (.int (50 : Int32)), (.int (51 : Int32)), (.int (52 : Int32)), (.int (53 : Int32)), (.int (54 : Int32)), (.int (55 : Int32)), (.int (56 : Int32)), (.int (57 : Int32)), (.int (45 : Int32)), (.int (95 : Int32))]) (z := 64) (by decide) (by decide) (by decide) (hb hby d7_0) 256 (by decide) (by decide) (by decide) (by decide) ?_
  intro s T13 h13 c13 d13 X13 e13 E13 hc13 hZ hown Ea13 Fc13 Fv13 A13 sf13
  have O13 := O0.ext E13
  have HC14 := HC0.trans hc13
  show Ends (some (CHr Z own_EL vm0 h0)) p e below s _ _ _ T13 (mkF m 2 #[.val (.int x)] [(.ref c13)])
  refine E.iloadN (q := 3) X13 hx (hb hby d7_2) rfl ?_
  refine E.bipush (q := 5) (v := (63 : Int32)) X13 hx (hb hby d7_3) rfl ?_
  refine E.iand (q := 6) X13 hx (hb hby d7_5) ?_
  obtain ⟨kk, hkk, ekk⟩ := own_and63 x
  obtain ⟨x', hx', hA⟩ := own_al_at hkk
  rw [ekk]
  show Ends (some (CHr Z own_EL vm0 h0)) p e below s _ _ _ T13 (mkF m 6 #[.val (.int x)] [(.int (Int32.ofNat kk)), (.ref c13)])
  refine Ends.callV X13 hx hZ hown (hw _ (List.mem_of_getElem? (i := 46) rfl)) (hw _ (List.mem_of_getElem? (i := 47) rfl)) (hw _ (List.mem_of_getElem? (i := 49) rfl)) (hw _ (List.mem_of_getElem? (i := 48) rfl)) (hw _ (List.mem_of_getElem? (i := 40) rfl)) (hw _ (List.mem_of_getElem? (i := 50) rfl)) (by decide) (argsL := [(.int (Int32.ofNat kk))]) (rest := []) e13 Ea13 (rm8 l Z a0 hw c13 d13 kk own_al x' hx' _ Ea13 Fv13 Fc13 A13 cs hcs (own_sta_keep S0 O13.1 own_ns0) fv hfv (own_sta_keep S1 O13.1 own_ns0)) (W := 0) (by decide) (by decide) (by rw [hml]; rfl) (lenOf pd_5 rfl) (Nat.le_of_eq rfl) (hb hby d7_6) (by decide) (by decide) rfl ?_
  rintro T15 v15 L15 X15 ⟨rfl, e15, rfl⟩
  rw [List.append_nil] at X15
  rw [← e15] at O13
  exact Ends.retS X15 hx hlk hret (by simp) (congrArg Value.int hA.2.1) (hb hby d7_9) (by decide) (by decide) ⟨⟨_, rfl, hA, O13⟩, by first | exact (Nat.le_refl _) | (rw [e15]; exact (Nat.le_refl _))⟩ (hF := own_chret X15 hZ (own_EW hw) HC14 (by first | rfl | assumption))
theorem efI4_0 (m : MethodId) (x0 : Addr) (x1 : Addr) (x2 : Int32) (x3 : Int32) : entryFrame m #[(.ref x0), (.ref x1), (.int x2), (.int x3), .null] 6 = mkF m 0 #[.val (.ref x0), .val (.ref x1), .val (.int x2), .val (.int x3), .val .null, .unset] [] := by first | (simp [entryFrame, mkF, argsToLocals, Value.category]; done) | rfl
set_option maxRecDepth 65536 in
set_option maxHeartbeats 40000000 in
theorem rmI4_0 (l : Launch) (Z : State) (a0 : Array Value) (hw : ∀ d ∈ tables_1, d.before a0 Z = true) (oa : Addr) (oc : Addr) (h0 : Heap) (E0 : Exa Z h0 oa "java/lang/String") (F_v : Fld Z h0 oa "java/lang/String" "value" "[B" .null) (F_c : Fld Z h0 oa "java/lang/String" "coder" "B" (.int (0 : Int32))) (A_c : Ary Z h0 oc .char []) :
    ConH l (⟨"java/lang/String", "<init>", "([CIILjava/lang/Void;)V"⟩ : MethodName) jdk_42_method_149_code 6 none [] ({ frames := 1, cells := 4, slots := 8, locals := 24 } : Room) #[(.ref oa), (.ref oc), (.int (0 : Int32)), (.int (0 : Int32)), .null] Z h0 own_EL (fun v h L => v = none ∧ ∃ V, Ok h0 h [oa] L ∧ Fld Z h oa "java/lang/String" "value" "[B" (.ref V) ∧ Fld Z h oa "java/lang/String" "coder" "B" (.int (0 : Int32)) ∧ Ary Z h V .byte []) := by
  refine ConH.of (plainFor_of_name pn_0) ?_
  intro p e s m below meth c s₁ vm0 HC0 hx hZ hby hml hown hnm hret hlk X0 e0
  refine Ends.cast (efI4_0 m oa oc (0 : Int32) (0 : Int32)) ?_
  show Ends (some (CHr Z own_EL vm0 h0)) p e below s _ _ _ s₁ (mkF m 0 #[.val (.ref oa), .val (.ref oc), .val (.int (0 : Int32)), .val (.int (0 : Int32)), .val .null, .unset] [])
  have O0 := Ok.refl h0 [oa]
  have Z0 : Safe Z own_EL s.vm h0 oa := own_safe_blank hZ.alike E0 F_v
  refine E.aloadN (q := 1) X0 hx (hb hby d14_0) rfl rfl ?_
  refine Ends.initO X0 hx hZ hown (hw _ (List.mem_of_getElem? (i := 79) rfl)) (hw _ (List.mem_of_getElem? (i := 7) rfl)) (hw _ (List.mem_of_getElem? (i := 8) rfl)) e0 (by rw [hml]; rfl) (hb hby d14_1) (by decide) (W := 0) (Nat.le_of_eq rfl) (by decide) ?_
  intro T16 X16 e16
  refine E.iloadN (q := 5) X16 hx (hb hby d14_4) rfl ?_
  refine E.ifN (q := 8) X16 hx (hb hby d14_5) (XT.i0_ne_f (by decide)) ?_
  refine E.aloadN (q := 9) X16 hx (hb hby d14_8) rfl rfl ?_
  refine Ends.ldcR X16 hx hZ hown (hw _ (List.mem_of_getElem? (i := 145) rfl)) (own_sat hw) e16 (Nat.zero_le _) (own_EW hw) (List.mem_of_getElem? (i := 1) rfl) HC0.1 (vs := []) (z := 0) (by decide) (by decide) (by decide) (hb hby d14_9) 0 (by decide) (by decide) (by decide) (by decide) ?_
  intro s T17 h17 c17 d17 X17 e17 E17 hc17 hZ hown Ea17 Fc17 Fv17 A17 sf17
  have O17 := O0.ext E17
  have HC18 := HC0.trans hc17
  show Ends (some (CHr Z own_EL vm0 h0)) p e below s _ _ _ T17 (mkF m 11 #[.val (.ref oa), .val (.ref oc), .val (.int (0 : Int32)), .val (.int (0 : Int32)), .val .null, .unset] [(.ref c17), (.ref oa)])
  have f19 := CHr.safe hc17 E0.lt Z0
  have nd17 := sf17 oa f19
  refine Ends.getF X17 hx hZ hown (host := "") (Or.inl (hw _ (List.mem_of_getElem? (i := 58) rfl))) Via.refl e17 Fv17 (hb hby d14_11) ?_
  intro T20 X20 e20
  have f21 := F_v.ext E17
  have f22 := E0.ext E17
  refine Ends.putF X20 hx hZ hown (host := "") (Or.inl (hw _ (List.mem_of_getElem? (i := 58) rfl))) Via.refl e20 f21 f22 (Or.inr ⟨(hw _ (List.mem_of_getElem? (i := 42) rfl)), rfl, hnm⟩) (hw _ (List.mem_of_getElem? (i := 41) rfl)) (ty := (.array .byte)) (by decide) rfl rfl (hb hby d14_14) ?_
  intro T23 h23 X23 e23 W23 Fw23
  have O23 := O17.wr W23 (Or.inl (List.mem_of_getElem? (i := 0) rfl))
  have HC24 := HC18.trans (CHr.wr W23 f19 HC18.1)
  refine E.aloadN (q := 18) X23 hx (hb hby d14_17) rfl rfl ?_
  refine Ends.ldcR X23 hx hZ hown (hw _ (List.mem_of_getElem? (i := 145) rfl)) (own_sat hw) e23 (Nat.le_trans (Nat.le_refl _) (own_wr_le W23)) (own_EW hw) (List.mem_of_getElem? (i := 1) rfl) HC24.1 (vs := []) (z := 0) (by decide) (by decide) (by decide) (hb hby d14_18) 0 (by decide) (by decide) (by decide) (by decide) ?_
  intro s T25 h25 c25 d25 X25 e25 E25 hc25 hZ hown Ea25 Fc25 Fv25 A25 sf25
  have O25 := O23.ext E25
  have HC26 := HC24.trans hc25
  show Ends (some (CHr Z own_EL vm0 h0)) p e below s _ _ _ T25 (mkF m 20 #[.val (.ref oa), .val (.ref oc), .val (.int (0 : Int32)), .val (.int (0 : Int32)), .val .null, .unset] [(.ref c25), (.ref oa)])
  have f27 := Safe.wr W23 f19 HC18.1 f19
  have f28 := f22.wr W23
  have f29 := CHr.safe hc25 f28.lt f27
  have nd25 := sf25 oa f29
  refine Ends.getF X25 hx hZ hown (host := "") (Or.inl (hw _ (List.mem_of_getElem? (i := 57) rfl))) Via.refl e25 Fc25 (hb hby d14_20) ?_
  intro T30 X30 e30
  have f31 := F_c.ext E17
  have f32 := f31.other W23 (Or.inr (slot_ne (Or.inr (hw _ (List.mem_of_getElem? (i := 43) rfl))) (Or.inr (hw _ (List.mem_of_getElem? (i := 42) rfl))) (by decide) (t := .byte) (t' := (.array .byte)) (by decide) (by decide)))
  have f33 := f32.ext E25
  have f34 := f28.ext E25
  refine Ends.putN X30 hx hZ hown (hw _ (List.mem_of_getElem? (i := 57) rfl)) Via.refl e30 f33 f34 (Or.inr ⟨(hw _ (List.mem_of_getElem? (i := 43) rfl)), rfl, hnm⟩) (hw _ (List.mem_of_getElem? (i := 41) rfl)) (ty := .byte) (v' := .int (0 : Int32)) (by decide) rfl (by decide) (hb hby d14_23) ?_
  intro T35 h35 X35 e35 W35 Fw35
  have O35 := O25.wr W35 (Or.inl (List.mem_of_getElem? (i := 0) rfl))
  have HC36 := HC26.trans (CHr.wr W35 f29 HC26.1)
  have f37 := Fw23.ext E25
  have f38 := f37.other W35 (Or.inr (slot_ne (Or.inr (hw _ (List.mem_of_getElem? (i := 42) rfl))) (Or.inr (hw _ (List.mem_of_getElem? (i := 43) rfl))) (by decide) (t := (.array .byte)) (t' := .byte) (by decide) (by decide)))
  have f39 := A17.other W23 (Ne.symm nd17.2)
  have f40 := f39.ext E25
  have f41 := f40.other W35 (Ne.symm nd17.2)
  subst e35
  exact Ends.retV X35 hx hlk hret (hb hby d14_26) (by decide) (by decide) ⟨⟨rfl, _, O35, f38, Fw35, f41⟩, by first | exact (Nat.le_trans (Nat.le_refl _) (own_wr_le W35)) | (rw [e35]; exact (Nat.le_trans (Nat.le_refl _) (own_wr_le W35)))⟩ (hF := own_chret X35 hZ (own_EW hw) HC36 (by first | rfl | assumption))
theorem efI1_0 (m : MethodId) (x0 : Addr) (x1 : Addr) : entryFrame m #[(.ref x0), (.ref x1)] 2 = mkF m 0 #[.val (.ref x0), .val (.ref x1)] [] := by first | (simp [entryFrame, mkF, argsToLocals, Value.category]; done) | rfl
set_option maxRecDepth 65536 in
set_option maxHeartbeats 40000000 in
theorem rmI1_0 (l : Launch) (Z : State) (a0 : Array Value) (hw : ∀ d ∈ tables_1, d.before a0 Z = true) (oa : Addr) (oc : Addr) (h0 : Heap) (E0 : Exa Z h0 oa "java/lang/String") (F_v : Fld Z h0 oa "java/lang/String" "value" "[B" .null) (F_c : Fld Z h0 oa "java/lang/String" "coder" "B" (.int (0 : Int32))) (A_c : Ary Z h0 oc .char []) :
    ConH l (⟨"java/lang/String", "<init>", "([C)V"⟩ : MethodName) jdk_42_method_3_code 2 none [] ({ frames := 2, cells := 4, slots := 8, locals := 48 } : Room) #[(.ref oa), (.ref oc)] Z h0 own_EL (fun v h L => v = none ∧ ∃ V, Ok h0 h [oa] L ∧ Fld Z h oa "java/lang/String" "value" "[B" (.ref V) ∧ Fld Z h oa "java/lang/String" "coder" "B" (.int (0 : Int32)) ∧ Ary Z h V .byte []) := by
  refine ConH.of (plainFor_of_name pn_0) ?_
  intro p e s m below meth c s₁ vm0 HC0 hx hZ hby hml hown hnm hret hlk X0 e0
  refine Ends.cast (efI1_0 m oa oc) ?_
  show Ends (some (CHr Z own_EL vm0 h0)) p e below s _ _ _ s₁ (mkF m 0 #[.val (.ref oa), .val (.ref oc)] [])
  have O0 := Ok.refl h0 [oa]
  refine E.aloadN (q := 1) X0 hx (hb hby d13_0) rfl rfl ?_
  refine E.aloadN (q := 2) X0 hx (hb hby d13_1) rfl rfl ?_
  refine E.iconst (q := 3) (v := (0 : Int32)) X0 hx (hb hby d13_2) rfl ?_
  refine E.aloadN (q := 4) X0 hx (hb hby d13_3) rfl rfl ?_
  refine Ends.alen X0 hx hZ e0 A_c (hb hby d13_4) (n := (0 : Int32)) rfl ?_
  refine E.aconstNull (q := 6) X0 hx (hb hby d13_5) ?_
  refine Ends.callIH X0 hx hZ hown (hw _ (List.mem_of_getElem? (i := 75) rfl)) (hw _ (List.mem_of_getElem? (i := 76) rfl)) (hw _ (List.mem_of_getElem? (i := 40) rfl)) (hw _ (List.mem_of_getElem? (i := 78) rfl)) rfl (by decide) (argsL := [(.ref oc), (.int (0 : Int32)), (.int (0 : Int32)), .null]) (rest := []) e0 (Nat.zero_le _) (own_EW hw) HC0.1 (rmI4_0 l Z a0 hw oa oc _ E0 F_v F_c A_c) (W := 0) (by decide) (by decide) (by rw [hml]; rfl) (lenOf pd_6 rfl) (Nat.le_of_eq rfl) (hb hby d13_6) (by decide) (by decide) rfl ?_
  rintro s T42 v42 L42 X42 hc42 hZ hown ⟨rfl, V42, hO42, a42, b42, d42⟩
  have e42 : T42.heap = T42.heap := rfl
  have O42 := O0.call hO42 (allS (Or.inl (List.mem_of_getElem? (i := 0) rfl)) all0)
  have HC43 := HC0.trans hc42
  show Ends (some (CHr Z own_EL vm0 h0)) p e below s _ _ _ T42 (mkF m 9 #[.val (.ref oa), .val (.ref oc)] [])
  exact Ends.retV X42 hx hlk hret (hb hby d13_9) (by decide) (by decide) ⟨⟨rfl, _, hO42, a42, b42, d42⟩, by first | exact (Nat.le_refl _) | (rw [e42]; exact (Nat.le_refl _))⟩ (hF := own_chret X42 hZ (own_EW hw) HC43 (by first | rfl | assumption))
theorem efC5_1 (m : MethodId) (x0 : Addr) (x1 : Int32) (x2 : Addr) (x3 : Int32) (x4 : Int32) : entryFrame m #[(.ref x0), (.int x1), (.ref x2), (.int x3), (.int x4)] 7 = mkF m 0 #[.val (.ref x0), .val (.int x1), .val (.ref x2), .val (.int x3), .val (.int x4), .unset, .unset] [] := by first | (simp [entryFrame, mkF, argsToLocals, Value.category]; done) | rfl
set_option maxRecDepth 65536 in
set_option maxHeartbeats 40000000 in
theorem rmC5_1 (l : Launch) (Z : State) (a0 : Array Value) (hw : ∀ d ∈ tables_1, d.before a0 Z = true) (oc : Addr) (od : Addr) (c0 : Int32) (h0 : Heap) (hc0 : own_B c0) (A_c : Ary Z h0 oc .char [(.int c0)]) (A_d : Ary Z h0 od .byte [(.int (0 : Int32))]) (hne : oc ≠ od) :
    Con l (⟨"java/lang/StringUTF16", "compress", "([CI[BII)I"⟩ : MethodName) jdk_52_method_21_code 7 (some .int) [] ({ frames := 0, cells := 0, slots := 0, locals := 0 } : Room) #[(.ref oc), (.int (0 : Int32)), (.ref od), (.int (0 : Int32)), (.int (1 : Int32))] Z h0 (fun v h L => v = some (.int (1 : Int32)) ∧ Ok h0 h [od] L ∧ Ary Z h od .byte [(.int c0.toInt8.toInt32)]) := by
  refine Con.of (plainFor_of_name pn_4) ?_
  intro p e s m below meth c s₁ hx hZ hby hml hown hnm hret hlk X0 e0
  refine Ends.cast (efC5_1 m oc (0 : Int32) od (0 : Int32) (1 : Int32)) ?_
  show Ends none p e below s _ _ _ s₁ (mkF m 0 #[.val (.ref oc), .val (.int (0 : Int32)), .val (.ref od), .val (.int (0 : Int32)), .val (.int (1 : Int32)), .unset, .unset] [])
  have O0 := Ok.refl h0 [od]
  refine E.iconst (q := 1) (v := (0 : Int32)) X0 hx (hb hby d16_0) rfl ?_
  refine E.istore (q := 3) (l' := #[.val (.ref oc), .val (.int (0 : Int32)), .val (.ref od), .val (.int (0 : Int32)), .val (.int (1 : Int32)), .val (.int (0 : Int32)), .unset]) X0 hx (hb hby d16_1) rfl ?_
  refine E.iload (q := 5) X0 hx (hb hby d16_3) rfl ?_
  refine E.iload (q := 7) X0 hx (hb hby d16_5) rfl ?_
  refine E.icmpN (q := 10) X0 hx (hb hby d16_7) (XT.ii_ge_f (by decide)) ?_
  refine E.aloadN (q := 11) X0 hx (hb hby d16_10) rfl rfl ?_
  refine E.iloadN (q := 12) X0 hx (hb hby d16_11) rfl ?_
  refine Ends.cld X0 hx hZ e0 A_c (i := 0) rfl rfl (hb hby d16_12) ?_
  refine E.istore (q := 15) (l' := #[.val (.ref oc), .val (.int (0 : Int32)), .val (.ref od), .val (.int (0 : Int32)), .val (.int (1 : Int32)), .val (.int (0 : Int32)), .val (.int c0)]) X0 hx (hb hby d16_13) rfl ?_
  refine E.iload (q := 17) X0 hx (hb hby d16_15) rfl ?_
  refine E.sipush (q := 20) (v := (255 : Int32)) X0 hx (hb hby d16_17) rfl ?_
  refine E.icmpY (q := 26) X0 hx (hb hby d16_20) (XT.ii_le_t (own_B_le hc0)) ?_
  refine E.aloadN (q := 27) X0 hx (hb hby d16_26) rfl rfl ?_
  refine E.iloadN (q := 28) X0 hx (hb hby d16_27) rfl ?_
  refine E.iload (q := 30) X0 hx (hb hby d16_28) rfl ?_
  refine E.i2b (q := 31) X0 hx (hb hby d16_30) ?_
  refine Ends.bst X0 hx hZ e0 A_d (x' := (c0.toInt8.toInt32)) (own_nb8 _) (i := 0) rfl (show 0 < 1 from by decide) (hb hby d16_31) ?_
  intro T44 h44 X44 e44 W44 V44
  have V44 : Ary Z h44 od .byte [(.int (c0.toInt8.toInt32))] := V44
  have O44 := O0.wr W44 (Or.inl (List.mem_of_getElem? (i := 0) rfl))
  refine E.iinc (q := 35) (v := (1 : Int32)) (l' := #[.val (.ref oc), .val (.int (1 : Int32)), .val (.ref od), .val (.int (0 : Int32)), .val (.int (1 : Int32)), .val (.int (0 : Int32)), .val (.int c0)]) X44 hx (hb hby d16_32) rfl (by decide) rfl ?_
  refine E.iinc (q := 38) (v := (1 : Int32)) (l' := #[.val (.ref oc), .val (.int (1 : Int32)), .val (.ref od), .val (.int (1 : Int32)), .val (.int (1 : Int32)), .val (.int (0 : Int32)), .val (.int c0)]) X44 hx (hb hby d16_35) rfl (by decide) rfl ?_
  refine E.iinc (q := 41) (v := (1 : Int32)) (l' := #[.val (.ref oc), .val (.int (1 : Int32)), .val (.ref od), .val (.int (1 : Int32)), .val (.int (1 : Int32)), .val (.int (1 : Int32)), .val (.int c0)]) X44 hx (hb hby d16_38) rfl (by decide) rfl ?_
  refine E.goto (q := 3) X44 hx (hb hby d16_41) ?_
  refine E.iload (q := 5) X44 hx (hb hby d16_3) rfl ?_
  refine E.iload (q := 7) X44 hx (hb hby d16_5) rfl ?_
  refine E.icmpY (q := 44) X44 hx (hb hby d16_7) (XT.ii_ge_t (by decide)) ?_
  refine E.iload (q := 46) X44 hx (hb hby d16_44) rfl ?_
  subst e44
  exact Ends.retI X44 hx hlk hret (hb hby d16_46) (by decide) (by decide) ⟨rfl, O44, V44⟩
theorem efC3_1 (m : MethodId) (x0 : Addr) (x1 : Int32) (x2 : Int32) : entryFrame m #[(.ref x0), (.int x1), (.int x2)] 6 = mkF m 0 #[.val (.ref x0), .val (.int x1), .val (.int x2), .unset, .unset, .unset] [] := by first | (simp [entryFrame, mkF, argsToLocals, Value.category]; done) | rfl
set_option maxRecDepth 65536 in
set_option maxHeartbeats 40000000 in
theorem rmC3_1 (l : Launch) (Z : State) (a0 : Array Value) (hw : ∀ d ∈ tables_1, d.before a0 Z = true) (oc : Addr) (c0 : Int32) (h0 : Heap) (hc0 : own_B c0) (A_c : Ary Z h0 oc .char [(.int c0)]) :
    Con l (⟨"java/lang/StringUTF16", "compress", "([CII)[B"⟩ : MethodName) jdk_52_method_16_code 6 (some (.array .byte)) [] ({ frames := 1, cells := 1, slots := 1, locals := 24 } : Room) #[(.ref oc), (.int (0 : Int32)), (.int (1 : Int32))] Z h0 (fun v h L => ∃ b, v = some (.ref b) ∧ h0.size ≤ b ∧ Ok h0 h [] L ∧ Ary Z h b .byte [(.int c0.toInt8.toInt32)]) := by
  refine Con.of (plainFor_of_name pn_4) ?_
  intro p e s m below meth c s₁ hx hZ hby hml hown hnm hret hlk X0 e0
  refine Ends.cast (efC3_1 m oc (0 : Int32) (1 : Int32)) ?_
  show Ends none p e below s _ _ _ s₁ (mkF m 0 #[.val (.ref oc), .val (.int (0 : Int32)), .val (.int (1 : Int32)), .unset, .unset, .unset] [])
  have O0 := Ok.refl h0 []
  refine E.iloadN (q := 1) X0 hx (hb hby d15_0) rfl ?_
  refine Ends.newA X0 hx hZ (hw _ (List.mem_of_getElem? (i := 9) rfl)) e0 (hb hby d15_1) (N := 1) rfl (by decide) (by decide) (by decide) ?_
  intro T45 h45 b45 g45 X45 e45 E45 A45
  have ge_b45 : h0.size ≤ b45 := Nat.le_trans O0.le (Nat.le_of_eq g45.symm)
  have O45 := O0.ext E45
  have V45 : Ary Z h45 b45 .byte [(.int (0 : Int32))] := A45
  refine E.astoreN (q := 4) (l' := #[.val (.ref oc), .val (.int (0 : Int32)), .val (.int (1 : Int32)), .val (.ref b45), .unset, .unset]) X45 hx (hb hby d15_3) rfl rfl ?_
  refine E.aloadN (q := 5) X45 hx (hb hby d15_4) rfl rfl ?_
  refine E.iloadN (q := 6) X45 hx (hb hby d15_5) rfl ?_
  refine E.aloadN (q := 7) X45 hx (hb hby d15_6) rfl rfl ?_
  refine E.iconst (q := 8) (v := (0 : Int32)) X45 hx (hb hby d15_7) rfl ?_
  refine E.iloadN (q := 9) X45 hx (hb hby d15_8) rfl ?_
  have f46 := A_c.ext E45
  refine Ends.callS X45 hx hZ hown (hw _ (List.mem_of_getElem? (i := 84) rfl)) (hw _ (List.mem_of_getElem? (i := 85) rfl)) (hw _ (List.mem_of_getElem? (i := 82) rfl)) (hw _ (List.mem_of_getElem? (i := 86) rfl)) (by decide) (argsL := [(.ref oc), (.int (0 : Int32)), (.ref b45), (.int (0 : Int32)), (.int (1 : Int32))]) (rest := []) e45 (rmC5_1 l Z a0 hw oc b45 c0 _ hc0 f46 V45 (Nat.ne_of_lt (Nat.lt_of_lt_of_eq A_c.lt g45.symm))) (W := 0) (by decide) (by decide) (by rw [hml]; rfl) (lenOf pd_7 rfl) (Nat.le_of_eq rfl) (hb hby d15_9) (by decide) (by decide) rfl ?_
  rintro T47 v47 L47 X47 ⟨rfl, hO47, V47⟩
  have e47 : T47.heap = T47.heap := rfl
  have O47 := O45.call hO47 (allS (Or.inr ge_b45) all0)
  show Ends none p e below s _ _ _ T47 (mkF m 12 #[.val (.ref oc), .val (.int (0 : Int32)), .val (.int (1 : Int32)), .val (.ref b45), .unset, .unset] [(.int (1 : Int32))])
  refine E.istore (q := 14) (l' := #[.val (.ref oc), .val (.int (0 : Int32)), .val (.int (1 : Int32)), .val (.ref b45), .val (.int (1 : Int32)), .unset]) X47 hx (hb hby d15_12) rfl ?_
  refine E.iload (q := 16) X47 hx (hb hby d15_14) rfl ?_
  refine E.iloadN (q := 17) X47 hx (hb hby d15_16) rfl ?_
  refine E.icmpY (q := 57) X47 hx (hb hby d15_17) (XT.ii_eq_t (by decide)) ?_
  refine E.aloadN (q := 58) X47 hx (hb hby d15_57) rfl rfl ?_
  exact Ends.retA X47 hx hlk hret rfl rfl rfl (hb hby d15_58) (by decide) (by decide) ⟨_, rfl, ge_b45, O47, V47⟩
theorem efCL_1 (m : MethodId) (x0 : Addr) (x1 : Int32) : entryFrame m #[(.ref x0), (.int x1)] 2 = mkF m 0 #[.val (.ref x0), .val (.int x1)] [] := by first | (simp [entryFrame, mkF, argsToLocals, Value.category]; done) | rfl
set_option maxRecDepth 65536 in
set_option maxHeartbeats 40000000 in
theorem rmCL_1 (l : Launch) (Z : State) (a0 : Array Value) (hw : ∀ d ∈ tables_1, d.before a0 Z = true) (od : Addr) (vs : List Value) (h0 : Heap) (A_d : Ary Z h0 od .byte vs) (hl : vs.length = 1) :
    Con l (⟨"java/lang/StringUTF16", "coderFromArrayLen", "([BI)B"⟩ : MethodName) jdk_52_method_15_code 2 (some .byte) [] ({ frames := 0, cells := 0, slots := 0, locals := 0 } : Room) #[(.ref od), (.int (1 : Int32))] Z h0 (fun v h L => v = some (.int (0 : Int32)) ∧ h = h0 ∧ L = []) := by
  refine Con.of (plainFor_of_name pn_4) ?_
  intro p e s m below meth c s₁ hx hZ hby hml hown hnm hret hlk X0 e0
  refine Ends.cast (efCL_1 m od (1 : Int32)) ?_
  show Ends none p e below s _ _ _ s₁ (mkF m 0 #[.val (.ref od), .val (.int (1 : Int32))] [])
  refine E.iloadN (q := 1) X0 hx (hb hby d17_0) rfl ?_
  refine E.aloadN (q := 2) X0 hx (hb hby d17_1) rfl rfl ?_
  refine Ends.alen X0 hx hZ e0 A_d (hb hby d17_2) (n := (1 : Int32)) (by rw [hl]; rfl) ?_
  refine E.isub (q := 4) X0 hx (hb hby d17_3) ?_
  rw [show ((1 : Int32) - (1 : Int32)) = (0 : Int32) from by decide]
  refine E.bipush (q := 6) (v := (31 : Int32)) X0 hx (hb hby d17_4) rfl ?_
  refine E.iushr (q := 7) X0 hx (hb hby d17_6) ?_
  rw [show (((0 : Int32).toUInt32 >>> ((31 : Int32) &&& 31).toUInt32).toInt32) = (0 : Int32) from by decide]
  refine E.i2b (q := 8) X0 hx (hb hby d17_7) ?_
  exact Ends.retS X0 hx hlk hret (by simp) rfl (hb hby d17_8) (by decide) (by decide) ⟨by decide, e0, rfl⟩
theorem efI4_1 (m : MethodId) (x0 : Addr) (x1 : Addr) (x2 : Int32) (x3 : Int32) : entryFrame m #[(.ref x0), (.ref x1), (.int x2), (.int x3), .null] 6 = mkF m 0 #[.val (.ref x0), .val (.ref x1), .val (.int x2), .val (.int x3), .val .null, .unset] [] := by first | (simp [entryFrame, mkF, argsToLocals, Value.category]; done) | rfl
set_option maxRecDepth 65536 in
set_option maxHeartbeats 40000000 in
theorem rmI4_1 (l : Launch) (Z : State) (a0 : Array Value) (hw : ∀ d ∈ tables_1, d.before a0 Z = true) (oa : Addr) (oc : Addr) (c0 : Int32) (h0 : Heap) (hc0 : own_B c0) (E0 : Exa Z h0 oa "java/lang/String") (F_v : Fld Z h0 oa "java/lang/String" "value" "[B" .null) (F_c : Fld Z h0 oa "java/lang/String" "coder" "B" (.int (0 : Int32))) (A_c : Ary Z h0 oc .char [(.int c0)]) (hne : oc ≠ oa) (cs : Int32) (hcs : ¬ cs = (0 : Int32)) (S0 : Sta Z h0 "java/lang/String" "COMPACT_STRINGS" "Z" (.int cs)) :
    Con l (⟨"java/lang/String", "<init>", "([CIILjava/lang/Void;)V"⟩ : MethodName) jdk_42_method_149_code 6 none [] ({ frames := 2, cells := 1, slots := 1, locals := 48 } : Room) #[(.ref oa), (.ref oc), (.int (0 : Int32)), (.int (1 : Int32)), .null] Z h0 (fun v h L => v = none ∧ ∃ V, h0.size ≤ V ∧ Ok h0 h [oa] L ∧ Fld Z h oa "java/lang/String" "value" "[B" (.ref V) ∧ Fld Z h oa "java/lang/String" "coder" "B" (.int (0 : Int32)) ∧ Ary Z h V .byte [(.int c0.toInt8.toInt32)]) := by
  refine Con.of (plainFor_of_name pn_0) ?_
  intro p e s m below meth c s₁ hx hZ hby hml hown hnm hret hlk X0 e0
  refine Ends.cast (efI4_1 m oa oc (0 : Int32) (1 : Int32)) ?_
  show Ends none p e below s _ _ _ s₁ (mkF m 0 #[.val (.ref oa), .val (.ref oc), .val (.int (0 : Int32)), .val (.int (1 : Int32)), .val .null, .unset] [])
  have O0 := Ok.refl h0 [oa]
  refine E.aloadN (q := 1) X0 hx (hb hby d14_0) rfl rfl ?_
  refine Ends.initO X0 hx hZ hown (hw _ (List.mem_of_getElem? (i := 79) rfl)) (hw _ (List.mem_of_getElem? (i := 7) rfl)) (hw _ (List.mem_of_getElem? (i := 8) rfl)) e0 (by rw [hml]; rfl) (hb hby d14_1) (by decide) (W := 0) (Nat.le_of_eq rfl) (by decide) ?_
  intro T48 X48 e48
  refine E.iloadN (q := 5) X48 hx (hb hby d14_4) rfl ?_
  refine E.ifY (q := 27) X48 hx (hb hby d14_5) (XT.i0_ne_t (by decide)) ?_
  refine Ends.getS X48 hx hZ hown (host := "") (Or.inl (hw _ (List.mem_of_getElem? (i := 56) rfl))) Via.refl e48 (own_sta_keep S0 O0.1 (own_ns E0)) (hb hby d14_27) ?_
  intro T49 X49 e49
  refine E.ifN (q := 33) X49 hx (hb hby d14_30) (XT.i0_eq_f hcs) ?_
  refine E.aloadN (q := 34) X49 hx (hb hby d14_33) rfl rfl ?_
  refine E.iloadN (q := 35) X49 hx (hb hby d14_34) rfl ?_
  refine E.iloadN (q := 36) X49 hx (hb hby d14_35) rfl ?_
  refine Ends.callS X49 hx hZ hown (hw _ (List.mem_of_getElem? (i := 80) rfl)) (hw _ (List.mem_of_getElem? (i := 81) rfl)) (hw _ (List.mem_of_getElem? (i := 82) rfl)) (hw _ (List.mem_of_getElem? (i := 83) rfl)) (by decide) (argsL := [(.ref oc), (.int (0 : Int32)), (.int (1 : Int32))]) (rest := []) e49 (rmC3_1 l Z a0 hw oc c0 _ hc0 A_c) (W := 0) (by decide) (by decide) (by rw [hml]; rfl) (lenOf pd_8 rfl) (Nat.le_of_eq rfl) (hb hby d14_36) (by decide) (by decide) rfl ?_
  rintro T50 v50 L50 X50 ⟨b50, rfl, ge_b50, hO50, V50⟩
  have e50 : T50.heap = T50.heap := rfl
  have O50 := O0.call hO50 all0
  show Ends none p e below s _ _ _ T50 (mkF m 39 #[.val (.ref oa), .val (.ref oc), .val (.int (0 : Int32)), .val (.int (1 : Int32)), .val .null, .unset] [(.ref b50)])
  have gv : h0.size ≤ b50 := Nat.le_trans O0.le ge_b50
  refine E.astore (q := 41) (l' := #[.val (.ref oa), .val (.ref oc), .val (.int (0 : Int32)), .val (.int (1 : Int32)), .val .null, .val (.ref b50)]) X50 hx (hb hby d14_39) rfl rfl ?_
  refine E.aloadN (q := 42) X50 hx (hb hby d14_41) rfl rfl ?_
  refine E.aload (q := 44) X50 hx (hb hby d14_42) rfl rfl ?_
  refine E.iloadN (q := 45) X50 hx (hb hby d14_44) rfl ?_
  refine Ends.callS X50 hx hZ hown (hw _ (List.mem_of_getElem? (i := 87) rfl)) (hw _ (List.mem_of_getElem? (i := 88) rfl)) (hw _ (List.mem_of_getElem? (i := 82) rfl)) (hw _ (List.mem_of_getElem? (i := 89) rfl)) (by decide) (argsL := [(.ref b50), (.int (1 : Int32))]) (rest := [(.ref oa)]) e50 (rmCL_1 l Z a0 hw b50 _ _ V50 rfl) (W := 1) (by decide) (by decide) (by rw [hml]; rfl) (lenOf pd_9 rfl) (Nat.le_of_eq rfl) (hb hby d14_45) (by decide) (by decide) rfl ?_
  rintro T51 v51 L51 X51 ⟨rfl, e51, rfl⟩
  rw [List.append_nil] at X51
  show Ends none p e below s _ _ _ T51 (mkF m 48 #[.val (.ref oa), .val (.ref oc), .val (.int (0 : Int32)), .val (.int (1 : Int32)), .val .null, .val (.ref b50)] [(.int (0 : Int32)), (.ref oa)])
  have f52 := F_c.keep hO50.1 nin0
  have f53 := E0.keep hO50.1
  refine Ends.putN X51 hx hZ hown (hw _ (List.mem_of_getElem? (i := 57) rfl)) Via.refl e51 f52 f53 (Or.inr ⟨(hw _ (List.mem_of_getElem? (i := 43) rfl)), rfl, hnm⟩) (hw _ (List.mem_of_getElem? (i := 41) rfl)) (ty := .byte) (v' := .int (0 : Int32)) (by decide) rfl (by decide) (hb hby d14_48) ?_
  intro T54 h54 X54 e54 W54 Fw54
  have O54 := O50.wr W54 (Or.inl (List.mem_of_getElem? (i := 0) rfl))
  refine E.aloadN (q := 52) X54 hx (hb hby d14_51) rfl rfl ?_
  refine E.aload (q := 54) X54 hx (hb hby d14_52) rfl rfl ?_
  have f55 := F_v.keep hO50.1 nin0
  have f56 := f55.other W54 (Or.inr (slot_ne (Or.inr (hw _ (List.mem_of_getElem? (i := 42) rfl))) (Or.inr (hw _ (List.mem_of_getElem? (i := 43) rfl))) (by decide) (t := (.array .byte)) (t' := .byte) (by decide) (by decide)))
  have f57 := f53.wr W54
  refine Ends.putF X54 hx hZ hown (host := "") (Or.inl (hw _ (List.mem_of_getElem? (i := 58) rfl))) Via.refl e54 f56 f57 (Or.inr ⟨(hw _ (List.mem_of_getElem? (i := 42) rfl)), rfl, hnm⟩) (hw _ (List.mem_of_getElem? (i := 41) rfl)) (ty := (.array .byte)) (by decide) rfl rfl (hb hby d14_54) ?_
  intro T58 h58 X58 e58 W58 Fw58
  have O58 := O54.wr W58 (Or.inl (List.mem_of_getElem? (i := 0) rfl))
  have f59 := Fw54.other W58 (Or.inr (slot_ne (Or.inr (hw _ (List.mem_of_getElem? (i := 43) rfl))) (Or.inr (hw _ (List.mem_of_getElem? (i := 42) rfl))) (by decide) (t := .byte) (t' := (.array .byte)) (by decide) (by decide)))
  have f60 := V50.other W54 (Ne.symm (Nat.ne_of_lt (Nat.lt_of_lt_of_le E0.lt ge_b50)))
  have f61 := f60.other W58 (Ne.symm (Nat.ne_of_lt (Nat.lt_of_lt_of_le E0.lt ge_b50)))
  subst e58
  exact Ends.retV X58 hx hlk hret (hb hby d14_57) (by decide) (by decide) ⟨rfl, _, gv, O58, Fw58, f59, f61⟩
theorem efI1_1 (m : MethodId) (x0 : Addr) (x1 : Addr) : entryFrame m #[(.ref x0), (.ref x1)] 2 = mkF m 0 #[.val (.ref x0), .val (.ref x1)] [] := by first | (simp [entryFrame, mkF, argsToLocals, Value.category]; done) | rfl
set_option maxRecDepth 65536 in
set_option maxHeartbeats 40000000 in
theorem rmI1_1 (l : Launch) (Z : State) (a0 : Array Value) (hw : ∀ d ∈ tables_1, d.before a0 Z = true) (oa : Addr) (oc : Addr) (c0 : Int32) (h0 : Heap) (hc0 : own_B c0) (E0 : Exa Z h0 oa "java/lang/String") (F_v : Fld Z h0 oa "java/lang/String" "value" "[B" .null) (F_c : Fld Z h0 oa "java/lang/String" "coder" "B" (.int (0 : Int32))) (A_c : Ary Z h0 oc .char [(.int c0)]) (hne : oc ≠ oa) (cs : Int32) (hcs : ¬ cs = (0 : Int32)) (S0 : Sta Z h0 "java/lang/String" "COMPACT_STRINGS" "Z" (.int cs)) :
    Con l (⟨"java/lang/String", "<init>", "([C)V"⟩ : MethodName) jdk_42_method_3_code 2 none [] ({ frames := 3, cells := 1, slots := 1, locals := 72 } : Room) #[(.ref oa), (.ref oc)] Z h0 (fun v h L => v = none ∧ ∃ V, h0.size ≤ V ∧ Ok h0 h [oa] L ∧ Fld Z h oa "java/lang/String" "value" "[B" (.ref V) ∧ Fld Z h oa "java/lang/String" "coder" "B" (.int (0 : Int32)) ∧ Ary Z h V .byte [(.int c0.toInt8.toInt32)]) := by
  refine Con.of (plainFor_of_name pn_0) ?_
  intro p e s m below meth c s₁ hx hZ hby hml hown hnm hret hlk X0 e0
  refine Ends.cast (efI1_1 m oa oc) ?_
  show Ends none p e below s _ _ _ s₁ (mkF m 0 #[.val (.ref oa), .val (.ref oc)] [])
  have O0 := Ok.refl h0 [oa]
  refine E.aloadN (q := 1) X0 hx (hb hby d13_0) rfl rfl ?_
  refine E.aloadN (q := 2) X0 hx (hb hby d13_1) rfl rfl ?_
  refine E.iconst (q := 3) (v := (0 : Int32)) X0 hx (hb hby d13_2) rfl ?_
  refine E.aloadN (q := 4) X0 hx (hb hby d13_3) rfl rfl ?_
  refine Ends.alen X0 hx hZ e0 A_c (hb hby d13_4) (n := (1 : Int32)) rfl ?_
  refine E.aconstNull (q := 6) X0 hx (hb hby d13_5) ?_
  refine Ends.callI X0 hx hZ hown (hw _ (List.mem_of_getElem? (i := 75) rfl)) (hw _ (List.mem_of_getElem? (i := 76) rfl)) (hw _ (List.mem_of_getElem? (i := 40) rfl)) (hw _ (List.mem_of_getElem? (i := 78) rfl)) rfl (by decide) (argsL := [(.ref oc), (.int (0 : Int32)), (.int (1 : Int32)), .null]) (rest := []) e0 (rmI4_1 l Z a0 hw oa oc c0 _ hc0 E0 F_v F_c A_c hne cs hcs S0) (W := 0) (by decide) (by decide) (by rw [hml]; rfl) (lenOf pd_6 rfl) (Nat.le_of_eq rfl) (hb hby d13_6) (by decide) (by decide) rfl ?_
  rintro T62 v62 L62 X62 ⟨rfl, V62, gV62, hO62, a62, b62, d62⟩
  have e62 : T62.heap = T62.heap := rfl
  have O62 := O0.call hO62 (allS (Or.inl (List.mem_of_getElem? (i := 0) rfl)) all0)
  show Ends none p e below s _ _ _ T62 (mkF m 9 #[.val (.ref oa), .val (.ref oc)] [])
  exact Ends.retV X62 hx hlk hret (hb hby d13_9) (by decide) (by decide) ⟨rfl, _, gV62, hO62, a62, b62, d62⟩
theorem efC5_2 (m : MethodId) (x0 : Addr) (x1 : Int32) (x2 : Addr) (x3 : Int32) (x4 : Int32) : entryFrame m #[(.ref x0), (.int x1), (.ref x2), (.int x3), (.int x4)] 7 = mkF m 0 #[.val (.ref x0), .val (.int x1), .val (.ref x2), .val (.int x3), .val (.int x4), .unset, .unset] [] := by first | (simp [entryFrame, mkF, argsToLocals, Value.category]; done) | rfl
set_option maxRecDepth 65536 in
set_option maxHeartbeats 40000000 in
theorem rmC5_2 (l : Launch) (Z : State) (a0 : Array Value) (hw : ∀ d ∈ tables_1, d.before a0 Z = true) (oc : Addr) (od : Addr) (c0 c1 : Int32) (h0 : Heap) (hc0 : own_B c0) (hc1 : own_B c1) (A_c : Ary Z h0 oc .char [(.int c0), (.int c1)]) (A_d : Ary Z h0 od .byte [(.int (0 : Int32)), (.int (0 : Int32))]) (hne : oc ≠ od) :
    Con l (⟨"java/lang/StringUTF16", "compress", "([CI[BII)I"⟩ : MethodName) jdk_52_method_21_code 7 (some .int) [] ({ frames := 0, cells := 0, slots := 0, locals := 0 } : Room) #[(.ref oc), (.int (0 : Int32)), (.ref od), (.int (0 : Int32)), (.int (2 : Int32))] Z h0 (fun v h L => v = some (.int (2 : Int32)) ∧ Ok h0 h [od] L ∧ Ary Z h od .byte [(.int c0.toInt8.toInt32), (.int c1.toInt8.toInt32)]) := by
  refine Con.of (plainFor_of_name pn_4) ?_
  intro p e s m below meth c s₁ hx hZ hby hml hown hnm hret hlk X0 e0
  refine Ends.cast (efC5_2 m oc (0 : Int32) od (0 : Int32) (2 : Int32)) ?_
  show Ends none p e below s _ _ _ s₁ (mkF m 0 #[.val (.ref oc), .val (.int (0 : Int32)), .val (.ref od), .val (.int (0 : Int32)), .val (.int (2 : Int32)), .unset, .unset] [])
  have O0 := Ok.refl h0 [od]
  refine E.iconst (q := 1) (v := (0 : Int32)) X0 hx (hb hby d16_0) rfl ?_
  refine E.istore (q := 3) (l' := #[.val (.ref oc), .val (.int (0 : Int32)), .val (.ref od), .val (.int (0 : Int32)), .val (.int (2 : Int32)), .val (.int (0 : Int32)), .unset]) X0 hx (hb hby d16_1) rfl ?_
  refine E.iload (q := 5) X0 hx (hb hby d16_3) rfl ?_
  refine E.iload (q := 7) X0 hx (hb hby d16_5) rfl ?_
  refine E.icmpN (q := 10) X0 hx (hb hby d16_7) (XT.ii_ge_f (by decide)) ?_
  refine E.aloadN (q := 11) X0 hx (hb hby d16_10) rfl rfl ?_
  refine E.iloadN (q := 12) X0 hx (hb hby d16_11) rfl ?_
  refine Ends.cld X0 hx hZ e0 A_c (i := 0) rfl rfl (hb hby d16_12) ?_
  refine E.istore (q := 15) (l' := #[.val (.ref oc), .val (.int (0 : Int32)), .val (.ref od), .val (.int (0 : Int32)), .val (.int (2 : Int32)), .val (.int (0 : Int32)), .val (.int c0)]) X0 hx (hb hby d16_13) rfl ?_
  refine E.iload (q := 17) X0 hx (hb hby d16_15) rfl ?_
  refine E.sipush (q := 20) (v := (255 : Int32)) X0 hx (hb hby d16_17) rfl ?_
  refine E.icmpY (q := 26) X0 hx (hb hby d16_20) (XT.ii_le_t (own_B_le hc0)) ?_
  refine E.aloadN (q := 27) X0 hx (hb hby d16_26) rfl rfl ?_
  refine E.iloadN (q := 28) X0 hx (hb hby d16_27) rfl ?_
  refine E.iload (q := 30) X0 hx (hb hby d16_28) rfl ?_
  refine E.i2b (q := 31) X0 hx (hb hby d16_30) ?_
  refine Ends.bst X0 hx hZ e0 A_d (x' := (c0.toInt8.toInt32)) (own_nb8 _) (i := 0) rfl (show 0 < 2 from by decide) (hb hby d16_31) ?_
  intro T63 h63 X63 e63 W63 V63
  have V63 : Ary Z h63 od .byte [(.int (c0.toInt8.toInt32)), (.int (0 : Int32))] := V63
  have O63 := O0.wr W63 (Or.inl (List.mem_of_getElem? (i := 0) rfl))
  refine E.iinc (q := 35) (v := (1 : Int32)) (l' := #[.val (.ref oc), .val (.int (1 : Int32)), .val (.ref od), .val (.int (0 : Int32)), .val (.int (2 : Int32)), .val (.int (0 : Int32)), .val (.int c0)]) X63 hx (hb hby d16_32) rfl (by decide) rfl ?_
  refine E.iinc (q := 38) (v := (1 : Int32)) (l' := #[.val (.ref oc), .val (.int (1 : Int32)), .val (.ref od), .val (.int (1 : Int32)), .val (.int (2 : Int32)), .val (.int (0 : Int32)), .val (.int c0)]) X63 hx (hb hby d16_35) rfl (by decide) rfl ?_
  refine E.iinc (q := 41) (v := (1 : Int32)) (l' := #[.val (.ref oc), .val (.int (1 : Int32)), .val (.ref od), .val (.int (1 : Int32)), .val (.int (2 : Int32)), .val (.int (1 : Int32)), .val (.int c0)]) X63 hx (hb hby d16_38) rfl (by decide) rfl ?_
  refine E.goto (q := 3) X63 hx (hb hby d16_41) ?_
  refine E.iload (q := 5) X63 hx (hb hby d16_3) rfl ?_
  refine E.iload (q := 7) X63 hx (hb hby d16_5) rfl ?_
  refine E.icmpN (q := 10) X63 hx (hb hby d16_7) (XT.ii_ge_f (by decide)) ?_
  refine E.aloadN (q := 11) X63 hx (hb hby d16_10) rfl rfl ?_
  refine E.iloadN (q := 12) X63 hx (hb hby d16_11) rfl ?_
  have f64 := A_c.other W63 hne
  refine Ends.cld X63 hx hZ e63 f64 (i := 1) rfl rfl (hb hby d16_12) ?_
  refine E.istore (q := 15) (l' := #[.val (.ref oc), .val (.int (1 : Int32)), .val (.ref od), .val (.int (1 : Int32)), .val (.int (2 : Int32)), .val (.int (1 : Int32)), .val (.int c1)]) X63 hx (hb hby d16_13) rfl ?_
  refine E.iload (q := 17) X63 hx (hb hby d16_15) rfl ?_
  refine E.sipush (q := 20) (v := (255 : Int32)) X63 hx (hb hby d16_17) rfl ?_
  refine E.icmpY (q := 26) X63 hx (hb hby d16_20) (XT.ii_le_t (own_B_le hc1)) ?_
  refine E.aloadN (q := 27) X63 hx (hb hby d16_26) rfl rfl ?_
  refine E.iloadN (q := 28) X63 hx (hb hby d16_27) rfl ?_
  refine E.iload (q := 30) X63 hx (hb hby d16_28) rfl ?_
  refine E.i2b (q := 31) X63 hx (hb hby d16_30) ?_
  refine Ends.bst X63 hx hZ e63 V63 (x' := (c1.toInt8.toInt32)) (own_nb8 _) (i := 1) rfl (show 1 < 2 from by decide) (hb hby d16_31) ?_
  intro T65 h65 X65 e65 W65 V65
  have V65 : Ary Z h65 od .byte [(.int (c0.toInt8.toInt32)), (.int (c1.toInt8.toInt32))] := V65
  have O65 := O63.wr W65 (Or.inl (List.mem_of_getElem? (i := 0) rfl))
  refine E.iinc (q := 35) (v := (2 : Int32)) (l' := #[.val (.ref oc), .val (.int (2 : Int32)), .val (.ref od), .val (.int (1 : Int32)), .val (.int (2 : Int32)), .val (.int (1 : Int32)), .val (.int c1)]) X65 hx (hb hby d16_32) rfl (by decide) rfl ?_
  refine E.iinc (q := 38) (v := (2 : Int32)) (l' := #[.val (.ref oc), .val (.int (2 : Int32)), .val (.ref od), .val (.int (2 : Int32)), .val (.int (2 : Int32)), .val (.int (1 : Int32)), .val (.int c1)]) X65 hx (hb hby d16_35) rfl (by decide) rfl ?_
  refine E.iinc (q := 41) (v := (2 : Int32)) (l' := #[.val (.ref oc), .val (.int (2 : Int32)), .val (.ref od), .val (.int (2 : Int32)), .val (.int (2 : Int32)), .val (.int (2 : Int32)), .val (.int c1)]) X65 hx (hb hby d16_38) rfl (by decide) rfl ?_
  refine E.goto (q := 3) X65 hx (hb hby d16_41) ?_
  refine E.iload (q := 5) X65 hx (hb hby d16_3) rfl ?_
  refine E.iload (q := 7) X65 hx (hb hby d16_5) rfl ?_
  refine E.icmpY (q := 44) X65 hx (hb hby d16_7) (XT.ii_ge_t (by decide)) ?_
  refine E.iload (q := 46) X65 hx (hb hby d16_44) rfl ?_
  subst e65
  exact Ends.retI X65 hx hlk hret (hb hby d16_46) (by decide) (by decide) ⟨rfl, O65, V65⟩
theorem efC3_2 (m : MethodId) (x0 : Addr) (x1 : Int32) (x2 : Int32) : entryFrame m #[(.ref x0), (.int x1), (.int x2)] 6 = mkF m 0 #[.val (.ref x0), .val (.int x1), .val (.int x2), .unset, .unset, .unset] [] := by first | (simp [entryFrame, mkF, argsToLocals, Value.category]; done) | rfl
set_option maxRecDepth 65536 in
set_option maxHeartbeats 40000000 in
theorem rmC3_2 (l : Launch) (Z : State) (a0 : Array Value) (hw : ∀ d ∈ tables_1, d.before a0 Z = true) (oc : Addr) (c0 c1 : Int32) (h0 : Heap) (hc0 : own_B c0) (hc1 : own_B c1) (A_c : Ary Z h0 oc .char [(.int c0), (.int c1)]) :
    Con l (⟨"java/lang/StringUTF16", "compress", "([CII)[B"⟩ : MethodName) jdk_52_method_16_code 6 (some (.array .byte)) [] ({ frames := 1, cells := 1, slots := 2, locals := 24 } : Room) #[(.ref oc), (.int (0 : Int32)), (.int (2 : Int32))] Z h0 (fun v h L => ∃ b, v = some (.ref b) ∧ h0.size ≤ b ∧ Ok h0 h [] L ∧ Ary Z h b .byte [(.int c0.toInt8.toInt32), (.int c1.toInt8.toInt32)]) := by
  refine Con.of (plainFor_of_name pn_4) ?_
  intro p e s m below meth c s₁ hx hZ hby hml hown hnm hret hlk X0 e0
  refine Ends.cast (efC3_2 m oc (0 : Int32) (2 : Int32)) ?_
  show Ends none p e below s _ _ _ s₁ (mkF m 0 #[.val (.ref oc), .val (.int (0 : Int32)), .val (.int (2 : Int32)), .unset, .unset, .unset] [])
  have O0 := Ok.refl h0 []
  refine E.iloadN (q := 1) X0 hx (hb hby d15_0) rfl ?_
  refine Ends.newA X0 hx hZ (hw _ (List.mem_of_getElem? (i := 9) rfl)) e0 (hb hby d15_1) (N := 2) rfl (by decide) (by decide) (by decide) ?_
  intro T66 h66 b66 g66 X66 e66 E66 A66
  have ge_b66 : h0.size ≤ b66 := Nat.le_trans O0.le (Nat.le_of_eq g66.symm)
  have O66 := O0.ext E66
  have V66 : Ary Z h66 b66 .byte [(.int (0 : Int32)), (.int (0 : Int32))] := A66
  refine E.astoreN (q := 4) (l' := #[.val (.ref oc), .val (.int (0 : Int32)), .val (.int (2 : Int32)), .val (.ref b66), .unset, .unset]) X66 hx (hb hby d15_3) rfl rfl ?_
  refine E.aloadN (q := 5) X66 hx (hb hby d15_4) rfl rfl ?_
  refine E.iloadN (q := 6) X66 hx (hb hby d15_5) rfl ?_
  refine E.aloadN (q := 7) X66 hx (hb hby d15_6) rfl rfl ?_
  refine E.iconst (q := 8) (v := (0 : Int32)) X66 hx (hb hby d15_7) rfl ?_
  refine E.iloadN (q := 9) X66 hx (hb hby d15_8) rfl ?_
  have f67 := A_c.ext E66
  refine Ends.callS X66 hx hZ hown (hw _ (List.mem_of_getElem? (i := 84) rfl)) (hw _ (List.mem_of_getElem? (i := 85) rfl)) (hw _ (List.mem_of_getElem? (i := 82) rfl)) (hw _ (List.mem_of_getElem? (i := 86) rfl)) (by decide) (argsL := [(.ref oc), (.int (0 : Int32)), (.ref b66), (.int (0 : Int32)), (.int (2 : Int32))]) (rest := []) e66 (rmC5_2 l Z a0 hw oc b66 c0 c1 _ hc0 hc1 f67 V66 (Nat.ne_of_lt (Nat.lt_of_lt_of_eq A_c.lt g66.symm))) (W := 0) (by decide) (by decide) (by rw [hml]; rfl) (lenOf pd_7 rfl) (Nat.le_of_eq rfl) (hb hby d15_9) (by decide) (by decide) rfl ?_
  rintro T68 v68 L68 X68 ⟨rfl, hO68, V68⟩
  have e68 : T68.heap = T68.heap := rfl
  have O68 := O66.call hO68 (allS (Or.inr ge_b66) all0)
  show Ends none p e below s _ _ _ T68 (mkF m 12 #[.val (.ref oc), .val (.int (0 : Int32)), .val (.int (2 : Int32)), .val (.ref b66), .unset, .unset] [(.int (2 : Int32))])
  refine E.istore (q := 14) (l' := #[.val (.ref oc), .val (.int (0 : Int32)), .val (.int (2 : Int32)), .val (.ref b66), .val (.int (2 : Int32)), .unset]) X68 hx (hb hby d15_12) rfl ?_
  refine E.iload (q := 16) X68 hx (hb hby d15_14) rfl ?_
  refine E.iloadN (q := 17) X68 hx (hb hby d15_16) rfl ?_
  refine E.icmpY (q := 57) X68 hx (hb hby d15_17) (XT.ii_eq_t (by decide)) ?_
  refine E.aloadN (q := 58) X68 hx (hb hby d15_57) rfl rfl ?_
  exact Ends.retA X68 hx hlk hret rfl rfl rfl (hb hby d15_58) (by decide) (by decide) ⟨_, rfl, ge_b66, O68, V68⟩
theorem efCL_2 (m : MethodId) (x0 : Addr) (x1 : Int32) : entryFrame m #[(.ref x0), (.int x1)] 2 = mkF m 0 #[.val (.ref x0), .val (.int x1)] [] := by first | (simp [entryFrame, mkF, argsToLocals, Value.category]; done) | rfl
set_option maxRecDepth 65536 in
set_option maxHeartbeats 40000000 in
theorem rmCL_2 (l : Launch) (Z : State) (a0 : Array Value) (hw : ∀ d ∈ tables_1, d.before a0 Z = true) (od : Addr) (vs : List Value) (h0 : Heap) (A_d : Ary Z h0 od .byte vs) (hl : vs.length = 2) :
    Con l (⟨"java/lang/StringUTF16", "coderFromArrayLen", "([BI)B"⟩ : MethodName) jdk_52_method_15_code 2 (some .byte) [] ({ frames := 0, cells := 0, slots := 0, locals := 0 } : Room) #[(.ref od), (.int (2 : Int32))] Z h0 (fun v h L => v = some (.int (0 : Int32)) ∧ h = h0 ∧ L = []) := by
  refine Con.of (plainFor_of_name pn_4) ?_
  intro p e s m below meth c s₁ hx hZ hby hml hown hnm hret hlk X0 e0
  refine Ends.cast (efCL_2 m od (2 : Int32)) ?_
  show Ends none p e below s _ _ _ s₁ (mkF m 0 #[.val (.ref od), .val (.int (2 : Int32))] [])
  refine E.iloadN (q := 1) X0 hx (hb hby d17_0) rfl ?_
  refine E.aloadN (q := 2) X0 hx (hb hby d17_1) rfl rfl ?_
  refine Ends.alen X0 hx hZ e0 A_d (hb hby d17_2) (n := (2 : Int32)) (by rw [hl]; rfl) ?_
  refine E.isub (q := 4) X0 hx (hb hby d17_3) ?_
  rw [show ((2 : Int32) - (2 : Int32)) = (0 : Int32) from by decide]
  refine E.bipush (q := 6) (v := (31 : Int32)) X0 hx (hb hby d17_4) rfl ?_
  refine E.iushr (q := 7) X0 hx (hb hby d17_6) ?_
  rw [show (((0 : Int32).toUInt32 >>> ((31 : Int32) &&& 31).toUInt32).toInt32) = (0 : Int32) from by decide]
  refine E.i2b (q := 8) X0 hx (hb hby d17_7) ?_
  exact Ends.retS X0 hx hlk hret (by simp) rfl (hb hby d17_8) (by decide) (by decide) ⟨by decide, e0, rfl⟩
theorem efI4_2 (m : MethodId) (x0 : Addr) (x1 : Addr) (x2 : Int32) (x3 : Int32) : entryFrame m #[(.ref x0), (.ref x1), (.int x2), (.int x3), .null] 6 = mkF m 0 #[.val (.ref x0), .val (.ref x1), .val (.int x2), .val (.int x3), .val .null, .unset] [] := by first | (simp [entryFrame, mkF, argsToLocals, Value.category]; done) | rfl
set_option maxRecDepth 65536 in
set_option maxHeartbeats 40000000 in
theorem rmI4_2 (l : Launch) (Z : State) (a0 : Array Value) (hw : ∀ d ∈ tables_1, d.before a0 Z = true) (oa : Addr) (oc : Addr) (c0 c1 : Int32) (h0 : Heap) (hc0 : own_B c0) (hc1 : own_B c1) (E0 : Exa Z h0 oa "java/lang/String") (F_v : Fld Z h0 oa "java/lang/String" "value" "[B" .null) (F_c : Fld Z h0 oa "java/lang/String" "coder" "B" (.int (0 : Int32))) (A_c : Ary Z h0 oc .char [(.int c0), (.int c1)]) (hne : oc ≠ oa) (cs : Int32) (hcs : ¬ cs = (0 : Int32)) (S0 : Sta Z h0 "java/lang/String" "COMPACT_STRINGS" "Z" (.int cs)) :
    Con l (⟨"java/lang/String", "<init>", "([CIILjava/lang/Void;)V"⟩ : MethodName) jdk_42_method_149_code 6 none [] ({ frames := 2, cells := 1, slots := 2, locals := 48 } : Room) #[(.ref oa), (.ref oc), (.int (0 : Int32)), (.int (2 : Int32)), .null] Z h0 (fun v h L => v = none ∧ ∃ V, h0.size ≤ V ∧ Ok h0 h [oa] L ∧ Fld Z h oa "java/lang/String" "value" "[B" (.ref V) ∧ Fld Z h oa "java/lang/String" "coder" "B" (.int (0 : Int32)) ∧ Ary Z h V .byte [(.int c0.toInt8.toInt32), (.int c1.toInt8.toInt32)]) := by
  refine Con.of (plainFor_of_name pn_0) ?_
  intro p e s m below meth c s₁ hx hZ hby hml hown hnm hret hlk X0 e0
  refine Ends.cast (efI4_2 m oa oc (0 : Int32) (2 : Int32)) ?_
  show Ends none p e below s _ _ _ s₁ (mkF m 0 #[.val (.ref oa), .val (.ref oc), .val (.int (0 : Int32)), .val (.int (2 : Int32)), .val .null, .unset] [])
  have O0 := Ok.refl h0 [oa]
  refine E.aloadN (q := 1) X0 hx (hb hby d14_0) rfl rfl ?_
  refine Ends.initO X0 hx hZ hown (hw _ (List.mem_of_getElem? (i := 79) rfl)) (hw _ (List.mem_of_getElem? (i := 7) rfl)) (hw _ (List.mem_of_getElem? (i := 8) rfl)) e0 (by rw [hml]; rfl) (hb hby d14_1) (by decide) (W := 0) (Nat.le_of_eq rfl) (by decide) ?_
  intro T69 X69 e69
  refine E.iloadN (q := 5) X69 hx (hb hby d14_4) rfl ?_
  refine E.ifY (q := 27) X69 hx (hb hby d14_5) (XT.i0_ne_t (by decide)) ?_
  refine Ends.getS X69 hx hZ hown (host := "") (Or.inl (hw _ (List.mem_of_getElem? (i := 56) rfl))) Via.refl e69 (own_sta_keep S0 O0.1 (own_ns E0)) (hb hby d14_27) ?_
  intro T70 X70 e70
  refine E.ifN (q := 33) X70 hx (hb hby d14_30) (XT.i0_eq_f hcs) ?_
  refine E.aloadN (q := 34) X70 hx (hb hby d14_33) rfl rfl ?_
  refine E.iloadN (q := 35) X70 hx (hb hby d14_34) rfl ?_
  refine E.iloadN (q := 36) X70 hx (hb hby d14_35) rfl ?_
  refine Ends.callS X70 hx hZ hown (hw _ (List.mem_of_getElem? (i := 80) rfl)) (hw _ (List.mem_of_getElem? (i := 81) rfl)) (hw _ (List.mem_of_getElem? (i := 82) rfl)) (hw _ (List.mem_of_getElem? (i := 83) rfl)) (by decide) (argsL := [(.ref oc), (.int (0 : Int32)), (.int (2 : Int32))]) (rest := []) e70 (rmC3_2 l Z a0 hw oc c0 c1 _ hc0 hc1 A_c) (W := 0) (by decide) (by decide) (by rw [hml]; rfl) (lenOf pd_8 rfl) (Nat.le_of_eq rfl) (hb hby d14_36) (by decide) (by decide) rfl ?_
  rintro T71 v71 L71 X71 ⟨b71, rfl, ge_b71, hO71, V71⟩
  have e71 : T71.heap = T71.heap := rfl
  have O71 := O0.call hO71 all0
  show Ends none p e below s _ _ _ T71 (mkF m 39 #[.val (.ref oa), .val (.ref oc), .val (.int (0 : Int32)), .val (.int (2 : Int32)), .val .null, .unset] [(.ref b71)])
  have gv : h0.size ≤ b71 := Nat.le_trans O0.le ge_b71
  refine E.astore (q := 41) (l' := #[.val (.ref oa), .val (.ref oc), .val (.int (0 : Int32)), .val (.int (2 : Int32)), .val .null, .val (.ref b71)]) X71 hx (hb hby d14_39) rfl rfl ?_
  refine E.aloadN (q := 42) X71 hx (hb hby d14_41) rfl rfl ?_
  refine E.aload (q := 44) X71 hx (hb hby d14_42) rfl rfl ?_
  refine E.iloadN (q := 45) X71 hx (hb hby d14_44) rfl ?_
  refine Ends.callS X71 hx hZ hown (hw _ (List.mem_of_getElem? (i := 87) rfl)) (hw _ (List.mem_of_getElem? (i := 88) rfl)) (hw _ (List.mem_of_getElem? (i := 82) rfl)) (hw _ (List.mem_of_getElem? (i := 89) rfl)) (by decide) (argsL := [(.ref b71), (.int (2 : Int32))]) (rest := [(.ref oa)]) e71 (rmCL_2 l Z a0 hw b71 _ _ V71 rfl) (W := 1) (by decide) (by decide) (by rw [hml]; rfl) (lenOf pd_9 rfl) (Nat.le_of_eq rfl) (hb hby d14_45) (by decide) (by decide) rfl ?_
  rintro T72 v72 L72 X72 ⟨rfl, e72, rfl⟩
  rw [List.append_nil] at X72
  show Ends none p e below s _ _ _ T72 (mkF m 48 #[.val (.ref oa), .val (.ref oc), .val (.int (0 : Int32)), .val (.int (2 : Int32)), .val .null, .val (.ref b71)] [(.int (0 : Int32)), (.ref oa)])
  have f73 := F_c.keep hO71.1 nin0
  have f74 := E0.keep hO71.1
  refine Ends.putN X72 hx hZ hown (hw _ (List.mem_of_getElem? (i := 57) rfl)) Via.refl e72 f73 f74 (Or.inr ⟨(hw _ (List.mem_of_getElem? (i := 43) rfl)), rfl, hnm⟩) (hw _ (List.mem_of_getElem? (i := 41) rfl)) (ty := .byte) (v' := .int (0 : Int32)) (by decide) rfl (by decide) (hb hby d14_48) ?_
  intro T75 h75 X75 e75 W75 Fw75
  have O75 := O71.wr W75 (Or.inl (List.mem_of_getElem? (i := 0) rfl))
  refine E.aloadN (q := 52) X75 hx (hb hby d14_51) rfl rfl ?_
  refine E.aload (q := 54) X75 hx (hb hby d14_52) rfl rfl ?_
  have f76 := F_v.keep hO71.1 nin0
  have f77 := f76.other W75 (Or.inr (slot_ne (Or.inr (hw _ (List.mem_of_getElem? (i := 42) rfl))) (Or.inr (hw _ (List.mem_of_getElem? (i := 43) rfl))) (by decide) (t := (.array .byte)) (t' := .byte) (by decide) (by decide)))
  have f78 := f74.wr W75
  refine Ends.putF X75 hx hZ hown (host := "") (Or.inl (hw _ (List.mem_of_getElem? (i := 58) rfl))) Via.refl e75 f77 f78 (Or.inr ⟨(hw _ (List.mem_of_getElem? (i := 42) rfl)), rfl, hnm⟩) (hw _ (List.mem_of_getElem? (i := 41) rfl)) (ty := (.array .byte)) (by decide) rfl rfl (hb hby d14_54) ?_
  intro T79 h79 X79 e79 W79 Fw79
  have O79 := O75.wr W79 (Or.inl (List.mem_of_getElem? (i := 0) rfl))
  have f80 := Fw75.other W79 (Or.inr (slot_ne (Or.inr (hw _ (List.mem_of_getElem? (i := 43) rfl))) (Or.inr (hw _ (List.mem_of_getElem? (i := 42) rfl))) (by decide) (t := .byte) (t' := (.array .byte)) (by decide) (by decide)))
  have f81 := V71.other W75 (Ne.symm (Nat.ne_of_lt (Nat.lt_of_lt_of_le E0.lt ge_b71)))
  have f82 := f81.other W79 (Ne.symm (Nat.ne_of_lt (Nat.lt_of_lt_of_le E0.lt ge_b71)))
  subst e79
  exact Ends.retV X79 hx hlk hret (hb hby d14_57) (by decide) (by decide) ⟨rfl, _, gv, O79, Fw79, f80, f82⟩
theorem efI1_2 (m : MethodId) (x0 : Addr) (x1 : Addr) : entryFrame m #[(.ref x0), (.ref x1)] 2 = mkF m 0 #[.val (.ref x0), .val (.ref x1)] [] := by first | (simp [entryFrame, mkF, argsToLocals, Value.category]; done) | rfl
set_option maxRecDepth 65536 in
set_option maxHeartbeats 40000000 in
theorem rmI1_2 (l : Launch) (Z : State) (a0 : Array Value) (hw : ∀ d ∈ tables_1, d.before a0 Z = true) (oa : Addr) (oc : Addr) (c0 c1 : Int32) (h0 : Heap) (hc0 : own_B c0) (hc1 : own_B c1) (E0 : Exa Z h0 oa "java/lang/String") (F_v : Fld Z h0 oa "java/lang/String" "value" "[B" .null) (F_c : Fld Z h0 oa "java/lang/String" "coder" "B" (.int (0 : Int32))) (A_c : Ary Z h0 oc .char [(.int c0), (.int c1)]) (hne : oc ≠ oa) (cs : Int32) (hcs : ¬ cs = (0 : Int32)) (S0 : Sta Z h0 "java/lang/String" "COMPACT_STRINGS" "Z" (.int cs)) :
    Con l (⟨"java/lang/String", "<init>", "([C)V"⟩ : MethodName) jdk_42_method_3_code 2 none [] ({ frames := 3, cells := 1, slots := 2, locals := 72 } : Room) #[(.ref oa), (.ref oc)] Z h0 (fun v h L => v = none ∧ ∃ V, h0.size ≤ V ∧ Ok h0 h [oa] L ∧ Fld Z h oa "java/lang/String" "value" "[B" (.ref V) ∧ Fld Z h oa "java/lang/String" "coder" "B" (.int (0 : Int32)) ∧ Ary Z h V .byte [(.int c0.toInt8.toInt32), (.int c1.toInt8.toInt32)]) := by
  refine Con.of (plainFor_of_name pn_0) ?_
  intro p e s m below meth c s₁ hx hZ hby hml hown hnm hret hlk X0 e0
  refine Ends.cast (efI1_2 m oa oc) ?_
  show Ends none p e below s _ _ _ s₁ (mkF m 0 #[.val (.ref oa), .val (.ref oc)] [])
  have O0 := Ok.refl h0 [oa]
  refine E.aloadN (q := 1) X0 hx (hb hby d13_0) rfl rfl ?_
  refine E.aloadN (q := 2) X0 hx (hb hby d13_1) rfl rfl ?_
  refine E.iconst (q := 3) (v := (0 : Int32)) X0 hx (hb hby d13_2) rfl ?_
  refine E.aloadN (q := 4) X0 hx (hb hby d13_3) rfl rfl ?_
  refine Ends.alen X0 hx hZ e0 A_c (hb hby d13_4) (n := (2 : Int32)) rfl ?_
  refine E.aconstNull (q := 6) X0 hx (hb hby d13_5) ?_
  refine Ends.callI X0 hx hZ hown (hw _ (List.mem_of_getElem? (i := 75) rfl)) (hw _ (List.mem_of_getElem? (i := 76) rfl)) (hw _ (List.mem_of_getElem? (i := 40) rfl)) (hw _ (List.mem_of_getElem? (i := 78) rfl)) rfl (by decide) (argsL := [(.ref oc), (.int (0 : Int32)), (.int (2 : Int32)), .null]) (rest := []) e0 (rmI4_2 l Z a0 hw oa oc c0 c1 _ hc0 hc1 E0 F_v F_c A_c hne cs hcs S0) (W := 0) (by decide) (by decide) (by rw [hml]; rfl) (lenOf pd_6 rfl) (Nat.le_of_eq rfl) (hb hby d13_6) (by decide) (by decide) rfl ?_
  rintro T83 v83 L83 X83 ⟨rfl, V83, gV83, hO83, a83, b83, d83⟩
  have e83 : T83.heap = T83.heap := rfl
  have O83 := O0.call hO83 (allS (Or.inl (List.mem_of_getElem? (i := 0) rfl)) all0)
  show Ends none p e below s _ _ _ T83 (mkF m 9 #[.val (.ref oa), .val (.ref oc)] [])
  exact Ends.retV X83 hx hlk hret (hb hby d13_9) (by decide) (by decide) ⟨rfl, _, gV83, hO83, a83, b83, d83⟩
theorem efC5_3 (m : MethodId) (x0 : Addr) (x1 : Int32) (x2 : Addr) (x3 : Int32) (x4 : Int32) : entryFrame m #[(.ref x0), (.int x1), (.ref x2), (.int x3), (.int x4)] 7 = mkF m 0 #[.val (.ref x0), .val (.int x1), .val (.ref x2), .val (.int x3), .val (.int x4), .unset, .unset] [] := by first | (simp [entryFrame, mkF, argsToLocals, Value.category]; done) | rfl
set_option maxRecDepth 65536 in
set_option maxHeartbeats 40000000 in
theorem rmC5_3 (l : Launch) (Z : State) (a0 : Array Value) (hw : ∀ d ∈ tables_1, d.before a0 Z = true) (oc : Addr) (od : Addr) (c0 c1 c2 : Int32) (h0 : Heap) (hc0 : own_B c0) (hc1 : own_B c1) (hc2 : own_B c2) (A_c : Ary Z h0 oc .char [(.int c0), (.int c1), (.int c2)]) (A_d : Ary Z h0 od .byte [(.int (0 : Int32)), (.int (0 : Int32)), (.int (0 : Int32))]) (hne : oc ≠ od) :
    Con l (⟨"java/lang/StringUTF16", "compress", "([CI[BII)I"⟩ : MethodName) jdk_52_method_21_code 7 (some .int) [] ({ frames := 0, cells := 0, slots := 0, locals := 0 } : Room) #[(.ref oc), (.int (0 : Int32)), (.ref od), (.int (0 : Int32)), (.int (3 : Int32))] Z h0 (fun v h L => v = some (.int (3 : Int32)) ∧ Ok h0 h [od] L ∧ Ary Z h od .byte [(.int c0.toInt8.toInt32), (.int c1.toInt8.toInt32), (.int c2.toInt8.toInt32)]) := by
  refine Con.of (plainFor_of_name pn_4) ?_
  intro p e s m below meth c s₁ hx hZ hby hml hown hnm hret hlk X0 e0
  refine Ends.cast (efC5_3 m oc (0 : Int32) od (0 : Int32) (3 : Int32)) ?_
  show Ends none p e below s _ _ _ s₁ (mkF m 0 #[.val (.ref oc), .val (.int (0 : Int32)), .val (.ref od), .val (.int (0 : Int32)), .val (.int (3 : Int32)), .unset, .unset] [])
  have O0 := Ok.refl h0 [od]
  refine E.iconst (q := 1) (v := (0 : Int32)) X0 hx (hb hby d16_0) rfl ?_
  refine E.istore (q := 3) (l' := #[.val (.ref oc), .val (.int (0 : Int32)), .val (.ref od), .val (.int (0 : Int32)), .val (.int (3 : Int32)), .val (.int (0 : Int32)), .unset]) X0 hx (hb hby d16_1) rfl ?_
  refine E.iload (q := 5) X0 hx (hb hby d16_3) rfl ?_
  refine E.iload (q := 7) X0 hx (hb hby d16_5) rfl ?_
  refine E.icmpN (q := 10) X0 hx (hb hby d16_7) (XT.ii_ge_f (by decide)) ?_
  refine E.aloadN (q := 11) X0 hx (hb hby d16_10) rfl rfl ?_
  refine E.iloadN (q := 12) X0 hx (hb hby d16_11) rfl ?_
  refine Ends.cld X0 hx hZ e0 A_c (i := 0) rfl rfl (hb hby d16_12) ?_
  refine E.istore (q := 15) (l' := #[.val (.ref oc), .val (.int (0 : Int32)), .val (.ref od), .val (.int (0 : Int32)), .val (.int (3 : Int32)), .val (.int (0 : Int32)), .val (.int c0)]) X0 hx (hb hby d16_13) rfl ?_
  refine E.iload (q := 17) X0 hx (hb hby d16_15) rfl ?_
  refine E.sipush (q := 20) (v := (255 : Int32)) X0 hx (hb hby d16_17) rfl ?_
  refine E.icmpY (q := 26) X0 hx (hb hby d16_20) (XT.ii_le_t (own_B_le hc0)) ?_
  refine E.aloadN (q := 27) X0 hx (hb hby d16_26) rfl rfl ?_
  refine E.iloadN (q := 28) X0 hx (hb hby d16_27) rfl ?_
  refine E.iload (q := 30) X0 hx (hb hby d16_28) rfl ?_
  refine E.i2b (q := 31) X0 hx (hb hby d16_30) ?_
  refine Ends.bst X0 hx hZ e0 A_d (x' := (c0.toInt8.toInt32)) (own_nb8 _) (i := 0) rfl (show 0 < 3 from by decide) (hb hby d16_31) ?_
  intro T84 h84 X84 e84 W84 V84
  have V84 : Ary Z h84 od .byte [(.int (c0.toInt8.toInt32)), (.int (0 : Int32)), (.int (0 : Int32))] := V84
  have O84 := O0.wr W84 (Or.inl (List.mem_of_getElem? (i := 0) rfl))
  refine E.iinc (q := 35) (v := (1 : Int32)) (l' := #[.val (.ref oc), .val (.int (1 : Int32)), .val (.ref od), .val (.int (0 : Int32)), .val (.int (3 : Int32)), .val (.int (0 : Int32)), .val (.int c0)]) X84 hx (hb hby d16_32) rfl (by decide) rfl ?_
  refine E.iinc (q := 38) (v := (1 : Int32)) (l' := #[.val (.ref oc), .val (.int (1 : Int32)), .val (.ref od), .val (.int (1 : Int32)), .val (.int (3 : Int32)), .val (.int (0 : Int32)), .val (.int c0)]) X84 hx (hb hby d16_35) rfl (by decide) rfl ?_
  refine E.iinc (q := 41) (v := (1 : Int32)) (l' := #[.val (.ref oc), .val (.int (1 : Int32)), .val (.ref od), .val (.int (1 : Int32)), .val (.int (3 : Int32)), .val (.int (1 : Int32)), .val (.int c0)]) X84 hx (hb hby d16_38) rfl (by decide) rfl ?_
  refine E.goto (q := 3) X84 hx (hb hby d16_41) ?_
  refine E.iload (q := 5) X84 hx (hb hby d16_3) rfl ?_
  refine E.iload (q := 7) X84 hx (hb hby d16_5) rfl ?_
  refine E.icmpN (q := 10) X84 hx (hb hby d16_7) (XT.ii_ge_f (by decide)) ?_
  refine E.aloadN (q := 11) X84 hx (hb hby d16_10) rfl rfl ?_
  refine E.iloadN (q := 12) X84 hx (hb hby d16_11) rfl ?_
  have f85 := A_c.other W84 hne
  refine Ends.cld X84 hx hZ e84 f85 (i := 1) rfl rfl (hb hby d16_12) ?_
  refine E.istore (q := 15) (l' := #[.val (.ref oc), .val (.int (1 : Int32)), .val (.ref od), .val (.int (1 : Int32)), .val (.int (3 : Int32)), .val (.int (1 : Int32)), .val (.int c1)]) X84 hx (hb hby d16_13) rfl ?_
  refine E.iload (q := 17) X84 hx (hb hby d16_15) rfl ?_
  refine E.sipush (q := 20) (v := (255 : Int32)) X84 hx (hb hby d16_17) rfl ?_
  refine E.icmpY (q := 26) X84 hx (hb hby d16_20) (XT.ii_le_t (own_B_le hc1)) ?_
  refine E.aloadN (q := 27) X84 hx (hb hby d16_26) rfl rfl ?_
  refine E.iloadN (q := 28) X84 hx (hb hby d16_27) rfl ?_
  refine E.iload (q := 30) X84 hx (hb hby d16_28) rfl ?_
  refine E.i2b (q := 31) X84 hx (hb hby d16_30) ?_
  refine Ends.bst X84 hx hZ e84 V84 (x' := (c1.toInt8.toInt32)) (own_nb8 _) (i := 1) rfl (show 1 < 3 from by decide) (hb hby d16_31) ?_
  intro T86 h86 X86 e86 W86 V86
  have V86 : Ary Z h86 od .byte [(.int (c0.toInt8.toInt32)), (.int (c1.toInt8.toInt32)), (.int (0 : Int32))] := V86
  have O86 := O84.wr W86 (Or.inl (List.mem_of_getElem? (i := 0) rfl))
  refine E.iinc (q := 35) (v := (2 : Int32)) (l' := #[.val (.ref oc), .val (.int (2 : Int32)), .val (.ref od), .val (.int (1 : Int32)), .val (.int (3 : Int32)), .val (.int (1 : Int32)), .val (.int c1)]) X86 hx (hb hby d16_32) rfl (by decide) rfl ?_
  refine E.iinc (q := 38) (v := (2 : Int32)) (l' := #[.val (.ref oc), .val (.int (2 : Int32)), .val (.ref od), .val (.int (2 : Int32)), .val (.int (3 : Int32)), .val (.int (1 : Int32)), .val (.int c1)]) X86 hx (hb hby d16_35) rfl (by decide) rfl ?_
  refine E.iinc (q := 41) (v := (2 : Int32)) (l' := #[.val (.ref oc), .val (.int (2 : Int32)), .val (.ref od), .val (.int (2 : Int32)), .val (.int (3 : Int32)), .val (.int (2 : Int32)), .val (.int c1)]) X86 hx (hb hby d16_38) rfl (by decide) rfl ?_
  refine E.goto (q := 3) X86 hx (hb hby d16_41) ?_
  refine E.iload (q := 5) X86 hx (hb hby d16_3) rfl ?_
  refine E.iload (q := 7) X86 hx (hb hby d16_5) rfl ?_
  refine E.icmpN (q := 10) X86 hx (hb hby d16_7) (XT.ii_ge_f (by decide)) ?_
  refine E.aloadN (q := 11) X86 hx (hb hby d16_10) rfl rfl ?_
  refine E.iloadN (q := 12) X86 hx (hb hby d16_11) rfl ?_
  have f87 := f85.other W86 hne
  refine Ends.cld X86 hx hZ e86 f87 (i := 2) rfl rfl (hb hby d16_12) ?_
  refine E.istore (q := 15) (l' := #[.val (.ref oc), .val (.int (2 : Int32)), .val (.ref od), .val (.int (2 : Int32)), .val (.int (3 : Int32)), .val (.int (2 : Int32)), .val (.int c2)]) X86 hx (hb hby d16_13) rfl ?_
  refine E.iload (q := 17) X86 hx (hb hby d16_15) rfl ?_
  refine E.sipush (q := 20) (v := (255 : Int32)) X86 hx (hb hby d16_17) rfl ?_
  refine E.icmpY (q := 26) X86 hx (hb hby d16_20) (XT.ii_le_t (own_B_le hc2)) ?_
  refine E.aloadN (q := 27) X86 hx (hb hby d16_26) rfl rfl ?_
  refine E.iloadN (q := 28) X86 hx (hb hby d16_27) rfl ?_
  refine E.iload (q := 30) X86 hx (hb hby d16_28) rfl ?_
  refine E.i2b (q := 31) X86 hx (hb hby d16_30) ?_
  refine Ends.bst X86 hx hZ e86 V86 (x' := (c2.toInt8.toInt32)) (own_nb8 _) (i := 2) rfl (show 2 < 3 from by decide) (hb hby d16_31) ?_
  intro T88 h88 X88 e88 W88 V88
  have V88 : Ary Z h88 od .byte [(.int (c0.toInt8.toInt32)), (.int (c1.toInt8.toInt32)), (.int (c2.toInt8.toInt32))] := V88
  have O88 := O86.wr W88 (Or.inl (List.mem_of_getElem? (i := 0) rfl))
  refine E.iinc (q := 35) (v := (3 : Int32)) (l' := #[.val (.ref oc), .val (.int (3 : Int32)), .val (.ref od), .val (.int (2 : Int32)), .val (.int (3 : Int32)), .val (.int (2 : Int32)), .val (.int c2)]) X88 hx (hb hby d16_32) rfl (by decide) rfl ?_
  refine E.iinc (q := 38) (v := (3 : Int32)) (l' := #[.val (.ref oc), .val (.int (3 : Int32)), .val (.ref od), .val (.int (3 : Int32)), .val (.int (3 : Int32)), .val (.int (2 : Int32)), .val (.int c2)]) X88 hx (hb hby d16_35) rfl (by decide) rfl ?_
  refine E.iinc (q := 41) (v := (3 : Int32)) (l' := #[.val (.ref oc), .val (.int (3 : Int32)), .val (.ref od), .val (.int (3 : Int32)), .val (.int (3 : Int32)), .val (.int (3 : Int32)), .val (.int c2)]) X88 hx (hb hby d16_38) rfl (by decide) rfl ?_
  refine E.goto (q := 3) X88 hx (hb hby d16_41) ?_
  refine E.iload (q := 5) X88 hx (hb hby d16_3) rfl ?_
  refine E.iload (q := 7) X88 hx (hb hby d16_5) rfl ?_
  refine E.icmpY (q := 44) X88 hx (hb hby d16_7) (XT.ii_ge_t (by decide)) ?_
  refine E.iload (q := 46) X88 hx (hb hby d16_44) rfl ?_
  subst e88
  exact Ends.retI X88 hx hlk hret (hb hby d16_46) (by decide) (by decide) ⟨rfl, O88, V88⟩
theorem efC3_3 (m : MethodId) (x0 : Addr) (x1 : Int32) (x2 : Int32) : entryFrame m #[(.ref x0), (.int x1), (.int x2)] 6 = mkF m 0 #[.val (.ref x0), .val (.int x1), .val (.int x2), .unset, .unset, .unset] [] := by first | (simp [entryFrame, mkF, argsToLocals, Value.category]; done) | rfl
set_option maxRecDepth 65536 in
set_option maxHeartbeats 40000000 in
theorem rmC3_3 (l : Launch) (Z : State) (a0 : Array Value) (hw : ∀ d ∈ tables_1, d.before a0 Z = true) (oc : Addr) (c0 c1 c2 : Int32) (h0 : Heap) (hc0 : own_B c0) (hc1 : own_B c1) (hc2 : own_B c2) (A_c : Ary Z h0 oc .char [(.int c0), (.int c1), (.int c2)]) :
    Con l (⟨"java/lang/StringUTF16", "compress", "([CII)[B"⟩ : MethodName) jdk_52_method_16_code 6 (some (.array .byte)) [] ({ frames := 1, cells := 1, slots := 3, locals := 24 } : Room) #[(.ref oc), (.int (0 : Int32)), (.int (3 : Int32))] Z h0 (fun v h L => ∃ b, v = some (.ref b) ∧ h0.size ≤ b ∧ Ok h0 h [] L ∧ Ary Z h b .byte [(.int c0.toInt8.toInt32), (.int c1.toInt8.toInt32), (.int c2.toInt8.toInt32)]) := by
  refine Con.of (plainFor_of_name pn_4) ?_
  intro p e s m below meth c s₁ hx hZ hby hml hown hnm hret hlk X0 e0
  refine Ends.cast (efC3_3 m oc (0 : Int32) (3 : Int32)) ?_
  show Ends none p e below s _ _ _ s₁ (mkF m 0 #[.val (.ref oc), .val (.int (0 : Int32)), .val (.int (3 : Int32)), .unset, .unset, .unset] [])
  have O0 := Ok.refl h0 []
  refine E.iloadN (q := 1) X0 hx (hb hby d15_0) rfl ?_
  refine Ends.newA X0 hx hZ (hw _ (List.mem_of_getElem? (i := 9) rfl)) e0 (hb hby d15_1) (N := 3) rfl (by decide) (by decide) (by decide) ?_
  intro T89 h89 b89 g89 X89 e89 E89 A89
  have ge_b89 : h0.size ≤ b89 := Nat.le_trans O0.le (Nat.le_of_eq g89.symm)
  have O89 := O0.ext E89
  have V89 : Ary Z h89 b89 .byte [(.int (0 : Int32)), (.int (0 : Int32)), (.int (0 : Int32))] := A89
  refine E.astoreN (q := 4) (l' := #[.val (.ref oc), .val (.int (0 : Int32)), .val (.int (3 : Int32)), .val (.ref b89), .unset, .unset]) X89 hx (hb hby d15_3) rfl rfl ?_
  refine E.aloadN (q := 5) X89 hx (hb hby d15_4) rfl rfl ?_
  refine E.iloadN (q := 6) X89 hx (hb hby d15_5) rfl ?_
  refine E.aloadN (q := 7) X89 hx (hb hby d15_6) rfl rfl ?_
  refine E.iconst (q := 8) (v := (0 : Int32)) X89 hx (hb hby d15_7) rfl ?_
  refine E.iloadN (q := 9) X89 hx (hb hby d15_8) rfl ?_
  have f90 := A_c.ext E89
  refine Ends.callS X89 hx hZ hown (hw _ (List.mem_of_getElem? (i := 84) rfl)) (hw _ (List.mem_of_getElem? (i := 85) rfl)) (hw _ (List.mem_of_getElem? (i := 82) rfl)) (hw _ (List.mem_of_getElem? (i := 86) rfl)) (by decide) (argsL := [(.ref oc), (.int (0 : Int32)), (.ref b89), (.int (0 : Int32)), (.int (3 : Int32))]) (rest := []) e89 (rmC5_3 l Z a0 hw oc b89 c0 c1 c2 _ hc0 hc1 hc2 f90 V89 (Nat.ne_of_lt (Nat.lt_of_lt_of_eq A_c.lt g89.symm))) (W := 0) (by decide) (by decide) (by rw [hml]; rfl) (lenOf pd_7 rfl) (Nat.le_of_eq rfl) (hb hby d15_9) (by decide) (by decide) rfl ?_
  rintro T91 v91 L91 X91 ⟨rfl, hO91, V91⟩
  have e91 : T91.heap = T91.heap := rfl
  have O91 := O89.call hO91 (allS (Or.inr ge_b89) all0)
  show Ends none p e below s _ _ _ T91 (mkF m 12 #[.val (.ref oc), .val (.int (0 : Int32)), .val (.int (3 : Int32)), .val (.ref b89), .unset, .unset] [(.int (3 : Int32))])
  refine E.istore (q := 14) (l' := #[.val (.ref oc), .val (.int (0 : Int32)), .val (.int (3 : Int32)), .val (.ref b89), .val (.int (3 : Int32)), .unset]) X91 hx (hb hby d15_12) rfl ?_
  refine E.iload (q := 16) X91 hx (hb hby d15_14) rfl ?_
  refine E.iloadN (q := 17) X91 hx (hb hby d15_16) rfl ?_
  refine E.icmpY (q := 57) X91 hx (hb hby d15_17) (XT.ii_eq_t (by decide)) ?_
  refine E.aloadN (q := 58) X91 hx (hb hby d15_57) rfl rfl ?_
  exact Ends.retA X91 hx hlk hret rfl rfl rfl (hb hby d15_58) (by decide) (by decide) ⟨_, rfl, ge_b89, O91, V91⟩
theorem efCL_3 (m : MethodId) (x0 : Addr) (x1 : Int32) : entryFrame m #[(.ref x0), (.int x1)] 2 = mkF m 0 #[.val (.ref x0), .val (.int x1)] [] := by first | (simp [entryFrame, mkF, argsToLocals, Value.category]; done) | rfl
set_option maxRecDepth 65536 in
set_option maxHeartbeats 40000000 in
theorem rmCL_3 (l : Launch) (Z : State) (a0 : Array Value) (hw : ∀ d ∈ tables_1, d.before a0 Z = true) (od : Addr) (vs : List Value) (h0 : Heap) (A_d : Ary Z h0 od .byte vs) (hl : vs.length = 3) :
    Con l (⟨"java/lang/StringUTF16", "coderFromArrayLen", "([BI)B"⟩ : MethodName) jdk_52_method_15_code 2 (some .byte) [] ({ frames := 0, cells := 0, slots := 0, locals := 0 } : Room) #[(.ref od), (.int (3 : Int32))] Z h0 (fun v h L => v = some (.int (0 : Int32)) ∧ h = h0 ∧ L = []) := by
  refine Con.of (plainFor_of_name pn_4) ?_
  intro p e s m below meth c s₁ hx hZ hby hml hown hnm hret hlk X0 e0
  refine Ends.cast (efCL_3 m od (3 : Int32)) ?_
  show Ends none p e below s _ _ _ s₁ (mkF m 0 #[.val (.ref od), .val (.int (3 : Int32))] [])
  refine E.iloadN (q := 1) X0 hx (hb hby d17_0) rfl ?_
  refine E.aloadN (q := 2) X0 hx (hb hby d17_1) rfl rfl ?_
  refine Ends.alen X0 hx hZ e0 A_d (hb hby d17_2) (n := (3 : Int32)) (by rw [hl]; rfl) ?_
  refine E.isub (q := 4) X0 hx (hb hby d17_3) ?_
  rw [show ((3 : Int32) - (3 : Int32)) = (0 : Int32) from by decide]
  refine E.bipush (q := 6) (v := (31 : Int32)) X0 hx (hb hby d17_4) rfl ?_
  refine E.iushr (q := 7) X0 hx (hb hby d17_6) ?_
  rw [show (((0 : Int32).toUInt32 >>> ((31 : Int32) &&& 31).toUInt32).toInt32) = (0 : Int32) from by decide]
  refine E.i2b (q := 8) X0 hx (hb hby d17_7) ?_
  exact Ends.retS X0 hx hlk hret (by simp) rfl (hb hby d17_8) (by decide) (by decide) ⟨by decide, e0, rfl⟩
theorem efI4_3 (m : MethodId) (x0 : Addr) (x1 : Addr) (x2 : Int32) (x3 : Int32) : entryFrame m #[(.ref x0), (.ref x1), (.int x2), (.int x3), .null] 6 = mkF m 0 #[.val (.ref x0), .val (.ref x1), .val (.int x2), .val (.int x3), .val .null, .unset] [] := by first | (simp [entryFrame, mkF, argsToLocals, Value.category]; done) | rfl
set_option maxRecDepth 65536 in
set_option maxHeartbeats 40000000 in
theorem rmI4_3 (l : Launch) (Z : State) (a0 : Array Value) (hw : ∀ d ∈ tables_1, d.before a0 Z = true) (oa : Addr) (oc : Addr) (c0 c1 c2 : Int32) (h0 : Heap) (hc0 : own_B c0) (hc1 : own_B c1) (hc2 : own_B c2) (E0 : Exa Z h0 oa "java/lang/String") (F_v : Fld Z h0 oa "java/lang/String" "value" "[B" .null) (F_c : Fld Z h0 oa "java/lang/String" "coder" "B" (.int (0 : Int32))) (A_c : Ary Z h0 oc .char [(.int c0), (.int c1), (.int c2)]) (hne : oc ≠ oa) (cs : Int32) (hcs : ¬ cs = (0 : Int32)) (S0 : Sta Z h0 "java/lang/String" "COMPACT_STRINGS" "Z" (.int cs)) :
    Con l (⟨"java/lang/String", "<init>", "([CIILjava/lang/Void;)V"⟩ : MethodName) jdk_42_method_149_code 6 none [] ({ frames := 2, cells := 1, slots := 3, locals := 48 } : Room) #[(.ref oa), (.ref oc), (.int (0 : Int32)), (.int (3 : Int32)), .null] Z h0 (fun v h L => v = none ∧ ∃ V, h0.size ≤ V ∧ Ok h0 h [oa] L ∧ Fld Z h oa "java/lang/String" "value" "[B" (.ref V) ∧ Fld Z h oa "java/lang/String" "coder" "B" (.int (0 : Int32)) ∧ Ary Z h V .byte [(.int c0.toInt8.toInt32), (.int c1.toInt8.toInt32), (.int c2.toInt8.toInt32)]) := by
  refine Con.of (plainFor_of_name pn_0) ?_
  intro p e s m below meth c s₁ hx hZ hby hml hown hnm hret hlk X0 e0
  refine Ends.cast (efI4_3 m oa oc (0 : Int32) (3 : Int32)) ?_
  show Ends none p e below s _ _ _ s₁ (mkF m 0 #[.val (.ref oa), .val (.ref oc), .val (.int (0 : Int32)), .val (.int (3 : Int32)), .val .null, .unset] [])
  have O0 := Ok.refl h0 [oa]
  refine E.aloadN (q := 1) X0 hx (hb hby d14_0) rfl rfl ?_
  refine Ends.initO X0 hx hZ hown (hw _ (List.mem_of_getElem? (i := 79) rfl)) (hw _ (List.mem_of_getElem? (i := 7) rfl)) (hw _ (List.mem_of_getElem? (i := 8) rfl)) e0 (by rw [hml]; rfl) (hb hby d14_1) (by decide) (W := 0) (Nat.le_of_eq rfl) (by decide) ?_
  intro T92 X92 e92
  refine E.iloadN (q := 5) X92 hx (hb hby d14_4) rfl ?_
  refine E.ifY (q := 27) X92 hx (hb hby d14_5) (XT.i0_ne_t (by decide)) ?_
  refine Ends.getS X92 hx hZ hown (host := "") (Or.inl (hw _ (List.mem_of_getElem? (i := 56) rfl))) Via.refl e92 (own_sta_keep S0 O0.1 (own_ns E0)) (hb hby d14_27) ?_
  intro T93 X93 e93
  refine E.ifN (q := 33) X93 hx (hb hby d14_30) (XT.i0_eq_f hcs) ?_
  refine E.aloadN (q := 34) X93 hx (hb hby d14_33) rfl rfl ?_
  refine E.iloadN (q := 35) X93 hx (hb hby d14_34) rfl ?_
  refine E.iloadN (q := 36) X93 hx (hb hby d14_35) rfl ?_
  refine Ends.callS X93 hx hZ hown (hw _ (List.mem_of_getElem? (i := 80) rfl)) (hw _ (List.mem_of_getElem? (i := 81) rfl)) (hw _ (List.mem_of_getElem? (i := 82) rfl)) (hw _ (List.mem_of_getElem? (i := 83) rfl)) (by decide) (argsL := [(.ref oc), (.int (0 : Int32)), (.int (3 : Int32))]) (rest := []) e93 (rmC3_3 l Z a0 hw oc c0 c1 c2 _ hc0 hc1 hc2 A_c) (W := 0) (by decide) (by decide) (by rw [hml]; rfl) (lenOf pd_8 rfl) (Nat.le_of_eq rfl) (hb hby d14_36) (by decide) (by decide) rfl ?_
  rintro T94 v94 L94 X94 ⟨b94, rfl, ge_b94, hO94, V94⟩
  have e94 : T94.heap = T94.heap := rfl
  have O94 := O0.call hO94 all0
  show Ends none p e below s _ _ _ T94 (mkF m 39 #[.val (.ref oa), .val (.ref oc), .val (.int (0 : Int32)), .val (.int (3 : Int32)), .val .null, .unset] [(.ref b94)])
  have gv : h0.size ≤ b94 := Nat.le_trans O0.le ge_b94
  refine E.astore (q := 41) (l' := #[.val (.ref oa), .val (.ref oc), .val (.int (0 : Int32)), .val (.int (3 : Int32)), .val .null, .val (.ref b94)]) X94 hx (hb hby d14_39) rfl rfl ?_
  refine E.aloadN (q := 42) X94 hx (hb hby d14_41) rfl rfl ?_
  refine E.aload (q := 44) X94 hx (hb hby d14_42) rfl rfl ?_
  refine E.iloadN (q := 45) X94 hx (hb hby d14_44) rfl ?_
  refine Ends.callS X94 hx hZ hown (hw _ (List.mem_of_getElem? (i := 87) rfl)) (hw _ (List.mem_of_getElem? (i := 88) rfl)) (hw _ (List.mem_of_getElem? (i := 82) rfl)) (hw _ (List.mem_of_getElem? (i := 89) rfl)) (by decide) (argsL := [(.ref b94), (.int (3 : Int32))]) (rest := [(.ref oa)]) e94 (rmCL_3 l Z a0 hw b94 _ _ V94 rfl) (W := 1) (by decide) (by decide) (by rw [hml]; rfl) (lenOf pd_9 rfl) (Nat.le_of_eq rfl) (hb hby d14_45) (by decide) (by decide) rfl ?_
  rintro T95 v95 L95 X95 ⟨rfl, e95, rfl⟩
  rw [List.append_nil] at X95
  show Ends none p e below s _ _ _ T95 (mkF m 48 #[.val (.ref oa), .val (.ref oc), .val (.int (0 : Int32)), .val (.int (3 : Int32)), .val .null, .val (.ref b94)] [(.int (0 : Int32)), (.ref oa)])
  have f96 := F_c.keep hO94.1 nin0
  have f97 := E0.keep hO94.1
  refine Ends.putN X95 hx hZ hown (hw _ (List.mem_of_getElem? (i := 57) rfl)) Via.refl e95 f96 f97 (Or.inr ⟨(hw _ (List.mem_of_getElem? (i := 43) rfl)), rfl, hnm⟩) (hw _ (List.mem_of_getElem? (i := 41) rfl)) (ty := .byte) (v' := .int (0 : Int32)) (by decide) rfl (by decide) (hb hby d14_48) ?_
  intro T98 h98 X98 e98 W98 Fw98
  have O98 := O94.wr W98 (Or.inl (List.mem_of_getElem? (i := 0) rfl))
  refine E.aloadN (q := 52) X98 hx (hb hby d14_51) rfl rfl ?_
  refine E.aload (q := 54) X98 hx (hb hby d14_52) rfl rfl ?_
  have f99 := F_v.keep hO94.1 nin0
  have f100 := f99.other W98 (Or.inr (slot_ne (Or.inr (hw _ (List.mem_of_getElem? (i := 42) rfl))) (Or.inr (hw _ (List.mem_of_getElem? (i := 43) rfl))) (by decide) (t := (.array .byte)) (t' := .byte) (by decide) (by decide)))
  have f101 := f97.wr W98
  refine Ends.putF X98 hx hZ hown (host := "") (Or.inl (hw _ (List.mem_of_getElem? (i := 58) rfl))) Via.refl e98 f100 f101 (Or.inr ⟨(hw _ (List.mem_of_getElem? (i := 42) rfl)), rfl, hnm⟩) (hw _ (List.mem_of_getElem? (i := 41) rfl)) (ty := (.array .byte)) (by decide) rfl rfl (hb hby d14_54) ?_
  intro T102 h102 X102 e102 W102 Fw102
  have O102 := O98.wr W102 (Or.inl (List.mem_of_getElem? (i := 0) rfl))
  have f103 := Fw98.other W102 (Or.inr (slot_ne (Or.inr (hw _ (List.mem_of_getElem? (i := 43) rfl))) (Or.inr (hw _ (List.mem_of_getElem? (i := 42) rfl))) (by decide) (t := .byte) (t' := (.array .byte)) (by decide) (by decide)))
  have f104 := V94.other W98 (Ne.symm (Nat.ne_of_lt (Nat.lt_of_lt_of_le E0.lt ge_b94)))
  have f105 := f104.other W102 (Ne.symm (Nat.ne_of_lt (Nat.lt_of_lt_of_le E0.lt ge_b94)))
  subst e102
  exact Ends.retV X102 hx hlk hret (hb hby d14_57) (by decide) (by decide) ⟨rfl, _, gv, O102, Fw102, f103, f105⟩
theorem efI1_3 (m : MethodId) (x0 : Addr) (x1 : Addr) : entryFrame m #[(.ref x0), (.ref x1)] 2 = mkF m 0 #[.val (.ref x0), .val (.ref x1)] [] := by first | (simp [entryFrame, mkF, argsToLocals, Value.category]; done) | rfl
set_option maxRecDepth 65536 in
set_option maxHeartbeats 40000000 in
theorem rmI1_3 (l : Launch) (Z : State) (a0 : Array Value) (hw : ∀ d ∈ tables_1, d.before a0 Z = true) (oa : Addr) (oc : Addr) (c0 c1 c2 : Int32) (h0 : Heap) (hc0 : own_B c0) (hc1 : own_B c1) (hc2 : own_B c2) (E0 : Exa Z h0 oa "java/lang/String") (F_v : Fld Z h0 oa "java/lang/String" "value" "[B" .null) (F_c : Fld Z h0 oa "java/lang/String" "coder" "B" (.int (0 : Int32))) (A_c : Ary Z h0 oc .char [(.int c0), (.int c1), (.int c2)]) (hne : oc ≠ oa) (cs : Int32) (hcs : ¬ cs = (0 : Int32)) (S0 : Sta Z h0 "java/lang/String" "COMPACT_STRINGS" "Z" (.int cs)) :
    Con l (⟨"java/lang/String", "<init>", "([C)V"⟩ : MethodName) jdk_42_method_3_code 2 none [] ({ frames := 3, cells := 1, slots := 3, locals := 72 } : Room) #[(.ref oa), (.ref oc)] Z h0 (fun v h L => v = none ∧ ∃ V, h0.size ≤ V ∧ Ok h0 h [oa] L ∧ Fld Z h oa "java/lang/String" "value" "[B" (.ref V) ∧ Fld Z h oa "java/lang/String" "coder" "B" (.int (0 : Int32)) ∧ Ary Z h V .byte [(.int c0.toInt8.toInt32), (.int c1.toInt8.toInt32), (.int c2.toInt8.toInt32)]) := by
  refine Con.of (plainFor_of_name pn_0) ?_
  intro p e s m below meth c s₁ hx hZ hby hml hown hnm hret hlk X0 e0
  refine Ends.cast (efI1_3 m oa oc) ?_
  show Ends none p e below s _ _ _ s₁ (mkF m 0 #[.val (.ref oa), .val (.ref oc)] [])
  have O0 := Ok.refl h0 [oa]
  refine E.aloadN (q := 1) X0 hx (hb hby d13_0) rfl rfl ?_
  refine E.aloadN (q := 2) X0 hx (hb hby d13_1) rfl rfl ?_
  refine E.iconst (q := 3) (v := (0 : Int32)) X0 hx (hb hby d13_2) rfl ?_
  refine E.aloadN (q := 4) X0 hx (hb hby d13_3) rfl rfl ?_
  refine Ends.alen X0 hx hZ e0 A_c (hb hby d13_4) (n := (3 : Int32)) rfl ?_
  refine E.aconstNull (q := 6) X0 hx (hb hby d13_5) ?_
  refine Ends.callI X0 hx hZ hown (hw _ (List.mem_of_getElem? (i := 75) rfl)) (hw _ (List.mem_of_getElem? (i := 76) rfl)) (hw _ (List.mem_of_getElem? (i := 40) rfl)) (hw _ (List.mem_of_getElem? (i := 78) rfl)) rfl (by decide) (argsL := [(.ref oc), (.int (0 : Int32)), (.int (3 : Int32)), .null]) (rest := []) e0 (rmI4_3 l Z a0 hw oa oc c0 c1 c2 _ hc0 hc1 hc2 E0 F_v F_c A_c hne cs hcs S0) (W := 0) (by decide) (by decide) (by rw [hml]; rfl) (lenOf pd_6 rfl) (Nat.le_of_eq rfl) (hb hby d13_6) (by decide) (by decide) rfl ?_
  rintro T106 v106 L106 X106 ⟨rfl, V106, gV106, hO106, a106, b106, d106⟩
  have e106 : T106.heap = T106.heap := rfl
  have O106 := O0.call hO106 (allS (Or.inl (List.mem_of_getElem? (i := 0) rfl)) all0)
  show Ends none p e below s _ _ _ T106 (mkF m 9 #[.val (.ref oa), .val (.ref oc)] [])
  exact Ends.retV X106 hx hlk hret (hb hby d13_9) (by decide) (by decide) ⟨rfl, _, gV106, hO106, a106, b106, d106⟩
theorem ef_6 (m : MethodId) (x0 : Int32) : entryFrame m #[(.int x0)] 3 = mkF m 0 #[.val (.int x0), .unset, .unset] [] := by first | (simp [entryFrame, mkF, argsToLocals, Value.category]; done) | rfl
set_option maxRecDepth 65536 in
set_option maxHeartbeats 40000000 in
theorem rm6 (l : Launch) (Z : State) (a0 : Array Value) (hw : ∀ d ∈ tables_1, d.before a0 Z = true) (x : Int32) (h0 : Heap) (cs : Int32) (hcs : ¬ cs = (0 : Int32)) (S0 : Sta Z h0 "java/lang/String" "COMPACT_STRINGS" "Z" (.int cs)) (fv : Value) (hfv : fv = .null ∨ ∃ a, fv = .ref a) (S1 : Sta Z h0 "jdk/internal/util/Preconditions" "SIOOBE_FORMATTER" "Ljava/util/function/BiFunction;" fv) :
    ConH l (⟨"com/example/optpack/optpack/service/SectionNamesIsEmptyPinLaw", "name", "(I)Ljava/lang/String;"⟩ : MethodName) method_3_code 3 (some (.object "java/lang/String")) [] ({ frames := 5, cells := 9, slots := 790, locals := 120 } : Room) #[(.int x)] Z h0 own_EL (fun v h L => ∃ (a V : Addr) (xs : List Int32), v = some (.ref a) ∧ h0.size ≤ a ∧ Ok h0 h [] L ∧ Exa Z h a "java/lang/String" ∧ Fld Z h a "java/lang/String" "value" "[B" (.ref V) ∧ Fld Z h a "java/lang/String" "coder" "B" (.int (0 : Int32)) ∧ Ary Z h V .byte (xs.map Value.int) ∧ xs.length ≤ 3) := by
  refine ConH.of (plainFor_of_name pn_3) ?_
  intro p e s m below meth c s₁ vm0 HC0 hx hZ hby hml hown hnm hret hlk X0 e0
  refine Ends.cast (ef_6 m x) ?_
  show Ends (some (CHr Z own_EL vm0 h0)) p e below s _ _ _ s₁ (mkF m 0 #[.val (.int x), .unset, .unset] [])
  have O0 := Ok.refl h0 []
  refine E.iloadN (q := 1) X0 hx (hb hby d6_0) rfl ?_
  refine E.iconst (q := 2) (v := (3 : Int32)) X0 hx (hb hby d6_1) rfl ?_
  refine E.iand (q := 3) X0 hx (hb hby d6_2) ?_
  rcases own_and3 x with hp | hp | hp | hp
  · rw [hp]
    show Ends (some (CHr Z own_EL vm0 h0)) p e below s _ _ _ s₁ (mkF m 3 #[.val (.int x), .unset, .unset] [(.int (0 : Int32))])
    refine E.istoreN (q := 4) (l' := #[.val (.int x), .val (.int (0 : Int32)), .unset]) X0 hx (hb hby d6_3) rfl ?_
    refine E.iloadN (q := 5) X0 hx (hb hby d6_4) rfl ?_
    refine Ends.newA X0 hx hZ (hw _ (List.mem_of_getElem? (i := 35) rfl)) e0 (hb hby d6_5) (N := 0) rfl (by decide) (by decide) (by decide) ?_
    intro T107 h107 b107 g107 X107 e107 E107 A107
    have ge_b107 : h0.size ≤ b107 := Nat.le_trans O0.le (Nat.le_of_eq g107.symm)
    have O107 := O0.ext E107
    have HC108 := HC0.trans (CHr.ext E107 HC0.1)
    have V107 : Ary Z h107 b107 .char [] := A107
    refine E.astoreN (q := 8) (l' := #[.val (.int x), .val (.int (0 : Int32)), .val (.ref b107)]) X107 hx (hb hby d6_7) rfl rfl ?_
    refine E.iloadN (q := 9) X107 hx (hb hby d6_8) rfl ?_
    refine E.ifY (q := 21) X107 hx (hb hby d6_9) (XT.i0_le_t (by decide)) ?_
    refine E.iloadN (q := 22) X107 hx (hb hby d6_21) rfl ?_
    refine E.iconst (q := 23) (v := (1 : Int32)) X107 hx (hb hby d6_22) rfl ?_
    refine E.icmpY (q := 36) X107 hx (hb hby d6_23) (XT.ii_le_t (by decide)) ?_
    refine E.iloadN (q := 37) X107 hx (hb hby d6_36) rfl ?_
    refine E.iconst (q := 38) (v := (2 : Int32)) X107 hx (hb hby d6_37) rfl ?_
    refine E.icmpY (q := 51) X107 hx (hb hby d6_38) (XT.ii_le_t (by decide)) ?_
    refine Ends.newC X107 hx hZ hown (hw _ (List.mem_of_getElem? (i := 71) rfl)) (hw _ (List.mem_of_getElem? (i := 41) rfl)) (hw _ (List.mem_of_getElem? (i := 40) rfl)) e107 (hb hby d6_51) (by decide) (by decide) ?_
    intro T109 h109 b109 g109 X109 e109 E109 A109 D109
    have ge_b109 : h0.size ≤ b109 := Nat.le_trans O107.le (Nat.le_of_eq g109.symm)
    have O109 := O107.ext E109
    have HC110 := HC108.trans (CHr.ext E109 HC108.1)
    have F109_value : Fld Z h109 b109 "java/lang/String" "value" "[B" .null := D109 (Or.inr (hw _ (List.mem_of_getElem? (i := 42) rfl))) (ty := (.array .byte)) (by decide)
    have F109_coder : Fld Z h109 b109 "java/lang/String" "coder" "B" (.int (0 : Int32)) := D109 (Or.inr (hw _ (List.mem_of_getElem? (i := 43) rfl))) (ty := .byte) (by decide)
    refine E.dup (q := 55) X109 hx (hb hby d6_54) rfl ?_
    refine E.aloadN (q := 56) X109 hx (hb hby d6_55) rfl rfl ?_
    have f111 := V107.ext E109
    refine Ends.callIH X109 hx hZ hown (hw _ (List.mem_of_getElem? (i := 72) rfl)) (hw _ (List.mem_of_getElem? (i := 73) rfl)) (hw _ (List.mem_of_getElem? (i := 40) rfl)) (hw _ (List.mem_of_getElem? (i := 74) rfl)) rfl (by decide) (argsL := [(.ref b107)]) (rest := [(.ref b109)]) e109 (Nat.zero_le _) (own_EW hw) HC110.1 (rmI1_0 l Z a0 hw b109 b107 _ A109 F109_value F109_coder f111) (W := 1) (by decide) (by decide) (by rw [hml]; rfl) (lenOf pd_10 rfl) (Nat.le_of_eq rfl) (hb hby d6_56) (by decide) (by decide) rfl ?_
    rintro s T112 v112 L112 X112 hc112 hZ hown ⟨rfl, U112, hO112, Fv112, Fc112, A112⟩
    have e112 : T112.heap = T112.heap := rfl
    have O112 := O109.call hO112 (allS (Or.inr ge_b109) all0)
    have HC113 := HC110.trans hc112
    show Ends (some (CHr Z own_EL vm0 h0)) p e below s _ _ _ T112 (mkF m 59 #[.val (.int x), .val (.int (0 : Int32)), .val (.ref b107)] [(.ref b109)])
    have f114 := A109.keep hO112.1
    exact Ends.retA X112 hx hlk hret rfl rfl rfl (hb hby d6_59) (by decide) (by decide) ⟨⟨_, _, [], rfl, ge_b109, O112, f114, Fv112, Fc112, A112, by decide⟩, by first | exact (Nat.le_refl _) | (rw [e112]; exact (Nat.le_refl _))⟩ (hF := own_chret X112 hZ (own_EW hw) HC113 (by first | rfl | assumption))
  · rw [hp]
    show Ends (some (CHr Z own_EL vm0 h0)) p e below s _ _ _ s₁ (mkF m 3 #[.val (.int x), .unset, .unset] [(.int (1 : Int32))])
    refine E.istoreN (q := 4) (l' := #[.val (.int x), .val (.int (1 : Int32)), .unset]) X0 hx (hb hby d6_3) rfl ?_
    refine E.iloadN (q := 5) X0 hx (hb hby d6_4) rfl ?_
    refine Ends.newA X0 hx hZ (hw _ (List.mem_of_getElem? (i := 35) rfl)) e0 (hb hby d6_5) (N := 1) rfl (by decide) (by decide) (by decide) ?_
    intro T115 h115 b115 g115 X115 e115 E115 A115
    have ge_b115 : h0.size ≤ b115 := Nat.le_trans O0.le (Nat.le_of_eq g115.symm)
    have O115 := O0.ext E115
    have HC116 := HC0.trans (CHr.ext E115 HC0.1)
    have V115 : Ary Z h115 b115 .char [(.int (0 : Int32))] := A115
    refine E.astoreN (q := 8) (l' := #[.val (.int x), .val (.int (1 : Int32)), .val (.ref b115)]) X115 hx (hb hby d6_7) rfl rfl ?_
    refine E.iloadN (q := 9) X115 hx (hb hby d6_8) rfl ?_
    refine E.ifN (q := 12) X115 hx (hb hby d6_9) (XT.i0_le_f (by decide)) ?_
    refine E.aloadN (q := 13) X115 hx (hb hby d6_12) rfl rfl ?_
    refine E.iconst (q := 14) (v := (0 : Int32)) X115 hx (hb hby d6_13) rfl ?_
    refine E.iloadN (q := 15) X115 hx (hb hby d6_14) rfl ?_
    refine E.iconst (q := 16) (v := (2 : Int32)) X115 hx (hb hby d6_15) rfl ?_
    refine E.iushr (q := 17) X115 hx (hb hby d6_16) ?_
    refine Ends.callSH X115 hx hZ hown (hw _ (List.mem_of_getElem? (i := 36) rfl)) (hw _ (List.mem_of_getElem? (i := 37) rfl)) (hw _ (List.mem_of_getElem? (i := 33) rfl)) (hw _ (List.mem_of_getElem? (i := 38) rfl)) (by decide) (argsL := [(.int ((x.toUInt32 >>> ((2 : Int32) &&& 31).toUInt32).toInt32))]) (rest := [(.int (0 : Int32)), (.ref b115)]) e115 (Nat.zero_le _) (own_EW hw) HC116.1 (rm7 l Z a0 hw ((x.toUInt32 >>> ((2 : Int32) &&& 31).toUInt32).toInt32) _ cs hcs (own_sta_keep S0 O115.1 own_ns0) fv hfv (own_sta_keep S1 O115.1 own_ns0)) (W := 2) (by decide) (by decide) (by rw [hml]; rfl) (lenOf pd_5 rfl) (Nat.le_of_eq rfl) (hb hby d6_17) (by decide) (by decide) rfl ?_
    rintro s T117 v117 L117 X117 hc117 hZ hown ⟨z117, rfl, hA117, hO117⟩
    have e117 : T117.heap = T117.heap := rfl
    have O117 := O115.call hO117 all0
    have HC118 := HC116.trans hc117
    show Ends (some (CHr Z own_EL vm0 h0)) p e below s _ _ _ T117 (mkF m 20 #[.val (.int x), .val (.int (1 : Int32)), .val (.ref b115)] [(.int z117), (.int (0 : Int32)), (.ref b115)])
    have f119 := V115.keep hO117.1 nin0
    refine Ends.cst X117 hx hZ e117 f119 (x' := z117) hA117.2.1 (i := 0) rfl (show 0 < 1 from by decide) (hb hby d6_20) ?_
    intro T120 h120 X120 e120 W120 V120
    have V120 : Ary Z h120 b115 .char [(.int z117)] := V120
    have O120 := O117.wr W120 (Or.inr ge_b115)
    have HC121 := HC118.trans (CHr.wr W120 (own_safe_ary hZ.alike f119 (by decide)) HC118.1)
    refine E.iloadN (q := 22) X120 hx (hb hby d6_21) rfl ?_
    refine E.iconst (q := 23) (v := (1 : Int32)) X120 hx (hb hby d6_22) rfl ?_
    refine E.icmpY (q := 36) X120 hx (hb hby d6_23) (XT.ii_le_t (by decide)) ?_
    refine E.iloadN (q := 37) X120 hx (hb hby d6_36) rfl ?_
    refine E.iconst (q := 38) (v := (2 : Int32)) X120 hx (hb hby d6_37) rfl ?_
    refine E.icmpY (q := 51) X120 hx (hb hby d6_38) (XT.ii_le_t (by decide)) ?_
    refine Ends.newC X120 hx hZ hown (hw _ (List.mem_of_getElem? (i := 71) rfl)) (hw _ (List.mem_of_getElem? (i := 41) rfl)) (hw _ (List.mem_of_getElem? (i := 40) rfl)) e120 (hb hby d6_51) (by decide) (by decide) ?_
    intro T122 h122 b122 g122 X122 e122 E122 A122 D122
    have ge_b122 : h0.size ≤ b122 := Nat.le_trans O120.le (Nat.le_of_eq g122.symm)
    have O122 := O120.ext E122
    have HC123 := HC121.trans (CHr.ext E122 HC121.1)
    have F122_value : Fld Z h122 b122 "java/lang/String" "value" "[B" .null := D122 (Or.inr (hw _ (List.mem_of_getElem? (i := 42) rfl))) (ty := (.array .byte)) (by decide)
    have F122_coder : Fld Z h122 b122 "java/lang/String" "coder" "B" (.int (0 : Int32)) := D122 (Or.inr (hw _ (List.mem_of_getElem? (i := 43) rfl))) (ty := .byte) (by decide)
    refine E.dup (q := 55) X122 hx (hb hby d6_54) rfl ?_
    refine E.aloadN (q := 56) X122 hx (hb hby d6_55) rfl rfl ?_
    have f124 := V120.ext E122
    refine Ends.callI X122 hx hZ hown (hw _ (List.mem_of_getElem? (i := 72) rfl)) (hw _ (List.mem_of_getElem? (i := 73) rfl)) (hw _ (List.mem_of_getElem? (i := 40) rfl)) (hw _ (List.mem_of_getElem? (i := 74) rfl)) rfl (by decide) (argsL := [(.ref b115)]) (rest := [(.ref b122)]) e122 (rmI1_1 l Z a0 hw b122 b115 z117 _ hA117.1 A122 F122_value F122_coder f124 (Nat.ne_of_lt (Nat.lt_of_lt_of_eq V120.lt g122.symm)) cs hcs (own_sta_keep S0 O122.1 own_ns0)) (W := 1) (by decide) (by decide) (by rw [hml]; rfl) (lenOf pd_10 rfl) (Nat.le_of_eq rfl) (hb hby d6_56) (by decide) (by decide) rfl ?_
    rintro T125 v125 L125 X125 ⟨rfl, U125, gU125, hO125, Fv125, Fc125, A125⟩
    have e125 : T125.heap = T125.heap := rfl
    have O125 := O122.call hO125 (allS (Or.inr ge_b122) all0)
    have HC126 := HC123.trans (CHr.keep hO125.1 (own_all1 (own_safe_blank hZ.alike A122 F122_value)) HC123.1)
    show Ends (some (CHr Z own_EL vm0 h0)) p e below s _ _ _ T125 (mkF m 59 #[.val (.int x), .val (.int (1 : Int32)), .val (.ref b115)] [(.ref b122)])
    have f127 := A122.keep hO125.1
    exact Ends.retA X125 hx hlk hret rfl rfl rfl (hb hby d6_59) (by decide) (by decide) ⟨⟨_, _, [z117.toInt8.toInt32], rfl, ge_b122, O125, f127, Fv125, Fc125, A125, by simp⟩, by first | exact (Nat.le_trans (Nat.le_trans (Nat.le_trans (Nat.le_refl _) (own_wr_le W120)) E122.1) hO125.1.1) | (rw [e125]; exact (Nat.le_trans (Nat.le_trans (Nat.le_trans (Nat.le_refl _) (own_wr_le W120)) E122.1) hO125.1.1))⟩ (hF := own_chret X125 hZ (own_EW hw) HC126 (by first | rfl | assumption))
  · rw [hp]
    show Ends (some (CHr Z own_EL vm0 h0)) p e below s _ _ _ s₁ (mkF m 3 #[.val (.int x), .unset, .unset] [(.int (2 : Int32))])
    refine E.istoreN (q := 4) (l' := #[.val (.int x), .val (.int (2 : Int32)), .unset]) X0 hx (hb hby d6_3) rfl ?_
    refine E.iloadN (q := 5) X0 hx (hb hby d6_4) rfl ?_
    refine Ends.newA X0 hx hZ (hw _ (List.mem_of_getElem? (i := 35) rfl)) e0 (hb hby d6_5) (N := 2) rfl (by decide) (by decide) (by decide) ?_
    intro T128 h128 b128 g128 X128 e128 E128 A128
    have ge_b128 : h0.size ≤ b128 := Nat.le_trans O0.le (Nat.le_of_eq g128.symm)
    have O128 := O0.ext E128
    have HC129 := HC0.trans (CHr.ext E128 HC0.1)
    have V128 : Ary Z h128 b128 .char [(.int (0 : Int32)), (.int (0 : Int32))] := A128
    refine E.astoreN (q := 8) (l' := #[.val (.int x), .val (.int (2 : Int32)), .val (.ref b128)]) X128 hx (hb hby d6_7) rfl rfl ?_
    refine E.iloadN (q := 9) X128 hx (hb hby d6_8) rfl ?_
    refine E.ifN (q := 12) X128 hx (hb hby d6_9) (XT.i0_le_f (by decide)) ?_
    refine E.aloadN (q := 13) X128 hx (hb hby d6_12) rfl rfl ?_
    refine E.iconst (q := 14) (v := (0 : Int32)) X128 hx (hb hby d6_13) rfl ?_
    refine E.iloadN (q := 15) X128 hx (hb hby d6_14) rfl ?_
    refine E.iconst (q := 16) (v := (2 : Int32)) X128 hx (hb hby d6_15) rfl ?_
    refine E.iushr (q := 17) X128 hx (hb hby d6_16) ?_
    refine Ends.callSH X128 hx hZ hown (hw _ (List.mem_of_getElem? (i := 36) rfl)) (hw _ (List.mem_of_getElem? (i := 37) rfl)) (hw _ (List.mem_of_getElem? (i := 33) rfl)) (hw _ (List.mem_of_getElem? (i := 38) rfl)) (by decide) (argsL := [(.int ((x.toUInt32 >>> ((2 : Int32) &&& 31).toUInt32).toInt32))]) (rest := [(.int (0 : Int32)), (.ref b128)]) e128 (Nat.zero_le _) (own_EW hw) HC129.1 (rm7 l Z a0 hw ((x.toUInt32 >>> ((2 : Int32) &&& 31).toUInt32).toInt32) _ cs hcs (own_sta_keep S0 O128.1 own_ns0) fv hfv (own_sta_keep S1 O128.1 own_ns0)) (W := 2) (by decide) (by decide) (by rw [hml]; rfl) (lenOf pd_5 rfl) (Nat.le_of_eq rfl) (hb hby d6_17) (by decide) (by decide) rfl ?_
    rintro s T130 v130 L130 X130 hc130 hZ hown ⟨z130, rfl, hA130, hO130⟩
    have e130 : T130.heap = T130.heap := rfl
    have O130 := O128.call hO130 all0
    have HC131 := HC129.trans hc130
    show Ends (some (CHr Z own_EL vm0 h0)) p e below s _ _ _ T130 (mkF m 20 #[.val (.int x), .val (.int (2 : Int32)), .val (.ref b128)] [(.int z130), (.int (0 : Int32)), (.ref b128)])
    have f132 := V128.keep hO130.1 nin0
    refine Ends.cst X130 hx hZ e130 f132 (x' := z130) hA130.2.1 (i := 0) rfl (show 0 < 2 from by decide) (hb hby d6_20) ?_
    intro T133 h133 X133 e133 W133 V133
    have V133 : Ary Z h133 b128 .char [(.int z130), (.int (0 : Int32))] := V133
    have O133 := O130.wr W133 (Or.inr ge_b128)
    have HC134 := HC131.trans (CHr.wr W133 (own_safe_ary hZ.alike f132 (by decide)) HC131.1)
    refine E.iloadN (q := 22) X133 hx (hb hby d6_21) rfl ?_
    refine E.iconst (q := 23) (v := (1 : Int32)) X133 hx (hb hby d6_22) rfl ?_
    refine E.icmpN (q := 26) X133 hx (hb hby d6_23) (XT.ii_le_f (by decide)) ?_
    refine E.aloadN (q := 27) X133 hx (hb hby d6_26) rfl rfl ?_
    refine E.iconst (q := 28) (v := (1 : Int32)) X133 hx (hb hby d6_27) rfl ?_
    refine E.iloadN (q := 29) X133 hx (hb hby d6_28) rfl ?_
    refine E.bipush (q := 31) (v := (8 : Int32)) X133 hx (hb hby d6_29) rfl ?_
    refine E.iushr (q := 32) X133 hx (hb hby d6_31) ?_
    refine Ends.callSH X133 hx hZ hown (hw _ (List.mem_of_getElem? (i := 36) rfl)) (hw _ (List.mem_of_getElem? (i := 37) rfl)) (hw _ (List.mem_of_getElem? (i := 33) rfl)) (hw _ (List.mem_of_getElem? (i := 38) rfl)) (by decide) (argsL := [(.int ((x.toUInt32 >>> ((8 : Int32) &&& 31).toUInt32).toInt32))]) (rest := [(.int (1 : Int32)), (.ref b128)]) e133 (Nat.le_trans (Nat.le_refl _) (own_wr_le W133)) (own_EW hw) HC134.1 (rm7 l Z a0 hw ((x.toUInt32 >>> ((8 : Int32) &&& 31).toUInt32).toInt32) _ cs hcs (own_sta_keep S0 O133.1 own_ns0) fv hfv (own_sta_keep S1 O133.1 own_ns0)) (W := 2) (by decide) (by decide) (by rw [hml]; rfl) (lenOf pd_5 rfl) (Nat.le_of_eq rfl) (hb hby d6_32) (by decide) (by decide) rfl ?_
    rintro s T135 v135 L135 X135 hc135 hZ hown ⟨z135, rfl, hA135, hO135⟩
    have e135 : T135.heap = T135.heap := rfl
    have O135 := O133.call hO135 all0
    have HC136 := HC134.trans hc135
    show Ends (some (CHr Z own_EL vm0 h0)) p e below s _ _ _ T135 (mkF m 35 #[.val (.int x), .val (.int (2 : Int32)), .val (.ref b128)] [(.int z135), (.int (1 : Int32)), (.ref b128)])
    have f137 := V133.keep hO135.1 nin0
    refine Ends.cst X135 hx hZ e135 f137 (x' := z135) hA135.2.1 (i := 1) rfl (show 1 < 2 from by decide) (hb hby d6_35) ?_
    intro T138 h138 X138 e138 W138 V138
    have V138 : Ary Z h138 b128 .char [(.int z130), (.int z135)] := V138
    have O138 := O135.wr W138 (Or.inr ge_b128)
    have HC139 := HC136.trans (CHr.wr W138 (own_safe_ary hZ.alike f137 (by decide)) HC136.1)
    refine E.iloadN (q := 37) X138 hx (hb hby d6_36) rfl ?_
    refine E.iconst (q := 38) (v := (2 : Int32)) X138 hx (hb hby d6_37) rfl ?_
    refine E.icmpY (q := 51) X138 hx (hb hby d6_38) (XT.ii_le_t (by decide)) ?_
    refine Ends.newC X138 hx hZ hown (hw _ (List.mem_of_getElem? (i := 71) rfl)) (hw _ (List.mem_of_getElem? (i := 41) rfl)) (hw _ (List.mem_of_getElem? (i := 40) rfl)) e138 (hb hby d6_51) (by decide) (by decide) ?_
    intro T140 h140 b140 g140 X140 e140 E140 A140 D140
    have ge_b140 : h0.size ≤ b140 := Nat.le_trans O138.le (Nat.le_of_eq g140.symm)
    have O140 := O138.ext E140
    have HC141 := HC139.trans (CHr.ext E140 HC139.1)
    have F140_value : Fld Z h140 b140 "java/lang/String" "value" "[B" .null := D140 (Or.inr (hw _ (List.mem_of_getElem? (i := 42) rfl))) (ty := (.array .byte)) (by decide)
    have F140_coder : Fld Z h140 b140 "java/lang/String" "coder" "B" (.int (0 : Int32)) := D140 (Or.inr (hw _ (List.mem_of_getElem? (i := 43) rfl))) (ty := .byte) (by decide)
    refine E.dup (q := 55) X140 hx (hb hby d6_54) rfl ?_
    refine E.aloadN (q := 56) X140 hx (hb hby d6_55) rfl rfl ?_
    have f142 := V138.ext E140
    refine Ends.callI X140 hx hZ hown (hw _ (List.mem_of_getElem? (i := 72) rfl)) (hw _ (List.mem_of_getElem? (i := 73) rfl)) (hw _ (List.mem_of_getElem? (i := 40) rfl)) (hw _ (List.mem_of_getElem? (i := 74) rfl)) rfl (by decide) (argsL := [(.ref b128)]) (rest := [(.ref b140)]) e140 (rmI1_2 l Z a0 hw b140 b128 z130 z135 _ hA130.1 hA135.1 A140 F140_value F140_coder f142 (Nat.ne_of_lt (Nat.lt_of_lt_of_eq V138.lt g140.symm)) cs hcs (own_sta_keep S0 O140.1 own_ns0)) (W := 1) (by decide) (by decide) (by rw [hml]; rfl) (lenOf pd_10 rfl) (Nat.le_of_eq rfl) (hb hby d6_56) (by decide) (by decide) rfl ?_
    rintro T143 v143 L143 X143 ⟨rfl, U143, gU143, hO143, Fv143, Fc143, A143⟩
    have e143 : T143.heap = T143.heap := rfl
    have O143 := O140.call hO143 (allS (Or.inr ge_b140) all0)
    have HC144 := HC141.trans (CHr.keep hO143.1 (own_all1 (own_safe_blank hZ.alike A140 F140_value)) HC141.1)
    show Ends (some (CHr Z own_EL vm0 h0)) p e below s _ _ _ T143 (mkF m 59 #[.val (.int x), .val (.int (2 : Int32)), .val (.ref b128)] [(.ref b140)])
    have f145 := A140.keep hO143.1
    exact Ends.retA X143 hx hlk hret rfl rfl rfl (hb hby d6_59) (by decide) (by decide) ⟨⟨_, _, [z130.toInt8.toInt32, z135.toInt8.toInt32], rfl, ge_b140, O143, f145, Fv143, Fc143, A143, by simp⟩, by first | exact (Nat.le_trans (Nat.le_trans (Nat.le_trans (Nat.le_refl _) (own_wr_le W138)) E140.1) hO143.1.1) | (rw [e143]; exact (Nat.le_trans (Nat.le_trans (Nat.le_trans (Nat.le_refl _) (own_wr_le W138)) E140.1) hO143.1.1))⟩ (hF := own_chret X143 hZ (own_EW hw) HC144 (by first | rfl | assumption))
  · rw [hp]
    show Ends (some (CHr Z own_EL vm0 h0)) p e below s _ _ _ s₁ (mkF m 3 #[.val (.int x), .unset, .unset] [(.int (3 : Int32))])
    refine E.istoreN (q := 4) (l' := #[.val (.int x), .val (.int (3 : Int32)), .unset]) X0 hx (hb hby d6_3) rfl ?_
    refine E.iloadN (q := 5) X0 hx (hb hby d6_4) rfl ?_
    refine Ends.newA X0 hx hZ (hw _ (List.mem_of_getElem? (i := 35) rfl)) e0 (hb hby d6_5) (N := 3) rfl (by decide) (by decide) (by decide) ?_
    intro T146 h146 b146 g146 X146 e146 E146 A146
    have ge_b146 : h0.size ≤ b146 := Nat.le_trans O0.le (Nat.le_of_eq g146.symm)
    have O146 := O0.ext E146
    have HC147 := HC0.trans (CHr.ext E146 HC0.1)
    have V146 : Ary Z h146 b146 .char [(.int (0 : Int32)), (.int (0 : Int32)), (.int (0 : Int32))] := A146
    refine E.astoreN (q := 8) (l' := #[.val (.int x), .val (.int (3 : Int32)), .val (.ref b146)]) X146 hx (hb hby d6_7) rfl rfl ?_
    refine E.iloadN (q := 9) X146 hx (hb hby d6_8) rfl ?_
    refine E.ifN (q := 12) X146 hx (hb hby d6_9) (XT.i0_le_f (by decide)) ?_
    refine E.aloadN (q := 13) X146 hx (hb hby d6_12) rfl rfl ?_
    refine E.iconst (q := 14) (v := (0 : Int32)) X146 hx (hb hby d6_13) rfl ?_
    refine E.iloadN (q := 15) X146 hx (hb hby d6_14) rfl ?_
    refine E.iconst (q := 16) (v := (2 : Int32)) X146 hx (hb hby d6_15) rfl ?_
    refine E.iushr (q := 17) X146 hx (hb hby d6_16) ?_
    refine Ends.callSH X146 hx hZ hown (hw _ (List.mem_of_getElem? (i := 36) rfl)) (hw _ (List.mem_of_getElem? (i := 37) rfl)) (hw _ (List.mem_of_getElem? (i := 33) rfl)) (hw _ (List.mem_of_getElem? (i := 38) rfl)) (by decide) (argsL := [(.int ((x.toUInt32 >>> ((2 : Int32) &&& 31).toUInt32).toInt32))]) (rest := [(.int (0 : Int32)), (.ref b146)]) e146 (Nat.zero_le _) (own_EW hw) HC147.1 (rm7 l Z a0 hw ((x.toUInt32 >>> ((2 : Int32) &&& 31).toUInt32).toInt32) _ cs hcs (own_sta_keep S0 O146.1 own_ns0) fv hfv (own_sta_keep S1 O146.1 own_ns0)) (W := 2) (by decide) (by decide) (by rw [hml]; rfl) (lenOf pd_5 rfl) (Nat.le_of_eq rfl) (hb hby d6_17) (by decide) (by decide) rfl ?_
    rintro s T148 v148 L148 X148 hc148 hZ hown ⟨z148, rfl, hA148, hO148⟩
    have e148 : T148.heap = T148.heap := rfl
    have O148 := O146.call hO148 all0
    have HC149 := HC147.trans hc148
    show Ends (some (CHr Z own_EL vm0 h0)) p e below s _ _ _ T148 (mkF m 20 #[.val (.int x), .val (.int (3 : Int32)), .val (.ref b146)] [(.int z148), (.int (0 : Int32)), (.ref b146)])
    have f150 := V146.keep hO148.1 nin0
    refine Ends.cst X148 hx hZ e148 f150 (x' := z148) hA148.2.1 (i := 0) rfl (show 0 < 3 from by decide) (hb hby d6_20) ?_
    intro T151 h151 X151 e151 W151 V151
    have V151 : Ary Z h151 b146 .char [(.int z148), (.int (0 : Int32)), (.int (0 : Int32))] := V151
    have O151 := O148.wr W151 (Or.inr ge_b146)
    have HC152 := HC149.trans (CHr.wr W151 (own_safe_ary hZ.alike f150 (by decide)) HC149.1)
    refine E.iloadN (q := 22) X151 hx (hb hby d6_21) rfl ?_
    refine E.iconst (q := 23) (v := (1 : Int32)) X151 hx (hb hby d6_22) rfl ?_
    refine E.icmpN (q := 26) X151 hx (hb hby d6_23) (XT.ii_le_f (by decide)) ?_
    refine E.aloadN (q := 27) X151 hx (hb hby d6_26) rfl rfl ?_
    refine E.iconst (q := 28) (v := (1 : Int32)) X151 hx (hb hby d6_27) rfl ?_
    refine E.iloadN (q := 29) X151 hx (hb hby d6_28) rfl ?_
    refine E.bipush (q := 31) (v := (8 : Int32)) X151 hx (hb hby d6_29) rfl ?_
    refine E.iushr (q := 32) X151 hx (hb hby d6_31) ?_
    refine Ends.callSH X151 hx hZ hown (hw _ (List.mem_of_getElem? (i := 36) rfl)) (hw _ (List.mem_of_getElem? (i := 37) rfl)) (hw _ (List.mem_of_getElem? (i := 33) rfl)) (hw _ (List.mem_of_getElem? (i := 38) rfl)) (by decide) (argsL := [(.int ((x.toUInt32 >>> ((8 : Int32) &&& 31).toUInt32).toInt32))]) (rest := [(.int (1 : Int32)), (.ref b146)]) e151 (Nat.le_trans (Nat.le_refl _) (own_wr_le W151)) (own_EW hw) HC152.1 (rm7 l Z a0 hw ((x.toUInt32 >>> ((8 : Int32) &&& 31).toUInt32).toInt32) _ cs hcs (own_sta_keep S0 O151.1 own_ns0) fv hfv (own_sta_keep S1 O151.1 own_ns0)) (W := 2) (by decide) (by decide) (by rw [hml]; rfl) (lenOf pd_5 rfl) (Nat.le_of_eq rfl) (hb hby d6_32) (by decide) (by decide) rfl ?_
    rintro s T153 v153 L153 X153 hc153 hZ hown ⟨z153, rfl, hA153, hO153⟩
    have e153 : T153.heap = T153.heap := rfl
    have O153 := O151.call hO153 all0
    have HC154 := HC152.trans hc153
    show Ends (some (CHr Z own_EL vm0 h0)) p e below s _ _ _ T153 (mkF m 35 #[.val (.int x), .val (.int (3 : Int32)), .val (.ref b146)] [(.int z153), (.int (1 : Int32)), (.ref b146)])
    have f155 := V151.keep hO153.1 nin0
    refine Ends.cst X153 hx hZ e153 f155 (x' := z153) hA153.2.1 (i := 1) rfl (show 1 < 3 from by decide) (hb hby d6_35) ?_
    intro T156 h156 X156 e156 W156 V156
    have V156 : Ary Z h156 b146 .char [(.int z148), (.int z153), (.int (0 : Int32))] := V156
    have O156 := O153.wr W156 (Or.inr ge_b146)
    have HC157 := HC154.trans (CHr.wr W156 (own_safe_ary hZ.alike f155 (by decide)) HC154.1)
    refine E.iloadN (q := 37) X156 hx (hb hby d6_36) rfl ?_
    refine E.iconst (q := 38) (v := (2 : Int32)) X156 hx (hb hby d6_37) rfl ?_
    refine E.icmpN (q := 41) X156 hx (hb hby d6_38) (XT.ii_le_f (by decide)) ?_
    refine E.aloadN (q := 42) X156 hx (hb hby d6_41) rfl rfl ?_
    refine E.iconst (q := 43) (v := (2 : Int32)) X156 hx (hb hby d6_42) rfl ?_
    refine E.iloadN (q := 44) X156 hx (hb hby d6_43) rfl ?_
    refine E.bipush (q := 46) (v := (14 : Int32)) X156 hx (hb hby d6_44) rfl ?_
    refine E.iushr (q := 47) X156 hx (hb hby d6_46) ?_
    refine Ends.callSH X156 hx hZ hown (hw _ (List.mem_of_getElem? (i := 36) rfl)) (hw _ (List.mem_of_getElem? (i := 37) rfl)) (hw _ (List.mem_of_getElem? (i := 33) rfl)) (hw _ (List.mem_of_getElem? (i := 38) rfl)) (by decide) (argsL := [(.int ((x.toUInt32 >>> ((14 : Int32) &&& 31).toUInt32).toInt32))]) (rest := [(.int (2 : Int32)), (.ref b146)]) e156 (Nat.le_trans (Nat.le_refl _) (own_wr_le W156)) (own_EW hw) HC157.1 (rm7 l Z a0 hw ((x.toUInt32 >>> ((14 : Int32) &&& 31).toUInt32).toInt32) _ cs hcs (own_sta_keep S0 O156.1 own_ns0) fv hfv (own_sta_keep S1 O156.1 own_ns0)) (W := 2) (by decide) (by decide) (by rw [hml]; rfl) (lenOf pd_5 rfl) (Nat.le_of_eq rfl) (hb hby d6_47) (by decide) (by decide) rfl ?_
    rintro s T158 v158 L158 X158 hc158 hZ hown ⟨z158, rfl, hA158, hO158⟩
    have e158 : T158.heap = T158.heap := rfl
    have O158 := O156.call hO158 all0
    have HC159 := HC157.trans hc158
    show Ends (some (CHr Z own_EL vm0 h0)) p e below s _ _ _ T158 (mkF m 50 #[.val (.int x), .val (.int (3 : Int32)), .val (.ref b146)] [(.int z158), (.int (2 : Int32)), (.ref b146)])
    have f160 := V156.keep hO158.1 nin0
    refine Ends.cst X158 hx hZ e158 f160 (x' := z158) hA158.2.1 (i := 2) rfl (show 2 < 3 from by decide) (hb hby d6_50) ?_
    intro T161 h161 X161 e161 W161 V161
    have V161 : Ary Z h161 b146 .char [(.int z148), (.int z153), (.int z158)] := V161
    have O161 := O158.wr W161 (Or.inr ge_b146)
    have HC162 := HC159.trans (CHr.wr W161 (own_safe_ary hZ.alike f160 (by decide)) HC159.1)
    refine Ends.newC X161 hx hZ hown (hw _ (List.mem_of_getElem? (i := 71) rfl)) (hw _ (List.mem_of_getElem? (i := 41) rfl)) (hw _ (List.mem_of_getElem? (i := 40) rfl)) e161 (hb hby d6_51) (by decide) (by decide) ?_
    intro T163 h163 b163 g163 X163 e163 E163 A163 D163
    have ge_b163 : h0.size ≤ b163 := Nat.le_trans O161.le (Nat.le_of_eq g163.symm)
    have O163 := O161.ext E163
    have HC164 := HC162.trans (CHr.ext E163 HC162.1)
    have F163_value : Fld Z h163 b163 "java/lang/String" "value" "[B" .null := D163 (Or.inr (hw _ (List.mem_of_getElem? (i := 42) rfl))) (ty := (.array .byte)) (by decide)
    have F163_coder : Fld Z h163 b163 "java/lang/String" "coder" "B" (.int (0 : Int32)) := D163 (Or.inr (hw _ (List.mem_of_getElem? (i := 43) rfl))) (ty := .byte) (by decide)
    refine E.dup (q := 55) X163 hx (hb hby d6_54) rfl ?_
    refine E.aloadN (q := 56) X163 hx (hb hby d6_55) rfl rfl ?_
    have f165 := V161.ext E163
    refine Ends.callI X163 hx hZ hown (hw _ (List.mem_of_getElem? (i := 72) rfl)) (hw _ (List.mem_of_getElem? (i := 73) rfl)) (hw _ (List.mem_of_getElem? (i := 40) rfl)) (hw _ (List.mem_of_getElem? (i := 74) rfl)) rfl (by decide) (argsL := [(.ref b146)]) (rest := [(.ref b163)]) e163 (rmI1_3 l Z a0 hw b163 b146 z148 z153 z158 _ hA148.1 hA153.1 hA158.1 A163 F163_value F163_coder f165 (Nat.ne_of_lt (Nat.lt_of_lt_of_eq V161.lt g163.symm)) cs hcs (own_sta_keep S0 O163.1 own_ns0)) (W := 1) (by decide) (by decide) (by rw [hml]; rfl) (lenOf pd_10 rfl) (Nat.le_of_eq rfl) (hb hby d6_56) (by decide) (by decide) rfl ?_
    rintro T166 v166 L166 X166 ⟨rfl, U166, gU166, hO166, Fv166, Fc166, A166⟩
    have e166 : T166.heap = T166.heap := rfl
    have O166 := O163.call hO166 (allS (Or.inr ge_b163) all0)
    have HC167 := HC164.trans (CHr.keep hO166.1 (own_all1 (own_safe_blank hZ.alike A163 F163_value)) HC164.1)
    show Ends (some (CHr Z own_EL vm0 h0)) p e below s _ _ _ T166 (mkF m 59 #[.val (.int x), .val (.int (3 : Int32)), .val (.ref b146)] [(.ref b163)])
    have f168 := A163.keep hO166.1
    exact Ends.retA X166 hx hlk hret rfl rfl rfl (hb hby d6_59) (by decide) (by decide) ⟨⟨_, _, [z148.toInt8.toInt32, z153.toInt8.toInt32, z158.toInt8.toInt32], rfl, ge_b163, O166, f168, Fv166, Fc166, A166, by simp⟩, by first | exact (Nat.le_trans (Nat.le_trans (Nat.le_trans (Nat.le_refl _) (own_wr_le W161)) E163.1) hO166.1.1) | (rw [e166]; exact (Nat.le_trans (Nat.le_trans (Nat.le_trans (Nat.le_refl _) (own_wr_le W161)) E163.1) hO166.1.1))⟩ (hF := own_chret X166 hZ (own_EW hw) HC167 (by first | rfl | assumption))
theorem ef_27 (m : MethodId) (x0 : Int64) (x1 : Int32) : entryFrame m #[(.long x0), (.int x1)] 3 = mkF m 0 #[.val (.long x0), .second, .val (.int x1)] [] := by first | (simp [entryFrame, mkF, argsToLocals, Value.category]; done) | rfl
set_option maxRecDepth 65536 in
set_option maxHeartbeats 40000000 in
theorem rm27 (l : Launch) (Z : State) (a0 : Array Value) (hw : ∀ d ∈ tables_1, d.before a0 Z = true) (x : Int64) (y : Int32) (h0 : Heap) :
    Con l (⟨"java/lang/Long", "rotateLeft", "(JI)J"⟩ : MethodName) jdk_35_method_51_code 3 (some .long) [] ({ frames := 0, cells := 0, slots := 0, locals := 0 } : Room) #[(.long x), (.int y)] Z h0 (fun v h L => ∃ r, v = some (.long r) ∧ h = h0 ∧ L = []) := by
  refine Con.of (plainFor_of_name pn_5) ?_
  intro p e s m below meth c s₁ hx hZ hby hml hown hnm hret hlk X0 e0
  refine Ends.cast (ef_27 m x y) ?_
  show Ends none p e below s _ _ _ s₁ (mkF m 0 #[.val (.long x), .second, .val (.int y)] [])
  refine E.lloadN (q := 1) X0 hx (hb hby d27_0) rfl ?_
  refine E.iloadN (q := 2) X0 hx (hb hby d27_1) rfl ?_
  refine E.lshl (q := 3) X0 hx (hb hby d27_2) ?_
  refine E.lloadN (q := 4) X0 hx (hb hby d27_3) rfl ?_
  refine E.iloadN (q := 5) X0 hx (hb hby d27_4) rfl ?_
  refine E.ineg (q := 6) X0 hx (hb hby d27_5) ?_
  refine E.lushr (q := 7) X0 hx (hb hby d27_6) ?_
  refine E.lor (q := 8) X0 hx (hb hby d27_7) ?_
  exact Ends.retJ X0 hx hlk hret (hb hby d27_8) (by decide) (by decide) ⟨_, rfl, e0, rfl⟩
theorem ef_26 (m : MethodId) (x0 : Int32) (x1 : Int32) : entryFrame m #[(.int x0), (.int x1)] 2 = mkF m 0 #[.val (.int x0), .val (.int x1)] [] := by first | (simp [entryFrame, mkF, argsToLocals, Value.category]; done) | rfl
set_option maxRecDepth 65536 in
set_option maxHeartbeats 40000000 in
theorem rm26 (l : Launch) (Z : State) (a0 : Array Value) (hw : ∀ d ∈ tables_1, d.before a0 Z = true) (x : Int32) (y : Int32) (h0 : Heap) (hxy : y < x) :
    Con l (⟨"java/lang/Math", "min", "(II)I"⟩ : MethodName) jdk_29_method_69_code 2 (some .int) [] ({ frames := 0, cells := 0, slots := 0, locals := 0 } : Room) #[(.int x), (.int y)] Z h0 (fun v h L => v = some (.int y) ∧ h = h0 ∧ L = []) := by
  refine Con.of (Jvm.Free.JP.mathPlain rfl (by decide +kernel)) ?_
  intro p e s m below meth c s₁ hx hZ hby hml hown hnm hret hlk X0 e0
  refine Ends.cast (ef_26 m x y) ?_
  show Ends none p e below s _ _ _ s₁ (mkF m 0 #[.val (.int x), .val (.int y)] [])
  refine E.iloadN (q := 1) X0 hx (hb hby d26_0) rfl ?_
  refine E.iloadN (q := 2) X0 hx (hb hby d26_1) rfl ?_
  refine E.icmpY (q := 9) X0 hx (hb hby d26_2) (XT.ii_gt_t hxy) ?_
  refine E.iloadN (q := 10) X0 hx (hb hby d26_9) rfl ?_
  exact Ends.retI X0 hx hlk hret (hb hby d26_10) (by decide) (by decide) ⟨rfl, e0, rfl⟩
theorem ef_25 (m : MethodId) (x0 : Addr) (x1 : Int32) (x2 : Int32) (x3 : Int32) : entryFrame m #[(.ref x0), (.int x1), (.int x2), (.int x3)] 8 = mkF m 0 #[.val (.ref x0), .val (.int x1), .val (.int x2), .val (.int x3), .unset, .unset, .unset, .unset] [] := by first | (simp [entryFrame, mkF, argsToLocals, Value.category]; done) | rfl
set_option maxRecDepth 65536 in
set_option maxHeartbeats 40000000 in
theorem rm25 (l : Launch) (Z : State) (a0 : Array Value) (hw : ∀ d ∈ tables_1, d.before a0 Z = true) (oa : Addr) (ln : Int32) (o n : Nat) (bs : List Int32) (hn : n ≤ 3) (hon : o + n ≤ bs.length) (h0 : Heap) (A_b : Ary Z h0 oa .byte (bs.map Value.int)) (hbig : o + 8 < 2 ^ 31) :
    Con l (⟨"com/example/optpack/optpack/service/SipHash", "wordAt", "([BIII)J"⟩ : MethodName) prog_76_method_3_code 8 (some .long) [] ({ frames := 1, cells := 0, slots := 0, locals := 24 } : Room) #[(.ref oa), (.int (Int32.ofNat o)), (.int (Int32.ofNat (o + n))), (.int ln)] Z h0 (fun v h L => ∃ r, v = some (.long r) ∧ h = h0 ∧ L = []) := by
  refine Con.of (plainFor_of_name pn_6) ?_
  intro p e s m below meth c s₁ hx hZ hby hml hown hnm hret hlk X0 e0
  refine Ends.cast (ef_25 m oa (Int32.ofNat o) (Int32.ofNat (o + n)) ln) ?_
  show Ends none p e below s _ _ _ s₁ (mkF m 0 #[.val (.ref oa), .val (.int (Int32.ofNat o)), .val (.int (Int32.ofNat (o + n))), .val (.int ln), .unset, .unset, .unset, .unset] [])
  have O0 := Ok.refl h0 []
  have lb : bs.length < 2 ^ 31 := by have := A_b.len; rwa [List.length_map] at this
  have lo : o + n < 2 ^ 31 := by omega
  refine E.iloadN (q := 1) X0 hx (hb hby d25_0) rfl ?_
  refine E.bipush (q := 3) (v := (8 : Int32)) X0 hx (hb hby d25_1) rfl ?_
  refine E.iadd (q := 4) X0 hx (hb hby d25_3) ?_
  refine E.iloadN (q := 5) X0 hx (hb hby d25_4) rfl ?_
  refine Ends.callS X0 hx hZ hown (hw _ (List.mem_of_getElem? (i := 135) rfl)) (hw _ (List.mem_of_getElem? (i := 136) rfl)) (hw _ (List.mem_of_getElem? (i := 137) rfl)) (hw _ (List.mem_of_getElem? (i := 138) rfl)) (by decide) (argsL := [(.int ((Int32.ofNat o) + (8 : Int32))), (.int (Int32.ofNat (o + n)))]) (rest := []) e0 (rm26 l Z a0 hw ((Int32.ofNat o) + (8 : Int32)) (Int32.ofNat (o + n)) _ (own_lt8 hn hbig)) (W := 0) (by decide) (by decide) (by rw [hml]; rfl) (lenOf pd_11 rfl) (Nat.le_of_eq rfl) (hb hby d25_5) (by decide) (by decide) rfl ?_
  rintro T169 v169 L169 X169 ⟨rfl, e169, rfl⟩
  rw [List.append_nil] at X169
  show Ends none p e below s _ _ _ T169 (mkF m 8 #[.val (.ref oa), .val (.int (Int32.ofNat o)), .val (.int (Int32.ofNat (o + n))), .val (.int ln), .unset, .unset, .unset, .unset] [(.int (Int32.ofNat (o + n)))])
  refine E.istore (q := 10) (l' := #[.val (.ref oa), .val (.int (Int32.ofNat o)), .val (.int (Int32.ofNat (o + n))), .val (.int ln), .val (.int (Int32.ofNat (o + n))), .unset, .unset, .unset]) X169 hx (hb hby d25_8) rfl ?_
  refine E.iload (q := 12) X169 hx (hb hby d25_10) rfl ?_
  refine E.iloadN (q := 13) X169 hx (hb hby d25_12) rfl ?_
  refine E.isub (q := 14) X169 hx (hb hby d25_13) ?_
  refine E.bipush (q := 16) (v := (8 : Int32)) X169 hx (hb hby d25_14) rfl ?_
  rw [own_subN lo]
  show Ends none p e below s _ _ _ T169 (mkF m 16 #[.val (.ref oa), .val (.int (Int32.ofNat o)), .val (.int (Int32.ofNat (o + n))), .val (.int ln), .val (.int (Int32.ofNat (o + n))), .unset, .unset, .unset] [(.int (8 : Int32)), (.int (Int32.ofNat n))])
  refine E.icmpN (q := 19) X169 hx (hb hby d25_16) (XT.ii_ge_f (own_lt8' hn)) ?_
  refine E.iloadN (q := 20) X169 hx (hb hby d25_19) rfl ?_
  refine E.i2l (q := 21) X169 hx (hb hby d25_20) ?_
  refine E.bipush (q := 23) (v := (56 : Int32)) X169 hx (hb hby d25_21) rfl ?_
  refine E.lshl (q := 24) X169 hx (hb hby d25_23) ?_
  refine E.goto (q := 28) X169 hx (hb hby d25_24) ?_
  refine E.lstore (q := 30) (l' := #[.val (.ref oa), .val (.int (Int32.ofNat o)), .val (.int (Int32.ofNat (o + n))), .val (.int ln), .val (.int (Int32.ofNat (o + n))), .val (.long ((ln.toInt64) <<< ((56 : Int32) &&& 0x3f).toInt64)), .second, .unset]) X169 hx (hb hby d25_28) rfl ?_
  generalize ((ln.toInt64) <<< ((56 : Int32) &&& 0x3f).toInt64) = g170
  show Ends none p e below s _ _ _ T169 (mkF m 30 #[.val (.ref oa), .val (.int (Int32.ofNat o)), .val (.int (Int32.ofNat (o + n))), .val (.int ln), .val (.int (Int32.ofNat (o + n))), .val (.long g170), .second, .unset] [])
  refine E.iloadN (q := 31) X169 hx (hb hby d25_30) rfl ?_
  refine E.istore (q := 33) (l' := #[.val (.ref oa), .val (.int (Int32.ofNat o)), .val (.int (Int32.ofNat (o + n))), .val (.int ln), .val (.int (Int32.ofNat (o + n))), .val (.long g170), .second, .val (.int (Int32.ofNat o))]) X169 hx (hb hby d25_31) rfl ?_
  have J : ∀ mm i, i + mm = n → ∀ ac : Int64, Ends none p e below s (fun v h L => ∃ r, v = some (.long r) ∧ h = h0 ∧ L = []) ({ frames := 1, cells := 0, slots := 0, locals := 24 } : Room).cells ({ frames := 1, cells := 0, slots := 0, locals := 24 } : Room).slots T169 (mkF m 33 #[.val (.ref oa), .val (.int (Int32.ofNat o)), .val (.int (Int32.ofNat (o + n))), .val (.int ln), .val (.int (Int32.ofNat (o + n))), .val (.long ac), .second, .val (.int (Int32.ofNat (o + i)))] []) := by
    intro mm
    induction mm with
    | zero =>
      intro i hi ac
      refine E.iload (q := 35) X169 hx (hb hby d25_33) rfl ?_
      refine E.iload (q := 37) X169 hx (hb hby d25_35) rfl ?_
      refine E.icmpY (q := 68) X169 hx (hb hby d25_37) (XT.ii_ge_t (by rw [own_ltN (by omega) (by omega)]; omega)) ?_
      refine E.lload (q := 70) X169 hx (hb hby d25_68) rfl ?_
      exact Ends.retJ X169 hx hlk hret (hb hby d25_70) (by decide) (by decide) ⟨_, rfl, e169, rfl⟩
    | succ mm ih =>
      intro i hi ac
      refine E.iload (q := 35) X169 hx (hb hby d25_33) rfl ?_
      refine E.iload (q := 37) X169 hx (hb hby d25_35) rfl ?_
      refine E.icmpN (q := 40) X169 hx (hb hby d25_37) (XT.ii_ge_f ((own_ltN (by omega) (by omega)).mpr (by omega))) ?_
      have hb1 : o + i < bs.length := by omega
      refine E.lload (q := 42) X169 hx (hb hby d25_40) rfl ?_
      refine E.aloadN (q := 43) X169 hx (hb hby d25_42) rfl rfl ?_
      refine E.iload (q := 45) X169 hx (hb hby d25_43) rfl ?_
      refine Ends.bld X169 hx hZ e169 A_b (i := (o + i)) (v := .int (bs[(o + i)]'hb1)) rfl (by rw [List.getElem?_map, List.getElem?_eq_getElem hb1]; rfl) (hb hby d25_45) ?_
      show Ends none p e below s _ _ _ T169 (mkF m 46 #[.val (.ref oa), .val (.int (Int32.ofNat o)), .val (.int (Int32.ofNat (o + n))), .val (.int ln), .val (.int (Int32.ofNat (o + n))), .val (.long ac), .second, .val (.int (Int32.ofNat (o + i)))] [(.int (bs[(o + i)]'hb1)), (.long ac)])
      refine E.i2l (q := 47) X169 hx (hb hby d25_46) ?_
      refine E.ldc2 (q := 50) X169 hx hZ hown (hw _ (List.mem_of_getElem? (i := 139) rfl)) (hb hby d25_47) ?_
      refine E.land (q := 51) X169 hx (hb hby d25_50) ?_
      refine E.iload (q := 53) X169 hx (hb hby d25_51) rfl ?_
      refine E.iloadN (q := 54) X169 hx (hb hby d25_53) rfl ?_
      refine E.isub (q := 55) X169 hx (hb hby d25_54) ?_
      refine E.bipush (q := 57) (v := (8 : Int32)) X169 hx (hb hby d25_55) rfl ?_
      refine E.imul (q := 58) X169 hx (hb hby d25_57) ?_
      refine E.lshl (q := 59) X169 hx (hb hby d25_58) ?_
      refine E.lor (q := 60) X169 hx (hb hby d25_59) ?_
      refine E.lstore (q := 62) (l' := #[.val (.ref oa), .val (.int (Int32.ofNat o)), .val (.int (Int32.ofNat (o + n))), .val (.int ln), .val (.int (Int32.ofNat (o + n))), .val (.long (ac ||| ((((bs[(o + i)]'hb1).toInt64) &&& (255 : Int64)) <<< ((((Int32.ofNat (o + i)) - (Int32.ofNat o)) * (8 : Int32)) &&& 0x3f).toInt64))), .second, .val (.int (Int32.ofNat (o + i)))]) X169 hx (hb hby d25_60) rfl ?_
      refine E.iinc (q := 65) (v := ((Int32.ofNat (o + i)) + (1 : Int32))) (l' := #[.val (.ref oa), .val (.int (Int32.ofNat o)), .val (.int (Int32.ofNat (o + n))), .val (.int ln), .val (.int (Int32.ofNat (o + n))), .val (.long (ac ||| ((((bs[(o + i)]'hb1).toInt64) &&& (255 : Int64)) <<< ((((Int32.ofNat (o + i)) - (Int32.ofNat o)) * (8 : Int32)) &&& 0x3f).toInt64))), .second, .val (.int ((Int32.ofNat (o + i)) + (1 : Int32)))]) X169 hx (hb hby d25_62) rfl rfl rfl ?_
      refine E.goto (q := 33) X169 hx (hb hby d25_65) ?_
      rw [own_succ (o + i)]
      exact ih (i + 1) (by omega) _
  exact J n 0 (by omega) _
theorem ef_24 (m : MethodId) (x0 : Int64) (x1 : Int64) (x2 : Addr) (x3 : Int32) (x4 : Int32) : entryFrame m #[(.long x0), (.long x1), (.ref x2), (.int x3), (.int x4)] 21 = mkF m 0 #[.val (.long x0), .second, .val (.long x1), .second, .val (.ref x2), .val (.int x3), .val (.int x4), .unset, .unset, .unset, .unset, .unset, .unset, .unset, .unset, .unset, .unset, .unset, .unset, .unset, .unset] [] := by first | (simp [entryFrame, mkF, argsToLocals, Value.category]; done) | rfl
set_option maxRecDepth 65536 in
set_option maxHeartbeats 40000000 in
theorem rm24 (l : Launch) (Z : State) (a0 : Array Value) (hw : ∀ d ∈ tables_1, d.before a0 Z = true) (y0 : Int64) (y1 : Int64) (oa : Addr) (o n : Nat) (bs : List Int32) (hn : n ≤ 3) (hon : o + n ≤ bs.length) (h0 : Heap) (A_b : Ary Z h0 oa .byte (bs.map Value.int)) (hbig : o + 8 < 2 ^ 31) :
    Con l (⟨"com/example/optpack/optpack/service/SipHash", "hash", "(JJ[BII)J"⟩ : MethodName) prog_76_method_2_code 21 (some .long) [] ({ frames := 2, cells := 0, slots := 0, locals := 60 } : Room) #[(.long y0), (.long y1), (.ref oa), (.int (Int32.ofNat o)), (.int (Int32.ofNat (o + n)))] Z h0 (fun v h L => ∃ r, v = some (.long r) ∧ h = h0 ∧ L = []) := by
  refine Con.of (plainFor_of_name pn_6) ?_
  intro p e s m below meth c s₁ hx hZ hby hml hown hnm hret hlk X0 e0
  refine Ends.cast (ef_24 m y0 y1 oa (Int32.ofNat o) (Int32.ofNat (o + n))) ?_
  show Ends none p e below s _ _ _ s₁ (mkF m 0 #[.val (.long y0), .second, .val (.long y1), .second, .val (.ref oa), .val (.int (Int32.ofNat o)), .val (.int (Int32.ofNat (o + n))), .unset, .unset, .unset, .unset, .unset, .unset, .unset, .unset, .unset, .unset, .unset, .unset, .unset, .unset] [])
  have O0 := Ok.refl h0 []
  have lb : bs.length < 2 ^ 31 := by have := A_b.len; rwa [List.length_map] at this
  have lo : o + n < 2 ^ 31 := by omega
  refine E.lloadN (q := 1) X0 hx (hb hby d24_0) rfl ?_
  refine E.ldc2 (q := 4) X0 hx hZ hown (hw _ (List.mem_of_getElem? (i := 128) rfl)) (hb hby d24_1) ?_
  refine E.lxor (q := 5) X0 hx (hb hby d24_4) ?_
  refine E.lstore (q := 7) (l' := #[.val (.long y0), .second, .val (.long y1), .second, .val (.ref oa), .val (.int (Int32.ofNat o)), .val (.int (Int32.ofNat (o + n))), .val (.long (y0 ^^^ (8317987319222330741 : Int64))), .second, .unset, .unset, .unset, .unset, .unset, .unset, .unset, .unset, .unset, .unset, .unset, .unset]) X0 hx (hb hby d24_5) rfl ?_
  generalize (y0 ^^^ (8317987319222330741 : Int64)) = g171
  show Ends none p e below s _ _ _ s₁ (mkF m 7 #[.val (.long y0), .second, .val (.long y1), .second, .val (.ref oa), .val (.int (Int32.ofNat o)), .val (.int (Int32.ofNat (o + n))), .val (.long g171), .second, .unset, .unset, .unset, .unset, .unset, .unset, .unset, .unset, .unset, .unset, .unset, .unset] [])
  refine E.lloadN (q := 8) X0 hx (hb hby d24_7) rfl ?_
  refine E.ldc2 (q := 11) X0 hx hZ hown (hw _ (List.mem_of_getElem? (i := 129) rfl)) (hb hby d24_8) ?_
  refine E.lxor (q := 12) X0 hx (hb hby d24_11) ?_
  refine E.lstore (q := 14) (l' := #[.val (.long y0), .second, .val (.long y1), .second, .val (.ref oa), .val (.int (Int32.ofNat o)), .val (.int (Int32.ofNat (o + n))), .val (.long g171), .second, .val (.long (y1 ^^^ (7237128888997146477 : Int64))), .second, .unset, .unset, .unset, .unset, .unset, .unset, .unset, .unset, .unset, .unset]) X0 hx (hb hby d24_12) rfl ?_
  generalize (y1 ^^^ (7237128888997146477 : Int64)) = g172
  show Ends none p e below s _ _ _ s₁ (mkF m 14 #[.val (.long y0), .second, .val (.long y1), .second, .val (.ref oa), .val (.int (Int32.ofNat o)), .val (.int (Int32.ofNat (o + n))), .val (.long g171), .second, .val (.long g172), .second, .unset, .unset, .unset, .unset, .unset, .unset, .unset, .unset, .unset, .unset] [])
  refine E.lloadN (q := 15) X0 hx (hb hby d24_14) rfl ?_
  refine E.ldc2 (q := 18) X0 hx hZ hown (hw _ (List.mem_of_getElem? (i := 130) rfl)) (hb hby d24_15) ?_
  refine E.lxor (q := 19) X0 hx (hb hby d24_18) ?_
  refine E.lstore (q := 21) (l' := #[.val (.long y0), .second, .val (.long y1), .second, .val (.ref oa), .val (.int (Int32.ofNat o)), .val (.int (Int32.ofNat (o + n))), .val (.long g171), .second, .val (.long g172), .second, .val (.long (y0 ^^^ (7816392313619706465 : Int64))), .second, .unset, .unset, .unset, .unset, .unset, .unset, .unset, .unset]) X0 hx (hb hby d24_19) rfl ?_
  generalize (y0 ^^^ (7816392313619706465 : Int64)) = g173
  show Ends none p e below s _ _ _ s₁ (mkF m 21 #[.val (.long y0), .second, .val (.long y1), .second, .val (.ref oa), .val (.int (Int32.ofNat o)), .val (.int (Int32.ofNat (o + n))), .val (.long g171), .second, .val (.long g172), .second, .val (.long g173), .second, .unset, .unset, .unset, .unset, .unset, .unset, .unset, .unset] [])
  refine E.lloadN (q := 22) X0 hx (hb hby d24_21) rfl ?_
  refine E.ldc2 (q := 25) X0 hx hZ hown (hw _ (List.mem_of_getElem? (i := 131) rfl)) (hb hby d24_22) ?_
  refine E.lxor (q := 26) X0 hx (hb hby d24_25) ?_
  refine E.lstore (q := 28) (l' := #[.val (.long y0), .second, .val (.long y1), .second, .val (.ref oa), .val (.int (Int32.ofNat o)), .val (.int (Int32.ofNat (o + n))), .val (.long g171), .second, .val (.long g172), .second, .val (.long g173), .second, .val (.long (y1 ^^^ (8387220255154660723 : Int64))), .second, .unset, .unset, .unset, .unset, .unset, .unset]) X0 hx (hb hby d24_26) rfl ?_
  generalize (y1 ^^^ (8387220255154660723 : Int64)) = g174
  show Ends none p e below s _ _ _ s₁ (mkF m 28 #[.val (.long y0), .second, .val (.long y1), .second, .val (.ref oa), .val (.int (Int32.ofNat o)), .val (.int (Int32.ofNat (o + n))), .val (.long g171), .second, .val (.long g172), .second, .val (.long g173), .second, .val (.long g174), .second, .unset, .unset, .unset, .unset, .unset, .unset] [])
  refine E.iload (q := 30) X0 hx (hb hby d24_28) rfl ?_
  refine E.iload (q := 32) X0 hx (hb hby d24_30) rfl ?_
  refine E.isub (q := 33) X0 hx (hb hby d24_32) ?_
  refine E.bipush (q := 35) (v := (8 : Int32)) X0 hx (hb hby d24_33) rfl ?_
  refine E.idiv (q := 36) X0 hx (hb hby d24_35) (by decide) ?_
  refine E.iconst (q := 37) (v := (1 : Int32)) X0 hx (hb hby d24_36) rfl ?_
  refine E.iadd (q := 38) X0 hx (hb hby d24_37) ?_
  rw [own_subN lo, own_div8 (by omega)]
  show Ends none p e below s _ _ _ s₁ (mkF m 38 #[.val (.long y0), .second, .val (.long y1), .second, .val (.ref oa), .val (.int (Int32.ofNat o)), .val (.int (Int32.ofNat (o + n))), .val (.long g171), .second, .val (.long g172), .second, .val (.long g173), .second, .val (.long g174), .second, .unset, .unset, .unset, .unset, .unset, .unset] [(.int (1 : Int32))])
  refine E.istore (q := 40) (l' := #[.val (.long y0), .second, .val (.long y1), .second, .val (.ref oa), .val (.int (Int32.ofNat o)), .val (.int (Int32.ofNat (o + n))), .val (.long g171), .second, .val (.long g172), .second, .val (.long g173), .second, .val (.long g174), .second, .val (.int (1 : Int32)), .unset, .unset, .unset, .unset, .unset]) X0 hx (hb hby d24_38) rfl ?_
  refine E.iconst (q := 41) (v := (0 : Int32)) X0 hx (hb hby d24_40) rfl ?_
  refine E.istore (q := 43) (l' := #[.val (.long y0), .second, .val (.long y1), .second, .val (.ref oa), .val (.int (Int32.ofNat o)), .val (.int (Int32.ofNat (o + n))), .val (.long g171), .second, .val (.long g172), .second, .val (.long g173), .second, .val (.long g174), .second, .val (.int (1 : Int32)), .val (.int (0 : Int32)), .unset, .unset, .unset, .unset]) X0 hx (hb hby d24_41) rfl ?_
  refine E.iload (q := 45) X0 hx (hb hby d24_43) rfl ?_
  refine E.iload (q := 47) X0 hx (hb hby d24_45) rfl ?_
  refine E.icmpN (q := 50) X0 hx (hb hby d24_47) (XT.ii_gt_f (by decide)) ?_
  refine E.iload (q := 52) X0 hx (hb hby d24_50) rfl ?_
  refine E.iload (q := 54) X0 hx (hb hby d24_52) rfl ?_
  refine E.icmpN (q := 57) X0 hx (hb hby d24_54) (XT.ii_ge_f (by decide)) ?_
  refine E.aload (q := 59) X0 hx (hb hby d24_57) rfl rfl ?_
  refine E.iload (q := 61) X0 hx (hb hby d24_59) rfl ?_
  refine E.iload (q := 63) X0 hx (hb hby d24_61) rfl ?_
  refine E.bipush (q := 65) (v := (8 : Int32)) X0 hx (hb hby d24_63) rfl ?_
  refine E.imul (q := 66) X0 hx (hb hby d24_65) ?_
  rw [show ((0 : Int32) * (8 : Int32)) = (0 : Int32) from by decide]
  refine E.iadd (q := 67) X0 hx (hb hby d24_66) ?_
  refine E.iload (q := 69) X0 hx (hb hby d24_67) rfl ?_
  refine E.iload (q := 71) X0 hx (hb hby d24_69) rfl ?_
  refine E.iload (q := 73) X0 hx (hb hby d24_71) rfl ?_
  refine E.isub (q := 74) X0 hx (hb hby d24_73) ?_
  rw [Int32.add_zero, own_subN lo]
  show Ends none p e below s _ _ _ s₁ (mkF m 74 #[.val (.long y0), .second, .val (.long y1), .second, .val (.ref oa), .val (.int (Int32.ofNat o)), .val (.int (Int32.ofNat (o + n))), .val (.long g171), .second, .val (.long g172), .second, .val (.long g173), .second, .val (.long g174), .second, .val (.int (1 : Int32)), .val (.int (0 : Int32)), .unset, .unset, .unset, .unset] [(.int (Int32.ofNat n)), (.int (Int32.ofNat (o + n))), (.int (Int32.ofNat o)), (.ref oa)])
  refine Ends.callS X0 hx hZ hown (hw _ (List.mem_of_getElem? (i := 132) rfl)) (hw _ (List.mem_of_getElem? (i := 133) rfl)) (hw _ (List.mem_of_getElem? (i := 126) rfl)) (hw _ (List.mem_of_getElem? (i := 134) rfl)) (by decide) (argsL := [(.ref oa), (.int (Int32.ofNat o)), (.int (Int32.ofNat (o + n))), (.int (Int32.ofNat n))]) (rest := []) e0 (rm25 l Z a0 hw oa (Int32.ofNat n) o n bs hn hon _ A_b hbig) (W := 0) (by decide) (by decide) (by rw [hml]; rfl) (lenOf pd_12 rfl) (Nat.le_of_eq rfl) (hb hby d24_74) (by decide) (by decide) rfl ?_
  rintro T175 v175 L175 X175 ⟨r175, rfl, e175, rfl⟩
  rw [List.append_nil] at X175
  show Ends none p e below s _ _ _ T175 (mkF m 77 #[.val (.long y0), .second, .val (.long y1), .second, .val (.ref oa), .val (.int (Int32.ofNat o)), .val (.int (Int32.ofNat (o + n))), .val (.long g171), .second, .val (.long g172), .second, .val (.long g173), .second, .val (.long g174), .second, .val (.int (1 : Int32)), .val (.int (0 : Int32)), .unset, .unset, .unset, .unset] [(.long r175)])
  refine E.goto (q := 81) X175 hx (hb hby d24_77) ?_
  refine E.lstore (q := 83) (l' := #[.val (.long y0), .second, .val (.long y1), .second, .val (.ref oa), .val (.int (Int32.ofNat o)), .val (.int (Int32.ofNat (o + n))), .val (.long g171), .second, .val (.long g172), .second, .val (.long g173), .second, .val (.long g174), .second, .val (.int (1 : Int32)), .val (.int (0 : Int32)), .val (.long r175), .second, .unset, .unset]) X175 hx (hb hby d24_81) rfl ?_
  refine E.iload (q := 85) X175 hx (hb hby d24_83) rfl ?_
  refine E.iload (q := 87) X175 hx (hb hby d24_85) rfl ?_
  refine E.icmpN (q := 90) X175 hx (hb hby d24_87) (XT.ii_ge_f (by decide)) ?_
  refine E.iconst (q := 91) (v := (2 : Int32)) X175 hx (hb hby d24_90) rfl ?_
  refine E.goto (q := 95) X175 hx (hb hby d24_91) ?_
  refine E.istore (q := 97) (l' := #[.val (.long y0), .second, .val (.long y1), .second, .val (.ref oa), .val (.int (Int32.ofNat o)), .val (.int (Int32.ofNat (o + n))), .val (.long g171), .second, .val (.long g172), .second, .val (.long g173), .second, .val (.long g174), .second, .val (.int (1 : Int32)), .val (.int (0 : Int32)), .val (.long r175), .second, .val (.int (2 : Int32)), .unset]) X175 hx (hb hby d24_95) rfl ?_
  refine E.iload (q := 99) X175 hx (hb hby d24_97) rfl ?_
  refine E.iload (q := 101) X175 hx (hb hby d24_99) rfl ?_
  refine E.icmpY (q := 112) X175 hx (hb hby d24_101) (XT.ii_ne_t (by decide)) ?_
  refine E.lload (q := 114) X175 hx (hb hby d24_112) rfl ?_
  refine E.lload (q := 116) X175 hx (hb hby d24_114) rfl ?_
  refine E.lxor (q := 117) X175 hx (hb hby d24_116) ?_
  refine E.lstore (q := 119) (l' := #[.val (.long y0), .second, .val (.long y1), .second, .val (.ref oa), .val (.int (Int32.ofNat o)), .val (.int (Int32.ofNat (o + n))), .val (.long g171), .second, .val (.long g172), .second, .val (.long g173), .second, .val (.long (g174 ^^^ r175)), .second, .val (.int (1 : Int32)), .val (.int (0 : Int32)), .val (.long r175), .second, .val (.int (2 : Int32)), .unset]) X175 hx (hb hby d24_117) rfl ?_
  generalize (g174 ^^^ r175) = g176
  show Ends none p e below s _ _ _ T175 (mkF m 119 #[.val (.long y0), .second, .val (.long y1), .second, .val (.ref oa), .val (.int (Int32.ofNat o)), .val (.int (Int32.ofNat (o + n))), .val (.long g171), .second, .val (.long g172), .second, .val (.long g173), .second, .val (.long g176), .second, .val (.int (1 : Int32)), .val (.int (0 : Int32)), .val (.long r175), .second, .val (.int (2 : Int32)), .unset] [])
  refine E.iconst (q := 120) (v := (0 : Int32)) X175 hx (hb hby d24_119) rfl ?_
  refine E.istore (q := 122) (l' := #[.val (.long y0), .second, .val (.long y1), .second, .val (.ref oa), .val (.int (Int32.ofNat o)), .val (.int (Int32.ofNat (o + n))), .val (.long g171), .second, .val (.long g172), .second, .val (.long g173), .second, .val (.long g176), .second, .val (.int (1 : Int32)), .val (.int (0 : Int32)), .val (.long r175), .second, .val (.int (2 : Int32)), .val (.int (0 : Int32))]) X175 hx (hb hby d24_120) rfl ?_
  refine E.iload (q := 124) X175 hx (hb hby d24_122) rfl ?_
  refine E.iload (q := 126) X175 hx (hb hby d24_124) rfl ?_
  refine E.icmpN (q := 129) X175 hx (hb hby d24_126) (XT.ii_ge_f (by decide)) ?_
  refine E.lload (q := 131) X175 hx (hb hby d24_129) rfl ?_
  refine E.lload (q := 133) X175 hx (hb hby d24_131) rfl ?_
  refine E.ladd (q := 134) X175 hx (hb hby d24_133) ?_
  refine E.lstore (q := 136) (l' := #[.val (.long y0), .second, .val (.long y1), .second, .val (.ref oa), .val (.int (Int32.ofNat o)), .val (.int (Int32.ofNat (o + n))), .val (.long (g171 + g172)), .second, .val (.long g172), .second, .val (.long g173), .second, .val (.long g176), .second, .val (.int (1 : Int32)), .val (.int (0 : Int32)), .val (.long r175), .second, .val (.int (2 : Int32)), .val (.int (0 : Int32))]) X175 hx (hb hby d24_134) rfl ?_
  generalize (g171 + g172) = g177
  show Ends none p e below s _ _ _ T175 (mkF m 136 #[.val (.long y0), .second, .val (.long y1), .second, .val (.ref oa), .val (.int (Int32.ofNat o)), .val (.int (Int32.ofNat (o + n))), .val (.long g177), .second, .val (.long g172), .second, .val (.long g173), .second, .val (.long g176), .second, .val (.int (1 : Int32)), .val (.int (0 : Int32)), .val (.long r175), .second, .val (.int (2 : Int32)), .val (.int (0 : Int32))] [])
  refine E.lload (q := 138) X175 hx (hb hby d24_136) rfl ?_
  refine E.bipush (q := 140) (v := (13 : Int32)) X175 hx (hb hby d24_138) rfl ?_
  refine Ends.callS X175 hx hZ hown (hw _ (List.mem_of_getElem? (i := 140) rfl)) (hw _ (List.mem_of_getElem? (i := 141) rfl)) (hw _ (List.mem_of_getElem? (i := 142) rfl)) (hw _ (List.mem_of_getElem? (i := 143) rfl)) (by decide) (argsL := [(.long g172), (.int (13 : Int32))]) (rest := []) e175 (rm27 l Z a0 hw g172 (13 : Int32) _) (W := 0) (by decide) (by decide) (by rw [hml]; rfl) (lenOf pd_13 rfl) (Nat.le_of_eq rfl) (hb hby d24_140) (by decide) (by decide) rfl ?_
  rintro T178 v178 L178 X178 ⟨r178, rfl, e178, rfl⟩
  rw [List.append_nil] at X178
  show Ends none p e below s _ _ _ T178 (mkF m 143 #[.val (.long y0), .second, .val (.long y1), .second, .val (.ref oa), .val (.int (Int32.ofNat o)), .val (.int (Int32.ofNat (o + n))), .val (.long g177), .second, .val (.long g172), .second, .val (.long g173), .second, .val (.long g176), .second, .val (.int (1 : Int32)), .val (.int (0 : Int32)), .val (.long r175), .second, .val (.int (2 : Int32)), .val (.int (0 : Int32))] [(.long r178)])
  refine E.lload (q := 145) X178 hx (hb hby d24_143) rfl ?_
  refine E.lxor (q := 146) X178 hx (hb hby d24_145) ?_
  refine E.lstore (q := 148) (l' := #[.val (.long y0), .second, .val (.long y1), .second, .val (.ref oa), .val (.int (Int32.ofNat o)), .val (.int (Int32.ofNat (o + n))), .val (.long g177), .second, .val (.long (r178 ^^^ g177)), .second, .val (.long g173), .second, .val (.long g176), .second, .val (.int (1 : Int32)), .val (.int (0 : Int32)), .val (.long r175), .second, .val (.int (2 : Int32)), .val (.int (0 : Int32))]) X178 hx (hb hby d24_146) rfl ?_
  generalize (r178 ^^^ g177) = g179
  show Ends none p e below s _ _ _ T178 (mkF m 148 #[.val (.long y0), .second, .val (.long y1), .second, .val (.ref oa), .val (.int (Int32.ofNat o)), .val (.int (Int32.ofNat (o + n))), .val (.long g177), .second, .val (.long g179), .second, .val (.long g173), .second, .val (.long g176), .second, .val (.int (1 : Int32)), .val (.int (0 : Int32)), .val (.long r175), .second, .val (.int (2 : Int32)), .val (.int (0 : Int32))] [])
  refine E.lload (q := 150) X178 hx (hb hby d24_148) rfl ?_
  refine E.bipush (q := 152) (v := (32 : Int32)) X178 hx (hb hby d24_150) rfl ?_
  refine Ends.callS X178 hx hZ hown (hw _ (List.mem_of_getElem? (i := 140) rfl)) (hw _ (List.mem_of_getElem? (i := 141) rfl)) (hw _ (List.mem_of_getElem? (i := 142) rfl)) (hw _ (List.mem_of_getElem? (i := 143) rfl)) (by decide) (argsL := [(.long g177), (.int (32 : Int32))]) (rest := []) e178 (rm27 l Z a0 hw g177 (32 : Int32) _) (W := 0) (by decide) (by decide) (by rw [hml]; rfl) (lenOf pd_13 rfl) (Nat.le_of_eq rfl) (hb hby d24_152) (by decide) (by decide) rfl ?_
  rintro T180 v180 L180 X180 ⟨r180, rfl, e180, rfl⟩
  rw [List.append_nil] at X180
  show Ends none p e below s _ _ _ T180 (mkF m 155 #[.val (.long y0), .second, .val (.long y1), .second, .val (.ref oa), .val (.int (Int32.ofNat o)), .val (.int (Int32.ofNat (o + n))), .val (.long g177), .second, .val (.long g179), .second, .val (.long g173), .second, .val (.long g176), .second, .val (.int (1 : Int32)), .val (.int (0 : Int32)), .val (.long r175), .second, .val (.int (2 : Int32)), .val (.int (0 : Int32))] [(.long r180)])
  refine E.lstore (q := 157) (l' := #[.val (.long y0), .second, .val (.long y1), .second, .val (.ref oa), .val (.int (Int32.ofNat o)), .val (.int (Int32.ofNat (o + n))), .val (.long r180), .second, .val (.long g179), .second, .val (.long g173), .second, .val (.long g176), .second, .val (.int (1 : Int32)), .val (.int (0 : Int32)), .val (.long r175), .second, .val (.int (2 : Int32)), .val (.int (0 : Int32))]) X180 hx (hb hby d24_155) rfl ?_
  refine E.lload (q := 159) X180 hx (hb hby d24_157) rfl ?_
  refine E.lload (q := 161) X180 hx (hb hby d24_159) rfl ?_
  refine E.ladd (q := 162) X180 hx (hb hby d24_161) ?_
  refine E.lstore (q := 164) (l' := #[.val (.long y0), .second, .val (.long y1), .second, .val (.ref oa), .val (.int (Int32.ofNat o)), .val (.int (Int32.ofNat (o + n))), .val (.long r180), .second, .val (.long g179), .second, .val (.long (g173 + g176)), .second, .val (.long g176), .second, .val (.int (1 : Int32)), .val (.int (0 : Int32)), .val (.long r175), .second, .val (.int (2 : Int32)), .val (.int (0 : Int32))]) X180 hx (hb hby d24_162) rfl ?_
  generalize (g173 + g176) = g181
  show Ends none p e below s _ _ _ T180 (mkF m 164 #[.val (.long y0), .second, .val (.long y1), .second, .val (.ref oa), .val (.int (Int32.ofNat o)), .val (.int (Int32.ofNat (o + n))), .val (.long r180), .second, .val (.long g179), .second, .val (.long g181), .second, .val (.long g176), .second, .val (.int (1 : Int32)), .val (.int (0 : Int32)), .val (.long r175), .second, .val (.int (2 : Int32)), .val (.int (0 : Int32))] [])
  refine E.lload (q := 166) X180 hx (hb hby d24_164) rfl ?_
  refine E.bipush (q := 168) (v := (16 : Int32)) X180 hx (hb hby d24_166) rfl ?_
  refine Ends.callS X180 hx hZ hown (hw _ (List.mem_of_getElem? (i := 140) rfl)) (hw _ (List.mem_of_getElem? (i := 141) rfl)) (hw _ (List.mem_of_getElem? (i := 142) rfl)) (hw _ (List.mem_of_getElem? (i := 143) rfl)) (by decide) (argsL := [(.long g176), (.int (16 : Int32))]) (rest := []) e180 (rm27 l Z a0 hw g176 (16 : Int32) _) (W := 0) (by decide) (by decide) (by rw [hml]; rfl) (lenOf pd_13 rfl) (Nat.le_of_eq rfl) (hb hby d24_168) (by decide) (by decide) rfl ?_
  rintro T182 v182 L182 X182 ⟨r182, rfl, e182, rfl⟩
  rw [List.append_nil] at X182
  show Ends none p e below s _ _ _ T182 (mkF m 171 #[.val (.long y0), .second, .val (.long y1), .second, .val (.ref oa), .val (.int (Int32.ofNat o)), .val (.int (Int32.ofNat (o + n))), .val (.long r180), .second, .val (.long g179), .second, .val (.long g181), .second, .val (.long g176), .second, .val (.int (1 : Int32)), .val (.int (0 : Int32)), .val (.long r175), .second, .val (.int (2 : Int32)), .val (.int (0 : Int32))] [(.long r182)])
  refine E.lload (q := 173) X182 hx (hb hby d24_171) rfl ?_
  refine E.lxor (q := 174) X182 hx (hb hby d24_173) ?_
  refine E.lstore (q := 176) (l' := #[.val (.long y0), .second, .val (.long y1), .second, .val (.ref oa), .val (.int (Int32.ofNat o)), .val (.int (Int32.ofNat (o + n))), .val (.long r180), .second, .val (.long g179), .second, .val (.long g181), .second, .val (.long (r182 ^^^ g181)), .second, .val (.int (1 : Int32)), .val (.int (0 : Int32)), .val (.long r175), .second, .val (.int (2 : Int32)), .val (.int (0 : Int32))]) X182 hx (hb hby d24_174) rfl ?_
  generalize (r182 ^^^ g181) = g183
  show Ends none p e below s _ _ _ T182 (mkF m 176 #[.val (.long y0), .second, .val (.long y1), .second, .val (.ref oa), .val (.int (Int32.ofNat o)), .val (.int (Int32.ofNat (o + n))), .val (.long r180), .second, .val (.long g179), .second, .val (.long g181), .second, .val (.long g183), .second, .val (.int (1 : Int32)), .val (.int (0 : Int32)), .val (.long r175), .second, .val (.int (2 : Int32)), .val (.int (0 : Int32))] [])
  refine E.lload (q := 178) X182 hx (hb hby d24_176) rfl ?_
  refine E.lload (q := 180) X182 hx (hb hby d24_178) rfl ?_
  refine E.ladd (q := 181) X182 hx (hb hby d24_180) ?_
  refine E.lstore (q := 183) (l' := #[.val (.long y0), .second, .val (.long y1), .second, .val (.ref oa), .val (.int (Int32.ofNat o)), .val (.int (Int32.ofNat (o + n))), .val (.long (r180 + g183)), .second, .val (.long g179), .second, .val (.long g181), .second, .val (.long g183), .second, .val (.int (1 : Int32)), .val (.int (0 : Int32)), .val (.long r175), .second, .val (.int (2 : Int32)), .val (.int (0 : Int32))]) X182 hx (hb hby d24_181) rfl ?_
  generalize (r180 + g183) = g184
  show Ends none p e below s _ _ _ T182 (mkF m 183 #[.val (.long y0), .second, .val (.long y1), .second, .val (.ref oa), .val (.int (Int32.ofNat o)), .val (.int (Int32.ofNat (o + n))), .val (.long g184), .second, .val (.long g179), .second, .val (.long g181), .second, .val (.long g183), .second, .val (.int (1 : Int32)), .val (.int (0 : Int32)), .val (.long r175), .second, .val (.int (2 : Int32)), .val (.int (0 : Int32))] [])
  refine E.lload (q := 185) X182 hx (hb hby d24_183) rfl ?_
  refine E.bipush (q := 187) (v := (21 : Int32)) X182 hx (hb hby d24_185) rfl ?_
  refine Ends.callS X182 hx hZ hown (hw _ (List.mem_of_getElem? (i := 140) rfl)) (hw _ (List.mem_of_getElem? (i := 141) rfl)) (hw _ (List.mem_of_getElem? (i := 142) rfl)) (hw _ (List.mem_of_getElem? (i := 143) rfl)) (by decide) (argsL := [(.long g183), (.int (21 : Int32))]) (rest := []) e182 (rm27 l Z a0 hw g183 (21 : Int32) _) (W := 0) (by decide) (by decide) (by rw [hml]; rfl) (lenOf pd_13 rfl) (Nat.le_of_eq rfl) (hb hby d24_187) (by decide) (by decide) rfl ?_
  rintro T185 v185 L185 X185 ⟨r185, rfl, e185, rfl⟩
  rw [List.append_nil] at X185
  show Ends none p e below s _ _ _ T185 (mkF m 190 #[.val (.long y0), .second, .val (.long y1), .second, .val (.ref oa), .val (.int (Int32.ofNat o)), .val (.int (Int32.ofNat (o + n))), .val (.long g184), .second, .val (.long g179), .second, .val (.long g181), .second, .val (.long g183), .second, .val (.int (1 : Int32)), .val (.int (0 : Int32)), .val (.long r175), .second, .val (.int (2 : Int32)), .val (.int (0 : Int32))] [(.long r185)])
  refine E.lload (q := 192) X185 hx (hb hby d24_190) rfl ?_
  refine E.lxor (q := 193) X185 hx (hb hby d24_192) ?_
  refine E.lstore (q := 195) (l' := #[.val (.long y0), .second, .val (.long y1), .second, .val (.ref oa), .val (.int (Int32.ofNat o)), .val (.int (Int32.ofNat (o + n))), .val (.long g184), .second, .val (.long g179), .second, .val (.long g181), .second, .val (.long (r185 ^^^ g184)), .second, .val (.int (1 : Int32)), .val (.int (0 : Int32)), .val (.long r175), .second, .val (.int (2 : Int32)), .val (.int (0 : Int32))]) X185 hx (hb hby d24_193) rfl ?_
  generalize (r185 ^^^ g184) = g186
  show Ends none p e below s _ _ _ T185 (mkF m 195 #[.val (.long y0), .second, .val (.long y1), .second, .val (.ref oa), .val (.int (Int32.ofNat o)), .val (.int (Int32.ofNat (o + n))), .val (.long g184), .second, .val (.long g179), .second, .val (.long g181), .second, .val (.long g186), .second, .val (.int (1 : Int32)), .val (.int (0 : Int32)), .val (.long r175), .second, .val (.int (2 : Int32)), .val (.int (0 : Int32))] [])
  refine E.lload (q := 197) X185 hx (hb hby d24_195) rfl ?_
  refine E.lload (q := 199) X185 hx (hb hby d24_197) rfl ?_
  refine E.ladd (q := 200) X185 hx (hb hby d24_199) ?_
  refine E.lstore (q := 202) (l' := #[.val (.long y0), .second, .val (.long y1), .second, .val (.ref oa), .val (.int (Int32.ofNat o)), .val (.int (Int32.ofNat (o + n))), .val (.long g184), .second, .val (.long g179), .second, .val (.long (g181 + g179)), .second, .val (.long g186), .second, .val (.int (1 : Int32)), .val (.int (0 : Int32)), .val (.long r175), .second, .val (.int (2 : Int32)), .val (.int (0 : Int32))]) X185 hx (hb hby d24_200) rfl ?_
  generalize (g181 + g179) = g187
  show Ends none p e below s _ _ _ T185 (mkF m 202 #[.val (.long y0), .second, .val (.long y1), .second, .val (.ref oa), .val (.int (Int32.ofNat o)), .val (.int (Int32.ofNat (o + n))), .val (.long g184), .second, .val (.long g179), .second, .val (.long g187), .second, .val (.long g186), .second, .val (.int (1 : Int32)), .val (.int (0 : Int32)), .val (.long r175), .second, .val (.int (2 : Int32)), .val (.int (0 : Int32))] [])
  refine E.lload (q := 204) X185 hx (hb hby d24_202) rfl ?_
  refine E.bipush (q := 206) (v := (17 : Int32)) X185 hx (hb hby d24_204) rfl ?_
  refine Ends.callS X185 hx hZ hown (hw _ (List.mem_of_getElem? (i := 140) rfl)) (hw _ (List.mem_of_getElem? (i := 141) rfl)) (hw _ (List.mem_of_getElem? (i := 142) rfl)) (hw _ (List.mem_of_getElem? (i := 143) rfl)) (by decide) (argsL := [(.long g179), (.int (17 : Int32))]) (rest := []) e185 (rm27 l Z a0 hw g179 (17 : Int32) _) (W := 0) (by decide) (by decide) (by rw [hml]; rfl) (lenOf pd_13 rfl) (Nat.le_of_eq rfl) (hb hby d24_206) (by decide) (by decide) rfl ?_
  rintro T188 v188 L188 X188 ⟨r188, rfl, e188, rfl⟩
  rw [List.append_nil] at X188
  show Ends none p e below s _ _ _ T188 (mkF m 209 #[.val (.long y0), .second, .val (.long y1), .second, .val (.ref oa), .val (.int (Int32.ofNat o)), .val (.int (Int32.ofNat (o + n))), .val (.long g184), .second, .val (.long g179), .second, .val (.long g187), .second, .val (.long g186), .second, .val (.int (1 : Int32)), .val (.int (0 : Int32)), .val (.long r175), .second, .val (.int (2 : Int32)), .val (.int (0 : Int32))] [(.long r188)])
  refine E.lload (q := 211) X188 hx (hb hby d24_209) rfl ?_
  refine E.lxor (q := 212) X188 hx (hb hby d24_211) ?_
  refine E.lstore (q := 214) (l' := #[.val (.long y0), .second, .val (.long y1), .second, .val (.ref oa), .val (.int (Int32.ofNat o)), .val (.int (Int32.ofNat (o + n))), .val (.long g184), .second, .val (.long (r188 ^^^ g187)), .second, .val (.long g187), .second, .val (.long g186), .second, .val (.int (1 : Int32)), .val (.int (0 : Int32)), .val (.long r175), .second, .val (.int (2 : Int32)), .val (.int (0 : Int32))]) X188 hx (hb hby d24_212) rfl ?_
  generalize (r188 ^^^ g187) = g189
  show Ends none p e below s _ _ _ T188 (mkF m 214 #[.val (.long y0), .second, .val (.long y1), .second, .val (.ref oa), .val (.int (Int32.ofNat o)), .val (.int (Int32.ofNat (o + n))), .val (.long g184), .second, .val (.long g189), .second, .val (.long g187), .second, .val (.long g186), .second, .val (.int (1 : Int32)), .val (.int (0 : Int32)), .val (.long r175), .second, .val (.int (2 : Int32)), .val (.int (0 : Int32))] [])
  refine E.lload (q := 216) X188 hx (hb hby d24_214) rfl ?_
  refine E.bipush (q := 218) (v := (32 : Int32)) X188 hx (hb hby d24_216) rfl ?_
  refine Ends.callS X188 hx hZ hown (hw _ (List.mem_of_getElem? (i := 140) rfl)) (hw _ (List.mem_of_getElem? (i := 141) rfl)) (hw _ (List.mem_of_getElem? (i := 142) rfl)) (hw _ (List.mem_of_getElem? (i := 143) rfl)) (by decide) (argsL := [(.long g187), (.int (32 : Int32))]) (rest := []) e188 (rm27 l Z a0 hw g187 (32 : Int32) _) (W := 0) (by decide) (by decide) (by rw [hml]; rfl) (lenOf pd_13 rfl) (Nat.le_of_eq rfl) (hb hby d24_218) (by decide) (by decide) rfl ?_
  rintro T190 v190 L190 X190 ⟨r190, rfl, e190, rfl⟩
  rw [List.append_nil] at X190
  show Ends none p e below s _ _ _ T190 (mkF m 221 #[.val (.long y0), .second, .val (.long y1), .second, .val (.ref oa), .val (.int (Int32.ofNat o)), .val (.int (Int32.ofNat (o + n))), .val (.long g184), .second, .val (.long g189), .second, .val (.long g187), .second, .val (.long g186), .second, .val (.int (1 : Int32)), .val (.int (0 : Int32)), .val (.long r175), .second, .val (.int (2 : Int32)), .val (.int (0 : Int32))] [(.long r190)])
  refine E.lstore (q := 223) (l' := #[.val (.long y0), .second, .val (.long y1), .second, .val (.ref oa), .val (.int (Int32.ofNat o)), .val (.int (Int32.ofNat (o + n))), .val (.long g184), .second, .val (.long g189), .second, .val (.long r190), .second, .val (.long g186), .second, .val (.int (1 : Int32)), .val (.int (0 : Int32)), .val (.long r175), .second, .val (.int (2 : Int32)), .val (.int (0 : Int32))]) X190 hx (hb hby d24_221) rfl ?_
  refine E.iinc (q := 226) (v := (1 : Int32)) (l' := #[.val (.long y0), .second, .val (.long y1), .second, .val (.ref oa), .val (.int (Int32.ofNat o)), .val (.int (Int32.ofNat (o + n))), .val (.long g184), .second, .val (.long g189), .second, .val (.long r190), .second, .val (.long g186), .second, .val (.int (1 : Int32)), .val (.int (0 : Int32)), .val (.long r175), .second, .val (.int (2 : Int32)), .val (.int (1 : Int32))]) X190 hx (hb hby d24_223) rfl (by decide) rfl ?_
  refine E.goto (q := 122) X190 hx (hb hby d24_226) ?_
  refine E.iload (q := 124) X190 hx (hb hby d24_122) rfl ?_
  refine E.iload (q := 126) X190 hx (hb hby d24_124) rfl ?_
  refine E.icmpN (q := 129) X190 hx (hb hby d24_126) (XT.ii_ge_f (by decide)) ?_
  refine E.lload (q := 131) X190 hx (hb hby d24_129) rfl ?_
  refine E.lload (q := 133) X190 hx (hb hby d24_131) rfl ?_
  refine E.ladd (q := 134) X190 hx (hb hby d24_133) ?_
  refine E.lstore (q := 136) (l' := #[.val (.long y0), .second, .val (.long y1), .second, .val (.ref oa), .val (.int (Int32.ofNat o)), .val (.int (Int32.ofNat (o + n))), .val (.long (g184 + g189)), .second, .val (.long g189), .second, .val (.long r190), .second, .val (.long g186), .second, .val (.int (1 : Int32)), .val (.int (0 : Int32)), .val (.long r175), .second, .val (.int (2 : Int32)), .val (.int (1 : Int32))]) X190 hx (hb hby d24_134) rfl ?_
  generalize (g184 + g189) = g191
  show Ends none p e below s _ _ _ T190 (mkF m 136 #[.val (.long y0), .second, .val (.long y1), .second, .val (.ref oa), .val (.int (Int32.ofNat o)), .val (.int (Int32.ofNat (o + n))), .val (.long g191), .second, .val (.long g189), .second, .val (.long r190), .second, .val (.long g186), .second, .val (.int (1 : Int32)), .val (.int (0 : Int32)), .val (.long r175), .second, .val (.int (2 : Int32)), .val (.int (1 : Int32))] [])
  refine E.lload (q := 138) X190 hx (hb hby d24_136) rfl ?_
  refine E.bipush (q := 140) (v := (13 : Int32)) X190 hx (hb hby d24_138) rfl ?_
  refine Ends.callS X190 hx hZ hown (hw _ (List.mem_of_getElem? (i := 140) rfl)) (hw _ (List.mem_of_getElem? (i := 141) rfl)) (hw _ (List.mem_of_getElem? (i := 142) rfl)) (hw _ (List.mem_of_getElem? (i := 143) rfl)) (by decide) (argsL := [(.long g189), (.int (13 : Int32))]) (rest := []) e190 (rm27 l Z a0 hw g189 (13 : Int32) _) (W := 0) (by decide) (by decide) (by rw [hml]; rfl) (lenOf pd_13 rfl) (Nat.le_of_eq rfl) (hb hby d24_140) (by decide) (by decide) rfl ?_
  rintro T192 v192 L192 X192 ⟨r192, rfl, e192, rfl⟩
  rw [List.append_nil] at X192
  show Ends none p e below s _ _ _ T192 (mkF m 143 #[.val (.long y0), .second, .val (.long y1), .second, .val (.ref oa), .val (.int (Int32.ofNat o)), .val (.int (Int32.ofNat (o + n))), .val (.long g191), .second, .val (.long g189), .second, .val (.long r190), .second, .val (.long g186), .second, .val (.int (1 : Int32)), .val (.int (0 : Int32)), .val (.long r175), .second, .val (.int (2 : Int32)), .val (.int (1 : Int32))] [(.long r192)])
  refine E.lload (q := 145) X192 hx (hb hby d24_143) rfl ?_
  refine E.lxor (q := 146) X192 hx (hb hby d24_145) ?_
  refine E.lstore (q := 148) (l' := #[.val (.long y0), .second, .val (.long y1), .second, .val (.ref oa), .val (.int (Int32.ofNat o)), .val (.int (Int32.ofNat (o + n))), .val (.long g191), .second, .val (.long (r192 ^^^ g191)), .second, .val (.long r190), .second, .val (.long g186), .second, .val (.int (1 : Int32)), .val (.int (0 : Int32)), .val (.long r175), .second, .val (.int (2 : Int32)), .val (.int (1 : Int32))]) X192 hx (hb hby d24_146) rfl ?_
  generalize (r192 ^^^ g191) = g193
  show Ends none p e below s _ _ _ T192 (mkF m 148 #[.val (.long y0), .second, .val (.long y1), .second, .val (.ref oa), .val (.int (Int32.ofNat o)), .val (.int (Int32.ofNat (o + n))), .val (.long g191), .second, .val (.long g193), .second, .val (.long r190), .second, .val (.long g186), .second, .val (.int (1 : Int32)), .val (.int (0 : Int32)), .val (.long r175), .second, .val (.int (2 : Int32)), .val (.int (1 : Int32))] [])
  refine E.lload (q := 150) X192 hx (hb hby d24_148) rfl ?_
  refine E.bipush (q := 152) (v := (32 : Int32)) X192 hx (hb hby d24_150) rfl ?_
  refine Ends.callS X192 hx hZ hown (hw _ (List.mem_of_getElem? (i := 140) rfl)) (hw _ (List.mem_of_getElem? (i := 141) rfl)) (hw _ (List.mem_of_getElem? (i := 142) rfl)) (hw _ (List.mem_of_getElem? (i := 143) rfl)) (by decide) (argsL := [(.long g191), (.int (32 : Int32))]) (rest := []) e192 (rm27 l Z a0 hw g191 (32 : Int32) _) (W := 0) (by decide) (by decide) (by rw [hml]; rfl) (lenOf pd_13 rfl) (Nat.le_of_eq rfl) (hb hby d24_152) (by decide) (by decide) rfl ?_
  rintro T194 v194 L194 X194 ⟨r194, rfl, e194, rfl⟩
  rw [List.append_nil] at X194
  show Ends none p e below s _ _ _ T194 (mkF m 155 #[.val (.long y0), .second, .val (.long y1), .second, .val (.ref oa), .val (.int (Int32.ofNat o)), .val (.int (Int32.ofNat (o + n))), .val (.long g191), .second, .val (.long g193), .second, .val (.long r190), .second, .val (.long g186), .second, .val (.int (1 : Int32)), .val (.int (0 : Int32)), .val (.long r175), .second, .val (.int (2 : Int32)), .val (.int (1 : Int32))] [(.long r194)])
  refine E.lstore (q := 157) (l' := #[.val (.long y0), .second, .val (.long y1), .second, .val (.ref oa), .val (.int (Int32.ofNat o)), .val (.int (Int32.ofNat (o + n))), .val (.long r194), .second, .val (.long g193), .second, .val (.long r190), .second, .val (.long g186), .second, .val (.int (1 : Int32)), .val (.int (0 : Int32)), .val (.long r175), .second, .val (.int (2 : Int32)), .val (.int (1 : Int32))]) X194 hx (hb hby d24_155) rfl ?_
  refine E.lload (q := 159) X194 hx (hb hby d24_157) rfl ?_
  refine E.lload (q := 161) X194 hx (hb hby d24_159) rfl ?_
  refine E.ladd (q := 162) X194 hx (hb hby d24_161) ?_
  refine E.lstore (q := 164) (l' := #[.val (.long y0), .second, .val (.long y1), .second, .val (.ref oa), .val (.int (Int32.ofNat o)), .val (.int (Int32.ofNat (o + n))), .val (.long r194), .second, .val (.long g193), .second, .val (.long (r190 + g186)), .second, .val (.long g186), .second, .val (.int (1 : Int32)), .val (.int (0 : Int32)), .val (.long r175), .second, .val (.int (2 : Int32)), .val (.int (1 : Int32))]) X194 hx (hb hby d24_162) rfl ?_
  generalize (r190 + g186) = g195
  show Ends none p e below s _ _ _ T194 (mkF m 164 #[.val (.long y0), .second, .val (.long y1), .second, .val (.ref oa), .val (.int (Int32.ofNat o)), .val (.int (Int32.ofNat (o + n))), .val (.long r194), .second, .val (.long g193), .second, .val (.long g195), .second, .val (.long g186), .second, .val (.int (1 : Int32)), .val (.int (0 : Int32)), .val (.long r175), .second, .val (.int (2 : Int32)), .val (.int (1 : Int32))] [])
  refine E.lload (q := 166) X194 hx (hb hby d24_164) rfl ?_
  refine E.bipush (q := 168) (v := (16 : Int32)) X194 hx (hb hby d24_166) rfl ?_
  refine Ends.callS X194 hx hZ hown (hw _ (List.mem_of_getElem? (i := 140) rfl)) (hw _ (List.mem_of_getElem? (i := 141) rfl)) (hw _ (List.mem_of_getElem? (i := 142) rfl)) (hw _ (List.mem_of_getElem? (i := 143) rfl)) (by decide) (argsL := [(.long g186), (.int (16 : Int32))]) (rest := []) e194 (rm27 l Z a0 hw g186 (16 : Int32) _) (W := 0) (by decide) (by decide) (by rw [hml]; rfl) (lenOf pd_13 rfl) (Nat.le_of_eq rfl) (hb hby d24_168) (by decide) (by decide) rfl ?_
  rintro T196 v196 L196 X196 ⟨r196, rfl, e196, rfl⟩
  rw [List.append_nil] at X196
  show Ends none p e below s _ _ _ T196 (mkF m 171 #[.val (.long y0), .second, .val (.long y1), .second, .val (.ref oa), .val (.int (Int32.ofNat o)), .val (.int (Int32.ofNat (o + n))), .val (.long r194), .second, .val (.long g193), .second, .val (.long g195), .second, .val (.long g186), .second, .val (.int (1 : Int32)), .val (.int (0 : Int32)), .val (.long r175), .second, .val (.int (2 : Int32)), .val (.int (1 : Int32))] [(.long r196)])
  refine E.lload (q := 173) X196 hx (hb hby d24_171) rfl ?_
  refine E.lxor (q := 174) X196 hx (hb hby d24_173) ?_
  refine E.lstore (q := 176) (l' := #[.val (.long y0), .second, .val (.long y1), .second, .val (.ref oa), .val (.int (Int32.ofNat o)), .val (.int (Int32.ofNat (o + n))), .val (.long r194), .second, .val (.long g193), .second, .val (.long g195), .second, .val (.long (r196 ^^^ g195)), .second, .val (.int (1 : Int32)), .val (.int (0 : Int32)), .val (.long r175), .second, .val (.int (2 : Int32)), .val (.int (1 : Int32))]) X196 hx (hb hby d24_174) rfl ?_
  generalize (r196 ^^^ g195) = g197
  show Ends none p e below s _ _ _ T196 (mkF m 176 #[.val (.long y0), .second, .val (.long y1), .second, .val (.ref oa), .val (.int (Int32.ofNat o)), .val (.int (Int32.ofNat (o + n))), .val (.long r194), .second, .val (.long g193), .second, .val (.long g195), .second, .val (.long g197), .second, .val (.int (1 : Int32)), .val (.int (0 : Int32)), .val (.long r175), .second, .val (.int (2 : Int32)), .val (.int (1 : Int32))] [])
  refine E.lload (q := 178) X196 hx (hb hby d24_176) rfl ?_
  refine E.lload (q := 180) X196 hx (hb hby d24_178) rfl ?_
  refine E.ladd (q := 181) X196 hx (hb hby d24_180) ?_
  refine E.lstore (q := 183) (l' := #[.val (.long y0), .second, .val (.long y1), .second, .val (.ref oa), .val (.int (Int32.ofNat o)), .val (.int (Int32.ofNat (o + n))), .val (.long (r194 + g197)), .second, .val (.long g193), .second, .val (.long g195), .second, .val (.long g197), .second, .val (.int (1 : Int32)), .val (.int (0 : Int32)), .val (.long r175), .second, .val (.int (2 : Int32)), .val (.int (1 : Int32))]) X196 hx (hb hby d24_181) rfl ?_
  generalize (r194 + g197) = g198
  show Ends none p e below s _ _ _ T196 (mkF m 183 #[.val (.long y0), .second, .val (.long y1), .second, .val (.ref oa), .val (.int (Int32.ofNat o)), .val (.int (Int32.ofNat (o + n))), .val (.long g198), .second, .val (.long g193), .second, .val (.long g195), .second, .val (.long g197), .second, .val (.int (1 : Int32)), .val (.int (0 : Int32)), .val (.long r175), .second, .val (.int (2 : Int32)), .val (.int (1 : Int32))] [])
  refine E.lload (q := 185) X196 hx (hb hby d24_183) rfl ?_
  refine E.bipush (q := 187) (v := (21 : Int32)) X196 hx (hb hby d24_185) rfl ?_
  refine Ends.callS X196 hx hZ hown (hw _ (List.mem_of_getElem? (i := 140) rfl)) (hw _ (List.mem_of_getElem? (i := 141) rfl)) (hw _ (List.mem_of_getElem? (i := 142) rfl)) (hw _ (List.mem_of_getElem? (i := 143) rfl)) (by decide) (argsL := [(.long g197), (.int (21 : Int32))]) (rest := []) e196 (rm27 l Z a0 hw g197 (21 : Int32) _) (W := 0) (by decide) (by decide) (by rw [hml]; rfl) (lenOf pd_13 rfl) (Nat.le_of_eq rfl) (hb hby d24_187) (by decide) (by decide) rfl ?_
  rintro T199 v199 L199 X199 ⟨r199, rfl, e199, rfl⟩
  rw [List.append_nil] at X199
  show Ends none p e below s _ _ _ T199 (mkF m 190 #[.val (.long y0), .second, .val (.long y1), .second, .val (.ref oa), .val (.int (Int32.ofNat o)), .val (.int (Int32.ofNat (o + n))), .val (.long g198), .second, .val (.long g193), .second, .val (.long g195), .second, .val (.long g197), .second, .val (.int (1 : Int32)), .val (.int (0 : Int32)), .val (.long r175), .second, .val (.int (2 : Int32)), .val (.int (1 : Int32))] [(.long r199)])
  refine E.lload (q := 192) X199 hx (hb hby d24_190) rfl ?_
  refine E.lxor (q := 193) X199 hx (hb hby d24_192) ?_
  refine E.lstore (q := 195) (l' := #[.val (.long y0), .second, .val (.long y1), .second, .val (.ref oa), .val (.int (Int32.ofNat o)), .val (.int (Int32.ofNat (o + n))), .val (.long g198), .second, .val (.long g193), .second, .val (.long g195), .second, .val (.long (r199 ^^^ g198)), .second, .val (.int (1 : Int32)), .val (.int (0 : Int32)), .val (.long r175), .second, .val (.int (2 : Int32)), .val (.int (1 : Int32))]) X199 hx (hb hby d24_193) rfl ?_
  generalize (r199 ^^^ g198) = g200
  show Ends none p e below s _ _ _ T199 (mkF m 195 #[.val (.long y0), .second, .val (.long y1), .second, .val (.ref oa), .val (.int (Int32.ofNat o)), .val (.int (Int32.ofNat (o + n))), .val (.long g198), .second, .val (.long g193), .second, .val (.long g195), .second, .val (.long g200), .second, .val (.int (1 : Int32)), .val (.int (0 : Int32)), .val (.long r175), .second, .val (.int (2 : Int32)), .val (.int (1 : Int32))] [])
  refine E.lload (q := 197) X199 hx (hb hby d24_195) rfl ?_
  refine E.lload (q := 199) X199 hx (hb hby d24_197) rfl ?_
  refine E.ladd (q := 200) X199 hx (hb hby d24_199) ?_
  refine E.lstore (q := 202) (l' := #[.val (.long y0), .second, .val (.long y1), .second, .val (.ref oa), .val (.int (Int32.ofNat o)), .val (.int (Int32.ofNat (o + n))), .val (.long g198), .second, .val (.long g193), .second, .val (.long (g195 + g193)), .second, .val (.long g200), .second, .val (.int (1 : Int32)), .val (.int (0 : Int32)), .val (.long r175), .second, .val (.int (2 : Int32)), .val (.int (1 : Int32))]) X199 hx (hb hby d24_200) rfl ?_
  generalize (g195 + g193) = g201
  show Ends none p e below s _ _ _ T199 (mkF m 202 #[.val (.long y0), .second, .val (.long y1), .second, .val (.ref oa), .val (.int (Int32.ofNat o)), .val (.int (Int32.ofNat (o + n))), .val (.long g198), .second, .val (.long g193), .second, .val (.long g201), .second, .val (.long g200), .second, .val (.int (1 : Int32)), .val (.int (0 : Int32)), .val (.long r175), .second, .val (.int (2 : Int32)), .val (.int (1 : Int32))] [])
  refine E.lload (q := 204) X199 hx (hb hby d24_202) rfl ?_
  refine E.bipush (q := 206) (v := (17 : Int32)) X199 hx (hb hby d24_204) rfl ?_
  refine Ends.callS X199 hx hZ hown (hw _ (List.mem_of_getElem? (i := 140) rfl)) (hw _ (List.mem_of_getElem? (i := 141) rfl)) (hw _ (List.mem_of_getElem? (i := 142) rfl)) (hw _ (List.mem_of_getElem? (i := 143) rfl)) (by decide) (argsL := [(.long g193), (.int (17 : Int32))]) (rest := []) e199 (rm27 l Z a0 hw g193 (17 : Int32) _) (W := 0) (by decide) (by decide) (by rw [hml]; rfl) (lenOf pd_13 rfl) (Nat.le_of_eq rfl) (hb hby d24_206) (by decide) (by decide) rfl ?_
  rintro T202 v202 L202 X202 ⟨r202, rfl, e202, rfl⟩
  rw [List.append_nil] at X202
  show Ends none p e below s _ _ _ T202 (mkF m 209 #[.val (.long y0), .second, .val (.long y1), .second, .val (.ref oa), .val (.int (Int32.ofNat o)), .val (.int (Int32.ofNat (o + n))), .val (.long g198), .second, .val (.long g193), .second, .val (.long g201), .second, .val (.long g200), .second, .val (.int (1 : Int32)), .val (.int (0 : Int32)), .val (.long r175), .second, .val (.int (2 : Int32)), .val (.int (1 : Int32))] [(.long r202)])
  refine E.lload (q := 211) X202 hx (hb hby d24_209) rfl ?_
  refine E.lxor (q := 212) X202 hx (hb hby d24_211) ?_
  refine E.lstore (q := 214) (l' := #[.val (.long y0), .second, .val (.long y1), .second, .val (.ref oa), .val (.int (Int32.ofNat o)), .val (.int (Int32.ofNat (o + n))), .val (.long g198), .second, .val (.long (r202 ^^^ g201)), .second, .val (.long g201), .second, .val (.long g200), .second, .val (.int (1 : Int32)), .val (.int (0 : Int32)), .val (.long r175), .second, .val (.int (2 : Int32)), .val (.int (1 : Int32))]) X202 hx (hb hby d24_212) rfl ?_
  generalize (r202 ^^^ g201) = g203
  show Ends none p e below s _ _ _ T202 (mkF m 214 #[.val (.long y0), .second, .val (.long y1), .second, .val (.ref oa), .val (.int (Int32.ofNat o)), .val (.int (Int32.ofNat (o + n))), .val (.long g198), .second, .val (.long g203), .second, .val (.long g201), .second, .val (.long g200), .second, .val (.int (1 : Int32)), .val (.int (0 : Int32)), .val (.long r175), .second, .val (.int (2 : Int32)), .val (.int (1 : Int32))] [])
  refine E.lload (q := 216) X202 hx (hb hby d24_214) rfl ?_
  refine E.bipush (q := 218) (v := (32 : Int32)) X202 hx (hb hby d24_216) rfl ?_
  refine Ends.callS X202 hx hZ hown (hw _ (List.mem_of_getElem? (i := 140) rfl)) (hw _ (List.mem_of_getElem? (i := 141) rfl)) (hw _ (List.mem_of_getElem? (i := 142) rfl)) (hw _ (List.mem_of_getElem? (i := 143) rfl)) (by decide) (argsL := [(.long g201), (.int (32 : Int32))]) (rest := []) e202 (rm27 l Z a0 hw g201 (32 : Int32) _) (W := 0) (by decide) (by decide) (by rw [hml]; rfl) (lenOf pd_13 rfl) (Nat.le_of_eq rfl) (hb hby d24_218) (by decide) (by decide) rfl ?_
  rintro T204 v204 L204 X204 ⟨r204, rfl, e204, rfl⟩
  rw [List.append_nil] at X204
  show Ends none p e below s _ _ _ T204 (mkF m 221 #[.val (.long y0), .second, .val (.long y1), .second, .val (.ref oa), .val (.int (Int32.ofNat o)), .val (.int (Int32.ofNat (o + n))), .val (.long g198), .second, .val (.long g203), .second, .val (.long g201), .second, .val (.long g200), .second, .val (.int (1 : Int32)), .val (.int (0 : Int32)), .val (.long r175), .second, .val (.int (2 : Int32)), .val (.int (1 : Int32))] [(.long r204)])
  refine E.lstore (q := 223) (l' := #[.val (.long y0), .second, .val (.long y1), .second, .val (.ref oa), .val (.int (Int32.ofNat o)), .val (.int (Int32.ofNat (o + n))), .val (.long g198), .second, .val (.long g203), .second, .val (.long r204), .second, .val (.long g200), .second, .val (.int (1 : Int32)), .val (.int (0 : Int32)), .val (.long r175), .second, .val (.int (2 : Int32)), .val (.int (1 : Int32))]) X204 hx (hb hby d24_221) rfl ?_
  refine E.iinc (q := 226) (v := (2 : Int32)) (l' := #[.val (.long y0), .second, .val (.long y1), .second, .val (.ref oa), .val (.int (Int32.ofNat o)), .val (.int (Int32.ofNat (o + n))), .val (.long g198), .second, .val (.long g203), .second, .val (.long r204), .second, .val (.long g200), .second, .val (.int (1 : Int32)), .val (.int (0 : Int32)), .val (.long r175), .second, .val (.int (2 : Int32)), .val (.int (2 : Int32))]) X204 hx (hb hby d24_223) rfl (by decide) rfl ?_
  refine E.goto (q := 122) X204 hx (hb hby d24_226) ?_
  refine E.iload (q := 124) X204 hx (hb hby d24_122) rfl ?_
  refine E.iload (q := 126) X204 hx (hb hby d24_124) rfl ?_
  refine E.icmpY (q := 229) X204 hx (hb hby d24_126) (XT.ii_ge_t (by decide)) ?_
  refine E.lload (q := 231) X204 hx (hb hby d24_229) rfl ?_
  refine E.lload (q := 233) X204 hx (hb hby d24_231) rfl ?_
  refine E.lxor (q := 234) X204 hx (hb hby d24_233) ?_
  refine E.lstore (q := 236) (l' := #[.val (.long y0), .second, .val (.long y1), .second, .val (.ref oa), .val (.int (Int32.ofNat o)), .val (.int (Int32.ofNat (o + n))), .val (.long (g198 ^^^ r175)), .second, .val (.long g203), .second, .val (.long r204), .second, .val (.long g200), .second, .val (.int (1 : Int32)), .val (.int (0 : Int32)), .val (.long r175), .second, .val (.int (2 : Int32)), .val (.int (2 : Int32))]) X204 hx (hb hby d24_234) rfl ?_
  generalize (g198 ^^^ r175) = g205
  show Ends none p e below s _ _ _ T204 (mkF m 236 #[.val (.long y0), .second, .val (.long y1), .second, .val (.ref oa), .val (.int (Int32.ofNat o)), .val (.int (Int32.ofNat (o + n))), .val (.long g205), .second, .val (.long g203), .second, .val (.long r204), .second, .val (.long g200), .second, .val (.int (1 : Int32)), .val (.int (0 : Int32)), .val (.long r175), .second, .val (.int (2 : Int32)), .val (.int (2 : Int32))] [])
  refine E.iinc (q := 239) (v := (1 : Int32)) (l' := #[.val (.long y0), .second, .val (.long y1), .second, .val (.ref oa), .val (.int (Int32.ofNat o)), .val (.int (Int32.ofNat (o + n))), .val (.long g205), .second, .val (.long g203), .second, .val (.long r204), .second, .val (.long g200), .second, .val (.int (1 : Int32)), .val (.int (1 : Int32)), .val (.long r175), .second, .val (.int (2 : Int32)), .val (.int (2 : Int32))]) X204 hx (hb hby d24_236) rfl (by decide) rfl ?_
  refine E.goto (q := 43) X204 hx (hb hby d24_239) ?_
  refine E.iload (q := 45) X204 hx (hb hby d24_43) rfl ?_
  refine E.iload (q := 47) X204 hx (hb hby d24_45) rfl ?_
  refine E.icmpN (q := 50) X204 hx (hb hby d24_47) (XT.ii_gt_f (by decide)) ?_
  refine E.iload (q := 52) X204 hx (hb hby d24_50) rfl ?_
  refine E.iload (q := 54) X204 hx (hb hby d24_52) rfl ?_
  refine E.icmpY (q := 80) X204 hx (hb hby d24_54) (XT.ii_ge_t (by decide)) ?_
  refine E.lconst (q := 81) (v := (0 : Int64)) X204 hx (hb hby d24_80) rfl ?_
  refine E.lstore (q := 83) (l' := #[.val (.long y0), .second, .val (.long y1), .second, .val (.ref oa), .val (.int (Int32.ofNat o)), .val (.int (Int32.ofNat (o + n))), .val (.long g205), .second, .val (.long g203), .second, .val (.long r204), .second, .val (.long g200), .second, .val (.int (1 : Int32)), .val (.int (1 : Int32)), .val (.long (0 : Int64)), .second, .val (.int (2 : Int32)), .val (.int (2 : Int32))]) X204 hx (hb hby d24_81) rfl ?_
  refine E.iload (q := 85) X204 hx (hb hby d24_83) rfl ?_
  refine E.iload (q := 87) X204 hx (hb hby d24_85) rfl ?_
  refine E.icmpY (q := 94) X204 hx (hb hby d24_87) (XT.ii_ge_t (by decide)) ?_
  refine E.iconst (q := 95) (v := (4 : Int32)) X204 hx (hb hby d24_94) rfl ?_
  refine E.istore (q := 97) (l' := #[.val (.long y0), .second, .val (.long y1), .second, .val (.ref oa), .val (.int (Int32.ofNat o)), .val (.int (Int32.ofNat (o + n))), .val (.long g205), .second, .val (.long g203), .second, .val (.long r204), .second, .val (.long g200), .second, .val (.int (1 : Int32)), .val (.int (1 : Int32)), .val (.long (0 : Int64)), .second, .val (.int (4 : Int32)), .val (.int (2 : Int32))]) X204 hx (hb hby d24_95) rfl ?_
  refine E.iload (q := 99) X204 hx (hb hby d24_97) rfl ?_
  refine E.iload (q := 101) X204 hx (hb hby d24_99) rfl ?_
  refine E.icmpN (q := 104) X204 hx (hb hby d24_101) (XT.ii_ne_f (by decide)) ?_
  refine E.lload (q := 106) X204 hx (hb hby d24_104) rfl ?_
  refine E.ldc2 (q := 109) X204 hx hZ hown (hw _ (List.mem_of_getElem? (i := 139) rfl)) (hb hby d24_106) ?_
  refine E.lxor (q := 110) X204 hx (hb hby d24_109) ?_
  refine E.lstore (q := 112) (l' := #[.val (.long y0), .second, .val (.long y1), .second, .val (.ref oa), .val (.int (Int32.ofNat o)), .val (.int (Int32.ofNat (o + n))), .val (.long g205), .second, .val (.long g203), .second, .val (.long (r204 ^^^ (255 : Int64))), .second, .val (.long g200), .second, .val (.int (1 : Int32)), .val (.int (1 : Int32)), .val (.long (0 : Int64)), .second, .val (.int (4 : Int32)), .val (.int (2 : Int32))]) X204 hx (hb hby d24_110) rfl ?_
  generalize (r204 ^^^ (255 : Int64)) = g206
  show Ends none p e below s _ _ _ T204 (mkF m 112 #[.val (.long y0), .second, .val (.long y1), .second, .val (.ref oa), .val (.int (Int32.ofNat o)), .val (.int (Int32.ofNat (o + n))), .val (.long g205), .second, .val (.long g203), .second, .val (.long g206), .second, .val (.long g200), .second, .val (.int (1 : Int32)), .val (.int (1 : Int32)), .val (.long (0 : Int64)), .second, .val (.int (4 : Int32)), .val (.int (2 : Int32))] [])
  refine E.lload (q := 114) X204 hx (hb hby d24_112) rfl ?_
  refine E.lload (q := 116) X204 hx (hb hby d24_114) rfl ?_
  refine E.lxor (q := 117) X204 hx (hb hby d24_116) ?_
  refine E.lstore (q := 119) (l' := #[.val (.long y0), .second, .val (.long y1), .second, .val (.ref oa), .val (.int (Int32.ofNat o)), .val (.int (Int32.ofNat (o + n))), .val (.long g205), .second, .val (.long g203), .second, .val (.long g206), .second, .val (.long (g200 ^^^ (0 : Int64))), .second, .val (.int (1 : Int32)), .val (.int (1 : Int32)), .val (.long (0 : Int64)), .second, .val (.int (4 : Int32)), .val (.int (2 : Int32))]) X204 hx (hb hby d24_117) rfl ?_
  generalize (g200 ^^^ (0 : Int64)) = g207
  show Ends none p e below s _ _ _ T204 (mkF m 119 #[.val (.long y0), .second, .val (.long y1), .second, .val (.ref oa), .val (.int (Int32.ofNat o)), .val (.int (Int32.ofNat (o + n))), .val (.long g205), .second, .val (.long g203), .second, .val (.long g206), .second, .val (.long g207), .second, .val (.int (1 : Int32)), .val (.int (1 : Int32)), .val (.long (0 : Int64)), .second, .val (.int (4 : Int32)), .val (.int (2 : Int32))] [])
  refine E.iconst (q := 120) (v := (0 : Int32)) X204 hx (hb hby d24_119) rfl ?_
  refine E.istore (q := 122) (l' := #[.val (.long y0), .second, .val (.long y1), .second, .val (.ref oa), .val (.int (Int32.ofNat o)), .val (.int (Int32.ofNat (o + n))), .val (.long g205), .second, .val (.long g203), .second, .val (.long g206), .second, .val (.long g207), .second, .val (.int (1 : Int32)), .val (.int (1 : Int32)), .val (.long (0 : Int64)), .second, .val (.int (4 : Int32)), .val (.int (0 : Int32))]) X204 hx (hb hby d24_120) rfl ?_
  refine E.iload (q := 124) X204 hx (hb hby d24_122) rfl ?_
  refine E.iload (q := 126) X204 hx (hb hby d24_124) rfl ?_
  refine E.icmpN (q := 129) X204 hx (hb hby d24_126) (XT.ii_ge_f (by decide)) ?_
  refine E.lload (q := 131) X204 hx (hb hby d24_129) rfl ?_
  refine E.lload (q := 133) X204 hx (hb hby d24_131) rfl ?_
  refine E.ladd (q := 134) X204 hx (hb hby d24_133) ?_
  refine E.lstore (q := 136) (l' := #[.val (.long y0), .second, .val (.long y1), .second, .val (.ref oa), .val (.int (Int32.ofNat o)), .val (.int (Int32.ofNat (o + n))), .val (.long (g205 + g203)), .second, .val (.long g203), .second, .val (.long g206), .second, .val (.long g207), .second, .val (.int (1 : Int32)), .val (.int (1 : Int32)), .val (.long (0 : Int64)), .second, .val (.int (4 : Int32)), .val (.int (0 : Int32))]) X204 hx (hb hby d24_134) rfl ?_
  generalize (g205 + g203) = g208
  show Ends none p e below s _ _ _ T204 (mkF m 136 #[.val (.long y0), .second, .val (.long y1), .second, .val (.ref oa), .val (.int (Int32.ofNat o)), .val (.int (Int32.ofNat (o + n))), .val (.long g208), .second, .val (.long g203), .second, .val (.long g206), .second, .val (.long g207), .second, .val (.int (1 : Int32)), .val (.int (1 : Int32)), .val (.long (0 : Int64)), .second, .val (.int (4 : Int32)), .val (.int (0 : Int32))] [])
  refine E.lload (q := 138) X204 hx (hb hby d24_136) rfl ?_
  refine E.bipush (q := 140) (v := (13 : Int32)) X204 hx (hb hby d24_138) rfl ?_
  refine Ends.callS X204 hx hZ hown (hw _ (List.mem_of_getElem? (i := 140) rfl)) (hw _ (List.mem_of_getElem? (i := 141) rfl)) (hw _ (List.mem_of_getElem? (i := 142) rfl)) (hw _ (List.mem_of_getElem? (i := 143) rfl)) (by decide) (argsL := [(.long g203), (.int (13 : Int32))]) (rest := []) e204 (rm27 l Z a0 hw g203 (13 : Int32) _) (W := 0) (by decide) (by decide) (by rw [hml]; rfl) (lenOf pd_13 rfl) (Nat.le_of_eq rfl) (hb hby d24_140) (by decide) (by decide) rfl ?_
  rintro T209 v209 L209 X209 ⟨r209, rfl, e209, rfl⟩
  rw [List.append_nil] at X209
  show Ends none p e below s _ _ _ T209 (mkF m 143 #[.val (.long y0), .second, .val (.long y1), .second, .val (.ref oa), .val (.int (Int32.ofNat o)), .val (.int (Int32.ofNat (o + n))), .val (.long g208), .second, .val (.long g203), .second, .val (.long g206), .second, .val (.long g207), .second, .val (.int (1 : Int32)), .val (.int (1 : Int32)), .val (.long (0 : Int64)), .second, .val (.int (4 : Int32)), .val (.int (0 : Int32))] [(.long r209)])
  refine E.lload (q := 145) X209 hx (hb hby d24_143) rfl ?_
  refine E.lxor (q := 146) X209 hx (hb hby d24_145) ?_
  refine E.lstore (q := 148) (l' := #[.val (.long y0), .second, .val (.long y1), .second, .val (.ref oa), .val (.int (Int32.ofNat o)), .val (.int (Int32.ofNat (o + n))), .val (.long g208), .second, .val (.long (r209 ^^^ g208)), .second, .val (.long g206), .second, .val (.long g207), .second, .val (.int (1 : Int32)), .val (.int (1 : Int32)), .val (.long (0 : Int64)), .second, .val (.int (4 : Int32)), .val (.int (0 : Int32))]) X209 hx (hb hby d24_146) rfl ?_
  generalize (r209 ^^^ g208) = g210
  show Ends none p e below s _ _ _ T209 (mkF m 148 #[.val (.long y0), .second, .val (.long y1), .second, .val (.ref oa), .val (.int (Int32.ofNat o)), .val (.int (Int32.ofNat (o + n))), .val (.long g208), .second, .val (.long g210), .second, .val (.long g206), .second, .val (.long g207), .second, .val (.int (1 : Int32)), .val (.int (1 : Int32)), .val (.long (0 : Int64)), .second, .val (.int (4 : Int32)), .val (.int (0 : Int32))] [])
  refine E.lload (q := 150) X209 hx (hb hby d24_148) rfl ?_
  refine E.bipush (q := 152) (v := (32 : Int32)) X209 hx (hb hby d24_150) rfl ?_
  refine Ends.callS X209 hx hZ hown (hw _ (List.mem_of_getElem? (i := 140) rfl)) (hw _ (List.mem_of_getElem? (i := 141) rfl)) (hw _ (List.mem_of_getElem? (i := 142) rfl)) (hw _ (List.mem_of_getElem? (i := 143) rfl)) (by decide) (argsL := [(.long g208), (.int (32 : Int32))]) (rest := []) e209 (rm27 l Z a0 hw g208 (32 : Int32) _) (W := 0) (by decide) (by decide) (by rw [hml]; rfl) (lenOf pd_13 rfl) (Nat.le_of_eq rfl) (hb hby d24_152) (by decide) (by decide) rfl ?_
  rintro T211 v211 L211 X211 ⟨r211, rfl, e211, rfl⟩
  rw [List.append_nil] at X211
  show Ends none p e below s _ _ _ T211 (mkF m 155 #[.val (.long y0), .second, .val (.long y1), .second, .val (.ref oa), .val (.int (Int32.ofNat o)), .val (.int (Int32.ofNat (o + n))), .val (.long g208), .second, .val (.long g210), .second, .val (.long g206), .second, .val (.long g207), .second, .val (.int (1 : Int32)), .val (.int (1 : Int32)), .val (.long (0 : Int64)), .second, .val (.int (4 : Int32)), .val (.int (0 : Int32))] [(.long r211)])
  refine E.lstore (q := 157) (l' := #[.val (.long y0), .second, .val (.long y1), .second, .val (.ref oa), .val (.int (Int32.ofNat o)), .val (.int (Int32.ofNat (o + n))), .val (.long r211), .second, .val (.long g210), .second, .val (.long g206), .second, .val (.long g207), .second, .val (.int (1 : Int32)), .val (.int (1 : Int32)), .val (.long (0 : Int64)), .second, .val (.int (4 : Int32)), .val (.int (0 : Int32))]) X211 hx (hb hby d24_155) rfl ?_
  refine E.lload (q := 159) X211 hx (hb hby d24_157) rfl ?_
  refine E.lload (q := 161) X211 hx (hb hby d24_159) rfl ?_
  refine E.ladd (q := 162) X211 hx (hb hby d24_161) ?_
  refine E.lstore (q := 164) (l' := #[.val (.long y0), .second, .val (.long y1), .second, .val (.ref oa), .val (.int (Int32.ofNat o)), .val (.int (Int32.ofNat (o + n))), .val (.long r211), .second, .val (.long g210), .second, .val (.long (g206 + g207)), .second, .val (.long g207), .second, .val (.int (1 : Int32)), .val (.int (1 : Int32)), .val (.long (0 : Int64)), .second, .val (.int (4 : Int32)), .val (.int (0 : Int32))]) X211 hx (hb hby d24_162) rfl ?_
  generalize (g206 + g207) = g212
  show Ends none p e below s _ _ _ T211 (mkF m 164 #[.val (.long y0), .second, .val (.long y1), .second, .val (.ref oa), .val (.int (Int32.ofNat o)), .val (.int (Int32.ofNat (o + n))), .val (.long r211), .second, .val (.long g210), .second, .val (.long g212), .second, .val (.long g207), .second, .val (.int (1 : Int32)), .val (.int (1 : Int32)), .val (.long (0 : Int64)), .second, .val (.int (4 : Int32)), .val (.int (0 : Int32))] [])
  refine E.lload (q := 166) X211 hx (hb hby d24_164) rfl ?_
  refine E.bipush (q := 168) (v := (16 : Int32)) X211 hx (hb hby d24_166) rfl ?_
  refine Ends.callS X211 hx hZ hown (hw _ (List.mem_of_getElem? (i := 140) rfl)) (hw _ (List.mem_of_getElem? (i := 141) rfl)) (hw _ (List.mem_of_getElem? (i := 142) rfl)) (hw _ (List.mem_of_getElem? (i := 143) rfl)) (by decide) (argsL := [(.long g207), (.int (16 : Int32))]) (rest := []) e211 (rm27 l Z a0 hw g207 (16 : Int32) _) (W := 0) (by decide) (by decide) (by rw [hml]; rfl) (lenOf pd_13 rfl) (Nat.le_of_eq rfl) (hb hby d24_168) (by decide) (by decide) rfl ?_
  rintro T213 v213 L213 X213 ⟨r213, rfl, e213, rfl⟩
  rw [List.append_nil] at X213
  show Ends none p e below s _ _ _ T213 (mkF m 171 #[.val (.long y0), .second, .val (.long y1), .second, .val (.ref oa), .val (.int (Int32.ofNat o)), .val (.int (Int32.ofNat (o + n))), .val (.long r211), .second, .val (.long g210), .second, .val (.long g212), .second, .val (.long g207), .second, .val (.int (1 : Int32)), .val (.int (1 : Int32)), .val (.long (0 : Int64)), .second, .val (.int (4 : Int32)), .val (.int (0 : Int32))] [(.long r213)])
  refine E.lload (q := 173) X213 hx (hb hby d24_171) rfl ?_
  refine E.lxor (q := 174) X213 hx (hb hby d24_173) ?_
  refine E.lstore (q := 176) (l' := #[.val (.long y0), .second, .val (.long y1), .second, .val (.ref oa), .val (.int (Int32.ofNat o)), .val (.int (Int32.ofNat (o + n))), .val (.long r211), .second, .val (.long g210), .second, .val (.long g212), .second, .val (.long (r213 ^^^ g212)), .second, .val (.int (1 : Int32)), .val (.int (1 : Int32)), .val (.long (0 : Int64)), .second, .val (.int (4 : Int32)), .val (.int (0 : Int32))]) X213 hx (hb hby d24_174) rfl ?_
  generalize (r213 ^^^ g212) = g214
  show Ends none p e below s _ _ _ T213 (mkF m 176 #[.val (.long y0), .second, .val (.long y1), .second, .val (.ref oa), .val (.int (Int32.ofNat o)), .val (.int (Int32.ofNat (o + n))), .val (.long r211), .second, .val (.long g210), .second, .val (.long g212), .second, .val (.long g214), .second, .val (.int (1 : Int32)), .val (.int (1 : Int32)), .val (.long (0 : Int64)), .second, .val (.int (4 : Int32)), .val (.int (0 : Int32))] [])
  refine E.lload (q := 178) X213 hx (hb hby d24_176) rfl ?_
  refine E.lload (q := 180) X213 hx (hb hby d24_178) rfl ?_
  refine E.ladd (q := 181) X213 hx (hb hby d24_180) ?_
  refine E.lstore (q := 183) (l' := #[.val (.long y0), .second, .val (.long y1), .second, .val (.ref oa), .val (.int (Int32.ofNat o)), .val (.int (Int32.ofNat (o + n))), .val (.long (r211 + g214)), .second, .val (.long g210), .second, .val (.long g212), .second, .val (.long g214), .second, .val (.int (1 : Int32)), .val (.int (1 : Int32)), .val (.long (0 : Int64)), .second, .val (.int (4 : Int32)), .val (.int (0 : Int32))]) X213 hx (hb hby d24_181) rfl ?_
  generalize (r211 + g214) = g215
  show Ends none p e below s _ _ _ T213 (mkF m 183 #[.val (.long y0), .second, .val (.long y1), .second, .val (.ref oa), .val (.int (Int32.ofNat o)), .val (.int (Int32.ofNat (o + n))), .val (.long g215), .second, .val (.long g210), .second, .val (.long g212), .second, .val (.long g214), .second, .val (.int (1 : Int32)), .val (.int (1 : Int32)), .val (.long (0 : Int64)), .second, .val (.int (4 : Int32)), .val (.int (0 : Int32))] [])
  refine E.lload (q := 185) X213 hx (hb hby d24_183) rfl ?_
  refine E.bipush (q := 187) (v := (21 : Int32)) X213 hx (hb hby d24_185) rfl ?_
  refine Ends.callS X213 hx hZ hown (hw _ (List.mem_of_getElem? (i := 140) rfl)) (hw _ (List.mem_of_getElem? (i := 141) rfl)) (hw _ (List.mem_of_getElem? (i := 142) rfl)) (hw _ (List.mem_of_getElem? (i := 143) rfl)) (by decide) (argsL := [(.long g214), (.int (21 : Int32))]) (rest := []) e213 (rm27 l Z a0 hw g214 (21 : Int32) _) (W := 0) (by decide) (by decide) (by rw [hml]; rfl) (lenOf pd_13 rfl) (Nat.le_of_eq rfl) (hb hby d24_187) (by decide) (by decide) rfl ?_
  rintro T216 v216 L216 X216 ⟨r216, rfl, e216, rfl⟩
  rw [List.append_nil] at X216
  show Ends none p e below s _ _ _ T216 (mkF m 190 #[.val (.long y0), .second, .val (.long y1), .second, .val (.ref oa), .val (.int (Int32.ofNat o)), .val (.int (Int32.ofNat (o + n))), .val (.long g215), .second, .val (.long g210), .second, .val (.long g212), .second, .val (.long g214), .second, .val (.int (1 : Int32)), .val (.int (1 : Int32)), .val (.long (0 : Int64)), .second, .val (.int (4 : Int32)), .val (.int (0 : Int32))] [(.long r216)])
  refine E.lload (q := 192) X216 hx (hb hby d24_190) rfl ?_
  refine E.lxor (q := 193) X216 hx (hb hby d24_192) ?_
  refine E.lstore (q := 195) (l' := #[.val (.long y0), .second, .val (.long y1), .second, .val (.ref oa), .val (.int (Int32.ofNat o)), .val (.int (Int32.ofNat (o + n))), .val (.long g215), .second, .val (.long g210), .second, .val (.long g212), .second, .val (.long (r216 ^^^ g215)), .second, .val (.int (1 : Int32)), .val (.int (1 : Int32)), .val (.long (0 : Int64)), .second, .val (.int (4 : Int32)), .val (.int (0 : Int32))]) X216 hx (hb hby d24_193) rfl ?_
  generalize (r216 ^^^ g215) = g217
  show Ends none p e below s _ _ _ T216 (mkF m 195 #[.val (.long y0), .second, .val (.long y1), .second, .val (.ref oa), .val (.int (Int32.ofNat o)), .val (.int (Int32.ofNat (o + n))), .val (.long g215), .second, .val (.long g210), .second, .val (.long g212), .second, .val (.long g217), .second, .val (.int (1 : Int32)), .val (.int (1 : Int32)), .val (.long (0 : Int64)), .second, .val (.int (4 : Int32)), .val (.int (0 : Int32))] [])
  refine E.lload (q := 197) X216 hx (hb hby d24_195) rfl ?_
  refine E.lload (q := 199) X216 hx (hb hby d24_197) rfl ?_
  refine E.ladd (q := 200) X216 hx (hb hby d24_199) ?_
  refine E.lstore (q := 202) (l' := #[.val (.long y0), .second, .val (.long y1), .second, .val (.ref oa), .val (.int (Int32.ofNat o)), .val (.int (Int32.ofNat (o + n))), .val (.long g215), .second, .val (.long g210), .second, .val (.long (g212 + g210)), .second, .val (.long g217), .second, .val (.int (1 : Int32)), .val (.int (1 : Int32)), .val (.long (0 : Int64)), .second, .val (.int (4 : Int32)), .val (.int (0 : Int32))]) X216 hx (hb hby d24_200) rfl ?_
  generalize (g212 + g210) = g218
  show Ends none p e below s _ _ _ T216 (mkF m 202 #[.val (.long y0), .second, .val (.long y1), .second, .val (.ref oa), .val (.int (Int32.ofNat o)), .val (.int (Int32.ofNat (o + n))), .val (.long g215), .second, .val (.long g210), .second, .val (.long g218), .second, .val (.long g217), .second, .val (.int (1 : Int32)), .val (.int (1 : Int32)), .val (.long (0 : Int64)), .second, .val (.int (4 : Int32)), .val (.int (0 : Int32))] [])
  refine E.lload (q := 204) X216 hx (hb hby d24_202) rfl ?_
  refine E.bipush (q := 206) (v := (17 : Int32)) X216 hx (hb hby d24_204) rfl ?_
  refine Ends.callS X216 hx hZ hown (hw _ (List.mem_of_getElem? (i := 140) rfl)) (hw _ (List.mem_of_getElem? (i := 141) rfl)) (hw _ (List.mem_of_getElem? (i := 142) rfl)) (hw _ (List.mem_of_getElem? (i := 143) rfl)) (by decide) (argsL := [(.long g210), (.int (17 : Int32))]) (rest := []) e216 (rm27 l Z a0 hw g210 (17 : Int32) _) (W := 0) (by decide) (by decide) (by rw [hml]; rfl) (lenOf pd_13 rfl) (Nat.le_of_eq rfl) (hb hby d24_206) (by decide) (by decide) rfl ?_
  rintro T219 v219 L219 X219 ⟨r219, rfl, e219, rfl⟩
  rw [List.append_nil] at X219
  show Ends none p e below s _ _ _ T219 (mkF m 209 #[.val (.long y0), .second, .val (.long y1), .second, .val (.ref oa), .val (.int (Int32.ofNat o)), .val (.int (Int32.ofNat (o + n))), .val (.long g215), .second, .val (.long g210), .second, .val (.long g218), .second, .val (.long g217), .second, .val (.int (1 : Int32)), .val (.int (1 : Int32)), .val (.long (0 : Int64)), .second, .val (.int (4 : Int32)), .val (.int (0 : Int32))] [(.long r219)])
  refine E.lload (q := 211) X219 hx (hb hby d24_209) rfl ?_
  refine E.lxor (q := 212) X219 hx (hb hby d24_211) ?_
  refine E.lstore (q := 214) (l' := #[.val (.long y0), .second, .val (.long y1), .second, .val (.ref oa), .val (.int (Int32.ofNat o)), .val (.int (Int32.ofNat (o + n))), .val (.long g215), .second, .val (.long (r219 ^^^ g218)), .second, .val (.long g218), .second, .val (.long g217), .second, .val (.int (1 : Int32)), .val (.int (1 : Int32)), .val (.long (0 : Int64)), .second, .val (.int (4 : Int32)), .val (.int (0 : Int32))]) X219 hx (hb hby d24_212) rfl ?_
  generalize (r219 ^^^ g218) = g220
  show Ends none p e below s _ _ _ T219 (mkF m 214 #[.val (.long y0), .second, .val (.long y1), .second, .val (.ref oa), .val (.int (Int32.ofNat o)), .val (.int (Int32.ofNat (o + n))), .val (.long g215), .second, .val (.long g220), .second, .val (.long g218), .second, .val (.long g217), .second, .val (.int (1 : Int32)), .val (.int (1 : Int32)), .val (.long (0 : Int64)), .second, .val (.int (4 : Int32)), .val (.int (0 : Int32))] [])
  refine E.lload (q := 216) X219 hx (hb hby d24_214) rfl ?_
  refine E.bipush (q := 218) (v := (32 : Int32)) X219 hx (hb hby d24_216) rfl ?_
  refine Ends.callS X219 hx hZ hown (hw _ (List.mem_of_getElem? (i := 140) rfl)) (hw _ (List.mem_of_getElem? (i := 141) rfl)) (hw _ (List.mem_of_getElem? (i := 142) rfl)) (hw _ (List.mem_of_getElem? (i := 143) rfl)) (by decide) (argsL := [(.long g218), (.int (32 : Int32))]) (rest := []) e219 (rm27 l Z a0 hw g218 (32 : Int32) _) (W := 0) (by decide) (by decide) (by rw [hml]; rfl) (lenOf pd_13 rfl) (Nat.le_of_eq rfl) (hb hby d24_218) (by decide) (by decide) rfl ?_
  rintro T221 v221 L221 X221 ⟨r221, rfl, e221, rfl⟩
  rw [List.append_nil] at X221
  show Ends none p e below s _ _ _ T221 (mkF m 221 #[.val (.long y0), .second, .val (.long y1), .second, .val (.ref oa), .val (.int (Int32.ofNat o)), .val (.int (Int32.ofNat (o + n))), .val (.long g215), .second, .val (.long g220), .second, .val (.long g218), .second, .val (.long g217), .second, .val (.int (1 : Int32)), .val (.int (1 : Int32)), .val (.long (0 : Int64)), .second, .val (.int (4 : Int32)), .val (.int (0 : Int32))] [(.long r221)])
  refine E.lstore (q := 223) (l' := #[.val (.long y0), .second, .val (.long y1), .second, .val (.ref oa), .val (.int (Int32.ofNat o)), .val (.int (Int32.ofNat (o + n))), .val (.long g215), .second, .val (.long g220), .second, .val (.long r221), .second, .val (.long g217), .second, .val (.int (1 : Int32)), .val (.int (1 : Int32)), .val (.long (0 : Int64)), .second, .val (.int (4 : Int32)), .val (.int (0 : Int32))]) X221 hx (hb hby d24_221) rfl ?_
  refine E.iinc (q := 226) (v := (1 : Int32)) (l' := #[.val (.long y0), .second, .val (.long y1), .second, .val (.ref oa), .val (.int (Int32.ofNat o)), .val (.int (Int32.ofNat (o + n))), .val (.long g215), .second, .val (.long g220), .second, .val (.long r221), .second, .val (.long g217), .second, .val (.int (1 : Int32)), .val (.int (1 : Int32)), .val (.long (0 : Int64)), .second, .val (.int (4 : Int32)), .val (.int (1 : Int32))]) X221 hx (hb hby d24_223) rfl (by decide) rfl ?_
  refine E.goto (q := 122) X221 hx (hb hby d24_226) ?_
  refine E.iload (q := 124) X221 hx (hb hby d24_122) rfl ?_
  refine E.iload (q := 126) X221 hx (hb hby d24_124) rfl ?_
  refine E.icmpN (q := 129) X221 hx (hb hby d24_126) (XT.ii_ge_f (by decide)) ?_
  refine E.lload (q := 131) X221 hx (hb hby d24_129) rfl ?_
  refine E.lload (q := 133) X221 hx (hb hby d24_131) rfl ?_
  refine E.ladd (q := 134) X221 hx (hb hby d24_133) ?_
  refine E.lstore (q := 136) (l' := #[.val (.long y0), .second, .val (.long y1), .second, .val (.ref oa), .val (.int (Int32.ofNat o)), .val (.int (Int32.ofNat (o + n))), .val (.long (g215 + g220)), .second, .val (.long g220), .second, .val (.long r221), .second, .val (.long g217), .second, .val (.int (1 : Int32)), .val (.int (1 : Int32)), .val (.long (0 : Int64)), .second, .val (.int (4 : Int32)), .val (.int (1 : Int32))]) X221 hx (hb hby d24_134) rfl ?_
  generalize (g215 + g220) = g222
  show Ends none p e below s _ _ _ T221 (mkF m 136 #[.val (.long y0), .second, .val (.long y1), .second, .val (.ref oa), .val (.int (Int32.ofNat o)), .val (.int (Int32.ofNat (o + n))), .val (.long g222), .second, .val (.long g220), .second, .val (.long r221), .second, .val (.long g217), .second, .val (.int (1 : Int32)), .val (.int (1 : Int32)), .val (.long (0 : Int64)), .second, .val (.int (4 : Int32)), .val (.int (1 : Int32))] [])
  refine E.lload (q := 138) X221 hx (hb hby d24_136) rfl ?_
  refine E.bipush (q := 140) (v := (13 : Int32)) X221 hx (hb hby d24_138) rfl ?_
  refine Ends.callS X221 hx hZ hown (hw _ (List.mem_of_getElem? (i := 140) rfl)) (hw _ (List.mem_of_getElem? (i := 141) rfl)) (hw _ (List.mem_of_getElem? (i := 142) rfl)) (hw _ (List.mem_of_getElem? (i := 143) rfl)) (by decide) (argsL := [(.long g220), (.int (13 : Int32))]) (rest := []) e221 (rm27 l Z a0 hw g220 (13 : Int32) _) (W := 0) (by decide) (by decide) (by rw [hml]; rfl) (lenOf pd_13 rfl) (Nat.le_of_eq rfl) (hb hby d24_140) (by decide) (by decide) rfl ?_
  rintro T223 v223 L223 X223 ⟨r223, rfl, e223, rfl⟩
  rw [List.append_nil] at X223
  show Ends none p e below s _ _ _ T223 (mkF m 143 #[.val (.long y0), .second, .val (.long y1), .second, .val (.ref oa), .val (.int (Int32.ofNat o)), .val (.int (Int32.ofNat (o + n))), .val (.long g222), .second, .val (.long g220), .second, .val (.long r221), .second, .val (.long g217), .second, .val (.int (1 : Int32)), .val (.int (1 : Int32)), .val (.long (0 : Int64)), .second, .val (.int (4 : Int32)), .val (.int (1 : Int32))] [(.long r223)])
  refine E.lload (q := 145) X223 hx (hb hby d24_143) rfl ?_
  refine E.lxor (q := 146) X223 hx (hb hby d24_145) ?_
  refine E.lstore (q := 148) (l' := #[.val (.long y0), .second, .val (.long y1), .second, .val (.ref oa), .val (.int (Int32.ofNat o)), .val (.int (Int32.ofNat (o + n))), .val (.long g222), .second, .val (.long (r223 ^^^ g222)), .second, .val (.long r221), .second, .val (.long g217), .second, .val (.int (1 : Int32)), .val (.int (1 : Int32)), .val (.long (0 : Int64)), .second, .val (.int (4 : Int32)), .val (.int (1 : Int32))]) X223 hx (hb hby d24_146) rfl ?_
  generalize (r223 ^^^ g222) = g224
  show Ends none p e below s _ _ _ T223 (mkF m 148 #[.val (.long y0), .second, .val (.long y1), .second, .val (.ref oa), .val (.int (Int32.ofNat o)), .val (.int (Int32.ofNat (o + n))), .val (.long g222), .second, .val (.long g224), .second, .val (.long r221), .second, .val (.long g217), .second, .val (.int (1 : Int32)), .val (.int (1 : Int32)), .val (.long (0 : Int64)), .second, .val (.int (4 : Int32)), .val (.int (1 : Int32))] [])
  refine E.lload (q := 150) X223 hx (hb hby d24_148) rfl ?_
  refine E.bipush (q := 152) (v := (32 : Int32)) X223 hx (hb hby d24_150) rfl ?_
  refine Ends.callS X223 hx hZ hown (hw _ (List.mem_of_getElem? (i := 140) rfl)) (hw _ (List.mem_of_getElem? (i := 141) rfl)) (hw _ (List.mem_of_getElem? (i := 142) rfl)) (hw _ (List.mem_of_getElem? (i := 143) rfl)) (by decide) (argsL := [(.long g222), (.int (32 : Int32))]) (rest := []) e223 (rm27 l Z a0 hw g222 (32 : Int32) _) (W := 0) (by decide) (by decide) (by rw [hml]; rfl) (lenOf pd_13 rfl) (Nat.le_of_eq rfl) (hb hby d24_152) (by decide) (by decide) rfl ?_
  rintro T225 v225 L225 X225 ⟨r225, rfl, e225, rfl⟩
  rw [List.append_nil] at X225
  show Ends none p e below s _ _ _ T225 (mkF m 155 #[.val (.long y0), .second, .val (.long y1), .second, .val (.ref oa), .val (.int (Int32.ofNat o)), .val (.int (Int32.ofNat (o + n))), .val (.long g222), .second, .val (.long g224), .second, .val (.long r221), .second, .val (.long g217), .second, .val (.int (1 : Int32)), .val (.int (1 : Int32)), .val (.long (0 : Int64)), .second, .val (.int (4 : Int32)), .val (.int (1 : Int32))] [(.long r225)])
  refine E.lstore (q := 157) (l' := #[.val (.long y0), .second, .val (.long y1), .second, .val (.ref oa), .val (.int (Int32.ofNat o)), .val (.int (Int32.ofNat (o + n))), .val (.long r225), .second, .val (.long g224), .second, .val (.long r221), .second, .val (.long g217), .second, .val (.int (1 : Int32)), .val (.int (1 : Int32)), .val (.long (0 : Int64)), .second, .val (.int (4 : Int32)), .val (.int (1 : Int32))]) X225 hx (hb hby d24_155) rfl ?_
  refine E.lload (q := 159) X225 hx (hb hby d24_157) rfl ?_
  refine E.lload (q := 161) X225 hx (hb hby d24_159) rfl ?_
  refine E.ladd (q := 162) X225 hx (hb hby d24_161) ?_
  refine E.lstore (q := 164) (l' := #[.val (.long y0), .second, .val (.long y1), .second, .val (.ref oa), .val (.int (Int32.ofNat o)), .val (.int (Int32.ofNat (o + n))), .val (.long r225), .second, .val (.long g224), .second, .val (.long (r221 + g217)), .second, .val (.long g217), .second, .val (.int (1 : Int32)), .val (.int (1 : Int32)), .val (.long (0 : Int64)), .second, .val (.int (4 : Int32)), .val (.int (1 : Int32))]) X225 hx (hb hby d24_162) rfl ?_
  generalize (r221 + g217) = g226
  show Ends none p e below s _ _ _ T225 (mkF m 164 #[.val (.long y0), .second, .val (.long y1), .second, .val (.ref oa), .val (.int (Int32.ofNat o)), .val (.int (Int32.ofNat (o + n))), .val (.long r225), .second, .val (.long g224), .second, .val (.long g226), .second, .val (.long g217), .second, .val (.int (1 : Int32)), .val (.int (1 : Int32)), .val (.long (0 : Int64)), .second, .val (.int (4 : Int32)), .val (.int (1 : Int32))] [])
  refine E.lload (q := 166) X225 hx (hb hby d24_164) rfl ?_
  refine E.bipush (q := 168) (v := (16 : Int32)) X225 hx (hb hby d24_166) rfl ?_
  refine Ends.callS X225 hx hZ hown (hw _ (List.mem_of_getElem? (i := 140) rfl)) (hw _ (List.mem_of_getElem? (i := 141) rfl)) (hw _ (List.mem_of_getElem? (i := 142) rfl)) (hw _ (List.mem_of_getElem? (i := 143) rfl)) (by decide) (argsL := [(.long g217), (.int (16 : Int32))]) (rest := []) e225 (rm27 l Z a0 hw g217 (16 : Int32) _) (W := 0) (by decide) (by decide) (by rw [hml]; rfl) (lenOf pd_13 rfl) (Nat.le_of_eq rfl) (hb hby d24_168) (by decide) (by decide) rfl ?_
  rintro T227 v227 L227 X227 ⟨r227, rfl, e227, rfl⟩
  rw [List.append_nil] at X227
  show Ends none p e below s _ _ _ T227 (mkF m 171 #[.val (.long y0), .second, .val (.long y1), .second, .val (.ref oa), .val (.int (Int32.ofNat o)), .val (.int (Int32.ofNat (o + n))), .val (.long r225), .second, .val (.long g224), .second, .val (.long g226), .second, .val (.long g217), .second, .val (.int (1 : Int32)), .val (.int (1 : Int32)), .val (.long (0 : Int64)), .second, .val (.int (4 : Int32)), .val (.int (1 : Int32))] [(.long r227)])
  refine E.lload (q := 173) X227 hx (hb hby d24_171) rfl ?_
  refine E.lxor (q := 174) X227 hx (hb hby d24_173) ?_
  refine E.lstore (q := 176) (l' := #[.val (.long y0), .second, .val (.long y1), .second, .val (.ref oa), .val (.int (Int32.ofNat o)), .val (.int (Int32.ofNat (o + n))), .val (.long r225), .second, .val (.long g224), .second, .val (.long g226), .second, .val (.long (r227 ^^^ g226)), .second, .val (.int (1 : Int32)), .val (.int (1 : Int32)), .val (.long (0 : Int64)), .second, .val (.int (4 : Int32)), .val (.int (1 : Int32))]) X227 hx (hb hby d24_174) rfl ?_
  generalize (r227 ^^^ g226) = g228
  show Ends none p e below s _ _ _ T227 (mkF m 176 #[.val (.long y0), .second, .val (.long y1), .second, .val (.ref oa), .val (.int (Int32.ofNat o)), .val (.int (Int32.ofNat (o + n))), .val (.long r225), .second, .val (.long g224), .second, .val (.long g226), .second, .val (.long g228), .second, .val (.int (1 : Int32)), .val (.int (1 : Int32)), .val (.long (0 : Int64)), .second, .val (.int (4 : Int32)), .val (.int (1 : Int32))] [])
  refine E.lload (q := 178) X227 hx (hb hby d24_176) rfl ?_
  refine E.lload (q := 180) X227 hx (hb hby d24_178) rfl ?_
  refine E.ladd (q := 181) X227 hx (hb hby d24_180) ?_
  refine E.lstore (q := 183) (l' := #[.val (.long y0), .second, .val (.long y1), .second, .val (.ref oa), .val (.int (Int32.ofNat o)), .val (.int (Int32.ofNat (o + n))), .val (.long (r225 + g228)), .second, .val (.long g224), .second, .val (.long g226), .second, .val (.long g228), .second, .val (.int (1 : Int32)), .val (.int (1 : Int32)), .val (.long (0 : Int64)), .second, .val (.int (4 : Int32)), .val (.int (1 : Int32))]) X227 hx (hb hby d24_181) rfl ?_
  generalize (r225 + g228) = g229
  show Ends none p e below s _ _ _ T227 (mkF m 183 #[.val (.long y0), .second, .val (.long y1), .second, .val (.ref oa), .val (.int (Int32.ofNat o)), .val (.int (Int32.ofNat (o + n))), .val (.long g229), .second, .val (.long g224), .second, .val (.long g226), .second, .val (.long g228), .second, .val (.int (1 : Int32)), .val (.int (1 : Int32)), .val (.long (0 : Int64)), .second, .val (.int (4 : Int32)), .val (.int (1 : Int32))] [])
  refine E.lload (q := 185) X227 hx (hb hby d24_183) rfl ?_
  refine E.bipush (q := 187) (v := (21 : Int32)) X227 hx (hb hby d24_185) rfl ?_
  refine Ends.callS X227 hx hZ hown (hw _ (List.mem_of_getElem? (i := 140) rfl)) (hw _ (List.mem_of_getElem? (i := 141) rfl)) (hw _ (List.mem_of_getElem? (i := 142) rfl)) (hw _ (List.mem_of_getElem? (i := 143) rfl)) (by decide) (argsL := [(.long g228), (.int (21 : Int32))]) (rest := []) e227 (rm27 l Z a0 hw g228 (21 : Int32) _) (W := 0) (by decide) (by decide) (by rw [hml]; rfl) (lenOf pd_13 rfl) (Nat.le_of_eq rfl) (hb hby d24_187) (by decide) (by decide) rfl ?_
  rintro T230 v230 L230 X230 ⟨r230, rfl, e230, rfl⟩
  rw [List.append_nil] at X230
  show Ends none p e below s _ _ _ T230 (mkF m 190 #[.val (.long y0), .second, .val (.long y1), .second, .val (.ref oa), .val (.int (Int32.ofNat o)), .val (.int (Int32.ofNat (o + n))), .val (.long g229), .second, .val (.long g224), .second, .val (.long g226), .second, .val (.long g228), .second, .val (.int (1 : Int32)), .val (.int (1 : Int32)), .val (.long (0 : Int64)), .second, .val (.int (4 : Int32)), .val (.int (1 : Int32))] [(.long r230)])
  refine E.lload (q := 192) X230 hx (hb hby d24_190) rfl ?_
  refine E.lxor (q := 193) X230 hx (hb hby d24_192) ?_
  refine E.lstore (q := 195) (l' := #[.val (.long y0), .second, .val (.long y1), .second, .val (.ref oa), .val (.int (Int32.ofNat o)), .val (.int (Int32.ofNat (o + n))), .val (.long g229), .second, .val (.long g224), .second, .val (.long g226), .second, .val (.long (r230 ^^^ g229)), .second, .val (.int (1 : Int32)), .val (.int (1 : Int32)), .val (.long (0 : Int64)), .second, .val (.int (4 : Int32)), .val (.int (1 : Int32))]) X230 hx (hb hby d24_193) rfl ?_
  generalize (r230 ^^^ g229) = g231
  show Ends none p e below s _ _ _ T230 (mkF m 195 #[.val (.long y0), .second, .val (.long y1), .second, .val (.ref oa), .val (.int (Int32.ofNat o)), .val (.int (Int32.ofNat (o + n))), .val (.long g229), .second, .val (.long g224), .second, .val (.long g226), .second, .val (.long g231), .second, .val (.int (1 : Int32)), .val (.int (1 : Int32)), .val (.long (0 : Int64)), .second, .val (.int (4 : Int32)), .val (.int (1 : Int32))] [])
  refine E.lload (q := 197) X230 hx (hb hby d24_195) rfl ?_
  refine E.lload (q := 199) X230 hx (hb hby d24_197) rfl ?_
  refine E.ladd (q := 200) X230 hx (hb hby d24_199) ?_
  refine E.lstore (q := 202) (l' := #[.val (.long y0), .second, .val (.long y1), .second, .val (.ref oa), .val (.int (Int32.ofNat o)), .val (.int (Int32.ofNat (o + n))), .val (.long g229), .second, .val (.long g224), .second, .val (.long (g226 + g224)), .second, .val (.long g231), .second, .val (.int (1 : Int32)), .val (.int (1 : Int32)), .val (.long (0 : Int64)), .second, .val (.int (4 : Int32)), .val (.int (1 : Int32))]) X230 hx (hb hby d24_200) rfl ?_
  generalize (g226 + g224) = g232
  show Ends none p e below s _ _ _ T230 (mkF m 202 #[.val (.long y0), .second, .val (.long y1), .second, .val (.ref oa), .val (.int (Int32.ofNat o)), .val (.int (Int32.ofNat (o + n))), .val (.long g229), .second, .val (.long g224), .second, .val (.long g232), .second, .val (.long g231), .second, .val (.int (1 : Int32)), .val (.int (1 : Int32)), .val (.long (0 : Int64)), .second, .val (.int (4 : Int32)), .val (.int (1 : Int32))] [])
  refine E.lload (q := 204) X230 hx (hb hby d24_202) rfl ?_
  refine E.bipush (q := 206) (v := (17 : Int32)) X230 hx (hb hby d24_204) rfl ?_
  refine Ends.callS X230 hx hZ hown (hw _ (List.mem_of_getElem? (i := 140) rfl)) (hw _ (List.mem_of_getElem? (i := 141) rfl)) (hw _ (List.mem_of_getElem? (i := 142) rfl)) (hw _ (List.mem_of_getElem? (i := 143) rfl)) (by decide) (argsL := [(.long g224), (.int (17 : Int32))]) (rest := []) e230 (rm27 l Z a0 hw g224 (17 : Int32) _) (W := 0) (by decide) (by decide) (by rw [hml]; rfl) (lenOf pd_13 rfl) (Nat.le_of_eq rfl) (hb hby d24_206) (by decide) (by decide) rfl ?_
  rintro T233 v233 L233 X233 ⟨r233, rfl, e233, rfl⟩
  rw [List.append_nil] at X233
  show Ends none p e below s _ _ _ T233 (mkF m 209 #[.val (.long y0), .second, .val (.long y1), .second, .val (.ref oa), .val (.int (Int32.ofNat o)), .val (.int (Int32.ofNat (o + n))), .val (.long g229), .second, .val (.long g224), .second, .val (.long g232), .second, .val (.long g231), .second, .val (.int (1 : Int32)), .val (.int (1 : Int32)), .val (.long (0 : Int64)), .second, .val (.int (4 : Int32)), .val (.int (1 : Int32))] [(.long r233)])
  refine E.lload (q := 211) X233 hx (hb hby d24_209) rfl ?_
  refine E.lxor (q := 212) X233 hx (hb hby d24_211) ?_
  refine E.lstore (q := 214) (l' := #[.val (.long y0), .second, .val (.long y1), .second, .val (.ref oa), .val (.int (Int32.ofNat o)), .val (.int (Int32.ofNat (o + n))), .val (.long g229), .second, .val (.long (r233 ^^^ g232)), .second, .val (.long g232), .second, .val (.long g231), .second, .val (.int (1 : Int32)), .val (.int (1 : Int32)), .val (.long (0 : Int64)), .second, .val (.int (4 : Int32)), .val (.int (1 : Int32))]) X233 hx (hb hby d24_212) rfl ?_
  generalize (r233 ^^^ g232) = g234
  show Ends none p e below s _ _ _ T233 (mkF m 214 #[.val (.long y0), .second, .val (.long y1), .second, .val (.ref oa), .val (.int (Int32.ofNat o)), .val (.int (Int32.ofNat (o + n))), .val (.long g229), .second, .val (.long g234), .second, .val (.long g232), .second, .val (.long g231), .second, .val (.int (1 : Int32)), .val (.int (1 : Int32)), .val (.long (0 : Int64)), .second, .val (.int (4 : Int32)), .val (.int (1 : Int32))] [])
  refine E.lload (q := 216) X233 hx (hb hby d24_214) rfl ?_
  refine E.bipush (q := 218) (v := (32 : Int32)) X233 hx (hb hby d24_216) rfl ?_
  refine Ends.callS X233 hx hZ hown (hw _ (List.mem_of_getElem? (i := 140) rfl)) (hw _ (List.mem_of_getElem? (i := 141) rfl)) (hw _ (List.mem_of_getElem? (i := 142) rfl)) (hw _ (List.mem_of_getElem? (i := 143) rfl)) (by decide) (argsL := [(.long g232), (.int (32 : Int32))]) (rest := []) e233 (rm27 l Z a0 hw g232 (32 : Int32) _) (W := 0) (by decide) (by decide) (by rw [hml]; rfl) (lenOf pd_13 rfl) (Nat.le_of_eq rfl) (hb hby d24_218) (by decide) (by decide) rfl ?_
  rintro T235 v235 L235 X235 ⟨r235, rfl, e235, rfl⟩
  rw [List.append_nil] at X235
  show Ends none p e below s _ _ _ T235 (mkF m 221 #[.val (.long y0), .second, .val (.long y1), .second, .val (.ref oa), .val (.int (Int32.ofNat o)), .val (.int (Int32.ofNat (o + n))), .val (.long g229), .second, .val (.long g234), .second, .val (.long g232), .second, .val (.long g231), .second, .val (.int (1 : Int32)), .val (.int (1 : Int32)), .val (.long (0 : Int64)), .second, .val (.int (4 : Int32)), .val (.int (1 : Int32))] [(.long r235)])
  refine E.lstore (q := 223) (l' := #[.val (.long y0), .second, .val (.long y1), .second, .val (.ref oa), .val (.int (Int32.ofNat o)), .val (.int (Int32.ofNat (o + n))), .val (.long g229), .second, .val (.long g234), .second, .val (.long r235), .second, .val (.long g231), .second, .val (.int (1 : Int32)), .val (.int (1 : Int32)), .val (.long (0 : Int64)), .second, .val (.int (4 : Int32)), .val (.int (1 : Int32))]) X235 hx (hb hby d24_221) rfl ?_
  refine E.iinc (q := 226) (v := (2 : Int32)) (l' := #[.val (.long y0), .second, .val (.long y1), .second, .val (.ref oa), .val (.int (Int32.ofNat o)), .val (.int (Int32.ofNat (o + n))), .val (.long g229), .second, .val (.long g234), .second, .val (.long r235), .second, .val (.long g231), .second, .val (.int (1 : Int32)), .val (.int (1 : Int32)), .val (.long (0 : Int64)), .second, .val (.int (4 : Int32)), .val (.int (2 : Int32))]) X235 hx (hb hby d24_223) rfl (by decide) rfl ?_
  refine E.goto (q := 122) X235 hx (hb hby d24_226) ?_
  refine E.iload (q := 124) X235 hx (hb hby d24_122) rfl ?_
  refine E.iload (q := 126) X235 hx (hb hby d24_124) rfl ?_
  refine E.icmpN (q := 129) X235 hx (hb hby d24_126) (XT.ii_ge_f (by decide)) ?_
  refine E.lload (q := 131) X235 hx (hb hby d24_129) rfl ?_
  refine E.lload (q := 133) X235 hx (hb hby d24_131) rfl ?_
  refine E.ladd (q := 134) X235 hx (hb hby d24_133) ?_
  refine E.lstore (q := 136) (l' := #[.val (.long y0), .second, .val (.long y1), .second, .val (.ref oa), .val (.int (Int32.ofNat o)), .val (.int (Int32.ofNat (o + n))), .val (.long (g229 + g234)), .second, .val (.long g234), .second, .val (.long r235), .second, .val (.long g231), .second, .val (.int (1 : Int32)), .val (.int (1 : Int32)), .val (.long (0 : Int64)), .second, .val (.int (4 : Int32)), .val (.int (2 : Int32))]) X235 hx (hb hby d24_134) rfl ?_
  generalize (g229 + g234) = g236
  show Ends none p e below s _ _ _ T235 (mkF m 136 #[.val (.long y0), .second, .val (.long y1), .second, .val (.ref oa), .val (.int (Int32.ofNat o)), .val (.int (Int32.ofNat (o + n))), .val (.long g236), .second, .val (.long g234), .second, .val (.long r235), .second, .val (.long g231), .second, .val (.int (1 : Int32)), .val (.int (1 : Int32)), .val (.long (0 : Int64)), .second, .val (.int (4 : Int32)), .val (.int (2 : Int32))] [])
  refine E.lload (q := 138) X235 hx (hb hby d24_136) rfl ?_
  refine E.bipush (q := 140) (v := (13 : Int32)) X235 hx (hb hby d24_138) rfl ?_
  refine Ends.callS X235 hx hZ hown (hw _ (List.mem_of_getElem? (i := 140) rfl)) (hw _ (List.mem_of_getElem? (i := 141) rfl)) (hw _ (List.mem_of_getElem? (i := 142) rfl)) (hw _ (List.mem_of_getElem? (i := 143) rfl)) (by decide) (argsL := [(.long g234), (.int (13 : Int32))]) (rest := []) e235 (rm27 l Z a0 hw g234 (13 : Int32) _) (W := 0) (by decide) (by decide) (by rw [hml]; rfl) (lenOf pd_13 rfl) (Nat.le_of_eq rfl) (hb hby d24_140) (by decide) (by decide) rfl ?_
  rintro T237 v237 L237 X237 ⟨r237, rfl, e237, rfl⟩
  rw [List.append_nil] at X237
  show Ends none p e below s _ _ _ T237 (mkF m 143 #[.val (.long y0), .second, .val (.long y1), .second, .val (.ref oa), .val (.int (Int32.ofNat o)), .val (.int (Int32.ofNat (o + n))), .val (.long g236), .second, .val (.long g234), .second, .val (.long r235), .second, .val (.long g231), .second, .val (.int (1 : Int32)), .val (.int (1 : Int32)), .val (.long (0 : Int64)), .second, .val (.int (4 : Int32)), .val (.int (2 : Int32))] [(.long r237)])
  refine E.lload (q := 145) X237 hx (hb hby d24_143) rfl ?_
  refine E.lxor (q := 146) X237 hx (hb hby d24_145) ?_
  refine E.lstore (q := 148) (l' := #[.val (.long y0), .second, .val (.long y1), .second, .val (.ref oa), .val (.int (Int32.ofNat o)), .val (.int (Int32.ofNat (o + n))), .val (.long g236), .second, .val (.long (r237 ^^^ g236)), .second, .val (.long r235), .second, .val (.long g231), .second, .val (.int (1 : Int32)), .val (.int (1 : Int32)), .val (.long (0 : Int64)), .second, .val (.int (4 : Int32)), .val (.int (2 : Int32))]) X237 hx (hb hby d24_146) rfl ?_
  generalize (r237 ^^^ g236) = g238
  show Ends none p e below s _ _ _ T237 (mkF m 148 #[.val (.long y0), .second, .val (.long y1), .second, .val (.ref oa), .val (.int (Int32.ofNat o)), .val (.int (Int32.ofNat (o + n))), .val (.long g236), .second, .val (.long g238), .second, .val (.long r235), .second, .val (.long g231), .second, .val (.int (1 : Int32)), .val (.int (1 : Int32)), .val (.long (0 : Int64)), .second, .val (.int (4 : Int32)), .val (.int (2 : Int32))] [])
  refine E.lload (q := 150) X237 hx (hb hby d24_148) rfl ?_
  refine E.bipush (q := 152) (v := (32 : Int32)) X237 hx (hb hby d24_150) rfl ?_
  refine Ends.callS X237 hx hZ hown (hw _ (List.mem_of_getElem? (i := 140) rfl)) (hw _ (List.mem_of_getElem? (i := 141) rfl)) (hw _ (List.mem_of_getElem? (i := 142) rfl)) (hw _ (List.mem_of_getElem? (i := 143) rfl)) (by decide) (argsL := [(.long g236), (.int (32 : Int32))]) (rest := []) e237 (rm27 l Z a0 hw g236 (32 : Int32) _) (W := 0) (by decide) (by decide) (by rw [hml]; rfl) (lenOf pd_13 rfl) (Nat.le_of_eq rfl) (hb hby d24_152) (by decide) (by decide) rfl ?_
  rintro T239 v239 L239 X239 ⟨r239, rfl, e239, rfl⟩
  rw [List.append_nil] at X239
  show Ends none p e below s _ _ _ T239 (mkF m 155 #[.val (.long y0), .second, .val (.long y1), .second, .val (.ref oa), .val (.int (Int32.ofNat o)), .val (.int (Int32.ofNat (o + n))), .val (.long g236), .second, .val (.long g238), .second, .val (.long r235), .second, .val (.long g231), .second, .val (.int (1 : Int32)), .val (.int (1 : Int32)), .val (.long (0 : Int64)), .second, .val (.int (4 : Int32)), .val (.int (2 : Int32))] [(.long r239)])
  refine E.lstore (q := 157) (l' := #[.val (.long y0), .second, .val (.long y1), .second, .val (.ref oa), .val (.int (Int32.ofNat o)), .val (.int (Int32.ofNat (o + n))), .val (.long r239), .second, .val (.long g238), .second, .val (.long r235), .second, .val (.long g231), .second, .val (.int (1 : Int32)), .val (.int (1 : Int32)), .val (.long (0 : Int64)), .second, .val (.int (4 : Int32)), .val (.int (2 : Int32))]) X239 hx (hb hby d24_155) rfl ?_
  refine E.lload (q := 159) X239 hx (hb hby d24_157) rfl ?_
  refine E.lload (q := 161) X239 hx (hb hby d24_159) rfl ?_
  refine E.ladd (q := 162) X239 hx (hb hby d24_161) ?_
  refine E.lstore (q := 164) (l' := #[.val (.long y0), .second, .val (.long y1), .second, .val (.ref oa), .val (.int (Int32.ofNat o)), .val (.int (Int32.ofNat (o + n))), .val (.long r239), .second, .val (.long g238), .second, .val (.long (r235 + g231)), .second, .val (.long g231), .second, .val (.int (1 : Int32)), .val (.int (1 : Int32)), .val (.long (0 : Int64)), .second, .val (.int (4 : Int32)), .val (.int (2 : Int32))]) X239 hx (hb hby d24_162) rfl ?_
  generalize (r235 + g231) = g240
  show Ends none p e below s _ _ _ T239 (mkF m 164 #[.val (.long y0), .second, .val (.long y1), .second, .val (.ref oa), .val (.int (Int32.ofNat o)), .val (.int (Int32.ofNat (o + n))), .val (.long r239), .second, .val (.long g238), .second, .val (.long g240), .second, .val (.long g231), .second, .val (.int (1 : Int32)), .val (.int (1 : Int32)), .val (.long (0 : Int64)), .second, .val (.int (4 : Int32)), .val (.int (2 : Int32))] [])
  refine E.lload (q := 166) X239 hx (hb hby d24_164) rfl ?_
  refine E.bipush (q := 168) (v := (16 : Int32)) X239 hx (hb hby d24_166) rfl ?_
  refine Ends.callS X239 hx hZ hown (hw _ (List.mem_of_getElem? (i := 140) rfl)) (hw _ (List.mem_of_getElem? (i := 141) rfl)) (hw _ (List.mem_of_getElem? (i := 142) rfl)) (hw _ (List.mem_of_getElem? (i := 143) rfl)) (by decide) (argsL := [(.long g231), (.int (16 : Int32))]) (rest := []) e239 (rm27 l Z a0 hw g231 (16 : Int32) _) (W := 0) (by decide) (by decide) (by rw [hml]; rfl) (lenOf pd_13 rfl) (Nat.le_of_eq rfl) (hb hby d24_168) (by decide) (by decide) rfl ?_
  rintro T241 v241 L241 X241 ⟨r241, rfl, e241, rfl⟩
  rw [List.append_nil] at X241
  show Ends none p e below s _ _ _ T241 (mkF m 171 #[.val (.long y0), .second, .val (.long y1), .second, .val (.ref oa), .val (.int (Int32.ofNat o)), .val (.int (Int32.ofNat (o + n))), .val (.long r239), .second, .val (.long g238), .second, .val (.long g240), .second, .val (.long g231), .second, .val (.int (1 : Int32)), .val (.int (1 : Int32)), .val (.long (0 : Int64)), .second, .val (.int (4 : Int32)), .val (.int (2 : Int32))] [(.long r241)])
  refine E.lload (q := 173) X241 hx (hb hby d24_171) rfl ?_
  refine E.lxor (q := 174) X241 hx (hb hby d24_173) ?_
  refine E.lstore (q := 176) (l' := #[.val (.long y0), .second, .val (.long y1), .second, .val (.ref oa), .val (.int (Int32.ofNat o)), .val (.int (Int32.ofNat (o + n))), .val (.long r239), .second, .val (.long g238), .second, .val (.long g240), .second, .val (.long (r241 ^^^ g240)), .second, .val (.int (1 : Int32)), .val (.int (1 : Int32)), .val (.long (0 : Int64)), .second, .val (.int (4 : Int32)), .val (.int (2 : Int32))]) X241 hx (hb hby d24_174) rfl ?_
  generalize (r241 ^^^ g240) = g242
  show Ends none p e below s _ _ _ T241 (mkF m 176 #[.val (.long y0), .second, .val (.long y1), .second, .val (.ref oa), .val (.int (Int32.ofNat o)), .val (.int (Int32.ofNat (o + n))), .val (.long r239), .second, .val (.long g238), .second, .val (.long g240), .second, .val (.long g242), .second, .val (.int (1 : Int32)), .val (.int (1 : Int32)), .val (.long (0 : Int64)), .second, .val (.int (4 : Int32)), .val (.int (2 : Int32))] [])
  refine E.lload (q := 178) X241 hx (hb hby d24_176) rfl ?_
  refine E.lload (q := 180) X241 hx (hb hby d24_178) rfl ?_
  refine E.ladd (q := 181) X241 hx (hb hby d24_180) ?_
  refine E.lstore (q := 183) (l' := #[.val (.long y0), .second, .val (.long y1), .second, .val (.ref oa), .val (.int (Int32.ofNat o)), .val (.int (Int32.ofNat (o + n))), .val (.long (r239 + g242)), .second, .val (.long g238), .second, .val (.long g240), .second, .val (.long g242), .second, .val (.int (1 : Int32)), .val (.int (1 : Int32)), .val (.long (0 : Int64)), .second, .val (.int (4 : Int32)), .val (.int (2 : Int32))]) X241 hx (hb hby d24_181) rfl ?_
  generalize (r239 + g242) = g243
  show Ends none p e below s _ _ _ T241 (mkF m 183 #[.val (.long y0), .second, .val (.long y1), .second, .val (.ref oa), .val (.int (Int32.ofNat o)), .val (.int (Int32.ofNat (o + n))), .val (.long g243), .second, .val (.long g238), .second, .val (.long g240), .second, .val (.long g242), .second, .val (.int (1 : Int32)), .val (.int (1 : Int32)), .val (.long (0 : Int64)), .second, .val (.int (4 : Int32)), .val (.int (2 : Int32))] [])
  refine E.lload (q := 185) X241 hx (hb hby d24_183) rfl ?_
  refine E.bipush (q := 187) (v := (21 : Int32)) X241 hx (hb hby d24_185) rfl ?_
  refine Ends.callS X241 hx hZ hown (hw _ (List.mem_of_getElem? (i := 140) rfl)) (hw _ (List.mem_of_getElem? (i := 141) rfl)) (hw _ (List.mem_of_getElem? (i := 142) rfl)) (hw _ (List.mem_of_getElem? (i := 143) rfl)) (by decide) (argsL := [(.long g242), (.int (21 : Int32))]) (rest := []) e241 (rm27 l Z a0 hw g242 (21 : Int32) _) (W := 0) (by decide) (by decide) (by rw [hml]; rfl) (lenOf pd_13 rfl) (Nat.le_of_eq rfl) (hb hby d24_187) (by decide) (by decide) rfl ?_
  rintro T244 v244 L244 X244 ⟨r244, rfl, e244, rfl⟩
  rw [List.append_nil] at X244
  show Ends none p e below s _ _ _ T244 (mkF m 190 #[.val (.long y0), .second, .val (.long y1), .second, .val (.ref oa), .val (.int (Int32.ofNat o)), .val (.int (Int32.ofNat (o + n))), .val (.long g243), .second, .val (.long g238), .second, .val (.long g240), .second, .val (.long g242), .second, .val (.int (1 : Int32)), .val (.int (1 : Int32)), .val (.long (0 : Int64)), .second, .val (.int (4 : Int32)), .val (.int (2 : Int32))] [(.long r244)])
  refine E.lload (q := 192) X244 hx (hb hby d24_190) rfl ?_
  refine E.lxor (q := 193) X244 hx (hb hby d24_192) ?_
  refine E.lstore (q := 195) (l' := #[.val (.long y0), .second, .val (.long y1), .second, .val (.ref oa), .val (.int (Int32.ofNat o)), .val (.int (Int32.ofNat (o + n))), .val (.long g243), .second, .val (.long g238), .second, .val (.long g240), .second, .val (.long (r244 ^^^ g243)), .second, .val (.int (1 : Int32)), .val (.int (1 : Int32)), .val (.long (0 : Int64)), .second, .val (.int (4 : Int32)), .val (.int (2 : Int32))]) X244 hx (hb hby d24_193) rfl ?_
  generalize (r244 ^^^ g243) = g245
  show Ends none p e below s _ _ _ T244 (mkF m 195 #[.val (.long y0), .second, .val (.long y1), .second, .val (.ref oa), .val (.int (Int32.ofNat o)), .val (.int (Int32.ofNat (o + n))), .val (.long g243), .second, .val (.long g238), .second, .val (.long g240), .second, .val (.long g245), .second, .val (.int (1 : Int32)), .val (.int (1 : Int32)), .val (.long (0 : Int64)), .second, .val (.int (4 : Int32)), .val (.int (2 : Int32))] [])
  refine E.lload (q := 197) X244 hx (hb hby d24_195) rfl ?_
  refine E.lload (q := 199) X244 hx (hb hby d24_197) rfl ?_
  refine E.ladd (q := 200) X244 hx (hb hby d24_199) ?_
  refine E.lstore (q := 202) (l' := #[.val (.long y0), .second, .val (.long y1), .second, .val (.ref oa), .val (.int (Int32.ofNat o)), .val (.int (Int32.ofNat (o + n))), .val (.long g243), .second, .val (.long g238), .second, .val (.long (g240 + g238)), .second, .val (.long g245), .second, .val (.int (1 : Int32)), .val (.int (1 : Int32)), .val (.long (0 : Int64)), .second, .val (.int (4 : Int32)), .val (.int (2 : Int32))]) X244 hx (hb hby d24_200) rfl ?_
  generalize (g240 + g238) = g246
  show Ends none p e below s _ _ _ T244 (mkF m 202 #[.val (.long y0), .second, .val (.long y1), .second, .val (.ref oa), .val (.int (Int32.ofNat o)), .val (.int (Int32.ofNat (o + n))), .val (.long g243), .second, .val (.long g238), .second, .val (.long g246), .second, .val (.long g245), .second, .val (.int (1 : Int32)), .val (.int (1 : Int32)), .val (.long (0 : Int64)), .second, .val (.int (4 : Int32)), .val (.int (2 : Int32))] [])
  refine E.lload (q := 204) X244 hx (hb hby d24_202) rfl ?_
  refine E.bipush (q := 206) (v := (17 : Int32)) X244 hx (hb hby d24_204) rfl ?_
  refine Ends.callS X244 hx hZ hown (hw _ (List.mem_of_getElem? (i := 140) rfl)) (hw _ (List.mem_of_getElem? (i := 141) rfl)) (hw _ (List.mem_of_getElem? (i := 142) rfl)) (hw _ (List.mem_of_getElem? (i := 143) rfl)) (by decide) (argsL := [(.long g238), (.int (17 : Int32))]) (rest := []) e244 (rm27 l Z a0 hw g238 (17 : Int32) _) (W := 0) (by decide) (by decide) (by rw [hml]; rfl) (lenOf pd_13 rfl) (Nat.le_of_eq rfl) (hb hby d24_206) (by decide) (by decide) rfl ?_
  rintro T247 v247 L247 X247 ⟨r247, rfl, e247, rfl⟩
  rw [List.append_nil] at X247
  show Ends none p e below s _ _ _ T247 (mkF m 209 #[.val (.long y0), .second, .val (.long y1), .second, .val (.ref oa), .val (.int (Int32.ofNat o)), .val (.int (Int32.ofNat (o + n))), .val (.long g243), .second, .val (.long g238), .second, .val (.long g246), .second, .val (.long g245), .second, .val (.int (1 : Int32)), .val (.int (1 : Int32)), .val (.long (0 : Int64)), .second, .val (.int (4 : Int32)), .val (.int (2 : Int32))] [(.long r247)])
  refine E.lload (q := 211) X247 hx (hb hby d24_209) rfl ?_
  refine E.lxor (q := 212) X247 hx (hb hby d24_211) ?_
  refine E.lstore (q := 214) (l' := #[.val (.long y0), .second, .val (.long y1), .second, .val (.ref oa), .val (.int (Int32.ofNat o)), .val (.int (Int32.ofNat (o + n))), .val (.long g243), .second, .val (.long (r247 ^^^ g246)), .second, .val (.long g246), .second, .val (.long g245), .second, .val (.int (1 : Int32)), .val (.int (1 : Int32)), .val (.long (0 : Int64)), .second, .val (.int (4 : Int32)), .val (.int (2 : Int32))]) X247 hx (hb hby d24_212) rfl ?_
  generalize (r247 ^^^ g246) = g248
  show Ends none p e below s _ _ _ T247 (mkF m 214 #[.val (.long y0), .second, .val (.long y1), .second, .val (.ref oa), .val (.int (Int32.ofNat o)), .val (.int (Int32.ofNat (o + n))), .val (.long g243), .second, .val (.long g248), .second, .val (.long g246), .second, .val (.long g245), .second, .val (.int (1 : Int32)), .val (.int (1 : Int32)), .val (.long (0 : Int64)), .second, .val (.int (4 : Int32)), .val (.int (2 : Int32))] [])
  refine E.lload (q := 216) X247 hx (hb hby d24_214) rfl ?_
  refine E.bipush (q := 218) (v := (32 : Int32)) X247 hx (hb hby d24_216) rfl ?_
  refine Ends.callS X247 hx hZ hown (hw _ (List.mem_of_getElem? (i := 140) rfl)) (hw _ (List.mem_of_getElem? (i := 141) rfl)) (hw _ (List.mem_of_getElem? (i := 142) rfl)) (hw _ (List.mem_of_getElem? (i := 143) rfl)) (by decide) (argsL := [(.long g246), (.int (32 : Int32))]) (rest := []) e247 (rm27 l Z a0 hw g246 (32 : Int32) _) (W := 0) (by decide) (by decide) (by rw [hml]; rfl) (lenOf pd_13 rfl) (Nat.le_of_eq rfl) (hb hby d24_218) (by decide) (by decide) rfl ?_
  rintro T249 v249 L249 X249 ⟨r249, rfl, e249, rfl⟩
  rw [List.append_nil] at X249
  show Ends none p e below s _ _ _ T249 (mkF m 221 #[.val (.long y0), .second, .val (.long y1), .second, .val (.ref oa), .val (.int (Int32.ofNat o)), .val (.int (Int32.ofNat (o + n))), .val (.long g243), .second, .val (.long g248), .second, .val (.long g246), .second, .val (.long g245), .second, .val (.int (1 : Int32)), .val (.int (1 : Int32)), .val (.long (0 : Int64)), .second, .val (.int (4 : Int32)), .val (.int (2 : Int32))] [(.long r249)])
  refine E.lstore (q := 223) (l' := #[.val (.long y0), .second, .val (.long y1), .second, .val (.ref oa), .val (.int (Int32.ofNat o)), .val (.int (Int32.ofNat (o + n))), .val (.long g243), .second, .val (.long g248), .second, .val (.long r249), .second, .val (.long g245), .second, .val (.int (1 : Int32)), .val (.int (1 : Int32)), .val (.long (0 : Int64)), .second, .val (.int (4 : Int32)), .val (.int (2 : Int32))]) X249 hx (hb hby d24_221) rfl ?_
  refine E.iinc (q := 226) (v := (3 : Int32)) (l' := #[.val (.long y0), .second, .val (.long y1), .second, .val (.ref oa), .val (.int (Int32.ofNat o)), .val (.int (Int32.ofNat (o + n))), .val (.long g243), .second, .val (.long g248), .second, .val (.long r249), .second, .val (.long g245), .second, .val (.int (1 : Int32)), .val (.int (1 : Int32)), .val (.long (0 : Int64)), .second, .val (.int (4 : Int32)), .val (.int (3 : Int32))]) X249 hx (hb hby d24_223) rfl (by decide) rfl ?_
  refine E.goto (q := 122) X249 hx (hb hby d24_226) ?_
  refine E.iload (q := 124) X249 hx (hb hby d24_122) rfl ?_
  refine E.iload (q := 126) X249 hx (hb hby d24_124) rfl ?_
  refine E.icmpN (q := 129) X249 hx (hb hby d24_126) (XT.ii_ge_f (by decide)) ?_
  refine E.lload (q := 131) X249 hx (hb hby d24_129) rfl ?_
  refine E.lload (q := 133) X249 hx (hb hby d24_131) rfl ?_
  refine E.ladd (q := 134) X249 hx (hb hby d24_133) ?_
  refine E.lstore (q := 136) (l' := #[.val (.long y0), .second, .val (.long y1), .second, .val (.ref oa), .val (.int (Int32.ofNat o)), .val (.int (Int32.ofNat (o + n))), .val (.long (g243 + g248)), .second, .val (.long g248), .second, .val (.long r249), .second, .val (.long g245), .second, .val (.int (1 : Int32)), .val (.int (1 : Int32)), .val (.long (0 : Int64)), .second, .val (.int (4 : Int32)), .val (.int (3 : Int32))]) X249 hx (hb hby d24_134) rfl ?_
  generalize (g243 + g248) = g250
  show Ends none p e below s _ _ _ T249 (mkF m 136 #[.val (.long y0), .second, .val (.long y1), .second, .val (.ref oa), .val (.int (Int32.ofNat o)), .val (.int (Int32.ofNat (o + n))), .val (.long g250), .second, .val (.long g248), .second, .val (.long r249), .second, .val (.long g245), .second, .val (.int (1 : Int32)), .val (.int (1 : Int32)), .val (.long (0 : Int64)), .second, .val (.int (4 : Int32)), .val (.int (3 : Int32))] [])
  refine E.lload (q := 138) X249 hx (hb hby d24_136) rfl ?_
  refine E.bipush (q := 140) (v := (13 : Int32)) X249 hx (hb hby d24_138) rfl ?_
  refine Ends.callS X249 hx hZ hown (hw _ (List.mem_of_getElem? (i := 140) rfl)) (hw _ (List.mem_of_getElem? (i := 141) rfl)) (hw _ (List.mem_of_getElem? (i := 142) rfl)) (hw _ (List.mem_of_getElem? (i := 143) rfl)) (by decide) (argsL := [(.long g248), (.int (13 : Int32))]) (rest := []) e249 (rm27 l Z a0 hw g248 (13 : Int32) _) (W := 0) (by decide) (by decide) (by rw [hml]; rfl) (lenOf pd_13 rfl) (Nat.le_of_eq rfl) (hb hby d24_140) (by decide) (by decide) rfl ?_
  rintro T251 v251 L251 X251 ⟨r251, rfl, e251, rfl⟩
  rw [List.append_nil] at X251
  show Ends none p e below s _ _ _ T251 (mkF m 143 #[.val (.long y0), .second, .val (.long y1), .second, .val (.ref oa), .val (.int (Int32.ofNat o)), .val (.int (Int32.ofNat (o + n))), .val (.long g250), .second, .val (.long g248), .second, .val (.long r249), .second, .val (.long g245), .second, .val (.int (1 : Int32)), .val (.int (1 : Int32)), .val (.long (0 : Int64)), .second, .val (.int (4 : Int32)), .val (.int (3 : Int32))] [(.long r251)])
  refine E.lload (q := 145) X251 hx (hb hby d24_143) rfl ?_
  refine E.lxor (q := 146) X251 hx (hb hby d24_145) ?_
  refine E.lstore (q := 148) (l' := #[.val (.long y0), .second, .val (.long y1), .second, .val (.ref oa), .val (.int (Int32.ofNat o)), .val (.int (Int32.ofNat (o + n))), .val (.long g250), .second, .val (.long (r251 ^^^ g250)), .second, .val (.long r249), .second, .val (.long g245), .second, .val (.int (1 : Int32)), .val (.int (1 : Int32)), .val (.long (0 : Int64)), .second, .val (.int (4 : Int32)), .val (.int (3 : Int32))]) X251 hx (hb hby d24_146) rfl ?_
  generalize (r251 ^^^ g250) = g252
  show Ends none p e below s _ _ _ T251 (mkF m 148 #[.val (.long y0), .second, .val (.long y1), .second, .val (.ref oa), .val (.int (Int32.ofNat o)), .val (.int (Int32.ofNat (o + n))), .val (.long g250), .second, .val (.long g252), .second, .val (.long r249), .second, .val (.long g245), .second, .val (.int (1 : Int32)), .val (.int (1 : Int32)), .val (.long (0 : Int64)), .second, .val (.int (4 : Int32)), .val (.int (3 : Int32))] [])
  refine E.lload (q := 150) X251 hx (hb hby d24_148) rfl ?_
  refine E.bipush (q := 152) (v := (32 : Int32)) X251 hx (hb hby d24_150) rfl ?_
  refine Ends.callS X251 hx hZ hown (hw _ (List.mem_of_getElem? (i := 140) rfl)) (hw _ (List.mem_of_getElem? (i := 141) rfl)) (hw _ (List.mem_of_getElem? (i := 142) rfl)) (hw _ (List.mem_of_getElem? (i := 143) rfl)) (by decide) (argsL := [(.long g250), (.int (32 : Int32))]) (rest := []) e251 (rm27 l Z a0 hw g250 (32 : Int32) _) (W := 0) (by decide) (by decide) (by rw [hml]; rfl) (lenOf pd_13 rfl) (Nat.le_of_eq rfl) (hb hby d24_152) (by decide) (by decide) rfl ?_
  rintro T253 v253 L253 X253 ⟨r253, rfl, e253, rfl⟩
  rw [List.append_nil] at X253
  show Ends none p e below s _ _ _ T253 (mkF m 155 #[.val (.long y0), .second, .val (.long y1), .second, .val (.ref oa), .val (.int (Int32.ofNat o)), .val (.int (Int32.ofNat (o + n))), .val (.long g250), .second, .val (.long g252), .second, .val (.long r249), .second, .val (.long g245), .second, .val (.int (1 : Int32)), .val (.int (1 : Int32)), .val (.long (0 : Int64)), .second, .val (.int (4 : Int32)), .val (.int (3 : Int32))] [(.long r253)])
  refine E.lstore (q := 157) (l' := #[.val (.long y0), .second, .val (.long y1), .second, .val (.ref oa), .val (.int (Int32.ofNat o)), .val (.int (Int32.ofNat (o + n))), .val (.long r253), .second, .val (.long g252), .second, .val (.long r249), .second, .val (.long g245), .second, .val (.int (1 : Int32)), .val (.int (1 : Int32)), .val (.long (0 : Int64)), .second, .val (.int (4 : Int32)), .val (.int (3 : Int32))]) X253 hx (hb hby d24_155) rfl ?_
  refine E.lload (q := 159) X253 hx (hb hby d24_157) rfl ?_
  refine E.lload (q := 161) X253 hx (hb hby d24_159) rfl ?_
  refine E.ladd (q := 162) X253 hx (hb hby d24_161) ?_
  refine E.lstore (q := 164) (l' := #[.val (.long y0), .second, .val (.long y1), .second, .val (.ref oa), .val (.int (Int32.ofNat o)), .val (.int (Int32.ofNat (o + n))), .val (.long r253), .second, .val (.long g252), .second, .val (.long (r249 + g245)), .second, .val (.long g245), .second, .val (.int (1 : Int32)), .val (.int (1 : Int32)), .val (.long (0 : Int64)), .second, .val (.int (4 : Int32)), .val (.int (3 : Int32))]) X253 hx (hb hby d24_162) rfl ?_
  generalize (r249 + g245) = g254
  show Ends none p e below s _ _ _ T253 (mkF m 164 #[.val (.long y0), .second, .val (.long y1), .second, .val (.ref oa), .val (.int (Int32.ofNat o)), .val (.int (Int32.ofNat (o + n))), .val (.long r253), .second, .val (.long g252), .second, .val (.long g254), .second, .val (.long g245), .second, .val (.int (1 : Int32)), .val (.int (1 : Int32)), .val (.long (0 : Int64)), .second, .val (.int (4 : Int32)), .val (.int (3 : Int32))] [])
  refine E.lload (q := 166) X253 hx (hb hby d24_164) rfl ?_
  refine E.bipush (q := 168) (v := (16 : Int32)) X253 hx (hb hby d24_166) rfl ?_
  refine Ends.callS X253 hx hZ hown (hw _ (List.mem_of_getElem? (i := 140) rfl)) (hw _ (List.mem_of_getElem? (i := 141) rfl)) (hw _ (List.mem_of_getElem? (i := 142) rfl)) (hw _ (List.mem_of_getElem? (i := 143) rfl)) (by decide) (argsL := [(.long g245), (.int (16 : Int32))]) (rest := []) e253 (rm27 l Z a0 hw g245 (16 : Int32) _) (W := 0) (by decide) (by decide) (by rw [hml]; rfl) (lenOf pd_13 rfl) (Nat.le_of_eq rfl) (hb hby d24_168) (by decide) (by decide) rfl ?_
  rintro T255 v255 L255 X255 ⟨r255, rfl, e255, rfl⟩
  rw [List.append_nil] at X255
  show Ends none p e below s _ _ _ T255 (mkF m 171 #[.val (.long y0), .second, .val (.long y1), .second, .val (.ref oa), .val (.int (Int32.ofNat o)), .val (.int (Int32.ofNat (o + n))), .val (.long r253), .second, .val (.long g252), .second, .val (.long g254), .second, .val (.long g245), .second, .val (.int (1 : Int32)), .val (.int (1 : Int32)), .val (.long (0 : Int64)), .second, .val (.int (4 : Int32)), .val (.int (3 : Int32))] [(.long r255)])
  refine E.lload (q := 173) X255 hx (hb hby d24_171) rfl ?_
  refine E.lxor (q := 174) X255 hx (hb hby d24_173) ?_
  refine E.lstore (q := 176) (l' := #[.val (.long y0), .second, .val (.long y1), .second, .val (.ref oa), .val (.int (Int32.ofNat o)), .val (.int (Int32.ofNat (o + n))), .val (.long r253), .second, .val (.long g252), .second, .val (.long g254), .second, .val (.long (r255 ^^^ g254)), .second, .val (.int (1 : Int32)), .val (.int (1 : Int32)), .val (.long (0 : Int64)), .second, .val (.int (4 : Int32)), .val (.int (3 : Int32))]) X255 hx (hb hby d24_174) rfl ?_
  generalize (r255 ^^^ g254) = g256
  show Ends none p e below s _ _ _ T255 (mkF m 176 #[.val (.long y0), .second, .val (.long y1), .second, .val (.ref oa), .val (.int (Int32.ofNat o)), .val (.int (Int32.ofNat (o + n))), .val (.long r253), .second, .val (.long g252), .second, .val (.long g254), .second, .val (.long g256), .second, .val (.int (1 : Int32)), .val (.int (1 : Int32)), .val (.long (0 : Int64)), .second, .val (.int (4 : Int32)), .val (.int (3 : Int32))] [])
  refine E.lload (q := 178) X255 hx (hb hby d24_176) rfl ?_
  refine E.lload (q := 180) X255 hx (hb hby d24_178) rfl ?_
  refine E.ladd (q := 181) X255 hx (hb hby d24_180) ?_
  refine E.lstore (q := 183) (l' := #[.val (.long y0), .second, .val (.long y1), .second, .val (.ref oa), .val (.int (Int32.ofNat o)), .val (.int (Int32.ofNat (o + n))), .val (.long (r253 + g256)), .second, .val (.long g252), .second, .val (.long g254), .second, .val (.long g256), .second, .val (.int (1 : Int32)), .val (.int (1 : Int32)), .val (.long (0 : Int64)), .second, .val (.int (4 : Int32)), .val (.int (3 : Int32))]) X255 hx (hb hby d24_181) rfl ?_
  generalize (r253 + g256) = g257
  show Ends none p e below s _ _ _ T255 (mkF m 183 #[.val (.long y0), .second, .val (.long y1), .second, .val (.ref oa), .val (.int (Int32.ofNat o)), .val (.int (Int32.ofNat (o + n))), .val (.long g257), .second, .val (.long g252), .second, .val (.long g254), .second, .val (.long g256), .second, .val (.int (1 : Int32)), .val (.int (1 : Int32)), .val (.long (0 : Int64)), .second, .val (.int (4 : Int32)), .val (.int (3 : Int32))] [])
  refine E.lload (q := 185) X255 hx (hb hby d24_183) rfl ?_
  refine E.bipush (q := 187) (v := (21 : Int32)) X255 hx (hb hby d24_185) rfl ?_
  refine Ends.callS X255 hx hZ hown (hw _ (List.mem_of_getElem? (i := 140) rfl)) (hw _ (List.mem_of_getElem? (i := 141) rfl)) (hw _ (List.mem_of_getElem? (i := 142) rfl)) (hw _ (List.mem_of_getElem? (i := 143) rfl)) (by decide) (argsL := [(.long g256), (.int (21 : Int32))]) (rest := []) e255 (rm27 l Z a0 hw g256 (21 : Int32) _) (W := 0) (by decide) (by decide) (by rw [hml]; rfl) (lenOf pd_13 rfl) (Nat.le_of_eq rfl) (hb hby d24_187) (by decide) (by decide) rfl ?_
  rintro T258 v258 L258 X258 ⟨r258, rfl, e258, rfl⟩
  rw [List.append_nil] at X258
  show Ends none p e below s _ _ _ T258 (mkF m 190 #[.val (.long y0), .second, .val (.long y1), .second, .val (.ref oa), .val (.int (Int32.ofNat o)), .val (.int (Int32.ofNat (o + n))), .val (.long g257), .second, .val (.long g252), .second, .val (.long g254), .second, .val (.long g256), .second, .val (.int (1 : Int32)), .val (.int (1 : Int32)), .val (.long (0 : Int64)), .second, .val (.int (4 : Int32)), .val (.int (3 : Int32))] [(.long r258)])
  refine E.lload (q := 192) X258 hx (hb hby d24_190) rfl ?_
  refine E.lxor (q := 193) X258 hx (hb hby d24_192) ?_
  refine E.lstore (q := 195) (l' := #[.val (.long y0), .second, .val (.long y1), .second, .val (.ref oa), .val (.int (Int32.ofNat o)), .val (.int (Int32.ofNat (o + n))), .val (.long g257), .second, .val (.long g252), .second, .val (.long g254), .second, .val (.long (r258 ^^^ g257)), .second, .val (.int (1 : Int32)), .val (.int (1 : Int32)), .val (.long (0 : Int64)), .second, .val (.int (4 : Int32)), .val (.int (3 : Int32))]) X258 hx (hb hby d24_193) rfl ?_
  generalize (r258 ^^^ g257) = g259
  show Ends none p e below s _ _ _ T258 (mkF m 195 #[.val (.long y0), .second, .val (.long y1), .second, .val (.ref oa), .val (.int (Int32.ofNat o)), .val (.int (Int32.ofNat (o + n))), .val (.long g257), .second, .val (.long g252), .second, .val (.long g254), .second, .val (.long g259), .second, .val (.int (1 : Int32)), .val (.int (1 : Int32)), .val (.long (0 : Int64)), .second, .val (.int (4 : Int32)), .val (.int (3 : Int32))] [])
  refine E.lload (q := 197) X258 hx (hb hby d24_195) rfl ?_
  refine E.lload (q := 199) X258 hx (hb hby d24_197) rfl ?_
  refine E.ladd (q := 200) X258 hx (hb hby d24_199) ?_
  refine E.lstore (q := 202) (l' := #[.val (.long y0), .second, .val (.long y1), .second, .val (.ref oa), .val (.int (Int32.ofNat o)), .val (.int (Int32.ofNat (o + n))), .val (.long g257), .second, .val (.long g252), .second, .val (.long (g254 + g252)), .second, .val (.long g259), .second, .val (.int (1 : Int32)), .val (.int (1 : Int32)), .val (.long (0 : Int64)), .second, .val (.int (4 : Int32)), .val (.int (3 : Int32))]) X258 hx (hb hby d24_200) rfl ?_
  generalize (g254 + g252) = g260
  show Ends none p e below s _ _ _ T258 (mkF m 202 #[.val (.long y0), .second, .val (.long y1), .second, .val (.ref oa), .val (.int (Int32.ofNat o)), .val (.int (Int32.ofNat (o + n))), .val (.long g257), .second, .val (.long g252), .second, .val (.long g260), .second, .val (.long g259), .second, .val (.int (1 : Int32)), .val (.int (1 : Int32)), .val (.long (0 : Int64)), .second, .val (.int (4 : Int32)), .val (.int (3 : Int32))] [])
  refine E.lload (q := 204) X258 hx (hb hby d24_202) rfl ?_
  refine E.bipush (q := 206) (v := (17 : Int32)) X258 hx (hb hby d24_204) rfl ?_
  refine Ends.callS X258 hx hZ hown (hw _ (List.mem_of_getElem? (i := 140) rfl)) (hw _ (List.mem_of_getElem? (i := 141) rfl)) (hw _ (List.mem_of_getElem? (i := 142) rfl)) (hw _ (List.mem_of_getElem? (i := 143) rfl)) (by decide) (argsL := [(.long g252), (.int (17 : Int32))]) (rest := []) e258 (rm27 l Z a0 hw g252 (17 : Int32) _) (W := 0) (by decide) (by decide) (by rw [hml]; rfl) (lenOf pd_13 rfl) (Nat.le_of_eq rfl) (hb hby d24_206) (by decide) (by decide) rfl ?_
  rintro T261 v261 L261 X261 ⟨r261, rfl, e261, rfl⟩
  rw [List.append_nil] at X261
  show Ends none p e below s _ _ _ T261 (mkF m 209 #[.val (.long y0), .second, .val (.long y1), .second, .val (.ref oa), .val (.int (Int32.ofNat o)), .val (.int (Int32.ofNat (o + n))), .val (.long g257), .second, .val (.long g252), .second, .val (.long g260), .second, .val (.long g259), .second, .val (.int (1 : Int32)), .val (.int (1 : Int32)), .val (.long (0 : Int64)), .second, .val (.int (4 : Int32)), .val (.int (3 : Int32))] [(.long r261)])
  refine E.lload (q := 211) X261 hx (hb hby d24_209) rfl ?_
  refine E.lxor (q := 212) X261 hx (hb hby d24_211) ?_
  refine E.lstore (q := 214) (l' := #[.val (.long y0), .second, .val (.long y1), .second, .val (.ref oa), .val (.int (Int32.ofNat o)), .val (.int (Int32.ofNat (o + n))), .val (.long g257), .second, .val (.long (r261 ^^^ g260)), .second, .val (.long g260), .second, .val (.long g259), .second, .val (.int (1 : Int32)), .val (.int (1 : Int32)), .val (.long (0 : Int64)), .second, .val (.int (4 : Int32)), .val (.int (3 : Int32))]) X261 hx (hb hby d24_212) rfl ?_
  generalize (r261 ^^^ g260) = g262
  show Ends none p e below s _ _ _ T261 (mkF m 214 #[.val (.long y0), .second, .val (.long y1), .second, .val (.ref oa), .val (.int (Int32.ofNat o)), .val (.int (Int32.ofNat (o + n))), .val (.long g257), .second, .val (.long g262), .second, .val (.long g260), .second, .val (.long g259), .second, .val (.int (1 : Int32)), .val (.int (1 : Int32)), .val (.long (0 : Int64)), .second, .val (.int (4 : Int32)), .val (.int (3 : Int32))] [])
  refine E.lload (q := 216) X261 hx (hb hby d24_214) rfl ?_
  refine E.bipush (q := 218) (v := (32 : Int32)) X261 hx (hb hby d24_216) rfl ?_
  refine Ends.callS X261 hx hZ hown (hw _ (List.mem_of_getElem? (i := 140) rfl)) (hw _ (List.mem_of_getElem? (i := 141) rfl)) (hw _ (List.mem_of_getElem? (i := 142) rfl)) (hw _ (List.mem_of_getElem? (i := 143) rfl)) (by decide) (argsL := [(.long g260), (.int (32 : Int32))]) (rest := []) e261 (rm27 l Z a0 hw g260 (32 : Int32) _) (W := 0) (by decide) (by decide) (by rw [hml]; rfl) (lenOf pd_13 rfl) (Nat.le_of_eq rfl) (hb hby d24_218) (by decide) (by decide) rfl ?_
  rintro T263 v263 L263 X263 ⟨r263, rfl, e263, rfl⟩
  rw [List.append_nil] at X263
  show Ends none p e below s _ _ _ T263 (mkF m 221 #[.val (.long y0), .second, .val (.long y1), .second, .val (.ref oa), .val (.int (Int32.ofNat o)), .val (.int (Int32.ofNat (o + n))), .val (.long g257), .second, .val (.long g262), .second, .val (.long g260), .second, .val (.long g259), .second, .val (.int (1 : Int32)), .val (.int (1 : Int32)), .val (.long (0 : Int64)), .second, .val (.int (4 : Int32)), .val (.int (3 : Int32))] [(.long r263)])
  refine E.lstore (q := 223) (l' := #[.val (.long y0), .second, .val (.long y1), .second, .val (.ref oa), .val (.int (Int32.ofNat o)), .val (.int (Int32.ofNat (o + n))), .val (.long g257), .second, .val (.long g262), .second, .val (.long r263), .second, .val (.long g259), .second, .val (.int (1 : Int32)), .val (.int (1 : Int32)), .val (.long (0 : Int64)), .second, .val (.int (4 : Int32)), .val (.int (3 : Int32))]) X263 hx (hb hby d24_221) rfl ?_
  refine E.iinc (q := 226) (v := (4 : Int32)) (l' := #[.val (.long y0), .second, .val (.long y1), .second, .val (.ref oa), .val (.int (Int32.ofNat o)), .val (.int (Int32.ofNat (o + n))), .val (.long g257), .second, .val (.long g262), .second, .val (.long r263), .second, .val (.long g259), .second, .val (.int (1 : Int32)), .val (.int (1 : Int32)), .val (.long (0 : Int64)), .second, .val (.int (4 : Int32)), .val (.int (4 : Int32))]) X263 hx (hb hby d24_223) rfl (by decide) rfl ?_
  refine E.goto (q := 122) X263 hx (hb hby d24_226) ?_
  refine E.iload (q := 124) X263 hx (hb hby d24_122) rfl ?_
  refine E.iload (q := 126) X263 hx (hb hby d24_124) rfl ?_
  refine E.icmpY (q := 229) X263 hx (hb hby d24_126) (XT.ii_ge_t (by decide)) ?_
  refine E.lload (q := 231) X263 hx (hb hby d24_229) rfl ?_
  refine E.lload (q := 233) X263 hx (hb hby d24_231) rfl ?_
  refine E.lxor (q := 234) X263 hx (hb hby d24_233) ?_
  refine E.lstore (q := 236) (l' := #[.val (.long y0), .second, .val (.long y1), .second, .val (.ref oa), .val (.int (Int32.ofNat o)), .val (.int (Int32.ofNat (o + n))), .val (.long (g257 ^^^ (0 : Int64))), .second, .val (.long g262), .second, .val (.long r263), .second, .val (.long g259), .second, .val (.int (1 : Int32)), .val (.int (1 : Int32)), .val (.long (0 : Int64)), .second, .val (.int (4 : Int32)), .val (.int (4 : Int32))]) X263 hx (hb hby d24_234) rfl ?_
  generalize (g257 ^^^ (0 : Int64)) = g264
  show Ends none p e below s _ _ _ T263 (mkF m 236 #[.val (.long y0), .second, .val (.long y1), .second, .val (.ref oa), .val (.int (Int32.ofNat o)), .val (.int (Int32.ofNat (o + n))), .val (.long g264), .second, .val (.long g262), .second, .val (.long r263), .second, .val (.long g259), .second, .val (.int (1 : Int32)), .val (.int (1 : Int32)), .val (.long (0 : Int64)), .second, .val (.int (4 : Int32)), .val (.int (4 : Int32))] [])
  refine E.iinc (q := 239) (v := (2 : Int32)) (l' := #[.val (.long y0), .second, .val (.long y1), .second, .val (.ref oa), .val (.int (Int32.ofNat o)), .val (.int (Int32.ofNat (o + n))), .val (.long g264), .second, .val (.long g262), .second, .val (.long r263), .second, .val (.long g259), .second, .val (.int (1 : Int32)), .val (.int (2 : Int32)), .val (.long (0 : Int64)), .second, .val (.int (4 : Int32)), .val (.int (4 : Int32))]) X263 hx (hb hby d24_236) rfl (by decide) rfl ?_
  refine E.goto (q := 43) X263 hx (hb hby d24_239) ?_
  refine E.iload (q := 45) X263 hx (hb hby d24_43) rfl ?_
  refine E.iload (q := 47) X263 hx (hb hby d24_45) rfl ?_
  refine E.icmpY (q := 242) X263 hx (hb hby d24_47) (XT.ii_gt_t (by decide)) ?_
  refine E.lload (q := 244) X263 hx (hb hby d24_242) rfl ?_
  refine E.lload (q := 246) X263 hx (hb hby d24_244) rfl ?_
  refine E.lxor (q := 247) X263 hx (hb hby d24_246) ?_
  refine E.lload (q := 249) X263 hx (hb hby d24_247) rfl ?_
  refine E.lxor (q := 250) X263 hx (hb hby d24_249) ?_
  refine E.lload (q := 252) X263 hx (hb hby d24_250) rfl ?_
  refine E.lxor (q := 253) X263 hx (hb hby d24_252) ?_
  exact Ends.retJ X263 hx hlk hret (hb hby d24_253) (by decide) (by decide) ⟨_, rfl, e263, rfl⟩
theorem ef_4 (m : MethodId) (x0 : Addr) (x1 : Int32) : entryFrame m #[(.ref x0), (.int x1)] 4 = mkF m 0 #[.val (.ref x0), .val (.int x1), .unset, .unset] [] := by first | (simp [entryFrame, mkF, argsToLocals, Value.category]; done) | rfl
set_option maxRecDepth 65536 in
set_option maxHeartbeats 40000000 in
theorem rm4 (l : Launch) (Z : State) (a0 : Array Value) (hw : ∀ d ∈ tables_1, d.before a0 Z = true) (oa : Addr) (h0 : Heap) (A_a : Ary Z h0 oa .int [(.int (0 : Int32)), (.int (0 : Int32)), (.int (0 : Int32)), (.int (0 : Int32)), (.int (0 : Int32)), (.int (0 : Int32)), (.int (0 : Int32)), (.int (0 : Int32)), (.int (0 : Int32)), (.int (0 : Int32)), (.int (0 : Int32)), (.int (0 : Int32)), (.int (0 : Int32)), (.int (0 : Int32)), (.int (0 : Int32)), (.int (0 : Int32))]) :
    Con l (⟨"java/util/Arrays", "fill", "([II)V"⟩ : MethodName) jdk_65_method_103_code 4 none [] ({ frames := 0, cells := 0, slots := 0, locals := 0 } : Room) #[(.ref oa), (.int (-1 : Int32))] Z h0 (fun v h L => v = none ∧ Ok h0 h [oa] L ∧ Ary Z h oa .int [(.int (-1 : Int32)), (.int (-1 : Int32)), (.int (-1 : Int32)), (.int (-1 : Int32)), (.int (-1 : Int32)), (.int (-1 : Int32)), (.int (-1 : Int32)), (.int (-1 : Int32)), (.int (-1 : Int32)), (.int (-1 : Int32)), (.int (-1 : Int32)), (.int (-1 : Int32)), (.int (-1 : Int32)), (.int (-1 : Int32)), (.int (-1 : Int32)), (.int (-1 : Int32))]) := by
  refine Con.of (plainFor_of_name pn_7) ?_
  intro p e s m below meth c s₁ hx hZ hby hml hown hnm hret hlk X0 e0
  refine Ends.cast (ef_4 m oa (-1 : Int32)) ?_
  show Ends none p e below s _ _ _ s₁ (mkF m 0 #[.val (.ref oa), .val (.int (-1 : Int32)), .unset, .unset] [])
  have O0 := Ok.refl h0 [oa]
  refine E.iconst (q := 1) (v := (0 : Int32)) X0 hx (hb hby d4_0) rfl ?_
  refine E.istoreN (q := 2) (l' := #[.val (.ref oa), .val (.int (-1 : Int32)), .val (.int (0 : Int32)), .unset]) X0 hx (hb hby d4_1) rfl ?_
  refine E.aloadN (q := 3) X0 hx (hb hby d4_2) rfl rfl ?_
  refine Ends.alen X0 hx hZ e0 A_a (hb hby d4_3) (n := (16 : Int32)) rfl ?_
  refine E.istoreN (q := 5) (l' := #[.val (.ref oa), .val (.int (-1 : Int32)), .val (.int (0 : Int32)), .val (.int (16 : Int32))]) X0 hx (hb hby d4_4) rfl ?_
  refine E.iloadN (q := 6) X0 hx (hb hby d4_5) rfl ?_
  refine E.iloadN (q := 7) X0 hx (hb hby d4_6) rfl ?_
  refine E.icmpN (q := 10) X0 hx (hb hby d4_7) (XT.ii_ge_f (by decide)) ?_
  refine E.aloadN (q := 11) X0 hx (hb hby d4_10) rfl rfl ?_
  refine E.iloadN (q := 12) X0 hx (hb hby d4_11) rfl ?_
  refine E.iloadN (q := 13) X0 hx (hb hby d4_12) rfl ?_
  refine Ends.ist X0 hx hZ e0 A_a (i := 0) rfl (show 0 < 16 from by decide) (hb hby d4_13) ?_
  intro T265 h265 X265 e265 W265 V265
  have V265 : Ary Z h265 oa .int [(.int (-1 : Int32)), (.int (0 : Int32)), (.int (0 : Int32)), (.int (0 : Int32)), (.int (0 : Int32)), (.int (0 : Int32)), (.int (0 : Int32)), (.int (0 : Int32)), (.int (0 : Int32)), (.int (0 : Int32)), (.int (0 : Int32)), (.int (0 : Int32)), (.int (0 : Int32)), (.int (0 : Int32)), (.int (0 : Int32)), (.int (0 : Int32))] := V265
  have O265 := O0.wr W265 (Or.inl (List.mem_of_getElem? (i := 0) rfl))
  refine E.iinc (q := 17) (v := (1 : Int32)) (l' := #[.val (.ref oa), .val (.int (-1 : Int32)), .val (.int (1 : Int32)), .val (.int (16 : Int32))]) X265 hx (hb hby d4_14) rfl (by decide) rfl ?_
  refine E.goto (q := 5) X265 hx (hb hby d4_17) ?_
  refine E.iloadN (q := 6) X265 hx (hb hby d4_5) rfl ?_
  refine E.iloadN (q := 7) X265 hx (hb hby d4_6) rfl ?_
  refine E.icmpN (q := 10) X265 hx (hb hby d4_7) (XT.ii_ge_f (by decide)) ?_
  refine E.aloadN (q := 11) X265 hx (hb hby d4_10) rfl rfl ?_
  refine E.iloadN (q := 12) X265 hx (hb hby d4_11) rfl ?_
  refine E.iloadN (q := 13) X265 hx (hb hby d4_12) rfl ?_
  refine Ends.ist X265 hx hZ e265 V265 (i := 1) rfl (show 1 < 16 from by decide) (hb hby d4_13) ?_
  intro T266 h266 X266 e266 W266 V266
  have V266 : Ary Z h266 oa .int [(.int (-1 : Int32)), (.int (-1 : Int32)), (.int (0 : Int32)), (.int (0 : Int32)), (.int (0 : Int32)), (.int (0 : Int32)), (.int (0 : Int32)), (.int (0 : Int32)), (.int (0 : Int32)), (.int (0 : Int32)), (.int (0 : Int32)), (.int (0 : Int32)), (.int (0 : Int32)), (.int (0 : Int32)), (.int (0 : Int32)), (.int (0 : Int32))] := V266
  have O266 := O265.wr W266 (Or.inl (List.mem_of_getElem? (i := 0) rfl))
  refine E.iinc (q := 17) (v := (2 : Int32)) (l' := #[.val (.ref oa), .val (.int (-1 : Int32)), .val (.int (2 : Int32)), .val (.int (16 : Int32))]) X266 hx (hb hby d4_14) rfl (by decide) rfl ?_
  refine E.goto (q := 5) X266 hx (hb hby d4_17) ?_
  refine E.iloadN (q := 6) X266 hx (hb hby d4_5) rfl ?_
  refine E.iloadN (q := 7) X266 hx (hb hby d4_6) rfl ?_
  refine E.icmpN (q := 10) X266 hx (hb hby d4_7) (XT.ii_ge_f (by decide)) ?_
  refine E.aloadN (q := 11) X266 hx (hb hby d4_10) rfl rfl ?_
  refine E.iloadN (q := 12) X266 hx (hb hby d4_11) rfl ?_
  refine E.iloadN (q := 13) X266 hx (hb hby d4_12) rfl ?_
  refine Ends.ist X266 hx hZ e266 V266 (i := 2) rfl (show 2 < 16 from by decide) (hb hby d4_13) ?_
  intro T267 h267 X267 e267 W267 V267
  have V267 : Ary Z h267 oa .int [(.int (-1 : Int32)), (.int (-1 : Int32)), (.int (-1 : Int32)), (.int (0 : Int32)), (.int (0 : Int32)), (.int (0 : Int32)), (.int (0 : Int32)), (.int (0 : Int32)), (.int (0 : Int32)), (.int (0 : Int32)), (.int (0 : Int32)), (.int (0 : Int32)), (.int (0 : Int32)), (.int (0 : Int32)), (.int (0 : Int32)), (.int (0 : Int32))] := V267
  have O267 := O266.wr W267 (Or.inl (List.mem_of_getElem? (i := 0) rfl))
  refine E.iinc (q := 17) (v := (3 : Int32)) (l' := #[.val (.ref oa), .val (.int (-1 : Int32)), .val (.int (3 : Int32)), .val (.int (16 : Int32))]) X267 hx (hb hby d4_14) rfl (by decide) rfl ?_
  refine E.goto (q := 5) X267 hx (hb hby d4_17) ?_
  refine E.iloadN (q := 6) X267 hx (hb hby d4_5) rfl ?_
  refine E.iloadN (q := 7) X267 hx (hb hby d4_6) rfl ?_
  refine E.icmpN (q := 10) X267 hx (hb hby d4_7) (XT.ii_ge_f (by decide)) ?_
  refine E.aloadN (q := 11) X267 hx (hb hby d4_10) rfl rfl ?_
  refine E.iloadN (q := 12) X267 hx (hb hby d4_11) rfl ?_
  refine E.iloadN (q := 13) X267 hx (hb hby d4_12) rfl ?_
  refine Ends.ist X267 hx hZ e267 V267 (i := 3) rfl (show 3 < 16 from by decide) (hb hby d4_13) ?_
  intro T268 h268 X268 e268 W268 V268
  have V268 : Ary Z h268 oa .int [(.int (-1 : Int32)), (.int (-1 : Int32)), (.int (-1 : Int32)), (.int (-1 : Int32)), (.int (0 : Int32)), (.int (0 : Int32)), (.int (0 : Int32)), (.int (0 : Int32)), (.int (0 : Int32)), (.int (0 : Int32)), (.int (0 : Int32)), (.int (0 : Int32)), (.int (0 : Int32)), (.int (0 : Int32)), (.int (0 : Int32)), (.int (0 : Int32))] := V268
  have O268 := O267.wr W268 (Or.inl (List.mem_of_getElem? (i := 0) rfl))
  refine E.iinc (q := 17) (v := (4 : Int32)) (l' := #[.val (.ref oa), .val (.int (-1 : Int32)), .val (.int (4 : Int32)), .val (.int (16 : Int32))]) X268 hx (hb hby d4_14) rfl (by decide) rfl ?_
  refine E.goto (q := 5) X268 hx (hb hby d4_17) ?_
  refine E.iloadN (q := 6) X268 hx (hb hby d4_5) rfl ?_
  refine E.iloadN (q := 7) X268 hx (hb hby d4_6) rfl ?_
  refine E.icmpN (q := 10) X268 hx (hb hby d4_7) (XT.ii_ge_f (by decide)) ?_
  refine E.aloadN (q := 11) X268 hx (hb hby d4_10) rfl rfl ?_
  refine E.iloadN (q := 12) X268 hx (hb hby d4_11) rfl ?_
  refine E.iloadN (q := 13) X268 hx (hb hby d4_12) rfl ?_
  refine Ends.ist X268 hx hZ e268 V268 (i := 4) rfl (show 4 < 16 from by decide) (hb hby d4_13) ?_
  intro T269 h269 X269 e269 W269 V269
  have V269 : Ary Z h269 oa .int [(.int (-1 : Int32)), (.int (-1 : Int32)), (.int (-1 : Int32)), (.int (-1 : Int32)), (.int (-1 : Int32)), (.int (0 : Int32)), (.int (0 : Int32)), (.int (0 : Int32)), (.int (0 : Int32)), (.int (0 : Int32)), (.int (0 : Int32)), (.int (0 : Int32)), (.int (0 : Int32)), (.int (0 : Int32)), (.int (0 : Int32)), (.int (0 : Int32))] := V269
  have O269 := O268.wr W269 (Or.inl (List.mem_of_getElem? (i := 0) rfl))
  refine E.iinc (q := 17) (v := (5 : Int32)) (l' := #[.val (.ref oa), .val (.int (-1 : Int32)), .val (.int (5 : Int32)), .val (.int (16 : Int32))]) X269 hx (hb hby d4_14) rfl (by decide) rfl ?_
  refine E.goto (q := 5) X269 hx (hb hby d4_17) ?_
  refine E.iloadN (q := 6) X269 hx (hb hby d4_5) rfl ?_
  refine E.iloadN (q := 7) X269 hx (hb hby d4_6) rfl ?_
  refine E.icmpN (q := 10) X269 hx (hb hby d4_7) (XT.ii_ge_f (by decide)) ?_
  refine E.aloadN (q := 11) X269 hx (hb hby d4_10) rfl rfl ?_
  refine E.iloadN (q := 12) X269 hx (hb hby d4_11) rfl ?_
  refine E.iloadN (q := 13) X269 hx (hb hby d4_12) rfl ?_
  refine Ends.ist X269 hx hZ e269 V269 (i := 5) rfl (show 5 < 16 from by decide) (hb hby d4_13) ?_
  intro T270 h270 X270 e270 W270 V270
  have V270 : Ary Z h270 oa .int [(.int (-1 : Int32)), (.int (-1 : Int32)), (.int (-1 : Int32)), (.int (-1 : Int32)), (.int (-1 : Int32)), (.int (-1 : Int32)), (.int (0 : Int32)), (.int (0 : Int32)), (.int (0 : Int32)), (.int (0 : Int32)), (.int (0 : Int32)), (.int (0 : Int32)), (.int (0 : Int32)), (.int (0 : Int32)), (.int (0 : Int32)), (.int (0 : Int32))] := V270
  have O270 := O269.wr W270 (Or.inl (List.mem_of_getElem? (i := 0) rfl))
  refine E.iinc (q := 17) (v := (6 : Int32)) (l' := #[.val (.ref oa), .val (.int (-1 : Int32)), .val (.int (6 : Int32)), .val (.int (16 : Int32))]) X270 hx (hb hby d4_14) rfl (by decide) rfl ?_
  refine E.goto (q := 5) X270 hx (hb hby d4_17) ?_
  refine E.iloadN (q := 6) X270 hx (hb hby d4_5) rfl ?_
  refine E.iloadN (q := 7) X270 hx (hb hby d4_6) rfl ?_
  refine E.icmpN (q := 10) X270 hx (hb hby d4_7) (XT.ii_ge_f (by decide)) ?_
  refine E.aloadN (q := 11) X270 hx (hb hby d4_10) rfl rfl ?_
  refine E.iloadN (q := 12) X270 hx (hb hby d4_11) rfl ?_
  refine E.iloadN (q := 13) X270 hx (hb hby d4_12) rfl ?_
  refine Ends.ist X270 hx hZ e270 V270 (i := 6) rfl (show 6 < 16 from by decide) (hb hby d4_13) ?_
  intro T271 h271 X271 e271 W271 V271
  have V271 : Ary Z h271 oa .int [(.int (-1 : Int32)), (.int (-1 : Int32)), (.int (-1 : Int32)), (.int (-1 : Int32)), (.int (-1 : Int32)), (.int (-1 : Int32)), (.int (-1 : Int32)), (.int (0 : Int32)), (.int (0 : Int32)), (.int (0 : Int32)), (.int (0 : Int32)), (.int (0 : Int32)), (.int (0 : Int32)), (.int (0 : Int32)), (.int (0 : Int32)), (.int (0 : Int32))] := V271
  have O271 := O270.wr W271 (Or.inl (List.mem_of_getElem? (i := 0) rfl))
  refine E.iinc (q := 17) (v := (7 : Int32)) (l' := #[.val (.ref oa), .val (.int (-1 : Int32)), .val (.int (7 : Int32)), .val (.int (16 : Int32))]) X271 hx (hb hby d4_14) rfl (by decide) rfl ?_
  refine E.goto (q := 5) X271 hx (hb hby d4_17) ?_
  refine E.iloadN (q := 6) X271 hx (hb hby d4_5) rfl ?_
  refine E.iloadN (q := 7) X271 hx (hb hby d4_6) rfl ?_
  refine E.icmpN (q := 10) X271 hx (hb hby d4_7) (XT.ii_ge_f (by decide)) ?_
  refine E.aloadN (q := 11) X271 hx (hb hby d4_10) rfl rfl ?_
  refine E.iloadN (q := 12) X271 hx (hb hby d4_11) rfl ?_
  refine E.iloadN (q := 13) X271 hx (hb hby d4_12) rfl ?_
  refine Ends.ist X271 hx hZ e271 V271 (i := 7) rfl (show 7 < 16 from by decide) (hb hby d4_13) ?_
  intro T272 h272 X272 e272 W272 V272
  have V272 : Ary Z h272 oa .int [(.int (-1 : Int32)), (.int (-1 : Int32)), (.int (-1 : Int32)), (.int (-1 : Int32)), (.int (-1 : Int32)), (.int (-1 : Int32)), (.int (-1 : Int32)), (.int (-1 : Int32)), (.int (0 : Int32)), (.int (0 : Int32)), (.int (0 : Int32)), (.int (0 : Int32)), (.int (0 : Int32)), (.int (0 : Int32)), (.int (0 : Int32)), (.int (0 : Int32))] := V272
  have O272 := O271.wr W272 (Or.inl (List.mem_of_getElem? (i := 0) rfl))
  refine E.iinc (q := 17) (v := (8 : Int32)) (l' := #[.val (.ref oa), .val (.int (-1 : Int32)), .val (.int (8 : Int32)), .val (.int (16 : Int32))]) X272 hx (hb hby d4_14) rfl (by decide) rfl ?_
  refine E.goto (q := 5) X272 hx (hb hby d4_17) ?_
  refine E.iloadN (q := 6) X272 hx (hb hby d4_5) rfl ?_
  refine E.iloadN (q := 7) X272 hx (hb hby d4_6) rfl ?_
  refine E.icmpN (q := 10) X272 hx (hb hby d4_7) (XT.ii_ge_f (by decide)) ?_
  refine E.aloadN (q := 11) X272 hx (hb hby d4_10) rfl rfl ?_
  refine E.iloadN (q := 12) X272 hx (hb hby d4_11) rfl ?_
  refine E.iloadN (q := 13) X272 hx (hb hby d4_12) rfl ?_
  refine Ends.ist X272 hx hZ e272 V272 (i := 8) rfl (show 8 < 16 from by decide) (hb hby d4_13) ?_
  intro T273 h273 X273 e273 W273 V273
  have V273 : Ary Z h273 oa .int [(.int (-1 : Int32)), (.int (-1 : Int32)), (.int (-1 : Int32)), (.int (-1 : Int32)), (.int (-1 : Int32)), (.int (-1 : Int32)), (.int (-1 : Int32)), (.int (-1 : Int32)), (.int (-1 : Int32)), (.int (0 : Int32)), (.int (0 : Int32)), (.int (0 : Int32)), (.int (0 : Int32)), (.int (0 : Int32)), (.int (0 : Int32)), (.int (0 : Int32))] := V273
  have O273 := O272.wr W273 (Or.inl (List.mem_of_getElem? (i := 0) rfl))
  refine E.iinc (q := 17) (v := (9 : Int32)) (l' := #[.val (.ref oa), .val (.int (-1 : Int32)), .val (.int (9 : Int32)), .val (.int (16 : Int32))]) X273 hx (hb hby d4_14) rfl (by decide) rfl ?_
  refine E.goto (q := 5) X273 hx (hb hby d4_17) ?_
  refine E.iloadN (q := 6) X273 hx (hb hby d4_5) rfl ?_
  refine E.iloadN (q := 7) X273 hx (hb hby d4_6) rfl ?_
  refine E.icmpN (q := 10) X273 hx (hb hby d4_7) (XT.ii_ge_f (by decide)) ?_
  refine E.aloadN (q := 11) X273 hx (hb hby d4_10) rfl rfl ?_
  refine E.iloadN (q := 12) X273 hx (hb hby d4_11) rfl ?_
  refine E.iloadN (q := 13) X273 hx (hb hby d4_12) rfl ?_
  refine Ends.ist X273 hx hZ e273 V273 (i := 9) rfl (show 9 < 16 from by decide) (hb hby d4_13) ?_
  intro T274 h274 X274 e274 W274 V274
  have V274 : Ary Z h274 oa .int [(.int (-1 : Int32)), (.int (-1 : Int32)), (.int (-1 : Int32)), (.int (-1 : Int32)), (.int (-1 : Int32)), (.int (-1 : Int32)), (.int (-1 : Int32)), (.int (-1 : Int32)), (.int (-1 : Int32)), (.int (-1 : Int32)), (.int (0 : Int32)), (.int (0 : Int32)), (.int (0 : Int32)), (.int (0 : Int32)), (.int (0 : Int32)), (.int (0 : Int32))] := V274
  have O274 := O273.wr W274 (Or.inl (List.mem_of_getElem? (i := 0) rfl))
  refine E.iinc (q := 17) (v := (10 : Int32)) (l' := #[.val (.ref oa), .val (.int (-1 : Int32)), .val (.int (10 : Int32)), .val (.int (16 : Int32))]) X274 hx (hb hby d4_14) rfl (by decide) rfl ?_
  refine E.goto (q := 5) X274 hx (hb hby d4_17) ?_
  refine E.iloadN (q := 6) X274 hx (hb hby d4_5) rfl ?_
  refine E.iloadN (q := 7) X274 hx (hb hby d4_6) rfl ?_
  refine E.icmpN (q := 10) X274 hx (hb hby d4_7) (XT.ii_ge_f (by decide)) ?_
  refine E.aloadN (q := 11) X274 hx (hb hby d4_10) rfl rfl ?_
  refine E.iloadN (q := 12) X274 hx (hb hby d4_11) rfl ?_
  refine E.iloadN (q := 13) X274 hx (hb hby d4_12) rfl ?_
  refine Ends.ist X274 hx hZ e274 V274 (i := 10) rfl (show 10 < 16 from by decide) (hb hby d4_13) ?_
  intro T275 h275 X275 e275 W275 V275
  have V275 : Ary Z h275 oa .int [(.int (-1 : Int32)), (.int (-1 : Int32)), (.int (-1 : Int32)), (.int (-1 : Int32)), (.int (-1 : Int32)), (.int (-1 : Int32)), (.int (-1 : Int32)), (.int (-1 : Int32)), (.int (-1 : Int32)), (.int (-1 : Int32)), (.int (-1 : Int32)), (.int (0 : Int32)), (.int (0 : Int32)), (.int (0 : Int32)), (.int (0 : Int32)), (.int (0 : Int32))] := V275
  have O275 := O274.wr W275 (Or.inl (List.mem_of_getElem? (i := 0) rfl))
  refine E.iinc (q := 17) (v := (11 : Int32)) (l' := #[.val (.ref oa), .val (.int (-1 : Int32)), .val (.int (11 : Int32)), .val (.int (16 : Int32))]) X275 hx (hb hby d4_14) rfl (by decide) rfl ?_
  refine E.goto (q := 5) X275 hx (hb hby d4_17) ?_
  refine E.iloadN (q := 6) X275 hx (hb hby d4_5) rfl ?_
  refine E.iloadN (q := 7) X275 hx (hb hby d4_6) rfl ?_
  refine E.icmpN (q := 10) X275 hx (hb hby d4_7) (XT.ii_ge_f (by decide)) ?_
  refine E.aloadN (q := 11) X275 hx (hb hby d4_10) rfl rfl ?_
  refine E.iloadN (q := 12) X275 hx (hb hby d4_11) rfl ?_
  refine E.iloadN (q := 13) X275 hx (hb hby d4_12) rfl ?_
  refine Ends.ist X275 hx hZ e275 V275 (i := 11) rfl (show 11 < 16 from by decide) (hb hby d4_13) ?_
  intro T276 h276 X276 e276 W276 V276
  have V276 : Ary Z h276 oa .int [(.int (-1 : Int32)), (.int (-1 : Int32)), (.int (-1 : Int32)), (.int (-1 : Int32)), (.int (-1 : Int32)), (.int (-1 : Int32)), (.int (-1 : Int32)), (.int (-1 : Int32)), (.int (-1 : Int32)), (.int (-1 : Int32)), (.int (-1 : Int32)), (.int (-1 : Int32)), (.int (0 : Int32)), (.int (0 : Int32)), (.int (0 : Int32)), (.int (0 : Int32))] := V276
  have O276 := O275.wr W276 (Or.inl (List.mem_of_getElem? (i := 0) rfl))
  refine E.iinc (q := 17) (v := (12 : Int32)) (l' := #[.val (.ref oa), .val (.int (-1 : Int32)), .val (.int (12 : Int32)), .val (.int (16 : Int32))]) X276 hx (hb hby d4_14) rfl (by decide) rfl ?_
  refine E.goto (q := 5) X276 hx (hb hby d4_17) ?_
  refine E.iloadN (q := 6) X276 hx (hb hby d4_5) rfl ?_
  refine E.iloadN (q := 7) X276 hx (hb hby d4_6) rfl ?_
  refine E.icmpN (q := 10) X276 hx (hb hby d4_7) (XT.ii_ge_f (by decide)) ?_
  refine E.aloadN (q := 11) X276 hx (hb hby d4_10) rfl rfl ?_
  refine E.iloadN (q := 12) X276 hx (hb hby d4_11) rfl ?_
  refine E.iloadN (q := 13) X276 hx (hb hby d4_12) rfl ?_
  refine Ends.ist X276 hx hZ e276 V276 (i := 12) rfl (show 12 < 16 from by decide) (hb hby d4_13) ?_
  intro T277 h277 X277 e277 W277 V277
  have V277 : Ary Z h277 oa .int [(.int (-1 : Int32)), (.int (-1 : Int32)), (.int (-1 : Int32)), (.int (-1 : Int32)), (.int (-1 : Int32)), (.int (-1 : Int32)), (.int (-1 : Int32)), (.int (-1 : Int32)), (.int (-1 : Int32)), (.int (-1 : Int32)), (.int (-1 : Int32)), (.int (-1 : Int32)), (.int (-1 : Int32)), (.int (0 : Int32)), (.int (0 : Int32)), (.int (0 : Int32))] := V277
  have O277 := O276.wr W277 (Or.inl (List.mem_of_getElem? (i := 0) rfl))
  refine E.iinc (q := 17) (v := (13 : Int32)) (l' := #[.val (.ref oa), .val (.int (-1 : Int32)), .val (.int (13 : Int32)), .val (.int (16 : Int32))]) X277 hx (hb hby d4_14) rfl (by decide) rfl ?_
  refine E.goto (q := 5) X277 hx (hb hby d4_17) ?_
  refine E.iloadN (q := 6) X277 hx (hb hby d4_5) rfl ?_
  refine E.iloadN (q := 7) X277 hx (hb hby d4_6) rfl ?_
  refine E.icmpN (q := 10) X277 hx (hb hby d4_7) (XT.ii_ge_f (by decide)) ?_
  refine E.aloadN (q := 11) X277 hx (hb hby d4_10) rfl rfl ?_
  refine E.iloadN (q := 12) X277 hx (hb hby d4_11) rfl ?_
  refine E.iloadN (q := 13) X277 hx (hb hby d4_12) rfl ?_
  refine Ends.ist X277 hx hZ e277 V277 (i := 13) rfl (show 13 < 16 from by decide) (hb hby d4_13) ?_
  intro T278 h278 X278 e278 W278 V278
  have V278 : Ary Z h278 oa .int [(.int (-1 : Int32)), (.int (-1 : Int32)), (.int (-1 : Int32)), (.int (-1 : Int32)), (.int (-1 : Int32)), (.int (-1 : Int32)), (.int (-1 : Int32)), (.int (-1 : Int32)), (.int (-1 : Int32)), (.int (-1 : Int32)), (.int (-1 : Int32)), (.int (-1 : Int32)), (.int (-1 : Int32)), (.int (-1 : Int32)), (.int (0 : Int32)), (.int (0 : Int32))] := V278
  have O278 := O277.wr W278 (Or.inl (List.mem_of_getElem? (i := 0) rfl))
  refine E.iinc (q := 17) (v := (14 : Int32)) (l' := #[.val (.ref oa), .val (.int (-1 : Int32)), .val (.int (14 : Int32)), .val (.int (16 : Int32))]) X278 hx (hb hby d4_14) rfl (by decide) rfl ?_
  refine E.goto (q := 5) X278 hx (hb hby d4_17) ?_
  refine E.iloadN (q := 6) X278 hx (hb hby d4_5) rfl ?_
  refine E.iloadN (q := 7) X278 hx (hb hby d4_6) rfl ?_
  refine E.icmpN (q := 10) X278 hx (hb hby d4_7) (XT.ii_ge_f (by decide)) ?_
  refine E.aloadN (q := 11) X278 hx (hb hby d4_10) rfl rfl ?_
  refine E.iloadN (q := 12) X278 hx (hb hby d4_11) rfl ?_
  refine E.iloadN (q := 13) X278 hx (hb hby d4_12) rfl ?_
  refine Ends.ist X278 hx hZ e278 V278 (i := 14) rfl (show 14 < 16 from by decide) (hb hby d4_13) ?_
  intro T279 h279 X279 e279 W279 V279
  have V279 : Ary Z h279 oa .int [(.int (-1 : Int32)), (.int (-1 : Int32)), (.int (-1 : Int32)), (.int (-1 : Int32)), (.int (-1 : Int32)), (.int (-1 : Int32)), (.int (-1 : Int32)), (.int (-1 : Int32)), (.int (-1 : Int32)), (.int (-1 : Int32)), (.int (-1 : Int32)), (.int (-1 : Int32)), (.int (-1 : Int32)), (.int (-1 : Int32)), (.int (-1 : Int32)), (.int (0 : Int32))] := V279
  have O279 := O278.wr W279 (Or.inl (List.mem_of_getElem? (i := 0) rfl))
  refine E.iinc (q := 17) (v := (15 : Int32)) (l' := #[.val (.ref oa), .val (.int (-1 : Int32)), .val (.int (15 : Int32)), .val (.int (16 : Int32))]) X279 hx (hb hby d4_14) rfl (by decide) rfl ?_
  refine E.goto (q := 5) X279 hx (hb hby d4_17) ?_
  refine E.iloadN (q := 6) X279 hx (hb hby d4_5) rfl ?_
  refine E.iloadN (q := 7) X279 hx (hb hby d4_6) rfl ?_
  refine E.icmpN (q := 10) X279 hx (hb hby d4_7) (XT.ii_ge_f (by decide)) ?_
  refine E.aloadN (q := 11) X279 hx (hb hby d4_10) rfl rfl ?_
  refine E.iloadN (q := 12) X279 hx (hb hby d4_11) rfl ?_
  refine E.iloadN (q := 13) X279 hx (hb hby d4_12) rfl ?_
  refine Ends.ist X279 hx hZ e279 V279 (i := 15) rfl (show 15 < 16 from by decide) (hb hby d4_13) ?_
  intro T280 h280 X280 e280 W280 V280
  have V280 : Ary Z h280 oa .int [(.int (-1 : Int32)), (.int (-1 : Int32)), (.int (-1 : Int32)), (.int (-1 : Int32)), (.int (-1 : Int32)), (.int (-1 : Int32)), (.int (-1 : Int32)), (.int (-1 : Int32)), (.int (-1 : Int32)), (.int (-1 : Int32)), (.int (-1 : Int32)), (.int (-1 : Int32)), (.int (-1 : Int32)), (.int (-1 : Int32)), (.int (-1 : Int32)), (.int (-1 : Int32))] := V280
  have O280 := O279.wr W280 (Or.inl (List.mem_of_getElem? (i := 0) rfl))
  refine E.iinc (q := 17) (v := (16 : Int32)) (l' := #[.val (.ref oa), .val (.int (-1 : Int32)), .val (.int (16 : Int32)), .val (.int (16 : Int32))]) X280 hx (hb hby d4_14) rfl (by decide) rfl ?_
  refine E.goto (q := 5) X280 hx (hb hby d4_17) ?_
  refine E.iloadN (q := 6) X280 hx (hb hby d4_5) rfl ?_
  refine E.iloadN (q := 7) X280 hx (hb hby d4_6) rfl ?_
  refine E.icmpY (q := 20) X280 hx (hb hby d4_7) (XT.ii_ge_t (by decide)) ?_
  subst e280
  exact Ends.retV X280 hx hlk hret (hb hby d4_20) (by decide) (by decide) ⟨rfl, O280, V280⟩
theorem ef_3 (m : MethodId) (x0 : Int32) : entryFrame m #[(.int x0)] 2 = mkF m 0 #[.val (.int x0), .unset] [] := by first | (simp [entryFrame, mkF, argsToLocals, Value.category]; done) | rfl
set_option maxRecDepth 65536 in
set_option maxHeartbeats 40000000 in
theorem rm3 (l : Launch) (Z : State) (a0 : Array Value) (hw : ∀ d ∈ tables_1, d.before a0 Z = true)  (h0 : Heap) :
    Con l (⟨"com/example/optpack/optpack/service/SectionNames", "free", "(I)[I"⟩ : MethodName) prog_73_method_9_code 2 (some (.array .int)) [] ({ frames := 1, cells := 1, slots := 16, locals := 24 } : Room) #[(.int (16 : Int32))] Z h0 (fun v h L => ∃ b, v = some (.ref b) ∧ h0.size ≤ b ∧ Ok h0 h [] L ∧ Ary Z h b .int ((List.replicate 16 (-1 : Int32)).map Value.int)) := by
  refine Con.of (plainFor_of_name pn_8) ?_
  intro p e s m below meth c s₁ hx hZ hby hml hown hnm hret hlk X0 e0
  refine Ends.cast (ef_3 m (16 : Int32)) ?_
  show Ends none p e below s _ _ _ s₁ (mkF m 0 #[.val (.int (16 : Int32)), .unset] [])
  have O0 := Ok.refl h0 []
  refine E.iloadN (q := 1) X0 hx (hb hby d3_0) rfl ?_
  refine Ends.newA X0 hx hZ (hw _ (List.mem_of_getElem? (i := 15) rfl)) e0 (hb hby d3_1) (N := 16) rfl (by decide) (by decide) (by decide) ?_
  intro T281 h281 b281 g281 X281 e281 E281 A281
  have ge_b281 : h0.size ≤ b281 := Nat.le_trans O0.le (Nat.le_of_eq g281.symm)
  have O281 := O0.ext E281
  have V281 : Ary Z h281 b281 .int [(.int (0 : Int32)), (.int (0 : Int32)), (.int (0 : Int32)), (.int (0 : Int32)), (.int (0 : Int32)), (.int (0 : Int32)), (.int (0 : Int32)), (.int (0 : Int32)), (.int (0 : Int32)), (.int (0 : Int32)), (.int (0 : Int32)), (.int (0 : Int32)), (.int (0 : Int32)), (.int (0 : Int32)), (.int (0 : Int32)), (.int (0 : Int32))] := A281
  refine E.astoreN (q := 4) (l' := #[.val (.int (16 : Int32)), .val (.ref b281)]) X281 hx (hb hby d3_3) rfl rfl ?_
  refine E.aloadN (q := 5) X281 hx (hb hby d3_4) rfl rfl ?_
  refine E.iconst (q := 6) (v := (-1 : Int32)) X281 hx (hb hby d3_5) rfl ?_
  refine Ends.callS X281 hx hZ hown (hw _ (List.mem_of_getElem? (i := 16) rfl)) (hw _ (List.mem_of_getElem? (i := 17) rfl)) (hw _ (List.mem_of_getElem? (i := 18) rfl)) (hw _ (List.mem_of_getElem? (i := 19) rfl)) (by decide) (argsL := [(.ref b281), (.int (-1 : Int32))]) (rest := []) e281 (rm4 l Z a0 hw b281 _ V281) (W := 0) (by decide) (by decide) (by rw [hml]; rfl) (lenOf pd_14 rfl) (Nat.le_of_eq rfl) (hb hby d3_6) (by decide) (by decide) rfl ?_
  rintro T282 v282 L282 X282 ⟨rfl, hO282, V282⟩
  have e282 : T282.heap = T282.heap := rfl
  have O282 := O281.call hO282 (allS (Or.inr ge_b281) all0)
  show Ends none p e below s _ _ _ T282 (mkF m 9 #[.val (.int (16 : Int32)), .val (.ref b281)] [])
  refine E.aloadN (q := 10) X282 hx (hb hby d3_9) rfl rfl ?_
  exact Ends.retA X282 hx hlk hret rfl rfl rfl (hb hby d3_10) (by decide) (by decide) ⟨_, rfl, ge_b281, O282, V282⟩
theorem ef_1 (m : MethodId) (x0 : Addr) : entryFrame m #[(.ref x0)] 1 = mkF m 0 #[.val (.ref x0)] [] := by first | (simp [entryFrame, mkF, argsToLocals, Value.category]; done) | rfl
set_option maxRecDepth 65536 in
set_option maxHeartbeats 40000000 in
theorem rm1 (l : Launch) (Z : State) (a0 : Array Value) (hw : ∀ d ∈ tables_1, d.before a0 Z = true) (oa : Addr) (h0 : Heap) (E0 : Exa Z h0 oa "com/example/optpack/optpack/service/SectionNames") (F_names : Fld Z h0 oa "com/example/optpack/optpack/service/SectionNames" "names" "[B" .null) (F_slots : Fld Z h0 oa "com/example/optpack/optpack/service/SectionNames" "slots" "[I" .null) (F_lines : Fld Z h0 oa "com/example/optpack/optpack/service/SectionNames" "lines" "[I" .null) (F_count : Fld Z h0 oa "com/example/optpack/optpack/service/SectionNames" "count" "I" (.int (0 : Int32))) (F_used : Fld Z h0 oa "com/example/optpack/optpack/service/SectionNames" "used" "I" (.int (0 : Int32))) (F_key0 : Fld Z h0 oa "com/example/optpack/optpack/service/SectionNames" "key0" "J" (.long (0 : Int64))) (F_key1 : Fld Z h0 oa "com/example/optpack/optpack/service/SectionNames" "key1" "J" (.long (0 : Int64))) :
    Con l (⟨"com/example/optpack/optpack/service/SectionNames", "<init>", "()V"⟩ : MethodName) prog_73_method_1_code 1 none [] ({ frames := 2, cells := 3, slots := 288, locals := 48 } : Room) #[(.ref oa)] Z h0 (fun v h L => v = none ∧ ∃ N Sl Ln : Addr, h0.size ≤ N ∧ h0.size ≤ Sl ∧ h0.size ≤ Ln ∧ Sl ≠ Ln ∧ Ok h0 h [oa] L ∧ Fld Z h oa "com/example/optpack/optpack/service/SectionNames" "names" "[B" (.ref N) ∧ Fld Z h oa "com/example/optpack/optpack/service/SectionNames" "slots" "[I" (.ref Sl) ∧ Fld Z h oa "com/example/optpack/optpack/service/SectionNames" "lines" "[I" (.ref Ln) ∧ Fld Z h oa "com/example/optpack/optpack/service/SectionNames" "count" "I" (.int (0 : Int32)) ∧ Fld Z h oa "com/example/optpack/optpack/service/SectionNames" "used" "I" (.int (0 : Int32)) ∧ Fld Z h oa "com/example/optpack/optpack/service/SectionNames" "key0" "J" (.long (0 : Int64)) ∧ Fld Z h oa "com/example/optpack/optpack/service/SectionNames" "key1" "J" (.long (0 : Int64)) ∧ Ary Z h N .byte ((List.replicate 256 (0 : Int32)).map Value.int) ∧ Ary Z h Sl .int ((List.replicate 16 (-1 : Int32)).map Value.int) ∧ Ary Z h Ln .int ((List.replicate 16 (0 : Int32)).map Value.int)) := by
  refine Con.of (plainFor_of_name pn_8) ?_
  intro p e s m below meth c s₁ hx hZ hby hml hown hnm hret hlk X0 e0
  refine Ends.cast (ef_1 m oa) ?_
  show Ends none p e below s _ _ _ s₁ (mkF m 0 #[.val (.ref oa)] [])
  have O0 := Ok.refl h0 [oa]
  refine E.aloadN (q := 1) X0 hx (hb hby d1_0) rfl rfl ?_
  refine Ends.initO X0 hx hZ hown (hw _ (List.mem_of_getElem? (i := 6) rfl)) (hw _ (List.mem_of_getElem? (i := 7) rfl)) (hw _ (List.mem_of_getElem? (i := 8) rfl)) e0 (by rw [hml]; rfl) (hb hby d1_1) (by decide) (W := 0) (Nat.le_of_eq rfl) (by decide) ?_
  intro T283 X283 e283
  refine E.aloadN (q := 5) X283 hx (hb hby d1_4) rfl rfl ?_
  refine E.sipush (q := 8) (v := (256 : Int32)) X283 hx (hb hby d1_5) rfl ?_
  refine Ends.newA X283 hx hZ (hw _ (List.mem_of_getElem? (i := 9) rfl)) e283 (hb hby d1_8) (N := 256) rfl (by decide) (by decide) (by decide) ?_
  intro T284 h284 b284 g284 X284 e284 E284 A284
  have ge_b284 : h0.size ≤ b284 := Nat.le_trans O0.le (Nat.le_of_eq g284.symm)
  have O284 := O0.ext E284
  have V284 : Ary Z h284 b284 .byte (List.replicate 256 (.int (0 : Int32))) := A284
  have f285 := F_names.ext E284
  have f286 := E0.ext E284
  refine Ends.putF X284 hx hZ hown (host := "") (Or.inl (hw _ (List.mem_of_getElem? (i := 10) rfl))) Via.refl e284 f285 f286 (Or.inl (hw _ (List.mem_of_getElem? (i := 11) rfl))) (hw _ (List.mem_of_getElem? (i := 1) rfl)) (ty := (.array .byte)) (by decide) rfl rfl (hb hby d1_10) ?_
  intro T287 h287 X287 e287 W287 Fw287
  have O287 := O284.wr W287 (Or.inl (List.mem_of_getElem? (i := 0) rfl))
  refine E.aloadN (q := 14) X287 hx (hb hby d1_13) rfl rfl ?_
  refine E.bipush (q := 16) (v := (16 : Int32)) X287 hx (hb hby d1_14) rfl ?_
  refine Ends.callS X287 hx hZ hown (hw _ (List.mem_of_getElem? (i := 12) rfl)) (hw _ (List.mem_of_getElem? (i := 13) rfl)) (hw _ (List.mem_of_getElem? (i := 2) rfl)) (hw _ (List.mem_of_getElem? (i := 14) rfl)) (by decide) (argsL := [(.int (16 : Int32))]) (rest := [(.ref oa)]) e287 (rm3 l Z a0 hw _) (W := 1) (by decide) (by decide) (by rw [hml]; rfl) (lenOf pd_15 rfl) (Nat.le_of_eq rfl) (hb hby d1_16) (by decide) (by decide) rfl ?_
  rintro T288 v288 L288 X288 ⟨b288, rfl, gb288, hO288, V288⟩
  have e288 : T288.heap = T288.heap := rfl
  have O288 := O287.call hO288 all0
  show Ends none p e below s _ _ _ T288 (mkF m 19 #[.val (.ref oa)] [(.ref b288), (.ref oa)])
  have ge_b288 : h0.size ≤ b288 := Nat.le_trans O287.le gb288
  have f289 := F_slots.ext E284
  have f290 := f289.other W287 (Or.inr (slot_ne (Or.inl (hw _ (List.mem_of_getElem? (i := 21) rfl))) (Or.inl (hw _ (List.mem_of_getElem? (i := 11) rfl))) (by decide) (t := (.array .int)) (t' := (.array .byte)) (by decide) (by decide)))
  have f291 := f290.keep hO288.1 nin0
  have f292 := f286.wr W287
  have f293 := f292.keep hO288.1
  refine Ends.putF X288 hx hZ hown (host := "") (Or.inl (hw _ (List.mem_of_getElem? (i := 20) rfl))) Via.refl e288 f291 f293 (Or.inl (hw _ (List.mem_of_getElem? (i := 21) rfl))) (hw _ (List.mem_of_getElem? (i := 1) rfl)) (ty := (.array .int)) (by decide) rfl rfl (hb hby d1_19) ?_
  intro T294 h294 X294 e294 W294 Fw294
  have O294 := O288.wr W294 (Or.inl (List.mem_of_getElem? (i := 0) rfl))
  refine E.aloadN (q := 23) X294 hx (hb hby d1_22) rfl rfl ?_
  refine E.bipush (q := 25) (v := (16 : Int32)) X294 hx (hb hby d1_23) rfl ?_
  refine Ends.newA X294 hx hZ (hw _ (List.mem_of_getElem? (i := 15) rfl)) e294 (hb hby d1_25) (N := 16) rfl (by decide) (by decide) (by decide) ?_
  intro T295 h295 b295 g295 X295 e295 E295 A295
  have ge_b295 : h0.size ≤ b295 := Nat.le_trans O294.le (Nat.le_of_eq g295.symm)
  have O295 := O294.ext E295
  have V295 : Ary Z h295 b295 .int (List.replicate 16 (.int (0 : Int32))) := A295
  have f296 := F_lines.ext E284
  have f297 := f296.other W287 (Or.inr (slot_ne (Or.inl (hw _ (List.mem_of_getElem? (i := 23) rfl))) (Or.inl (hw _ (List.mem_of_getElem? (i := 11) rfl))) (by decide) (t := (.array .int)) (t' := (.array .byte)) (by decide) (by decide)))
  have f298 := f297.keep hO288.1 nin0
  have f299 := f298.other W294 (Or.inr (slot_ne (Or.inl (hw _ (List.mem_of_getElem? (i := 23) rfl))) (Or.inl (hw _ (List.mem_of_getElem? (i := 21) rfl))) (by decide) (t := (.array .int)) (t' := (.array .int)) (by decide) (by decide)))
  have f300 := f299.ext E295
  have f301 := f293.wr W294
  have f302 := f301.ext E295
  refine Ends.putF X295 hx hZ hown (host := "") (Or.inl (hw _ (List.mem_of_getElem? (i := 22) rfl))) Via.refl e295 f300 f302 (Or.inl (hw _ (List.mem_of_getElem? (i := 23) rfl))) (hw _ (List.mem_of_getElem? (i := 1) rfl)) (ty := (.array .int)) (by decide) rfl rfl (hb hby d1_27) ?_
  intro T303 h303 X303 e303 W303 Fw303
  have O303 := O295.wr W303 (Or.inl (List.mem_of_getElem? (i := 0) rfl))
  have f304 := Fw287.keep hO288.1 nin0
  have f305 := f304.other W294 (Or.inr (slot_ne (Or.inl (hw _ (List.mem_of_getElem? (i := 11) rfl))) (Or.inl (hw _ (List.mem_of_getElem? (i := 21) rfl))) (by decide) (t := (.array .byte)) (t' := (.array .int)) (by decide) (by decide)))
  have f306 := f305.ext E295
  have f307 := f306.other W303 (Or.inr (slot_ne (Or.inl (hw _ (List.mem_of_getElem? (i := 11) rfl))) (Or.inl (hw _ (List.mem_of_getElem? (i := 23) rfl))) (by decide) (t := (.array .byte)) (t' := (.array .int)) (by decide) (by decide)))
  have f308 := Fw294.ext E295
  have f309 := f308.other W303 (Or.inr (slot_ne (Or.inl (hw _ (List.mem_of_getElem? (i := 21) rfl))) (Or.inl (hw _ (List.mem_of_getElem? (i := 23) rfl))) (by decide) (t := (.array .int)) (t' := (.array .int)) (by decide) (by decide)))
  have f310 := F_count.ext E284
  have f311 := f310.other W287 (Or.inr (slot_ne (Or.inl (hw _ (List.mem_of_getElem? (i := 30) rfl))) (Or.inl (hw _ (List.mem_of_getElem? (i := 11) rfl))) (by decide) (t := .int) (t' := (.array .byte)) (by decide) (by decide)))
  have f312 := f311.keep hO288.1 nin0
  have f313 := f312.other W294 (Or.inr (slot_ne (Or.inl (hw _ (List.mem_of_getElem? (i := 30) rfl))) (Or.inl (hw _ (List.mem_of_getElem? (i := 21) rfl))) (by decide) (t := .int) (t' := (.array .int)) (by decide) (by decide)))
  have f314 := f313.ext E295
  have f315 := f314.other W303 (Or.inr (slot_ne (Or.inl (hw _ (List.mem_of_getElem? (i := 30) rfl))) (Or.inl (hw _ (List.mem_of_getElem? (i := 23) rfl))) (by decide) (t := .int) (t' := (.array .int)) (by decide) (by decide)))
  have f316 := F_used.ext E284
  have f317 := f316.other W287 (Or.inr (slot_ne (Or.inl (hw _ (List.mem_of_getElem? (i := 96) rfl))) (Or.inl (hw _ (List.mem_of_getElem? (i := 11) rfl))) (by decide) (t := .int) (t' := (.array .byte)) (by decide) (by decide)))
  have f318 := f317.keep hO288.1 nin0
  have f319 := f318.other W294 (Or.inr (slot_ne (Or.inl (hw _ (List.mem_of_getElem? (i := 96) rfl))) (Or.inl (hw _ (List.mem_of_getElem? (i := 21) rfl))) (by decide) (t := .int) (t' := (.array .int)) (by decide) (by decide)))
  have f320 := f319.ext E295
  have f321 := f320.other W303 (Or.inr (slot_ne (Or.inl (hw _ (List.mem_of_getElem? (i := 96) rfl))) (Or.inl (hw _ (List.mem_of_getElem? (i := 23) rfl))) (by decide) (t := .int) (t' := (.array .int)) (by decide) (by decide)))
  have f322 := F_key0.ext E284
  have f323 := f322.other W287 (Or.inr (slot_ne (Or.inl (hw _ (List.mem_of_getElem? (i := 121) rfl))) (Or.inl (hw _ (List.mem_of_getElem? (i := 11) rfl))) (by decide) (t := .long) (t' := (.array .byte)) (by decide) (by decide)))
  have f324 := f323.keep hO288.1 nin0
  have f325 := f324.other W294 (Or.inr (slot_ne (Or.inl (hw _ (List.mem_of_getElem? (i := 121) rfl))) (Or.inl (hw _ (List.mem_of_getElem? (i := 21) rfl))) (by decide) (t := .long) (t' := (.array .int)) (by decide) (by decide)))
  have f326 := f325.ext E295
  have f327 := f326.other W303 (Or.inr (slot_ne (Or.inl (hw _ (List.mem_of_getElem? (i := 121) rfl))) (Or.inl (hw _ (List.mem_of_getElem? (i := 23) rfl))) (by decide) (t := .long) (t' := (.array .int)) (by decide) (by decide)))
  have f328 := F_key1.ext E284
  have f329 := f328.other W287 (Or.inr (slot_ne (Or.inl (hw _ (List.mem_of_getElem? (i := 123) rfl))) (Or.inl (hw _ (List.mem_of_getElem? (i := 11) rfl))) (by decide) (t := .long) (t' := (.array .byte)) (by decide) (by decide)))
  have f330 := f329.keep hO288.1 nin0
  have f331 := f330.other W294 (Or.inr (slot_ne (Or.inl (hw _ (List.mem_of_getElem? (i := 123) rfl))) (Or.inl (hw _ (List.mem_of_getElem? (i := 21) rfl))) (by decide) (t := .long) (t' := (.array .int)) (by decide) (by decide)))
  have f332 := f331.ext E295
  have f333 := f332.other W303 (Or.inr (slot_ne (Or.inl (hw _ (List.mem_of_getElem? (i := 123) rfl))) (Or.inl (hw _ (List.mem_of_getElem? (i := 23) rfl))) (by decide) (t := .long) (t' := (.array .int)) (by decide) (by decide)))
  have f334 := V284.other W287 (Ne.symm (Nat.ne_of_lt (Nat.lt_of_lt_of_eq E0.lt g284.symm)))
  have f335 := f334.keep hO288.1 nin0
  have f336 := f335.other W294 (Ne.symm (Nat.ne_of_lt (Nat.lt_of_lt_of_eq E0.lt g284.symm)))
  have f337 := f336.ext E295
  have f338 := f337.other W303 (Ne.symm (Nat.ne_of_lt (Nat.lt_of_lt_of_eq E0.lt g284.symm)))
  have f339 := V288.other W294 (Ne.symm (Nat.ne_of_lt (Nat.lt_of_lt_of_le f292.lt gb288)))
  have f340 := f339.ext E295
  have f341 := f340.other W303 (Ne.symm (Nat.ne_of_lt (Nat.lt_of_lt_of_le f292.lt gb288)))
  have f342 := V295.other W303 (Ne.symm (Nat.ne_of_lt (Nat.lt_of_lt_of_eq f301.lt g295.symm)))
  have nSL : b288 ≠ b295 := (Nat.ne_of_lt (Nat.lt_of_lt_of_eq f339.lt g295.symm))
  subst e303
  exact Ends.retV X303 hx hlk hret (hb hby d1_30) (by decide) (by decide) ⟨rfl, _, _, _, ge_b284, ge_b288, ge_b295, nSL, O303, f307, f309, Fw303, f315, f321, f327, f333, by rw [List.map_replicate]; exact f338, f341, by rw [List.map_replicate]; exact f342⟩
theorem efrmE0 (m : MethodId) (x0 : Addr) : entryFrame m #[(.ref x0)] 1 = mkF m 0 #[.val (.ref x0)] [] := by first | (simp [entryFrame, mkF, argsToLocals, Value.category]; done) | rfl
set_option maxRecDepth 65536 in
set_option maxHeartbeats 40000000 in
theorem rmE0 (l : Launch) (Z : State) (a0 : Array Value) (hw : ∀ d ∈ tables_1, d.before a0 Z = true) (oa : Addr) (x : Int32) (h0 : Heap) (hk : x = (0 : Int32)) (F_count : Fld Z h0 oa "com/example/optpack/optpack/service/SectionNames" "count" "I" (.int x)) :
    Con l (⟨"com/example/optpack/optpack/service/SectionNames", "isEmpty", "()Z"⟩ : MethodName) prog_73_method_3_code 1 (some .boolean) [] ({ frames := 0, cells := 0, slots := 0, locals := 0 } : Room) #[(.ref oa)] Z h0 (fun v h L => v = some (.int (1 : Int32)) ∧ h = h0 ∧ L = []) := by
  refine Con.of (plainFor_of_name pn_8) ?_
  intro p e s m below meth c s₁ hx hZ hby hml hown hnm hret hlk X0 e0
  refine Ends.cast (efrmE0 m oa) ?_
  show Ends none p e below s _ _ _ s₁ (mkF m 0 #[.val (.ref oa)] [])
  have O0 := Ok.refl h0 []
  refine E.aloadN (q := 1) X0 hx (hb hby d5_0) rfl rfl ?_
  refine Ends.getF X0 hx hZ hown (host := "") (Or.inl (hw _ (List.mem_of_getElem? (i := 29) rfl))) Via.refl e0 F_count (hb hby d5_1) ?_
  intro T343 X343 e343
  refine E.ifN (q := 7) X343 hx (hb hby d5_4) (XT.i0_ne_f hk) ?_
  refine E.iconst (q := 8) (v := (1 : Int32)) X343 hx (hb hby d5_7) rfl ?_
  refine E.goto (q := 12) X343 hx (hb hby d5_8) ?_
  exact Ends.retS X343 hx hlk hret (by simp) rfl (hb hby d5_12) (by decide) (by decide) ⟨rfl, e343, rfl⟩
theorem efrmE1 (m : MethodId) (x0 : Addr) : entryFrame m #[(.ref x0)] 1 = mkF m 0 #[.val (.ref x0)] [] := by first | (simp [entryFrame, mkF, argsToLocals, Value.category]; done) | rfl
set_option maxRecDepth 65536 in
set_option maxHeartbeats 40000000 in
theorem rmE1 (l : Launch) (Z : State) (a0 : Array Value) (hw : ∀ d ∈ tables_1, d.before a0 Z = true) (oa : Addr) (x : Int32) (h0 : Heap) (hk : ¬ x = (0 : Int32)) (F_count : Fld Z h0 oa "com/example/optpack/optpack/service/SectionNames" "count" "I" (.int x)) :
    Con l (⟨"com/example/optpack/optpack/service/SectionNames", "isEmpty", "()Z"⟩ : MethodName) prog_73_method_3_code 1 (some .boolean) [] ({ frames := 0, cells := 0, slots := 0, locals := 0 } : Room) #[(.ref oa)] Z h0 (fun v h L => v = some (.int (0 : Int32)) ∧ h = h0 ∧ L = []) := by
  refine Con.of (plainFor_of_name pn_8) ?_
  intro p e s m below meth c s₁ hx hZ hby hml hown hnm hret hlk X0 e0
  refine Ends.cast (efrmE1 m oa) ?_
  show Ends none p e below s _ _ _ s₁ (mkF m 0 #[.val (.ref oa)] [])
  have O0 := Ok.refl h0 []
  refine E.aloadN (q := 1) X0 hx (hb hby d5_0) rfl rfl ?_
  refine Ends.getF X0 hx hZ hown (host := "") (Or.inl (hw _ (List.mem_of_getElem? (i := 29) rfl))) Via.refl e0 F_count (hb hby d5_1) ?_
  intro T344 X344 e344
  refine E.ifY (q := 11) X344 hx (hb hby d5_4) (XT.i0_ne_t hk) ?_
  refine E.iconst (q := 12) (v := (0 : Int32)) X344 hx (hb hby d5_11) rfl ?_
  exact Ends.retS X344 hx hlk hret (by simp) rfl (hb hby d5_12) (by decide) (by decide) ⟨rfl, e344, rfl⟩
theorem ef_21 (m : MethodId) (x0 : Addr) (x1 : Int32) : entryFrame m #[(.ref x0), (.int x1)] 2 = mkF m 0 #[.val (.ref x0), .val (.int x1)] [] := by first | (simp [entryFrame, mkF, argsToLocals, Value.category]; done) | rfl
set_option maxRecDepth 65536 in
set_option maxHeartbeats 40000000 in
theorem rm21 (l : Launch) (Z : State) (a0 : Array Value) (hw : ∀ d ∈ tables_1, d.before a0 Z = true) (oa : Addr) (N : Addr) (u n : Nat) (bs : List Int32) (hl : bs.length = 256) (hun : u + n ≤ 256) (h0 : Heap) (F_names : Fld Z h0 oa "com/example/optpack/optpack/service/SectionNames" "names" "[B" (.ref N)) (F_used : Fld Z h0 oa "com/example/optpack/optpack/service/SectionNames" "used" "I" (.int (Int32.ofNat u))) (A_N : Ary Z h0 N .byte (bs.map Value.int)) :
    Con l (⟨"com/example/optpack/optpack/service/SectionNames", "reserve", "(I)V"⟩ : MethodName) prog_73_method_7_code 2 none [] ({ frames := 0, cells := 0, slots := 0, locals := 0 } : Room) #[(.ref oa), (.int (Int32.ofNat n))] Z h0 (fun v h L => v = none ∧ h = h0 ∧ L = []) := by
  refine Con.of (plainFor_of_name pn_8) ?_
  intro p e s m below meth c s₁ hx hZ hby hml hown hnm hret hlk X0 e0
  refine Ends.cast (ef_21 m oa (Int32.ofNat n)) ?_
  show Ends none p e below s _ _ _ s₁ (mkF m 0 #[.val (.ref oa), .val (.int (Int32.ofNat n))] [])
  have O0 := Ok.refl h0 []
  refine E.aloadN (q := 1) X0 hx (hb hby d21_0) rfl rfl ?_
  refine Ends.getF X0 hx hZ hown (host := "") (Or.inl (hw _ (List.mem_of_getElem? (i := 95) rfl))) Via.refl e0 F_used (hb hby d21_1) ?_
  intro T345 X345 e345
  refine E.iloadN (q := 5) X345 hx (hb hby d21_4) rfl ?_
  refine E.iadd (q := 6) X345 hx (hb hby d21_5) ?_
  refine E.aloadN (q := 7) X345 hx (hb hby d21_6) rfl rfl ?_
  refine Ends.getF X345 hx hZ hown (host := "") (Or.inl (hw _ (List.mem_of_getElem? (i := 10) rfl))) Via.refl e345 F_names (hb hby d21_7) ?_
  intro T346 X346 e346
  refine Ends.alen X346 hx hZ e346 A_N (hb hby d21_10) (n := (256 : Int32)) (by rw [List.length_map, hl]; rfl) ?_
  refine E.icmpY (q := 41) X346 hx (hb hby d21_11) (XT.ii_le_t (by rw [own_addN, show (256 : Int32) = Int32.ofNat 256 from rfl, own_ltN (by omega) (by omega)]; omega)) ?_
  exact Ends.retV X346 hx hlk hret (hb hby d21_41) (by decide) (by decide) ⟨rfl, e346, rfl⟩
theorem ef_23 (m : MethodId) (x0 : Addr) (x1 : Int32) : entryFrame m #[(.ref x0), (.int x1)] 3 = mkF m 0 #[.val (.ref x0), .val (.int x1), .unset] [] := by first | (simp [entryFrame, mkF, argsToLocals, Value.category]; done) | rfl
set_option maxRecDepth 65536 in
set_option maxHeartbeats 40000000 in
theorem rm23 (l : Launch) (Z : State) (a0 : Array Value) (hw : ∀ d ∈ tables_1, d.before a0 Z = true) (oa : Addr) (N : Addr) (k0 k1 : Int64) (o d : Nat) (bs : List Int32) (hl : bs.length = 256) (hd : d ≤ 3) (ho : o + 8 < 256) (h58 : bs[o + d]? = some 58) (h0 : Heap) (F_names : Fld Z h0 oa "com/example/optpack/optpack/service/SectionNames" "names" "[B" (.ref N)) (F_key0 : Fld Z h0 oa "com/example/optpack/optpack/service/SectionNames" "key0" "J" (.long k0)) (F_key1 : Fld Z h0 oa "com/example/optpack/optpack/service/SectionNames" "key1" "J" (.long k1)) (A_N : Ary Z h0 N .byte (bs.map Value.int)) :
    Con l (⟨"com/example/optpack/optpack/service/SectionNames", "hash", "(I)I"⟩ : MethodName) prog_73_method_5_code 3 (some .int) [] ({ frames := 3, cells := 0, slots := 0, locals := 110 } : Room) #[(.ref oa), (.int (Int32.ofNat o))] Z h0 (fun v h L => ∃ r, v = some (.int r) ∧ h = h0 ∧ L = []) := by
  refine Con.of (plainFor_of_name pn_8) ?_
  intro p e s m below meth c s₁ hx hZ hby hml hown hnm hret hlk X0 e0
  refine Ends.cast (ef_23 m oa (Int32.ofNat o)) ?_
  show Ends none p e below s _ _ _ s₁ (mkF m 0 #[.val (.ref oa), .val (.int (Int32.ofNat o)), .unset] [])
  have O0 := Ok.refl h0 []
  have h58' : bs[o + d]'(by omega) = 58 := (List.getElem?_eq_some_iff.mp h58).2
  refine E.iloadN (q := 1) X0 hx (hb hby d23_0) rfl ?_
  refine E.istoreN (q := 2) (l' := #[.val (.ref oa), .val (.int (Int32.ofNat o)), .val (.int (Int32.ofNat o))]) X0 hx (hb hby d23_1) rfl ?_
  have F : ∀ i, i ≤ 3 → ∀ Tj : State, Stand p l e ({ frames := 3, cells := 0, slots := 0, locals := 110 } : Room) s m #[(.ref oa), (.int (Int32.ofNat o))] below meth c Tj [] 0 0 → Tj.heap = h0 → Ends none p e below s (fun v h L => ∃ r, v = some (.int r) ∧ h = h0 ∧ L = []) ({ frames := 3, cells := 0, slots := 0, locals := 110 } : Room).cells ({ frames := 3, cells := 0, slots := 0, locals := 110 } : Room).slots Tj (mkF m 19 #[.val (.ref oa), .val (.int (Int32.ofNat o)), .val (.int (Int32.ofNat (o + i)))] []) := by
    intro i hi Tj Xj ej
    show Ends none p e below s _ _ _ Tj (mkF m 19 #[.val (.ref oa), .val (.int (Int32.ofNat o)), .val (.int (Int32.ofNat (o + i)))] [])
    refine E.aloadN (q := 20) Xj hx (hb hby d23_19) rfl rfl ?_
    refine Ends.getF Xj hx hZ hown (host := "") (Or.inl (hw _ (List.mem_of_getElem? (i := 120) rfl))) Via.refl ej F_key0 (hb hby d23_20) ?_
    intro T347 X347 e347
    refine E.aloadN (q := 24) X347 hx (hb hby d23_23) rfl rfl ?_
    refine Ends.getF X347 hx hZ hown (host := "") (Or.inl (hw _ (List.mem_of_getElem? (i := 122) rfl))) Via.refl e347 F_key1 (hb hby d23_24) ?_
    intro T348 X348 e348
    refine E.aloadN (q := 28) X348 hx (hb hby d23_27) rfl rfl ?_
    refine Ends.getF X348 hx hZ hown (host := "") (Or.inl (hw _ (List.mem_of_getElem? (i := 10) rfl))) Via.refl e348 F_names (hb hby d23_28) ?_
    intro T349 X349 e349
    refine E.iloadN (q := 32) X349 hx (hb hby d23_31) rfl ?_
    refine E.iloadN (q := 33) X349 hx (hb hby d23_32) rfl ?_
    refine Ends.callS X349 hx hZ hown (hw _ (List.mem_of_getElem? (i := 124) rfl)) (hw _ (List.mem_of_getElem? (i := 125) rfl)) (hw _ (List.mem_of_getElem? (i := 126) rfl)) (hw _ (List.mem_of_getElem? (i := 127) rfl)) (by decide) (argsL := [(.long k0), (.long k1), (.ref N), (.int (Int32.ofNat o)), (.int (Int32.ofNat (o + i)))]) (rest := []) e349 (rm24 l Z a0 hw k0 k1 N o i bs hi (by omega) _ A_N (by omega)) (W := 0) (by decide) (by decide) (by rw [hml]; rfl) (lenOf pd_16 rfl) (Nat.le_of_eq rfl) (hb hby d23_33) (by decide) (by decide) rfl ?_
    rintro T350 v350 L350 X350 ⟨r350, rfl, e350, rfl⟩
    rw [List.append_nil] at X350
    show Ends none p e below s _ _ _ T350 (mkF m 36 #[.val (.ref oa), .val (.int (Int32.ofNat o)), .val (.int (Int32.ofNat (o + i)))] [(.long r350)])
    refine E.l2i (q := 37) X350 hx (hb hby d23_36) ?_
    exact Ends.retI X350 hx hlk hret (hb hby d23_37) (by decide) (by decide) ⟨_, rfl, e350, rfl⟩
  have J : ∀ mm i, i + mm = d → ∀ Tj : State, Stand p l e ({ frames := 3, cells := 0, slots := 0, locals := 110 } : Room) s m #[(.ref oa), (.int (Int32.ofNat o))] below meth c Tj [] 0 0 → Tj.heap = h0 → Ends none p e below s (fun v h L => ∃ r, v = some (.int r) ∧ h = h0 ∧ L = []) ({ frames := 3, cells := 0, slots := 0, locals := 110 } : Room).cells ({ frames := 3, cells := 0, slots := 0, locals := 110 } : Room).slots Tj (mkF m 2 #[.val (.ref oa), .val (.int (Int32.ofNat o)), .val (.int (Int32.ofNat (o + i)))] []) := by
    intro mm
    induction mm with
    | zero =>
      intro i hi Tj Xj ej
      obtain rfl : i = d := by omega
      have hb1 : o + i < bs.length := by omega
      show Ends none p e below s _ _ _ Tj (mkF m 2 #[.val (.ref oa), .val (.int (Int32.ofNat o)), .val (.int (Int32.ofNat (o + i)))] [])
      refine E.aloadN (q := 3) Xj hx (hb hby d23_2) rfl rfl ?_
      refine Ends.getF Xj hx hZ hown (host := "") (Or.inl (hw _ (List.mem_of_getElem? (i := 10) rfl))) Via.refl ej F_names (hb hby d23_3) ?_
      intro T351 X351 e351
      refine E.iloadN (q := 7) X351 hx (hb hby d23_6) rfl ?_
      refine Ends.bld X351 hx hZ e351 A_N (i := (o + i)) (v := .int (bs[(o + i)]'hb1)) rfl (by rw [List.getElem?_map, List.getElem?_eq_getElem hb1]; rfl) (hb hby d23_7) ?_
      show Ends none p e below s _ _ _ T351 (mkF m 8 #[.val (.ref oa), .val (.int (Int32.ofNat o)), .val (.int (Int32.ofNat (o + i)))] [(.int (bs[(o + i)]'hb1))])
      refine E.bipush (q := 10) (v := (58 : Int32)) X351 hx (hb hby d23_8) rfl ?_
      refine E.icmpY (q := 19) X351 hx (hb hby d23_10) (XT.ii_eq_t h58') ?_
      exact F i (by omega) _ X351 e351
    | succ mm ih =>
      intro i hi Tj Xj ej
      have hb1 : o + i < bs.length := by omega
      show Ends none p e below s _ _ _ Tj (mkF m 2 #[.val (.ref oa), .val (.int (Int32.ofNat o)), .val (.int (Int32.ofNat (o + i)))] [])
      refine E.aloadN (q := 3) Xj hx (hb hby d23_2) rfl rfl ?_
      refine Ends.getF Xj hx hZ hown (host := "") (Or.inl (hw _ (List.mem_of_getElem? (i := 10) rfl))) Via.refl ej F_names (hb hby d23_3) ?_
      intro T352 X352 e352
      refine E.iloadN (q := 7) X352 hx (hb hby d23_6) rfl ?_
      refine Ends.bld X352 hx hZ e352 A_N (i := (o + i)) (v := .int (bs[(o + i)]'hb1)) rfl (by rw [List.getElem?_map, List.getElem?_eq_getElem hb1]; rfl) (hb hby d23_7) ?_
      show Ends none p e below s _ _ _ T352 (mkF m 8 #[.val (.ref oa), .val (.int (Int32.ofNat o)), .val (.int (Int32.ofNat (o + i)))] [(.int (bs[(o + i)]'hb1))])
      refine E.bipush (q := 10) (v := (58 : Int32)) X352 hx (hb hby d23_8) rfl ?_
      by_cases hq : (bs[(o + i)]'hb1) = (58 : Int32)
      · refine E.icmpY (q := 19) X352 hx (hb hby d23_10) (XT.ii_eq_t hq) ?_
        exact F i (by omega) _ X352 e352
      · refine E.icmpN (q := 13) X352 hx (hb hby d23_10) (XT.ii_eq_f hq) ?_
        refine E.iinc (q := 16) (v := ((Int32.ofNat (o + i)) + (1 : Int32))) (l' := #[.val (.ref oa), .val (.int (Int32.ofNat o)), .val (.int ((Int32.ofNat (o + i)) + (1 : Int32)))]) X352 hx (hb hby d23_13) rfl rfl rfl ?_
        refine E.goto (q := 2) X352 hx (hb hby d23_16) ?_
        rw [own_succ (o + i)]
        exact ih (i + 1) (by omega) _ X352 e352
  exact J d 0 (by omega) _ X0 e0
theorem ef_28 (m : MethodId) (x0 : Addr) (x1 : Int32) (x2 : Int32) : entryFrame m #[(.ref x0), (.int x1), (.int x2)] 4 = mkF m 0 #[.val (.ref x0), .val (.int x1), .val (.int x2), .unset] [] := by first | (simp [entryFrame, mkF, argsToLocals, Value.category]; done) | rfl
set_option maxRecDepth 65536 in
set_option maxHeartbeats 40000000 in
theorem rm28 (l : Launch) (Z : State) (a0 : Array Value) (hw : ∀ d ∈ tables_1, d.before a0 Z = true) (oa : Addr) (N : Addr) (o d u : Nat) (bs : List Int32) (hl : bs.length = 256) (hd : d ≤ 3) (ho : o + 8 < 256) (hu : u + 8 < 256) (h58 : bs[o + d]? = some 58) (h0 : Heap) (F_names : Fld Z h0 oa "com/example/optpack/optpack/service/SectionNames" "names" "[B" (.ref N)) (A_N : Ary Z h0 N .byte (bs.map Value.int)) :
    Con l (⟨"com/example/optpack/optpack/service/SectionNames", "same", "(II)Z"⟩ : MethodName) prog_73_method_6_code 4 (some .boolean) [] ({ frames := 0, cells := 0, slots := 0, locals := 0 } : Room) #[(.ref oa), (.int (Int32.ofNat o)), (.int (Int32.ofNat u))] Z h0 (fun v h L => ∃ r, v = some (.int r) ∧ h = h0 ∧ L = []) := by
  refine Con.of (plainFor_of_name pn_8) ?_
  intro p e s m below meth c s₁ hx hZ hby hml hown hnm hret hlk X0 e0
  refine Ends.cast (ef_28 m oa (Int32.ofNat o) (Int32.ofNat u)) ?_
  show Ends none p e below s _ _ _ s₁ (mkF m 0 #[.val (.ref oa), .val (.int (Int32.ofNat o)), .val (.int (Int32.ofNat u)), .unset] [])
  have O0 := Ok.refl h0 []
  have h58' : bs[o + d]'(by omega) = 58 := (List.getElem?_eq_some_iff.mp h58).2
  refine E.iconst (q := 1) (v := (0 : Int32)) X0 hx (hb hby d28_0) rfl ?_
  refine E.istoreN (q := 2) (l' := #[.val (.ref oa), .val (.int (Int32.ofNat o)), .val (.int (Int32.ofNat u)), .val (.int (0 : Int32))]) X0 hx (hb hby d28_1) rfl ?_
  have F : ∀ i, i ≤ 3 → ∀ Tj : State, Stand p l e ({ frames := 0, cells := 0, slots := 0, locals := 0 } : Room) s m #[(.ref oa), (.int (Int32.ofNat o)), (.int (Int32.ofNat u))] below meth c Tj [] 0 0 → Tj.heap = h0 → Ends none p e below s (fun v h L => ∃ r, v = some (.int r) ∧ h = h0 ∧ L = []) ({ frames := 0, cells := 0, slots := 0, locals := 0 } : Room).cells ({ frames := 0, cells := 0, slots := 0, locals := 0 } : Room).slots Tj (mkF m 40 #[.val (.ref oa), .val (.int (Int32.ofNat o)), .val (.int (Int32.ofNat u)), .val (.int (Int32.ofNat i))] []) := by
    intro i hi Tj Xj ej
    have hb1 : o + i < bs.length := by omega
    have hb2 : u + i < bs.length := by omega
    show Ends none p e below s _ _ _ Tj (mkF m 40 #[.val (.ref oa), .val (.int (Int32.ofNat o)), .val (.int (Int32.ofNat u)), .val (.int (Int32.ofNat i))] [])
    refine E.aloadN (q := 41) Xj hx (hb hby d28_40) rfl rfl ?_
    refine Ends.getF Xj hx hZ hown (host := "") (Or.inl (hw _ (List.mem_of_getElem? (i := 10) rfl))) Via.refl ej F_names (hb hby d28_41) ?_
    intro T353 X353 e353
    refine E.iloadN (q := 45) X353 hx (hb hby d28_44) rfl ?_
    refine E.iloadN (q := 46) X353 hx (hb hby d28_45) rfl ?_
    refine E.iadd (q := 47) X353 hx (hb hby d28_46) ?_
    refine Ends.bld X353 hx hZ e353 A_N (i := (o + i)) (v := .int (bs[(o + i)]'hb1)) (own_addN _ _) (by rw [List.getElem?_map, List.getElem?_eq_getElem hb1]; rfl) (hb hby d28_47) ?_
    show Ends none p e below s _ _ _ T353 (mkF m 48 #[.val (.ref oa), .val (.int (Int32.ofNat o)), .val (.int (Int32.ofNat u)), .val (.int (Int32.ofNat i))] [(.int (bs[(o + i)]'hb1))])
    refine E.aloadN (q := 49) X353 hx (hb hby d28_48) rfl rfl ?_
    refine Ends.getF X353 hx hZ hown (host := "") (Or.inl (hw _ (List.mem_of_getElem? (i := 10) rfl))) Via.refl e353 F_names (hb hby d28_49) ?_
    intro T354 X354 e354
    refine E.iloadN (q := 53) X354 hx (hb hby d28_52) rfl ?_
    refine E.iloadN (q := 54) X354 hx (hb hby d28_53) rfl ?_
    refine E.iadd (q := 55) X354 hx (hb hby d28_54) ?_
    refine Ends.bld X354 hx hZ e354 A_N (i := (u + i)) (v := .int (bs[(u + i)]'hb2)) (own_addN _ _) (by rw [List.getElem?_map, List.getElem?_eq_getElem hb2]; rfl) (hb hby d28_55) ?_
    show Ends none p e below s _ _ _ T354 (mkF m 56 #[.val (.ref oa), .val (.int (Int32.ofNat o)), .val (.int (Int32.ofNat u)), .val (.int (Int32.ofNat i))] [(.int (bs[(u + i)]'hb2)), (.int (bs[(o + i)]'hb1))])
    by_cases hq : (bs[(o + i)]'hb1) = (bs[(u + i)]'hb2)
    · refine E.icmpN (q := 59) X354 hx (hb hby d28_56) (XT.ii_ne_f hq) ?_
      refine E.iconst (q := 60) (v := (1 : Int32)) X354 hx (hb hby d28_59) rfl ?_
      refine E.goto (q := 64) X354 hx (hb hby d28_60) ?_
      exact Ends.retS X354 hx hlk hret (by simp) rfl (hb hby d28_64) (by decide) (by decide) ⟨_, rfl, e354, rfl⟩
    · refine E.icmpY (q := 63) X354 hx (hb hby d28_56) (XT.ii_ne_t hq) ?_
      refine E.iconst (q := 64) (v := (0 : Int32)) X354 hx (hb hby d28_63) rfl ?_
      exact Ends.retS X354 hx hlk hret (by simp) rfl (hb hby d28_64) (by decide) (by decide) ⟨_, rfl, e354, rfl⟩
  have J : ∀ mm i, i + mm = d → ∀ Tj : State, Stand p l e ({ frames := 0, cells := 0, slots := 0, locals := 0 } : Room) s m #[(.ref oa), (.int (Int32.ofNat o)), (.int (Int32.ofNat u))] below meth c Tj [] 0 0 → Tj.heap = h0 → Ends none p e below s (fun v h L => ∃ r, v = some (.int r) ∧ h = h0 ∧ L = []) ({ frames := 0, cells := 0, slots := 0, locals := 0 } : Room).cells ({ frames := 0, cells := 0, slots := 0, locals := 0 } : Room).slots Tj (mkF m 2 #[.val (.ref oa), .val (.int (Int32.ofNat o)), .val (.int (Int32.ofNat u)), .val (.int (Int32.ofNat i))] []) := by
    intro mm
    induction mm with
    | zero =>
      intro i hi Tj Xj ej
      obtain rfl : i = d := by omega
      have hb1 : o + i < bs.length := by omega
      have hb2 : u + i < bs.length := by omega
      show Ends none p e below s _ _ _ Tj (mkF m 2 #[.val (.ref oa), .val (.int (Int32.ofNat o)), .val (.int (Int32.ofNat u)), .val (.int (Int32.ofNat i))] [])
      refine E.aloadN (q := 3) Xj hx (hb hby d28_2) rfl rfl ?_
      refine Ends.getF Xj hx hZ hown (host := "") (Or.inl (hw _ (List.mem_of_getElem? (i := 10) rfl))) Via.refl ej F_names (hb hby d28_3) ?_
      intro T355 X355 e355
      refine E.iloadN (q := 7) X355 hx (hb hby d28_6) rfl ?_
      refine E.iloadN (q := 8) X355 hx (hb hby d28_7) rfl ?_
      refine E.iadd (q := 9) X355 hx (hb hby d28_8) ?_
      refine Ends.bld X355 hx hZ e355 A_N (i := (o + i)) (v := .int (bs[(o + i)]'hb1)) (own_addN _ _) (by rw [List.getElem?_map, List.getElem?_eq_getElem hb1]; rfl) (hb hby d28_9) ?_
      show Ends none p e below s _ _ _ T355 (mkF m 10 #[.val (.ref oa), .val (.int (Int32.ofNat o)), .val (.int (Int32.ofNat u)), .val (.int (Int32.ofNat i))] [(.int (bs[(o + i)]'hb1))])
      refine E.aloadN (q := 11) X355 hx (hb hby d28_10) rfl rfl ?_
      refine Ends.getF X355 hx hZ hown (host := "") (Or.inl (hw _ (List.mem_of_getElem? (i := 10) rfl))) Via.refl e355 F_names (hb hby d28_11) ?_
      intro T356 X356 e356
      refine E.iloadN (q := 15) X356 hx (hb hby d28_14) rfl ?_
      refine E.iloadN (q := 16) X356 hx (hb hby d28_15) rfl ?_
      refine E.iadd (q := 17) X356 hx (hb hby d28_16) ?_
      refine Ends.bld X356 hx hZ e356 A_N (i := (u + i)) (v := .int (bs[(u + i)]'hb2)) (own_addN _ _) (by rw [List.getElem?_map, List.getElem?_eq_getElem hb2]; rfl) (hb hby d28_17) ?_
      show Ends none p e below s _ _ _ T356 (mkF m 18 #[.val (.ref oa), .val (.int (Int32.ofNat o)), .val (.int (Int32.ofNat u)), .val (.int (Int32.ofNat i))] [(.int (bs[(u + i)]'hb2)), (.int (bs[(o + i)]'hb1))])
      by_cases hq : (bs[(o + i)]'hb1) = (bs[(u + i)]'hb2)
      · refine E.icmpN (q := 21) X356 hx (hb hby d28_18) (XT.ii_ne_f hq) ?_
        refine E.aloadN (q := 22) X356 hx (hb hby d28_21) rfl rfl ?_
        refine Ends.getF X356 hx hZ hown (host := "") (Or.inl (hw _ (List.mem_of_getElem? (i := 10) rfl))) Via.refl e356 F_names (hb hby d28_22) ?_
        intro T357 X357 e357
        refine E.iloadN (q := 26) X357 hx (hb hby d28_25) rfl ?_
        refine E.iloadN (q := 27) X357 hx (hb hby d28_26) rfl ?_
        refine E.iadd (q := 28) X357 hx (hb hby d28_27) ?_
        refine Ends.bld X357 hx hZ e357 A_N (i := (o + i)) (v := .int (bs[(o + i)]'hb1)) (own_addN _ _) (by rw [List.getElem?_map, List.getElem?_eq_getElem hb1]; rfl) (hb hby d28_28) ?_
        show Ends none p e below s _ _ _ T357 (mkF m 29 #[.val (.ref oa), .val (.int (Int32.ofNat o)), .val (.int (Int32.ofNat u)), .val (.int (Int32.ofNat i))] [(.int (bs[(o + i)]'hb1))])
        refine E.bipush (q := 31) (v := (58 : Int32)) X357 hx (hb hby d28_29) rfl ?_
        refine E.icmpY (q := 40) X357 hx (hb hby d28_31) (XT.ii_eq_t h58') ?_
        exact F i (by omega) _ X357 e357
      · refine E.icmpY (q := 40) X356 hx (hb hby d28_18) (XT.ii_ne_t hq) ?_
        exact F i (by omega) _ X356 e356
    | succ mm ih =>
      intro i hi Tj Xj ej
      have hb1 : o + i < bs.length := by omega
      have hb2 : u + i < bs.length := by omega
      show Ends none p e below s _ _ _ Tj (mkF m 2 #[.val (.ref oa), .val (.int (Int32.ofNat o)), .val (.int (Int32.ofNat u)), .val (.int (Int32.ofNat i))] [])
      refine E.aloadN (q := 3) Xj hx (hb hby d28_2) rfl rfl ?_
      refine Ends.getF Xj hx hZ hown (host := "") (Or.inl (hw _ (List.mem_of_getElem? (i := 10) rfl))) Via.refl ej F_names (hb hby d28_3) ?_
      intro T358 X358 e358
      refine E.iloadN (q := 7) X358 hx (hb hby d28_6) rfl ?_
      refine E.iloadN (q := 8) X358 hx (hb hby d28_7) rfl ?_
      refine E.iadd (q := 9) X358 hx (hb hby d28_8) ?_
      refine Ends.bld X358 hx hZ e358 A_N (i := (o + i)) (v := .int (bs[(o + i)]'hb1)) (own_addN _ _) (by rw [List.getElem?_map, List.getElem?_eq_getElem hb1]; rfl) (hb hby d28_9) ?_
      show Ends none p e below s _ _ _ T358 (mkF m 10 #[.val (.ref oa), .val (.int (Int32.ofNat o)), .val (.int (Int32.ofNat u)), .val (.int (Int32.ofNat i))] [(.int (bs[(o + i)]'hb1))])
      refine E.aloadN (q := 11) X358 hx (hb hby d28_10) rfl rfl ?_
      refine Ends.getF X358 hx hZ hown (host := "") (Or.inl (hw _ (List.mem_of_getElem? (i := 10) rfl))) Via.refl e358 F_names (hb hby d28_11) ?_
      intro T359 X359 e359
      refine E.iloadN (q := 15) X359 hx (hb hby d28_14) rfl ?_
      refine E.iloadN (q := 16) X359 hx (hb hby d28_15) rfl ?_
      refine E.iadd (q := 17) X359 hx (hb hby d28_16) ?_
      refine Ends.bld X359 hx hZ e359 A_N (i := (u + i)) (v := .int (bs[(u + i)]'hb2)) (own_addN _ _) (by rw [List.getElem?_map, List.getElem?_eq_getElem hb2]; rfl) (hb hby d28_17) ?_
      show Ends none p e below s _ _ _ T359 (mkF m 18 #[.val (.ref oa), .val (.int (Int32.ofNat o)), .val (.int (Int32.ofNat u)), .val (.int (Int32.ofNat i))] [(.int (bs[(u + i)]'hb2)), (.int (bs[(o + i)]'hb1))])
      by_cases hq : (bs[(o + i)]'hb1) = (bs[(u + i)]'hb2)
      · refine E.icmpN (q := 21) X359 hx (hb hby d28_18) (XT.ii_ne_f hq) ?_
        refine E.aloadN (q := 22) X359 hx (hb hby d28_21) rfl rfl ?_
        refine Ends.getF X359 hx hZ hown (host := "") (Or.inl (hw _ (List.mem_of_getElem? (i := 10) rfl))) Via.refl e359 F_names (hb hby d28_22) ?_
        intro T360 X360 e360
        refine E.iloadN (q := 26) X360 hx (hb hby d28_25) rfl ?_
        refine E.iloadN (q := 27) X360 hx (hb hby d28_26) rfl ?_
        refine E.iadd (q := 28) X360 hx (hb hby d28_27) ?_
        refine Ends.bld X360 hx hZ e360 A_N (i := (o + i)) (v := .int (bs[(o + i)]'hb1)) (own_addN _ _) (by rw [List.getElem?_map, List.getElem?_eq_getElem hb1]; rfl) (hb hby d28_28) ?_
        show Ends none p e below s _ _ _ T360 (mkF m 29 #[.val (.ref oa), .val (.int (Int32.ofNat o)), .val (.int (Int32.ofNat u)), .val (.int (Int32.ofNat i))] [(.int (bs[(o + i)]'hb1))])
        refine E.bipush (q := 31) (v := (58 : Int32)) X360 hx (hb hby d28_29) rfl ?_
        by_cases hq2 : (bs[(o + i)]'hb1) = (58 : Int32)
        · refine E.icmpY (q := 40) X360 hx (hb hby d28_31) (XT.ii_eq_t hq2) ?_
          exact F i (by omega) _ X360 e360
        · refine E.icmpN (q := 34) X360 hx (hb hby d28_31) (XT.ii_eq_f hq2) ?_
          refine E.iinc (q := 37) (v := ((Int32.ofNat i) + (1 : Int32))) (l' := #[.val (.ref oa), .val (.int (Int32.ofNat o)), .val (.int (Int32.ofNat u)), .val (.int ((Int32.ofNat i) + (1 : Int32)))]) X360 hx (hb hby d28_34) rfl rfl rfl ?_
          refine E.goto (q := 2) X360 hx (hb hby d28_37) ?_
          rw [own_succ i]
          exact ih (i + 1) (by omega) _ X360 e360
      · refine E.icmpY (q := 40) X359 hx (hb hby d28_18) (XT.ii_ne_t hq) ?_
        exact F i (by omega) _ X359 e359
  exact J d 0 (by omega) _ X0 e0
theorem ef_22 (m : MethodId) (x0 : Addr) (x1 : Int32) : entryFrame m #[(.ref x0), (.int x1)] 4 = mkF m 0 #[.val (.ref x0), .val (.int x1), .unset, .unset] [] := by first | (simp [entryFrame, mkF, argsToLocals, Value.category]; done) | rfl
set_option maxRecDepth 65536 in
set_option maxHeartbeats 40000000 in
theorem rm22 (l : Launch) (Z : State) (a0 : Array Value) (hw : ∀ d ∈ tables_1, d.before a0 Z = true) (oa : Addr) (N Sl : Addr) (k0 k1 : Int64) (bs ss ls : List Int32) (u cn n : Nat) (hSN : SNs bs ss ls u cn) (hc : cn ≤ 2) (hn : n ≤ 3) (h58 : bs[u + n]? = some 58) (h0 : Heap) (E0 : Exa Z h0 oa "com/example/optpack/optpack/service/SectionNames") (F_names : Fld Z h0 oa "com/example/optpack/optpack/service/SectionNames" "names" "[B" (.ref N)) (F_slots : Fld Z h0 oa "com/example/optpack/optpack/service/SectionNames" "slots" "[I" (.ref Sl)) (F_key0 : Fld Z h0 oa "com/example/optpack/optpack/service/SectionNames" "key0" "J" (.long k0)) (F_key1 : Fld Z h0 oa "com/example/optpack/optpack/service/SectionNames" "key1" "J" (.long k1)) (A_N : Ary Z h0 N .byte (bs.map Value.int)) (A_S : Ary Z h0 Sl .int (ss.map Value.int)) :
    Con l (⟨"com/example/optpack/optpack/service/SectionNames", "slot", "(I)I"⟩ : MethodName) prog_73_method_4_code 4 (some .int) [] ({ frames := 4, cells := 0, slots := 0, locals := 130 } : Room) #[(.ref oa), (.int (Int32.ofNat u))] Z h0 (fun v h L => ∃ k : Nat, v = some (.int (Int32.ofNat k)) ∧ k < 16 ∧ h = h0 ∧ L = []) := by
  refine Con.of (plainFor_of_name pn_8) ?_
  intro p e s m below meth c s₁ hx hZ hby hml hown hnm hret hlk X0 e0
  refine Ends.cast (ef_22 m oa (Int32.ofNat u)) ?_
  show Ends none p e below s _ _ _ s₁ (mkF m 0 #[.val (.ref oa), .val (.int (Int32.ofNat u)), .unset, .unset] [])
  have O0 := Ok.refl h0 []
  have hl := hSN.1
  have hl2 := hSN.2.1
  have hu4 := hSN.2.2.2.1
  refine E.aloadN (q := 1) X0 hx (hb hby d22_0) rfl rfl ?_
  refine Ends.getF X0 hx hZ hown (host := "") (Or.inl (hw _ (List.mem_of_getElem? (i := 20) rfl))) Via.refl e0 F_slots (hb hby d22_1) ?_
  intro T361 X361 e361
  refine Ends.alen X361 hx hZ e361 A_S (hb hby d22_4) (n := (16 : Int32)) (by rw [List.length_map, hSN.2.1]; rfl) ?_
  refine E.iconst (q := 6) (v := (1 : Int32)) X361 hx (hb hby d22_5) rfl ?_
  refine E.isub (q := 7) X361 hx (hb hby d22_6) ?_
  rw [show ((16 : Int32) - (1 : Int32)) = (15 : Int32) from by decide]
  refine E.istoreN (q := 8) (l' := #[.val (.ref oa), .val (.int (Int32.ofNat u)), .val (.int (15 : Int32)), .unset]) X361 hx (hb hby d22_7) rfl ?_
  refine E.aloadN (q := 9) X361 hx (hb hby d22_8) rfl rfl ?_
  refine E.iloadN (q := 10) X361 hx (hb hby d22_9) rfl ?_
  refine Ends.callPr X361 hx hZ hown (hw _ (List.mem_of_getElem? (i := 116) rfl)) (hw _ (List.mem_of_getElem? (i := 117) rfl)) (hw _ (List.mem_of_getElem? (i := 118) rfl)) (hw _ (List.mem_of_getElem? (i := 1) rfl)) (hw _ (List.mem_of_getElem? (i := 2) rfl)) (hw _ (List.mem_of_getElem? (i := 119) rfl)) (by decide) (argsL := [(.int (Int32.ofNat u))]) (rest := []) e361 E0 (rm23 l Z a0 hw oa N k0 k1 u n bs hl hn (by omega) h58 _ F_names F_key0 F_key1 A_N) (W := 0) (by decide) (by decide) (by rw [hml]; rfl) (lenOf pd_17 rfl) (Nat.le_of_eq rfl) (hb hby d22_10) (by decide) (by decide) rfl ?_
  rintro T362 v362 L362 X362 ⟨r362, rfl, e362, rfl⟩
  rw [List.append_nil] at X362
  show Ends none p e below s _ _ _ T362 (mkF m 13 #[.val (.ref oa), .val (.int (Int32.ofNat u)), .val (.int (15 : Int32)), .unset] [(.int r362)])
  refine E.iloadN (q := 14) X362 hx (hb hby d22_13) rfl ?_
  refine E.iand (q := 15) X362 hx (hb hby d22_14) ?_
  obtain ⟨kk, hkk, ekk⟩ := own_and15 r362
  rw [ekk]
  show Ends none p e below s _ _ _ T362 (mkF m 15 #[.val (.ref oa), .val (.int (Int32.ofNat u)), .val (.int (15 : Int32)), .unset] [(.int (Int32.ofNat kk))])
  refine E.istoreN (q := 16) (l' := #[.val (.ref oa), .val (.int (Int32.ofNat u)), .val (.int (15 : Int32)), .val (.int (Int32.ofNat kk))]) X362 hx (hb hby d22_15) rfl ?_
  have J : ∀ mm i, i < 16 → ss[(i + mm) % 16]? = some (-1) → ∀ Tj : State, Stand p l e ({ frames := 4, cells := 0, slots := 0, locals := 130 } : Room) s m #[(.ref oa), (.int (Int32.ofNat u))] below meth c Tj [] 0 0 → Tj.heap = h0 → Ends none p e below s (fun v h L => ∃ k : Nat, v = some (.int (Int32.ofNat k)) ∧ k < 16 ∧ h = h0 ∧ L = []) ({ frames := 4, cells := 0, slots := 0, locals := 130 } : Room).cells ({ frames := 4, cells := 0, slots := 0, locals := 130 } : Room).slots Tj (mkF m 16 #[.val (.ref oa), .val (.int (Int32.ofNat u)), .val (.int (15 : Int32)), .val (.int (Int32.ofNat i))] []) := by
    intro mm
    induction mm with
    | zero =>
      intro i hi hf Tj Xj ej
      have hi2 : i < ss.length := by omega
      have hf' : ss[i]'hi2 = -1 := by rw [show (i + 0) % 16 = i from by omega] at hf; exact (List.getElem?_eq_some_iff.mp hf).2
      show Ends none p e below s _ _ _ Tj (mkF m 16 #[.val (.ref oa), .val (.int (Int32.ofNat u)), .val (.int (15 : Int32)), .val (.int (Int32.ofNat i))] [])
      refine E.aloadN (q := 17) Xj hx (hb hby d22_16) rfl rfl ?_
      refine Ends.getF Xj hx hZ hown (host := "") (Or.inl (hw _ (List.mem_of_getElem? (i := 20) rfl))) Via.refl ej F_slots (hb hby d22_17) ?_
      intro T363 X363 e363
      refine E.iloadN (q := 21) X363 hx (hb hby d22_20) rfl ?_
      refine Ends.ild X363 hx hZ e363 A_S (i := i) (v := .int (ss[i]'hi2)) rfl (by rw [List.getElem?_map, List.getElem?_eq_getElem hi2]; rfl) (hb hby d22_21) ?_
      show Ends none p e below s _ _ _ T363 (mkF m 22 #[.val (.ref oa), .val (.int (Int32.ofNat u)), .val (.int (15 : Int32)), .val (.int (Int32.ofNat i))] [(.int (ss[i]'hi2))])
      refine E.iconst (q := 23) (v := (-1 : Int32)) X363 hx (hb hby d22_22) rfl ?_
      refine E.icmpY (q := 49) X363 hx (hb hby d22_23) (XT.ii_eq_t hf') ?_
      refine E.iloadN (q := 50) X363 hx (hb hby d22_49) rfl ?_
      exact Ends.retI X363 hx hlk hret (hb hby d22_50) (by decide) (by decide) ⟨_, rfl, hi, e363, rfl⟩
    | succ mm ih =>
      intro i hi hf Tj Xj ej
      have hi2 : i < ss.length := by omega
      show Ends none p e below s _ _ _ Tj (mkF m 16 #[.val (.ref oa), .val (.int (Int32.ofNat u)), .val (.int (15 : Int32)), .val (.int (Int32.ofNat i))] [])
      refine E.aloadN (q := 17) Xj hx (hb hby d22_16) rfl rfl ?_
      refine Ends.getF Xj hx hZ hown (host := "") (Or.inl (hw _ (List.mem_of_getElem? (i := 20) rfl))) Via.refl ej F_slots (hb hby d22_17) ?_
      intro T364 X364 e364
      refine E.iloadN (q := 21) X364 hx (hb hby d22_20) rfl ?_
      refine Ends.ild X364 hx hZ e364 A_S (i := i) (v := .int (ss[i]'hi2)) rfl (by rw [List.getElem?_map, List.getElem?_eq_getElem hi2]; rfl) (hb hby d22_21) ?_
      show Ends none p e below s _ _ _ T364 (mkF m 22 #[.val (.ref oa), .val (.int (Int32.ofNat u)), .val (.int (15 : Int32)), .val (.int (Int32.ofNat i))] [(.int (ss[i]'hi2))])
      refine E.iconst (q := 23) (v := (-1 : Int32)) X364 hx (hb hby d22_22) rfl ?_
      by_cases hq : (ss[i]'hi2) = (-1 : Int32)
      · refine E.icmpY (q := 49) X364 hx (hb hby d22_23) (XT.ii_eq_t hq) ?_
        refine E.iloadN (q := 50) X364 hx (hb hby d22_49) rfl ?_
        exact Ends.retI X364 hx hlk hret (hb hby d22_50) (by decide) (by decide) ⟨_, rfl, hi, e364, rfl⟩
      · refine E.icmpN (q := 26) X364 hx (hb hby d22_23) (XT.ii_eq_f hq) ?_
        refine E.aloadN (q := 27) X364 hx (hb hby d22_26) rfl rfl ?_
        refine E.aloadN (q := 28) X364 hx (hb hby d22_27) rfl rfl ?_
        refine Ends.getF X364 hx hZ hown (host := "") (Or.inl (hw _ (List.mem_of_getElem? (i := 20) rfl))) Via.refl e364 F_slots (hb hby d22_28) ?_
        intro T365 X365 e365
        refine E.iloadN (q := 32) X365 hx (hb hby d22_31) rfl ?_
        refine Ends.ild X365 hx hZ e365 A_S (i := i) (v := .int (ss[i]'hi2)) rfl (by rw [List.getElem?_map, List.getElem?_eq_getElem hi2]; rfl) (hb hby d22_32) ?_
        show Ends none p e below s _ _ _ T365 (mkF m 33 #[.val (.ref oa), .val (.int (Int32.ofNat u)), .val (.int (15 : Int32)), .val (.int (Int32.ofNat i))] [(.int (ss[i]'hi2)), (.ref oa)])
        refine E.iloadN (q := 34) X365 hx (hb hby d22_33) rfl ?_
        obtain ⟨o, d, ho, hd, hod, ho58⟩ := (hSN.2.2.2.2.2 _ (List.getElem_mem hi2)).resolve_left hq
        rw [ho]
        show Ends none p e below s _ _ _ T365 (mkF m 34 #[.val (.ref oa), .val (.int (Int32.ofNat u)), .val (.int (15 : Int32)), .val (.int (Int32.ofNat i))] [(.int (Int32.ofNat u)), (.int (Int32.ofNat o)), (.ref oa)])
        refine Ends.callPr X365 hx hZ hown (hw _ (List.mem_of_getElem? (i := 146) rfl)) (hw _ (List.mem_of_getElem? (i := 147) rfl)) (hw _ (List.mem_of_getElem? (i := 148) rfl)) (hw _ (List.mem_of_getElem? (i := 1) rfl)) (hw _ (List.mem_of_getElem? (i := 2) rfl)) (hw _ (List.mem_of_getElem? (i := 149) rfl)) (by decide) (argsL := [(.int (Int32.ofNat o)), (.int (Int32.ofNat u))]) (rest := []) e365 E0 (rm28 l Z a0 hw oa N o d u bs hl hd (by omega) (by omega) ho58 _ F_names A_N) (W := 0) (by decide) (by decide) (by rw [hml]; rfl) (lenOf pd_18 rfl) (Nat.le_of_eq rfl) (hb hby d22_34) (by decide) (by decide) rfl ?_
        rintro T366 v366 L366 X366 ⟨r366, rfl, e366, rfl⟩
        rw [List.append_nil] at X366
        show Ends none p e below s _ _ _ T366 (mkF m 37 #[.val (.ref oa), .val (.int (Int32.ofNat u)), .val (.int (15 : Int32)), .val (.int (Int32.ofNat i))] [(.int r366)])
        by_cases hq2 : r366 = (0 : Int32)
        · refine E.ifN (q := 40) X366 hx (hb hby d22_37) (XT.i0_ne_f hq2) ?_
          refine E.iloadN (q := 41) X366 hx (hb hby d22_40) rfl ?_
          refine E.iconst (q := 42) (v := (1 : Int32)) X366 hx (hb hby d22_41) rfl ?_
          refine E.iadd (q := 43) X366 hx (hb hby d22_42) ?_
          refine E.iloadN (q := 44) X366 hx (hb hby d22_43) rfl ?_
          refine E.iand (q := 45) X366 hx (hb hby d22_44) ?_
          rw [own_next15 hi]
          show Ends none p e below s _ _ _ T366 (mkF m 45 #[.val (.ref oa), .val (.int (Int32.ofNat u)), .val (.int (15 : Int32)), .val (.int (Int32.ofNat i))] [(.int (Int32.ofNat ((i + 1) % 16)))])
          refine E.istoreN (q := 46) (l' := #[.val (.ref oa), .val (.int (Int32.ofNat u)), .val (.int (15 : Int32)), .val (.int (Int32.ofNat ((i + 1) % 16)))]) X366 hx (hb hby d22_45) rfl ?_
          refine E.goto (q := 16) X366 hx (hb hby d22_46) ?_
          have hf2 : ss[((i + 1) % 16 + mm) % 16]? = some (-1) := by rw [show ((i + 1) % 16 + mm) % 16 = (i + (mm + 1)) % 16 from by omega]; exact hf
          exact ih ((i + 1) % 16) (by omega) hf2 _ X366 e366
        · refine E.ifY (q := 49) X366 hx (hb hby d22_37) (XT.i0_ne_t hq2) ?_
          refine E.iloadN (q := 50) X366 hx (hb hby d22_49) rfl ?_
          exact Ends.retI X366 hx hlk hret (hb hby d22_50) (by decide) (by decide) ⟨_, rfl, hi, e366, rfl⟩
  obtain ⟨jf, hjf, ejf⟩ := own_SNf hSN hc
  have ejf' : ss[(kk + (jf + 16 - kk) % 16) % 16]? = some (-1) := by rw [show (kk + (jf + 16 - kk) % 16) % 16 = jf from by omega]; exact ejf
  exact J ((jf + 16 - kk) % 16) kk hkk ejf' _ X362 e362
theorem efAdd_0 (m : MethodId) (x0 : Addr) (x1 : Addr) (x2 : Int32) : entryFrame m #[(.ref x0), (.ref x1), (.int x2)] 6 = mkF m 0 #[.val (.ref x0), .val (.ref x1), .val (.int x2), .unset, .unset, .unset] [] := by first | (simp [entryFrame, mkF, argsToLocals, Value.category]; done) | rfl
set_option maxRecDepth 65536 in
set_option maxHeartbeats 40000000 in
theorem rmAdd_0 (l : Launch) (Z : State) (a0 : Array Value) (hw : ∀ d ∈ tables_1, d.before a0 Z = true) (oa : Addr) (os : Addr) (y : Int32) (N Sl Ln Vs : Addr) (k0 k1 : Int64) (bs ss ls : List Int32) (u cn : Nat) (hSN : SNs bs ss ls u cn) (hc : cn ≤ 2) (hne : Sl ≠ Ln) (h0 : Heap) (E0 : Exa Z h0 oa "com/example/optpack/optpack/service/SectionNames") (F_names : Fld Z h0 oa "com/example/optpack/optpack/service/SectionNames" "names" "[B" (.ref N)) (F_slots : Fld Z h0 oa "com/example/optpack/optpack/service/SectionNames" "slots" "[I" (.ref Sl)) (F_lines : Fld Z h0 oa "com/example/optpack/optpack/service/SectionNames" "lines" "[I" (.ref Ln)) (F_count : Fld Z h0 oa "com/example/optpack/optpack/service/SectionNames" "count" "I" (.int (Int32.ofNat cn))) (F_used : Fld Z h0 oa "com/example/optpack/optpack/service/SectionNames" "used" "I" (.int (Int32.ofNat u))) (F_key0 : Fld Z h0 oa "com/example/optpack/optpack/service/SectionNames" "key0" "J" (.long k0)) (F_key1 : Fld Z h0 oa "com/example/optpack/optpack/service/SectionNames" "key1" "J" (.long k1)) (A_N : Ary Z h0 N .byte (bs.map Value.int)) (A_S : Ary Z h0 Sl .int (ss.map Value.int)) (A_L : Ary Z h0 Ln .int (ls.map Value.int)) (Es : Exa Z h0 os "java/lang/String") (Svs : Fld Z h0 os "java/lang/String" "value" "[B" (.ref Vs)) (Scs : Fld Z h0 os "java/lang/String" "coder" "B" (.int (0 : Int32))) (A_x : Ary Z h0 Vs .byte (([] : List Int32).map Value.int)) (cs : Int32) (hcs : ¬ cs = (0 : Int32)) (S0 : Sta Z h0 "java/lang/String" "COMPACT_STRINGS" "Z" (.int cs)) (fv : Value) (hfv : fv = .null ∨ ∃ a, fv = .ref a) (S1 : Sta Z h0 "jdk/internal/util/Preconditions" "SIOOBE_FORMATTER" "Ljava/util/function/BiFunction;" fv) :
    Con l (⟨"com/example/optpack/optpack/service/SectionNames", "add", "(Ljava/lang/String;I)I"⟩ : MethodName) prog_73_method_2_code 6 (some .int) [] ({ frames := 5, cells := 0, slots := 0, locals := 150 } : Room) #[(.ref oa), (.ref os), (.int y)] Z h0 (fun v h L => ∃ (r : Int32) (bs' ss' ls' : List Int32) (u' c' : Nat), v = some (.int r) ∧ Ok h0 h [oa, N, Sl, Ln] L ∧ Fld Z h oa "com/example/optpack/optpack/service/SectionNames" "names" "[B" (.ref N) ∧ Fld Z h oa "com/example/optpack/optpack/service/SectionNames" "slots" "[I" (.ref Sl) ∧ Fld Z h oa "com/example/optpack/optpack/service/SectionNames" "lines" "[I" (.ref Ln) ∧ Fld Z h oa "com/example/optpack/optpack/service/SectionNames" "count" "I" (.int (Int32.ofNat c')) ∧ Fld Z h oa "com/example/optpack/optpack/service/SectionNames" "used" "I" (.int (Int32.ofNat u')) ∧ Fld Z h oa "com/example/optpack/optpack/service/SectionNames" "key0" "J" (.long k0) ∧ Fld Z h oa "com/example/optpack/optpack/service/SectionNames" "key1" "J" (.long k1) ∧ Ary Z h N .byte (bs'.map Value.int) ∧ Ary Z h Sl .int (ss'.map Value.int) ∧ Ary Z h Ln .int (ls'.map Value.int) ∧ SNs bs' ss' ls' u' c' ∧ 1 ≤ c' ∧ c' ≤ cn + 1) := by
  refine Con.of (plainFor_of_name pn_8) ?_
  intro p e s m below meth c s₁ hx hZ hby hml hown hnm hret hlk X0 e0
  refine Ends.cast (efAdd_0 m oa os y) ?_
  show Ends none p e below s _ _ _ s₁ (mkF m 0 #[.val (.ref oa), .val (.ref os), .val (.int y), .unset, .unset, .unset] [])
  have O0 := Ok.refl h0 [oa, N, Sl, Ln]
  have hl := hSN.1
  have hl2 := hSN.2.1
  have hl3 := hSN.2.2.1
  have hu4 := hSN.2.2.2.1
  have n_N_Sl : N ≠ Sl := (own_ary_ne A_N A_S (by simp only [List.length_map]; omega))
  have n_N_Ln : N ≠ Ln := (own_ary_ne A_N A_L (by simp only [List.length_map]; omega))
  have n_Vs_N : Vs ≠ N := (own_ary_ne A_x A_N (by simp only [List.length_map]; rw [hl]; simp))
  have n_Vs_Sl : Vs ≠ Sl := (own_ary_ne A_x A_S (by simp only [List.length_map]; rw [hl2]; simp))
  have n_Vs_Ln : Vs ≠ Ln := (own_ary_ne A_x A_L (by simp only [List.length_map]; rw [hl3]; simp))
  have n_N_oa : N ≠ oa := own_ne_ea (hw _ (List.mem_of_getElem? (i := 1) rfl)) E0 A_N
  have n_N_os : N ≠ os := own_ne_ea (hw _ (List.mem_of_getElem? (i := 41) rfl)) Es A_N
  have n_Sl_oa : Sl ≠ oa := own_ne_ea (hw _ (List.mem_of_getElem? (i := 1) rfl)) E0 A_S
  have n_Sl_os : Sl ≠ os := own_ne_ea (hw _ (List.mem_of_getElem? (i := 41) rfl)) Es A_S
  have n_Ln_oa : Ln ≠ oa := own_ne_ea (hw _ (List.mem_of_getElem? (i := 1) rfl)) E0 A_L
  have n_Ln_os : Ln ≠ os := own_ne_ea (hw _ (List.mem_of_getElem? (i := 41) rfl)) Es A_L
  have n_Vs_oa : Vs ≠ oa := own_ne_ea (hw _ (List.mem_of_getElem? (i := 1) rfl)) E0 A_x
  have n_Vs_os : Vs ≠ os := own_ne_ea (hw _ (List.mem_of_getElem? (i := 41) rfl)) Es A_x
  have n_os_oa : os ≠ oa := own_exa_ne Es E0 (by decide)
  refine E.aloadN (q := 1) X0 hx (hb hby d18_0) rfl rfl ?_
  refine Ends.getF X0 hx hZ hown (host := "") (Or.inl (hw _ (List.mem_of_getElem? (i := 95) rfl))) Via.refl e0 F_used (hb hby d18_1) ?_
  intro T367 X367 e367
  refine E.istoreN (q := 5) (l' := #[.val (.ref oa), .val (.ref os), .val (.int y), .val (.int (Int32.ofNat u)), .unset, .unset]) X367 hx (hb hby d18_4) rfl ?_
  refine E.aloadN (q := 6) X367 hx (hb hby d18_5) rfl rfl ?_
  refine E.aloadN (q := 7) X367 hx (hb hby d18_6) rfl rfl ?_
  refine Ends.callV X367 hx hZ hown (hw _ (List.mem_of_getElem? (i := 97) rfl)) (hw _ (List.mem_of_getElem? (i := 98) rfl)) (hw _ (List.mem_of_getElem? (i := 100) rfl)) (hw _ (List.mem_of_getElem? (i := 99) rfl)) (hw _ (List.mem_of_getElem? (i := 40) rfl)) (hw _ (List.mem_of_getElem? (i := 101) rfl)) (by decide) (argsL := []) (rest := [(.ref oa)]) e367 Es (rm19 l Z a0 hw os Vs ([] : List Int32) _ Es Svs Scs A_x cs hcs (own_sta_keep S0 O0.1 (own_ns4 E0 A_N A_S A_L))) (W := 1) (by decide) (by decide) (by rw [hml]; rfl) (lenOf pd_19 rfl) (Nat.le_of_eq rfl) (hb hby d18_7) (by decide) (by decide) rfl ?_
  rintro T368 v368 L368 X368 ⟨rfl, e368, rfl⟩
  rw [List.append_nil] at X368
  show Ends none p e below s _ _ _ T368 (mkF m 10 #[.val (.ref oa), .val (.ref os), .val (.int y), .val (.int (Int32.ofNat u)), .unset, .unset] [(.int (0 : Int32)), (.ref oa)])
  refine E.iconst (q := 11) (v := (1 : Int32)) X368 hx (hb hby d18_10) rfl ?_
  refine E.iadd (q := 12) X368 hx (hb hby d18_11) ?_
  rw [show ((0 : Int32) + (1 : Int32)) = (1 : Int32) from by decide]
  refine Ends.callPr X368 hx hZ hown (hw _ (List.mem_of_getElem? (i := 107) rfl)) (hw _ (List.mem_of_getElem? (i := 108) rfl)) (hw _ (List.mem_of_getElem? (i := 109) rfl)) (hw _ (List.mem_of_getElem? (i := 1) rfl)) (hw _ (List.mem_of_getElem? (i := 2) rfl)) (hw _ (List.mem_of_getElem? (i := 110) rfl)) (by decide) (argsL := [(.int (1 : Int32))]) (rest := []) e368 E0 (rm21 l Z a0 hw oa N u 1 bs hl (by omega) _ F_names F_used A_N) (W := 0) (by decide) (by decide) (by rw [hml]; rfl) (lenOf pd_20 rfl) (Nat.le_of_eq rfl) (hb hby d18_12) (by decide) (by decide) rfl ?_
  rintro T369 v369 L369 X369 ⟨rfl, e369, rfl⟩
  rw [List.append_nil] at X369
  show Ends none p e below s _ _ _ T369 (mkF m 15 #[.val (.ref oa), .val (.ref os), .val (.int y), .val (.int (Int32.ofNat u)), .unset, .unset] [])
  refine E.iconst (q := 16) (v := (0 : Int32)) X369 hx (hb hby d18_15) rfl ?_
  refine E.istore (q := 18) (l' := #[.val (.ref oa), .val (.ref os), .val (.int y), .val (.int (Int32.ofNat u)), .val (.int (0 : Int32)), .unset]) X369 hx (hb hby d18_16) rfl ?_
  refine E.iload (q := 20) X369 hx (hb hby d18_18) rfl ?_
  refine E.aloadN (q := 21) X369 hx (hb hby d18_20) rfl rfl ?_
  refine Ends.callV X369 hx hZ hown (hw _ (List.mem_of_getElem? (i := 97) rfl)) (hw _ (List.mem_of_getElem? (i := 98) rfl)) (hw _ (List.mem_of_getElem? (i := 100) rfl)) (hw _ (List.mem_of_getElem? (i := 99) rfl)) (hw _ (List.mem_of_getElem? (i := 40) rfl)) (hw _ (List.mem_of_getElem? (i := 101) rfl)) (by decide) (argsL := []) (rest := [(.int (0 : Int32))]) e369 Es (rm19 l Z a0 hw os Vs ([] : List Int32) _ Es Svs Scs A_x cs hcs (own_sta_keep S0 O0.1 (own_ns4 E0 A_N A_S A_L))) (W := 1) (by decide) (by decide) (by rw [hml]; rfl) (lenOf pd_19 rfl) (Nat.le_of_eq rfl) (hb hby d18_21) (by decide) (by decide) rfl ?_
  rintro T370 v370 L370 X370 ⟨rfl, e370, rfl⟩
  rw [List.append_nil] at X370
  show Ends none p e below s _ _ _ T370 (mkF m 24 #[.val (.ref oa), .val (.ref os), .val (.int y), .val (.int (Int32.ofNat u)), .val (.int (0 : Int32)), .unset] [(.int (0 : Int32)), (.int (0 : Int32))])
  refine E.icmpY (q := 75) X370 hx (hb hby d18_24) (XT.ii_ge_t (by decide)) ?_
  refine E.aloadN (q := 76) X370 hx (hb hby d18_75) rfl rfl ?_
  refine Ends.getF X370 hx hZ hown (host := "") (Or.inl (hw _ (List.mem_of_getElem? (i := 10) rfl))) Via.refl e370 F_names (hb hby d18_76) ?_
  intro T371 X371 e371
  refine E.iloadN (q := 80) X371 hx (hb hby d18_79) rfl ?_
  refine E.aloadN (q := 81) X371 hx (hb hby d18_80) rfl rfl ?_
  refine Ends.callV X371 hx hZ hown (hw _ (List.mem_of_getElem? (i := 97) rfl)) (hw _ (List.mem_of_getElem? (i := 98) rfl)) (hw _ (List.mem_of_getElem? (i := 100) rfl)) (hw _ (List.mem_of_getElem? (i := 99) rfl)) (hw _ (List.mem_of_getElem? (i := 40) rfl)) (hw _ (List.mem_of_getElem? (i := 101) rfl)) (by decide) (argsL := []) (rest := [(.int (Int32.ofNat u)), (.ref N)]) e371 Es (rm19 l Z a0 hw os Vs ([] : List Int32) _ Es Svs Scs A_x cs hcs (own_sta_keep S0 O0.1 (own_ns4 E0 A_N A_S A_L))) (W := 2) (by decide) (by decide) (by rw [hml]; rfl) (lenOf pd_19 rfl) (Nat.le_of_eq rfl) (hb hby d18_81) (by decide) (by decide) rfl ?_
  rintro T372 v372 L372 X372 ⟨rfl, e372, rfl⟩
  rw [List.append_nil] at X372
  show Ends none p e below s _ _ _ T372 (mkF m 84 #[.val (.ref oa), .val (.ref os), .val (.int y), .val (.int (Int32.ofNat u)), .val (.int (0 : Int32)), .unset] [(.int (0 : Int32)), (.int (Int32.ofNat u)), (.ref N)])
  refine E.iadd (q := 85) X372 hx (hb hby d18_84) ?_
  refine E.bipush (q := 87) (v := (58 : Int32)) X372 hx (hb hby d18_85) rfl ?_
  refine Ends.bst X372 hx hZ e372 A_N (x' := (58 : Int32)) rfl (i := u + 0) (own_addN u 0) (by rw [List.length_map, hSN.1]; omega) (hb hby d18_87) ?_
  intro T373 h373 X373 e373 W373 V373
  rw [← List.map_set] at V373
  have H373 := own_SNw hSN (58 : Int32) (Nat.le_add_right u 0)
  have h58 : (bs.set (u + 0) (58 : Int32))[u + 0]? = some (58 : Int32) := own_set58 (by rw [hSN.1]; omega)
  generalize bs.set (u + 0) (58 : Int32) = bs373 at V373 H373 h58
  have O373 := O0.wr W373 (Or.inl (List.mem_of_getElem? (i := 1) rfl))
  show Ends none p e below s _ _ _ T373 (mkF m 88 #[.val (.ref oa), .val (.ref os), .val (.int y), .val (.int (Int32.ofNat u)), .val (.int (0 : Int32)), .unset] [])
  refine E.aloadN (q := 89) X373 hx (hb hby d18_88) rfl rfl ?_
  refine E.iloadN (q := 90) X373 hx (hb hby d18_89) rfl ?_
  have f374 := E0.wr W373
  have f375 := F_names.other W373 (Or.inl (Ne.symm n_N_oa))
  have f376 := F_slots.other W373 (Or.inl (Ne.symm n_N_oa))
  have f377 := F_key0.other W373 (Or.inl (Ne.symm n_N_oa))
  have f378 := F_key1.other W373 (Or.inl (Ne.symm n_N_oa))
  have f379 := A_S.other W373 (Ne.symm n_N_Sl)
  refine Ends.callPr X373 hx hZ hown (hw _ (List.mem_of_getElem? (i := 112) rfl)) (hw _ (List.mem_of_getElem? (i := 113) rfl)) (hw _ (List.mem_of_getElem? (i := 114) rfl)) (hw _ (List.mem_of_getElem? (i := 1) rfl)) (hw _ (List.mem_of_getElem? (i := 2) rfl)) (hw _ (List.mem_of_getElem? (i := 115) rfl)) (by decide) (argsL := [(.int (Int32.ofNat u))]) (rest := []) e373 f374 (rm22 l Z a0 hw oa N Sl k0 k1 bs373 ss ls u cn 0 H373 hc (by decide) h58 _ f374 f375 f376 f377 f378 V373 f379) (W := 0) (by decide) (by decide) (by rw [hml]; rfl) (lenOf pd_17 rfl) (Nat.le_of_eq rfl) (hb hby d18_90) (by decide) (by decide) rfl ?_
  rintro T380 v380 L380 X380 ⟨k380, rfl, hk380, e380, rfl⟩
  rw [List.append_nil] at X380
  show Ends none p e below s _ _ _ T380 (mkF m 93 #[.val (.ref oa), .val (.ref os), .val (.int y), .val (.int (Int32.ofNat u)), .val (.int (0 : Int32)), .unset] [(.int (Int32.ofNat k380))])
  have hi2 : k380 < ss.length := by omega
  have hi3 : k380 < ls.length := by omega
  refine E.istore (q := 95) (l' := #[.val (.ref oa), .val (.ref os), .val (.int y), .val (.int (Int32.ofNat u)), .val (.int (Int32.ofNat k380)), .unset]) X380 hx (hb hby d18_93) rfl ?_
  refine E.aloadN (q := 96) X380 hx (hb hby d18_95) rfl rfl ?_
  refine Ends.getF X380 hx hZ hown (host := "") (Or.inl (hw _ (List.mem_of_getElem? (i := 20) rfl))) Via.refl e380 f376 (hb hby d18_96) ?_
  intro T381 X381 e381
  refine E.iload (q := 101) X381 hx (hb hby d18_99) rfl ?_
  refine Ends.ild X381 hx hZ e381 f379 (i := k380) (v := .int (ss[k380]'hi2)) rfl (by rw [List.getElem?_map, List.getElem?_eq_getElem hi2]; rfl) (hb hby d18_101) ?_
  show Ends none p e below s _ _ _ T381 (mkF m 102 #[.val (.ref oa), .val (.ref os), .val (.int y), .val (.int (Int32.ofNat u)), .val (.int (Int32.ofNat k380)), .unset] [(.int (ss[k380]'hi2))])
  refine E.iconst (q := 103) (v := (-1 : Int32)) X381 hx (hb hby d18_102) rfl ?_
  by_cases hq : (ss[k380]'hi2) = (-1 : Int32)
  · refine E.icmpY (q := 114) X381 hx (hb hby d18_103) (XT.ii_eq_t hq) ?_
    refine E.aloadN (q := 115) X381 hx (hb hby d18_114) rfl rfl ?_
    refine Ends.getF X381 hx hZ hown (host := "") (Or.inl (hw _ (List.mem_of_getElem? (i := 20) rfl))) Via.refl e381 f376 (hb hby d18_115) ?_
    intro T387 X387 e387
    refine E.iload (q := 120) X387 hx (hb hby d18_118) rfl ?_
    refine E.iloadN (q := 121) X387 hx (hb hby d18_120) rfl ?_
    refine Ends.ist X387 hx hZ e387 f379 (i := k380) rfl (by rw [List.length_map]; assumption) (hb hby d18_121) ?_
    intro T388 h388 X388 e388 W388 V388
    rw [← List.map_set] at V388
    have O388 := O373.wr W388 (Or.inl (List.mem_of_getElem? (i := 2) rfl))
    show Ends none p e below s _ _ _ T388 (mkF m 122 #[.val (.ref oa), .val (.ref os), .val (.int y), .val (.int (Int32.ofNat u)), .val (.int (Int32.ofNat k380)), .unset] [])
    refine E.aloadN (q := 123) X388 hx (hb hby d18_122) rfl rfl ?_
    have f389 := F_lines.other W373 (Or.inl (Ne.symm n_N_oa))
    have f390 := f389.other W388 (Or.inl (Ne.symm n_Sl_oa))
    refine Ends.getF X388 hx hZ hown (host := "") (Or.inl (hw _ (List.mem_of_getElem? (i := 22) rfl))) Via.refl e388 f390 (hb hby d18_123) ?_
    intro T391 X391 e391
    refine E.iload (q := 128) X391 hx (hb hby d18_126) rfl ?_
    refine E.iloadN (q := 129) X391 hx (hb hby d18_128) rfl ?_
    have f393 := A_L.other W373 (Ne.symm n_N_Ln)
    have f394 := f393.other W388 (Ne.symm hne)
    refine Ends.ist X391 hx hZ e391 f394 (i := k380) rfl (by rw [List.length_map]; assumption) (hb hby d18_129) ?_
    intro T392 h392 X392 e392 W392 V392
    rw [← List.map_set] at V392
    have O392 := O388.wr W392 (Or.inl (List.mem_of_getElem? (i := 3) rfl))
    show Ends none p e below s _ _ _ T392 (mkF m 130 #[.val (.ref oa), .val (.ref os), .val (.int y), .val (.int (Int32.ofNat u)), .val (.int (Int32.ofNat k380)), .unset] [])
    refine E.aloadN (q := 131) X392 hx (hb hby d18_130) rfl rfl ?_
    refine E.iloadN (q := 132) X392 hx (hb hby d18_131) rfl ?_
    refine E.aloadN (q := 133) X392 hx (hb hby d18_132) rfl rfl ?_
    have f395 := Es.wr W373
    have f396 := f395.wr W388
    have f397 := f396.wr W392
    have f398 := Svs.other W373 (Or.inl (Ne.symm n_N_os))
    have f399 := f398.other W388 (Or.inl (Ne.symm n_Sl_os))
    have f400 := f399.other W392 (Or.inl (Ne.symm n_Ln_os))
    have f401 := Scs.other W373 (Or.inl (Ne.symm n_N_os))
    have f402 := f401.other W388 (Or.inl (Ne.symm n_Sl_os))
    have f403 := f402.other W392 (Or.inl (Ne.symm n_Ln_os))
    have f404 := A_x.other W373 n_Vs_N
    have f405 := f404.other W388 n_Vs_Sl
    have f406 := f405.other W392 n_Vs_Ln
    refine Ends.callV X392 hx hZ hown (hw _ (List.mem_of_getElem? (i := 97) rfl)) (hw _ (List.mem_of_getElem? (i := 98) rfl)) (hw _ (List.mem_of_getElem? (i := 100) rfl)) (hw _ (List.mem_of_getElem? (i := 99) rfl)) (hw _ (List.mem_of_getElem? (i := 40) rfl)) (hw _ (List.mem_of_getElem? (i := 101) rfl)) (by decide) (argsL := []) (rest := [(.int (Int32.ofNat u)), (.ref oa)]) e392 f397 (rm19 l Z a0 hw os Vs ([] : List Int32) _ f397 f400 f403 f406 cs hcs (own_sta_keep S0 O392.1 (own_ns4 E0 A_N A_S A_L))) (W := 2) (by decide) (by decide) (by rw [hml]; rfl) (lenOf pd_19 rfl) (Nat.le_of_eq rfl) (hb hby d18_133) (by decide) (by decide) rfl ?_
    rintro T407 v407 L407 X407 ⟨rfl, e407, rfl⟩
    rw [List.append_nil] at X407
    show Ends none p e below s _ _ _ T407 (mkF m 136 #[.val (.ref oa), .val (.ref os), .val (.int y), .val (.int (Int32.ofNat u)), .val (.int (Int32.ofNat k380)), .unset] [(.int (0 : Int32)), (.int (Int32.ofNat u)), (.ref oa)])
    refine E.iadd (q := 137) X407 hx (hb hby d18_136) ?_
    refine E.iconst (q := 138) (v := (1 : Int32)) X407 hx (hb hby d18_137) rfl ?_
    refine E.iadd (q := 139) X407 hx (hb hby d18_138) ?_
    rw [show (Int32.ofNat u + (0 : Int32)) + (1 : Int32) = Int32.ofNat (u + 0 + 1) from own_used]
    show Ends none p e below s _ _ _ T407 (mkF m 139 #[.val (.ref oa), .val (.ref os), .val (.int y), .val (.int (Int32.ofNat u)), .val (.int (Int32.ofNat k380)), .unset] [(.int (Int32.ofNat (u + 0 + 1))), (.ref oa)])
    have f408 := F_used.other W373 (Or.inl (Ne.symm n_N_oa))
    have f409 := f408.other W388 (Or.inl (Ne.symm n_Sl_oa))
    have f410 := f409.other W392 (Or.inl (Ne.symm n_Ln_oa))
    have f411 := f374.wr W388
    have f412 := f411.wr W392
    refine Ends.putF X407 hx hZ hown (host := "") (Or.inl (hw _ (List.mem_of_getElem? (i := 95) rfl))) Via.refl e407 f410 f412 (Or.inl (hw _ (List.mem_of_getElem? (i := 96) rfl))) (hw _ (List.mem_of_getElem? (i := 1) rfl)) (ty := .int) (by decide) rfl rfl (hb hby d18_139) ?_
    intro T413 h413 X413 e413 W413 Fw413
    have O413 := O392.wr W413 (Or.inl (List.mem_of_getElem? (i := 0) rfl))
    refine E.aloadN (q := 143) X413 hx (hb hby d18_142) rfl rfl ?_
    refine E.dup (q := 144) X413 hx (hb hby d18_143) rfl ?_
    have f414 := F_count.other W373 (Or.inl (Ne.symm n_N_oa))
    have f415 := f414.other W388 (Or.inl (Ne.symm n_Sl_oa))
    have f416 := f415.other W392 (Or.inl (Ne.symm n_Ln_oa))
    have f417 := f416.other W413 (Or.inr (slot_ne (Or.inl (hw _ (List.mem_of_getElem? (i := 30) rfl))) (Or.inl (hw _ (List.mem_of_getElem? (i := 96) rfl))) (by decide) (t := .int) (t' := .int) (by decide) (by decide)))
    refine Ends.getF X413 hx hZ hown (host := "") (Or.inl (hw _ (List.mem_of_getElem? (i := 29) rfl))) Via.refl e413 f417 (hb hby d18_144) ?_
    intro T418 X418 e418
    refine E.iconst (q := 148) (v := (1 : Int32)) X418 hx (hb hby d18_147) rfl ?_
    refine E.iadd (q := 149) X418 hx (hb hby d18_148) ?_
    rw [own_succ cn]
    show Ends none p e below s _ _ _ T418 (mkF m 149 #[.val (.ref oa), .val (.ref os), .val (.int y), .val (.int (Int32.ofNat u)), .val (.int (Int32.ofNat k380)), .unset] [(.int (Int32.ofNat (cn + 1))), (.ref oa)])
    have f419 := f412.wr W413
    refine Ends.putF X418 hx hZ hown (host := "") (Or.inl (hw _ (List.mem_of_getElem? (i := 29) rfl))) Via.refl e418 f417 f419 (Or.inl (hw _ (List.mem_of_getElem? (i := 30) rfl))) (hw _ (List.mem_of_getElem? (i := 1) rfl)) (ty := .int) (by decide) rfl rfl (hb hby d18_149) ?_
    intro T420 h420 X420 e420 W420 Fw420
    have O420 := O413.wr W420 (Or.inl (List.mem_of_getElem? (i := 0) rfl))
    refine E.aloadN (q := 153) X420 hx (hb hby d18_152) rfl rfl ?_
    refine Ends.getF X420 hx hZ hown (host := "") (Or.inl (hw _ (List.mem_of_getElem? (i := 29) rfl))) Via.refl e420 Fw420 (hb hby d18_153) ?_
    intro T421 X421 e421
    refine E.i2d (q := 157) X421 hx (hb hby d18_156) ?_
    refine E.aloadN (q := 158) X421 hx (hb hby d18_157) rfl rfl ?_
    have f422 := f376.other W388 (Or.inl (Ne.symm n_Sl_oa))
    have f423 := f422.other W392 (Or.inl (Ne.symm n_Ln_oa))
    have f424 := f423.other W413 (Or.inr (slot_ne (Or.inl (hw _ (List.mem_of_getElem? (i := 21) rfl))) (Or.inl (hw _ (List.mem_of_getElem? (i := 96) rfl))) (by decide) (t := (.array .int)) (t' := .int) (by decide) (by decide)))
    have f425 := f424.other W420 (Or.inr (slot_ne (Or.inl (hw _ (List.mem_of_getElem? (i := 21) rfl))) (Or.inl (hw _ (List.mem_of_getElem? (i := 30) rfl))) (by decide) (t := (.array .int)) (t' := .int) (by decide) (by decide)))
    refine Ends.getF X421 hx hZ hown (host := "") (Or.inl (hw _ (List.mem_of_getElem? (i := 20) rfl))) Via.refl e421 f425 (hb hby d18_158) ?_
    intro T426 X426 e426
    have f427 := V388.other W392 hne
    have f428 := f427.other W413 n_Sl_oa
    have f429 := f428.other W420 n_Sl_oa
    refine Ends.alen X426 hx hZ e426 f429 (hb hby d18_161) (n := (16 : Int32)) (by rw [List.length_map, List.length_set]; rw [hl2]; rfl) ?_
    refine E.i2d (q := 163) X426 hx (hb hby d18_162) ?_
    refine E.ldc2D (q := 166) X426 hx hZ hown (hw _ (List.mem_of_getElem? (i := 144) rfl)) (hb hby d18_163) ?_
    refine E.dmul (q := 167) X426 hx (hb hby d18_166) own_nn ?_
    show Ends none p e below s _ _ _ T426 (mkF m 167 #[.val (.ref oa), .val (.ref os), .val (.int y), .val (.int (Int32.ofNat u)), .val (.int (Int32.ofNat k380)), .unset] [(.double (FP.dmul (FP.i2d (16 : Int32)) (4604930618986332160 : UInt64))), (.double (FP.i2d (Int32.ofNat (cn + 1))))])
    refine E.dcmp (q := 168) X426 hx (hb hby d18_167) ?_
    refine E.ifY (q := 175) X426 hx (hb hby d18_168) (XT.i0_le_t (own_fpc hc)) ?_
    refine E.iconst (q := 176) (v := (0 : Int32)) X426 hx (hb hby d18_175) rfl ?_
    have f430 := f375.other W388 (Or.inl (Ne.symm n_Sl_oa))
    have f431 := f430.other W392 (Or.inl (Ne.symm n_Ln_oa))
    have f432 := f431.other W413 (Or.inr (slot_ne (Or.inl (hw _ (List.mem_of_getElem? (i := 11) rfl))) (Or.inl (hw _ (List.mem_of_getElem? (i := 96) rfl))) (by decide) (t := (.array .byte)) (t' := .int) (by decide) (by decide)))
    have f433 := f432.other W420 (Or.inr (slot_ne (Or.inl (hw _ (List.mem_of_getElem? (i := 11) rfl))) (Or.inl (hw _ (List.mem_of_getElem? (i := 30) rfl))) (by decide) (t := (.array .byte)) (t' := .int) (by decide) (by decide)))
    have f434 := f390.other W392 (Or.inl (Ne.symm n_Ln_oa))
    have f435 := f434.other W413 (Or.inr (slot_ne (Or.inl (hw _ (List.mem_of_getElem? (i := 23) rfl))) (Or.inl (hw _ (List.mem_of_getElem? (i := 96) rfl))) (by decide) (t := (.array .int)) (t' := .int) (by decide) (by decide)))
    have f436 := f435.other W420 (Or.inr (slot_ne (Or.inl (hw _ (List.mem_of_getElem? (i := 23) rfl))) (Or.inl (hw _ (List.mem_of_getElem? (i := 30) rfl))) (by decide) (t := (.array .int)) (t' := .int) (by decide) (by decide)))
    have f437 := Fw413.other W420 (Or.inr (slot_ne (Or.inl (hw _ (List.mem_of_getElem? (i := 96) rfl))) (Or.inl (hw _ (List.mem_of_getElem? (i := 30) rfl))) (by decide) (t := .int) (t' := .int) (by decide) (by decide)))
    have f438 := f377.other W388 (Or.inl (Ne.symm n_Sl_oa))
    have f439 := f438.other W392 (Or.inl (Ne.symm n_Ln_oa))
    have f440 := f439.other W413 (Or.inr (slot_ne (Or.inl (hw _ (List.mem_of_getElem? (i := 121) rfl))) (Or.inl (hw _ (List.mem_of_getElem? (i := 96) rfl))) (by decide) (t := .long) (t' := .int) (by decide) (by decide)))
    have f441 := f440.other W420 (Or.inr (slot_ne (Or.inl (hw _ (List.mem_of_getElem? (i := 121) rfl))) (Or.inl (hw _ (List.mem_of_getElem? (i := 30) rfl))) (by decide) (t := .long) (t' := .int) (by decide) (by decide)))
    have f442 := f378.other W388 (Or.inl (Ne.symm n_Sl_oa))
    have f443 := f442.other W392 (Or.inl (Ne.symm n_Ln_oa))
    have f444 := f443.other W413 (Or.inr (slot_ne (Or.inl (hw _ (List.mem_of_getElem? (i := 123) rfl))) (Or.inl (hw _ (List.mem_of_getElem? (i := 96) rfl))) (by decide) (t := .long) (t' := .int) (by decide) (by decide)))
    have f445 := f444.other W420 (Or.inr (slot_ne (Or.inl (hw _ (List.mem_of_getElem? (i := 123) rfl))) (Or.inl (hw _ (List.mem_of_getElem? (i := 30) rfl))) (by decide) (t := .long) (t' := .int) (by decide) (by decide)))
    have f446 := V373.other W388 n_N_Sl
    have f447 := f446.other W392 n_N_Ln
    have f448 := f447.other W413 n_N_oa
    have f449 := f448.other W420 n_N_oa
    have f450 := V392.other W413 n_Ln_oa
    have f451 := f450.other W420 n_Ln_oa
    have hq' : ss[k380]? = some (-1) := by rw [List.getElem?_eq_getElem hi2, hq]
    subst e426
    exact Ends.retI X426 hx hlk hret (hb hby d18_176) (by decide) (by decide) ⟨_, _, _, _, _, _, rfl, O420, f433, f425, f436, Fw420, f437, f441, f445, f449, f429, f451, own_SNa H373 y (by decide) h58 hq', Nat.le_add_left 1 cn, Nat.le_refl _⟩
  · refine E.icmpN (q := 106) X381 hx (hb hby d18_103) (XT.ii_eq_f hq) ?_
    refine E.aloadN (q := 107) X381 hx (hb hby d18_106) rfl rfl ?_
    have f382 := F_lines.other W373 (Or.inl (Ne.symm n_N_oa))
    refine Ends.getF X381 hx hZ hown (host := "") (Or.inl (hw _ (List.mem_of_getElem? (i := 22) rfl))) Via.refl e381 f382 (hb hby d18_107) ?_
    intro T383 X383 e383
    refine E.iload (q := 112) X383 hx (hb hby d18_110) rfl ?_
    have f384 := A_L.other W373 (Ne.symm n_N_Ln)
    refine Ends.ild X383 hx hZ e383 f384 (i := k380) (v := .int (ls[k380]'hi3)) rfl (by rw [List.getElem?_map, List.getElem?_eq_getElem hi3]; rfl) (hb hby d18_112) ?_
    show Ends none p e below s _ _ _ T383 (mkF m 113 #[.val (.ref oa), .val (.ref os), .val (.int y), .val (.int (Int32.ofNat u)), .val (.int (Int32.ofNat k380)), .unset] [(.int (ls[k380]'hi3))])
    have f385 := F_count.other W373 (Or.inl (Ne.symm n_N_oa))
    have f386 := F_used.other W373 (Or.inl (Ne.symm n_N_oa))
    subst e383
    exact Ends.retI X383 hx hlk hret (hb hby d18_113) (by decide) (by decide) ⟨_, _, _, _, _, _, rfl, O373, f375, f376, f382, f385, f386, f377, f378, V373, f379, f384, H373, own_SNe H373 (List.getElem_mem hi2) hq, Nat.le_succ cn⟩
theorem efAdd_1 (m : MethodId) (x0 : Addr) (x1 : Addr) (x2 : Int32) : entryFrame m #[(.ref x0), (.ref x1), (.int x2)] 6 = mkF m 0 #[.val (.ref x0), .val (.ref x1), .val (.int x2), .unset, .unset, .unset] [] := by first | (simp [entryFrame, mkF, argsToLocals, Value.category]; done) | rfl
set_option maxRecDepth 65536 in
set_option maxHeartbeats 40000000 in
theorem rmAdd_1 (l : Launch) (Z : State) (a0 : Array Value) (hw : ∀ d ∈ tables_1, d.before a0 Z = true) (oa : Addr) (os : Addr) (y : Int32) (N Sl Ln Vs : Addr) (k0 k1 : Int64) (bs ss ls : List Int32) (u cn : Nat) (hSN : SNs bs ss ls u cn) (hc : cn ≤ 2) (hne : Sl ≠ Ln) (x0 : Int32) (h0 : Heap) (E0 : Exa Z h0 oa "com/example/optpack/optpack/service/SectionNames") (F_names : Fld Z h0 oa "com/example/optpack/optpack/service/SectionNames" "names" "[B" (.ref N)) (F_slots : Fld Z h0 oa "com/example/optpack/optpack/service/SectionNames" "slots" "[I" (.ref Sl)) (F_lines : Fld Z h0 oa "com/example/optpack/optpack/service/SectionNames" "lines" "[I" (.ref Ln)) (F_count : Fld Z h0 oa "com/example/optpack/optpack/service/SectionNames" "count" "I" (.int (Int32.ofNat cn))) (F_used : Fld Z h0 oa "com/example/optpack/optpack/service/SectionNames" "used" "I" (.int (Int32.ofNat u))) (F_key0 : Fld Z h0 oa "com/example/optpack/optpack/service/SectionNames" "key0" "J" (.long k0)) (F_key1 : Fld Z h0 oa "com/example/optpack/optpack/service/SectionNames" "key1" "J" (.long k1)) (A_N : Ary Z h0 N .byte (bs.map Value.int)) (A_S : Ary Z h0 Sl .int (ss.map Value.int)) (A_L : Ary Z h0 Ln .int (ls.map Value.int)) (Es : Exa Z h0 os "java/lang/String") (Svs : Fld Z h0 os "java/lang/String" "value" "[B" (.ref Vs)) (Scs : Fld Z h0 os "java/lang/String" "coder" "B" (.int (0 : Int32))) (A_x : Ary Z h0 Vs .byte ([x0].map Value.int)) (cs : Int32) (hcs : ¬ cs = (0 : Int32)) (S0 : Sta Z h0 "java/lang/String" "COMPACT_STRINGS" "Z" (.int cs)) (fv : Value) (hfv : fv = .null ∨ ∃ a, fv = .ref a) (S1 : Sta Z h0 "jdk/internal/util/Preconditions" "SIOOBE_FORMATTER" "Ljava/util/function/BiFunction;" fv) :
    Con l (⟨"com/example/optpack/optpack/service/SectionNames", "add", "(Ljava/lang/String;I)I"⟩ : MethodName) prog_73_method_2_code 6 (some .int) [] ({ frames := 5, cells := 0, slots := 0, locals := 150 } : Room) #[(.ref oa), (.ref os), (.int y)] Z h0 (fun v h L => ∃ (r : Int32) (bs' ss' ls' : List Int32) (u' c' : Nat), v = some (.int r) ∧ Ok h0 h [oa, N, Sl, Ln] L ∧ Fld Z h oa "com/example/optpack/optpack/service/SectionNames" "names" "[B" (.ref N) ∧ Fld Z h oa "com/example/optpack/optpack/service/SectionNames" "slots" "[I" (.ref Sl) ∧ Fld Z h oa "com/example/optpack/optpack/service/SectionNames" "lines" "[I" (.ref Ln) ∧ Fld Z h oa "com/example/optpack/optpack/service/SectionNames" "count" "I" (.int (Int32.ofNat c')) ∧ Fld Z h oa "com/example/optpack/optpack/service/SectionNames" "used" "I" (.int (Int32.ofNat u')) ∧ Fld Z h oa "com/example/optpack/optpack/service/SectionNames" "key0" "J" (.long k0) ∧ Fld Z h oa "com/example/optpack/optpack/service/SectionNames" "key1" "J" (.long k1) ∧ Ary Z h N .byte (bs'.map Value.int) ∧ Ary Z h Sl .int (ss'.map Value.int) ∧ Ary Z h Ln .int (ls'.map Value.int) ∧ SNs bs' ss' ls' u' c' ∧ 1 ≤ c' ∧ c' ≤ cn + 1) := by
  refine Con.of (plainFor_of_name pn_8) ?_
  intro p e s m below meth c s₁ hx hZ hby hml hown hnm hret hlk X0 e0
  refine Ends.cast (efAdd_1 m oa os y) ?_
  show Ends none p e below s _ _ _ s₁ (mkF m 0 #[.val (.ref oa), .val (.ref os), .val (.int y), .unset, .unset, .unset] [])
  have O0 := Ok.refl h0 [oa, N, Sl, Ln]
  have hl := hSN.1
  have hl2 := hSN.2.1
  have hl3 := hSN.2.2.1
  have hu4 := hSN.2.2.2.1
  have n_N_Sl : N ≠ Sl := (own_ary_ne A_N A_S (by simp only [List.length_map]; omega))
  have n_N_Ln : N ≠ Ln := (own_ary_ne A_N A_L (by simp only [List.length_map]; omega))
  have n_Vs_N : Vs ≠ N := (own_ary_ne A_x A_N (by simp only [List.length_map]; rw [hl]; simp))
  have n_Vs_Sl : Vs ≠ Sl := (own_ary_ne A_x A_S (by simp only [List.length_map]; rw [hl2]; simp))
  have n_Vs_Ln : Vs ≠ Ln := (own_ary_ne A_x A_L (by simp only [List.length_map]; rw [hl3]; simp))
  have n_N_oa : N ≠ oa := own_ne_ea (hw _ (List.mem_of_getElem? (i := 1) rfl)) E0 A_N
  have n_N_os : N ≠ os := own_ne_ea (hw _ (List.mem_of_getElem? (i := 41) rfl)) Es A_N
  have n_Sl_oa : Sl ≠ oa := own_ne_ea (hw _ (List.mem_of_getElem? (i := 1) rfl)) E0 A_S
  have n_Sl_os : Sl ≠ os := own_ne_ea (hw _ (List.mem_of_getElem? (i := 41) rfl)) Es A_S
  have n_Ln_oa : Ln ≠ oa := own_ne_ea (hw _ (List.mem_of_getElem? (i := 1) rfl)) E0 A_L
  have n_Ln_os : Ln ≠ os := own_ne_ea (hw _ (List.mem_of_getElem? (i := 41) rfl)) Es A_L
  have n_Vs_oa : Vs ≠ oa := own_ne_ea (hw _ (List.mem_of_getElem? (i := 1) rfl)) E0 A_x
  have n_Vs_os : Vs ≠ os := own_ne_ea (hw _ (List.mem_of_getElem? (i := 41) rfl)) Es A_x
  have n_os_oa : os ≠ oa := own_exa_ne Es E0 (by decide)
  refine E.aloadN (q := 1) X0 hx (hb hby d18_0) rfl rfl ?_
  refine Ends.getF X0 hx hZ hown (host := "") (Or.inl (hw _ (List.mem_of_getElem? (i := 95) rfl))) Via.refl e0 F_used (hb hby d18_1) ?_
  intro T452 X452 e452
  refine E.istoreN (q := 5) (l' := #[.val (.ref oa), .val (.ref os), .val (.int y), .val (.int (Int32.ofNat u)), .unset, .unset]) X452 hx (hb hby d18_4) rfl ?_
  refine E.aloadN (q := 6) X452 hx (hb hby d18_5) rfl rfl ?_
  refine E.aloadN (q := 7) X452 hx (hb hby d18_6) rfl rfl ?_
  refine Ends.callV X452 hx hZ hown (hw _ (List.mem_of_getElem? (i := 97) rfl)) (hw _ (List.mem_of_getElem? (i := 98) rfl)) (hw _ (List.mem_of_getElem? (i := 100) rfl)) (hw _ (List.mem_of_getElem? (i := 99) rfl)) (hw _ (List.mem_of_getElem? (i := 40) rfl)) (hw _ (List.mem_of_getElem? (i := 101) rfl)) (by decide) (argsL := []) (rest := [(.ref oa)]) e452 Es (rm19 l Z a0 hw os Vs [x0] _ Es Svs Scs A_x cs hcs (own_sta_keep S0 O0.1 (own_ns4 E0 A_N A_S A_L))) (W := 1) (by decide) (by decide) (by rw [hml]; rfl) (lenOf pd_19 rfl) (Nat.le_of_eq rfl) (hb hby d18_7) (by decide) (by decide) rfl ?_
  rintro T453 v453 L453 X453 ⟨rfl, e453, rfl⟩
  rw [List.append_nil] at X453
  show Ends none p e below s _ _ _ T453 (mkF m 10 #[.val (.ref oa), .val (.ref os), .val (.int y), .val (.int (Int32.ofNat u)), .unset, .unset] [(.int (1 : Int32)), (.ref oa)])
  refine E.iconst (q := 11) (v := (1 : Int32)) X453 hx (hb hby d18_10) rfl ?_
  refine E.iadd (q := 12) X453 hx (hb hby d18_11) ?_
  rw [show ((1 : Int32) + (1 : Int32)) = (2 : Int32) from by decide]
  refine Ends.callPr X453 hx hZ hown (hw _ (List.mem_of_getElem? (i := 107) rfl)) (hw _ (List.mem_of_getElem? (i := 108) rfl)) (hw _ (List.mem_of_getElem? (i := 109) rfl)) (hw _ (List.mem_of_getElem? (i := 1) rfl)) (hw _ (List.mem_of_getElem? (i := 2) rfl)) (hw _ (List.mem_of_getElem? (i := 110) rfl)) (by decide) (argsL := [(.int (2 : Int32))]) (rest := []) e453 E0 (rm21 l Z a0 hw oa N u 2 bs hl (by omega) _ F_names F_used A_N) (W := 0) (by decide) (by decide) (by rw [hml]; rfl) (lenOf pd_20 rfl) (Nat.le_of_eq rfl) (hb hby d18_12) (by decide) (by decide) rfl ?_
  rintro T454 v454 L454 X454 ⟨rfl, e454, rfl⟩
  rw [List.append_nil] at X454
  show Ends none p e below s _ _ _ T454 (mkF m 15 #[.val (.ref oa), .val (.ref os), .val (.int y), .val (.int (Int32.ofNat u)), .unset, .unset] [])
  refine E.iconst (q := 16) (v := (0 : Int32)) X454 hx (hb hby d18_15) rfl ?_
  refine E.istore (q := 18) (l' := #[.val (.ref oa), .val (.ref os), .val (.int y), .val (.int (Int32.ofNat u)), .val (.int (0 : Int32)), .unset]) X454 hx (hb hby d18_16) rfl ?_
  refine E.iload (q := 20) X454 hx (hb hby d18_18) rfl ?_
  refine E.aloadN (q := 21) X454 hx (hb hby d18_20) rfl rfl ?_
  refine Ends.callV X454 hx hZ hown (hw _ (List.mem_of_getElem? (i := 97) rfl)) (hw _ (List.mem_of_getElem? (i := 98) rfl)) (hw _ (List.mem_of_getElem? (i := 100) rfl)) (hw _ (List.mem_of_getElem? (i := 99) rfl)) (hw _ (List.mem_of_getElem? (i := 40) rfl)) (hw _ (List.mem_of_getElem? (i := 101) rfl)) (by decide) (argsL := []) (rest := [(.int (0 : Int32))]) e454 Es (rm19 l Z a0 hw os Vs [x0] _ Es Svs Scs A_x cs hcs (own_sta_keep S0 O0.1 (own_ns4 E0 A_N A_S A_L))) (W := 1) (by decide) (by decide) (by rw [hml]; rfl) (lenOf pd_19 rfl) (Nat.le_of_eq rfl) (hb hby d18_21) (by decide) (by decide) rfl ?_
  rintro T455 v455 L455 X455 ⟨rfl, e455, rfl⟩
  rw [List.append_nil] at X455
  show Ends none p e below s _ _ _ T455 (mkF m 24 #[.val (.ref oa), .val (.ref os), .val (.int y), .val (.int (Int32.ofNat u)), .val (.int (0 : Int32)), .unset] [(.int (1 : Int32)), (.int (0 : Int32))])
  refine E.icmpN (q := 27) X455 hx (hb hby d18_24) (XT.ii_ge_f (by decide)) ?_
  refine E.aloadN (q := 28) X455 hx (hb hby d18_27) rfl rfl ?_
  refine E.iload (q := 30) X455 hx (hb hby d18_28) rfl ?_
  refine Ends.callV X455 hx hZ hown (hw _ (List.mem_of_getElem? (i := 111) rfl)) (hw _ (List.mem_of_getElem? (i := 47) rfl)) (hw _ (List.mem_of_getElem? (i := 49) rfl)) (hw _ (List.mem_of_getElem? (i := 48) rfl)) (hw _ (List.mem_of_getElem? (i := 40) rfl)) (hw _ (List.mem_of_getElem? (i := 50) rfl)) (by decide) (argsL := [(.int (0 : Int32))]) (rest := []) e455 Es (rm8 l Z a0 hw os Vs 0 [x0] x0 rfl _ Es Svs Scs A_x cs hcs (own_sta_keep S0 O0.1 (own_ns4 E0 A_N A_S A_L)) fv hfv (own_sta_keep S1 O0.1 (own_ns4 E0 A_N A_S A_L))) (W := 0) (by decide) (by decide) (by rw [hml]; rfl) (lenOf pd_5 rfl) (Nat.le_of_eq rfl) (hb hby d18_30) (by decide) (by decide) rfl ?_
  rintro T456 v456 L456 X456 ⟨rfl, e456, rfl⟩
  rw [List.append_nil] at X456
  show Ends none p e below s _ _ _ T456 (mkF m 33 #[.val (.ref oa), .val (.ref os), .val (.int y), .val (.int (Int32.ofNat u)), .val (.int (0 : Int32)), .unset] [(.int ((x0 &&& (255 : Int32)).toUInt32.toUInt16.toUInt32.toInt32))])
  generalize ((x0 &&& (255 : Int32)).toUInt32.toUInt16.toUInt32.toInt32) = ch0
  show Ends none p e below s _ _ _ T456 (mkF m 33 #[.val (.ref oa), .val (.ref os), .val (.int y), .val (.int (Int32.ofNat u)), .val (.int (0 : Int32)), .unset] [(.int ch0)])
  refine E.istore (q := 35) (l' := #[.val (.ref oa), .val (.ref os), .val (.int y), .val (.int (Int32.ofNat u)), .val (.int (0 : Int32)), .val (.int ch0)]) X456 hx (hb hby d18_33) rfl ?_
  refine E.aloadN (q := 36) X456 hx (hb hby d18_35) rfl rfl ?_
  refine Ends.getF X456 hx hZ hown (host := "") (Or.inl (hw _ (List.mem_of_getElem? (i := 10) rfl))) Via.refl e456 F_names (hb hby d18_36) ?_
  intro T457 X457 e457
  refine E.iloadN (q := 40) X457 hx (hb hby d18_39) rfl ?_
  refine E.iload (q := 42) X457 hx (hb hby d18_40) rfl ?_
  refine E.iadd (q := 43) X457 hx (hb hby d18_42) ?_
  refine E.iload (q := 45) X457 hx (hb hby d18_43) rfl ?_
  refine E.bipush (q := 47) (v := (65 : Int32)) X457 hx (hb hby d18_45) rfl ?_
  have Jc0 : ∀ cv : Int32, Ends none p e below s (fun v h L => ∃ (r : Int32) (bs' ss' ls' : List Int32) (u' c' : Nat), v = some (.int r) ∧ Ok h0 h [oa, N, Sl, Ln] L ∧ Fld Z h oa "com/example/optpack/optpack/service/SectionNames" "names" "[B" (.ref N) ∧ Fld Z h oa "com/example/optpack/optpack/service/SectionNames" "slots" "[I" (.ref Sl) ∧ Fld Z h oa "com/example/optpack/optpack/service/SectionNames" "lines" "[I" (.ref Ln) ∧ Fld Z h oa "com/example/optpack/optpack/service/SectionNames" "count" "I" (.int (Int32.ofNat c')) ∧ Fld Z h oa "com/example/optpack/optpack/service/SectionNames" "used" "I" (.int (Int32.ofNat u')) ∧ Fld Z h oa "com/example/optpack/optpack/service/SectionNames" "key0" "J" (.long k0) ∧ Fld Z h oa "com/example/optpack/optpack/service/SectionNames" "key1" "J" (.long k1) ∧ Ary Z h N .byte (bs'.map Value.int) ∧ Ary Z h Sl .int (ss'.map Value.int) ∧ Ary Z h Ln .int (ls'.map Value.int) ∧ SNs bs' ss' ls' u' c' ∧ 1 ≤ c' ∧ c' ≤ cn + 1) ({ frames := 5, cells := 0, slots := 0, locals := 150 } : Room).cells ({ frames := 5, cells := 0, slots := 0, locals := 150 } : Room).slots T457 (mkF m 67 #[.val (.ref oa), .val (.ref os), .val (.int y), .val (.int (Int32.ofNat u)), .val (.int (0 : Int32)), .val (.int ch0)] [(.int cv), (.int ((Int32.ofNat u) + (0 : Int32))), (.ref N)]) := by
    intro cv
    show Ends none p e below s _ _ _ T457 (mkF m 67 #[.val (.ref oa), .val (.ref os), .val (.int y), .val (.int (Int32.ofNat u)), .val (.int (0 : Int32)), .val (.int ch0)] [(.int cv), (.int ((Int32.ofNat u) + (0 : Int32))), (.ref N)])
    refine E.i2b (q := 68) X457 hx (hb hby d18_67) ?_
    refine Ends.bst X457 hx hZ e457 A_N (x' := (cv.toInt8.toInt32)) (own_nb8 _) (i := u + 0) (own_addN u 0) (by rw [List.length_map, hSN.1]; omega) (hb hby d18_68) ?_
    intro T458 h458 X458 e458 W458 V458
    rw [← List.map_set] at V458
    have H458 := own_SNw hSN (cv.toInt8.toInt32) (Nat.le_add_right u 0)
    generalize bs.set (u + 0) (cv.toInt8.toInt32) = bs458 at V458 H458
    have O458 := O0.wr W458 (Or.inl (List.mem_of_getElem? (i := 1) rfl))
    show Ends none p e below s _ _ _ T458 (mkF m 69 #[.val (.ref oa), .val (.ref os), .val (.int y), .val (.int (Int32.ofNat u)), .val (.int (0 : Int32)), .val (.int ch0)] [])
    refine E.iinc (q := 72) (v := (1 : Int32)) (l' := #[.val (.ref oa), .val (.ref os), .val (.int y), .val (.int (Int32.ofNat u)), .val (.int (1 : Int32)), .val (.int ch0)]) X458 hx (hb hby d18_69) rfl (by decide) rfl ?_
    refine E.goto (q := 18) X458 hx (hb hby d18_72) ?_
    refine E.iload (q := 20) X458 hx (hb hby d18_18) rfl ?_
    refine E.aloadN (q := 21) X458 hx (hb hby d18_20) rfl rfl ?_
    have f459 := Es.wr W458
    have f460 := Svs.other W458 (Or.inl (Ne.symm n_N_os))
    have f461 := Scs.other W458 (Or.inl (Ne.symm n_N_os))
    have f462 := A_x.other W458 n_Vs_N
    refine Ends.callV X458 hx hZ hown (hw _ (List.mem_of_getElem? (i := 97) rfl)) (hw _ (List.mem_of_getElem? (i := 98) rfl)) (hw _ (List.mem_of_getElem? (i := 100) rfl)) (hw _ (List.mem_of_getElem? (i := 99) rfl)) (hw _ (List.mem_of_getElem? (i := 40) rfl)) (hw _ (List.mem_of_getElem? (i := 101) rfl)) (by decide) (argsL := []) (rest := [(.int (1 : Int32))]) e458 f459 (rm19 l Z a0 hw os Vs [x0] _ f459 f460 f461 f462 cs hcs (own_sta_keep S0 O458.1 (own_ns4 E0 A_N A_S A_L))) (W := 1) (by decide) (by decide) (by rw [hml]; rfl) (lenOf pd_19 rfl) (Nat.le_of_eq rfl) (hb hby d18_21) (by decide) (by decide) rfl ?_
    rintro T463 v463 L463 X463 ⟨rfl, e463, rfl⟩
    rw [List.append_nil] at X463
    show Ends none p e below s _ _ _ T463 (mkF m 24 #[.val (.ref oa), .val (.ref os), .val (.int y), .val (.int (Int32.ofNat u)), .val (.int (1 : Int32)), .val (.int ch0)] [(.int (1 : Int32)), (.int (1 : Int32))])
    refine E.icmpY (q := 75) X463 hx (hb hby d18_24) (XT.ii_ge_t (by decide)) ?_
    refine E.aloadN (q := 76) X463 hx (hb hby d18_75) rfl rfl ?_
    have f464 := F_names.other W458 (Or.inl (Ne.symm n_N_oa))
    refine Ends.getF X463 hx hZ hown (host := "") (Or.inl (hw _ (List.mem_of_getElem? (i := 10) rfl))) Via.refl e463 f464 (hb hby d18_76) ?_
    intro T465 X465 e465
    refine E.iloadN (q := 80) X465 hx (hb hby d18_79) rfl ?_
    refine E.aloadN (q := 81) X465 hx (hb hby d18_80) rfl rfl ?_
    refine Ends.callV X465 hx hZ hown (hw _ (List.mem_of_getElem? (i := 97) rfl)) (hw _ (List.mem_of_getElem? (i := 98) rfl)) (hw _ (List.mem_of_getElem? (i := 100) rfl)) (hw _ (List.mem_of_getElem? (i := 99) rfl)) (hw _ (List.mem_of_getElem? (i := 40) rfl)) (hw _ (List.mem_of_getElem? (i := 101) rfl)) (by decide) (argsL := []) (rest := [(.int (Int32.ofNat u)), (.ref N)]) e465 f459 (rm19 l Z a0 hw os Vs [x0] _ f459 f460 f461 f462 cs hcs (own_sta_keep S0 O458.1 (own_ns4 E0 A_N A_S A_L))) (W := 2) (by decide) (by decide) (by rw [hml]; rfl) (lenOf pd_19 rfl) (Nat.le_of_eq rfl) (hb hby d18_81) (by decide) (by decide) rfl ?_
    rintro T466 v466 L466 X466 ⟨rfl, e466, rfl⟩
    rw [List.append_nil] at X466
    show Ends none p e below s _ _ _ T466 (mkF m 84 #[.val (.ref oa), .val (.ref os), .val (.int y), .val (.int (Int32.ofNat u)), .val (.int (1 : Int32)), .val (.int ch0)] [(.int (1 : Int32)), (.int (Int32.ofNat u)), (.ref N)])
    refine E.iadd (q := 85) X466 hx (hb hby d18_84) ?_
    refine E.bipush (q := 87) (v := (58 : Int32)) X466 hx (hb hby d18_85) rfl ?_
    refine Ends.bst X466 hx hZ e466 V458 (x' := (58 : Int32)) rfl (i := u + 1) (own_addN u 1) (by rw [List.length_map, H458.1]; omega) (hb hby d18_87) ?_
    intro T467 h467 X467 e467 W467 V467
    rw [← List.map_set] at V467
    have H467 := own_SNw H458 (58 : Int32) (Nat.le_add_right u 1)
    have h58 : (bs458.set (u + 1) (58 : Int32))[u + 1]? = some (58 : Int32) := own_set58 (by rw [H458.1]; omega)
    generalize bs458.set (u + 1) (58 : Int32) = bs467 at V467 H467 h58
    have O467 := O458.wr W467 (Or.inl (List.mem_of_getElem? (i := 1) rfl))
    show Ends none p e below s _ _ _ T467 (mkF m 88 #[.val (.ref oa), .val (.ref os), .val (.int y), .val (.int (Int32.ofNat u)), .val (.int (1 : Int32)), .val (.int ch0)] [])
    refine E.aloadN (q := 89) X467 hx (hb hby d18_88) rfl rfl ?_
    refine E.iloadN (q := 90) X467 hx (hb hby d18_89) rfl ?_
    have f468 := E0.wr W458
    have f469 := f468.wr W467
    have f470 := f464.other W467 (Or.inl (Ne.symm n_N_oa))
    have f471 := F_slots.other W458 (Or.inl (Ne.symm n_N_oa))
    have f472 := f471.other W467 (Or.inl (Ne.symm n_N_oa))
    have f473 := F_key0.other W458 (Or.inl (Ne.symm n_N_oa))
    have f474 := f473.other W467 (Or.inl (Ne.symm n_N_oa))
    have f475 := F_key1.other W458 (Or.inl (Ne.symm n_N_oa))
    have f476 := f475.other W467 (Or.inl (Ne.symm n_N_oa))
    have f477 := A_S.other W458 (Ne.symm n_N_Sl)
    have f478 := f477.other W467 (Ne.symm n_N_Sl)
    refine Ends.callPr X467 hx hZ hown (hw _ (List.mem_of_getElem? (i := 112) rfl)) (hw _ (List.mem_of_getElem? (i := 113) rfl)) (hw _ (List.mem_of_getElem? (i := 114) rfl)) (hw _ (List.mem_of_getElem? (i := 1) rfl)) (hw _ (List.mem_of_getElem? (i := 2) rfl)) (hw _ (List.mem_of_getElem? (i := 115) rfl)) (by decide) (argsL := [(.int (Int32.ofNat u))]) (rest := []) e467 f469 (rm22 l Z a0 hw oa N Sl k0 k1 bs467 ss ls u cn 1 H467 hc (by decide) h58 _ f469 f470 f472 f474 f476 V467 f478) (W := 0) (by decide) (by decide) (by rw [hml]; rfl) (lenOf pd_17 rfl) (Nat.le_of_eq rfl) (hb hby d18_90) (by decide) (by decide) rfl ?_
    rintro T479 v479 L479 X479 ⟨k479, rfl, hk479, e479, rfl⟩
    rw [List.append_nil] at X479
    show Ends none p e below s _ _ _ T479 (mkF m 93 #[.val (.ref oa), .val (.ref os), .val (.int y), .val (.int (Int32.ofNat u)), .val (.int (1 : Int32)), .val (.int ch0)] [(.int (Int32.ofNat k479))])
    have hi2 : k479 < ss.length := by omega
    have hi3 : k479 < ls.length := by omega
    refine E.istore (q := 95) (l' := #[.val (.ref oa), .val (.ref os), .val (.int y), .val (.int (Int32.ofNat u)), .val (.int (Int32.ofNat k479)), .val (.int ch0)]) X479 hx (hb hby d18_93) rfl ?_
    refine E.aloadN (q := 96) X479 hx (hb hby d18_95) rfl rfl ?_
    refine Ends.getF X479 hx hZ hown (host := "") (Or.inl (hw _ (List.mem_of_getElem? (i := 20) rfl))) Via.refl e479 f472 (hb hby d18_96) ?_
    intro T480 X480 e480
    refine E.iload (q := 101) X480 hx (hb hby d18_99) rfl ?_
    refine Ends.ild X480 hx hZ e480 f478 (i := k479) (v := .int (ss[k479]'hi2)) rfl (by rw [List.getElem?_map, List.getElem?_eq_getElem hi2]; rfl) (hb hby d18_101) ?_
    show Ends none p e below s _ _ _ T480 (mkF m 102 #[.val (.ref oa), .val (.ref os), .val (.int y), .val (.int (Int32.ofNat u)), .val (.int (Int32.ofNat k479)), .val (.int ch0)] [(.int (ss[k479]'hi2))])
    refine E.iconst (q := 103) (v := (-1 : Int32)) X480 hx (hb hby d18_102) rfl ?_
    by_cases hq : (ss[k479]'hi2) = (-1 : Int32)
    · refine E.icmpY (q := 114) X480 hx (hb hby d18_103) (XT.ii_eq_t hq) ?_
      refine E.aloadN (q := 115) X480 hx (hb hby d18_114) rfl rfl ?_
      refine Ends.getF X480 hx hZ hown (host := "") (Or.inl (hw _ (List.mem_of_getElem? (i := 20) rfl))) Via.refl e480 f472 (hb hby d18_115) ?_
      intro T490 X490 e490
      refine E.iload (q := 120) X490 hx (hb hby d18_118) rfl ?_
      refine E.iloadN (q := 121) X490 hx (hb hby d18_120) rfl ?_
      refine Ends.ist X490 hx hZ e490 f478 (i := k479) rfl (by rw [List.length_map]; assumption) (hb hby d18_121) ?_
      intro T491 h491 X491 e491 W491 V491
      rw [← List.map_set] at V491
      have O491 := O467.wr W491 (Or.inl (List.mem_of_getElem? (i := 2) rfl))
      show Ends none p e below s _ _ _ T491 (mkF m 122 #[.val (.ref oa), .val (.ref os), .val (.int y), .val (.int (Int32.ofNat u)), .val (.int (Int32.ofNat k479)), .val (.int ch0)] [])
      refine E.aloadN (q := 123) X491 hx (hb hby d18_122) rfl rfl ?_
      have f492 := F_lines.other W458 (Or.inl (Ne.symm n_N_oa))
      have f493 := f492.other W467 (Or.inl (Ne.symm n_N_oa))
      have f494 := f493.other W491 (Or.inl (Ne.symm n_Sl_oa))
      refine Ends.getF X491 hx hZ hown (host := "") (Or.inl (hw _ (List.mem_of_getElem? (i := 22) rfl))) Via.refl e491 f494 (hb hby d18_123) ?_
      intro T495 X495 e495
      refine E.iload (q := 128) X495 hx (hb hby d18_126) rfl ?_
      refine E.iloadN (q := 129) X495 hx (hb hby d18_128) rfl ?_
      have f497 := A_L.other W458 (Ne.symm n_N_Ln)
      have f498 := f497.other W467 (Ne.symm n_N_Ln)
      have f499 := f498.other W491 (Ne.symm hne)
      refine Ends.ist X495 hx hZ e495 f499 (i := k479) rfl (by rw [List.length_map]; assumption) (hb hby d18_129) ?_
      intro T496 h496 X496 e496 W496 V496
      rw [← List.map_set] at V496
      have O496 := O491.wr W496 (Or.inl (List.mem_of_getElem? (i := 3) rfl))
      show Ends none p e below s _ _ _ T496 (mkF m 130 #[.val (.ref oa), .val (.ref os), .val (.int y), .val (.int (Int32.ofNat u)), .val (.int (Int32.ofNat k479)), .val (.int ch0)] [])
      refine E.aloadN (q := 131) X496 hx (hb hby d18_130) rfl rfl ?_
      refine E.iloadN (q := 132) X496 hx (hb hby d18_131) rfl ?_
      refine E.aloadN (q := 133) X496 hx (hb hby d18_132) rfl rfl ?_
      have f500 := f459.wr W467
      have f501 := f500.wr W491
      have f502 := f501.wr W496
      have f503 := f460.other W467 (Or.inl (Ne.symm n_N_os))
      have f504 := f503.other W491 (Or.inl (Ne.symm n_Sl_os))
      have f505 := f504.other W496 (Or.inl (Ne.symm n_Ln_os))
      have f506 := f461.other W467 (Or.inl (Ne.symm n_N_os))
      have f507 := f506.other W491 (Or.inl (Ne.symm n_Sl_os))
      have f508 := f507.other W496 (Or.inl (Ne.symm n_Ln_os))
      have f509 := f462.other W467 n_Vs_N
      have f510 := f509.other W491 n_Vs_Sl
      have f511 := f510.other W496 n_Vs_Ln
      refine Ends.callV X496 hx hZ hown (hw _ (List.mem_of_getElem? (i := 97) rfl)) (hw _ (List.mem_of_getElem? (i := 98) rfl)) (hw _ (List.mem_of_getElem? (i := 100) rfl)) (hw _ (List.mem_of_getElem? (i := 99) rfl)) (hw _ (List.mem_of_getElem? (i := 40) rfl)) (hw _ (List.mem_of_getElem? (i := 101) rfl)) (by decide) (argsL := []) (rest := [(.int (Int32.ofNat u)), (.ref oa)]) e496 f502 (rm19 l Z a0 hw os Vs [x0] _ f502 f505 f508 f511 cs hcs (own_sta_keep S0 O496.1 (own_ns4 E0 A_N A_S A_L))) (W := 2) (by decide) (by decide) (by rw [hml]; rfl) (lenOf pd_19 rfl) (Nat.le_of_eq rfl) (hb hby d18_133) (by decide) (by decide) rfl ?_
      rintro T512 v512 L512 X512 ⟨rfl, e512, rfl⟩
      rw [List.append_nil] at X512
      show Ends none p e below s _ _ _ T512 (mkF m 136 #[.val (.ref oa), .val (.ref os), .val (.int y), .val (.int (Int32.ofNat u)), .val (.int (Int32.ofNat k479)), .val (.int ch0)] [(.int (1 : Int32)), (.int (Int32.ofNat u)), (.ref oa)])
      refine E.iadd (q := 137) X512 hx (hb hby d18_136) ?_
      refine E.iconst (q := 138) (v := (1 : Int32)) X512 hx (hb hby d18_137) rfl ?_
      refine E.iadd (q := 139) X512 hx (hb hby d18_138) ?_
      rw [show (Int32.ofNat u + (1 : Int32)) + (1 : Int32) = Int32.ofNat (u + 1 + 1) from own_used]
      show Ends none p e below s _ _ _ T512 (mkF m 139 #[.val (.ref oa), .val (.ref os), .val (.int y), .val (.int (Int32.ofNat u)), .val (.int (Int32.ofNat k479)), .val (.int ch0)] [(.int (Int32.ofNat (u + 1 + 1))), (.ref oa)])
      have f513 := F_used.other W458 (Or.inl (Ne.symm n_N_oa))
      have f514 := f513.other W467 (Or.inl (Ne.symm n_N_oa))
      have f515 := f514.other W491 (Or.inl (Ne.symm n_Sl_oa))
      have f516 := f515.other W496 (Or.inl (Ne.symm n_Ln_oa))
      have f517 := f469.wr W491
      have f518 := f517.wr W496
      refine Ends.putF X512 hx hZ hown (host := "") (Or.inl (hw _ (List.mem_of_getElem? (i := 95) rfl))) Via.refl e512 f516 f518 (Or.inl (hw _ (List.mem_of_getElem? (i := 96) rfl))) (hw _ (List.mem_of_getElem? (i := 1) rfl)) (ty := .int) (by decide) rfl rfl (hb hby d18_139) ?_
      intro T519 h519 X519 e519 W519 Fw519
      have O519 := O496.wr W519 (Or.inl (List.mem_of_getElem? (i := 0) rfl))
      refine E.aloadN (q := 143) X519 hx (hb hby d18_142) rfl rfl ?_
      refine E.dup (q := 144) X519 hx (hb hby d18_143) rfl ?_
      have f520 := F_count.other W458 (Or.inl (Ne.symm n_N_oa))
      have f521 := f520.other W467 (Or.inl (Ne.symm n_N_oa))
      have f522 := f521.other W491 (Or.inl (Ne.symm n_Sl_oa))
      have f523 := f522.other W496 (Or.inl (Ne.symm n_Ln_oa))
      have f524 := f523.other W519 (Or.inr (slot_ne (Or.inl (hw _ (List.mem_of_getElem? (i := 30) rfl))) (Or.inl (hw _ (List.mem_of_getElem? (i := 96) rfl))) (by decide) (t := .int) (t' := .int) (by decide) (by decide)))
      refine Ends.getF X519 hx hZ hown (host := "") (Or.inl (hw _ (List.mem_of_getElem? (i := 29) rfl))) Via.refl e519 f524 (hb hby d18_144) ?_
      intro T525 X525 e525
      refine E.iconst (q := 148) (v := (1 : Int32)) X525 hx (hb hby d18_147) rfl ?_
      refine E.iadd (q := 149) X525 hx (hb hby d18_148) ?_
      rw [own_succ cn]
      show Ends none p e below s _ _ _ T525 (mkF m 149 #[.val (.ref oa), .val (.ref os), .val (.int y), .val (.int (Int32.ofNat u)), .val (.int (Int32.ofNat k479)), .val (.int ch0)] [(.int (Int32.ofNat (cn + 1))), (.ref oa)])
      have f526 := f518.wr W519
      refine Ends.putF X525 hx hZ hown (host := "") (Or.inl (hw _ (List.mem_of_getElem? (i := 29) rfl))) Via.refl e525 f524 f526 (Or.inl (hw _ (List.mem_of_getElem? (i := 30) rfl))) (hw _ (List.mem_of_getElem? (i := 1) rfl)) (ty := .int) (by decide) rfl rfl (hb hby d18_149) ?_
      intro T527 h527 X527 e527 W527 Fw527
      have O527 := O519.wr W527 (Or.inl (List.mem_of_getElem? (i := 0) rfl))
      refine E.aloadN (q := 153) X527 hx (hb hby d18_152) rfl rfl ?_
      refine Ends.getF X527 hx hZ hown (host := "") (Or.inl (hw _ (List.mem_of_getElem? (i := 29) rfl))) Via.refl e527 Fw527 (hb hby d18_153) ?_
      intro T528 X528 e528
      refine E.i2d (q := 157) X528 hx (hb hby d18_156) ?_
      refine E.aloadN (q := 158) X528 hx (hb hby d18_157) rfl rfl ?_
      have f529 := f472.other W491 (Or.inl (Ne.symm n_Sl_oa))
      have f530 := f529.other W496 (Or.inl (Ne.symm n_Ln_oa))
      have f531 := f530.other W519 (Or.inr (slot_ne (Or.inl (hw _ (List.mem_of_getElem? (i := 21) rfl))) (Or.inl (hw _ (List.mem_of_getElem? (i := 96) rfl))) (by decide) (t := (.array .int)) (t' := .int) (by decide) (by decide)))
      have f532 := f531.other W527 (Or.inr (slot_ne (Or.inl (hw _ (List.mem_of_getElem? (i := 21) rfl))) (Or.inl (hw _ (List.mem_of_getElem? (i := 30) rfl))) (by decide) (t := (.array .int)) (t' := .int) (by decide) (by decide)))
      refine Ends.getF X528 hx hZ hown (host := "") (Or.inl (hw _ (List.mem_of_getElem? (i := 20) rfl))) Via.refl e528 f532 (hb hby d18_158) ?_
      intro T533 X533 e533
      have f534 := V491.other W496 hne
      have f535 := f534.other W519 n_Sl_oa
      have f536 := f535.other W527 n_Sl_oa
      refine Ends.alen X533 hx hZ e533 f536 (hb hby d18_161) (n := (16 : Int32)) (by rw [List.length_map, List.length_set]; rw [hl2]; rfl) ?_
      refine E.i2d (q := 163) X533 hx (hb hby d18_162) ?_
      refine E.ldc2D (q := 166) X533 hx hZ hown (hw _ (List.mem_of_getElem? (i := 144) rfl)) (hb hby d18_163) ?_
      refine E.dmul (q := 167) X533 hx (hb hby d18_166) own_nn ?_
      show Ends none p e below s _ _ _ T533 (mkF m 167 #[.val (.ref oa), .val (.ref os), .val (.int y), .val (.int (Int32.ofNat u)), .val (.int (Int32.ofNat k479)), .val (.int ch0)] [(.double (FP.dmul (FP.i2d (16 : Int32)) (4604930618986332160 : UInt64))), (.double (FP.i2d (Int32.ofNat (cn + 1))))])
      refine E.dcmp (q := 168) X533 hx (hb hby d18_167) ?_
      refine E.ifY (q := 175) X533 hx (hb hby d18_168) (XT.i0_le_t (own_fpc hc)) ?_
      refine E.iconst (q := 176) (v := (0 : Int32)) X533 hx (hb hby d18_175) rfl ?_
      have f537 := f470.other W491 (Or.inl (Ne.symm n_Sl_oa))
      have f538 := f537.other W496 (Or.inl (Ne.symm n_Ln_oa))
      have f539 := f538.other W519 (Or.inr (slot_ne (Or.inl (hw _ (List.mem_of_getElem? (i := 11) rfl))) (Or.inl (hw _ (List.mem_of_getElem? (i := 96) rfl))) (by decide) (t := (.array .byte)) (t' := .int) (by decide) (by decide)))
      have f540 := f539.other W527 (Or.inr (slot_ne (Or.inl (hw _ (List.mem_of_getElem? (i := 11) rfl))) (Or.inl (hw _ (List.mem_of_getElem? (i := 30) rfl))) (by decide) (t := (.array .byte)) (t' := .int) (by decide) (by decide)))
      have f541 := f494.other W496 (Or.inl (Ne.symm n_Ln_oa))
      have f542 := f541.other W519 (Or.inr (slot_ne (Or.inl (hw _ (List.mem_of_getElem? (i := 23) rfl))) (Or.inl (hw _ (List.mem_of_getElem? (i := 96) rfl))) (by decide) (t := (.array .int)) (t' := .int) (by decide) (by decide)))
      have f543 := f542.other W527 (Or.inr (slot_ne (Or.inl (hw _ (List.mem_of_getElem? (i := 23) rfl))) (Or.inl (hw _ (List.mem_of_getElem? (i := 30) rfl))) (by decide) (t := (.array .int)) (t' := .int) (by decide) (by decide)))
      have f544 := Fw519.other W527 (Or.inr (slot_ne (Or.inl (hw _ (List.mem_of_getElem? (i := 96) rfl))) (Or.inl (hw _ (List.mem_of_getElem? (i := 30) rfl))) (by decide) (t := .int) (t' := .int) (by decide) (by decide)))
      have f545 := f474.other W491 (Or.inl (Ne.symm n_Sl_oa))
      have f546 := f545.other W496 (Or.inl (Ne.symm n_Ln_oa))
      have f547 := f546.other W519 (Or.inr (slot_ne (Or.inl (hw _ (List.mem_of_getElem? (i := 121) rfl))) (Or.inl (hw _ (List.mem_of_getElem? (i := 96) rfl))) (by decide) (t := .long) (t' := .int) (by decide) (by decide)))
      have f548 := f547.other W527 (Or.inr (slot_ne (Or.inl (hw _ (List.mem_of_getElem? (i := 121) rfl))) (Or.inl (hw _ (List.mem_of_getElem? (i := 30) rfl))) (by decide) (t := .long) (t' := .int) (by decide) (by decide)))
      have f549 := f476.other W491 (Or.inl (Ne.symm n_Sl_oa))
      have f550 := f549.other W496 (Or.inl (Ne.symm n_Ln_oa))
      have f551 := f550.other W519 (Or.inr (slot_ne (Or.inl (hw _ (List.mem_of_getElem? (i := 123) rfl))) (Or.inl (hw _ (List.mem_of_getElem? (i := 96) rfl))) (by decide) (t := .long) (t' := .int) (by decide) (by decide)))
      have f552 := f551.other W527 (Or.inr (slot_ne (Or.inl (hw _ (List.mem_of_getElem? (i := 123) rfl))) (Or.inl (hw _ (List.mem_of_getElem? (i := 30) rfl))) (by decide) (t := .long) (t' := .int) (by decide) (by decide)))
      have f553 := V467.other W491 n_N_Sl
      have f554 := f553.other W496 n_N_Ln
      have f555 := f554.other W519 n_N_oa
      have f556 := f555.other W527 n_N_oa
      have f557 := V496.other W519 n_Ln_oa
      have f558 := f557.other W527 n_Ln_oa
      have hq' : ss[k479]? = some (-1) := by rw [List.getElem?_eq_getElem hi2, hq]
      subst e533
      exact Ends.retI X533 hx hlk hret (hb hby d18_176) (by decide) (by decide) ⟨_, _, _, _, _, _, rfl, O527, f540, f532, f543, Fw527, f544, f548, f552, f556, f536, f558, own_SNa H467 y (by decide) h58 hq', Nat.le_add_left 1 cn, Nat.le_refl _⟩
    · refine E.icmpN (q := 106) X480 hx (hb hby d18_103) (XT.ii_eq_f hq) ?_
      refine E.aloadN (q := 107) X480 hx (hb hby d18_106) rfl rfl ?_
      have f481 := F_lines.other W458 (Or.inl (Ne.symm n_N_oa))
      have f482 := f481.other W467 (Or.inl (Ne.symm n_N_oa))
      refine Ends.getF X480 hx hZ hown (host := "") (Or.inl (hw _ (List.mem_of_getElem? (i := 22) rfl))) Via.refl e480 f482 (hb hby d18_107) ?_
      intro T483 X483 e483
      refine E.iload (q := 112) X483 hx (hb hby d18_110) rfl ?_
      have f484 := A_L.other W458 (Ne.symm n_N_Ln)
      have f485 := f484.other W467 (Ne.symm n_N_Ln)
      refine Ends.ild X483 hx hZ e483 f485 (i := k479) (v := .int (ls[k479]'hi3)) rfl (by rw [List.getElem?_map, List.getElem?_eq_getElem hi3]; rfl) (hb hby d18_112) ?_
      show Ends none p e below s _ _ _ T483 (mkF m 113 #[.val (.ref oa), .val (.ref os), .val (.int y), .val (.int (Int32.ofNat u)), .val (.int (Int32.ofNat k479)), .val (.int ch0)] [(.int (ls[k479]'hi3))])
      have f486 := F_count.other W458 (Or.inl (Ne.symm n_N_oa))
      have f487 := f486.other W467 (Or.inl (Ne.symm n_N_oa))
      have f488 := F_used.other W458 (Or.inl (Ne.symm n_N_oa))
      have f489 := f488.other W467 (Or.inl (Ne.symm n_N_oa))
      subst e483
      exact Ends.retI X483 hx hlk hret (hb hby d18_113) (by decide) (by decide) ⟨_, _, _, _, _, _, rfl, O467, f470, f472, f482, f487, f489, f474, f476, V467, f478, f485, H467, own_SNe H467 (List.getElem_mem hi2) hq, Nat.le_succ cn⟩
  by_cases hq : ch0 < (65 : Int32)
  · refine E.icmpY (q := 65) X457 hx (hb hby d18_47) (XT.ii_lt_t hq) ?_
    refine E.iload (q := 67) X457 hx (hb hby d18_65) rfl ?_
    exact Jc0 _
  · refine E.icmpN (q := 50) X457 hx (hb hby d18_47) (XT.ii_lt_f hq) ?_
    refine E.iload (q := 52) X457 hx (hb hby d18_50) rfl ?_
    refine E.bipush (q := 54) (v := (90 : Int32)) X457 hx (hb hby d18_52) rfl ?_
    by_cases hq2 : (90 : Int32) < ch0
    · refine E.icmpY (q := 65) X457 hx (hb hby d18_54) (XT.ii_gt_t hq2) ?_
      refine E.iload (q := 67) X457 hx (hb hby d18_65) rfl ?_
      exact Jc0 _
    · refine E.icmpN (q := 57) X457 hx (hb hby d18_54) (XT.ii_gt_f hq2) ?_
      refine E.iload (q := 59) X457 hx (hb hby d18_57) rfl ?_
      refine E.bipush (q := 61) (v := (32 : Int32)) X457 hx (hb hby d18_59) rfl ?_
      refine E.iadd (q := 62) X457 hx (hb hby d18_61) ?_
      refine E.goto (q := 67) X457 hx (hb hby d18_62) ?_
      exact Jc0 _
theorem efAdd_2 (m : MethodId) (x0 : Addr) (x1 : Addr) (x2 : Int32) : entryFrame m #[(.ref x0), (.ref x1), (.int x2)] 6 = mkF m 0 #[.val (.ref x0), .val (.ref x1), .val (.int x2), .unset, .unset, .unset] [] := by first | (simp [entryFrame, mkF, argsToLocals, Value.category]; done) | rfl
set_option maxRecDepth 65536 in
set_option maxHeartbeats 40000000 in
theorem rmAdd_2 (l : Launch) (Z : State) (a0 : Array Value) (hw : ∀ d ∈ tables_1, d.before a0 Z = true) (oa : Addr) (os : Addr) (y : Int32) (N Sl Ln Vs : Addr) (k0 k1 : Int64) (bs ss ls : List Int32) (u cn : Nat) (hSN : SNs bs ss ls u cn) (hc : cn ≤ 2) (hne : Sl ≠ Ln) (x0 x1 : Int32) (h0 : Heap) (E0 : Exa Z h0 oa "com/example/optpack/optpack/service/SectionNames") (F_names : Fld Z h0 oa "com/example/optpack/optpack/service/SectionNames" "names" "[B" (.ref N)) (F_slots : Fld Z h0 oa "com/example/optpack/optpack/service/SectionNames" "slots" "[I" (.ref Sl)) (F_lines : Fld Z h0 oa "com/example/optpack/optpack/service/SectionNames" "lines" "[I" (.ref Ln)) (F_count : Fld Z h0 oa "com/example/optpack/optpack/service/SectionNames" "count" "I" (.int (Int32.ofNat cn))) (F_used : Fld Z h0 oa "com/example/optpack/optpack/service/SectionNames" "used" "I" (.int (Int32.ofNat u))) (F_key0 : Fld Z h0 oa "com/example/optpack/optpack/service/SectionNames" "key0" "J" (.long k0)) (F_key1 : Fld Z h0 oa "com/example/optpack/optpack/service/SectionNames" "key1" "J" (.long k1)) (A_N : Ary Z h0 N .byte (bs.map Value.int)) (A_S : Ary Z h0 Sl .int (ss.map Value.int)) (A_L : Ary Z h0 Ln .int (ls.map Value.int)) (Es : Exa Z h0 os "java/lang/String") (Svs : Fld Z h0 os "java/lang/String" "value" "[B" (.ref Vs)) (Scs : Fld Z h0 os "java/lang/String" "coder" "B" (.int (0 : Int32))) (A_x : Ary Z h0 Vs .byte ([x0, x1].map Value.int)) (cs : Int32) (hcs : ¬ cs = (0 : Int32)) (S0 : Sta Z h0 "java/lang/String" "COMPACT_STRINGS" "Z" (.int cs)) (fv : Value) (hfv : fv = .null ∨ ∃ a, fv = .ref a) (S1 : Sta Z h0 "jdk/internal/util/Preconditions" "SIOOBE_FORMATTER" "Ljava/util/function/BiFunction;" fv) :
    Con l (⟨"com/example/optpack/optpack/service/SectionNames", "add", "(Ljava/lang/String;I)I"⟩ : MethodName) prog_73_method_2_code 6 (some .int) [] ({ frames := 5, cells := 0, slots := 0, locals := 150 } : Room) #[(.ref oa), (.ref os), (.int y)] Z h0 (fun v h L => ∃ (r : Int32) (bs' ss' ls' : List Int32) (u' c' : Nat), v = some (.int r) ∧ Ok h0 h [oa, N, Sl, Ln] L ∧ Fld Z h oa "com/example/optpack/optpack/service/SectionNames" "names" "[B" (.ref N) ∧ Fld Z h oa "com/example/optpack/optpack/service/SectionNames" "slots" "[I" (.ref Sl) ∧ Fld Z h oa "com/example/optpack/optpack/service/SectionNames" "lines" "[I" (.ref Ln) ∧ Fld Z h oa "com/example/optpack/optpack/service/SectionNames" "count" "I" (.int (Int32.ofNat c')) ∧ Fld Z h oa "com/example/optpack/optpack/service/SectionNames" "used" "I" (.int (Int32.ofNat u')) ∧ Fld Z h oa "com/example/optpack/optpack/service/SectionNames" "key0" "J" (.long k0) ∧ Fld Z h oa "com/example/optpack/optpack/service/SectionNames" "key1" "J" (.long k1) ∧ Ary Z h N .byte (bs'.map Value.int) ∧ Ary Z h Sl .int (ss'.map Value.int) ∧ Ary Z h Ln .int (ls'.map Value.int) ∧ SNs bs' ss' ls' u' c' ∧ 1 ≤ c' ∧ c' ≤ cn + 1) := by
  refine Con.of (plainFor_of_name pn_8) ?_
  intro p e s m below meth c s₁ hx hZ hby hml hown hnm hret hlk X0 e0
  refine Ends.cast (efAdd_2 m oa os y) ?_
  show Ends none p e below s _ _ _ s₁ (mkF m 0 #[.val (.ref oa), .val (.ref os), .val (.int y), .unset, .unset, .unset] [])
  have O0 := Ok.refl h0 [oa, N, Sl, Ln]
  have hl := hSN.1
  have hl2 := hSN.2.1
  have hl3 := hSN.2.2.1
  have hu4 := hSN.2.2.2.1
  have n_N_Sl : N ≠ Sl := (own_ary_ne A_N A_S (by simp only [List.length_map]; omega))
  have n_N_Ln : N ≠ Ln := (own_ary_ne A_N A_L (by simp only [List.length_map]; omega))
  have n_Vs_N : Vs ≠ N := (own_ary_ne A_x A_N (by simp only [List.length_map]; rw [hl]; simp))
  have n_Vs_Sl : Vs ≠ Sl := (own_ary_ne A_x A_S (by simp only [List.length_map]; rw [hl2]; simp))
  have n_Vs_Ln : Vs ≠ Ln := (own_ary_ne A_x A_L (by simp only [List.length_map]; rw [hl3]; simp))
  have n_N_oa : N ≠ oa := own_ne_ea (hw _ (List.mem_of_getElem? (i := 1) rfl)) E0 A_N
  have n_N_os : N ≠ os := own_ne_ea (hw _ (List.mem_of_getElem? (i := 41) rfl)) Es A_N
  have n_Sl_oa : Sl ≠ oa := own_ne_ea (hw _ (List.mem_of_getElem? (i := 1) rfl)) E0 A_S
  have n_Sl_os : Sl ≠ os := own_ne_ea (hw _ (List.mem_of_getElem? (i := 41) rfl)) Es A_S
  have n_Ln_oa : Ln ≠ oa := own_ne_ea (hw _ (List.mem_of_getElem? (i := 1) rfl)) E0 A_L
  have n_Ln_os : Ln ≠ os := own_ne_ea (hw _ (List.mem_of_getElem? (i := 41) rfl)) Es A_L
  have n_Vs_oa : Vs ≠ oa := own_ne_ea (hw _ (List.mem_of_getElem? (i := 1) rfl)) E0 A_x
  have n_Vs_os : Vs ≠ os := own_ne_ea (hw _ (List.mem_of_getElem? (i := 41) rfl)) Es A_x
  have n_os_oa : os ≠ oa := own_exa_ne Es E0 (by decide)
  refine E.aloadN (q := 1) X0 hx (hb hby d18_0) rfl rfl ?_
  refine Ends.getF X0 hx hZ hown (host := "") (Or.inl (hw _ (List.mem_of_getElem? (i := 95) rfl))) Via.refl e0 F_used (hb hby d18_1) ?_
  intro T559 X559 e559
  refine E.istoreN (q := 5) (l' := #[.val (.ref oa), .val (.ref os), .val (.int y), .val (.int (Int32.ofNat u)), .unset, .unset]) X559 hx (hb hby d18_4) rfl ?_
  refine E.aloadN (q := 6) X559 hx (hb hby d18_5) rfl rfl ?_
  refine E.aloadN (q := 7) X559 hx (hb hby d18_6) rfl rfl ?_
  refine Ends.callV X559 hx hZ hown (hw _ (List.mem_of_getElem? (i := 97) rfl)) (hw _ (List.mem_of_getElem? (i := 98) rfl)) (hw _ (List.mem_of_getElem? (i := 100) rfl)) (hw _ (List.mem_of_getElem? (i := 99) rfl)) (hw _ (List.mem_of_getElem? (i := 40) rfl)) (hw _ (List.mem_of_getElem? (i := 101) rfl)) (by decide) (argsL := []) (rest := [(.ref oa)]) e559 Es (rm19 l Z a0 hw os Vs [x0, x1] _ Es Svs Scs A_x cs hcs (own_sta_keep S0 O0.1 (own_ns4 E0 A_N A_S A_L))) (W := 1) (by decide) (by decide) (by rw [hml]; rfl) (lenOf pd_19 rfl) (Nat.le_of_eq rfl) (hb hby d18_7) (by decide) (by decide) rfl ?_
  rintro T560 v560 L560 X560 ⟨rfl, e560, rfl⟩
  rw [List.append_nil] at X560
  show Ends none p e below s _ _ _ T560 (mkF m 10 #[.val (.ref oa), .val (.ref os), .val (.int y), .val (.int (Int32.ofNat u)), .unset, .unset] [(.int (2 : Int32)), (.ref oa)])
  refine E.iconst (q := 11) (v := (1 : Int32)) X560 hx (hb hby d18_10) rfl ?_
  refine E.iadd (q := 12) X560 hx (hb hby d18_11) ?_
  rw [show ((2 : Int32) + (1 : Int32)) = (3 : Int32) from by decide]
  refine Ends.callPr X560 hx hZ hown (hw _ (List.mem_of_getElem? (i := 107) rfl)) (hw _ (List.mem_of_getElem? (i := 108) rfl)) (hw _ (List.mem_of_getElem? (i := 109) rfl)) (hw _ (List.mem_of_getElem? (i := 1) rfl)) (hw _ (List.mem_of_getElem? (i := 2) rfl)) (hw _ (List.mem_of_getElem? (i := 110) rfl)) (by decide) (argsL := [(.int (3 : Int32))]) (rest := []) e560 E0 (rm21 l Z a0 hw oa N u 3 bs hl (by omega) _ F_names F_used A_N) (W := 0) (by decide) (by decide) (by rw [hml]; rfl) (lenOf pd_20 rfl) (Nat.le_of_eq rfl) (hb hby d18_12) (by decide) (by decide) rfl ?_
  rintro T561 v561 L561 X561 ⟨rfl, e561, rfl⟩
  rw [List.append_nil] at X561
  show Ends none p e below s _ _ _ T561 (mkF m 15 #[.val (.ref oa), .val (.ref os), .val (.int y), .val (.int (Int32.ofNat u)), .unset, .unset] [])
  refine E.iconst (q := 16) (v := (0 : Int32)) X561 hx (hb hby d18_15) rfl ?_
  refine E.istore (q := 18) (l' := #[.val (.ref oa), .val (.ref os), .val (.int y), .val (.int (Int32.ofNat u)), .val (.int (0 : Int32)), .unset]) X561 hx (hb hby d18_16) rfl ?_
  refine E.iload (q := 20) X561 hx (hb hby d18_18) rfl ?_
  refine E.aloadN (q := 21) X561 hx (hb hby d18_20) rfl rfl ?_
  refine Ends.callV X561 hx hZ hown (hw _ (List.mem_of_getElem? (i := 97) rfl)) (hw _ (List.mem_of_getElem? (i := 98) rfl)) (hw _ (List.mem_of_getElem? (i := 100) rfl)) (hw _ (List.mem_of_getElem? (i := 99) rfl)) (hw _ (List.mem_of_getElem? (i := 40) rfl)) (hw _ (List.mem_of_getElem? (i := 101) rfl)) (by decide) (argsL := []) (rest := [(.int (0 : Int32))]) e561 Es (rm19 l Z a0 hw os Vs [x0, x1] _ Es Svs Scs A_x cs hcs (own_sta_keep S0 O0.1 (own_ns4 E0 A_N A_S A_L))) (W := 1) (by decide) (by decide) (by rw [hml]; rfl) (lenOf pd_19 rfl) (Nat.le_of_eq rfl) (hb hby d18_21) (by decide) (by decide) rfl ?_
  rintro T562 v562 L562 X562 ⟨rfl, e562, rfl⟩
  rw [List.append_nil] at X562
  show Ends none p e below s _ _ _ T562 (mkF m 24 #[.val (.ref oa), .val (.ref os), .val (.int y), .val (.int (Int32.ofNat u)), .val (.int (0 : Int32)), .unset] [(.int (2 : Int32)), (.int (0 : Int32))])
  refine E.icmpN (q := 27) X562 hx (hb hby d18_24) (XT.ii_ge_f (by decide)) ?_
  refine E.aloadN (q := 28) X562 hx (hb hby d18_27) rfl rfl ?_
  refine E.iload (q := 30) X562 hx (hb hby d18_28) rfl ?_
  refine Ends.callV X562 hx hZ hown (hw _ (List.mem_of_getElem? (i := 111) rfl)) (hw _ (List.mem_of_getElem? (i := 47) rfl)) (hw _ (List.mem_of_getElem? (i := 49) rfl)) (hw _ (List.mem_of_getElem? (i := 48) rfl)) (hw _ (List.mem_of_getElem? (i := 40) rfl)) (hw _ (List.mem_of_getElem? (i := 50) rfl)) (by decide) (argsL := [(.int (0 : Int32))]) (rest := []) e562 Es (rm8 l Z a0 hw os Vs 0 [x0, x1] x0 rfl _ Es Svs Scs A_x cs hcs (own_sta_keep S0 O0.1 (own_ns4 E0 A_N A_S A_L)) fv hfv (own_sta_keep S1 O0.1 (own_ns4 E0 A_N A_S A_L))) (W := 0) (by decide) (by decide) (by rw [hml]; rfl) (lenOf pd_5 rfl) (Nat.le_of_eq rfl) (hb hby d18_30) (by decide) (by decide) rfl ?_
  rintro T563 v563 L563 X563 ⟨rfl, e563, rfl⟩
  rw [List.append_nil] at X563
  show Ends none p e below s _ _ _ T563 (mkF m 33 #[.val (.ref oa), .val (.ref os), .val (.int y), .val (.int (Int32.ofNat u)), .val (.int (0 : Int32)), .unset] [(.int ((x0 &&& (255 : Int32)).toUInt32.toUInt16.toUInt32.toInt32))])
  generalize ((x0 &&& (255 : Int32)).toUInt32.toUInt16.toUInt32.toInt32) = ch0
  show Ends none p e below s _ _ _ T563 (mkF m 33 #[.val (.ref oa), .val (.ref os), .val (.int y), .val (.int (Int32.ofNat u)), .val (.int (0 : Int32)), .unset] [(.int ch0)])
  refine E.istore (q := 35) (l' := #[.val (.ref oa), .val (.ref os), .val (.int y), .val (.int (Int32.ofNat u)), .val (.int (0 : Int32)), .val (.int ch0)]) X563 hx (hb hby d18_33) rfl ?_
  refine E.aloadN (q := 36) X563 hx (hb hby d18_35) rfl rfl ?_
  refine Ends.getF X563 hx hZ hown (host := "") (Or.inl (hw _ (List.mem_of_getElem? (i := 10) rfl))) Via.refl e563 F_names (hb hby d18_36) ?_
  intro T564 X564 e564
  refine E.iloadN (q := 40) X564 hx (hb hby d18_39) rfl ?_
  refine E.iload (q := 42) X564 hx (hb hby d18_40) rfl ?_
  refine E.iadd (q := 43) X564 hx (hb hby d18_42) ?_
  refine E.iload (q := 45) X564 hx (hb hby d18_43) rfl ?_
  refine E.bipush (q := 47) (v := (65 : Int32)) X564 hx (hb hby d18_45) rfl ?_
  have Jc0 : ∀ cv : Int32, Ends none p e below s (fun v h L => ∃ (r : Int32) (bs' ss' ls' : List Int32) (u' c' : Nat), v = some (.int r) ∧ Ok h0 h [oa, N, Sl, Ln] L ∧ Fld Z h oa "com/example/optpack/optpack/service/SectionNames" "names" "[B" (.ref N) ∧ Fld Z h oa "com/example/optpack/optpack/service/SectionNames" "slots" "[I" (.ref Sl) ∧ Fld Z h oa "com/example/optpack/optpack/service/SectionNames" "lines" "[I" (.ref Ln) ∧ Fld Z h oa "com/example/optpack/optpack/service/SectionNames" "count" "I" (.int (Int32.ofNat c')) ∧ Fld Z h oa "com/example/optpack/optpack/service/SectionNames" "used" "I" (.int (Int32.ofNat u')) ∧ Fld Z h oa "com/example/optpack/optpack/service/SectionNames" "key0" "J" (.long k0) ∧ Fld Z h oa "com/example/optpack/optpack/service/SectionNames" "key1" "J" (.long k1) ∧ Ary Z h N .byte (bs'.map Value.int) ∧ Ary Z h Sl .int (ss'.map Value.int) ∧ Ary Z h Ln .int (ls'.map Value.int) ∧ SNs bs' ss' ls' u' c' ∧ 1 ≤ c' ∧ c' ≤ cn + 1) ({ frames := 5, cells := 0, slots := 0, locals := 150 } : Room).cells ({ frames := 5, cells := 0, slots := 0, locals := 150 } : Room).slots T564 (mkF m 67 #[.val (.ref oa), .val (.ref os), .val (.int y), .val (.int (Int32.ofNat u)), .val (.int (0 : Int32)), .val (.int ch0)] [(.int cv), (.int ((Int32.ofNat u) + (0 : Int32))), (.ref N)]) := by
    intro cv
    show Ends none p e below s _ _ _ T564 (mkF m 67 #[.val (.ref oa), .val (.ref os), .val (.int y), .val (.int (Int32.ofNat u)), .val (.int (0 : Int32)), .val (.int ch0)] [(.int cv), (.int ((Int32.ofNat u) + (0 : Int32))), (.ref N)])
    refine E.i2b (q := 68) X564 hx (hb hby d18_67) ?_
    refine Ends.bst X564 hx hZ e564 A_N (x' := (cv.toInt8.toInt32)) (own_nb8 _) (i := u + 0) (own_addN u 0) (by rw [List.length_map, hSN.1]; omega) (hb hby d18_68) ?_
    intro T565 h565 X565 e565 W565 V565
    rw [← List.map_set] at V565
    have H565 := own_SNw hSN (cv.toInt8.toInt32) (Nat.le_add_right u 0)
    generalize bs.set (u + 0) (cv.toInt8.toInt32) = bs565 at V565 H565
    have O565 := O0.wr W565 (Or.inl (List.mem_of_getElem? (i := 1) rfl))
    show Ends none p e below s _ _ _ T565 (mkF m 69 #[.val (.ref oa), .val (.ref os), .val (.int y), .val (.int (Int32.ofNat u)), .val (.int (0 : Int32)), .val (.int ch0)] [])
    refine E.iinc (q := 72) (v := (1 : Int32)) (l' := #[.val (.ref oa), .val (.ref os), .val (.int y), .val (.int (Int32.ofNat u)), .val (.int (1 : Int32)), .val (.int ch0)]) X565 hx (hb hby d18_69) rfl (by decide) rfl ?_
    refine E.goto (q := 18) X565 hx (hb hby d18_72) ?_
    refine E.iload (q := 20) X565 hx (hb hby d18_18) rfl ?_
    refine E.aloadN (q := 21) X565 hx (hb hby d18_20) rfl rfl ?_
    have f566 := Es.wr W565
    have f567 := Svs.other W565 (Or.inl (Ne.symm n_N_os))
    have f568 := Scs.other W565 (Or.inl (Ne.symm n_N_os))
    have f569 := A_x.other W565 n_Vs_N
    refine Ends.callV X565 hx hZ hown (hw _ (List.mem_of_getElem? (i := 97) rfl)) (hw _ (List.mem_of_getElem? (i := 98) rfl)) (hw _ (List.mem_of_getElem? (i := 100) rfl)) (hw _ (List.mem_of_getElem? (i := 99) rfl)) (hw _ (List.mem_of_getElem? (i := 40) rfl)) (hw _ (List.mem_of_getElem? (i := 101) rfl)) (by decide) (argsL := []) (rest := [(.int (1 : Int32))]) e565 f566 (rm19 l Z a0 hw os Vs [x0, x1] _ f566 f567 f568 f569 cs hcs (own_sta_keep S0 O565.1 (own_ns4 E0 A_N A_S A_L))) (W := 1) (by decide) (by decide) (by rw [hml]; rfl) (lenOf pd_19 rfl) (Nat.le_of_eq rfl) (hb hby d18_21) (by decide) (by decide) rfl ?_
    rintro T570 v570 L570 X570 ⟨rfl, e570, rfl⟩
    rw [List.append_nil] at X570
    show Ends none p e below s _ _ _ T570 (mkF m 24 #[.val (.ref oa), .val (.ref os), .val (.int y), .val (.int (Int32.ofNat u)), .val (.int (1 : Int32)), .val (.int ch0)] [(.int (2 : Int32)), (.int (1 : Int32))])
    refine E.icmpN (q := 27) X570 hx (hb hby d18_24) (XT.ii_ge_f (by decide)) ?_
    refine E.aloadN (q := 28) X570 hx (hb hby d18_27) rfl rfl ?_
    refine E.iload (q := 30) X570 hx (hb hby d18_28) rfl ?_
    refine Ends.callV X570 hx hZ hown (hw _ (List.mem_of_getElem? (i := 111) rfl)) (hw _ (List.mem_of_getElem? (i := 47) rfl)) (hw _ (List.mem_of_getElem? (i := 49) rfl)) (hw _ (List.mem_of_getElem? (i := 48) rfl)) (hw _ (List.mem_of_getElem? (i := 40) rfl)) (hw _ (List.mem_of_getElem? (i := 50) rfl)) (by decide) (argsL := [(.int (1 : Int32))]) (rest := []) e570 f566 (rm8 l Z a0 hw os Vs 1 [x0, x1] x1 rfl _ f566 f567 f568 f569 cs hcs (own_sta_keep S0 O565.1 (own_ns4 E0 A_N A_S A_L)) fv hfv (own_sta_keep S1 O565.1 (own_ns4 E0 A_N A_S A_L))) (W := 0) (by decide) (by decide) (by rw [hml]; rfl) (lenOf pd_5 rfl) (Nat.le_of_eq rfl) (hb hby d18_30) (by decide) (by decide) rfl ?_
    rintro T571 v571 L571 X571 ⟨rfl, e571, rfl⟩
    rw [List.append_nil] at X571
    show Ends none p e below s _ _ _ T571 (mkF m 33 #[.val (.ref oa), .val (.ref os), .val (.int y), .val (.int (Int32.ofNat u)), .val (.int (1 : Int32)), .val (.int ch0)] [(.int ((x1 &&& (255 : Int32)).toUInt32.toUInt16.toUInt32.toInt32))])
    generalize ((x1 &&& (255 : Int32)).toUInt32.toUInt16.toUInt32.toInt32) = ch1
    show Ends none p e below s _ _ _ T571 (mkF m 33 #[.val (.ref oa), .val (.ref os), .val (.int y), .val (.int (Int32.ofNat u)), .val (.int (1 : Int32)), .val (.int ch0)] [(.int ch1)])
    refine E.istore (q := 35) (l' := #[.val (.ref oa), .val (.ref os), .val (.int y), .val (.int (Int32.ofNat u)), .val (.int (1 : Int32)), .val (.int ch1)]) X571 hx (hb hby d18_33) rfl ?_
    refine E.aloadN (q := 36) X571 hx (hb hby d18_35) rfl rfl ?_
    have f572 := F_names.other W565 (Or.inl (Ne.symm n_N_oa))
    refine Ends.getF X571 hx hZ hown (host := "") (Or.inl (hw _ (List.mem_of_getElem? (i := 10) rfl))) Via.refl e571 f572 (hb hby d18_36) ?_
    intro T573 X573 e573
    refine E.iloadN (q := 40) X573 hx (hb hby d18_39) rfl ?_
    refine E.iload (q := 42) X573 hx (hb hby d18_40) rfl ?_
    refine E.iadd (q := 43) X573 hx (hb hby d18_42) ?_
    refine E.iload (q := 45) X573 hx (hb hby d18_43) rfl ?_
    refine E.bipush (q := 47) (v := (65 : Int32)) X573 hx (hb hby d18_45) rfl ?_
    have Jc1 : ∀ cv : Int32, Ends none p e below s (fun v h L => ∃ (r : Int32) (bs' ss' ls' : List Int32) (u' c' : Nat), v = some (.int r) ∧ Ok h0 h [oa, N, Sl, Ln] L ∧ Fld Z h oa "com/example/optpack/optpack/service/SectionNames" "names" "[B" (.ref N) ∧ Fld Z h oa "com/example/optpack/optpack/service/SectionNames" "slots" "[I" (.ref Sl) ∧ Fld Z h oa "com/example/optpack/optpack/service/SectionNames" "lines" "[I" (.ref Ln) ∧ Fld Z h oa "com/example/optpack/optpack/service/SectionNames" "count" "I" (.int (Int32.ofNat c')) ∧ Fld Z h oa "com/example/optpack/optpack/service/SectionNames" "used" "I" (.int (Int32.ofNat u')) ∧ Fld Z h oa "com/example/optpack/optpack/service/SectionNames" "key0" "J" (.long k0) ∧ Fld Z h oa "com/example/optpack/optpack/service/SectionNames" "key1" "J" (.long k1) ∧ Ary Z h N .byte (bs'.map Value.int) ∧ Ary Z h Sl .int (ss'.map Value.int) ∧ Ary Z h Ln .int (ls'.map Value.int) ∧ SNs bs' ss' ls' u' c' ∧ 1 ≤ c' ∧ c' ≤ cn + 1) ({ frames := 5, cells := 0, slots := 0, locals := 150 } : Room).cells ({ frames := 5, cells := 0, slots := 0, locals := 150 } : Room).slots T573 (mkF m 67 #[.val (.ref oa), .val (.ref os), .val (.int y), .val (.int (Int32.ofNat u)), .val (.int (1 : Int32)), .val (.int ch1)] [(.int cv), (.int ((Int32.ofNat u) + (1 : Int32))), (.ref N)]) := by
      intro cv
      show Ends none p e below s _ _ _ T573 (mkF m 67 #[.val (.ref oa), .val (.ref os), .val (.int y), .val (.int (Int32.ofNat u)), .val (.int (1 : Int32)), .val (.int ch1)] [(.int cv), (.int ((Int32.ofNat u) + (1 : Int32))), (.ref N)])
      refine E.i2b (q := 68) X573 hx (hb hby d18_67) ?_
      refine Ends.bst X573 hx hZ e573 V565 (x' := (cv.toInt8.toInt32)) (own_nb8 _) (i := u + 1) (own_addN u 1) (by rw [List.length_map, H565.1]; omega) (hb hby d18_68) ?_
      intro T574 h574 X574 e574 W574 V574
      rw [← List.map_set] at V574
      have H574 := own_SNw H565 (cv.toInt8.toInt32) (Nat.le_add_right u 1)
      generalize bs565.set (u + 1) (cv.toInt8.toInt32) = bs574 at V574 H574
      have O574 := O565.wr W574 (Or.inl (List.mem_of_getElem? (i := 1) rfl))
      show Ends none p e below s _ _ _ T574 (mkF m 69 #[.val (.ref oa), .val (.ref os), .val (.int y), .val (.int (Int32.ofNat u)), .val (.int (1 : Int32)), .val (.int ch1)] [])
      refine E.iinc (q := 72) (v := (2 : Int32)) (l' := #[.val (.ref oa), .val (.ref os), .val (.int y), .val (.int (Int32.ofNat u)), .val (.int (2 : Int32)), .val (.int ch1)]) X574 hx (hb hby d18_69) rfl (by decide) rfl ?_
      refine E.goto (q := 18) X574 hx (hb hby d18_72) ?_
      refine E.iload (q := 20) X574 hx (hb hby d18_18) rfl ?_
      refine E.aloadN (q := 21) X574 hx (hb hby d18_20) rfl rfl ?_
      have f575 := f566.wr W574
      have f576 := f567.other W574 (Or.inl (Ne.symm n_N_os))
      have f577 := f568.other W574 (Or.inl (Ne.symm n_N_os))
      have f578 := f569.other W574 n_Vs_N
      refine Ends.callV X574 hx hZ hown (hw _ (List.mem_of_getElem? (i := 97) rfl)) (hw _ (List.mem_of_getElem? (i := 98) rfl)) (hw _ (List.mem_of_getElem? (i := 100) rfl)) (hw _ (List.mem_of_getElem? (i := 99) rfl)) (hw _ (List.mem_of_getElem? (i := 40) rfl)) (hw _ (List.mem_of_getElem? (i := 101) rfl)) (by decide) (argsL := []) (rest := [(.int (2 : Int32))]) e574 f575 (rm19 l Z a0 hw os Vs [x0, x1] _ f575 f576 f577 f578 cs hcs (own_sta_keep S0 O574.1 (own_ns4 E0 A_N A_S A_L))) (W := 1) (by decide) (by decide) (by rw [hml]; rfl) (lenOf pd_19 rfl) (Nat.le_of_eq rfl) (hb hby d18_21) (by decide) (by decide) rfl ?_
      rintro T579 v579 L579 X579 ⟨rfl, e579, rfl⟩
      rw [List.append_nil] at X579
      show Ends none p e below s _ _ _ T579 (mkF m 24 #[.val (.ref oa), .val (.ref os), .val (.int y), .val (.int (Int32.ofNat u)), .val (.int (2 : Int32)), .val (.int ch1)] [(.int (2 : Int32)), (.int (2 : Int32))])
      refine E.icmpY (q := 75) X579 hx (hb hby d18_24) (XT.ii_ge_t (by decide)) ?_
      refine E.aloadN (q := 76) X579 hx (hb hby d18_75) rfl rfl ?_
      have f580 := f572.other W574 (Or.inl (Ne.symm n_N_oa))
      refine Ends.getF X579 hx hZ hown (host := "") (Or.inl (hw _ (List.mem_of_getElem? (i := 10) rfl))) Via.refl e579 f580 (hb hby d18_76) ?_
      intro T581 X581 e581
      refine E.iloadN (q := 80) X581 hx (hb hby d18_79) rfl ?_
      refine E.aloadN (q := 81) X581 hx (hb hby d18_80) rfl rfl ?_
      refine Ends.callV X581 hx hZ hown (hw _ (List.mem_of_getElem? (i := 97) rfl)) (hw _ (List.mem_of_getElem? (i := 98) rfl)) (hw _ (List.mem_of_getElem? (i := 100) rfl)) (hw _ (List.mem_of_getElem? (i := 99) rfl)) (hw _ (List.mem_of_getElem? (i := 40) rfl)) (hw _ (List.mem_of_getElem? (i := 101) rfl)) (by decide) (argsL := []) (rest := [(.int (Int32.ofNat u)), (.ref N)]) e581 f575 (rm19 l Z a0 hw os Vs [x0, x1] _ f575 f576 f577 f578 cs hcs (own_sta_keep S0 O574.1 (own_ns4 E0 A_N A_S A_L))) (W := 2) (by decide) (by decide) (by rw [hml]; rfl) (lenOf pd_19 rfl) (Nat.le_of_eq rfl) (hb hby d18_81) (by decide) (by decide) rfl ?_
      rintro T582 v582 L582 X582 ⟨rfl, e582, rfl⟩
      rw [List.append_nil] at X582
      show Ends none p e below s _ _ _ T582 (mkF m 84 #[.val (.ref oa), .val (.ref os), .val (.int y), .val (.int (Int32.ofNat u)), .val (.int (2 : Int32)), .val (.int ch1)] [(.int (2 : Int32)), (.int (Int32.ofNat u)), (.ref N)])
      refine E.iadd (q := 85) X582 hx (hb hby d18_84) ?_
      refine E.bipush (q := 87) (v := (58 : Int32)) X582 hx (hb hby d18_85) rfl ?_
      refine Ends.bst X582 hx hZ e582 V574 (x' := (58 : Int32)) rfl (i := u + 2) (own_addN u 2) (by rw [List.length_map, H574.1]; omega) (hb hby d18_87) ?_
      intro T583 h583 X583 e583 W583 V583
      rw [← List.map_set] at V583
      have H583 := own_SNw H574 (58 : Int32) (Nat.le_add_right u 2)
      have h58 : (bs574.set (u + 2) (58 : Int32))[u + 2]? = some (58 : Int32) := own_set58 (by rw [H574.1]; omega)
      generalize bs574.set (u + 2) (58 : Int32) = bs583 at V583 H583 h58
      have O583 := O574.wr W583 (Or.inl (List.mem_of_getElem? (i := 1) rfl))
      show Ends none p e below s _ _ _ T583 (mkF m 88 #[.val (.ref oa), .val (.ref os), .val (.int y), .val (.int (Int32.ofNat u)), .val (.int (2 : Int32)), .val (.int ch1)] [])
      refine E.aloadN (q := 89) X583 hx (hb hby d18_88) rfl rfl ?_
      refine E.iloadN (q := 90) X583 hx (hb hby d18_89) rfl ?_
      have f584 := E0.wr W565
      have f585 := f584.wr W574
      have f586 := f585.wr W583
      have f587 := f580.other W583 (Or.inl (Ne.symm n_N_oa))
      have f588 := F_slots.other W565 (Or.inl (Ne.symm n_N_oa))
      have f589 := f588.other W574 (Or.inl (Ne.symm n_N_oa))
      have f590 := f589.other W583 (Or.inl (Ne.symm n_N_oa))
      have f591 := F_key0.other W565 (Or.inl (Ne.symm n_N_oa))
      have f592 := f591.other W574 (Or.inl (Ne.symm n_N_oa))
      have f593 := f592.other W583 (Or.inl (Ne.symm n_N_oa))
      have f594 := F_key1.other W565 (Or.inl (Ne.symm n_N_oa))
      have f595 := f594.other W574 (Or.inl (Ne.symm n_N_oa))
      have f596 := f595.other W583 (Or.inl (Ne.symm n_N_oa))
      have f597 := A_S.other W565 (Ne.symm n_N_Sl)
      have f598 := f597.other W574 (Ne.symm n_N_Sl)
      have f599 := f598.other W583 (Ne.symm n_N_Sl)
      refine Ends.callPr X583 hx hZ hown (hw _ (List.mem_of_getElem? (i := 112) rfl)) (hw _ (List.mem_of_getElem? (i := 113) rfl)) (hw _ (List.mem_of_getElem? (i := 114) rfl)) (hw _ (List.mem_of_getElem? (i := 1) rfl)) (hw _ (List.mem_of_getElem? (i := 2) rfl)) (hw _ (List.mem_of_getElem? (i := 115) rfl)) (by decide) (argsL := [(.int (Int32.ofNat u))]) (rest := []) e583 f586 (rm22 l Z a0 hw oa N Sl k0 k1 bs583 ss ls u cn 2 H583 hc (by decide) h58 _ f586 f587 f590 f593 f596 V583 f599) (W := 0) (by decide) (by decide) (by rw [hml]; rfl) (lenOf pd_17 rfl) (Nat.le_of_eq rfl) (hb hby d18_90) (by decide) (by decide) rfl ?_
      rintro T600 v600 L600 X600 ⟨k600, rfl, hk600, e600, rfl⟩
      rw [List.append_nil] at X600
      show Ends none p e below s _ _ _ T600 (mkF m 93 #[.val (.ref oa), .val (.ref os), .val (.int y), .val (.int (Int32.ofNat u)), .val (.int (2 : Int32)), .val (.int ch1)] [(.int (Int32.ofNat k600))])
      have hi2 : k600 < ss.length := by omega
      have hi3 : k600 < ls.length := by omega
      refine E.istore (q := 95) (l' := #[.val (.ref oa), .val (.ref os), .val (.int y), .val (.int (Int32.ofNat u)), .val (.int (Int32.ofNat k600)), .val (.int ch1)]) X600 hx (hb hby d18_93) rfl ?_
      refine E.aloadN (q := 96) X600 hx (hb hby d18_95) rfl rfl ?_
      refine Ends.getF X600 hx hZ hown (host := "") (Or.inl (hw _ (List.mem_of_getElem? (i := 20) rfl))) Via.refl e600 f590 (hb hby d18_96) ?_
      intro T601 X601 e601
      refine E.iload (q := 101) X601 hx (hb hby d18_99) rfl ?_
      refine Ends.ild X601 hx hZ e601 f599 (i := k600) (v := .int (ss[k600]'hi2)) rfl (by rw [List.getElem?_map, List.getElem?_eq_getElem hi2]; rfl) (hb hby d18_101) ?_
      show Ends none p e below s _ _ _ T601 (mkF m 102 #[.val (.ref oa), .val (.ref os), .val (.int y), .val (.int (Int32.ofNat u)), .val (.int (Int32.ofNat k600)), .val (.int ch1)] [(.int (ss[k600]'hi2))])
      refine E.iconst (q := 103) (v := (-1 : Int32)) X601 hx (hb hby d18_102) rfl ?_
      by_cases hq : (ss[k600]'hi2) = (-1 : Int32)
      · refine E.icmpY (q := 114) X601 hx (hb hby d18_103) (XT.ii_eq_t hq) ?_
        refine E.aloadN (q := 115) X601 hx (hb hby d18_114) rfl rfl ?_
        refine Ends.getF X601 hx hZ hown (host := "") (Or.inl (hw _ (List.mem_of_getElem? (i := 20) rfl))) Via.refl e601 f590 (hb hby d18_115) ?_
        intro T615 X615 e615
        refine E.iload (q := 120) X615 hx (hb hby d18_118) rfl ?_
        refine E.iloadN (q := 121) X615 hx (hb hby d18_120) rfl ?_
        refine Ends.ist X615 hx hZ e615 f599 (i := k600) rfl (by rw [List.length_map]; assumption) (hb hby d18_121) ?_
        intro T616 h616 X616 e616 W616 V616
        rw [← List.map_set] at V616
        have O616 := O583.wr W616 (Or.inl (List.mem_of_getElem? (i := 2) rfl))
        show Ends none p e below s _ _ _ T616 (mkF m 122 #[.val (.ref oa), .val (.ref os), .val (.int y), .val (.int (Int32.ofNat u)), .val (.int (Int32.ofNat k600)), .val (.int ch1)] [])
        refine E.aloadN (q := 123) X616 hx (hb hby d18_122) rfl rfl ?_
        have f617 := F_lines.other W565 (Or.inl (Ne.symm n_N_oa))
        have f618 := f617.other W574 (Or.inl (Ne.symm n_N_oa))
        have f619 := f618.other W583 (Or.inl (Ne.symm n_N_oa))
        have f620 := f619.other W616 (Or.inl (Ne.symm n_Sl_oa))
        refine Ends.getF X616 hx hZ hown (host := "") (Or.inl (hw _ (List.mem_of_getElem? (i := 22) rfl))) Via.refl e616 f620 (hb hby d18_123) ?_
        intro T621 X621 e621
        refine E.iload (q := 128) X621 hx (hb hby d18_126) rfl ?_
        refine E.iloadN (q := 129) X621 hx (hb hby d18_128) rfl ?_
        have f623 := A_L.other W565 (Ne.symm n_N_Ln)
        have f624 := f623.other W574 (Ne.symm n_N_Ln)
        have f625 := f624.other W583 (Ne.symm n_N_Ln)
        have f626 := f625.other W616 (Ne.symm hne)
        refine Ends.ist X621 hx hZ e621 f626 (i := k600) rfl (by rw [List.length_map]; assumption) (hb hby d18_129) ?_
        intro T622 h622 X622 e622 W622 V622
        rw [← List.map_set] at V622
        have O622 := O616.wr W622 (Or.inl (List.mem_of_getElem? (i := 3) rfl))
        show Ends none p e below s _ _ _ T622 (mkF m 130 #[.val (.ref oa), .val (.ref os), .val (.int y), .val (.int (Int32.ofNat u)), .val (.int (Int32.ofNat k600)), .val (.int ch1)] [])
        refine E.aloadN (q := 131) X622 hx (hb hby d18_130) rfl rfl ?_
        refine E.iloadN (q := 132) X622 hx (hb hby d18_131) rfl ?_
        refine E.aloadN (q := 133) X622 hx (hb hby d18_132) rfl rfl ?_
        have f627 := f575.wr W583
        have f628 := f627.wr W616
        have f629 := f628.wr W622
        have f630 := f576.other W583 (Or.inl (Ne.symm n_N_os))
        have f631 := f630.other W616 (Or.inl (Ne.symm n_Sl_os))
        have f632 := f631.other W622 (Or.inl (Ne.symm n_Ln_os))
        have f633 := f577.other W583 (Or.inl (Ne.symm n_N_os))
        have f634 := f633.other W616 (Or.inl (Ne.symm n_Sl_os))
        have f635 := f634.other W622 (Or.inl (Ne.symm n_Ln_os))
        have f636 := f578.other W583 n_Vs_N
        have f637 := f636.other W616 n_Vs_Sl
        have f638 := f637.other W622 n_Vs_Ln
        refine Ends.callV X622 hx hZ hown (hw _ (List.mem_of_getElem? (i := 97) rfl)) (hw _ (List.mem_of_getElem? (i := 98) rfl)) (hw _ (List.mem_of_getElem? (i := 100) rfl)) (hw _ (List.mem_of_getElem? (i := 99) rfl)) (hw _ (List.mem_of_getElem? (i := 40) rfl)) (hw _ (List.mem_of_getElem? (i := 101) rfl)) (by decide) (argsL := []) (rest := [(.int (Int32.ofNat u)), (.ref oa)]) e622 f629 (rm19 l Z a0 hw os Vs [x0, x1] _ f629 f632 f635 f638 cs hcs (own_sta_keep S0 O622.1 (own_ns4 E0 A_N A_S A_L))) (W := 2) (by decide) (by decide) (by rw [hml]; rfl) (lenOf pd_19 rfl) (Nat.le_of_eq rfl) (hb hby d18_133) (by decide) (by decide) rfl ?_
        rintro T639 v639 L639 X639 ⟨rfl, e639, rfl⟩
        rw [List.append_nil] at X639
        show Ends none p e below s _ _ _ T639 (mkF m 136 #[.val (.ref oa), .val (.ref os), .val (.int y), .val (.int (Int32.ofNat u)), .val (.int (Int32.ofNat k600)), .val (.int ch1)] [(.int (2 : Int32)), (.int (Int32.ofNat u)), (.ref oa)])
        refine E.iadd (q := 137) X639 hx (hb hby d18_136) ?_
        refine E.iconst (q := 138) (v := (1 : Int32)) X639 hx (hb hby d18_137) rfl ?_
        refine E.iadd (q := 139) X639 hx (hb hby d18_138) ?_
        rw [show (Int32.ofNat u + (2 : Int32)) + (1 : Int32) = Int32.ofNat (u + 2 + 1) from own_used]
        show Ends none p e below s _ _ _ T639 (mkF m 139 #[.val (.ref oa), .val (.ref os), .val (.int y), .val (.int (Int32.ofNat u)), .val (.int (Int32.ofNat k600)), .val (.int ch1)] [(.int (Int32.ofNat (u + 2 + 1))), (.ref oa)])
        have f640 := F_used.other W565 (Or.inl (Ne.symm n_N_oa))
        have f641 := f640.other W574 (Or.inl (Ne.symm n_N_oa))
        have f642 := f641.other W583 (Or.inl (Ne.symm n_N_oa))
        have f643 := f642.other W616 (Or.inl (Ne.symm n_Sl_oa))
        have f644 := f643.other W622 (Or.inl (Ne.symm n_Ln_oa))
        have f645 := f586.wr W616
        have f646 := f645.wr W622
        refine Ends.putF X639 hx hZ hown (host := "") (Or.inl (hw _ (List.mem_of_getElem? (i := 95) rfl))) Via.refl e639 f644 f646 (Or.inl (hw _ (List.mem_of_getElem? (i := 96) rfl))) (hw _ (List.mem_of_getElem? (i := 1) rfl)) (ty := .int) (by decide) rfl rfl (hb hby d18_139) ?_
        intro T647 h647 X647 e647 W647 Fw647
        have O647 := O622.wr W647 (Or.inl (List.mem_of_getElem? (i := 0) rfl))
        refine E.aloadN (q := 143) X647 hx (hb hby d18_142) rfl rfl ?_
        refine E.dup (q := 144) X647 hx (hb hby d18_143) rfl ?_
        have f648 := F_count.other W565 (Or.inl (Ne.symm n_N_oa))
        have f649 := f648.other W574 (Or.inl (Ne.symm n_N_oa))
        have f650 := f649.other W583 (Or.inl (Ne.symm n_N_oa))
        have f651 := f650.other W616 (Or.inl (Ne.symm n_Sl_oa))
        have f652 := f651.other W622 (Or.inl (Ne.symm n_Ln_oa))
        have f653 := f652.other W647 (Or.inr (slot_ne (Or.inl (hw _ (List.mem_of_getElem? (i := 30) rfl))) (Or.inl (hw _ (List.mem_of_getElem? (i := 96) rfl))) (by decide) (t := .int) (t' := .int) (by decide) (by decide)))
        refine Ends.getF X647 hx hZ hown (host := "") (Or.inl (hw _ (List.mem_of_getElem? (i := 29) rfl))) Via.refl e647 f653 (hb hby d18_144) ?_
        intro T654 X654 e654
        refine E.iconst (q := 148) (v := (1 : Int32)) X654 hx (hb hby d18_147) rfl ?_
        refine E.iadd (q := 149) X654 hx (hb hby d18_148) ?_
        rw [own_succ cn]
        show Ends none p e below s _ _ _ T654 (mkF m 149 #[.val (.ref oa), .val (.ref os), .val (.int y), .val (.int (Int32.ofNat u)), .val (.int (Int32.ofNat k600)), .val (.int ch1)] [(.int (Int32.ofNat (cn + 1))), (.ref oa)])
        have f655 := f646.wr W647
        refine Ends.putF X654 hx hZ hown (host := "") (Or.inl (hw _ (List.mem_of_getElem? (i := 29) rfl))) Via.refl e654 f653 f655 (Or.inl (hw _ (List.mem_of_getElem? (i := 30) rfl))) (hw _ (List.mem_of_getElem? (i := 1) rfl)) (ty := .int) (by decide) rfl rfl (hb hby d18_149) ?_
        intro T656 h656 X656 e656 W656 Fw656
        have O656 := O647.wr W656 (Or.inl (List.mem_of_getElem? (i := 0) rfl))
        refine E.aloadN (q := 153) X656 hx (hb hby d18_152) rfl rfl ?_
        refine Ends.getF X656 hx hZ hown (host := "") (Or.inl (hw _ (List.mem_of_getElem? (i := 29) rfl))) Via.refl e656 Fw656 (hb hby d18_153) ?_
        intro T657 X657 e657
        refine E.i2d (q := 157) X657 hx (hb hby d18_156) ?_
        refine E.aloadN (q := 158) X657 hx (hb hby d18_157) rfl rfl ?_
        have f658 := f590.other W616 (Or.inl (Ne.symm n_Sl_oa))
        have f659 := f658.other W622 (Or.inl (Ne.symm n_Ln_oa))
        have f660 := f659.other W647 (Or.inr (slot_ne (Or.inl (hw _ (List.mem_of_getElem? (i := 21) rfl))) (Or.inl (hw _ (List.mem_of_getElem? (i := 96) rfl))) (by decide) (t := (.array .int)) (t' := .int) (by decide) (by decide)))
        have f661 := f660.other W656 (Or.inr (slot_ne (Or.inl (hw _ (List.mem_of_getElem? (i := 21) rfl))) (Or.inl (hw _ (List.mem_of_getElem? (i := 30) rfl))) (by decide) (t := (.array .int)) (t' := .int) (by decide) (by decide)))
        refine Ends.getF X657 hx hZ hown (host := "") (Or.inl (hw _ (List.mem_of_getElem? (i := 20) rfl))) Via.refl e657 f661 (hb hby d18_158) ?_
        intro T662 X662 e662
        have f663 := V616.other W622 hne
        have f664 := f663.other W647 n_Sl_oa
        have f665 := f664.other W656 n_Sl_oa
        refine Ends.alen X662 hx hZ e662 f665 (hb hby d18_161) (n := (16 : Int32)) (by rw [List.length_map, List.length_set]; rw [hl2]; rfl) ?_
        refine E.i2d (q := 163) X662 hx (hb hby d18_162) ?_
        refine E.ldc2D (q := 166) X662 hx hZ hown (hw _ (List.mem_of_getElem? (i := 144) rfl)) (hb hby d18_163) ?_
        refine E.dmul (q := 167) X662 hx (hb hby d18_166) own_nn ?_
        show Ends none p e below s _ _ _ T662 (mkF m 167 #[.val (.ref oa), .val (.ref os), .val (.int y), .val (.int (Int32.ofNat u)), .val (.int (Int32.ofNat k600)), .val (.int ch1)] [(.double (FP.dmul (FP.i2d (16 : Int32)) (4604930618986332160 : UInt64))), (.double (FP.i2d (Int32.ofNat (cn + 1))))])
        refine E.dcmp (q := 168) X662 hx (hb hby d18_167) ?_
        refine E.ifY (q := 175) X662 hx (hb hby d18_168) (XT.i0_le_t (own_fpc hc)) ?_
        refine E.iconst (q := 176) (v := (0 : Int32)) X662 hx (hb hby d18_175) rfl ?_
        have f666 := f587.other W616 (Or.inl (Ne.symm n_Sl_oa))
        have f667 := f666.other W622 (Or.inl (Ne.symm n_Ln_oa))
        have f668 := f667.other W647 (Or.inr (slot_ne (Or.inl (hw _ (List.mem_of_getElem? (i := 11) rfl))) (Or.inl (hw _ (List.mem_of_getElem? (i := 96) rfl))) (by decide) (t := (.array .byte)) (t' := .int) (by decide) (by decide)))
        have f669 := f668.other W656 (Or.inr (slot_ne (Or.inl (hw _ (List.mem_of_getElem? (i := 11) rfl))) (Or.inl (hw _ (List.mem_of_getElem? (i := 30) rfl))) (by decide) (t := (.array .byte)) (t' := .int) (by decide) (by decide)))
        have f670 := f620.other W622 (Or.inl (Ne.symm n_Ln_oa))
        have f671 := f670.other W647 (Or.inr (slot_ne (Or.inl (hw _ (List.mem_of_getElem? (i := 23) rfl))) (Or.inl (hw _ (List.mem_of_getElem? (i := 96) rfl))) (by decide) (t := (.array .int)) (t' := .int) (by decide) (by decide)))
        have f672 := f671.other W656 (Or.inr (slot_ne (Or.inl (hw _ (List.mem_of_getElem? (i := 23) rfl))) (Or.inl (hw _ (List.mem_of_getElem? (i := 30) rfl))) (by decide) (t := (.array .int)) (t' := .int) (by decide) (by decide)))
        have f673 := Fw647.other W656 (Or.inr (slot_ne (Or.inl (hw _ (List.mem_of_getElem? (i := 96) rfl))) (Or.inl (hw _ (List.mem_of_getElem? (i := 30) rfl))) (by decide) (t := .int) (t' := .int) (by decide) (by decide)))
        have f674 := f593.other W616 (Or.inl (Ne.symm n_Sl_oa))
        have f675 := f674.other W622 (Or.inl (Ne.symm n_Ln_oa))
        have f676 := f675.other W647 (Or.inr (slot_ne (Or.inl (hw _ (List.mem_of_getElem? (i := 121) rfl))) (Or.inl (hw _ (List.mem_of_getElem? (i := 96) rfl))) (by decide) (t := .long) (t' := .int) (by decide) (by decide)))
        have f677 := f676.other W656 (Or.inr (slot_ne (Or.inl (hw _ (List.mem_of_getElem? (i := 121) rfl))) (Or.inl (hw _ (List.mem_of_getElem? (i := 30) rfl))) (by decide) (t := .long) (t' := .int) (by decide) (by decide)))
        have f678 := f596.other W616 (Or.inl (Ne.symm n_Sl_oa))
        have f679 := f678.other W622 (Or.inl (Ne.symm n_Ln_oa))
        have f680 := f679.other W647 (Or.inr (slot_ne (Or.inl (hw _ (List.mem_of_getElem? (i := 123) rfl))) (Or.inl (hw _ (List.mem_of_getElem? (i := 96) rfl))) (by decide) (t := .long) (t' := .int) (by decide) (by decide)))
        have f681 := f680.other W656 (Or.inr (slot_ne (Or.inl (hw _ (List.mem_of_getElem? (i := 123) rfl))) (Or.inl (hw _ (List.mem_of_getElem? (i := 30) rfl))) (by decide) (t := .long) (t' := .int) (by decide) (by decide)))
        have f682 := V583.other W616 n_N_Sl
        have f683 := f682.other W622 n_N_Ln
        have f684 := f683.other W647 n_N_oa
        have f685 := f684.other W656 n_N_oa
        have f686 := V622.other W647 n_Ln_oa
        have f687 := f686.other W656 n_Ln_oa
        have hq' : ss[k600]? = some (-1) := by rw [List.getElem?_eq_getElem hi2, hq]
        subst e662
        exact Ends.retI X662 hx hlk hret (hb hby d18_176) (by decide) (by decide) ⟨_, _, _, _, _, _, rfl, O656, f669, f661, f672, Fw656, f673, f677, f681, f685, f665, f687, own_SNa H583 y (by decide) h58 hq', Nat.le_add_left 1 cn, Nat.le_refl _⟩
      · refine E.icmpN (q := 106) X601 hx (hb hby d18_103) (XT.ii_eq_f hq) ?_
        refine E.aloadN (q := 107) X601 hx (hb hby d18_106) rfl rfl ?_
        have f602 := F_lines.other W565 (Or.inl (Ne.symm n_N_oa))
        have f603 := f602.other W574 (Or.inl (Ne.symm n_N_oa))
        have f604 := f603.other W583 (Or.inl (Ne.symm n_N_oa))
        refine Ends.getF X601 hx hZ hown (host := "") (Or.inl (hw _ (List.mem_of_getElem? (i := 22) rfl))) Via.refl e601 f604 (hb hby d18_107) ?_
        intro T605 X605 e605
        refine E.iload (q := 112) X605 hx (hb hby d18_110) rfl ?_
        have f606 := A_L.other W565 (Ne.symm n_N_Ln)
        have f607 := f606.other W574 (Ne.symm n_N_Ln)
        have f608 := f607.other W583 (Ne.symm n_N_Ln)
        refine Ends.ild X605 hx hZ e605 f608 (i := k600) (v := .int (ls[k600]'hi3)) rfl (by rw [List.getElem?_map, List.getElem?_eq_getElem hi3]; rfl) (hb hby d18_112) ?_
        show Ends none p e below s _ _ _ T605 (mkF m 113 #[.val (.ref oa), .val (.ref os), .val (.int y), .val (.int (Int32.ofNat u)), .val (.int (Int32.ofNat k600)), .val (.int ch1)] [(.int (ls[k600]'hi3))])
        have f609 := F_count.other W565 (Or.inl (Ne.symm n_N_oa))
        have f610 := f609.other W574 (Or.inl (Ne.symm n_N_oa))
        have f611 := f610.other W583 (Or.inl (Ne.symm n_N_oa))
        have f612 := F_used.other W565 (Or.inl (Ne.symm n_N_oa))
        have f613 := f612.other W574 (Or.inl (Ne.symm n_N_oa))
        have f614 := f613.other W583 (Or.inl (Ne.symm n_N_oa))
        subst e605
        exact Ends.retI X605 hx hlk hret (hb hby d18_113) (by decide) (by decide) ⟨_, _, _, _, _, _, rfl, O583, f587, f590, f604, f611, f614, f593, f596, V583, f599, f608, H583, own_SNe H583 (List.getElem_mem hi2) hq, Nat.le_succ cn⟩
    by_cases hq : ch1 < (65 : Int32)
    · refine E.icmpY (q := 65) X573 hx (hb hby d18_47) (XT.ii_lt_t hq) ?_
      refine E.iload (q := 67) X573 hx (hb hby d18_65) rfl ?_
      exact Jc1 _
    · refine E.icmpN (q := 50) X573 hx (hb hby d18_47) (XT.ii_lt_f hq) ?_
      refine E.iload (q := 52) X573 hx (hb hby d18_50) rfl ?_
      refine E.bipush (q := 54) (v := (90 : Int32)) X573 hx (hb hby d18_52) rfl ?_
      by_cases hq2 : (90 : Int32) < ch1
      · refine E.icmpY (q := 65) X573 hx (hb hby d18_54) (XT.ii_gt_t hq2) ?_
        refine E.iload (q := 67) X573 hx (hb hby d18_65) rfl ?_
        exact Jc1 _
      · refine E.icmpN (q := 57) X573 hx (hb hby d18_54) (XT.ii_gt_f hq2) ?_
        refine E.iload (q := 59) X573 hx (hb hby d18_57) rfl ?_
        refine E.bipush (q := 61) (v := (32 : Int32)) X573 hx (hb hby d18_59) rfl ?_
        refine E.iadd (q := 62) X573 hx (hb hby d18_61) ?_
        refine E.goto (q := 67) X573 hx (hb hby d18_62) ?_
        exact Jc1 _
  by_cases hq : ch0 < (65 : Int32)
  · refine E.icmpY (q := 65) X564 hx (hb hby d18_47) (XT.ii_lt_t hq) ?_
    refine E.iload (q := 67) X564 hx (hb hby d18_65) rfl ?_
    exact Jc0 _
  · refine E.icmpN (q := 50) X564 hx (hb hby d18_47) (XT.ii_lt_f hq) ?_
    refine E.iload (q := 52) X564 hx (hb hby d18_50) rfl ?_
    refine E.bipush (q := 54) (v := (90 : Int32)) X564 hx (hb hby d18_52) rfl ?_
    by_cases hq2 : (90 : Int32) < ch0
    · refine E.icmpY (q := 65) X564 hx (hb hby d18_54) (XT.ii_gt_t hq2) ?_
      refine E.iload (q := 67) X564 hx (hb hby d18_65) rfl ?_
      exact Jc0 _
    · refine E.icmpN (q := 57) X564 hx (hb hby d18_54) (XT.ii_gt_f hq2) ?_
      refine E.iload (q := 59) X564 hx (hb hby d18_57) rfl ?_
      refine E.bipush (q := 61) (v := (32 : Int32)) X564 hx (hb hby d18_59) rfl ?_
      refine E.iadd (q := 62) X564 hx (hb hby d18_61) ?_
      refine E.goto (q := 67) X564 hx (hb hby d18_62) ?_
      exact Jc0 _
theorem efAdd_3 (m : MethodId) (x0 : Addr) (x1 : Addr) (x2 : Int32) : entryFrame m #[(.ref x0), (.ref x1), (.int x2)] 6 = mkF m 0 #[.val (.ref x0), .val (.ref x1), .val (.int x2), .unset, .unset, .unset] [] := by first | (simp [entryFrame, mkF, argsToLocals, Value.category]; done) | rfl
set_option maxRecDepth 65536 in
set_option maxHeartbeats 40000000 in
theorem rmAdd_3 (l : Launch) (Z : State) (a0 : Array Value) (hw : ∀ d ∈ tables_1, d.before a0 Z = true) (oa : Addr) (os : Addr) (y : Int32) (N Sl Ln Vs : Addr) (k0 k1 : Int64) (bs ss ls : List Int32) (u cn : Nat) (hSN : SNs bs ss ls u cn) (hc : cn ≤ 2) (hne : Sl ≠ Ln) (x0 x1 x2 : Int32) (h0 : Heap) (E0 : Exa Z h0 oa "com/example/optpack/optpack/service/SectionNames") (F_names : Fld Z h0 oa "com/example/optpack/optpack/service/SectionNames" "names" "[B" (.ref N)) (F_slots : Fld Z h0 oa "com/example/optpack/optpack/service/SectionNames" "slots" "[I" (.ref Sl)) (F_lines : Fld Z h0 oa "com/example/optpack/optpack/service/SectionNames" "lines" "[I" (.ref Ln)) (F_count : Fld Z h0 oa "com/example/optpack/optpack/service/SectionNames" "count" "I" (.int (Int32.ofNat cn))) (F_used : Fld Z h0 oa "com/example/optpack/optpack/service/SectionNames" "used" "I" (.int (Int32.ofNat u))) (F_key0 : Fld Z h0 oa "com/example/optpack/optpack/service/SectionNames" "key0" "J" (.long k0)) (F_key1 : Fld Z h0 oa "com/example/optpack/optpack/service/SectionNames" "key1" "J" (.long k1)) (A_N : Ary Z h0 N .byte (bs.map Value.int)) (A_S : Ary Z h0 Sl .int (ss.map Value.int)) (A_L : Ary Z h0 Ln .int (ls.map Value.int)) (Es : Exa Z h0 os "java/lang/String") (Svs : Fld Z h0 os "java/lang/String" "value" "[B" (.ref Vs)) (Scs : Fld Z h0 os "java/lang/String" "coder" "B" (.int (0 : Int32))) (A_x : Ary Z h0 Vs .byte ([x0, x1, x2].map Value.int)) (cs : Int32) (hcs : ¬ cs = (0 : Int32)) (S0 : Sta Z h0 "java/lang/String" "COMPACT_STRINGS" "Z" (.int cs)) (fv : Value) (hfv : fv = .null ∨ ∃ a, fv = .ref a) (S1 : Sta Z h0 "jdk/internal/util/Preconditions" "SIOOBE_FORMATTER" "Ljava/util/function/BiFunction;" fv) :
    Con l (⟨"com/example/optpack/optpack/service/SectionNames", "add", "(Ljava/lang/String;I)I"⟩ : MethodName) prog_73_method_2_code 6 (some .int) [] ({ frames := 5, cells := 0, slots := 0, locals := 150 } : Room) #[(.ref oa), (.ref os), (.int y)] Z h0 (fun v h L => ∃ (r : Int32) (bs' ss' ls' : List Int32) (u' c' : Nat), v = some (.int r) ∧ Ok h0 h [oa, N, Sl, Ln] L ∧ Fld Z h oa "com/example/optpack/optpack/service/SectionNames" "names" "[B" (.ref N) ∧ Fld Z h oa "com/example/optpack/optpack/service/SectionNames" "slots" "[I" (.ref Sl) ∧ Fld Z h oa "com/example/optpack/optpack/service/SectionNames" "lines" "[I" (.ref Ln) ∧ Fld Z h oa "com/example/optpack/optpack/service/SectionNames" "count" "I" (.int (Int32.ofNat c')) ∧ Fld Z h oa "com/example/optpack/optpack/service/SectionNames" "used" "I" (.int (Int32.ofNat u')) ∧ Fld Z h oa "com/example/optpack/optpack/service/SectionNames" "key0" "J" (.long k0) ∧ Fld Z h oa "com/example/optpack/optpack/service/SectionNames" "key1" "J" (.long k1) ∧ Ary Z h N .byte (bs'.map Value.int) ∧ Ary Z h Sl .int (ss'.map Value.int) ∧ Ary Z h Ln .int (ls'.map Value.int) ∧ SNs bs' ss' ls' u' c' ∧ 1 ≤ c' ∧ c' ≤ cn + 1) := by
  refine Con.of (plainFor_of_name pn_8) ?_
  intro p e s m below meth c s₁ hx hZ hby hml hown hnm hret hlk X0 e0
  refine Ends.cast (efAdd_3 m oa os y) ?_
  show Ends none p e below s _ _ _ s₁ (mkF m 0 #[.val (.ref oa), .val (.ref os), .val (.int y), .unset, .unset, .unset] [])
  have O0 := Ok.refl h0 [oa, N, Sl, Ln]
  have hl := hSN.1
  have hl2 := hSN.2.1
  have hl3 := hSN.2.2.1
  have hu4 := hSN.2.2.2.1
  have n_N_Sl : N ≠ Sl := (own_ary_ne A_N A_S (by simp only [List.length_map]; omega))
  have n_N_Ln : N ≠ Ln := (own_ary_ne A_N A_L (by simp only [List.length_map]; omega))
  have n_Vs_N : Vs ≠ N := (own_ary_ne A_x A_N (by simp only [List.length_map]; rw [hl]; simp))
  have n_Vs_Sl : Vs ≠ Sl := (own_ary_ne A_x A_S (by simp only [List.length_map]; rw [hl2]; simp))
  have n_Vs_Ln : Vs ≠ Ln := (own_ary_ne A_x A_L (by simp only [List.length_map]; rw [hl3]; simp))
  have n_N_oa : N ≠ oa := own_ne_ea (hw _ (List.mem_of_getElem? (i := 1) rfl)) E0 A_N
  have n_N_os : N ≠ os := own_ne_ea (hw _ (List.mem_of_getElem? (i := 41) rfl)) Es A_N
  have n_Sl_oa : Sl ≠ oa := own_ne_ea (hw _ (List.mem_of_getElem? (i := 1) rfl)) E0 A_S
  have n_Sl_os : Sl ≠ os := own_ne_ea (hw _ (List.mem_of_getElem? (i := 41) rfl)) Es A_S
  have n_Ln_oa : Ln ≠ oa := own_ne_ea (hw _ (List.mem_of_getElem? (i := 1) rfl)) E0 A_L
  have n_Ln_os : Ln ≠ os := own_ne_ea (hw _ (List.mem_of_getElem? (i := 41) rfl)) Es A_L
  have n_Vs_oa : Vs ≠ oa := own_ne_ea (hw _ (List.mem_of_getElem? (i := 1) rfl)) E0 A_x
  have n_Vs_os : Vs ≠ os := own_ne_ea (hw _ (List.mem_of_getElem? (i := 41) rfl)) Es A_x
  have n_os_oa : os ≠ oa := own_exa_ne Es E0 (by decide)
  refine E.aloadN (q := 1) X0 hx (hb hby d18_0) rfl rfl ?_
  refine Ends.getF X0 hx hZ hown (host := "") (Or.inl (hw _ (List.mem_of_getElem? (i := 95) rfl))) Via.refl e0 F_used (hb hby d18_1) ?_
  intro T688 X688 e688
  refine E.istoreN (q := 5) (l' := #[.val (.ref oa), .val (.ref os), .val (.int y), .val (.int (Int32.ofNat u)), .unset, .unset]) X688 hx (hb hby d18_4) rfl ?_
  refine E.aloadN (q := 6) X688 hx (hb hby d18_5) rfl rfl ?_
  refine E.aloadN (q := 7) X688 hx (hb hby d18_6) rfl rfl ?_
  refine Ends.callV X688 hx hZ hown (hw _ (List.mem_of_getElem? (i := 97) rfl)) (hw _ (List.mem_of_getElem? (i := 98) rfl)) (hw _ (List.mem_of_getElem? (i := 100) rfl)) (hw _ (List.mem_of_getElem? (i := 99) rfl)) (hw _ (List.mem_of_getElem? (i := 40) rfl)) (hw _ (List.mem_of_getElem? (i := 101) rfl)) (by decide) (argsL := []) (rest := [(.ref oa)]) e688 Es (rm19 l Z a0 hw os Vs [x0, x1, x2] _ Es Svs Scs A_x cs hcs (own_sta_keep S0 O0.1 (own_ns4 E0 A_N A_S A_L))) (W := 1) (by decide) (by decide) (by rw [hml]; rfl) (lenOf pd_19 rfl) (Nat.le_of_eq rfl) (hb hby d18_7) (by decide) (by decide) rfl ?_
  rintro T689 v689 L689 X689 ⟨rfl, e689, rfl⟩
  rw [List.append_nil] at X689
  show Ends none p e below s _ _ _ T689 (mkF m 10 #[.val (.ref oa), .val (.ref os), .val (.int y), .val (.int (Int32.ofNat u)), .unset, .unset] [(.int (3 : Int32)), (.ref oa)])
  refine E.iconst (q := 11) (v := (1 : Int32)) X689 hx (hb hby d18_10) rfl ?_
  refine E.iadd (q := 12) X689 hx (hb hby d18_11) ?_
  rw [show ((3 : Int32) + (1 : Int32)) = (4 : Int32) from by decide]
  refine Ends.callPr X689 hx hZ hown (hw _ (List.mem_of_getElem? (i := 107) rfl)) (hw _ (List.mem_of_getElem? (i := 108) rfl)) (hw _ (List.mem_of_getElem? (i := 109) rfl)) (hw _ (List.mem_of_getElem? (i := 1) rfl)) (hw _ (List.mem_of_getElem? (i := 2) rfl)) (hw _ (List.mem_of_getElem? (i := 110) rfl)) (by decide) (argsL := [(.int (4 : Int32))]) (rest := []) e689 E0 (rm21 l Z a0 hw oa N u 4 bs hl (by omega) _ F_names F_used A_N) (W := 0) (by decide) (by decide) (by rw [hml]; rfl) (lenOf pd_20 rfl) (Nat.le_of_eq rfl) (hb hby d18_12) (by decide) (by decide) rfl ?_
  rintro T690 v690 L690 X690 ⟨rfl, e690, rfl⟩
  rw [List.append_nil] at X690
  show Ends none p e below s _ _ _ T690 (mkF m 15 #[.val (.ref oa), .val (.ref os), .val (.int y), .val (.int (Int32.ofNat u)), .unset, .unset] [])
  refine E.iconst (q := 16) (v := (0 : Int32)) X690 hx (hb hby d18_15) rfl ?_
  refine E.istore (q := 18) (l' := #[.val (.ref oa), .val (.ref os), .val (.int y), .val (.int (Int32.ofNat u)), .val (.int (0 : Int32)), .unset]) X690 hx (hb hby d18_16) rfl ?_
  refine E.iload (q := 20) X690 hx (hb hby d18_18) rfl ?_
  refine E.aloadN (q := 21) X690 hx (hb hby d18_20) rfl rfl ?_
  refine Ends.callV X690 hx hZ hown (hw _ (List.mem_of_getElem? (i := 97) rfl)) (hw _ (List.mem_of_getElem? (i := 98) rfl)) (hw _ (List.mem_of_getElem? (i := 100) rfl)) (hw _ (List.mem_of_getElem? (i := 99) rfl)) (hw _ (List.mem_of_getElem? (i := 40) rfl)) (hw _ (List.mem_of_getElem? (i := 101) rfl)) (by decide) (argsL := []) (rest := [(.int (0 : Int32))]) e690 Es (rm19 l Z a0 hw os Vs [x0, x1, x2] _ Es Svs Scs A_x cs hcs (own_sta_keep S0 O0.1 (own_ns4 E0 A_N A_S A_L))) (W := 1) (by decide) (by decide) (by rw [hml]; rfl) (lenOf pd_19 rfl) (Nat.le_of_eq rfl) (hb hby d18_21) (by decide) (by decide) rfl ?_
  rintro T691 v691 L691 X691 ⟨rfl, e691, rfl⟩
  rw [List.append_nil] at X691
  show Ends none p e below s _ _ _ T691 (mkF m 24 #[.val (.ref oa), .val (.ref os), .val (.int y), .val (.int (Int32.ofNat u)), .val (.int (0 : Int32)), .unset] [(.int (3 : Int32)), (.int (0 : Int32))])
  refine E.icmpN (q := 27) X691 hx (hb hby d18_24) (XT.ii_ge_f (by decide)) ?_
  refine E.aloadN (q := 28) X691 hx (hb hby d18_27) rfl rfl ?_
  refine E.iload (q := 30) X691 hx (hb hby d18_28) rfl ?_
  refine Ends.callV X691 hx hZ hown (hw _ (List.mem_of_getElem? (i := 111) rfl)) (hw _ (List.mem_of_getElem? (i := 47) rfl)) (hw _ (List.mem_of_getElem? (i := 49) rfl)) (hw _ (List.mem_of_getElem? (i := 48) rfl)) (hw _ (List.mem_of_getElem? (i := 40) rfl)) (hw _ (List.mem_of_getElem? (i := 50) rfl)) (by decide) (argsL := [(.int (0 : Int32))]) (rest := []) e691 Es (rm8 l Z a0 hw os Vs 0 [x0, x1, x2] x0 rfl _ Es Svs Scs A_x cs hcs (own_sta_keep S0 O0.1 (own_ns4 E0 A_N A_S A_L)) fv hfv (own_sta_keep S1 O0.1 (own_ns4 E0 A_N A_S A_L))) (W := 0) (by decide) (by decide) (by rw [hml]; rfl) (lenOf pd_5 rfl) (Nat.le_of_eq rfl) (hb hby d18_30) (by decide) (by decide) rfl ?_
  rintro T692 v692 L692 X692 ⟨rfl, e692, rfl⟩
  rw [List.append_nil] at X692
  show Ends none p e below s _ _ _ T692 (mkF m 33 #[.val (.ref oa), .val (.ref os), .val (.int y), .val (.int (Int32.ofNat u)), .val (.int (0 : Int32)), .unset] [(.int ((x0 &&& (255 : Int32)).toUInt32.toUInt16.toUInt32.toInt32))])
  generalize ((x0 &&& (255 : Int32)).toUInt32.toUInt16.toUInt32.toInt32) = ch0
  show Ends none p e below s _ _ _ T692 (mkF m 33 #[.val (.ref oa), .val (.ref os), .val (.int y), .val (.int (Int32.ofNat u)), .val (.int (0 : Int32)), .unset] [(.int ch0)])
  refine E.istore (q := 35) (l' := #[.val (.ref oa), .val (.ref os), .val (.int y), .val (.int (Int32.ofNat u)), .val (.int (0 : Int32)), .val (.int ch0)]) X692 hx (hb hby d18_33) rfl ?_
  refine E.aloadN (q := 36) X692 hx (hb hby d18_35) rfl rfl ?_
  refine Ends.getF X692 hx hZ hown (host := "") (Or.inl (hw _ (List.mem_of_getElem? (i := 10) rfl))) Via.refl e692 F_names (hb hby d18_36) ?_
  intro T693 X693 e693
  refine E.iloadN (q := 40) X693 hx (hb hby d18_39) rfl ?_
  refine E.iload (q := 42) X693 hx (hb hby d18_40) rfl ?_
  refine E.iadd (q := 43) X693 hx (hb hby d18_42) ?_
  refine E.iload (q := 45) X693 hx (hb hby d18_43) rfl ?_
  refine E.bipush (q := 47) (v := (65 : Int32)) X693 hx (hb hby d18_45) rfl ?_
  have Jc0 : ∀ cv : Int32, Ends none p e below s (fun v h L => ∃ (r : Int32) (bs' ss' ls' : List Int32) (u' c' : Nat), v = some (.int r) ∧ Ok h0 h [oa, N, Sl, Ln] L ∧ Fld Z h oa "com/example/optpack/optpack/service/SectionNames" "names" "[B" (.ref N) ∧ Fld Z h oa "com/example/optpack/optpack/service/SectionNames" "slots" "[I" (.ref Sl) ∧ Fld Z h oa "com/example/optpack/optpack/service/SectionNames" "lines" "[I" (.ref Ln) ∧ Fld Z h oa "com/example/optpack/optpack/service/SectionNames" "count" "I" (.int (Int32.ofNat c')) ∧ Fld Z h oa "com/example/optpack/optpack/service/SectionNames" "used" "I" (.int (Int32.ofNat u')) ∧ Fld Z h oa "com/example/optpack/optpack/service/SectionNames" "key0" "J" (.long k0) ∧ Fld Z h oa "com/example/optpack/optpack/service/SectionNames" "key1" "J" (.long k1) ∧ Ary Z h N .byte (bs'.map Value.int) ∧ Ary Z h Sl .int (ss'.map Value.int) ∧ Ary Z h Ln .int (ls'.map Value.int) ∧ SNs bs' ss' ls' u' c' ∧ 1 ≤ c' ∧ c' ≤ cn + 1) ({ frames := 5, cells := 0, slots := 0, locals := 150 } : Room).cells ({ frames := 5, cells := 0, slots := 0, locals := 150 } : Room).slots T693 (mkF m 67 #[.val (.ref oa), .val (.ref os), .val (.int y), .val (.int (Int32.ofNat u)), .val (.int (0 : Int32)), .val (.int ch0)] [(.int cv), (.int ((Int32.ofNat u) + (0 : Int32))), (.ref N)]) := by
    intro cv
    show Ends none p e below s _ _ _ T693 (mkF m 67 #[.val (.ref oa), .val (.ref os), .val (.int y), .val (.int (Int32.ofNat u)), .val (.int (0 : Int32)), .val (.int ch0)] [(.int cv), (.int ((Int32.ofNat u) + (0 : Int32))), (.ref N)])
    refine E.i2b (q := 68) X693 hx (hb hby d18_67) ?_
    refine Ends.bst X693 hx hZ e693 A_N (x' := (cv.toInt8.toInt32)) (own_nb8 _) (i := u + 0) (own_addN u 0) (by rw [List.length_map, hSN.1]; omega) (hb hby d18_68) ?_
    intro T694 h694 X694 e694 W694 V694
    rw [← List.map_set] at V694
    have H694 := own_SNw hSN (cv.toInt8.toInt32) (Nat.le_add_right u 0)
    generalize bs.set (u + 0) (cv.toInt8.toInt32) = bs694 at V694 H694
    have O694 := O0.wr W694 (Or.inl (List.mem_of_getElem? (i := 1) rfl))
    show Ends none p e below s _ _ _ T694 (mkF m 69 #[.val (.ref oa), .val (.ref os), .val (.int y), .val (.int (Int32.ofNat u)), .val (.int (0 : Int32)), .val (.int ch0)] [])
    refine E.iinc (q := 72) (v := (1 : Int32)) (l' := #[.val (.ref oa), .val (.ref os), .val (.int y), .val (.int (Int32.ofNat u)), .val (.int (1 : Int32)), .val (.int ch0)]) X694 hx (hb hby d18_69) rfl (by decide) rfl ?_
    refine E.goto (q := 18) X694 hx (hb hby d18_72) ?_
    refine E.iload (q := 20) X694 hx (hb hby d18_18) rfl ?_
    refine E.aloadN (q := 21) X694 hx (hb hby d18_20) rfl rfl ?_
    have f695 := Es.wr W694
    have f696 := Svs.other W694 (Or.inl (Ne.symm n_N_os))
    have f697 := Scs.other W694 (Or.inl (Ne.symm n_N_os))
    have f698 := A_x.other W694 n_Vs_N
    refine Ends.callV X694 hx hZ hown (hw _ (List.mem_of_getElem? (i := 97) rfl)) (hw _ (List.mem_of_getElem? (i := 98) rfl)) (hw _ (List.mem_of_getElem? (i := 100) rfl)) (hw _ (List.mem_of_getElem? (i := 99) rfl)) (hw _ (List.mem_of_getElem? (i := 40) rfl)) (hw _ (List.mem_of_getElem? (i := 101) rfl)) (by decide) (argsL := []) (rest := [(.int (1 : Int32))]) e694 f695 (rm19 l Z a0 hw os Vs [x0, x1, x2] _ f695 f696 f697 f698 cs hcs (own_sta_keep S0 O694.1 (own_ns4 E0 A_N A_S A_L))) (W := 1) (by decide) (by decide) (by rw [hml]; rfl) (lenOf pd_19 rfl) (Nat.le_of_eq rfl) (hb hby d18_21) (by decide) (by decide) rfl ?_
    rintro T699 v699 L699 X699 ⟨rfl, e699, rfl⟩
    rw [List.append_nil] at X699
    show Ends none p e below s _ _ _ T699 (mkF m 24 #[.val (.ref oa), .val (.ref os), .val (.int y), .val (.int (Int32.ofNat u)), .val (.int (1 : Int32)), .val (.int ch0)] [(.int (3 : Int32)), (.int (1 : Int32))])
    refine E.icmpN (q := 27) X699 hx (hb hby d18_24) (XT.ii_ge_f (by decide)) ?_
    refine E.aloadN (q := 28) X699 hx (hb hby d18_27) rfl rfl ?_
    refine E.iload (q := 30) X699 hx (hb hby d18_28) rfl ?_
    refine Ends.callV X699 hx hZ hown (hw _ (List.mem_of_getElem? (i := 111) rfl)) (hw _ (List.mem_of_getElem? (i := 47) rfl)) (hw _ (List.mem_of_getElem? (i := 49) rfl)) (hw _ (List.mem_of_getElem? (i := 48) rfl)) (hw _ (List.mem_of_getElem? (i := 40) rfl)) (hw _ (List.mem_of_getElem? (i := 50) rfl)) (by decide) (argsL := [(.int (1 : Int32))]) (rest := []) e699 f695 (rm8 l Z a0 hw os Vs 1 [x0, x1, x2] x1 rfl _ f695 f696 f697 f698 cs hcs (own_sta_keep S0 O694.1 (own_ns4 E0 A_N A_S A_L)) fv hfv (own_sta_keep S1 O694.1 (own_ns4 E0 A_N A_S A_L))) (W := 0) (by decide) (by decide) (by rw [hml]; rfl) (lenOf pd_5 rfl) (Nat.le_of_eq rfl) (hb hby d18_30) (by decide) (by decide) rfl ?_
    rintro T700 v700 L700 X700 ⟨rfl, e700, rfl⟩
    rw [List.append_nil] at X700
    show Ends none p e below s _ _ _ T700 (mkF m 33 #[.val (.ref oa), .val (.ref os), .val (.int y), .val (.int (Int32.ofNat u)), .val (.int (1 : Int32)), .val (.int ch0)] [(.int ((x1 &&& (255 : Int32)).toUInt32.toUInt16.toUInt32.toInt32))])
    generalize ((x1 &&& (255 : Int32)).toUInt32.toUInt16.toUInt32.toInt32) = ch1
    show Ends none p e below s _ _ _ T700 (mkF m 33 #[.val (.ref oa), .val (.ref os), .val (.int y), .val (.int (Int32.ofNat u)), .val (.int (1 : Int32)), .val (.int ch0)] [(.int ch1)])
    refine E.istore (q := 35) (l' := #[.val (.ref oa), .val (.ref os), .val (.int y), .val (.int (Int32.ofNat u)), .val (.int (1 : Int32)), .val (.int ch1)]) X700 hx (hb hby d18_33) rfl ?_
    refine E.aloadN (q := 36) X700 hx (hb hby d18_35) rfl rfl ?_
    have f701 := F_names.other W694 (Or.inl (Ne.symm n_N_oa))
    refine Ends.getF X700 hx hZ hown (host := "") (Or.inl (hw _ (List.mem_of_getElem? (i := 10) rfl))) Via.refl e700 f701 (hb hby d18_36) ?_
    intro T702 X702 e702
    refine E.iloadN (q := 40) X702 hx (hb hby d18_39) rfl ?_
    refine E.iload (q := 42) X702 hx (hb hby d18_40) rfl ?_
    refine E.iadd (q := 43) X702 hx (hb hby d18_42) ?_
    refine E.iload (q := 45) X702 hx (hb hby d18_43) rfl ?_
    refine E.bipush (q := 47) (v := (65 : Int32)) X702 hx (hb hby d18_45) rfl ?_
    have Jc1 : ∀ cv : Int32, Ends none p e below s (fun v h L => ∃ (r : Int32) (bs' ss' ls' : List Int32) (u' c' : Nat), v = some (.int r) ∧ Ok h0 h [oa, N, Sl, Ln] L ∧ Fld Z h oa "com/example/optpack/optpack/service/SectionNames" "names" "[B" (.ref N) ∧ Fld Z h oa "com/example/optpack/optpack/service/SectionNames" "slots" "[I" (.ref Sl) ∧ Fld Z h oa "com/example/optpack/optpack/service/SectionNames" "lines" "[I" (.ref Ln) ∧ Fld Z h oa "com/example/optpack/optpack/service/SectionNames" "count" "I" (.int (Int32.ofNat c')) ∧ Fld Z h oa "com/example/optpack/optpack/service/SectionNames" "used" "I" (.int (Int32.ofNat u')) ∧ Fld Z h oa "com/example/optpack/optpack/service/SectionNames" "key0" "J" (.long k0) ∧ Fld Z h oa "com/example/optpack/optpack/service/SectionNames" "key1" "J" (.long k1) ∧ Ary Z h N .byte (bs'.map Value.int) ∧ Ary Z h Sl .int (ss'.map Value.int) ∧ Ary Z h Ln .int (ls'.map Value.int) ∧ SNs bs' ss' ls' u' c' ∧ 1 ≤ c' ∧ c' ≤ cn + 1) ({ frames := 5, cells := 0, slots := 0, locals := 150 } : Room).cells ({ frames := 5, cells := 0, slots := 0, locals := 150 } : Room).slots T702 (mkF m 67 #[.val (.ref oa), .val (.ref os), .val (.int y), .val (.int (Int32.ofNat u)), .val (.int (1 : Int32)), .val (.int ch1)] [(.int cv), (.int ((Int32.ofNat u) + (1 : Int32))), (.ref N)]) := by
      intro cv
      show Ends none p e below s _ _ _ T702 (mkF m 67 #[.val (.ref oa), .val (.ref os), .val (.int y), .val (.int (Int32.ofNat u)), .val (.int (1 : Int32)), .val (.int ch1)] [(.int cv), (.int ((Int32.ofNat u) + (1 : Int32))), (.ref N)])
      refine E.i2b (q := 68) X702 hx (hb hby d18_67) ?_
      refine Ends.bst X702 hx hZ e702 V694 (x' := (cv.toInt8.toInt32)) (own_nb8 _) (i := u + 1) (own_addN u 1) (by rw [List.length_map, H694.1]; omega) (hb hby d18_68) ?_
      intro T703 h703 X703 e703 W703 V703
      rw [← List.map_set] at V703
      have H703 := own_SNw H694 (cv.toInt8.toInt32) (Nat.le_add_right u 1)
      generalize bs694.set (u + 1) (cv.toInt8.toInt32) = bs703 at V703 H703
      have O703 := O694.wr W703 (Or.inl (List.mem_of_getElem? (i := 1) rfl))
      show Ends none p e below s _ _ _ T703 (mkF m 69 #[.val (.ref oa), .val (.ref os), .val (.int y), .val (.int (Int32.ofNat u)), .val (.int (1 : Int32)), .val (.int ch1)] [])
      refine E.iinc (q := 72) (v := (2 : Int32)) (l' := #[.val (.ref oa), .val (.ref os), .val (.int y), .val (.int (Int32.ofNat u)), .val (.int (2 : Int32)), .val (.int ch1)]) X703 hx (hb hby d18_69) rfl (by decide) rfl ?_
      refine E.goto (q := 18) X703 hx (hb hby d18_72) ?_
      refine E.iload (q := 20) X703 hx (hb hby d18_18) rfl ?_
      refine E.aloadN (q := 21) X703 hx (hb hby d18_20) rfl rfl ?_
      have f704 := f695.wr W703
      have f705 := f696.other W703 (Or.inl (Ne.symm n_N_os))
      have f706 := f697.other W703 (Or.inl (Ne.symm n_N_os))
      have f707 := f698.other W703 n_Vs_N
      refine Ends.callV X703 hx hZ hown (hw _ (List.mem_of_getElem? (i := 97) rfl)) (hw _ (List.mem_of_getElem? (i := 98) rfl)) (hw _ (List.mem_of_getElem? (i := 100) rfl)) (hw _ (List.mem_of_getElem? (i := 99) rfl)) (hw _ (List.mem_of_getElem? (i := 40) rfl)) (hw _ (List.mem_of_getElem? (i := 101) rfl)) (by decide) (argsL := []) (rest := [(.int (2 : Int32))]) e703 f704 (rm19 l Z a0 hw os Vs [x0, x1, x2] _ f704 f705 f706 f707 cs hcs (own_sta_keep S0 O703.1 (own_ns4 E0 A_N A_S A_L))) (W := 1) (by decide) (by decide) (by rw [hml]; rfl) (lenOf pd_19 rfl) (Nat.le_of_eq rfl) (hb hby d18_21) (by decide) (by decide) rfl ?_
      rintro T708 v708 L708 X708 ⟨rfl, e708, rfl⟩
      rw [List.append_nil] at X708
      show Ends none p e below s _ _ _ T708 (mkF m 24 #[.val (.ref oa), .val (.ref os), .val (.int y), .val (.int (Int32.ofNat u)), .val (.int (2 : Int32)), .val (.int ch1)] [(.int (3 : Int32)), (.int (2 : Int32))])
      refine E.icmpN (q := 27) X708 hx (hb hby d18_24) (XT.ii_ge_f (by decide)) ?_
      refine E.aloadN (q := 28) X708 hx (hb hby d18_27) rfl rfl ?_
      refine E.iload (q := 30) X708 hx (hb hby d18_28) rfl ?_
      refine Ends.callV X708 hx hZ hown (hw _ (List.mem_of_getElem? (i := 111) rfl)) (hw _ (List.mem_of_getElem? (i := 47) rfl)) (hw _ (List.mem_of_getElem? (i := 49) rfl)) (hw _ (List.mem_of_getElem? (i := 48) rfl)) (hw _ (List.mem_of_getElem? (i := 40) rfl)) (hw _ (List.mem_of_getElem? (i := 50) rfl)) (by decide) (argsL := [(.int (2 : Int32))]) (rest := []) e708 f704 (rm8 l Z a0 hw os Vs 2 [x0, x1, x2] x2 rfl _ f704 f705 f706 f707 cs hcs (own_sta_keep S0 O703.1 (own_ns4 E0 A_N A_S A_L)) fv hfv (own_sta_keep S1 O703.1 (own_ns4 E0 A_N A_S A_L))) (W := 0) (by decide) (by decide) (by rw [hml]; rfl) (lenOf pd_5 rfl) (Nat.le_of_eq rfl) (hb hby d18_30) (by decide) (by decide) rfl ?_
      rintro T709 v709 L709 X709 ⟨rfl, e709, rfl⟩
      rw [List.append_nil] at X709
      show Ends none p e below s _ _ _ T709 (mkF m 33 #[.val (.ref oa), .val (.ref os), .val (.int y), .val (.int (Int32.ofNat u)), .val (.int (2 : Int32)), .val (.int ch1)] [(.int ((x2 &&& (255 : Int32)).toUInt32.toUInt16.toUInt32.toInt32))])
      generalize ((x2 &&& (255 : Int32)).toUInt32.toUInt16.toUInt32.toInt32) = ch2
      show Ends none p e below s _ _ _ T709 (mkF m 33 #[.val (.ref oa), .val (.ref os), .val (.int y), .val (.int (Int32.ofNat u)), .val (.int (2 : Int32)), .val (.int ch1)] [(.int ch2)])
      refine E.istore (q := 35) (l' := #[.val (.ref oa), .val (.ref os), .val (.int y), .val (.int (Int32.ofNat u)), .val (.int (2 : Int32)), .val (.int ch2)]) X709 hx (hb hby d18_33) rfl ?_
      refine E.aloadN (q := 36) X709 hx (hb hby d18_35) rfl rfl ?_
      have f710 := f701.other W703 (Or.inl (Ne.symm n_N_oa))
      refine Ends.getF X709 hx hZ hown (host := "") (Or.inl (hw _ (List.mem_of_getElem? (i := 10) rfl))) Via.refl e709 f710 (hb hby d18_36) ?_
      intro T711 X711 e711
      refine E.iloadN (q := 40) X711 hx (hb hby d18_39) rfl ?_
      refine E.iload (q := 42) X711 hx (hb hby d18_40) rfl ?_
      refine E.iadd (q := 43) X711 hx (hb hby d18_42) ?_
      refine E.iload (q := 45) X711 hx (hb hby d18_43) rfl ?_
      refine E.bipush (q := 47) (v := (65 : Int32)) X711 hx (hb hby d18_45) rfl ?_
      have Jc2 : ∀ cv : Int32, Ends none p e below s (fun v h L => ∃ (r : Int32) (bs' ss' ls' : List Int32) (u' c' : Nat), v = some (.int r) ∧ Ok h0 h [oa, N, Sl, Ln] L ∧ Fld Z h oa "com/example/optpack/optpack/service/SectionNames" "names" "[B" (.ref N) ∧ Fld Z h oa "com/example/optpack/optpack/service/SectionNames" "slots" "[I" (.ref Sl) ∧ Fld Z h oa "com/example/optpack/optpack/service/SectionNames" "lines" "[I" (.ref Ln) ∧ Fld Z h oa "com/example/optpack/optpack/service/SectionNames" "count" "I" (.int (Int32.ofNat c')) ∧ Fld Z h oa "com/example/optpack/optpack/service/SectionNames" "used" "I" (.int (Int32.ofNat u')) ∧ Fld Z h oa "com/example/optpack/optpack/service/SectionNames" "key0" "J" (.long k0) ∧ Fld Z h oa "com/example/optpack/optpack/service/SectionNames" "key1" "J" (.long k1) ∧ Ary Z h N .byte (bs'.map Value.int) ∧ Ary Z h Sl .int (ss'.map Value.int) ∧ Ary Z h Ln .int (ls'.map Value.int) ∧ SNs bs' ss' ls' u' c' ∧ 1 ≤ c' ∧ c' ≤ cn + 1) ({ frames := 5, cells := 0, slots := 0, locals := 150 } : Room).cells ({ frames := 5, cells := 0, slots := 0, locals := 150 } : Room).slots T711 (mkF m 67 #[.val (.ref oa), .val (.ref os), .val (.int y), .val (.int (Int32.ofNat u)), .val (.int (2 : Int32)), .val (.int ch2)] [(.int cv), (.int ((Int32.ofNat u) + (2 : Int32))), (.ref N)]) := by
        intro cv
        show Ends none p e below s _ _ _ T711 (mkF m 67 #[.val (.ref oa), .val (.ref os), .val (.int y), .val (.int (Int32.ofNat u)), .val (.int (2 : Int32)), .val (.int ch2)] [(.int cv), (.int ((Int32.ofNat u) + (2 : Int32))), (.ref N)])
        refine E.i2b (q := 68) X711 hx (hb hby d18_67) ?_
        refine Ends.bst X711 hx hZ e711 V703 (x' := (cv.toInt8.toInt32)) (own_nb8 _) (i := u + 2) (own_addN u 2) (by rw [List.length_map, H703.1]; omega) (hb hby d18_68) ?_
        intro T712 h712 X712 e712 W712 V712
        rw [← List.map_set] at V712
        have H712 := own_SNw H703 (cv.toInt8.toInt32) (Nat.le_add_right u 2)
        generalize bs703.set (u + 2) (cv.toInt8.toInt32) = bs712 at V712 H712
        have O712 := O703.wr W712 (Or.inl (List.mem_of_getElem? (i := 1) rfl))
        show Ends none p e below s _ _ _ T712 (mkF m 69 #[.val (.ref oa), .val (.ref os), .val (.int y), .val (.int (Int32.ofNat u)), .val (.int (2 : Int32)), .val (.int ch2)] [])
        refine E.iinc (q := 72) (v := (3 : Int32)) (l' := #[.val (.ref oa), .val (.ref os), .val (.int y), .val (.int (Int32.ofNat u)), .val (.int (3 : Int32)), .val (.int ch2)]) X712 hx (hb hby d18_69) rfl (by decide) rfl ?_
        refine E.goto (q := 18) X712 hx (hb hby d18_72) ?_
        refine E.iload (q := 20) X712 hx (hb hby d18_18) rfl ?_
        refine E.aloadN (q := 21) X712 hx (hb hby d18_20) rfl rfl ?_
        have f713 := f704.wr W712
        have f714 := f705.other W712 (Or.inl (Ne.symm n_N_os))
        have f715 := f706.other W712 (Or.inl (Ne.symm n_N_os))
        have f716 := f707.other W712 n_Vs_N
        refine Ends.callV X712 hx hZ hown (hw _ (List.mem_of_getElem? (i := 97) rfl)) (hw _ (List.mem_of_getElem? (i := 98) rfl)) (hw _ (List.mem_of_getElem? (i := 100) rfl)) (hw _ (List.mem_of_getElem? (i := 99) rfl)) (hw _ (List.mem_of_getElem? (i := 40) rfl)) (hw _ (List.mem_of_getElem? (i := 101) rfl)) (by decide) (argsL := []) (rest := [(.int (3 : Int32))]) e712 f713 (rm19 l Z a0 hw os Vs [x0, x1, x2] _ f713 f714 f715 f716 cs hcs (own_sta_keep S0 O712.1 (own_ns4 E0 A_N A_S A_L))) (W := 1) (by decide) (by decide) (by rw [hml]; rfl) (lenOf pd_19 rfl) (Nat.le_of_eq rfl) (hb hby d18_21) (by decide) (by decide) rfl ?_
        rintro T717 v717 L717 X717 ⟨rfl, e717, rfl⟩
        rw [List.append_nil] at X717
        show Ends none p e below s _ _ _ T717 (mkF m 24 #[.val (.ref oa), .val (.ref os), .val (.int y), .val (.int (Int32.ofNat u)), .val (.int (3 : Int32)), .val (.int ch2)] [(.int (3 : Int32)), (.int (3 : Int32))])
        refine E.icmpY (q := 75) X717 hx (hb hby d18_24) (XT.ii_ge_t (by decide)) ?_
        refine E.aloadN (q := 76) X717 hx (hb hby d18_75) rfl rfl ?_
        have f718 := f710.other W712 (Or.inl (Ne.symm n_N_oa))
        refine Ends.getF X717 hx hZ hown (host := "") (Or.inl (hw _ (List.mem_of_getElem? (i := 10) rfl))) Via.refl e717 f718 (hb hby d18_76) ?_
        intro T719 X719 e719
        refine E.iloadN (q := 80) X719 hx (hb hby d18_79) rfl ?_
        refine E.aloadN (q := 81) X719 hx (hb hby d18_80) rfl rfl ?_
        refine Ends.callV X719 hx hZ hown (hw _ (List.mem_of_getElem? (i := 97) rfl)) (hw _ (List.mem_of_getElem? (i := 98) rfl)) (hw _ (List.mem_of_getElem? (i := 100) rfl)) (hw _ (List.mem_of_getElem? (i := 99) rfl)) (hw _ (List.mem_of_getElem? (i := 40) rfl)) (hw _ (List.mem_of_getElem? (i := 101) rfl)) (by decide) (argsL := []) (rest := [(.int (Int32.ofNat u)), (.ref N)]) e719 f713 (rm19 l Z a0 hw os Vs [x0, x1, x2] _ f713 f714 f715 f716 cs hcs (own_sta_keep S0 O712.1 (own_ns4 E0 A_N A_S A_L))) (W := 2) (by decide) (by decide) (by rw [hml]; rfl) (lenOf pd_19 rfl) (Nat.le_of_eq rfl) (hb hby d18_81) (by decide) (by decide) rfl ?_
        rintro T720 v720 L720 X720 ⟨rfl, e720, rfl⟩
        rw [List.append_nil] at X720
        show Ends none p e below s _ _ _ T720 (mkF m 84 #[.val (.ref oa), .val (.ref os), .val (.int y), .val (.int (Int32.ofNat u)), .val (.int (3 : Int32)), .val (.int ch2)] [(.int (3 : Int32)), (.int (Int32.ofNat u)), (.ref N)])
        refine E.iadd (q := 85) X720 hx (hb hby d18_84) ?_
        refine E.bipush (q := 87) (v := (58 : Int32)) X720 hx (hb hby d18_85) rfl ?_
        refine Ends.bst X720 hx hZ e720 V712 (x' := (58 : Int32)) rfl (i := u + 3) (own_addN u 3) (by rw [List.length_map, H712.1]; omega) (hb hby d18_87) ?_
        intro T721 h721 X721 e721 W721 V721
        rw [← List.map_set] at V721
        have H721 := own_SNw H712 (58 : Int32) (Nat.le_add_right u 3)
        have h58 : (bs712.set (u + 3) (58 : Int32))[u + 3]? = some (58 : Int32) := own_set58 (by rw [H712.1]; omega)
        generalize bs712.set (u + 3) (58 : Int32) = bs721 at V721 H721 h58
        have O721 := O712.wr W721 (Or.inl (List.mem_of_getElem? (i := 1) rfl))
        show Ends none p e below s _ _ _ T721 (mkF m 88 #[.val (.ref oa), .val (.ref os), .val (.int y), .val (.int (Int32.ofNat u)), .val (.int (3 : Int32)), .val (.int ch2)] [])
        refine E.aloadN (q := 89) X721 hx (hb hby d18_88) rfl rfl ?_
        refine E.iloadN (q := 90) X721 hx (hb hby d18_89) rfl ?_
        have f722 := E0.wr W694
        have f723 := f722.wr W703
        have f724 := f723.wr W712
        have f725 := f724.wr W721
        have f726 := f718.other W721 (Or.inl (Ne.symm n_N_oa))
        have f727 := F_slots.other W694 (Or.inl (Ne.symm n_N_oa))
        have f728 := f727.other W703 (Or.inl (Ne.symm n_N_oa))
        have f729 := f728.other W712 (Or.inl (Ne.symm n_N_oa))
        have f730 := f729.other W721 (Or.inl (Ne.symm n_N_oa))
        have f731 := F_key0.other W694 (Or.inl (Ne.symm n_N_oa))
        have f732 := f731.other W703 (Or.inl (Ne.symm n_N_oa))
        have f733 := f732.other W712 (Or.inl (Ne.symm n_N_oa))
        have f734 := f733.other W721 (Or.inl (Ne.symm n_N_oa))
        have f735 := F_key1.other W694 (Or.inl (Ne.symm n_N_oa))
        have f736 := f735.other W703 (Or.inl (Ne.symm n_N_oa))
        have f737 := f736.other W712 (Or.inl (Ne.symm n_N_oa))
        have f738 := f737.other W721 (Or.inl (Ne.symm n_N_oa))
        have f739 := A_S.other W694 (Ne.symm n_N_Sl)
        have f740 := f739.other W703 (Ne.symm n_N_Sl)
        have f741 := f740.other W712 (Ne.symm n_N_Sl)
        have f742 := f741.other W721 (Ne.symm n_N_Sl)
        refine Ends.callPr X721 hx hZ hown (hw _ (List.mem_of_getElem? (i := 112) rfl)) (hw _ (List.mem_of_getElem? (i := 113) rfl)) (hw _ (List.mem_of_getElem? (i := 114) rfl)) (hw _ (List.mem_of_getElem? (i := 1) rfl)) (hw _ (List.mem_of_getElem? (i := 2) rfl)) (hw _ (List.mem_of_getElem? (i := 115) rfl)) (by decide) (argsL := [(.int (Int32.ofNat u))]) (rest := []) e721 f725 (rm22 l Z a0 hw oa N Sl k0 k1 bs721 ss ls u cn 3 H721 hc (by decide) h58 _ f725 f726 f730 f734 f738 V721 f742) (W := 0) (by decide) (by decide) (by rw [hml]; rfl) (lenOf pd_17 rfl) (Nat.le_of_eq rfl) (hb hby d18_90) (by decide) (by decide) rfl ?_
        rintro T743 v743 L743 X743 ⟨k743, rfl, hk743, e743, rfl⟩
        rw [List.append_nil] at X743
        show Ends none p e below s _ _ _ T743 (mkF m 93 #[.val (.ref oa), .val (.ref os), .val (.int y), .val (.int (Int32.ofNat u)), .val (.int (3 : Int32)), .val (.int ch2)] [(.int (Int32.ofNat k743))])
        have hi2 : k743 < ss.length := by omega
        have hi3 : k743 < ls.length := by omega
        refine E.istore (q := 95) (l' := #[.val (.ref oa), .val (.ref os), .val (.int y), .val (.int (Int32.ofNat u)), .val (.int (Int32.ofNat k743)), .val (.int ch2)]) X743 hx (hb hby d18_93) rfl ?_
        refine E.aloadN (q := 96) X743 hx (hb hby d18_95) rfl rfl ?_
        refine Ends.getF X743 hx hZ hown (host := "") (Or.inl (hw _ (List.mem_of_getElem? (i := 20) rfl))) Via.refl e743 f730 (hb hby d18_96) ?_
        intro T744 X744 e744
        refine E.iload (q := 101) X744 hx (hb hby d18_99) rfl ?_
        refine Ends.ild X744 hx hZ e744 f742 (i := k743) (v := .int (ss[k743]'hi2)) rfl (by rw [List.getElem?_map, List.getElem?_eq_getElem hi2]; rfl) (hb hby d18_101) ?_
        show Ends none p e below s _ _ _ T744 (mkF m 102 #[.val (.ref oa), .val (.ref os), .val (.int y), .val (.int (Int32.ofNat u)), .val (.int (Int32.ofNat k743)), .val (.int ch2)] [(.int (ss[k743]'hi2))])
        refine E.iconst (q := 103) (v := (-1 : Int32)) X744 hx (hb hby d18_102) rfl ?_
        by_cases hq : (ss[k743]'hi2) = (-1 : Int32)
        · refine E.icmpY (q := 114) X744 hx (hb hby d18_103) (XT.ii_eq_t hq) ?_
          refine E.aloadN (q := 115) X744 hx (hb hby d18_114) rfl rfl ?_
          refine Ends.getF X744 hx hZ hown (host := "") (Or.inl (hw _ (List.mem_of_getElem? (i := 20) rfl))) Via.refl e744 f730 (hb hby d18_115) ?_
          intro T762 X762 e762
          refine E.iload (q := 120) X762 hx (hb hby d18_118) rfl ?_
          refine E.iloadN (q := 121) X762 hx (hb hby d18_120) rfl ?_
          refine Ends.ist X762 hx hZ e762 f742 (i := k743) rfl (by rw [List.length_map]; assumption) (hb hby d18_121) ?_
          intro T763 h763 X763 e763 W763 V763
          rw [← List.map_set] at V763
          have O763 := O721.wr W763 (Or.inl (List.mem_of_getElem? (i := 2) rfl))
          show Ends none p e below s _ _ _ T763 (mkF m 122 #[.val (.ref oa), .val (.ref os), .val (.int y), .val (.int (Int32.ofNat u)), .val (.int (Int32.ofNat k743)), .val (.int ch2)] [])
          refine E.aloadN (q := 123) X763 hx (hb hby d18_122) rfl rfl ?_
          have f764 := F_lines.other W694 (Or.inl (Ne.symm n_N_oa))
          have f765 := f764.other W703 (Or.inl (Ne.symm n_N_oa))
          have f766 := f765.other W712 (Or.inl (Ne.symm n_N_oa))
          have f767 := f766.other W721 (Or.inl (Ne.symm n_N_oa))
          have f768 := f767.other W763 (Or.inl (Ne.symm n_Sl_oa))
          refine Ends.getF X763 hx hZ hown (host := "") (Or.inl (hw _ (List.mem_of_getElem? (i := 22) rfl))) Via.refl e763 f768 (hb hby d18_123) ?_
          intro T769 X769 e769
          refine E.iload (q := 128) X769 hx (hb hby d18_126) rfl ?_
          refine E.iloadN (q := 129) X769 hx (hb hby d18_128) rfl ?_
          have f771 := A_L.other W694 (Ne.symm n_N_Ln)
          have f772 := f771.other W703 (Ne.symm n_N_Ln)
          have f773 := f772.other W712 (Ne.symm n_N_Ln)
          have f774 := f773.other W721 (Ne.symm n_N_Ln)
          have f775 := f774.other W763 (Ne.symm hne)
          refine Ends.ist X769 hx hZ e769 f775 (i := k743) rfl (by rw [List.length_map]; assumption) (hb hby d18_129) ?_
          intro T770 h770 X770 e770 W770 V770
          rw [← List.map_set] at V770
          have O770 := O763.wr W770 (Or.inl (List.mem_of_getElem? (i := 3) rfl))
          show Ends none p e below s _ _ _ T770 (mkF m 130 #[.val (.ref oa), .val (.ref os), .val (.int y), .val (.int (Int32.ofNat u)), .val (.int (Int32.ofNat k743)), .val (.int ch2)] [])
          refine E.aloadN (q := 131) X770 hx (hb hby d18_130) rfl rfl ?_
          refine E.iloadN (q := 132) X770 hx (hb hby d18_131) rfl ?_
          refine E.aloadN (q := 133) X770 hx (hb hby d18_132) rfl rfl ?_
          have f776 := f713.wr W721
          have f777 := f776.wr W763
          have f778 := f777.wr W770
          have f779 := f714.other W721 (Or.inl (Ne.symm n_N_os))
          have f780 := f779.other W763 (Or.inl (Ne.symm n_Sl_os))
          have f781 := f780.other W770 (Or.inl (Ne.symm n_Ln_os))
          have f782 := f715.other W721 (Or.inl (Ne.symm n_N_os))
          have f783 := f782.other W763 (Or.inl (Ne.symm n_Sl_os))
          have f784 := f783.other W770 (Or.inl (Ne.symm n_Ln_os))
          have f785 := f716.other W721 n_Vs_N
          have f786 := f785.other W763 n_Vs_Sl
          have f787 := f786.other W770 n_Vs_Ln
          refine Ends.callV X770 hx hZ hown (hw _ (List.mem_of_getElem? (i := 97) rfl)) (hw _ (List.mem_of_getElem? (i := 98) rfl)) (hw _ (List.mem_of_getElem? (i := 100) rfl)) (hw _ (List.mem_of_getElem? (i := 99) rfl)) (hw _ (List.mem_of_getElem? (i := 40) rfl)) (hw _ (List.mem_of_getElem? (i := 101) rfl)) (by decide) (argsL := []) (rest := [(.int (Int32.ofNat u)), (.ref oa)]) e770 f778 (rm19 l Z a0 hw os Vs [x0, x1, x2] _ f778 f781 f784 f787 cs hcs (own_sta_keep S0 O770.1 (own_ns4 E0 A_N A_S A_L))) (W := 2) (by decide) (by decide) (by rw [hml]; rfl) (lenOf pd_19 rfl) (Nat.le_of_eq rfl) (hb hby d18_133) (by decide) (by decide) rfl ?_
          rintro T788 v788 L788 X788 ⟨rfl, e788, rfl⟩
          rw [List.append_nil] at X788
          show Ends none p e below s _ _ _ T788 (mkF m 136 #[.val (.ref oa), .val (.ref os), .val (.int y), .val (.int (Int32.ofNat u)), .val (.int (Int32.ofNat k743)), .val (.int ch2)] [(.int (3 : Int32)), (.int (Int32.ofNat u)), (.ref oa)])
          refine E.iadd (q := 137) X788 hx (hb hby d18_136) ?_
          refine E.iconst (q := 138) (v := (1 : Int32)) X788 hx (hb hby d18_137) rfl ?_
          refine E.iadd (q := 139) X788 hx (hb hby d18_138) ?_
          rw [show (Int32.ofNat u + (3 : Int32)) + (1 : Int32) = Int32.ofNat (u + 3 + 1) from own_used]
          show Ends none p e below s _ _ _ T788 (mkF m 139 #[.val (.ref oa), .val (.ref os), .val (.int y), .val (.int (Int32.ofNat u)), .val (.int (Int32.ofNat k743)), .val (.int ch2)] [(.int (Int32.ofNat (u + 3 + 1))), (.ref oa)])
          have f789 := F_used.other W694 (Or.inl (Ne.symm n_N_oa))
          have f790 := f789.other W703 (Or.inl (Ne.symm n_N_oa))
          have f791 := f790.other W712 (Or.inl (Ne.symm n_N_oa))
          have f792 := f791.other W721 (Or.inl (Ne.symm n_N_oa))
          have f793 := f792.other W763 (Or.inl (Ne.symm n_Sl_oa))
          have f794 := f793.other W770 (Or.inl (Ne.symm n_Ln_oa))
          have f795 := f725.wr W763
          have f796 := f795.wr W770
          refine Ends.putF X788 hx hZ hown (host := "") (Or.inl (hw _ (List.mem_of_getElem? (i := 95) rfl))) Via.refl e788 f794 f796 (Or.inl (hw _ (List.mem_of_getElem? (i := 96) rfl))) (hw _ (List.mem_of_getElem? (i := 1) rfl)) (ty := .int) (by decide) rfl rfl (hb hby d18_139) ?_
          intro T797 h797 X797 e797 W797 Fw797
          have O797 := O770.wr W797 (Or.inl (List.mem_of_getElem? (i := 0) rfl))
          refine E.aloadN (q := 143) X797 hx (hb hby d18_142) rfl rfl ?_
          refine E.dup (q := 144) X797 hx (hb hby d18_143) rfl ?_
          have f798 := F_count.other W694 (Or.inl (Ne.symm n_N_oa))
          have f799 := f798.other W703 (Or.inl (Ne.symm n_N_oa))
          have f800 := f799.other W712 (Or.inl (Ne.symm n_N_oa))
          have f801 := f800.other W721 (Or.inl (Ne.symm n_N_oa))
          have f802 := f801.other W763 (Or.inl (Ne.symm n_Sl_oa))
          have f803 := f802.other W770 (Or.inl (Ne.symm n_Ln_oa))
          have f804 := f803.other W797 (Or.inr (slot_ne (Or.inl (hw _ (List.mem_of_getElem? (i := 30) rfl))) (Or.inl (hw _ (List.mem_of_getElem? (i := 96) rfl))) (by decide) (t := .int) (t' := .int) (by decide) (by decide)))
          refine Ends.getF X797 hx hZ hown (host := "") (Or.inl (hw _ (List.mem_of_getElem? (i := 29) rfl))) Via.refl e797 f804 (hb hby d18_144) ?_
          intro T805 X805 e805
          refine E.iconst (q := 148) (v := (1 : Int32)) X805 hx (hb hby d18_147) rfl ?_
          refine E.iadd (q := 149) X805 hx (hb hby d18_148) ?_
          rw [own_succ cn]
          show Ends none p e below s _ _ _ T805 (mkF m 149 #[.val (.ref oa), .val (.ref os), .val (.int y), .val (.int (Int32.ofNat u)), .val (.int (Int32.ofNat k743)), .val (.int ch2)] [(.int (Int32.ofNat (cn + 1))), (.ref oa)])
          have f806 := f796.wr W797
          refine Ends.putF X805 hx hZ hown (host := "") (Or.inl (hw _ (List.mem_of_getElem? (i := 29) rfl))) Via.refl e805 f804 f806 (Or.inl (hw _ (List.mem_of_getElem? (i := 30) rfl))) (hw _ (List.mem_of_getElem? (i := 1) rfl)) (ty := .int) (by decide) rfl rfl (hb hby d18_149) ?_
          intro T807 h807 X807 e807 W807 Fw807
          have O807 := O797.wr W807 (Or.inl (List.mem_of_getElem? (i := 0) rfl))
          refine E.aloadN (q := 153) X807 hx (hb hby d18_152) rfl rfl ?_
          refine Ends.getF X807 hx hZ hown (host := "") (Or.inl (hw _ (List.mem_of_getElem? (i := 29) rfl))) Via.refl e807 Fw807 (hb hby d18_153) ?_
          intro T808 X808 e808
          refine E.i2d (q := 157) X808 hx (hb hby d18_156) ?_
          refine E.aloadN (q := 158) X808 hx (hb hby d18_157) rfl rfl ?_
          have f809 := f730.other W763 (Or.inl (Ne.symm n_Sl_oa))
          have f810 := f809.other W770 (Or.inl (Ne.symm n_Ln_oa))
          have f811 := f810.other W797 (Or.inr (slot_ne (Or.inl (hw _ (List.mem_of_getElem? (i := 21) rfl))) (Or.inl (hw _ (List.mem_of_getElem? (i := 96) rfl))) (by decide) (t := (.array .int)) (t' := .int) (by decide) (by decide)))
          have f812 := f811.other W807 (Or.inr (slot_ne (Or.inl (hw _ (List.mem_of_getElem? (i := 21) rfl))) (Or.inl (hw _ (List.mem_of_getElem? (i := 30) rfl))) (by decide) (t := (.array .int)) (t' := .int) (by decide) (by decide)))
          refine Ends.getF X808 hx hZ hown (host := "") (Or.inl (hw _ (List.mem_of_getElem? (i := 20) rfl))) Via.refl e808 f812 (hb hby d18_158) ?_
          intro T813 X813 e813
          have f814 := V763.other W770 hne
          have f815 := f814.other W797 n_Sl_oa
          have f816 := f815.other W807 n_Sl_oa
          refine Ends.alen X813 hx hZ e813 f816 (hb hby d18_161) (n := (16 : Int32)) (by rw [List.length_map, List.length_set]; rw [hl2]; rfl) ?_
          refine E.i2d (q := 163) X813 hx (hb hby d18_162) ?_
          refine E.ldc2D (q := 166) X813 hx hZ hown (hw _ (List.mem_of_getElem? (i := 144) rfl)) (hb hby d18_163) ?_
          refine E.dmul (q := 167) X813 hx (hb hby d18_166) own_nn ?_
          show Ends none p e below s _ _ _ T813 (mkF m 167 #[.val (.ref oa), .val (.ref os), .val (.int y), .val (.int (Int32.ofNat u)), .val (.int (Int32.ofNat k743)), .val (.int ch2)] [(.double (FP.dmul (FP.i2d (16 : Int32)) (4604930618986332160 : UInt64))), (.double (FP.i2d (Int32.ofNat (cn + 1))))])
          refine E.dcmp (q := 168) X813 hx (hb hby d18_167) ?_
          refine E.ifY (q := 175) X813 hx (hb hby d18_168) (XT.i0_le_t (own_fpc hc)) ?_
          refine E.iconst (q := 176) (v := (0 : Int32)) X813 hx (hb hby d18_175) rfl ?_
          have f817 := f726.other W763 (Or.inl (Ne.symm n_Sl_oa))
          have f818 := f817.other W770 (Or.inl (Ne.symm n_Ln_oa))
          have f819 := f818.other W797 (Or.inr (slot_ne (Or.inl (hw _ (List.mem_of_getElem? (i := 11) rfl))) (Or.inl (hw _ (List.mem_of_getElem? (i := 96) rfl))) (by decide) (t := (.array .byte)) (t' := .int) (by decide) (by decide)))
          have f820 := f819.other W807 (Or.inr (slot_ne (Or.inl (hw _ (List.mem_of_getElem? (i := 11) rfl))) (Or.inl (hw _ (List.mem_of_getElem? (i := 30) rfl))) (by decide) (t := (.array .byte)) (t' := .int) (by decide) (by decide)))
          have f821 := f768.other W770 (Or.inl (Ne.symm n_Ln_oa))
          have f822 := f821.other W797 (Or.inr (slot_ne (Or.inl (hw _ (List.mem_of_getElem? (i := 23) rfl))) (Or.inl (hw _ (List.mem_of_getElem? (i := 96) rfl))) (by decide) (t := (.array .int)) (t' := .int) (by decide) (by decide)))
          have f823 := f822.other W807 (Or.inr (slot_ne (Or.inl (hw _ (List.mem_of_getElem? (i := 23) rfl))) (Or.inl (hw _ (List.mem_of_getElem? (i := 30) rfl))) (by decide) (t := (.array .int)) (t' := .int) (by decide) (by decide)))
          have f824 := Fw797.other W807 (Or.inr (slot_ne (Or.inl (hw _ (List.mem_of_getElem? (i := 96) rfl))) (Or.inl (hw _ (List.mem_of_getElem? (i := 30) rfl))) (by decide) (t := .int) (t' := .int) (by decide) (by decide)))
          have f825 := f734.other W763 (Or.inl (Ne.symm n_Sl_oa))
          have f826 := f825.other W770 (Or.inl (Ne.symm n_Ln_oa))
          have f827 := f826.other W797 (Or.inr (slot_ne (Or.inl (hw _ (List.mem_of_getElem? (i := 121) rfl))) (Or.inl (hw _ (List.mem_of_getElem? (i := 96) rfl))) (by decide) (t := .long) (t' := .int) (by decide) (by decide)))
          have f828 := f827.other W807 (Or.inr (slot_ne (Or.inl (hw _ (List.mem_of_getElem? (i := 121) rfl))) (Or.inl (hw _ (List.mem_of_getElem? (i := 30) rfl))) (by decide) (t := .long) (t' := .int) (by decide) (by decide)))
          have f829 := f738.other W763 (Or.inl (Ne.symm n_Sl_oa))
          have f830 := f829.other W770 (Or.inl (Ne.symm n_Ln_oa))
          have f831 := f830.other W797 (Or.inr (slot_ne (Or.inl (hw _ (List.mem_of_getElem? (i := 123) rfl))) (Or.inl (hw _ (List.mem_of_getElem? (i := 96) rfl))) (by decide) (t := .long) (t' := .int) (by decide) (by decide)))
          have f832 := f831.other W807 (Or.inr (slot_ne (Or.inl (hw _ (List.mem_of_getElem? (i := 123) rfl))) (Or.inl (hw _ (List.mem_of_getElem? (i := 30) rfl))) (by decide) (t := .long) (t' := .int) (by decide) (by decide)))
          have f833 := V721.other W763 n_N_Sl
          have f834 := f833.other W770 n_N_Ln
          have f835 := f834.other W797 n_N_oa
          have f836 := f835.other W807 n_N_oa
          have f837 := V770.other W797 n_Ln_oa
          have f838 := f837.other W807 n_Ln_oa
          have hq' : ss[k743]? = some (-1) := by rw [List.getElem?_eq_getElem hi2, hq]
          subst e813
          exact Ends.retI X813 hx hlk hret (hb hby d18_176) (by decide) (by decide) ⟨_, _, _, _, _, _, rfl, O807, f820, f812, f823, Fw807, f824, f828, f832, f836, f816, f838, own_SNa H721 y (by decide) h58 hq', Nat.le_add_left 1 cn, Nat.le_refl _⟩
        · refine E.icmpN (q := 106) X744 hx (hb hby d18_103) (XT.ii_eq_f hq) ?_
          refine E.aloadN (q := 107) X744 hx (hb hby d18_106) rfl rfl ?_
          have f745 := F_lines.other W694 (Or.inl (Ne.symm n_N_oa))
          have f746 := f745.other W703 (Or.inl (Ne.symm n_N_oa))
          have f747 := f746.other W712 (Or.inl (Ne.symm n_N_oa))
          have f748 := f747.other W721 (Or.inl (Ne.symm n_N_oa))
          refine Ends.getF X744 hx hZ hown (host := "") (Or.inl (hw _ (List.mem_of_getElem? (i := 22) rfl))) Via.refl e744 f748 (hb hby d18_107) ?_
          intro T749 X749 e749
          refine E.iload (q := 112) X749 hx (hb hby d18_110) rfl ?_
          have f750 := A_L.other W694 (Ne.symm n_N_Ln)
          have f751 := f750.other W703 (Ne.symm n_N_Ln)
          have f752 := f751.other W712 (Ne.symm n_N_Ln)
          have f753 := f752.other W721 (Ne.symm n_N_Ln)
          refine Ends.ild X749 hx hZ e749 f753 (i := k743) (v := .int (ls[k743]'hi3)) rfl (by rw [List.getElem?_map, List.getElem?_eq_getElem hi3]; rfl) (hb hby d18_112) ?_
          show Ends none p e below s _ _ _ T749 (mkF m 113 #[.val (.ref oa), .val (.ref os), .val (.int y), .val (.int (Int32.ofNat u)), .val (.int (Int32.ofNat k743)), .val (.int ch2)] [(.int (ls[k743]'hi3))])
          have f754 := F_count.other W694 (Or.inl (Ne.symm n_N_oa))
          have f755 := f754.other W703 (Or.inl (Ne.symm n_N_oa))
          have f756 := f755.other W712 (Or.inl (Ne.symm n_N_oa))
          have f757 := f756.other W721 (Or.inl (Ne.symm n_N_oa))
          have f758 := F_used.other W694 (Or.inl (Ne.symm n_N_oa))
          have f759 := f758.other W703 (Or.inl (Ne.symm n_N_oa))
          have f760 := f759.other W712 (Or.inl (Ne.symm n_N_oa))
          have f761 := f760.other W721 (Or.inl (Ne.symm n_N_oa))
          subst e749
          exact Ends.retI X749 hx hlk hret (hb hby d18_113) (by decide) (by decide) ⟨_, _, _, _, _, _, rfl, O721, f726, f730, f748, f757, f761, f734, f738, V721, f742, f753, H721, own_SNe H721 (List.getElem_mem hi2) hq, Nat.le_succ cn⟩
      by_cases hq : ch2 < (65 : Int32)
      · refine E.icmpY (q := 65) X711 hx (hb hby d18_47) (XT.ii_lt_t hq) ?_
        refine E.iload (q := 67) X711 hx (hb hby d18_65) rfl ?_
        exact Jc2 _
      · refine E.icmpN (q := 50) X711 hx (hb hby d18_47) (XT.ii_lt_f hq) ?_
        refine E.iload (q := 52) X711 hx (hb hby d18_50) rfl ?_
        refine E.bipush (q := 54) (v := (90 : Int32)) X711 hx (hb hby d18_52) rfl ?_
        by_cases hq2 : (90 : Int32) < ch2
        · refine E.icmpY (q := 65) X711 hx (hb hby d18_54) (XT.ii_gt_t hq2) ?_
          refine E.iload (q := 67) X711 hx (hb hby d18_65) rfl ?_
          exact Jc2 _
        · refine E.icmpN (q := 57) X711 hx (hb hby d18_54) (XT.ii_gt_f hq2) ?_
          refine E.iload (q := 59) X711 hx (hb hby d18_57) rfl ?_
          refine E.bipush (q := 61) (v := (32 : Int32)) X711 hx (hb hby d18_59) rfl ?_
          refine E.iadd (q := 62) X711 hx (hb hby d18_61) ?_
          refine E.goto (q := 67) X711 hx (hb hby d18_62) ?_
          exact Jc2 _
    by_cases hq : ch1 < (65 : Int32)
    · refine E.icmpY (q := 65) X702 hx (hb hby d18_47) (XT.ii_lt_t hq) ?_
      refine E.iload (q := 67) X702 hx (hb hby d18_65) rfl ?_
      exact Jc1 _
    · refine E.icmpN (q := 50) X702 hx (hb hby d18_47) (XT.ii_lt_f hq) ?_
      refine E.iload (q := 52) X702 hx (hb hby d18_50) rfl ?_
      refine E.bipush (q := 54) (v := (90 : Int32)) X702 hx (hb hby d18_52) rfl ?_
      by_cases hq2 : (90 : Int32) < ch1
      · refine E.icmpY (q := 65) X702 hx (hb hby d18_54) (XT.ii_gt_t hq2) ?_
        refine E.iload (q := 67) X702 hx (hb hby d18_65) rfl ?_
        exact Jc1 _
      · refine E.icmpN (q := 57) X702 hx (hb hby d18_54) (XT.ii_gt_f hq2) ?_
        refine E.iload (q := 59) X702 hx (hb hby d18_57) rfl ?_
        refine E.bipush (q := 61) (v := (32 : Int32)) X702 hx (hb hby d18_59) rfl ?_
        refine E.iadd (q := 62) X702 hx (hb hby d18_61) ?_
        refine E.goto (q := 67) X702 hx (hb hby d18_62) ?_
        exact Jc1 _
  by_cases hq : ch0 < (65 : Int32)
  · refine E.icmpY (q := 65) X693 hx (hb hby d18_47) (XT.ii_lt_t hq) ?_
    refine E.iload (q := 67) X693 hx (hb hby d18_65) rfl ?_
    exact Jc0 _
  · refine E.icmpN (q := 50) X693 hx (hb hby d18_47) (XT.ii_lt_f hq) ?_
    refine E.iload (q := 52) X693 hx (hb hby d18_50) rfl ?_
    refine E.bipush (q := 54) (v := (90 : Int32)) X693 hx (hb hby d18_52) rfl ?_
    by_cases hq2 : (90 : Int32) < ch0
    · refine E.icmpY (q := 65) X693 hx (hb hby d18_54) (XT.ii_gt_t hq2) ?_
      refine E.iload (q := 67) X693 hx (hb hby d18_65) rfl ?_
      exact Jc0 _
    · refine E.icmpN (q := 57) X693 hx (hb hby d18_54) (XT.ii_gt_f hq2) ?_
      refine E.iload (q := 59) X693 hx (hb hby d18_57) rfl ?_
      refine E.bipush (q := 61) (v := (32 : Int32)) X693 hx (hb hby d18_59) rfl ?_
      refine E.iadd (q := 62) X693 hx (hb hby d18_61) ?_
      refine E.goto (q := 67) X693 hx (hb hby d18_62) ?_
      exact Jc0 _
theorem own_add (l : Launch) (Z : State) (a0 : Array Value) (hw : ∀ d ∈ tables_1, d.before a0 Z = true) (oa os : Addr) (y : Int32) (N Sl Ln Vs : Addr) (k0 k1 : Int64) (bs ss ls : List Int32) (u cn : Nat) (hSN : SNs bs ss ls u cn) (hc : cn ≤ 2) (hne : Sl ≠ Ln) (xs : List Int32) (hxs : xs.length ≤ 3) (h0 : Heap) (E0 : Exa Z h0 oa "com/example/optpack/optpack/service/SectionNames") (F_names : Fld Z h0 oa "com/example/optpack/optpack/service/SectionNames" "names" "[B" (.ref N)) (F_slots : Fld Z h0 oa "com/example/optpack/optpack/service/SectionNames" "slots" "[I" (.ref Sl)) (F_lines : Fld Z h0 oa "com/example/optpack/optpack/service/SectionNames" "lines" "[I" (.ref Ln)) (F_count : Fld Z h0 oa "com/example/optpack/optpack/service/SectionNames" "count" "I" (.int (Int32.ofNat cn))) (F_used : Fld Z h0 oa "com/example/optpack/optpack/service/SectionNames" "used" "I" (.int (Int32.ofNat u))) (F_key0 : Fld Z h0 oa "com/example/optpack/optpack/service/SectionNames" "key0" "J" (.long k0)) (F_key1 : Fld Z h0 oa "com/example/optpack/optpack/service/SectionNames" "key1" "J" (.long k1)) (A_N : Ary Z h0 N .byte (bs.map Value.int)) (A_S : Ary Z h0 Sl .int (ss.map Value.int)) (A_L : Ary Z h0 Ln .int (ls.map Value.int)) (Es : Exa Z h0 os "java/lang/String") (Svs : Fld Z h0 os "java/lang/String" "value" "[B" (.ref Vs)) (Scs : Fld Z h0 os "java/lang/String" "coder" "B" (.int (0 : Int32))) (A_x : Ary Z h0 Vs .byte (xs.map Value.int)) (cs : Int32) (hcs : ¬ cs = (0 : Int32)) (S0 : Sta Z h0 "java/lang/String" "COMPACT_STRINGS" "Z" (.int cs)) (fv : Value) (hfv : fv = .null ∨ ∃ a, fv = .ref a) (S1 : Sta Z h0 "jdk/internal/util/Preconditions" "SIOOBE_FORMATTER" "Ljava/util/function/BiFunction;" fv) : Con l (⟨"com/example/optpack/optpack/service/SectionNames", "add", "(Ljava/lang/String;I)I"⟩ : MethodName) prog_73_method_2_code 6 (some .int) [] ({ frames := 5, cells := 0, slots := 0, locals := 150 } : Room) #[.ref oa, .ref os, .int y] Z h0 (fun v h L => ∃ (r : Int32) (bs' ss' ls' : List Int32) (u' c' : Nat), v = some (.int r) ∧ Ok h0 h [oa, N, Sl, Ln] L ∧ Fld Z h oa "com/example/optpack/optpack/service/SectionNames" "names" "[B" (.ref N) ∧ Fld Z h oa "com/example/optpack/optpack/service/SectionNames" "slots" "[I" (.ref Sl) ∧ Fld Z h oa "com/example/optpack/optpack/service/SectionNames" "lines" "[I" (.ref Ln) ∧ Fld Z h oa "com/example/optpack/optpack/service/SectionNames" "count" "I" (.int (Int32.ofNat c')) ∧ Fld Z h oa "com/example/optpack/optpack/service/SectionNames" "used" "I" (.int (Int32.ofNat u')) ∧ Fld Z h oa "com/example/optpack/optpack/service/SectionNames" "key0" "J" (.long k0) ∧ Fld Z h oa "com/example/optpack/optpack/service/SectionNames" "key1" "J" (.long k1) ∧ Ary Z h N .byte (bs'.map Value.int) ∧ Ary Z h Sl .int (ss'.map Value.int) ∧ Ary Z h Ln .int (ls'.map Value.int) ∧ SNs bs' ss' ls' u' c' ∧ 1 ≤ c' ∧ c' ≤ cn + 1) := by
  rcases xs with _ | ⟨x0, _ | ⟨x1, _ | ⟨x2, _ | ⟨x3, t⟩⟩⟩⟩
  · exact rmAdd_0 l Z a0 hw oa os y N Sl Ln Vs k0 k1 bs ss ls u cn hSN hc hne h0 E0 F_names F_slots F_lines F_count F_used F_key0 F_key1 A_N A_S A_L Es Svs Scs A_x cs hcs S0 fv hfv S1
  · exact rmAdd_1 l Z a0 hw oa os y N Sl Ln Vs k0 k1 bs ss ls u cn hSN hc hne x0 h0 E0 F_names F_slots F_lines F_count F_used F_key0 F_key1 A_N A_S A_L Es Svs Scs A_x cs hcs S0 fv hfv S1
  · exact rmAdd_2 l Z a0 hw oa os y N Sl Ln Vs k0 k1 bs ss ls u cn hSN hc hne x0 x1 h0 E0 F_names F_slots F_lines F_count F_used F_key0 F_key1 A_N A_S A_L Es Svs Scs A_x cs hcs S0 fv hfv S1
  · exact rmAdd_3 l Z a0 hw oa os y N Sl Ln Vs k0 k1 bs ss ls u cn hSN hc hne x0 x1 x2 h0 E0 F_names F_slots F_lines F_count F_used F_key0 F_key1 A_N A_S A_L Es Svs Scs A_x cs hcs S0 fv hfv S1
  · exact absurd hxs (by simp)
theorem ef_0 (m : MethodId) (x0 : Int32) (x1 : Int32) (x2 : Int32) (x3 : Int32) : entryFrame m #[(.int x0), (.int x1), (.int x2), (.int x3)] maxLocals = mkF m 0 #[.val (.int x0), .val (.int x1), .val (.int x2), .val (.int x3), .unset, .unset, .unset] [] := by first | (simp [entryFrame, mkF, argsToLocals, Value.category, maxLocals]; done) | rfl
set_option maxRecDepth 65536 in
set_option maxHeartbeats 40000000 in
theorem rm0 (l : Launch) (Z : State) (a0 : Array Value) (hw : ∀ d ∈ tables_1, d.before a0 Z = true) (nn : Int32) (p1 : Int32) (p2 : Int32) (p3 : Int32) (h0 : Heap) (cs : Int32) (hcs : ¬ cs = (0 : Int32)) (S0 : Sta Z h0 "java/lang/String" "COMPACT_STRINGS" "Z" (.int cs)) (fv : Value) (hfv : fv = .null ∨ ∃ a, fv = .ref a) (S1 : Sta Z h0 "jdk/internal/util/Preconditions" "SIOOBE_FORMATTER" "Ljava/util/function/BiFunction;" fv) :
    ConH l x code maxLocals ret tables_1 room_1 #[(.int nn), (.int p1), (.int p2), (.int p3)] Z h0 own_EL (fun v h L => v = some (.int 1) ∧ Fr h0.size L) := by
  refine ConH.of (plainFor_of_name pn_3) ?_
  intro p e s m below meth c s₁ vm0 HC0 hx hZ hby hml hown hnm hret hlk X0 e0
  refine Ends.cast (ef_0 m nn p1 p2 p3) ?_
  show Ends (some (CHr Z own_EL vm0 h0)) p e below s _ _ _ s₁ (mkF m 0 #[.val (.int nn), .val (.int p1), .val (.int p2), .val (.int p3), .unset, .unset, .unset] [])
  have O0 := Ok.refl h0 []
  refine E.iloadN (q := 1) X0 hx (hb hby at_0) rfl ?_
  refine E.iconst (q := 2) (v := (3 : Int32)) X0 hx (hb hby at_1) rfl ?_
  refine E.iand (q := 3) X0 hx (hb hby at_2) ?_
  rcases own_and3 nn with hp | hp | hp | hp
  · rw [hp]
    show Ends (some (CHr Z own_EL vm0 h0)) p e below s _ _ _ s₁ (mkF m 3 #[.val (.int nn), .val (.int p1), .val (.int p2), .val (.int p3), .unset, .unset, .unset] [(.int (0 : Int32))])
    refine E.istore (q := 5) (l' := #[.val (.int nn), .val (.int p1), .val (.int p2), .val (.int p3), .val (.int (0 : Int32)), .unset, .unset]) X0 hx (hb hby at_3) rfl ?_
    refine Ends.newC X0 hx hZ hown (hw _ (List.mem_of_getElem? (i := 0) rfl)) (hw _ (List.mem_of_getElem? (i := 1) rfl)) (hw _ (List.mem_of_getElem? (i := 2) rfl)) e0 (hb hby at_5) (by decide) (by decide) ?_
    intro T839 h839 b839 g839 X839 e839 E839 A839 D839
    have ge_b839 : h0.size ≤ b839 := Nat.le_trans O0.le (Nat.le_of_eq g839.symm)
    have O839 := O0.ext E839
    have HC840 := HC0.trans (CHr.ext E839 HC0.1)
    have F839_names : Fld Z h839 b839 "com/example/optpack/optpack/service/SectionNames" "names" "[B" .null := D839 (Or.inl (hw _ (List.mem_of_getElem? (i := 11) rfl))) (ty := (.array .byte)) (by decide)
    have F839_slots : Fld Z h839 b839 "com/example/optpack/optpack/service/SectionNames" "slots" "[I" .null := D839 (Or.inl (hw _ (List.mem_of_getElem? (i := 21) rfl))) (ty := (.array .int)) (by decide)
    have F839_lines : Fld Z h839 b839 "com/example/optpack/optpack/service/SectionNames" "lines" "[I" .null := D839 (Or.inl (hw _ (List.mem_of_getElem? (i := 23) rfl))) (ty := (.array .int)) (by decide)
    have F839_count : Fld Z h839 b839 "com/example/optpack/optpack/service/SectionNames" "count" "I" (.int (0 : Int32)) := D839 (Or.inl (hw _ (List.mem_of_getElem? (i := 30) rfl))) (ty := .int) (by decide)
    have F839_used : Fld Z h839 b839 "com/example/optpack/optpack/service/SectionNames" "used" "I" (.int (0 : Int32)) := D839 (Or.inl (hw _ (List.mem_of_getElem? (i := 96) rfl))) (ty := .int) (by decide)
    have F839_key0 : Fld Z h839 b839 "com/example/optpack/optpack/service/SectionNames" "key0" "J" (.long (0 : Int64)) := D839 (Or.inl (hw _ (List.mem_of_getElem? (i := 121) rfl))) (ty := .long) (by decide)
    have F839_key1 : Fld Z h839 b839 "com/example/optpack/optpack/service/SectionNames" "key1" "J" (.long (0 : Int64)) := D839 (Or.inl (hw _ (List.mem_of_getElem? (i := 123) rfl))) (ty := .long) (by decide)
    refine E.dup (q := 9) X839 hx (hb hby at_8) rfl ?_
    refine Ends.callI X839 hx hZ hown (hw _ (List.mem_of_getElem? (i := 3) rfl)) (hw _ (List.mem_of_getElem? (i := 4) rfl)) (hw _ (List.mem_of_getElem? (i := 2) rfl)) (hw _ (List.mem_of_getElem? (i := 5) rfl)) rfl (by decide) (argsL := []) (rest := [(.ref b839)]) e839 (rm1 l Z a0 hw b839 _ A839 F839_names F839_slots F839_lines F839_count F839_used F839_key0 F839_key1) (W := 1) (by decide) (by decide) (by rw [hml]; rfl) (lenOf pd_21 rfl) (Nat.le_of_eq rfl) (hb hby at_9) (by decide) (by decide) rfl ?_
    rintro T841 v841 L841 X841 ⟨rfl, N841, Sl841, Ln841, gN841, gS841, gL841, nSL841, hO841, Fnames841, Fslots841, Flines841, Fcount841, Fused841, Fkey0841, Fkey1841, AN841, AS841, AL841⟩
    have e841 : T841.heap = T841.heap := rfl
    have O841 := O839.call hO841 (allS (Or.inr ge_b839) all0)
    have HC842 := HC840.trans (CHr.keep hO841.1 (own_all1 (Safe.exa hZ.alike A839 (by decide) (by decide))) HC840.1)
    show Ends (some (CHr Z own_EL vm0 h0)) p e below s _ _ _ T841 (mkF m 12 #[.val (.int nn), .val (.int p1), .val (.int p2), .val (.int p3), .val (.int (0 : Int32)), .unset, .unset] [(.ref b839)])
    have ge_N841 : h0.size ≤ N841 := Nat.le_trans O839.le gN841
    have ge_Sl841 : h0.size ≤ Sl841 := Nat.le_trans O839.le gS841
    have ge_Ln841 : h0.size ≤ Ln841 := Nat.le_trans O839.le gL841
    have ZN841 := Safe.keep hO841.1 (own_all1 (Safe.exa hZ.alike A839 (by decide) (by decide))) HC840.1 (Safe.new gN841)
    refine E.astore (q := 14) (l' := #[.val (.int nn), .val (.int p1), .val (.int p2), .val (.int p3), .val (.int (0 : Int32)), .val (.ref b839), .unset]) X841 hx (hb hby at_12) rfl rfl ?_
    refine E.aload (q := 16) X841 hx (hb hby at_14) rfl rfl ?_
    have f843 := A839.keep hO841.1
    refine Ends.callV X841 hx hZ hown (hw _ (List.mem_of_getElem? (i := 24) rfl)) (hw _ (List.mem_of_getElem? (i := 25) rfl)) (hw _ (List.mem_of_getElem? (i := 27) rfl)) (hw _ (List.mem_of_getElem? (i := 26) rfl)) (hw _ (List.mem_of_getElem? (i := 2) rfl)) (hw _ (List.mem_of_getElem? (i := 28) rfl)) (by decide) (argsL := []) (rest := []) e841 f843 (rmE0 l Z a0 hw b839 (0 : Int32) _ rfl Fcount841) (W := 0) (by decide) (by decide) (by rw [hml]; rfl) (lenOf pd_3 rfl) (Nat.le_of_eq rfl) (hb hby at_16) (by decide) (by decide) rfl ?_
    rintro T844 v844 L844 X844 ⟨rfl, e844, rfl⟩
    rw [List.append_nil] at X844
    show Ends (some (CHr Z own_EL vm0 h0)) p e below s _ _ _ T844 (mkF m 19 #[.val (.int nn), .val (.int p1), .val (.int p2), .val (.int p3), .val (.int (0 : Int32)), .val (.ref b839), .unset] [(.int (1 : Int32))])
    refine E.istore (q := 21) (l' := #[.val (.int nn), .val (.int p1), .val (.int p2), .val (.int p3), .val (.int (0 : Int32)), .val (.ref b839), .val (.int (1 : Int32))]) X844 hx (hb hby at_19) rfl ?_
    refine E.iload (q := 23) X844 hx (hb hby at_21) rfl ?_
    refine E.ifY (q := 57) X844 hx (hb hby at_23) (XT.i0_le_t (by decide)) ?_
    refine E.iload (q := 59) X844 hx (hb hby at_57) rfl ?_
    refine E.iconst (q := 60) (v := (1 : Int32)) X844 hx (hb hby at_59) rfl ?_
    refine E.icmpY (q := 94) X844 hx (hb hby at_60) (XT.ii_le_t (by decide)) ?_
    refine E.iload (q := 96) X844 hx (hb hby at_94) rfl ?_
    refine E.iconst (q := 97) (v := (2 : Int32)) X844 hx (hb hby at_96) rfl ?_
    refine E.icmpY (q := 131) X844 hx (hb hby at_97) (XT.ii_le_t (by decide)) ?_
    refine E.iload (q := 133) X844 hx (hb hby at_131) rfl ?_
    exact Ends.retS X844 hx hlk hret (by simp) rfl (hb hby at_133) (by decide) (by decide) ⟨⟨rfl, (O841).fr⟩, by first | exact (Nat.zero_le _) | (rw [e844]; exact (Nat.zero_le _))⟩ (hF := own_chret X844 hZ (own_EW hw) HC842 (by first | rfl | assumption))
  · rw [hp]
    show Ends (some (CHr Z own_EL vm0 h0)) p e below s _ _ _ s₁ (mkF m 3 #[.val (.int nn), .val (.int p1), .val (.int p2), .val (.int p3), .unset, .unset, .unset] [(.int (1 : Int32))])
    refine E.istore (q := 5) (l' := #[.val (.int nn), .val (.int p1), .val (.int p2), .val (.int p3), .val (.int (1 : Int32)), .unset, .unset]) X0 hx (hb hby at_3) rfl ?_
    refine Ends.newC X0 hx hZ hown (hw _ (List.mem_of_getElem? (i := 0) rfl)) (hw _ (List.mem_of_getElem? (i := 1) rfl)) (hw _ (List.mem_of_getElem? (i := 2) rfl)) e0 (hb hby at_5) (by decide) (by decide) ?_
    intro T845 h845 b845 g845 X845 e845 E845 A845 D845
    have ge_b845 : h0.size ≤ b845 := Nat.le_trans O0.le (Nat.le_of_eq g845.symm)
    have O845 := O0.ext E845
    have HC846 := HC0.trans (CHr.ext E845 HC0.1)
    have F845_names : Fld Z h845 b845 "com/example/optpack/optpack/service/SectionNames" "names" "[B" .null := D845 (Or.inl (hw _ (List.mem_of_getElem? (i := 11) rfl))) (ty := (.array .byte)) (by decide)
    have F845_slots : Fld Z h845 b845 "com/example/optpack/optpack/service/SectionNames" "slots" "[I" .null := D845 (Or.inl (hw _ (List.mem_of_getElem? (i := 21) rfl))) (ty := (.array .int)) (by decide)
    have F845_lines : Fld Z h845 b845 "com/example/optpack/optpack/service/SectionNames" "lines" "[I" .null := D845 (Or.inl (hw _ (List.mem_of_getElem? (i := 23) rfl))) (ty := (.array .int)) (by decide)
    have F845_count : Fld Z h845 b845 "com/example/optpack/optpack/service/SectionNames" "count" "I" (.int (0 : Int32)) := D845 (Or.inl (hw _ (List.mem_of_getElem? (i := 30) rfl))) (ty := .int) (by decide)
    have F845_used : Fld Z h845 b845 "com/example/optpack/optpack/service/SectionNames" "used" "I" (.int (0 : Int32)) := D845 (Or.inl (hw _ (List.mem_of_getElem? (i := 96) rfl))) (ty := .int) (by decide)
    have F845_key0 : Fld Z h845 b845 "com/example/optpack/optpack/service/SectionNames" "key0" "J" (.long (0 : Int64)) := D845 (Or.inl (hw _ (List.mem_of_getElem? (i := 121) rfl))) (ty := .long) (by decide)
    have F845_key1 : Fld Z h845 b845 "com/example/optpack/optpack/service/SectionNames" "key1" "J" (.long (0 : Int64)) := D845 (Or.inl (hw _ (List.mem_of_getElem? (i := 123) rfl))) (ty := .long) (by decide)
    refine E.dup (q := 9) X845 hx (hb hby at_8) rfl ?_
    refine Ends.callI X845 hx hZ hown (hw _ (List.mem_of_getElem? (i := 3) rfl)) (hw _ (List.mem_of_getElem? (i := 4) rfl)) (hw _ (List.mem_of_getElem? (i := 2) rfl)) (hw _ (List.mem_of_getElem? (i := 5) rfl)) rfl (by decide) (argsL := []) (rest := [(.ref b845)]) e845 (rm1 l Z a0 hw b845 _ A845 F845_names F845_slots F845_lines F845_count F845_used F845_key0 F845_key1) (W := 1) (by decide) (by decide) (by rw [hml]; rfl) (lenOf pd_21 rfl) (Nat.le_of_eq rfl) (hb hby at_9) (by decide) (by decide) rfl ?_
    rintro T847 v847 L847 X847 ⟨rfl, N847, Sl847, Ln847, gN847, gS847, gL847, nSL847, hO847, Fnames847, Fslots847, Flines847, Fcount847, Fused847, Fkey0847, Fkey1847, AN847, AS847, AL847⟩
    have e847 : T847.heap = T847.heap := rfl
    have O847 := O845.call hO847 (allS (Or.inr ge_b845) all0)
    have HC848 := HC846.trans (CHr.keep hO847.1 (own_all1 (Safe.exa hZ.alike A845 (by decide) (by decide))) HC846.1)
    show Ends (some (CHr Z own_EL vm0 h0)) p e below s _ _ _ T847 (mkF m 12 #[.val (.int nn), .val (.int p1), .val (.int p2), .val (.int p3), .val (.int (1 : Int32)), .unset, .unset] [(.ref b845)])
    have ge_N847 : h0.size ≤ N847 := Nat.le_trans O845.le gN847
    have ge_Sl847 : h0.size ≤ Sl847 := Nat.le_trans O845.le gS847
    have ge_Ln847 : h0.size ≤ Ln847 := Nat.le_trans O845.le gL847
    have ZN847 := Safe.keep hO847.1 (own_all1 (Safe.exa hZ.alike A845 (by decide) (by decide))) HC846.1 (Safe.new gN847)
    refine E.astore (q := 14) (l' := #[.val (.int nn), .val (.int p1), .val (.int p2), .val (.int p3), .val (.int (1 : Int32)), .val (.ref b845), .unset]) X847 hx (hb hby at_12) rfl rfl ?_
    refine E.aload (q := 16) X847 hx (hb hby at_14) rfl rfl ?_
    have f849 := A845.keep hO847.1
    refine Ends.callV X847 hx hZ hown (hw _ (List.mem_of_getElem? (i := 24) rfl)) (hw _ (List.mem_of_getElem? (i := 25) rfl)) (hw _ (List.mem_of_getElem? (i := 27) rfl)) (hw _ (List.mem_of_getElem? (i := 26) rfl)) (hw _ (List.mem_of_getElem? (i := 2) rfl)) (hw _ (List.mem_of_getElem? (i := 28) rfl)) (by decide) (argsL := []) (rest := []) e847 f849 (rmE0 l Z a0 hw b845 (0 : Int32) _ rfl Fcount847) (W := 0) (by decide) (by decide) (by rw [hml]; rfl) (lenOf pd_3 rfl) (Nat.le_of_eq rfl) (hb hby at_16) (by decide) (by decide) rfl ?_
    rintro T850 v850 L850 X850 ⟨rfl, e850, rfl⟩
    rw [List.append_nil] at X850
    show Ends (some (CHr Z own_EL vm0 h0)) p e below s _ _ _ T850 (mkF m 19 #[.val (.int nn), .val (.int p1), .val (.int p2), .val (.int p3), .val (.int (1 : Int32)), .val (.ref b845), .unset] [(.int (1 : Int32))])
    refine E.istore (q := 21) (l' := #[.val (.int nn), .val (.int p1), .val (.int p2), .val (.int p3), .val (.int (1 : Int32)), .val (.ref b845), .val (.int (1 : Int32))]) X850 hx (hb hby at_19) rfl ?_
    refine E.iload (q := 23) X850 hx (hb hby at_21) rfl ?_
    refine E.ifN (q := 26) X850 hx (hb hby at_23) (XT.i0_le_f (by decide)) ?_
    refine E.aload (q := 28) X850 hx (hb hby at_26) rfl rfl ?_
    refine E.iloadN (q := 29) X850 hx (hb hby at_28) rfl ?_
    refine Ends.callSH X850 hx hZ hown (hw _ (List.mem_of_getElem? (i := 31) rfl)) (hw _ (List.mem_of_getElem? (i := 32) rfl)) (hw _ (List.mem_of_getElem? (i := 33) rfl)) (hw _ (List.mem_of_getElem? (i := 34) rfl)) (by decide) (argsL := [(.int p1)]) (rest := [(.ref b845)]) e850 (Nat.zero_le _) (own_EW hw) HC848.1 (rm6 l Z a0 hw p1 _ cs hcs (own_sta_keep S0 O847.1 own_ns0) fv hfv (own_sta_keep S1 O847.1 own_ns0)) (W := 1) (by decide) (by decide) (by rw [hml]; rfl) (lenOf pd_22 rfl) (Nat.le_of_eq rfl) (hb hby at_29) (by decide) (by decide) rfl ?_
    rintro s T851 v851 L851 X851 hc851 hZ hown ⟨a851, V851, xs851, rfl, ga851, hO851, Ea851, Fv851, Fc851, A851, hx851⟩
    have e851 : T851.heap = T851.heap := rfl
    have O851 := O847.call hO851 all0
    have HC852 := HC848.trans hc851
    show Ends (some (CHr Z own_EL vm0 h0)) p e below s _ _ _ T851 (mkF m 32 #[.val (.int nn), .val (.int p1), .val (.int p2), .val (.int p3), .val (.int (1 : Int32)), .val (.ref b845), .val (.int (1 : Int32))] [(.ref a851), (.ref b845)])
    refine E.iconst (q := 33) (v := (1 : Int32)) X851 hx (hb hby at_32) rfl ?_
    have f853 := Fnames847.keep hO851.1 nin0
    have f854 := Fslots847.keep hO851.1 nin0
    have f855 := Flines847.keep hO851.1 nin0
    have f856 := Fcount847.keep hO851.1 nin0
    have f857 := Fused847.keep hO851.1 nin0
    have f858 := Fkey0847.keep hO851.1 nin0
    have f859 := Fkey1847.keep hO851.1 nin0
    have f860 := AN847.keep hO851.1 nin0
    have f861 := AS847.keep hO851.1 nin0
    have f862 := AL847.keep hO851.1 nin0
    have f863 := f849.keep hO851.1
    have f864 := CHr.safe hc851 AN847.lt ZN847
    refine Ends.callV X851 hx hZ hown (hw _ (List.mem_of_getElem? (i := 90) rfl)) (hw _ (List.mem_of_getElem? (i := 91) rfl)) (hw _ (List.mem_of_getElem? (i := 93) rfl)) (hw _ (List.mem_of_getElem? (i := 92) rfl)) (hw _ (List.mem_of_getElem? (i := 2) rfl)) (hw _ (List.mem_of_getElem? (i := 94) rfl)) (by decide) (argsL := [(.ref a851), (.int (1 : Int32))]) (rest := []) e851 f863 (own_add l Z a0 hw b845 a851 (1 : Int32) N847 Sl847 Ln847 V851 (0 : Int64) (0 : Int64) (List.replicate 256 (0 : Int32)) (List.replicate 16 (-1 : Int32)) (List.replicate 16 (0 : Int32)) 0 0 own_SN0 (by decide) nSL847 xs851 hx851 _ f863 f853 f854 f855 f856 f857 f858 f859 f860 f861 f862 Ea851 Fv851 Fc851 A851 cs hcs (own_sta_keep S0 O851.1 own_ns0) fv hfv (own_sta_keep S1 O851.1 own_ns0)) (W := 0) (by decide) (by decide) (by rw [hml]; rfl) (lenOf pd_23 rfl) (Nat.le_of_eq rfl) (hb hby at_33) (by decide) (by decide) rfl ?_
    rintro T865 v865 L865 X865 ⟨r865, bs865, ss865, ls865, u865, c865, rfl, hO865, Fnames865, Fslots865, Flines865, Fcount865, Fused865, Fkey0865, Fkey1865, AN865, AS865, AL865, H865, lo865, hi865⟩
    have e865 : T865.heap = T865.heap := rfl
    have O865 := O851.call hO865 (allS (Or.inr ge_b845) (allS (Or.inr ge_N847) (allS (Or.inr ge_Sl847) (allS (Or.inr ge_Ln847) all0))))
    have HC866 := HC852.trans (CHr.keep hO865.1 (own_all4 (Safe.exa hZ.alike f863 (by decide) (by decide)) f864 (own_safe_ary hZ.alike f861 (by decide)) (own_safe_ary hZ.alike f862 (by decide))) HC852.1)
    show Ends (some (CHr Z own_EL vm0 h0)) p e below s _ _ _ T865 (mkF m 36 #[.val (.int nn), .val (.int p1), .val (.int p2), .val (.int p3), .val (.int (1 : Int32)), .val (.ref b845), .val (.int (1 : Int32))] [(.int r865)])
    have f867 := Safe.keep hO865.1 (own_all4 (Safe.exa hZ.alike f863 (by decide) (by decide)) f864 (own_safe_ary hZ.alike f861 (by decide)) (own_safe_ary hZ.alike f862 (by decide))) HC852.1 f864
    show Ends (some (CHr Z own_EL vm0 h0)) p e below s _ _ _ T865 (mkF m 36 #[.val (.int nn), .val (.int p1), .val (.int p2), .val (.int p3), .val (.int (1 : Int32)), .val (.ref b845), .val (.int (1 : Int32))] [(.int r865)])
    refine E.pop (q := 37) X865 hx (hb hby at_36) rfl ?_
    refine E.iload (q := 39) X865 hx (hb hby at_37) rfl ?_
    refine E.ifN (q := 42) X865 hx (hb hby at_39) (XT.i0_eq_f (by decide)) ?_
    refine E.aload (q := 44) X865 hx (hb hby at_42) rfl rfl ?_
    have f868 := f863.keep hO865.1
    refine Ends.callV X865 hx hZ hown (hw _ (List.mem_of_getElem? (i := 24) rfl)) (hw _ (List.mem_of_getElem? (i := 25) rfl)) (hw _ (List.mem_of_getElem? (i := 27) rfl)) (hw _ (List.mem_of_getElem? (i := 26) rfl)) (hw _ (List.mem_of_getElem? (i := 2) rfl)) (hw _ (List.mem_of_getElem? (i := 28) rfl)) (by decide) (argsL := []) (rest := []) e865 f868 (rmE1 l Z a0 hw b845 (Int32.ofNat c865) _ (own_not0 lo865 (by omega)) Fcount865) (W := 0) (by decide) (by decide) (by rw [hml]; rfl) (lenOf pd_3 rfl) (Nat.le_of_eq rfl) (hb hby at_44) (by decide) (by decide) rfl ?_
    rintro T869 v869 L869 X869 ⟨rfl, e869, rfl⟩
    rw [List.append_nil] at X869
    show Ends (some (CHr Z own_EL vm0 h0)) p e below s _ _ _ T869 (mkF m 47 #[.val (.int nn), .val (.int p1), .val (.int p2), .val (.int p3), .val (.int (1 : Int32)), .val (.ref b845), .val (.int (1 : Int32))] [(.int (0 : Int32))])
    refine E.ifN (q := 50) X869 hx (hb hby at_47) (XT.i0_ne_f (by decide)) ?_
    refine E.iconst (q := 51) (v := (1 : Int32)) X869 hx (hb hby at_50) rfl ?_
    refine E.goto (q := 55) X869 hx (hb hby at_51) ?_
    refine E.istore (q := 57) (l' := #[.val (.int nn), .val (.int p1), .val (.int p2), .val (.int p3), .val (.int (1 : Int32)), .val (.ref b845), .val (.int (1 : Int32))]) X869 hx (hb hby at_55) rfl ?_
    refine E.iload (q := 59) X869 hx (hb hby at_57) rfl ?_
    refine E.iconst (q := 60) (v := (1 : Int32)) X869 hx (hb hby at_59) rfl ?_
    refine E.icmpY (q := 94) X869 hx (hb hby at_60) (XT.ii_le_t (by decide)) ?_
    refine E.iload (q := 96) X869 hx (hb hby at_94) rfl ?_
    refine E.iconst (q := 97) (v := (2 : Int32)) X869 hx (hb hby at_96) rfl ?_
    refine E.icmpY (q := 131) X869 hx (hb hby at_97) (XT.ii_le_t (by decide)) ?_
    refine E.iload (q := 133) X869 hx (hb hby at_131) rfl ?_
    exact Ends.retS X869 hx hlk hret (by simp) rfl (hb hby at_133) (by decide) (by decide) ⟨⟨rfl, (O865).fr⟩, by first | exact (Nat.le_trans (Nat.le_refl _) hO865.1.1) | (rw [e869]; exact (Nat.le_trans (Nat.le_refl _) hO865.1.1))⟩ (hF := own_chret X869 hZ (own_EW hw) HC866 (by first | rfl | assumption))
  · rw [hp]
    show Ends (some (CHr Z own_EL vm0 h0)) p e below s _ _ _ s₁ (mkF m 3 #[.val (.int nn), .val (.int p1), .val (.int p2), .val (.int p3), .unset, .unset, .unset] [(.int (2 : Int32))])
    refine E.istore (q := 5) (l' := #[.val (.int nn), .val (.int p1), .val (.int p2), .val (.int p3), .val (.int (2 : Int32)), .unset, .unset]) X0 hx (hb hby at_3) rfl ?_
    refine Ends.newC X0 hx hZ hown (hw _ (List.mem_of_getElem? (i := 0) rfl)) (hw _ (List.mem_of_getElem? (i := 1) rfl)) (hw _ (List.mem_of_getElem? (i := 2) rfl)) e0 (hb hby at_5) (by decide) (by decide) ?_
    intro T870 h870 b870 g870 X870 e870 E870 A870 D870
    have ge_b870 : h0.size ≤ b870 := Nat.le_trans O0.le (Nat.le_of_eq g870.symm)
    have O870 := O0.ext E870
    have HC871 := HC0.trans (CHr.ext E870 HC0.1)
    have F870_names : Fld Z h870 b870 "com/example/optpack/optpack/service/SectionNames" "names" "[B" .null := D870 (Or.inl (hw _ (List.mem_of_getElem? (i := 11) rfl))) (ty := (.array .byte)) (by decide)
    have F870_slots : Fld Z h870 b870 "com/example/optpack/optpack/service/SectionNames" "slots" "[I" .null := D870 (Or.inl (hw _ (List.mem_of_getElem? (i := 21) rfl))) (ty := (.array .int)) (by decide)
    have F870_lines : Fld Z h870 b870 "com/example/optpack/optpack/service/SectionNames" "lines" "[I" .null := D870 (Or.inl (hw _ (List.mem_of_getElem? (i := 23) rfl))) (ty := (.array .int)) (by decide)
    have F870_count : Fld Z h870 b870 "com/example/optpack/optpack/service/SectionNames" "count" "I" (.int (0 : Int32)) := D870 (Or.inl (hw _ (List.mem_of_getElem? (i := 30) rfl))) (ty := .int) (by decide)
    have F870_used : Fld Z h870 b870 "com/example/optpack/optpack/service/SectionNames" "used" "I" (.int (0 : Int32)) := D870 (Or.inl (hw _ (List.mem_of_getElem? (i := 96) rfl))) (ty := .int) (by decide)
    have F870_key0 : Fld Z h870 b870 "com/example/optpack/optpack/service/SectionNames" "key0" "J" (.long (0 : Int64)) := D870 (Or.inl (hw _ (List.mem_of_getElem? (i := 121) rfl))) (ty := .long) (by decide)
    have F870_key1 : Fld Z h870 b870 "com/example/optpack/optpack/service/SectionNames" "key1" "J" (.long (0 : Int64)) := D870 (Or.inl (hw _ (List.mem_of_getElem? (i := 123) rfl))) (ty := .long) (by decide)
    refine E.dup (q := 9) X870 hx (hb hby at_8) rfl ?_
    refine Ends.callI X870 hx hZ hown (hw _ (List.mem_of_getElem? (i := 3) rfl)) (hw _ (List.mem_of_getElem? (i := 4) rfl)) (hw _ (List.mem_of_getElem? (i := 2) rfl)) (hw _ (List.mem_of_getElem? (i := 5) rfl)) rfl (by decide) (argsL := []) (rest := [(.ref b870)]) e870 (rm1 l Z a0 hw b870 _ A870 F870_names F870_slots F870_lines F870_count F870_used F870_key0 F870_key1) (W := 1) (by decide) (by decide) (by rw [hml]; rfl) (lenOf pd_21 rfl) (Nat.le_of_eq rfl) (hb hby at_9) (by decide) (by decide) rfl ?_
    rintro T872 v872 L872 X872 ⟨rfl, N872, Sl872, Ln872, gN872, gS872, gL872, nSL872, hO872, Fnames872, Fslots872, Flines872, Fcount872, Fused872, Fkey0872, Fkey1872, AN872, AS872, AL872⟩
    have e872 : T872.heap = T872.heap := rfl
    have O872 := O870.call hO872 (allS (Or.inr ge_b870) all0)
    have HC873 := HC871.trans (CHr.keep hO872.1 (own_all1 (Safe.exa hZ.alike A870 (by decide) (by decide))) HC871.1)
    show Ends (some (CHr Z own_EL vm0 h0)) p e below s _ _ _ T872 (mkF m 12 #[.val (.int nn), .val (.int p1), .val (.int p2), .val (.int p3), .val (.int (2 : Int32)), .unset, .unset] [(.ref b870)])
    have ge_N872 : h0.size ≤ N872 := Nat.le_trans O870.le gN872
    have ge_Sl872 : h0.size ≤ Sl872 := Nat.le_trans O870.le gS872
    have ge_Ln872 : h0.size ≤ Ln872 := Nat.le_trans O870.le gL872
    have ZN872 := Safe.keep hO872.1 (own_all1 (Safe.exa hZ.alike A870 (by decide) (by decide))) HC871.1 (Safe.new gN872)
    refine E.astore (q := 14) (l' := #[.val (.int nn), .val (.int p1), .val (.int p2), .val (.int p3), .val (.int (2 : Int32)), .val (.ref b870), .unset]) X872 hx (hb hby at_12) rfl rfl ?_
    refine E.aload (q := 16) X872 hx (hb hby at_14) rfl rfl ?_
    have f874 := A870.keep hO872.1
    refine Ends.callV X872 hx hZ hown (hw _ (List.mem_of_getElem? (i := 24) rfl)) (hw _ (List.mem_of_getElem? (i := 25) rfl)) (hw _ (List.mem_of_getElem? (i := 27) rfl)) (hw _ (List.mem_of_getElem? (i := 26) rfl)) (hw _ (List.mem_of_getElem? (i := 2) rfl)) (hw _ (List.mem_of_getElem? (i := 28) rfl)) (by decide) (argsL := []) (rest := []) e872 f874 (rmE0 l Z a0 hw b870 (0 : Int32) _ rfl Fcount872) (W := 0) (by decide) (by decide) (by rw [hml]; rfl) (lenOf pd_3 rfl) (Nat.le_of_eq rfl) (hb hby at_16) (by decide) (by decide) rfl ?_
    rintro T875 v875 L875 X875 ⟨rfl, e875, rfl⟩
    rw [List.append_nil] at X875
    show Ends (some (CHr Z own_EL vm0 h0)) p e below s _ _ _ T875 (mkF m 19 #[.val (.int nn), .val (.int p1), .val (.int p2), .val (.int p3), .val (.int (2 : Int32)), .val (.ref b870), .unset] [(.int (1 : Int32))])
    refine E.istore (q := 21) (l' := #[.val (.int nn), .val (.int p1), .val (.int p2), .val (.int p3), .val (.int (2 : Int32)), .val (.ref b870), .val (.int (1 : Int32))]) X875 hx (hb hby at_19) rfl ?_
    refine E.iload (q := 23) X875 hx (hb hby at_21) rfl ?_
    refine E.ifN (q := 26) X875 hx (hb hby at_23) (XT.i0_le_f (by decide)) ?_
    refine E.aload (q := 28) X875 hx (hb hby at_26) rfl rfl ?_
    refine E.iloadN (q := 29) X875 hx (hb hby at_28) rfl ?_
    refine Ends.callSH X875 hx hZ hown (hw _ (List.mem_of_getElem? (i := 31) rfl)) (hw _ (List.mem_of_getElem? (i := 32) rfl)) (hw _ (List.mem_of_getElem? (i := 33) rfl)) (hw _ (List.mem_of_getElem? (i := 34) rfl)) (by decide) (argsL := [(.int p1)]) (rest := [(.ref b870)]) e875 (Nat.zero_le _) (own_EW hw) HC873.1 (rm6 l Z a0 hw p1 _ cs hcs (own_sta_keep S0 O872.1 own_ns0) fv hfv (own_sta_keep S1 O872.1 own_ns0)) (W := 1) (by decide) (by decide) (by rw [hml]; rfl) (lenOf pd_22 rfl) (Nat.le_of_eq rfl) (hb hby at_29) (by decide) (by decide) rfl ?_
    rintro s T876 v876 L876 X876 hc876 hZ hown ⟨a876, V876, xs876, rfl, ga876, hO876, Ea876, Fv876, Fc876, A876, hx876⟩
    have e876 : T876.heap = T876.heap := rfl
    have O876 := O872.call hO876 all0
    have HC877 := HC873.trans hc876
    show Ends (some (CHr Z own_EL vm0 h0)) p e below s _ _ _ T876 (mkF m 32 #[.val (.int nn), .val (.int p1), .val (.int p2), .val (.int p3), .val (.int (2 : Int32)), .val (.ref b870), .val (.int (1 : Int32))] [(.ref a876), (.ref b870)])
    refine E.iconst (q := 33) (v := (1 : Int32)) X876 hx (hb hby at_32) rfl ?_
    have f878 := Fnames872.keep hO876.1 nin0
    have f879 := Fslots872.keep hO876.1 nin0
    have f880 := Flines872.keep hO876.1 nin0
    have f881 := Fcount872.keep hO876.1 nin0
    have f882 := Fused872.keep hO876.1 nin0
    have f883 := Fkey0872.keep hO876.1 nin0
    have f884 := Fkey1872.keep hO876.1 nin0
    have f885 := AN872.keep hO876.1 nin0
    have f886 := AS872.keep hO876.1 nin0
    have f887 := AL872.keep hO876.1 nin0
    have f888 := f874.keep hO876.1
    have f889 := CHr.safe hc876 AN872.lt ZN872
    refine Ends.callV X876 hx hZ hown (hw _ (List.mem_of_getElem? (i := 90) rfl)) (hw _ (List.mem_of_getElem? (i := 91) rfl)) (hw _ (List.mem_of_getElem? (i := 93) rfl)) (hw _ (List.mem_of_getElem? (i := 92) rfl)) (hw _ (List.mem_of_getElem? (i := 2) rfl)) (hw _ (List.mem_of_getElem? (i := 94) rfl)) (by decide) (argsL := [(.ref a876), (.int (1 : Int32))]) (rest := []) e876 f888 (own_add l Z a0 hw b870 a876 (1 : Int32) N872 Sl872 Ln872 V876 (0 : Int64) (0 : Int64) (List.replicate 256 (0 : Int32)) (List.replicate 16 (-1 : Int32)) (List.replicate 16 (0 : Int32)) 0 0 own_SN0 (by decide) nSL872 xs876 hx876 _ f888 f878 f879 f880 f881 f882 f883 f884 f885 f886 f887 Ea876 Fv876 Fc876 A876 cs hcs (own_sta_keep S0 O876.1 own_ns0) fv hfv (own_sta_keep S1 O876.1 own_ns0)) (W := 0) (by decide) (by decide) (by rw [hml]; rfl) (lenOf pd_23 rfl) (Nat.le_of_eq rfl) (hb hby at_33) (by decide) (by decide) rfl ?_
    rintro T890 v890 L890 X890 ⟨r890, bs890, ss890, ls890, u890, c890, rfl, hO890, Fnames890, Fslots890, Flines890, Fcount890, Fused890, Fkey0890, Fkey1890, AN890, AS890, AL890, H890, lo890, hi890⟩
    have e890 : T890.heap = T890.heap := rfl
    have O890 := O876.call hO890 (allS (Or.inr ge_b870) (allS (Or.inr ge_N872) (allS (Or.inr ge_Sl872) (allS (Or.inr ge_Ln872) all0))))
    have HC891 := HC877.trans (CHr.keep hO890.1 (own_all4 (Safe.exa hZ.alike f888 (by decide) (by decide)) f889 (own_safe_ary hZ.alike f886 (by decide)) (own_safe_ary hZ.alike f887 (by decide))) HC877.1)
    show Ends (some (CHr Z own_EL vm0 h0)) p e below s _ _ _ T890 (mkF m 36 #[.val (.int nn), .val (.int p1), .val (.int p2), .val (.int p3), .val (.int (2 : Int32)), .val (.ref b870), .val (.int (1 : Int32))] [(.int r890)])
    have f892 := Safe.keep hO890.1 (own_all4 (Safe.exa hZ.alike f888 (by decide) (by decide)) f889 (own_safe_ary hZ.alike f886 (by decide)) (own_safe_ary hZ.alike f887 (by decide))) HC877.1 f889
    show Ends (some (CHr Z own_EL vm0 h0)) p e below s _ _ _ T890 (mkF m 36 #[.val (.int nn), .val (.int p1), .val (.int p2), .val (.int p3), .val (.int (2 : Int32)), .val (.ref b870), .val (.int (1 : Int32))] [(.int r890)])
    refine E.pop (q := 37) X890 hx (hb hby at_36) rfl ?_
    refine E.iload (q := 39) X890 hx (hb hby at_37) rfl ?_
    refine E.ifN (q := 42) X890 hx (hb hby at_39) (XT.i0_eq_f (by decide)) ?_
    refine E.aload (q := 44) X890 hx (hb hby at_42) rfl rfl ?_
    have f893 := f888.keep hO890.1
    refine Ends.callV X890 hx hZ hown (hw _ (List.mem_of_getElem? (i := 24) rfl)) (hw _ (List.mem_of_getElem? (i := 25) rfl)) (hw _ (List.mem_of_getElem? (i := 27) rfl)) (hw _ (List.mem_of_getElem? (i := 26) rfl)) (hw _ (List.mem_of_getElem? (i := 2) rfl)) (hw _ (List.mem_of_getElem? (i := 28) rfl)) (by decide) (argsL := []) (rest := []) e890 f893 (rmE1 l Z a0 hw b870 (Int32.ofNat c890) _ (own_not0 lo890 (by omega)) Fcount890) (W := 0) (by decide) (by decide) (by rw [hml]; rfl) (lenOf pd_3 rfl) (Nat.le_of_eq rfl) (hb hby at_44) (by decide) (by decide) rfl ?_
    rintro T894 v894 L894 X894 ⟨rfl, e894, rfl⟩
    rw [List.append_nil] at X894
    show Ends (some (CHr Z own_EL vm0 h0)) p e below s _ _ _ T894 (mkF m 47 #[.val (.int nn), .val (.int p1), .val (.int p2), .val (.int p3), .val (.int (2 : Int32)), .val (.ref b870), .val (.int (1 : Int32))] [(.int (0 : Int32))])
    refine E.ifN (q := 50) X894 hx (hb hby at_47) (XT.i0_ne_f (by decide)) ?_
    refine E.iconst (q := 51) (v := (1 : Int32)) X894 hx (hb hby at_50) rfl ?_
    refine E.goto (q := 55) X894 hx (hb hby at_51) ?_
    refine E.istore (q := 57) (l' := #[.val (.int nn), .val (.int p1), .val (.int p2), .val (.int p3), .val (.int (2 : Int32)), .val (.ref b870), .val (.int (1 : Int32))]) X894 hx (hb hby at_55) rfl ?_
    refine E.iload (q := 59) X894 hx (hb hby at_57) rfl ?_
    refine E.iconst (q := 60) (v := (1 : Int32)) X894 hx (hb hby at_59) rfl ?_
    refine E.icmpN (q := 63) X894 hx (hb hby at_60) (XT.ii_le_f (by decide)) ?_
    refine E.aload (q := 65) X894 hx (hb hby at_63) rfl rfl ?_
    refine E.iloadN (q := 66) X894 hx (hb hby at_65) rfl ?_
    refine Ends.callSH X894 hx hZ hown (hw _ (List.mem_of_getElem? (i := 31) rfl)) (hw _ (List.mem_of_getElem? (i := 32) rfl)) (hw _ (List.mem_of_getElem? (i := 33) rfl)) (hw _ (List.mem_of_getElem? (i := 34) rfl)) (by decide) (argsL := [(.int p2)]) (rest := [(.ref b870)]) e894 (Nat.le_trans (Nat.le_refl _) hO890.1.1) (own_EW hw) HC891.1 (rm6 l Z a0 hw p2 _ cs hcs (own_sta_keep S0 O890.1 own_ns0) fv hfv (own_sta_keep S1 O890.1 own_ns0)) (W := 1) (by decide) (by decide) (by rw [hml]; rfl) (lenOf pd_22 rfl) (Nat.le_of_eq rfl) (hb hby at_66) (by decide) (by decide) rfl ?_
    rintro s T895 v895 L895 X895 hc895 hZ hown ⟨a895, V895, xs895, rfl, ga895, hO895, Ea895, Fv895, Fc895, A895, hx895⟩
    have e895 : T895.heap = T895.heap := rfl
    have O895 := O890.call hO895 all0
    have HC896 := HC891.trans hc895
    show Ends (some (CHr Z own_EL vm0 h0)) p e below s _ _ _ T895 (mkF m 69 #[.val (.int nn), .val (.int p1), .val (.int p2), .val (.int p3), .val (.int (2 : Int32)), .val (.ref b870), .val (.int (1 : Int32))] [(.ref a895), (.ref b870)])
    refine E.iconst (q := 70) (v := (2 : Int32)) X895 hx (hb hby at_69) rfl ?_
    have f897 := Fnames890.keep hO895.1 nin0
    have f898 := Fslots890.keep hO895.1 nin0
    have f899 := Flines890.keep hO895.1 nin0
    have f900 := Fcount890.keep hO895.1 nin0
    have f901 := Fused890.keep hO895.1 nin0
    have f902 := Fkey0890.keep hO895.1 nin0
    have f903 := Fkey1890.keep hO895.1 nin0
    have f904 := AN890.keep hO895.1 nin0
    have f905 := AS890.keep hO895.1 nin0
    have f906 := AL890.keep hO895.1 nin0
    have f907 := f893.keep hO895.1
    have f908 := CHr.safe hc895 AN890.lt f892
    refine Ends.callV X895 hx hZ hown (hw _ (List.mem_of_getElem? (i := 90) rfl)) (hw _ (List.mem_of_getElem? (i := 91) rfl)) (hw _ (List.mem_of_getElem? (i := 93) rfl)) (hw _ (List.mem_of_getElem? (i := 92) rfl)) (hw _ (List.mem_of_getElem? (i := 2) rfl)) (hw _ (List.mem_of_getElem? (i := 94) rfl)) (by decide) (argsL := [(.ref a895), (.int (2 : Int32))]) (rest := []) e895 f907 (own_add l Z a0 hw b870 a895 (2 : Int32) N872 Sl872 Ln872 V895 (0 : Int64) (0 : Int64) bs890 ss890 ls890 u890 c890 H890 (by omega) nSL872 xs895 hx895 _ f907 f897 f898 f899 f900 f901 f902 f903 f904 f905 f906 Ea895 Fv895 Fc895 A895 cs hcs (own_sta_keep S0 O895.1 own_ns0) fv hfv (own_sta_keep S1 O895.1 own_ns0)) (W := 0) (by decide) (by decide) (by rw [hml]; rfl) (lenOf pd_23 rfl) (Nat.le_of_eq rfl) (hb hby at_70) (by decide) (by decide) rfl ?_
    rintro T909 v909 L909 X909 ⟨r909, bs909, ss909, ls909, u909, c909, rfl, hO909, Fnames909, Fslots909, Flines909, Fcount909, Fused909, Fkey0909, Fkey1909, AN909, AS909, AL909, H909, lo909, hi909⟩
    have e909 : T909.heap = T909.heap := rfl
    have O909 := O895.call hO909 (allS (Or.inr ge_b870) (allS (Or.inr ge_N872) (allS (Or.inr ge_Sl872) (allS (Or.inr ge_Ln872) all0))))
    have HC910 := HC896.trans (CHr.keep hO909.1 (own_all4 (Safe.exa hZ.alike f907 (by decide) (by decide)) f908 (own_safe_ary hZ.alike f905 (by decide)) (own_safe_ary hZ.alike f906 (by decide))) HC896.1)
    show Ends (some (CHr Z own_EL vm0 h0)) p e below s _ _ _ T909 (mkF m 73 #[.val (.int nn), .val (.int p1), .val (.int p2), .val (.int p3), .val (.int (2 : Int32)), .val (.ref b870), .val (.int (1 : Int32))] [(.int r909)])
    have f911 := Safe.keep hO909.1 (own_all4 (Safe.exa hZ.alike f907 (by decide) (by decide)) f908 (own_safe_ary hZ.alike f905 (by decide)) (own_safe_ary hZ.alike f906 (by decide))) HC896.1 f908
    show Ends (some (CHr Z own_EL vm0 h0)) p e below s _ _ _ T909 (mkF m 73 #[.val (.int nn), .val (.int p1), .val (.int p2), .val (.int p3), .val (.int (2 : Int32)), .val (.ref b870), .val (.int (1 : Int32))] [(.int r909)])
    refine E.pop (q := 74) X909 hx (hb hby at_73) rfl ?_
    refine E.iload (q := 76) X909 hx (hb hby at_74) rfl ?_
    refine E.ifN (q := 79) X909 hx (hb hby at_76) (XT.i0_eq_f (by decide)) ?_
    refine E.aload (q := 81) X909 hx (hb hby at_79) rfl rfl ?_
    have f912 := f907.keep hO909.1
    refine Ends.callV X909 hx hZ hown (hw _ (List.mem_of_getElem? (i := 24) rfl)) (hw _ (List.mem_of_getElem? (i := 25) rfl)) (hw _ (List.mem_of_getElem? (i := 27) rfl)) (hw _ (List.mem_of_getElem? (i := 26) rfl)) (hw _ (List.mem_of_getElem? (i := 2) rfl)) (hw _ (List.mem_of_getElem? (i := 28) rfl)) (by decide) (argsL := []) (rest := []) e909 f912 (rmE1 l Z a0 hw b870 (Int32.ofNat c909) _ (own_not0 lo909 (by omega)) Fcount909) (W := 0) (by decide) (by decide) (by rw [hml]; rfl) (lenOf pd_3 rfl) (Nat.le_of_eq rfl) (hb hby at_81) (by decide) (by decide) rfl ?_
    rintro T913 v913 L913 X913 ⟨rfl, e913, rfl⟩
    rw [List.append_nil] at X913
    show Ends (some (CHr Z own_EL vm0 h0)) p e below s _ _ _ T913 (mkF m 84 #[.val (.int nn), .val (.int p1), .val (.int p2), .val (.int p3), .val (.int (2 : Int32)), .val (.ref b870), .val (.int (1 : Int32))] [(.int (0 : Int32))])
    refine E.ifN (q := 87) X913 hx (hb hby at_84) (XT.i0_ne_f (by decide)) ?_
    refine E.iconst (q := 88) (v := (1 : Int32)) X913 hx (hb hby at_87) rfl ?_
    refine E.goto (q := 92) X913 hx (hb hby at_88) ?_
    refine E.istore (q := 94) (l' := #[.val (.int nn), .val (.int p1), .val (.int p2), .val (.int p3), .val (.int (2 : Int32)), .val (.ref b870), .val (.int (1 : Int32))]) X913 hx (hb hby at_92) rfl ?_
    refine E.iload (q := 96) X913 hx (hb hby at_94) rfl ?_
    refine E.iconst (q := 97) (v := (2 : Int32)) X913 hx (hb hby at_96) rfl ?_
    refine E.icmpY (q := 131) X913 hx (hb hby at_97) (XT.ii_le_t (by decide)) ?_
    refine E.iload (q := 133) X913 hx (hb hby at_131) rfl ?_
    exact Ends.retS X913 hx hlk hret (by simp) rfl (hb hby at_133) (by decide) (by decide) ⟨⟨rfl, (O909).fr⟩, by first | exact (Nat.le_trans (Nat.le_refl _) hO909.1.1) | (rw [e913]; exact (Nat.le_trans (Nat.le_refl _) hO909.1.1))⟩ (hF := own_chret X913 hZ (own_EW hw) HC910 (by first | rfl | assumption))
  · rw [hp]
    show Ends (some (CHr Z own_EL vm0 h0)) p e below s _ _ _ s₁ (mkF m 3 #[.val (.int nn), .val (.int p1), .val (.int p2), .val (.int p3), .unset, .unset, .unset] [(.int (3 : Int32))])
    refine E.istore (q := 5) (l' := #[.val (.int nn), .val (.int p1), .val (.int p2), .val (.int p3), .val (.int (3 : Int32)), .unset, .unset]) X0 hx (hb hby at_3) rfl ?_
    refine Ends.newC X0 hx hZ hown (hw _ (List.mem_of_getElem? (i := 0) rfl)) (hw _ (List.mem_of_getElem? (i := 1) rfl)) (hw _ (List.mem_of_getElem? (i := 2) rfl)) e0 (hb hby at_5) (by decide) (by decide) ?_
    intro T914 h914 b914 g914 X914 e914 E914 A914 D914
    have ge_b914 : h0.size ≤ b914 := Nat.le_trans O0.le (Nat.le_of_eq g914.symm)
    have O914 := O0.ext E914
    have HC915 := HC0.trans (CHr.ext E914 HC0.1)
    have F914_names : Fld Z h914 b914 "com/example/optpack/optpack/service/SectionNames" "names" "[B" .null := D914 (Or.inl (hw _ (List.mem_of_getElem? (i := 11) rfl))) (ty := (.array .byte)) (by decide)
    have F914_slots : Fld Z h914 b914 "com/example/optpack/optpack/service/SectionNames" "slots" "[I" .null := D914 (Or.inl (hw _ (List.mem_of_getElem? (i := 21) rfl))) (ty := (.array .int)) (by decide)
    have F914_lines : Fld Z h914 b914 "com/example/optpack/optpack/service/SectionNames" "lines" "[I" .null := D914 (Or.inl (hw _ (List.mem_of_getElem? (i := 23) rfl))) (ty := (.array .int)) (by decide)
    have F914_count : Fld Z h914 b914 "com/example/optpack/optpack/service/SectionNames" "count" "I" (.int (0 : Int32)) := D914 (Or.inl (hw _ (List.mem_of_getElem? (i := 30) rfl))) (ty := .int) (by decide)
    have F914_used : Fld Z h914 b914 "com/example/optpack/optpack/service/SectionNames" "used" "I" (.int (0 : Int32)) := D914 (Or.inl (hw _ (List.mem_of_getElem? (i := 96) rfl))) (ty := .int) (by decide)
    have F914_key0 : Fld Z h914 b914 "com/example/optpack/optpack/service/SectionNames" "key0" "J" (.long (0 : Int64)) := D914 (Or.inl (hw _ (List.mem_of_getElem? (i := 121) rfl))) (ty := .long) (by decide)
    have F914_key1 : Fld Z h914 b914 "com/example/optpack/optpack/service/SectionNames" "key1" "J" (.long (0 : Int64)) := D914 (Or.inl (hw _ (List.mem_of_getElem? (i := 123) rfl))) (ty := .long) (by decide)
    refine E.dup (q := 9) X914 hx (hb hby at_8) rfl ?_
    refine Ends.callI X914 hx hZ hown (hw _ (List.mem_of_getElem? (i := 3) rfl)) (hw _ (List.mem_of_getElem? (i := 4) rfl)) (hw _ (List.mem_of_getElem? (i := 2) rfl)) (hw _ (List.mem_of_getElem? (i := 5) rfl)) rfl (by decide) (argsL := []) (rest := [(.ref b914)]) e914 (rm1 l Z a0 hw b914 _ A914 F914_names F914_slots F914_lines F914_count F914_used F914_key0 F914_key1) (W := 1) (by decide) (by decide) (by rw [hml]; rfl) (lenOf pd_21 rfl) (Nat.le_of_eq rfl) (hb hby at_9) (by decide) (by decide) rfl ?_
    rintro T916 v916 L916 X916 ⟨rfl, N916, Sl916, Ln916, gN916, gS916, gL916, nSL916, hO916, Fnames916, Fslots916, Flines916, Fcount916, Fused916, Fkey0916, Fkey1916, AN916, AS916, AL916⟩
    have e916 : T916.heap = T916.heap := rfl
    have O916 := O914.call hO916 (allS (Or.inr ge_b914) all0)
    have HC917 := HC915.trans (CHr.keep hO916.1 (own_all1 (Safe.exa hZ.alike A914 (by decide) (by decide))) HC915.1)
    show Ends (some (CHr Z own_EL vm0 h0)) p e below s _ _ _ T916 (mkF m 12 #[.val (.int nn), .val (.int p1), .val (.int p2), .val (.int p3), .val (.int (3 : Int32)), .unset, .unset] [(.ref b914)])
    have ge_N916 : h0.size ≤ N916 := Nat.le_trans O914.le gN916
    have ge_Sl916 : h0.size ≤ Sl916 := Nat.le_trans O914.le gS916
    have ge_Ln916 : h0.size ≤ Ln916 := Nat.le_trans O914.le gL916
    have ZN916 := Safe.keep hO916.1 (own_all1 (Safe.exa hZ.alike A914 (by decide) (by decide))) HC915.1 (Safe.new gN916)
    refine E.astore (q := 14) (l' := #[.val (.int nn), .val (.int p1), .val (.int p2), .val (.int p3), .val (.int (3 : Int32)), .val (.ref b914), .unset]) X916 hx (hb hby at_12) rfl rfl ?_
    refine E.aload (q := 16) X916 hx (hb hby at_14) rfl rfl ?_
    have f918 := A914.keep hO916.1
    refine Ends.callV X916 hx hZ hown (hw _ (List.mem_of_getElem? (i := 24) rfl)) (hw _ (List.mem_of_getElem? (i := 25) rfl)) (hw _ (List.mem_of_getElem? (i := 27) rfl)) (hw _ (List.mem_of_getElem? (i := 26) rfl)) (hw _ (List.mem_of_getElem? (i := 2) rfl)) (hw _ (List.mem_of_getElem? (i := 28) rfl)) (by decide) (argsL := []) (rest := []) e916 f918 (rmE0 l Z a0 hw b914 (0 : Int32) _ rfl Fcount916) (W := 0) (by decide) (by decide) (by rw [hml]; rfl) (lenOf pd_3 rfl) (Nat.le_of_eq rfl) (hb hby at_16) (by decide) (by decide) rfl ?_
    rintro T919 v919 L919 X919 ⟨rfl, e919, rfl⟩
    rw [List.append_nil] at X919
    show Ends (some (CHr Z own_EL vm0 h0)) p e below s _ _ _ T919 (mkF m 19 #[.val (.int nn), .val (.int p1), .val (.int p2), .val (.int p3), .val (.int (3 : Int32)), .val (.ref b914), .unset] [(.int (1 : Int32))])
    refine E.istore (q := 21) (l' := #[.val (.int nn), .val (.int p1), .val (.int p2), .val (.int p3), .val (.int (3 : Int32)), .val (.ref b914), .val (.int (1 : Int32))]) X919 hx (hb hby at_19) rfl ?_
    refine E.iload (q := 23) X919 hx (hb hby at_21) rfl ?_
    refine E.ifN (q := 26) X919 hx (hb hby at_23) (XT.i0_le_f (by decide)) ?_
    refine E.aload (q := 28) X919 hx (hb hby at_26) rfl rfl ?_
    refine E.iloadN (q := 29) X919 hx (hb hby at_28) rfl ?_
    refine Ends.callSH X919 hx hZ hown (hw _ (List.mem_of_getElem? (i := 31) rfl)) (hw _ (List.mem_of_getElem? (i := 32) rfl)) (hw _ (List.mem_of_getElem? (i := 33) rfl)) (hw _ (List.mem_of_getElem? (i := 34) rfl)) (by decide) (argsL := [(.int p1)]) (rest := [(.ref b914)]) e919 (Nat.zero_le _) (own_EW hw) HC917.1 (rm6 l Z a0 hw p1 _ cs hcs (own_sta_keep S0 O916.1 own_ns0) fv hfv (own_sta_keep S1 O916.1 own_ns0)) (W := 1) (by decide) (by decide) (by rw [hml]; rfl) (lenOf pd_22 rfl) (Nat.le_of_eq rfl) (hb hby at_29) (by decide) (by decide) rfl ?_
    rintro s T920 v920 L920 X920 hc920 hZ hown ⟨a920, V920, xs920, rfl, ga920, hO920, Ea920, Fv920, Fc920, A920, hx920⟩
    have e920 : T920.heap = T920.heap := rfl
    have O920 := O916.call hO920 all0
    have HC921 := HC917.trans hc920
    show Ends (some (CHr Z own_EL vm0 h0)) p e below s _ _ _ T920 (mkF m 32 #[.val (.int nn), .val (.int p1), .val (.int p2), .val (.int p3), .val (.int (3 : Int32)), .val (.ref b914), .val (.int (1 : Int32))] [(.ref a920), (.ref b914)])
    refine E.iconst (q := 33) (v := (1 : Int32)) X920 hx (hb hby at_32) rfl ?_
    have f922 := Fnames916.keep hO920.1 nin0
    have f923 := Fslots916.keep hO920.1 nin0
    have f924 := Flines916.keep hO920.1 nin0
    have f925 := Fcount916.keep hO920.1 nin0
    have f926 := Fused916.keep hO920.1 nin0
    have f927 := Fkey0916.keep hO920.1 nin0
    have f928 := Fkey1916.keep hO920.1 nin0
    have f929 := AN916.keep hO920.1 nin0
    have f930 := AS916.keep hO920.1 nin0
    have f931 := AL916.keep hO920.1 nin0
    have f932 := f918.keep hO920.1
    have f933 := CHr.safe hc920 AN916.lt ZN916
    refine Ends.callV X920 hx hZ hown (hw _ (List.mem_of_getElem? (i := 90) rfl)) (hw _ (List.mem_of_getElem? (i := 91) rfl)) (hw _ (List.mem_of_getElem? (i := 93) rfl)) (hw _ (List.mem_of_getElem? (i := 92) rfl)) (hw _ (List.mem_of_getElem? (i := 2) rfl)) (hw _ (List.mem_of_getElem? (i := 94) rfl)) (by decide) (argsL := [(.ref a920), (.int (1 : Int32))]) (rest := []) e920 f932 (own_add l Z a0 hw b914 a920 (1 : Int32) N916 Sl916 Ln916 V920 (0 : Int64) (0 : Int64) (List.replicate 256 (0 : Int32)) (List.replicate 16 (-1 : Int32)) (List.replicate 16 (0 : Int32)) 0 0 own_SN0 (by decide) nSL916 xs920 hx920 _ f932 f922 f923 f924 f925 f926 f927 f928 f929 f930 f931 Ea920 Fv920 Fc920 A920 cs hcs (own_sta_keep S0 O920.1 own_ns0) fv hfv (own_sta_keep S1 O920.1 own_ns0)) (W := 0) (by decide) (by decide) (by rw [hml]; rfl) (lenOf pd_23 rfl) (Nat.le_of_eq rfl) (hb hby at_33) (by decide) (by decide) rfl ?_
    rintro T934 v934 L934 X934 ⟨r934, bs934, ss934, ls934, u934, c934, rfl, hO934, Fnames934, Fslots934, Flines934, Fcount934, Fused934, Fkey0934, Fkey1934, AN934, AS934, AL934, H934, lo934, hi934⟩
    have e934 : T934.heap = T934.heap := rfl
    have O934 := O920.call hO934 (allS (Or.inr ge_b914) (allS (Or.inr ge_N916) (allS (Or.inr ge_Sl916) (allS (Or.inr ge_Ln916) all0))))
    have HC935 := HC921.trans (CHr.keep hO934.1 (own_all4 (Safe.exa hZ.alike f932 (by decide) (by decide)) f933 (own_safe_ary hZ.alike f930 (by decide)) (own_safe_ary hZ.alike f931 (by decide))) HC921.1)
    show Ends (some (CHr Z own_EL vm0 h0)) p e below s _ _ _ T934 (mkF m 36 #[.val (.int nn), .val (.int p1), .val (.int p2), .val (.int p3), .val (.int (3 : Int32)), .val (.ref b914), .val (.int (1 : Int32))] [(.int r934)])
    have f936 := Safe.keep hO934.1 (own_all4 (Safe.exa hZ.alike f932 (by decide) (by decide)) f933 (own_safe_ary hZ.alike f930 (by decide)) (own_safe_ary hZ.alike f931 (by decide))) HC921.1 f933
    show Ends (some (CHr Z own_EL vm0 h0)) p e below s _ _ _ T934 (mkF m 36 #[.val (.int nn), .val (.int p1), .val (.int p2), .val (.int p3), .val (.int (3 : Int32)), .val (.ref b914), .val (.int (1 : Int32))] [(.int r934)])
    refine E.pop (q := 37) X934 hx (hb hby at_36) rfl ?_
    refine E.iload (q := 39) X934 hx (hb hby at_37) rfl ?_
    refine E.ifN (q := 42) X934 hx (hb hby at_39) (XT.i0_eq_f (by decide)) ?_
    refine E.aload (q := 44) X934 hx (hb hby at_42) rfl rfl ?_
    have f937 := f932.keep hO934.1
    refine Ends.callV X934 hx hZ hown (hw _ (List.mem_of_getElem? (i := 24) rfl)) (hw _ (List.mem_of_getElem? (i := 25) rfl)) (hw _ (List.mem_of_getElem? (i := 27) rfl)) (hw _ (List.mem_of_getElem? (i := 26) rfl)) (hw _ (List.mem_of_getElem? (i := 2) rfl)) (hw _ (List.mem_of_getElem? (i := 28) rfl)) (by decide) (argsL := []) (rest := []) e934 f937 (rmE1 l Z a0 hw b914 (Int32.ofNat c934) _ (own_not0 lo934 (by omega)) Fcount934) (W := 0) (by decide) (by decide) (by rw [hml]; rfl) (lenOf pd_3 rfl) (Nat.le_of_eq rfl) (hb hby at_44) (by decide) (by decide) rfl ?_
    rintro T938 v938 L938 X938 ⟨rfl, e938, rfl⟩
    rw [List.append_nil] at X938
    show Ends (some (CHr Z own_EL vm0 h0)) p e below s _ _ _ T938 (mkF m 47 #[.val (.int nn), .val (.int p1), .val (.int p2), .val (.int p3), .val (.int (3 : Int32)), .val (.ref b914), .val (.int (1 : Int32))] [(.int (0 : Int32))])
    refine E.ifN (q := 50) X938 hx (hb hby at_47) (XT.i0_ne_f (by decide)) ?_
    refine E.iconst (q := 51) (v := (1 : Int32)) X938 hx (hb hby at_50) rfl ?_
    refine E.goto (q := 55) X938 hx (hb hby at_51) ?_
    refine E.istore (q := 57) (l' := #[.val (.int nn), .val (.int p1), .val (.int p2), .val (.int p3), .val (.int (3 : Int32)), .val (.ref b914), .val (.int (1 : Int32))]) X938 hx (hb hby at_55) rfl ?_
    refine E.iload (q := 59) X938 hx (hb hby at_57) rfl ?_
    refine E.iconst (q := 60) (v := (1 : Int32)) X938 hx (hb hby at_59) rfl ?_
    refine E.icmpN (q := 63) X938 hx (hb hby at_60) (XT.ii_le_f (by decide)) ?_
    refine E.aload (q := 65) X938 hx (hb hby at_63) rfl rfl ?_
    refine E.iloadN (q := 66) X938 hx (hb hby at_65) rfl ?_
    refine Ends.callSH X938 hx hZ hown (hw _ (List.mem_of_getElem? (i := 31) rfl)) (hw _ (List.mem_of_getElem? (i := 32) rfl)) (hw _ (List.mem_of_getElem? (i := 33) rfl)) (hw _ (List.mem_of_getElem? (i := 34) rfl)) (by decide) (argsL := [(.int p2)]) (rest := [(.ref b914)]) e938 (Nat.le_trans (Nat.le_refl _) hO934.1.1) (own_EW hw) HC935.1 (rm6 l Z a0 hw p2 _ cs hcs (own_sta_keep S0 O934.1 own_ns0) fv hfv (own_sta_keep S1 O934.1 own_ns0)) (W := 1) (by decide) (by decide) (by rw [hml]; rfl) (lenOf pd_22 rfl) (Nat.le_of_eq rfl) (hb hby at_66) (by decide) (by decide) rfl ?_
    rintro s T939 v939 L939 X939 hc939 hZ hown ⟨a939, V939, xs939, rfl, ga939, hO939, Ea939, Fv939, Fc939, A939, hx939⟩
    have e939 : T939.heap = T939.heap := rfl
    have O939 := O934.call hO939 all0
    have HC940 := HC935.trans hc939
    show Ends (some (CHr Z own_EL vm0 h0)) p e below s _ _ _ T939 (mkF m 69 #[.val (.int nn), .val (.int p1), .val (.int p2), .val (.int p3), .val (.int (3 : Int32)), .val (.ref b914), .val (.int (1 : Int32))] [(.ref a939), (.ref b914)])
    refine E.iconst (q := 70) (v := (2 : Int32)) X939 hx (hb hby at_69) rfl ?_
    have f941 := Fnames934.keep hO939.1 nin0
    have f942 := Fslots934.keep hO939.1 nin0
    have f943 := Flines934.keep hO939.1 nin0
    have f944 := Fcount934.keep hO939.1 nin0
    have f945 := Fused934.keep hO939.1 nin0
    have f946 := Fkey0934.keep hO939.1 nin0
    have f947 := Fkey1934.keep hO939.1 nin0
    have f948 := AN934.keep hO939.1 nin0
    have f949 := AS934.keep hO939.1 nin0
    have f950 := AL934.keep hO939.1 nin0
    have f951 := f937.keep hO939.1
    have f952 := CHr.safe hc939 AN934.lt f936
    refine Ends.callV X939 hx hZ hown (hw _ (List.mem_of_getElem? (i := 90) rfl)) (hw _ (List.mem_of_getElem? (i := 91) rfl)) (hw _ (List.mem_of_getElem? (i := 93) rfl)) (hw _ (List.mem_of_getElem? (i := 92) rfl)) (hw _ (List.mem_of_getElem? (i := 2) rfl)) (hw _ (List.mem_of_getElem? (i := 94) rfl)) (by decide) (argsL := [(.ref a939), (.int (2 : Int32))]) (rest := []) e939 f951 (own_add l Z a0 hw b914 a939 (2 : Int32) N916 Sl916 Ln916 V939 (0 : Int64) (0 : Int64) bs934 ss934 ls934 u934 c934 H934 (by omega) nSL916 xs939 hx939 _ f951 f941 f942 f943 f944 f945 f946 f947 f948 f949 f950 Ea939 Fv939 Fc939 A939 cs hcs (own_sta_keep S0 O939.1 own_ns0) fv hfv (own_sta_keep S1 O939.1 own_ns0)) (W := 0) (by decide) (by decide) (by rw [hml]; rfl) (lenOf pd_23 rfl) (Nat.le_of_eq rfl) (hb hby at_70) (by decide) (by decide) rfl ?_
    rintro T953 v953 L953 X953 ⟨r953, bs953, ss953, ls953, u953, c953, rfl, hO953, Fnames953, Fslots953, Flines953, Fcount953, Fused953, Fkey0953, Fkey1953, AN953, AS953, AL953, H953, lo953, hi953⟩
    have e953 : T953.heap = T953.heap := rfl
    have O953 := O939.call hO953 (allS (Or.inr ge_b914) (allS (Or.inr ge_N916) (allS (Or.inr ge_Sl916) (allS (Or.inr ge_Ln916) all0))))
    have HC954 := HC940.trans (CHr.keep hO953.1 (own_all4 (Safe.exa hZ.alike f951 (by decide) (by decide)) f952 (own_safe_ary hZ.alike f949 (by decide)) (own_safe_ary hZ.alike f950 (by decide))) HC940.1)
    show Ends (some (CHr Z own_EL vm0 h0)) p e below s _ _ _ T953 (mkF m 73 #[.val (.int nn), .val (.int p1), .val (.int p2), .val (.int p3), .val (.int (3 : Int32)), .val (.ref b914), .val (.int (1 : Int32))] [(.int r953)])
    have f955 := Safe.keep hO953.1 (own_all4 (Safe.exa hZ.alike f951 (by decide) (by decide)) f952 (own_safe_ary hZ.alike f949 (by decide)) (own_safe_ary hZ.alike f950 (by decide))) HC940.1 f952
    show Ends (some (CHr Z own_EL vm0 h0)) p e below s _ _ _ T953 (mkF m 73 #[.val (.int nn), .val (.int p1), .val (.int p2), .val (.int p3), .val (.int (3 : Int32)), .val (.ref b914), .val (.int (1 : Int32))] [(.int r953)])
    refine E.pop (q := 74) X953 hx (hb hby at_73) rfl ?_
    refine E.iload (q := 76) X953 hx (hb hby at_74) rfl ?_
    refine E.ifN (q := 79) X953 hx (hb hby at_76) (XT.i0_eq_f (by decide)) ?_
    refine E.aload (q := 81) X953 hx (hb hby at_79) rfl rfl ?_
    have f956 := f951.keep hO953.1
    refine Ends.callV X953 hx hZ hown (hw _ (List.mem_of_getElem? (i := 24) rfl)) (hw _ (List.mem_of_getElem? (i := 25) rfl)) (hw _ (List.mem_of_getElem? (i := 27) rfl)) (hw _ (List.mem_of_getElem? (i := 26) rfl)) (hw _ (List.mem_of_getElem? (i := 2) rfl)) (hw _ (List.mem_of_getElem? (i := 28) rfl)) (by decide) (argsL := []) (rest := []) e953 f956 (rmE1 l Z a0 hw b914 (Int32.ofNat c953) _ (own_not0 lo953 (by omega)) Fcount953) (W := 0) (by decide) (by decide) (by rw [hml]; rfl) (lenOf pd_3 rfl) (Nat.le_of_eq rfl) (hb hby at_81) (by decide) (by decide) rfl ?_
    rintro T957 v957 L957 X957 ⟨rfl, e957, rfl⟩
    rw [List.append_nil] at X957
    show Ends (some (CHr Z own_EL vm0 h0)) p e below s _ _ _ T957 (mkF m 84 #[.val (.int nn), .val (.int p1), .val (.int p2), .val (.int p3), .val (.int (3 : Int32)), .val (.ref b914), .val (.int (1 : Int32))] [(.int (0 : Int32))])
    refine E.ifN (q := 87) X957 hx (hb hby at_84) (XT.i0_ne_f (by decide)) ?_
    refine E.iconst (q := 88) (v := (1 : Int32)) X957 hx (hb hby at_87) rfl ?_
    refine E.goto (q := 92) X957 hx (hb hby at_88) ?_
    refine E.istore (q := 94) (l' := #[.val (.int nn), .val (.int p1), .val (.int p2), .val (.int p3), .val (.int (3 : Int32)), .val (.ref b914), .val (.int (1 : Int32))]) X957 hx (hb hby at_92) rfl ?_
    refine E.iload (q := 96) X957 hx (hb hby at_94) rfl ?_
    refine E.iconst (q := 97) (v := (2 : Int32)) X957 hx (hb hby at_96) rfl ?_
    refine E.icmpN (q := 100) X957 hx (hb hby at_97) (XT.ii_le_f (by decide)) ?_
    refine E.aload (q := 102) X957 hx (hb hby at_100) rfl rfl ?_
    refine E.iloadN (q := 103) X957 hx (hb hby at_102) rfl ?_
    refine Ends.callSH X957 hx hZ hown (hw _ (List.mem_of_getElem? (i := 31) rfl)) (hw _ (List.mem_of_getElem? (i := 32) rfl)) (hw _ (List.mem_of_getElem? (i := 33) rfl)) (hw _ (List.mem_of_getElem? (i := 34) rfl)) (by decide) (argsL := [(.int p3)]) (rest := [(.ref b914)]) e957 (Nat.le_trans (Nat.le_refl _) hO953.1.1) (own_EW hw) HC954.1 (rm6 l Z a0 hw p3 _ cs hcs (own_sta_keep S0 O953.1 own_ns0) fv hfv (own_sta_keep S1 O953.1 own_ns0)) (W := 1) (by decide) (by decide) (by rw [hml]; rfl) (lenOf pd_22 rfl) (Nat.le_of_eq rfl) (hb hby at_103) (by decide) (by decide) rfl ?_
    rintro s T958 v958 L958 X958 hc958 hZ hown ⟨a958, V958, xs958, rfl, ga958, hO958, Ea958, Fv958, Fc958, A958, hx958⟩
    have e958 : T958.heap = T958.heap := rfl
    have O958 := O953.call hO958 all0
    have HC959 := HC954.trans hc958
    show Ends (some (CHr Z own_EL vm0 h0)) p e below s _ _ _ T958 (mkF m 106 #[.val (.int nn), .val (.int p1), .val (.int p2), .val (.int p3), .val (.int (3 : Int32)), .val (.ref b914), .val (.int (1 : Int32))] [(.ref a958), (.ref b914)])
    refine E.iconst (q := 107) (v := (3 : Int32)) X958 hx (hb hby at_106) rfl ?_
    have f960 := Fnames953.keep hO958.1 nin0
    have f961 := Fslots953.keep hO958.1 nin0
    have f962 := Flines953.keep hO958.1 nin0
    have f963 := Fcount953.keep hO958.1 nin0
    have f964 := Fused953.keep hO958.1 nin0
    have f965 := Fkey0953.keep hO958.1 nin0
    have f966 := Fkey1953.keep hO958.1 nin0
    have f967 := AN953.keep hO958.1 nin0
    have f968 := AS953.keep hO958.1 nin0
    have f969 := AL953.keep hO958.1 nin0
    have f970 := f956.keep hO958.1
    have f971 := CHr.safe hc958 AN953.lt f955
    refine Ends.callV X958 hx hZ hown (hw _ (List.mem_of_getElem? (i := 90) rfl)) (hw _ (List.mem_of_getElem? (i := 91) rfl)) (hw _ (List.mem_of_getElem? (i := 93) rfl)) (hw _ (List.mem_of_getElem? (i := 92) rfl)) (hw _ (List.mem_of_getElem? (i := 2) rfl)) (hw _ (List.mem_of_getElem? (i := 94) rfl)) (by decide) (argsL := [(.ref a958), (.int (3 : Int32))]) (rest := []) e958 f970 (own_add l Z a0 hw b914 a958 (3 : Int32) N916 Sl916 Ln916 V958 (0 : Int64) (0 : Int64) bs953 ss953 ls953 u953 c953 H953 (by omega) nSL916 xs958 hx958 _ f970 f960 f961 f962 f963 f964 f965 f966 f967 f968 f969 Ea958 Fv958 Fc958 A958 cs hcs (own_sta_keep S0 O958.1 own_ns0) fv hfv (own_sta_keep S1 O958.1 own_ns0)) (W := 0) (by decide) (by decide) (by rw [hml]; rfl) (lenOf pd_23 rfl) (Nat.le_of_eq rfl) (hb hby at_107) (by decide) (by decide) rfl ?_
    rintro T972 v972 L972 X972 ⟨r972, bs972, ss972, ls972, u972, c972, rfl, hO972, Fnames972, Fslots972, Flines972, Fcount972, Fused972, Fkey0972, Fkey1972, AN972, AS972, AL972, H972, lo972, hi972⟩
    have e972 : T972.heap = T972.heap := rfl
    have O972 := O958.call hO972 (allS (Or.inr ge_b914) (allS (Or.inr ge_N916) (allS (Or.inr ge_Sl916) (allS (Or.inr ge_Ln916) all0))))
    have HC973 := HC959.trans (CHr.keep hO972.1 (own_all4 (Safe.exa hZ.alike f970 (by decide) (by decide)) f971 (own_safe_ary hZ.alike f968 (by decide)) (own_safe_ary hZ.alike f969 (by decide))) HC959.1)
    show Ends (some (CHr Z own_EL vm0 h0)) p e below s _ _ _ T972 (mkF m 110 #[.val (.int nn), .val (.int p1), .val (.int p2), .val (.int p3), .val (.int (3 : Int32)), .val (.ref b914), .val (.int (1 : Int32))] [(.int r972)])
    have f974 := Safe.keep hO972.1 (own_all4 (Safe.exa hZ.alike f970 (by decide) (by decide)) f971 (own_safe_ary hZ.alike f968 (by decide)) (own_safe_ary hZ.alike f969 (by decide))) HC959.1 f971
    show Ends (some (CHr Z own_EL vm0 h0)) p e below s _ _ _ T972 (mkF m 110 #[.val (.int nn), .val (.int p1), .val (.int p2), .val (.int p3), .val (.int (3 : Int32)), .val (.ref b914), .val (.int (1 : Int32))] [(.int r972)])
    refine E.pop (q := 111) X972 hx (hb hby at_110) rfl ?_
    refine E.iload (q := 113) X972 hx (hb hby at_111) rfl ?_
    refine E.ifN (q := 116) X972 hx (hb hby at_113) (XT.i0_eq_f (by decide)) ?_
    refine E.aload (q := 118) X972 hx (hb hby at_116) rfl rfl ?_
    have f975 := f970.keep hO972.1
    refine Ends.callV X972 hx hZ hown (hw _ (List.mem_of_getElem? (i := 24) rfl)) (hw _ (List.mem_of_getElem? (i := 25) rfl)) (hw _ (List.mem_of_getElem? (i := 27) rfl)) (hw _ (List.mem_of_getElem? (i := 26) rfl)) (hw _ (List.mem_of_getElem? (i := 2) rfl)) (hw _ (List.mem_of_getElem? (i := 28) rfl)) (by decide) (argsL := []) (rest := []) e972 f975 (rmE1 l Z a0 hw b914 (Int32.ofNat c972) _ (own_not0 lo972 (by omega)) Fcount972) (W := 0) (by decide) (by decide) (by rw [hml]; rfl) (lenOf pd_3 rfl) (Nat.le_of_eq rfl) (hb hby at_118) (by decide) (by decide) rfl ?_
    rintro T976 v976 L976 X976 ⟨rfl, e976, rfl⟩
    rw [List.append_nil] at X976
    show Ends (some (CHr Z own_EL vm0 h0)) p e below s _ _ _ T976 (mkF m 121 #[.val (.int nn), .val (.int p1), .val (.int p2), .val (.int p3), .val (.int (3 : Int32)), .val (.ref b914), .val (.int (1 : Int32))] [(.int (0 : Int32))])
    refine E.ifN (q := 124) X976 hx (hb hby at_121) (XT.i0_ne_f (by decide)) ?_
    refine E.iconst (q := 125) (v := (1 : Int32)) X976 hx (hb hby at_124) rfl ?_
    refine E.goto (q := 129) X976 hx (hb hby at_125) ?_
    refine E.istore (q := 131) (l' := #[.val (.int nn), .val (.int p1), .val (.int p2), .val (.int p3), .val (.int (3 : Int32)), .val (.ref b914), .val (.int (1 : Int32))]) X976 hx (hb hby at_129) rfl ?_
    refine E.iload (q := 133) X976 hx (hb hby at_131) rfl ?_
    exact Ends.retS X976 hx hlk hret (by simp) rfl (hb hby at_133) (by decide) (by decide) ⟨⟨rfl, (O972).fr⟩, by first | exact (Nat.le_trans (Nat.le_refl _) hO972.1.1) | (rw [e976]; exact (Nat.le_trans (Nat.le_refl _) hO972.1.1))⟩ (hF := own_chret X976 hZ (own_EW hw) HC973 (by first | rfl | assumption))
theorem own_fv {args : Array Value} {s : State} (hj : ∀ w ∈ jdkStatics_1, w.before args s = true) : ∃ fv : Value, (fv = .null ∨ ∃ a, fv = .ref a) ∧ Sta s s.heap "jdk/internal/util/Preconditions" "SIOOBE_FORMATTER" "Ljava/util/function/BiFunction;" fv := by
  have h1 := Cond.before_iff.mp (hj _ (List.mem_of_getElem? (i := 8) rfl))
  have h2 := hj _ (List.mem_of_getElem? (i := 7) rfl)
  simp only [Cond.value] at h1
  cases ht : (Term.static "jdk/internal/util/Preconditions" "SIOOBE_FORMATTER" "Ljava/util/function/BiFunction;").eval args s none [] s with
  | none => simp [ht] at h1
  | some v =>
    refine ⟨v, ?_, Sta.start (args := args) ht (Or.inl h2)⟩
    cases v <;> simp [ht] at h1 ⊢
theorem own_cs {args : Array Value} {s : State} (hj : ∀ w ∈ jdkStatics_1, w.before args s = true) : ∃ cs : Int32, ¬ cs = (0 : Int32) ∧ Sta s s.heap "java/lang/String" "COMPACT_STRINGS" "Z" (.int cs) := by
  obtain ⟨cs, hv⟩ := is_v (Cond.before_iff.mp (hj _ (List.mem_of_getElem? (i := 1) rfl)))
  refine ⟨cs, fun q => ?_, Sta.start (args := args) hv (Or.inl (hj _ (List.mem_of_getElem? (i := 0) rfl)))⟩
  have h := (hj _ (List.mem_of_getElem? (i := 2) rfl))
  subst q
  simp only [Cond.before, Cond.holds, Cond.value] at h
  rw [hv] at h
  simp [Term.eval] at h
theorem own_CH {args : Array Value} {s : State} (hw : ∀ d ∈ tables_1, d.before args s = true) (hj : ∀ w ∈ jdkStatics_1, w.before args s = true) {tb : Tables} {e : Env} (hc : call_1_1 tb e args s) : CHv s own_EL s.vm s.heap := by
  refine CHv.start (own_EW hw) ?_ (hj _ (List.mem_of_getElem? (i := 2) rfl)) (hw _ (List.mem_of_getElem? (i := 9) rfl)) (hw _ (List.mem_of_getElem? (i := 41) rfl))
  intro p hp
  simp only [own_EL, List.mem_cons, List.not_mem_nil, or_false] at hp
  rcases hp with rfl | rfl
  · exact hc ("com/example/optpack/optpack/service/SectionNamesIsEmptyPinLaw", 7) (List.mem_of_getElem? (i := 0) rfl)
  · exact hc ("java/lang/String", 7) (List.mem_of_getElem? (i := 1) rfl)
set_option maxRecDepth 65536 in
set_option maxHeartbeats 40000000 in
theorem comes_1 {Post : Tables → Env → Array Value → State → Outcome → State → Prop} (hpost : ∀ tb e args s v u, (limb_1_1.after args s (.returned v) u = true ∧ limb_1_2.after args s (.returned v) u = true) → ReturnedEndW s (.returned v) u (Jvm.fieldLocs frame_1_writes args s ++ Jvm.arrayLocs frame_1_arrays args s ++ Jvm.staticLocs frame_1_statics s) 40 2816 → Post tb e args s (.returned v) u) :
    ArmFor flags0 classFile x code maxLocals ret World_1 tables_1 room_1 Calls_1 rest_1 Pre_1 Post := by
  intro l hfl _ _ p e ha hc hk s m args below hf hA hF happ hP
  obtain ⟨hcalls, hrest, hpre⟩ := hP
  obtain ⟨-, -, -, hnamed, -, -, -, hat⟩ := (Spec.applies_iff hf).mp happ
  obtain ⟨hg, hn⟩ := and_e (Cond.before_iff.mp (show (Jvm.Cond.and given_1 narrow_1).before args s = true from hpre))
  obtain ⟨g0, hg⟩ := and_e hg
  obtain ⟨ga0, hg⟩ := and_e hg
  obtain ⟨ga1, hg⟩ := and_e hg
  obtain ⟨ga2, hg⟩ := and_e hg
  obtain ⟨w0, w1, w2, w3, rfl⟩ : ∃ w0 w1 w2 w3 : Value, args = #[w0, w1, w2, w3] := by
    have hs : args.size = 4 := by simpa [Cond.value, given_1] using g0
    obtain ⟨L⟩ := args
    match L, hs with
    | [w0, w1, w2, w3], _ => exact ⟨w0, w1, w2, w3, rfl⟩
  have hw := fun d (hd : d ∈ tables_1) => atoms_spec (ws := Jvm.Cond.code x code maxLocals ret :: tables_1) hat d (List.mem_cons_of_mem _ hd)
  have hj := (atoms_of (own := restOwn_1) jdkStatics_1 (show (jdkStatics_1.foldr Jvm.Cond.and restOwn_1).before _ s = true from hrest)).1
  obtain ⟨cs, hcs, S0⟩ := own_cs hj
  have hCH := own_CH hw hj hcalls.1
  obtain ⟨fv, hfv, S1⟩ := own_fv hj
  obtain ⟨i0, ei0⟩ := is_v ga0
  obtain rfl : w0 = (.int i0) := Option.some.inj ei0
  obtain ⟨i1, ei1⟩ := is_v ga1
  obtain rfl : w1 = (.int i1) := Option.some.inj ei1
  obtain ⟨i2, ei2⟩ := is_v ga2
  obtain rfl : w2 = (.int i2) := Option.some.inj ei2
  obtain ⟨i3, ei3⟩ := is_v hg
  obtain rfl : w3 = (.int i3) := Option.some.inj ei3
  obtain ⟨n, o, h1, h2, h3, _, L, rfl, ⟨rfl, N⟩, -, hq⟩ := rm0 l s _ hw i0 i1 i2 i3 s.heap cs hcs S0 fv hfv S1 p e ha hc hk s m _ below hf ((Spec.applies_iff_loose hf).mp happ).1 ⟨rfl, State.Warmed39.refl s, rfl, hCH⟩ trivial
  exact ⟨n, _, h1, h2, h3, hpost _ _ _ _ _ _ ⟨Cond.after_iff.mpr rfl, Cond.after_iff.mpr (eq_i res_at (Term.int_eval (1)) rfl)⟩ ⟨hq.1, hq.2.1, hq.2.2.1, (hq.2.2.2.sift fun y hy => Or.inr (N y hy)).mono (by decide) (by decide)⟩⟩
theorem main_1_1 : Claimed_1_1 := comes_1 fun _ _ _ _ _ _ h hF => ⟨h.1, hF⟩
theorem main_1_2 : Claimed_1_2 := comes_1 fun _ _ _ _ _ _ h hF => ⟨h.2, hF⟩
end Jvm.Pilot.@@N@@
namespace Jvm.Pilot.@@N@@
open Jvm Jvm.ClassFile Sem Op Lib Jvm.Free Jvm.Stand Jvm.Pilot.@@N@@.Jvm.D
/-! MADE BY PROGRAM (witnessworld.py) out of the Statement's table words and the real class files: 25 classes; the members and pool entries that the words name. The judged class is class 1, her method 3. -/
namespace start1
open Jvm.ClassFile
def u (s : String) : CpInfo := .utf8 (stringToUtf16 s)
/-- a pool by its gaps: so many unusable entries, then the entry; so many at the end -/
def gap : Nat → List CpInfo → List CpInfo
  | 0, r => r
  | n + 1, r => .unusable :: gap n r
def poolList (es : List (Nat × CpInfo)) (last : Nat) : List CpInfo := es.foldr (fun e r => gap e.1 (e.2 :: r)) (gap last [])
def pool (es : List (Nat × CpInfo)) (last : Nat) : Array CpInfo := ⟨poolList es last⟩
def fileOf (pool : Array CpInfo) (this : Nat) (attrs : Array Attribute := #[]) (ms : Array MethodInfo := #[]) (fl : Nat := 33) (sup : Nat := 0) (ifs : Array Nat := #[]) (fds : Array FieldInfo := #[]) : ClassFile where
  minorVersion := 0
  majorVersion := 65
  constantPool := pool
  accessFlags := fl
  thisClass := this
  superClass := sup
  interfaces := ifs
  fields := fds
  methods := ms
  attributes := attrs
def plain (name : String) (sup : Option ClassId) : Class where
  name := name
  kind := .ordinary
  loader := none
  accessFlags := 33
  super := sup
  interfaces := #[]
  cf := none
  fields := #[]
  methods := #[]
  instanceTypes := #[]
  staticTypes := #[]
  resolved := #[]
  callSites := []
  init := .initialized
  statics := none
  mirror := none

def pool0 : Array CpInfo := pool [(5, u "<init>"), (0, u "()V"), (1, .class_ 10), (1, u "java/lang/Object")] 113

def k0c0 : Code := { maxStack := 0, maxLocals := 1, code := object_method_1_code, exceptionTable := #[], attributes := #[] }
def k0m0 : Method := { name := "<init>", desc := "()V", sig := { parameters := [], returnType := none }, accessFlags := 1, code := some k0c0 }
/-- java/lang/Object -/
def k0 : Class := { plain "java/lang/Object" none with
  accessFlags := 33
  interfaces := #[]
  cf := some (fileOf pool0 8 #[] #[{ accessFlags := 1, nameIndex := 5, descriptorIndex := 6, attributes := #[] }] 33 0 #[] #[])
  fields := #[]
  methods := #[k0m0]
  instanceTypes := #[]
  staticTypes := #[]
  resolved := Array.replicate 124 none
  statics := none }

def pool1 : Array CpInfo := pool [(2, .class_ 4), (0, .nameAndType 5 6), (0, u "java/lang/Object"), (0, u "<init>"), (0, u "()V"), (0, .string 8), (0, u "ABCDEFGHIJKLMNOPQRSTUVWXYZabcdefghijklmnopqrstuvwxyz0123456789-_"), (0, .methodref 10 11), (0, .class_ 12), (0, .nameAndType 13 14), (0, u "java/lang/String"), (0, u "charAt"), (0, u "(I)C"), (0, .methodref 16 17), (0, .class_ 18), (0, .nameAndType 19 14), (0, u "com/example/optpack/optpack/service/SectionNamesIsEmptyPinLaw"), (0, u "pick"), (0, .methodref 10 21), (0, .nameAndType 5 22), (0, u "([C)V"), (0, .class_ 24), (0, u "com/example/optpack/optpack/service/SectionNames"), (0, .methodref 23 3), (0, .methodref 23 27), (0, .nameAndType 28 29), (0, u "isEmpty"), (0, u "()Z"), (0, .methodref 16 31), (0, .nameAndType 32 33), (0, u "name"), (0, u "(I)Ljava/lang/String;"), (0, .methodref 23 35), (0, .nameAndType 36 37), (0, u "add"), (0, u "(Ljava/lang/String;I)I"), (5, u "law"), (0, u "(IIII)Z")] 2

def k1m0 : Method := { name := "<init>", desc := "()V", sig := { parameters := [], returnType := none }, accessFlags := 1, code := none }
def k1c1 : Code := { maxStack := 3, maxLocals := 1, code := method_2_code, exceptionTable := #[], attributes := #[] }
def k1m1 : Method := { name := "pick", desc := "(I)C", sig := { parameters := [.int], returnType := some .char }, accessFlags := 10, code := some k1c1 }
def k1c2 : Code := { maxStack := 4, maxLocals := 3, code := method_3_code, exceptionTable := #[], attributes := #[] }
def k1m2 : Method := { name := "name", desc := "(I)Ljava/lang/String;", sig := { parameters := [.int], returnType := some (.object "java/lang/String") }, accessFlags := 10, code := some k1c2 }
def k1c3 : Code := { maxStack := 3, maxLocals := 7, code := code, exceptionTable := #[], attributes := #[] }
def k1m3 : Method := { name := "law", desc := "(IIII)Z", sig := { parameters := [.int, .int, .int, .int], returnType := some .boolean }, accessFlags := 9, code := some k1c3 }
/-- com/example/optpack/optpack/service/SectionNamesIsEmptyPinLaw -/
def k1 : Class := { plain "com/example/optpack/optpack/service/SectionNamesIsEmptyPinLaw" (some 0) with
  accessFlags := 49
  interfaces := #[]
  cf := some (fileOf pool1 16 #[] #[{ accessFlags := 1, nameIndex := 5, descriptorIndex := 6, attributes := #[] }, { accessFlags := 10, nameIndex := 19, descriptorIndex := 14, attributes := #[] }, { accessFlags := 10, nameIndex := 32, descriptorIndex := 33, attributes := #[] }, { accessFlags := 9, nameIndex := 43, descriptorIndex := 44, attributes := #[] }] 49 2 #[] #[])
  fields := #[]
  methods := #[k1m0, k1m1, k1m2, k1m3]
  instanceTypes := #[]
  staticTypes := #[]
  resolved := Array.replicate 47 none
  statics := none }

def pool2 : Array CpInfo := pool [(1, .methodref 2 3), (0, .class_ 4), (0, .nameAndType 5 6), (0, u "java/lang/Object"), (0, u "<init>"), (0, u "()V"), (0, .fieldref 8 9), (0, .class_ 10), (0, .nameAndType 11 12), (0, u "com/example/optpack/optpack/service/SectionNames"), (0, u "names"), (0, u "[B"), (0, .methodref 8 14), (0, .nameAndType 15 16), (0, u "free"), (0, u "(I)[I"), (0, .fieldref 8 18), (0, .nameAndType 19 20), (0, u "slots"), (0, u "[I"), (0, .fieldref 8 22), (0, .nameAndType 23 20), (0, u "lines"), (0, .fieldref 8 25), (0, .nameAndType 26 27), (0, u "used"), (0, u "I"), (0, .methodref 29 30), (0, .class_ 31), (0, .nameAndType 32 33), (0, u "java/lang/String"), (0, u "length"), (0, u "()I"), (0, .methodref 8 35), (0, .nameAndType 36 37), (0, u "reserve"), (0, u "(I)V"), (0, .methodref 29 39), (0, .nameAndType 40 41), (0, u "charAt"), (0, u "(I)C"), (0, .methodref 8 43), (0, .nameAndType 44 45), (0, u "slot"), (0, u "(I)I"), (0, .fieldref 8 47), (0, .nameAndType 48 27), (0, u "count"), (0, .double 4604930618986332160), (4, .methodref 8 55), (0, .nameAndType 56 45), (0, u "hash"), (0, .methodref 8 58), (0, .nameAndType 59 60), (0, u "same"), (0, u "(II)Z"), (0, .fieldref 8 62), (0, .nameAndType 63 64), (0, u "key0"), (0, u "J"), (0, .fieldref 8 66), (0, .nameAndType 67 64), (0, u "key1"), (0, .methodref 69 70), (0, .class_ 71), (0, .nameAndType 56 72), (0, u "com/example/optpack/optpack/service/SipHash"), (0, u "(JJ[BII)J"), (7, .class_ 82), (1, u "java/util/Arrays"), (3, .class_ 88), (1, u "com/example/optpack/optpack/service/SectionNames$Key"), (4, .methodref 80 94), (0, .nameAndType 95 96), (0, u "fill"), (0, u "([II)V"), (0, u "END"), (0, u "B"), (2, u "FREE"), (1, u "MAX_LOAD"), (0, u "D"), (0, u "FIRST_SLOTS"), (3, u "add"), (0, u "(Ljava/lang/String;I)I"), (2, u "isEmpty"), (0, u "()Z")] 6

def k2c0 : Code := { maxStack := 2, maxLocals := 1, code := prog_73_method_1_code, exceptionTable := #[], attributes := #[] }
def k2m0 : Method := { name := "<init>", desc := "()V", sig := { parameters := [], returnType := none }, accessFlags := 0, code := some k2c0 }
def k2c1 : Code := { maxStack := 6, maxLocals := 6, code := prog_73_method_2_code, exceptionTable := #[], attributes := #[] }
def k2m1 : Method := { name := "add", desc := "(Ljava/lang/String;I)I", sig := { parameters := [(.object "java/lang/String"), .int], returnType := some .int }, accessFlags := 0, code := some k2c1 }
def k2c2 : Code := { maxStack := 1, maxLocals := 1, code := prog_73_method_3_code, exceptionTable := #[], attributes := #[] }
def k2m2 : Method := { name := "isEmpty", desc := "()Z", sig := { parameters := [], returnType := some .boolean }, accessFlags := 0, code := some k2c2 }
def k2c3 : Code := { maxStack := 3, maxLocals := 4, code := prog_73_method_4_code, exceptionTable := #[], attributes := #[] }
def k2m3 : Method := { name := "slot", desc := "(I)I", sig := { parameters := [.int], returnType := some .int }, accessFlags := 2, code := some k2c3 }
def k2c4 : Code := { maxStack := 7, maxLocals := 3, code := prog_73_method_5_code, exceptionTable := #[], attributes := #[] }
def k2m4 : Method := { name := "hash", desc := "(I)I", sig := { parameters := [.int], returnType := some .int }, accessFlags := 2, code := some k2c4 }
def k2c5 : Code := { maxStack := 4, maxLocals := 4, code := prog_73_method_6_code, exceptionTable := #[], attributes := #[] }
def k2m5 : Method := { name := "same", desc := "(II)Z", sig := { parameters := [.int, .int], returnType := some .boolean }, accessFlags := 2, code := some k2c5 }
def k2c6 : Code := { maxStack := 5, maxLocals := 2, code := prog_73_method_7_code, exceptionTable := #[], attributes := #[] }
def k2m6 : Method := { name := "reserve", desc := "(I)V", sig := { parameters := [.int], returnType := none }, accessFlags := 2, code := some k2c6 }
def k2c7 : Code := { maxStack := 2, maxLocals := 2, code := prog_73_method_9_code, exceptionTable := #[], attributes := #[] }
def k2m7 : Method := { name := "free", desc := "(I)[I", sig := { parameters := [.int], returnType := some (.array .int) }, accessFlags := 10, code := some k2c7 }
/-- com/example/optpack/optpack/service/SectionNames -/
def k2 : Class := { plain "com/example/optpack/optpack/service/SectionNames" (some 0) with
  accessFlags := 48
  interfaces := #[]
  cf := some (fileOf pool2 8 #[.nestMembers #[86]] #[{ accessFlags := 0, nameIndex := 5, descriptorIndex := 6, attributes := #[] }, { accessFlags := 0, nameIndex := 109, descriptorIndex := 110, attributes := #[] }, { accessFlags := 0, nameIndex := 113, descriptorIndex := 114, attributes := #[] }, { accessFlags := 2, nameIndex := 44, descriptorIndex := 45, attributes := #[] }, { accessFlags := 2, nameIndex := 56, descriptorIndex := 45, attributes := #[] }, { accessFlags := 2, nameIndex := 59, descriptorIndex := 60, attributes := #[] }, { accessFlags := 2, nameIndex := 36, descriptorIndex := 37, attributes := #[] }, { accessFlags := 10, nameIndex := 15, descriptorIndex := 16, attributes := #[] }] 48 2 #[] #[{ accessFlags := 26, nameIndex := 97, descriptorIndex := 98, attributes := #[] }, { accessFlags := 26, nameIndex := 101, descriptorIndex := 27, attributes := #[] }, { accessFlags := 26, nameIndex := 103, descriptorIndex := 104, attributes := #[] }, { accessFlags := 26, nameIndex := 105, descriptorIndex := 27, attributes := #[] }, { accessFlags := 2, nameIndex := 11, descriptorIndex := 12, attributes := #[] }, { accessFlags := 2, nameIndex := 26, descriptorIndex := 27, attributes := #[] }, { accessFlags := 2, nameIndex := 19, descriptorIndex := 20, attributes := #[] }, { accessFlags := 2, nameIndex := 23, descriptorIndex := 20, attributes := #[] }, { accessFlags := 2, nameIndex := 48, descriptorIndex := 27, attributes := #[] }, { accessFlags := 2, nameIndex := 63, descriptorIndex := 64, attributes := #[] }, { accessFlags := 2, nameIndex := 67, descriptorIndex := 64, attributes := #[] }])
  fields := #[{ name := "END", type := .byte, accessFlags := 26, slot := 0, constantValue := 0 }, { name := "FREE", type := .int, accessFlags := 26, slot := 1, constantValue := 0 }, { name := "MAX_LOAD", type := .double, accessFlags := 26, slot := 2, constantValue := 0 }, { name := "FIRST_SLOTS", type := .int, accessFlags := 26, slot := 3, constantValue := 0 }, { name := "names", type := (.array .byte), accessFlags := 2, slot := 0, constantValue := 0 }, { name := "used", type := .int, accessFlags := 2, slot := 1, constantValue := 0 }, { name := "slots", type := (.array .int), accessFlags := 2, slot := 2, constantValue := 0 }, { name := "lines", type := (.array .int), accessFlags := 2, slot := 3, constantValue := 0 }, { name := "count", type := .int, accessFlags := 2, slot := 4, constantValue := 0 }, { name := "key0", type := .long, accessFlags := 2, slot := 5, constantValue := 0 }, { name := "key1", type := .long, accessFlags := 2, slot := 6, constantValue := 0 }]
  methods := #[k2m0, k2m1, k2m2, k2m3, k2m4, k2m5, k2m6, k2m7]
  instanceTypes := #[(.array .byte), .int, (.array .int), (.array .int), .int, .long, .long]
  staticTypes := #[.byte, .int, .double, .int]
  resolved := Array.replicate 121 none
  statics := none }

def pool3 : Array CpInfo := pool [(2, .class_ 4), (1, u "java/lang/Object"), (0, u "<init>"), (0, u "()V"), (7, .class_ 16), (1, u "java/util/Arrays"), (57, .class_ 76), (1, u "java/util/Arrays$NaturalOrder"), (36, .class_ 115), (1, u "java/util/Arrays$LegacyMergeSort"), (1, u "Z"), (257, .class_ 376), (0, u "java/util/Arrays$ArrayList"), (68, u "$assertionsDisabled"), (269, u "MIN_ARRAY_SORT_GRAN"), (0, u "I"), (2, u "INSERTIONSORT_THRESHOLD"), (120, u "fill"), (4, u "([II)V"), (129, .class_ 976), (0, u "java/util/Arrays$ArrayItr")] 52

def k3m0 : Method := { name := "<init>", desc := "()V", sig := { parameters := [], returnType := none }, accessFlags := 2, code := none }
def k3c1 : Code := { maxStack := 3, maxLocals := 4, code := jdk_65_method_103_code, exceptionTable := #[], attributes := #[] }
def k3m1 : Method := { name := "fill", desc := "([II)V", sig := { parameters := [(.array .int), .int], returnType := none }, accessFlags := 9, code := some k3c1 }
/-- java/util/Arrays -/
def k3 : Class := { plain "java/util/Arrays" (some 0) with
  accessFlags := 49
  interfaces := #[]
  cf := some (fileOf pool3 14 #[.nestMembers #[975, 375, 113, 74]] #[{ accessFlags := 2, nameIndex := 5, descriptorIndex := 6, attributes := #[] }, { accessFlags := 9, nameIndex := 840, descriptorIndex := 845, attributes := #[] }] 49 2 #[] #[{ accessFlags := 26, nameIndex := 715, descriptorIndex := 716, attributes := #[] }, { accessFlags := 26, nameIndex := 719, descriptorIndex := 716, attributes := #[] }, { accessFlags := 4120, nameIndex := 445, descriptorIndex := 117, attributes := #[] }])
  fields := #[{ name := "MIN_ARRAY_SORT_GRAN", type := .int, accessFlags := 26, slot := 0, constantValue := 0 }, { name := "INSERTIONSORT_THRESHOLD", type := .int, accessFlags := 26, slot := 1, constantValue := 0 }, { name := "$assertionsDisabled", type := .boolean, accessFlags := 4120, slot := 2, constantValue := 0 }]
  methods := #[k3m0, k3m1]
  instanceTypes := #[]
  staticTypes := #[.int, .int, .boolean]
  resolved := Array.replicate 1029 none
  statics := none }

def pool4 : Array CpInfo := pool [(1, .class_ 2), (0, u "java/io/Serializable"), (0, .class_ 4), (0, u "java/lang/Object")] 2

/-- java/io/Serializable -/
def k4 : Class := { plain "java/io/Serializable" (some 0) with
  accessFlags := 1537
  interfaces := #[]
  cf := some (fileOf pool4 1 #[] #[] 1537 3 #[] #[])
  fields := #[]
  methods := #[]
  instanceTypes := #[]
  staticTypes := #[]
  resolved := Array.replicate 7 none
  statics := none }

def pool5 : Array CpInfo := pool [(1, .class_ 2), (0, u "java/lang/Comparable"), (0, .class_ 4), (0, u "java/lang/Object")] 7

/-- java/lang/Comparable -/
def k5 : Class := { plain "java/lang/Comparable" (some 0) with
  accessFlags := 1537
  interfaces := #[]
  cf := some (fileOf pool5 1 #[] #[] 1537 3 #[] #[])
  fields := #[]
  methods := #[]
  instanceTypes := #[]
  staticTypes := #[]
  resolved := Array.replicate 12 none
  statics := none }

def pool6 : Array CpInfo := pool [(2, .class_ 4), (1, u "java/lang/CharSequence"), (42, .class_ 48), (0, u "java/lang/CharSequence$1CodePointIterator"), (10, .class_ 60), (0, u "java/lang/CharSequence$1CharIterator"), (5, .class_ 67), (0, u "java/lang/Object")] 63

/-- java/lang/CharSequence -/
def k6 : Class := { plain "java/lang/CharSequence" (some 0) with
  accessFlags := 1537
  interfaces := #[]
  cf := some (fileOf pool6 2 #[.nestMembers #[47, 59]] #[] 1537 66 #[] #[])
  fields := #[]
  methods := #[]
  instanceTypes := #[]
  staticTypes := #[]
  resolved := Array.replicate 131 none
  statics := none }

def pool7 : Array CpInfo := pool [(1, .class_ 2), (0, u "java/lang/constant/Constable"), (0, .class_ 4), (0, u "java/lang/Object")] 6

/-- java/lang/constant/Constable -/
def k7 : Class := { plain "java/lang/constant/Constable" (some 0) with
  accessFlags := 1537
  interfaces := #[]
  cf := some (fileOf pool7 1 #[] #[] 1537 3 #[] #[])
  fields := #[]
  methods := #[]
  instanceTypes := #[]
  staticTypes := #[]
  resolved := Array.replicate 11 none
  statics := none }

def pool8 : Array CpInfo := pool [(1, .class_ 2), (0, u "java/lang/constant/ConstantDesc"), (0, .class_ 4), (0, u "java/lang/Object")] 32

/-- java/lang/constant/ConstantDesc -/
def k8 : Class := { plain "java/lang/constant/ConstantDesc" (some 0) with
  accessFlags := 1537
  interfaces := #[]
  cf := some (fileOf pool8 1 #[] #[] 1537 3 #[] #[])
  fields := #[]
  methods := #[]
  instanceTypes := #[]
  staticTypes := #[]
  resolved := Array.replicate 37 none
  statics := none }

def pool9 : Array CpInfo := pool [(1, .methodref 2 3), (0, .class_ 4), (0, .nameAndType 5 6), (0, u "java/lang/Object"), (0, u "<init>"), (0, u "()V"), (0, .string 8), (0, u ""), (0, .fieldref 10 11), (0, .class_ 12), (0, .nameAndType 13 14), (0, u "java/lang/String"), (0, u "value"), (0, u "[B"), (0, .fieldref 10 16), (0, .nameAndType 17 18), (0, u "coder"), (0, u "B"), (2, u "hash"), (0, u "I"), (2, u "hashIsZero"), (0, u "Z"), (0, .methodref 10 28), (0, .nameAndType 5 29), (0, u "([CIILjava/lang/Void;)V"), (8, .fieldref 10 39), (0, .nameAndType 40 26), (0, u "COMPACT_STRINGS"), (1, .class_ 44), (1, u "java/lang/StringUTF16"), (0, u "compress"), (1, .methodref 42 48), (0, .nameAndType 49 50), (0, u "coderFromArrayLen"), (0, u "([BI)B"), (56, .class_ 109), (1, u "java/lang/StringLatin1"), (32, u "()Z"), (34, .methodref 42 178), (0, .nameAndType 45 179), (0, u "([CII)[B"), (154, u "()I"), (0, .methodref 10 336), (0, .nameAndType 17 337), (0, u "()B"), (25, u "([BI)C"), (27, u "(II)V"), (35, u "(I)C"), (64, .methodref 10 493), (0, .nameAndType 494 142), (0, u "isLatin1"), (0, .methodref 107 496), (0, .nameAndType 497 363), (0, u "charAt"), (3, u "checkIndex"), (5, u "length"), (67, .class_ 576), (0, u "java/lang/CharSequence"), (22, u "CASE_INSENSITIVE_ORDER"), (0, u "Ljava/util/Comparator;"), (409, u "([C)V"), (42, .fieldref 1054 1055), (0, .class_ 1056), (0, .nameAndType 1057 1058), (0, u "jdk/internal/util/Preconditions"), (0, u "SIOOBE_FORMATTER"), (0, u "Ljava/util/function/BiFunction;"), (0, .methodref 1054 1060), (0, .nameAndType 501 1061), (0, u "(IILjava/util/function/BiFunction;)I"), (39, u "serialPersistentFields"), (0, u "[Ljava/io/ObjectStreamField;"), (0, .class_ 1104), (0, u "java/lang/String$CaseInsensitiveComparator"), (1, .class_ 1107), (0, u "java/io/Serializable"), (0, .class_ 1109), (0, u "java/lang/Comparable"), (0, .class_ 1111), (0, u "java/lang/constant/Constable"), (0, .class_ 1113), (0, u "java/lang/constant/ConstantDesc"), (2, u "serialVersionUID"), (0, u "J"), (3, u "REPL"), (0, u "C"), (2, u "LATIN1"), (1, u "UTF16")] 323

def k9m0 : Method := { name := "<init>", desc := "()V", sig := { parameters := [], returnType := none }, accessFlags := 1, code := none }
def k9c1 : Code := { maxStack := 5, maxLocals := 2, code := jdk_42_method_3_code, exceptionTable := #[], attributes := #[] }
def k9m1 : Method := { name := "<init>", desc := "([C)V", sig := { parameters := [(.array .char)], returnType := none }, accessFlags := 1, code := some k9c1 }
def k9c2 : Code := { maxStack := 2, maxLocals := 1, code := jdk_42_method_54_code, exceptionTable := #[], attributes := #[] }
def k9m2 : Method := { name := "length", desc := "()I", sig := { parameters := [], returnType := some .int }, accessFlags := 1, code := some k9c2 }
def k9c3 : Code := { maxStack := 2, maxLocals := 2, code := jdk_42_method_56_code, exceptionTable := #[], attributes := #[] }
def k9m3 : Method := { name := "charAt", desc := "(I)C", sig := { parameters := [.int], returnType := some .char }, accessFlags := 1, code := some k9c3 }
def k9c4 : Code := { maxStack := 4, maxLocals := 6, code := jdk_42_method_149_code, exceptionTable := #[], attributes := #[] }
def k9m4 : Method := { name := "<init>", desc := "([CIILjava/lang/Void;)V", sig := { parameters := [(.array .char), .int, .int, (.object "java/lang/Void")], returnType := none }, accessFlags := 2, code := some k9c4 }
def k9c5 : Code := { maxStack := 1, maxLocals := 1, code := jdk_42_method_152_code, exceptionTable := #[], attributes := #[] }
def k9m5 : Method := { name := "coder", desc := "()B", sig := { parameters := [], returnType := some .byte }, accessFlags := 0, code := some k9c5 }
def k9c6 : Code := { maxStack := 1, maxLocals := 1, code := jdk_42_method_154_code, exceptionTable := #[], attributes := #[] }
def k9m6 : Method := { name := "isLatin1", desc := "()Z", sig := { parameters := [], returnType := some .boolean }, accessFlags := 0, code := some k9c6 }
def k9c7 : Code := { maxStack := 3, maxLocals := 2, code := jdk_42_method_155_code, exceptionTable := #[], attributes := #[] }
def k9m7 : Method := { name := "checkIndex", desc := "(II)V", sig := { parameters := [.int, .int], returnType := none }, accessFlags := 8, code := some k9c7 }
/-- java/lang/String -/
def k9 : Class := { plain "java/lang/String" (some 0) with
  accessFlags := 49
  interfaces := #[4, 5, 6, 7, 8]
  cf := some (fileOf pool9 10 #[.nestMembers #[1103]] #[{ accessFlags := 1, nameIndex := 5, descriptorIndex := 6, attributes := #[] }, { accessFlags := 1, nameIndex := 5, descriptorIndex := 1010, attributes := #[] }, { accessFlags := 1, nameIndex := 507, descriptorIndex := 334, attributes := #[] }, { accessFlags := 1, nameIndex := 497, descriptorIndex := 427, attributes := #[] }, { accessFlags := 2, nameIndex := 5, descriptorIndex := 29, attributes := #[] }, { accessFlags := 0, nameIndex := 17, descriptorIndex := 337, attributes := #[] }, { accessFlags := 0, nameIndex := 494, descriptorIndex := 142, attributes := #[] }, { accessFlags := 8, nameIndex := 501, descriptorIndex := 391, attributes := #[] }] 49 2 #[1106, 1108, 575, 1110, 1112] #[{ accessFlags := 18, nameIndex := 13, descriptorIndex := 14, attributes := #[] }, { accessFlags := 18, nameIndex := 17, descriptorIndex := 18, attributes := #[] }, { accessFlags := 2, nameIndex := 21, descriptorIndex := 22, attributes := #[] }, { accessFlags := 2, nameIndex := 25, descriptorIndex := 26, attributes := #[] }, { accessFlags := 26, nameIndex := 1116, descriptorIndex := 1117, attributes := #[] }, { accessFlags := 24, nameIndex := 40, descriptorIndex := 26, attributes := #[] }, { accessFlags := 26, nameIndex := 1101, descriptorIndex := 1102, attributes := #[] }, { accessFlags := 26, nameIndex := 1121, descriptorIndex := 1122, attributes := #[] }, { accessFlags := 25, nameIndex := 599, descriptorIndex := 600, attributes := #[] }, { accessFlags := 24, nameIndex := 1125, descriptorIndex := 18, attributes := #[] }, { accessFlags := 24, nameIndex := 1127, descriptorIndex := 18, attributes := #[] }])
  fields := #[{ name := "value", type := (.array .byte), accessFlags := 18, slot := 0, constantValue := 0 }, { name := "coder", type := .byte, accessFlags := 18, slot := 1, constantValue := 0 }, { name := "hash", type := .int, accessFlags := 2, slot := 2, constantValue := 0 }, { name := "hashIsZero", type := .boolean, accessFlags := 2, slot := 3, constantValue := 0 }, { name := "serialVersionUID", type := .long, accessFlags := 26, slot := 0, constantValue := 0 }, { name := "COMPACT_STRINGS", type := .boolean, accessFlags := 24, slot := 1, constantValue := 0 }, { name := "serialPersistentFields", type := (.array (.object "java/io/ObjectStreamField")), accessFlags := 26, slot := 2, constantValue := 0 }, { name := "REPL", type := .char, accessFlags := 26, slot := 3, constantValue := 0 }, { name := "CASE_INSENSITIVE_ORDER", type := (.object "java/util/Comparator"), accessFlags := 25, slot := 4, constantValue := 0 }, { name := "LATIN1", type := .byte, accessFlags := 24, slot := 5, constantValue := 0 }, { name := "UTF16", type := .byte, accessFlags := 24, slot := 6, constantValue := 0 }]
  methods := #[k9m0, k9m1, k9m2, k9m3, k9m4, k9m5, k9m6, k9m7]
  instanceTypes := #[(.array .byte), .byte, .int, .boolean]
  staticTypes := #[.long, .boolean, (.array (.object "java/io/ObjectStreamField")), .char, (.object "java/util/Comparator"), .byte, .byte]
  resolved := Array.replicate 1451 none
  statics := some 0 }

def pool10 : Array CpInfo := pool [(1, .class_ 2), (0, u "java/lang/String"), (1, .class_ 6), (1, u "java/lang/Object"), (0, u "<init>"), (0, u "()V"), (0, .methodref 1 10), (0, .nameAndType 11 12), (0, u "checkIndex"), (0, u "(II)V"), (1, .class_ 16), (1, u "java/lang/StringLatin1"), (36, u "([BI)C"), (67, u "$assertionsDisabled"), (0, u "Z"), (98, .class_ 223), (1, u "java/lang/StringLatin1$LinesSpliterator"), (28, u "charAt"), (137, .class_ 391), (0, u "java/lang/StringLatin1$CharsSpliterator")] 3

def k10m0 : Method := { name := "<init>", desc := "()V", sig := { parameters := [], returnType := none }, accessFlags := 0, code := none }
def k10c1 : Code := { maxStack := 2, maxLocals := 2, code := jdk_43_method_2_code, exceptionTable := #[], attributes := #[] }
def k10m1 : Method := { name := "charAt", desc := "([BI)C", sig := { parameters := [(.array .byte), .int], returnType := some .char }, accessFlags := 9, code := some k10c1 }
/-- java/lang/StringLatin1 -/
def k10 : Class := { plain "java/lang/StringLatin1" (some 0) with
  accessFlags := 48
  interfaces := #[]
  cf := some (fileOf pool10 14 #[.nestMembers #[390, 221]] #[{ accessFlags := 0, nameIndex := 7, descriptorIndex := 8, attributes := #[] }, { accessFlags := 9, nameIndex := 252, descriptorIndex := 53, attributes := #[] }] 48 4 #[] #[{ accessFlags := 4120, nameIndex := 121, descriptorIndex := 122, attributes := #[] }])
  fields := #[{ name := "$assertionsDisabled", type := .boolean, accessFlags := 4120, slot := 0, constantValue := 0 }]
  methods := #[k10m0, k10m1]
  instanceTypes := #[]
  staticTypes := #[.boolean]
  resolved := Array.replicate 395 none
  statics := none }

def pool11 : Array CpInfo := pool [(2, .class_ 4), (1, u "java/lang/Object"), (0, u "<init>"), (0, u "()V"), (17, .class_ 26), (1, u "jdk/internal/util/Preconditions"), (6, u "checkIndex"), (21, .class_ 56), (0, u "jdk/internal/util/Preconditions$4"), (57, .class_ 115), (0, u "jdk/internal/util/Preconditions$1"), (7, u "SIOOBE_FORMATTER"), (0, u "Ljava/util/function/BiFunction;"), (0, .class_ 126), (0, u "jdk/internal/util/Preconditions$2"), (3, u "AIOOBE_FORMATTER"), (0, .class_ 132), (0, u "jdk/internal/util/Preconditions$3"), (3, u "IOOBE_FORMATTER"), (41, u "(IILjava/util/function/BiFunction;)I")] 15

def k11m0 : Method := { name := "<init>", desc := "()V", sig := { parameters := [], returnType := none }, accessFlags := 1, code := none }
def k11c1 : Code := { maxStack := 3, maxLocals := 3, code := jdk_41_method_11_code, exceptionTable := #[], attributes := #[] }
def k11m1 : Method := { name := "checkIndex", desc := "(IILjava/util/function/BiFunction;)I", sig := { parameters := [.int, .int, (.object "java/util/function/BiFunction")], returnType := some .int }, accessFlags := 9, code := some k11c1 }
/-- jdk/internal/util/Preconditions -/
def k11 : Class := { plain "jdk/internal/util/Preconditions" (some 0) with
  accessFlags := 33
  interfaces := #[]
  cf := some (fileOf pool11 24 #[.nestMembers #[55, 131, 125, 114]] #[{ accessFlags := 1, nameIndex := 5, descriptorIndex := 6, attributes := #[] }, { accessFlags := 9, nameIndex := 33, descriptorIndex := 178, attributes := #[] }] 33 2 #[] #[{ accessFlags := 25, nameIndex := 123, descriptorIndex := 124, attributes := #[] }, { accessFlags := 25, nameIndex := 130, descriptorIndex := 124, attributes := #[] }, { accessFlags := 25, nameIndex := 136, descriptorIndex := 124, attributes := #[] }])
  fields := #[{ name := "SIOOBE_FORMATTER", type := (.object "java/util/function/BiFunction"), accessFlags := 25, slot := 0, constantValue := 0 }, { name := "AIOOBE_FORMATTER", type := (.object "java/util/function/BiFunction"), accessFlags := 25, slot := 1, constantValue := 0 }, { name := "IOOBE_FORMATTER", type := (.object "java/util/function/BiFunction"), accessFlags := 25, slot := 2, constantValue := 0 }]
  methods := #[k11m0, k11m1]
  instanceTypes := #[]
  staticTypes := #[(.object "java/util/function/BiFunction"), (.object "java/util/function/BiFunction"), (.object "java/util/function/BiFunction")]
  resolved := Array.replicate 194 none
  statics := some 1 }

def pool12 : Array CpInfo := pool [(6, .class_ 8), (1, u "java/lang/Object"), (0, u "<init>"), (0, u "()V"), (1, .class_ 14), (1, u "java/lang/StringUTF16"), (31, u "$assertionsDisabled"), (0, u "Z"), (13, u "HI_BYTE_SHIFT"), (0, u "I"), (2, u "LO_BYTE_SHIFT"), (49, .methodref 12 116), (0, .nameAndType 117 118), (0, u "compress"), (0, u "([CI[BII)I"), (3, u "([CII)[B"), (138, u "coderFromArrayLen"), (0, u "([BI)B"), (106, .class_ 371), (1, u "java/lang/StringUTF16$LinesSpliterator"), (58, u "MAX_LENGTH"), (196, .class_ 628), (0, u "java/lang/StringUTF16$CodePointsSpliterator"), (0, .class_ 630), (0, u "java/lang/StringUTF16$CharsSpliterator")] 4

def k12m0 : Method := { name := "<init>", desc := "()V", sig := { parameters := [], returnType := none }, accessFlags := 0, code := none }
def k12c1 : Code := { maxStack := 2, maxLocals := 2, code := jdk_52_method_15_code, exceptionTable := #[], attributes := #[] }
def k12m1 : Method := { name := "coderFromArrayLen", desc := "([BI)B", sig := { parameters := [(.array .byte), .int], returnType := some .byte }, accessFlags := 8, code := some k12c1 }
def k12c2 : Code := { maxStack := 5, maxLocals := 6, code := jdk_52_method_16_code, exceptionTable := #[], attributes := #[] }
def k12m2 : Method := { name := "compress", desc := "([CII)[B", sig := { parameters := [(.array .char), .int, .int], returnType := some (.array .byte) }, accessFlags := 9, code := some k12c2 }
def k12c3 : Code := { maxStack := 3, maxLocals := 7, code := jdk_52_method_21_code, exceptionTable := #[], attributes := #[] }
def k12m3 : Method := { name := "compress", desc := "([CI[BII)I", sig := { parameters := [(.array .char), .int, (.array .byte), .int, .int], returnType := some .int }, accessFlags := 9, code := some k12c3 }
/-- java/lang/StringUTF16 -/
def k12 : Class := { plain "java/lang/StringUTF16" (some 0) with
  accessFlags := 48
  interfaces := #[]
  cf := some (fileOf pool12 12 #[.nestMembers #[627, 629, 369]] #[{ accessFlags := 0, nameIndex := 9, descriptorIndex := 10, attributes := #[] }, { accessFlags := 8, nameIndex := 261, descriptorIndex := 262, attributes := #[] }, { accessFlags := 9, nameIndex := 117, descriptorIndex := 122, attributes := #[] }, { accessFlags := 9, nameIndex := 117, descriptorIndex := 118, attributes := #[] }] 48 6 #[] #[{ accessFlags := 26, nameIndex := 61, descriptorIndex := 62, attributes := #[] }, { accessFlags := 26, nameIndex := 65, descriptorIndex := 62, attributes := #[] }, { accessFlags := 24, nameIndex := 430, descriptorIndex := 62, attributes := #[] }, { accessFlags := 4120, nameIndex := 46, descriptorIndex := 47, attributes := #[] }])
  fields := #[{ name := "HI_BYTE_SHIFT", type := .int, accessFlags := 26, slot := 0, constantValue := 0 }, { name := "LO_BYTE_SHIFT", type := .int, accessFlags := 26, slot := 1, constantValue := 0 }, { name := "MAX_LENGTH", type := .int, accessFlags := 24, slot := 2, constantValue := 0 }, { name := "$assertionsDisabled", type := .boolean, accessFlags := 4120, slot := 3, constantValue := 0 }]
  methods := #[k12m0, k12m1, k12m2, k12m3]
  instanceTypes := #[]
  staticTypes := #[.int, .int, .int, .boolean]
  resolved := Array.replicate 635 none
  statics := none }

def pool13 : Array CpInfo := pool [(2, .class_ 4), (1, u "java/lang/Object"), (0, u "<init>"), (0, u "()V"), (0, .long 8317987319222330741), (1, .long 7237128888997146477), (1, .long 7816392313619706465), (1, .long 8387220255154660723), (1, .class_ 16), (0, u "com/example/optpack/optpack/service/SipHash"), (0, .methodref 15 18), (0, .nameAndType 19 20), (0, u "wordAt"), (0, u "([BIII)J"), (0, .long 255), (1, .methodref 24 25), (0, .class_ 26), (0, .nameAndType 27 28), (0, u "java/lang/Long"), (0, u "rotateLeft"), (0, u "(JI)J"), (0, .methodref 30 31), (0, .class_ 32), (0, .nameAndType 33 34), (0, u "java/lang/Math"), (0, u "min"), (0, u "(II)I"), (0, u "WORD_ROUNDS"), (0, u "I"), (2, u "FINAL_ROUNDS"), (1, u "WORD_BYTES"), (3, u "hash"), (0, u "(JJ[BII)J")] 5

def k13m0 : Method := { name := "<init>", desc := "()V", sig := { parameters := [], returnType := none }, accessFlags := 2, code := none }
def k13c1 : Code := { maxStack := 5, maxLocals := 21, code := prog_76_method_2_code, exceptionTable := #[], attributes := #[] }
def k13m1 : Method := { name := "hash", desc := "(JJ[BII)J", sig := { parameters := [.long, .long, (.array .byte), .int, .int], returnType := some .long }, accessFlags := 8, code := some k13c1 }
def k13c2 : Code := { maxStack := 6, maxLocals := 8, code := prog_76_method_3_code, exceptionTable := #[], attributes := #[] }
def k13m2 : Method := { name := "wordAt", desc := "([BIII)J", sig := { parameters := [(.array .byte), .int, .int, .int], returnType := some .long }, accessFlags := 10, code := some k13c2 }
/-- com/example/optpack/optpack/service/SipHash -/
def k13 : Class := { plain "com/example/optpack/optpack/service/SipHash" (some 0) with
  accessFlags := 48
  interfaces := #[]
  cf := some (fileOf pool13 15 #[] #[{ accessFlags := 2, nameIndex := 5, descriptorIndex := 6, attributes := #[] }, { accessFlags := 8, nameIndex := 45, descriptorIndex := 46, attributes := #[] }, { accessFlags := 10, nameIndex := 19, descriptorIndex := 20, attributes := #[] }] 48 2 #[] #[{ accessFlags := 26, nameIndex := 35, descriptorIndex := 36, attributes := #[] }, { accessFlags := 26, nameIndex := 39, descriptorIndex := 36, attributes := #[] }, { accessFlags := 26, nameIndex := 41, descriptorIndex := 36, attributes := #[] }])
  fields := #[{ name := "WORD_ROUNDS", type := .int, accessFlags := 26, slot := 0, constantValue := 0 }, { name := "FINAL_ROUNDS", type := .int, accessFlags := 26, slot := 1, constantValue := 0 }, { name := "WORD_BYTES", type := .int, accessFlags := 26, slot := 2, constantValue := 0 }]
  methods := #[k13m0, k13m1, k13m2]
  instanceTypes := #[]
  staticTypes := #[.int, .int, .int]
  resolved := Array.replicate 52 none
  statics := none }

def pool14 : Array CpInfo := pool [(1, .class_ 2), (0, u "java/lang/Math"), (1, .class_ 6), (1, u "java/lang/Object"), (0, u "<init>"), (0, u "()V"), (89, .class_ 100), (1, u "java/lang/Math$RandomNumberGeneratorHolder"), (71, u "negativeZeroFloatBits"), (0, u "J"), (2, u "negativeZeroDoubleBits"), (24, u "min"), (43, u "$assertionsDisabled"), (0, u "Z"), (88, u "(II)I"), (2, u "twoToTheDoubleScaleDown"), (0, u "D"), (4, u "twoToTheDoubleScaleUp"), (9, u "E"), (3, u "PI"), (2, u "TAU"), (2, u "DEGREES_TO_RADIANS"), (0, u "RADIANS_TO_DEGREES")] 94

def k14m0 : Method := { name := "<init>", desc := "()V", sig := { parameters := [], returnType := none }, accessFlags := 2, code := none }
def k14c1 : Code := { maxStack := 2, maxLocals := 2, code := jdk_29_method_69_code, exceptionTable := #[], attributes := #[] }
def k14m1 : Method := { name := "min", desc := "(II)I", sig := { parameters := [.int, .int], returnType := some .int }, accessFlags := 9, code := some k14c1 }
/-- java/lang/Math -/
def k14 : Class := { plain "java/lang/Math" (some 0) with
  accessFlags := 49
  interfaces := #[]
  cf := some (fileOf pool14 1 #[.nestMembers #[98]] #[{ accessFlags := 2, nameIndex := 7, descriptorIndex := 8, attributes := #[] }, { accessFlags := 9, nameIndex := 201, descriptorIndex := 335, attributes := #[] }] 49 4 #[] #[{ accessFlags := 25, nameIndex := 354, descriptorIndex := 339, attributes := #[] }, { accessFlags := 25, nameIndex := 358, descriptorIndex := 339, attributes := #[] }, { accessFlags := 25, nameIndex := 361, descriptorIndex := 339, attributes := #[] }, { accessFlags := 26, nameIndex := 364, descriptorIndex := 339, attributes := #[] }, { accessFlags := 26, nameIndex := 365, descriptorIndex := 339, attributes := #[] }, { accessFlags := 26, nameIndex := 172, descriptorIndex := 173, attributes := #[] }, { accessFlags := 26, nameIndex := 176, descriptorIndex := 173, attributes := #[] }, { accessFlags := 8, nameIndex := 344, descriptorIndex := 339, attributes := #[] }, { accessFlags := 8, nameIndex := 338, descriptorIndex := 339, attributes := #[] }, { accessFlags := 4120, nameIndex := 245, descriptorIndex := 246, attributes := #[] }])
  fields := #[{ name := "E", type := .double, accessFlags := 25, slot := 0, constantValue := 0 }, { name := "PI", type := .double, accessFlags := 25, slot := 1, constantValue := 0 }, { name := "TAU", type := .double, accessFlags := 25, slot := 2, constantValue := 0 }, { name := "DEGREES_TO_RADIANS", type := .double, accessFlags := 26, slot := 3, constantValue := 0 }, { name := "RADIANS_TO_DEGREES", type := .double, accessFlags := 26, slot := 4, constantValue := 0 }, { name := "negativeZeroFloatBits", type := .long, accessFlags := 26, slot := 5, constantValue := 0 }, { name := "negativeZeroDoubleBits", type := .long, accessFlags := 26, slot := 6, constantValue := 0 }, { name := "twoToTheDoubleScaleUp", type := .double, accessFlags := 8, slot := 7, constantValue := 0 }, { name := "twoToTheDoubleScaleDown", type := .double, accessFlags := 8, slot := 8, constantValue := 0 }, { name := "$assertionsDisabled", type := .boolean, accessFlags := 4120, slot := 9, constantValue := 0 }]
  methods := #[k14m0, k14m1]
  instanceTypes := #[]
  staticTypes := #[.double, .double, .double, .double, .double, .long, .long, .double, .double, .boolean]
  resolved := Array.replicate 460 none
  statics := none }

def pool15 : Array CpInfo := pool [(2, .class_ 4), (1, u "java/lang/Object"), (0, u "<init>"), (0, u "()V"), (1, .class_ 10), (1, u "java/lang/Number"), (2, .class_ 14), (0, u "java/io/Serializable"), (0, u "serialVersionUID"), (0, u "J")] 20

def k15m0 : Method := { name := "<init>", desc := "()V", sig := { parameters := [], returnType := none }, accessFlags := 1, code := none }
/-- java/lang/Number -/
def k15 : Class := { plain "java/lang/Number" (some 0) with
  accessFlags := 1057
  interfaces := #[4]
  cf := some (fileOf pool15 8 #[] #[{ accessFlags := 1, nameIndex := 5, descriptorIndex := 6, attributes := #[] }] 1057 2 #[13] #[{ accessFlags := 26, nameIndex := 15, descriptorIndex := 16, attributes := #[] }])
  fields := #[{ name := "serialVersionUID", type := .long, accessFlags := 26, slot := 0, constantValue := 0 }]
  methods := #[k15m0]
  instanceTypes := #[]
  staticTypes := #[.long]
  resolved := Array.replicate 37 none
  statics := none }

def pool16 : Array CpInfo := pool [(1, .class_ 2), (0, u "java/lang/Long"), (232, .class_ 237), (1, u "java/lang/Long$LongCache"), (33, .class_ 272), (0, u "java/lang/Number"), (2, u "value"), (0, u "J"), (84, u "TYPE"), (0, u "Ljava/lang/Class;"), (0, .class_ 364), (0, u "java/lang/Comparable"), (0, .class_ 366), (0, u "java/lang/constant/Constable"), (0, .class_ 368), (0, u "java/lang/constant/ConstantDesc"), (0, u "MIN_VALUE"), (1, u "MAX_VALUE"), (4, u "SIZE"), (0, u "I"), (1, u "BYTES"), (1, u "serialVersionUID"), (95, u "rotateLeft"), (0, u "(JI)J")] 45

def k16c0 : Code := { maxStack := 5, maxLocals := 3, code := jdk_35_method_51_code, exceptionTable := #[], attributes := #[] }
def k16m0 : Method := { name := "rotateLeft", desc := "(JI)J", sig := { parameters := [.long, .int], returnType := some .long }, accessFlags := 9, code := some k16c0 }
/-- java/lang/Long -/
def k16 : Class := { plain "java/lang/Long" (some 15) with
  accessFlags := 49
  interfaces := #[5, 7, 8]
  cf := some (fileOf pool16 1 #[.nestMembers #[235]] #[{ accessFlags := 9, nameIndex := 477, descriptorIndex := 478, attributes := #[] }] 49 271 #[363, 365, 367] #[{ accessFlags := 25, nameIndex := 369, descriptorIndex := 276, attributes := #[] }, { accessFlags := 25, nameIndex := 371, descriptorIndex := 276, attributes := #[] }, { accessFlags := 25, nameIndex := 361, descriptorIndex := 362, attributes := #[] }, { accessFlags := 18, nameIndex := 275, descriptorIndex := 276, attributes := #[] }, { accessFlags := 25, nameIndex := 376, descriptorIndex := 377, attributes := #[] }, { accessFlags := 25, nameIndex := 379, descriptorIndex := 377, attributes := #[] }, { accessFlags := 26, nameIndex := 381, descriptorIndex := 276, attributes := #[] }])
  fields := #[{ name := "MIN_VALUE", type := .long, accessFlags := 25, slot := 0, constantValue := 0 }, { name := "MAX_VALUE", type := .long, accessFlags := 25, slot := 1, constantValue := 0 }, { name := "TYPE", type := (.object "java/lang/Class"), accessFlags := 25, slot := 2, constantValue := 0 }, { name := "value", type := .long, accessFlags := 18, slot := 0, constantValue := 0 }, { name := "SIZE", type := .int, accessFlags := 25, slot := 3, constantValue := 0 }, { name := "BYTES", type := .int, accessFlags := 25, slot := 4, constantValue := 0 }, { name := "serialVersionUID", type := .long, accessFlags := 26, slot := 5, constantValue := 0 }]
  methods := #[k16m0]
  instanceTypes := #[.long]
  staticTypes := #[.long, .long, (.object "java/lang/Class"), .int, .int, .long]
  resolved := Array.replicate 524 none
  statics := none }

def pool17 : Array CpInfo := pool [(9, u "<init>"), (6, .class_ 18), (1, u "java/lang/Object"), (0, u "()V"), (1, .class_ 23), (1, u "jdk/internal/util/ArraysSupport"), (0, u "LOG2_ARRAY_LONG_INDEX_SCALE"), (0, u "I"), (2, u "U"), (0, u "Ljdk/internal/misc/Unsafe;"), (8, u "BIG_ENDIAN"), (0, u "Z"), (8, u "LOG2_BYTE_BIT_SIZE"), (4, u "LOG2_ARRAY_INT_INDEX_SCALE"), (54, u "JLA"), (0, u "Ljdk/internal/access/JavaLangAccess;"), (11, u "LOG2_ARRAY_BOOLEAN_INDEX_SCALE"), (9, u "LOG2_ARRAY_BYTE_INDEX_SCALE"), (5, u "LOG2_ARRAY_CHAR_INDEX_SCALE"), (5, u "LOG2_ARRAY_SHORT_INDEX_SCALE"), (18, u "LOG2_ARRAY_FLOAT_INDEX_SCALE"), (24, u "LOG2_ARRAY_DOUBLE_INDEX_SCALE"), (89, u "T_BOOLEAN"), (2, u "T_CHAR"), (1, u "T_FLOAT"), (1, u "T_DOUBLE"), (1, u "T_BYTE"), (1, u "T_SHORT"), (1, u "T_INT"), (1, u "T_LONG"), (1, u "SOFT_MAX_ARRAY_LENGTH")] 83

def k17m0 : Method := { name := "<init>", desc := "()V", sig := { parameters := [], returnType := none }, accessFlags := 2, code := none }
/-- jdk/internal/util/ArraysSupport -/
def k17 : Class := { plain "jdk/internal/util/ArraysSupport" (some 0) with
  accessFlags := 33
  interfaces := #[]
  cf := some (fileOf pool17 21 #[] #[{ accessFlags := 2, nameIndex := 9, descriptorIndex := 19, attributes := #[] }] 33 16 #[] #[{ accessFlags := 24, nameIndex := 28, descriptorIndex := 29, attributes := #[] }, { accessFlags := 26, nameIndex := 38, descriptorIndex := 39, attributes := #[] }, { accessFlags := 25, nameIndex := 121, descriptorIndex := 25, attributes := #[] }, { accessFlags := 25, nameIndex := 131, descriptorIndex := 25, attributes := #[] }, { accessFlags := 25, nameIndex := 137, descriptorIndex := 25, attributes := #[] }, { accessFlags := 25, nameIndex := 143, descriptorIndex := 25, attributes := #[] }, { accessFlags := 25, nameIndex := 53, descriptorIndex := 25, attributes := #[] }, { accessFlags := 25, nameIndex := 24, descriptorIndex := 25, attributes := #[] }, { accessFlags := 25, nameIndex := 162, descriptorIndex := 25, attributes := #[] }, { accessFlags := 25, nameIndex := 187, descriptorIndex := 25, attributes := #[] }, { accessFlags := 26, nameIndex := 48, descriptorIndex := 25, attributes := #[] }, { accessFlags := 25, nameIndex := 277, descriptorIndex := 25, attributes := #[] }, { accessFlags := 25, nameIndex := 280, descriptorIndex := 25, attributes := #[] }, { accessFlags := 25, nameIndex := 282, descriptorIndex := 25, attributes := #[] }, { accessFlags := 25, nameIndex := 284, descriptorIndex := 25, attributes := #[] }, { accessFlags := 25, nameIndex := 286, descriptorIndex := 25, attributes := #[] }, { accessFlags := 25, nameIndex := 288, descriptorIndex := 25, attributes := #[] }, { accessFlags := 25, nameIndex := 290, descriptorIndex := 25, attributes := #[] }, { accessFlags := 25, nameIndex := 292, descriptorIndex := 25, attributes := #[] }, { accessFlags := 26, nameIndex := 108, descriptorIndex := 109, attributes := #[] }, { accessFlags := 25, nameIndex := 294, descriptorIndex := 25, attributes := #[] }])
  fields := #[{ name := "U", type := (.object "jdk/internal/misc/Unsafe"), accessFlags := 24, slot := 0, constantValue := 0 }, { name := "BIG_ENDIAN", type := .boolean, accessFlags := 26, slot := 1, constantValue := 0 }, { name := "LOG2_ARRAY_BOOLEAN_INDEX_SCALE", type := .int, accessFlags := 25, slot := 2, constantValue := 0 }, { name := "LOG2_ARRAY_BYTE_INDEX_SCALE", type := .int, accessFlags := 25, slot := 3, constantValue := 0 }, { name := "LOG2_ARRAY_CHAR_INDEX_SCALE", type := .int, accessFlags := 25, slot := 4, constantValue := 0 }, { name := "LOG2_ARRAY_SHORT_INDEX_SCALE", type := .int, accessFlags := 25, slot := 5, constantValue := 0 }, { name := "LOG2_ARRAY_INT_INDEX_SCALE", type := .int, accessFlags := 25, slot := 6, constantValue := 0 }, { name := "LOG2_ARRAY_LONG_INDEX_SCALE", type := .int, accessFlags := 25, slot := 7, constantValue := 0 }, { name := "LOG2_ARRAY_FLOAT_INDEX_SCALE", type := .int, accessFlags := 25, slot := 8, constantValue := 0 }, { name := "LOG2_ARRAY_DOUBLE_INDEX_SCALE", type := .int, accessFlags := 25, slot := 9, constantValue := 0 }, { name := "LOG2_BYTE_BIT_SIZE", type := .int, accessFlags := 26, slot := 10, constantValue := 0 }, { name := "T_BOOLEAN", type := .int, accessFlags := 25, slot := 11, constantValue := 0 }, { name := "T_CHAR", type := .int, accessFlags := 25, slot := 12, constantValue := 0 }, { name := "T_FLOAT", type := .int, accessFlags := 25, slot := 13, constantValue := 0 }, { name := "T_DOUBLE", type := .int, accessFlags := 25, slot := 14, constantValue := 0 }, { name := "T_BYTE", type := .int, accessFlags := 25, slot := 15, constantValue := 0 }, { name := "T_SHORT", type := .int, accessFlags := 25, slot := 16, constantValue := 0 }, { name := "T_INT", type := .int, accessFlags := 25, slot := 17, constantValue := 0 }, { name := "T_LONG", type := .int, accessFlags := 25, slot := 18, constantValue := 0 }, { name := "JLA", type := (.object "jdk/internal/access/JavaLangAccess"), accessFlags := 26, slot := 19, constantValue := 0 }, { name := "SOFT_MAX_ARRAY_LENGTH", type := .int, accessFlags := 25, slot := 20, constantValue := 0 }]
  methods := #[k17m0]
  instanceTypes := #[]
  staticTypes := #[(.object "jdk/internal/misc/Unsafe"), .boolean, .int, .int, .int, .int, .int, .int, .int, .int, .int, .int, .int, .int, .int, .int, .int, .int, .int, (.object "jdk/internal/access/JavaLangAccess"), .int]
  resolved := Array.replicate 378 none
  statics := none }

def pool18 : Array CpInfo := pool [(1, u "java/lang/Cloneable"), (0, .class_ 1), (0, u "java/lang/Object"), (0, .class_ 3)] 3

/-- java/lang/Cloneable -/
def k18 : Class := { plain "java/lang/Cloneable" (some 0) with
  accessFlags := 1537
  interfaces := #[]
  cf := some (fileOf pool18 2 #[] #[] 1537 4 #[] #[])
  fields := #[]
  methods := #[]
  instanceTypes := #[]
  staticTypes := #[]
  resolved := Array.replicate 8 none
  statics := none }

/-- the primitive byte -/
def k19 : Class := { plain "byte" none with kind := .primitive 'B', accessFlags := 0x411 }
/-- [B -/
def k20 : Class := { plain "[B" (some 0) with kind := .array 19 .byte, interfaces := #[18, 4], accessFlags := 1041 }

/-- the primitive char -/
def k21 : Class := { plain "char" none with kind := .primitive 'C', accessFlags := 0x411 }
/-- [C -/
def k22 : Class := { plain "[C" (some 0) with kind := .array 21 .char, interfaces := #[18, 4], accessFlags := 1041 }

/-- the primitive int -/
def k23 : Class := { plain "int" none with kind := .primitive 'I', accessFlags := 0x411 }
/-- [I -/
def k24 : Class := { plain "[I" (some 0) with kind := .array 23 .int, interfaces := #[18, 4], accessFlags := 1041 }

def heap : Heap := #[{ cls := 9, slots := #[.long 0, .int 1, .null, .int 0, .null, .int 0, .int 0], vm := .statics 9 },
  { cls := 11, slots := #[.null, .null, .null], vm := .statics 11 }]
def classes : Array Class := #[k0, k1, k2, k3, k4, k5, k6, k7, k8, k9, k10, k11, k12, k13, k14, k15, k16, k17, k18, k19, k20, k21, k22, k23, k24]
def interned : List (Array UInt16 × Addr) := []
def slotsUsed : Nat := 10
def theMethod : MethodId := ⟨1, 3⟩
def args0 : Array Value := #[.int 3, .int 5, .int 2, .int 7]
def aboutOver (below : List Frame) : State where
  vm := { classes := classes, interned := interned.toArray }
  heap := heap
  slotsUsed := slotsUsed
  threads := #[{ frames := .invoking theMethod args0 :: below }]
def below0 : List Frame := [.native { method := ⟨0, 0⟩, args := #[] }]
def about1 : State := aboutOver below0
def p0 : Program := .bare "" "" ""
def e0 : Env := launch0.env 0 0 0
theorem w_frames : about1.frames = Frame.invoking theMethod args0 :: below0 := rfl
set_option maxRecDepth 65536 in
theorem w_args : argsFit about1.vm theMethod args0 = true := by decide +kernel
set_option maxRecDepth 65536 in
theorem w_heap : heapFits about1 = true := by decide +kernel
set_option maxRecDepth 65536 in
theorem w_runnable : about1.curStatus? = some .runnable := by decide +kernel
set_option maxRecDepth 65536 in
theorem w_alone : about1.alone = true := by decide +kernel
set_option maxRecDepth 65536 in
theorem w_named : about1.methodNamed? x = some theMethod := by decide +kernel
set_option maxRecDepth 65536 in
theorem w_hears : about1.hears theMethod below0 = true := by decide +kernel
set_option maxRecDepth 65536 in
theorem w_ripe : about1.ripe theMethod args0 below0 = true := by decide +kernel
theorem w_running : about1.status = .running := rfl
set_option maxRecDepth 65536 in
theorem w_room : about1.hasRoom e0.platform room_1 = true :=
  launch0.hasRoom_least _ room_1 (by decide +kernel) (by decide +kernel) (by decide +kernel) (by decide +kernel) (by decide +kernel) (by decide +kernel)
theorem allAtoms_all (ts : List Jvm.Cond) (a : Array Jvm.Value) (st : Jvm.State) : (allAtoms ts).before a st = ts.all (fun c => c.before a st) := by
  induction ts with
  | nil => rfl
  | cons c t ih =>
    show (Jvm.Cond.and c (allAtoms t)).before a st = _
    rw [Jvm.Cond.before_and, ih, List.all_cons]
def words1 : List Jvm.Cond := Jvm.Cond.code x code maxLocals ret :: tables_1
/-- a 'code' word, met by the world's own term for the bytes: nothing is compared byte by byte -/
theorem code_word {y : MethodName} {bytes : ByteArray} {mx : Nat} {rt : Option FieldType} {a : Array Value} {s : State} {m : MethodId} {meth : Method} {c : Code} (h1 : s.methodNamed? y = some m) (h2 : s.vm.method? m = some meth) (h3 : meth.code = some c) (h4 : c.code = bytes)
    (h5 : (c.maxLocals == mx && c.exceptionTable.isEmpty && decide (c.maxStack ≤ mostOperands) && decide (meth.sig.returnType = rt) && !meth.locks && decide (parseMethodDescriptor y.desc = some meth.sig)) = true) : (Jvm.Cond.code y bytes mx rt).before a s = true := by
  simp only [Bool.and_eq_true, beq_iff_eq, Bool.not_eq_true', decide_eq_true_eq] at h5
  obtain ⟨⟨⟨⟨⟨g1, g2⟩, g3⟩, g4⟩, g5⟩, g6⟩ := h5
  simp [Cond.before, Cond.holds, Cond.value, h1, h2, h3, h4, g1, g2, g3, g4, g5, g6]
def isCode : Jvm.Cond → Bool
  | .code _ _ _ _ => true
  | _ => false
theorem all_split {L : List Jvm.Cond} {P : Jvm.Cond → Bool} (h1 : L.all (fun c => isCode c || P c) = true) (h2 : ∀ c ∈ L.filter isCode, P c = true) : L.all P = true := by
  refine List.all_eq_true.mpr fun c hc => ?_
  have h := List.all_eq_true.mp h1 c hc
  rcases Bool.eq_false_or_eq_true (isCode c) with hi | hi
  · exact h2 c (List.mem_filter.mpr ⟨hc, hi⟩)
  · simpa [hi] using h
set_option maxRecDepth 65536 in
theorem w_c0 : (Jvm.Cond.code x code maxLocals ret).before args0 about1 = true := code_word (m := ⟨1, 3⟩) (meth := k1m3) (c := k1c3) (by decide +kernel) rfl rfl rfl (by decide +kernel)
set_option maxRecDepth 65536 in
theorem w_c1 : (Jvm.Cond.code ({ cls := "com/example/optpack/optpack/service/SectionNames", name := "<init>", desc := "()V" } : Jvm.MethodName) prog_73_method_1_code (1 : Nat) (Option.none : Option Jvm.ClassFile.FieldType)).before args0 about1 = true := code_word (m := ⟨2, 0⟩) (meth := k2m0) (c := k2c0) (by decide +kernel) rfl rfl rfl (by decide +kernel)
set_option maxRecDepth 65536 in
theorem w_c2 : (Jvm.Cond.code ({ cls := "java/lang/Object", name := "<init>", desc := "()V" } : Jvm.MethodName) object_method_1_code (1 : Nat) (Option.none : Option Jvm.ClassFile.FieldType)).before args0 about1 = true := code_word (m := ⟨0, 0⟩) (meth := k0m0) (c := k0c0) (by decide +kernel) rfl rfl rfl (by decide +kernel)
set_option maxRecDepth 65536 in
theorem w_c3 : (Jvm.Cond.code ({ cls := "com/example/optpack/optpack/service/SectionNames", name := "free", desc := "(I)[I" } : Jvm.MethodName) prog_73_method_9_code (2 : Nat) (Option.some (Jvm.ClassFile.FieldType.array Jvm.ClassFile.FieldType.int))).before args0 about1 = true := code_word (m := ⟨2, 7⟩) (meth := k2m7) (c := k2c7) (by decide +kernel) rfl rfl rfl (by decide +kernel)
set_option maxRecDepth 65536 in
theorem w_c4 : (Jvm.Cond.code ({ cls := "java/util/Arrays", name := "fill", desc := "([II)V" } : Jvm.MethodName) jdk_65_method_103_code (4 : Nat) (Option.none : Option Jvm.ClassFile.FieldType)).before args0 about1 = true := code_word (m := ⟨3, 1⟩) (meth := k3m1) (c := k3c1) (by decide +kernel) rfl rfl rfl (by decide +kernel)
set_option maxRecDepth 65536 in
theorem w_c5 : (Jvm.Cond.code ({ cls := "com/example/optpack/optpack/service/SectionNames", name := "isEmpty", desc := "()Z" } : Jvm.MethodName) prog_73_method_3_code (1 : Nat) (Option.some Jvm.ClassFile.FieldType.boolean)).before args0 about1 = true := code_word (m := ⟨2, 2⟩) (meth := k2m2) (c := k2c2) (by decide +kernel) rfl rfl rfl (by decide +kernel)
set_option maxRecDepth 65536 in
theorem w_c6 : (Jvm.Cond.code ({ cls := "com/example/optpack/optpack/service/SectionNamesIsEmptyPinLaw", name := "name", desc := "(I)Ljava/lang/String;" } : Jvm.MethodName) method_3_code (3 : Nat) (Option.some (Jvm.ClassFile.FieldType.object "java/lang/String"))).before args0 about1 = true := code_word (m := ⟨1, 2⟩) (meth := k1m2) (c := k1c2) (by decide +kernel) rfl rfl rfl (by decide +kernel)
set_option maxRecDepth 65536 in
theorem w_c7 : (Jvm.Cond.code ({ cls := "com/example/optpack/optpack/service/SectionNamesIsEmptyPinLaw", name := "pick", desc := "(I)C" } : Jvm.MethodName) method_2_code (1 : Nat) (Option.some Jvm.ClassFile.FieldType.char)).before args0 about1 = true := code_word (m := ⟨1, 1⟩) (meth := k1m1) (c := k1c1) (by decide +kernel) rfl rfl rfl (by decide +kernel)
set_option maxRecDepth 65536 in
theorem w_c8 : (Jvm.Cond.code ({ cls := "java/lang/String", name := "charAt", desc := "(I)C" } : Jvm.MethodName) jdk_42_method_56_code (2 : Nat) (Option.some Jvm.ClassFile.FieldType.char)).before args0 about1 = true := code_word (m := ⟨9, 3⟩) (meth := k9m3) (c := k9c3) (by decide +kernel) rfl rfl rfl (by decide +kernel)
set_option maxRecDepth 65536 in
theorem w_c9 : (Jvm.Cond.code ({ cls := "java/lang/String", name := "isLatin1", desc := "()Z" } : Jvm.MethodName) jdk_42_method_154_code (1 : Nat) (Option.some Jvm.ClassFile.FieldType.boolean)).before args0 about1 = true := code_word (m := ⟨9, 6⟩) (meth := k9m6) (c := k9c6) (by decide +kernel) rfl rfl rfl (by decide +kernel)
set_option maxRecDepth 65536 in
theorem w_c10 : (Jvm.Cond.code ({ cls := "java/lang/StringLatin1", name := "charAt", desc := "([BI)C" } : Jvm.MethodName) jdk_43_method_2_code (2 : Nat) (Option.some Jvm.ClassFile.FieldType.char)).before args0 about1 = true := code_word (m := ⟨10, 1⟩) (meth := k10m1) (c := k10c1) (by decide +kernel) rfl rfl rfl (by decide +kernel)
set_option maxRecDepth 65536 in
theorem w_c11 : (Jvm.Cond.code ({ cls := "java/lang/String", name := "checkIndex", desc := "(II)V" } : Jvm.MethodName) jdk_42_method_155_code (2 : Nat) (Option.none : Option Jvm.ClassFile.FieldType)).before args0 about1 = true := code_word (m := ⟨9, 7⟩) (meth := k9m7) (c := k9c7) (by decide +kernel) rfl rfl rfl (by decide +kernel)
set_option maxRecDepth 65536 in
theorem w_c12 : (Jvm.Cond.code ({ cls := "jdk/internal/util/Preconditions", name := "checkIndex", desc := "(IILjava/util/function/BiFunction;)I" } : Jvm.MethodName) jdk_41_method_11_code (3 : Nat) (Option.some Jvm.ClassFile.FieldType.int)).before args0 about1 = true := code_word (m := ⟨11, 1⟩) (meth := k11m1) (c := k11c1) (by decide +kernel) rfl rfl rfl (by decide +kernel)
set_option maxRecDepth 65536 in
theorem w_c13 : (Jvm.Cond.code ({ cls := "java/lang/String", name := "<init>", desc := "([C)V" } : Jvm.MethodName) jdk_42_method_3_code (2 : Nat) (Option.none : Option Jvm.ClassFile.FieldType)).before args0 about1 = true := code_word (m := ⟨9, 1⟩) (meth := k9m1) (c := k9c1) (by decide +kernel) rfl rfl rfl (by decide +kernel)
set_option maxRecDepth 65536 in
theorem w_c14 : (Jvm.Cond.code ({ cls := "java/lang/String", name := "<init>", desc := "([CIILjava/lang/Void;)V" } : Jvm.MethodName) jdk_42_method_149_code (6 : Nat) (Option.none : Option Jvm.ClassFile.FieldType)).before args0 about1 = true := code_word (m := ⟨9, 4⟩) (meth := k9m4) (c := k9c4) (by decide +kernel) rfl rfl rfl (by decide +kernel)
set_option maxRecDepth 65536 in
theorem w_c15 : (Jvm.Cond.code ({ cls := "java/lang/StringUTF16", name := "compress", desc := "([CII)[B" } : Jvm.MethodName) jdk_52_method_16_code (6 : Nat) (Option.some (Jvm.ClassFile.FieldType.array Jvm.ClassFile.FieldType.byte))).before args0 about1 = true := code_word (m := ⟨12, 2⟩) (meth := k12m2) (c := k12c2) (by decide +kernel) rfl rfl rfl (by decide +kernel)
set_option maxRecDepth 65536 in
theorem w_c16 : (Jvm.Cond.code ({ cls := "java/lang/StringUTF16", name := "compress", desc := "([CI[BII)I" } : Jvm.MethodName) jdk_52_method_21_code (7 : Nat) (Option.some Jvm.ClassFile.FieldType.int)).before args0 about1 = true := code_word (m := ⟨12, 3⟩) (meth := k12m3) (c := k12c3) (by decide +kernel) rfl rfl rfl (by decide +kernel)
set_option maxRecDepth 65536 in
theorem w_c17 : (Jvm.Cond.code ({ cls := "java/lang/StringUTF16", name := "coderFromArrayLen", desc := "([BI)B" } : Jvm.MethodName) jdk_52_method_15_code (2 : Nat) (Option.some Jvm.ClassFile.FieldType.byte)).before args0 about1 = true := code_word (m := ⟨12, 1⟩) (meth := k12m1) (c := k12c1) (by decide +kernel) rfl rfl rfl (by decide +kernel)
set_option maxRecDepth 65536 in
theorem w_c18 : (Jvm.Cond.code ({ cls := "com/example/optpack/optpack/service/SectionNames", name := "add", desc := "(Ljava/lang/String;I)I" } : Jvm.MethodName) prog_73_method_2_code (6 : Nat) (Option.some Jvm.ClassFile.FieldType.int)).before args0 about1 = true := code_word (m := ⟨2, 1⟩) (meth := k2m1) (c := k2c1) (by decide +kernel) rfl rfl rfl (by decide +kernel)
set_option maxRecDepth 65536 in
theorem w_c19 : (Jvm.Cond.code ({ cls := "java/lang/String", name := "length", desc := "()I" } : Jvm.MethodName) jdk_42_method_54_code (1 : Nat) (Option.some Jvm.ClassFile.FieldType.int)).before args0 about1 = true := code_word (m := ⟨9, 2⟩) (meth := k9m2) (c := k9c2) (by decide +kernel) rfl rfl rfl (by decide +kernel)
set_option maxRecDepth 65536 in
theorem w_c20 : (Jvm.Cond.code ({ cls := "java/lang/String", name := "coder", desc := "()B" } : Jvm.MethodName) jdk_42_method_152_code (1 : Nat) (Option.some Jvm.ClassFile.FieldType.byte)).before args0 about1 = true := code_word (m := ⟨9, 5⟩) (meth := k9m5) (c := k9c5) (by decide +kernel) rfl rfl rfl (by decide +kernel)
set_option maxRecDepth 65536 in
theorem w_c21 : (Jvm.Cond.code ({ cls := "com/example/optpack/optpack/service/SectionNames", name := "reserve", desc := "(I)V" } : Jvm.MethodName) prog_73_method_7_code (2 : Nat) (Option.none : Option Jvm.ClassFile.FieldType)).before args0 about1 = true := code_word (m := ⟨2, 6⟩) (meth := k2m6) (c := k2c6) (by decide +kernel) rfl rfl rfl (by decide +kernel)
set_option maxRecDepth 65536 in
theorem w_c22 : (Jvm.Cond.code ({ cls := "com/example/optpack/optpack/service/SectionNames", name := "slot", desc := "(I)I" } : Jvm.MethodName) prog_73_method_4_code (4 : Nat) (Option.some Jvm.ClassFile.FieldType.int)).before args0 about1 = true := code_word (m := ⟨2, 3⟩) (meth := k2m3) (c := k2c3) (by decide +kernel) rfl rfl rfl (by decide +kernel)
set_option maxRecDepth 65536 in
theorem w_c23 : (Jvm.Cond.code ({ cls := "com/example/optpack/optpack/service/SectionNames", name := "hash", desc := "(I)I" } : Jvm.MethodName) prog_73_method_5_code (3 : Nat) (Option.some Jvm.ClassFile.FieldType.int)).before args0 about1 = true := code_word (m := ⟨2, 4⟩) (meth := k2m4) (c := k2c4) (by decide +kernel) rfl rfl rfl (by decide +kernel)
set_option maxRecDepth 65536 in
theorem w_c24 : (Jvm.Cond.code ({ cls := "com/example/optpack/optpack/service/SipHash", name := "hash", desc := "(JJ[BII)J" } : Jvm.MethodName) prog_76_method_2_code (21 : Nat) (Option.some Jvm.ClassFile.FieldType.long)).before args0 about1 = true := code_word (m := ⟨13, 1⟩) (meth := k13m1) (c := k13c1) (by decide +kernel) rfl rfl rfl (by decide +kernel)
set_option maxRecDepth 65536 in
theorem w_c25 : (Jvm.Cond.code ({ cls := "com/example/optpack/optpack/service/SipHash", name := "wordAt", desc := "([BIII)J" } : Jvm.MethodName) prog_76_method_3_code (8 : Nat) (Option.some Jvm.ClassFile.FieldType.long)).before args0 about1 = true := code_word (m := ⟨13, 2⟩) (meth := k13m2) (c := k13c2) (by decide +kernel) rfl rfl rfl (by decide +kernel)
set_option maxRecDepth 65536 in
theorem w_c26 : (Jvm.Cond.code ({ cls := "java/lang/Math", name := "min", desc := "(II)I" } : Jvm.MethodName) jdk_29_method_69_code (2 : Nat) (Option.some Jvm.ClassFile.FieldType.int)).before args0 about1 = true := code_word (m := ⟨14, 1⟩) (meth := k14m1) (c := k14c1) (by decide +kernel) rfl rfl rfl (by decide +kernel)
set_option maxRecDepth 65536 in
theorem w_c27 : (Jvm.Cond.code ({ cls := "java/lang/Long", name := "rotateLeft", desc := "(JI)J" } : Jvm.MethodName) jdk_35_method_51_code (3 : Nat) (Option.some Jvm.ClassFile.FieldType.long)).before args0 about1 = true := code_word (m := ⟨16, 0⟩) (meth := k16m0) (c := k16c0) (by decide +kernel) rfl rfl rfl (by decide +kernel)
set_option maxRecDepth 65536 in
theorem w_c28 : (Jvm.Cond.code ({ cls := "com/example/optpack/optpack/service/SectionNames", name := "same", desc := "(II)Z" } : Jvm.MethodName) prog_73_method_6_code (4 : Nat) (Option.some Jvm.ClassFile.FieldType.boolean)).before args0 about1 = true := code_word (m := ⟨2, 5⟩) (meth := k2m5) (c := k2c5) (by decide +kernel) rfl rfl rfl (by decide +kernel)
def codes1 : List Jvm.Cond := [Jvm.Cond.code x code maxLocals ret, Jvm.Cond.code ({ cls := "com/example/optpack/optpack/service/SectionNames", name := "<init>", desc := "()V" } : Jvm.MethodName) prog_73_method_1_code (1 : Nat) (Option.none : Option Jvm.ClassFile.FieldType), Jvm.Cond.code ({ cls := "java/lang/Object", name := "<init>", desc := "()V" } : Jvm.MethodName) object_method_1_code (1 : Nat) (Option.none : Option Jvm.ClassFile.FieldType), Jvm.Cond.code ({ cls := "com/example/optpack/optpack/service/SectionNames", name := "free", desc := "(I)[I" } : Jvm.MethodName) prog_73_method_9_code (2 : Nat) (Option.some (Jvm.ClassFile.FieldType.array Jvm.ClassFile.FieldType.int)), Jvm.Cond.code ({ cls := "java/util/Arrays", name := "fill", desc := "([II)V" } : Jvm.MethodName) jdk_65_method_103_code (4 : Nat) (Option.none : Option Jvm.ClassFile.FieldType), Jvm.Cond.code ({ cls := "com/example/optpack/optpack/service/SectionNames", name := "isEmpty", desc := "()Z" } : Jvm.MethodName) prog_73_method_3_code (1 : Nat) (Option.some Jvm.ClassFile.FieldType.boolean), Jvm.Cond.code ({ cls := "com/example/optpack/optpack/service/SectionNamesIsEmptyPinLaw", name := "name", desc := "(I)Ljava/lang/String;" } : Jvm.MethodName) method_3_code (3 : Nat) (Option.some (Jvm.ClassFile.FieldType.object "java/lang/String")), Jvm.Cond.code ({ cls := "com/example/optpack/optpack/service/SectionNamesIsEmptyPinLaw", name := "pick", desc := "(I)C" } : Jvm.MethodName) method_2_code (1 : Nat) (Option.some Jvm.ClassFile.FieldType.char), Jvm.Cond.code ({ cls := "java/lang/String", name := "charAt", desc := "(I)C" } : Jvm.MethodName) jdk_42_method_56_code (2 : Nat) (Option.some Jvm.ClassFile.FieldType.char), Jvm.Cond.code ({ cls := "java/lang/String", name := "isLatin1", desc := "()Z" } : Jvm.MethodName) jdk_42_method_154_code (1 : Nat) (Option.some Jvm.ClassFile.FieldType.boolean), Jvm.Cond.code ({ cls := "java/lang/StringLatin1", name := "charAt", desc := "([BI)C" } : Jvm.MethodName) jdk_43_method_2_code (2 : Nat) (Option.some Jvm.ClassFile.FieldType.char), Jvm.Cond.code ({ cls := "java/lang/String", name := "checkIndex", desc := "(II)V" } : Jvm.MethodName) jdk_42_method_155_code (2 : Nat) (Option.none : Option Jvm.ClassFile.FieldType), Jvm.Cond.code ({ cls := "jdk/internal/util/Preconditions", name := "checkIndex", desc := "(IILjava/util/function/BiFunction;)I" } : Jvm.MethodName) jdk_41_method_11_code (3 : Nat) (Option.some Jvm.ClassFile.FieldType.int), Jvm.Cond.code ({ cls := "java/lang/String", name := "<init>", desc := "([C)V" } : Jvm.MethodName) jdk_42_method_3_code (2 : Nat) (Option.none : Option Jvm.ClassFile.FieldType), Jvm.Cond.code ({ cls := "java/lang/String", name := "<init>", desc := "([CIILjava/lang/Void;)V" } : Jvm.MethodName) jdk_42_method_149_code (6 : Nat) (Option.none : Option Jvm.ClassFile.FieldType), Jvm.Cond.code ({ cls := "java/lang/StringUTF16", name := "compress", desc := "([CII)[B" } : Jvm.MethodName) jdk_52_method_16_code (6 : Nat) (Option.some (Jvm.ClassFile.FieldType.array Jvm.ClassFile.FieldType.byte)), Jvm.Cond.code ({ cls := "java/lang/StringUTF16", name := "compress", desc := "([CI[BII)I" } : Jvm.MethodName) jdk_52_method_21_code (7 : Nat) (Option.some Jvm.ClassFile.FieldType.int), Jvm.Cond.code ({ cls := "java/lang/StringUTF16", name := "coderFromArrayLen", desc := "([BI)B" } : Jvm.MethodName) jdk_52_method_15_code (2 : Nat) (Option.some Jvm.ClassFile.FieldType.byte), Jvm.Cond.code ({ cls := "com/example/optpack/optpack/service/SectionNames", name := "add", desc := "(Ljava/lang/String;I)I" } : Jvm.MethodName) prog_73_method_2_code (6 : Nat) (Option.some Jvm.ClassFile.FieldType.int), Jvm.Cond.code ({ cls := "java/lang/String", name := "length", desc := "()I" } : Jvm.MethodName) jdk_42_method_54_code (1 : Nat) (Option.some Jvm.ClassFile.FieldType.int), Jvm.Cond.code ({ cls := "java/lang/String", name := "coder", desc := "()B" } : Jvm.MethodName) jdk_42_method_152_code (1 : Nat) (Option.some Jvm.ClassFile.FieldType.byte), Jvm.Cond.code ({ cls := "com/example/optpack/optpack/service/SectionNames", name := "reserve", desc := "(I)V" } : Jvm.MethodName) prog_73_method_7_code (2 : Nat) (Option.none : Option Jvm.ClassFile.FieldType), Jvm.Cond.code ({ cls := "com/example/optpack/optpack/service/SectionNames", name := "slot", desc := "(I)I" } : Jvm.MethodName) prog_73_method_4_code (4 : Nat) (Option.some Jvm.ClassFile.FieldType.int), Jvm.Cond.code ({ cls := "com/example/optpack/optpack/service/SectionNames", name := "hash", desc := "(I)I" } : Jvm.MethodName) prog_73_method_5_code (3 : Nat) (Option.some Jvm.ClassFile.FieldType.int), Jvm.Cond.code ({ cls := "com/example/optpack/optpack/service/SipHash", name := "hash", desc := "(JJ[BII)J" } : Jvm.MethodName) prog_76_method_2_code (21 : Nat) (Option.some Jvm.ClassFile.FieldType.long), Jvm.Cond.code ({ cls := "com/example/optpack/optpack/service/SipHash", name := "wordAt", desc := "([BIII)J" } : Jvm.MethodName) prog_76_method_3_code (8 : Nat) (Option.some Jvm.ClassFile.FieldType.long), Jvm.Cond.code ({ cls := "java/lang/Math", name := "min", desc := "(II)I" } : Jvm.MethodName) jdk_29_method_69_code (2 : Nat) (Option.some Jvm.ClassFile.FieldType.int), Jvm.Cond.code ({ cls := "java/lang/Long", name := "rotateLeft", desc := "(JI)J" } : Jvm.MethodName) jdk_35_method_51_code (3 : Nat) (Option.some Jvm.ClassFile.FieldType.long), Jvm.Cond.code ({ cls := "com/example/optpack/optpack/service/SectionNames", name := "same", desc := "(II)Z" } : Jvm.MethodName) prog_73_method_6_code (4 : Nat) (Option.some Jvm.ClassFile.FieldType.boolean)]
set_option maxRecDepth 65536 in
theorem codes_eq : words1.filter isCode = codes1 := rfl
theorem w_codes : ∀ c ∈ words1.filter isCode, c.before args0 about1 = true := by
  rw [codes_eq]
  intro c hc
  simp only [codes1, List.mem_cons, List.not_mem_nil, or_false] at hc
  rcases hc with rfl | rfl | rfl | rfl | rfl | rfl | rfl | rfl | rfl | rfl | rfl | rfl | rfl | rfl | rfl | rfl | rfl | rfl | rfl | rfl | rfl | rfl | rfl | rfl | rfl | rfl | rfl | rfl | rfl
  · exact w_c0
  · exact w_c1
  · exact w_c2
  · exact w_c3
  · exact w_c4
  · exact w_c5
  · exact w_c6
  · exact w_c7
  · exact w_c8
  · exact w_c9
  · exact w_c10
  · exact w_c11
  · exact w_c12
  · exact w_c13
  · exact w_c14
  · exact w_c15
  · exact w_c16
  · exact w_c17
  · exact w_c18
  · exact w_c19
  · exact w_c20
  · exact w_c21
  · exact w_c22
  · exact w_c23
  · exact w_c24
  · exact w_c25
  · exact w_c26
  · exact w_c27
  · exact w_c28
set_option maxRecDepth 65536 in
theorem w_t1 : (words1.take 24).all (fun c => isCode c || c.before args0 about1) = true := by decide +kernel
set_option maxRecDepth 65536 in
theorem w_t2 : ((words1.drop 24).take 24).all (fun c => isCode c || c.before args0 about1) = true := by decide +kernel
set_option maxRecDepth 65536 in
theorem w_t3 : (((words1.drop 24).drop 24).take 24).all (fun c => isCode c || c.before args0 about1) = true := by decide +kernel
set_option maxRecDepth 65536 in
theorem w_t4 : ((((words1.drop 24).drop 24).drop 24).take 24).all (fun c => isCode c || c.before args0 about1) = true := by decide +kernel
set_option maxRecDepth 65536 in
theorem w_t5 : (((((words1.drop 24).drop 24).drop 24).drop 24).take 24).all (fun c => isCode c || c.before args0 about1) = true := by decide +kernel
set_option maxRecDepth 65536 in
theorem w_t6 : ((((((words1.drop 24).drop 24).drop 24).drop 24).drop 24).take 24).all (fun c => isCode c || c.before args0 about1) = true := by decide +kernel
set_option maxRecDepth 65536 in
theorem w_t7 : ((((((words1.drop 24).drop 24).drop 24).drop 24).drop 24).drop 24).all (fun c => isCode c || c.before args0 about1) = true := by decide +kernel
theorem w_tables : (allAtoms (Jvm.Cond.code x code maxLocals ret :: tables_1)).before args0 about1 = true := by
  rw [allAtoms_all]
  show words1.all (fun c => c.before args0 about1) = true
  refine all_split ?_ w_codes
  rw [← List.take_append_drop 24 words1, List.all_append, w_t1, ← List.take_append_drop 24 (words1.drop 24), List.all_append, w_t2, ← List.take_append_drop 24 ((words1.drop 24).drop 24), List.all_append, w_t3, ← List.take_append_drop 24 (((words1.drop 24).drop 24).drop 24), List.all_append, w_t4, ← List.take_append_drop 24 ((((words1.drop 24).drop 24).drop 24).drop 24), List.all_append, w_t5, ← List.take_append_drop 24 (((((words1.drop 24).drop 24).drop 24).drop 24).drop 24), List.all_append, w_t6, w_t7]
  rfl
set_option maxRecDepth 65536 in
theorem w_rest : rest_1_c.before args0 about1 = true := by decide +kernel
set_option maxRecDepth 65536 in
theorem w_case : (Jvm.Cond.and given_1 narrow_1).before args0 about1 = true := by decide +kernel
set_option maxRecDepth 65536 in
theorem w_consts : constsHeld consts_1 about1 := Jvm.Lit.constsHeldB_iff.mp (by decide +kernel)
theorem w_applies : (headSpec (Jvm.Cond.code x code maxLocals ret :: tables_1) room_1).applies x e0.platform about1 = true :=
  (Spec.applies_iff w_frames).mpr ⟨w_running, w_runnable, w_alone, w_named, w_hears, w_ripe, w_room, w_tables⟩
theorem atStart : AtStart classFile x code maxLocals ret World_1 tables_1 room_1 Calls_1 rest_1 Pre_1 launch0 p0 e0 about1 theMethod args0 below0 :=
  ⟨lists_1, trivial, launch0.admits_env _ _ _, launch0.least_env, fairChoices_fair.cas, fairChoices_fair.clock, w_frames, w_args, w_heap, w_applies, ⟨w_consts, trivial⟩, w_rest, w_case⟩
end start1
theorem witness_1 : WitnessClaimed_1 := ⟨start1.p0, start1.e0, start1.about1, start1.theMethod, start1.args0, start1.below0, start1.atStart⟩
end Jvm.Pilot.@@N@@
