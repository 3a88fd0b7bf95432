import JvmDerived
import JvmDerived.Pilot.@@N@@Statement
import JvmDerived.Pilot.@@N@@Code
set_option linter.unusedVariables false
set_option linter.unusedSimpArgs false
@@BLOCK:LamKit.lean.txt@@
namespace Jvm.Pilot.@@N@@
open Jvm Jvm.ClassFile Sem Op Lib Jvm.Free Jvm.Stand Jvm.LawKit Jvm.RoadKit Bundle Jvm.Pilot.@@N@@.Jvm.D
/-! own text: the run of a body in continuation form -/
section OwnKit
variable {wd : Option (Vm → Heap → Prop)} {p : Program} {l : Launch} {e : Env} {R : Room} {s : State} {m : MethodId} {args : Array Value} {below : List Frame} {meth : Method} {c : Code} {T : State} {locs : List Loc} {cells slots : Nat} {Z : State} {a0 : Array Value} {h : Heap} {Qb : Option Value → Heap → List Loc → Prop} {kc ks : Nat}
/-- from the state T with the frame g on top the run comes to the end of the body, and there Qb holds -/
def OkF (wd : Option (Vm → Heap → Prop)) (vm : Vm) (h : Heap) : Prop := match wd with
  | none => True
  | some F => F vm h
def FE (wd : Option (Vm → Heap → Prop)) (s : State) (o : Outcome) (t : State) (L : List Loc) (k n : Nat) : Prop := match wd with
  | none => FrameEnd s o t L k n
  | some F => ReturnedEndW s o t L k n ∧ F t.vm t.heap
theorem FE.of {s t : State} {o : Outcome} {L : List Loc} {k n : Nat} {wd : Option (Vm → Heap → Prop)} (h : FrameEnd s o t L k n) (g : OkF wd t.vm t.heap) : FE wd s o t L k n := by
  cases wd
  · exact h
  · exact ⟨ReturnedEndW.of_narrow h.1 h.2.1 h.2.2, g⟩
def Ends (wd : Option (Vm → Heap → Prop)) (p : Program) (e : Env) (below : List Frame) (s : State) (Qb : Option Value → Heap → List Loc → Prop) (kc ks : Nat) (T : State) (g : JFrame) : Prop :=
  ∃ s₂ o, Steps p.tables e below (T.setTop g) s₂ ∧ s₂.status = .running ∧ Ended s₂ below o ∧ ∃ v L, o = .returned v ∧ Qb v s₂.heap L ∧ FE wd s o s₂ L kc ks
theorem Ends.go {T T' : State} {g g' : JFrame} (h : ∀ t, Steps p.tables e below (T'.setTop g') t → Steps p.tables e below (T.setTop g) t) (k : Ends wd p e below s Qb kc ks T' g') : Ends wd p e below s Qb kc ks T g := by
  obtain ⟨s2, o, st, r⟩ := k
  exact ⟨s2, o, h _ st, r⟩
theorem Ends.cast {T : State} {g g' : JFrame} (h : g = g') (k : Ends wd p e below s Qb kc ks T g') : Ends wd p e below s Qb kc ks T g := h ▸ k
abbrev Con (l : Launch) (y : MethodName) (code : ByteArray) (ml : Nat) (rt : Option FieldType) (ws : List Jvm.Cond) (rm : Room) (as' : Array Value) (Z : State) (h0 : Heap) (Q : Option Value → Heap → List Loc → Prop) : Prop :=
  MetFree l y (head1 (Jvm.Cond.code y code ml rt :: ws) rm) (fun a U => a = as' ∧ Z.Warmed39 U.vm ∧ U.heap = h0) (fun _ _ _ _ _ => True) (fun _ U o U' => ∃ v L, o = .returned v ∧ Q v U'.heap L ∧ FrameEnd U o U' L rm.cells rm.slots)
theorem Con.of {y : MethodName} {code : ByteArray} {ml : Nat} {rt : Option FieldType} {ws : List Jvm.Cond} {rm : Room} {as' : Array Value} {h0 : Heap} {Q : Option Value → Heap → List Loc → Prop} (hp : plainFor y = true)
    (k : ∀ (p : Program) (e : Env) (s : State) (m : MethodId) (below : List Frame) (meth : Method) (c : Code) (s₁ : State), p.tables.exec = Jvm.exec → Z.Warmed39 s.vm → c.code = code → c.maxLocals = ml → s.vm.findClass y.cls = some m.cls → meth.name = y.name → meth.sig.returnType = rt → meth.locks = false →
      Stand p l e rm s m as' below meth c s₁ [] 0 0 → s₁.heap = h0 → Ends none p e below s Q rm.cells rm.slots s₁ (entryFrame m as' ml)) : Con l y code ml rt ws rm as' Z h0 Q := by
  refine MetFree.of_bodySF hp hisR ?_
  intro p e s m args below meth c s₁ Bd hml0 hP hK
  obtain ⟨rfl, hZ, hh⟩ := hP
  exact k p e s m below meth c s₁ Bd.exec hZ Bd.bytes hml0 (findClass_of_methodNamed Bd.named) (name_of_methodNamed Bd.named Bd.method).1 Bd.returns Bd.notSynchronized (Stand.of_body Bd) (by rw [← hh, Bd.state]; rfl)
theorem Ends.ret (X : Stand p l e R s m args below meth c T locs cells slots) (hx : p.tables.exec = Jvm.exec) (hlk : meth.locks = false) {pc : Nat} {Ls : Array Slot} {w : Value} {t : FieldType} {i : Instr} {rest : List Value} (hret : meth.sig.returnType = some t) (hn : narrow t w = w)
    (hi : (i = .ireturn ∧ (t = .int ∨ t = .boolean ∨ t = .byte ∨ t = .char ∨ t = .short) ∧ ∃ z, w = .int z) ∨ (i = .lreturn ∧ t = .long ∧ ∃ z, w = .long z) ∨ (i = .dreturn ∧ t = .double ∧ ∃ z, w = .double z) ∨ (i = .freturn ∧ t = .float ∧ ∃ z, w = .float z) ∨ (i = .areturn ∧ t.isReference = true ∧ w.isRef = true))
    (hd : decode c.code pc = .ok (i, 1)) (hc : cells ≤ kc) (hs : slots ≤ ks) (hQ : Qb (some w) T.heap locs) (hF : OkF wd T.vm T.heap := by exact True.intro) : Ends wd p e below s Qb kc ks T (mkF m pc Ls (w :: rest)) := by
  obtain ⟨fs, hr, hrun, hended, hW, hsame⟩ := X.leave (v := some w) (fun h => by rw [hret] at h; cases h) hlk
  exact ⟨_, _, retOut X hx hret hn hi hd hr, hrun, hended, _, _, rfl, hQ, FE.of ⟨⟨_, rfl⟩, hW, hsame.mono hc hs⟩ hF⟩
theorem Ends.retI (X : Stand p l e R s m args below meth c T locs cells slots) (hx : p.tables.exec = Jvm.exec) (hlk : meth.locks = false) {pc : Nat} {Ls : Array Slot} {z : Int32} {rest : List Value} (hret : meth.sig.returnType = some .int) (hd : decode c.code pc = .ok (.ireturn, 1)) (hc : cells ≤ kc) (hs : slots ≤ ks) (hQ : Qb (some (.int z)) T.heap locs) (hF : OkF wd T.vm T.heap := by exact True.intro) : Ends wd p e below s Qb kc ks T (mkF m pc Ls (.int z :: rest)) :=
  Ends.ret X hx hlk hret rfl (Or.inl ⟨rfl, Or.inl rfl, _, rfl⟩) hd hc hs hQ hF
theorem Ends.retJ (X : Stand p l e R s m args below meth c T locs cells slots) (hx : p.tables.exec = Jvm.exec) (hlk : meth.locks = false) {pc : Nat} {Ls : Array Slot} {z : Int64} {rest : List Value} (hret : meth.sig.returnType = some .long) (hd : decode c.code pc = .ok (.lreturn, 1)) (hc : cells ≤ kc) (hs : slots ≤ ks) (hQ : Qb (some (.long z)) T.heap locs) (hF : OkF wd T.vm T.heap := by exact True.intro) : Ends wd p e below s Qb kc ks T (mkF m pc Ls (.long z :: rest)) :=
  Ends.ret X hx hlk hret rfl (Or.inr (Or.inl ⟨rfl, rfl, _, rfl⟩)) hd hc hs hQ hF
theorem Ends.retS (X : Stand p l e R s m args below meth c T locs cells slots) (hx : p.tables.exec = Jvm.exec) (hlk : meth.locks = false) {pc : Nat} {Ls : Array Slot} {z : Int32} {t : FieldType} {rest : List Value} (hret : meth.sig.returnType = some t) (ht : t = .boolean ∨ t = .byte ∨ t = .char ∨ t = .short) (hn : narrow t (.int z) = .int z) (hd : decode c.code pc = .ok (.ireturn, 1)) (hc : cells ≤ kc) (hs : slots ≤ ks) (hQ : Qb (some (.int z)) T.heap locs) (hF : OkF wd T.vm T.heap := by exact True.intro) : Ends wd p e below s Qb kc ks T (mkF m pc Ls (.int z :: rest)) :=
  Ends.ret X hx hlk hret hn (Or.inl ⟨rfl, Or.inr ht, _, rfl⟩) hd hc hs hQ hF
theorem Ends.retA (X : Stand p l e R s m args below meth c T locs cells slots) (hx : p.tables.exec = Jvm.exec) (hlk : meth.locks = false) {pc : Nat} {Ls : Array Slot} {w : Value} {t : FieldType} {rest : List Value} (hret : meth.sig.returnType = some t) (ht : t.isReference = true) (hw : w.isRef = true) (hn : narrow t w = w) (hd : decode c.code pc = .ok (.areturn, 1)) (hc : cells ≤ kc) (hs : slots ≤ ks) (hQ : Qb (some w) T.heap locs) (hF : OkF wd T.vm T.heap := by exact True.intro) : Ends wd p e below s Qb kc ks T (mkF m pc Ls (w :: rest)) :=
  Ends.ret X hx hlk hret hn (Or.inr (Or.inr (Or.inr (Or.inr ⟨rfl, ht, hw⟩)))) hd hc hs hQ hF
theorem Ends.retV (X : Stand p l e R s m args below meth c T locs cells slots) (hx : p.tables.exec = Jvm.exec) (hlk : meth.locks = false) {pc : Nat} {Ls : Array Slot} (hret : meth.sig.returnType = none) (hd : decode c.code pc = .ok (.return_, 1)) (hc : cells ≤ kc) (hs : slots ≤ ks) (hQ : Qb none T.heap locs) (hF : OkF wd T.vm T.heap := by exact True.intro) : Ends wd p e below s Qb kc ks T (mkF m pc Ls []) := by
  obtain ⟨fs, hr, hrun, hended, hW, hsame⟩ := X.leave (v := none) (fun _ => rfl) hlk
  exact ⟨_, _, X.returnOut hx hret hd hr, hrun, hended, _, _, rfl, hQ, FE.of ⟨⟨_, rfl⟩, hW, hsame.mono hc hs⟩ hF⟩
/-- a static call by its contract -/
theorem Ends.callS (X : Stand p l e R s m args below meth c T locs cells slots) (hx : p.tables.exec = Jvm.exec) (hZ : Z.Warmed39 s.vm) {own : String} (hown : s.vm.findClass own = some m.cls) {index : Nat} {y : MethodName} {bytes : ByteArray} {maxL : Nat} {rt : Option FieldType} {rm : Room} {Q : Option Value → Heap → List Loc → Prop}
    (w1 : (Jvm.Cond.methodLink own index y).before a0 Z = true) (w2 : (Jvm.Cond.static y).before a0 Z = true) (w3 : (Jvm.Cond.initialized y.cls).before a0 Z = true) (w4 : (Jvm.Cond.code y bytes maxL rt).before a0 Z = true) (hy : y.cls ≠ "java/lang/invoke/MethodHandle" ∧ y.cls ≠ "java/lang/invoke/VarHandle")
    {argsL rest : List Value} (eT : T.heap = h) (M : Con l y bytes maxL rt [] rm argsL.toArray Z h Q) {W pc : Nat} (hf : rm.frames + 1 ≤ R.frames) (hl : W + (maxL + 11) + rm.locals ≤ R.locals) {Ls : Array Slot} (hsz : Ls.size = c.maxLocals)
    (hlen : ∀ sig, parseMethodDescriptor y.desc = some sig → argsL.length = sig.parameters.length) (hW : (rest.map fun v => v.category).sum ≤ W) (hd : decode c.code pc = .ok (.invokestatic index, 3)) (hc : cells + rm.cells ≤ R.cells) (hs : slots + rm.slots ≤ R.slots) {st : List Value} (hst : st = argsL.reverse ++ rest)
    (k : ∀ T' v L, Stand p l e R s m args below meth c T' (locs ++ L) (cells + rm.cells) (slots + rm.slots) → Q v T'.heap L → Ends wd p e below s Qb kc ks T' (mkF m (pc + 3) Ls (v.toList ++ rest))) :
    Ends wd p e below s Qb kc ks T (mkF m pc Ls st) := by
  obtain ⟨v, vm1, ⟨T1, L1, k1, n1⟩, -, X1, ⟨Lc, hQ, q1, q2, q3⟩, st1⟩ := Jvm.LawKit.callS X hx hown (mvT hZ w1) (mvT hZ w2) (mvT hZ w3) (mvT hZ w4) hy (backOf (W := W) M hZ w4 w3 hf hl) (g := mkF m pc Ls st) rfl hsz (argsL := argsL) (rest := rest) hlen hst (by show 2 * 0 + _ ≤ _; omega) hd (fun _ _ => ⟨rfl, eT, hc, hs⟩)
  dsimp only [Pt.U, Pt.locs, Pt.cells, Pt.slots] at X1 q1 q2 q3 st1 hQ
  subst q1 q2 q3
  exact Ends.go st1 (k T1 v Lc X1 hQ)
/-- a constructor by its contract -/
theorem Ends.callI (X : Stand p l e R s m args below meth c T locs cells slots) (hx : p.tables.exec = Jvm.exec) (hZ : Z.Warmed39 s.vm) {own : String} (hown : s.vm.findClass own = some m.cls) {index : Nat} {y : MethodName} {bytes : ByteArray} {maxL : Nat} {rm : Room} {Q : Option Value → Heap → List Loc → Prop}
    (w1 : (Jvm.Cond.methodLink own index y).before a0 Z = true) (w2 : (Jvm.Cond.instanceMethod y).before a0 Z = true) (w3 : (Jvm.Cond.initialized y.cls).before a0 Z = true) (w4 : (Jvm.Cond.code y bytes maxL none).before a0 Z = true) (hyn : y.name = "<init>") (hy : y.cls ≠ "java/lang/invoke/MethodHandle" ∧ y.cls ≠ "java/lang/invoke/VarHandle")
    {b : Addr} {argsL rest : List Value} (eT : T.heap = h) (M : Con l y bytes maxL none [] rm (.ref b :: argsL).toArray Z h Q) {W pc : Nat} (hf : rm.frames + 1 ≤ R.frames) (hl : W + (maxL + 11) + rm.locals ≤ R.locals) {Ls : Array Slot} (hsz : Ls.size = c.maxLocals)
    (hlen : ∀ sig, parseMethodDescriptor y.desc = some sig → argsL.length = sig.parameters.length) (hW : (rest.map fun v => v.category).sum ≤ W) (hd : decode c.code pc = .ok (.invokespecial index, 3)) (hc : cells + rm.cells ≤ R.cells) (hs : slots + rm.slots ≤ R.slots) {st : List Value} (hst : st = argsL.reverse ++ .ref b :: rest)
    (k : ∀ T' v L, Stand p l e R s m args below meth c T' (locs ++ L) (cells + rm.cells) (slots + rm.slots) → Q v T'.heap L → Ends wd p e below s Qb kc ks T' (mkF m (pc + 3) Ls (v.toList ++ rest))) :
    Ends wd p e below s Qb kc ks T (mkF m pc Ls st) := by
  obtain ⟨v, vm1, ⟨T1, L1, k1, n1⟩, -, X1, ⟨Lc, hQ, q1, q2, q3⟩, st1⟩ := X.specialBack hx hyn hown (mvT hZ w1) (mvT hZ w2) (mvT hZ w4) hy (backOf (W := W) M hZ w4 w3 hf hl) (g := mkF m pc Ls st) rfl hsz (Steps.refl _) (a := b) (argsL := argsL) (rest := rest) hlen hst (by show 2 * 0 + _ ≤ _; omega) hd (fun _ _ => ⟨rfl, eT, hc, hs⟩)
  dsimp only [Pt.U, Pt.locs, Pt.cells, Pt.slots] at X1 q1 q2 q3 st1 hQ
  subst q1 q2 q3
  exact Ends.go (fun t kt => st1.trans kt) (k T1 v Lc X1 hQ)
/-- an instance method by its contract -/
theorem Ends.callV (X : Stand p l e R s m args below meth c T locs cells slots) (hx : p.tables.exec = Jvm.exec) (hZ : Z.Warmed39 s.vm) {own C : String} (hown : s.vm.findClass own = some m.cls) {index : Nat} {y : MethodName} {bytes : ByteArray} {maxL : Nat} {rt : Option FieldType} {rm : Room} {Q : Option Value → Heap → List Loc → Prop}
    (w1 : (Jvm.Cond.methodLink own index y).before a0 Z = true) (w2 : (Jvm.Cond.declares y).before a0 Z = true) (w5 : (Jvm.Cond.selects C y y).before a0 Z = true) (w6 : (Jvm.Cond.instanceMethod y).before a0 Z = true) (w3 : (Jvm.Cond.initialized y.cls).before a0 Z = true) (w4 : (Jvm.Cond.code y bytes maxL rt).before a0 Z = true) (hy : y.cls ≠ "java/lang/invoke/MethodHandle" ∧ y.cls ≠ "java/lang/invoke/VarHandle")
    {b : Addr} {argsL rest : List Value} (eT : T.heap = h) (E : Exa Z h b C) (M : Con l y bytes maxL rt [] rm (.ref b :: argsL).toArray Z h Q) {W pc : Nat} (hf : rm.frames + 1 ≤ R.frames) (hl : W + (maxL + 11) + rm.locals ≤ R.locals) {Ls : Array Slot} (hsz : Ls.size = c.maxLocals)
    (hlen : ∀ sig, parseMethodDescriptor y.desc = some sig → argsL.length = sig.parameters.length) (hW : (rest.map fun v => v.category).sum ≤ W) (hd : decode c.code pc = .ok (.invokevirtual index, 3)) (hc : cells + rm.cells ≤ R.cells) (hs : slots + rm.slots ≤ R.slots) {st : List Value} (hst : st = argsL.reverse ++ .ref b :: rest)
    (k : ∀ T' v L, Stand p l e R s m args below meth c T' (locs ++ L) (cells + rm.cells) (slots + rm.slots) → Q v T'.heap L → Ends wd p e below s Qb kc ks T' (mkF m (pc + 3) Ls (v.toList ++ rest))) :
    Ends wd p e below s Qb kc ks T (mkF m pc Ls st) := by
  obtain ⟨cq, kq, qa, qb, qc⟩ := isOf (T := T) hZ eT E
  obtain ⟨v, vm1, ⟨T1, L1, k1, n1⟩, -, X1, ⟨Lc, hQ, q1, q2, q3⟩, st1⟩ := X.virtualBack hx (y := y) (z := y) hown (mvT hZ w1) (mvT hZ w2) (notFace_of_selects (args := #[]) (mvT hZ w5)) (mvT hZ w5) (mvT hZ w6) hy (backOf (W := W) M hZ w4 w3 hf hl) qa qc (g := mkF m pc Ls st) rfl hsz (Steps.refl _) (argsL := argsL) (rest := rest) hlen hst (by show 2 * 0 + _ ≤ _; omega) hd (fun _ _ => ⟨rfl, eT, hc, hs⟩)
  dsimp only [Pt.U, Pt.locs, Pt.cells, Pt.slots] at X1 q1 q2 q3 st1 hQ
  subst q1 q2 q3
  exact Ends.go (fun t kt => st1.trans kt) (k T1 v Lc X1 hQ)
end OwnKit
/-! own text, printed by mksteps.py: one lemma a plain instruction -/
section OwnSteps
variable {wd : Option (Vm → Heap → Prop)} {p : Program} {l : Launch} {e : Env} {R : Room} {s : State} {m : MethodId} {args : Array Value} {below : List Frame} {meth : Method} {c : Code} {T : State} {locs : List Loc} {cells slots : Nat} {Z : State} {a0 : Array Value} {h : Heap} {Qb : Option Value → Heap → List Loc → Prop} {kc ks : Nat} {Ls l' : Array Slot} {st : List Value} {pc q k : Nat} {kf : Fin 4} {k2 : Fin 2}
theorem E.iload {v : Int32} (X : Stand p l e R s m args below meth c T locs cells slots) (hx : p.tables.exec = Jvm.exec) (hd : decode c.code pc = .ok (.iload k, 2)) (hl : Ls[k]? = some (.val (.int v))) (k' : Ends wd p e below s Qb kc ks T (mkF m q Ls (.int v :: st))) (hq : pc + 2 = q := by rfl) : Ends wd p e below s Qb kc ks T (mkF m pc Ls st) := by
  subst hq; exact Ends.go (fun t => XS.iload X.here hx rfl hd hl) k'
theorem E.iloadN {v : Int32} (X : Stand p l e R s m args below meth c T locs cells slots) (hx : p.tables.exec = Jvm.exec) (hd : decode c.code pc = .ok (.iload_n kf, 1)) (hl : Ls[kf.val]? = some (.val (.int v))) (k' : Ends wd p e below s Qb kc ks T (mkF m q Ls (.int v :: st))) (hq : pc + 1 = q := by rfl) : Ends wd p e below s Qb kc ks T (mkF m pc Ls st) := by
  subst hq; exact Ends.go (fun t => XS.iloadN X.here hx rfl hd hl) k'
theorem E.istore {v : Int32} (X : Stand p l e R s m args below meth c T locs cells slots) (hx : p.tables.exec = Jvm.exec) (hd : decode c.code pc = .ok (.istore k, 2)) (hl : storeLocals Ls k (.int v) = some l') (k' : Ends wd p e below s Qb kc ks T (mkF m q l' st)) (hq : pc + 2 = q := by rfl) : Ends wd p e below s Qb kc ks T (mkF m pc Ls (.int v :: st)) := by
  subst hq; exact Ends.go (fun t => XS.istore X.here hx rfl hd rfl hl) k'
theorem E.istoreN {v : Int32} (X : Stand p l e R s m args below meth c T locs cells slots) (hx : p.tables.exec = Jvm.exec) (hd : decode c.code pc = .ok (.istore_n kf, 1)) (hl : storeLocals Ls kf.val (.int v) = some l') (k' : Ends wd p e below s Qb kc ks T (mkF m q l' st)) (hq : pc + 1 = q := by rfl) : Ends wd p e below s Qb kc ks T (mkF m pc Ls (.int v :: st)) := by
  subst hq; exact Ends.go (fun t => XS.istoreN X.here hx rfl hd rfl hl) k'
theorem E.lload {v : Int64} (X : Stand p l e R s m args below meth c T locs cells slots) (hx : p.tables.exec = Jvm.exec) (hd : decode c.code pc = .ok (.lload k, 2)) (hl : Ls[k]? = some (.val (.long v))) (k' : Ends wd p e below s Qb kc ks T (mkF m q Ls (.long v :: st))) (hq : pc + 2 = q := by rfl) : Ends wd p e below s Qb kc ks T (mkF m pc Ls st) := by
  subst hq; exact Ends.go (fun t => XS.lload X.here hx rfl hd hl) k'
theorem E.lloadN {v : Int64} (X : Stand p l e R s m args below meth c T locs cells slots) (hx : p.tables.exec = Jvm.exec) (hd : decode c.code pc = .ok (.lload_n kf, 1)) (hl : Ls[kf.val]? = some (.val (.long v))) (k' : Ends wd p e below s Qb kc ks T (mkF m q Ls (.long v :: st))) (hq : pc + 1 = q := by rfl) : Ends wd p e below s Qb kc ks T (mkF m pc Ls st) := by
  subst hq; exact Ends.go (fun t => XS.lloadN X.here hx rfl hd hl) k'
theorem E.lstore {v : Int64} (X : Stand p l e R s m args below meth c T locs cells slots) (hx : p.tables.exec = Jvm.exec) (hd : decode c.code pc = .ok (.lstore k, 2)) (hl : storeLocals Ls k (.long v) = some l') (k' : Ends wd p e below s Qb kc ks T (mkF m q l' st)) (hq : pc + 2 = q := by rfl) : Ends wd p e below s Qb kc ks T (mkF m pc Ls (.long v :: st)) := by
  subst hq; exact Ends.go (fun t => XS.lstore X.here hx rfl hd rfl hl) k'
theorem E.lstoreN {v : Int64} (X : Stand p l e R s m args below meth c T locs cells slots) (hx : p.tables.exec = Jvm.exec) (hd : decode c.code pc = .ok (.lstore_n kf, 1)) (hl : storeLocals Ls kf.val (.long v) = some l') (k' : Ends wd p e below s Qb kc ks T (mkF m q l' st)) (hq : pc + 1 = q := by rfl) : Ends wd p e below s Qb kc ks T (mkF m pc Ls (.long v :: st)) := by
  subst hq; exact Ends.go (fun t => XS.lstoreN X.here hx rfl hd rfl hl) k'
theorem E.dload {v : UInt64} (X : Stand p l e R s m args below meth c T locs cells slots) (hx : p.tables.exec = Jvm.exec) (hd : decode c.code pc = .ok (.dload k, 2)) (hl : Ls[k]? = some (.val (.double v))) (k' : Ends wd p e below s Qb kc ks T (mkF m q Ls (.double v :: st))) (hq : pc + 2 = q := by rfl) : Ends wd p e below s Qb kc ks T (mkF m pc Ls st) := by
  subst hq; exact Ends.go (fun t => XS.dload X.here hx rfl hd hl) k'
theorem E.dloadN {v : UInt64} (X : Stand p l e R s m args below meth c T locs cells slots) (hx : p.tables.exec = Jvm.exec) (hd : decode c.code pc = .ok (.dload_n kf, 1)) (hl : Ls[kf.val]? = some (.val (.double v))) (k' : Ends wd p e below s Qb kc ks T (mkF m q Ls (.double v :: st))) (hq : pc + 1 = q := by rfl) : Ends wd p e below s Qb kc ks T (mkF m pc Ls st) := by
  subst hq; exact Ends.go (fun t => XS.dloadN X.here hx rfl hd hl) k'
theorem E.dstore {v : UInt64} (X : Stand p l e R s m args below meth c T locs cells slots) (hx : p.tables.exec = Jvm.exec) (hd : decode c.code pc = .ok (.dstore k, 2)) (hl : storeLocals Ls k (.double v) = some l') (k' : Ends wd p e below s Qb kc ks T (mkF m q l' st)) (hq : pc + 2 = q := by rfl) : Ends wd p e below s Qb kc ks T (mkF m pc Ls (.double v :: st)) := by
  subst hq; exact Ends.go (fun t => XS.dstore X.here hx rfl hd rfl hl) k'
theorem E.dstoreN {v : UInt64} (X : Stand p l e R s m args below meth c T locs cells slots) (hx : p.tables.exec = Jvm.exec) (hd : decode c.code pc = .ok (.dstore_n kf, 1)) (hl : storeLocals Ls kf.val (.double v) = some l') (k' : Ends wd p e below s Qb kc ks T (mkF m q l' st)) (hq : pc + 1 = q := by rfl) : Ends wd p e below s Qb kc ks T (mkF m pc Ls (.double v :: st)) := by
  subst hq; exact Ends.go (fun t => XS.dstoreN X.here hx rfl hd rfl hl) k'
theorem E.aload {v : Value} (X : Stand p l e R s m args below meth c T locs cells slots) (hx : p.tables.exec = Jvm.exec) (hd : decode c.code pc = .ok (.aload k, 2)) (hl : Ls[k]? = some (.val v)) (hv : v.isRef = true) (k' : Ends wd p e below s Qb kc ks T (mkF m q Ls (v :: st))) (hq : pc + 2 = q := by rfl) : Ends wd p e below s Qb kc ks T (mkF m pc Ls st) := by
  subst hq; exact Ends.go (fun t => XS.aload X.here hx rfl hd hl hv) k'
theorem E.aloadN {v : Value} (X : Stand p l e R s m args below meth c T locs cells slots) (hx : p.tables.exec = Jvm.exec) (hd : decode c.code pc = .ok (.aload_n kf, 1)) (hl : Ls[kf.val]? = some (.val v)) (hv : v.isRef = true) (k' : Ends wd p e below s Qb kc ks T (mkF m q Ls (v :: st))) (hq : pc + 1 = q := by rfl) : Ends wd p e below s Qb kc ks T (mkF m pc Ls st) := by
  subst hq; exact Ends.go (fun t => XS.aloadN X.here hx rfl hd hl hv) k'
theorem E.astore {v : Value} (X : Stand p l e R s m args below meth c T locs cells slots) (hx : p.tables.exec = Jvm.exec) (hd : decode c.code pc = .ok (.astore k, 2)) (hv : v.isRef = true) (hl : storeLocals Ls k v = some l') (k' : Ends wd p e below s Qb kc ks T (mkF m q l' st)) (hq : pc + 2 = q := by rfl) : Ends wd p e below s Qb kc ks T (mkF m pc Ls (v :: st)) := by
  subst hq; exact Ends.go (fun t => XS.astore X.here hx rfl hd rfl hv hl) k'
theorem E.astoreN {v : Value} (X : Stand p l e R s m args below meth c T locs cells slots) (hx : p.tables.exec = Jvm.exec) (hd : decode c.code pc = .ok (.astore_n kf, 1)) (hv : v.isRef = true) (hl : storeLocals Ls kf.val v = some l') (k' : Ends wd p e below s Qb kc ks T (mkF m q l' st)) (hq : pc + 1 = q := by rfl) : Ends wd p e below s Qb kc ks T (mkF m pc Ls (v :: st)) := by
  subst hq; exact Ends.go (fun t => XS.astoreN X.here hx rfl hd rfl hv hl) k'
theorem E.iconst {i : Int} {v : Int32} (X : Stand p l e R s m args below meth c T locs cells slots) (hx : p.tables.exec = Jvm.exec) (hd : decode c.code pc = .ok (.iconst i, 1)) (hv : Int32.ofInt i = v) (k' : Ends wd p e below s Qb kc ks T (mkF m q Ls (.int v :: st))) (hq : pc + 1 = q := by rfl) : Ends wd p e below s Qb kc ks T (mkF m pc Ls st) := by
  subst hq; subst hv; exact Ends.go (fun t => XS.iconst X.here hx rfl hd) k'
theorem E.bipush {i : Int} {v : Int32} (X : Stand p l e R s m args below meth c T locs cells slots) (hx : p.tables.exec = Jvm.exec) (hd : decode c.code pc = .ok (.bipush i, 2)) (hv : (Int8.ofInt i).toInt32 = v) (k' : Ends wd p e below s Qb kc ks T (mkF m q Ls (.int v :: st))) (hq : pc + 2 = q := by rfl) : Ends wd p e below s Qb kc ks T (mkF m pc Ls st) := by
  subst hq; subst hv; exact Ends.go (fun t => XS.bipush X.here hx rfl hd) k'
theorem E.sipush {i : Int} {v : Int32} (X : Stand p l e R s m args below meth c T locs cells slots) (hx : p.tables.exec = Jvm.exec) (hd : decode c.code pc = .ok (.sipush i, 3)) (hv : (Int16.ofInt i).toInt32 = v) (k' : Ends wd p e below s Qb kc ks T (mkF m q Ls (.int v :: st))) (hq : pc + 3 = q := by rfl) : Ends wd p e below s Qb kc ks T (mkF m pc Ls st) := by
  subst hq; subst hv; exact Ends.go (fun t => XS.sipush X.here hx rfl hd) k'
theorem E.lconst {v : Int64} (X : Stand p l e R s m args below meth c T locs cells slots) (hx : p.tables.exec = Jvm.exec) (hd : decode c.code pc = .ok (.lconst k2, 1)) (hv : Int64.ofNat k2 = v) (k' : Ends wd p e below s Qb kc ks T (mkF m q Ls (.long v :: st))) (hq : pc + 1 = q := by rfl) : Ends wd p e below s Qb kc ks T (mkF m pc Ls st) := by
  subst hq; subst hv; exact Ends.go (fun t => XS.lconst X.here hx rfl hd) k'
theorem E.dconst0 {v : UInt64} (X : Stand p l e R s m args below meth c T locs cells slots) (hx : p.tables.exec = Jvm.exec) (hd : decode c.code pc = .ok (.dconst 0, 1)) (hv : FP.dconst0 = v) (k' : Ends wd p e below s Qb kc ks T (mkF m q Ls (.double v :: st))) (hq : pc + 1 = q := by rfl) : Ends wd p e below s Qb kc ks T (mkF m pc Ls st) := by
  subst hq; exact Ends.go (fun t => XS.dconst0 X.here hx rfl hd hv) k'
theorem E.dconst1 {v : UInt64} (X : Stand p l e R s m args below meth c T locs cells slots) (hx : p.tables.exec = Jvm.exec) (hd : decode c.code pc = .ok (.dconst 1, 1)) (hv : FP.dconst1 = v) (k' : Ends wd p e below s Qb kc ks T (mkF m q Ls (.double v :: st))) (hq : pc + 1 = q := by rfl) : Ends wd p e below s Qb kc ks T (mkF m pc Ls st) := by
  subst hq; exact Ends.go (fun t => XS.dconst1 X.here hx rfl hd hv) k'
theorem E.aconstNull  (X : Stand p l e R s m args below meth c T locs cells slots) (hx : p.tables.exec = Jvm.exec) (hd : decode c.code pc = .ok (.aconst_null, 1)) (k' : Ends wd p e below s Qb kc ks T (mkF m q Ls (.null :: st))) (hq : pc + 1 = q := by rfl) : Ends wd p e below s Qb kc ks T (mkF m pc Ls st) := by
  subst hq; exact Ends.go (fun t => XS.aconstNull X.here hx rfl hd) k'
theorem E.iadd {x y : Int32} (X : Stand p l e R s m args below meth c T locs cells slots) (hx : p.tables.exec = Jvm.exec) (hd : decode c.code pc = .ok (.iadd, 1)) (k' : Ends wd p e below s Qb kc ks T (mkF m q Ls (.int (x + y) :: st))) (hq : pc + 1 = q := by rfl) : Ends wd p e below s Qb kc ks T (mkF m pc Ls (.int y :: .int x :: st)) := by
  subst hq; exact Ends.go (fun t => XS.iadd X.here hx rfl hd rfl) k'
theorem E.isub {x y : Int32} (X : Stand p l e R s m args below meth c T locs cells slots) (hx : p.tables.exec = Jvm.exec) (hd : decode c.code pc = .ok (.isub, 1)) (k' : Ends wd p e below s Qb kc ks T (mkF m q Ls (.int (x - y) :: st))) (hq : pc + 1 = q := by rfl) : Ends wd p e below s Qb kc ks T (mkF m pc Ls (.int y :: .int x :: st)) := by
  subst hq; exact Ends.go (fun t => XS.isub X.here hx rfl hd rfl) k'
theorem E.imul {x y : Int32} (X : Stand p l e R s m args below meth c T locs cells slots) (hx : p.tables.exec = Jvm.exec) (hd : decode c.code pc = .ok (.imul, 1)) (k' : Ends wd p e below s Qb kc ks T (mkF m q Ls (.int (x * y) :: st))) (hq : pc + 1 = q := by rfl) : Ends wd p e below s Qb kc ks T (mkF m pc Ls (.int y :: .int x :: st)) := by
  subst hq; exact Ends.go (fun t => XS.imul X.here hx rfl hd rfl) k'
theorem E.iand {x y : Int32} (X : Stand p l e R s m args below meth c T locs cells slots) (hx : p.tables.exec = Jvm.exec) (hd : decode c.code pc = .ok (.iand, 1)) (k' : Ends wd p e below s Qb kc ks T (mkF m q Ls (.int (x &&& y) :: st))) (hq : pc + 1 = q := by rfl) : Ends wd p e below s Qb kc ks T (mkF m pc Ls (.int y :: .int x :: st)) := by
  subst hq; exact Ends.go (fun t => XS.iand X.here hx rfl hd rfl) k'
theorem E.ior {x y : Int32} (X : Stand p l e R s m args below meth c T locs cells slots) (hx : p.tables.exec = Jvm.exec) (hd : decode c.code pc = .ok (.ior, 1)) (k' : Ends wd p e below s Qb kc ks T (mkF m q Ls (.int (x ||| y) :: st))) (hq : pc + 1 = q := by rfl) : Ends wd p e below s Qb kc ks T (mkF m pc Ls (.int y :: .int x :: st)) := by
  subst hq; exact Ends.go (fun t => XS.ior X.here hx rfl hd rfl) k'
theorem E.ixor {x y : Int32} (X : Stand p l e R s m args below meth c T locs cells slots) (hx : p.tables.exec = Jvm.exec) (hd : decode c.code pc = .ok (.ixor, 1)) (k' : Ends wd p e below s Qb kc ks T (mkF m q Ls (.int (x ^^^ y) :: st))) (hq : pc + 1 = q := by rfl) : Ends wd p e below s Qb kc ks T (mkF m pc Ls (.int y :: .int x :: st)) := by
  subst hq; exact Ends.go (fun t => XS.ixor X.here hx rfl hd rfl) k'
theorem E.ladd {x y : Int64} (X : Stand p l e R s m args below meth c T locs cells slots) (hx : p.tables.exec = Jvm.exec) (hd : decode c.code pc = .ok (.ladd, 1)) (k' : Ends wd p e below s Qb kc ks T (mkF m q Ls (.long (x + y) :: st))) (hq : pc + 1 = q := by rfl) : Ends wd p e below s Qb kc ks T (mkF m pc Ls (.long y :: .long x :: st)) := by
  subst hq; exact Ends.go (fun t => XS.ladd X.here hx rfl hd rfl) k'
theorem E.lsub {x y : Int64} (X : Stand p l e R s m args below meth c T locs cells slots) (hx : p.tables.exec = Jvm.exec) (hd : decode c.code pc = .ok (.lsub, 1)) (k' : Ends wd p e below s Qb kc ks T (mkF m q Ls (.long (x - y) :: st))) (hq : pc + 1 = q := by rfl) : Ends wd p e below s Qb kc ks T (mkF m pc Ls (.long y :: .long x :: st)) := by
  subst hq; exact Ends.go (fun t => XS.lsub X.here hx rfl hd rfl) k'
theorem E.lmul {x y : Int64} (X : Stand p l e R s m args below meth c T locs cells slots) (hx : p.tables.exec = Jvm.exec) (hd : decode c.code pc = .ok (.lmul, 1)) (k' : Ends wd p e below s Qb kc ks T (mkF m q Ls (.long (x * y) :: st))) (hq : pc + 1 = q := by rfl) : Ends wd p e below s Qb kc ks T (mkF m pc Ls (.long y :: .long x :: st)) := by
  subst hq; exact Ends.go (fun t => XS.lmul X.here hx rfl hd rfl) k'
theorem E.land {x y : Int64} (X : Stand p l e R s m args below meth c T locs cells slots) (hx : p.tables.exec = Jvm.exec) (hd : decode c.code pc = .ok (.land, 1)) (k' : Ends wd p e below s Qb kc ks T (mkF m q Ls (.long (x &&& y) :: st))) (hq : pc + 1 = q := by rfl) : Ends wd p e below s Qb kc ks T (mkF m pc Ls (.long y :: .long x :: st)) := by
  subst hq; exact Ends.go (fun t => XS.land X.here hx rfl hd rfl) k'
theorem E.lor {x y : Int64} (X : Stand p l e R s m args below meth c T locs cells slots) (hx : p.tables.exec = Jvm.exec) (hd : decode c.code pc = .ok (.lor, 1)) (k' : Ends wd p e below s Qb kc ks T (mkF m q Ls (.long (x ||| y) :: st))) (hq : pc + 1 = q := by rfl) : Ends wd p e below s Qb kc ks T (mkF m pc Ls (.long y :: .long x :: st)) := by
  subst hq; exact Ends.go (fun t => XS.lor X.here hx rfl hd rfl) k'
theorem E.lxor {x y : Int64} (X : Stand p l e R s m args below meth c T locs cells slots) (hx : p.tables.exec = Jvm.exec) (hd : decode c.code pc = .ok (.lxor, 1)) (k' : Ends wd p e below s Qb kc ks T (mkF m q Ls (.long (x ^^^ y) :: st))) (hq : pc + 1 = q := by rfl) : Ends wd p e below s Qb kc ks T (mkF m pc Ls (.long y :: .long x :: st)) := by
  subst hq; exact Ends.go (fun t => XS.lxor X.here hx rfl hd rfl) k'
theorem E.ishl {x : Int32} {y : Int32} (X : Stand p l e R s m args below meth c T locs cells slots) (hx : p.tables.exec = Jvm.exec) (hd : decode c.code pc = .ok (.ishl, 1)) (k' : Ends wd p e below s Qb kc ks T (mkF m q Ls (.int (x <<< (y &&& 31)) :: st))) (hq : pc + 1 = q := by rfl) : Ends wd p e below s Qb kc ks T (mkF m pc Ls (.int y :: .int x :: st)) := by
  subst hq; exact Ends.go (fun t => XS.ishl X.here hx rfl hd rfl) k'
theorem E.ishr {x : Int32} {y : Int32} (X : Stand p l e R s m args below meth c T locs cells slots) (hx : p.tables.exec = Jvm.exec) (hd : decode c.code pc = .ok (.ishr, 1)) (k' : Ends wd p e below s Qb kc ks T (mkF m q Ls (.int (x >>> (y &&& 31)) :: st))) (hq : pc + 1 = q := by rfl) : Ends wd p e below s Qb kc ks T (mkF m pc Ls (.int y :: .int x :: st)) := by
  subst hq; exact Ends.go (fun t => XS.ishr X.here hx rfl hd rfl) k'
theorem E.iushr {x : Int32} {y : Int32} (X : Stand p l e R s m args below meth c T locs cells slots) (hx : p.tables.exec = Jvm.exec) (hd : decode c.code pc = .ok (.iushr, 1)) (k' : Ends wd p e below s Qb kc ks T (mkF m q Ls (.int ((x.toUInt32 >>> (y &&& 31).toUInt32).toInt32) :: st))) (hq : pc + 1 = q := by rfl) : Ends wd p e below s Qb kc ks T (mkF m pc Ls (.int y :: .int x :: st)) := by
  subst hq; exact Ends.go (fun t => XS.iushr X.here hx rfl hd rfl) k'
theorem E.lshl {x : Int64} {y : Int32} (X : Stand p l e R s m args below meth c T locs cells slots) (hx : p.tables.exec = Jvm.exec) (hd : decode c.code pc = .ok (.lshl, 1)) (k' : Ends wd p e below s Qb kc ks T (mkF m q Ls (.long (x <<< (y &&& 0x3f).toInt64) :: st))) (hq : pc + 1 = q := by rfl) : Ends wd p e below s Qb kc ks T (mkF m pc Ls (.int y :: .long x :: st)) := by
  subst hq; exact Ends.go (fun t => XS.lshl X.here hx rfl hd rfl) k'
theorem E.lshr {x : Int64} {y : Int32} (X : Stand p l e R s m args below meth c T locs cells slots) (hx : p.tables.exec = Jvm.exec) (hd : decode c.code pc = .ok (.lshr, 1)) (k' : Ends wd p e below s Qb kc ks T (mkF m q Ls (.long (x >>> (y &&& 0x3f).toInt64) :: st))) (hq : pc + 1 = q := by rfl) : Ends wd p e below s Qb kc ks T (mkF m pc Ls (.int y :: .long x :: st)) := by
  subst hq; exact Ends.go (fun t => XS.lshr X.here hx rfl hd rfl) k'
theorem E.lushr {x : Int64} {y : Int32} (X : Stand p l e R s m args below meth c T locs cells slots) (hx : p.tables.exec = Jvm.exec) (hd : decode c.code pc = .ok (.lushr, 1)) (k' : Ends wd p e below s Qb kc ks T (mkF m q Ls (.long ((x.toUInt64 >>> (y &&& 0x3f).toInt64.toUInt64).toInt64) :: st))) (hq : pc + 1 = q := by rfl) : Ends wd p e below s Qb kc ks T (mkF m pc Ls (.int y :: .long x :: st)) := by
  subst hq; exact Ends.go (fun t => XS.lushr X.here hx rfl hd rfl) k'
theorem E.ineg {x : Int32} (X : Stand p l e R s m args below meth c T locs cells slots) (hx : p.tables.exec = Jvm.exec) (hd : decode c.code pc = .ok (.ineg, 1)) (k' : Ends wd p e below s Qb kc ks T (mkF m q Ls (.int (-x) :: st))) (hq : pc + 1 = q := by rfl) : Ends wd p e below s Qb kc ks T (mkF m pc Ls (.int x :: st)) := by
  subst hq; exact Ends.go (fun t => XS.ineg X.here hx rfl hd rfl) k'
theorem E.lneg {x : Int64} (X : Stand p l e R s m args below meth c T locs cells slots) (hx : p.tables.exec = Jvm.exec) (hd : decode c.code pc = .ok (.lneg, 1)) (k' : Ends wd p e below s Qb kc ks T (mkF m q Ls (.long (-x) :: st))) (hq : pc + 1 = q := by rfl) : Ends wd p e below s Qb kc ks T (mkF m pc Ls (.long x :: st)) := by
  subst hq; exact Ends.go (fun t => XS.lneg X.here hx rfl hd rfl) k'
theorem E.i2l {x : Int32} (X : Stand p l e R s m args below meth c T locs cells slots) (hx : p.tables.exec = Jvm.exec) (hd : decode c.code pc = .ok (.i2l, 1)) (k' : Ends wd p e below s Qb kc ks T (mkF m q Ls (.long (x.toInt64) :: st))) (hq : pc + 1 = q := by rfl) : Ends wd p e below s Qb kc ks T (mkF m pc Ls (.int x :: st)) := by
  subst hq; exact Ends.go (fun t => XS.i2l X.here hx rfl hd rfl) k'
theorem E.l2i {x : Int64} (X : Stand p l e R s m args below meth c T locs cells slots) (hx : p.tables.exec = Jvm.exec) (hd : decode c.code pc = .ok (.l2i, 1)) (k' : Ends wd p e below s Qb kc ks T (mkF m q Ls (.int (x.toInt32) :: st))) (hq : pc + 1 = q := by rfl) : Ends wd p e below s Qb kc ks T (mkF m pc Ls (.long x :: st)) := by
  subst hq; exact Ends.go (fun t => XS.l2i X.here hx rfl hd rfl) k'
theorem E.i2b {x : Int32} (X : Stand p l e R s m args below meth c T locs cells slots) (hx : p.tables.exec = Jvm.exec) (hd : decode c.code pc = .ok (.i2b, 1)) (k' : Ends wd p e below s Qb kc ks T (mkF m q Ls (.int (x.toInt8.toInt32) :: st))) (hq : pc + 1 = q := by rfl) : Ends wd p e below s Qb kc ks T (mkF m pc Ls (.int x :: st)) := by
  subst hq; exact Ends.go (fun t => XS.i2b X.here hx rfl hd rfl) k'
theorem E.i2s {x : Int32} (X : Stand p l e R s m args below meth c T locs cells slots) (hx : p.tables.exec = Jvm.exec) (hd : decode c.code pc = .ok (.i2s, 1)) (k' : Ends wd p e below s Qb kc ks T (mkF m q Ls (.int (x.toInt16.toInt32) :: st))) (hq : pc + 1 = q := by rfl) : Ends wd p e below s Qb kc ks T (mkF m pc Ls (.int x :: st)) := by
  subst hq; exact Ends.go (fun t => XS.i2s X.here hx rfl hd rfl) k'
theorem E.i2c {x : Int32} (X : Stand p l e R s m args below meth c T locs cells slots) (hx : p.tables.exec = Jvm.exec) (hd : decode c.code pc = .ok (.i2c, 1)) (k' : Ends wd p e below s Qb kc ks T (mkF m q Ls (.int (x.toUInt32.toUInt16.toUInt32.toInt32) :: st))) (hq : pc + 1 = q := by rfl) : Ends wd p e below s Qb kc ks T (mkF m pc Ls (.int x :: st)) := by
  subst hq; exact Ends.go (fun t => XS.i2c X.here hx rfl hd rfl) k'
theorem E.i2d {x : Int32} (X : Stand p l e R s m args below meth c T locs cells slots) (hx : p.tables.exec = Jvm.exec) (hd : decode c.code pc = .ok (.i2d, 1)) (k' : Ends wd p e below s Qb kc ks T (mkF m q Ls (.double (FP.i2d x) :: st))) (hq : pc + 1 = q := by rfl) : Ends wd p e below s Qb kc ks T (mkF m pc Ls (.int x :: st)) := by
  subst hq; exact Ends.go (fun t => XS.i2dS X.here hx rfl hd rfl rfl) k'
theorem E.dmul {x y : UInt64} (X : Stand p l e R s m args below meth c T locs cells slots) (hx : p.tables.exec = Jvm.exec) (hd : decode c.code pc = .ok (.dmul, 1)) (hn : Jvm.Free.Fl.NoNaN64 (FP.dmul x y)) (k' : Ends wd p e below s Qb kc ks T (mkF m q Ls (.double (FP.dmul x y) :: st))) (hq : pc + 1 = q := by rfl) : Ends wd p e below s Qb kc ks T (mkF m pc Ls (.double y :: .double x :: st)) := by
  subst hq; exact Ends.go (fun t => XS.dmulS X.here hx rfl hd rfl hn rfl) k'
theorem E.lcmp {x y : Int64} (X : Stand p l e R s m args below meth c T locs cells slots) (hx : p.tables.exec = Jvm.exec) (hd : decode c.code pc = .ok (.lcmp, 1)) (k' : Ends wd p e below s Qb kc ks T (mkF m q Ls (.int (lcmpW x y) :: st))) (hq : pc + 1 = q := by rfl) : Ends wd p e below s Qb kc ks T (mkF m pc Ls (.long y :: .long x :: st)) := by
  subst hq; exact Ends.go (fun t => XS.lcmp X.here hx rfl hd rfl) k'
theorem E.dcmp {x y : UInt64} {o : CmpOp} (X : Stand p l e R s m args below meth c T locs cells slots) (hx : p.tables.exec = Jvm.exec) (hd : decode c.code pc = .ok (.dcmp o, 1)) (k' : Ends wd p e below s Qb kc ks T (mkF m q Ls (.int (cmpValue (FP.dcmp x y) o) :: st))) (hq : pc + 1 = q := by rfl) : Ends wd p e below s Qb kc ks T (mkF m pc Ls (.double y :: .double x :: st)) := by
  subst hq; exact Ends.go (fun t => XS.dcmpS X.here hx rfl hd rfl rfl) k'
theorem E.idiv {x y : Int32} (X : Stand p l e R s m args below meth c T locs cells slots) (hx : p.tables.exec = Jvm.exec) (hd : decode c.code pc = .ok (.idiv, 1)) (hy : ¬ y = 0) (k' : Ends wd p e below s Qb kc ks T (mkF m q Ls (.int (x / y) :: st))) (hq : pc + 1 = q := by rfl) : Ends wd p e below s Qb kc ks T (mkF m pc Ls (.int y :: .int x :: st)) := by
  subst hq; exact Ends.go (fun t => XS.idiv X.here hx rfl hd rfl hy) k'
theorem E.irem {x y : Int32} (X : Stand p l e R s m args below meth c T locs cells slots) (hx : p.tables.exec = Jvm.exec) (hd : decode c.code pc = .ok (.irem, 1)) (hy : ¬ y = 0) (k' : Ends wd p e below s Qb kc ks T (mkF m q Ls (.int (x % y) :: st))) (hq : pc + 1 = q := by rfl) : Ends wd p e below s Qb kc ks T (mkF m pc Ls (.int y :: .int x :: st)) := by
  subst hq; exact Ends.go (fun t => iremM X hx rfl hd rfl hy) k'
theorem E.ldiv {x y : Int64} (X : Stand p l e R s m args below meth c T locs cells slots) (hx : p.tables.exec = Jvm.exec) (hd : decode c.code pc = .ok (.ldiv, 1)) (hy : ¬ y = 0) (k' : Ends wd p e below s Qb kc ks T (mkF m q Ls (.long (x / y) :: st))) (hq : pc + 1 = q := by rfl) : Ends wd p e below s Qb kc ks T (mkF m pc Ls (.long y :: .long x :: st)) := by
  subst hq; exact Ends.go (fun t => XS.ldiv X.here hx rfl hd rfl hy) k'
theorem E.lrem {x y : Int64} (X : Stand p l e R s m args below meth c T locs cells slots) (hx : p.tables.exec = Jvm.exec) (hd : decode c.code pc = .ok (.lrem, 1)) (hy : ¬ y = 0) (k' : Ends wd p e below s Qb kc ks T (mkF m q Ls (.long (x - (x / y) * y) :: st))) (hq : pc + 1 = q := by rfl) : Ends wd p e below s Qb kc ks T (mkF m pc Ls (.long y :: .long x :: st)) := by
  subst hq; exact Ends.go (fun t => XS.lrem X.here hx rfl hd rfl hy) k'
theorem E.iinc {x v : Int32} {cst : Int} (X : Stand p l e R s m args below meth c T locs cells slots) (hx : p.tables.exec = Jvm.exec) (hd : decode c.code pc = .ok (.iinc k cst, 3)) (hl : Ls[k]? = some (.val (.int x))) (hv : x + Int32.ofInt cst = v) (hl' : storeLocals Ls k (.int v) = some l') (k' : Ends wd p e below s Qb kc ks T (mkF m q l' st)) (hq : pc + 3 = q := by rfl) : Ends wd p e below s Qb kc ks T (mkF m pc Ls st) := by
  subst hq; subst hv; exact Ends.go (fun t => XS.iinc X.here hx rfl hd hl hl') k'
theorem E.dup {v : Value} (X : Stand p l e R s m args below meth c T locs cells slots) (hx : p.tables.exec = Jvm.exec) (hd : decode c.code pc = .ok (.dup, 1)) (hc : v.category = 1) (k' : Ends wd p e below s Qb kc ks T (mkF m q Ls (v :: v :: st))) (hq : pc + 1 = q := by rfl) : Ends wd p e below s Qb kc ks T (mkF m pc Ls (v :: st)) := by
  subst hq; exact Ends.go (fun t => XS.dup X.here hx rfl hd rfl hc) k'
theorem E.pop {v : Value} (X : Stand p l e R s m args below meth c T locs cells slots) (hx : p.tables.exec = Jvm.exec) (hd : decode c.code pc = .ok (.pop, 1)) (hc : v.category = 1) (k' : Ends wd p e below s Qb kc ks T (mkF m q Ls st)) (hq : pc + 1 = q := by rfl) : Ends wd p e below s Qb kc ks T (mkF m pc Ls (v :: st)) := by
  subst hq; exact Ends.go (fun t => XS.pop X.here hx rfl hd rfl hc) k'
theorem E.dupX1 {v w : Value} (X : Stand p l e R s m args below meth c T locs cells slots) (hx : p.tables.exec = Jvm.exec) (hd : decode c.code pc = .ok (.dup_x1, 1)) (hc : v.category = 1) (hc2 : w.category = 1) (k' : Ends wd p e below s Qb kc ks T (mkF m q Ls (v :: w :: v :: st))) (hq : pc + 1 = q := by rfl) : Ends wd p e below s Qb kc ks T (mkF m pc Ls (v :: w :: st)) := by
  subst hq; exact Ends.go (fun t => XS.dupX1 X.here hx rfl hd rfl hc hc2) k'
theorem E.icmpY {x y : Int32} {cd : ClassFile.Cond} {o : Int} (X : Stand p l e R s m args below meth c T locs cells slots) (hx : p.tables.exec = Jvm.exec) (hd : decode c.code pc = .ok (.if_icmp cd o, 3)) (hc : if_icmp.holds cd x y = true) (k' : Ends wd p e below s Qb kc ks T (mkF m q Ls st)) (ho : 0 ≤ (pc : Int) + o := by decide) (hq : ((pc : Int) + o).toNat = q := by decide) : Ends wd p e below s Qb kc ks T (mkF m pc Ls (.int y :: .int x :: st)) :=
  Ends.go (fun t => XS.icmpYes X.here hx rfl rfl hd rfl hc ho hq) k'
theorem E.icmpN {x y : Int32} {cd : ClassFile.Cond} {o : Int} (X : Stand p l e R s m args below meth c T locs cells slots) (hx : p.tables.exec = Jvm.exec) (hd : decode c.code pc = .ok (.if_icmp cd o, 3)) (hc : if_icmp.holds cd x y = false) (k' : Ends wd p e below s Qb kc ks T (mkF m q Ls st)) (hq : pc + 3 = q := by rfl) : Ends wd p e below s Qb kc ks T (mkF m pc Ls (.int y :: .int x :: st)) := by
  subst hq; exact Ends.go (fun t => XS.icmpNo X.here hx rfl hd rfl hc) k'
theorem E.ifY {x : Int32} {cd : ClassFile.Cond} {o : Int} (X : Stand p l e R s m args below meth c T locs cells slots) (hx : p.tables.exec = Jvm.exec) (hd : decode c.code pc = .ok (.ifCond cd o, 3)) (hc : ifCond.holds cd x = true) (k' : Ends wd p e below s Qb kc ks T (mkF m q Ls st)) (ho : 0 ≤ (pc : Int) + o := by decide) (hq : ((pc : Int) + o).toNat = q := by decide) : Ends wd p e below s Qb kc ks T (mkF m pc Ls (.int x :: st)) :=
  Ends.go (fun t => XS.ifYes X.here hx rfl rfl hd rfl hc ho hq) k'
theorem E.ifN {x : Int32} {cd : ClassFile.Cond} {o : Int} (X : Stand p l e R s m args below meth c T locs cells slots) (hx : p.tables.exec = Jvm.exec) (hd : decode c.code pc = .ok (.ifCond cd o, 3)) (hc : ifCond.holds cd x = false) (k' : Ends wd p e below s Qb kc ks T (mkF m q Ls st)) (hq : pc + 3 = q := by rfl) : Ends wd p e below s Qb kc ks T (mkF m pc Ls (.int x :: st)) := by
  subst hq; exact Ends.go (fun t => XS.ifNo X.here hx rfl hd rfl hc) k'
theorem E.goto {o : Int} (X : Stand p l e R s m args below meth c T locs cells slots) (hx : p.tables.exec = Jvm.exec) (hd : decode c.code pc = .ok (.goto o, 3)) (k' : Ends wd p e below s Qb kc ks T (mkF m q Ls st)) (ho : 0 ≤ (pc : Int) + o := by decide) (hq : ((pc : Int) + o).toNat = q := by decide) : Ends wd p e below s Qb kc ks T (mkF m pc Ls st) :=
  Ends.go (fun t => XS.goto X.here hx rfl rfl hd ho hq) k'
theorem E.nullY {o : Int} (X : Stand p l e R s m args below meth c T locs cells slots) (hx : p.tables.exec = Jvm.exec) (hd : decode c.code pc = .ok (.ifnull o, 3)) (k' : Ends wd p e below s Qb kc ks T (mkF m q Ls st)) (ho : 0 ≤ (pc : Int) + o := by decide) (hq : ((pc : Int) + o).toNat = q := by decide) : Ends wd p e below s Qb kc ks T (mkF m pc Ls (.null :: st)) :=
  Ends.go (fun t => XS.ifnullYes X.here hx rfl rfl hd rfl ho hq) k'
theorem E.nullN {o : Int} {b : Addr} (X : Stand p l e R s m args below meth c T locs cells slots) (hx : p.tables.exec = Jvm.exec) (hd : decode c.code pc = .ok (.ifnull o, 3)) (k' : Ends wd p e below s Qb kc ks T (mkF m q Ls st)) (hq : pc + 3 = q := by rfl) : Ends wd p e below s Qb kc ks T (mkF m pc Ls (.ref b :: st)) := by
  subst hq; exact Ends.go (fun t => XS.ifnullNo X.here hx rfl hd rfl) k'
theorem E.nonnullY {o : Int} {b : Addr} (X : Stand p l e R s m args below meth c T locs cells slots) (hx : p.tables.exec = Jvm.exec) (hd : decode c.code pc = .ok (.ifnonnull o, 3)) (k' : Ends wd p e below s Qb kc ks T (mkF m q Ls st)) (ho : 0 ≤ (pc : Int) + o := by decide) (hq : ((pc : Int) + o).toNat = q := by decide) : Ends wd p e below s Qb kc ks T (mkF m pc Ls (.ref b :: st)) :=
  Ends.go (fun t => XS.ifnonnullYes X.here hx rfl rfl hd rfl ho hq) k'
theorem E.nonnullN {o : Int} (X : Stand p l e R s m args below meth c T locs cells slots) (hx : p.tables.exec = Jvm.exec) (hd : decode c.code pc = .ok (.ifnonnull o, 3)) (k' : Ends wd p e below s Qb kc ks T (mkF m q Ls st)) (hq : pc + 3 = q := by rfl) : Ends wd p e below s Qb kc ks T (mkF m pc Ls (.null :: st)) := by
  subst hq; exact Ends.go (fun t => XS.ifnonnullNo X.here hx rfl hd rfl) k'
theorem E.ldc {v : Int32} {own : String} {index : Nat} (X : Stand p l e R s m args below meth c T locs cells slots) (hx : p.tables.exec = Jvm.exec) (hZ : Z.Warmed39 s.vm) (hown : s.vm.findClass own = some m.cls) (hc : (Jvm.Cond.constant own index v).before a0 Z = true) (hd : decode c.code pc = .ok (.ldc index, 2)) (k' : Ends wd p e below s Qb kc ks T (mkF m q Ls (.int v :: st))) (hq : pc + 2 = q := by rfl) : Ends wd p e below s Qb kc ks T (mkF m pc Ls st) := by
  subst hq; exact Ends.go (fun t => X.ldcI hx hown (mvT hZ hc) rfl hd) k'
theorem E.ldcW {v : Int32} {own : String} {index : Nat} (X : Stand p l e R s m args below meth c T locs cells slots) (hx : p.tables.exec = Jvm.exec) (hZ : Z.Warmed39 s.vm) (hown : s.vm.findClass own = some m.cls) (hc : (Jvm.Cond.constant own index v).before a0 Z = true) (hd : decode c.code pc = .ok (.ldc_w index, 3)) (k' : Ends wd p e below s Qb kc ks T (mkF m q Ls (.int v :: st))) (hq : pc + 3 = q := by rfl) : Ends wd p e below s Qb kc ks T (mkF m pc Ls st) := by
  subst hq; exact Ends.go (fun t => X.ldcWI hx hown (mvT hZ hc) rfl hd) k'
theorem E.ldc2 {v : Int64} {own : String} {index : Nat} (X : Stand p l e R s m args below meth c T locs cells slots) (hx : p.tables.exec = Jvm.exec) (hZ : Z.Warmed39 s.vm) (hown : s.vm.findClass own = some m.cls) (hc : (Jvm.Cond.constantLong own index v).before a0 Z = true) (hd : decode c.code pc = .ok (.ldc2_w index, 3)) (k' : Ends wd p e below s Qb kc ks T (mkF m q Ls (.long v :: st))) (hq : pc + 3 = q := by rfl) : Ends wd p e below s Qb kc ks T (mkF m pc Ls st) := by
  subst hq; exact Ends.go (fun t => X.ldc2J hx hown (mvT hZ hc) rfl hd) k'
end OwnSteps
/-! own text: arrays by their whole contents; what a body may have done to the heap -/
section OwnHeap
variable {wd : Option (Vm → Heap → Prop)} {p : Program} {l : Launch} {e : Env} {R : Room} {s : State} {m : MethodId} {args : Array Value} {below : List Frame} {meth : Method} {c : Code} {T : State} {locs : List Loc} {cells slots : Nat} {Z : State} {a0 : Array Value} {h h' h0 : Heap} {Qb : Option Value → Heap → List Loc → Prop} {kc ks : Nat} {a b : Addr} {ty : FieldType} {vs : List Value} {v : Value} {sl i : Nat} {ws ws' : List Addr} {L L' : List Loc} {pc : Nat} {Ls : Array Slot} {st : List Value} {j : Int32}
def Ary (Z : State) (h : Heap) (a : Addr) (ty : FieldType) (vs : List Value) : Prop := ∃ c : Cell, Arr Z h a c ty ∧ c.slots = vs.toArray ∧ vs.length < 2 ^ 31
theorem Ary.lt (A : Ary Z h a ty vs) : a < h.size := by obtain ⟨c, A, -⟩ := A; exact A.lt
theorem Ary.ext (E : Ext h h') (A : Ary Z h a ty vs) : Ary Z h' a ty vs := by obtain ⟨c, A, r⟩ := A; exact ⟨c, A.ext E, r⟩
theorem Ary.other (W : Wr h h' b sl v) (A : Ary Z h a ty vs) (q : a ≠ b) : Ary Z h' a ty vs := by obtain ⟨c, A, r⟩ := A; exact ⟨c, Arr.other W A q, r⟩
theorem Ary.keep (A : Ary Z h a ty vs) (K : Keep h h' ws) (q : a ∉ ws) : Ary Z h' a ty vs := by obtain ⟨c, A, r⟩ := A; exact ⟨c, ⟨K.2.1 a c A.1 q, A.2⟩, r⟩
theorem Ary.set (A : Ary Z h a ty vs) (W : Wr h h' a i v) : Ary Z h' a ty (vs.set i v) := by
  obtain ⟨c, A, e, l⟩ := A
  refine ⟨c.setSlot i v, Arr.same W A, ?_, by rw [List.length_set]; exact l⟩
  show c.slots.setIfInBounds i v = _
  rw [e]; simp
theorem own_ofNat {i : Nat} (h : i < 2 ^ 31) : (Int32.ofNat i).toInt = (i : Int) := by
  rw [Int32.toInt_ofNat_of_lt h]
theorem own_clamp {i : Nat} (h : i < 2 ^ 31) : (Int32.ofNat i).toNatClampNeg = i ∧ ¬ (Int32.ofNat i) < 0 := by
  have q := own_ofNat h
  refine ⟨?_, ?_⟩
  · show (Int32.ofNat i).toInt.toNat = i
    omega
  · rw [Int32.lt_iff_toInt_lt]
    have : (0 : Int32).toInt = 0 := by decide
    omega
theorem Ary.new {k : ClassId} {n : Int32} {N : Nat} (A : Arr Z h a (newA k ty n) ty) (hn : n = Int32.ofNat N) (hN : N < 2 ^ 31) : Ary Z h a ty (List.replicate N (defaultValue ty)) := by
  refine ⟨_, A, ?_, by rw [List.length_replicate]; exact hN⟩
  subst hn
  show Array.replicate (Int32.ofNat N).toNatClampNeg (defaultValue ty) = _
  rw [(own_clamp hN).1]; simp
theorem own_inb {c : Cell} (e : c.slots = vs.toArray) (l : vs.length < 2 ^ 31) (hj : j = Int32.ofNat i) (hi : i < vs.length) : ¬ (j < 0 ∨ c.slots.size ≤ j.toNatClampNeg) := by
  subst hj
  have q := own_clamp (i := i) (by omega)
  rw [q.1, e]
  rintro (r | r)
  · exact q.2 r
  · simp at r; omega
theorem own_at {c : Cell} (e : c.slots = vs.toArray) (l : vs.length < 2 ^ 31) (hj : j = Int32.ofNat i) (hv : vs[i]? = some v) : ¬ (j < 0 ∨ c.slots.size ≤ j.toNatClampNeg) ∧ c.slots[j.toNatClampNeg]? = some v := by
  have hi : i < vs.length := (List.getElem?_eq_some_iff.mp hv).1
  refine ⟨own_inb e l hj hi, ?_⟩
  subst hj
  rw [(own_clamp (i := i) (by omega)).1, e]
  simpa using hv
/-- what the walk has done so far: of the elder cells only those in ws are written -/
def Ok (h0 h : Heap) (ws : List Addr) (L : List Loc) : Prop := Keep h0 h ws ∧ ∀ y ∈ L, y.base ∈ ws ∨ h0.size ≤ y.base
theorem Ok.refl (h : Heap) (ws : List Addr) : Ok h h ws [] := ⟨Keep.refl h ws, fun _ q => nomatch q⟩
theorem Ok.ext (O : Ok h0 h ws L) (E : Ext h h') : Ok h0 h' ws L := ⟨O.1.ext E, O.2⟩
theorem Ok.wr (O : Ok h0 h ws L) (W : Wr h h' a sl v) (q : a ∈ ws ∨ h0.size ≤ a) : Ok h0 h' ws (L ++ [⟨a, sl⟩]) :=
  ⟨O.1.wr W q, fun y hy => (List.mem_append.mp hy).elim (O.2 y) fun r => by cases List.mem_singleton.mp r; exact q⟩
theorem Ok.call (O : Ok h0 h ws L) (O' : Ok h h' ws' L') (q : ∀ x ∈ ws', x ∈ ws ∨ h0.size ≤ x) : Ok h0 h' ws (L ++ L') :=
  ⟨O.1.trans O'.1 q, fun y hy => (List.mem_append.mp hy).elim (O.2 y) fun r => (O'.2 y r).elim (q _) fun u => Or.inr (Nat.le_trans O.1.1 u)⟩
theorem Ok.fr (O : Ok h0 h [] L) : Fr h0.size L := fun y hy => (O.2 y hy).elim (fun q => nomatch q) id
theorem Ok.le (O : Ok h0 h ws L) : h0.size ≤ h.size := O.1.1
theorem Ends.alen (X : Stand p l e R s m args below meth c T locs cells slots) (hx : p.tables.exec = Jvm.exec) (hZ : Z.Warmed39 s.vm) (eT : T.heap = h) (A : Ary Z h a ty vs) (hd : decode c.code pc = .ok (.arraylength, 1)) {n : Int32} (hn : Int32.ofNat vs.length = n)
    (k : Ends wd p e below s Qb kc ks T (mkF m (pc + 1) Ls (.int n :: st))) : Ends wd p e below s Qb kc ks T (mkF m pc Ls (.ref a :: st)) := by
  obtain ⟨cl, A, q, -⟩ := A
  refine Ends.go (fun t => X.arraylength hx (cell := cl) (by rw [eT]; exact A.1) (State.isArrayOf_alike hZ.alike A.2.1) (g := mkF m pc Ls (.ref a :: st)) rfl (rest := st) rfl hd t) ?_
  have e1 : cl.slots.size.toInt32 = n := by rw [q, ← hn]; simp
  rw [e1]; exact k
theorem Ends.ild (X : Stand p l e R s m args below meth c T locs cells slots) (hx : p.tables.exec = Jvm.exec) (hZ : Z.Warmed39 s.vm) (eT : T.heap = h) (A : Ary Z h a .int vs) (hj : j = Int32.ofNat i) (hv : vs[i]? = some v) (hd : decode c.code pc = .ok (.iaload, 1))
    (k : Ends wd p e below s Qb kc ks T (mkF m (pc + 1) Ls (v :: st))) : Ends wd p e below s Qb kc ks T (mkF m pc Ls (.int j :: .ref a :: st)) := by
  obtain ⟨cl, A, q, q2⟩ := A
  obtain ⟨r1, r2⟩ := own_at q q2 hj hv
  exact Ends.go (fun t => X.iaload hx (by rw [eT]; exact A.1) (State.isArrayOf_alike hZ.alike A.2.1) A.2.2 r1 r2 (g := mkF m pc Ls (.int j :: .ref a :: st)) rfl rfl hd t) k
theorem Ends.cld (X : Stand p l e R s m args below meth c T locs cells slots) (hx : p.tables.exec = Jvm.exec) (hZ : Z.Warmed39 s.vm) (eT : T.heap = h) (A : Ary Z h a .char vs) (hj : j = Int32.ofNat i) (hv : vs[i]? = some v) (hd : decode c.code pc = .ok (.caload, 1))
    (k : Ends wd p e below s Qb kc ks T (mkF m (pc + 1) Ls (v :: st))) : Ends wd p e below s Qb kc ks T (mkF m pc Ls (.int j :: .ref a :: st)) := by
  obtain ⟨cl, A, q, q2⟩ := A
  obtain ⟨r1, r2⟩ := own_at q q2 hj hv
  exact Ends.go (fun t => X.caload hx (by rw [eT]; exact A.1) (State.isArrayOf_alike hZ.alike A.2.1) A.2.2 r1 r2 (g := mkF m pc Ls (.int j :: .ref a :: st)) rfl rfl hd t) k
theorem Ends.bld (X : Stand p l e R s m args below meth c T locs cells slots) (hx : p.tables.exec = Jvm.exec) (hZ : Z.Warmed39 s.vm) (eT : T.heap = h) (A : Ary Z h a .byte vs) (hj : j = Int32.ofNat i) (hv : vs[i]? = some v) (hd : decode c.code pc = .ok (.baload, 1))
    (k : Ends wd p e below s Qb kc ks T (mkF m (pc + 1) Ls (v :: st))) : Ends wd p e below s Qb kc ks T (mkF m pc Ls (.int j :: .ref a :: st)) := by
  obtain ⟨cl, A, q, q2⟩ := A
  obtain ⟨r1, r2⟩ := own_at q q2 hj hv
  exact Ends.go (fun t => X.baloadBytes hx (by rw [eT]; exact A.1) (State.isArrayOf_alike hZ.alike A.2.1) A.2.2 r1 r2 (g := mkF m pc Ls (.int j :: .ref a :: st)) rfl rfl hd t) k
theorem Ends.dld (X : Stand p l e R s m args below meth c T locs cells slots) (hx : p.tables.exec = Jvm.exec) (hZ : Z.Warmed39 s.vm) (eT : T.heap = h) (A : Ary Z h a .double vs) (hj : j = Int32.ofNat i) (hv : vs[i]? = some v) (hd : decode c.code pc = .ok (.daload, 1))
    (k : Ends wd p e below s Qb kc ks T (mkF m (pc + 1) Ls (v :: st))) : Ends wd p e below s Qb kc ks T (mkF m pc Ls (.int j :: .ref a :: st)) := by
  obtain ⟨cl, A, q, q2⟩ := A
  obtain ⟨r1, r2⟩ := own_at q q2 hj hv
  exact Ends.go (fun t => X.daload hx (by rw [eT]; exact A.1) (State.isArrayOf_alike hZ.alike A.2.1) A.2.2 r1 r2 (g := mkF m pc Ls (.int j :: .ref a :: st)) rfl rfl hd t) k
theorem Ends.ald (X : Stand p l e R s m args below meth c T locs cells slots) (hx : p.tables.exec = Jvm.exec) (hZ : Z.Warmed39 s.vm) (eT : T.heap = h) (A : Ary Z h a ty vs) (hty : ty.isReference = true) (hj : j = Int32.ofNat i) (hv : vs[i]? = some v) (hd : decode c.code pc = .ok (.aaload, 1))
    (k : Ends wd p e below s Qb kc ks T (mkF m (pc + 1) Ls (v :: st))) : Ends wd p e below s Qb kc ks T (mkF m pc Ls (.int j :: .ref a :: st)) := by
  obtain ⟨cl, A, q, q2⟩ := A
  obtain ⟨r1, r2⟩ := own_at q q2 hj hv
  exact Ends.go (fun t => X.aaload hx (by rw [eT]; exact A.1) (State.isArrayOf_alike hZ.alike A.2.1) hty A.2.2 r1 r2 (g := mkF m pc Ls (.int j :: .ref a :: st)) rfl rfl hd t) k
theorem Ends.ist (X : Stand p l e R s m args below meth c T locs cells slots) (hx : p.tables.exec = Jvm.exec) (hZ : Z.Warmed39 s.vm) (eT : T.heap = h) (A : Ary Z h a .int vs) {x : Int32} (hj : j = Int32.ofNat i) (hi : i < vs.length) (hd : decode c.code pc = .ok (.iastore, 1))
    (k : ∀ T' h', Stand p l e R s m args below meth c T' (locs ++ [⟨a, i⟩]) cells slots → T'.heap = h' → Wr h h' a i (.int x) → Ary Z h' a .int (vs.set i (.int x)) → Ends wd p e below s Qb kc ks T' (mkF m (pc + 1) Ls st)) : Ends wd p e below s Qb kc ks T (mkF m pc Ls (.int x :: .int j :: .ref a :: st)) := by
  obtain ⟨cl, A', q, q2⟩ := id A
  obtain ⟨T', h', X', e', W, st'⟩ := stI X hx hZ eT A' (j := j) (own_inb q q2 hj hi) (g := mkF m pc Ls (.int x :: .int j :: .ref a :: st)) rfl rfl hd
  have hc : j.toNatClampNeg = i := by rw [hj]; exact (own_clamp (by omega)).1
  rw [hc] at X' W
  exact Ends.go st' (k T' h' X' e' W (A.set W))
theorem Ends.cst (X : Stand p l e R s m args below meth c T locs cells slots) (hx : p.tables.exec = Jvm.exec) (hZ : Z.Warmed39 s.vm) (eT : T.heap = h) (A : Ary Z h a .char vs) {x x' : Int32} (hxx : nar .char x = x') (hj : j = Int32.ofNat i) (hi : i < vs.length) (hd : decode c.code pc = .ok (.castore, 1))
    (k : ∀ T' h', Stand p l e R s m args below meth c T' (locs ++ [⟨a, i⟩]) cells slots → T'.heap = h' → Wr h h' a i (.int x') → Ary Z h' a .char (vs.set i (.int x')) → Ends wd p e below s Qb kc ks T' (mkF m (pc + 1) Ls st)) : Ends wd p e below s Qb kc ks T (mkF m pc Ls (.int x :: .int j :: .ref a :: st)) := by
  obtain ⟨cl, A', q, q2⟩ := id A
  obtain ⟨T', h', X', e', W, st'⟩ := stC X hx hZ eT A' (j := j) (own_inb q q2 hj hi) (g := mkF m pc Ls (.int x :: .int j :: .ref a :: st)) rfl rfl hd
  have hc : j.toNatClampNeg = i := by rw [hj]; exact (own_clamp (by omega)).1
  rw [hc] at X' W
  rw [hxx] at W
  exact Ends.go st' (k T' h' X' e' W (A.set W))
theorem Ends.bst (X : Stand p l e R s m args below meth c T locs cells slots) (hx : p.tables.exec = Jvm.exec) (hZ : Z.Warmed39 s.vm) (eT : T.heap = h) (A : Ary Z h a .byte vs) {x x' : Int32} (hxx : nar .byte x = x') (hj : j = Int32.ofNat i) (hi : i < vs.length) (hd : decode c.code pc = .ok (.bastore, 1))
    (k : ∀ T' h', Stand p l e R s m args below meth c T' (locs ++ [⟨a, i⟩]) cells slots → T'.heap = h' → Wr h h' a i (.int x') → Ary Z h' a .byte (vs.set i (.int x')) → Ends wd p e below s Qb kc ks T' (mkF m (pc + 1) Ls st)) : Ends wd p e below s Qb kc ks T (mkF m pc Ls (.int x :: .int j :: .ref a :: st)) := by
  obtain ⟨cl, A', q, q2⟩ := id A
  obtain ⟨T', h', X', e', W, st'⟩ := stB X hx hZ eT A' (j := j) (own_inb q q2 hj hi) (g := mkF m pc Ls (.int x :: .int j :: .ref a :: st)) rfl rfl hd
  have hc : j.toNatClampNeg = i := by rw [hj]; exact (own_clamp (by omega)).1
  rw [hc] at X' W
  rw [hxx] at W
  exact Ends.go st' (k T' h' X' e' W (A.set W))
theorem Ends.dst (X : Stand p l e R s m args below meth c T locs cells slots) (hx : p.tables.exec = Jvm.exec) (hZ : Z.Warmed39 s.vm) (eT : T.heap = h) (A : Ary Z h a .double vs) {x : UInt64} (hj : j = Int32.ofNat i) (hi : i < vs.length) (hd : decode c.code pc = .ok (.dastore, 1))
    (k : ∀ T' h', Stand p l e R s m args below meth c T' (locs ++ [⟨a, i⟩]) cells slots → T'.heap = h' → Wr h h' a i (.double x) → Ary Z h' a .double (vs.set i (.double x)) → Ends wd p e below s Qb kc ks T' (mkF m (pc + 1) Ls st)) : Ends wd p e below s Qb kc ks T (mkF m pc Ls (.double x :: .int j :: .ref a :: st)) := by
  obtain ⟨cl, A', q, q2⟩ := id A
  obtain ⟨T', h', X', e', W, st'⟩ := stD X hx hZ eT A' (j := j) (own_inb q q2 hj hi) (g := mkF m pc Ls (.double x :: .int j :: .ref a :: st)) rfl rfl hd
  have hc : j.toNatClampNeg = i := by rw [hj]; exact (own_clamp (by omega)).1
  rw [hc] at X' W
  exact Ends.go st' (k T' h' X' e' W (A.set W))
theorem Ends.newA (X : Stand p l e R s m args below meth c T locs cells slots) (hx : p.tables.exec = Jvm.exec) (hZ : Z.Warmed39 s.vm) {aty : ArrayType} (w : (Jvm.Cond.arrayClass (newarray.typeOf aty)).before a0 Z = true) (eT : T.heap = h) (hd : decode c.code pc = .ok (.newarray aty, 2)) {n : Int32} {N : Nat} (hn : n = Int32.ofNat N) (hN : N * 8 ≤ 536870912) (hc : cells + 1 ≤ R.cells) (hl : slots + N ≤ R.slots)
    (k : ∀ T' h' b, b = h.size → Stand p l e R s m args below meth c T' locs (cells + 1) (slots + N) → T'.heap = h' → Ext h h' → Ary Z h' b (newarray.typeOf aty) (List.replicate N (defaultValue (newarray.typeOf aty))) → Ends wd p e below s Qb kc ks T' (mkF m (pc + 2) Ls (.ref b :: st))) : Ends wd p e below s Qb kc ks T (mkF m pc Ls (.int n :: st)) := by
  have q := own_clamp (i := N) (by omega)
  obtain ⟨T', h', cA, X', e', E, A, st'⟩ := newP X hx hZ w eT (g := mkF m pc Ls (.int n :: st)) rfl hd rfl (by rw [hn]; exact q.2) (cap := N) (by rw [hn, q.1]; exact Nat.le_refl _) hN hc hl
  exact Ends.go st' (k T' h' _ rfl X' e' E (Ary.new A hn (by omega)))
theorem Ends.newC (X : Stand p l e R s m args below meth c T locs cells slots) (hx : p.tables.exec = Jvm.exec) (hZ : Z.Warmed39 s.vm) {own C : String} {index n : Nat} (hown : s.vm.findClass own = some m.cls) (w : (Jvm.Cond.classLink own index C).before a0 Z = true) (wi : (Jvm.Cond.instantiable C n).before a0 Z = true) (wz : (Jvm.Cond.initialized C).before a0 Z = true) (eT : T.heap = h) (hd : decode c.code pc = .ok (.new index, 3)) (hc : cells + 1 ≤ R.cells) (hl : slots + n ≤ R.slots)
    (k : ∀ T' h' b, b = h.size → Stand p l e R s m args below meth c T' locs (cells + 1) (slots + n) → T'.heap = h' → Ext h h' → Exa Z h' b C → (∀ {O nm d : String} {ty : FieldType}, Laid Z a0 C O nm d → parseFieldDescriptor d = some ty → Fld Z h' b O nm d (defaultValue ty)) → Ends wd p e below s Qb kc ks T' (mkF m (pc + 3) Ls (.ref b :: st))) : Ends wd p e below s Qb kc ks T (mkF m pc Ls st) := by
  obtain ⟨T', h', X', e', E, A, D, -, st'⟩ := newO X hx hZ hown w wi wz eT (g := mkF m pc Ls st) rfl hd hc hl
  exact Ends.go st' (k T' h' _ rfl X' e' E A D)
end OwnHeap
section OwnHeap2
variable {wd : Option (Vm → Heap → Prop)} {p : Program} {l : Launch} {e : Env} {R : Room} {s : State} {m : MethodId} {args : Array Value} {below : List Frame} {meth : Method} {c : Code} {T : State} {locs : List Loc} {cells slots : Nat} {Z : State} {a0 : Array Value} {h h' h0 : Heap} {Qb : Option Value → Heap → List Loc → Prop} {kc ks : Nat} {a b : Addr} {ty : FieldType} {v v' old : Value} {pc index kk : Nat} {Ls : Array Slot} {st : List Value} {own R0 O n d host C : String}
theorem Ends.getF (X : Stand p l e R s m args below meth c T locs cells slots) (hx : p.tables.exec = Jvm.exec) (hZ : Z.Warmed39 s.vm) (hown : s.vm.findClass own = some m.cls) (w : (Jvm.Cond.fieldLink own index R0 n d).before a0 Z = true ∨ (Jvm.Cond.fieldLinkNest own index R0 n d host).before a0 Z = true) (via : Via Z R0 O n d) (eT : T.heap = h) (F : Fld Z h a O n d v) (hd : decode c.code pc = .ok (.getfield index, 3))
    (k : ∀ T', Stand p l e R s m args below meth c T' locs cells slots → T'.heap = h → Ends wd p e below s Qb kc ks T' (mkF m (pc + 3) Ls (v :: st))) : Ends wd p e below s Qb kc ks T (mkF m pc Ls (.ref a :: st)) := by
  obtain ⟨T', X', e', st'⟩ := Jvm.RoadKit.getF X hx hZ hown w via eT F (g := mkF m pc Ls (.ref a :: st)) rfl rfl hd
  exact Ends.go st' (k T' X' e')
theorem Ends.putF (X : Stand p l e R s m args below meth c T locs cells slots) (hx : p.tables.exec = Jvm.exec) (hZ : Z.Warmed39 s.vm) (hown : s.vm.findClass own = some m.cls) (w : (Jvm.Cond.fieldLink own index R0 n d).before a0 Z = true ∨ (Jvm.Cond.fieldLinkNest own index R0 n d host).before a0 Z = true) (via : Via Z R0 O n d) (eT : T.heap = h) (F : Fld Z h a O n d old) (E : Exa Z h a C) (L : (Jvm.Cond.lays C O n d).before a0 Z = true ∨ ((Jvm.Cond.laysFinal C O n d).before a0 Z = true ∧ own = O ∧ meth.name = "<init>")) (wi : (Jvm.Cond.instantiable C kk).before a0 Z = true) (hty : parseFieldDescriptor d = some ty) (hn : narrow ty v = v) (hf : fits ty v = true) (hd : decode c.code pc = .ok (.putfield index, 3))
    (k : ∀ T' h', Stand p l e R s m args below meth c T' (locs ++ [⟨a, Jvm.RoadKit.slotOf Z O n d⟩]) cells slots → T'.heap = h' → Wr h h' a (Jvm.RoadKit.slotOf Z O n d) v → Fld Z h' a O n d v → Ends wd p e below s Qb kc ks T' (mkF m (pc + 3) Ls st)) : Ends wd p e below s Qb kc ks T (mkF m pc Ls (v :: .ref a :: st)) := by
  obtain ⟨T', h', X', e', W, st'⟩ := Jvm.RoadKit.putF X hx hZ hown w via eT F E L wi hty hn hf (g := mkF m pc Ls (v :: .ref a :: st)) rfl rfl hd
  exact Ends.go st' (k T' h' X' e' W (F.same W))
theorem Ends.putN (X : Stand p l e R s m args below meth c T locs cells slots) (hx : p.tables.exec = Jvm.exec) (hZ : Z.Warmed39 s.vm) (hown : s.vm.findClass own = some m.cls) (w : (Jvm.Cond.fieldLink own index R0 n d).before a0 Z = true) (via : Via Z R0 O n d) (eT : T.heap = h) (F : Fld Z h a O n d old) (E : Exa Z h a C) (L : (Jvm.Cond.lays C O n d).before a0 Z = true ∨ ((Jvm.Cond.laysFinal C O n d).before a0 Z = true ∧ own = O ∧ meth.name = "<init>")) (wi : (Jvm.Cond.instantiable C kk).before a0 Z = true) (hty : parseFieldDescriptor d = some ty) (hn : narrow ty v = v') (hf : fits ty v' = true) (hd : decode c.code pc = .ok (.putfield index, 3))
    (k : ∀ T' h', Stand p l e R s m args below meth c T' (locs ++ [⟨a, Jvm.RoadKit.slotOf Z O n d⟩]) cells slots → T'.heap = h' → Wr h h' a (Jvm.RoadKit.slotOf Z O n d) v' → Fld Z h' a O n d v' → Ends wd p e below s Qb kc ks T' (mkF m (pc + 3) Ls st)) : Ends wd p e below s Qb kc ks T (mkF m pc Ls (v :: .ref a :: st)) := by
  obtain ⟨T', h', X', e', W, st'⟩ := Jvm.RoadKit.putFN X hx hZ hown w via eT F E L wi hty hn hf (g := mkF m pc Ls (v :: .ref a :: st)) rfl rfl hd
  exact Ends.go st' (k T' h' X' e' W (F.same W))
theorem Ends.initO (X : Stand p l e R s m args below meth c T locs cells slots) (hx : p.tables.exec = Jvm.exec) (hZ : Z.Warmed39 s.vm) (hown : s.vm.findClass own = some m.cls) (w1 : (Jvm.Cond.methodLink own index Lib.objectInit).before a0 Z = true) (w2 : (Jvm.Cond.instanceMethod Lib.objectInit).before a0 Z = true) (w3 : (Jvm.Cond.code Lib.objectInit ⟨#[0xb1]⟩ 1 none).before a0 Z = true) (eT : T.heap = h) (hsz : Ls.size = c.maxLocals) (hd : decode c.code pc = .ok (.invokespecial index, 3)) (hf : 1 ≤ R.frames) {W : Nat} (hW : (st.map fun v => v.category).sum ≤ W) (hl : W + 12 ≤ R.locals)
    (k : ∀ T', Stand p l e R s m args below meth c T' locs cells slots → T'.heap = h → Ends wd p e below s Qb kc ks T' (mkF m (pc + 3) Ls st)) : Ends wd p e below s Qb kc ks T (mkF m pc Ls (.ref a :: st)) := by
  obtain ⟨T', X', e', st'⟩ := Jvm.RoadKit.initO X hx hZ hown w1 w2 w3 eT (g := mkF m pc Ls (.ref a :: st)) rfl hsz rfl hd hf (W := W) (by show 2 * 0 + _ ≤ _; omega) hl
  exact Ends.go st' (k T' X' e')
end OwnHeap2
section OwnHeap3
variable {wd : Option (Vm → Heap → Prop)} {p : Program} {l : Launch} {e : Env} {R : Room} {s : State} {m : MethodId} {args : Array Value} {below : List Frame} {meth : Method} {c : Code} {T : State} {locs : List Loc} {cells slots : Nat} {Z : State} {a0 : Array Value} {h h' h0 : Heap} {Qb : Option Value → Heap → List Loc → Prop} {kc ks : Nat} {a b y : Addr} {ty : FieldType} {vs : List Value} {v : Value} {sl i : Nat} {ws : List Addr} {pc q index : Nat} {Ls : Array Slot} {st : List Value} {j : Int32} {own C n d O R0 host : String}
theorem own_sta_keep (F : Sta Z h C n d v) (K : Keep h h' ws) (q : ∀ x ∈ ws, ∀ cell : Cell, h[x]? = some cell → cell.vm.isStatics = false) : Sta Z h' C n d v := by
  obtain ⟨cf, i, k, f, st, cell, h1, h2, h3, h4, h5, h6, h7⟩ := F
  have ni : st ∉ ws := fun m => by rw [q st m cell h5] at h6; cases h6
  exact ⟨cf, i, k, f, st, cell, h1, h2, h3, h4, K.2.1 st cell h5 ni, h6, h7⟩
theorem own_ns (E : Exa Z h a C) : ∀ x ∈ [a], ∀ cell : Cell, h[x]? = some cell → cell.vm.isStatics = false := fun x m cell q => by
  cases List.mem_singleton.mp m
  obtain ⟨c1, _, h1, -, -, h4, -⟩ := E
  cases h1.symm.trans q; exact h4
theorem own_ns0 : ∀ x ∈ ([] : List Addr), ∀ cell : Cell, h[x]? = some cell → cell.vm.isStatics = false := fun x m => nomatch m
theorem Ends.getS (X : Stand p l e R s m args below meth c T locs cells slots) (hx : p.tables.exec = Jvm.exec) (hZ : Z.Warmed39 s.vm) (hown : s.vm.findClass own = some m.cls) (w : (Jvm.Cond.fieldLink own index R0 n d).before a0 Z = true ∨ (Jvm.Cond.fieldLinkNest own index R0 n d host).before a0 Z = true) (via : Via Z R0 O n d) (eT : T.heap = h) (F : Sta Z h O n d v) (hd : decode c.code pc = .ok (.getstatic index, 3))
    (k : ∀ T', Stand p l e R s m args below meth c T' locs cells slots → T'.heap = h → Ends wd p e below s Qb kc ks T' (mkF m (pc + 3) Ls (v :: st))) : Ends wd p e below s Qb kc ks T (mkF m pc Ls st) := by
  obtain ⟨T', X', e', st'⟩ := getS2 X hx hZ hown w via eT F (g := mkF m pc Ls st) rfl hd
  exact Ends.go st' (k T' X' e')
theorem E.ldc2D {w : UInt64} (X : Stand p l e R s m args below meth c T locs cells slots) (hx : p.tables.exec = Jvm.exec) (hZ : Z.Warmed39 s.vm) (hown : s.vm.findClass own = some m.cls) (hc : (Jvm.Cond.constantDouble own index w).before a0 Z = true) (hd : decode c.code pc = .ok (.ldc2_w index, 3)) (k' : Ends wd p e below s Qb kc ks T (mkF m q Ls (.double w :: st))) (hq : pc + 3 = q := by rfl) : Ends wd p e below s Qb kc ks T (mkF m pc Ls st) := by
  subst hq; exact Ends.go (fun t => X.ldc2DoubleC hx hown (mvT hZ hc) (g := mkF m pc Ls st) rfl hd t) k'
theorem Ends.retD (X : Stand p l e R s m args below meth c T locs cells slots) (hx : p.tables.exec = Jvm.exec) (hlk : meth.locks = false) {z : UInt64} (hret : meth.sig.returnType = some .double) (hd : decode c.code pc = .ok (.dreturn, 1)) (hc : cells ≤ kc) (hs : slots ≤ ks) (hQ : Qb (some (.double z)) T.heap locs) (hF : OkF wd T.vm T.heap := by exact True.intro) : Ends wd p e below s Qb kc ks T (mkF m pc Ls (.double z :: st)) :=
  Ends.ret X hx hlk hret rfl (Or.inr (Or.inr (Or.inl ⟨rfl, rfl, _, rfl⟩))) hd hc hs hQ hF
/-- an array of arrays, with what may lie in it -/
def Ar2 (Z : State) (h : Heap) (a : Addr) (ty : FieldType) (C : String) (vs : List Value) : Prop := ∃ c : Cell, Arr Z h a c (.array ty) ∧ c.slots = vs.toArray ∧ vs.length < 2 ^ 31 ∧ OvrA Z c.cls ty C
theorem Ar2.ary (A : Ar2 Z h a ty C vs) : Ary Z h a (.array ty) vs := by obtain ⟨c, A, q, r, -⟩ := A; exact ⟨c, A, q, r⟩
theorem Ar2.lt (A : Ar2 Z h a ty C vs) : a < h.size := A.ary.lt
theorem Ar2.ext (E : Ext h h') (A : Ar2 Z h a ty C vs) : Ar2 Z h' a ty C vs := by obtain ⟨c, A, r⟩ := A; exact ⟨c, A.ext E, r⟩
theorem Ar2.other (W : Wr h h' b sl v) (A : Ar2 Z h a ty C vs) (q : a ≠ b) : Ar2 Z h' a ty C vs := by obtain ⟨c, A, r⟩ := A; exact ⟨c, Arr.other W A q, r⟩
theorem Ar2.keep (A : Ar2 Z h a ty C vs) (K : Keep h h' ws) (q : a ∉ ws) : Ar2 Z h' a ty C vs := by obtain ⟨c, A, r⟩ := A; exact ⟨c, ⟨K.2.1 a c A.1 q, A.2⟩, r⟩
theorem Ar2.set (A : Ar2 Z h a ty C vs) (W : Wr h h' a i v) : Ar2 Z h' a ty C (vs.set i v) := by
  obtain ⟨c, A, e, l, o⟩ := A
  refine ⟨c.setSlot i v, Arr.same W A, ?_, by rw [List.length_set]; exact l, o⟩
  show c.slots.setIfInBounds i v = _
  rw [e]; simp
theorem Ends.newA2 (X : Stand p l e R s m args below meth c T locs cells slots) (hx : p.tables.exec = Jvm.exec) (hZ : Z.Warmed39 s.vm) (hown : s.vm.findClass own = some m.cls) (hC : (FieldType.array ty).toString = C) (w1 : (Jvm.Cond.classLink own index C).before a0 Z = true) (w2 : (Jvm.Cond.arrayOver (.array ty)).before a0 Z = true) (eT : T.heap = h) (hd : decode c.code pc = .ok (.anewarray index, 3)) {n : Int32} {N : Nat} (hn : n = Int32.ofNat N) (hN : N * 8 ≤ 536870912) (hc : cells + 1 ≤ R.cells) (hl : slots + N ≤ R.slots)
    (k : ∀ T' h' b, b = h.size → Stand p l e R s m args below meth c T' locs (cells + 1) (slots + N) → T'.heap = h' → Ext h h' → Ar2 Z h' b ty C (List.replicate N .null) → Ends wd p e below s Qb kc ks T' (mkF m (pc + 3) Ls (.ref b :: st))) : Ends wd p e below s Qb kc ks T (mkF m pc Ls (.int n :: st)) := by
  have q := own_clamp (i := N) (by omega)
  obtain ⟨T', h', cA, X', e', E, A, -, O, st'⟩ := newRA X hx hZ hown hC w1 w2 eT (g := mkF m pc Ls (.int n :: st)) rfl hd rfl (by rw [hn]; exact q.2) (cap := N) (by rw [hn, q.1]; exact Nat.le_refl _) hN hc hl (ad := "[" ++ C) rfl
  refine Ends.go st' (k T' h' _ rfl X' e' E ?_)
  obtain ⟨c', A', q1, q2⟩ := Ary.new (ty := .array ty) A hn (by omega)
  have e1 : c' = Jvm.RoadKit.newA cA (.array ty) n := Option.some.inj (A'.1.symm.trans A.1)
  exact ⟨c', A', q1, q2, by rw [e1]; exact O⟩
theorem Ends.ast (X : Stand p l e R s m args below meth c T locs cells slots) (hx : p.tables.exec = Jvm.exec) (hZ : Z.Warmed39 s.vm) (eT : T.heap = h) (A : Ar2 Z h a ty C vs) (I : Exa Z h y C) (hj : j = Int32.ofNat i) (hi : i < vs.length) (hd : decode c.code pc = .ok (.aastore, 1))
    (k : ∀ T' h', Stand p l e R s m args below meth c T' (locs ++ [⟨a, i⟩]) cells slots → T'.heap = h' → Wr h h' a i (.ref y) → Ar2 Z h' a ty C (vs.set i (.ref y)) → Ends wd p e below s Qb kc ks T' (mkF m (pc + 1) Ls st)) : Ends wd p e below s Qb kc ks T (mkF m pc Ls (.ref y :: .int j :: .ref a :: st)) := by
  obtain ⟨cl, A', q, q2, O⟩ := id A
  obtain ⟨T', h', X', e', W, st'⟩ := stR X hx hZ eT A' (j := j) (own_inb q q2 hj hi) rfl (Sto.ofVA A' rfl O (Ins.self I)) (g := mkF m pc Ls (.ref y :: .int j :: .ref a :: st)) rfl rfl hd
  have hc : j.toNatClampNeg = i := by rw [hj]; exact (own_clamp (by omega)).1
  rw [hc] at X' W
  exact Ends.go st' (k T' h' X' e' W (A.set W))
theorem Ends.newAE (X : Stand p l e R s m args below meth c T locs cells slots) (hx : p.tables.exec = Jvm.exec) (hZ : Z.Warmed39 s.vm) {aty : ArrayType} (w : (Jvm.Cond.arrayClass (newarray.typeOf aty)).before a0 Z = true) (eT : T.heap = h) (hd : decode c.code pc = .ok (.newarray aty, 2)) {n : Int32} {N : Nat} (hn : n = Int32.ofNat N) (hN : N * 8 ≤ 536870912) (hc : cells + 1 ≤ R.cells) (hl : slots + N ≤ R.slots) {ad : String} (had : "[" ++ (newarray.typeOf aty).toString = ad)
    (k : ∀ T' h' b, b = h.size → Stand p l e R s m args below meth c T' locs (cells + 1) (slots + N) → T'.heap = h' → Ext h h' → Ary Z h' b (newarray.typeOf aty) (List.replicate N (defaultValue (newarray.typeOf aty))) → Exa Z h' b ad → Ends wd p e below s Qb kc ks T' (mkF m (pc + 2) Ls (.ref b :: st))) : Ends wd p e below s Qb kc ks T (mkF m pc Ls (.int n :: st)) := by
  have q := own_clamp (i := N) (by omega)
  obtain ⟨T', h', cA, X', e', E, A, E2, st'⟩ := newPE X hx hZ w eT (g := mkF m pc Ls (.int n :: st)) rfl hd rfl (by rw [hn]; exact q.2) (cap := N) (by rw [hn, q.1]; exact Nat.le_refl _) hN hc hl had
  exact Ends.go st' (k T' h' _ rfl X' e' E (Ary.new A hn (by omega)) E2)
end OwnHeap3
/-! own text: roads that load string constants (the base state moves, ReturnedEndW at the end) -/
section OwnWide
variable {wd : Option (Vm → Heap → Prop)} {p : Program} {l : Launch} {e : Env} {R : Room} {s : State} {m : MethodId} {args : Array Value} {below : List Frame} {meth : Method} {c : Code} {T : State} {locs : List Loc} {cells slots : Nat} {Z : State} {a0 : Array Value} {h : Heap} {Qb : Option Value → Heap → List Loc → Prop} {kc ks : Nat} {F : Vm → Heap → Prop}
def Fl (Q : Option Value → Heap → List Loc → Prop) (f : Nat) : Option Value → Heap → List Loc → Prop := fun v h L => Q v h L ∧ f ≤ h.size
theorem Ends.rebase {vm1 : Vm} {f f0 k1 : Nat} {g : JFrame} (hS : s.Since vm1 k1) (hk : k1 ≤ f) (hf : f0 ≤ f) (k : Ends (some F) p e below (s.setVm vm1) (Fl Qb f) kc ks T g) : Ends (some F) p e below s (Fl Qb f0) kc ks T g := by
  obtain ⟨s2, o, st, hr, hE, v, L, ho, hQ, ⟨hret, hW, hB, hs⟩, hF⟩ := k
  have hS2 : (s.setVm vm1).Since s2.vm s2.heap.size := ⟨hW, hB⟩
  have hS3 := hS.trans hS2 (Nat.le_trans hk hQ.2)
  exact ⟨s2, o, st, hr, hE, v, L, ho, ⟨hQ.1, Nat.le_trans hf hQ.2⟩, ⟨hret, hS3.1, hS3.2, hs.setVm s.vm⟩, hF⟩
abbrev ConW (l : Launch) (y : MethodName) (code : ByteArray) (ml : Nat) (rt : Option FieldType) (ws : List Jvm.Cond) (rm : Room) (as' : Array Value) (Z : State) (h0 : Heap) (Q : Option Value → Heap → List Loc → Prop) : Prop :=
  MetFree l y (head1 (Jvm.Cond.code y code ml rt :: ws) rm) (fun a U => a = as' ∧ Z.Warmed39 U.vm ∧ U.heap = h0) (fun _ _ _ _ _ => True) (fun _ U o U' => ∃ v L, o = .returned v ∧ Q v U'.heap L ∧ ReturnedEndW U o U' L rm.cells rm.slots)
theorem ConW.of {y : MethodName} {code : ByteArray} {ml : Nat} {rt : Option FieldType} {ws : List Jvm.Cond} {rm : Room} {as' : Array Value} {h0 : Heap} {Q : Option Value → Heap → List Loc → Prop} (hp : plainFor y = true)
    (k : ∀ (p : Program) (e : Env) (s : State) (m : MethodId) (below : List Frame) (meth : Method) (c : Code) (s₁ : State), p.tables.exec = Jvm.exec → Z.Warmed39 s.vm → c.code = code → c.maxLocals = ml → s.vm.findClass y.cls = some m.cls → meth.name = y.name → meth.sig.returnType = rt → meth.locks = false →
      Stand p l e rm s m as' below meth c s₁ [] 0 0 → s₁.heap = h0 → Ends (some fun _ _ => True) p e below s (Fl Q 0) rm.cells rm.slots s₁ (entryFrame m as' ml)) : ConW l y code ml rt ws rm as' Z h0 Q := by
  refine MetFree.of_bodySF hp hisR ?_
  intro p e s m args below meth c s₁ Bd hml0 hP hK
  obtain ⟨rfl, hZ, hh⟩ := hP
  obtain ⟨s2, o, h1, h2, h3, v, L, h4, h5, h6, -⟩ := k p e s m below meth c s₁ Bd.exec hZ Bd.bytes hml0 (findClass_of_methodNamed Bd.named) (name_of_methodNamed Bd.named Bd.method).1 Bd.returns Bd.notSynchronized (Stand.of_body Bd) (by rw [← hh, Bd.state]; rfl)
  exact ⟨s2, o, h1, h2, h3, v, L, h4, h5.1, h6⟩
theorem own_since (s : State) : s.Since s.vm 0 := ⟨State.Warmed39.refl s, fun j p hj hp => absurd (Array.getElem?_eq_some_iff.mp hp).1 (Nat.not_lt.mpr hj)⟩
/-- a string constant, loaded cold: what it spells isn't said -/
theorem Ends.ldcS {f0 : Nat} (X : Stand p l e R s m args below meth c T locs cells slots) (hx : p.tables.exec = Jvm.exec) (hZ : Z.Warmed39 s.vm) {own text : String} {index : Nat} (hown : s.vm.findClass own = some m.cls) (w : (Jvm.Cond.stringLink own index text).before a0 Z = true) (wS : ∀ a ∈ Bundle.stringAtoms, a.before a0 Z = true)
    (eT : T.heap = h) (hf : f0 ≤ h.size) {pc : Nat} {Ls : Array Slot} {st : List Value} (hd : decode c.code pc = .ok (.ldc index, 2)) (n : Nat) (hn : 4 * text.toList.length ≤ n) (hbig : n ≤ 536870912) (hc : cells + 2 ≤ R.cells) (hl : slots + (n + 4) ≤ R.slots)
    (k : ∀ s' T' h' a, Stand p l e R s' m args below meth c T' locs (cells + 2) (slots + (n + 4)) → T'.heap = h' → Ext h h' → Z.Warmed39 s'.vm → s'.vm.findClass own = some m.cls → Ends (some F) p e below s' (Fl Qb h'.size) kc ks T' (mkF m (pc + 2) Ls (.ref a :: st))) : Ends (some F) p e below s (Fl Qb f0) kc ks T (mkF m pc Ls st) := by
  obtain ⟨a, T', h', k1, X', e', E, hS, hk1, hZ', hown', st'⟩ := Jvm.RoadKit.ldcS (s := s) (vm0 := s.vm) X hx hZ hown w wS eT (own_since s) (Nat.zero_le _) (g := mkF m pc Ls st) rfl hd hn hbig hc hl
  exact Ends.rebase hS hk1 (Nat.le_trans hf E.1) (Ends.go st' (k _ T' h' a X' e' E hZ' hown'))
/-- a static call by its contract, wide -/
theorem Ends.callSW {f0 : Nat} (X : Stand p l e R s m args below meth c T locs cells slots) (hx : p.tables.exec = Jvm.exec) (hZ : Z.Warmed39 s.vm) {own : String} (hown : s.vm.findClass own = some m.cls) {index : Nat} {y : MethodName} {bytes : ByteArray} {maxL : Nat} {rt : Option FieldType} {rm : Room} {Q : Option Value → Heap → List Loc → Prop}
    (w1 : (Jvm.Cond.methodLink own index y).before a0 Z = true) (w2 : (Jvm.Cond.static y).before a0 Z = true) (w3 : (Jvm.Cond.initialized y.cls).before a0 Z = true) (w4 : (Jvm.Cond.code y bytes maxL rt).before a0 Z = true) (hy : y.cls ≠ "java/lang/invoke/MethodHandle" ∧ y.cls ≠ "java/lang/invoke/VarHandle")
    {argsL rest : List Value} (eT : T.heap = h) (hf0 : f0 ≤ h.size) (M : ConW l y bytes maxL rt [] rm argsL.toArray Z h Q) {W pc : Nat} (hf : rm.frames + 1 ≤ R.frames) (hl : W + (maxL + 11) + rm.locals ≤ R.locals) {Ls : Array Slot} (hsz : Ls.size = c.maxLocals)
    (hlen : ∀ sig, parseMethodDescriptor y.desc = some sig → argsL.length = sig.parameters.length) (hW : (rest.map fun v => v.category).sum ≤ W) (hd : decode c.code pc = .ok (.invokestatic index, 3)) (hc : cells + rm.cells ≤ R.cells) (hs : slots + rm.slots ≤ R.slots) {st : List Value} (hst : st = argsL.reverse ++ rest)
    (k : ∀ s' T' v L, Stand p l e R s' m args below meth c T' (locs ++ L) (cells + rm.cells) (slots + rm.slots) → Z.Warmed39 s'.vm → s'.vm.findClass own = some m.cls → Q v T'.heap L → Ends (some F) p e below s' (Fl Qb T'.heap.size) kc ks T' (mkF m (pc + 3) Ls (v.toList ++ rest))) :
    Ends (some F) p e below s (Fl Qb f0) kc ks T (mkF m pc Ls st) := by
  obtain ⟨v, vm1, ⟨T1, L1, k1, n1⟩, -, X1, hS, hgr, ⟨Lc, hQ, q1, q2, q3⟩, st1⟩ := Jvm.RoadKit.callSS X hx hown (mvT hZ w1) (mvT hZ w2) (mvT hZ w3) (mvT hZ w4) hy (backOfS (W := W) M hZ w4 w3 hf hl) (g := mkF m pc Ls st) rfl hsz (argsL := argsL) (rest := rest) hlen hst (by show 2 * 0 + _ ≤ _; omega) hd (fun _ _ => ⟨rfl, eT, hc, hs⟩)
  dsimp only [Pt.U, Pt.locs, Pt.cells, Pt.slots] at X1 q1 q2 q3 st1 hQ hS hgr
  subst q1 q2 q3
  refine Ends.rebase hS (Nat.le_refl _) (Nat.le_trans hf0 (by rw [← eT]; exact hgr)) (Ends.go (fun t kt => st1.trans kt) (k _ T1 v Lc X1 (State.Warmed39.trans (t := s) hZ hS.1) (by show T1.vm.findClass own = _; rw [hS.1.alike.findClass]; exact hown) hQ))
/-- a constructor by its contract, wide -/
theorem Ends.callIW {f0 : Nat} (X : Stand p l e R s m args below meth c T locs cells slots) (hx : p.tables.exec = Jvm.exec) (hZ : Z.Warmed39 s.vm) {own : String} (hown : s.vm.findClass own = some m.cls) {index : Nat} {y : MethodName} {bytes : ByteArray} {maxL : Nat} {rm : Room} {Q : Option Value → Heap → List Loc → Prop}
    (w1 : (Jvm.Cond.methodLink own index y).before a0 Z = true) (w2 : (Jvm.Cond.instanceMethod y).before a0 Z = true) (w3 : (Jvm.Cond.initialized y.cls).before a0 Z = true) (w4 : (Jvm.Cond.code y bytes maxL none).before a0 Z = true) (hyn : y.name = "<init>") (hy : y.cls ≠ "java/lang/invoke/MethodHandle" ∧ y.cls ≠ "java/lang/invoke/VarHandle")
    {b : Addr} {argsL rest : List Value} (eT : T.heap = h) (hf0 : f0 ≤ h.size) (M : ConW l y bytes maxL none [] rm (.ref b :: argsL).toArray Z h Q) {W pc : Nat} (hf : rm.frames + 1 ≤ R.frames) (hl : W + (maxL + 11) + rm.locals ≤ R.locals) {Ls : Array Slot} (hsz : Ls.size = c.maxLocals)
    (hlen : ∀ sig, parseMethodDescriptor y.desc = some sig → argsL.length = sig.parameters.length) (hW : (rest.map fun v => v.category).sum ≤ W) (hd : decode c.code pc = .ok (.invokespecial index, 3)) (hc : cells + rm.cells ≤ R.cells) (hs : slots + rm.slots ≤ R.slots) {st : List Value} (hst : st = argsL.reverse ++ .ref b :: rest)
    (k : ∀ s' T' v L, Stand p l e R s' m args below meth c T' (locs ++ L) (cells + rm.cells) (slots + rm.slots) → Z.Warmed39 s'.vm → s'.vm.findClass own = some m.cls → Q v T'.heap L → Ends (some F) p e below s' (Fl Qb T'.heap.size) kc ks T' (mkF m (pc + 3) Ls (v.toList ++ rest))) :
    Ends (some F) p e below s (Fl Qb f0) kc ks T (mkF m pc Ls st) := by
  obtain ⟨v, vm1, ⟨T1, L1, k1, n1⟩, -, X1, hS, hgr, ⟨Lc, hQ, q1, q2, q3⟩, st1⟩ := X.specialBackS hx hyn hown (mvT hZ w1) (mvT hZ w2) (mvT hZ w4) hy (backOfS (W := W) M hZ w4 w3 hf hl) (g := mkF m pc Ls st) rfl hsz (Steps.refl _) (a := b) (argsL := argsL) (rest := rest) hlen hst (by show 2 * 0 + _ ≤ _; omega) hd (fun _ _ => ⟨rfl, eT, hc, hs⟩)
  dsimp only [Pt.U, Pt.locs, Pt.cells, Pt.slots] at X1 q1 q2 q3 st1 hQ hS hgr
  subst q1 q2 q3
  refine Ends.rebase hS (Nat.le_refl _) (Nat.le_trans hf0 (by rw [← eT]; exact hgr)) (Ends.go (fun t kt => st1.trans kt) (k _ T1 v Lc X1 (State.Warmed39.trans (t := s) hZ hS.1) (by show T1.vm.findClass own = _; rw [hS.1.alike.findClass]; exact hown) hQ))
/-- instanceof and checkcast -/
theorem Ends.instY (X : Stand p l e R s m args below meth c T locs cells slots) (hx : p.tables.exec = Jvm.exec) (hZ : Z.Warmed39 s.vm) {own K : String} {index : Nat} (hown : s.vm.findClass own = some m.cls) (w : (Jvm.Cond.classLink own index K).before a0 Z = true) (eT : T.heap = h) {a : Addr} (F : Ins Z h a K true) {pc : Nat} {Ls : Array Slot} {st : List Value} (hd : decode c.code pc = .ok (.instanceof index, 3))
    (k : ∀ T', Stand p l e R s m args below meth c T' locs cells slots → T'.heap = h → Ends wd p e below s Qb kc ks T' (mkF m (pc + 3) Ls (.int 1 :: st))) : Ends wd p e below s Qb kc ks T (mkF m pc Ls (.ref a :: st)) := by
  obtain ⟨T', X', e', st'⟩ := Jvm.RoadKit.instY X hx hZ hown w eT F (g := mkF m pc Ls (.ref a :: st)) rfl rfl hd
  exact Ends.go st' (k T' X' e')
theorem Ends.instNo (X : Stand p l e R s m args below meth c T locs cells slots) (hx : p.tables.exec = Jvm.exec) (hZ : Z.Warmed39 s.vm) {own K C : String} {index : Nat} (hown : s.vm.findClass own = some m.cls) (w : (Jvm.Cond.classLink own index K).before a0 Z = true) (eT : T.heap = h) {a : Addr} (E : Exa Z h a C) (F : ∃ c t, Z.vm.findClass C = some c ∧ Z.vm.findClass K = some t ∧ Z.vm.assignable c t = false) {pc : Nat} {Ls : Array Slot} {st : List Value} (hd : decode c.code pc = .ok (.instanceof index, 3))
    (k : ∀ T', Stand p l e R s m args below meth c T' locs cells slots → T'.heap = h → Ends wd p e below s Qb kc ks T' (mkF m (pc + 3) Ls (.int 0 :: st))) : Ends wd p e below s Qb kc ks T (mkF m pc Ls (.ref a :: st)) := by
  obtain ⟨T', X', e', st'⟩ := Jvm.RoadKit.instNo X hx hZ hown w eT E F (g := mkF m pc Ls (.ref a :: st)) rfl rfl hd
  exact Ends.go st' (k T' X' e')
theorem Ends.castY (X : Stand p l e R s m args below meth c T locs cells slots) (hx : p.tables.exec = Jvm.exec) (hZ : Z.Warmed39 s.vm) {own K : String} {index : Nat} (hown : s.vm.findClass own = some m.cls) (w : (Jvm.Cond.classLink own index K).before a0 Z = true) (eT : T.heap = h) {a : Addr} (F : Ins Z h a K true) {pc : Nat} {Ls : Array Slot} {st : List Value} (hd : decode c.code pc = .ok (.checkcast index, 3))
    (k : ∀ T', Stand p l e R s m args below meth c T' locs cells slots → T'.heap = h → Ends wd p e below s Qb kc ks T' (mkF m (pc + 3) Ls (.ref a :: st))) : Ends wd p e below s Qb kc ks T (mkF m pc Ls (.ref a :: st)) := by
  obtain ⟨T', X', e', st'⟩ := Jvm.RoadKit.castY X hx hZ hown w eT F (g := mkF m pc Ls (.ref a :: st)) rfl rfl hd
  exact Ends.go st' (k T' X' e')
theorem Ends.instNull (X : Stand p l e R s m args below meth c T locs cells slots) (hx : p.tables.exec = Jvm.exec) {index pc : Nat} {Ls : Array Slot} {st : List Value} (hd : decode c.code pc = .ok (.instanceof index, 3)) (k : Ends wd p e below s Qb kc ks T (mkF m (pc + 3) Ls (.int 0 :: st))) : Ends wd p e below s Qb kc ks T (mkF m pc Ls (.null :: st)) :=
  Ends.go (fun t => X.instanceofNull hx (g := mkF m pc Ls (.null :: st)) rfl rfl hd t) k
theorem E.acmpY {x y : Value} {cd : ClassFile.ACond} {o : Int} {pc q : Nat} {Ls : Array Slot} {st : List Value} (X : Stand p l e R s m args below meth c T locs cells slots) (hx : p.tables.exec = Jvm.exec) (hd : decode c.code pc = .ok (.if_acmp cd o, 3)) (h1 : x.isRef = true) (h2 : y.isRef = true) (hc : Jvm.Free.XT.acmp cd x y = true) (k' : Ends wd p e below s Qb kc ks T (mkF m q Ls st)) (ho : 0 ≤ (pc : Int) + o := by decide) (hq : ((pc : Int) + o).toNat = q := by decide) : Ends wd p e below s Qb kc ks T (mkF m pc Ls (y :: x :: st)) :=
  Ends.go (fun t => Jvm.Free.XT.acmpYes X.here hx rfl rfl hd rfl h1 h2 hc ho hq) k'
theorem E.acmpN {x y : Value} {cd : ClassFile.ACond} {o : Int} {pc q : Nat} {Ls : Array Slot} {st : List Value} (X : Stand p l e R s m args below meth c T locs cells slots) (hx : p.tables.exec = Jvm.exec) (hd : decode c.code pc = .ok (.if_acmp cd o, 3)) (h1 : x.isRef = true) (h2 : y.isRef = true) (hc : Jvm.Free.XT.acmp cd x y = false) (k' : Ends wd p e below s Qb kc ks T (mkF m q Ls st)) (hq : pc + 3 = q := by rfl) : Ends wd p e below s Qb kc ks T (mkF m pc Ls (y :: x :: st)) := by
  subst hq; exact Ends.go (fun t => Jvm.Free.XT.acmpNo X.here hx rfl hd rfl h1 h2 hc) k'
theorem own_notA {C S K : String} {n : Nat} (w : (Jvm.Cond.superclass C S).before a0 Z = true) (w2 : (Jvm.Cond.noSuperclass S).before a0 Z = true) (wi : (Jvm.Cond.instantiable K n).before a0 Z = true) (h1 : C ≠ K) (h2 : S ≠ K) : ∃ c t, Z.vm.findClass C = some c ∧ Z.vm.findClass K = some t ∧ Z.vm.assignable c t = false := by
  obtain ⟨t, kt, f1, f2, f3, f4, -, -⟩ := Cond.instantiable_spec wi
  obtain ⟨c, h0⟩ := found_sup w
  obtain ⟨p, k, kp, g1, g2, g3, g4, g5, -, g7⟩ := Cond.superclass_spec h0 w
  obtain ⟨c', k', q1, q2, q3, -, -⟩ := Cond.noSuperclass_spec w2
  cases q1.symm.trans g1
  have ne1 := ids_ne h0 f1 h1
  have ne2 := ids_ne g1 f1 h2
  have hi : kt.isInterface = false := by simp only [Bool.or_eq_false_iff] at f4; exact f4.1
  refine ⟨c, t, h0, f1, ?_⟩
  show Z.vm.assignableAux (255 + 1) c t = false
  have n3 : ∀ fuel, Z.vm.isSubclassAux fuel c t = false := fun fuel => by
    cases fuel with
    | zero => rfl
    | succ f =>
      cases f with
      | zero => simp [Vm.isSubclassAux, ne1, g2, g4]
      | succ f => simp [Vm.isSubclassAux, ne1, ne2, g2, g4, q2, q3]
  simp [Vm.assignableAux, ne1, g2, f2, g5, f3, hi, Vm.isSubclass, n3]
theorem Ary.len {a : Addr} {ty : FieldType} {vs : List Value} (A : Ary Z h a ty vs) : vs.length < 2 ^ 31 := by obtain ⟨_, _, _, q⟩ := A; exact q
/-! held: the string constants of EL say their text (the library's CHv, CHr) -/
abbrev ConH (l : Launch) (y : MethodName) (code : ByteArray) (ml : Nat) (rt : Option FieldType) (ws : List Jvm.Cond) (rm : Room) (as' : Array Value) (Z : State) (h0 : Heap) (EL : List (String × Nat)) (Q : Option Value → Heap → List Loc → Prop) : Prop :=
  MetFree l y (head1 (Jvm.Cond.code y code ml rt :: ws) rm) (fun a U => a = as' ∧ Z.Warmed39 U.vm ∧ U.heap = h0 ∧ CHv Z EL U.vm h0) (fun _ _ _ _ _ => True) (fun _ U o U' => ∃ v L, o = .returned v ∧ Q v U'.heap L ∧ CHr Z EL U.vm U.heap U'.vm U'.heap ∧ ReturnedEndW U o U' L rm.cells rm.slots)
theorem ConH.of {y : MethodName} {code : ByteArray} {ml : Nat} {rt : Option FieldType} {ws : List Jvm.Cond} {rm : Room} {as' : Array Value} {h0 : Heap} {EL : List (String × Nat)} {Q : Option Value → Heap → List Loc → Prop} (hp : plainFor y = true)
    (k : ∀ (p : Program) (e : Env) (s : State) (m : MethodId) (below : List Frame) (meth : Method) (c : Code) (s₁ : State) (vm0 : Vm), CHr Z EL vm0 h0 s.vm h0 → p.tables.exec = Jvm.exec → Z.Warmed39 s.vm → c.code = code → c.maxLocals = ml → s.vm.findClass y.cls = some m.cls → meth.name = y.name → meth.sig.returnType = rt → meth.locks = false →
      Stand p l e rm s m as' below meth c s₁ [] 0 0 → s₁.heap = h0 → Ends (some (CHr Z EL vm0 h0)) p e below s (Fl Q 0) rm.cells rm.slots s₁ (entryFrame m as' ml)) : ConH l y code ml rt ws rm as' Z h0 EL Q := by
  refine MetFree.of_bodySF hp hisR ?_
  intro p e s m args below meth c s₁ Bd hml0 hP hK
  obtain ⟨rfl, hZ, hh, hC⟩ := hP
  obtain ⟨s2, o, h1, h2, h3, v, L, h4, h5, h6, h7⟩ := k p e s m below meth c s₁ s.vm (CHr.refl hC) Bd.exec hZ Bd.bytes hml0 (findClass_of_methodNamed Bd.named) (name_of_methodNamed Bd.named Bd.method).1 Bd.returns Bd.notSynchronized (Stand.of_body Bd) (by rw [← hh, Bd.state]; rfl)
  exact ⟨s2, o, h1, h2, h3, v, L, h4, h5.1, by rw [hh]; exact h7, h6⟩
theorem own_chret {EL : List (String × Nat)} {vm0 : Vm} {h0 : Heap} (X : Stand p l e R s m args below meth c T locs cells slots) (hZ : Z.Warmed39 s.vm) (w : EW Z a0 EL) (H : CHr Z EL vm0 h0 s.vm h) (eT : T.heap = h) : CHr Z EL vm0 h0 T.vm T.heap := by
  rw [eT]; exact H.trans (CHv.at (s := s) (vm0 := s.vm) X hZ w H.1)
/-- a string constant, loaded cold, not read -/
theorem Ends.ldcO {f0 : Nat} {EL : List (String × Nat)} (X : Stand p l e R s m args below meth c T locs cells slots) (hx : p.tables.exec = Jvm.exec) (hZ : Z.Warmed39 s.vm) {own text : String} {index : Nat} (hown : s.vm.findClass own = some m.cls) (w : (Jvm.Cond.stringLink own index text).before a0 Z = true) (wS : ∀ a ∈ Bundle.stringAtoms, a.before a0 Z = true)
    (eT : T.heap = h) (hf : f0 ≤ h.size) (hEL : EW Z a0 EL) (H : CHv Z EL s.vm h) {pc : Nat} {Ls : Array Slot} {st : List Value} (hd : decode c.code pc = .ok (.ldc index, 2)) (n : Nat) (hn : 4 * text.toList.length ≤ n) (hbig : n ≤ 536870912) (hc : cells + 2 ≤ R.cells) (hl : slots + (n + 4) ≤ R.slots)
    (k : ∀ s' T' h' a, Stand p l e R s' m args below meth c T' locs (cells + 2) (slots + (n + 4)) → T'.heap = h' → Ext h h' → CHr Z EL s.vm h s'.vm h' → Z.Warmed39 s'.vm → s'.vm.findClass own = some m.cls → Ends (some F) p e below s' (Fl Qb h'.size) kc ks T' (mkF m (pc + 2) Ls (.ref a :: st))) : Ends (some F) p e below s (Fl Qb f0) kc ks T (mkF m pc Ls st) := by
  obtain ⟨a, T', h', k1, X', e', E, hS, hk1, hZ', hown', hC, -, st'⟩ := ldcOH (s := s) (vm0 := s.vm) X hx hZ hown w wS eT (own_since s) (Nat.zero_le _) hEL H (g := mkF m pc Ls st) rfl hd hn hbig hc hl
  exact Ends.rebase hS hk1 (Nat.le_trans hf E.1) (Ends.go st' (k _ T' h' a X' e' E hC hZ' hown'))
theorem Ary.of_arv {a : Addr} {k : ClassId} {ty : FieldType} {z : Int32} {vs : List Value} {d : Value} (A : Arv Z h a k ty z vs d) (hz : z.toNatClampNeg = vs.length) : Ary Z h a ty vs := by
  obtain ⟨c, A, -, h1, h2, h3, -⟩ := A
  have hl : vs.length < 2 ^ 31 := by rw [← hz]; exact (back32 h2).2
  refine ⟨c, A, ?_, hl⟩
  refine Array.ext' ?_
  refine List.ext_getElem? fun i => ?_
  rw [Array.getElem?_toList]
  by_cases q : i < c.slots.size
  · rw [h3 i q]
    have q' : i < vs.length := by omega
    simp [List.getD, q']
  · rw [Array.getElem?_eq_none (by omega)]
    have q' : vs.length ≤ i := by omega
    simp [q']
/-- a string constant of EL, read -/
theorem Ends.ldcR {f0 : Nat} {EL : List (String × Nat)} (X : Stand p l e R s m args below meth c T locs cells slots) (hx : p.tables.exec = Jvm.exec) (hZ : Z.Warmed39 s.vm) {own text : String} {index : Nat} (hown : s.vm.findClass own = some m.cls) (w : (Jvm.Cond.stringLink own index text).before a0 Z = true) (wS : ∀ a ∈ Bundle.stringAtoms, a.before a0 Z = true)
    (eT : T.heap = h) (hf : f0 ≤ h.size) (hEL : EW Z a0 EL) (hmem : (own, index) ∈ EL) (H : CHv Z EL s.vm h) {vs : List Value} {z : Int32} (ht : (∀ c ∈ text.toList, c.toNat < 256) ∧ text.toList.map (fun c => Value.int (Jvm.Lit.byteI c.toNat.toUInt16)) = vs) (hz : ¬ z < 0) (hzl : z.toNatClampNeg = vs.length)
    {pc : Nat} {Ls : Array Slot} {st : List Value} (hd : decode c.code pc = .ok (.ldc index, 2)) (n : Nat) (hn : 4 * text.toList.length ≤ n) (hbig : n ≤ 536870912) (hc : cells + 2 ≤ R.cells) (hl : slots + (n + 4) ≤ R.slots)
    (k : ∀ s' T' h' a b, Stand p l e R s' m args below meth c T' locs (cells + 2) (slots + (n + 4)) → T'.heap = h' → Ext h h' → CHr Z EL s.vm h s'.vm h' → Z.Warmed39 s'.vm → s'.vm.findClass own = some m.cls → Exa Z h' a "java/lang/String" → Fld Z h' a "java/lang/String" "coder" "B" (.int 0) → Fld Z h' a "java/lang/String" "value" "[B" (.ref b) → Ary Z h' b .byte vs → (∀ x, Safe Z EL s'.vm h' x → x ≠ a ∧ x ≠ b) →
      Ends (some F) p e below s' (Fl Qb h'.size) kc ks T' (mkF m (pc + 2) Ls (.ref a :: st))) : Ends (some F) p e below s (Fl Qb f0) kc ks T (mkF m pc Ls st) := by
  obtain ⟨a, T', h', k1, b, kk, X', e', E, hS, hk1, hZ', hown', A1, A2, A3, A4, -, -, hC, -, hsafe, st'⟩ := ldcCH (s := s) (vm0 := s.vm) X hx hZ hown w wS eT (own_since s) (Nat.zero_le _) hEL hmem H ht hz hzl (g := mkF m pc Ls st) rfl hd hn hbig hc hl
  exact Ends.rebase hS hk1 (Nat.le_trans hf E.1) (Ends.go st' (k _ T' h' a b X' e' E hC hZ' hown' A1 A2 A3 (Ary.of_arv A4 hzl) hsafe))

theorem Ends.callSH {f0 : Nat} {EL : List (String × Nat)} (X : Stand p l e R s m args below meth c T locs cells slots) (hx : p.tables.exec = Jvm.exec) (hZ : Z.Warmed39 s.vm) {own : String} (hown : s.vm.findClass own = some m.cls) {index : Nat} {y : MethodName} {bytes : ByteArray} {maxL : Nat} {rt : Option FieldType} {rm : Room} {Q : Option Value → Heap → List Loc → Prop}
    (w1 : (Jvm.Cond.methodLink own index y).before a0 Z = true) (w2 : (Jvm.Cond.static y).before a0 Z = true) (w3 : (Jvm.Cond.initialized y.cls).before a0 Z = true) (w4 : (Jvm.Cond.code y bytes maxL rt).before a0 Z = true) (hy : y.cls ≠ "java/lang/invoke/MethodHandle" ∧ y.cls ≠ "java/lang/invoke/VarHandle")
    {argsL rest : List Value} (eT : T.heap = h) (hf0 : f0 ≤ h.size) (hEL : EW Z a0 EL) (H : CHv Z EL s.vm h) (M : ConH l y bytes maxL rt [] rm argsL.toArray Z h EL Q) {W pc : Nat} (hf : rm.frames + 1 ≤ R.frames) (hl : W + (maxL + 11) + rm.locals ≤ R.locals) {Ls : Array Slot} (hsz : Ls.size = c.maxLocals)
    (hlen : ∀ sig, parseMethodDescriptor y.desc = some sig → argsL.length = sig.parameters.length) (hW : (rest.map fun v => v.category).sum ≤ W) (hd : decode c.code pc = .ok (.invokestatic index, 3)) (hc : cells + rm.cells ≤ R.cells) (hs : slots + rm.slots ≤ R.slots) {st : List Value} (hst : st = argsL.reverse ++ rest)
    (k : ∀ s' T' v L, Stand p l e R s' m args below meth c T' (locs ++ L) (cells + rm.cells) (slots + rm.slots) → CHr Z EL s.vm h s'.vm T'.heap → Z.Warmed39 s'.vm → s'.vm.findClass own = some m.cls → Q v T'.heap L → Ends (some F) p e below s' (Fl Qb T'.heap.size) kc ks T' (mkF m (pc + 3) Ls (v.toList ++ rest))) :
    Ends (some F) p e below s (Fl Qb f0) kc ks T (mkF m pc Ls st) := by
  obtain ⟨v, vm1, ⟨T1, L1, k1, n1⟩, -, X1, hS, hgr, ⟨Lc, hQ, q1, q2, q3, hC⟩, st1⟩ := Jvm.RoadKit.callSS X hx hown (mvT hZ w1) (mvT hZ w2) (mvT hZ w3) (mvT hZ w4) hy (backOfSH (s := s) (vm0 := s.vm) (W := W) M hZ w4 w3 hf hl hEL H) (g := mkF m pc Ls st) rfl hsz (argsL := argsL) (rest := rest) hlen hst (by show 2 * 0 + _ ≤ _; omega) hd (fun _ _ => ⟨rfl, eT, hc, hs⟩)
  dsimp only [Pt.U, Pt.locs, Pt.cells, Pt.slots] at X1 q1 q2 q3 st1 hQ hS hgr hC
  subst q1 q2 q3
  refine Ends.rebase hS (Nat.le_refl _) (Nat.le_trans hf0 (by rw [← eT]; exact hgr)) (Ends.go (fun t kt => st1.trans kt) (k _ T1 v Lc X1 hC (State.Warmed39.trans (t := s) hZ hS.1) (by show T1.vm.findClass own = _; rw [hS.1.alike.findClass]; exact hown) hQ))
theorem Ends.callIH {f0 : Nat} {EL : List (String × Nat)} (X : Stand p l e R s m args below meth c T locs cells slots) (hx : p.tables.exec = Jvm.exec) (hZ : Z.Warmed39 s.vm) {own : String} (hown : s.vm.findClass own = some m.cls) {index : Nat} {y : MethodName} {bytes : ByteArray} {maxL : Nat} {rm : Room} {Q : Option Value → Heap → List Loc → Prop}
    (w1 : (Jvm.Cond.methodLink own index y).before a0 Z = true) (w2 : (Jvm.Cond.instanceMethod y).before a0 Z = true) (w3 : (Jvm.Cond.initialized y.cls).before a0 Z = true) (w4 : (Jvm.Cond.code y bytes maxL none).before a0 Z = true) (hyn : y.name = "<init>") (hy : y.cls ≠ "java/lang/invoke/MethodHandle" ∧ y.cls ≠ "java/lang/invoke/VarHandle")
    {b : Addr} {argsL rest : List Value} (eT : T.heap = h) (hf0 : f0 ≤ h.size) (hEL : EW Z a0 EL) (H : CHv Z EL s.vm h) (M : ConH l y bytes maxL none [] rm (.ref b :: argsL).toArray Z h EL Q) {W pc : Nat} (hf : rm.frames + 1 ≤ R.frames) (hl : W + (maxL + 11) + rm.locals ≤ R.locals) {Ls : Array Slot} (hsz : Ls.size = c.maxLocals)
    (hlen : ∀ sig, parseMethodDescriptor y.desc = some sig → argsL.length = sig.parameters.length) (hW : (rest.map fun v => v.category).sum ≤ W) (hd : decode c.code pc = .ok (.invokespecial index, 3)) (hc : cells + rm.cells ≤ R.cells) (hs : slots + rm.slots ≤ R.slots) {st : List Value} (hst : st = argsL.reverse ++ .ref b :: rest)
    (k : ∀ s' T' v L, Stand p l e R s' m args below meth c T' (locs ++ L) (cells + rm.cells) (slots + rm.slots) → CHr Z EL s.vm h s'.vm T'.heap → Z.Warmed39 s'.vm → s'.vm.findClass own = some m.cls → Q v T'.heap L → Ends (some F) p e below s' (Fl Qb T'.heap.size) kc ks T' (mkF m (pc + 3) Ls (v.toList ++ rest))) :
    Ends (some F) p e below s (Fl Qb f0) kc ks T (mkF m pc Ls st) := by
  obtain ⟨v, vm1, ⟨T1, L1, k1, n1⟩, -, X1, hS, hgr, ⟨Lc, hQ, q1, q2, q3, hC⟩, st1⟩ := X.specialBackS hx hyn hown (mvT hZ w1) (mvT hZ w2) (mvT hZ w4) hy (backOfSH (s := s) (vm0 := s.vm) (W := W) M hZ w4 w3 hf hl hEL H) (g := mkF m pc Ls st) rfl hsz (Steps.refl _) (a := b) (argsL := argsL) (rest := rest) hlen hst (by show 2 * 0 + _ ≤ _; omega) hd (fun _ _ => ⟨rfl, eT, hc, hs⟩)
  dsimp only [Pt.U, Pt.locs, Pt.cells, Pt.slots] at X1 q1 q2 q3 st1 hQ hS hgr hC
  subst q1 q2 q3
  refine Ends.rebase hS (Nat.le_refl _) (Nat.le_trans hf0 (by rw [← eT]; exact hgr)) (Ends.go (fun t kt => st1.trans kt) (k _ T1 v Lc X1 hC (State.Warmed39.trans (t := s) hZ hS.1) (by show T1.vm.findClass own = _; rw [hS.1.alike.findClass]; exact hown) hQ))
theorem own_safe_ary {EL : List (String × Nat)} {vm : Vm} {a : Addr} {ty : FieldType} {vs : List Value} (hal : Z.vm.Alike vm) (A : Ary Z h a ty vs) (ht : ty ≠ .byte) : Safe Z EL vm h a := by
  obtain ⟨c, A, -⟩ := A; exact Safe.arr hal A ht
/-- a String under construction isn't a constant's -/
theorem own_safe_blank {EL : List (String × Nat)} {vm : Vm} {a : Addr} (hal : Z.vm.Alike vm) (E : Exa Z h a "java/lang/String") (F : Fld Z h a "java/lang/String" "value" "[B" .null) : Safe Z EL vm h a := fun B => by
  obtain ⟨cell, k, e1, e2, e3, -, -⟩ := E
  obtain ⟨cell', cf, kf, i, f, f1, f2, f3, f4, f5, f6, f7⟩ := F
  cases e1.symm.trans f1
  obtain ⟨p, -, u, a', -, q, -, G, rfl | rfl⟩ := B
  · cases (show h[q.sa]? = some q.sC from G.ha).symm.trans e1
    obtain ⟨cS, ⟨⟨-, -, -, ⟨c1, k1, i1, g1, -⟩, -, -, -, v1, -⟩, -⟩, -⟩ := G
    obtain ⟨k3, g3, -⟩ := State.fieldFound?_setVm (s := Z) hal f2
    have e4 := (show (Wst Z vm h).fieldFound? _ _ _ = _ from g3).symm.trans g1
    simp only [Option.some.injEq, Prod.mk.injEq] at e4
    rw [← e4.2.2.2, f7] at v1
    cases v1
  · cases (show h[q.sd]? = some q.SA from G.hd).symm.trans e1
    obtain ⟨cS, -, -, g, -⟩ := G
    have g' : vm.findClass "[B" = some q.SA.cls := g
    rw [hal.findClass] at g'
    exact ids_ne e2 g' (by decide) rfl
end OwnWide
/-! own text: bytes of chars 0 to 255 -/
theorem own_wr_le {h h' : Heap} {a : Addr} {sl : Nat} {v : Value} (W : Wr h h' a sl v) : h.size ≤ h'.size := by
  obtain ⟨c, -, -, -, rfl⟩ := W; simp
theorem own_nb8 (c : Int32) : nar .byte c.toInt8.toInt32 = c.toInt8.toInt32 := by
  show (c.toInt8.toInt32).toInt8.toInt32 = c.toInt8.toInt32
  simp
/-- a sign of one byte -/
def own_B (z : Int32) : Prop := 0 ≤ z.toInt ∧ z.toInt ≤ 255
theorem own_B_le {z : Int32} (h : own_B z) : ¬ (255 : Int32) < z := by
  rw [Int32.lt_iff_toInt_lt, show (255 : Int32).toInt = 255 from by decide]; have := h.2; omega
theorem own_i8 (z : Int32) : z.toInt8.toInt32.toInt = z.toInt.bmod 256 := by
  rw [Int8.toInt_toInt32]; exact Int32.toInt_toInt8 z
theorem own_b8 {z w : Int32} (h : own_B z) (g : own_B w) : z.toInt8.toInt32 = w.toInt8.toInt32 ↔ z = w := by
  refine ⟨fun q => ?_, fun q => by rw [q]⟩
  have q' := congrArg Int32.toInt q
  rw [own_i8, own_i8] at q'
  refine Int32.toInt_inj.mp ?_
  obtain ⟨h1, h2⟩ := h; obtain ⟨g1, g2⟩ := g
  simp only [Int.bmod] at q'
  split at q' <;> split at q' <;> omega
theorem own_and255 (x : Int32) : own_B (x &&& 255) := by
  have e : (x &&& 255).toInt = ((x.toBitVec.toNat &&& 255 : Nat) : Int) := by
    show ((x &&& 255).toBitVec).toInt = _
    rw [BitVec.toInt_eq_toNat_of_lt]
    · congr 1
    · show 2 * (x.toBitVec.toNat &&& 255) < 2 ^ 32
      have : x.toBitVec.toNat &&& 255 ≤ 255 := Nat.and_le_right
      omega
  have : x.toBitVec.toNat &&& 255 ≤ 255 := Nat.and_le_right
  constructor <;> rw [e] <;> omega
theorem own_nc {z : Int32} (h : own_B z) : z.toUInt32.toUInt16.toUInt32.toInt32 = z := by
  have q : z.toBitVec.toNat ≤ 255 := by
    have e : z.toInt = z.toBitVec.toInt := rfl
    obtain ⟨h1, h2⟩ := h
    rw [e, BitVec.toInt_eq_toNat_cond] at h1 h2
    split at h1 <;> split at h2 <;> omega
  have e : z.toUInt32.toUInt16.toUInt32 = z.toUInt32 := by
    refine UInt32.toNat_inj.mp ?_
    have r : z.toUInt32.toNat ≤ 255 := q
    simp
    omega
  rw [e]; simp
theorem own_ch {x z : Int32} (e : z = (x &&& 255).toUInt32.toUInt16.toUInt32.toInt32) : own_B z ∧ nar .char z = z := by
  have h := own_and255 x
  rw [own_nc h] at e
  subst e
  exact ⟨h, own_nc h⟩
theorem own_succ (i : Nat) : (Int32.ofNat i + (1 : Int32)) = Int32.ofNat (i + 1) := (Int32.ofNat_add i 1).symm
/-! own text: chars and the bytes of UTF16 -/
def own_C (z : Int32) : Prop := 0 ≤ z.toInt ∧ z.toInt ≤ 65535
theorem own_mask8 : ∀ i : Fin 32, (255#32).getLsbD i.val = decide (i.val < 8) := by decide
theorem own_sx8 (b : BitVec 32) : ((b.setWidth 8).signExtend 32) &&& 255#32 = b &&& 255#32 := by
  refine BitVec.eq_of_getLsbD_eq fun i hi => ?_
  have q := own_mask8 ⟨i, hi⟩
  simp only at q
  rw [BitVec.getLsbD_and, BitVec.getLsbD_and, q]
  by_cases h : i < 8
  · simp [BitVec.getLsbD_signExtend, h]; intro _; omega
  · simp [h]
theorem own_byte (y : Int32) : y.toInt8.toInt32 &&& 255 = y &&& 255 := by
  apply Int32.toBitVec_inj.mp
  rw [Int32.toBitVec_and, Int32.toBitVec_and, Int8.toBitVec_toInt32, Int32.toBitVec_toInt8, show BitVec.signExtend 8 y.toBitVec = BitVec.setWidth 8 y.toBitVec from BitVec.signExtend_eq_setWidth_of_le _ (by decide)]
  exact own_sx8 y.toBitVec
theorem own_C_nat {x : Int32} (h : own_C x) : x.toBitVec.toNat < 65536 ∧ x.toBitVec.msb = false := by
  obtain ⟨h1, h2⟩ := h
  have e : x.toInt = x.toBitVec.toInt := rfl
  rw [e, BitVec.toInt_eq_toNat_cond] at h1 h2
  have : x.toBitVec.toNat < 65536 := by split at h1 <;> split at h2 <;> omega
  refine ⟨this, ?_⟩
  rw [BitVec.msb_eq_decide]
  simp; omega
theorem own_shr8 (x : Int32) : (x >>> ((8 : Int32) &&& 31)).toBitVec = x.toBitVec.sshiftRight 8 := by
  rw [show ((8 : Int32) &&& 31) = 8 from by decide, Int32.toBitVec_shiftRight]
  rfl
theorem own_shl8 (x : Int32) : (x <<< ((8 : Int32) &&& 31)).toBitVec = x.toBitVec <<< 8 := by
  rw [show ((8 : Int32) &&& 31) = 8 from by decide, Int32.toBitVec_shiftLeft]
  rfl
theorem own_sh0 (x : Int32) : x >>> ((0 : Int32) &&& 31) = x ∧ x <<< ((0 : Int32) &&& 31) = x := by
  rw [show ((0 : Int32) &&& 31) = 0 from by decide]; simp
theorem own_join16 {x : Int32} (h : own_C x) : (((x >>> ((0 : Int32) &&& 31)).toInt8.toInt32 &&& 255) <<< ((0 : Int32) &&& 31)) ||| (((x >>> ((8 : Int32) &&& 31)).toInt8.toInt32 &&& 255) <<< ((8 : Int32) &&& 31)) = x := by
  obtain ⟨hn, hm⟩ := own_C_nat h
  rw [own_byte, own_byte, (own_sh0 _).1, (own_sh0 _).2]
  apply Int32.toBitVec_inj.mp
  rw [Int32.toBitVec_or, Int32.toBitVec_and, own_shl8, Int32.toBitVec_and, own_shr8]
  refine BitVec.eq_of_getLsbD_eq fun i hi => ?_
  have hz : ∀ j, 16 ≤ j → x.toBitVec.getLsbD j = false := fun j hj => by
    apply Nat.testBit_lt_two_pow
    have h2 : 2 ^ 16 ≤ 2 ^ j := Nat.pow_le_pow_right (by decide) hj
    omega
  have q := own_mask8 ⟨i, hi⟩
  simp only at q
  have e255 : (255 : Int32).toBitVec = 255#32 := rfl
  rw [e255, BitVec.getLsbD_or, BitVec.getLsbD_and, q, BitVec.getLsbD_shiftLeft, BitVec.getLsbD_and, BitVec.getLsbD_sshiftRight]
  by_cases h1 : i < 8
  · simp [h1]
  · have q2 := own_mask8 ⟨i - 8, by omega⟩
    simp only at q2
    rw [q2, show 8 + (i - 8) = i from by omega]
    by_cases h2 : i - 8 < 8
    · simp [h1, h2, hi]; intro _; omega
    · simp [h1, h2]; rw [hz i (by omega)]
theorem own_nc16 {z : Int32} (h : own_C z) : z.toUInt32.toUInt16.toUInt32.toInt32 = z := by
  have q := (own_C_nat h).1
  have e : z.toUInt32.toUInt16.toUInt32 = z.toUInt32 := by
    refine UInt32.toNat_inj.mp ?_
    have r : z.toUInt32.toNat < 65536 := q
    simp
    omega
  rw [e]; simp
theorem own_cC (z : Int32) : own_C (z.toUInt32.toUInt16.toUInt32.toInt32) := by
  have e : (z.toUInt32.toUInt16.toUInt32.toInt32).toBitVec.toNat < 65536 := by
    show (z.toUInt32.toUInt16.toUInt32).toNat < 65536
    have := z.toUInt32.toUInt16.toNat_lt
    simp
    omega
  have e2 : (z.toUInt32.toUInt16.toUInt32.toInt32).toInt = ((z.toUInt32.toUInt16.toUInt32.toInt32).toBitVec.toNat : Int) := by
    show ((z.toUInt32.toUInt16.toUInt32.toInt32).toBitVec).toInt = _
    rw [BitVec.toInt_eq_toNat_of_lt (by omega)]
  constructor <;> rw [e2] <;> omega
theorem own_and16 (z : Int32) : own_C (z &&& 65535) := by
  have e : (z &&& 65535).toBitVec.toNat = z.toBitVec.toNat &&& 65535 := rfl
  have q : z.toBitVec.toNat &&& 65535 ≤ 65535 := Nat.and_le_right
  have e2 : (z &&& 65535).toInt = ((z &&& 65535).toBitVec.toNat : Int) := by
    show ((z &&& 65535).toBitVec).toInt = _
    rw [BitVec.toInt_eq_toNat_of_lt (by omega)]
  constructor <;> rw [e2] <;> omega
theorem own_C0 {z : Int32} (h : own_C z) (h2 : ¬ (255 : Int32) < z) : own_B z := by
  rw [Int32.lt_iff_toInt_lt, show (255 : Int32).toInt = 255 from by decide] at h2
  exact ⟨h.1, by omega⟩
theorem own_latc {x : Int32} (h : own_B x) : x.toInt8.toInt32 &&& 255 = x := by
  rw [own_byte]
  have hC : own_C x := ⟨h.1, by have := h.2; omega⟩
  have q := (own_C_nat hC).1
  have e : x.toInt = x.toBitVec.toInt := rfl
  have q2 : x.toBitVec.toNat ≤ 255 := by
    have h2 := h.2
    rw [e, BitVec.toInt_eq_toNat_of_lt (by omega)] at h2; omega
  apply Int32.toBitVec_inj.mp
  apply BitVec.eq_of_toNat_eq
  show x.toBitVec.toNat &&& 255 = _
  rw [show (255 : Nat) = 2 ^ 8 - 1 from rfl, Nat.and_two_pow_sub_one_eq_mod]; omega
def own_utf : List Int32 → List Int32
  | [] => []
  | x :: xs => (x >>> ((0 : Int32) &&& 31)).toInt8.toInt32 :: (x >>> ((8 : Int32) &&& 31)).toInt8.toInt32 :: own_utf xs
theorem own_utf_len : ∀ xs : List Int32, (own_utf xs).length = 2 * xs.length
  | [] => rfl
  | x :: xs => by simp only [own_utf, List.length_cons, own_utf_len xs]; omega
theorem own_utf_at : ∀ {xs : List Int32} {k : Nat} {x : Int32}, xs[k]? = some x → (own_utf xs)[2 * k]? = some ((x >>> ((0 : Int32) &&& 31)).toInt8.toInt32) ∧ (own_utf xs)[2 * k + 1]? = some ((x >>> ((8 : Int32) &&& 31)).toInt8.toInt32)
  | [], k, x, h => by cases h
  | y :: ys, 0, x, h => by cases h; exact ⟨rfl, rfl⟩
  | y :: ys, k + 1, x, h => by
    have q := own_utf_at (xs := ys) (k := k) (x := x) (by simpa using h)
    rw [show 2 * (k + 1) + 1 = (2 * k + 1) + 1 + 1 from by omega, show 2 * (k + 1) = 2 * k + 1 + 1 from by omega]
    simpa [own_utf] using q
theorem own_shr0' (z : Int32) : z >>> ((0 : Int32) &&& 31) = z := (own_sh0 z).1
theorem own_shr1' {n : Nat} (h : 2 * n < 2 ^ 31) : Int32.ofNat (2 * n) >>> ((1 : Int32) &&& 31) = Int32.ofNat n := by
  rw [show ((1 : Int32) &&& 31) = 1 from by decide]
  apply Int32.toBitVec_inj.mp
  rw [Int32.toBitVec_shiftRight]
  apply BitVec.eq_of_toNat_eq
  show ((Int32.ofNat (2 * n)).toBitVec.sshiftRight 1).toNat = _
  have e : (Int32.ofNat (2 * n)).toBitVec = BitVec.ofNat 32 (2 * n) := rfl
  have e2 : (Int32.ofNat n).toBitVec = BitVec.ofNat 32 n := rfl
  rw [e, e2, BitVec.sshiftRight_eq_of_msb_false]
  · simp; omega
  · rw [BitVec.msb_eq_decide]; simp; omega
theorem own_shl1 {n : Nat} (h : 2 * n < 2 ^ 31) : Int32.ofNat n <<< ((1 : Int32) &&& 31) = Int32.ofNat (2 * n) := by
  rw [show ((1 : Int32) &&& 31) = 1 from by decide]
  apply Int32.toBitVec_inj.mp
  rw [Int32.toBitVec_shiftLeft]
  apply BitVec.eq_of_toNat_eq
  show ((Int32.ofNat n).toBitVec <<< (1 : Nat)).toNat = _
  have e : (Int32.ofNat n).toBitVec = BitVec.ofNat 32 n := rfl
  have e2 : (Int32.ofNat (2 * n)).toBitVec = BitVec.ofNat 32 (2 * n) := rfl
  rw [e, e2]
  simp [Nat.shiftLeft_eq]; omega
/-! own text: the prefix table, in plain words -/
section OwnKmp
variable {α : Type} [DecidableEq α]
def own_fall (xs : List α) (tab : List Nat) (c : α) : Nat → Nat → Nat
  | 0, len => len
  | f + 1, len => if len = 0 then 0 else if xs[len]? = some c then len else own_fall xs tab c f (tab.getD (len - 1) 0)
def own_run (xs : List α) : Nat → List Nat × Nat
  | 0 => (List.replicate xs.length 0, 0)
  | k + 1 => match xs[k + 1]? with
    | none => own_run xs k
    | some c => ((own_run xs k).1.set (k + 1) (if xs[own_fall xs (own_run xs k).1 c (k + 1) (own_run xs k).2]? = some c then own_fall xs (own_run xs k).1 c (k + 1) (own_run xs k).2 + 1 else own_fall xs (own_run xs k).1 c (k + 1) (own_run xs k).2),
        if xs[own_fall xs (own_run xs k).1 c (k + 1) (own_run xs k).2]? = some c then own_fall xs (own_run xs k).1 c (k + 1) (own_run xs k).2 + 1 else own_fall xs (own_run xs k).1 c (k + 1) (own_run xs k).2)
def own_kmp (xs : List α) : List Nat := (own_run xs (xs.length - 1)).1
def own_bord (cs : List α) (i L : Nat) : Bool := (List.range L).all fun j => decide (cs[j]? = cs[i - L + (j + 1)]?)
def own_ref (cs : List α) (i : Nat) : Nat :=
  if 5 ≤ i ∧ own_bord cs i 5 = true then 5 else if 4 ≤ i ∧ own_bord cs i 4 = true then 4 else if 3 ≤ i ∧ own_bord cs i 3 = true then 3 else if 2 ≤ i ∧ own_bord cs i 2 = true then 2 else if 1 ≤ i ∧ own_bord cs i 1 = true then 1 else 0
end OwnKmp
section OwnMap
variable {α β : Type} [DecidableEq α] [DecidableEq β] {g : α → β}
theorem own_map_at {xs : List α} (hg : ∀ a ∈ xs, ∀ b ∈ xs, g a = g b → a = b) {c : α} (hc : c ∈ xs) (i : Nat) : (xs.map g)[i]? = some (g c) ↔ xs[i]? = some c := by
  rw [List.getElem?_map]
  cases h : xs[i]? with
  | none => simp
  | some a =>
    have ha := List.mem_of_getElem? h
    simp only [Option.map_some, Option.some.injEq]
    exact ⟨fun q => hg a ha c hc q, fun q => by rw [q]⟩
theorem own_fall_map {xs : List α} (hg : ∀ a ∈ xs, ∀ b ∈ xs, g a = g b → a = b) {c : α} (hc : c ∈ xs) (tab : List Nat) : ∀ f len, own_fall (xs.map g) tab (g c) f len = own_fall xs tab c f len
  | 0, len => rfl
  | f + 1, len => by
    simp only [own_fall, own_map_at hg hc, own_fall_map hg hc tab f]
theorem own_run_map {xs : List α} (hg : ∀ a ∈ xs, ∀ b ∈ xs, g a = g b → a = b) : ∀ k, own_run (xs.map g) k = own_run xs k
  | 0 => by simp [own_run]
  | k + 1 => by
    have ih := own_run_map hg k
    simp only [own_run]
    rw [List.getElem?_map]
    cases h : xs[k + 1]? with
    | none => simpa using ih
    | some c =>
      have hc := List.mem_of_getElem? h
      simp only [Option.map_some, ih, own_fall_map hg hc, own_map_at hg hc]
theorem own_kmp_map {xs : List α} (hg : ∀ a ∈ xs, ∀ b ∈ xs, g a = g b → a = b) : own_kmp (xs.map g) = own_kmp xs := by
  simp only [own_kmp, List.length_map, own_run_map hg]
theorem own_bord_map {cs : List α} (hg : ∀ a ∈ cs, ∀ b ∈ cs, g a = g b → a = b) (i L : Nat) : own_bord (cs.map g) i L = own_bord cs i L := by
  simp only [own_bord, List.getElem?_map]
  congr 1
  funext j
  congr 1
  apply propext
  cases h1 : cs[j]? with
  | none => cases h2 : cs[i - L + (j + 1)]? <;> simp
  | some a =>
    cases h2 : cs[i - L + (j + 1)]? with
    | none => simp
    | some b =>
      simp only [Option.map_some, Option.some.injEq]
      exact ⟨fun q => hg a (List.mem_of_getElem? h1) b (List.mem_of_getElem? h2) q, fun q => by rw [q]⟩
theorem own_ref_map {cs : List α} (hg : ∀ a ∈ cs, ∀ b ∈ cs, g a = g b → a = b) (i : Nat) : own_ref (cs.map g) i = own_ref cs i := by
  simp only [own_ref, own_bord_map hg]
end OwnMap
def own_chk (cs : List Nat) (n : Nat) : Bool := (List.range n).all fun i => (own_kmp (cs.take n))[i]? == some (own_ref cs i)
theorem own_all6 : ∀ (b : Fin 2) (c : Fin 3) (d : Fin 4) (e : Fin 5) (f : Fin 6) (n : Fin 7), own_chk [0, b.val, c.val, d.val, e.val, f.val] n.val = true := by decide +kernel
theorem own_idx_le {α : Type} [BEq α] [LawfulBEq α] : ∀ (cs : List α) (i : Nat) (x : α), cs[i]? = some x → cs.idxOf x ≤ i
  | [], i, x, h => by cases h
  | y :: ys, 0, x, h => by cases h; simp
  | y :: ys, i + 1, x, h => by
    rw [List.idxOf_cons]
    cases hq : y == x with
    | true => simp
    | false => have := own_idx_le ys i x (by simpa using h); simp; omega
theorem own_idx_inj {α : Type} [BEq α] [LawfulBEq α] {cs : List α} {a b : α} (ha : a ∈ cs) (hb : b ∈ cs) (h : cs.idxOf a = cs.idxOf b) : a = b := by
  have h1 := List.getElem_idxOf (List.idxOf_lt_length_of_mem ha)
  have h2 := List.getElem_idxOf (List.idxOf_lt_length_of_mem hb)
  rw [← h1, ← h2]
  simp only [h]
theorem own_law {α : Type} [DecidableEq α] (x0 x1 x2 x3 x4 x5 : α) {n i : Nat} (hn : n ≤ 6) (hi : i < n) : (own_kmp ([x0, x1, x2, x3, x4, x5].take n))[i]? = some (own_ref [x0, x1, x2, x3, x4, x5] i) := by
  have hinj : ∀ a ∈ [x0, x1, x2, x3, x4, x5], ∀ b ∈ [x0, x1, x2, x3, x4, x5], [x0, x1, x2, x3, x4, x5].idxOf a = [x0, x1, x2, x3, x4, x5].idxOf b → a = b := fun a ha b hb h => own_idx_inj ha hb h
  have hinj2 : ∀ a ∈ [x0, x1, x2, x3, x4, x5].take n, ∀ b ∈ [x0, x1, x2, x3, x4, x5].take n, [x0, x1, x2, x3, x4, x5].idxOf a = [x0, x1, x2, x3, x4, x5].idxOf b → a = b := fun a ha b hb h => own_idx_inj (List.mem_of_mem_take ha) (List.mem_of_mem_take hb) h
  rw [← own_kmp_map (g := fun a => [x0, x1, x2, x3, x4, x5].idxOf a) hinj2, ← own_ref_map (g := fun a => [x0, x1, x2, x3, x4, x5].idxOf a) hinj, List.map_take]
  have l0 := own_idx_le [x0, x1, x2, x3, x4, x5] 0 x0 rfl
  have l1 := own_idx_le [x0, x1, x2, x3, x4, x5] 1 x1 rfl
  have l2 := own_idx_le [x0, x1, x2, x3, x4, x5] 2 x2 rfl
  have l3 := own_idx_le [x0, x1, x2, x3, x4, x5] 3 x3 rfl
  have l4 := own_idx_le [x0, x1, x2, x3, x4, x5] 4 x4 rfl
  have l5 := own_idx_le [x0, x1, x2, x3, x4, x5] 5 x5 rfl
  generalize hg : (fun a => [x0, x1, x2, x3, x4, x5].idxOf a) = g at *
  have e : ∀ a, [x0, x1, x2, x3, x4, x5].idxOf a = g a := fun a => by rw [← hg]
  rw [e] at l0 l1 l2 l3 l4 l5
  have q := own_all6 ⟨g x1, by omega⟩ ⟨g x2, by omega⟩ ⟨g x3, by omega⟩ ⟨g x4, by omega⟩ ⟨g x5, by omega⟩ ⟨n, by omega⟩
  simp only [own_chk, List.all_eq_true, List.mem_range, beq_iff_eq] at q
  have q' := q i hi
  rw [show (0 : Nat) = g x0 from by omega] at q'
  exact q'
theorem own_fall_le {α : Type} [DecidableEq α] {xs : List α} {tab : List Nat} {c : α} (ht : ∀ j, tab.getD j 0 ≤ j) : ∀ f len, own_fall xs tab c f len ≤ len
  | 0, len => Nat.le_refl _
  | f + 1, len => by
    simp only [own_fall]
    split
    · omega
    · split
      · exact Nat.le_refl _
      · have h1 := own_fall_le (c := c) (xs := xs) ht f (tab.getD (len - 1) 0)
        have h2 := ht (len - 1)
        omega
theorem own_getD_set {l : List Nat} {i v : Nat} (h : ∀ j, l.getD j 0 ≤ j) (hv : v ≤ i) : ∀ j, (l.set i v).getD j 0 ≤ j := fun j => by
  have hj := h j
  simp only [List.getD_eq_getElem?_getD] at hj ⊢
  rw [List.getElem?_set]
  split
  · rename_i e
    subst e
    split
    · simpa using hv
    · simp
  · exact hj
theorem own_run_ok {α : Type} [DecidableEq α] (xs : List α) : ∀ k, (own_run xs k).1.length = xs.length ∧ (∀ j, (own_run xs k).1.getD j 0 ≤ j) ∧ (own_run xs k).2 ≤ k
  | 0 => ⟨by simp [own_run], fun j => by simp only [own_run, List.getD_eq_getElem?_getD, List.getElem?_replicate]; split <;> simp, Nat.le_refl _⟩
  | k + 1 => by
    obtain ⟨h1, h2, h3⟩ := own_run_ok xs k
    simp only [own_run]
    split
    · exact ⟨h1, h2, by omega⟩
    · rename_i c hc
      have h4 := own_fall_le (xs := xs) (c := c) h2 (k + 1) (own_run xs k).2
      refine ⟨by simpa using h1, own_getD_set h2 ?_, ?_⟩ <;> split <;> omega
theorem own_run_succ {α : Type} [DecidableEq α] {xs : List α} {k : Nat} {c : α} (h : xs[k + 1]? = some c) {F l2 : Nat} (hF : own_fall xs (own_run xs k).1 c (k + 1) (own_run xs k).2 = F) (hl : l2 = if xs[F]? = some c then F + 1 else F) : own_run xs (k + 1) = ((own_run xs k).1.set (k + 1) l2, l2) := by
  simp only [own_run, h]
  rw [hF, ← hl]
def own_ints (l : List Nat) : List Int32 := l.map Int32.ofNat
theorem own_ints_set (l : List Nat) (i v : Nat) : (own_ints l).set i (Int32.ofNat v) = own_ints (l.set i v) := by simp only [own_ints, List.map_set]
theorem own_ints_len (l : List Nat) : (own_ints l).length = l.length := by simp [own_ints]
theorem own_ints_at {l : List Nat} {i : Nat} (h : i < l.length) : (own_ints l)[i]? = some (Int32.ofNat (l.getD i 0)) := by
  simp [own_ints, List.getD_eq_getElem?_getD, List.getElem?_eq_getElem h]
theorem own_ints0 (n : Nat) : own_ints (List.replicate n 0) = List.replicate n (0 : Int32) := by simp [own_ints]
theorem own_latD {xs : List Int32} {i : Nat} {x : Int32} (h : xs[i]? = some x) : (((xs.take i).map fun x => x.toInt8.toInt32) ++ List.replicate (xs.length - i) (0 : Int32)).set i (x.toInt8.toInt32) = ((xs.take (i + 1)).map fun x => x.toInt8.toInt32) ++ List.replicate (xs.length - (i + 1)) 0 := by
  have hi : i < xs.length := (List.getElem?_eq_some_iff.mp h).1
  rw [List.take_add_one, h, List.set_append]
  have hl : ((xs.take i).map fun x => x.toInt8.toInt32).length = i := by simp; omega
  rw [hl, if_neg (by omega), Nat.sub_self, show xs.length - i = (xs.length - (i + 1)) + 1 from by omega, List.replicate_succ]
  simp
theorem own_utf_append : ∀ (xs ys : List Int32), own_utf (xs ++ ys) = own_utf xs ++ own_utf ys
  | [], ys => rfl
  | x :: xs, ys => by simp only [List.cons_append, own_utf, own_utf_append xs ys]
theorem own_utfD {xs : List Int32} {i : Nat} {x : Int32} (h : xs[i]? = some x) : ((own_utf (xs.take i) ++ List.replicate (2 * xs.length - 2 * i) (0 : Int32)).set (2 * i) ((x >>> ((0 : Int32) &&& 31)).toInt8.toInt32)).set (2 * i + 1) ((x >>> ((8 : Int32) &&& 31)).toInt8.toInt32) = own_utf (xs.take (i + 1)) ++ List.replicate (2 * xs.length - 2 * (i + 1)) 0 := by
  have hi : i < xs.length := (List.getElem?_eq_some_iff.mp h).1
  have hl : (own_utf (xs.take i)).length = 2 * i := by rw [own_utf_len]; simp; omega
  rw [List.take_add_one, h, own_utf_append, List.set_append, hl, if_neg (by omega), Nat.sub_self, show 2 * xs.length - 2 * i = (2 * xs.length - 2 * (i + 1)) + 1 + 1 from by omega, List.replicate_succ, List.replicate_succ, List.set_append, hl, if_neg (by omega), show 2 * i + 1 - 2 * i = 1 from by omega]
  simp [own_utf]
def own_Str (cd : Int32) (bs xs : List Int32) : Prop := (∀ x ∈ xs, own_C x) ∧ ((cd = 0 ∧ bs = xs.map (fun x => x.toInt8.toInt32) ∧ ∀ x ∈ xs, own_B x) ∨ (cd = 1 ∧ bs = own_utf xs))
/-! own text: numbers as naturals; cells that aren't statics -/
theorem own_addN (a b : Nat) : (Int32.ofNat a + Int32.ofNat b) = Int32.ofNat (a + b) := (Int32.ofNat_add a b).symm
theorem own_ltN {a b : Nat} (ha : a < 2 ^ 31) (hb' : b < 2 ^ 31) : Int32.ofNat a < Int32.ofNat b ↔ a < b := by
  rw [Int32.lt_iff_toInt_lt, own_ofNat ha, own_ofNat hb']; omega
theorem own_eqN {a b : Nat} (ha : a < 2 ^ 31) (hb' : b < 2 ^ 31) : Int32.ofNat a = Int32.ofNat b ↔ a = b := by
  refine ⟨fun q => ?_, fun q => by rw [q]⟩
  have := congrArg Int32.toInt q
  rw [own_ofNat ha, own_ofNat hb'] at this; omega
theorem own_not0 {c : Nat} (h : 1 ≤ c) (h' : c ≤ 6) : ¬ Int32.ofNat c = (0 : Int32) := fun q => by
  have := (own_eqN (a := c) (b := 0) (by omega) (by decide)).mp q
  omega
theorem own_pred {i : Nat} (h : 1 ≤ i) : Int32.ofNat i - (1 : Int32) = Int32.ofNat (i - 1) := by
  have e : Int32.ofNat i = Int32.ofNat (i - 1) + (1 : Int32) := by rw [own_succ, show i - 1 + 1 = i from by omega]
  rw [e]; exact Int32.add_sub_cancel _ _
theorem own_cl0 {n : Nat} : (((((Int32.ofNat n) - (Int32.ofNat n)).toUInt32 >>> ((31 : Int32) &&& 31).toUInt32).toInt32).toInt8.toInt32) = (0 : Int32) := by
  rw [Int32.sub_self]; decide
theorem own_cl1 {n : Nat} (h1 : 1 ≤ n) (h6 : n ≤ 6) : (((((Int32.ofNat n) - (Int32.ofNat (2 * n))).toUInt32 >>> ((31 : Int32) &&& 31).toUInt32).toInt32).toInt8.toInt32) = (1 : Int32) := by
  have : n = 1 ∨ n = 2 ∨ n = 3 ∨ n = 4 ∨ n = 5 ∨ n = 6 := by omega
  rcases this with rfl | rfl | rfl | rfl | rfl | rfl <;> decide
theorem own_nsA {Z : State} {h : Heap} {a : Addr} {ty : FieldType} {vs : List Value} (A : Ary Z h a ty vs) {cell : Cell} (q : h[a]? = some cell) : cell.vm.isStatics = false := by
  obtain ⟨c, ⟨f1, ⟨f2, -⟩, -⟩, -⟩ := A
  cases f1.symm.trans q
  cases e : cell.vm with
  | statics k => exact absurd e (f2 k)
  | _ => rfl
theorem own_ns1 {h : Heap} {b : Addr} (B : ∀ cell : Cell, h[b]? = some cell → cell.vm.isStatics = false) : ∀ x ∈ [b], ∀ cell : Cell, h[x]? = some cell → cell.vm.isStatics = false := fun x m cell q => by
  cases List.mem_singleton.mp m; exact B cell q
theorem own_all0 {P : Addr → Prop} : ∀ x ∈ ([] : List Addr), P x := fun _ q => nomatch q
theorem own_all1 {P : Addr → Prop} {a : Addr} (h : P a) : ∀ x ∈ [a], P x := fun x q => by cases List.mem_singleton.mp q; exact h
/-- the lambda's object: it holds the string sa -/
def LamAt (h : Heap) (a : Addr) (cK : ClassId) (sa : Addr) : Prop := h[a]? = some ({ cls := cK, slots := #[.ref sa], vm := .none } : Cell)
theorem LamAt.lt {h : Heap} {a sa : Addr} {cK : ClassId} (A : LamAt h a cK sa) : a < h.size := (Array.getElem?_eq_some_iff.mp A).1
theorem LamAt.ext {h h' : Heap} {a sa : Addr} {cK : ClassId} (A : LamAt h a cK sa) (E : Ext h h') : LamAt h' a cK sa := E.2 _ _ A
theorem LamAt.keep {h h' : Heap} {a sa : Addr} {cK : ClassId} {ws : List Addr} (A : LamAt h a cK sa) (K : Keep h h' ws) (q : a ∉ ws) : LamAt h' a cK sa := K.2.1 a _ A q
theorem LamAt.other {h h' : Heap} {a b sa : Addr} {cK : ClassId} {sl : Nat} {v : Value} (A : LamAt h a cK sa) (W : Wr h h' b sl v) (q : a ≠ b) : LamAt h' a cK sa :=
  A.keep ((Ok.refl h [b]).wr W (Or.inl (List.mem_singleton.mpr rfl))).1 (by simpa using q)
/-! own text: a lambda that captures one object and whose target is an interface's method -/
section OwnLam
open Jvm.Lambda
/-- what the class that the rule makes holds, as one check: the forwarder's bytes, its entries and its field -/
def own_fwd (σ : Lambda.Shape) (host : String) (fcode : ByteArray) (idx ci fi : Nat) : Bool :=
  plainName (host ++ "$$Lambda") &&
  match σ.file host with
  | none => false
  | some D =>
    match (layoutMethods D).bind (·[1]?), layoutFields D 0, D.constantPool[idx]?, D.constantPool[ci]?, D.constantPool[fi]? with
    | some f, some lay, some (.interfaceMethodref ci' nt), some (.class_ n), some (.fieldref _ ft) =>
      decide ((f.code.map fun c => (c.code.data, c.maxLocals)) = some (fcode.data, 2)) && decide (f.accessFlags = 1) && decide (f.sig.returnType = some .int) && decide (ci' = ci) &&
      decide (D.constantPool.className? ci = some σ.implClass) && decide (D.constantPool.nameAndType? nt = some (σ.implName, σ.implDesc.toString)) && decide (D.constantPool.string? n = some σ.implClass) && decide (ci ≠ D.thisClass) &&
      decide (lay.2.1 = σ.captured.toArray) && (match D.constantPool.nameAndType? ft, lay.1[0]? with | some (name, _), some g => decide (lay.1.findIdx? (·.name == name) = some 0) && !g.isStatic && decide (g.slot = 0) | _, _ => false)
    | _, _, _, _, _ => false
theorem own_res39 {Z : State} {vm' : Vm} (hW : Z.Warmed39 vm') {d : ClassId} {k : Class} (hk : Z.vm.classes[d]? = some k) : ∃ k', vm'.classes[d]? = some k' ∧ k' = { k with resolved := k'.resolved, nestHost := k'.nestHost, nestHostError := k'.nestHostError } ∧ ∀ (i : Nat) x, k.resolved[i]? = some (some x) → k'.resolved[i]? = some (some x) := by
  obtain ⟨k', h1, h2, -, h3, -⟩ := hW.2.2.2 d k hk
  refine ⟨k', h1, h2, fun i x hx => ?_⟩
  rcases h3 i with q | ⟨q, -⟩
  · rw [q]; exact hx
  · rw [q] at hx; cases hx
/-- the made class, in whatever tables the start's have come to -/
theorem own_lam {Z : State} {vm' : Vm} (hW : Z.Warmed39 vm') {x : MethodName} {pc index idx ci fi : Nat} {σ : Lambda.Shape} {cK : ClassId} {one : Option Addr} {fcode : ByteArray} {a0 : Array Value}
    (hat : Z.lambdaAt? x pc index σ = some (cK, one)) (hok : own_fwd σ x.cls fcode idx ci fi = true) (hO : (Cond.instantiable "java/lang/Object" 0).before a0 Z = true) :
    ∃ (k : Class) (file : ClassFile) (methk : Method) (ck : Code) (toy : ClassId) (tk : Class) (t : MethodId) (nt : Nat) (f : Field),
      vm'.classes[cK]? = some k ∧ plainName k.name = true ∧ k.kind = .ordinary ∧ k.instanceTypes = σ.captured.toArray ∧ k.cf = some file ∧ file.constantPool[idx]? = some (.interfaceMethodref ci nt) ∧
      vm'.method? ⟨cK, 1⟩ = some methk ∧ methk.code = some ck ∧ ck.code = fcode ∧ ck.maxLocals = 2 ∧ methk.locks = false ∧ methk.accessFlags = 1 ∧ methk.sig.returnType = some .int ∧
      Z.vm.findClass σ.implClass = some toy ∧ Z.vm.classes[toy]? = some tk ∧ ((methodIn toy σ.implName σ.implDesc.toString tk.isInterface none).ask { classPath := fun _ => none } Z.vm).1 = .ok t ∧
      vm'.methodReady cK idx t ∧ k.resolved[ci]? = some (some (.cls toy)) ∧ vm'.fieldReady cK fi cK f ∧ f.isStatic = false ∧ f.slot = 0 := by
  obtain ⟨mD, kD, -, -, -, -, hmD, hkD, -, -, -, -, hmade, -, -⟩ := State.lambdaAt?_spec hat
  obtain ⟨kD', hkD', hnameD⟩ := className_of_methodNamed hmD
  cases hkD.symm.trans hkD'
  obtain ⟨dk, k, ok, tk, file, cf, object, iface, toy, lay, methods, target, found, hd, hk, hfile, hcf, hob, -, hok', hlay, hms, ht, htk, hg, -, hrec, -, -, -, -, hpool, hmeth, hfields, hty, hres, -⟩ := isMade_spec hmade
  cases hkD.symm.trans hd
  rw [hnameD] at hcf
  have h0 : ok.instanceTypes.size = 0 := by
    obtain ⟨c1, k1, q1, q2, -, -, -, q3⟩ := Cond.instantiable_spec hO
    cases q1.symm.trans hob
    cases q2.symm.trans hok'
    exact q3
  rw [h0] at hlay
  unfold own_fwd at hok
  rw [hcf, Bool.and_eq_true] at hok
  obtain ⟨hpn, hok⟩ := hok
  dsimp only at hok
  rw [hlay, hms, Option.bind_some] at hok
  split at hok
  · rename_i f lay' ci' nt n ci2 ft hf hl2 hidx hci hfi
    cases hl2
    simp only [Bool.and_eq_true, decide_eq_true_eq] at hok
    obtain ⟨⟨⟨⟨⟨⟨⟨⟨⟨fc, ffl⟩, fr⟩, rfl⟩, hcn⟩, hnt⟩, hs⟩, hne⟩, hcap⟩, hfld⟩ := hok
    split at hfld
    · rename_i nm ds g hnt2 hg0
      simp only [Bool.and_eq_true, decide_eq_true_eq, Bool.not_eq_true'] at hfld
      obtain ⟨⟨hfi0, hgs⟩, hgl⟩ := hfld
      obtain ⟨k', hk', he, hr⟩ := own_res39 hW hk
      obtain ⟨b, hb', hsame⟩ := hmeth 1 f hf
      obtain ⟨-, -, hsig, hfl, u, y, hu, hy, -, hml, hcd, -⟩ := sameMethod_spec hsame
      rw [hu] at fc
      simp only [Option.map_some, Option.some.injEq, Prod.mk.injEq] at fc
      have hm1 : k'.methods = k.methods := by rw [he]
      have hf1 : k'.fields = k.fields := by rw [he]
      refine ⟨k', file, b, y, toy, tk, target, nt, g, hk', ?_, ?_, ?_, ?_, by rw [hpool.2.1]; exact hidx, ?_, hy, ?_, by rw [hml]; exact fc.2, ?_, by rw [hfl]; exact ffl, by rw [hsig]; exact fr, ht, htk, hg, ⟨k', hk', hr _ _ (hres _ _ ?_)⟩, hr _ _ (hres _ _ ?_), ⟨k', 0, k', hk', hr _ _ (hres _ _ ?_), hk', by rw [hf1]; exact hfields 0 _ hg0⟩, hgs, hgl⟩
      · rw [show k'.name = k.name from by rw [he], hrec.1, hnameD]; exact hpn
      · rw [show k'.kind = k.kind from by rw [he]]; exact hrec.2.1
      · rw [show k'.instanceTypes = k.instanceTypes from by rw [he], hty.1, Array.eq_empty_of_size_eq_zero h0, hcap]; simp
      · rw [show k'.cf = k.cf from by rw [he]]; exact hfile
      · simp [Vm.method?, hk', hm1, hb']
      · rw [hcd]; exact ByteArray.ext fc.1
      · simp [Method.locks, Method.isSynchronized, hfl, ffl, hasFlag, Acc.synchronized]
      · simp [resolvedOf, Array.getElem?_mapIdx, hidx, hcn, ht, htk, hnt, hg]
      · exact resolvedOf_class hci hne hs ht
      · exact resolvedOf_field hfi hnt2 hfi0
    · cases hfld
  · cases hok
theorem own_namedZ {Z s : State} (hZ : Z.Warmed39 s.vm) {x : MethodName} {m : MethodId} (h : s.methodNamed? x = some m) : Z.methodNamed? x = some m := by
  have q := State.methodNamed?_setVm (s := Z) hZ.alike x
  rw [← q]; exact h
variable {wd : Option (Vm → Heap → Prop)} {p : Program} {l : Launch} {e : Env} {R : Room} {s : State} {m : MethodId} {args : Array Value} {below : List Frame} {meth : Method} {c : Code} {T : State} {locs : List Loc} {cells slots : Nat} {Z : State} {a0 : Array Value} {h : Heap} {Qb : Option Value → Heap → List Loc → Prop} {kc ks : Nat}
/-- ConH.of, with the method's own name -/
theorem ConH.ofN {y : MethodName} {code : ByteArray} {ml : Nat} {rt : Option FieldType} {ws : List Jvm.Cond} {rm : Room} {as' : Array Value} {h0 : Heap} {EL : List (String × Nat)} {Q : Option Value → Heap → List Loc → Prop} (hp : plainFor y = true)
    (k : ∀ (p : Program) (e : Env) (s : State) (m : MethodId) (below : List Frame) (meth : Method) (c : Code) (s₁ : State) (vm0 : Vm), CHr Z EL vm0 h0 s.vm h0 → p.tables.exec = Jvm.exec → Z.Warmed39 s.vm → c.code = code → c.maxLocals = ml → s.vm.findClass y.cls = some m.cls → meth.name = y.name → meth.sig.returnType = rt → meth.locks = false →
      Stand p l e rm s m as' below meth c s₁ [] 0 0 → s₁.heap = h0 → Z.methodNamed? y = some m → Ends (some (CHr Z EL vm0 h0)) p e below s (Fl Q 0) rm.cells rm.slots s₁ (entryFrame m as' ml)) : ConH l y code ml rt ws rm as' Z h0 EL Q := by
  refine MetFree.of_bodySF hp hisR ?_
  intro p e s m args below meth c s₁ Bd hml0 hP hK
  obtain ⟨rfl, hZ, hh, hC⟩ := hP
  obtain ⟨s2, o, h1, h2, h3, v, L, h4, h5, h6, h7⟩ := k p e s m below meth c s₁ s.vm (CHr.refl hC) Bd.exec hZ Bd.bytes hml0 (findClass_of_methodNamed Bd.named) (name_of_methodNamed Bd.named Bd.method).1 Bd.returns Bd.notSynchronized (Stand.of_body Bd) (by rw [← hh, Bd.state]; rfl) (own_namedZ hZ Bd.named)
  exact ⟨s2, o, h1, h2, h3, v, L, h4, h5.1, by rw [hh]; exact h7, h6⟩
theorem own_ext_push (h : Heap) (cell : Cell) : Ext h (h.push cell) := ⟨by simp, fun a c q => by
  have hlt := (Array.getElem?_eq_some_iff.mp q).1
  rw [Array.getElem?_push_lt hlt, ← Array.getElem?_eq_getElem hlt]; exact q⟩
/-- the site of such a lambda -/
theorem Ends.site (X : Stand p l e R s m args below meth c T locs cells slots) (hx : p.tables.exec = Jvm.exec) (hZ : Z.Warmed39 s.vm) {x : MethodName} {pc index idx ci fi : Nat} {σ : Lambda.Shape} {C0 : String} {fcode : ByteArray} (hmn : Z.methodNamed? x = some m)
    (w : (Jvm.Cond.lambdaSite x pc index σ).before a0 Z = true) (hcap : σ.captured = [.object C0]) (hok : own_fwd σ x.cls fcode idx ci fi = true) (wO : (Jvm.Cond.instantiable "java/lang/Object" 0).before a0 Z = true) (eT : T.heap = h) {sa : Addr} {Ls : Array Slot} {st : List Value} (hsz : Ls.size = c.maxLocals) {W : Nat} (hW : (st.map fun v => v.category).sum ≤ W) (hwd : W + 1 + 3072 ≤ R.locals)
    (hd : decode c.code pc = .ok (.invokedynamic index, 5)) (hc : cells + 1 ≤ R.cells) (hs : slots + 1 ≤ R.slots)
    (k : ∀ T' h' b cK one, b = h.size → Z.lambdaAt? x pc index σ = some (cK, one) → Stand p l e R s m args below meth c T' locs (cells + 1) (slots + 1) → T'.heap = h' → Ext h h' → h'[b]? = some ({ cls := cK, slots := #[.ref sa], vm := .none } : Cell) → Ends wd p e below s Qb kc ks T' (mkF m (pc + 5) Ls (.ref b :: st))) :
    Ends wd p e below s Qb kc ks T (mkF m pc Ls (.ref sa :: st)) := by
  obtain ⟨cK, one, hat⟩ := Cond.lambdaSite_spec w
  obtain ⟨mD, kD, cfD, i0, p0, lk, hmD, hkD, hcfD, hsh, -, hfind, -, -, hl⟩ := State.lambdaAt?_spec hat
  cases hmn.symm.trans hmD
  obtain ⟨b, nt, desc, site, h1, h2, h3, h4⟩ := shapeOf?_site hsh
  obtain ⟨kc', -, -, -, -, -, -, -, -, hkc, -, hkind, hty, -⟩ := own_lam hZ hat hok wO
  obtain ⟨kD', hkD', heD⟩ := hZ.alike.2.2 _ _ hkD
  have hlk : lk = .makes cK := by
    rcases hl with ⟨a, cell, -, -, hc0, -⟩ | ⟨q, -, -⟩
    · rw [hcap] at hc0; cases hc0
    · exact q
  subst hlk
  have hz : ((kc'.instanceTypes.toList.zip [Value.ref sa]).map fun (t, v) => narrow t v) = [.ref sa] := by rw [hty, hcap]; rfl
  have hwl : e.platform.lambdaLinkWords = 3072 := by rw [X.admits.platform]
  have q := X.lambdaMakes hx (g := mkF m pc Ls (.ref sa :: st)) rfl hsz hd (vals := [.ref sa]) (rest := st) (k := kD') (kc := kc') hkD' (by rw [heD]; exact hfind) (by rw [heD]; exact hcfD) h1 h2 (parseLong_of_parse h3) (by rw [h4, hcap]; rfl) rfl hkc
    (by rw [hwl]; show 2 * 0 + (1 + (st.map fun v => v.category).sum) + 3072 ≤ _; omega) hc (by rw [hz]; exact hs)
    (fun i v hv => by
      rw [hz] at hv
      have hi : i = 0 := by
        have := (Array.getElem?_eq_some_iff.mp hv).1
        simpa using this
      subst hi
      have hv' : v = .ref sa := by simpa using hv.symm
      subst hv'
      simp [State.fitsSlot, State.slotType?, hkc, hkind, hty, hcap, fits])
  rw [hz] at q
  subst eT
  exact Ends.go q.2 (k _ _ _ cK one rfl hat (by simpa using q.1) rfl (own_ext_push _ _) (by show (T.heap.push _)[T.heap.size]? = _; simp))
/-- a method of an interface, on an object of the class C -/
theorem Ends.callF (X : Stand p l e R s m args below meth c T locs cells slots) (hx : p.tables.exec = Jvm.exec) (hZ : Z.Warmed39 s.vm) {own C : String} (hown : s.vm.findClass own = some m.cls) {index count : Nat} {xi y : MethodName} {bytes : ByteArray} {maxL : Nat} {rt : Option FieldType} {rm : Room} {Q : Option Value → Heap → List Loc → Prop}
    (w1 : (Jvm.Cond.methodLink own index xi).before a0 Z = true) (v2 : (Jvm.Cond.declares xi).before a0 Z = true) (v3 : (Jvm.Cond.interfaceMethod xi.cls xi.cls xi.name xi.desc).before a0 Z = true) (v4 : (Jvm.Cond.selects C xi y).before a0 Z = true) (v5 : (Jvm.Cond.instanceMethod y).before a0 Z = true) (v6 : (Jvm.Cond.publicMethod y).before a0 Z = true) (v7 : (Jvm.Cond.unhidden C xi.name xi.desc).before a0 Z = true) (v8 : (Jvm.Cond.castable C xi.cls).before a0 Z = true)
    (w3 : (Jvm.Cond.initialized y.cls).before a0 Z = true) (w4 : (Jvm.Cond.code y bytes maxL rt).before a0 Z = true) (hy : xi.cls ≠ "java/lang/invoke/MethodHandle" ∧ xi.cls ≠ "java/lang/invoke/VarHandle")
    {b : Addr} {argsL rest : List Value} (eT : T.heap = h) (E : Exa Z h b C) (M : Con l y bytes maxL rt [] rm (.ref b :: argsL).toArray Z h Q) {W pc : Nat} (hf : rm.frames + 1 ≤ R.frames) (hl : W + (maxL + 11) + rm.locals ≤ R.locals) {Ls : Array Slot} (hsz : Ls.size = c.maxLocals)
    (hlen : ∀ sig, parseMethodDescriptor xi.desc = some sig → argsL.length = sig.parameters.length) (hW : (rest.map fun v => v.category).sum ≤ W) (hd : decode c.code pc = .ok (.invokeinterface index count, 5)) (hc : cells + rm.cells ≤ R.cells) (hs : slots + rm.slots ≤ R.slots) {st : List Value} (hst : st = argsL.reverse ++ .ref b :: rest)
    (k : ∀ T' v L, Stand p l e R s m args below meth c T' (locs ++ L) (cells + rm.cells) (slots + rm.slots) → Q v T'.heap L → Ends wd p e below s Qb kc ks T' (mkF m (pc + 5) Ls (v.toList ++ rest))) :
    Ends wd p e below s Qb kc ks T (mkF m pc Ls st) := by
  obtain ⟨cq, kq, qa, qb, qc⟩ := isOf (T := T) hZ eT E
  obtain ⟨v, vm1, ⟨T1, L1, k1, n1⟩, -, X1, ⟨Lc, hQ, q1, q2, q3⟩, st1⟩ := X.interfaceBack hx (xi := xi) (y := y) hown (mvT hZ w1) (mvT hZ v2) (mvT hZ v3 (by simp [Cond.onTables, Cond.keepsFace, Cond.keeps, Cond.steady, Cond.faceAtom, hy.1, hy.2])) (mvT hZ v4) (mvT hZ v5) (mvT hZ v6) (mvT hZ v7) (mvT hZ v8) hy (backOf (W := W) M hZ w4 w3 hf hl) qa qb qc (g := mkF m pc Ls st) rfl hsz (Steps.refl _) (argsL := argsL) (rest := rest) hlen hst (by show 2 * 0 + _ ≤ _; omega) hd (fun _ _ => ⟨rfl, eT, hc, hs⟩)
  dsimp only [Pt.U, Pt.locs, Pt.cells, Pt.slots] at X1 q1 q2 q3 st1 hQ
  subst q1 q2 q3
  exact Ends.go (fun t kt => st1.trans kt) (k T1 v Lc X1 hQ)
theorem own_ef2 (m : MethodId) (a : Addr) (k : Int32) : entryFrame m #[.ref a, .int k] 2 = mkF m 0 #[.val (.ref a), .val (.int k)] [] := by first | (simp [entryFrame, mkF, argsToLocals, Value.category]; done) | rfl
/-- one call of the lambda's own method: it goes to the method of the captured object -/
theorem Ends.callLam (X : Stand p l e R s m args below meth c T locs cells slots) (hx : p.tables.exec = Jvm.exec) (hZ : Z.Warmed39 s.vm) {own : String} (hown : s.vm.findClass own = some m.cls) {x0 : MethodName} {pc0 index0 index count idx ci fi : Nat} {σ : Lambda.Shape} {cK : ClassId} {one : Option Addr} {fcode : ByteArray}
    (hat : Z.lambdaAt? x0 pc0 index0 σ = some (cK, one)) (hok : own_fwd σ x0.cls fcode idx ci fi = true) (wO : (Jvm.Cond.instantiable "java/lang/Object" 0).before a0 Z = true)
    (d0 : decode fcode 0 = .ok (.aload_n 0, 1)) (d1 : decode fcode 1 = .ok (.getfield fi, 3)) (d4 : decode fcode 4 = .ok (.iload_n 1, 1)) (d5 : decode fcode 5 = .ok (.invokeinterface idx 2, 5)) (d10 : decode fcode 10 = .ok (.ireturn, 1))
    {xi yi y : MethodName} {C : String} {bytes : ByteArray} {maxL : Nat} {rt : Option FieldType} {rm : Room} {Q : Option Value → Heap → List Loc → Prop}
    (w1 : (Jvm.Cond.methodLink own index xi).before a0 Z = true) (w2 : (Jvm.Cond.declares xi).before a0 Z = true) (w3' : (Jvm.Cond.interfaceMethod xi.cls xi.cls xi.name xi.desc).before a0 Z = true)
    (v2 : (Jvm.Cond.declares yi).before a0 Z = true) (v3 : (Jvm.Cond.interfaceMethod yi.cls yi.cls yi.name yi.desc).before a0 Z = true) (v4 : (Jvm.Cond.selects C yi y).before a0 Z = true) (v5 : (Jvm.Cond.instanceMethod y).before a0 Z = true) (v6 : (Jvm.Cond.publicMethod y).before a0 Z = true) (v7 : (Jvm.Cond.unhidden C yi.name yi.desc).before a0 Z = true) (v8 : (Jvm.Cond.castable C yi.cls).before a0 Z = true)
    (w3 : (Jvm.Cond.initialized y.cls).before a0 Z = true) (w4 : (Jvm.Cond.code y bytes maxL rt).before a0 Z = true) (hyx : xi.cls ≠ "java/lang/invoke/MethodHandle" ∧ xi.cls ≠ "java/lang/invoke/VarHandle") (hyy : yi.cls ≠ "java/lang/invoke/MethodHandle" ∧ yi.cls ≠ "java/lang/invoke/VarHandle")
    (hxi : xi.cls = σ.iface ∧ xi.name = σ.name ∧ xi.desc = σ.sam.toString) (hyi : yi.cls = σ.implClass ∧ yi.name = σ.implName ∧ yi.desc = σ.implDesc.toString)
    {j : Int32} (hlx : ∀ sig, parseMethodDescriptor xi.desc = some sig → [Value.int j].length = sig.parameters.length) (hly : ∀ sig, parseMethodDescriptor yi.desc = some sig → [Value.int j].length = sig.parameters.length)
    {a sa : Addr} {rest : List Value} (eT : T.heap = h) (hcell : h[a]? = some ({ cls := cK, slots := #[.ref sa], vm := .none } : Cell)) (E : Exa Z h sa C) (M : Con l y bytes maxL rt [] rm #[.ref sa, .int j] Z h Q) {x : Int32} (hint : ∀ v h L, Q v h L → v = some (.int x))
    {W pc : Nat} (hf : rm.frames + 2 ≤ R.frames) (hl : W + 13 + ((maxL + 11) + rm.locals) ≤ R.locals) {Ls : Array Slot} (hsz : Ls.size = c.maxLocals) (hW : (rest.map fun v => v.category).sum ≤ W) (hd : decode c.code pc = .ok (.invokeinterface index count, 5)) (hc : cells + rm.cells ≤ R.cells) (hs : slots + rm.slots ≤ R.slots)
    (k : ∀ T' L, Stand p l e R s m args below meth c T' (locs ++ L) (cells + rm.cells) (slots + rm.slots) → Q (some (.int x)) T'.heap L → Ends wd p e below s Qb kc ks T' (mkF m (pc + 5) Ls (.int x :: rest))) :
    Ends wd p e below s Qb kc ks T (mkF m pc Ls (.int j :: .ref a :: rest)) := by
  subst eT
  obtain ⟨mD, kD, -, -, -, -, hmD, hkD, -, -, -, -, hmade, hcan, -⟩ := State.lambdaAt?_spec hat
  obtain ⟨-, -, -, -, -, -, -, iface', -, -, -, -, found, -, -, -, -, -, hi', -, -, -, -, -, -, hfound', -, -, -, -, -, -, -, -, -, -, hsel⟩ := Lambda.isMade_spec hmade
  -- the interface's method, at the start
  obtain ⟨r0, r, hn, hrm, hstR, hsigR⟩ := Cond.declares_spec w2
  obtain ⟨cL, kL, r1, hcL, hkL, hiL, hfoundL, hn1⟩ := Cond.interfaceMethod_spec w3'
  cases hn.symm.trans hn1
  have hr0cls : r0.cls = cL := Option.some.inj ((findClass_of_methodNamed hn).symm.trans hcL)
  obtain ⟨hnameR, hdescR⟩ := name_of_methodNamed hn hrm
  obtain ⟨x1, x2, x3⟩ := hxi
  rw [← x1] at hi'
  cases hcL.symm.trans hi'
  have hfr0 : found = r0 := by
    have h1 : Z.methodFound? xi.cls xi.name xi.desc = some r0 := hfoundL
    simp only [State.methodFound?, hcL, hkL, hiL, Option.bind_eq_bind, Option.bind_some] at h1
    rw [← x2, ← x3] at hfound'
    rw [hfound'] at h1
    exact Option.some.inj h1
  subst hfr0
  obtain ⟨i2, hi2, hasg, hway⟩ := State.lambdaCallable_spec hcan
  rw [← x1] at hi2
  cases hcL.symm.trans hi2
  have hA := hZ.alike
  obtain ⟨kF, -, methK, -, -, -, -, -, -, hkF, -, -, -, -, -, hmK, -, -, -, -, hflK, -⟩ := own_lam hZ hat hok wO
  -- the same, at this call's start
  obtain ⟨kL', hkL', heL⟩ := hA.2.2 _ _ hkL
  have hns : s.methodNamed? xi = some found := by
    have q := State.methodNamed?_setVm (s := Z) hA xi
    rw [hn] at q; exact q
  obtain ⟨vm₁, X₁, hstep₁⟩ := X.invokeinterface hx hown (mvT hZ w1) hns (by rw [hA.method?]; exact hrm) hstR (by rw [hr0cls]; exact hkL') (by rw [heL]; exact hiL) hyx (a := a) hcell (fun z q => nomatch q) hkF (by rw [hA.assignable, hr0cls]; exact hasg)
    (m' := ⟨cK, 1⟩) (meth' := methK) (by rw [Launch.admits_selectMethod X.admits, hA.selectMethod]; exact hsel) hmK (by simp only [hA.superclasses, hA.declaredIn]; rw [hnameR, hdescR, x2, x3]; exact hway) (by rw [hflK]; decide) (by simp [Method.isAbstract, hflK, hasFlag, Acc.abstract])
    (g := mkF m pc Ls (.int j :: .ref a :: rest)) rfl (argsL := [.int j]) (rest := rest) (hlx _ hsigR) rfl hd
  have hZ₁ : Z.Warmed39 (T.setVm vm₁).vm := wtrans hZ X₁.warmed
  have hA₁ := hZ₁.alike
  obtain ⟨kK, file, methk, ck, toy, tk, t, nt, f, hkK, hpn, -, -, hfile, hidx, hmk, hck, hbytes, hml, hlk, hfl, hret, htoy, htk, hlook, hready, hcls, hfready, hfs, hfslot⟩ := own_lam hZ₁ hat hok wO
  have hpk : (T.setVm vm₁).plainMethod ⟨cK, 1⟩ := State.plainMethod.of_name (fun k' hk' => by cases hkK.symm.trans hk'; exact hpn)
  obtain ⟨Y₀, hin⟩ := X₁.into (g := mkF m pc Ls rest) rfl hsz hd #[.ref a, .int j] (R' := { frames := rm.frames + 1, cells := rm.cells, slots := rm.slots, locals := (maxL + 11) + rm.locals }) hmk hck hlk hpk hf (by rw [hml]; show 2 * 0 + (rest.map fun v => v.category).sum + (2 + 11) + ((maxL + 11) + rm.locals) ≤ R.locals; omega) hc hs
  rw [hml, own_ef2] at Y₀ hin
  generalize hU : ((T.setVm vm₁).setTop (mkF m pc Ls rest)).pushFrame (.java (mkF ⟨cK, 1⟩ 0 #[.val (.ref a), .val (.int j)] [])) = U at Y₀ hin
  have hvmU : U.vm = (T.setVm vm₁).vm := by rw [← hU]; rfl
  have hheapU : U.heap = T.heap := by rw [← hU]; rfl
  generalize hs' : (T.setVm vm₁).calling (mkF m pc Ls rest) ⟨cK, 1⟩ #[.ref a, .int j] = s' at Y₀
  have hvm' : s'.vm = (T.setVm vm₁).vm := by rw [← hs']; rfl
  have hZs' : Z.Warmed39 s'.vm := by rw [hvm']; exact hZ₁
  -- the target
  obtain ⟨y0, yr, hyn, hyrm, hystR, hysigR⟩ := Cond.declares_spec v2
  obtain ⟨cM, kM, y1, hcM, hkM, hiM, hfoundM, hyn1⟩ := Cond.interfaceMethod_spec v3
  cases hyn.symm.trans hyn1
  have hy0cls : y0.cls = cM := Option.some.inj ((findClass_of_methodNamed hyn).symm.trans hcM)
  obtain ⟨hnameY, hdescY⟩ := name_of_methodNamed hyn hyrm
  obtain ⟨mk, methM, hnamed, hmethM, -, habM⟩ := Cond.instanceMethod_spec v5
  obtain ⟨c2, r2, m2, q1, q2, q3, q4, -⟩ := Cond.selects_spec v4
  cases hfoundM.symm.trans q2
  cases hnamed.symm.trans q3
  have hpubM : hasFlag methM.accessFlags Acc.public_ = true := Cond.publicMethod_spec hnamed hmethM v6
  obtain ⟨c3, t3, u1, u2, u3⟩ := Cond.castable_spec v8
  cases q1.symm.trans u1
  cases hcM.symm.trans u2
  have hwayM := Cond.unhidden_spec q1 v7
  obtain ⟨cellB, kB, b1, b2, b3, b4, -⟩ := id E
  cases q1.symm.trans b2
  obtain ⟨z1, z2, z3⟩ := hyi
  have htoy' : toy = cM := by rw [← z1] at htoy; exact Option.some.inj (htoy.symm.trans hcM)
  subst htoy'
  cases htk.symm.trans hkM
  have ht : t = y0 := by
    have h1 : Z.methodFound? yi.cls yi.name yi.desc = some y0 := hfoundM
    simp only [State.methodFound?, hcM, hkM, hiM, Option.bind_eq_bind, Option.bind_some] at h1
    rw [← z2, ← z3, hiM] at hlook
    rw [hlook] at h1
    exact Option.some.inj h1
  subst ht
  have hK : Back l { frames := rm.frames + 1, cells := rm.cells, slots := rm.slots, locals := (maxL + 11) + rm.locals } p e (.java (mkF m pc Ls rest) :: below) s' #[.ref a, .int j] y 5 0 _ _ := backOf (W := 0) M hZs' w4 w3 (Nat.le_refl _) (by show 0 + (maxL + 11) + rm.locals ≤ (maxL + 11) + rm.locals; omega)
  have hnamedU : U.methodNamed? y = some mk := by
    have q := State.methodNamed?_setVm (s := Z) hA₁ y
    rw [hnamed] at q
    rw [← hU]; exact q
  obtain ⟨v, ⟨U', ls, cc, sl⟩, Y₁, ⟨Lc, hQ, e1, e2, e3⟩, hsteps⟩ := hK ⟨cK, 1⟩ methk ck ⟨U, [], 0, 0⟩ (mkF ⟨cK, 1⟩ 5 #[.val (.ref a), .val (.int j)] []) (.invokeinterface idx 2) mk #[.ref sa, .int j] Y₀ rfl (by rw [hml]; rfl)
    (by rw [hbytes]; exact d5) (Nat.le_refl _) hnamedU ⟨rfl, hheapU, by show 0 + rm.cells ≤ rm.cells; omega, by show 0 + rm.slots ≤ rm.slots; omega⟩
  dsimp only [Pt.U, Pt.locs, Pt.cells, Pt.slots] at Y₁ hQ e1 e2 e3 hsteps
  subst e1 e2 e3
  obtain rfl := hint _ _ _ hQ
  obtain ⟨fs, hleave, -, hended, hWe, hsame⟩ := Y₁.leave (v := some (.int x)) (fun q => by rw [hret] at q; cases q) hlk
  subst hs'
  obtain ⟨T', X', -, -, htt⟩ := X₁.outOf (g := mkF m pc Ls rest) rfl hd hended hWe hsame
  have hheap' : T'.heap = U'.heap := by
    have q : (U'.setFrames fs).heap = (T'.setTop _).heap := congrArg State.heap htt
    exact q.symm
  refine Ends.go (fun tt kt => hstep₁ _ fun acts => ?_) (k T' _ (by simpa using X') (by rw [hheap']; exact hQ))
  show Steps p.tables e below (doInvoke e ((T.setVm vm₁).setTop (mkF m pc Ls rest)) acts ⟨cK, 1⟩ #[.ref a, .int j]).1 tt
  rw [hin acts]
  have kt' : Steps p.tables e below (U'.setFrames fs) tt := by rw [htt]; exact kt
  refine Steps.trans (Steps.weaken (mid := [.java (mkF m pc Ls rest)]) ?_) kt'
  have hb' : ∀ {q : Nat} {i : Instr} {n : Nat}, decode fcode q = .ok (i, n) → decode ck.code q = .ok (i, n) := fun h => by rw [hbytes]; exact h
  refine XS.aloadN Y₀.here hx rfl (hb' d0) (v := .ref a) rfl rfl ?_
  have hstep1 : Steps p.tables e (.java (mkF m pc Ls rest) :: below) (U.setTop (mkF ⟨cK, 1⟩ 4 #[.val (.ref a), .val (.int j)] [.ref sa])) (U'.setFrames fs) → Steps p.tables e (.java (mkF m pc Ls rest) :: below) (U.setTop (mkF ⟨cK, 1⟩ 1 #[.val (.ref a), .val (.int j)] [.ref a])) (U'.setFrames fs) := fun kk => by
    have hd1 := hb' d1
    jvm_step Y₀.here [hx, hd1, getfield.wp_ready (e := e) (s := U) (f := mkF ⟨cK, 1⟩ 1 #[.val (.ref a), .val (.int j)] [.ref a]) (c := cK) (field := f) (a := a) (rest := []) (cell := ({ cls := cK, slots := #[.ref sa], vm := .none } : Cell)) (v := .ref sa) Y₀.here.top (by rw [hvmU]; exact hfready) hfs rfl (by rw [hheapU]; exact hcell) (by simp) (by rw [hfslot]; rfl)]
    exact kk
  refine hstep1 ?_
  refine XS.iloadN Y₀.here hx rfl (hb' d4) (v := j) rfl ?_
  show Steps p.tables e (.java (mkF m pc Ls rest) :: below) (U.setTop (mkF ⟨cK, 1⟩ 5 #[.val (.ref a), .val (.int j)] [.int j, .ref sa])) (U'.setFrames fs)
  obtain ⟨kB', hkB', heB⟩ := hA₁.2.2 _ _ b3
  obtain ⟨kM', hkM', heM⟩ := hA₁.2.2 _ _ hkM
  have hd5 := hb' d5
  have hst' : cellB.vm.isStatics = false := b4
  jvm_step Y₀.here [hx, hd5, invokeinterface.wp_ready (e := e) (s := U) (index := idx) (count := 2) (ci := ci) (nt := nt) (a := sa) (r0 := t) (m := mk) (named := toy) (ck := kK) (nk := kM') (kcell := kB') (cf := file) (r := yr) (meth := methM) (args := [.int j]) (rest := []) (cell := cellB) (f := mkF ⟨cK, 1⟩ 5 #[.val (.ref a), .val (.int j)] [.int j, .ref sa])
    Y₀.here.top (by rw [hvmU]; exact hready) (by rw [hvmU, hA₁.method?]; exact hyrm) hystR (hly _ hysigR) rfl (by rw [hheapU]; exact b1) (fun q hq => by rw [hq] at hst'; cases hst') (by rw [hvmU]; exact hkB') (by rw [hvmU]; exact hkK) hfile hidx hcls (by rw [hvmU]; exact hkM') (by rw [heM]; exact hiM)
    (by rw [hvmU, hA₁.assignable]; exact u3) (by rw [hvmU, Launch.admits_selectMethod X.admits, hA₁.selectMethod]; exact q4) (by rw [hvmU, hA₁.method?]; exact hmethM) (Or.inr (Or.inr (by rw [hvmU]; simp only [hA₁.superclasses, hA₁.declaredIn]; rw [hnameY, hdescY]; exact hwayM))) (Or.inl hpubM) habM]
  intro acts'
  rw [doInvoke_state]
  refine Steps.trans hsteps ?_
  exact Y₁.ireturnOut hx (t := .int) hret rfl (Or.inl rfl) (hb' d10) hleave
end OwnLam
theorem own_kmp_len {α : Type} [DecidableEq α] (xs : List α) : (own_kmp xs).length = xs.length := (own_run_ok xs _).1
theorem own_ckat {l : List Nat} {i r : Nat} (h : l[i]? = some r) : (own_ints l)[i]? = some (Int32.ofNat r) := by simp [own_ints, h]
theorem own_ifn {P : Prop} [Decidable P] (h : (if P then (1 : Int32) else 0) = 0) : ¬ P := fun q => by rw [if_pos q] at h; exact absurd h (by decide)
theorem own_ifp {P : Prop} [Decidable P] (h : ¬ (if P then (1 : Int32) else 0) = 0) : P := Classical.byContradiction fun q => h (if_neg q)
theorem own_and3N (x : Int32) : ∃ k : Nat, k < 4 ∧ x &&& 3 = Int32.ofNat k := by
  have e : (x &&& 3).toBitVec.toNat = x.toBitVec.toNat &&& 3 := rfl
  have q : x.toBitVec.toNat &&& 3 ≤ 3 := Nat.and_le_right
  refine ⟨x.toBitVec.toNat &&& 3, by omega, ?_⟩
  apply Int32.toBitVec_inj.mp
  apply BitVec.eq_of_toNat_eq
  rw [e]
  simp
theorem own_mod (x : Int32) (m : Nat) (hm : 0 < m) (hm2 : m < 100) : ∃ k : Nat, k < m ∧ (x &&& (2147483647 : Int32)) % Int32.ofNat m = Int32.ofNat k := by
  have q : x.toBitVec.toNat &&& 2147483647 ≤ 2147483647 := Nat.and_le_right
  have e : (x &&& 2147483647).toInt = ((x.toBitVec.toNat &&& 2147483647 : Nat) : Int) := by
    show ((x &&& 2147483647).toBitVec).toInt = _
    rw [BitVec.toInt_eq_toNat_of_lt]
    · rfl
    · show 2 * (x.toBitVec.toNat &&& 2147483647) < 2 ^ 32; omega
  refine ⟨(x.toBitVec.toNat &&& 2147483647) % m, Nat.mod_lt _ hm, ?_⟩
  have hl := Nat.mod_lt (x.toBitVec.toNat &&& 2147483647) hm
  apply Int32.toInt_inj.mp
  rw [Int32.toInt_mod, e, own_ofNat (by omega), own_ofNat (by omega)]
  exact Int.tmod_eq_emod_of_nonneg (by omega)
theorem own_C6 {c0 c1 c2 c3 c4 c5 : Int32} (h0 : own_C c0) (h1 : own_C c1) (h2 : own_C c2) (h3 : own_C c3) (h4 : own_C c4) (h5 : own_C c5) (n : Nat) : ∀ x ∈ [c0, c1, c2, c3, c4, c5].take n, own_C x := fun x hx => by
  have := List.mem_of_mem_take hx
  simp only [List.mem_cons, List.not_mem_nil, or_false] at this
  rcases this with rfl | rfl | rfl | rfl | rfl | rfl <;> assumption
theorem pn_0 : plainName "java/lang/String" = true := by first | (simp [plainName, overriddenIn]; done) | decide +kernel
theorem pn_1 : plainName "jdk/internal/util/Preconditions" = true := by first | (simp [plainName, overriddenIn]; done) | decide +kernel
theorem pn_2 : plainName "java/lang/StringLatin1" = true := by first | (simp [plainName, overriddenIn]; done) | decide +kernel
theorem pn_3 : plainName "java/lang/StringUTF16" = true := by first | (simp [plainName, overriddenIn]; done) | decide +kernel
theorem pn_4 : plainName "com/example/needlework/needlework/match/PrefixTable" = true := by first | (simp [plainName, overriddenIn]; done) | decide +kernel
theorem pn_5 : plainName "java/util/Objects" = true := by first | (simp [plainName, overriddenIn]; done) | decide +kernel
theorem pn_6 : plainName "com/example/needlework/needlework/match/PrefixTableOfPinLaw" = true := by first | (simp [plainName, overriddenIn]; done) | decide +kernel
theorem pd_0 : parseMethodDescriptor "()B" = some ⟨[], some .byte⟩ := by decide +kernel
theorem pd_1 : parseMethodDescriptor "(IILjava/util/function/BiFunction;)I" = some ⟨[.int, .int, (.object "java/util/function/BiFunction")], some .int⟩ := by decide +kernel
theorem pd_2 : parseMethodDescriptor "(II)V" = some ⟨[.int, .int], none⟩ := by decide +kernel
theorem pd_3 : parseMethodDescriptor "([B)I" = some ⟨[(.array .byte)], some .int⟩ := by decide +kernel
theorem pd_4 : parseMethodDescriptor "(I[B)V" = some ⟨[.int, (.array .byte)], none⟩ := by decide +kernel
theorem pd_5 : parseMethodDescriptor "([BI)C" = some ⟨[(.array .byte), .int], some .char⟩ := by decide +kernel
theorem pd_6 : parseMethodDescriptor "()Z" = some ⟨[], some .boolean⟩ := by decide +kernel
theorem pd_7 : parseMethodDescriptor "(I)I" = some ⟨[.int], some .int⟩ := by decide +kernel
theorem pd_8 : parseMethodDescriptor "(I)[B" = some ⟨[.int], some (.array .byte)⟩ := by decide +kernel
theorem pd_9 : parseMethodDescriptor "([BII)V" = some ⟨[(.array .byte), .int, .int], none⟩ := by decide +kernel
theorem pd_10 : parseMethodDescriptor "([CI[BII)I" = some ⟨[(.array .char), .int, (.array .byte), .int, .int], some .int⟩ := by decide +kernel
theorem pd_11 : parseMethodDescriptor "([CII)[B" = some ⟨[(.array .char), .int, .int], some (.array .byte)⟩ := by decide +kernel
theorem pd_12 : parseMethodDescriptor "([BI)B" = some ⟨[(.array .byte), .int], some .byte⟩ := by decide +kernel
theorem pd_13 : parseMethodDescriptor "([CIILjava/lang/Void;)V" = some ⟨[(.array .char), .int, .int, (.object "java/lang/Void")], none⟩ := by decide +kernel
theorem pd_14 : parseMethodDescriptor "(I)C" = some ⟨[.int], some .char⟩ := by decide +kernel
theorem pd_15 : parseMethodDescriptor "(Ljava/lang/Object;Ljava/lang/String;)Ljava/lang/Object;" = some ⟨[(.object "java/lang/Object"), (.object "java/lang/String")], some (.object "java/lang/Object")⟩ := by decide +kernel
theorem pd_16 : parseMethodDescriptor "()I" = some ⟨[], some .int⟩ := by decide +kernel
theorem pd_17 : parseMethodDescriptor "(Ljava/lang/Object;)Ljava/lang/Object;" = some ⟨[(.object "java/lang/Object")], some (.object "java/lang/Object")⟩ := by decide +kernel
theorem pd_18 : parseMethodDescriptor "(ILjava/util/function/IntUnaryOperator;)[I" = some ⟨[.int, (.object "java/util/function/IntUnaryOperator")], some (.array .int)⟩ := by decide +kernel
theorem pd_19 : parseMethodDescriptor "([C)V" = some ⟨[(.array .char)], none⟩ := by decide +kernel
theorem pd_20 : parseMethodDescriptor "([CII)Z" = some ⟨[(.array .char), .int, .int], some .boolean⟩ := by decide +kernel
theorem pd_21 : parseMethodDescriptor "([CI)I" = some ⟨[(.array .char), .int], some .int⟩ := by decide +kernel
theorem pd_22 : parseMethodDescriptor "([CI)Ljava/lang/String;" = some ⟨[(.array .char), .int], some (.object "java/lang/String")⟩ := by decide +kernel
theorem pd_23 : parseMethodDescriptor "(Ljava/lang/CharSequence;)[I" = some ⟨[(.object "java/lang/CharSequence")], some (.array .int)⟩ := by decide +kernel
theorem pd_24 : parseMethodDescriptor "([I[CII)Z" = some ⟨[(.array .int), (.array .char), .int, .int], some .boolean⟩ := by decide +kernel
theorem d1_0 : decode method_3_code 0 = .ok (.iload_n 1, 1) := by decide +kernel
theorem d1_1 : decode method_3_code 1 = .ok (.ifCond .ne 14, 3) := by decide +kernel
theorem d1_4 : decode method_3_code 4 = .ok (.new 24, 3) := by decide +kernel
theorem d1_7 : decode method_3_code 7 = .ok (.dup, 1) := by decide +kernel
theorem d1_8 : decode method_3_code 8 = .ok (.iconst 0, 1) := by decide +kernel
theorem d1_9 : decode method_3_code 9 = .ok (.newarray .char, 2) := by decide +kernel
theorem d1_11 : decode method_3_code 11 = .ok (.invokespecial 26, 3) := by decide +kernel
theorem d1_14 : decode method_3_code 14 = .ok (.areturn, 1) := by decide +kernel
theorem d1_15 : decode method_3_code 15 = .ok (.iload_n 1, 1) := by decide +kernel
theorem d1_16 : decode method_3_code 16 = .ok (.iconst 1, 1) := by decide +kernel
theorem d1_17 : decode method_3_code 17 = .ok (.if_icmp .ne 20, 3) := by decide +kernel
theorem d1_20 : decode method_3_code 20 = .ok (.new 24, 3) := by decide +kernel
theorem d1_23 : decode method_3_code 23 = .ok (.dup, 1) := by decide +kernel
theorem d1_24 : decode method_3_code 24 = .ok (.iconst 1, 1) := by decide +kernel
theorem d1_25 : decode method_3_code 25 = .ok (.newarray .char, 2) := by decide +kernel
theorem d1_27 : decode method_3_code 27 = .ok (.dup, 1) := by decide +kernel
theorem d1_28 : decode method_3_code 28 = .ok (.iconst 0, 1) := by decide +kernel
theorem d1_29 : decode method_3_code 29 = .ok (.aload_n 0, 1) := by decide +kernel
theorem d1_30 : decode method_3_code 30 = .ok (.iconst 0, 1) := by decide +kernel
theorem d1_31 : decode method_3_code 31 = .ok (.caload, 1) := by decide +kernel
theorem d1_32 : decode method_3_code 32 = .ok (.castore, 1) := by decide +kernel
theorem d1_33 : decode method_3_code 33 = .ok (.invokespecial 26, 3) := by decide +kernel
theorem d1_36 : decode method_3_code 36 = .ok (.areturn, 1) := by decide +kernel
theorem d1_37 : decode method_3_code 37 = .ok (.iload_n 1, 1) := by decide +kernel
theorem d1_38 : decode method_3_code 38 = .ok (.iconst 2, 1) := by decide +kernel
theorem d1_39 : decode method_3_code 39 = .ok (.if_icmp .ne 26, 3) := by decide +kernel
theorem d1_42 : decode method_3_code 42 = .ok (.new 24, 3) := by decide +kernel
theorem d1_45 : decode method_3_code 45 = .ok (.dup, 1) := by decide +kernel
theorem d1_46 : decode method_3_code 46 = .ok (.iconst 2, 1) := by decide +kernel
theorem d1_47 : decode method_3_code 47 = .ok (.newarray .char, 2) := by decide +kernel
theorem d1_49 : decode method_3_code 49 = .ok (.dup, 1) := by decide +kernel
theorem d1_50 : decode method_3_code 50 = .ok (.iconst 0, 1) := by decide +kernel
theorem d1_51 : decode method_3_code 51 = .ok (.aload_n 0, 1) := by decide +kernel
theorem d1_52 : decode method_3_code 52 = .ok (.iconst 0, 1) := by decide +kernel
theorem d1_53 : decode method_3_code 53 = .ok (.caload, 1) := by decide +kernel
theorem d1_54 : decode method_3_code 54 = .ok (.castore, 1) := by decide +kernel
theorem d1_55 : decode method_3_code 55 = .ok (.dup, 1) := by decide +kernel
theorem d1_56 : decode method_3_code 56 = .ok (.iconst 1, 1) := by decide +kernel
theorem d1_57 : decode method_3_code 57 = .ok (.aload_n 0, 1) := by decide +kernel
theorem d1_58 : decode method_3_code 58 = .ok (.iconst 1, 1) := by decide +kernel
theorem d1_59 : decode method_3_code 59 = .ok (.caload, 1) := by decide +kernel
theorem d1_60 : decode method_3_code 60 = .ok (.castore, 1) := by decide +kernel
theorem d1_61 : decode method_3_code 61 = .ok (.invokespecial 26, 3) := by decide +kernel
theorem d1_64 : decode method_3_code 64 = .ok (.areturn, 1) := by decide +kernel
theorem d1_65 : decode method_3_code 65 = .ok (.iload_n 1, 1) := by decide +kernel
theorem d1_66 : decode method_3_code 66 = .ok (.iconst 3, 1) := by decide +kernel
theorem d1_67 : decode method_3_code 67 = .ok (.if_icmp .ne 32, 3) := by decide +kernel
theorem d1_70 : decode method_3_code 70 = .ok (.new 24, 3) := by decide +kernel
theorem d1_73 : decode method_3_code 73 = .ok (.dup, 1) := by decide +kernel
theorem d1_74 : decode method_3_code 74 = .ok (.iconst 3, 1) := by decide +kernel
theorem d1_75 : decode method_3_code 75 = .ok (.newarray .char, 2) := by decide +kernel
theorem d1_77 : decode method_3_code 77 = .ok (.dup, 1) := by decide +kernel
theorem d1_78 : decode method_3_code 78 = .ok (.iconst 0, 1) := by decide +kernel
theorem d1_79 : decode method_3_code 79 = .ok (.aload_n 0, 1) := by decide +kernel
theorem d1_80 : decode method_3_code 80 = .ok (.iconst 0, 1) := by decide +kernel
theorem d1_81 : decode method_3_code 81 = .ok (.caload, 1) := by decide +kernel
theorem d1_82 : decode method_3_code 82 = .ok (.castore, 1) := by decide +kernel
theorem d1_83 : decode method_3_code 83 = .ok (.dup, 1) := by decide +kernel
theorem d1_84 : decode method_3_code 84 = .ok (.iconst 1, 1) := by decide +kernel
theorem d1_85 : decode method_3_code 85 = .ok (.aload_n 0, 1) := by decide +kernel
theorem d1_86 : decode method_3_code 86 = .ok (.iconst 1, 1) := by decide +kernel
theorem d1_87 : decode method_3_code 87 = .ok (.caload, 1) := by decide +kernel
theorem d1_88 : decode method_3_code 88 = .ok (.castore, 1) := by decide +kernel
theorem d1_89 : decode method_3_code 89 = .ok (.dup, 1) := by decide +kernel
theorem d1_90 : decode method_3_code 90 = .ok (.iconst 2, 1) := by decide +kernel
theorem d1_91 : decode method_3_code 91 = .ok (.aload_n 0, 1) := by decide +kernel
theorem d1_92 : decode method_3_code 92 = .ok (.iconst 2, 1) := by decide +kernel
theorem d1_93 : decode method_3_code 93 = .ok (.caload, 1) := by decide +kernel
theorem d1_94 : decode method_3_code 94 = .ok (.castore, 1) := by decide +kernel
theorem d1_95 : decode method_3_code 95 = .ok (.invokespecial 26, 3) := by decide +kernel
theorem d1_98 : decode method_3_code 98 = .ok (.areturn, 1) := by decide +kernel
theorem d1_99 : decode method_3_code 99 = .ok (.iload_n 1, 1) := by decide +kernel
theorem d1_100 : decode method_3_code 100 = .ok (.iconst 4, 1) := by decide +kernel
theorem d1_101 : decode method_3_code 101 = .ok (.if_icmp .ne 38, 3) := by decide +kernel
theorem d1_104 : decode method_3_code 104 = .ok (.new 24, 3) := by decide +kernel
theorem d1_107 : decode method_3_code 107 = .ok (.dup, 1) := by decide +kernel
theorem d1_108 : decode method_3_code 108 = .ok (.iconst 4, 1) := by decide +kernel
theorem d1_109 : decode method_3_code 109 = .ok (.newarray .char, 2) := by decide +kernel
theorem d1_111 : decode method_3_code 111 = .ok (.dup, 1) := by decide +kernel
theorem d1_112 : decode method_3_code 112 = .ok (.iconst 0, 1) := by decide +kernel
theorem d1_113 : decode method_3_code 113 = .ok (.aload_n 0, 1) := by decide +kernel
theorem d1_114 : decode method_3_code 114 = .ok (.iconst 0, 1) := by decide +kernel
theorem d1_115 : decode method_3_code 115 = .ok (.caload, 1) := by decide +kernel
theorem d1_116 : decode method_3_code 116 = .ok (.castore, 1) := by decide +kernel
theorem d1_117 : decode method_3_code 117 = .ok (.dup, 1) := by decide +kernel
theorem d1_118 : decode method_3_code 118 = .ok (.iconst 1, 1) := by decide +kernel
theorem d1_119 : decode method_3_code 119 = .ok (.aload_n 0, 1) := by decide +kernel
theorem d1_120 : decode method_3_code 120 = .ok (.iconst 1, 1) := by decide +kernel
theorem d1_121 : decode method_3_code 121 = .ok (.caload, 1) := by decide +kernel
theorem d1_122 : decode method_3_code 122 = .ok (.castore, 1) := by decide +kernel
theorem d1_123 : decode method_3_code 123 = .ok (.dup, 1) := by decide +kernel
theorem d1_124 : decode method_3_code 124 = .ok (.iconst 2, 1) := by decide +kernel
theorem d1_125 : decode method_3_code 125 = .ok (.aload_n 0, 1) := by decide +kernel
theorem d1_126 : decode method_3_code 126 = .ok (.iconst 2, 1) := by decide +kernel
theorem d1_127 : decode method_3_code 127 = .ok (.caload, 1) := by decide +kernel
theorem d1_128 : decode method_3_code 128 = .ok (.castore, 1) := by decide +kernel
theorem d1_129 : decode method_3_code 129 = .ok (.dup, 1) := by decide +kernel
theorem d1_130 : decode method_3_code 130 = .ok (.iconst 3, 1) := by decide +kernel
theorem d1_131 : decode method_3_code 131 = .ok (.aload_n 0, 1) := by decide +kernel
theorem d1_132 : decode method_3_code 132 = .ok (.iconst 3, 1) := by decide +kernel
theorem d1_133 : decode method_3_code 133 = .ok (.caload, 1) := by decide +kernel
theorem d1_134 : decode method_3_code 134 = .ok (.castore, 1) := by decide +kernel
theorem d1_135 : decode method_3_code 135 = .ok (.invokespecial 26, 3) := by decide +kernel
theorem d1_138 : decode method_3_code 138 = .ok (.areturn, 1) := by decide +kernel
theorem d1_139 : decode method_3_code 139 = .ok (.iload_n 1, 1) := by decide +kernel
theorem d1_140 : decode method_3_code 140 = .ok (.iconst 5, 1) := by decide +kernel
theorem d1_141 : decode method_3_code 141 = .ok (.if_icmp .ne 44, 3) := by decide +kernel
theorem d1_144 : decode method_3_code 144 = .ok (.new 24, 3) := by decide +kernel
theorem d1_147 : decode method_3_code 147 = .ok (.dup, 1) := by decide +kernel
theorem d1_148 : decode method_3_code 148 = .ok (.iconst 5, 1) := by decide +kernel
theorem d1_149 : decode method_3_code 149 = .ok (.newarray .char, 2) := by decide +kernel
theorem d1_151 : decode method_3_code 151 = .ok (.dup, 1) := by decide +kernel
theorem d1_152 : decode method_3_code 152 = .ok (.iconst 0, 1) := by decide +kernel
theorem d1_153 : decode method_3_code 153 = .ok (.aload_n 0, 1) := by decide +kernel
theorem d1_154 : decode method_3_code 154 = .ok (.iconst 0, 1) := by decide +kernel
theorem d1_155 : decode method_3_code 155 = .ok (.caload, 1) := by decide +kernel
theorem d1_156 : decode method_3_code 156 = .ok (.castore, 1) := by decide +kernel
theorem d1_157 : decode method_3_code 157 = .ok (.dup, 1) := by decide +kernel
theorem d1_158 : decode method_3_code 158 = .ok (.iconst 1, 1) := by decide +kernel
theorem d1_159 : decode method_3_code 159 = .ok (.aload_n 0, 1) := by decide +kernel
theorem d1_160 : decode method_3_code 160 = .ok (.iconst 1, 1) := by decide +kernel
theorem d1_161 : decode method_3_code 161 = .ok (.caload, 1) := by decide +kernel
theorem d1_162 : decode method_3_code 162 = .ok (.castore, 1) := by decide +kernel
theorem d1_163 : decode method_3_code 163 = .ok (.dup, 1) := by decide +kernel
theorem d1_164 : decode method_3_code 164 = .ok (.iconst 2, 1) := by decide +kernel
theorem d1_165 : decode method_3_code 165 = .ok (.aload_n 0, 1) := by decide +kernel
theorem d1_166 : decode method_3_code 166 = .ok (.iconst 2, 1) := by decide +kernel
theorem d1_167 : decode method_3_code 167 = .ok (.caload, 1) := by decide +kernel
theorem d1_168 : decode method_3_code 168 = .ok (.castore, 1) := by decide +kernel
theorem d1_169 : decode method_3_code 169 = .ok (.dup, 1) := by decide +kernel
theorem d1_170 : decode method_3_code 170 = .ok (.iconst 3, 1) := by decide +kernel
theorem d1_171 : decode method_3_code 171 = .ok (.aload_n 0, 1) := by decide +kernel
theorem d1_172 : decode method_3_code 172 = .ok (.iconst 3, 1) := by decide +kernel
theorem d1_173 : decode method_3_code 173 = .ok (.caload, 1) := by decide +kernel
theorem d1_174 : decode method_3_code 174 = .ok (.castore, 1) := by decide +kernel
theorem d1_175 : decode method_3_code 175 = .ok (.dup, 1) := by decide +kernel
theorem d1_176 : decode method_3_code 176 = .ok (.iconst 4, 1) := by decide +kernel
theorem d1_177 : decode method_3_code 177 = .ok (.aload_n 0, 1) := by decide +kernel
theorem d1_178 : decode method_3_code 178 = .ok (.iconst 4, 1) := by decide +kernel
theorem d1_179 : decode method_3_code 179 = .ok (.caload, 1) := by decide +kernel
theorem d1_180 : decode method_3_code 180 = .ok (.castore, 1) := by decide +kernel
theorem d1_181 : decode method_3_code 181 = .ok (.invokespecial 26, 3) := by decide +kernel
theorem d1_184 : decode method_3_code 184 = .ok (.areturn, 1) := by decide +kernel
theorem d1_185 : decode method_3_code 185 = .ok (.new 24, 3) := by decide +kernel
theorem d1_188 : decode method_3_code 188 = .ok (.dup, 1) := by decide +kernel
theorem d1_189 : decode method_3_code 189 = .ok (.bipush 6, 2) := by decide +kernel
theorem d1_191 : decode method_3_code 191 = .ok (.newarray .char, 2) := by decide +kernel
theorem d1_193 : decode method_3_code 193 = .ok (.dup, 1) := by decide +kernel
theorem d1_194 : decode method_3_code 194 = .ok (.iconst 0, 1) := by decide +kernel
theorem d1_195 : decode method_3_code 195 = .ok (.aload_n 0, 1) := by decide +kernel
theorem d1_196 : decode method_3_code 196 = .ok (.iconst 0, 1) := by decide +kernel
theorem d1_197 : decode method_3_code 197 = .ok (.caload, 1) := by decide +kernel
theorem d1_198 : decode method_3_code 198 = .ok (.castore, 1) := by decide +kernel
theorem d1_199 : decode method_3_code 199 = .ok (.dup, 1) := by decide +kernel
theorem d1_200 : decode method_3_code 200 = .ok (.iconst 1, 1) := by decide +kernel
theorem d1_201 : decode method_3_code 201 = .ok (.aload_n 0, 1) := by decide +kernel
theorem d1_202 : decode method_3_code 202 = .ok (.iconst 1, 1) := by decide +kernel
theorem d1_203 : decode method_3_code 203 = .ok (.caload, 1) := by decide +kernel
theorem d1_204 : decode method_3_code 204 = .ok (.castore, 1) := by decide +kernel
theorem d1_205 : decode method_3_code 205 = .ok (.dup, 1) := by decide +kernel
theorem d1_206 : decode method_3_code 206 = .ok (.iconst 2, 1) := by decide +kernel
theorem d1_207 : decode method_3_code 207 = .ok (.aload_n 0, 1) := by decide +kernel
theorem d1_208 : decode method_3_code 208 = .ok (.iconst 2, 1) := by decide +kernel
theorem d1_209 : decode method_3_code 209 = .ok (.caload, 1) := by decide +kernel
theorem d1_210 : decode method_3_code 210 = .ok (.castore, 1) := by decide +kernel
theorem d1_211 : decode method_3_code 211 = .ok (.dup, 1) := by decide +kernel
theorem d1_212 : decode method_3_code 212 = .ok (.iconst 3, 1) := by decide +kernel
theorem d1_213 : decode method_3_code 213 = .ok (.aload_n 0, 1) := by decide +kernel
theorem d1_214 : decode method_3_code 214 = .ok (.iconst 3, 1) := by decide +kernel
theorem d1_215 : decode method_3_code 215 = .ok (.caload, 1) := by decide +kernel
theorem d1_216 : decode method_3_code 216 = .ok (.castore, 1) := by decide +kernel
theorem d1_217 : decode method_3_code 217 = .ok (.dup, 1) := by decide +kernel
theorem d1_218 : decode method_3_code 218 = .ok (.iconst 4, 1) := by decide +kernel
theorem d1_219 : decode method_3_code 219 = .ok (.aload_n 0, 1) := by decide +kernel
theorem d1_220 : decode method_3_code 220 = .ok (.iconst 4, 1) := by decide +kernel
theorem d1_221 : decode method_3_code 221 = .ok (.caload, 1) := by decide +kernel
theorem d1_222 : decode method_3_code 222 = .ok (.castore, 1) := by decide +kernel
theorem d1_223 : decode method_3_code 223 = .ok (.dup, 1) := by decide +kernel
theorem d1_224 : decode method_3_code 224 = .ok (.iconst 5, 1) := by decide +kernel
theorem d1_225 : decode method_3_code 225 = .ok (.aload_n 0, 1) := by decide +kernel
theorem d1_226 : decode method_3_code 226 = .ok (.iconst 5, 1) := by decide +kernel
theorem d1_227 : decode method_3_code 227 = .ok (.caload, 1) := by decide +kernel
theorem d1_228 : decode method_3_code 228 = .ok (.castore, 1) := by decide +kernel
theorem d1_229 : decode method_3_code 229 = .ok (.invokespecial 26, 3) := by decide +kernel
theorem d1_232 : decode method_3_code 232 = .ok (.areturn, 1) := by decide +kernel
theorem d2_0 : decode jdk_42_method_3_code 0 = .ok (.aload_n 0, 1) := by decide +kernel
theorem d2_1 : decode jdk_42_method_3_code 1 = .ok (.aload_n 1, 1) := by decide +kernel
theorem d2_2 : decode jdk_42_method_3_code 2 = .ok (.iconst 0, 1) := by decide +kernel
theorem d2_3 : decode jdk_42_method_3_code 3 = .ok (.aload_n 1, 1) := by decide +kernel
theorem d2_4 : decode jdk_42_method_3_code 4 = .ok (.arraylength, 1) := by decide +kernel
theorem d2_5 : decode jdk_42_method_3_code 5 = .ok (.aconst_null, 1) := by decide +kernel
theorem d2_6 : decode jdk_42_method_3_code 6 = .ok (.invokespecial 27, 3) := by decide +kernel
theorem d2_9 : decode jdk_42_method_3_code 9 = .ok (.return_, 1) := by decide +kernel
theorem d3_0 : decode jdk_42_method_149_code 0 = .ok (.aload_n 0, 1) := by decide +kernel
theorem d3_1 : decode jdk_42_method_149_code 1 = .ok (.invokespecial 1, 3) := by decide +kernel
theorem d3_4 : decode jdk_42_method_149_code 4 = .ok (.iload_n 3, 1) := by decide +kernel
theorem d3_5 : decode jdk_42_method_149_code 5 = .ok (.ifCond .ne 22, 3) := by decide +kernel
theorem d3_8 : decode jdk_42_method_149_code 8 = .ok (.aload_n 0, 1) := by decide +kernel
theorem d3_9 : decode jdk_42_method_149_code 9 = .ok (.ldc 7, 2) := by decide +kernel
theorem d3_11 : decode jdk_42_method_149_code 11 = .ok (.getfield 9, 3) := by decide +kernel
theorem d3_14 : decode jdk_42_method_149_code 14 = .ok (.putfield 9, 3) := by decide +kernel
theorem d3_17 : decode jdk_42_method_149_code 17 = .ok (.aload_n 0, 1) := by decide +kernel
theorem d3_18 : decode jdk_42_method_149_code 18 = .ok (.ldc 7, 2) := by decide +kernel
theorem d3_20 : decode jdk_42_method_149_code 20 = .ok (.getfield 15, 3) := by decide +kernel
theorem d3_23 : decode jdk_42_method_149_code 23 = .ok (.putfield 15, 3) := by decide +kernel
theorem d3_26 : decode jdk_42_method_149_code 26 = .ok (.return_, 1) := by decide +kernel
theorem d3_27 : decode jdk_42_method_149_code 27 = .ok (.getstatic 38, 3) := by decide +kernel
theorem d3_30 : decode jdk_42_method_149_code 30 = .ok (.ifCond .eq 28, 3) := by decide +kernel
theorem d3_33 : decode jdk_42_method_149_code 33 = .ok (.aload_n 1, 1) := by decide +kernel
theorem d3_34 : decode jdk_42_method_149_code 34 = .ok (.iload_n 2, 1) := by decide +kernel
theorem d3_35 : decode jdk_42_method_149_code 35 = .ok (.iload_n 3, 1) := by decide +kernel
theorem d3_36 : decode jdk_42_method_149_code 36 = .ok (.invokestatic 177, 3) := by decide +kernel
theorem d3_39 : decode jdk_42_method_149_code 39 = .ok (.astore 5, 2) := by decide +kernel
theorem d3_41 : decode jdk_42_method_149_code 41 = .ok (.aload_n 0, 1) := by decide +kernel
theorem d3_42 : decode jdk_42_method_149_code 42 = .ok (.aload 5, 2) := by decide +kernel
theorem d3_44 : decode jdk_42_method_149_code 44 = .ok (.iload_n 3, 1) := by decide +kernel
theorem d3_45 : decode jdk_42_method_149_code 45 = .ok (.invokestatic 47, 3) := by decide +kernel
theorem d3_48 : decode jdk_42_method_149_code 48 = .ok (.putfield 15, 3) := by decide +kernel
theorem d3_51 : decode jdk_42_method_149_code 51 = .ok (.aload_n 0, 1) := by decide +kernel
theorem d3_52 : decode jdk_42_method_149_code 52 = .ok (.aload 5, 2) := by decide +kernel
theorem d3_54 : decode jdk_42_method_149_code 54 = .ok (.putfield 9, 3) := by decide +kernel
theorem d3_57 : decode jdk_42_method_149_code 57 = .ok (.return_, 1) := by decide +kernel
theorem d5_0 : decode prog_15_method_2_code 0 = .ok (.aload_n 0, 1) := by decide +kernel
theorem d5_1 : decode prog_15_method_2_code 1 = .ok (.ldc 7, 2) := by decide +kernel
theorem d5_3 : decode prog_15_method_2_code 3 = .ok (.invokestatic 9, 3) := by decide +kernel
theorem d5_6 : decode prog_15_method_2_code 6 = .ok (.pop, 1) := by decide +kernel
theorem d5_7 : decode prog_15_method_2_code 7 = .ok (.aload_n 0, 1) := by decide +kernel
theorem d5_8 : decode prog_15_method_2_code 8 = .ok (.invokeinterface 15 1, 5) := by decide +kernel
theorem d5_13 : decode prog_15_method_2_code 13 = .ok (.aload_n 0, 1) := by decide +kernel
theorem d5_14 : decode prog_15_method_2_code 14 = .ok (.dup, 1) := by decide +kernel
theorem d5_15 : decode prog_15_method_2_code 15 = .ok (.invokestatic 21, 3) := by decide +kernel
theorem d5_18 : decode prog_15_method_2_code 18 = .ok (.pop, 1) := by decide +kernel
theorem d5_19 : decode prog_15_method_2_code 19 = .ok (.invokedynamic 24, 5) := by decide +kernel
theorem d5_24 : decode prog_15_method_2_code 24 = .ok (.invokestatic 28, 3) := by decide +kernel
theorem d5_27 : decode prog_15_method_2_code 27 = .ok (.areturn, 1) := by decide +kernel
theorem d6_0 : decode jdk_31_method_11_code 0 = .ok (.aload_n 0, 1) := by decide +kernel
theorem d6_1 : decode jdk_31_method_11_code 1 = .ok (.ifnonnull 12, 3) := by decide +kernel
theorem d6_13 : decode jdk_31_method_11_code 13 = .ok (.aload_n 0, 1) := by decide +kernel
theorem d6_14 : decode jdk_31_method_11_code 14 = .ok (.areturn, 1) := by decide +kernel
theorem d7_0 : decode jdk_42_method_54_code 0 = .ok (.aload_n 0, 1) := by decide +kernel
theorem d7_1 : decode jdk_42_method_54_code 1 = .ok (.getfield 9, 3) := by decide +kernel
theorem d7_4 : decode jdk_42_method_54_code 4 = .ok (.arraylength, 1) := by decide +kernel
theorem d7_5 : decode jdk_42_method_54_code 5 = .ok (.aload_n 0, 1) := by decide +kernel
theorem d7_6 : decode jdk_42_method_54_code 6 = .ok (.invokevirtual 335, 3) := by decide +kernel
theorem d7_9 : decode jdk_42_method_54_code 9 = .ok (.ishr, 1) := by decide +kernel
theorem d7_10 : decode jdk_42_method_54_code 10 = .ok (.ireturn, 1) := by decide +kernel
theorem d8_0 : decode jdk_42_method_152_code 0 = .ok (.getstatic 38, 3) := by decide +kernel
theorem d8_3 : decode jdk_42_method_152_code 3 = .ok (.ifCond .eq 10, 3) := by decide +kernel
theorem d8_6 : decode jdk_42_method_152_code 6 = .ok (.aload_n 0, 1) := by decide +kernel
theorem d8_7 : decode jdk_42_method_152_code 7 = .ok (.getfield 15, 3) := by decide +kernel
theorem d8_10 : decode jdk_42_method_152_code 10 = .ok (.goto 4, 3) := by decide +kernel
theorem d8_14 : decode jdk_42_method_152_code 14 = .ok (.ireturn, 1) := by decide +kernel
theorem d9_0 : decode jdk_31_method_10_code 0 = .ok (.aload_n 0, 1) := by decide +kernel
theorem d9_1 : decode jdk_31_method_10_code 1 = .ok (.ifnonnull 11, 3) := by decide +kernel
theorem d9_12 : decode jdk_31_method_10_code 12 = .ok (.aload_n 0, 1) := by decide +kernel
theorem d9_13 : decode jdk_31_method_10_code 13 = .ok (.areturn, 1) := by decide +kernel
theorem d10_0 : decode prog_15_method_4_code 0 = .ok (.iload_n 0, 1) := by decide +kernel
theorem d10_1 : decode prog_15_method_4_code 1 = .ok (.newarray .int, 2) := by decide +kernel
theorem d10_3 : decode prog_15_method_4_code 3 = .ok (.astore_n 2, 1) := by decide +kernel
theorem d10_4 : decode prog_15_method_4_code 4 = .ok (.iconst 0, 1) := by decide +kernel
theorem d10_5 : decode prog_15_method_4_code 5 = .ok (.istore_n 3, 1) := by decide +kernel
theorem d10_6 : decode prog_15_method_4_code 6 = .ok (.iconst 1, 1) := by decide +kernel
theorem d10_7 : decode prog_15_method_4_code 7 = .ok (.istore 4, 2) := by decide +kernel
theorem d10_9 : decode prog_15_method_4_code 9 = .ok (.iload 4, 2) := by decide +kernel
theorem d10_11 : decode prog_15_method_4_code 11 = .ok (.iload_n 0, 1) := by decide +kernel
theorem d10_12 : decode prog_15_method_4_code 12 = .ok (.if_icmp .ge 64, 3) := by decide +kernel
theorem d10_15 : decode prog_15_method_4_code 15 = .ok (.aload_n 1, 1) := by decide +kernel
theorem d10_16 : decode prog_15_method_4_code 16 = .ok (.iload 4, 2) := by decide +kernel
theorem d10_18 : decode prog_15_method_4_code 18 = .ok (.invokeinterface 37 2, 5) := by decide +kernel
theorem d10_23 : decode prog_15_method_4_code 23 = .ok (.istore 5, 2) := by decide +kernel
theorem d10_25 : decode prog_15_method_4_code 25 = .ok (.iload_n 3, 1) := by decide +kernel
theorem d10_26 : decode prog_15_method_4_code 26 = .ok (.ifCond .le 24, 3) := by decide +kernel
theorem d10_29 : decode prog_15_method_4_code 29 = .ok (.aload_n 1, 1) := by decide +kernel
theorem d10_30 : decode prog_15_method_4_code 30 = .ok (.iload_n 3, 1) := by decide +kernel
theorem d10_31 : decode prog_15_method_4_code 31 = .ok (.invokeinterface 37 2, 5) := by decide +kernel
theorem d10_36 : decode prog_15_method_4_code 36 = .ok (.iload 5, 2) := by decide +kernel
theorem d10_38 : decode prog_15_method_4_code 38 = .ok (.if_icmp .eq 12, 3) := by decide +kernel
theorem d10_41 : decode prog_15_method_4_code 41 = .ok (.aload_n 2, 1) := by decide +kernel
theorem d10_42 : decode prog_15_method_4_code 42 = .ok (.iload_n 3, 1) := by decide +kernel
theorem d10_43 : decode prog_15_method_4_code 43 = .ok (.iconst 1, 1) := by decide +kernel
theorem d10_44 : decode prog_15_method_4_code 44 = .ok (.isub, 1) := by decide +kernel
theorem d10_45 : decode prog_15_method_4_code 45 = .ok (.iaload, 1) := by decide +kernel
theorem d10_46 : decode prog_15_method_4_code 46 = .ok (.istore_n 3, 1) := by decide +kernel
theorem d10_47 : decode prog_15_method_4_code 47 = .ok (.goto (-22), 3) := by decide +kernel
theorem d10_50 : decode prog_15_method_4_code 50 = .ok (.aload_n 1, 1) := by decide +kernel
theorem d10_51 : decode prog_15_method_4_code 51 = .ok (.iload_n 3, 1) := by decide +kernel
theorem d10_52 : decode prog_15_method_4_code 52 = .ok (.invokeinterface 37 2, 5) := by decide +kernel
theorem d10_57 : decode prog_15_method_4_code 57 = .ok (.iload 5, 2) := by decide +kernel
theorem d10_59 : decode prog_15_method_4_code 59 = .ok (.if_icmp .ne 6, 3) := by decide +kernel
theorem d10_62 : decode prog_15_method_4_code 62 = .ok (.iinc 3 1, 3) := by decide +kernel
theorem d10_65 : decode prog_15_method_4_code 65 = .ok (.aload_n 2, 1) := by decide +kernel
theorem d10_66 : decode prog_15_method_4_code 66 = .ok (.iload 4, 2) := by decide +kernel
theorem d10_68 : decode prog_15_method_4_code 68 = .ok (.iload_n 3, 1) := by decide +kernel
theorem d10_69 : decode prog_15_method_4_code 69 = .ok (.iastore, 1) := by decide +kernel
theorem d10_70 : decode prog_15_method_4_code 70 = .ok (.iinc 4 1, 3) := by decide +kernel
theorem d10_73 : decode prog_15_method_4_code 73 = .ok (.goto (-64), 3) := by decide +kernel
theorem d10_76 : decode prog_15_method_4_code 76 = .ok (.aload_n 2, 1) := by decide +kernel
theorem d10_77 : decode prog_15_method_4_code 77 = .ok (.areturn, 1) := by decide +kernel
theorem d11_0 : decode method_4_code 0 = .ok (.iload_n 3, 1) := by decide +kernel
theorem d11_1 : decode method_4_code 1 = .ok (.iload_n 2, 1) := by decide +kernel
theorem d11_2 : decode method_4_code 2 = .ok (.if_icmp .ge 14, 3) := by decide +kernel
theorem d11_5 : decode method_4_code 5 = .ok (.aload_n 0, 1) := by decide +kernel
theorem d11_6 : decode method_4_code 6 = .ok (.iload_n 3, 1) := by decide +kernel
theorem d11_7 : decode method_4_code 7 = .ok (.iaload, 1) := by decide +kernel
theorem d11_8 : decode method_4_code 8 = .ok (.aload_n 1, 1) := by decide +kernel
theorem d11_9 : decode method_4_code 9 = .ok (.iload_n 3, 1) := by decide +kernel
theorem d11_10 : decode method_4_code 10 = .ok (.invokestatic 29, 3) := by decide +kernel
theorem d11_13 : decode method_4_code 13 = .ok (.if_icmp .ne 7, 3) := by decide +kernel
theorem d11_16 : decode method_4_code 16 = .ok (.iconst 1, 1) := by decide +kernel
theorem d11_17 : decode method_4_code 17 = .ok (.goto 4, 3) := by decide +kernel
theorem d11_21 : decode method_4_code 21 = .ok (.ireturn, 1) := by decide +kernel
theorem d12_0 : decode jdk_52_method_16_code 0 = .ok (.iload_n 2, 1) := by decide +kernel
theorem d12_1 : decode jdk_52_method_16_code 1 = .ok (.newarray .byte, 2) := by decide +kernel
theorem d12_3 : decode jdk_52_method_16_code 3 = .ok (.astore_n 3, 1) := by decide +kernel
theorem d12_4 : decode jdk_52_method_16_code 4 = .ok (.aload_n 0, 1) := by decide +kernel
theorem d12_5 : decode jdk_52_method_16_code 5 = .ok (.iload_n 1, 1) := by decide +kernel
theorem d12_6 : decode jdk_52_method_16_code 6 = .ok (.aload_n 3, 1) := by decide +kernel
theorem d12_7 : decode jdk_52_method_16_code 7 = .ok (.iconst 0, 1) := by decide +kernel
theorem d12_8 : decode jdk_52_method_16_code 8 = .ok (.iload_n 2, 1) := by decide +kernel
theorem d12_9 : decode jdk_52_method_16_code 9 = .ok (.invokestatic 115, 3) := by decide +kernel
theorem d12_12 : decode jdk_52_method_16_code 12 = .ok (.istore 4, 2) := by decide +kernel
theorem d12_14 : decode jdk_52_method_16_code 14 = .ok (.iload 4, 2) := by decide +kernel
theorem d12_16 : decode jdk_52_method_16_code 16 = .ok (.iload_n 2, 1) := by decide +kernel
theorem d12_17 : decode jdk_52_method_16_code 17 = .ok (.if_icmp .eq 40, 3) := by decide +kernel
theorem d12_20 : decode jdk_52_method_16_code 20 = .ok (.aload_n 0, 1) := by decide +kernel
theorem d12_21 : decode jdk_52_method_16_code 21 = .ok (.iload_n 1, 1) := by decide +kernel
theorem d12_22 : decode jdk_52_method_16_code 22 = .ok (.iload_n 2, 1) := by decide +kernel
theorem d12_23 : decode jdk_52_method_16_code 23 = .ok (.invokestatic 119, 3) := by decide +kernel
theorem d12_26 : decode jdk_52_method_16_code 26 = .ok (.astore 5, 2) := by decide +kernel
theorem d12_28 : decode jdk_52_method_16_code 28 = .ok (.aload 5, 2) := by decide +kernel
theorem d12_30 : decode jdk_52_method_16_code 30 = .ok (.iload 4, 2) := by decide +kernel
theorem d12_32 : decode jdk_52_method_16_code 32 = .ok (.invokestatic 71, 3) := by decide +kernel
theorem d12_35 : decode jdk_52_method_16_code 35 = .ok (.sipush 255, 3) := by decide +kernel
theorem d12_38 : decode jdk_52_method_16_code 38 = .ok (.if_icmp .gt 16, 3) := by decide +kernel
theorem d12_54 : decode jdk_52_method_16_code 54 = .ok (.aload 5, 2) := by decide +kernel
theorem d12_56 : decode jdk_52_method_16_code 56 = .ok (.areturn, 1) := by decide +kernel
theorem d12_57 : decode jdk_52_method_16_code 57 = .ok (.aload_n 3, 1) := by decide +kernel
theorem d12_58 : decode jdk_52_method_16_code 58 = .ok (.areturn, 1) := by decide +kernel
theorem d13_0 : decode jdk_52_method_21_code 0 = .ok (.iconst 0, 1) := by decide +kernel
theorem d13_1 : decode jdk_52_method_21_code 1 = .ok (.istore 5, 2) := by decide +kernel
theorem d13_3 : decode jdk_52_method_21_code 3 = .ok (.iload 5, 2) := by decide +kernel
theorem d13_5 : decode jdk_52_method_21_code 5 = .ok (.iload 4, 2) := by decide +kernel
theorem d13_7 : decode jdk_52_method_21_code 7 = .ok (.if_icmp .ge 37, 3) := by decide +kernel
theorem d13_10 : decode jdk_52_method_21_code 10 = .ok (.aload_n 0, 1) := by decide +kernel
theorem d13_11 : decode jdk_52_method_21_code 11 = .ok (.iload_n 1, 1) := by decide +kernel
theorem d13_12 : decode jdk_52_method_21_code 12 = .ok (.caload, 1) := by decide +kernel
theorem d13_13 : decode jdk_52_method_21_code 13 = .ok (.istore 6, 2) := by decide +kernel
theorem d13_15 : decode jdk_52_method_21_code 15 = .ok (.iload 6, 2) := by decide +kernel
theorem d13_17 : decode jdk_52_method_21_code 17 = .ok (.sipush 255, 3) := by decide +kernel
theorem d13_20 : decode jdk_52_method_21_code 20 = .ok (.if_icmp .le 6, 3) := by decide +kernel
theorem d13_23 : decode jdk_52_method_21_code 23 = .ok (.iload 5, 2) := by decide +kernel
theorem d13_25 : decode jdk_52_method_21_code 25 = .ok (.ireturn, 1) := by decide +kernel
theorem d13_26 : decode jdk_52_method_21_code 26 = .ok (.aload_n 2, 1) := by decide +kernel
theorem d13_27 : decode jdk_52_method_21_code 27 = .ok (.iload_n 3, 1) := by decide +kernel
theorem d13_28 : decode jdk_52_method_21_code 28 = .ok (.iload 6, 2) := by decide +kernel
theorem d13_30 : decode jdk_52_method_21_code 30 = .ok (.i2b, 1) := by decide +kernel
theorem d13_31 : decode jdk_52_method_21_code 31 = .ok (.bastore, 1) := by decide +kernel
theorem d13_32 : decode jdk_52_method_21_code 32 = .ok (.iinc 1 1, 3) := by decide +kernel
theorem d13_35 : decode jdk_52_method_21_code 35 = .ok (.iinc 3 1, 3) := by decide +kernel
theorem d13_38 : decode jdk_52_method_21_code 38 = .ok (.iinc 5 1, 3) := by decide +kernel
theorem d13_41 : decode jdk_52_method_21_code 41 = .ok (.goto (-38), 3) := by decide +kernel
theorem d13_44 : decode jdk_52_method_21_code 44 = .ok (.iload 4, 2) := by decide +kernel
theorem d13_46 : decode jdk_52_method_21_code 46 = .ok (.ireturn, 1) := by decide +kernel
theorem d14_0 : decode jdk_52_method_15_code 0 = .ok (.iload_n 1, 1) := by decide +kernel
theorem d14_1 : decode jdk_52_method_15_code 1 = .ok (.aload_n 0, 1) := by decide +kernel
theorem d14_2 : decode jdk_52_method_15_code 2 = .ok (.arraylength, 1) := by decide +kernel
theorem d14_3 : decode jdk_52_method_15_code 3 = .ok (.isub, 1) := by decide +kernel
theorem d14_4 : decode jdk_52_method_15_code 4 = .ok (.bipush 31, 2) := by decide +kernel
theorem d14_6 : decode jdk_52_method_15_code 6 = .ok (.iushr, 1) := by decide +kernel
theorem d14_7 : decode jdk_52_method_15_code 7 = .ok (.i2b, 1) := by decide +kernel
theorem d14_8 : decode jdk_52_method_15_code 8 = .ok (.ireturn, 1) := by decide +kernel
theorem d15_0 : decode jdk_42_method_56_code 0 = .ok (.aload_n 0, 1) := by decide +kernel
theorem d15_1 : decode jdk_42_method_56_code 1 = .ok (.invokevirtual 492, 3) := by decide +kernel
theorem d15_4 : decode jdk_42_method_56_code 4 = .ok (.ifCond .eq 12, 3) := by decide +kernel
theorem d15_7 : decode jdk_42_method_56_code 7 = .ok (.aload_n 0, 1) := by decide +kernel
theorem d15_8 : decode jdk_42_method_56_code 8 = .ok (.getfield 9, 3) := by decide +kernel
theorem d15_11 : decode jdk_42_method_56_code 11 = .ok (.iload_n 1, 1) := by decide +kernel
theorem d15_12 : decode jdk_42_method_56_code 12 = .ok (.invokestatic 495, 3) := by decide +kernel
theorem d15_15 : decode jdk_42_method_56_code 15 = .ok (.ireturn, 1) := by decide +kernel
theorem d15_16 : decode jdk_42_method_56_code 16 = .ok (.aload_n 0, 1) := by decide +kernel
theorem d15_17 : decode jdk_42_method_56_code 17 = .ok (.getfield 9, 3) := by decide +kernel
theorem d15_20 : decode jdk_42_method_56_code 20 = .ok (.iload_n 1, 1) := by decide +kernel
theorem d15_21 : decode jdk_42_method_56_code 21 = .ok (.invokestatic 498, 3) := by decide +kernel
theorem d15_24 : decode jdk_42_method_56_code 24 = .ok (.ireturn, 1) := by decide +kernel
theorem d16_0 : decode jdk_42_method_154_code 0 = .ok (.getstatic 38, 3) := by decide +kernel
theorem d16_3 : decode jdk_42_method_154_code 3 = .ok (.ifCond .eq 14, 3) := by decide +kernel
theorem d16_6 : decode jdk_42_method_154_code 6 = .ok (.aload_n 0, 1) := by decide +kernel
theorem d16_7 : decode jdk_42_method_154_code 7 = .ok (.getfield 15, 3) := by decide +kernel
theorem d16_10 : decode jdk_42_method_154_code 10 = .ok (.ifCond .ne 7, 3) := by decide +kernel
theorem d16_13 : decode jdk_42_method_154_code 13 = .ok (.iconst 1, 1) := by decide +kernel
theorem d16_14 : decode jdk_42_method_154_code 14 = .ok (.goto 4, 3) := by decide +kernel
theorem d16_17 : decode jdk_42_method_154_code 17 = .ok (.iconst 0, 1) := by decide +kernel
theorem d16_18 : decode jdk_42_method_154_code 18 = .ok (.ireturn, 1) := by decide +kernel
theorem d17_0 : decode jdk_43_method_2_code 0 = .ok (.iload_n 1, 1) := by decide +kernel
theorem d17_1 : decode jdk_43_method_2_code 1 = .ok (.aload_n 0, 1) := by decide +kernel
theorem d17_2 : decode jdk_43_method_2_code 2 = .ok (.arraylength, 1) := by decide +kernel
theorem d17_3 : decode jdk_43_method_2_code 3 = .ok (.invokestatic 9, 3) := by decide +kernel
theorem d17_6 : decode jdk_43_method_2_code 6 = .ok (.aload_n 0, 1) := by decide +kernel
theorem d17_7 : decode jdk_43_method_2_code 7 = .ok (.iload_n 1, 1) := by decide +kernel
theorem d17_8 : decode jdk_43_method_2_code 8 = .ok (.baload, 1) := by decide +kernel
theorem d17_9 : decode jdk_43_method_2_code 9 = .ok (.sipush 255, 3) := by decide +kernel
theorem d17_12 : decode jdk_43_method_2_code 12 = .ok (.iand, 1) := by decide +kernel
theorem d17_13 : decode jdk_43_method_2_code 13 = .ok (.i2c, 1) := by decide +kernel
theorem d17_14 : decode jdk_43_method_2_code 14 = .ok (.ireturn, 1) := by decide +kernel
theorem d18_0 : decode jdk_42_method_155_code 0 = .ok (.iload_n 0, 1) := by decide +kernel
theorem d18_1 : decode jdk_42_method_155_code 1 = .ok (.iload_n 1, 1) := by decide +kernel
theorem d18_2 : decode jdk_42_method_155_code 2 = .ok (.getstatic 1053, 3) := by decide +kernel
theorem d18_5 : decode jdk_42_method_155_code 5 = .ok (.invokestatic 1059, 3) := by decide +kernel
theorem d18_8 : decode jdk_42_method_155_code 8 = .ok (.pop, 1) := by decide +kernel
theorem d18_9 : decode jdk_42_method_155_code 9 = .ok (.return_, 1) := by decide +kernel
theorem d19_0 : decode jdk_41_method_11_code 0 = .ok (.iload_n 0, 1) := by decide +kernel
theorem d19_1 : decode jdk_41_method_11_code 1 = .ok (.ifCond .lt 8, 3) := by decide +kernel
theorem d19_4 : decode jdk_41_method_11_code 4 = .ok (.iload_n 0, 1) := by decide +kernel
theorem d19_5 : decode jdk_41_method_11_code 5 = .ok (.iload_n 1, 1) := by decide +kernel
theorem d19_6 : decode jdk_41_method_11_code 6 = .ok (.if_icmp .lt 10, 3) := by decide +kernel
theorem d19_16 : decode jdk_41_method_11_code 16 = .ok (.iload_n 0, 1) := by decide +kernel
theorem d19_17 : decode jdk_41_method_11_code 17 = .ok (.ireturn, 1) := by decide +kernel
theorem d20_0 : decode method_6_code 0 = .ok (.iload_n 1, 1) := by decide +kernel
theorem d20_1 : decode method_6_code 1 = .ok (.iconst 5, 1) := by decide +kernel
theorem d20_2 : decode method_6_code 2 = .ok (.if_icmp .lt 14, 3) := by decide +kernel
theorem d20_5 : decode method_6_code 5 = .ok (.aload_n 0, 1) := by decide +kernel
theorem d20_6 : decode method_6_code 6 = .ok (.iload_n 1, 1) := by decide +kernel
theorem d20_7 : decode method_6_code 7 = .ok (.iconst 5, 1) := by decide +kernel
theorem d20_8 : decode method_6_code 8 = .ok (.invokestatic 33, 3) := by decide +kernel
theorem d20_11 : decode method_6_code 11 = .ok (.ifCond .eq 5, 3) := by decide +kernel
theorem d20_14 : decode method_6_code 14 = .ok (.iconst 5, 1) := by decide +kernel
theorem d20_15 : decode method_6_code 15 = .ok (.ireturn, 1) := by decide +kernel
theorem d20_16 : decode method_6_code 16 = .ok (.iload_n 1, 1) := by decide +kernel
theorem d20_17 : decode method_6_code 17 = .ok (.iconst 4, 1) := by decide +kernel
theorem d20_18 : decode method_6_code 18 = .ok (.if_icmp .lt 14, 3) := by decide +kernel
theorem d20_21 : decode method_6_code 21 = .ok (.aload_n 0, 1) := by decide +kernel
theorem d20_22 : decode method_6_code 22 = .ok (.iload_n 1, 1) := by decide +kernel
theorem d20_23 : decode method_6_code 23 = .ok (.iconst 4, 1) := by decide +kernel
theorem d20_24 : decode method_6_code 24 = .ok (.invokestatic 33, 3) := by decide +kernel
theorem d20_27 : decode method_6_code 27 = .ok (.ifCond .eq 5, 3) := by decide +kernel
theorem d20_30 : decode method_6_code 30 = .ok (.iconst 4, 1) := by decide +kernel
theorem d20_31 : decode method_6_code 31 = .ok (.ireturn, 1) := by decide +kernel
theorem d20_32 : decode method_6_code 32 = .ok (.iload_n 1, 1) := by decide +kernel
theorem d20_33 : decode method_6_code 33 = .ok (.iconst 3, 1) := by decide +kernel
theorem d20_34 : decode method_6_code 34 = .ok (.if_icmp .lt 14, 3) := by decide +kernel
theorem d20_37 : decode method_6_code 37 = .ok (.aload_n 0, 1) := by decide +kernel
theorem d20_38 : decode method_6_code 38 = .ok (.iload_n 1, 1) := by decide +kernel
theorem d20_39 : decode method_6_code 39 = .ok (.iconst 3, 1) := by decide +kernel
theorem d20_40 : decode method_6_code 40 = .ok (.invokestatic 33, 3) := by decide +kernel
theorem d20_43 : decode method_6_code 43 = .ok (.ifCond .eq 5, 3) := by decide +kernel
theorem d20_46 : decode method_6_code 46 = .ok (.iconst 3, 1) := by decide +kernel
theorem d20_47 : decode method_6_code 47 = .ok (.ireturn, 1) := by decide +kernel
theorem d20_48 : decode method_6_code 48 = .ok (.iload_n 1, 1) := by decide +kernel
theorem d20_49 : decode method_6_code 49 = .ok (.iconst 2, 1) := by decide +kernel
theorem d20_50 : decode method_6_code 50 = .ok (.if_icmp .lt 14, 3) := by decide +kernel
theorem d20_53 : decode method_6_code 53 = .ok (.aload_n 0, 1) := by decide +kernel
theorem d20_54 : decode method_6_code 54 = .ok (.iload_n 1, 1) := by decide +kernel
theorem d20_55 : decode method_6_code 55 = .ok (.iconst 2, 1) := by decide +kernel
theorem d20_56 : decode method_6_code 56 = .ok (.invokestatic 33, 3) := by decide +kernel
theorem d20_59 : decode method_6_code 59 = .ok (.ifCond .eq 5, 3) := by decide +kernel
theorem d20_62 : decode method_6_code 62 = .ok (.iconst 2, 1) := by decide +kernel
theorem d20_63 : decode method_6_code 63 = .ok (.ireturn, 1) := by decide +kernel
theorem d20_64 : decode method_6_code 64 = .ok (.iload_n 1, 1) := by decide +kernel
theorem d20_65 : decode method_6_code 65 = .ok (.iconst 1, 1) := by decide +kernel
theorem d20_66 : decode method_6_code 66 = .ok (.if_icmp .lt 14, 3) := by decide +kernel
theorem d20_69 : decode method_6_code 69 = .ok (.aload_n 0, 1) := by decide +kernel
theorem d20_70 : decode method_6_code 70 = .ok (.iload_n 1, 1) := by decide +kernel
theorem d20_71 : decode method_6_code 71 = .ok (.iconst 1, 1) := by decide +kernel
theorem d20_72 : decode method_6_code 72 = .ok (.invokestatic 33, 3) := by decide +kernel
theorem d20_75 : decode method_6_code 75 = .ok (.ifCond .eq 5, 3) := by decide +kernel
theorem d20_78 : decode method_6_code 78 = .ok (.iconst 1, 1) := by decide +kernel
theorem d20_79 : decode method_6_code 79 = .ok (.ireturn, 1) := by decide +kernel
theorem d20_80 : decode method_6_code 80 = .ok (.iconst 0, 1) := by decide +kernel
theorem d20_81 : decode method_6_code 81 = .ok (.ireturn, 1) := by decide +kernel
theorem d21_0 : decode method_5_code 0 = .ok (.iload_n 2, 1) := by decide +kernel
theorem d21_1 : decode method_5_code 1 = .ok (.iconst 1, 1) := by decide +kernel
theorem d21_2 : decode method_5_code 2 = .ok (.if_icmp .lt 16, 3) := by decide +kernel
theorem d21_5 : decode method_5_code 5 = .ok (.aload_n 0, 1) := by decide +kernel
theorem d21_6 : decode method_5_code 6 = .ok (.iconst 0, 1) := by decide +kernel
theorem d21_7 : decode method_5_code 7 = .ok (.caload, 1) := by decide +kernel
theorem d21_8 : decode method_5_code 8 = .ok (.aload_n 0, 1) := by decide +kernel
theorem d21_9 : decode method_5_code 9 = .ok (.iload_n 1, 1) := by decide +kernel
theorem d21_10 : decode method_5_code 10 = .ok (.iload_n 2, 1) := by decide +kernel
theorem d21_11 : decode method_5_code 11 = .ok (.isub, 1) := by decide +kernel
theorem d21_12 : decode method_5_code 12 = .ok (.iconst 1, 1) := by decide +kernel
theorem d21_13 : decode method_5_code 13 = .ok (.iadd, 1) := by decide +kernel
theorem d21_14 : decode method_5_code 14 = .ok (.caload, 1) := by decide +kernel
theorem d21_15 : decode method_5_code 15 = .ok (.if_icmp .ne 79, 3) := by decide +kernel
theorem d21_18 : decode method_5_code 18 = .ok (.iload_n 2, 1) := by decide +kernel
theorem d21_19 : decode method_5_code 19 = .ok (.iconst 2, 1) := by decide +kernel
theorem d21_20 : decode method_5_code 20 = .ok (.if_icmp .lt 16, 3) := by decide +kernel
theorem d21_23 : decode method_5_code 23 = .ok (.aload_n 0, 1) := by decide +kernel
theorem d21_24 : decode method_5_code 24 = .ok (.iconst 1, 1) := by decide +kernel
theorem d21_25 : decode method_5_code 25 = .ok (.caload, 1) := by decide +kernel
theorem d21_26 : decode method_5_code 26 = .ok (.aload_n 0, 1) := by decide +kernel
theorem d21_27 : decode method_5_code 27 = .ok (.iload_n 1, 1) := by decide +kernel
theorem d21_28 : decode method_5_code 28 = .ok (.iload_n 2, 1) := by decide +kernel
theorem d21_29 : decode method_5_code 29 = .ok (.isub, 1) := by decide +kernel
theorem d21_30 : decode method_5_code 30 = .ok (.iconst 2, 1) := by decide +kernel
theorem d21_31 : decode method_5_code 31 = .ok (.iadd, 1) := by decide +kernel
theorem d21_32 : decode method_5_code 32 = .ok (.caload, 1) := by decide +kernel
theorem d21_33 : decode method_5_code 33 = .ok (.if_icmp .ne 61, 3) := by decide +kernel
theorem d21_36 : decode method_5_code 36 = .ok (.iload_n 2, 1) := by decide +kernel
theorem d21_37 : decode method_5_code 37 = .ok (.iconst 3, 1) := by decide +kernel
theorem d21_38 : decode method_5_code 38 = .ok (.if_icmp .lt 16, 3) := by decide +kernel
theorem d21_41 : decode method_5_code 41 = .ok (.aload_n 0, 1) := by decide +kernel
theorem d21_42 : decode method_5_code 42 = .ok (.iconst 2, 1) := by decide +kernel
theorem d21_43 : decode method_5_code 43 = .ok (.caload, 1) := by decide +kernel
theorem d21_44 : decode method_5_code 44 = .ok (.aload_n 0, 1) := by decide +kernel
theorem d21_45 : decode method_5_code 45 = .ok (.iload_n 1, 1) := by decide +kernel
theorem d21_46 : decode method_5_code 46 = .ok (.iload_n 2, 1) := by decide +kernel
theorem d21_47 : decode method_5_code 47 = .ok (.isub, 1) := by decide +kernel
theorem d21_48 : decode method_5_code 48 = .ok (.iconst 3, 1) := by decide +kernel
theorem d21_49 : decode method_5_code 49 = .ok (.iadd, 1) := by decide +kernel
theorem d21_50 : decode method_5_code 50 = .ok (.caload, 1) := by decide +kernel
theorem d21_51 : decode method_5_code 51 = .ok (.if_icmp .ne 43, 3) := by decide +kernel
theorem d21_54 : decode method_5_code 54 = .ok (.iload_n 2, 1) := by decide +kernel
theorem d21_55 : decode method_5_code 55 = .ok (.iconst 4, 1) := by decide +kernel
theorem d21_56 : decode method_5_code 56 = .ok (.if_icmp .lt 16, 3) := by decide +kernel
theorem d21_59 : decode method_5_code 59 = .ok (.aload_n 0, 1) := by decide +kernel
theorem d21_60 : decode method_5_code 60 = .ok (.iconst 3, 1) := by decide +kernel
theorem d21_61 : decode method_5_code 61 = .ok (.caload, 1) := by decide +kernel
theorem d21_62 : decode method_5_code 62 = .ok (.aload_n 0, 1) := by decide +kernel
theorem d21_63 : decode method_5_code 63 = .ok (.iload_n 1, 1) := by decide +kernel
theorem d21_64 : decode method_5_code 64 = .ok (.iload_n 2, 1) := by decide +kernel
theorem d21_65 : decode method_5_code 65 = .ok (.isub, 1) := by decide +kernel
theorem d21_66 : decode method_5_code 66 = .ok (.iconst 4, 1) := by decide +kernel
theorem d21_67 : decode method_5_code 67 = .ok (.iadd, 1) := by decide +kernel
theorem d21_68 : decode method_5_code 68 = .ok (.caload, 1) := by decide +kernel
theorem d21_69 : decode method_5_code 69 = .ok (.if_icmp .ne 25, 3) := by decide +kernel
theorem d21_72 : decode method_5_code 72 = .ok (.iload_n 2, 1) := by decide +kernel
theorem d21_73 : decode method_5_code 73 = .ok (.iconst 5, 1) := by decide +kernel
theorem d21_74 : decode method_5_code 74 = .ok (.if_icmp .lt 16, 3) := by decide +kernel
theorem d21_77 : decode method_5_code 77 = .ok (.aload_n 0, 1) := by decide +kernel
theorem d21_78 : decode method_5_code 78 = .ok (.iconst 4, 1) := by decide +kernel
theorem d21_79 : decode method_5_code 79 = .ok (.caload, 1) := by decide +kernel
theorem d21_80 : decode method_5_code 80 = .ok (.aload_n 0, 1) := by decide +kernel
theorem d21_81 : decode method_5_code 81 = .ok (.iload_n 1, 1) := by decide +kernel
theorem d21_82 : decode method_5_code 82 = .ok (.iload_n 2, 1) := by decide +kernel
theorem d21_83 : decode method_5_code 83 = .ok (.isub, 1) := by decide +kernel
theorem d21_84 : decode method_5_code 84 = .ok (.iconst 5, 1) := by decide +kernel
theorem d21_85 : decode method_5_code 85 = .ok (.iadd, 1) := by decide +kernel
theorem d21_86 : decode method_5_code 86 = .ok (.caload, 1) := by decide +kernel
theorem d21_87 : decode method_5_code 87 = .ok (.if_icmp .ne 7, 3) := by decide +kernel
theorem d21_90 : decode method_5_code 90 = .ok (.iconst 1, 1) := by decide +kernel
theorem d21_91 : decode method_5_code 91 = .ok (.goto 4, 3) := by decide +kernel
theorem d21_94 : decode method_5_code 94 = .ok (.iconst 0, 1) := by decide +kernel
theorem d21_95 : decode method_5_code 95 = .ok (.ireturn, 1) := by decide +kernel
theorem d22_0 : decode jdk_52_method_14_code 0 = .ok (.iload_n 2, 1) := by decide +kernel
theorem d22_1 : decode jdk_52_method_14_code 1 = .ok (.invokestatic 107, 3) := by decide +kernel
theorem d22_4 : decode jdk_52_method_14_code 4 = .ok (.astore_n 3, 1) := by decide +kernel
theorem d22_5 : decode jdk_52_method_14_code 5 = .ok (.iconst 0, 1) := by decide +kernel
theorem d22_6 : decode jdk_52_method_14_code 6 = .ok (.istore 4, 2) := by decide +kernel
theorem d22_8 : decode jdk_52_method_14_code 8 = .ok (.iload 4, 2) := by decide +kernel
theorem d22_10 : decode jdk_52_method_14_code 10 = .ok (.iload_n 2, 1) := by decide +kernel
theorem d22_11 : decode jdk_52_method_14_code 11 = .ok (.if_icmp .ge 21, 3) := by decide +kernel
theorem d22_14 : decode jdk_52_method_14_code 14 = .ok (.aload_n 3, 1) := by decide +kernel
theorem d22_15 : decode jdk_52_method_14_code 15 = .ok (.iload 4, 2) := by decide +kernel
theorem d22_17 : decode jdk_52_method_14_code 17 = .ok (.aload_n 0, 1) := by decide +kernel
theorem d22_18 : decode jdk_52_method_14_code 18 = .ok (.iload_n 1, 1) := by decide +kernel
theorem d22_19 : decode jdk_52_method_14_code 19 = .ok (.caload, 1) := by decide +kernel
theorem d22_20 : decode jdk_52_method_14_code 20 = .ok (.invokestatic 111, 3) := by decide +kernel
theorem d22_23 : decode jdk_52_method_14_code 23 = .ok (.iinc 1 1, 3) := by decide +kernel
theorem d22_26 : decode jdk_52_method_14_code 26 = .ok (.iinc 4 1, 3) := by decide +kernel
theorem d22_29 : decode jdk_52_method_14_code 29 = .ok (.goto (-21), 3) := by decide +kernel
theorem d22_32 : decode jdk_52_method_14_code 32 = .ok (.aload_n 3, 1) := by decide +kernel
theorem d22_33 : decode jdk_52_method_14_code 33 = .ok (.areturn, 1) := by decide +kernel
theorem d23_0 : decode jdk_52_method_2_code 0 = .ok (.iload_n 0, 1) := by decide +kernel
theorem d23_1 : decode jdk_52_method_2_code 1 = .ok (.invokestatic 11, 3) := by decide +kernel
theorem d23_4 : decode jdk_52_method_2_code 4 = .ok (.newarray .byte, 2) := by decide +kernel
theorem d23_6 : decode jdk_52_method_2_code 6 = .ok (.areturn, 1) := by decide +kernel
theorem d24_0 : decode jdk_52_method_3_code 0 = .ok (.iload_n 0, 1) := by decide +kernel
theorem d24_1 : decode jdk_52_method_3_code 1 = .ok (.ifCond .ge 11, 3) := by decide +kernel
theorem d24_12 : decode jdk_52_method_3_code 12 = .ok (.iload_n 0, 1) := by decide +kernel
theorem d24_13 : decode jdk_52_method_3_code 13 = .ok (.ldc 20, 2) := by decide +kernel
theorem d24_15 : decode jdk_52_method_3_code 15 = .ok (.if_icmp .lt 40, 3) := by decide +kernel
theorem d24_55 : decode jdk_52_method_3_code 55 = .ok (.iload_n 0, 1) := by decide +kernel
theorem d24_56 : decode jdk_52_method_3_code 56 = .ok (.iconst 1, 1) := by decide +kernel
theorem d24_57 : decode jdk_52_method_3_code 57 = .ok (.ishl, 1) := by decide +kernel
theorem d24_58 : decode jdk_52_method_3_code 58 = .ok (.ireturn, 1) := by decide +kernel
theorem d25_0 : decode jdk_52_method_4_code 0 = .ok (.getstatic 44, 3) := by decide +kernel
theorem d25_3 : decode jdk_52_method_4_code 3 = .ok (.ifCond .ne 25, 3) := by decide +kernel
theorem d25_28 : decode jdk_52_method_4_code 28 = .ok (.iload_n 1, 1) := by decide +kernel
theorem d25_29 : decode jdk_52_method_4_code 29 = .ok (.iconst 1, 1) := by decide +kernel
theorem d25_30 : decode jdk_52_method_4_code 30 = .ok (.ishl, 1) := by decide +kernel
theorem d25_31 : decode jdk_52_method_4_code 31 = .ok (.istore_n 1, 1) := by decide +kernel
theorem d25_32 : decode jdk_52_method_4_code 32 = .ok (.aload_n 0, 1) := by decide +kernel
theorem d25_33 : decode jdk_52_method_4_code 33 = .ok (.iload_n 1, 1) := by decide +kernel
theorem d25_34 : decode jdk_52_method_4_code 34 = .ok (.iinc 1 1, 3) := by decide +kernel
theorem d25_37 : decode jdk_52_method_4_code 37 = .ok (.iload_n 2, 1) := by decide +kernel
theorem d25_38 : decode jdk_52_method_4_code 38 = .ok (.getstatic 59, 3) := by decide +kernel
theorem d25_41 : decode jdk_52_method_4_code 41 = .ok (.ishr, 1) := by decide +kernel
theorem d25_42 : decode jdk_52_method_4_code 42 = .ok (.i2b, 1) := by decide +kernel
theorem d25_43 : decode jdk_52_method_4_code 43 = .ok (.bastore, 1) := by decide +kernel
theorem d25_44 : decode jdk_52_method_4_code 44 = .ok (.aload_n 0, 1) := by decide +kernel
theorem d25_45 : decode jdk_52_method_4_code 45 = .ok (.iload_n 1, 1) := by decide +kernel
theorem d25_46 : decode jdk_52_method_4_code 46 = .ok (.iload_n 2, 1) := by decide +kernel
theorem d25_47 : decode jdk_52_method_4_code 47 = .ok (.getstatic 63, 3) := by decide +kernel
theorem d25_50 : decode jdk_52_method_4_code 50 = .ok (.ishr, 1) := by decide +kernel
theorem d25_51 : decode jdk_52_method_4_code 51 = .ok (.i2b, 1) := by decide +kernel
theorem d25_52 : decode jdk_52_method_4_code 52 = .ok (.bastore, 1) := by decide +kernel
theorem d25_53 : decode jdk_52_method_4_code 53 = .ok (.return_, 1) := by decide +kernel
theorem d26_0 : decode jdk_52_method_5_code 0 = .ok (.getstatic 44, 3) := by decide +kernel
theorem d26_3 : decode jdk_52_method_5_code 3 = .ok (.ifCond .ne 25, 3) := by decide +kernel
theorem d26_28 : decode jdk_52_method_5_code 28 = .ok (.iload_n 1, 1) := by decide +kernel
theorem d26_29 : decode jdk_52_method_5_code 29 = .ok (.iconst 1, 1) := by decide +kernel
theorem d26_30 : decode jdk_52_method_5_code 30 = .ok (.ishl, 1) := by decide +kernel
theorem d26_31 : decode jdk_52_method_5_code 31 = .ok (.istore_n 1, 1) := by decide +kernel
theorem d26_32 : decode jdk_52_method_5_code 32 = .ok (.aload_n 0, 1) := by decide +kernel
theorem d26_33 : decode jdk_52_method_5_code 33 = .ok (.iload_n 1, 1) := by decide +kernel
theorem d26_34 : decode jdk_52_method_5_code 34 = .ok (.iinc 1 1, 3) := by decide +kernel
theorem d26_37 : decode jdk_52_method_5_code 37 = .ok (.baload, 1) := by decide +kernel
theorem d26_38 : decode jdk_52_method_5_code 38 = .ok (.sipush 255, 3) := by decide +kernel
theorem d26_41 : decode jdk_52_method_5_code 41 = .ok (.iand, 1) := by decide +kernel
theorem d26_42 : decode jdk_52_method_5_code 42 = .ok (.getstatic 59, 3) := by decide +kernel
theorem d26_45 : decode jdk_52_method_5_code 45 = .ok (.ishl, 1) := by decide +kernel
theorem d26_46 : decode jdk_52_method_5_code 46 = .ok (.aload_n 0, 1) := by decide +kernel
theorem d26_47 : decode jdk_52_method_5_code 47 = .ok (.iload_n 1, 1) := by decide +kernel
theorem d26_48 : decode jdk_52_method_5_code 48 = .ok (.baload, 1) := by decide +kernel
theorem d26_49 : decode jdk_52_method_5_code 49 = .ok (.sipush 255, 3) := by decide +kernel
theorem d26_52 : decode jdk_52_method_5_code 52 = .ok (.iand, 1) := by decide +kernel
theorem d26_53 : decode jdk_52_method_5_code 53 = .ok (.getstatic 63, 3) := by decide +kernel
theorem d26_56 : decode jdk_52_method_5_code 56 = .ok (.ishl, 1) := by decide +kernel
theorem d26_57 : decode jdk_52_method_5_code 57 = .ok (.ior, 1) := by decide +kernel
theorem d26_58 : decode jdk_52_method_5_code 58 = .ok (.i2c, 1) := by decide +kernel
theorem d26_59 : decode jdk_52_method_5_code 59 = .ok (.ireturn, 1) := by decide +kernel
theorem d27_0 : decode jdk_52_method_83_code 0 = .ok (.iload_n 1, 1) := by decide +kernel
theorem d27_1 : decode jdk_52_method_83_code 1 = .ok (.aload_n 0, 1) := by decide +kernel
theorem d27_2 : decode jdk_52_method_83_code 2 = .ok (.invokestatic 67, 3) := by decide +kernel
theorem d27_5 : decode jdk_52_method_83_code 5 = .ok (.aload_n 0, 1) := by decide +kernel
theorem d27_6 : decode jdk_52_method_83_code 6 = .ok (.iload_n 1, 1) := by decide +kernel
theorem d27_7 : decode jdk_52_method_83_code 7 = .ok (.invokestatic 71, 3) := by decide +kernel
theorem d27_10 : decode jdk_52_method_83_code 10 = .ok (.ireturn, 1) := by decide +kernel
theorem d28_0 : decode jdk_52_method_91_code 0 = .ok (.iload_n 0, 1) := by decide +kernel
theorem d28_1 : decode jdk_52_method_91_code 1 = .ok (.aload_n 1, 1) := by decide +kernel
theorem d28_2 : decode jdk_52_method_91_code 2 = .ok (.invokestatic 48, 3) := by decide +kernel
theorem d28_5 : decode jdk_52_method_91_code 5 = .ok (.invokestatic 414, 3) := by decide +kernel
theorem d28_8 : decode jdk_52_method_91_code 8 = .ok (.return_, 1) := by decide +kernel
theorem d29_0 : decode jdk_52_method_6_code 0 = .ok (.aload_n 0, 1) := by decide +kernel
theorem d29_1 : decode jdk_52_method_6_code 1 = .ok (.arraylength, 1) := by decide +kernel
theorem d29_2 : decode jdk_52_method_6_code 2 = .ok (.iconst 1, 1) := by decide +kernel
theorem d29_3 : decode jdk_52_method_6_code 3 = .ok (.ishr, 1) := by decide +kernel
theorem d29_4 : decode jdk_52_method_6_code 4 = .ok (.ireturn, 1) := by decide +kernel
theorem own_sat {Z : State} {a0 : Array Value} (hw : ∀ d ∈ tables_1, d.before a0 Z = true) : ∀ a ∈ Bundle.stringAtoms, a.before a0 Z = true := by
  intro a ha
  simp only [Bundle.stringAtoms, List.mem_cons, List.not_mem_nil, or_false] at ha
  rcases ha with rfl | rfl | rfl | rfl | rfl | rfl | rfl
  · exact (hw _ (List.mem_of_getElem? (i := 8) rfl))
  · exact (hw _ (List.mem_of_getElem? (i := 7) rfl))
  · exact (hw _ (List.mem_of_getElem? (i := 20) rfl))
  · exact (hw _ (List.mem_of_getElem? (i := 21) rfl))
  · exact (hw _ (List.mem_of_getElem? (i := 22) rfl))
  · exact (hw _ (List.mem_of_getElem? (i := 23) rfl))
  · exact (hw _ (List.mem_of_getElem? (i := 24) rfl))
def own_EL : List (String × Nat) := [("java/lang/String", 7)]
theorem own_EW {Z : State} {a0 : Array Value} (hw : ∀ d ∈ tables_1, d.before a0 Z = true) : EW Z a0 own_EL := EW.cons (hw _ (List.mem_of_getElem? (i := 19) rfl)) (by decide) EW.nil
theorem efrmCo0 (m : MethodId) (x0 : Addr) : entryFrame m #[(.ref x0)] 1 = mkF m 0 #[.val (.ref x0)] [] := by first | (simp [entryFrame, mkF, argsToLocals, Value.category]; done) | rfl
set_option maxRecDepth 65536 in
set_option maxHeartbeats 40000000 in
theorem rmCo0 (l : Launch) (Z : State) (a0 : Array Value) (hw : ∀ d ∈ tables_1, d.before a0 Z = true) (oa : Addr) (h0 : Heap) (Sc : Fld Z h0 oa "java/lang/String" "coder" "B" (.int (0 : Int32))) (cs : Int32) (hcs : ¬ cs = (0 : Int32)) (S0 : Sta Z h0 "java/lang/String" "COMPACT_STRINGS" "Z" (.int cs)) :
    Con l (⟨"java/lang/String", "coder", "()B"⟩ : MethodName) jdk_42_method_152_code 1 (some .byte) [] ({ frames := 0, cells := 0, slots := 0, locals := 0 } : Room) #[(.ref oa)] Z h0 (fun v h L => v = some (.int (0 : Int32)) ∧ h = h0 ∧ L = []) := by
  refine Con.of (plainFor_of_name pn_0) ?_
  intro p e s m below meth c s₁ hx hZ hby hml hown hnm hret hlk X0 e0
  refine Ends.cast (efrmCo0 m oa) ?_
  show Ends none p e below s _ _ _ s₁ (mkF m 0 #[.val (.ref oa)] [])
  have O0 := Ok.refl h0 []
  refine Ends.getS X0 hx hZ hown (host := "") (Or.inl (hw _ (List.mem_of_getElem? (i := 50) rfl))) Via.refl e0 (own_sta_keep S0 O0.1 own_ns0) (hb hby d8_0) ?_
  intro T1 X1 e1
  refine E.ifN (q := 6) X1 hx (hb hby d8_3) (XT.i0_eq_f hcs) ?_
  refine E.aloadN (q := 7) X1 hx (hb hby d8_6) rfl rfl ?_
  refine Ends.getF X1 hx hZ hown (host := "") (Or.inl (hw _ (List.mem_of_getElem? (i := 26) rfl))) Via.refl e1 Sc (hb hby d8_7) ?_
  intro T2 X2 e2
  refine E.goto (q := 14) X2 hx (hb hby d8_10) ?_
  exact Ends.retS X2 hx hlk hret (by simp) rfl (hb hby d8_14) (by decide) (by decide) ⟨rfl, e2, rfl⟩
theorem efrmIs0 (m : MethodId) (x0 : Addr) : entryFrame m #[(.ref x0)] 1 = mkF m 0 #[.val (.ref x0)] [] := by first | (simp [entryFrame, mkF, argsToLocals, Value.category]; done) | rfl
set_option maxRecDepth 65536 in
set_option maxHeartbeats 40000000 in
theorem rmIs0 (l : Launch) (Z : State) (a0 : Array Value) (hw : ∀ d ∈ tables_1, d.before a0 Z = true) (oa : Addr) (h0 : Heap) (Sc : Fld Z h0 oa "java/lang/String" "coder" "B" (.int (0 : Int32))) (cs : Int32) (hcs : ¬ cs = (0 : Int32)) (S0 : Sta Z h0 "java/lang/String" "COMPACT_STRINGS" "Z" (.int cs)) :
    Con l (⟨"java/lang/String", "isLatin1", "()Z"⟩ : MethodName) jdk_42_method_154_code 1 (some .boolean) [] ({ frames := 0, cells := 0, slots := 0, locals := 0 } : Room) #[(.ref oa)] Z h0 (fun v h L => v = some (.int (1 : Int32)) ∧ h = h0 ∧ L = []) := by
  refine Con.of (plainFor_of_name pn_0) ?_
  intro p e s m below meth c s₁ hx hZ hby hml hown hnm hret hlk X0 e0
  refine Ends.cast (efrmIs0 m oa) ?_
  show Ends none p e below s _ _ _ s₁ (mkF m 0 #[.val (.ref oa)] [])
  have O0 := Ok.refl h0 []
  refine Ends.getS X0 hx hZ hown (host := "") (Or.inl (hw _ (List.mem_of_getElem? (i := 50) rfl))) Via.refl e0 (own_sta_keep S0 O0.1 own_ns0) (hb hby d16_0) ?_
  intro T3 X3 e3
  refine E.ifN (q := 6) X3 hx (hb hby d16_3) (XT.i0_eq_f hcs) ?_
  refine E.aloadN (q := 7) X3 hx (hb hby d16_6) rfl rfl ?_
  refine Ends.getF X3 hx hZ hown (host := "") (Or.inl (hw _ (List.mem_of_getElem? (i := 26) rfl))) Via.refl e3 Sc (hb hby d16_7) ?_
  intro T4 X4 e4
  refine E.ifN (q := 13) X4 hx (hb hby d16_10) (XT.i0_ne_f (by decide)) ?_
  refine E.iconst (q := 14) (v := (1 : Int32)) X4 hx (hb hby d16_13) rfl ?_
  refine E.goto (q := 18) X4 hx (hb hby d16_14) ?_
  exact Ends.retS X4 hx hlk hret (by simp) rfl (hb hby d16_18) (by decide) (by decide) ⟨rfl, e4, rfl⟩
theorem efLn0 (m : MethodId) (x0 : Addr) : entryFrame m #[(.ref x0)] 1 = mkF m 0 #[.val (.ref x0)] [] := by first | (simp [entryFrame, mkF, argsToLocals, Value.category]; done) | rfl
set_option maxRecDepth 65536 in
set_option maxHeartbeats 40000000 in
theorem rmLn0 (l : Launch) (Z : State) (a0 : Array Value) (hw : ∀ d ∈ tables_1, d.before a0 Z = true) (oa : Addr) (Va : Addr) (bs : List Int32) (h0 : Heap) (Es : Exa Z h0 oa "java/lang/String") (Svs : Fld Z h0 oa "java/lang/String" "value" "[B" (.ref Va)) (Scs : Fld Z h0 oa "java/lang/String" "coder" "B" (.int (0 : Int32))) (A_x : Ary Z h0 Va .byte (bs.map Value.int)) (cs : Int32) (hcs : ¬ cs = (0 : Int32)) (S0 : Sta Z h0 "java/lang/String" "COMPACT_STRINGS" "Z" (.int cs)) :
    Con l (⟨"java/lang/String", "length", "()I"⟩ : MethodName) jdk_42_method_54_code 1 (some .int) [] ({ frames := 1, cells := 0, slots := 0, locals := 24 } : Room) #[(.ref oa)] Z h0 (fun v h L => v = some (.int ((Int32.ofNat bs.length) >>> ((0 : Int32) &&& 31))) ∧ h = h0 ∧ L = []) := by
  refine Con.of (plainFor_of_name pn_0) ?_
  intro p e s m below meth c s₁ hx hZ hby hml hown hnm hret hlk X0 e0
  refine Ends.cast (efLn0 m oa) ?_
  show Ends none p e below s _ _ _ s₁ (mkF m 0 #[.val (.ref oa)] [])
  have O0 := Ok.refl h0 []
  refine E.aloadN (q := 1) X0 hx (hb hby d7_0) rfl rfl ?_
  refine Ends.getF X0 hx hZ hown (host := "") (Or.inl (hw _ (List.mem_of_getElem? (i := 25) rfl))) Via.refl e0 Svs (hb hby d7_1) ?_
  intro T5 X5 e5
  refine Ends.alen X5 hx hZ e5 A_x (hb hby d7_4) (n := (Int32.ofNat bs.length)) (by rw [List.length_map]) ?_
  refine E.aloadN (q := 6) X5 hx (hb hby d7_5) rfl rfl ?_
  refine Ends.callV X5 hx hZ hown (hw _ (List.mem_of_getElem? (i := 45) rfl)) (hw _ (List.mem_of_getElem? (i := 46) rfl)) (hw _ (List.mem_of_getElem? (i := 48) rfl)) (hw _ (List.mem_of_getElem? (i := 47) rfl)) (hw _ (List.mem_of_getElem? (i := 8) rfl)) (hw _ (List.mem_of_getElem? (i := 49) rfl)) (by decide) (argsL := []) (rest := [(.int (Int32.ofNat bs.length))]) e5 Es (rmCo0 l Z a0 hw oa _ Scs cs hcs S0) (W := 1) (by decide) (by decide) (by rw [hml]; rfl) (lenOf pd_0 rfl) (Nat.le_of_eq rfl) (hb hby d7_6) (by decide) (by decide) rfl ?_
  rintro T6 v6 L6 X6 ⟨rfl, e6, rfl⟩
  rw [List.append_nil] at X6
  show Ends none p e below s _ _ _ T6 (mkF m 9 #[.val (.ref oa)] [(.int (0 : Int32)), (.int (Int32.ofNat bs.length))])
  refine E.ishr (q := 10) X6 hx (hb hby d7_9) ?_
  exact Ends.retI X6 hx hlk hret (hb hby d7_10) (by decide) (by decide) ⟨rfl, e6, rfl⟩
theorem efrmCo1 (m : MethodId) (x0 : Addr) : entryFrame m #[(.ref x0)] 1 = mkF m 0 #[.val (.ref x0)] [] := by first | (simp [entryFrame, mkF, argsToLocals, Value.category]; done) | rfl
set_option maxRecDepth 65536 in
set_option maxHeartbeats 40000000 in
theorem rmCo1 (l : Launch) (Z : State) (a0 : Array Value) (hw : ∀ d ∈ tables_1, d.before a0 Z = true) (oa : Addr) (h0 : Heap) (Sc : Fld Z h0 oa "java/lang/String" "coder" "B" (.int (1 : Int32))) (cs : Int32) (hcs : ¬ cs = (0 : Int32)) (S0 : Sta Z h0 "java/lang/String" "COMPACT_STRINGS" "Z" (.int cs)) :
    Con l (⟨"java/lang/String", "coder", "()B"⟩ : MethodName) jdk_42_method_152_code 1 (some .byte) [] ({ frames := 0, cells := 0, slots := 0, locals := 0 } : Room) #[(.ref oa)] Z h0 (fun v h L => v = some (.int (1 : Int32)) ∧ h = h0 ∧ L = []) := by
  refine Con.of (plainFor_of_name pn_0) ?_
  intro p e s m below meth c s₁ hx hZ hby hml hown hnm hret hlk X0 e0
  refine Ends.cast (efrmCo1 m oa) ?_
  show Ends none p e below s _ _ _ s₁ (mkF m 0 #[.val (.ref oa)] [])
  have O0 := Ok.refl h0 []
  refine Ends.getS X0 hx hZ hown (host := "") (Or.inl (hw _ (List.mem_of_getElem? (i := 50) rfl))) Via.refl e0 (own_sta_keep S0 O0.1 own_ns0) (hb hby d8_0) ?_
  intro T7 X7 e7
  refine E.ifN (q := 6) X7 hx (hb hby d8_3) (XT.i0_eq_f hcs) ?_
  refine E.aloadN (q := 7) X7 hx (hb hby d8_6) rfl rfl ?_
  refine Ends.getF X7 hx hZ hown (host := "") (Or.inl (hw _ (List.mem_of_getElem? (i := 26) rfl))) Via.refl e7 Sc (hb hby d8_7) ?_
  intro T8 X8 e8
  refine E.goto (q := 14) X8 hx (hb hby d8_10) ?_
  exact Ends.retS X8 hx hlk hret (by simp) rfl (hb hby d8_14) (by decide) (by decide) ⟨rfl, e8, rfl⟩
theorem efrmIs1 (m : MethodId) (x0 : Addr) : entryFrame m #[(.ref x0)] 1 = mkF m 0 #[.val (.ref x0)] [] := by first | (simp [entryFrame, mkF, argsToLocals, Value.category]; done) | rfl
set_option maxRecDepth 65536 in
set_option maxHeartbeats 40000000 in
theorem rmIs1 (l : Launch) (Z : State) (a0 : Array Value) (hw : ∀ d ∈ tables_1, d.before a0 Z = true) (oa : Addr) (h0 : Heap) (Sc : Fld Z h0 oa "java/lang/String" "coder" "B" (.int (1 : Int32))) (cs : Int32) (hcs : ¬ cs = (0 : Int32)) (S0 : Sta Z h0 "java/lang/String" "COMPACT_STRINGS" "Z" (.int cs)) :
    Con l (⟨"java/lang/String", "isLatin1", "()Z"⟩ : MethodName) jdk_42_method_154_code 1 (some .boolean) [] ({ frames := 0, cells := 0, slots := 0, locals := 0 } : Room) #[(.ref oa)] Z h0 (fun v h L => v = some (.int (0 : Int32)) ∧ h = h0 ∧ L = []) := by
  refine Con.of (plainFor_of_name pn_0) ?_
  intro p e s m below meth c s₁ hx hZ hby hml hown hnm hret hlk X0 e0
  refine Ends.cast (efrmIs1 m oa) ?_
  show Ends none p e below s _ _ _ s₁ (mkF m 0 #[.val (.ref oa)] [])
  have O0 := Ok.refl h0 []
  refine Ends.getS X0 hx hZ hown (host := "") (Or.inl (hw _ (List.mem_of_getElem? (i := 50) rfl))) Via.refl e0 (own_sta_keep S0 O0.1 own_ns0) (hb hby d16_0) ?_
  intro T9 X9 e9
  refine E.ifN (q := 6) X9 hx (hb hby d16_3) (XT.i0_eq_f hcs) ?_
  refine E.aloadN (q := 7) X9 hx (hb hby d16_6) rfl rfl ?_
  refine Ends.getF X9 hx hZ hown (host := "") (Or.inl (hw _ (List.mem_of_getElem? (i := 26) rfl))) Via.refl e9 Sc (hb hby d16_7) ?_
  intro T10 X10 e10
  refine E.ifY (q := 17) X10 hx (hb hby d16_10) (XT.i0_ne_t (by decide)) ?_
  refine E.iconst (q := 18) (v := (0 : Int32)) X10 hx (hb hby d16_17) rfl ?_
  exact Ends.retS X10 hx hlk hret (by simp) rfl (hb hby d16_18) (by decide) (by decide) ⟨rfl, e10, rfl⟩
theorem efLn1 (m : MethodId) (x0 : Addr) : entryFrame m #[(.ref x0)] 1 = mkF m 0 #[.val (.ref x0)] [] := by first | (simp [entryFrame, mkF, argsToLocals, Value.category]; done) | rfl
set_option maxRecDepth 65536 in
set_option maxHeartbeats 40000000 in
theorem rmLn1 (l : Launch) (Z : State) (a0 : Array Value) (hw : ∀ d ∈ tables_1, d.before a0 Z = true) (oa : Addr) (Va : Addr) (bs : List Int32) (h0 : Heap) (Es : Exa Z h0 oa "java/lang/String") (Svs : Fld Z h0 oa "java/lang/String" "value" "[B" (.ref Va)) (Scs : Fld Z h0 oa "java/lang/String" "coder" "B" (.int (1 : Int32))) (A_x : Ary Z h0 Va .byte (bs.map Value.int)) (cs : Int32) (hcs : ¬ cs = (0 : Int32)) (S0 : Sta Z h0 "java/lang/String" "COMPACT_STRINGS" "Z" (.int cs)) :
    Con l (⟨"java/lang/String", "length", "()I"⟩ : MethodName) jdk_42_method_54_code 1 (some .int) [] ({ frames := 1, cells := 0, slots := 0, locals := 24 } : Room) #[(.ref oa)] Z h0 (fun v h L => v = some (.int ((Int32.ofNat bs.length) >>> ((1 : Int32) &&& 31))) ∧ h = h0 ∧ L = []) := by
  refine Con.of (plainFor_of_name pn_0) ?_
  intro p e s m below meth c s₁ hx hZ hby hml hown hnm hret hlk X0 e0
  refine Ends.cast (efLn1 m oa) ?_
  show Ends none p e below s _ _ _ s₁ (mkF m 0 #[.val (.ref oa)] [])
  have O0 := Ok.refl h0 []
  refine E.aloadN (q := 1) X0 hx (hb hby d7_0) rfl rfl ?_
  refine Ends.getF X0 hx hZ hown (host := "") (Or.inl (hw _ (List.mem_of_getElem? (i := 25) rfl))) Via.refl e0 Svs (hb hby d7_1) ?_
  intro T11 X11 e11
  refine Ends.alen X11 hx hZ e11 A_x (hb hby d7_4) (n := (Int32.ofNat bs.length)) (by rw [List.length_map]) ?_
  refine E.aloadN (q := 6) X11 hx (hb hby d7_5) rfl rfl ?_
  refine Ends.callV X11 hx hZ hown (hw _ (List.mem_of_getElem? (i := 45) rfl)) (hw _ (List.mem_of_getElem? (i := 46) rfl)) (hw _ (List.mem_of_getElem? (i := 48) rfl)) (hw _ (List.mem_of_getElem? (i := 47) rfl)) (hw _ (List.mem_of_getElem? (i := 8) rfl)) (hw _ (List.mem_of_getElem? (i := 49) rfl)) (by decide) (argsL := []) (rest := [(.int (Int32.ofNat bs.length))]) e11 Es (rmCo1 l Z a0 hw oa _ Scs cs hcs S0) (W := 1) (by decide) (by decide) (by rw [hml]; rfl) (lenOf pd_0 rfl) (Nat.le_of_eq rfl) (hb hby d7_6) (by decide) (by decide) rfl ?_
  rintro T12 v12 L12 X12 ⟨rfl, e12, rfl⟩
  rw [List.append_nil] at X12
  show Ends none p e below s _ _ _ T12 (mkF m 9 #[.val (.ref oa)] [(.int (1 : Int32)), (.int (Int32.ofNat bs.length))])
  refine E.ishr (q := 10) X12 hx (hb hby d7_9) ?_
  exact Ends.retI X12 hx hlk hret (hb hby d7_10) (by decide) (by decide) ⟨rfl, e12, rfl⟩
theorem own_len (l : Launch) (Z : State) (a0 : Array Value) (hw : ∀ d ∈ tables_1, d.before a0 Z = true) (oa Va : Addr) (cd : Int32) (bs xs : List Int32) (hS : own_Str cd bs xs) (h0 : Heap) (Es : Exa Z h0 oa "java/lang/String") (Svs : Fld Z h0 oa "java/lang/String" "value" "[B" (.ref Va)) (Scs : Fld Z h0 oa "java/lang/String" "coder" "B" (.int cd)) (A_x : Ary Z h0 Va .byte (bs.map Value.int)) (cs : Int32) (hcs : ¬ cs = (0 : Int32)) (S0 : Sta Z h0 "java/lang/String" "COMPACT_STRINGS" "Z" (.int cs)) : Con l (⟨"java/lang/String", "length", "()I"⟩ : MethodName) jdk_42_method_54_code 1 (some .int) [] ({ frames := 1, cells := 0, slots := 0, locals := 24 } : Room) #[.ref oa] Z h0 (fun v h L => v = some (.int (Int32.ofNat xs.length)) ∧ h = h0 ∧ L = []) := by
  have lb : bs.length < 2 ^ 31 := by have := A_x.len; rwa [List.length_map] at this
  rcases hS.2 with ⟨rfl, hb', -⟩ | ⟨rfl, hb'⟩
  · have q := rmLn0 l Z a0 hw oa Va bs h0 Es Svs Scs A_x cs hcs S0
    rw [own_shr0', hb', List.length_map] at q
    exact q
  · have q := rmLn1 l Z a0 hw oa Va bs h0 Es Svs Scs A_x cs hcs S0
    rw [hb', own_utf_len] at q lb
    rw [own_shr1' (by omega)] at q
    exact q
theorem efrmPn (m : MethodId) (x0 : Int32) (x1 : Int32) : entryFrame m #[(.int x0), (.int x1), .null] 3 = mkF m 0 #[.val (.int x0), .val (.int x1), .val .null] [] := by first | (simp [entryFrame, mkF, argsToLocals, Value.category]; done) | rfl
set_option maxRecDepth 65536 in
set_option maxHeartbeats 40000000 in
theorem rmPn (l : Launch) (Z : State) (a0 : Array Value) (hw : ∀ d ∈ tables_1, d.before a0 Z = true) (k n : Nat) (hk : k < n) (hn : n < 2 ^ 31) (h0 : Heap) :
    Con l (⟨"jdk/internal/util/Preconditions", "checkIndex", "(IILjava/util/function/BiFunction;)I"⟩ : MethodName) jdk_41_method_11_code 3 (some .int) [] ({ frames := 0, cells := 0, slots := 0, locals := 0 } : Room) #[(.int (Int32.ofNat k)), (.int (Int32.ofNat n)), .null] Z h0 (fun v h L => v = some (.int (Int32.ofNat k)) ∧ h = h0 ∧ L = []) := by
  refine Con.of (plainFor_of_name pn_1) ?_
  intro p e s m below meth c s₁ hx hZ hby hml hown hnm hret hlk X0 e0
  refine Ends.cast (efrmPn m (Int32.ofNat k) (Int32.ofNat n)) ?_
  show Ends none p e below s _ _ _ s₁ (mkF m 0 #[.val (.int (Int32.ofNat k)), .val (.int (Int32.ofNat n)), .val .null] [])
  have O0 := Ok.refl h0 []
  refine E.iloadN (q := 1) X0 hx (hb hby d19_0) rfl ?_
  refine E.ifN (q := 4) X0 hx (hb hby d19_1) (XT.i0_lt_f (own_clamp (by omega)).2) ?_
  refine E.iloadN (q := 5) X0 hx (hb hby d19_4) rfl ?_
  refine E.iloadN (q := 6) X0 hx (hb hby d19_5) rfl ?_
  refine E.icmpY (q := 16) X0 hx (hb hby d19_6) (XT.ii_lt_t ((own_ltN (by omega) hn).mpr hk)) ?_
  refine E.iloadN (q := 17) X0 hx (hb hby d19_16) rfl ?_
  exact Ends.retI X0 hx hlk hret (hb hby d19_17) (by decide) (by decide) ⟨rfl, e0, rfl⟩
theorem efrmPr (m : MethodId) (x0 : Int32) (x1 : Int32) (x2 : Addr) : entryFrame m #[(.int x0), (.int x1), (.ref x2)] 3 = mkF m 0 #[.val (.int x0), .val (.int x1), .val (.ref x2)] [] := by first | (simp [entryFrame, mkF, argsToLocals, Value.category]; done) | rfl
set_option maxRecDepth 65536 in
set_option maxHeartbeats 40000000 in
theorem rmPr (l : Launch) (Z : State) (a0 : Array Value) (hw : ∀ d ∈ tables_1, d.before a0 Z = true) (k n : Nat) (hk : k < n) (hn : n < 2 ^ 31) (of : Addr) (h0 : Heap) :
    Con l (⟨"jdk/internal/util/Preconditions", "checkIndex", "(IILjava/util/function/BiFunction;)I"⟩ : MethodName) jdk_41_method_11_code 3 (some .int) [] ({ frames := 0, cells := 0, slots := 0, locals := 0 } : Room) #[(.int (Int32.ofNat k)), (.int (Int32.ofNat n)), (.ref of)] Z h0 (fun v h L => v = some (.int (Int32.ofNat k)) ∧ h = h0 ∧ L = []) := by
  refine Con.of (plainFor_of_name pn_1) ?_
  intro p e s m below meth c s₁ hx hZ hby hml hown hnm hret hlk X0 e0
  refine Ends.cast (efrmPr m (Int32.ofNat k) (Int32.ofNat n) of) ?_
  show Ends none p e below s _ _ _ s₁ (mkF m 0 #[.val (.int (Int32.ofNat k)), .val (.int (Int32.ofNat n)), .val (.ref of)] [])
  have O0 := Ok.refl h0 []
  refine E.iloadN (q := 1) X0 hx (hb hby d19_0) rfl ?_
  refine E.ifN (q := 4) X0 hx (hb hby d19_1) (XT.i0_lt_f (own_clamp (by omega)).2) ?_
  refine E.iloadN (q := 5) X0 hx (hb hby d19_4) rfl ?_
  refine E.iloadN (q := 6) X0 hx (hb hby d19_5) rfl ?_
  refine E.icmpY (q := 16) X0 hx (hb hby d19_6) (XT.ii_lt_t ((own_ltN (by omega) hn).mpr hk)) ?_
  refine E.iloadN (q := 17) X0 hx (hb hby d19_16) rfl ?_
  exact Ends.retI X0 hx hlk hret (hb hby d19_17) (by decide) (by decide) ⟨rfl, e0, rfl⟩
theorem own_pc (l : Launch) (Z : State) (a0 : Array Value) (hw : ∀ d ∈ tables_1, d.before a0 Z = true) (k n : Nat) (hk : k < n) (hn : n < 2 ^ 31) (h0 : Heap) (fv : Value) (hfv : fv = .null ∨ ∃ a, fv = .ref a) : Con l (⟨"jdk/internal/util/Preconditions", "checkIndex", "(IILjava/util/function/BiFunction;)I"⟩ : MethodName) jdk_41_method_11_code 3 (some .int) [] ({ frames := 0, cells := 0, slots := 0, locals := 0 } : Room) #[.int (Int32.ofNat k), .int (Int32.ofNat n), fv] Z h0 (fun v h L => v = some (.int (Int32.ofNat k)) ∧ h = h0 ∧ L = []) := by
  rcases hfv with rfl | ⟨a, rfl⟩
  · exact rmPn l Z a0 hw k n hk hn h0
  · exact rmPr l Z a0 hw k n hk hn a h0
theorem ef_18 (m : MethodId) (x0 : Int32) (x1 : Int32) : entryFrame m #[(.int x0), (.int x1)] 2 = mkF m 0 #[.val (.int x0), .val (.int x1)] [] := by first | (simp [entryFrame, mkF, argsToLocals, Value.category]; done) | rfl
set_option maxRecDepth 65536 in
set_option maxHeartbeats 40000000 in
theorem rm18 (l : Launch) (Z : State) (a0 : Array Value) (hw : ∀ d ∈ tables_1, d.before a0 Z = true) (k n : Nat) (hk : k < n) (hn : n < 2 ^ 31) (h0 : Heap) (cs : Int32) (hcs : ¬ cs = (0 : Int32)) (S0 : Sta Z h0 "java/lang/String" "COMPACT_STRINGS" "Z" (.int cs)) (fv : Value) (hfv : fv = .null ∨ ∃ a, fv = .ref a) (S1 : Sta Z h0 "jdk/internal/util/Preconditions" "SIOOBE_FORMATTER" "Ljava/util/function/BiFunction;" fv) :
    Con l (⟨"java/lang/String", "checkIndex", "(II)V"⟩ : MethodName) jdk_42_method_155_code 2 none [] ({ frames := 1, cells := 0, slots := 0, locals := 24 } : Room) #[(.int (Int32.ofNat k)), (.int (Int32.ofNat n))] Z h0 (fun v h L => v = none ∧ h = h0 ∧ L = []) := by
  refine Con.of (plainFor_of_name pn_0) ?_
  intro p e s m below meth c s₁ hx hZ hby hml hown hnm hret hlk X0 e0
  refine Ends.cast (ef_18 m (Int32.ofNat k) (Int32.ofNat n)) ?_
  show Ends none p e below s _ _ _ s₁ (mkF m 0 #[.val (.int (Int32.ofNat k)), .val (.int (Int32.ofNat n))] [])
  have O0 := Ok.refl h0 []
  refine E.iloadN (q := 1) X0 hx (hb hby d18_0) rfl ?_
  refine E.iloadN (q := 2) X0 hx (hb hby d18_1) rfl ?_
  refine Ends.getS X0 hx hZ hown (host := "") (Or.inl (hw _ (List.mem_of_getElem? (i := 97) rfl))) Via.refl e0 (own_sta_keep S1 O0.1 own_ns0) (hb hby d18_2) ?_
  intro T13 X13 e13
  refine Ends.callS X13 hx hZ hown (hw _ (List.mem_of_getElem? (i := 99) rfl)) (hw _ (List.mem_of_getElem? (i := 100) rfl)) (hw _ (List.mem_of_getElem? (i := 98) rfl)) (hw _ (List.mem_of_getElem? (i := 101) rfl)) (by decide) (argsL := [(.int (Int32.ofNat k)), (.int (Int32.ofNat n)), fv]) (rest := []) e13 (own_pc l Z a0 hw k n hk hn _ fv hfv) (W := 0) (by decide) (by decide) (by rw [hml]; rfl) (lenOf pd_1 rfl) (Nat.le_of_eq rfl) (hb hby d18_5) (by decide) (by decide) rfl ?_
  rintro T14 v14 L14 X14 ⟨rfl, e14, rfl⟩
  rw [List.append_nil] at X14
  show Ends none p e below s _ _ _ T14 (mkF m 8 #[.val (.int (Int32.ofNat k)), .val (.int (Int32.ofNat n))] [(.int (Int32.ofNat k))])
  refine E.pop (q := 9) X14 hx (hb hby d18_8) rfl ?_
  exact Ends.retV X14 hx hlk hret (hb hby d18_9) (by decide) (by decide) ⟨rfl, e14, rfl⟩
theorem ef_17 (m : MethodId) (x0 : Addr) (x1 : Int32) : entryFrame m #[(.ref x0), (.int x1)] 2 = mkF m 0 #[.val (.ref x0), .val (.int x1)] [] := by first | (simp [entryFrame, mkF, argsToLocals, Value.category]; done) | rfl
set_option maxRecDepth 65536 in
set_option maxHeartbeats 40000000 in
theorem rm17 (l : Launch) (Z : State) (a0 : Array Value) (hw : ∀ d ∈ tables_1, d.before a0 Z = true) (oa : Addr) (k : Nat) (bs : List Int32) (y : Int32) (hk : bs[k]? = some y) (h0 : Heap) (A_x : Ary Z h0 oa .byte (bs.map Value.int)) (cs : Int32) (hcs : ¬ cs = (0 : Int32)) (S0 : Sta Z h0 "java/lang/String" "COMPACT_STRINGS" "Z" (.int cs)) (fv : Value) (hfv : fv = .null ∨ ∃ a, fv = .ref a) (S1 : Sta Z h0 "jdk/internal/util/Preconditions" "SIOOBE_FORMATTER" "Ljava/util/function/BiFunction;" fv) :
    Con l (⟨"java/lang/StringLatin1", "charAt", "([BI)C"⟩ : MethodName) jdk_43_method_2_code 2 (some .char) [] ({ frames := 2, cells := 0, slots := 0, locals := 48 } : Room) #[(.ref oa), (.int (Int32.ofNat k))] Z h0 (fun v h L => v = some (.int ((y &&& (255 : Int32)).toUInt32.toUInt16.toUInt32.toInt32)) ∧ h = h0 ∧ L = []) := by
  refine Con.of (plainFor_of_name pn_2) ?_
  intro p e s m below meth c s₁ hx hZ hby hml hown hnm hret hlk X0 e0
  refine Ends.cast (ef_17 m oa (Int32.ofNat k)) ?_
  show Ends none p e below s _ _ _ s₁ (mkF m 0 #[.val (.ref oa), .val (.int (Int32.ofNat k))] [])
  have O0 := Ok.refl h0 []
  have lx : bs.length < 2 ^ 31 := by have := A_x.len; rwa [List.length_map] at this
  have hkl : k < bs.length := (List.getElem?_eq_some_iff.mp hk).1
  refine E.iloadN (q := 1) X0 hx (hb hby d17_0) rfl ?_
  refine E.aloadN (q := 2) X0 hx (hb hby d17_1) rfl rfl ?_
  refine Ends.alen X0 hx hZ e0 A_x (hb hby d17_2) (n := (Int32.ofNat bs.length)) (by rw [List.length_map]) ?_
  refine Ends.callS X0 hx hZ hown (hw _ (List.mem_of_getElem? (i := 94) rfl)) (hw _ (List.mem_of_getElem? (i := 95) rfl)) (hw _ (List.mem_of_getElem? (i := 8) rfl)) (hw _ (List.mem_of_getElem? (i := 96) rfl)) (by decide) (argsL := [(.int (Int32.ofNat k)), (.int (Int32.ofNat bs.length))]) (rest := []) e0 (rm18 l Z a0 hw k bs.length hkl lx _ cs hcs S0 fv hfv S1) (W := 0) (by decide) (by decide) (by rw [hml]; rfl) (lenOf pd_2 rfl) (Nat.le_of_eq rfl) (hb hby d17_3) (by decide) (by decide) rfl ?_
  rintro T15 v15 L15 X15 ⟨rfl, e15, rfl⟩
  rw [List.append_nil] at X15
  show Ends none p e below s _ _ _ T15 (mkF m 6 #[.val (.ref oa), .val (.int (Int32.ofNat k))] [])
  refine E.aloadN (q := 7) X15 hx (hb hby d17_6) rfl rfl ?_
  refine E.iloadN (q := 8) X15 hx (hb hby d17_7) rfl ?_
  refine Ends.bld X15 hx hZ e15 A_x (i := k) (v := .int y) rfl (by rw [List.getElem?_map, hk]; rfl) (hb hby d17_8) ?_
  show Ends none p e below s _ _ _ T15 (mkF m 9 #[.val (.ref oa), .val (.int (Int32.ofNat k))] [(.int y)])
  refine E.sipush (q := 12) (v := (255 : Int32)) X15 hx (hb hby d17_9) rfl ?_
  refine E.iand (q := 13) X15 hx (hb hby d17_12) ?_
  refine E.i2c (q := 14) X15 hx (hb hby d17_13) ?_
  exact Ends.retS X15 hx hlk hret (by simp) (congrArg Value.int (own_ch rfl).2) (hb hby d17_14) (by decide) (by decide) ⟨rfl, e15, rfl⟩
theorem ef_29 (m : MethodId) (x0 : Addr) : entryFrame m #[(.ref x0)] 1 = mkF m 0 #[.val (.ref x0)] [] := by first | (simp [entryFrame, mkF, argsToLocals, Value.category]; done) | rfl
set_option maxRecDepth 65536 in
set_option maxHeartbeats 40000000 in
theorem rm29 (l : Launch) (Z : State) (a0 : Array Value) (hw : ∀ d ∈ tables_1, d.before a0 Z = true) (oa : Addr) (xs : List Int32) (h0 : Heap) (A_x : Ary Z h0 oa .byte ((own_utf xs).map Value.int)) :
    Con l (⟨"java/lang/StringUTF16", "length", "([B)I"⟩ : MethodName) jdk_52_method_6_code 1 (some .int) [] ({ frames := 0, cells := 0, slots := 0, locals := 0 } : Room) #[(.ref oa)] Z h0 (fun v h L => v = some (.int (Int32.ofNat xs.length)) ∧ h = h0 ∧ L = []) := by
  refine Con.of (plainFor_of_name pn_3) ?_
  intro p e s m below meth c s₁ hx hZ hby hml hown hnm hret hlk X0 e0
  refine Ends.cast (ef_29 m oa) ?_
  show Ends none p e below s _ _ _ s₁ (mkF m 0 #[.val (.ref oa)] [])
  have O0 := Ok.refl h0 []
  have lx : 2 * xs.length < 2 ^ 31 := by have := A_x.len; rwa [List.length_map, own_utf_len] at this
  refine E.aloadN (q := 1) X0 hx (hb hby d29_0) rfl rfl ?_
  refine Ends.alen X0 hx hZ e0 A_x (hb hby d29_1) (n := (Int32.ofNat (2 * xs.length))) (by rw [List.length_map, own_utf_len]) ?_
  refine E.iconst (q := 3) (v := (1 : Int32)) X0 hx (hb hby d29_2) rfl ?_
  refine E.ishr (q := 4) X0 hx (hb hby d29_3) ?_
  exact Ends.retI X0 hx hlk hret (hb hby d29_4) (by decide) (by decide) ⟨by rw [own_shr1' (by omega)], e0, rfl⟩
theorem ef_28 (m : MethodId) (x0 : Int32) (x1 : Addr) : entryFrame m #[(.int x0), (.ref x1)] 2 = mkF m 0 #[.val (.int x0), .val (.ref x1)] [] := by first | (simp [entryFrame, mkF, argsToLocals, Value.category]; done) | rfl
set_option maxRecDepth 65536 in
set_option maxHeartbeats 40000000 in
theorem rm28 (l : Launch) (Z : State) (a0 : Array Value) (hw : ∀ d ∈ tables_1, d.before a0 Z = true) (oa : Addr) (k : Nat) (xs : List Int32) (hk : k < xs.length) (h0 : Heap) (A_x : Ary Z h0 oa .byte ((own_utf xs).map Value.int)) (cs : Int32) (hcs : ¬ cs = (0 : Int32)) (S0 : Sta Z h0 "java/lang/String" "COMPACT_STRINGS" "Z" (.int cs)) (fv : Value) (hfv : fv = .null ∨ ∃ a, fv = .ref a) (S1 : Sta Z h0 "jdk/internal/util/Preconditions" "SIOOBE_FORMATTER" "Ljava/util/function/BiFunction;" fv) :
    Con l (⟨"java/lang/StringUTF16", "checkIndex", "(I[B)V"⟩ : MethodName) jdk_52_method_91_code 2 none [] ({ frames := 2, cells := 0, slots := 0, locals := 48 } : Room) #[(.int (Int32.ofNat k)), (.ref oa)] Z h0 (fun v h L => v = none ∧ h = h0 ∧ L = []) := by
  refine Con.of (plainFor_of_name pn_3) ?_
  intro p e s m below meth c s₁ hx hZ hby hml hown hnm hret hlk X0 e0
  refine Ends.cast (ef_28 m (Int32.ofNat k) oa) ?_
  show Ends none p e below s _ _ _ s₁ (mkF m 0 #[.val (.int (Int32.ofNat k)), .val (.ref oa)] [])
  have O0 := Ok.refl h0 []
  have lx : 2 * xs.length < 2 ^ 31 := by have := A_x.len; rwa [List.length_map, own_utf_len] at this
  refine E.iloadN (q := 1) X0 hx (hb hby d28_0) rfl ?_
  refine E.aloadN (q := 2) X0 hx (hb hby d28_1) rfl rfl ?_
  refine Ends.callS X0 hx hZ hown (hw _ (List.mem_of_getElem? (i := 133) rfl)) (hw _ (List.mem_of_getElem? (i := 134) rfl)) (hw _ (List.mem_of_getElem? (i := 67) rfl)) (hw _ (List.mem_of_getElem? (i := 135) rfl)) (by decide) (argsL := [(.ref oa)]) (rest := [(.int (Int32.ofNat k))]) e0 (rm29 l Z a0 hw oa xs _ A_x) (W := 1) (by decide) (by decide) (by rw [hml]; rfl) (lenOf pd_3 rfl) (Nat.le_of_eq rfl) (hb hby d28_2) (by decide) (by decide) rfl ?_
  rintro T16 v16 L16 X16 ⟨rfl, e16, rfl⟩
  rw [List.append_nil] at X16
  show Ends none p e below s _ _ _ T16 (mkF m 5 #[.val (.int (Int32.ofNat k)), .val (.ref oa)] [(.int (Int32.ofNat xs.length)), (.int (Int32.ofNat k))])
  refine Ends.callS X16 hx hZ hown (hw _ (List.mem_of_getElem? (i := 136) rfl)) (hw _ (List.mem_of_getElem? (i := 95) rfl)) (hw _ (List.mem_of_getElem? (i := 8) rfl)) (hw _ (List.mem_of_getElem? (i := 96) rfl)) (by decide) (argsL := [(.int (Int32.ofNat k)), (.int (Int32.ofNat xs.length))]) (rest := []) e16 (rm18 l Z a0 hw k xs.length hk (by omega) _ cs hcs S0 fv hfv S1) (W := 0) (by decide) (by decide) (by rw [hml]; rfl) (lenOf pd_2 rfl) (Nat.le_of_eq rfl) (hb hby d28_5) (by decide) (by decide) rfl ?_
  rintro T17 v17 L17 X17 ⟨rfl, e17, rfl⟩
  rw [List.append_nil] at X17
  show Ends none p e below s _ _ _ T17 (mkF m 8 #[.val (.int (Int32.ofNat k)), .val (.ref oa)] [])
  exact Ends.retV X17 hx hlk hret (hb hby d28_8) (by decide) (by decide) ⟨rfl, e17, rfl⟩
theorem ef_26 (m : MethodId) (x0 : Addr) (x1 : Int32) : entryFrame m #[(.ref x0), (.int x1)] 2 = mkF m 0 #[.val (.ref x0), .val (.int x1)] [] := by first | (simp [entryFrame, mkF, argsToLocals, Value.category]; done) | rfl
set_option maxRecDepth 65536 in
set_option maxHeartbeats 40000000 in
theorem rm26 (l : Launch) (Z : State) (a0 : Array Value) (hw : ∀ d ∈ tables_1, d.before a0 Z = true) (oa : Addr) (k : Nat) (xs : List Int32) (x : Int32) (hk : xs[k]? = some x) (hC : own_C x) (h0 : Heap) (A_x : Ary Z h0 oa .byte ((own_utf xs).map Value.int)) (S2 : Sta Z h0 "java/lang/StringUTF16" "$assertionsDisabled" "Z" (.int (1 : Int32))) (S3 : Sta Z h0 "java/lang/StringUTF16" "HI_BYTE_SHIFT" "I" (.int (0 : Int32))) (S4 : Sta Z h0 "java/lang/StringUTF16" "LO_BYTE_SHIFT" "I" (.int (8 : Int32))) :
    Con l (⟨"java/lang/StringUTF16", "getChar", "([BI)C"⟩ : MethodName) jdk_52_method_5_code 2 (some .char) [] ({ frames := 0, cells := 0, slots := 0, locals := 0 } : Room) #[(.ref oa), (.int (Int32.ofNat k))] Z h0 (fun v h L => v = some (.int x) ∧ h = h0 ∧ L = []) := by
  refine Con.of (plainFor_of_name pn_3) ?_
  intro p e s m below meth c s₁ hx hZ hby hml hown hnm hret hlk X0 e0
  refine Ends.cast (ef_26 m oa (Int32.ofNat k)) ?_
  show Ends none p e below s _ _ _ s₁ (mkF m 0 #[.val (.ref oa), .val (.int (Int32.ofNat k))] [])
  have O0 := Ok.refl h0 []
  have lx : 2 * xs.length < 2 ^ 31 := by have := A_x.len; rwa [List.length_map, own_utf_len] at this
  have hkl : k < xs.length := (List.getElem?_eq_some_iff.mp hk).1
  obtain ⟨u1, u2⟩ := own_utf_at hk
  refine Ends.getS X0 hx hZ hown (host := "") (Or.inl (hw _ (List.mem_of_getElem? (i := 121) rfl))) Via.refl e0 (own_sta_keep S2 O0.1 own_ns0) (hb hby d26_0) ?_
  intro T18 X18 e18
  refine E.ifY (q := 28) X18 hx (hb hby d26_3) (XT.i0_ne_t (by decide)) ?_
  refine E.iloadN (q := 29) X18 hx (hb hby d26_28) rfl ?_
  refine E.iconst (q := 30) (v := (1 : Int32)) X18 hx (hb hby d26_29) rfl ?_
  refine E.ishl (q := 31) X18 hx (hb hby d26_30) ?_
  rw [own_shl1 (by omega)]
  show Ends none p e below s _ _ _ T18 (mkF m 31 #[.val (.ref oa), .val (.int (Int32.ofNat k))] [(.int (Int32.ofNat (2 * k)))])
  refine E.istoreN (q := 32) (l' := #[.val (.ref oa), .val (.int (Int32.ofNat (2 * k)))]) X18 hx (hb hby d26_31) rfl ?_
  refine E.aloadN (q := 33) X18 hx (hb hby d26_32) rfl rfl ?_
  refine E.iloadN (q := 34) X18 hx (hb hby d26_33) rfl ?_
  refine E.iinc (q := 37) (v := ((Int32.ofNat (2 * k)) + (1 : Int32))) (l' := #[.val (.ref oa), .val (.int ((Int32.ofNat (2 * k)) + (1 : Int32)))]) X18 hx (hb hby d26_34) rfl rfl rfl ?_
  refine Ends.bld X18 hx hZ e18 A_x (i := (2 * k)) (v := .int ((x >>> ((0 : Int32) &&& 31)).toInt8.toInt32)) rfl (by rw [List.getElem?_map, u1]; rfl) (hb hby d26_37) ?_
  show Ends none p e below s _ _ _ T18 (mkF m 38 #[.val (.ref oa), .val (.int ((Int32.ofNat (2 * k)) + (1 : Int32)))] [(.int ((x >>> ((0 : Int32) &&& 31)).toInt8.toInt32))])
  refine E.sipush (q := 41) (v := (255 : Int32)) X18 hx (hb hby d26_38) rfl ?_
  refine E.iand (q := 42) X18 hx (hb hby d26_41) ?_
  refine Ends.getS X18 hx hZ hown (host := "") (Or.inl (hw _ (List.mem_of_getElem? (i := 122) rfl))) Via.refl e18 (own_sta_keep S3 O0.1 own_ns0) (hb hby d26_42) ?_
  intro T19 X19 e19
  refine E.ishl (q := 46) X19 hx (hb hby d26_45) ?_
  refine E.aloadN (q := 47) X19 hx (hb hby d26_46) rfl rfl ?_
  refine E.iloadN (q := 48) X19 hx (hb hby d26_47) rfl ?_
  rw [own_succ (2 * k)]
  show Ends none p e below s _ _ _ T19 (mkF m 48 #[.val (.ref oa), .val (.int (Int32.ofNat (2 * k + 1)))] [(.int (Int32.ofNat (2 * k + 1))), (.ref oa), (.int ((((x >>> ((0 : Int32) &&& 31)).toInt8.toInt32) &&& (255 : Int32)) <<< ((0 : Int32) &&& 31)))])
  refine Ends.bld X19 hx hZ e19 A_x (i := (2 * k + 1)) (v := .int ((x >>> ((8 : Int32) &&& 31)).toInt8.toInt32)) rfl (by rw [List.getElem?_map, u2]; rfl) (hb hby d26_48) ?_
  show Ends none p e below s _ _ _ T19 (mkF m 49 #[.val (.ref oa), .val (.int (Int32.ofNat (2 * k + 1)))] [(.int ((x >>> ((8 : Int32) &&& 31)).toInt8.toInt32)), (.int ((((x >>> ((0 : Int32) &&& 31)).toInt8.toInt32) &&& (255 : Int32)) <<< ((0 : Int32) &&& 31)))])
  refine E.sipush (q := 52) (v := (255 : Int32)) X19 hx (hb hby d26_49) rfl ?_
  refine E.iand (q := 53) X19 hx (hb hby d26_52) ?_
  refine Ends.getS X19 hx hZ hown (host := "") (Or.inl (hw _ (List.mem_of_getElem? (i := 123) rfl))) Via.refl e19 (own_sta_keep S4 O0.1 own_ns0) (hb hby d26_53) ?_
  intro T20 X20 e20
  refine E.ishl (q := 57) X20 hx (hb hby d26_56) ?_
  refine E.ior (q := 58) X20 hx (hb hby d26_57) ?_
  refine E.i2c (q := 59) X20 hx (hb hby d26_58) ?_
  rw [own_join16 hC, own_nc16 hC]
  show Ends none p e below s _ _ _ T20 (mkF m 59 #[.val (.ref oa), .val (.int (Int32.ofNat (2 * k + 1)))] [(.int x)])
  exact Ends.retS X20 hx hlk hret (by simp) (congrArg Value.int (own_nc16 hC)) (hb hby d26_59) (by decide) (by decide) ⟨rfl, e20, rfl⟩
theorem ef_27 (m : MethodId) (x0 : Addr) (x1 : Int32) : entryFrame m #[(.ref x0), (.int x1)] 2 = mkF m 0 #[.val (.ref x0), .val (.int x1)] [] := by first | (simp [entryFrame, mkF, argsToLocals, Value.category]; done) | rfl
set_option maxRecDepth 65536 in
set_option maxHeartbeats 40000000 in
theorem rm27 (l : Launch) (Z : State) (a0 : Array Value) (hw : ∀ d ∈ tables_1, d.before a0 Z = true) (oa : Addr) (k : Nat) (xs : List Int32) (x : Int32) (hk : xs[k]? = some x) (hC : own_C x) (h0 : Heap) (A_x : Ary Z h0 oa .byte ((own_utf xs).map Value.int)) (cs : Int32) (hcs : ¬ cs = (0 : Int32)) (S0 : Sta Z h0 "java/lang/String" "COMPACT_STRINGS" "Z" (.int cs)) (fv : Value) (hfv : fv = .null ∨ ∃ a, fv = .ref a) (S1 : Sta Z h0 "jdk/internal/util/Preconditions" "SIOOBE_FORMATTER" "Ljava/util/function/BiFunction;" fv) (S2 : Sta Z h0 "java/lang/StringUTF16" "$assertionsDisabled" "Z" (.int (1 : Int32))) (S3 : Sta Z h0 "java/lang/StringUTF16" "HI_BYTE_SHIFT" "I" (.int (0 : Int32))) (S4 : Sta Z h0 "java/lang/StringUTF16" "LO_BYTE_SHIFT" "I" (.int (8 : Int32))) :
    Con l (⟨"java/lang/StringUTF16", "charAt", "([BI)C"⟩ : MethodName) jdk_52_method_83_code 2 (some .char) [] ({ frames := 3, cells := 0, slots := 0, locals := 72 } : Room) #[(.ref oa), (.int (Int32.ofNat k))] Z h0 (fun v h L => v = some (.int x) ∧ h = h0 ∧ L = []) := by
  refine Con.of (plainFor_of_name pn_3) ?_
  intro p e s m below meth c s₁ hx hZ hby hml hown hnm hret hlk X0 e0
  refine Ends.cast (ef_27 m oa (Int32.ofNat k)) ?_
  show Ends none p e below s _ _ _ s₁ (mkF m 0 #[.val (.ref oa), .val (.int (Int32.ofNat k))] [])
  have O0 := Ok.refl h0 []
  have hkl : k < xs.length := (List.getElem?_eq_some_iff.mp hk).1
  refine E.iloadN (q := 1) X0 hx (hb hby d27_0) rfl ?_
  refine E.aloadN (q := 2) X0 hx (hb hby d27_1) rfl rfl ?_
  refine Ends.callS X0 hx hZ hown (hw _ (List.mem_of_getElem? (i := 130) rfl)) (hw _ (List.mem_of_getElem? (i := 131) rfl)) (hw _ (List.mem_of_getElem? (i := 67) rfl)) (hw _ (List.mem_of_getElem? (i := 132) rfl)) (by decide) (argsL := [(.int (Int32.ofNat k)), (.ref oa)]) (rest := []) e0 (rm28 l Z a0 hw oa k xs hkl _ A_x cs hcs S0 fv hfv S1) (W := 0) (by decide) (by decide) (by rw [hml]; rfl) (lenOf pd_4 rfl) (Nat.le_of_eq rfl) (hb hby d27_2) (by decide) (by decide) rfl ?_
  rintro T21 v21 L21 X21 ⟨rfl, e21, rfl⟩
  rw [List.append_nil] at X21
  show Ends none p e below s _ _ _ T21 (mkF m 5 #[.val (.ref oa), .val (.int (Int32.ofNat k))] [])
  refine E.aloadN (q := 6) X21 hx (hb hby d27_5) rfl rfl ?_
  refine E.iloadN (q := 7) X21 hx (hb hby d27_6) rfl ?_
  refine Ends.callS X21 hx hZ hown (hw _ (List.mem_of_getElem? (i := 124) rfl)) (hw _ (List.mem_of_getElem? (i := 125) rfl)) (hw _ (List.mem_of_getElem? (i := 67) rfl)) (hw _ (List.mem_of_getElem? (i := 126) rfl)) (by decide) (argsL := [(.ref oa), (.int (Int32.ofNat k))]) (rest := []) e21 (rm26 l Z a0 hw oa k xs x hk hC _ A_x S2 S3 S4) (W := 0) (by decide) (by decide) (by rw [hml]; rfl) (lenOf pd_5 rfl) (Nat.le_of_eq rfl) (hb hby d27_7) (by decide) (by decide) rfl ?_
  rintro T22 v22 L22 X22 ⟨rfl, e22, rfl⟩
  rw [List.append_nil] at X22
  show Ends none p e below s _ _ _ T22 (mkF m 10 #[.val (.ref oa), .val (.int (Int32.ofNat k))] [(.int x)])
  exact Ends.retS X22 hx hlk hret (by simp) (congrArg Value.int (own_nc16 hC)) (hb hby d27_10) (by decide) (by decide) ⟨rfl, e22, rfl⟩
theorem efCa0 (m : MethodId) (x0 : Addr) (x1 : Int32) : entryFrame m #[(.ref x0), (.int x1)] 2 = mkF m 0 #[.val (.ref x0), .val (.int x1)] [] := by first | (simp [entryFrame, mkF, argsToLocals, Value.category]; done) | rfl
set_option maxRecDepth 65536 in
set_option maxHeartbeats 40000000 in
theorem rmCa0 (l : Launch) (Z : State) (a0 : Array Value) (hw : ∀ d ∈ tables_1, d.before a0 Z = true) (oa : Addr) (Va : Addr) (k : Nat) (xs : List Int32) (x : Int32) (hk : xs[k]? = some x) (hB : own_B x) (h0 : Heap) (Es : Exa Z h0 oa "java/lang/String") (Svs : Fld Z h0 oa "java/lang/String" "value" "[B" (.ref Va)) (Scs : Fld Z h0 oa "java/lang/String" "coder" "B" (.int (0 : Int32))) (A_x : Ary Z h0 Va .byte ((xs.map fun x => x.toInt8.toInt32).map Value.int)) (cs : Int32) (hcs : ¬ cs = (0 : Int32)) (S0 : Sta Z h0 "java/lang/String" "COMPACT_STRINGS" "Z" (.int cs)) (fv : Value) (hfv : fv = .null ∨ ∃ a, fv = .ref a) (S1 : Sta Z h0 "jdk/internal/util/Preconditions" "SIOOBE_FORMATTER" "Ljava/util/function/BiFunction;" fv) (S2 : Sta Z h0 "java/lang/StringUTF16" "$assertionsDisabled" "Z" (.int (1 : Int32))) (S3 : Sta Z h0 "java/lang/StringUTF16" "HI_BYTE_SHIFT" "I" (.int (0 : Int32))) (S4 : Sta Z h0 "java/lang/StringUTF16" "LO_BYTE_SHIFT" "I" (.int (8 : Int32))) :
    Con l (⟨"java/lang/String", "charAt", "(I)C"⟩ : MethodName) jdk_42_method_56_code 2 (some .char) [] ({ frames := 4, cells := 0, slots := 0, locals := 96 } : Room) #[(.ref oa), (.int (Int32.ofNat k))] Z h0 (fun v h L => v = some (.int x) ∧ h = h0 ∧ L = []) := by
  refine Con.of (plainFor_of_name pn_0) ?_
  intro p e s m below meth c s₁ hx hZ hby hml hown hnm hret hlk X0 e0
  refine Ends.cast (efCa0 m oa (Int32.ofNat k)) ?_
  show Ends none p e below s _ _ _ s₁ (mkF m 0 #[.val (.ref oa), .val (.int (Int32.ofNat k))] [])
  have O0 := Ok.refl h0 []
  refine E.aloadN (q := 1) X0 hx (hb hby d15_0) rfl rfl ?_
  refine Ends.callV X0 hx hZ hown (hw _ (List.mem_of_getElem? (i := 85) rfl)) (hw _ (List.mem_of_getElem? (i := 86) rfl)) (hw _ (List.mem_of_getElem? (i := 88) rfl)) (hw _ (List.mem_of_getElem? (i := 87) rfl)) (hw _ (List.mem_of_getElem? (i := 8) rfl)) (hw _ (List.mem_of_getElem? (i := 89) rfl)) (by decide) (argsL := []) (rest := []) e0 Es (rmIs0 l Z a0 hw oa _ Scs cs hcs S0) (W := 0) (by decide) (by decide) (by rw [hml]; rfl) (lenOf pd_6 rfl) (Nat.le_of_eq rfl) (hb hby d15_1) (by decide) (by decide) rfl ?_
  rintro T23 v23 L23 X23 ⟨rfl, e23, rfl⟩
  rw [List.append_nil] at X23
  show Ends none p e below s _ _ _ T23 (mkF m 4 #[.val (.ref oa), .val (.int (Int32.ofNat k))] [(.int (1 : Int32))])
  refine E.ifN (q := 7) X23 hx (hb hby d15_4) (XT.i0_eq_f (by decide)) ?_
  refine E.aloadN (q := 8) X23 hx (hb hby d15_7) rfl rfl ?_
  refine Ends.getF X23 hx hZ hown (host := "") (Or.inl (hw _ (List.mem_of_getElem? (i := 25) rfl))) Via.refl e23 Svs (hb hby d15_8) ?_
  intro T24 X24 e24
  refine E.iloadN (q := 12) X24 hx (hb hby d15_11) rfl ?_
  refine Ends.callS X24 hx hZ hown (hw _ (List.mem_of_getElem? (i := 90) rfl)) (hw _ (List.mem_of_getElem? (i := 91) rfl)) (hw _ (List.mem_of_getElem? (i := 92) rfl)) (hw _ (List.mem_of_getElem? (i := 93) rfl)) (by decide) (argsL := [(.ref Va), (.int (Int32.ofNat k))]) (rest := []) e24 (rm17 l Z a0 hw Va k (xs.map fun x => x.toInt8.toInt32) (x.toInt8.toInt32) (by rw [List.getElem?_map, hk]; rfl) _ A_x cs hcs S0 fv hfv S1) (W := 0) (by decide) (by decide) (by rw [hml]; rfl) (lenOf pd_5 rfl) (Nat.le_of_eq rfl) (hb hby d15_12) (by decide) (by decide) rfl ?_
  rintro T25 v25 L25 X25 ⟨rfl, e25, rfl⟩
  rw [List.append_nil] at X25
  show Ends none p e below s _ _ _ T25 (mkF m 15 #[.val (.ref oa), .val (.int (Int32.ofNat k))] [(.int ((x.toInt8.toInt32 &&& (255 : Int32)).toUInt32.toUInt16.toUInt32.toInt32))])
  rw [own_latc hB, own_nc hB]
  show Ends none p e below s _ _ _ T25 (mkF m 15 #[.val (.ref oa), .val (.int (Int32.ofNat k))] [(.int x)])
  exact Ends.retS X25 hx hlk hret (by simp) (congrArg Value.int (own_nc hB)) (hb hby d15_15) (by decide) (by decide) ⟨rfl, e25, rfl⟩
theorem efCa1 (m : MethodId) (x0 : Addr) (x1 : Int32) : entryFrame m #[(.ref x0), (.int x1)] 2 = mkF m 0 #[.val (.ref x0), .val (.int x1)] [] := by first | (simp [entryFrame, mkF, argsToLocals, Value.category]; done) | rfl
set_option maxRecDepth 65536 in
set_option maxHeartbeats 40000000 in
theorem rmCa1 (l : Launch) (Z : State) (a0 : Array Value) (hw : ∀ d ∈ tables_1, d.before a0 Z = true) (oa : Addr) (Va : Addr) (k : Nat) (xs : List Int32) (x : Int32) (hk : xs[k]? = some x) (hC : own_C x) (h0 : Heap) (Es : Exa Z h0 oa "java/lang/String") (Svs : Fld Z h0 oa "java/lang/String" "value" "[B" (.ref Va)) (Scs : Fld Z h0 oa "java/lang/String" "coder" "B" (.int (1 : Int32))) (A_x : Ary Z h0 Va .byte ((own_utf xs).map Value.int)) (cs : Int32) (hcs : ¬ cs = (0 : Int32)) (S0 : Sta Z h0 "java/lang/String" "COMPACT_STRINGS" "Z" (.int cs)) (fv : Value) (hfv : fv = .null ∨ ∃ a, fv = .ref a) (S1 : Sta Z h0 "jdk/internal/util/Preconditions" "SIOOBE_FORMATTER" "Ljava/util/function/BiFunction;" fv) (S2 : Sta Z h0 "java/lang/StringUTF16" "$assertionsDisabled" "Z" (.int (1 : Int32))) (S3 : Sta Z h0 "java/lang/StringUTF16" "HI_BYTE_SHIFT" "I" (.int (0 : Int32))) (S4 : Sta Z h0 "java/lang/StringUTF16" "LO_BYTE_SHIFT" "I" (.int (8 : Int32))) :
    Con l (⟨"java/lang/String", "charAt", "(I)C"⟩ : MethodName) jdk_42_method_56_code 2 (some .char) [] ({ frames := 4, cells := 0, slots := 0, locals := 96 } : Room) #[(.ref oa), (.int (Int32.ofNat k))] Z h0 (fun v h L => v = some (.int x) ∧ h = h0 ∧ L = []) := by
  refine Con.of (plainFor_of_name pn_0) ?_
  intro p e s m below meth c s₁ hx hZ hby hml hown hnm hret hlk X0 e0
  refine Ends.cast (efCa1 m oa (Int32.ofNat k)) ?_
  show Ends none p e below s _ _ _ s₁ (mkF m 0 #[.val (.ref oa), .val (.int (Int32.ofNat k))] [])
  have O0 := Ok.refl h0 []
  refine E.aloadN (q := 1) X0 hx (hb hby d15_0) rfl rfl ?_
  refine Ends.callV X0 hx hZ hown (hw _ (List.mem_of_getElem? (i := 85) rfl)) (hw _ (List.mem_of_getElem? (i := 86) rfl)) (hw _ (List.mem_of_getElem? (i := 88) rfl)) (hw _ (List.mem_of_getElem? (i := 87) rfl)) (hw _ (List.mem_of_getElem? (i := 8) rfl)) (hw _ (List.mem_of_getElem? (i := 89) rfl)) (by decide) (argsL := []) (rest := []) e0 Es (rmIs1 l Z a0 hw oa _ Scs cs hcs S0) (W := 0) (by decide) (by decide) (by rw [hml]; rfl) (lenOf pd_6 rfl) (Nat.le_of_eq rfl) (hb hby d15_1) (by decide) (by decide) rfl ?_
  rintro T26 v26 L26 X26 ⟨rfl, e26, rfl⟩
  rw [List.append_nil] at X26
  show Ends none p e below s _ _ _ T26 (mkF m 4 #[.val (.ref oa), .val (.int (Int32.ofNat k))] [(.int (0 : Int32))])
  refine E.ifY (q := 16) X26 hx (hb hby d15_4) (XT.i0_eq_t (by decide)) ?_
  refine E.aloadN (q := 17) X26 hx (hb hby d15_16) rfl rfl ?_
  refine Ends.getF X26 hx hZ hown (host := "") (Or.inl (hw _ (List.mem_of_getElem? (i := 25) rfl))) Via.refl e26 Svs (hb hby d15_17) ?_
  intro T27 X27 e27
  refine E.iloadN (q := 21) X27 hx (hb hby d15_20) rfl ?_
  refine Ends.callS X27 hx hZ hown (hw _ (List.mem_of_getElem? (i := 127) rfl)) (hw _ (List.mem_of_getElem? (i := 128) rfl)) (hw _ (List.mem_of_getElem? (i := 67) rfl)) (hw _ (List.mem_of_getElem? (i := 129) rfl)) (by decide) (argsL := [(.ref Va), (.int (Int32.ofNat k))]) (rest := []) e27 (rm27 l Z a0 hw Va k xs x hk hC _ A_x cs hcs S0 fv hfv S1 S2 S3 S4) (W := 0) (by decide) (by decide) (by rw [hml]; rfl) (lenOf pd_5 rfl) (Nat.le_of_eq rfl) (hb hby d15_21) (by decide) (by decide) rfl ?_
  rintro T28 v28 L28 X28 ⟨rfl, e28, rfl⟩
  rw [List.append_nil] at X28
  show Ends none p e below s _ _ _ T28 (mkF m 24 #[.val (.ref oa), .val (.int (Int32.ofNat k))] [(.int x)])
  exact Ends.retS X28 hx hlk hret (by simp) (congrArg Value.int (own_nc16 hC)) (hb hby d15_24) (by decide) (by decide) ⟨rfl, e28, rfl⟩
theorem own_ca (l : Launch) (Z : State) (a0 : Array Value) (hw : ∀ d ∈ tables_1, d.before a0 Z = true) (oa Va : Addr) (cd : Int32) (bs xs : List Int32) (hS : own_Str cd bs xs) (k : Nat) (x : Int32) (hk : xs[k]? = some x) (h0 : Heap) (Es : Exa Z h0 oa "java/lang/String") (Svs : Fld Z h0 oa "java/lang/String" "value" "[B" (.ref Va)) (Scs : Fld Z h0 oa "java/lang/String" "coder" "B" (.int cd)) (A_x : Ary Z h0 Va .byte (bs.map Value.int)) (cs : Int32) (hcs : ¬ cs = (0 : Int32)) (S0 : Sta Z h0 "java/lang/String" "COMPACT_STRINGS" "Z" (.int cs)) (fv : Value) (hfv : fv = .null ∨ ∃ a, fv = .ref a) (S1 : Sta Z h0 "jdk/internal/util/Preconditions" "SIOOBE_FORMATTER" "Ljava/util/function/BiFunction;" fv) (S2 : Sta Z h0 "java/lang/StringUTF16" "$assertionsDisabled" "Z" (.int (1 : Int32))) (S3 : Sta Z h0 "java/lang/StringUTF16" "HI_BYTE_SHIFT" "I" (.int (0 : Int32))) (S4 : Sta Z h0 "java/lang/StringUTF16" "LO_BYTE_SHIFT" "I" (.int (8 : Int32))) : Con l (⟨"java/lang/String", "charAt", "(I)C"⟩ : MethodName) jdk_42_method_56_code 2 (some .char) [] ({ frames := 4, cells := 0, slots := 0, locals := 96 } : Room) #[.ref oa, .int (Int32.ofNat k)] Z h0 (fun v h L => v = some (.int x) ∧ h = h0 ∧ L = []) := by
  obtain ⟨hC, ⟨rfl, rfl, hB⟩ | ⟨rfl, rfl⟩⟩ := hS
  · exact rmCa0 l Z a0 hw oa Va k xs x hk (hB x (List.mem_of_getElem? hk)) h0 Es Svs Scs A_x cs hcs S0 fv hfv S1 S2 S3 S4
  · exact rmCa1 l Z a0 hw oa Va k xs x hk (hC x (List.mem_of_getElem? hk)) h0 Es Svs Scs A_x cs hcs S0 fv hfv S1 S2 S3 S4
theorem ef_13 (m : MethodId) (x0 : Addr) (x1 : Int32) (x2 : Addr) (x3 : Int32) (x4 : Int32) : entryFrame m #[(.ref x0), (.int x1), (.ref x2), (.int x3), (.int x4)] 7 = mkF m 0 #[.val (.ref x0), .val (.int x1), .val (.ref x2), .val (.int x3), .val (.int x4), .unset, .unset] [] := by first | (simp [entryFrame, mkF, argsToLocals, Value.category]; done) | rfl
set_option maxRecDepth 65536 in
set_option maxHeartbeats 40000000 in
theorem rm13 (l : Launch) (Z : State) (a0 : Array Value) (hw : ∀ d ∈ tables_1, d.before a0 Z = true) (oc : Addr) (od : Addr) (xs : List Int32) (hxs : ∀ x ∈ xs, own_C x) (h6 : xs.length ≤ 6) (h0 : Heap) (A_c : Ary Z h0 oc .char (xs.map Value.int)) (A_d : Ary Z h0 od .byte ((List.replicate xs.length (0 : Int32)).map Value.int)) (hne : oc ≠ od) :
    Con l (⟨"java/lang/StringUTF16", "compress", "([CI[BII)I"⟩ : MethodName) jdk_52_method_21_code 7 (some .int) [] ({ frames := 0, cells := 0, slots := 0, locals := 0 } : Room) #[(.ref oc), (.int (0 : Int32)), (.ref od), (.int (0 : Int32)), (.int (Int32.ofNat xs.length))] Z h0 (fun v h L => ∃ r : Nat, v = some (.int (Int32.ofNat r)) ∧ Ok h0 h [od] L ∧ ((r = xs.length ∧ (∀ x ∈ xs, own_B x) ∧ Ary Z h od .byte ((xs.map fun x => x.toInt8.toInt32).map Value.int)) ∨ (r < xs.length ∧ ∃ x, xs[r]? = some x ∧ (255 : Int32) < x))) := by
  refine Con.of (plainFor_of_name pn_3) ?_
  intro p e s m below meth c s₁ hx hZ hby hml hown hnm hret hlk X0 e0
  refine Ends.cast (ef_13 m oc (0 : Int32) od (0 : Int32) (Int32.ofNat xs.length)) ?_
  show Ends none p e below s _ _ _ s₁ (mkF m 0 #[.val (.ref oc), .val (.int (0 : Int32)), .val (.ref od), .val (.int (0 : Int32)), .val (.int (Int32.ofNat xs.length)), .unset, .unset] [])
  have O0 := Ok.refl h0 [od]
  refine E.iconst (q := 1) (v := (0 : Int32)) X0 hx (hb hby d13_0) rfl ?_
  refine E.istore (q := 3) (l' := #[.val (.ref oc), .val (.int (0 : Int32)), .val (.ref od), .val (.int (0 : Int32)), .val (.int (Int32.ofNat xs.length)), .val (.int (0 : Int32)), .unset]) X0 hx (hb hby d13_1) rfl ?_
  have J : ∀ mm i, i + mm = xs.length → (∀ k x, k < i → xs[k]? = some x → own_B x) → ∀ l6 : Slot, (l6 = .unset ∨ ∃ q, l6 = .val (.int q)) → ∀ (Tj : State) (hj : Heap) (lj : List Loc), Stand p l e ({ frames := 0, cells := 0, slots := 0, locals := 0 } : Room) s m #[(.ref oc), (.int (0 : Int32)), (.ref od), (.int (0 : Int32)), (.int (Int32.ofNat xs.length))] below meth c Tj lj 0 0 → Tj.heap = hj → Ok h0 hj [od] lj → Ary Z hj od .byte ((((xs.take i).map fun x => x.toInt8.toInt32) ++ List.replicate (xs.length - i) (0 : Int32)).map Value.int) → Ends none p e below s (fun v h L => ∃ r : Nat, v = some (.int (Int32.ofNat r)) ∧ Ok h0 h [od] L ∧ ((r = xs.length ∧ (∀ x ∈ xs, own_B x) ∧ Ary Z h od .byte ((xs.map fun x => x.toInt8.toInt32).map Value.int)) ∨ (r < xs.length ∧ ∃ x, xs[r]? = some x ∧ (255 : Int32) < x))) ({ frames := 0, cells := 0, slots := 0, locals := 0 } : Room).cells ({ frames := 0, cells := 0, slots := 0, locals := 0 } : Room).slots Tj (mkF m 3 #[.val (.ref oc), .val (.int (Int32.ofNat i)), .val (.ref od), .val (.int (Int32.ofNat i)), .val (.int (Int32.ofNat xs.length)), .val (.int (Int32.ofNat i)), l6] []) := by
    intro mm
    induction mm with
    | zero =>
      intro i hi hB l6 hl6 Tj hj lj Xj ej Oj Aj
      have hi' : i = xs.length := by omega
      subst hi'
      show Ends none p e below s _ _ _ Tj (mkF m 3 #[.val (.ref oc), .val (.int (Int32.ofNat xs.length)), .val (.ref od), .val (.int (Int32.ofNat xs.length)), .val (.int (Int32.ofNat xs.length)), .val (.int (Int32.ofNat xs.length)), l6] [])
      refine E.iload (q := 5) Xj hx (hb hby d13_3) rfl ?_
      refine E.iload (q := 7) Xj hx (hb hby d13_5) rfl ?_
      refine E.icmpY (q := 44) Xj hx (hb hby d13_7) (XT.ii_ge_t (Int32.lt_irrefl)) ?_
      refine E.iload (q := 46) Xj hx (hb hby d13_44) rfl ?_
      have hAll : ∀ x ∈ xs, own_B x := fun x hx' => by obtain ⟨k, hk, e⟩ := List.getElem_of_mem hx'; exact hB k x hk (by rw [List.getElem?_eq_getElem hk, e])
      subst ej
      exact Ends.retI Xj hx hlk hret (hb hby d13_46) (by decide) (by decide) ⟨_, rfl, Oj, Or.inl ⟨rfl, hAll, by simpa using Aj⟩⟩
    | succ mm ih =>
      intro i hi hB l6 hl6 Tj hj lj Xj ej Oj Aj
      have hi1 : i < xs.length := by omega
      obtain ⟨x, hxi⟩ : ∃ x, xs[i]? = some x := ⟨_, List.getElem?_eq_getElem hi1⟩
      show Ends none p e below s _ _ _ Tj (mkF m 3 #[.val (.ref oc), .val (.int (Int32.ofNat i)), .val (.ref od), .val (.int (Int32.ofNat i)), .val (.int (Int32.ofNat xs.length)), .val (.int (Int32.ofNat i)), l6] [])
      refine E.iload (q := 5) Xj hx (hb hby d13_3) rfl ?_
      refine E.iload (q := 7) Xj hx (hb hby d13_5) rfl ?_
      refine E.icmpN (q := 10) Xj hx (hb hby d13_7) (XT.ii_ge_f ((own_ltN (by omega) (by omega)).mpr hi1)) ?_
      refine E.aloadN (q := 11) Xj hx (hb hby d13_10) rfl rfl ?_
      refine E.iloadN (q := 12) Xj hx (hb hby d13_11) rfl ?_
      have f29 := A_c.keep Oj.1 (ninS hne nin0)
      refine Ends.cld Xj hx hZ ej f29 (i := i) (v := .int x) rfl (by rw [List.getElem?_map, hxi]; rfl) (hb hby d13_12) ?_
      show Ends none p e below s _ _ _ Tj (mkF m 13 #[.val (.ref oc), .val (.int (Int32.ofNat i)), .val (.ref od), .val (.int (Int32.ofNat i)), .val (.int (Int32.ofNat xs.length)), .val (.int (Int32.ofNat i)), l6] [(.int x)])
      have st6 : storeLocals #[.val (.ref oc), .val (.int (Int32.ofNat i)), .val (.ref od), .val (.int (Int32.ofNat i)), .val (.int (Int32.ofNat xs.length)), .val (.int (Int32.ofNat i)), l6] 6 (.int x) = some #[.val (.ref oc), .val (.int (Int32.ofNat i)), .val (.ref od), .val (.int (Int32.ofNat i)), .val (.int (Int32.ofNat xs.length)), .val (.int (Int32.ofNat i)), .val (.int x)] := by rcases hl6 with rfl | ⟨q, rfl⟩ <;> rfl
      refine E.istore (q := 15) (l' := #[.val (.ref oc), .val (.int (Int32.ofNat i)), .val (.ref od), .val (.int (Int32.ofNat i)), .val (.int (Int32.ofNat xs.length)), .val (.int (Int32.ofNat i)), .val (.int x)]) Xj hx (hb hby d13_13) st6 ?_
      refine E.iload (q := 17) Xj hx (hb hby d13_15) rfl ?_
      refine E.sipush (q := 20) (v := (255 : Int32)) Xj hx (hb hby d13_17) rfl ?_
      by_cases hgt : (255 : Int32) < x
      · refine E.icmpN (q := 23) Xj hx (hb hby d13_20) (XT.ii_le_f hgt) ?_
        refine E.iload (q := 25) Xj hx (hb hby d13_23) rfl ?_
        subst ej
        exact Ends.retI Xj hx hlk hret (hb hby d13_25) (by decide) (by decide) ⟨_, rfl, Oj, Or.inr ⟨hi1, x, hxi, hgt⟩⟩
      · refine E.icmpY (q := 26) Xj hx (hb hby d13_20) (XT.ii_le_t hgt) ?_
        refine E.aloadN (q := 27) Xj hx (hb hby d13_26) rfl rfl ?_
        refine E.iloadN (q := 28) Xj hx (hb hby d13_27) rfl ?_
        refine E.iload (q := 30) Xj hx (hb hby d13_28) rfl ?_
        refine E.i2b (q := 31) Xj hx (hb hby d13_30) ?_
        refine Ends.bst Xj hx hZ ej Aj (x' := x.toInt8.toInt32) (own_nb8 _) (i := i) rfl (by simp; omega) (hb hby d13_31) ?_
        intro T30 h30 X30 e30 W30 V30
        rw [← List.map_set, own_latD hxi] at V30
        have O30 := Oj.wr W30 (Or.inl (List.mem_of_getElem? (i := 0) rfl))
        show Ends none p e below s _ _ _ T30 (mkF m 32 #[.val (.ref oc), .val (.int (Int32.ofNat i)), .val (.ref od), .val (.int (Int32.ofNat i)), .val (.int (Int32.ofNat xs.length)), .val (.int (Int32.ofNat i)), .val (.int x)] [])
        refine E.iinc (q := 35) (v := ((Int32.ofNat i) + (1 : Int32))) (l' := #[.val (.ref oc), .val (.int ((Int32.ofNat i) + (1 : Int32))), .val (.ref od), .val (.int (Int32.ofNat i)), .val (.int (Int32.ofNat xs.length)), .val (.int (Int32.ofNat i)), .val (.int x)]) X30 hx (hb hby d13_32) rfl rfl rfl ?_
        refine E.iinc (q := 38) (v := ((Int32.ofNat i) + (1 : Int32))) (l' := #[.val (.ref oc), .val (.int ((Int32.ofNat i) + (1 : Int32))), .val (.ref od), .val (.int ((Int32.ofNat i) + (1 : Int32))), .val (.int (Int32.ofNat xs.length)), .val (.int (Int32.ofNat i)), .val (.int x)]) X30 hx (hb hby d13_35) rfl rfl rfl ?_
        refine E.iinc (q := 41) (v := ((Int32.ofNat i) + (1 : Int32))) (l' := #[.val (.ref oc), .val (.int ((Int32.ofNat i) + (1 : Int32))), .val (.ref od), .val (.int ((Int32.ofNat i) + (1 : Int32))), .val (.int (Int32.ofNat xs.length)), .val (.int ((Int32.ofNat i) + (1 : Int32))), .val (.int x)]) X30 hx (hb hby d13_38) rfl rfl rfl ?_
        refine E.goto (q := 3) X30 hx (hb hby d13_41) ?_
        rw [own_succ i]
        have hB2 : ∀ k z, k < i + 1 → xs[k]? = some z → own_B z := fun k z hk hz => (Nat.lt_succ_iff_lt_or_eq.mp hk).elim (fun q => hB k z q hz) (fun q => by rw [q, hxi] at hz; cases hz; exact own_C0 (hxs _ (List.mem_of_getElem? hxi)) hgt)
        exact ih (i + 1) (by omega) hB2 _ (Or.inr ⟨_, rfl⟩) _ _ _ X30 e30 O30 V30
  exact J xs.length 0 (by omega) (fun k x q => absurd q (Nat.not_lt_zero k)) _ (Or.inl rfl) _ _ _ X0 e0 O0 (by simpa using A_d)
theorem ef_25 (m : MethodId) (x0 : Addr) (x1 : Int32) (x2 : Int32) : entryFrame m #[(.ref x0), (.int x1), (.int x2)] 3 = mkF m 0 #[.val (.ref x0), .val (.int x1), .val (.int x2)] [] := by first | (simp [entryFrame, mkF, argsToLocals, Value.category]; done) | rfl
set_option maxRecDepth 65536 in
set_option maxHeartbeats 40000000 in
theorem rm25 (l : Launch) (Z : State) (a0 : Array Value) (hw : ∀ d ∈ tables_1, d.before a0 Z = true) (ob : Addr) (x : Int32) (k : Nat) (vs : List Int32) (hk : 2 * k + 1 < vs.length) (h0 : Heap) (A_b : Ary Z h0 ob .byte (vs.map Value.int)) (B_b : ∀ cell : Cell, h0[ob]? = some cell → cell.vm.isStatics = false) (S2 : Sta Z h0 "java/lang/StringUTF16" "$assertionsDisabled" "Z" (.int (1 : Int32))) (S3 : Sta Z h0 "java/lang/StringUTF16" "HI_BYTE_SHIFT" "I" (.int (0 : Int32))) (S4 : Sta Z h0 "java/lang/StringUTF16" "LO_BYTE_SHIFT" "I" (.int (8 : Int32))) :
    Con l (⟨"java/lang/StringUTF16", "putChar", "([BII)V"⟩ : MethodName) jdk_52_method_4_code 3 none [] ({ frames := 0, cells := 0, slots := 0, locals := 0 } : Room) #[(.ref ob), (.int (Int32.ofNat k)), (.int x)] Z h0 (fun v h L => v = none ∧ Ok h0 h [ob] L ∧ Ary Z h ob .byte (((vs.set (2 * k) ((x >>> ((0 : Int32) &&& 31)).toInt8.toInt32)).set (2 * k + 1) ((x >>> ((8 : Int32) &&& 31)).toInt8.toInt32)).map Value.int)) := by
  refine Con.of (plainFor_of_name pn_3) ?_
  intro p e s m below meth c s₁ hx hZ hby hml hown hnm hret hlk X0 e0
  refine Ends.cast (ef_25 m ob (Int32.ofNat k) x) ?_
  show Ends none p e below s _ _ _ s₁ (mkF m 0 #[.val (.ref ob), .val (.int (Int32.ofNat k)), .val (.int x)] [])
  have O0 := Ok.refl h0 [ob]
  have lx : vs.length < 2 ^ 31 := by have := A_b.len; rwa [List.length_map] at this
  refine Ends.getS X0 hx hZ hown (host := "") (Or.inl (hw _ (List.mem_of_getElem? (i := 121) rfl))) Via.refl e0 (own_sta_keep S2 O0.1 (own_ns1 B_b)) (hb hby d25_0) ?_
  intro T31 X31 e31
  refine E.ifY (q := 28) X31 hx (hb hby d25_3) (XT.i0_ne_t (by decide)) ?_
  refine E.iloadN (q := 29) X31 hx (hb hby d25_28) rfl ?_
  refine E.iconst (q := 30) (v := (1 : Int32)) X31 hx (hb hby d25_29) rfl ?_
  refine E.ishl (q := 31) X31 hx (hb hby d25_30) ?_
  rw [own_shl1 (by omega)]
  show Ends none p e below s _ _ _ T31 (mkF m 31 #[.val (.ref ob), .val (.int (Int32.ofNat k)), .val (.int x)] [(.int (Int32.ofNat (2 * k)))])
  refine E.istoreN (q := 32) (l' := #[.val (.ref ob), .val (.int (Int32.ofNat (2 * k))), .val (.int x)]) X31 hx (hb hby d25_31) rfl ?_
  refine E.aloadN (q := 33) X31 hx (hb hby d25_32) rfl rfl ?_
  refine E.iloadN (q := 34) X31 hx (hb hby d25_33) rfl ?_
  refine E.iinc (q := 37) (v := ((Int32.ofNat (2 * k)) + (1 : Int32))) (l' := #[.val (.ref ob), .val (.int ((Int32.ofNat (2 * k)) + (1 : Int32))), .val (.int x)]) X31 hx (hb hby d25_34) rfl rfl rfl ?_
  refine E.iloadN (q := 38) X31 hx (hb hby d25_37) rfl ?_
  refine Ends.getS X31 hx hZ hown (host := "") (Or.inl (hw _ (List.mem_of_getElem? (i := 122) rfl))) Via.refl e31 (own_sta_keep S3 O0.1 (own_ns1 B_b)) (hb hby d25_38) ?_
  intro T32 X32 e32
  refine E.ishr (q := 42) X32 hx (hb hby d25_41) ?_
  refine E.i2b (q := 43) X32 hx (hb hby d25_42) ?_
  refine Ends.bst X32 hx hZ e32 A_b (x' := (x >>> ((0 : Int32) &&& 31)).toInt8.toInt32) (own_nb8 _) (i := 2 * k) rfl (by simp only [List.length_map, List.length_set]; omega) (hb hby d25_43) ?_
  intro T33 h33 X33 e33 W33 V33
  rw [← List.map_set] at V33
  have O33 := O0.wr W33 (Or.inl (List.mem_of_getElem? (i := 0) rfl))
  show Ends none p e below s _ _ _ T33 (mkF m 44 #[.val (.ref ob), .val (.int ((Int32.ofNat (2 * k)) + (1 : Int32))), .val (.int x)] [])
  refine E.aloadN (q := 45) X33 hx (hb hby d25_44) rfl rfl ?_
  refine E.iloadN (q := 46) X33 hx (hb hby d25_45) rfl ?_
  refine E.iloadN (q := 47) X33 hx (hb hby d25_46) rfl ?_
  refine Ends.getS X33 hx hZ hown (host := "") (Or.inl (hw _ (List.mem_of_getElem? (i := 123) rfl))) Via.refl e33 (own_sta_keep S4 O33.1 (own_ns1 B_b)) (hb hby d25_47) ?_
  intro T34 X34 e34
  refine E.ishr (q := 51) X34 hx (hb hby d25_50) ?_
  refine E.i2b (q := 52) X34 hx (hb hby d25_51) ?_
  refine Ends.bst X34 hx hZ e34 V33 (x' := (x >>> ((8 : Int32) &&& 31)).toInt8.toInt32) (own_nb8 _) (i := 2 * k + 1) (own_succ (2 * k)) (by simp only [List.length_map, List.length_set]; omega) (hb hby d25_52) ?_
  intro T35 h35 X35 e35 W35 V35
  rw [← List.map_set] at V35
  have O35 := O33.wr W35 (Or.inl (List.mem_of_getElem? (i := 0) rfl))
  show Ends none p e below s _ _ _ T35 (mkF m 53 #[.val (.ref ob), .val (.int ((Int32.ofNat (2 * k)) + (1 : Int32))), .val (.int x)] [])
  subst e35
  exact Ends.retV X35 hx hlk hret (hb hby d25_53) (by decide) (by decide) ⟨rfl, O35, V35⟩
theorem ef_24 (m : MethodId) (x0 : Int32) : entryFrame m #[(.int x0)] 1 = mkF m 0 #[.val (.int x0)] [] := by first | (simp [entryFrame, mkF, argsToLocals, Value.category]; done) | rfl
set_option maxRecDepth 65536 in
set_option maxHeartbeats 40000000 in
theorem rm24 (l : Launch) (Z : State) (a0 : Array Value) (hw : ∀ d ∈ tables_1, d.before a0 Z = true) (n : Nat) (h6 : n ≤ 6) (h0 : Heap) :
    Con l (⟨"java/lang/StringUTF16", "newBytesLength", "(I)I"⟩ : MethodName) jdk_52_method_3_code 1 (some .int) [] ({ frames := 0, cells := 0, slots := 0, locals := 0 } : Room) #[(.int (Int32.ofNat n))] Z h0 (fun v h L => v = some (.int (Int32.ofNat (2 * n))) ∧ h = h0 ∧ L = []) := by
  refine Con.of (plainFor_of_name pn_3) ?_
  intro p e s m below meth c s₁ hx hZ hby hml hown hnm hret hlk X0 e0
  refine Ends.cast (ef_24 m (Int32.ofNat n)) ?_
  show Ends none p e below s _ _ _ s₁ (mkF m 0 #[.val (.int (Int32.ofNat n))] [])
  have O0 := Ok.refl h0 []
  refine E.iloadN (q := 1) X0 hx (hb hby d24_0) rfl ?_
  refine E.ifY (q := 12) X0 hx (hb hby d24_1) (XT.i0_ge_t (own_clamp (by omega)).2) ?_
  refine E.iloadN (q := 13) X0 hx (hb hby d24_12) rfl ?_
  refine E.ldc (q := 15) X0 hx hZ hown (hw _ (List.mem_of_getElem? (i := 117) rfl)) (hb hby d24_13) ?_
  refine E.icmpY (q := 55) X0 hx (hb hby d24_15) (XT.ii_lt_t (by rw [show (1073741823 : Int32) = Int32.ofNat 1073741823 from rfl, own_ltN (by omega) (by omega)]; omega)) ?_
  refine E.iloadN (q := 56) X0 hx (hb hby d24_55) rfl ?_
  refine E.iconst (q := 57) (v := (1 : Int32)) X0 hx (hb hby d24_56) rfl ?_
  refine E.ishl (q := 58) X0 hx (hb hby d24_57) ?_
  rw [own_shl1 (by omega)]
  show Ends none p e below s _ _ _ s₁ (mkF m 58 #[.val (.int (Int32.ofNat n))] [(.int (Int32.ofNat (2 * n)))])
  exact Ends.retI X0 hx hlk hret (hb hby d24_58) (by decide) (by decide) ⟨rfl, e0, rfl⟩
theorem ef_23 (m : MethodId) (x0 : Int32) : entryFrame m #[(.int x0)] 1 = mkF m 0 #[.val (.int x0)] [] := by first | (simp [entryFrame, mkF, argsToLocals, Value.category]; done) | rfl
set_option maxRecDepth 65536 in
set_option maxHeartbeats 40000000 in
theorem rm23 (l : Launch) (Z : State) (a0 : Array Value) (hw : ∀ d ∈ tables_1, d.before a0 Z = true) (n : Nat) (h6 : n ≤ 6) (h0 : Heap) :
    Con l (⟨"java/lang/StringUTF16", "newBytesFor", "(I)[B"⟩ : MethodName) jdk_52_method_2_code 1 (some (.array .byte)) [] ({ frames := 1, cells := 1, slots := 12, locals := 24 } : Room) #[(.int (Int32.ofNat n))] Z h0 (fun v h L => ∃ b, v = some (.ref b) ∧ h0.size ≤ b ∧ Ok h0 h [] L ∧ Ary Z h b .byte ((List.replicate (2 * n) (0 : Int32)).map Value.int)) := by
  refine Con.of (plainFor_of_name pn_3) ?_
  intro p e s m below meth c s₁ hx hZ hby hml hown hnm hret hlk X0 e0
  refine Ends.cast (ef_23 m (Int32.ofNat n)) ?_
  show Ends none p e below s _ _ _ s₁ (mkF m 0 #[.val (.int (Int32.ofNat n))] [])
  have O0 := Ok.refl h0 []
  refine E.iloadN (q := 1) X0 hx (hb hby d23_0) rfl ?_
  refine Ends.callS X0 hx hZ hown (hw _ (List.mem_of_getElem? (i := 114) rfl)) (hw _ (List.mem_of_getElem? (i := 115) rfl)) (hw _ (List.mem_of_getElem? (i := 67) rfl)) (hw _ (List.mem_of_getElem? (i := 116) rfl)) (by decide) (argsL := [(.int (Int32.ofNat n))]) (rest := []) e0 (rm24 l Z a0 hw n h6 _) (W := 0) (by decide) (by decide) (by rw [hml]; rfl) (lenOf pd_7 rfl) (Nat.le_of_eq rfl) (hb hby d23_1) (by decide) (by decide) rfl ?_
  rintro T36 v36 L36 X36 ⟨rfl, e36, rfl⟩
  rw [List.append_nil] at X36
  show Ends none p e below s _ _ _ T36 (mkF m 4 #[.val (.int (Int32.ofNat n))] [(.int (Int32.ofNat (2 * n)))])
  refine Ends.newA X36 hx hZ (hw _ (List.mem_of_getElem? (i := 20) rfl)) e36 (hb hby d23_4) (N := (2 * n)) rfl (by omega) (by decide) (by show 0 + (2 * n) ≤ 12; omega) ?_
  intro T37 h37 b37 g37 X37 e37 E37 A37
  have ge_b37 : h0.size ≤ b37 := Nat.le_trans O0.le (Nat.le_of_eq g37.symm)
  have O37 := O0.ext E37
  have V37 : Ary Z h37 b37 .byte ((List.replicate (2 * n) (0 : Int32)).map Value.int) := by rw [List.map_replicate]; exact A37
  show Ends none p e below s _ _ _ T37 (mkF m 6 #[.val (.int (Int32.ofNat n))] [(.ref b37)])
  subst e37
  exact Ends.retA X37 hx hlk hret rfl rfl rfl (hb hby d23_6) (by decide) (by show 0 + 2 * n ≤ 12; omega) ⟨_, rfl, ge_b37, O37, V37⟩
theorem ef_22 (m : MethodId) (x0 : Addr) (x1 : Int32) (x2 : Int32) : entryFrame m #[(.ref x0), (.int x1), (.int x2)] 5 = mkF m 0 #[.val (.ref x0), .val (.int x1), .val (.int x2), .unset, .unset] [] := by first | (simp [entryFrame, mkF, argsToLocals, Value.category]; done) | rfl
set_option maxRecDepth 65536 in
set_option maxHeartbeats 40000000 in
theorem rm22 (l : Launch) (Z : State) (a0 : Array Value) (hw : ∀ d ∈ tables_1, d.before a0 Z = true) (oc : Addr) (xs : List Int32) (h6 : xs.length ≤ 6) (h0 : Heap) (A_c : Ary Z h0 oc .char (xs.map Value.int)) (S2 : Sta Z h0 "java/lang/StringUTF16" "$assertionsDisabled" "Z" (.int (1 : Int32))) (S3 : Sta Z h0 "java/lang/StringUTF16" "HI_BYTE_SHIFT" "I" (.int (0 : Int32))) (S4 : Sta Z h0 "java/lang/StringUTF16" "LO_BYTE_SHIFT" "I" (.int (8 : Int32))) :
    Con l (⟨"java/lang/StringUTF16", "toBytes", "([CII)[B"⟩ : MethodName) jdk_52_method_14_code 5 (some (.array .byte)) [] ({ frames := 2, cells := 1, slots := 12, locals := 48 } : Room) #[(.ref oc), (.int (0 : Int32)), (.int (Int32.ofNat xs.length))] Z h0 (fun v h L => ∃ b, v = some (.ref b) ∧ h0.size ≤ b ∧ Ok h0 h [] L ∧ Ary Z h b .byte ((own_utf xs).map Value.int)) := by
  refine Con.of (plainFor_of_name pn_3) ?_
  intro p e s m below meth c s₁ hx hZ hby hml hown hnm hret hlk X0 e0
  refine Ends.cast (ef_22 m oc (0 : Int32) (Int32.ofNat xs.length)) ?_
  show Ends none p e below s _ _ _ s₁ (mkF m 0 #[.val (.ref oc), .val (.int (0 : Int32)), .val (.int (Int32.ofNat xs.length)), .unset, .unset] [])
  have O0 := Ok.refl h0 []
  refine E.iloadN (q := 1) X0 hx (hb hby d22_0) rfl ?_
  refine Ends.callS X0 hx hZ hown (hw _ (List.mem_of_getElem? (i := 111) rfl)) (hw _ (List.mem_of_getElem? (i := 112) rfl)) (hw _ (List.mem_of_getElem? (i := 67) rfl)) (hw _ (List.mem_of_getElem? (i := 113) rfl)) (by decide) (argsL := [(.int (Int32.ofNat xs.length))]) (rest := []) e0 (rm23 l Z a0 hw xs.length h6 _) (W := 0) (by decide) (by decide) (by rw [hml]; rfl) (lenOf pd_8 rfl) (Nat.le_of_eq rfl) (hb hby d22_1) (by decide) (by decide) rfl ?_
  rintro T38 v38 L38 X38 ⟨bb, rfl, ge_bb, hO38, V38⟩
  have e38 : T38.heap = T38.heap := rfl
  have O38 := O0.call hO38 all0
  show Ends none p e below s _ _ _ T38 (mkF m 4 #[.val (.ref oc), .val (.int (0 : Int32)), .val (.int (Int32.ofNat xs.length)), .unset, .unset] [(.ref bb)])
  have nb : oc ≠ bb := Nat.ne_of_lt (Nat.lt_of_lt_of_le A_c.lt ge_bb)
  refine E.astoreN (q := 5) (l' := #[.val (.ref oc), .val (.int (0 : Int32)), .val (.int (Int32.ofNat xs.length)), .val (.ref bb), .unset]) X38 hx (hb hby d22_4) rfl rfl ?_
  refine E.iconst (q := 6) (v := (0 : Int32)) X38 hx (hb hby d22_5) rfl ?_
  refine E.istore (q := 8) (l' := #[.val (.ref oc), .val (.int (0 : Int32)), .val (.int (Int32.ofNat xs.length)), .val (.ref bb), .val (.int (0 : Int32))]) X38 hx (hb hby d22_6) rfl ?_
  have J : ∀ mm i, i + mm = xs.length → ∀ (Tj : State) (hj : Heap) (lj : List Loc), Stand p l e ({ frames := 2, cells := 1, slots := 12, locals := 48 } : Room) s m #[(.ref oc), (.int (0 : Int32)), (.int (Int32.ofNat xs.length))] below meth c Tj lj 1 12 → Tj.heap = hj → Ok h0 hj [] lj → Ary Z hj bb .byte ((own_utf (xs.take i) ++ List.replicate (2 * xs.length - 2 * i) (0 : Int32)).map Value.int) → Ends none p e below s (fun v h L => ∃ b, v = some (.ref b) ∧ h0.size ≤ b ∧ Ok h0 h [] L ∧ Ary Z h b .byte ((own_utf xs).map Value.int)) ({ frames := 2, cells := 1, slots := 12, locals := 48 } : Room).cells ({ frames := 2, cells := 1, slots := 12, locals := 48 } : Room).slots Tj (mkF m 8 #[.val (.ref oc), .val (.int (Int32.ofNat i)), .val (.int (Int32.ofNat xs.length)), .val (.ref bb), .val (.int (Int32.ofNat i))] []) := by
    intro mm
    induction mm with
    | zero =>
      intro i hi Tj hj lj Xj ej Oj Aj
      have hi' : i = xs.length := by omega
      subst hi'
      show Ends none p e below s _ _ _ Tj (mkF m 8 #[.val (.ref oc), .val (.int (Int32.ofNat xs.length)), .val (.int (Int32.ofNat xs.length)), .val (.ref bb), .val (.int (Int32.ofNat xs.length))] [])
      refine E.iload (q := 10) Xj hx (hb hby d22_8) rfl ?_
      refine E.iloadN (q := 11) Xj hx (hb hby d22_10) rfl ?_
      refine E.icmpY (q := 32) Xj hx (hb hby d22_11) (XT.ii_ge_t (Int32.lt_irrefl)) ?_
      refine E.aloadN (q := 33) Xj hx (hb hby d22_32) rfl rfl ?_
      subst ej
      exact Ends.retA Xj hx hlk hret rfl rfl rfl (hb hby d22_33) (by decide) (by decide) ⟨_, rfl, ge_bb, Oj, by simpa using Aj⟩
    | succ mm ih =>
      intro i hi Tj hj lj Xj ej Oj Aj
      have hi1 : i < xs.length := by omega
      obtain ⟨x, hxi⟩ : ∃ x, xs[i]? = some x := ⟨_, List.getElem?_eq_getElem hi1⟩
      show Ends none p e below s _ _ _ Tj (mkF m 8 #[.val (.ref oc), .val (.int (Int32.ofNat i)), .val (.int (Int32.ofNat xs.length)), .val (.ref bb), .val (.int (Int32.ofNat i))] [])
      refine E.iload (q := 10) Xj hx (hb hby d22_8) rfl ?_
      refine E.iloadN (q := 11) Xj hx (hb hby d22_10) rfl ?_
      refine E.icmpN (q := 14) Xj hx (hb hby d22_11) (XT.ii_ge_f ((own_ltN (by omega) (by omega)).mpr hi1)) ?_
      refine E.aloadN (q := 15) Xj hx (hb hby d22_14) rfl rfl ?_
      refine E.iload (q := 17) Xj hx (hb hby d22_15) rfl ?_
      refine E.aloadN (q := 18) Xj hx (hb hby d22_17) rfl rfl ?_
      refine E.iloadN (q := 19) Xj hx (hb hby d22_18) rfl ?_
      have f39 := A_c.keep Oj.1 nin0
      refine Ends.cld Xj hx hZ ej f39 (i := i) (v := .int x) rfl (by rw [List.getElem?_map, hxi]; rfl) (hb hby d22_19) ?_
      show Ends none p e below s _ _ _ Tj (mkF m 20 #[.val (.ref oc), .val (.int (Int32.ofNat i)), .val (.int (Int32.ofNat xs.length)), .val (.ref bb), .val (.int (Int32.ofNat i))] [(.int x), (.int (Int32.ofNat i)), (.ref bb)])
      refine Ends.callS Xj hx hZ hown (hw _ (List.mem_of_getElem? (i := 118) rfl)) (hw _ (List.mem_of_getElem? (i := 119) rfl)) (hw _ (List.mem_of_getElem? (i := 67) rfl)) (hw _ (List.mem_of_getElem? (i := 120) rfl)) (by decide) (argsL := [(.ref bb), (.int (Int32.ofNat i)), (.int x)]) (rest := []) ej (rm25 l Z a0 hw bb x i (own_utf (xs.take i) ++ List.replicate (2 * xs.length - 2 * i) (0 : Int32)) (by simp only [List.length_append, own_utf_len, List.length_replicate, List.length_take]; omega) _ Aj (fun cell q => own_nsA Aj q) (own_sta_keep S2 Oj.1 own_ns0) (own_sta_keep S3 Oj.1 own_ns0) (own_sta_keep S4 Oj.1 own_ns0)) (W := 0) (by decide) (by decide) (by rw [hml]; rfl) (lenOf pd_9 rfl) (Nat.le_of_eq rfl) (hb hby d22_20) (by decide) (by decide) rfl ?_
      rintro T40 v40 L40 X40 ⟨rfl, hO40, V40⟩
      have e40 : T40.heap = T40.heap := rfl
      have O40 := Oj.call hO40 (allS (Or.inr ge_bb) all0)
      show Ends none p e below s _ _ _ T40 (mkF m 23 #[.val (.ref oc), .val (.int (Int32.ofNat i)), .val (.int (Int32.ofNat xs.length)), .val (.ref bb), .val (.int (Int32.ofNat i))] [])
      rw [own_utfD hxi] at V40
      refine E.iinc (q := 26) (v := ((Int32.ofNat i) + (1 : Int32))) (l' := #[.val (.ref oc), .val (.int ((Int32.ofNat i) + (1 : Int32))), .val (.int (Int32.ofNat xs.length)), .val (.ref bb), .val (.int (Int32.ofNat i))]) X40 hx (hb hby d22_23) rfl rfl rfl ?_
      refine E.iinc (q := 29) (v := ((Int32.ofNat i) + (1 : Int32))) (l' := #[.val (.ref oc), .val (.int ((Int32.ofNat i) + (1 : Int32))), .val (.int (Int32.ofNat xs.length)), .val (.ref bb), .val (.int ((Int32.ofNat i) + (1 : Int32)))]) X40 hx (hb hby d22_26) rfl rfl rfl ?_
      refine E.goto (q := 8) X40 hx (hb hby d22_29) ?_
      rw [own_succ i]
      exact ih (i + 1) (by omega) _ _ _ X40 e40 O40 V40
  exact J xs.length 0 (by omega) _ _ _ X38 e38 O38 (by simpa [own_utf] using V38)
theorem ef_12 (m : MethodId) (x0 : Addr) (x1 : Int32) (x2 : Int32) : entryFrame m #[(.ref x0), (.int x1), (.int x2)] 6 = mkF m 0 #[.val (.ref x0), .val (.int x1), .val (.int x2), .unset, .unset, .unset] [] := by first | (simp [entryFrame, mkF, argsToLocals, Value.category]; done) | rfl
set_option maxRecDepth 65536 in
set_option maxHeartbeats 40000000 in
theorem rm12 (l : Launch) (Z : State) (a0 : Array Value) (hw : ∀ d ∈ tables_1, d.before a0 Z = true) (oc : Addr) (xs : List Int32) (hxs : ∀ x ∈ xs, own_C x) (h6 : xs.length ≤ 6) (h0 : Heap) (A_c : Ary Z h0 oc .char (xs.map Value.int)) (S2 : Sta Z h0 "java/lang/StringUTF16" "$assertionsDisabled" "Z" (.int (1 : Int32))) (S3 : Sta Z h0 "java/lang/StringUTF16" "HI_BYTE_SHIFT" "I" (.int (0 : Int32))) (S4 : Sta Z h0 "java/lang/StringUTF16" "LO_BYTE_SHIFT" "I" (.int (8 : Int32))) :
    Con l (⟨"java/lang/StringUTF16", "compress", "([CII)[B"⟩ : MethodName) jdk_52_method_16_code 6 (some (.array .byte)) [] ({ frames := 3, cells := 2, slots := 18, locals := 72 } : Room) #[(.ref oc), (.int (0 : Int32)), (.int (Int32.ofNat xs.length))] Z h0 (fun v h L => ∃ (b : Addr) (bs : List Int32), v = some (.ref b) ∧ h0.size ≤ b ∧ Ok h0 h [] L ∧ Ary Z h b .byte (bs.map Value.int) ∧ ((bs = (xs.map fun x => x.toInt8.toInt32) ∧ ∀ x ∈ xs, own_B x) ∨ bs = own_utf xs)) := by
  refine Con.of (plainFor_of_name pn_3) ?_
  intro p e s m below meth c s₁ hx hZ hby hml hown hnm hret hlk X0 e0
  refine Ends.cast (ef_12 m oc (0 : Int32) (Int32.ofNat xs.length)) ?_
  show Ends none p e below s _ _ _ s₁ (mkF m 0 #[.val (.ref oc), .val (.int (0 : Int32)), .val (.int (Int32.ofNat xs.length)), .unset, .unset, .unset] [])
  have O0 := Ok.refl h0 []
  refine E.iloadN (q := 1) X0 hx (hb hby d12_0) rfl ?_
  refine Ends.newA X0 hx hZ (hw _ (List.mem_of_getElem? (i := 20) rfl)) e0 (hb hby d12_1) (N := xs.length) rfl (by omega) (by decide) (by show 0 + xs.length ≤ 18; omega) ?_
  intro T41 h41 b41 g41 X41 e41 E41 A41
  have ge_b41 : h0.size ≤ b41 := Nat.le_trans O0.le (Nat.le_of_eq g41.symm)
  have O41 := O0.ext E41
  have V41 : Ary Z h41 b41 .byte ((List.replicate xs.length (0 : Int32)).map Value.int) := by rw [List.map_replicate]; exact A41
  show Ends none p e below s _ _ _ T41 (mkF m 3 #[.val (.ref oc), .val (.int (0 : Int32)), .val (.int (Int32.ofNat xs.length)), .unset, .unset, .unset] [(.ref b41)])
  refine E.astoreN (q := 4) (l' := #[.val (.ref oc), .val (.int (0 : Int32)), .val (.int (Int32.ofNat xs.length)), .val (.ref b41), .unset, .unset]) X41 hx (hb hby d12_3) rfl rfl ?_
  refine E.aloadN (q := 5) X41 hx (hb hby d12_4) rfl rfl ?_
  refine E.iloadN (q := 6) X41 hx (hb hby d12_5) rfl ?_
  refine E.aloadN (q := 7) X41 hx (hb hby d12_6) rfl rfl ?_
  refine E.iconst (q := 8) (v := (0 : Int32)) X41 hx (hb hby d12_7) rfl ?_
  refine E.iloadN (q := 9) X41 hx (hb hby d12_8) rfl ?_
  have f42 := A_c.ext E41
  refine Ends.callS X41 hx hZ hown (hw _ (List.mem_of_getElem? (i := 69) rfl)) (hw _ (List.mem_of_getElem? (i := 70) rfl)) (hw _ (List.mem_of_getElem? (i := 67) rfl)) (hw _ (List.mem_of_getElem? (i := 71) rfl)) (by decide) (argsL := [(.ref oc), (.int (0 : Int32)), (.ref b41), (.int (0 : Int32)), (.int (Int32.ofNat xs.length))]) (rest := []) e41 (rm13 l Z a0 hw oc b41 xs hxs h6 _ f42 V41 (Nat.ne_of_lt (Nat.lt_of_lt_of_eq A_c.lt g41.symm))) (W := 0) (by decide) (by decide) (by rw [hml]; rfl) (lenOf pd_10 rfl) (Nat.le_of_eq rfl) (hb hby d12_9) (by decide) (by show 0 + xs.length + 0 ≤ 18; omega) rfl ?_
  rintro T43 v43 L43 X43 ⟨r43, rfl, hO43, hD43⟩
  have e43 : T43.heap = T43.heap := rfl
  have O43 := O41.call hO43 (allS (Or.inr ge_b41) all0)
  show Ends none p e below s _ _ _ T43 (mkF m 12 #[.val (.ref oc), .val (.int (0 : Int32)), .val (.int (Int32.ofNat xs.length)), .val (.ref b41), .unset, .unset] [(.int (Int32.ofNat r43))])
  rcases hD43 with ⟨hr, hB, AD⟩ | ⟨hr, x, hxr, hgt⟩
  · subst hr
    show Ends none p e below s _ _ _ T43 (mkF m 12 #[.val (.ref oc), .val (.int (0 : Int32)), .val (.int (Int32.ofNat xs.length)), .val (.ref b41), .unset, .unset] [(.int (Int32.ofNat xs.length))])
    refine E.istore (q := 14) (l' := #[.val (.ref oc), .val (.int (0 : Int32)), .val (.int (Int32.ofNat xs.length)), .val (.ref b41), .val (.int (Int32.ofNat xs.length)), .unset]) X43 hx (hb hby d12_12) rfl ?_
    refine E.iload (q := 16) X43 hx (hb hby d12_14) rfl ?_
    refine E.iloadN (q := 17) X43 hx (hb hby d12_16) rfl ?_
    refine E.icmpY (q := 57) X43 hx (hb hby d12_17) (XT.ii_eq_t rfl) ?_
    refine E.aloadN (q := 58) X43 hx (hb hby d12_57) rfl rfl ?_
    exact Ends.retA X43 hx hlk hret rfl rfl rfl (hb hby d12_58) (by decide) (by show 0 + xs.length + 0 ≤ 18; omega) ⟨_, _, rfl, ge_b41, O43, AD, Or.inl ⟨rfl, hB⟩⟩
  · show Ends none p e below s _ _ _ T43 (mkF m 12 #[.val (.ref oc), .val (.int (0 : Int32)), .val (.int (Int32.ofNat xs.length)), .val (.ref b41), .unset, .unset] [(.int (Int32.ofNat r43))])
    refine E.istore (q := 14) (l' := #[.val (.ref oc), .val (.int (0 : Int32)), .val (.int (Int32.ofNat xs.length)), .val (.ref b41), .val (.int (Int32.ofNat r43)), .unset]) X43 hx (hb hby d12_12) rfl ?_
    refine E.iload (q := 16) X43 hx (hb hby d12_14) rfl ?_
    refine E.iloadN (q := 17) X43 hx (hb hby d12_16) rfl ?_
    refine E.icmpN (q := 20) X43 hx (hb hby d12_17) (XT.ii_eq_f (fun e => absurd ((own_eqN (by omega) (by omega)).mp e) (by omega))) ?_
    refine E.aloadN (q := 21) X43 hx (hb hby d12_20) rfl rfl ?_
    refine E.iloadN (q := 22) X43 hx (hb hby d12_21) rfl ?_
    refine E.iloadN (q := 23) X43 hx (hb hby d12_22) rfl ?_
    have f44 := f42.keep hO43.1 (ninS (Nat.ne_of_lt (Nat.lt_of_lt_of_eq A_c.lt g41.symm)) nin0)
    refine Ends.callS X43 hx hZ hown (hw _ (List.mem_of_getElem? (i := 108) rfl)) (hw _ (List.mem_of_getElem? (i := 109) rfl)) (hw _ (List.mem_of_getElem? (i := 67) rfl)) (hw _ (List.mem_of_getElem? (i := 110) rfl)) (by decide) (argsL := [(.ref oc), (.int (0 : Int32)), (.int (Int32.ofNat xs.length))]) (rest := []) e43 (rm22 l Z a0 hw oc xs h6 _ f44 (own_sta_keep S2 O43.1 own_ns0) (own_sta_keep S3 O43.1 own_ns0) (own_sta_keep S4 O43.1 own_ns0)) (W := 0) (by decide) (by decide) (by rw [hml]; rfl) (lenOf pd_11 rfl) (Nat.le_of_eq rfl) (hb hby d12_23) (by decide) (by show 0 + xs.length + 0 + 12 ≤ 18; omega) rfl ?_
    rintro T45 v45 L45 X45 ⟨b45, rfl, gb45, hO45, V45⟩
    have e45 : T45.heap = T45.heap := rfl
    have O45 := O43.call hO45 all0
    show Ends none p e below s _ _ _ T45 (mkF m 26 #[.val (.ref oc), .val (.int (0 : Int32)), .val (.int (Int32.ofNat xs.length)), .val (.ref b41), .val (.int (Int32.ofNat r43)), .unset] [(.ref b45)])
    have ge_b45 : h0.size ≤ b45 := Nat.le_trans O43.le gb45
    refine E.astore (q := 28) (l' := #[.val (.ref oc), .val (.int (0 : Int32)), .val (.int (Int32.ofNat xs.length)), .val (.ref b41), .val (.int (Int32.ofNat r43)), .val (.ref b45)]) X45 hx (hb hby d12_26) rfl rfl ?_
    refine E.aload (q := 30) X45 hx (hb hby d12_28) rfl rfl ?_
    refine E.iload (q := 32) X45 hx (hb hby d12_30) rfl ?_
    refine Ends.callS X45 hx hZ hown (hw _ (List.mem_of_getElem? (i := 124) rfl)) (hw _ (List.mem_of_getElem? (i := 125) rfl)) (hw _ (List.mem_of_getElem? (i := 67) rfl)) (hw _ (List.mem_of_getElem? (i := 126) rfl)) (by decide) (argsL := [(.ref b45), (.int (Int32.ofNat r43))]) (rest := []) e45 (rm26 l Z a0 hw b45 r43 xs x hxr (hxs x (List.mem_of_getElem? hxr)) _ V45 (own_sta_keep S2 O45.1 own_ns0) (own_sta_keep S3 O45.1 own_ns0) (own_sta_keep S4 O45.1 own_ns0)) (W := 0) (by decide) (by decide) (by rw [hml]; rfl) (lenOf pd_5 rfl) (Nat.le_of_eq rfl) (hb hby d12_32) (by decide) (by show 0 + xs.length + 0 + 12 + 0 ≤ 18; omega) rfl ?_
    rintro T46 v46 L46 X46 ⟨rfl, e46, rfl⟩
    rw [List.append_nil] at X46
    show Ends none p e below s _ _ _ T46 (mkF m 35 #[.val (.ref oc), .val (.int (0 : Int32)), .val (.int (Int32.ofNat xs.length)), .val (.ref b41), .val (.int (Int32.ofNat r43)), .val (.ref b45)] [(.int x)])
    refine E.sipush (q := 38) (v := (255 : Int32)) X46 hx (hb hby d12_35) rfl ?_
    refine E.icmpY (q := 54) X46 hx (hb hby d12_38) (XT.ii_gt_t hgt) ?_
    refine E.aload (q := 56) X46 hx (hb hby d12_54) rfl rfl ?_
    have eq' := e46
    exact Ends.retA X46 hx hlk hret rfl rfl rfl (hb hby d12_56) (by decide) (by show 0 + xs.length + 0 + 12 + 0 ≤ 18; omega) ⟨_, _, rfl, ge_b45, by first | exact O45 | (rw [e46]; exact O45), by first | exact V45 | (rw [e46]; exact V45), Or.inr rfl⟩
theorem efrmCl0 (m : MethodId) (x0 : Addr) (x1 : Int32) : entryFrame m #[(.ref x0), (.int x1)] 2 = mkF m 0 #[.val (.ref x0), .val (.int x1)] [] := by first | (simp [entryFrame, mkF, argsToLocals, Value.category]; done) | rfl
set_option maxRecDepth 65536 in
set_option maxHeartbeats 40000000 in
theorem rmCl0 (l : Launch) (Z : State) (a0 : Array Value) (hw : ∀ d ∈ tables_1, d.before a0 Z = true) (od : Addr) (n : Nat) (vs : List Value) (h0 : Heap) (A_d : Ary Z h0 od .byte vs) (hv : vs.length = n) :
    Con l (⟨"java/lang/StringUTF16", "coderFromArrayLen", "([BI)B"⟩ : MethodName) jdk_52_method_15_code 2 (some .byte) [] ({ frames := 0, cells := 0, slots := 0, locals := 0 } : Room) #[(.ref od), (.int (Int32.ofNat n))] Z h0 (fun v h L => v = some (.int (0 : Int32)) ∧ h = h0 ∧ L = []) := by
  refine Con.of (plainFor_of_name pn_3) ?_
  intro p e s m below meth c s₁ hx hZ hby hml hown hnm hret hlk X0 e0
  refine Ends.cast (efrmCl0 m od (Int32.ofNat n)) ?_
  show Ends none p e below s _ _ _ s₁ (mkF m 0 #[.val (.ref od), .val (.int (Int32.ofNat n))] [])
  refine E.iloadN (q := 1) X0 hx (hb hby d14_0) rfl ?_
  refine E.aloadN (q := 2) X0 hx (hb hby d14_1) rfl rfl ?_
  refine Ends.alen X0 hx hZ e0 A_d (hb hby d14_2) (n := (Int32.ofNat n)) (by rw [hv]) ?_
  refine E.isub (q := 4) X0 hx (hb hby d14_3) ?_
  refine E.bipush (q := 6) (v := (31 : Int32)) X0 hx (hb hby d14_4) rfl ?_
  refine E.iushr (q := 7) X0 hx (hb hby d14_6) ?_
  refine E.i2b (q := 8) X0 hx (hb hby d14_7) ?_
  rw [own_cl0]
  show Ends none p e below s _ _ _ s₁ (mkF m 8 #[.val (.ref od), .val (.int (Int32.ofNat n))] [(.int (0 : Int32))])
  exact Ends.retS X0 hx hlk hret (by simp) rfl (hb hby d14_8) (by decide) (by decide) ⟨rfl, e0, rfl⟩
theorem efrmCl1 (m : MethodId) (x0 : Addr) (x1 : Int32) : entryFrame m #[(.ref x0), (.int x1)] 2 = mkF m 0 #[.val (.ref x0), .val (.int x1)] [] := by first | (simp [entryFrame, mkF, argsToLocals, Value.category]; done) | rfl
set_option maxRecDepth 65536 in
set_option maxHeartbeats 40000000 in
theorem rmCl1 (l : Launch) (Z : State) (a0 : Array Value) (hw : ∀ d ∈ tables_1, d.before a0 Z = true) (od : Addr) (n : Nat) (vs : List Value) (h0 : Heap) (A_d : Ary Z h0 od .byte vs) (hn1 : 1 ≤ n) (h6 : n ≤ 6) (hv : vs.length = 2 * n) :
    Con l (⟨"java/lang/StringUTF16", "coderFromArrayLen", "([BI)B"⟩ : MethodName) jdk_52_method_15_code 2 (some .byte) [] ({ frames := 0, cells := 0, slots := 0, locals := 0 } : Room) #[(.ref od), (.int (Int32.ofNat n))] Z h0 (fun v h L => v = some (.int (1 : Int32)) ∧ h = h0 ∧ L = []) := by
  refine Con.of (plainFor_of_name pn_3) ?_
  intro p e s m below meth c s₁ hx hZ hby hml hown hnm hret hlk X0 e0
  refine Ends.cast (efrmCl1 m od (Int32.ofNat n)) ?_
  show Ends none p e below s _ _ _ s₁ (mkF m 0 #[.val (.ref od), .val (.int (Int32.ofNat n))] [])
  refine E.iloadN (q := 1) X0 hx (hb hby d14_0) rfl ?_
  refine E.aloadN (q := 2) X0 hx (hb hby d14_1) rfl rfl ?_
  refine Ends.alen X0 hx hZ e0 A_d (hb hby d14_2) (n := (Int32.ofNat (2 * n))) (by rw [hv]) ?_
  refine E.isub (q := 4) X0 hx (hb hby d14_3) ?_
  refine E.bipush (q := 6) (v := (31 : Int32)) X0 hx (hb hby d14_4) rfl ?_
  refine E.iushr (q := 7) X0 hx (hb hby d14_6) ?_
  refine E.i2b (q := 8) X0 hx (hb hby d14_7) ?_
  rw [own_cl1 hn1 h6]
  show Ends none p e below s _ _ _ s₁ (mkF m 8 #[.val (.ref od), .val (.int (Int32.ofNat n))] [(.int (1 : Int32))])
  exact Ends.retS X0 hx hlk hret (by simp) rfl (hb hby d14_8) (by decide) (by decide) ⟨rfl, e0, rfl⟩
theorem efI4_n (m : MethodId) (x0 : Addr) (x1 : Addr) (x2 : Int32) (x3 : Int32) : entryFrame m #[(.ref x0), (.ref x1), (.int x2), (.int x3), .null] 6 = mkF m 0 #[.val (.ref x0), .val (.ref x1), .val (.int x2), .val (.int x3), .val .null, .unset] [] := by first | (simp [entryFrame, mkF, argsToLocals, Value.category]; done) | rfl
set_option maxRecDepth 65536 in
set_option maxHeartbeats 40000000 in
theorem rmI4_n (l : Launch) (Z : State) (a0 : Array Value) (hw : ∀ d ∈ tables_1, d.before a0 Z = true) (oa : Addr) (oc : Addr) (xs : List Int32) (hxs : ∀ x ∈ xs, own_C x) (h1 : 1 ≤ xs.length) (h6 : xs.length ≤ 6) (h0 : Heap) (E0 : Exa Z h0 oa "java/lang/String") (F_v : Fld Z h0 oa "java/lang/String" "value" "[B" .null) (F_c : Fld Z h0 oa "java/lang/String" "coder" "B" (.int (0 : Int32))) (A_c : Ary Z h0 oc .char (xs.map Value.int)) (hne : oc ≠ oa) (cs : Int32) (hcs : ¬ cs = (0 : Int32)) (S0 : Sta Z h0 "java/lang/String" "COMPACT_STRINGS" "Z" (.int cs)) (S2 : Sta Z h0 "java/lang/StringUTF16" "$assertionsDisabled" "Z" (.int (1 : Int32))) (S3 : Sta Z h0 "java/lang/StringUTF16" "HI_BYTE_SHIFT" "I" (.int (0 : Int32))) (S4 : Sta Z h0 "java/lang/StringUTF16" "LO_BYTE_SHIFT" "I" (.int (8 : Int32))) :
    Con l (⟨"java/lang/String", "<init>", "([CIILjava/lang/Void;)V"⟩ : MethodName) jdk_42_method_149_code 6 none [] ({ frames := 4, cells := 2, slots := 18, locals := 96 } : Room) #[(.ref oa), (.ref oc), (.int (0 : Int32)), (.int (Int32.ofNat xs.length)), .null] Z h0 (fun v h L => v = none ∧ ∃ (V : Addr) (cd : Int32) (bs : List Int32), h0.size ≤ V ∧ Ok h0 h [oa] L ∧ Fld Z h oa "java/lang/String" "value" "[B" (.ref V) ∧ Fld Z h oa "java/lang/String" "coder" "B" (.int cd) ∧ Ary Z h V .byte (bs.map Value.int) ∧ own_Str cd bs xs) := by
  refine Con.of (plainFor_of_name pn_0) ?_
  intro p e s m below meth c s₁ hx hZ hby hml hown hnm hret hlk X0 e0
  refine Ends.cast (efI4_n m oa oc (0 : Int32) (Int32.ofNat xs.length)) ?_
  show Ends none p e below s _ _ _ s₁ (mkF m 0 #[.val (.ref oa), .val (.ref oc), .val (.int (0 : Int32)), .val (.int (Int32.ofNat xs.length)), .val .null, .unset] [])
  have O0 := Ok.refl h0 [oa]
  refine E.aloadN (q := 1) X0 hx (hb hby d3_0) rfl rfl ?_
  refine Ends.initO X0 hx hZ hown (hw _ (List.mem_of_getElem? (i := 16) rfl)) (hw _ (List.mem_of_getElem? (i := 17) rfl)) (hw _ (List.mem_of_getElem? (i := 18) rfl)) e0 (by rw [hml]; rfl) (hb hby d3_1) (by decide) (W := 0) (Nat.le_of_eq rfl) (by decide) ?_
  intro T47 X47 e47
  refine E.iloadN (q := 5) X47 hx (hb hby d3_4) rfl ?_
  refine E.ifY (q := 27) X47 hx (hb hby d3_5) (XT.i0_ne_t (own_not0 h1 h6)) ?_
  refine Ends.getS X47 hx hZ hown (host := "") (Or.inl (hw _ (List.mem_of_getElem? (i := 50) rfl))) Via.refl e47 (own_sta_keep S0 O0.1 (own_ns E0)) (hb hby d3_27) ?_
  intro T48 X48 e48
  refine E.ifN (q := 33) X48 hx (hb hby d3_30) (XT.i0_eq_f hcs) ?_
  refine E.aloadN (q := 34) X48 hx (hb hby d3_33) rfl rfl ?_
  refine E.iloadN (q := 35) X48 hx (hb hby d3_34) rfl ?_
  refine E.iloadN (q := 36) X48 hx (hb hby d3_35) rfl ?_
  refine Ends.callS X48 hx hZ hown (hw _ (List.mem_of_getElem? (i := 65) rfl)) (hw _ (List.mem_of_getElem? (i := 66) rfl)) (hw _ (List.mem_of_getElem? (i := 67) rfl)) (hw _ (List.mem_of_getElem? (i := 68) rfl)) (by decide) (argsL := [(.ref oc), (.int (0 : Int32)), (.int (Int32.ofNat xs.length))]) (rest := []) e48 (rm12 l Z a0 hw oc xs hxs h6 _ A_c (own_sta_keep S2 O0.1 (own_ns E0)) (own_sta_keep S3 O0.1 (own_ns E0)) (own_sta_keep S4 O0.1 (own_ns E0))) (W := 0) (by decide) (by decide) (by rw [hml]; rfl) (lenOf pd_11 rfl) (Nat.le_of_eq rfl) (hb hby d3_36) (by decide) (by decide) rfl ?_
  rintro T49 v49 L49 X49 ⟨b49, bs49, rfl, gb49, hO49, V49, hD49⟩
  have e49 : T49.heap = T49.heap := rfl
  have O49 := O0.call hO49 all0
  show Ends none p e below s _ _ _ T49 (mkF m 39 #[.val (.ref oa), .val (.ref oc), .val (.int (0 : Int32)), .val (.int (Int32.ofNat xs.length)), .val .null, .unset] [(.ref b49)])
  have gv : h0.size ≤ b49 := Nat.le_trans O0.le gb49
  refine E.astore (q := 41) (l' := #[.val (.ref oa), .val (.ref oc), .val (.int (0 : Int32)), .val (.int (Int32.ofNat xs.length)), .val .null, .val (.ref b49)]) X49 hx (hb hby d3_39) rfl rfl ?_
  refine E.aloadN (q := 42) X49 hx (hb hby d3_41) rfl rfl ?_
  refine E.aload (q := 44) X49 hx (hb hby d3_42) rfl rfl ?_
  refine E.iloadN (q := 45) X49 hx (hb hby d3_44) rfl ?_
  rcases hD49 with ⟨hbs, hB⟩ | hbs
  · refine Ends.callS X49 hx hZ hown (hw _ (List.mem_of_getElem? (i := 72) rfl)) (hw _ (List.mem_of_getElem? (i := 73) rfl)) (hw _ (List.mem_of_getElem? (i := 67) rfl)) (hw _ (List.mem_of_getElem? (i := 74) rfl)) (by decide) (argsL := [(.ref b49), (.int (Int32.ofNat xs.length))]) (rest := [(.ref oa)]) e49 (rmCl0 l Z a0 hw b49 xs.length _ _ V49 (by rw [List.length_map, hbs, List.length_map])) (W := 1) (by decide) (by decide) (by rw [hml]; rfl) (lenOf pd_12 rfl) (Nat.le_of_eq rfl) (hb hby d3_45) (by decide) (by decide) rfl ?_
    rintro T50 v50 L50 X50 ⟨rfl, e50, rfl⟩
    rw [List.append_nil] at X50
    show Ends none p e below s _ _ _ T50 (mkF m 48 #[.val (.ref oa), .val (.ref oc), .val (.int (0 : Int32)), .val (.int (Int32.ofNat xs.length)), .val .null, .val (.ref b49)] [(.int (0 : Int32)), (.ref oa)])
    have f51 := F_c.keep hO49.1 nin0
    have f52 := E0.keep hO49.1
    refine Ends.putN X50 hx hZ hown (hw _ (List.mem_of_getElem? (i := 26) rfl)) Via.refl e50 f51 f52 (Or.inr ⟨(hw _ (List.mem_of_getElem? (i := 22) rfl)), rfl, hnm⟩) (hw _ (List.mem_of_getElem? (i := 7) rfl)) (ty := .byte) (v' := .int (0 : Int32)) (by decide) rfl (by decide) (hb hby d3_48) ?_
    intro T53 h53 X53 e53 W53 Fw53
    have O53 := O49.wr W53 (Or.inl (List.mem_of_getElem? (i := 0) rfl))
    refine E.aloadN (q := 52) X53 hx (hb hby d3_51) rfl rfl ?_
    refine E.aload (q := 54) X53 hx (hb hby d3_52) rfl rfl ?_
    have f54 := F_v.keep hO49.1 nin0
    have f55 := f54.other W53 (Or.inr (slot_ne (Or.inr (hw _ (List.mem_of_getElem? (i := 21) rfl))) (Or.inr (hw _ (List.mem_of_getElem? (i := 22) rfl))) (by decide) (t := (.array .byte)) (t' := .byte) (by decide) (by decide)))
    have f56 := f52.wr W53
    refine Ends.putF X53 hx hZ hown (host := "") (Or.inl (hw _ (List.mem_of_getElem? (i := 25) rfl))) Via.refl e53 f55 f56 (Or.inr ⟨(hw _ (List.mem_of_getElem? (i := 21) rfl)), rfl, hnm⟩) (hw _ (List.mem_of_getElem? (i := 7) rfl)) (ty := (.array .byte)) (by decide) rfl rfl (hb hby d3_54) ?_
    intro T57 h57 X57 e57 W57 Fw57
    have O57 := O53.wr W57 (Or.inl (List.mem_of_getElem? (i := 0) rfl))
    have f58 := Fw53.other W57 (Or.inr (slot_ne (Or.inr (hw _ (List.mem_of_getElem? (i := 22) rfl))) (Or.inr (hw _ (List.mem_of_getElem? (i := 21) rfl))) (by decide) (t := .byte) (t' := (.array .byte)) (by decide) (by decide)))
    have f59 := V49.other W53 (Ne.symm (Nat.ne_of_lt (Nat.lt_of_lt_of_le E0.lt gb49)))
    have f60 := f59.other W57 (Ne.symm (Nat.ne_of_lt (Nat.lt_of_lt_of_le E0.lt gb49)))
    subst e57
    exact Ends.retV X57 hx hlk hret (hb hby d3_57) (by decide) (by decide) ⟨rfl, _, _, _, gv, O57, Fw57, f58, f60, hxs, Or.inl ⟨rfl, hbs, hB⟩⟩
  · refine Ends.callS X49 hx hZ hown (hw _ (List.mem_of_getElem? (i := 72) rfl)) (hw _ (List.mem_of_getElem? (i := 73) rfl)) (hw _ (List.mem_of_getElem? (i := 67) rfl)) (hw _ (List.mem_of_getElem? (i := 74) rfl)) (by decide) (argsL := [(.ref b49), (.int (Int32.ofNat xs.length))]) (rest := [(.ref oa)]) e49 (rmCl1 l Z a0 hw b49 xs.length _ _ V49 h1 h6 (by rw [List.length_map, hbs, own_utf_len])) (W := 1) (by decide) (by decide) (by rw [hml]; rfl) (lenOf pd_12 rfl) (Nat.le_of_eq rfl) (hb hby d3_45) (by decide) (by decide) rfl ?_
    rintro T61 v61 L61 X61 ⟨rfl, e61, rfl⟩
    rw [List.append_nil] at X61
    show Ends none p e below s _ _ _ T61 (mkF m 48 #[.val (.ref oa), .val (.ref oc), .val (.int (0 : Int32)), .val (.int (Int32.ofNat xs.length)), .val .null, .val (.ref b49)] [(.int (1 : Int32)), (.ref oa)])
    have f62 := F_c.keep hO49.1 nin0
    have f63 := E0.keep hO49.1
    refine Ends.putN X61 hx hZ hown (hw _ (List.mem_of_getElem? (i := 26) rfl)) Via.refl e61 f62 f63 (Or.inr ⟨(hw _ (List.mem_of_getElem? (i := 22) rfl)), rfl, hnm⟩) (hw _ (List.mem_of_getElem? (i := 7) rfl)) (ty := .byte) (v' := .int (1 : Int32)) (by decide) rfl (by decide) (hb hby d3_48) ?_
    intro T64 h64 X64 e64 W64 Fw64
    have O64 := O49.wr W64 (Or.inl (List.mem_of_getElem? (i := 0) rfl))
    refine E.aloadN (q := 52) X64 hx (hb hby d3_51) rfl rfl ?_
    refine E.aload (q := 54) X64 hx (hb hby d3_52) rfl rfl ?_
    have f65 := F_v.keep hO49.1 nin0
    have f66 := f65.other W64 (Or.inr (slot_ne (Or.inr (hw _ (List.mem_of_getElem? (i := 21) rfl))) (Or.inr (hw _ (List.mem_of_getElem? (i := 22) rfl))) (by decide) (t := (.array .byte)) (t' := .byte) (by decide) (by decide)))
    have f67 := f63.wr W64
    refine Ends.putF X64 hx hZ hown (host := "") (Or.inl (hw _ (List.mem_of_getElem? (i := 25) rfl))) Via.refl e64 f66 f67 (Or.inr ⟨(hw _ (List.mem_of_getElem? (i := 21) rfl)), rfl, hnm⟩) (hw _ (List.mem_of_getElem? (i := 7) rfl)) (ty := (.array .byte)) (by decide) rfl rfl (hb hby d3_54) ?_
    intro T68 h68 X68 e68 W68 Fw68
    have O68 := O64.wr W68 (Or.inl (List.mem_of_getElem? (i := 0) rfl))
    have f69 := Fw64.other W68 (Or.inr (slot_ne (Or.inr (hw _ (List.mem_of_getElem? (i := 22) rfl))) (Or.inr (hw _ (List.mem_of_getElem? (i := 21) rfl))) (by decide) (t := .byte) (t' := (.array .byte)) (by decide) (by decide)))
    have f70 := V49.other W64 (Ne.symm (Nat.ne_of_lt (Nat.lt_of_lt_of_le E0.lt gb49)))
    have f71 := f70.other W68 (Ne.symm (Nat.ne_of_lt (Nat.lt_of_lt_of_le E0.lt gb49)))
    subst e68
    exact Ends.retV X68 hx hlk hret (hb hby d3_57) (by decide) (by decide) ⟨rfl, _, _, _, gv, O68, Fw68, f69, f71, hxs, Or.inr ⟨rfl, hbs⟩⟩
theorem efI1_n (m : MethodId) (x0 : Addr) (x1 : Addr) : entryFrame m #[(.ref x0), (.ref x1)] 2 = mkF m 0 #[.val (.ref x0), .val (.ref x1)] [] := by first | (simp [entryFrame, mkF, argsToLocals, Value.category]; done) | rfl
set_option maxRecDepth 65536 in
set_option maxHeartbeats 40000000 in
theorem rmI1_n (l : Launch) (Z : State) (a0 : Array Value) (hw : ∀ d ∈ tables_1, d.before a0 Z = true) (oa : Addr) (oc : Addr) (xs : List Int32) (hxs : ∀ x ∈ xs, own_C x) (h1 : 1 ≤ xs.length) (h6 : xs.length ≤ 6) (h0 : Heap) (E0 : Exa Z h0 oa "java/lang/String") (F_v : Fld Z h0 oa "java/lang/String" "value" "[B" .null) (F_c : Fld Z h0 oa "java/lang/String" "coder" "B" (.int (0 : Int32))) (A_c : Ary Z h0 oc .char (xs.map Value.int)) (hne : oc ≠ oa) (cs : Int32) (hcs : ¬ cs = (0 : Int32)) (S0 : Sta Z h0 "java/lang/String" "COMPACT_STRINGS" "Z" (.int cs)) (S2 : Sta Z h0 "java/lang/StringUTF16" "$assertionsDisabled" "Z" (.int (1 : Int32))) (S3 : Sta Z h0 "java/lang/StringUTF16" "HI_BYTE_SHIFT" "I" (.int (0 : Int32))) (S4 : Sta Z h0 "java/lang/StringUTF16" "LO_BYTE_SHIFT" "I" (.int (8 : Int32))) :
    Con l (⟨"java/lang/String", "<init>", "([C)V"⟩ : MethodName) jdk_42_method_3_code 2 none [] ({ frames := 5, cells := 2, slots := 18, locals := 120 } : Room) #[(.ref oa), (.ref oc)] Z h0 (fun v h L => v = none ∧ ∃ (V : Addr) (cd : Int32) (bs : List Int32), h0.size ≤ V ∧ Ok h0 h [oa] L ∧ Fld Z h oa "java/lang/String" "value" "[B" (.ref V) ∧ Fld Z h oa "java/lang/String" "coder" "B" (.int cd) ∧ Ary Z h V .byte (bs.map Value.int) ∧ own_Str cd bs xs) := by
  refine Con.of (plainFor_of_name pn_0) ?_
  intro p e s m below meth c s₁ hx hZ hby hml hown hnm hret hlk X0 e0
  refine Ends.cast (efI1_n m oa oc) ?_
  show Ends none p e below s _ _ _ s₁ (mkF m 0 #[.val (.ref oa), .val (.ref oc)] [])
  have O0 := Ok.refl h0 [oa]
  refine E.aloadN (q := 1) X0 hx (hb hby d2_0) rfl rfl ?_
  refine E.aloadN (q := 2) X0 hx (hb hby d2_1) rfl rfl ?_
  refine E.iconst (q := 3) (v := (0 : Int32)) X0 hx (hb hby d2_2) rfl ?_
  refine E.aloadN (q := 4) X0 hx (hb hby d2_3) rfl rfl ?_
  refine Ends.alen X0 hx hZ e0 A_c (hb hby d2_4) (n := (Int32.ofNat xs.length)) (by rw [List.length_map]) ?_
  refine E.aconstNull (q := 6) X0 hx (hb hby d2_5) ?_
  refine Ends.callI X0 hx hZ hown (hw _ (List.mem_of_getElem? (i := 12) rfl)) (hw _ (List.mem_of_getElem? (i := 13) rfl)) (hw _ (List.mem_of_getElem? (i := 8) rfl)) (hw _ (List.mem_of_getElem? (i := 15) rfl)) rfl (by decide) (argsL := [(.ref oc), (.int (0 : Int32)), (.int (Int32.ofNat xs.length)), .null]) (rest := []) e0 (rmI4_n l Z a0 hw oa oc xs hxs h1 h6 _ E0 F_v F_c A_c hne cs hcs S0 S2 S3 S4) (W := 0) (by decide) (by decide) (by rw [hml]; rfl) (lenOf pd_13 rfl) (Nat.le_of_eq rfl) (hb hby d2_6) (by decide) (by decide) rfl ?_
  rintro T72 v72 L72 X72 ⟨rfl, V72, cd72, bs72, gV72, hO72, a72, b72, d72, hs72⟩
  have e72 : T72.heap = T72.heap := rfl
  have O72 := O0.call hO72 (allS (Or.inl (List.mem_of_getElem? (i := 0) rfl)) all0)
  show Ends none p e below s _ _ _ T72 (mkF m 9 #[.val (.ref oa), .val (.ref oc)] [])
  exact Ends.retV X72 hx hlk hret (hb hby d2_9) (by decide) (by decide) ⟨rfl, _, _, _, gV72, hO72, a72, b72, d72, hs72⟩
theorem efI4_0 (m : MethodId) (x0 : Addr) (x1 : Addr) (x2 : Int32) (x3 : Int32) : entryFrame m #[(.ref x0), (.ref x1), (.int x2), (.int x3), .null] 6 = mkF m 0 #[.val (.ref x0), .val (.ref x1), .val (.int x2), .val (.int x3), .val .null, .unset] [] := by first | (simp [entryFrame, mkF, argsToLocals, Value.category]; done) | rfl
set_option maxRecDepth 65536 in
set_option maxHeartbeats 40000000 in
theorem rmI4_0 (l : Launch) (Z : State) (a0 : Array Value) (hw : ∀ d ∈ tables_1, d.before a0 Z = true) (oa : Addr) (oc : Addr) (h0 : Heap) (E0 : Exa Z h0 oa "java/lang/String") (F_v : Fld Z h0 oa "java/lang/String" "value" "[B" .null) (F_c : Fld Z h0 oa "java/lang/String" "coder" "B" (.int (0 : Int32))) (A_c : Ary Z h0 oc .char []) :
    ConH l (⟨"java/lang/String", "<init>", "([CIILjava/lang/Void;)V"⟩ : MethodName) jdk_42_method_149_code 6 none [] ({ frames := 1, cells := 4, slots := 8, locals := 24 } : Room) #[(.ref oa), (.ref oc), (.int (0 : Int32)), (.int (0 : Int32)), .null] Z h0 own_EL (fun v h L => v = none ∧ ∃ V, Ok h0 h [oa] L ∧ Fld Z h oa "java/lang/String" "value" "[B" (.ref V) ∧ Fld Z h oa "java/lang/String" "coder" "B" (.int (0 : Int32)) ∧ Ary Z h V .byte []) := by
  refine ConH.of (plainFor_of_name pn_0) ?_
  intro p e s m below meth c s₁ vm0 HC0 hx hZ hby hml hown hnm hret hlk X0 e0
  refine Ends.cast (efI4_0 m oa oc (0 : Int32) (0 : Int32)) ?_
  show Ends (some (CHr Z own_EL vm0 h0)) p e below s _ _ _ s₁ (mkF m 0 #[.val (.ref oa), .val (.ref oc), .val (.int (0 : Int32)), .val (.int (0 : Int32)), .val .null, .unset] [])
  have O0 := Ok.refl h0 [oa]
  have Z0 : Safe Z own_EL s.vm h0 oa := own_safe_blank hZ.alike E0 F_v
  refine E.aloadN (q := 1) X0 hx (hb hby d3_0) rfl rfl ?_
  refine Ends.initO X0 hx hZ hown (hw _ (List.mem_of_getElem? (i := 16) rfl)) (hw _ (List.mem_of_getElem? (i := 17) rfl)) (hw _ (List.mem_of_getElem? (i := 18) rfl)) e0 (by rw [hml]; rfl) (hb hby d3_1) (by decide) (W := 0) (Nat.le_of_eq rfl) (by decide) ?_
  intro T73 X73 e73
  refine E.iloadN (q := 5) X73 hx (hb hby d3_4) rfl ?_
  refine E.ifN (q := 8) X73 hx (hb hby d3_5) (XT.i0_ne_f (by decide)) ?_
  refine E.aloadN (q := 9) X73 hx (hb hby d3_8) rfl rfl ?_
  refine Ends.ldcR X73 hx hZ hown (hw _ (List.mem_of_getElem? (i := 19) rfl)) (own_sat hw) e73 (Nat.zero_le _) (own_EW hw) (List.mem_of_getElem? (i := 0) rfl) HC0.1 (vs := []) (z := 0) (by decide) (by decide) (by decide) (hb hby d3_9) 0 (by decide) (by decide) (by decide) (by decide) ?_
  intro s T74 h74 c74 d74 X74 e74 E74 hc74 hZ hown Ea74 Fc74 Fv74 A74 sf74
  have O74 := O0.ext E74
  have HC75 := HC0.trans hc74
  show Ends (some (CHr Z own_EL vm0 h0)) p e below s _ _ _ T74 (mkF m 11 #[.val (.ref oa), .val (.ref oc), .val (.int (0 : Int32)), .val (.int (0 : Int32)), .val .null, .unset] [(.ref c74), (.ref oa)])
  have f76 := CHr.safe hc74 E0.lt Z0
  have nd74 := sf74 oa f76
  refine Ends.getF X74 hx hZ hown (host := "") (Or.inl (hw _ (List.mem_of_getElem? (i := 25) rfl))) Via.refl e74 Fv74 (hb hby d3_11) ?_
  intro T77 X77 e77
  have f78 := F_v.ext E74
  have f79 := E0.ext E74
  refine Ends.putF X77 hx hZ hown (host := "") (Or.inl (hw _ (List.mem_of_getElem? (i := 25) rfl))) Via.refl e77 f78 f79 (Or.inr ⟨(hw _ (List.mem_of_getElem? (i := 21) rfl)), rfl, hnm⟩) (hw _ (List.mem_of_getElem? (i := 7) rfl)) (ty := (.array .byte)) (by decide) rfl rfl (hb hby d3_14) ?_
  intro T80 h80 X80 e80 W80 Fw80
  have O80 := O74.wr W80 (Or.inl (List.mem_of_getElem? (i := 0) rfl))
  have HC81 := HC75.trans (CHr.wr W80 f76 HC75.1)
  refine E.aloadN (q := 18) X80 hx (hb hby d3_17) rfl rfl ?_
  refine Ends.ldcR X80 hx hZ hown (hw _ (List.mem_of_getElem? (i := 19) rfl)) (own_sat hw) e80 (Nat.le_trans (Nat.le_refl _) (own_wr_le W80)) (own_EW hw) (List.mem_of_getElem? (i := 0) rfl) HC81.1 (vs := []) (z := 0) (by decide) (by decide) (by decide) (hb hby d3_18) 0 (by decide) (by decide) (by decide) (by decide) ?_
  intro s T82 h82 c82 d82 X82 e82 E82 hc82 hZ hown Ea82 Fc82 Fv82 A82 sf82
  have O82 := O80.ext E82
  have HC83 := HC81.trans hc82
  show Ends (some (CHr Z own_EL vm0 h0)) p e below s _ _ _ T82 (mkF m 20 #[.val (.ref oa), .val (.ref oc), .val (.int (0 : Int32)), .val (.int (0 : Int32)), .val .null, .unset] [(.ref c82), (.ref oa)])
  have f84 := Safe.wr W80 f76 HC75.1 f76
  have f85 := f79.wr W80
  have f86 := CHr.safe hc82 f85.lt f84
  have nd82 := sf82 oa f86
  refine Ends.getF X82 hx hZ hown (host := "") (Or.inl (hw _ (List.mem_of_getElem? (i := 26) rfl))) Via.refl e82 Fc82 (hb hby d3_20) ?_
  intro T87 X87 e87
  have f88 := F_c.ext E74
  have f89 := f88.other W80 (Or.inr (slot_ne (Or.inr (hw _ (List.mem_of_getElem? (i := 22) rfl))) (Or.inr (hw _ (List.mem_of_getElem? (i := 21) rfl))) (by decide) (t := .byte) (t' := (.array .byte)) (by decide) (by decide)))
  have f90 := f89.ext E82
  have f91 := f85.ext E82
  refine Ends.putN X87 hx hZ hown (hw _ (List.mem_of_getElem? (i := 26) rfl)) Via.refl e87 f90 f91 (Or.inr ⟨(hw _ (List.mem_of_getElem? (i := 22) rfl)), rfl, hnm⟩) (hw _ (List.mem_of_getElem? (i := 7) rfl)) (ty := .byte) (v' := .int (0 : Int32)) (by decide) rfl (by decide) (hb hby d3_23) ?_
  intro T92 h92 X92 e92 W92 Fw92
  have O92 := O82.wr W92 (Or.inl (List.mem_of_getElem? (i := 0) rfl))
  have HC93 := HC83.trans (CHr.wr W92 f86 HC83.1)
  have f94 := Fw80.ext E82
  have f95 := f94.other W92 (Or.inr (slot_ne (Or.inr (hw _ (List.mem_of_getElem? (i := 21) rfl))) (Or.inr (hw _ (List.mem_of_getElem? (i := 22) rfl))) (by decide) (t := (.array .byte)) (t' := .byte) (by decide) (by decide)))
  have f96 := A74.other W80 (Ne.symm nd74.2)
  have f97 := f96.ext E82
  have f98 := f97.other W92 (Ne.symm nd74.2)
  subst e92
  exact Ends.retV X92 hx hlk hret (hb hby d3_26) (by decide) (by decide) ⟨⟨rfl, _, O92, f95, Fw92, f98⟩, by first | exact (Nat.le_trans (Nat.le_refl _) (own_wr_le W92)) | (rw [e92]; exact (Nat.le_trans (Nat.le_refl _) (own_wr_le W92)))⟩ (hF := own_chret X92 hZ (own_EW hw) HC93 (by first | rfl | assumption))
theorem efI1_0 (m : MethodId) (x0 : Addr) (x1 : Addr) : entryFrame m #[(.ref x0), (.ref x1)] 2 = mkF m 0 #[.val (.ref x0), .val (.ref x1)] [] := by first | (simp [entryFrame, mkF, argsToLocals, Value.category]; done) | rfl
set_option maxRecDepth 65536 in
set_option maxHeartbeats 40000000 in
theorem rmI1_0 (l : Launch) (Z : State) (a0 : Array Value) (hw : ∀ d ∈ tables_1, d.before a0 Z = true) (oa : Addr) (oc : Addr) (h0 : Heap) (E0 : Exa Z h0 oa "java/lang/String") (F_v : Fld Z h0 oa "java/lang/String" "value" "[B" .null) (F_c : Fld Z h0 oa "java/lang/String" "coder" "B" (.int (0 : Int32))) (A_c : Ary Z h0 oc .char []) :
    ConH l (⟨"java/lang/String", "<init>", "([C)V"⟩ : MethodName) jdk_42_method_3_code 2 none [] ({ frames := 2, cells := 4, slots := 8, locals := 48 } : Room) #[(.ref oa), (.ref oc)] Z h0 own_EL (fun v h L => v = none ∧ ∃ V, Ok h0 h [oa] L ∧ Fld Z h oa "java/lang/String" "value" "[B" (.ref V) ∧ Fld Z h oa "java/lang/String" "coder" "B" (.int (0 : Int32)) ∧ Ary Z h V .byte []) := by
  refine ConH.of (plainFor_of_name pn_0) ?_
  intro p e s m below meth c s₁ vm0 HC0 hx hZ hby hml hown hnm hret hlk X0 e0
  refine Ends.cast (efI1_0 m oa oc) ?_
  show Ends (some (CHr Z own_EL vm0 h0)) p e below s _ _ _ s₁ (mkF m 0 #[.val (.ref oa), .val (.ref oc)] [])
  have O0 := Ok.refl h0 [oa]
  refine E.aloadN (q := 1) X0 hx (hb hby d2_0) rfl rfl ?_
  refine E.aloadN (q := 2) X0 hx (hb hby d2_1) rfl rfl ?_
  refine E.iconst (q := 3) (v := (0 : Int32)) X0 hx (hb hby d2_2) rfl ?_
  refine E.aloadN (q := 4) X0 hx (hb hby d2_3) rfl rfl ?_
  refine Ends.alen X0 hx hZ e0 A_c (hb hby d2_4) (n := (0 : Int32)) rfl ?_
  refine E.aconstNull (q := 6) X0 hx (hb hby d2_5) ?_
  refine Ends.callIH X0 hx hZ hown (hw _ (List.mem_of_getElem? (i := 12) rfl)) (hw _ (List.mem_of_getElem? (i := 13) rfl)) (hw _ (List.mem_of_getElem? (i := 8) rfl)) (hw _ (List.mem_of_getElem? (i := 15) rfl)) rfl (by decide) (argsL := [(.ref oc), (.int (0 : Int32)), (.int (0 : Int32)), .null]) (rest := []) e0 (Nat.zero_le _) (own_EW hw) HC0.1 (rmI4_0 l Z a0 hw oa oc _ E0 F_v F_c A_c) (W := 0) (by decide) (by decide) (by rw [hml]; rfl) (lenOf pd_13 rfl) (Nat.le_of_eq rfl) (hb hby d2_6) (by decide) (by decide) rfl ?_
  rintro s T99 v99 L99 X99 hc99 hZ hown ⟨rfl, V99, hO99, a99, b99, d99⟩
  have e99 : T99.heap = T99.heap := rfl
  have O99 := O0.call hO99 (allS (Or.inl (List.mem_of_getElem? (i := 0) rfl)) all0)
  have HC100 := HC0.trans hc99
  show Ends (some (CHr Z own_EL vm0 h0)) p e below s _ _ _ T99 (mkF m 9 #[.val (.ref oa), .val (.ref oc)] [])
  exact Ends.retV X99 hx hlk hret (hb hby d2_9) (by decide) (by decide) ⟨⟨rfl, _, hO99, a99, b99, d99⟩, by first | exact (Nat.le_refl _) | (rw [e99]; exact (Nat.le_refl _))⟩ (hF := own_chret X99 hZ (own_EW hw) HC100 (by first | rfl | assumption))
def own_fcode : ByteArray := ⟨#[0x2a, 0xb4, 0x00, 0x0f, 0x1b, 0xb9, 0x00, 0x17, 0x02, 0x00, 0xac]⟩
theorem own_f0 : decode own_fcode 0 = .ok (.aload_n 0, 1) := by decide +kernel
theorem own_f1 : decode own_fcode 1 = .ok (.getfield 15, 3) := by decide +kernel
theorem own_f4 : decode own_fcode 4 = .ok (.iload_n 1, 1) := by decide +kernel
theorem own_f5 : decode own_fcode 5 = .ok (.invokeinterface 23 2, 5) := by decide +kernel
theorem own_f10 : decode own_fcode 10 = .ok (.ireturn, 1) := by decide +kernel
def own_sh : Lambda.Shape := (Jvm.Lambda.Shape.mk "java/util/function/IntUnaryOperator" "applyAsInt" (Jvm.ClassFile.MethodDescriptor.mk ([Jvm.ClassFile.FieldType.int] : List Jvm.ClassFile.FieldType) (Option.some Jvm.ClassFile.FieldType.int)) ([(Jvm.ClassFile.FieldType.object "java/lang/CharSequence")] : List Jvm.ClassFile.FieldType) (9 : Nat) "java/lang/CharSequence" "charAt" (Jvm.ClassFile.MethodDescriptor.mk ([Jvm.ClassFile.FieldType.int] : List Jvm.ClassFile.FieldType) (Option.some Jvm.ClassFile.FieldType.char)) true (Jvm.ClassFile.MethodDescriptor.mk ([Jvm.ClassFile.FieldType.int] : List Jvm.ClassFile.FieldType) (Option.some Jvm.ClassFile.FieldType.int)))
theorem own_fw0 : own_fwd own_sh "com/example/needlework/needlework/match/PrefixTable" own_fcode 23 19 15 = true := by decide +kernel
theorem ef_10 (m : MethodId) (x0 : Int32) (x1 : Addr) : entryFrame m #[(.int x0), (.ref x1)] 6 = mkF m 0 #[.val (.int x0), .val (.ref x1), .unset, .unset, .unset, .unset] [] := by first | (simp [entryFrame, mkF, argsToLocals, Value.category]; done) | rfl
set_option maxRecDepth 65536 in
set_option maxHeartbeats 40000000 in
theorem rm10 (l : Launch) (Z : State) (a0 : Array Value) (hw : ∀ d ∈ tables_1, d.before a0 Z = true) (oa : Addr) (sa : Addr) (x0 : MethodName) (pc0 index0 : Nat) (cK : ClassId) (one : Option Addr) (hat : Z.lambdaAt? x0 pc0 index0 own_sh = some (cK, one)) (hfw : own_fwd own_sh x0.cls own_fcode 23 19 15 = true) (Va : Addr) (cd : Int32) (bs xs : List Int32) (hS : own_Str cd bs xs) (h6 : xs.length ≤ 6) (h0 : Heap) (LA : LamAt h0 oa cK sa) (Es : Exa Z h0 sa "java/lang/String") (Svs : Fld Z h0 sa "java/lang/String" "value" "[B" (.ref Va)) (Scs : Fld Z h0 sa "java/lang/String" "coder" "B" (.int cd)) (A_x : Ary Z h0 Va .byte (bs.map Value.int)) (cs : Int32) (hcs : ¬ cs = (0 : Int32)) (S0 : Sta Z h0 "java/lang/String" "COMPACT_STRINGS" "Z" (.int cs)) (fv : Value) (hfv : fv = .null ∨ ∃ a, fv = .ref a) (S1 : Sta Z h0 "jdk/internal/util/Preconditions" "SIOOBE_FORMATTER" "Ljava/util/function/BiFunction;" fv) (S2 : Sta Z h0 "java/lang/StringUTF16" "$assertionsDisabled" "Z" (.int (1 : Int32))) (S3 : Sta Z h0 "java/lang/StringUTF16" "HI_BYTE_SHIFT" "I" (.int (0 : Int32))) (S4 : Sta Z h0 "java/lang/StringUTF16" "LO_BYTE_SHIFT" "I" (.int (8 : Int32))) :
    Con l (⟨"com/example/needlework/needlework/match/PrefixTable", "of", "(ILjava/util/function/IntUnaryOperator;)[I"⟩ : MethodName) prog_15_method_4_code 6 (some (.array .int)) [] ({ frames := 6, cells := 1, slots := 6, locals := 150 } : Room) #[(.int (Int32.ofNat xs.length)), (.ref oa)] Z h0 (fun v h L => ∃ b, v = some (.ref b) ∧ h0.size ≤ b ∧ Ok h0 h [] L ∧ Ary Z h b .int ((own_ints (own_kmp xs)).map Value.int)) := by
  refine Con.of (plainFor_of_name pn_4) ?_
  intro p e s m below meth c s₁ hx hZ hby hml hown hnm hret hlk X0 e0
  refine Ends.cast (ef_10 m (Int32.ofNat xs.length) oa) ?_
  show Ends none p e below s _ _ _ s₁ (mkF m 0 #[.val (.int (Int32.ofNat xs.length)), .val (.ref oa), .unset, .unset, .unset, .unset] [])
  have O0 := Ok.refl h0 []
  refine E.iloadN (q := 1) X0 hx (hb hby d10_0) rfl ?_
  refine Ends.newA X0 hx hZ (hw _ (List.mem_of_getElem? (i := 61) rfl)) e0 (hb hby d10_1) (N := xs.length) rfl (by omega) (by decide) (by show 0 + xs.length ≤ 6; omega) ?_
  intro T101 h101 b101 g101 X101 e101 E101 A101
  have ge_b101 : h0.size ≤ b101 := Nat.le_trans O0.le (Nat.le_of_eq g101.symm)
  have O101 := O0.ext E101
  have V101 : Ary Z h101 b101 .int ((List.replicate xs.length (0 : Int32)).map Value.int) := by rw [List.map_replicate]; exact A101
  show Ends none p e below s _ _ _ T101 (mkF m 3 #[.val (.int (Int32.ofNat xs.length)), .val (.ref oa), .unset, .unset, .unset, .unset] [(.ref b101)])
  refine E.astoreN (q := 4) (l' := #[.val (.int (Int32.ofNat xs.length)), .val (.ref oa), .val (.ref b101), .unset, .unset, .unset]) X101 hx (hb hby d10_3) rfl rfl ?_
  refine E.iconst (q := 5) (v := (0 : Int32)) X101 hx (hb hby d10_4) rfl ?_
  refine E.istoreN (q := 6) (l' := #[.val (.int (Int32.ofNat xs.length)), .val (.ref oa), .val (.ref b101), .val (.int (0 : Int32)), .unset, .unset]) X101 hx (hb hby d10_5) rfl ?_
  refine E.iconst (q := 7) (v := (1 : Int32)) X101 hx (hb hby d10_6) rfl ?_
  refine E.istore (q := 9) (l' := #[.val (.int (Int32.ofNat xs.length)), .val (.ref oa), .val (.ref b101), .val (.int (0 : Int32)), .val (.int (1 : Int32)), .unset]) X101 hx (hb hby d10_7) rfl ?_
  have n_oa : oa ≠ b101 := (Nat.ne_of_lt (Nat.lt_of_lt_of_eq LA.lt g101.symm))
  have n_sa : sa ≠ b101 := (Nat.ne_of_lt (Nat.lt_of_lt_of_eq Es.lt g101.symm))
  have n_Va : Va ≠ b101 := (Nat.ne_of_lt (Nat.lt_of_lt_of_eq A_x.lt g101.symm))
  have J : ∀ mm k, k + mm = xs.length - 1 → ∀ l5 : Slot, (l5 = .unset ∨ ∃ q, l5 = .val (.int q)) → ∀ (Tj : State) (hj : Heap) (lj : List Loc), Stand p l e ({ frames := 6, cells := 1, slots := 6, locals := 150 } : Room) s m #[(.int (Int32.ofNat xs.length)), (.ref oa)] below meth c Tj lj 1 (0 + xs.length) → Tj.heap = hj → Ok h0 hj [] lj → Ary Z hj b101 .int ((own_ints (own_run xs k).1).map Value.int) → Ends none p e below s (fun v h L => ∃ b, v = some (.ref b) ∧ h0.size ≤ b ∧ Ok h0 h [] L ∧ Ary Z h b .int ((own_ints (own_kmp xs)).map Value.int)) ({ frames := 6, cells := 1, slots := 6, locals := 150 } : Room).cells ({ frames := 6, cells := 1, slots := 6, locals := 150 } : Room).slots Tj (mkF m 9 #[.val (.int (Int32.ofNat xs.length)), .val (.ref oa), .val (.ref b101), .val (.int (Int32.ofNat (own_run xs k).2)), .val (.int (Int32.ofNat (k + 1))), l5] []) := by
    intro mm
    induction mm with
    | zero =>
      intro k hk l5 hl5 Tj hj lj Xj ej Oj Aj
      show Ends none p e below s _ _ _ Tj (mkF m 9 #[.val (.int (Int32.ofNat xs.length)), .val (.ref oa), .val (.ref b101), .val (.int (Int32.ofNat (own_run xs k).2)), .val (.int (Int32.ofNat (k + 1))), l5] [])
      refine E.iload (q := 11) Xj hx (hb hby d10_9) rfl ?_
      refine E.iloadN (q := 12) Xj hx (hb hby d10_11) rfl ?_
      refine E.icmpY (q := 76) Xj hx (hb hby d10_12) (XT.ii_ge_t (by rw [own_ltN (by omega) (by omega)]; omega)) ?_
      refine E.aloadN (q := 77) Xj hx (hb hby d10_76) rfl rfl ?_
      have hk' : k = xs.length - 1 := by omega
      subst hk'
      subst ej
      exact Ends.retA Xj hx hlk hret rfl rfl rfl (hb hby d10_77) (by decide) (by show 0 + xs.length ≤ 6; omega) ⟨_, rfl, ge_b101, Oj, Aj⟩
    | succ mm ih =>
      intro k hk l5 hl5 Tj hj lj Xj ej Oj Aj
      have hk1 : k + 1 < xs.length := by omega
      obtain ⟨x, hxk⟩ : ∃ x, xs[k + 1]? = some x := ⟨_, List.getElem?_eq_getElem hk1⟩
      obtain ⟨ok1, ok2, ok3⟩ := own_run_ok xs k
      show Ends none p e below s _ _ _ Tj (mkF m 9 #[.val (.int (Int32.ofNat xs.length)), .val (.ref oa), .val (.ref b101), .val (.int (Int32.ofNat (own_run xs k).2)), .val (.int (Int32.ofNat (k + 1))), l5] [])
      refine E.iload (q := 11) Xj hx (hb hby d10_9) rfl ?_
      refine E.iloadN (q := 12) Xj hx (hb hby d10_11) rfl ?_
      refine E.icmpN (q := 15) Xj hx (hb hby d10_12) (XT.ii_ge_f ((own_ltN (by omega) (by omega)).mpr hk1)) ?_
      refine E.aloadN (q := 16) Xj hx (hb hby d10_15) rfl rfl ?_
      refine E.iload (q := 18) Xj hx (hb hby d10_16) rfl ?_
      have f103 := Es.keep Oj.1
      have f104 := Svs.keep Oj.1 nin0
      have f105 := Scs.keep Oj.1 nin0
      have f106 := A_x.keep Oj.1 nin0
      have f107 := LA.keep Oj.1 nin0
      refine Ends.callLam Xj hx hZ hown hat hfw (hw _ (List.mem_of_getElem? (i := 57) rfl)) own_f0 own_f1 own_f4 own_f5 own_f10 (hw _ (List.mem_of_getElem? (i := 75) rfl)) (hw _ (List.mem_of_getElem? (i := 76) rfl)) (hw _ (List.mem_of_getElem? (i := 77) rfl)) (hw _ (List.mem_of_getElem? (i := 78) rfl)) (hw _ (List.mem_of_getElem? (i := 83) rfl)) (hw _ (List.mem_of_getElem? (i := 79) rfl)) (hw _ (List.mem_of_getElem? (i := 80) rfl)) (hw _ (List.mem_of_getElem? (i := 81) rfl)) (hw _ (List.mem_of_getElem? (i := 82) rfl)) (hw _ (List.mem_of_getElem? (i := 43) rfl)) (hw _ (List.mem_of_getElem? (i := 8) rfl)) (hw _ (List.mem_of_getElem? (i := 84) rfl)) (by decide) (by decide) ⟨rfl, rfl, by decide +kernel⟩ ⟨rfl, rfl, by decide +kernel⟩ (lenOf pd_7 rfl) (lenOf pd_14 rfl) (rest := []) ej f107 f103 (own_ca l Z a0 hw sa Va cd bs xs hS (k + 1) x hxk _ f103 f104 f105 f106 cs hcs (own_sta_keep S0 Oj.1 own_ns0) fv hfv (own_sta_keep S1 Oj.1 own_ns0) (own_sta_keep S2 Oj.1 own_ns0) (own_sta_keep S3 Oj.1 own_ns0) (own_sta_keep S4 Oj.1 own_ns0)) (fun _ _ _ q => q.1) (W := 0) (by decide) (by decide) (by rw [hml]; rfl) (Nat.le_of_eq rfl) (hb hby d10_18) (by decide) (by show 0 + xs.length + 0 ≤ 6; omega) ?_
      rintro T102 L102 X102 ⟨-, e102, rfl⟩
      rw [List.append_nil] at X102
      show Ends none p e below s _ _ _ T102 (mkF m 23 #[.val (.int (Int32.ofNat xs.length)), .val (.ref oa), .val (.ref b101), .val (.int (Int32.ofNat (own_run xs k).2)), .val (.int (Int32.ofNat (k + 1))), l5] [(.int x)])
      have st5 : storeLocals #[.val (.int (Int32.ofNat xs.length)), .val (.ref oa), .val (.ref b101), .val (.int (Int32.ofNat (own_run xs k).2)), .val (.int (Int32.ofNat (k + 1))), l5] 5 (.int x) = some #[.val (.int (Int32.ofNat xs.length)), .val (.ref oa), .val (.ref b101), .val (.int (Int32.ofNat (own_run xs k).2)), .val (.int (Int32.ofNat (k + 1))), .val (.int x)] := by rcases hl5 with rfl | ⟨q, rfl⟩ <;> rfl
      refine E.istore (q := 25) (l' := #[.val (.int (Int32.ofNat xs.length)), .val (.ref oa), .val (.ref b101), .val (.int (Int32.ofNat (own_run xs k).2)), .val (.int (Int32.ofNat (k + 1))), .val (.int x)]) X102 hx (hb hby d10_23) st5 ?_
      obtain ⟨F, hF⟩ : ∃ F, own_fall xs (own_run xs k).1 x (k + 1) (own_run xs k).2 = F := ⟨_, rfl⟩
      have hFk : F ≤ k := by rw [← hF]; exact Nat.le_trans (own_fall_le ok2 _ _) ok3
      have K5 :  ∀ Tf : State, Stand p l e ({ frames := 6, cells := 1, slots := 6, locals := 150 } : Room) s m #[(.int (Int32.ofNat xs.length)), (.ref oa)] below meth c Tf lj 1 (0 + xs.length) → Tf.heap = hj → Ends none p e below s (fun v h L => ∃ b, v = some (.ref b) ∧ h0.size ≤ b ∧ Ok h0 h [] L ∧ Ary Z h b .int ((own_ints (own_kmp xs)).map Value.int)) ({ frames := 6, cells := 1, slots := 6, locals := 150 } : Room).cells ({ frames := 6, cells := 1, slots := 6, locals := 150 } : Room).slots Tf (mkF m 50 #[.val (.int (Int32.ofNat xs.length)), .val (.ref oa), .val (.ref b101), .val (.int (Int32.ofNat F)), .val (.int (Int32.ofNat (k + 1))), .val (.int x)] []) := by
        intro Tf Xf ef
        obtain ⟨y, hyF⟩ : ∃ y, xs[F]? = some y := ⟨_, List.getElem?_eq_getElem (by omega)⟩
        show Ends none p e below s _ _ _ Tf (mkF m 50 #[.val (.int (Int32.ofNat xs.length)), .val (.ref oa), .val (.ref b101), .val (.int (Int32.ofNat F)), .val (.int (Int32.ofNat (k + 1))), .val (.int x)] [])
        refine E.aloadN (q := 51) Xf hx (hb hby d10_50) rfl rfl ?_
        refine E.iloadN (q := 52) Xf hx (hb hby d10_51) rfl ?_
        refine Ends.callLam Xf hx hZ hown hat hfw (hw _ (List.mem_of_getElem? (i := 57) rfl)) own_f0 own_f1 own_f4 own_f5 own_f10 (hw _ (List.mem_of_getElem? (i := 75) rfl)) (hw _ (List.mem_of_getElem? (i := 76) rfl)) (hw _ (List.mem_of_getElem? (i := 77) rfl)) (hw _ (List.mem_of_getElem? (i := 78) rfl)) (hw _ (List.mem_of_getElem? (i := 83) rfl)) (hw _ (List.mem_of_getElem? (i := 79) rfl)) (hw _ (List.mem_of_getElem? (i := 80) rfl)) (hw _ (List.mem_of_getElem? (i := 81) rfl)) (hw _ (List.mem_of_getElem? (i := 82) rfl)) (hw _ (List.mem_of_getElem? (i := 43) rfl)) (hw _ (List.mem_of_getElem? (i := 8) rfl)) (hw _ (List.mem_of_getElem? (i := 84) rfl)) (by decide) (by decide) ⟨rfl, rfl, by decide +kernel⟩ ⟨rfl, rfl, by decide +kernel⟩ (lenOf pd_7 rfl) (lenOf pd_14 rfl) (rest := []) ef f107 f103 (own_ca l Z a0 hw sa Va cd bs xs hS (F) y hyF _ f103 f104 f105 f106 cs hcs (own_sta_keep S0 Oj.1 own_ns0) fv hfv (own_sta_keep S1 Oj.1 own_ns0) (own_sta_keep S2 Oj.1 own_ns0) (own_sta_keep S3 Oj.1 own_ns0) (own_sta_keep S4 Oj.1 own_ns0)) (fun _ _ _ q => q.1) (W := 0) (by decide) (by decide) (by rw [hml]; rfl) (Nat.le_of_eq rfl) (hb hby d10_52) (by decide) (by show 0 + xs.length + 0 ≤ 6; omega) ?_
        rintro T108 L108 X108 ⟨-, e108, rfl⟩
        rw [List.append_nil] at X108
        show Ends none p e below s _ _ _ T108 (mkF m 57 #[.val (.int (Int32.ofNat xs.length)), .val (.ref oa), .val (.ref b101), .val (.int (Int32.ofNat F)), .val (.int (Int32.ofNat (k + 1))), .val (.int x)] [(.int y)])
        refine E.iload (q := 59) X108 hx (hb hby d10_57) rfl ?_
        by_cases hq : y = x
        · refine E.icmpN (q := 62) X108 hx (hb hby d10_59) (XT.ii_ne_f hq) ?_
          refine E.iinc (q := 65) (v := ((Int32.ofNat F) + (1 : Int32))) (l' := #[.val (.int (Int32.ofNat xs.length)), .val (.ref oa), .val (.ref b101), .val (.int ((Int32.ofNat F) + (1 : Int32))), .val (.int (Int32.ofNat (k + 1))), .val (.int x)]) X108 hx (hb hby d10_62) rfl rfl rfl ?_
          rw [own_succ F]
          show Ends none p e below s _ _ _ T108 (mkF m 65 #[.val (.int (Int32.ofNat xs.length)), .val (.ref oa), .val (.ref b101), .val (.int (Int32.ofNat (F + 1))), .val (.int (Int32.ofNat (k + 1))), .val (.int x)] [])
          refine E.aloadN (q := 66) X108 hx (hb hby d10_65) rfl rfl ?_
          refine E.iload (q := 68) X108 hx (hb hby d10_66) rfl ?_
          refine E.iloadN (q := 69) X108 hx (hb hby d10_68) rfl ?_
          refine Ends.ist X108 hx hZ e108 Aj (i := k + 1) rfl (by rw [List.length_map, own_ints_len, ok1]; exact hk1) (hb hby d10_69) ?_
          intro T109 h109 X109 e109 W109 V109
          have hrs := own_run_succ (l2 := F + 1) hxk hF (by rw [hyF, hq, if_pos rfl])
          have hr1 : (own_run xs (k + 1)).2 = F + 1 := by rw [hrs]
          have V2109 : Ary Z h109 b101 .int ((own_ints (own_run xs (k + 1)).1).map Value.int) := by rw [hrs, ← own_ints_set, List.map_set]; exact V109
          have O109 := Oj.wr W109 (Or.inr ge_b101)
          show Ends none p e below s _ _ _ T109 (mkF m 70 #[.val (.int (Int32.ofNat xs.length)), .val (.ref oa), .val (.ref b101), .val (.int (Int32.ofNat (F + 1))), .val (.int (Int32.ofNat (k + 1))), .val (.int x)] [])
          refine E.iinc (q := 73) (v := ((Int32.ofNat (k + 1)) + (1 : Int32))) (l' := #[.val (.int (Int32.ofNat xs.length)), .val (.ref oa), .val (.ref b101), .val (.int (Int32.ofNat (F + 1))), .val (.int ((Int32.ofNat (k + 1)) + (1 : Int32))), .val (.int x)]) X109 hx (hb hby d10_70) rfl rfl rfl ?_
          refine E.goto (q := 9) X109 hx (hb hby d10_73) ?_
          rw [own_succ (k + 1), ← hr1]
          exact ih (k + 1) (by omega) _ (Or.inr ⟨_, rfl⟩) _ _ _ X109 e109 O109 V2109
        · refine E.icmpY (q := 65) X108 hx (hb hby d10_59) (XT.ii_ne_t hq) ?_
          refine E.aloadN (q := 66) X108 hx (hb hby d10_65) rfl rfl ?_
          refine E.iload (q := 68) X108 hx (hb hby d10_66) rfl ?_
          refine E.iloadN (q := 69) X108 hx (hb hby d10_68) rfl ?_
          refine Ends.ist X108 hx hZ e108 Aj (i := k + 1) rfl (by rw [List.length_map, own_ints_len, ok1]; exact hk1) (hb hby d10_69) ?_
          intro T110 h110 X110 e110 W110 V110
          have hrs := own_run_succ (l2 := F) hxk hF (by rw [hyF, if_neg (fun q => hq (Option.some.inj q))])
          have hr1 : (own_run xs (k + 1)).2 = F := by rw [hrs]
          have V2110 : Ary Z h110 b101 .int ((own_ints (own_run xs (k + 1)).1).map Value.int) := by rw [hrs, ← own_ints_set, List.map_set]; exact V110
          have O110 := Oj.wr W110 (Or.inr ge_b101)
          show Ends none p e below s _ _ _ T110 (mkF m 70 #[.val (.int (Int32.ofNat xs.length)), .val (.ref oa), .val (.ref b101), .val (.int (Int32.ofNat F)), .val (.int (Int32.ofNat (k + 1))), .val (.int x)] [])
          refine E.iinc (q := 73) (v := ((Int32.ofNat (k + 1)) + (1 : Int32))) (l' := #[.val (.int (Int32.ofNat xs.length)), .val (.ref oa), .val (.ref b101), .val (.int (Int32.ofNat F)), .val (.int ((Int32.ofNat (k + 1)) + (1 : Int32))), .val (.int x)]) X110 hx (hb hby d10_70) rfl rfl rfl ?_
          refine E.goto (q := 9) X110 hx (hb hby d10_73) ?_
          rw [own_succ (k + 1), ← hr1]
          exact ih (k + 1) (by omega) _ (Or.inr ⟨_, rfl⟩) _ _ _ X110 e110 O110 V2110
      have G : ∀ f len, len ≤ f → len ≤ k → own_fall xs (own_run xs k).1 x f len = F → ∀ Tg : State, Stand p l e ({ frames := 6, cells := 1, slots := 6, locals := 150 } : Room) s m #[(.int (Int32.ofNat xs.length)), (.ref oa)] below meth c Tg lj 1 (0 + xs.length) → Tg.heap = hj → Ends none p e below s (fun v h L => ∃ b, v = some (.ref b) ∧ h0.size ≤ b ∧ Ok h0 h [] L ∧ Ary Z h b .int ((own_ints (own_kmp xs)).map Value.int)) ({ frames := 6, cells := 1, slots := 6, locals := 150 } : Room).cells ({ frames := 6, cells := 1, slots := 6, locals := 150 } : Room).slots Tg (mkF m 25 #[.val (.int (Int32.ofNat xs.length)), .val (.ref oa), .val (.ref b101), .val (.int (Int32.ofNat len)), .val (.int (Int32.ofNat (k + 1))), .val (.int x)] []) := by
        intro f
        induction f with
        | zero =>
          intro len hlf hlk hfa Tg Xg eg
          obtain rfl : len = 0 := by omega
          obtain rfl : 0 = F := hfa
          show Ends none p e below s _ _ _ Tg (mkF m 25 #[.val (.int (Int32.ofNat xs.length)), .val (.ref oa), .val (.ref b101), .val (.int (Int32.ofNat 0)), .val (.int (Int32.ofNat (k + 1))), .val (.int x)] [])
          refine E.iloadN (q := 26) Xg hx (hb hby d10_25) rfl ?_
          refine E.ifY (q := 50) Xg hx (hb hby d10_26) (XT.i0_le_t (by decide)) ?_
          exact K5 _ Xg eg
        | succ f ih2 =>
          intro len hlf hlk hfa Tg Xg eg
          by_cases hl0 : len = 0
          · subst hl0
            obtain rfl : 0 = F := by rw [← hfa]; simp [own_fall]
            show Ends none p e below s _ _ _ Tg (mkF m 25 #[.val (.int (Int32.ofNat xs.length)), .val (.ref oa), .val (.ref b101), .val (.int (Int32.ofNat 0)), .val (.int (Int32.ofNat (k + 1))), .val (.int x)] [])
            refine E.iloadN (q := 26) Xg hx (hb hby d10_25) rfl ?_
            refine E.ifY (q := 50) Xg hx (hb hby d10_26) (XT.i0_le_t (by decide)) ?_
            exact K5 _ Xg eg
          · obtain ⟨y, hyl⟩ : ∃ y, xs[len]? = some y := ⟨_, List.getElem?_eq_getElem (by omega)⟩
            show Ends none p e below s _ _ _ Tg (mkF m 25 #[.val (.int (Int32.ofNat xs.length)), .val (.ref oa), .val (.ref b101), .val (.int (Int32.ofNat len)), .val (.int (Int32.ofNat (k + 1))), .val (.int x)] [])
            refine E.iloadN (q := 26) Xg hx (hb hby d10_25) rfl ?_
            refine E.ifN (q := 29) Xg hx (hb hby d10_26) (XT.i0_le_f (by rw [show (0 : Int32) = Int32.ofNat 0 from rfl, own_ltN (by omega) (by omega)]; omega)) ?_
            refine E.aloadN (q := 30) Xg hx (hb hby d10_29) rfl rfl ?_
            refine E.iloadN (q := 31) Xg hx (hb hby d10_30) rfl ?_
            refine Ends.callLam Xg hx hZ hown hat hfw (hw _ (List.mem_of_getElem? (i := 57) rfl)) own_f0 own_f1 own_f4 own_f5 own_f10 (hw _ (List.mem_of_getElem? (i := 75) rfl)) (hw _ (List.mem_of_getElem? (i := 76) rfl)) (hw _ (List.mem_of_getElem? (i := 77) rfl)) (hw _ (List.mem_of_getElem? (i := 78) rfl)) (hw _ (List.mem_of_getElem? (i := 83) rfl)) (hw _ (List.mem_of_getElem? (i := 79) rfl)) (hw _ (List.mem_of_getElem? (i := 80) rfl)) (hw _ (List.mem_of_getElem? (i := 81) rfl)) (hw _ (List.mem_of_getElem? (i := 82) rfl)) (hw _ (List.mem_of_getElem? (i := 43) rfl)) (hw _ (List.mem_of_getElem? (i := 8) rfl)) (hw _ (List.mem_of_getElem? (i := 84) rfl)) (by decide) (by decide) ⟨rfl, rfl, by decide +kernel⟩ ⟨rfl, rfl, by decide +kernel⟩ (lenOf pd_7 rfl) (lenOf pd_14 rfl) (rest := []) eg f107 f103 (own_ca l Z a0 hw sa Va cd bs xs hS (len) y hyl _ f103 f104 f105 f106 cs hcs (own_sta_keep S0 Oj.1 own_ns0) fv hfv (own_sta_keep S1 Oj.1 own_ns0) (own_sta_keep S2 Oj.1 own_ns0) (own_sta_keep S3 Oj.1 own_ns0) (own_sta_keep S4 Oj.1 own_ns0)) (fun _ _ _ q => q.1) (W := 0) (by decide) (by decide) (by rw [hml]; rfl) (Nat.le_of_eq rfl) (hb hby d10_31) (by decide) (by show 0 + xs.length + 0 ≤ 6; omega) ?_
            rintro T111 L111 X111 ⟨-, e111, rfl⟩
            rw [List.append_nil] at X111
            show Ends none p e below s _ _ _ T111 (mkF m 36 #[.val (.int (Int32.ofNat xs.length)), .val (.ref oa), .val (.ref b101), .val (.int (Int32.ofNat len)), .val (.int (Int32.ofNat (k + 1))), .val (.int x)] [(.int y)])
            refine E.iload (q := 38) X111 hx (hb hby d10_36) rfl ?_
            by_cases hq : y = x
            · refine E.icmpY (q := 50) X111 hx (hb hby d10_38) (XT.ii_eq_t hq) ?_
              obtain rfl : len = F := by rw [← hfa]; simp only [own_fall]; rw [if_neg hl0, hyl, hq, if_pos rfl]
              exact K5 _ X111 e111
            · refine E.icmpN (q := 41) X111 hx (hb hby d10_38) (XT.ii_eq_f hq) ?_
              refine E.aloadN (q := 42) X111 hx (hb hby d10_41) rfl rfl ?_
              refine E.iloadN (q := 43) X111 hx (hb hby d10_42) rfl ?_
              refine E.iconst (q := 44) (v := (1 : Int32)) X111 hx (hb hby d10_43) rfl ?_
              refine E.isub (q := 45) X111 hx (hb hby d10_44) ?_
              rw [own_pred (by omega)]
              show Ends none p e below s _ _ _ T111 (mkF m 45 #[.val (.int (Int32.ofNat xs.length)), .val (.ref oa), .val (.ref b101), .val (.int (Int32.ofNat len)), .val (.int (Int32.ofNat (k + 1))), .val (.int x)] [(.int (Int32.ofNat (len - 1))), (.ref b101)])
              refine Ends.ild X111 hx hZ e111 Aj (i := (len - 1)) (v := .int (Int32.ofNat ((own_run xs k).1.getD (len - 1) 0))) rfl (by rw [List.getElem?_map, (own_ints_at (by rw [ok1]; omega))]; rfl) (hb hby d10_45) ?_
              show Ends none p e below s _ _ _ T111 (mkF m 46 #[.val (.int (Int32.ofNat xs.length)), .val (.ref oa), .val (.ref b101), .val (.int (Int32.ofNat len)), .val (.int (Int32.ofNat (k + 1))), .val (.int x)] [(.int (Int32.ofNat ((own_run xs k).1.getD (len - 1) 0)))])
              refine E.istoreN (q := 47) (l' := #[.val (.int (Int32.ofNat xs.length)), .val (.ref oa), .val (.ref b101), .val (.int (Int32.ofNat ((own_run xs k).1.getD (len - 1) 0))), .val (.int (Int32.ofNat (k + 1))), .val (.int x)]) X111 hx (hb hby d10_46) rfl ?_
              refine E.goto (q := 25) X111 hx (hb hby d10_47) ?_
              have hd1 := ok2 (len - 1)
              exact ih2 ((own_run xs k).1.getD (len - 1) 0) (by omega) (by omega) (by rw [← hfa]; simp only [own_fall]; rw [if_neg hl0, hyl, if_neg (fun e => hq (Option.some.inj e))]) _ X111 e111
      exact G (k + 1) (own_run xs k).2 (by omega) ok3 hF _ X102 e102
  exact J (xs.length - 1) 0 (by omega) _ (Or.inl rfl) _ _ _ X101 e101 O101 (by show Ary Z _ _ _ ((own_ints (List.replicate xs.length 0)).map Value.int); rw [own_ints0]; exact V101)
theorem ef_6 (m : MethodId) (x0 : Addr) (x1 : Addr) : entryFrame m #[(.ref x0), (.ref x1)] 2 = mkF m 0 #[.val (.ref x0), .val (.ref x1)] [] := by first | (simp [entryFrame, mkF, argsToLocals, Value.category]; done) | rfl
set_option maxRecDepth 65536 in
set_option maxHeartbeats 40000000 in
theorem rm6 (l : Launch) (Z : State) (a0 : Array Value) (hw : ∀ d ∈ tables_1, d.before a0 Z = true) (oa : Addr) (om : Addr) (h0 : Heap) :
    Con l (⟨"java/util/Objects", "requireNonNull", "(Ljava/lang/Object;Ljava/lang/String;)Ljava/lang/Object;"⟩ : MethodName) jdk_31_method_11_code 2 (some (.object "java/lang/Object")) [] ({ frames := 0, cells := 0, slots := 0, locals := 0 } : Room) #[(.ref oa), (.ref om)] Z h0 (fun v h L => v = some (.ref oa) ∧ h = h0 ∧ L = []) := by
  refine Con.of (plainFor_of_name pn_5) ?_
  intro p e s m below meth c s₁ hx hZ hby hml hown hnm hret hlk X0 e0
  refine Ends.cast (ef_6 m oa om) ?_
  show Ends none p e below s _ _ _ s₁ (mkF m 0 #[.val (.ref oa), .val (.ref om)] [])
  refine E.aloadN (q := 1) X0 hx (hb hby d6_0) rfl rfl ?_
  refine E.nonnullY (q := 13) X0 hx (hb hby d6_1) ?_
  refine E.aloadN (q := 14) X0 hx (hb hby d6_13) rfl rfl ?_
  exact Ends.retA X0 hx hlk hret rfl rfl rfl (hb hby d6_14) (by decide) (by decide) ⟨rfl, e0, rfl⟩
theorem ef_9 (m : MethodId) (x0 : Addr) : entryFrame m #[(.ref x0)] 1 = mkF m 0 #[.val (.ref x0)] [] := by first | (simp [entryFrame, mkF, argsToLocals, Value.category]; done) | rfl
set_option maxRecDepth 65536 in
set_option maxHeartbeats 40000000 in
theorem rm9 (l : Launch) (Z : State) (a0 : Array Value) (hw : ∀ d ∈ tables_1, d.before a0 Z = true) (oa : Addr) (h0 : Heap) :
    Con l (⟨"java/util/Objects", "requireNonNull", "(Ljava/lang/Object;)Ljava/lang/Object;"⟩ : MethodName) jdk_31_method_10_code 1 (some (.object "java/lang/Object")) [] ({ frames := 0, cells := 0, slots := 0, locals := 0 } : Room) #[(.ref oa)] Z h0 (fun v h L => v = some (.ref oa) ∧ h = h0 ∧ L = []) := by
  refine Con.of (plainFor_of_name pn_5) ?_
  intro p e s m below meth c s₁ hx hZ hby hml hown hnm hret hlk X0 e0
  refine Ends.cast (ef_9 m oa) ?_
  show Ends none p e below s _ _ _ s₁ (mkF m 0 #[.val (.ref oa)] [])
  refine E.aloadN (q := 1) X0 hx (hb hby d9_0) rfl rfl ?_
  refine E.nonnullY (q := 12) X0 hx (hb hby d9_1) ?_
  refine E.aloadN (q := 13) X0 hx (hb hby d9_12) rfl rfl ?_
  exact Ends.retA X0 hx hlk hret rfl rfl rfl (hb hby d9_13) (by decide) (by decide) ⟨rfl, e0, rfl⟩
theorem ef_5 (m : MethodId) (x0 : Addr) : entryFrame m #[(.ref x0)] 1 = mkF m 0 #[.val (.ref x0)] [] := by first | (simp [entryFrame, mkF, argsToLocals, Value.category]; done) | rfl
set_option maxRecDepth 65536 in
set_option maxHeartbeats 40000000 in
theorem rm5 (l : Launch) (Z : State) (a0 : Array Value) (hw : ∀ d ∈ tables_1, d.before a0 Z = true) (sa : Addr) (Va : Addr) (cd : Int32) (bs xs : List Int32) (hS : own_Str cd bs xs) (h6 : xs.length ≤ 6) (h0 : Heap) (Es : Exa Z h0 sa "java/lang/String") (Svs : Fld Z h0 sa "java/lang/String" "value" "[B" (.ref Va)) (Scs : Fld Z h0 sa "java/lang/String" "coder" "B" (.int cd)) (A_x : Ary Z h0 Va .byte (bs.map Value.int)) (cs : Int32) (hcs : ¬ cs = (0 : Int32)) (S0 : Sta Z h0 "java/lang/String" "COMPACT_STRINGS" "Z" (.int cs)) (fv : Value) (hfv : fv = .null ∨ ∃ a, fv = .ref a) (S1 : Sta Z h0 "jdk/internal/util/Preconditions" "SIOOBE_FORMATTER" "Ljava/util/function/BiFunction;" fv) (S2 : Sta Z h0 "java/lang/StringUTF16" "$assertionsDisabled" "Z" (.int (1 : Int32))) (S3 : Sta Z h0 "java/lang/StringUTF16" "HI_BYTE_SHIFT" "I" (.int (0 : Int32))) (S4 : Sta Z h0 "java/lang/StringUTF16" "LO_BYTE_SHIFT" "I" (.int (8 : Int32))) :
    ConH l (⟨"com/example/needlework/needlework/match/PrefixTable", "of", "(Ljava/lang/CharSequence;)[I"⟩ : MethodName) prog_15_method_2_code 1 (some (.array .int)) [] ({ frames := 7, cells := 4, slots := 39, locals := 3090 } : Room) #[(.ref sa)] Z h0 own_EL (fun v h L => ∃ b, v = some (.ref b) ∧ h0.size ≤ b ∧ Ok h0 h [] L ∧ Ary Z h b .int ((own_ints (own_kmp xs)).map Value.int)) := by
  refine ConH.ofN (plainFor_of_name pn_4) ?_
  intro p e s m below meth c s₁ vm0 HC0 hx hZ hby hml hown hnm hret hlk X0 e0 hmn
  refine Ends.cast (ef_5 m sa) ?_
  show Ends (some (CHr Z own_EL vm0 h0)) p e below s _ _ _ s₁ (mkF m 0 #[.val (.ref sa)] [])
  have O0 := Ok.refl h0 []
  refine E.aloadN (q := 1) X0 hx (hb hby d5_0) rfl rfl ?_
  refine Ends.ldcO X0 hx hZ hown (hw _ (List.mem_of_getElem? (i := 31) rfl)) (own_sat hw) e0 (Nat.zero_le _) (own_EW hw) HC0.1 (hb hby d5_1) 28 (by decide) (by decide) (by decide) (by decide) ?_
  intro s T112 h112 c112 X112 e112 E112 hc112 hZ hown
  have O112 := O0.ext E112
  have HC113 := HC0.trans hc112
  show Ends (some (CHr Z own_EL vm0 h0)) p e below s _ _ _ T112 (mkF m 3 #[.val (.ref sa)] [(.ref c112), (.ref sa)])
  refine Ends.callS X112 hx hZ hown (hw _ (List.mem_of_getElem? (i := 32) rfl)) (hw _ (List.mem_of_getElem? (i := 33) rfl)) (hw _ (List.mem_of_getElem? (i := 34) rfl)) (hw _ (List.mem_of_getElem? (i := 35) rfl)) (by decide) (argsL := [(.ref sa), (.ref c112)]) (rest := []) e112 (rm6 l Z a0 hw sa c112 _) (W := 0) (by decide) (by decide) (by rw [hml]; rfl) (lenOf pd_15 rfl) (Nat.le_of_eq rfl) (hb hby d5_3) (by decide) (by decide) rfl ?_
  rintro T114 v114 L114 X114 ⟨rfl, e114, rfl⟩
  rw [List.append_nil] at X114
  show Ends (some (CHr Z own_EL vm0 h0)) p e below s _ _ _ T114 (mkF m 6 #[.val (.ref sa)] [(.ref sa)])
  refine E.pop (q := 7) X114 hx (hb hby d5_6) rfl ?_
  refine E.aloadN (q := 8) X114 hx (hb hby d5_7) rfl rfl ?_
  have f115 := Es.ext E112
  have f116 := Svs.ext E112
  have f117 := Scs.ext E112
  have f118 := A_x.ext E112
  refine Ends.callF X114 hx hZ hown (hw _ (List.mem_of_getElem? (i := 36) rfl)) (hw _ (List.mem_of_getElem? (i := 37) rfl)) (hw _ (List.mem_of_getElem? (i := 38) rfl)) (hw _ (List.mem_of_getElem? (i := 39) rfl)) (hw _ (List.mem_of_getElem? (i := 40) rfl)) (hw _ (List.mem_of_getElem? (i := 41) rfl)) (hw _ (List.mem_of_getElem? (i := 42) rfl)) (hw _ (List.mem_of_getElem? (i := 43) rfl)) (hw _ (List.mem_of_getElem? (i := 8) rfl)) (hw _ (List.mem_of_getElem? (i := 44) rfl)) (by decide) (argsL := []) (rest := []) e114 f115 (own_len l Z a0 hw sa Va cd bs xs hS _ f115 f116 f117 f118 cs hcs (own_sta_keep S0 O112.1 own_ns0)) (W := 0) (by decide) (by decide) (by rw [hml]; rfl) (lenOf pd_16 rfl) (Nat.le_of_eq rfl) (hb hby d5_8) (by decide) (by decide) rfl ?_
  rintro T119 v119 L119 X119 ⟨rfl, e119, rfl⟩
  rw [List.append_nil] at X119
  show Ends (some (CHr Z own_EL vm0 h0)) p e below s _ _ _ T119 (mkF m 13 #[.val (.ref sa)] [(.int (Int32.ofNat xs.length))])
  refine E.aloadN (q := 14) X119 hx (hb hby d5_13) rfl rfl ?_
  refine E.dup (q := 15) X119 hx (hb hby d5_14) rfl ?_
  refine Ends.callS X119 hx hZ hown (hw _ (List.mem_of_getElem? (i := 51) rfl)) (hw _ (List.mem_of_getElem? (i := 52) rfl)) (hw _ (List.mem_of_getElem? (i := 34) rfl)) (hw _ (List.mem_of_getElem? (i := 53) rfl)) (by decide) (argsL := [(.ref sa)]) (rest := [(.ref sa), (.int (Int32.ofNat xs.length))]) e119 (rm9 l Z a0 hw sa _) (W := 2) (by decide) (by decide) (by rw [hml]; rfl) (lenOf pd_17 rfl) (Nat.le_of_eq rfl) (hb hby d5_15) (by decide) (by decide) rfl ?_
  rintro T120 v120 L120 X120 ⟨rfl, e120, rfl⟩
  rw [List.append_nil] at X120
  show Ends (some (CHr Z own_EL vm0 h0)) p e below s _ _ _ T120 (mkF m 18 #[.val (.ref sa)] [(.ref sa), (.ref sa), (.int (Int32.ofNat xs.length))])
  refine E.pop (q := 19) X120 hx (hb hby d5_18) rfl ?_
  refine Ends.site (σ := own_sh) (C0 := "java/lang/CharSequence") X120 hx hZ (x := ({ cls := "com/example/needlework/needlework/match/PrefixTable", name := "of", desc := "(Ljava/lang/CharSequence;)[I" } : Jvm.MethodName)) hmn (hw _ (List.mem_of_getElem? (i := 54) rfl)) rfl own_fw0 (hw _ (List.mem_of_getElem? (i := 57) rfl)) e120 (sa := sa) (st := [(.int (Int32.ofNat xs.length))]) (by rw [hml]; rfl) (W := 1) (Nat.le_of_eq rfl) (by decide) (hb hby d5_19) (by decide) (by decide) ?_
  intro T121 h121 b121 cK121 one121 g121 hat121 X121 e121 E121 A121
  have ge_b121 : h0.size ≤ b121 := Nat.le_trans O112.le (Nat.le_of_eq g121.symm)
  have O121 := O112.ext E121
  have HC122 := HC113.trans (CHr.ext E121 HC113.1)
  have LA121 : LamAt h121 b121 cK121 sa := A121
  show Ends (some (CHr Z own_EL vm0 h0)) p e below s _ _ _ T121 (mkF m 24 #[.val (.ref sa)] [(.ref b121), (.int (Int32.ofNat xs.length))])
  have f123 := f115.ext E121
  have f124 := f116.ext E121
  have f125 := f117.ext E121
  have f126 := f118.ext E121
  refine Ends.callS X121 hx hZ hown (hw _ (List.mem_of_getElem? (i := 58) rfl)) (hw _ (List.mem_of_getElem? (i := 59) rfl)) (hw _ (List.mem_of_getElem? (i := 29) rfl)) (hw _ (List.mem_of_getElem? (i := 60) rfl)) (by decide) (argsL := [(.int (Int32.ofNat xs.length)), (.ref b121)]) (rest := []) e121 (rm10 l Z a0 hw b121 sa ({ cls := "com/example/needlework/needlework/match/PrefixTable", name := "of", desc := "(Ljava/lang/CharSequence;)[I" } : Jvm.MethodName) 19 24 cK121 one121 hat121 own_fw0 Va cd bs xs hS h6 _ LA121 f123 f124 f125 f126 cs hcs (own_sta_keep S0 O121.1 own_ns0) fv hfv (own_sta_keep S1 O121.1 own_ns0) (own_sta_keep S2 O121.1 own_ns0) (own_sta_keep S3 O121.1 own_ns0) (own_sta_keep S4 O121.1 own_ns0)) (W := 0) (by decide) (by decide) (by rw [hml]; rfl) (lenOf pd_18 rfl) (Nat.le_of_eq rfl) (hb hby d5_24) (by decide) (by decide) rfl ?_
  rintro T127 v127 L127 X127 ⟨b127, rfl, gb127, hO127, V127⟩
  have e127 : T127.heap = T127.heap := rfl
  have O127 := O121.call hO127 all0
  have HC128 := HC122.trans (CHr.keep hO127.1 (own_all0) HC122.1)
  show Ends (some (CHr Z own_EL vm0 h0)) p e below s _ _ _ T127 (mkF m 27 #[.val (.ref sa)] [(.ref b127)])
  have ge2 : h0.size ≤ b127 := Nat.le_trans O121.le gb127
  exact Ends.retA X127 hx hlk hret rfl rfl rfl (hb hby d5_27) (by decide) (by decide) ⟨⟨_, rfl, ge2, O127, V127⟩, by first | exact (Nat.le_trans (Nat.le_trans (Nat.le_refl _) E121.1) hO127.1.1) | (rw [e127]; exact (Nat.le_trans (Nat.le_trans (Nat.le_refl _) E121.1) hO127.1.1))⟩ (hF := own_chret X127 hZ (own_EW hw) HC128 (by first | rfl | assumption))
theorem efMk_0 (m : MethodId) (x0 : Addr) (x1 : Int32) : entryFrame m #[(.ref x0), (.int x1)] 2 = mkF m 0 #[.val (.ref x0), .val (.int x1)] [] := by first | (simp [entryFrame, mkF, argsToLocals, Value.category]; done) | rfl
set_option maxRecDepth 65536 in
set_option maxHeartbeats 40000000 in
theorem rmMk_0 (l : Launch) (Z : State) (a0 : Array Value) (hw : ∀ d ∈ tables_1, d.before a0 Z = true) (oc : Addr) (c0 c1 c2 c3 c4 c5 : Int32) (hc0 : own_C c0) (hc1 : own_C c1) (hc2 : own_C c2) (hc3 : own_C c3) (hc4 : own_C c4) (hc5 : own_C c5) (h0 : Heap) (A_c : Ary Z h0 oc .char [(.int c0), (.int c1), (.int c2), (.int c3), (.int c4), (.int c5)]) (cs : Int32) (hcs : ¬ cs = (0 : Int32)) (S0 : Sta Z h0 "java/lang/String" "COMPACT_STRINGS" "Z" (.int cs)) (S2 : Sta Z h0 "java/lang/StringUTF16" "$assertionsDisabled" "Z" (.int (1 : Int32))) (S3 : Sta Z h0 "java/lang/StringUTF16" "HI_BYTE_SHIFT" "I" (.int (0 : Int32))) (S4 : Sta Z h0 "java/lang/StringUTF16" "LO_BYTE_SHIFT" "I" (.int (8 : Int32))) :
    ConH l (⟨"com/example/needlework/needlework/match/PrefixTableOfPinLaw", "make", "([CI)Ljava/lang/String;"⟩ : MethodName) method_3_code 2 (some (.object "java/lang/String")) [] ({ frames := 6, cells := 6, slots := 28, locals := 150 } : Room) #[(.ref oc), (.int (0 : Int32))] Z h0 own_EL (fun v h L => ∃ (a V : Addr) (cd : Int32) (bs : List Int32), v = some (.ref a) ∧ h0.size ≤ a ∧ Ok h0 h [] L ∧ Exa Z h a "java/lang/String" ∧ Fld Z h a "java/lang/String" "value" "[B" (.ref V) ∧ Fld Z h a "java/lang/String" "coder" "B" (.int cd) ∧ Ary Z h V .byte (bs.map Value.int) ∧ own_Str cd bs ([] : List Int32)) := by
  refine ConH.of (plainFor_of_name pn_6) ?_
  intro p e s m below meth c s₁ vm0 HC0 hx hZ hby hml hown hnm hret hlk X0 e0
  refine Ends.cast (efMk_0 m oc (0 : Int32)) ?_
  show Ends (some (CHr Z own_EL vm0 h0)) p e below s _ _ _ s₁ (mkF m 0 #[.val (.ref oc), .val (.int (0 : Int32))] [])
  have O0 := Ok.refl h0 []
  refine E.iloadN (q := 1) X0 hx (hb hby d1_0) rfl ?_
  refine E.ifN (q := 4) X0 hx (hb hby d1_1) (XT.i0_ne_f (by decide)) ?_
  refine Ends.newC X0 hx hZ hown (hw _ (List.mem_of_getElem? (i := 6) rfl)) (hw _ (List.mem_of_getElem? (i := 7) rfl)) (hw _ (List.mem_of_getElem? (i := 8) rfl)) e0 (hb hby d1_4) (by decide) (by decide) ?_
  intro T129 h129 b129 g129 X129 e129 E129 A129 D129
  have ge_b129 : h0.size ≤ b129 := Nat.le_trans O0.le (Nat.le_of_eq g129.symm)
  have O129 := O0.ext E129
  have HC130 := HC0.trans (CHr.ext E129 HC0.1)
  have F129_value : Fld Z h129 b129 "java/lang/String" "value" "[B" .null := D129 (Or.inr (hw _ (List.mem_of_getElem? (i := 21) rfl))) (ty := (.array .byte)) (by decide)
  have F129_coder : Fld Z h129 b129 "java/lang/String" "coder" "B" (.int (0 : Int32)) := D129 (Or.inr (hw _ (List.mem_of_getElem? (i := 22) rfl))) (ty := .byte) (by decide)
  refine E.dup (q := 8) X129 hx (hb hby d1_7) rfl ?_
  refine E.iconst (q := 9) (v := (0 : Int32)) X129 hx (hb hby d1_8) rfl ?_
  refine Ends.newA X129 hx hZ (hw _ (List.mem_of_getElem? (i := 1) rfl)) e129 (hb hby d1_9) (N := 0) rfl (by decide) (by decide) (by decide) ?_
  intro T131 h131 b131 g131 X131 e131 E131 A131
  have ge_b131 : h0.size ≤ b131 := Nat.le_trans O129.le (Nat.le_of_eq g131.symm)
  have O131 := O129.ext E131
  have HC132 := HC130.trans (CHr.ext E131 HC130.1)
  have V131 : Ary Z h131 b131 .char [] := A131
  have f133 := A129.ext E131
  have f134 := F129_value.ext E131
  have f135 := F129_coder.ext E131
  refine Ends.callIH X131 hx hZ hown (hw _ (List.mem_of_getElem? (i := 9) rfl)) (hw _ (List.mem_of_getElem? (i := 10) rfl)) (hw _ (List.mem_of_getElem? (i := 8) rfl)) (hw _ (List.mem_of_getElem? (i := 11) rfl)) rfl (by decide) (argsL := [(.ref b131)]) (rest := [(.ref b129)]) e131 (Nat.zero_le _) (own_EW hw) HC132.1 (rmI1_0 l Z a0 hw b129 b131 _ f133 f134 f135 V131) (W := 1) (by decide) (by decide) (by rw [hml]; rfl) (lenOf pd_19 rfl) (Nat.le_of_eq rfl) (hb hby d1_11) (by decide) (by decide) rfl ?_
  rintro s T136 v136 L136 X136 hc136 hZ hown ⟨rfl, U136, hO136, Fv136, Fc136, A136⟩
  have e136 : T136.heap = T136.heap := rfl
  have O136 := O131.call hO136 (allS (Or.inr ge_b129) all0)
  have HC137 := HC132.trans hc136
  show Ends (some (CHr Z own_EL vm0 h0)) p e below s _ _ _ T136 (mkF m 14 #[.val (.ref oc), .val (.int (0 : Int32))] [(.ref b129)])
  have f138 := f133.keep hO136.1
  exact Ends.retA X136 hx hlk hret rfl rfl rfl (hb hby d1_14) (by decide) (by decide) ⟨⟨_, _, _, [], rfl, ge_b129, O136, f138, Fv136, Fc136, A136, ⟨(fun x hx' => nomatch hx'), Or.inl ⟨rfl, rfl, (fun x hx' => nomatch hx')⟩⟩⟩, by first | exact (Nat.le_refl _) | (rw [e136]; exact (Nat.le_refl _))⟩ (hF := own_chret X136 hZ (own_EW hw) HC137 (by first | rfl | assumption))
theorem efMk_1 (m : MethodId) (x0 : Addr) (x1 : Int32) : entryFrame m #[(.ref x0), (.int x1)] 2 = mkF m 0 #[.val (.ref x0), .val (.int x1)] [] := by first | (simp [entryFrame, mkF, argsToLocals, Value.category]; done) | rfl
set_option maxRecDepth 65536 in
set_option maxHeartbeats 40000000 in
theorem rmMk_1 (l : Launch) (Z : State) (a0 : Array Value) (hw : ∀ d ∈ tables_1, d.before a0 Z = true) (oc : Addr) (c0 c1 c2 c3 c4 c5 : Int32) (hc0 : own_C c0) (hc1 : own_C c1) (hc2 : own_C c2) (hc3 : own_C c3) (hc4 : own_C c4) (hc5 : own_C c5) (h0 : Heap) (A_c : Ary Z h0 oc .char [(.int c0), (.int c1), (.int c2), (.int c3), (.int c4), (.int c5)]) (cs : Int32) (hcs : ¬ cs = (0 : Int32)) (S0 : Sta Z h0 "java/lang/String" "COMPACT_STRINGS" "Z" (.int cs)) (S2 : Sta Z h0 "java/lang/StringUTF16" "$assertionsDisabled" "Z" (.int (1 : Int32))) (S3 : Sta Z h0 "java/lang/StringUTF16" "HI_BYTE_SHIFT" "I" (.int (0 : Int32))) (S4 : Sta Z h0 "java/lang/StringUTF16" "LO_BYTE_SHIFT" "I" (.int (8 : Int32))) :
    ConH l (⟨"com/example/needlework/needlework/match/PrefixTableOfPinLaw", "make", "([CI)Ljava/lang/String;"⟩ : MethodName) method_3_code 2 (some (.object "java/lang/String")) [] ({ frames := 6, cells := 6, slots := 28, locals := 150 } : Room) #[(.ref oc), (.int (1 : Int32))] Z h0 own_EL (fun v h L => ∃ (a V : Addr) (cd : Int32) (bs : List Int32), v = some (.ref a) ∧ h0.size ≤ a ∧ Ok h0 h [] L ∧ Exa Z h a "java/lang/String" ∧ Fld Z h a "java/lang/String" "value" "[B" (.ref V) ∧ Fld Z h a "java/lang/String" "coder" "B" (.int cd) ∧ Ary Z h V .byte (bs.map Value.int) ∧ own_Str cd bs [c0]) := by
  refine ConH.of (plainFor_of_name pn_6) ?_
  intro p e s m below meth c s₁ vm0 HC0 hx hZ hby hml hown hnm hret hlk X0 e0
  refine Ends.cast (efMk_1 m oc (1 : Int32)) ?_
  show Ends (some (CHr Z own_EL vm0 h0)) p e below s _ _ _ s₁ (mkF m 0 #[.val (.ref oc), .val (.int (1 : Int32))] [])
  have O0 := Ok.refl h0 []
  refine E.iloadN (q := 1) X0 hx (hb hby d1_0) rfl ?_
  refine E.ifY (q := 15) X0 hx (hb hby d1_1) (XT.i0_ne_t (by decide)) ?_
  refine E.iloadN (q := 16) X0 hx (hb hby d1_15) rfl ?_
  refine E.iconst (q := 17) (v := (1 : Int32)) X0 hx (hb hby d1_16) rfl ?_
  refine E.icmpN (q := 20) X0 hx (hb hby d1_17) (XT.ii_ne_f (by decide)) ?_
  refine Ends.newC X0 hx hZ hown (hw _ (List.mem_of_getElem? (i := 6) rfl)) (hw _ (List.mem_of_getElem? (i := 7) rfl)) (hw _ (List.mem_of_getElem? (i := 8) rfl)) e0 (hb hby d1_20) (by decide) (by decide) ?_
  intro T139 h139 b139 g139 X139 e139 E139 A139 D139
  have ge_b139 : h0.size ≤ b139 := Nat.le_trans O0.le (Nat.le_of_eq g139.symm)
  have O139 := O0.ext E139
  have HC140 := HC0.trans (CHr.ext E139 HC0.1)
  have F139_value : Fld Z h139 b139 "java/lang/String" "value" "[B" .null := D139 (Or.inr (hw _ (List.mem_of_getElem? (i := 21) rfl))) (ty := (.array .byte)) (by decide)
  have F139_coder : Fld Z h139 b139 "java/lang/String" "coder" "B" (.int (0 : Int32)) := D139 (Or.inr (hw _ (List.mem_of_getElem? (i := 22) rfl))) (ty := .byte) (by decide)
  refine E.dup (q := 24) X139 hx (hb hby d1_23) rfl ?_
  refine E.iconst (q := 25) (v := (1 : Int32)) X139 hx (hb hby d1_24) rfl ?_
  refine Ends.newA X139 hx hZ (hw _ (List.mem_of_getElem? (i := 1) rfl)) e139 (hb hby d1_25) (N := 1) rfl (by decide) (by decide) (by decide) ?_
  intro T141 h141 b141 g141 X141 e141 E141 A141
  have ge_b141 : h0.size ≤ b141 := Nat.le_trans O139.le (Nat.le_of_eq g141.symm)
  have O141 := O139.ext E141
  have HC142 := HC140.trans (CHr.ext E141 HC140.1)
  have V141 : Ary Z h141 b141 .char [(.int (0 : Int32))] := A141
  refine E.dup (q := 28) X141 hx (hb hby d1_27) rfl ?_
  refine E.iconst (q := 29) (v := (0 : Int32)) X141 hx (hb hby d1_28) rfl ?_
  refine E.aloadN (q := 30) X141 hx (hb hby d1_29) rfl rfl ?_
  refine E.iconst (q := 31) (v := (0 : Int32)) X141 hx (hb hby d1_30) rfl ?_
  have f143 := A_c.ext E139
  have f144 := f143.ext E141
  refine Ends.cld X141 hx hZ e141 f144 (i := 0) rfl rfl (hb hby d1_31) ?_
  refine Ends.cst X141 hx hZ e141 V141 (x' := c0) (own_nc16 hc0) (i := 0) rfl (show 0 < 1 from by decide) (hb hby d1_32) ?_
  intro T145 h145 X145 e145 W145 V145
  have V145 : Ary Z h145 b141 .char [(.int c0)] := V145
  have O145 := O141.wr W145 (Or.inr ge_b141)
  have HC146 := HC142.trans (CHr.wr W145 (own_safe_ary hZ.alike V141 (by decide)) HC142.1)
  have f147 := A139.ext E141
  have f148 := f147.wr W145
  have f149 := F139_value.ext E141
  have f150 := f149.other W145 (Or.inl (Nat.ne_of_lt (Nat.lt_of_lt_of_eq A139.lt g141.symm)))
  have f151 := F139_coder.ext E141
  have f152 := f151.other W145 (Or.inl (Nat.ne_of_lt (Nat.lt_of_lt_of_eq A139.lt g141.symm)))
  refine Ends.callI X145 hx hZ hown (hw _ (List.mem_of_getElem? (i := 9) rfl)) (hw _ (List.mem_of_getElem? (i := 10) rfl)) (hw _ (List.mem_of_getElem? (i := 8) rfl)) (hw _ (List.mem_of_getElem? (i := 11) rfl)) rfl (by decide) (argsL := [(.ref b141)]) (rest := [(.ref b139)]) e145 (rmI1_n l Z a0 hw b139 b141 [c0] (own_C6 hc0 hc1 hc2 hc3 hc4 hc5 1) (by simp) (by simp) _ f148 f150 f152 V145 (Ne.symm (Nat.ne_of_lt (Nat.lt_of_lt_of_eq A139.lt g141.symm))) cs hcs (own_sta_keep S0 O145.1 own_ns0) (own_sta_keep S2 O145.1 own_ns0) (own_sta_keep S3 O145.1 own_ns0) (own_sta_keep S4 O145.1 own_ns0)) (W := 1) (by decide) (by decide) (by rw [hml]; rfl) (lenOf pd_19 rfl) (Nat.le_of_eq rfl) (hb hby d1_33) (by decide) (by decide) rfl ?_
  rintro T153 v153 L153 X153 ⟨rfl, U153, cd153, bs153, gU153, hO153, Fv153, Fc153, A153, hs153⟩
  have e153 : T153.heap = T153.heap := rfl
  have O153 := O145.call hO153 (allS (Or.inr ge_b139) all0)
  have HC154 := HC146.trans (CHr.keep hO153.1 (own_all1 (own_safe_blank hZ.alike f148 f150)) HC146.1)
  show Ends (some (CHr Z own_EL vm0 h0)) p e below s _ _ _ T153 (mkF m 36 #[.val (.ref oc), .val (.int (1 : Int32))] [(.ref b139)])
  have f155 := f148.keep hO153.1
  exact Ends.retA X153 hx hlk hret rfl rfl rfl (hb hby d1_36) (by decide) (by decide) ⟨⟨_, _, _, _, rfl, ge_b139, O153, f155, Fv153, Fc153, A153, hs153⟩, by first | exact (Nat.zero_le _) | (rw [e153]; exact (Nat.zero_le _))⟩ (hF := own_chret X153 hZ (own_EW hw) HC154 (by first | rfl | assumption))
theorem efMk_2 (m : MethodId) (x0 : Addr) (x1 : Int32) : entryFrame m #[(.ref x0), (.int x1)] 2 = mkF m 0 #[.val (.ref x0), .val (.int x1)] [] := by first | (simp [entryFrame, mkF, argsToLocals, Value.category]; done) | rfl
set_option maxRecDepth 65536 in
set_option maxHeartbeats 40000000 in
theorem rmMk_2 (l : Launch) (Z : State) (a0 : Array Value) (hw : ∀ d ∈ tables_1, d.before a0 Z = true) (oc : Addr) (c0 c1 c2 c3 c4 c5 : Int32) (hc0 : own_C c0) (hc1 : own_C c1) (hc2 : own_C c2) (hc3 : own_C c3) (hc4 : own_C c4) (hc5 : own_C c5) (h0 : Heap) (A_c : Ary Z h0 oc .char [(.int c0), (.int c1), (.int c2), (.int c3), (.int c4), (.int c5)]) (cs : Int32) (hcs : ¬ cs = (0 : Int32)) (S0 : Sta Z h0 "java/lang/String" "COMPACT_STRINGS" "Z" (.int cs)) (S2 : Sta Z h0 "java/lang/StringUTF16" "$assertionsDisabled" "Z" (.int (1 : Int32))) (S3 : Sta Z h0 "java/lang/StringUTF16" "HI_BYTE_SHIFT" "I" (.int (0 : Int32))) (S4 : Sta Z h0 "java/lang/StringUTF16" "LO_BYTE_SHIFT" "I" (.int (8 : Int32))) :
    ConH l (⟨"com/example/needlework/needlework/match/PrefixTableOfPinLaw", "make", "([CI)Ljava/lang/String;"⟩ : MethodName) method_3_code 2 (some (.object "java/lang/String")) [] ({ frames := 6, cells := 6, slots := 28, locals := 150 } : Room) #[(.ref oc), (.int (2 : Int32))] Z h0 own_EL (fun v h L => ∃ (a V : Addr) (cd : Int32) (bs : List Int32), v = some (.ref a) ∧ h0.size ≤ a ∧ Ok h0 h [] L ∧ Exa Z h a "java/lang/String" ∧ Fld Z h a "java/lang/String" "value" "[B" (.ref V) ∧ Fld Z h a "java/lang/String" "coder" "B" (.int cd) ∧ Ary Z h V .byte (bs.map Value.int) ∧ own_Str cd bs [c0, c1]) := by
  refine ConH.of (plainFor_of_name pn_6) ?_
  intro p e s m below meth c s₁ vm0 HC0 hx hZ hby hml hown hnm hret hlk X0 e0
  refine Ends.cast (efMk_2 m oc (2 : Int32)) ?_
  show Ends (some (CHr Z own_EL vm0 h0)) p e below s _ _ _ s₁ (mkF m 0 #[.val (.ref oc), .val (.int (2 : Int32))] [])
  have O0 := Ok.refl h0 []
  refine E.iloadN (q := 1) X0 hx (hb hby d1_0) rfl ?_
  refine E.ifY (q := 15) X0 hx (hb hby d1_1) (XT.i0_ne_t (by decide)) ?_
  refine E.iloadN (q := 16) X0 hx (hb hby d1_15) rfl ?_
  refine E.iconst (q := 17) (v := (1 : Int32)) X0 hx (hb hby d1_16) rfl ?_
  refine E.icmpY (q := 37) X0 hx (hb hby d1_17) (XT.ii_ne_t (by decide)) ?_
  refine E.iloadN (q := 38) X0 hx (hb hby d1_37) rfl ?_
  refine E.iconst (q := 39) (v := (2 : Int32)) X0 hx (hb hby d1_38) rfl ?_
  refine E.icmpN (q := 42) X0 hx (hb hby d1_39) (XT.ii_ne_f (by decide)) ?_
  refine Ends.newC X0 hx hZ hown (hw _ (List.mem_of_getElem? (i := 6) rfl)) (hw _ (List.mem_of_getElem? (i := 7) rfl)) (hw _ (List.mem_of_getElem? (i := 8) rfl)) e0 (hb hby d1_42) (by decide) (by decide) ?_
  intro T156 h156 b156 g156 X156 e156 E156 A156 D156
  have ge_b156 : h0.size ≤ b156 := Nat.le_trans O0.le (Nat.le_of_eq g156.symm)
  have O156 := O0.ext E156
  have HC157 := HC0.trans (CHr.ext E156 HC0.1)
  have F156_value : Fld Z h156 b156 "java/lang/String" "value" "[B" .null := D156 (Or.inr (hw _ (List.mem_of_getElem? (i := 21) rfl))) (ty := (.array .byte)) (by decide)
  have F156_coder : Fld Z h156 b156 "java/lang/String" "coder" "B" (.int (0 : Int32)) := D156 (Or.inr (hw _ (List.mem_of_getElem? (i := 22) rfl))) (ty := .byte) (by decide)
  refine E.dup (q := 46) X156 hx (hb hby d1_45) rfl ?_
  refine E.iconst (q := 47) (v := (2 : Int32)) X156 hx (hb hby d1_46) rfl ?_
  refine Ends.newA X156 hx hZ (hw _ (List.mem_of_getElem? (i := 1) rfl)) e156 (hb hby d1_47) (N := 2) rfl (by decide) (by decide) (by decide) ?_
  intro T158 h158 b158 g158 X158 e158 E158 A158
  have ge_b158 : h0.size ≤ b158 := Nat.le_trans O156.le (Nat.le_of_eq g158.symm)
  have O158 := O156.ext E158
  have HC159 := HC157.trans (CHr.ext E158 HC157.1)
  have V158 : Ary Z h158 b158 .char [(.int (0 : Int32)), (.int (0 : Int32))] := A158
  refine E.dup (q := 50) X158 hx (hb hby d1_49) rfl ?_
  refine E.iconst (q := 51) (v := (0 : Int32)) X158 hx (hb hby d1_50) rfl ?_
  refine E.aloadN (q := 52) X158 hx (hb hby d1_51) rfl rfl ?_
  refine E.iconst (q := 53) (v := (0 : Int32)) X158 hx (hb hby d1_52) rfl ?_
  have f160 := A_c.ext E156
  have f161 := f160.ext E158
  refine Ends.cld X158 hx hZ e158 f161 (i := 0) rfl rfl (hb hby d1_53) ?_
  refine Ends.cst X158 hx hZ e158 V158 (x' := c0) (own_nc16 hc0) (i := 0) rfl (show 0 < 2 from by decide) (hb hby d1_54) ?_
  intro T162 h162 X162 e162 W162 V162
  have V162 : Ary Z h162 b158 .char [(.int c0), (.int (0 : Int32))] := V162
  have O162 := O158.wr W162 (Or.inr ge_b158)
  have HC163 := HC159.trans (CHr.wr W162 (own_safe_ary hZ.alike V158 (by decide)) HC159.1)
  refine E.dup (q := 56) X162 hx (hb hby d1_55) rfl ?_
  refine E.iconst (q := 57) (v := (1 : Int32)) X162 hx (hb hby d1_56) rfl ?_
  refine E.aloadN (q := 58) X162 hx (hb hby d1_57) rfl rfl ?_
  refine E.iconst (q := 59) (v := (1 : Int32)) X162 hx (hb hby d1_58) rfl ?_
  have f164 := f161.other W162 (Nat.ne_of_lt (Nat.lt_of_lt_of_eq f160.lt g158.symm))
  refine Ends.cld X162 hx hZ e162 f164 (i := 1) rfl rfl (hb hby d1_59) ?_
  refine Ends.cst X162 hx hZ e162 V162 (x' := c1) (own_nc16 hc1) (i := 1) rfl (show 1 < 2 from by decide) (hb hby d1_60) ?_
  intro T165 h165 X165 e165 W165 V165
  have V165 : Ary Z h165 b158 .char [(.int c0), (.int c1)] := V165
  have O165 := O162.wr W165 (Or.inr ge_b158)
  have HC166 := HC163.trans (CHr.wr W165 (own_safe_ary hZ.alike V162 (by decide)) HC163.1)
  have f167 := A156.ext E158
  have f168 := f167.wr W162
  have f169 := f168.wr W165
  have f170 := F156_value.ext E158
  have f171 := f170.other W162 (Or.inl (Nat.ne_of_lt (Nat.lt_of_lt_of_eq A156.lt g158.symm)))
  have f172 := f171.other W165 (Or.inl (Nat.ne_of_lt (Nat.lt_of_lt_of_eq A156.lt g158.symm)))
  have f173 := F156_coder.ext E158
  have f174 := f173.other W162 (Or.inl (Nat.ne_of_lt (Nat.lt_of_lt_of_eq A156.lt g158.symm)))
  have f175 := f174.other W165 (Or.inl (Nat.ne_of_lt (Nat.lt_of_lt_of_eq A156.lt g158.symm)))
  refine Ends.callI X165 hx hZ hown (hw _ (List.mem_of_getElem? (i := 9) rfl)) (hw _ (List.mem_of_getElem? (i := 10) rfl)) (hw _ (List.mem_of_getElem? (i := 8) rfl)) (hw _ (List.mem_of_getElem? (i := 11) rfl)) rfl (by decide) (argsL := [(.ref b158)]) (rest := [(.ref b156)]) e165 (rmI1_n l Z a0 hw b156 b158 [c0, c1] (own_C6 hc0 hc1 hc2 hc3 hc4 hc5 2) (by simp) (by simp) _ f169 f172 f175 V165 (Ne.symm (Nat.ne_of_lt (Nat.lt_of_lt_of_eq A156.lt g158.symm))) cs hcs (own_sta_keep S0 O165.1 own_ns0) (own_sta_keep S2 O165.1 own_ns0) (own_sta_keep S3 O165.1 own_ns0) (own_sta_keep S4 O165.1 own_ns0)) (W := 1) (by decide) (by decide) (by rw [hml]; rfl) (lenOf pd_19 rfl) (Nat.le_of_eq rfl) (hb hby d1_61) (by decide) (by decide) rfl ?_
  rintro T176 v176 L176 X176 ⟨rfl, U176, cd176, bs176, gU176, hO176, Fv176, Fc176, A176, hs176⟩
  have e176 : T176.heap = T176.heap := rfl
  have O176 := O165.call hO176 (allS (Or.inr ge_b156) all0)
  have HC177 := HC166.trans (CHr.keep hO176.1 (own_all1 (own_safe_blank hZ.alike f169 f172)) HC166.1)
  show Ends (some (CHr Z own_EL vm0 h0)) p e below s _ _ _ T176 (mkF m 64 #[.val (.ref oc), .val (.int (2 : Int32))] [(.ref b156)])
  have f178 := f169.keep hO176.1
  exact Ends.retA X176 hx hlk hret rfl rfl rfl (hb hby d1_64) (by decide) (by decide) ⟨⟨_, _, _, _, rfl, ge_b156, O176, f178, Fv176, Fc176, A176, hs176⟩, by first | exact (Nat.zero_le _) | (rw [e176]; exact (Nat.zero_le _))⟩ (hF := own_chret X176 hZ (own_EW hw) HC177 (by first | rfl | assumption))
theorem efMk_3 (m : MethodId) (x0 : Addr) (x1 : Int32) : entryFrame m #[(.ref x0), (.int x1)] 2 = mkF m 0 #[.val (.ref x0), .val (.int x1)] [] := by first | (simp [entryFrame, mkF, argsToLocals, Value.category]; done) | rfl
set_option maxRecDepth 65536 in
set_option maxHeartbeats 40000000 in
theorem rmMk_3 (l : Launch) (Z : State) (a0 : Array Value) (hw : ∀ d ∈ tables_1, d.before a0 Z = true) (oc : Addr) (c0 c1 c2 c3 c4 c5 : Int32) (hc0 : own_C c0) (hc1 : own_C c1) (hc2 : own_C c2) (hc3 : own_C c3) (hc4 : own_C c4) (hc5 : own_C c5) (h0 : Heap) (A_c : Ary Z h0 oc .char [(.int c0), (.int c1), (.int c2), (.int c3), (.int c4), (.int c5)]) (cs : Int32) (hcs : ¬ cs = (0 : Int32)) (S0 : Sta Z h0 "java/lang/String" "COMPACT_STRINGS" "Z" (.int cs)) (S2 : Sta Z h0 "java/lang/StringUTF16" "$assertionsDisabled" "Z" (.int (1 : Int32))) (S3 : Sta Z h0 "java/lang/StringUTF16" "HI_BYTE_SHIFT" "I" (.int (0 : Int32))) (S4 : Sta Z h0 "java/lang/StringUTF16" "LO_BYTE_SHIFT" "I" (.int (8 : Int32))) :
    ConH l (⟨"com/example/needlework/needlework/match/PrefixTableOfPinLaw", "make", "([CI)Ljava/lang/String;"⟩ : MethodName) method_3_code 2 (some (.object "java/lang/String")) [] ({ frames := 6, cells := 6, slots := 28, locals := 150 } : Room) #[(.ref oc), (.int (3 : Int32))] Z h0 own_EL (fun v h L => ∃ (a V : Addr) (cd : Int32) (bs : List Int32), v = some (.ref a) ∧ h0.size ≤ a ∧ Ok h0 h [] L ∧ Exa Z h a "java/lang/String" ∧ Fld Z h a "java/lang/String" "value" "[B" (.ref V) ∧ Fld Z h a "java/lang/String" "coder" "B" (.int cd) ∧ Ary Z h V .byte (bs.map Value.int) ∧ own_Str cd bs [c0, c1, c2]) := by
  refine ConH.of (plainFor_of_name pn_6) ?_
  intro p e s m below meth c s₁ vm0 HC0 hx hZ hby hml hown hnm hret hlk X0 e0
  refine Ends.cast (efMk_3 m oc (3 : Int32)) ?_
  show Ends (some (CHr Z own_EL vm0 h0)) p e below s _ _ _ s₁ (mkF m 0 #[.val (.ref oc), .val (.int (3 : Int32))] [])
  have O0 := Ok.refl h0 []
  refine E.iloadN (q := 1) X0 hx (hb hby d1_0) rfl ?_
  refine E.ifY (q := 15) X0 hx (hb hby d1_1) (XT.i0_ne_t (by decide)) ?_
  refine E.iloadN (q := 16) X0 hx (hb hby d1_15) rfl ?_
  refine E.iconst (q := 17) (v := (1 : Int32)) X0 hx (hb hby d1_16) rfl ?_
  refine E.icmpY (q := 37) X0 hx (hb hby d1_17) (XT.ii_ne_t (by decide)) ?_
  refine E.iloadN (q := 38) X0 hx (hb hby d1_37) rfl ?_
  refine E.iconst (q := 39) (v := (2 : Int32)) X0 hx (hb hby d1_38) rfl ?_
  refine E.icmpY (q := 65) X0 hx (hb hby d1_39) (XT.ii_ne_t (by decide)) ?_
  refine E.iloadN (q := 66) X0 hx (hb hby d1_65) rfl ?_
  refine E.iconst (q := 67) (v := (3 : Int32)) X0 hx (hb hby d1_66) rfl ?_
  refine E.icmpN (q := 70) X0 hx (hb hby d1_67) (XT.ii_ne_f (by decide)) ?_
  refine Ends.newC X0 hx hZ hown (hw _ (List.mem_of_getElem? (i := 6) rfl)) (hw _ (List.mem_of_getElem? (i := 7) rfl)) (hw _ (List.mem_of_getElem? (i := 8) rfl)) e0 (hb hby d1_70) (by decide) (by decide) ?_
  intro T179 h179 b179 g179 X179 e179 E179 A179 D179
  have ge_b179 : h0.size ≤ b179 := Nat.le_trans O0.le (Nat.le_of_eq g179.symm)
  have O179 := O0.ext E179
  have HC180 := HC0.trans (CHr.ext E179 HC0.1)
  have F179_value : Fld Z h179 b179 "java/lang/String" "value" "[B" .null := D179 (Or.inr (hw _ (List.mem_of_getElem? (i := 21) rfl))) (ty := (.array .byte)) (by decide)
  have F179_coder : Fld Z h179 b179 "java/lang/String" "coder" "B" (.int (0 : Int32)) := D179 (Or.inr (hw _ (List.mem_of_getElem? (i := 22) rfl))) (ty := .byte) (by decide)
  refine E.dup (q := 74) X179 hx (hb hby d1_73) rfl ?_
  refine E.iconst (q := 75) (v := (3 : Int32)) X179 hx (hb hby d1_74) rfl ?_
  refine Ends.newA X179 hx hZ (hw _ (List.mem_of_getElem? (i := 1) rfl)) e179 (hb hby d1_75) (N := 3) rfl (by decide) (by decide) (by decide) ?_
  intro T181 h181 b181 g181 X181 e181 E181 A181
  have ge_b181 : h0.size ≤ b181 := Nat.le_trans O179.le (Nat.le_of_eq g181.symm)
  have O181 := O179.ext E181
  have HC182 := HC180.trans (CHr.ext E181 HC180.1)
  have V181 : Ary Z h181 b181 .char [(.int (0 : Int32)), (.int (0 : Int32)), (.int (0 : Int32))] := A181
  refine E.dup (q := 78) X181 hx (hb hby d1_77) rfl ?_
  refine E.iconst (q := 79) (v := (0 : Int32)) X181 hx (hb hby d1_78) rfl ?_
  refine E.aloadN (q := 80) X181 hx (hb hby d1_79) rfl rfl ?_
  refine E.iconst (q := 81) (v := (0 : Int32)) X181 hx (hb hby d1_80) rfl ?_
  have f183 := A_c.ext E179
  have f184 := f183.ext E181
  refine Ends.cld X181 hx hZ e181 f184 (i := 0) rfl rfl (hb hby d1_81) ?_
  refine Ends.cst X181 hx hZ e181 V181 (x' := c0) (own_nc16 hc0) (i := 0) rfl (show 0 < 3 from by decide) (hb hby d1_82) ?_
  intro T185 h185 X185 e185 W185 V185
  have V185 : Ary Z h185 b181 .char [(.int c0), (.int (0 : Int32)), (.int (0 : Int32))] := V185
  have O185 := O181.wr W185 (Or.inr ge_b181)
  have HC186 := HC182.trans (CHr.wr W185 (own_safe_ary hZ.alike V181 (by decide)) HC182.1)
  refine E.dup (q := 84) X185 hx (hb hby d1_83) rfl ?_
  refine E.iconst (q := 85) (v := (1 : Int32)) X185 hx (hb hby d1_84) rfl ?_
  refine E.aloadN (q := 86) X185 hx (hb hby d1_85) rfl rfl ?_
  refine E.iconst (q := 87) (v := (1 : Int32)) X185 hx (hb hby d1_86) rfl ?_
  have f187 := f184.other W185 (Nat.ne_of_lt (Nat.lt_of_lt_of_eq f183.lt g181.symm))
  refine Ends.cld X185 hx hZ e185 f187 (i := 1) rfl rfl (hb hby d1_87) ?_
  refine Ends.cst X185 hx hZ e185 V185 (x' := c1) (own_nc16 hc1) (i := 1) rfl (show 1 < 3 from by decide) (hb hby d1_88) ?_
  intro T188 h188 X188 e188 W188 V188
  have V188 : Ary Z h188 b181 .char [(.int c0), (.int c1), (.int (0 : Int32))] := V188
  have O188 := O185.wr W188 (Or.inr ge_b181)
  have HC189 := HC186.trans (CHr.wr W188 (own_safe_ary hZ.alike V185 (by decide)) HC186.1)
  refine E.dup (q := 90) X188 hx (hb hby d1_89) rfl ?_
  refine E.iconst (q := 91) (v := (2 : Int32)) X188 hx (hb hby d1_90) rfl ?_
  refine E.aloadN (q := 92) X188 hx (hb hby d1_91) rfl rfl ?_
  refine E.iconst (q := 93) (v := (2 : Int32)) X188 hx (hb hby d1_92) rfl ?_
  have f190 := f187.other W188 (Nat.ne_of_lt (Nat.lt_of_lt_of_eq f183.lt g181.symm))
  refine Ends.cld X188 hx hZ e188 f190 (i := 2) rfl rfl (hb hby d1_93) ?_
  refine Ends.cst X188 hx hZ e188 V188 (x' := c2) (own_nc16 hc2) (i := 2) rfl (show 2 < 3 from by decide) (hb hby d1_94) ?_
  intro T191 h191 X191 e191 W191 V191
  have V191 : Ary Z h191 b181 .char [(.int c0), (.int c1), (.int c2)] := V191
  have O191 := O188.wr W191 (Or.inr ge_b181)
  have HC192 := HC189.trans (CHr.wr W191 (own_safe_ary hZ.alike V188 (by decide)) HC189.1)
  have f193 := A179.ext E181
  have f194 := f193.wr W185
  have f195 := f194.wr W188
  have f196 := f195.wr W191
  have f197 := F179_value.ext E181
  have f198 := f197.other W185 (Or.inl (Nat.ne_of_lt (Nat.lt_of_lt_of_eq A179.lt g181.symm)))
  have f199 := f198.other W188 (Or.inl (Nat.ne_of_lt (Nat.lt_of_lt_of_eq A179.lt g181.symm)))
  have f200 := f199.other W191 (Or.inl (Nat.ne_of_lt (Nat.lt_of_lt_of_eq A179.lt g181.symm)))
  have f201 := F179_coder.ext E181
  have f202 := f201.other W185 (Or.inl (Nat.ne_of_lt (Nat.lt_of_lt_of_eq A179.lt g181.symm)))
  have f203 := f202.other W188 (Or.inl (Nat.ne_of_lt (Nat.lt_of_lt_of_eq A179.lt g181.symm)))
  have f204 := f203.other W191 (Or.inl (Nat.ne_of_lt (Nat.lt_of_lt_of_eq A179.lt g181.symm)))
  refine Ends.callI X191 hx hZ hown (hw _ (List.mem_of_getElem? (i := 9) rfl)) (hw _ (List.mem_of_getElem? (i := 10) rfl)) (hw _ (List.mem_of_getElem? (i := 8) rfl)) (hw _ (List.mem_of_getElem? (i := 11) rfl)) rfl (by decide) (argsL := [(.ref b181)]) (rest := [(.ref b179)]) e191 (rmI1_n l Z a0 hw b179 b181 [c0, c1, c2] (own_C6 hc0 hc1 hc2 hc3 hc4 hc5 3) (by simp) (by simp) _ f196 f200 f204 V191 (Ne.symm (Nat.ne_of_lt (Nat.lt_of_lt_of_eq A179.lt g181.symm))) cs hcs (own_sta_keep S0 O191.1 own_ns0) (own_sta_keep S2 O191.1 own_ns0) (own_sta_keep S3 O191.1 own_ns0) (own_sta_keep S4 O191.1 own_ns0)) (W := 1) (by decide) (by decide) (by rw [hml]; rfl) (lenOf pd_19 rfl) (Nat.le_of_eq rfl) (hb hby d1_95) (by decide) (by decide) rfl ?_
  rintro T205 v205 L205 X205 ⟨rfl, U205, cd205, bs205, gU205, hO205, Fv205, Fc205, A205, hs205⟩
  have e205 : T205.heap = T205.heap := rfl
  have O205 := O191.call hO205 (allS (Or.inr ge_b179) all0)
  have HC206 := HC192.trans (CHr.keep hO205.1 (own_all1 (own_safe_blank hZ.alike f196 f200)) HC192.1)
  show Ends (some (CHr Z own_EL vm0 h0)) p e below s _ _ _ T205 (mkF m 98 #[.val (.ref oc), .val (.int (3 : Int32))] [(.ref b179)])
  have f207 := f196.keep hO205.1
  exact Ends.retA X205 hx hlk hret rfl rfl rfl (hb hby d1_98) (by decide) (by decide) ⟨⟨_, _, _, _, rfl, ge_b179, O205, f207, Fv205, Fc205, A205, hs205⟩, by first | exact (Nat.zero_le _) | (rw [e205]; exact (Nat.zero_le _))⟩ (hF := own_chret X205 hZ (own_EW hw) HC206 (by first | rfl | assumption))
theorem efMk_4 (m : MethodId) (x0 : Addr) (x1 : Int32) : entryFrame m #[(.ref x0), (.int x1)] 2 = mkF m 0 #[.val (.ref x0), .val (.int x1)] [] := by first | (simp [entryFrame, mkF, argsToLocals, Value.category]; done) | rfl
set_option maxRecDepth 65536 in
set_option maxHeartbeats 40000000 in
theorem rmMk_4 (l : Launch) (Z : State) (a0 : Array Value) (hw : ∀ d ∈ tables_1, d.before a0 Z = true) (oc : Addr) (c0 c1 c2 c3 c4 c5 : Int32) (hc0 : own_C c0) (hc1 : own_C c1) (hc2 : own_C c2) (hc3 : own_C c3) (hc4 : own_C c4) (hc5 : own_C c5) (h0 : Heap) (A_c : Ary Z h0 oc .char [(.int c0), (.int c1), (.int c2), (.int c3), (.int c4), (.int c5)]) (cs : Int32) (hcs : ¬ cs = (0 : Int32)) (S0 : Sta Z h0 "java/lang/String" "COMPACT_STRINGS" "Z" (.int cs)) (S2 : Sta Z h0 "java/lang/StringUTF16" "$assertionsDisabled" "Z" (.int (1 : Int32))) (S3 : Sta Z h0 "java/lang/StringUTF16" "HI_BYTE_SHIFT" "I" (.int (0 : Int32))) (S4 : Sta Z h0 "java/lang/StringUTF16" "LO_BYTE_SHIFT" "I" (.int (8 : Int32))) :
    ConH l (⟨"com/example/needlework/needlework/match/PrefixTableOfPinLaw", "make", "([CI)Ljava/lang/String;"⟩ : MethodName) method_3_code 2 (some (.object "java/lang/String")) [] ({ frames := 6, cells := 6, slots := 28, locals := 150 } : Room) #[(.ref oc), (.int (4 : Int32))] Z h0 own_EL (fun v h L => ∃ (a V : Addr) (cd : Int32) (bs : List Int32), v = some (.ref a) ∧ h0.size ≤ a ∧ Ok h0 h [] L ∧ Exa Z h a "java/lang/String" ∧ Fld Z h a "java/lang/String" "value" "[B" (.ref V) ∧ Fld Z h a "java/lang/String" "coder" "B" (.int cd) ∧ Ary Z h V .byte (bs.map Value.int) ∧ own_Str cd bs [c0, c1, c2, c3]) := by
  refine ConH.of (plainFor_of_name pn_6) ?_
  intro p e s m below meth c s₁ vm0 HC0 hx hZ hby hml hown hnm hret hlk X0 e0
  refine Ends.cast (efMk_4 m oc (4 : Int32)) ?_
  show Ends (some (CHr Z own_EL vm0 h0)) p e below s _ _ _ s₁ (mkF m 0 #[.val (.ref oc), .val (.int (4 : Int32))] [])
  have O0 := Ok.refl h0 []
  refine E.iloadN (q := 1) X0 hx (hb hby d1_0) rfl ?_
  refine E.ifY (q := 15) X0 hx (hb hby d1_1) (XT.i0_ne_t (by decide)) ?_
  refine E.iloadN (q := 16) X0 hx (hb hby d1_15) rfl ?_
  refine E.iconst (q := 17) (v := (1 : Int32)) X0 hx (hb hby d1_16) rfl ?_
  refine E.icmpY (q := 37) X0 hx (hb hby d1_17) (XT.ii_ne_t (by decide)) ?_
  refine E.iloadN (q := 38) X0 hx (hb hby d1_37) rfl ?_
  refine E.iconst (q := 39) (v := (2 : Int32)) X0 hx (hb hby d1_38) rfl ?_
  refine E.icmpY (q := 65) X0 hx (hb hby d1_39) (XT.ii_ne_t (by decide)) ?_
  refine E.iloadN (q := 66) X0 hx (hb hby d1_65) rfl ?_
  refine E.iconst (q := 67) (v := (3 : Int32)) X0 hx (hb hby d1_66) rfl ?_
  refine E.icmpY (q := 99) X0 hx (hb hby d1_67) (XT.ii_ne_t (by decide)) ?_
  refine E.iloadN (q := 100) X0 hx (hb hby d1_99) rfl ?_
  refine E.iconst (q := 101) (v := (4 : Int32)) X0 hx (hb hby d1_100) rfl ?_
  refine E.icmpN (q := 104) X0 hx (hb hby d1_101) (XT.ii_ne_f (by decide)) ?_
  refine Ends.newC X0 hx hZ hown (hw _ (List.mem_of_getElem? (i := 6) rfl)) (hw _ (List.mem_of_getElem? (i := 7) rfl)) (hw _ (List.mem_of_getElem? (i := 8) rfl)) e0 (hb hby d1_104) (by decide) (by decide) ?_
  intro T208 h208 b208 g208 X208 e208 E208 A208 D208
  have ge_b208 : h0.size ≤ b208 := Nat.le_trans O0.le (Nat.le_of_eq g208.symm)
  have O208 := O0.ext E208
  have HC209 := HC0.trans (CHr.ext E208 HC0.1)
  have F208_value : Fld Z h208 b208 "java/lang/String" "value" "[B" .null := D208 (Or.inr (hw _ (List.mem_of_getElem? (i := 21) rfl))) (ty := (.array .byte)) (by decide)
  have F208_coder : Fld Z h208 b208 "java/lang/String" "coder" "B" (.int (0 : Int32)) := D208 (Or.inr (hw _ (List.mem_of_getElem? (i := 22) rfl))) (ty := .byte) (by decide)
  refine E.dup (q := 108) X208 hx (hb hby d1_107) rfl ?_
  refine E.iconst (q := 109) (v := (4 : Int32)) X208 hx (hb hby d1_108) rfl ?_
  refine Ends.newA X208 hx hZ (hw _ (List.mem_of_getElem? (i := 1) rfl)) e208 (hb hby d1_109) (N := 4) rfl (by decide) (by decide) (by decide) ?_
  intro T210 h210 b210 g210 X210 e210 E210 A210
  have ge_b210 : h0.size ≤ b210 := Nat.le_trans O208.le (Nat.le_of_eq g210.symm)
  have O210 := O208.ext E210
  have HC211 := HC209.trans (CHr.ext E210 HC209.1)
  have V210 : Ary Z h210 b210 .char [(.int (0 : Int32)), (.int (0 : Int32)), (.int (0 : Int32)), (.int (0 : Int32))] := A210
  refine E.dup (q := 112) X210 hx (hb hby d1_111) rfl ?_
  refine E.iconst (q := 113) (v := (0 : Int32)) X210 hx (hb hby d1_112) rfl ?_
  refine E.aloadN (q := 114) X210 hx (hb hby d1_113) rfl rfl ?_
  refine E.iconst (q := 115) (v := (0 : Int32)) X210 hx (hb hby d1_114) rfl ?_
  have f212 := A_c.ext E208
  have f213 := f212.ext E210
  refine Ends.cld X210 hx hZ e210 f213 (i := 0) rfl rfl (hb hby d1_115) ?_
  refine Ends.cst X210 hx hZ e210 V210 (x' := c0) (own_nc16 hc0) (i := 0) rfl (show 0 < 4 from by decide) (hb hby d1_116) ?_
  intro T214 h214 X214 e214 W214 V214
  have V214 : Ary Z h214 b210 .char [(.int c0), (.int (0 : Int32)), (.int (0 : Int32)), (.int (0 : Int32))] := V214
  have O214 := O210.wr W214 (Or.inr ge_b210)
  have HC215 := HC211.trans (CHr.wr W214 (own_safe_ary hZ.alike V210 (by decide)) HC211.1)
  refine E.dup (q := 118) X214 hx (hb hby d1_117) rfl ?_
  refine E.iconst (q := 119) (v := (1 : Int32)) X214 hx (hb hby d1_118) rfl ?_
  refine E.aloadN (q := 120) X214 hx (hb hby d1_119) rfl rfl ?_
  refine E.iconst (q := 121) (v := (1 : Int32)) X214 hx (hb hby d1_120) rfl ?_
  have f216 := f213.other W214 (Nat.ne_of_lt (Nat.lt_of_lt_of_eq f212.lt g210.symm))
  refine Ends.cld X214 hx hZ e214 f216 (i := 1) rfl rfl (hb hby d1_121) ?_
  refine Ends.cst X214 hx hZ e214 V214 (x' := c1) (own_nc16 hc1) (i := 1) rfl (show 1 < 4 from by decide) (hb hby d1_122) ?_
  intro T217 h217 X217 e217 W217 V217
  have V217 : Ary Z h217 b210 .char [(.int c0), (.int c1), (.int (0 : Int32)), (.int (0 : Int32))] := V217
  have O217 := O214.wr W217 (Or.inr ge_b210)
  have HC218 := HC215.trans (CHr.wr W217 (own_safe_ary hZ.alike V214 (by decide)) HC215.1)
  refine E.dup (q := 124) X217 hx (hb hby d1_123) rfl ?_
  refine E.iconst (q := 125) (v := (2 : Int32)) X217 hx (hb hby d1_124) rfl ?_
  refine E.aloadN (q := 126) X217 hx (hb hby d1_125) rfl rfl ?_
  refine E.iconst (q := 127) (v := (2 : Int32)) X217 hx (hb hby d1_126) rfl ?_
  have f219 := f216.other W217 (Nat.ne_of_lt (Nat.lt_of_lt_of_eq f212.lt g210.symm))
  refine Ends.cld X217 hx hZ e217 f219 (i := 2) rfl rfl (hb hby d1_127) ?_
  refine Ends.cst X217 hx hZ e217 V217 (x' := c2) (own_nc16 hc2) (i := 2) rfl (show 2 < 4 from by decide) (hb hby d1_128) ?_
  intro T220 h220 X220 e220 W220 V220
  have V220 : Ary Z h220 b210 .char [(.int c0), (.int c1), (.int c2), (.int (0 : Int32))] := V220
  have O220 := O217.wr W220 (Or.inr ge_b210)
  have HC221 := HC218.trans (CHr.wr W220 (own_safe_ary hZ.alike V217 (by decide)) HC218.1)
  refine E.dup (q := 130) X220 hx (hb hby d1_129) rfl ?_
  refine E.iconst (q := 131) (v := (3 : Int32)) X220 hx (hb hby d1_130) rfl ?_
  refine E.aloadN (q := 132) X220 hx (hb hby d1_131) rfl rfl ?_
  refine E.iconst (q := 133) (v := (3 : Int32)) X220 hx (hb hby d1_132) rfl ?_
  have f222 := f219.other W220 (Nat.ne_of_lt (Nat.lt_of_lt_of_eq f212.lt g210.symm))
  refine Ends.cld X220 hx hZ e220 f222 (i := 3) rfl rfl (hb hby d1_133) ?_
  refine Ends.cst X220 hx hZ e220 V220 (x' := c3) (own_nc16 hc3) (i := 3) rfl (show 3 < 4 from by decide) (hb hby d1_134) ?_
  intro T223 h223 X223 e223 W223 V223
  have V223 : Ary Z h223 b210 .char [(.int c0), (.int c1), (.int c2), (.int c3)] := V223
  have O223 := O220.wr W223 (Or.inr ge_b210)
  have HC224 := HC221.trans (CHr.wr W223 (own_safe_ary hZ.alike V220 (by decide)) HC221.1)
  have f225 := A208.ext E210
  have f226 := f225.wr W214
  have f227 := f226.wr W217
  have f228 := f227.wr W220
  have f229 := f228.wr W223
  have f230 := F208_value.ext E210
  have f231 := f230.other W214 (Or.inl (Nat.ne_of_lt (Nat.lt_of_lt_of_eq A208.lt g210.symm)))
  have f232 := f231.other W217 (Or.inl (Nat.ne_of_lt (Nat.lt_of_lt_of_eq A208.lt g210.symm)))
  have f233 := f232.other W220 (Or.inl (Nat.ne_of_lt (Nat.lt_of_lt_of_eq A208.lt g210.symm)))
  have f234 := f233.other W223 (Or.inl (Nat.ne_of_lt (Nat.lt_of_lt_of_eq A208.lt g210.symm)))
  have f235 := F208_coder.ext E210
  have f236 := f235.other W214 (Or.inl (Nat.ne_of_lt (Nat.lt_of_lt_of_eq A208.lt g210.symm)))
  have f237 := f236.other W217 (Or.inl (Nat.ne_of_lt (Nat.lt_of_lt_of_eq A208.lt g210.symm)))
  have f238 := f237.other W220 (Or.inl (Nat.ne_of_lt (Nat.lt_of_lt_of_eq A208.lt g210.symm)))
  have f239 := f238.other W223 (Or.inl (Nat.ne_of_lt (Nat.lt_of_lt_of_eq A208.lt g210.symm)))
  refine Ends.callI X223 hx hZ hown (hw _ (List.mem_of_getElem? (i := 9) rfl)) (hw _ (List.mem_of_getElem? (i := 10) rfl)) (hw _ (List.mem_of_getElem? (i := 8) rfl)) (hw _ (List.mem_of_getElem? (i := 11) rfl)) rfl (by decide) (argsL := [(.ref b210)]) (rest := [(.ref b208)]) e223 (rmI1_n l Z a0 hw b208 b210 [c0, c1, c2, c3] (own_C6 hc0 hc1 hc2 hc3 hc4 hc5 4) (by simp) (by simp) _ f229 f234 f239 V223 (Ne.symm (Nat.ne_of_lt (Nat.lt_of_lt_of_eq A208.lt g210.symm))) cs hcs (own_sta_keep S0 O223.1 own_ns0) (own_sta_keep S2 O223.1 own_ns0) (own_sta_keep S3 O223.1 own_ns0) (own_sta_keep S4 O223.1 own_ns0)) (W := 1) (by decide) (by decide) (by rw [hml]; rfl) (lenOf pd_19 rfl) (Nat.le_of_eq rfl) (hb hby d1_135) (by decide) (by decide) rfl ?_
  rintro T240 v240 L240 X240 ⟨rfl, U240, cd240, bs240, gU240, hO240, Fv240, Fc240, A240, hs240⟩
  have e240 : T240.heap = T240.heap := rfl
  have O240 := O223.call hO240 (allS (Or.inr ge_b208) all0)
  have HC241 := HC224.trans (CHr.keep hO240.1 (own_all1 (own_safe_blank hZ.alike f229 f234)) HC224.1)
  show Ends (some (CHr Z own_EL vm0 h0)) p e below s _ _ _ T240 (mkF m 138 #[.val (.ref oc), .val (.int (4 : Int32))] [(.ref b208)])
  have f242 := f229.keep hO240.1
  exact Ends.retA X240 hx hlk hret rfl rfl rfl (hb hby d1_138) (by decide) (by decide) ⟨⟨_, _, _, _, rfl, ge_b208, O240, f242, Fv240, Fc240, A240, hs240⟩, by first | exact (Nat.zero_le _) | (rw [e240]; exact (Nat.zero_le _))⟩ (hF := own_chret X240 hZ (own_EW hw) HC241 (by first | rfl | assumption))
theorem efMk_5 (m : MethodId) (x0 : Addr) (x1 : Int32) : entryFrame m #[(.ref x0), (.int x1)] 2 = mkF m 0 #[.val (.ref x0), .val (.int x1)] [] := by first | (simp [entryFrame, mkF, argsToLocals, Value.category]; done) | rfl
set_option maxRecDepth 65536 in
set_option maxHeartbeats 40000000 in
theorem rmMk_5 (l : Launch) (Z : State) (a0 : Array Value) (hw : ∀ d ∈ tables_1, d.before a0 Z = true) (oc : Addr) (c0 c1 c2 c3 c4 c5 : Int32) (hc0 : own_C c0) (hc1 : own_C c1) (hc2 : own_C c2) (hc3 : own_C c3) (hc4 : own_C c4) (hc5 : own_C c5) (h0 : Heap) (A_c : Ary Z h0 oc .char [(.int c0), (.int c1), (.int c2), (.int c3), (.int c4), (.int c5)]) (cs : Int32) (hcs : ¬ cs = (0 : Int32)) (S0 : Sta Z h0 "java/lang/String" "COMPACT_STRINGS" "Z" (.int cs)) (S2 : Sta Z h0 "java/lang/StringUTF16" "$assertionsDisabled" "Z" (.int (1 : Int32))) (S3 : Sta Z h0 "java/lang/StringUTF16" "HI_BYTE_SHIFT" "I" (.int (0 : Int32))) (S4 : Sta Z h0 "java/lang/StringUTF16" "LO_BYTE_SHIFT" "I" (.int (8 : Int32))) :
    ConH l (⟨"com/example/needlework/needlework/match/PrefixTableOfPinLaw", "make", "([CI)Ljava/lang/String;"⟩ : MethodName) method_3_code 2 (some (.object "java/lang/String")) [] ({ frames := 6, cells := 6, slots := 28, locals := 150 } : Room) #[(.ref oc), (.int (5 : Int32))] Z h0 own_EL (fun v h L => ∃ (a V : Addr) (cd : Int32) (bs : List Int32), v = some (.ref a) ∧ h0.size ≤ a ∧ Ok h0 h [] L ∧ Exa Z h a "java/lang/String" ∧ Fld Z h a "java/lang/String" "value" "[B" (.ref V) ∧ Fld Z h a "java/lang/String" "coder" "B" (.int cd) ∧ Ary Z h V .byte (bs.map Value.int) ∧ own_Str cd bs [c0, c1, c2, c3, c4]) := by
  refine ConH.of (plainFor_of_name pn_6) ?_
  intro p e s m below meth c s₁ vm0 HC0 hx hZ hby hml hown hnm hret hlk X0 e0
  refine Ends.cast (efMk_5 m oc (5 : Int32)) ?_
  show Ends (some (CHr Z own_EL vm0 h0)) p e below s _ _ _ s₁ (mkF m 0 #[.val (.ref oc), .val (.int (5 : Int32))] [])
  have O0 := Ok.refl h0 []
  refine E.iloadN (q := 1) X0 hx (hb hby d1_0) rfl ?_
  refine E.ifY (q := 15) X0 hx (hb hby d1_1) (XT.i0_ne_t (by decide)) ?_
  refine E.iloadN (q := 16) X0 hx (hb hby d1_15) rfl ?_
  refine E.iconst (q := 17) (v := (1 : Int32)) X0 hx (hb hby d1_16) rfl ?_
  refine E.icmpY (q := 37) X0 hx (hb hby d1_17) (XT.ii_ne_t (by decide)) ?_
  refine E.iloadN (q := 38) X0 hx (hb hby d1_37) rfl ?_
  refine E.iconst (q := 39) (v := (2 : Int32)) X0 hx (hb hby d1_38) rfl ?_
  refine E.icmpY (q := 65) X0 hx (hb hby d1_39) (XT.ii_ne_t (by decide)) ?_
  refine E.iloadN (q := 66) X0 hx (hb hby d1_65) rfl ?_
  refine E.iconst (q := 67) (v := (3 : Int32)) X0 hx (hb hby d1_66) rfl ?_
  refine E.icmpY (q := 99) X0 hx (hb hby d1_67) (XT.ii_ne_t (by decide)) ?_
  refine E.iloadN (q := 100) X0 hx (hb hby d1_99) rfl ?_
  refine E.iconst (q := 101) (v := (4 : Int32)) X0 hx (hb hby d1_100) rfl ?_
  refine E.icmpY (q := 139) X0 hx (hb hby d1_101) (XT.ii_ne_t (by decide)) ?_
  refine E.iloadN (q := 140) X0 hx (hb hby d1_139) rfl ?_
  refine E.iconst (q := 141) (v := (5 : Int32)) X0 hx (hb hby d1_140) rfl ?_
  refine E.icmpN (q := 144) X0 hx (hb hby d1_141) (XT.ii_ne_f (by decide)) ?_
  refine Ends.newC X0 hx hZ hown (hw _ (List.mem_of_getElem? (i := 6) rfl)) (hw _ (List.mem_of_getElem? (i := 7) rfl)) (hw _ (List.mem_of_getElem? (i := 8) rfl)) e0 (hb hby d1_144) (by decide) (by decide) ?_
  intro T243 h243 b243 g243 X243 e243 E243 A243 D243
  have ge_b243 : h0.size ≤ b243 := Nat.le_trans O0.le (Nat.le_of_eq g243.symm)
  have O243 := O0.ext E243
  have HC244 := HC0.trans (CHr.ext E243 HC0.1)
  have F243_value : Fld Z h243 b243 "java/lang/String" "value" "[B" .null := D243 (Or.inr (hw _ (List.mem_of_getElem? (i := 21) rfl))) (ty := (.array .byte)) (by decide)
  have F243_coder : Fld Z h243 b243 "java/lang/String" "coder" "B" (.int (0 : Int32)) := D243 (Or.inr (hw _ (List.mem_of_getElem? (i := 22) rfl))) (ty := .byte) (by decide)
  refine E.dup (q := 148) X243 hx (hb hby d1_147) rfl ?_
  refine E.iconst (q := 149) (v := (5 : Int32)) X243 hx (hb hby d1_148) rfl ?_
  refine Ends.newA X243 hx hZ (hw _ (List.mem_of_getElem? (i := 1) rfl)) e243 (hb hby d1_149) (N := 5) rfl (by decide) (by decide) (by decide) ?_
  intro T245 h245 b245 g245 X245 e245 E245 A245
  have ge_b245 : h0.size ≤ b245 := Nat.le_trans O243.le (Nat.le_of_eq g245.symm)
  have O245 := O243.ext E245
  have HC246 := HC244.trans (CHr.ext E245 HC244.1)
  have V245 : Ary Z h245 b245 .char [(.int (0 : Int32)), (.int (0 : Int32)), (.int (0 : Int32)), (.int (0 : Int32)), (.int (0 : Int32))] := A245
  refine E.dup (q := 152) X245 hx (hb hby d1_151) rfl ?_
  refine E.iconst (q := 153) (v := (0 : Int32)) X245 hx (hb hby d1_152) rfl ?_
  refine E.aloadN (q := 154) X245 hx (hb hby d1_153) rfl rfl ?_
  refine E.iconst (q := 155) (v := (0 : Int32)) X245 hx (hb hby d1_154) rfl ?_
  have f247 := A_c.ext E243
  have f248 := f247.ext E245
  refine Ends.cld X245 hx hZ e245 f248 (i := 0) rfl rfl (hb hby d1_155) ?_
  refine Ends.cst X245 hx hZ e245 V245 (x' := c0) (own_nc16 hc0) (i := 0) rfl (show 0 < 5 from by decide) (hb hby d1_156) ?_
  intro T249 h249 X249 e249 W249 V249
  have V249 : Ary Z h249 b245 .char [(.int c0), (.int (0 : Int32)), (.int (0 : Int32)), (.int (0 : Int32)), (.int (0 : Int32))] := V249
  have O249 := O245.wr W249 (Or.inr ge_b245)
  have HC250 := HC246.trans (CHr.wr W249 (own_safe_ary hZ.alike V245 (by decide)) HC246.1)
  refine E.dup (q := 158) X249 hx (hb hby d1_157) rfl ?_
  refine E.iconst (q := 159) (v := (1 : Int32)) X249 hx (hb hby d1_158) rfl ?_
  refine E.aloadN (q := 160) X249 hx (hb hby d1_159) rfl rfl ?_
  refine E.iconst (q := 161) (v := (1 : Int32)) X249 hx (hb hby d1_160) rfl ?_
  have f251 := f248.other W249 (Nat.ne_of_lt (Nat.lt_of_lt_of_eq f247.lt g245.symm))
  refine Ends.cld X249 hx hZ e249 f251 (i := 1) rfl rfl (hb hby d1_161) ?_
  refine Ends.cst X249 hx hZ e249 V249 (x' := c1) (own_nc16 hc1) (i := 1) rfl (show 1 < 5 from by decide) (hb hby d1_162) ?_
  intro T252 h252 X252 e252 W252 V252
  have V252 : Ary Z h252 b245 .char [(.int c0), (.int c1), (.int (0 : Int32)), (.int (0 : Int32)), (.int (0 : Int32))] := V252
  have O252 := O249.wr W252 (Or.inr ge_b245)
  have HC253 := HC250.trans (CHr.wr W252 (own_safe_ary hZ.alike V249 (by decide)) HC250.1)
  refine E.dup (q := 164) X252 hx (hb hby d1_163) rfl ?_
  refine E.iconst (q := 165) (v := (2 : Int32)) X252 hx (hb hby d1_164) rfl ?_
  refine E.aloadN (q := 166) X252 hx (hb hby d1_165) rfl rfl ?_
  refine E.iconst (q := 167) (v := (2 : Int32)) X252 hx (hb hby d1_166) rfl ?_
  have f254 := f251.other W252 (Nat.ne_of_lt (Nat.lt_of_lt_of_eq f247.lt g245.symm))
  refine Ends.cld X252 hx hZ e252 f254 (i := 2) rfl rfl (hb hby d1_167) ?_
  refine Ends.cst X252 hx hZ e252 V252 (x' := c2) (own_nc16 hc2) (i := 2) rfl (show 2 < 5 from by decide) (hb hby d1_168) ?_
  intro T255 h255 X255 e255 W255 V255
  have V255 : Ary Z h255 b245 .char [(.int c0), (.int c1), (.int c2), (.int (0 : Int32)), (.int (0 : Int32))] := V255
  have O255 := O252.wr W255 (Or.inr ge_b245)
  have HC256 := HC253.trans (CHr.wr W255 (own_safe_ary hZ.alike V252 (by decide)) HC253.1)
  refine E.dup (q := 170) X255 hx (hb hby d1_169) rfl ?_
  refine E.iconst (q := 171) (v := (3 : Int32)) X255 hx (hb hby d1_170) rfl ?_
  refine E.aloadN (q := 172) X255 hx (hb hby d1_171) rfl rfl ?_
  refine E.iconst (q := 173) (v := (3 : Int32)) X255 hx (hb hby d1_172) rfl ?_
  have f257 := f254.other W255 (Nat.ne_of_lt (Nat.lt_of_lt_of_eq f247.lt g245.symm))
  refine Ends.cld X255 hx hZ e255 f257 (i := 3) rfl rfl (hb hby d1_173) ?_
  refine Ends.cst X255 hx hZ e255 V255 (x' := c3) (own_nc16 hc3) (i := 3) rfl (show 3 < 5 from by decide) (hb hby d1_174) ?_
  intro T258 h258 X258 e258 W258 V258
  have V258 : Ary Z h258 b245 .char [(.int c0), (.int c1), (.int c2), (.int c3), (.int (0 : Int32))] := V258
  have O258 := O255.wr W258 (Or.inr ge_b245)
  have HC259 := HC256.trans (CHr.wr W258 (own_safe_ary hZ.alike V255 (by decide)) HC256.1)
  refine E.dup (q := 176) X258 hx (hb hby d1_175) rfl ?_
  refine E.iconst (q := 177) (v := (4 : Int32)) X258 hx (hb hby d1_176) rfl ?_
  refine E.aloadN (q := 178) X258 hx (hb hby d1_177) rfl rfl ?_
  refine E.iconst (q := 179) (v := (4 : Int32)) X258 hx (hb hby d1_178) rfl ?_
  have f260 := f257.other W258 (Nat.ne_of_lt (Nat.lt_of_lt_of_eq f247.lt g245.symm))
  refine Ends.cld X258 hx hZ e258 f260 (i := 4) rfl rfl (hb hby d1_179) ?_
  refine Ends.cst X258 hx hZ e258 V258 (x' := c4) (own_nc16 hc4) (i := 4) rfl (show 4 < 5 from by decide) (hb hby d1_180) ?_
  intro T261 h261 X261 e261 W261 V261
  have V261 : Ary Z h261 b245 .char [(.int c0), (.int c1), (.int c2), (.int c3), (.int c4)] := V261
  have O261 := O258.wr W261 (Or.inr ge_b245)
  have HC262 := HC259.trans (CHr.wr W261 (own_safe_ary hZ.alike V258 (by decide)) HC259.1)
  have f263 := A243.ext E245
  have f264 := f263.wr W249
  have f265 := f264.wr W252
  have f266 := f265.wr W255
  have f267 := f266.wr W258
  have f268 := f267.wr W261
  have f269 := F243_value.ext E245
  have f270 := f269.other W249 (Or.inl (Nat.ne_of_lt (Nat.lt_of_lt_of_eq A243.lt g245.symm)))
  have f271 := f270.other W252 (Or.inl (Nat.ne_of_lt (Nat.lt_of_lt_of_eq A243.lt g245.symm)))
  have f272 := f271.other W255 (Or.inl (Nat.ne_of_lt (Nat.lt_of_lt_of_eq A243.lt g245.symm)))
  have f273 := f272.other W258 (Or.inl (Nat.ne_of_lt (Nat.lt_of_lt_of_eq A243.lt g245.symm)))
  have f274 := f273.other W261 (Or.inl (Nat.ne_of_lt (Nat.lt_of_lt_of_eq A243.lt g245.symm)))
  have f275 := F243_coder.ext E245
  have f276 := f275.other W249 (Or.inl (Nat.ne_of_lt (Nat.lt_of_lt_of_eq A243.lt g245.symm)))
  have f277 := f276.other W252 (Or.inl (Nat.ne_of_lt (Nat.lt_of_lt_of_eq A243.lt g245.symm)))
  have f278 := f277.other W255 (Or.inl (Nat.ne_of_lt (Nat.lt_of_lt_of_eq A243.lt g245.symm)))
  have f279 := f278.other W258 (Or.inl (Nat.ne_of_lt (Nat.lt_of_lt_of_eq A243.lt g245.symm)))
  have f280 := f279.other W261 (Or.inl (Nat.ne_of_lt (Nat.lt_of_lt_of_eq A243.lt g245.symm)))
  refine Ends.callI X261 hx hZ hown (hw _ (List.mem_of_getElem? (i := 9) rfl)) (hw _ (List.mem_of_getElem? (i := 10) rfl)) (hw _ (List.mem_of_getElem? (i := 8) rfl)) (hw _ (List.mem_of_getElem? (i := 11) rfl)) rfl (by decide) (argsL := [(.ref b245)]) (rest := [(.ref b243)]) e261 (rmI1_n l Z a0 hw b243 b245 [c0, c1, c2, c3, c4] (own_C6 hc0 hc1 hc2 hc3 hc4 hc5 5) (by simp) (by simp) _ f268 f274 f280 V261 (Ne.symm (Nat.ne_of_lt (Nat.lt_of_lt_of_eq A243.lt g245.symm))) cs hcs (own_sta_keep S0 O261.1 own_ns0) (own_sta_keep S2 O261.1 own_ns0) (own_sta_keep S3 O261.1 own_ns0) (own_sta_keep S4 O261.1 own_ns0)) (W := 1) (by decide) (by decide) (by rw [hml]; rfl) (lenOf pd_19 rfl) (Nat.le_of_eq rfl) (hb hby d1_181) (by decide) (by decide) rfl ?_
  rintro T281 v281 L281 X281 ⟨rfl, U281, cd281, bs281, gU281, hO281, Fv281, Fc281, A281, hs281⟩
  have e281 : T281.heap = T281.heap := rfl
  have O281 := O261.call hO281 (allS (Or.inr ge_b243) all0)
  have HC282 := HC262.trans (CHr.keep hO281.1 (own_all1 (own_safe_blank hZ.alike f268 f274)) HC262.1)
  show Ends (some (CHr Z own_EL vm0 h0)) p e below s _ _ _ T281 (mkF m 184 #[.val (.ref oc), .val (.int (5 : Int32))] [(.ref b243)])
  have f283 := f268.keep hO281.1
  exact Ends.retA X281 hx hlk hret rfl rfl rfl (hb hby d1_184) (by decide) (by decide) ⟨⟨_, _, _, _, rfl, ge_b243, O281, f283, Fv281, Fc281, A281, hs281⟩, by first | exact (Nat.zero_le _) | (rw [e281]; exact (Nat.zero_le _))⟩ (hF := own_chret X281 hZ (own_EW hw) HC282 (by first | rfl | assumption))
theorem efMk_6 (m : MethodId) (x0 : Addr) (x1 : Int32) : entryFrame m #[(.ref x0), (.int x1)] 2 = mkF m 0 #[.val (.ref x0), .val (.int x1)] [] := by first | (simp [entryFrame, mkF, argsToLocals, Value.category]; done) | rfl
set_option maxRecDepth 65536 in
set_option maxHeartbeats 40000000 in
theorem rmMk_6 (l : Launch) (Z : State) (a0 : Array Value) (hw : ∀ d ∈ tables_1, d.before a0 Z = true) (oc : Addr) (c0 c1 c2 c3 c4 c5 : Int32) (hc0 : own_C c0) (hc1 : own_C c1) (hc2 : own_C c2) (hc3 : own_C c3) (hc4 : own_C c4) (hc5 : own_C c5) (h0 : Heap) (A_c : Ary Z h0 oc .char [(.int c0), (.int c1), (.int c2), (.int c3), (.int c4), (.int c5)]) (cs : Int32) (hcs : ¬ cs = (0 : Int32)) (S0 : Sta Z h0 "java/lang/String" "COMPACT_STRINGS" "Z" (.int cs)) (S2 : Sta Z h0 "java/lang/StringUTF16" "$assertionsDisabled" "Z" (.int (1 : Int32))) (S3 : Sta Z h0 "java/lang/StringUTF16" "HI_BYTE_SHIFT" "I" (.int (0 : Int32))) (S4 : Sta Z h0 "java/lang/StringUTF16" "LO_BYTE_SHIFT" "I" (.int (8 : Int32))) :
    ConH l (⟨"com/example/needlework/needlework/match/PrefixTableOfPinLaw", "make", "([CI)Ljava/lang/String;"⟩ : MethodName) method_3_code 2 (some (.object "java/lang/String")) [] ({ frames := 6, cells := 6, slots := 28, locals := 150 } : Room) #[(.ref oc), (.int (6 : Int32))] Z h0 own_EL (fun v h L => ∃ (a V : Addr) (cd : Int32) (bs : List Int32), v = some (.ref a) ∧ h0.size ≤ a ∧ Ok h0 h [] L ∧ Exa Z h a "java/lang/String" ∧ Fld Z h a "java/lang/String" "value" "[B" (.ref V) ∧ Fld Z h a "java/lang/String" "coder" "B" (.int cd) ∧ Ary Z h V .byte (bs.map Value.int) ∧ own_Str cd bs [c0, c1, c2, c3, c4, c5]) := by
  refine ConH.of (plainFor_of_name pn_6) ?_
  intro p e s m below meth c s₁ vm0 HC0 hx hZ hby hml hown hnm hret hlk X0 e0
  refine Ends.cast (efMk_6 m oc (6 : Int32)) ?_
  show Ends (some (CHr Z own_EL vm0 h0)) p e below s _ _ _ s₁ (mkF m 0 #[.val (.ref oc), .val (.int (6 : Int32))] [])
  have O0 := Ok.refl h0 []
  refine E.iloadN (q := 1) X0 hx (hb hby d1_0) rfl ?_
  refine E.ifY (q := 15) X0 hx (hb hby d1_1) (XT.i0_ne_t (by decide)) ?_
  refine E.iloadN (q := 16) X0 hx (hb hby d1_15) rfl ?_
  refine E.iconst (q := 17) (v := (1 : Int32)) X0 hx (hb hby d1_16) rfl ?_
  refine E.icmpY (q := 37) X0 hx (hb hby d1_17) (XT.ii_ne_t (by decide)) ?_
  refine E.iloadN (q := 38) X0 hx (hb hby d1_37) rfl ?_
  refine E.iconst (q := 39) (v := (2 : Int32)) X0 hx (hb hby d1_38) rfl ?_
  refine E.icmpY (q := 65) X0 hx (hb hby d1_39) (XT.ii_ne_t (by decide)) ?_
  refine E.iloadN (q := 66) X0 hx (hb hby d1_65) rfl ?_
  refine E.iconst (q := 67) (v := (3 : Int32)) X0 hx (hb hby d1_66) rfl ?_
  refine E.icmpY (q := 99) X0 hx (hb hby d1_67) (XT.ii_ne_t (by decide)) ?_
  refine E.iloadN (q := 100) X0 hx (hb hby d1_99) rfl ?_
  refine E.iconst (q := 101) (v := (4 : Int32)) X0 hx (hb hby d1_100) rfl ?_
  refine E.icmpY (q := 139) X0 hx (hb hby d1_101) (XT.ii_ne_t (by decide)) ?_
  refine E.iloadN (q := 140) X0 hx (hb hby d1_139) rfl ?_
  refine E.iconst (q := 141) (v := (5 : Int32)) X0 hx (hb hby d1_140) rfl ?_
  refine E.icmpY (q := 185) X0 hx (hb hby d1_141) (XT.ii_ne_t (by decide)) ?_
  refine Ends.newC X0 hx hZ hown (hw _ (List.mem_of_getElem? (i := 6) rfl)) (hw _ (List.mem_of_getElem? (i := 7) rfl)) (hw _ (List.mem_of_getElem? (i := 8) rfl)) e0 (hb hby d1_185) (by decide) (by decide) ?_
  intro T284 h284 b284 g284 X284 e284 E284 A284 D284
  have ge_b284 : h0.size ≤ b284 := Nat.le_trans O0.le (Nat.le_of_eq g284.symm)
  have O284 := O0.ext E284
  have HC285 := HC0.trans (CHr.ext E284 HC0.1)
  have F284_value : Fld Z h284 b284 "java/lang/String" "value" "[B" .null := D284 (Or.inr (hw _ (List.mem_of_getElem? (i := 21) rfl))) (ty := (.array .byte)) (by decide)
  have F284_coder : Fld Z h284 b284 "java/lang/String" "coder" "B" (.int (0 : Int32)) := D284 (Or.inr (hw _ (List.mem_of_getElem? (i := 22) rfl))) (ty := .byte) (by decide)
  refine E.dup (q := 189) X284 hx (hb hby d1_188) rfl ?_
  refine E.bipush (q := 191) (v := (6 : Int32)) X284 hx (hb hby d1_189) rfl ?_
  refine Ends.newA X284 hx hZ (hw _ (List.mem_of_getElem? (i := 1) rfl)) e284 (hb hby d1_191) (N := 6) rfl (by decide) (by decide) (by decide) ?_
  intro T286 h286 b286 g286 X286 e286 E286 A286
  have ge_b286 : h0.size ≤ b286 := Nat.le_trans O284.le (Nat.le_of_eq g286.symm)
  have O286 := O284.ext E286
  have HC287 := HC285.trans (CHr.ext E286 HC285.1)
  have V286 : Ary Z h286 b286 .char [(.int (0 : Int32)), (.int (0 : Int32)), (.int (0 : Int32)), (.int (0 : Int32)), (.int (0 : Int32)), (.int (0 : Int32))] := A286
  refine E.dup (q := 194) X286 hx (hb hby d1_193) rfl ?_
  refine E.iconst (q := 195) (v := (0 : Int32)) X286 hx (hb hby d1_194) rfl ?_
  refine E.aloadN (q := 196) X286 hx (hb hby d1_195) rfl rfl ?_
  refine E.iconst (q := 197) (v := (0 : Int32)) X286 hx (hb hby d1_196) rfl ?_
  have f288 := A_c.ext E284
  have f289 := f288.ext E286
  refine Ends.cld X286 hx hZ e286 f289 (i := 0) rfl rfl (hb hby d1_197) ?_
  refine Ends.cst X286 hx hZ e286 V286 (x' := c0) (own_nc16 hc0) (i := 0) rfl (show 0 < 6 from by decide) (hb hby d1_198) ?_
  intro T290 h290 X290 e290 W290 V290
  have V290 : Ary Z h290 b286 .char [(.int c0), (.int (0 : Int32)), (.int (0 : Int32)), (.int (0 : Int32)), (.int (0 : Int32)), (.int (0 : Int32))] := V290
  have O290 := O286.wr W290 (Or.inr ge_b286)
  have HC291 := HC287.trans (CHr.wr W290 (own_safe_ary hZ.alike V286 (by decide)) HC287.1)
  refine E.dup (q := 200) X290 hx (hb hby d1_199) rfl ?_
  refine E.iconst (q := 201) (v := (1 : Int32)) X290 hx (hb hby d1_200) rfl ?_
  refine E.aloadN (q := 202) X290 hx (hb hby d1_201) rfl rfl ?_
  refine E.iconst (q := 203) (v := (1 : Int32)) X290 hx (hb hby d1_202) rfl ?_
  have f292 := f289.other W290 (Nat.ne_of_lt (Nat.lt_of_lt_of_eq f288.lt g286.symm))
  refine Ends.cld X290 hx hZ e290 f292 (i := 1) rfl rfl (hb hby d1_203) ?_
  refine Ends.cst X290 hx hZ e290 V290 (x' := c1) (own_nc16 hc1) (i := 1) rfl (show 1 < 6 from by decide) (hb hby d1_204) ?_
  intro T293 h293 X293 e293 W293 V293
  have V293 : Ary Z h293 b286 .char [(.int c0), (.int c1), (.int (0 : Int32)), (.int (0 : Int32)), (.int (0 : Int32)), (.int (0 : Int32))] := V293
  have O293 := O290.wr W293 (Or.inr ge_b286)
  have HC294 := HC291.trans (CHr.wr W293 (own_safe_ary hZ.alike V290 (by decide)) HC291.1)
  refine E.dup (q := 206) X293 hx (hb hby d1_205) rfl ?_
  refine E.iconst (q := 207) (v := (2 : Int32)) X293 hx (hb hby d1_206) rfl ?_
  refine E.aloadN (q := 208) X293 hx (hb hby d1_207) rfl rfl ?_
  refine E.iconst (q := 209) (v := (2 : Int32)) X293 hx (hb hby d1_208) rfl ?_
  have f295 := f292.other W293 (Nat.ne_of_lt (Nat.lt_of_lt_of_eq f288.lt g286.symm))
  refine Ends.cld X293 hx hZ e293 f295 (i := 2) rfl rfl (hb hby d1_209) ?_
  refine Ends.cst X293 hx hZ e293 V293 (x' := c2) (own_nc16 hc2) (i := 2) rfl (show 2 < 6 from by decide) (hb hby d1_210) ?_
  intro T296 h296 X296 e296 W296 V296
  have V296 : Ary Z h296 b286 .char [(.int c0), (.int c1), (.int c2), (.int (0 : Int32)), (.int (0 : Int32)), (.int (0 : Int32))] := V296
  have O296 := O293.wr W296 (Or.inr ge_b286)
  have HC297 := HC294.trans (CHr.wr W296 (own_safe_ary hZ.alike V293 (by decide)) HC294.1)
  refine E.dup (q := 212) X296 hx (hb hby d1_211) rfl ?_
  refine E.iconst (q := 213) (v := (3 : Int32)) X296 hx (hb hby d1_212) rfl ?_
  refine E.aloadN (q := 214) X296 hx (hb hby d1_213) rfl rfl ?_
  refine E.iconst (q := 215) (v := (3 : Int32)) X296 hx (hb hby d1_214) rfl ?_
  have f298 := f295.other W296 (Nat.ne_of_lt (Nat.lt_of_lt_of_eq f288.lt g286.symm))
  refine Ends.cld X296 hx hZ e296 f298 (i := 3) rfl rfl (hb hby d1_215) ?_
  refine Ends.cst X296 hx hZ e296 V296 (x' := c3) (own_nc16 hc3) (i := 3) rfl (show 3 < 6 from by decide) (hb hby d1_216) ?_
  intro T299 h299 X299 e299 W299 V299
  have V299 : Ary Z h299 b286 .char [(.int c0), (.int c1), (.int c2), (.int c3), (.int (0 : Int32)), (.int (0 : Int32))] := V299
  have O299 := O296.wr W299 (Or.inr ge_b286)
  have HC300 := HC297.trans (CHr.wr W299 (own_safe_ary hZ.alike V296 (by decide)) HC297.1)
  refine E.dup (q := 218) X299 hx (hb hby d1_217) rfl ?_
  refine E.iconst (q := 219) (v := (4 : Int32)) X299 hx (hb hby d1_218) rfl ?_
  refine E.aloadN (q := 220) X299 hx (hb hby d1_219) rfl rfl ?_
  refine E.iconst (q := 221) (v := (4 : Int32)) X299 hx (hb hby d1_220) rfl ?_
  have f301 := f298.other W299 (Nat.ne_of_lt (Nat.lt_of_lt_of_eq f288.lt g286.symm))
  refine Ends.cld X299 hx hZ e299 f301 (i := 4) rfl rfl (hb hby d1_221) ?_
  refine Ends.cst X299 hx hZ e299 V299 (x' := c4) (own_nc16 hc4) (i := 4) rfl (show 4 < 6 from by decide) (hb hby d1_222) ?_
  intro T302 h302 X302 e302 W302 V302
  have V302 : Ary Z h302 b286 .char [(.int c0), (.int c1), (.int c2), (.int c3), (.int c4), (.int (0 : Int32))] := V302
  have O302 := O299.wr W302 (Or.inr ge_b286)
  have HC303 := HC300.trans (CHr.wr W302 (own_safe_ary hZ.alike V299 (by decide)) HC300.1)
  refine E.dup (q := 224) X302 hx (hb hby d1_223) rfl ?_
  refine E.iconst (q := 225) (v := (5 : Int32)) X302 hx (hb hby d1_224) rfl ?_
  refine E.aloadN (q := 226) X302 hx (hb hby d1_225) rfl rfl ?_
  refine E.iconst (q := 227) (v := (5 : Int32)) X302 hx (hb hby d1_226) rfl ?_
  have f304 := f301.other W302 (Nat.ne_of_lt (Nat.lt_of_lt_of_eq f288.lt g286.symm))
  refine Ends.cld X302 hx hZ e302 f304 (i := 5) rfl rfl (hb hby d1_227) ?_
  refine Ends.cst X302 hx hZ e302 V302 (x' := c5) (own_nc16 hc5) (i := 5) rfl (show 5 < 6 from by decide) (hb hby d1_228) ?_
  intro T305 h305 X305 e305 W305 V305
  have V305 : Ary Z h305 b286 .char [(.int c0), (.int c1), (.int c2), (.int c3), (.int c4), (.int c5)] := V305
  have O305 := O302.wr W305 (Or.inr ge_b286)
  have HC306 := HC303.trans (CHr.wr W305 (own_safe_ary hZ.alike V302 (by decide)) HC303.1)
  have f307 := A284.ext E286
  have f308 := f307.wr W290
  have f309 := f308.wr W293
  have f310 := f309.wr W296
  have f311 := f310.wr W299
  have f312 := f311.wr W302
  have f313 := f312.wr W305
  have f314 := F284_value.ext E286
  have f315 := f314.other W290 (Or.inl (Nat.ne_of_lt (Nat.lt_of_lt_of_eq A284.lt g286.symm)))
  have f316 := f315.other W293 (Or.inl (Nat.ne_of_lt (Nat.lt_of_lt_of_eq A284.lt g286.symm)))
  have f317 := f316.other W296 (Or.inl (Nat.ne_of_lt (Nat.lt_of_lt_of_eq A284.lt g286.symm)))
  have f318 := f317.other W299 (Or.inl (Nat.ne_of_lt (Nat.lt_of_lt_of_eq A284.lt g286.symm)))
  have f319 := f318.other W302 (Or.inl (Nat.ne_of_lt (Nat.lt_of_lt_of_eq A284.lt g286.symm)))
  have f320 := f319.other W305 (Or.inl (Nat.ne_of_lt (Nat.lt_of_lt_of_eq A284.lt g286.symm)))
  have f321 := F284_coder.ext E286
  have f322 := f321.other W290 (Or.inl (Nat.ne_of_lt (Nat.lt_of_lt_of_eq A284.lt g286.symm)))
  have f323 := f322.other W293 (Or.inl (Nat.ne_of_lt (Nat.lt_of_lt_of_eq A284.lt g286.symm)))
  have f324 := f323.other W296 (Or.inl (Nat.ne_of_lt (Nat.lt_of_lt_of_eq A284.lt g286.symm)))
  have f325 := f324.other W299 (Or.inl (Nat.ne_of_lt (Nat.lt_of_lt_of_eq A284.lt g286.symm)))
  have f326 := f325.other W302 (Or.inl (Nat.ne_of_lt (Nat.lt_of_lt_of_eq A284.lt g286.symm)))
  have f327 := f326.other W305 (Or.inl (Nat.ne_of_lt (Nat.lt_of_lt_of_eq A284.lt g286.symm)))
  refine Ends.callI X305 hx hZ hown (hw _ (List.mem_of_getElem? (i := 9) rfl)) (hw _ (List.mem_of_getElem? (i := 10) rfl)) (hw _ (List.mem_of_getElem? (i := 8) rfl)) (hw _ (List.mem_of_getElem? (i := 11) rfl)) rfl (by decide) (argsL := [(.ref b286)]) (rest := [(.ref b284)]) e305 (rmI1_n l Z a0 hw b284 b286 [c0, c1, c2, c3, c4, c5] (own_C6 hc0 hc1 hc2 hc3 hc4 hc5 6) (by simp) (by simp) _ f313 f320 f327 V305 (Ne.symm (Nat.ne_of_lt (Nat.lt_of_lt_of_eq A284.lt g286.symm))) cs hcs (own_sta_keep S0 O305.1 own_ns0) (own_sta_keep S2 O305.1 own_ns0) (own_sta_keep S3 O305.1 own_ns0) (own_sta_keep S4 O305.1 own_ns0)) (W := 1) (by decide) (by decide) (by rw [hml]; rfl) (lenOf pd_19 rfl) (Nat.le_of_eq rfl) (hb hby d1_229) (by decide) (by decide) rfl ?_
  rintro T328 v328 L328 X328 ⟨rfl, U328, cd328, bs328, gU328, hO328, Fv328, Fc328, A328, hs328⟩
  have e328 : T328.heap = T328.heap := rfl
  have O328 := O305.call hO328 (allS (Or.inr ge_b284) all0)
  have HC329 := HC306.trans (CHr.keep hO328.1 (own_all1 (own_safe_blank hZ.alike f313 f320)) HC306.1)
  show Ends (some (CHr Z own_EL vm0 h0)) p e below s _ _ _ T328 (mkF m 232 #[.val (.ref oc), .val (.int (6 : Int32))] [(.ref b284)])
  have f330 := f313.keep hO328.1
  exact Ends.retA X328 hx hlk hret rfl rfl rfl (hb hby d1_232) (by decide) (by decide) ⟨⟨_, _, _, _, rfl, ge_b284, O328, f330, Fv328, Fc328, A328, hs328⟩, by first | exact (Nat.zero_le _) | (rw [e328]; exact (Nat.zero_le _))⟩ (hF := own_chret X328 hZ (own_EW hw) HC329 (by first | rfl | assumption))
theorem own_bd1_1 (c0 c1 c2 c3 c4 c5 : Int32) : own_bord [c0, c1, c2, c3, c4, c5] 1 1 = true ↔ c0 = c1 := by simp [own_bord, List.range, List.range.loop]
theorem efBd1_1 (m : MethodId) (x0 : Addr) (x1 : Int32) (x2 : Int32) : entryFrame m #[(.ref x0), (.int x1), (.int x2)] 3 = mkF m 0 #[.val (.ref x0), .val (.int x1), .val (.int x2)] [] := by first | (simp [entryFrame, mkF, argsToLocals, Value.category]; done) | rfl
set_option maxRecDepth 65536 in
set_option maxHeartbeats 40000000 in
theorem rmBd1_1 (l : Launch) (Z : State) (a0 : Array Value) (hw : ∀ d ∈ tables_1, d.before a0 Z = true) (oc : Addr) (c0 c1 c2 c3 c4 c5 : Int32) (h0 : Heap) (A_c : Ary Z h0 oc .char [(.int c0), (.int c1), (.int c2), (.int c3), (.int c4), (.int c5)]) :
    Con l (⟨"com/example/needlework/needlework/match/PrefixTableOfPinLaw", "isBorder", "([CII)Z"⟩ : MethodName) method_5_code 3 (some .boolean) [] ({ frames := 0, cells := 0, slots := 0, locals := 0 } : Room) #[(.ref oc), (.int (1 : Int32)), (.int (1 : Int32))] Z h0 (fun v h L => v = some (.int (if own_bord [c0, c1, c2, c3, c4, c5] 1 1 = true then (1 : Int32) else 0)) ∧ h = h0 ∧ L = []) := by
  refine Con.of (plainFor_of_name pn_6) ?_
  intro p e s m below meth c s₁ hx hZ hby hml hown hnm hret hlk X0 e0
  refine Ends.cast (efBd1_1 m oc (1 : Int32) (1 : Int32)) ?_
  show Ends none p e below s _ _ _ s₁ (mkF m 0 #[.val (.ref oc), .val (.int (1 : Int32)), .val (.int (1 : Int32))] [])
  refine E.iloadN (q := 1) X0 hx (hb hby d21_0) rfl ?_
  refine E.iconst (q := 2) (v := (1 : Int32)) X0 hx (hb hby d21_1) rfl ?_
  refine E.icmpN (q := 5) X0 hx (hb hby d21_2) (XT.ii_lt_f (by decide)) ?_
  refine E.aloadN (q := 6) X0 hx (hb hby d21_5) rfl rfl ?_
  refine E.iconst (q := 7) (v := (0 : Int32)) X0 hx (hb hby d21_6) rfl ?_
  refine Ends.cld X0 hx hZ e0 A_c (i := 0) rfl rfl (hb hby d21_7) ?_
  refine E.aloadN (q := 9) X0 hx (hb hby d21_8) rfl rfl ?_
  refine E.iloadN (q := 10) X0 hx (hb hby d21_9) rfl ?_
  refine E.iloadN (q := 11) X0 hx (hb hby d21_10) rfl ?_
  refine E.isub (q := 12) X0 hx (hb hby d21_11) ?_
  rw [show ((1 : Int32) - (1 : Int32)) = (0 : Int32) from by decide]
  refine E.iconst (q := 13) (v := (1 : Int32)) X0 hx (hb hby d21_12) rfl ?_
  refine E.iadd (q := 14) X0 hx (hb hby d21_13) ?_
  rw [show ((0 : Int32) + (1 : Int32)) = (1 : Int32) from by decide]
  refine Ends.cld X0 hx hZ e0 A_c (i := 1) rfl rfl (hb hby d21_14) ?_
  by_cases hq0 : c0 = c1
  · refine E.icmpN (q := 18) X0 hx (hb hby d21_15) (XT.ii_ne_f hq0) ?_
    refine E.iloadN (q := 19) X0 hx (hb hby d21_18) rfl ?_
    refine E.iconst (q := 20) (v := (2 : Int32)) X0 hx (hb hby d21_19) rfl ?_
    refine E.icmpY (q := 36) X0 hx (hb hby d21_20) (XT.ii_lt_t (by decide)) ?_
    refine E.iloadN (q := 37) X0 hx (hb hby d21_36) rfl ?_
    refine E.iconst (q := 38) (v := (3 : Int32)) X0 hx (hb hby d21_37) rfl ?_
    refine E.icmpY (q := 54) X0 hx (hb hby d21_38) (XT.ii_lt_t (by decide)) ?_
    refine E.iloadN (q := 55) X0 hx (hb hby d21_54) rfl ?_
    refine E.iconst (q := 56) (v := (4 : Int32)) X0 hx (hb hby d21_55) rfl ?_
    refine E.icmpY (q := 72) X0 hx (hb hby d21_56) (XT.ii_lt_t (by decide)) ?_
    refine E.iloadN (q := 73) X0 hx (hb hby d21_72) rfl ?_
    refine E.iconst (q := 74) (v := (5 : Int32)) X0 hx (hb hby d21_73) rfl ?_
    refine E.icmpY (q := 90) X0 hx (hb hby d21_74) (XT.ii_lt_t (by decide)) ?_
    refine E.iconst (q := 91) (v := (1 : Int32)) X0 hx (hb hby d21_90) rfl ?_
    refine E.goto (q := 95) X0 hx (hb hby d21_91) ?_
    exact Ends.retS X0 hx hlk hret (by simp) rfl (hb hby d21_95) (by decide) (by decide) ⟨by rw [if_pos ((own_bd1_1 c0 c1 c2 c3 c4 c5).mpr hq0)], e0, rfl⟩
  · refine E.icmpY (q := 94) X0 hx (hb hby d21_15) (XT.ii_ne_t hq0) ?_
    refine E.iconst (q := 95) (v := (0 : Int32)) X0 hx (hb hby d21_94) rfl ?_
    exact Ends.retS X0 hx hlk hret (by simp) rfl (hb hby d21_95) (by decide) (by decide) ⟨by rw [if_neg (fun q => hq0 ((own_bd1_1 c0 c1 c2 c3 c4 c5).mp q))], e0, rfl⟩
theorem own_bd2_1 (c0 c1 c2 c3 c4 c5 : Int32) : own_bord [c0, c1, c2, c3, c4, c5] 2 1 = true ↔ c0 = c2 := by simp [own_bord, List.range, List.range.loop]
theorem efBd2_1 (m : MethodId) (x0 : Addr) (x1 : Int32) (x2 : Int32) : entryFrame m #[(.ref x0), (.int x1), (.int x2)] 3 = mkF m 0 #[.val (.ref x0), .val (.int x1), .val (.int x2)] [] := by first | (simp [entryFrame, mkF, argsToLocals, Value.category]; done) | rfl
set_option maxRecDepth 65536 in
set_option maxHeartbeats 40000000 in
theorem rmBd2_1 (l : Launch) (Z : State) (a0 : Array Value) (hw : ∀ d ∈ tables_1, d.before a0 Z = true) (oc : Addr) (c0 c1 c2 c3 c4 c5 : Int32) (h0 : Heap) (A_c : Ary Z h0 oc .char [(.int c0), (.int c1), (.int c2), (.int c3), (.int c4), (.int c5)]) :
    Con l (⟨"com/example/needlework/needlework/match/PrefixTableOfPinLaw", "isBorder", "([CII)Z"⟩ : MethodName) method_5_code 3 (some .boolean) [] ({ frames := 0, cells := 0, slots := 0, locals := 0 } : Room) #[(.ref oc), (.int (2 : Int32)), (.int (1 : Int32))] Z h0 (fun v h L => v = some (.int (if own_bord [c0, c1, c2, c3, c4, c5] 2 1 = true then (1 : Int32) else 0)) ∧ h = h0 ∧ L = []) := by
  refine Con.of (plainFor_of_name pn_6) ?_
  intro p e s m below meth c s₁ hx hZ hby hml hown hnm hret hlk X0 e0
  refine Ends.cast (efBd2_1 m oc (2 : Int32) (1 : Int32)) ?_
  show Ends none p e below s _ _ _ s₁ (mkF m 0 #[.val (.ref oc), .val (.int (2 : Int32)), .val (.int (1 : Int32))] [])
  refine E.iloadN (q := 1) X0 hx (hb hby d21_0) rfl ?_
  refine E.iconst (q := 2) (v := (1 : Int32)) X0 hx (hb hby d21_1) rfl ?_
  refine E.icmpN (q := 5) X0 hx (hb hby d21_2) (XT.ii_lt_f (by decide)) ?_
  refine E.aloadN (q := 6) X0 hx (hb hby d21_5) rfl rfl ?_
  refine E.iconst (q := 7) (v := (0 : Int32)) X0 hx (hb hby d21_6) rfl ?_
  refine Ends.cld X0 hx hZ e0 A_c (i := 0) rfl rfl (hb hby d21_7) ?_
  refine E.aloadN (q := 9) X0 hx (hb hby d21_8) rfl rfl ?_
  refine E.iloadN (q := 10) X0 hx (hb hby d21_9) rfl ?_
  refine E.iloadN (q := 11) X0 hx (hb hby d21_10) rfl ?_
  refine E.isub (q := 12) X0 hx (hb hby d21_11) ?_
  rw [show ((2 : Int32) - (1 : Int32)) = (1 : Int32) from by decide]
  refine E.iconst (q := 13) (v := (1 : Int32)) X0 hx (hb hby d21_12) rfl ?_
  refine E.iadd (q := 14) X0 hx (hb hby d21_13) ?_
  rw [show ((1 : Int32) + (1 : Int32)) = (2 : Int32) from by decide]
  refine Ends.cld X0 hx hZ e0 A_c (i := 2) rfl rfl (hb hby d21_14) ?_
  by_cases hq0 : c0 = c2
  · refine E.icmpN (q := 18) X0 hx (hb hby d21_15) (XT.ii_ne_f hq0) ?_
    refine E.iloadN (q := 19) X0 hx (hb hby d21_18) rfl ?_
    refine E.iconst (q := 20) (v := (2 : Int32)) X0 hx (hb hby d21_19) rfl ?_
    refine E.icmpY (q := 36) X0 hx (hb hby d21_20) (XT.ii_lt_t (by decide)) ?_
    refine E.iloadN (q := 37) X0 hx (hb hby d21_36) rfl ?_
    refine E.iconst (q := 38) (v := (3 : Int32)) X0 hx (hb hby d21_37) rfl ?_
    refine E.icmpY (q := 54) X0 hx (hb hby d21_38) (XT.ii_lt_t (by decide)) ?_
    refine E.iloadN (q := 55) X0 hx (hb hby d21_54) rfl ?_
    refine E.iconst (q := 56) (v := (4 : Int32)) X0 hx (hb hby d21_55) rfl ?_
    refine E.icmpY (q := 72) X0 hx (hb hby d21_56) (XT.ii_lt_t (by decide)) ?_
    refine E.iloadN (q := 73) X0 hx (hb hby d21_72) rfl ?_
    refine E.iconst (q := 74) (v := (5 : Int32)) X0 hx (hb hby d21_73) rfl ?_
    refine E.icmpY (q := 90) X0 hx (hb hby d21_74) (XT.ii_lt_t (by decide)) ?_
    refine E.iconst (q := 91) (v := (1 : Int32)) X0 hx (hb hby d21_90) rfl ?_
    refine E.goto (q := 95) X0 hx (hb hby d21_91) ?_
    exact Ends.retS X0 hx hlk hret (by simp) rfl (hb hby d21_95) (by decide) (by decide) ⟨by rw [if_pos ((own_bd2_1 c0 c1 c2 c3 c4 c5).mpr hq0)], e0, rfl⟩
  · refine E.icmpY (q := 94) X0 hx (hb hby d21_15) (XT.ii_ne_t hq0) ?_
    refine E.iconst (q := 95) (v := (0 : Int32)) X0 hx (hb hby d21_94) rfl ?_
    exact Ends.retS X0 hx hlk hret (by simp) rfl (hb hby d21_95) (by decide) (by decide) ⟨by rw [if_neg (fun q => hq0 ((own_bd2_1 c0 c1 c2 c3 c4 c5).mp q))], e0, rfl⟩
theorem own_bd2_2 (c0 c1 c2 c3 c4 c5 : Int32) : own_bord [c0, c1, c2, c3, c4, c5] 2 2 = true ↔ c0 = c1 ∧ c1 = c2 := by simp [own_bord, List.range, List.range.loop]
theorem efBd2_2 (m : MethodId) (x0 : Addr) (x1 : Int32) (x2 : Int32) : entryFrame m #[(.ref x0), (.int x1), (.int x2)] 3 = mkF m 0 #[.val (.ref x0), .val (.int x1), .val (.int x2)] [] := by first | (simp [entryFrame, mkF, argsToLocals, Value.category]; done) | rfl
set_option maxRecDepth 65536 in
set_option maxHeartbeats 40000000 in
theorem rmBd2_2 (l : Launch) (Z : State) (a0 : Array Value) (hw : ∀ d ∈ tables_1, d.before a0 Z = true) (oc : Addr) (c0 c1 c2 c3 c4 c5 : Int32) (h0 : Heap) (A_c : Ary Z h0 oc .char [(.int c0), (.int c1), (.int c2), (.int c3), (.int c4), (.int c5)]) :
    Con l (⟨"com/example/needlework/needlework/match/PrefixTableOfPinLaw", "isBorder", "([CII)Z"⟩ : MethodName) method_5_code 3 (some .boolean) [] ({ frames := 0, cells := 0, slots := 0, locals := 0 } : Room) #[(.ref oc), (.int (2 : Int32)), (.int (2 : Int32))] Z h0 (fun v h L => v = some (.int (if own_bord [c0, c1, c2, c3, c4, c5] 2 2 = true then (1 : Int32) else 0)) ∧ h = h0 ∧ L = []) := by
  refine Con.of (plainFor_of_name pn_6) ?_
  intro p e s m below meth c s₁ hx hZ hby hml hown hnm hret hlk X0 e0
  refine Ends.cast (efBd2_2 m oc (2 : Int32) (2 : Int32)) ?_
  show Ends none p e below s _ _ _ s₁ (mkF m 0 #[.val (.ref oc), .val (.int (2 : Int32)), .val (.int (2 : Int32))] [])
  refine E.iloadN (q := 1) X0 hx (hb hby d21_0) rfl ?_
  refine E.iconst (q := 2) (v := (1 : Int32)) X0 hx (hb hby d21_1) rfl ?_
  refine E.icmpN (q := 5) X0 hx (hb hby d21_2) (XT.ii_lt_f (by decide)) ?_
  refine E.aloadN (q := 6) X0 hx (hb hby d21_5) rfl rfl ?_
  refine E.iconst (q := 7) (v := (0 : Int32)) X0 hx (hb hby d21_6) rfl ?_
  refine Ends.cld X0 hx hZ e0 A_c (i := 0) rfl rfl (hb hby d21_7) ?_
  refine E.aloadN (q := 9) X0 hx (hb hby d21_8) rfl rfl ?_
  refine E.iloadN (q := 10) X0 hx (hb hby d21_9) rfl ?_
  refine E.iloadN (q := 11) X0 hx (hb hby d21_10) rfl ?_
  refine E.isub (q := 12) X0 hx (hb hby d21_11) ?_
  rw [show ((2 : Int32) - (2 : Int32)) = (0 : Int32) from by decide]
  refine E.iconst (q := 13) (v := (1 : Int32)) X0 hx (hb hby d21_12) rfl ?_
  refine E.iadd (q := 14) X0 hx (hb hby d21_13) ?_
  rw [show ((0 : Int32) + (1 : Int32)) = (1 : Int32) from by decide]
  refine Ends.cld X0 hx hZ e0 A_c (i := 1) rfl rfl (hb hby d21_14) ?_
  by_cases hq0 : c0 = c1
  · refine E.icmpN (q := 18) X0 hx (hb hby d21_15) (XT.ii_ne_f hq0) ?_
    refine E.iloadN (q := 19) X0 hx (hb hby d21_18) rfl ?_
    refine E.iconst (q := 20) (v := (2 : Int32)) X0 hx (hb hby d21_19) rfl ?_
    refine E.icmpN (q := 23) X0 hx (hb hby d21_20) (XT.ii_lt_f (by decide)) ?_
    refine E.aloadN (q := 24) X0 hx (hb hby d21_23) rfl rfl ?_
    refine E.iconst (q := 25) (v := (1 : Int32)) X0 hx (hb hby d21_24) rfl ?_
    refine Ends.cld X0 hx hZ e0 A_c (i := 1) rfl rfl (hb hby d21_25) ?_
    refine E.aloadN (q := 27) X0 hx (hb hby d21_26) rfl rfl ?_
    refine E.iloadN (q := 28) X0 hx (hb hby d21_27) rfl ?_
    refine E.iloadN (q := 29) X0 hx (hb hby d21_28) rfl ?_
    refine E.isub (q := 30) X0 hx (hb hby d21_29) ?_
    rw [show ((2 : Int32) - (2 : Int32)) = (0 : Int32) from by decide]
    refine E.iconst (q := 31) (v := (2 : Int32)) X0 hx (hb hby d21_30) rfl ?_
    refine E.iadd (q := 32) X0 hx (hb hby d21_31) ?_
    rw [show ((0 : Int32) + (2 : Int32)) = (2 : Int32) from by decide]
    refine Ends.cld X0 hx hZ e0 A_c (i := 2) rfl rfl (hb hby d21_32) ?_
    by_cases hq1 : c1 = c2
    · refine E.icmpN (q := 36) X0 hx (hb hby d21_33) (XT.ii_ne_f hq1) ?_
      refine E.iloadN (q := 37) X0 hx (hb hby d21_36) rfl ?_
      refine E.iconst (q := 38) (v := (3 : Int32)) X0 hx (hb hby d21_37) rfl ?_
      refine E.icmpY (q := 54) X0 hx (hb hby d21_38) (XT.ii_lt_t (by decide)) ?_
      refine E.iloadN (q := 55) X0 hx (hb hby d21_54) rfl ?_
      refine E.iconst (q := 56) (v := (4 : Int32)) X0 hx (hb hby d21_55) rfl ?_
      refine E.icmpY (q := 72) X0 hx (hb hby d21_56) (XT.ii_lt_t (by decide)) ?_
      refine E.iloadN (q := 73) X0 hx (hb hby d21_72) rfl ?_
      refine E.iconst (q := 74) (v := (5 : Int32)) X0 hx (hb hby d21_73) rfl ?_
      refine E.icmpY (q := 90) X0 hx (hb hby d21_74) (XT.ii_lt_t (by decide)) ?_
      refine E.iconst (q := 91) (v := (1 : Int32)) X0 hx (hb hby d21_90) rfl ?_
      refine E.goto (q := 95) X0 hx (hb hby d21_91) ?_
      exact Ends.retS X0 hx hlk hret (by simp) rfl (hb hby d21_95) (by decide) (by decide) ⟨by rw [if_pos ((own_bd2_2 c0 c1 c2 c3 c4 c5).mpr ⟨hq0, hq1⟩)], e0, rfl⟩
    · refine E.icmpY (q := 94) X0 hx (hb hby d21_33) (XT.ii_ne_t hq1) ?_
      refine E.iconst (q := 95) (v := (0 : Int32)) X0 hx (hb hby d21_94) rfl ?_
      exact Ends.retS X0 hx hlk hret (by simp) rfl (hb hby d21_95) (by decide) (by decide) ⟨by rw [if_neg (fun q => hq1 ((own_bd2_2 c0 c1 c2 c3 c4 c5).mp q).2)], e0, rfl⟩
  · refine E.icmpY (q := 94) X0 hx (hb hby d21_15) (XT.ii_ne_t hq0) ?_
    refine E.iconst (q := 95) (v := (0 : Int32)) X0 hx (hb hby d21_94) rfl ?_
    exact Ends.retS X0 hx hlk hret (by simp) rfl (hb hby d21_95) (by decide) (by decide) ⟨by rw [if_neg (fun q => hq0 ((own_bd2_2 c0 c1 c2 c3 c4 c5).mp q).1)], e0, rfl⟩
theorem own_bd3_1 (c0 c1 c2 c3 c4 c5 : Int32) : own_bord [c0, c1, c2, c3, c4, c5] 3 1 = true ↔ c0 = c3 := by simp [own_bord, List.range, List.range.loop]
theorem efBd3_1 (m : MethodId) (x0 : Addr) (x1 : Int32) (x2 : Int32) : entryFrame m #[(.ref x0), (.int x1), (.int x2)] 3 = mkF m 0 #[.val (.ref x0), .val (.int x1), .val (.int x2)] [] := by first | (simp [entryFrame, mkF, argsToLocals, Value.category]; done) | rfl
set_option maxRecDepth 65536 in
set_option maxHeartbeats 40000000 in
theorem rmBd3_1 (l : Launch) (Z : State) (a0 : Array Value) (hw : ∀ d ∈ tables_1, d.before a0 Z = true) (oc : Addr) (c0 c1 c2 c3 c4 c5 : Int32) (h0 : Heap) (A_c : Ary Z h0 oc .char [(.int c0), (.int c1), (.int c2), (.int c3), (.int c4), (.int c5)]) :
    Con l (⟨"com/example/needlework/needlework/match/PrefixTableOfPinLaw", "isBorder", "([CII)Z"⟩ : MethodName) method_5_code 3 (some .boolean) [] ({ frames := 0, cells := 0, slots := 0, locals := 0 } : Room) #[(.ref oc), (.int (3 : Int32)), (.int (1 : Int32))] Z h0 (fun v h L => v = some (.int (if own_bord [c0, c1, c2, c3, c4, c5] 3 1 = true then (1 : Int32) else 0)) ∧ h = h0 ∧ L = []) := by
  refine Con.of (plainFor_of_name pn_6) ?_
  intro p e s m below meth c s₁ hx hZ hby hml hown hnm hret hlk X0 e0
  refine Ends.cast (efBd3_1 m oc (3 : Int32) (1 : Int32)) ?_
  show Ends none p e below s _ _ _ s₁ (mkF m 0 #[.val (.ref oc), .val (.int (3 : Int32)), .val (.int (1 : Int32))] [])
  refine E.iloadN (q := 1) X0 hx (hb hby d21_0) rfl ?_
  refine E.iconst (q := 2) (v := (1 : Int32)) X0 hx (hb hby d21_1) rfl ?_
  refine E.icmpN (q := 5) X0 hx (hb hby d21_2) (XT.ii_lt_f (by decide)) ?_
  refine E.aloadN (q := 6) X0 hx (hb hby d21_5) rfl rfl ?_
  refine E.iconst (q := 7) (v := (0 : Int32)) X0 hx (hb hby d21_6) rfl ?_
  refine Ends.cld X0 hx hZ e0 A_c (i := 0) rfl rfl (hb hby d21_7) ?_
  refine E.aloadN (q := 9) X0 hx (hb hby d21_8) rfl rfl ?_
  refine E.iloadN (q := 10) X0 hx (hb hby d21_9) rfl ?_
  refine E.iloadN (q := 11) X0 hx (hb hby d21_10) rfl ?_
  refine E.isub (q := 12) X0 hx (hb hby d21_11) ?_
  rw [show ((3 : Int32) - (1 : Int32)) = (2 : Int32) from by decide]
  refine E.iconst (q := 13) (v := (1 : Int32)) X0 hx (hb hby d21_12) rfl ?_
  refine E.iadd (q := 14) X0 hx (hb hby d21_13) ?_
  rw [show ((2 : Int32) + (1 : Int32)) = (3 : Int32) from by decide]
  refine Ends.cld X0 hx hZ e0 A_c (i := 3) rfl rfl (hb hby d21_14) ?_
  by_cases hq0 : c0 = c3
  · refine E.icmpN (q := 18) X0 hx (hb hby d21_15) (XT.ii_ne_f hq0) ?_
    refine E.iloadN (q := 19) X0 hx (hb hby d21_18) rfl ?_
    refine E.iconst (q := 20) (v := (2 : Int32)) X0 hx (hb hby d21_19) rfl ?_
    refine E.icmpY (q := 36) X0 hx (hb hby d21_20) (XT.ii_lt_t (by decide)) ?_
    refine E.iloadN (q := 37) X0 hx (hb hby d21_36) rfl ?_
    refine E.iconst (q := 38) (v := (3 : Int32)) X0 hx (hb hby d21_37) rfl ?_
    refine E.icmpY (q := 54) X0 hx (hb hby d21_38) (XT.ii_lt_t (by decide)) ?_
    refine E.iloadN (q := 55) X0 hx (hb hby d21_54) rfl ?_
    refine E.iconst (q := 56) (v := (4 : Int32)) X0 hx (hb hby d21_55) rfl ?_
    refine E.icmpY (q := 72) X0 hx (hb hby d21_56) (XT.ii_lt_t (by decide)) ?_
    refine E.iloadN (q := 73) X0 hx (hb hby d21_72) rfl ?_
    refine E.iconst (q := 74) (v := (5 : Int32)) X0 hx (hb hby d21_73) rfl ?_
    refine E.icmpY (q := 90) X0 hx (hb hby d21_74) (XT.ii_lt_t (by decide)) ?_
    refine E.iconst (q := 91) (v := (1 : Int32)) X0 hx (hb hby d21_90) rfl ?_
    refine E.goto (q := 95) X0 hx (hb hby d21_91) ?_
    exact Ends.retS X0 hx hlk hret (by simp) rfl (hb hby d21_95) (by decide) (by decide) ⟨by rw [if_pos ((own_bd3_1 c0 c1 c2 c3 c4 c5).mpr hq0)], e0, rfl⟩
  · refine E.icmpY (q := 94) X0 hx (hb hby d21_15) (XT.ii_ne_t hq0) ?_
    refine E.iconst (q := 95) (v := (0 : Int32)) X0 hx (hb hby d21_94) rfl ?_
    exact Ends.retS X0 hx hlk hret (by simp) rfl (hb hby d21_95) (by decide) (by decide) ⟨by rw [if_neg (fun q => hq0 ((own_bd3_1 c0 c1 c2 c3 c4 c5).mp q))], e0, rfl⟩
theorem own_bd3_2 (c0 c1 c2 c3 c4 c5 : Int32) : own_bord [c0, c1, c2, c3, c4, c5] 3 2 = true ↔ c0 = c2 ∧ c1 = c3 := by simp [own_bord, List.range, List.range.loop]
theorem efBd3_2 (m : MethodId) (x0 : Addr) (x1 : Int32) (x2 : Int32) : entryFrame m #[(.ref x0), (.int x1), (.int x2)] 3 = mkF m 0 #[.val (.ref x0), .val (.int x1), .val (.int x2)] [] := by first | (simp [entryFrame, mkF, argsToLocals, Value.category]; done) | rfl
set_option maxRecDepth 65536 in
set_option maxHeartbeats 40000000 in
theorem rmBd3_2 (l : Launch) (Z : State) (a0 : Array Value) (hw : ∀ d ∈ tables_1, d.before a0 Z = true) (oc : Addr) (c0 c1 c2 c3 c4 c5 : Int32) (h0 : Heap) (A_c : Ary Z h0 oc .char [(.int c0), (.int c1), (.int c2), (.int c3), (.int c4), (.int c5)]) :
    Con l (⟨"com/example/needlework/needlework/match/PrefixTableOfPinLaw", "isBorder", "([CII)Z"⟩ : MethodName) method_5_code 3 (some .boolean) [] ({ frames := 0, cells := 0, slots := 0, locals := 0 } : Room) #[(.ref oc), (.int (3 : Int32)), (.int (2 : Int32))] Z h0 (fun v h L => v = some (.int (if own_bord [c0, c1, c2, c3, c4, c5] 3 2 = true then (1 : Int32) else 0)) ∧ h = h0 ∧ L = []) := by
  refine Con.of (plainFor_of_name pn_6) ?_
  intro p e s m below meth c s₁ hx hZ hby hml hown hnm hret hlk X0 e0
  refine Ends.cast (efBd3_2 m oc (3 : Int32) (2 : Int32)) ?_
  show Ends none p e below s _ _ _ s₁ (mkF m 0 #[.val (.ref oc), .val (.int (3 : Int32)), .val (.int (2 : Int32))] [])
  refine E.iloadN (q := 1) X0 hx (hb hby d21_0) rfl ?_
  refine E.iconst (q := 2) (v := (1 : Int32)) X0 hx (hb hby d21_1) rfl ?_
  refine E.icmpN (q := 5) X0 hx (hb hby d21_2) (XT.ii_lt_f (by decide)) ?_
  refine E.aloadN (q := 6) X0 hx (hb hby d21_5) rfl rfl ?_
  refine E.iconst (q := 7) (v := (0 : Int32)) X0 hx (hb hby d21_6) rfl ?_
  refine Ends.cld X0 hx hZ e0 A_c (i := 0) rfl rfl (hb hby d21_7) ?_
  refine E.aloadN (q := 9) X0 hx (hb hby d21_8) rfl rfl ?_
  refine E.iloadN (q := 10) X0 hx (hb hby d21_9) rfl ?_
  refine E.iloadN (q := 11) X0 hx (hb hby d21_10) rfl ?_
  refine E.isub (q := 12) X0 hx (hb hby d21_11) ?_
  rw [show ((3 : Int32) - (2 : Int32)) = (1 : Int32) from by decide]
  refine E.iconst (q := 13) (v := (1 : Int32)) X0 hx (hb hby d21_12) rfl ?_
  refine E.iadd (q := 14) X0 hx (hb hby d21_13) ?_
  rw [show ((1 : Int32) + (1 : Int32)) = (2 : Int32) from by decide]
  refine Ends.cld X0 hx hZ e0 A_c (i := 2) rfl rfl (hb hby d21_14) ?_
  by_cases hq0 : c0 = c2
  · refine E.icmpN (q := 18) X0 hx (hb hby d21_15) (XT.ii_ne_f hq0) ?_
    refine E.iloadN (q := 19) X0 hx (hb hby d21_18) rfl ?_
    refine E.iconst (q := 20) (v := (2 : Int32)) X0 hx (hb hby d21_19) rfl ?_
    refine E.icmpN (q := 23) X0 hx (hb hby d21_20) (XT.ii_lt_f (by decide)) ?_
    refine E.aloadN (q := 24) X0 hx (hb hby d21_23) rfl rfl ?_
    refine E.iconst (q := 25) (v := (1 : Int32)) X0 hx (hb hby d21_24) rfl ?_
    refine Ends.cld X0 hx hZ e0 A_c (i := 1) rfl rfl (hb hby d21_25) ?_
    refine E.aloadN (q := 27) X0 hx (hb hby d21_26) rfl rfl ?_
    refine E.iloadN (q := 28) X0 hx (hb hby d21_27) rfl ?_
    refine E.iloadN (q := 29) X0 hx (hb hby d21_28) rfl ?_
    refine E.isub (q := 30) X0 hx (hb hby d21_29) ?_
    rw [show ((3 : Int32) - (2 : Int32)) = (1 : Int32) from by decide]
    refine E.iconst (q := 31) (v := (2 : Int32)) X0 hx (hb hby d21_30) rfl ?_
    refine E.iadd (q := 32) X0 hx (hb hby d21_31) ?_
    rw [show ((1 : Int32) + (2 : Int32)) = (3 : Int32) from by decide]
    refine Ends.cld X0 hx hZ e0 A_c (i := 3) rfl rfl (hb hby d21_32) ?_
    by_cases hq1 : c1 = c3
    · refine E.icmpN (q := 36) X0 hx (hb hby d21_33) (XT.ii_ne_f hq1) ?_
      refine E.iloadN (q := 37) X0 hx (hb hby d21_36) rfl ?_
      refine E.iconst (q := 38) (v := (3 : Int32)) X0 hx (hb hby d21_37) rfl ?_
      refine E.icmpY (q := 54) X0 hx (hb hby d21_38) (XT.ii_lt_t (by decide)) ?_
      refine E.iloadN (q := 55) X0 hx (hb hby d21_54) rfl ?_
      refine E.iconst (q := 56) (v := (4 : Int32)) X0 hx (hb hby d21_55) rfl ?_
      refine E.icmpY (q := 72) X0 hx (hb hby d21_56) (XT.ii_lt_t (by decide)) ?_
      refine E.iloadN (q := 73) X0 hx (hb hby d21_72) rfl ?_
      refine E.iconst (q := 74) (v := (5 : Int32)) X0 hx (hb hby d21_73) rfl ?_
      refine E.icmpY (q := 90) X0 hx (hb hby d21_74) (XT.ii_lt_t (by decide)) ?_
      refine E.iconst (q := 91) (v := (1 : Int32)) X0 hx (hb hby d21_90) rfl ?_
      refine E.goto (q := 95) X0 hx (hb hby d21_91) ?_
      exact Ends.retS X0 hx hlk hret (by simp) rfl (hb hby d21_95) (by decide) (by decide) ⟨by rw [if_pos ((own_bd3_2 c0 c1 c2 c3 c4 c5).mpr ⟨hq0, hq1⟩)], e0, rfl⟩
    · refine E.icmpY (q := 94) X0 hx (hb hby d21_33) (XT.ii_ne_t hq1) ?_
      refine E.iconst (q := 95) (v := (0 : Int32)) X0 hx (hb hby d21_94) rfl ?_
      exact Ends.retS X0 hx hlk hret (by simp) rfl (hb hby d21_95) (by decide) (by decide) ⟨by rw [if_neg (fun q => hq1 ((own_bd3_2 c0 c1 c2 c3 c4 c5).mp q).2)], e0, rfl⟩
  · refine E.icmpY (q := 94) X0 hx (hb hby d21_15) (XT.ii_ne_t hq0) ?_
    refine E.iconst (q := 95) (v := (0 : Int32)) X0 hx (hb hby d21_94) rfl ?_
    exact Ends.retS X0 hx hlk hret (by simp) rfl (hb hby d21_95) (by decide) (by decide) ⟨by rw [if_neg (fun q => hq0 ((own_bd3_2 c0 c1 c2 c3 c4 c5).mp q).1)], e0, rfl⟩
theorem own_bd3_3 (c0 c1 c2 c3 c4 c5 : Int32) : own_bord [c0, c1, c2, c3, c4, c5] 3 3 = true ↔ c0 = c1 ∧ c1 = c2 ∧ c2 = c3 := by simp [own_bord, List.range, List.range.loop]
theorem efBd3_3 (m : MethodId) (x0 : Addr) (x1 : Int32) (x2 : Int32) : entryFrame m #[(.ref x0), (.int x1), (.int x2)] 3 = mkF m 0 #[.val (.ref x0), .val (.int x1), .val (.int x2)] [] := by first | (simp [entryFrame, mkF, argsToLocals, Value.category]; done) | rfl
set_option maxRecDepth 65536 in
set_option maxHeartbeats 40000000 in
theorem rmBd3_3 (l : Launch) (Z : State) (a0 : Array Value) (hw : ∀ d ∈ tables_1, d.before a0 Z = true) (oc : Addr) (c0 c1 c2 c3 c4 c5 : Int32) (h0 : Heap) (A_c : Ary Z h0 oc .char [(.int c0), (.int c1), (.int c2), (.int c3), (.int c4), (.int c5)]) :
    Con l (⟨"com/example/needlework/needlework/match/PrefixTableOfPinLaw", "isBorder", "([CII)Z"⟩ : MethodName) method_5_code 3 (some .boolean) [] ({ frames := 0, cells := 0, slots := 0, locals := 0 } : Room) #[(.ref oc), (.int (3 : Int32)), (.int (3 : Int32))] Z h0 (fun v h L => v = some (.int (if own_bord [c0, c1, c2, c3, c4, c5] 3 3 = true then (1 : Int32) else 0)) ∧ h = h0 ∧ L = []) := by
  refine Con.of (plainFor_of_name pn_6) ?_
  intro p e s m below meth c s₁ hx hZ hby hml hown hnm hret hlk X0 e0
  refine Ends.cast (efBd3_3 m oc (3 : Int32) (3 : Int32)) ?_
  show Ends none p e below s _ _ _ s₁ (mkF m 0 #[.val (.ref oc), .val (.int (3 : Int32)), .val (.int (3 : Int32))] [])
  refine E.iloadN (q := 1) X0 hx (hb hby d21_0) rfl ?_
  refine E.iconst (q := 2) (v := (1 : Int32)) X0 hx (hb hby d21_1) rfl ?_
  refine E.icmpN (q := 5) X0 hx (hb hby d21_2) (XT.ii_lt_f (by decide)) ?_
  refine E.aloadN (q := 6) X0 hx (hb hby d21_5) rfl rfl ?_
  refine E.iconst (q := 7) (v := (0 : Int32)) X0 hx (hb hby d21_6) rfl ?_
  refine Ends.cld X0 hx hZ e0 A_c (i := 0) rfl rfl (hb hby d21_7) ?_
  refine E.aloadN (q := 9) X0 hx (hb hby d21_8) rfl rfl ?_
  refine E.iloadN (q := 10) X0 hx (hb hby d21_9) rfl ?_
  refine E.iloadN (q := 11) X0 hx (hb hby d21_10) rfl ?_
  refine E.isub (q := 12) X0 hx (hb hby d21_11) ?_
  rw [show ((3 : Int32) - (3 : Int32)) = (0 : Int32) from by decide]
  refine E.iconst (q := 13) (v := (1 : Int32)) X0 hx (hb hby d21_12) rfl ?_
  refine E.iadd (q := 14) X0 hx (hb hby d21_13) ?_
  rw [show ((0 : Int32) + (1 : Int32)) = (1 : Int32) from by decide]
  refine Ends.cld X0 hx hZ e0 A_c (i := 1) rfl rfl (hb hby d21_14) ?_
  by_cases hq0 : c0 = c1
  · refine E.icmpN (q := 18) X0 hx (hb hby d21_15) (XT.ii_ne_f hq0) ?_
    refine E.iloadN (q := 19) X0 hx (hb hby d21_18) rfl ?_
    refine E.iconst (q := 20) (v := (2 : Int32)) X0 hx (hb hby d21_19) rfl ?_
    refine E.icmpN (q := 23) X0 hx (hb hby d21_20) (XT.ii_lt_f (by decide)) ?_
    refine E.aloadN (q := 24) X0 hx (hb hby d21_23) rfl rfl ?_
    refine E.iconst (q := 25) (v := (1 : Int32)) X0 hx (hb hby d21_24) rfl ?_
    refine Ends.cld X0 hx hZ e0 A_c (i := 1) rfl rfl (hb hby d21_25) ?_
    refine E.aloadN (q := 27) X0 hx (hb hby d21_26) rfl rfl ?_
    refine E.iloadN (q := 28) X0 hx (hb hby d21_27) rfl ?_
    refine E.iloadN (q := 29) X0 hx (hb hby d21_28) rfl ?_
    refine E.isub (q := 30) X0 hx (hb hby d21_29) ?_
    rw [show ((3 : Int32) - (3 : Int32)) = (0 : Int32) from by decide]
    refine E.iconst (q := 31) (v := (2 : Int32)) X0 hx (hb hby d21_30) rfl ?_
    refine E.iadd (q := 32) X0 hx (hb hby d21_31) ?_
    rw [show ((0 : Int32) + (2 : Int32)) = (2 : Int32) from by decide]
    refine Ends.cld X0 hx hZ e0 A_c (i := 2) rfl rfl (hb hby d21_32) ?_
    by_cases hq1 : c1 = c2
    · refine E.icmpN (q := 36) X0 hx (hb hby d21_33) (XT.ii_ne_f hq1) ?_
      refine E.iloadN (q := 37) X0 hx (hb hby d21_36) rfl ?_
      refine E.iconst (q := 38) (v := (3 : Int32)) X0 hx (hb hby d21_37) rfl ?_
      refine E.icmpN (q := 41) X0 hx (hb hby d21_38) (XT.ii_lt_f (by decide)) ?_
      refine E.aloadN (q := 42) X0 hx (hb hby d21_41) rfl rfl ?_
      refine E.iconst (q := 43) (v := (2 : Int32)) X0 hx (hb hby d21_42) rfl ?_
      refine Ends.cld X0 hx hZ e0 A_c (i := 2) rfl rfl (hb hby d21_43) ?_
      refine E.aloadN (q := 45) X0 hx (hb hby d21_44) rfl rfl ?_
      refine E.iloadN (q := 46) X0 hx (hb hby d21_45) rfl ?_
      refine E.iloadN (q := 47) X0 hx (hb hby d21_46) rfl ?_
      refine E.isub (q := 48) X0 hx (hb hby d21_47) ?_
      rw [show ((3 : Int32) - (3 : Int32)) = (0 : Int32) from by decide]
      refine E.iconst (q := 49) (v := (3 : Int32)) X0 hx (hb hby d21_48) rfl ?_
      refine E.iadd (q := 50) X0 hx (hb hby d21_49) ?_
      rw [show ((0 : Int32) + (3 : Int32)) = (3 : Int32) from by decide]
      refine Ends.cld X0 hx hZ e0 A_c (i := 3) rfl rfl (hb hby d21_50) ?_
      by_cases hq2 : c2 = c3
      · refine E.icmpN (q := 54) X0 hx (hb hby d21_51) (XT.ii_ne_f hq2) ?_
        refine E.iloadN (q := 55) X0 hx (hb hby d21_54) rfl ?_
        refine E.iconst (q := 56) (v := (4 : Int32)) X0 hx (hb hby d21_55) rfl ?_
        refine E.icmpY (q := 72) X0 hx (hb hby d21_56) (XT.ii_lt_t (by decide)) ?_
        refine E.iloadN (q := 73) X0 hx (hb hby d21_72) rfl ?_
        refine E.iconst (q := 74) (v := (5 : Int32)) X0 hx (hb hby d21_73) rfl ?_
        refine E.icmpY (q := 90) X0 hx (hb hby d21_74) (XT.ii_lt_t (by decide)) ?_
        refine E.iconst (q := 91) (v := (1 : Int32)) X0 hx (hb hby d21_90) rfl ?_
        refine E.goto (q := 95) X0 hx (hb hby d21_91) ?_
        exact Ends.retS X0 hx hlk hret (by simp) rfl (hb hby d21_95) (by decide) (by decide) ⟨by rw [if_pos ((own_bd3_3 c0 c1 c2 c3 c4 c5).mpr ⟨hq0, hq1, hq2⟩)], e0, rfl⟩
      · refine E.icmpY (q := 94) X0 hx (hb hby d21_51) (XT.ii_ne_t hq2) ?_
        refine E.iconst (q := 95) (v := (0 : Int32)) X0 hx (hb hby d21_94) rfl ?_
        exact Ends.retS X0 hx hlk hret (by simp) rfl (hb hby d21_95) (by decide) (by decide) ⟨by rw [if_neg (fun q => hq2 ((own_bd3_3 c0 c1 c2 c3 c4 c5).mp q).2.2)], e0, rfl⟩
    · refine E.icmpY (q := 94) X0 hx (hb hby d21_33) (XT.ii_ne_t hq1) ?_
      refine E.iconst (q := 95) (v := (0 : Int32)) X0 hx (hb hby d21_94) rfl ?_
      exact Ends.retS X0 hx hlk hret (by simp) rfl (hb hby d21_95) (by decide) (by decide) ⟨by rw [if_neg (fun q => hq1 ((own_bd3_3 c0 c1 c2 c3 c4 c5).mp q).2.1)], e0, rfl⟩
  · refine E.icmpY (q := 94) X0 hx (hb hby d21_15) (XT.ii_ne_t hq0) ?_
    refine E.iconst (q := 95) (v := (0 : Int32)) X0 hx (hb hby d21_94) rfl ?_
    exact Ends.retS X0 hx hlk hret (by simp) rfl (hb hby d21_95) (by decide) (by decide) ⟨by rw [if_neg (fun q => hq0 ((own_bd3_3 c0 c1 c2 c3 c4 c5).mp q).1)], e0, rfl⟩
theorem own_bd4_1 (c0 c1 c2 c3 c4 c5 : Int32) : own_bord [c0, c1, c2, c3, c4, c5] 4 1 = true ↔ c0 = c4 := by simp [own_bord, List.range, List.range.loop]
theorem efBd4_1 (m : MethodId) (x0 : Addr) (x1 : Int32) (x2 : Int32) : entryFrame m #[(.ref x0), (.int x1), (.int x2)] 3 = mkF m 0 #[.val (.ref x0), .val (.int x1), .val (.int x2)] [] := by first | (simp [entryFrame, mkF, argsToLocals, Value.category]; done) | rfl
set_option maxRecDepth 65536 in
set_option maxHeartbeats 40000000 in
theorem rmBd4_1 (l : Launch) (Z : State) (a0 : Array Value) (hw : ∀ d ∈ tables_1, d.before a0 Z = true) (oc : Addr) (c0 c1 c2 c3 c4 c5 : Int32) (h0 : Heap) (A_c : Ary Z h0 oc .char [(.int c0), (.int c1), (.int c2), (.int c3), (.int c4), (.int c5)]) :
    Con l (⟨"com/example/needlework/needlework/match/PrefixTableOfPinLaw", "isBorder", "([CII)Z"⟩ : MethodName) method_5_code 3 (some .boolean) [] ({ frames := 0, cells := 0, slots := 0, locals := 0 } : Room) #[(.ref oc), (.int (4 : Int32)), (.int (1 : Int32))] Z h0 (fun v h L => v = some (.int (if own_bord [c0, c1, c2, c3, c4, c5] 4 1 = true then (1 : Int32) else 0)) ∧ h = h0 ∧ L = []) := by
  refine Con.of (plainFor_of_name pn_6) ?_
  intro p e s m below meth c s₁ hx hZ hby hml hown hnm hret hlk X0 e0
  refine Ends.cast (efBd4_1 m oc (4 : Int32) (1 : Int32)) ?_
  show Ends none p e below s _ _ _ s₁ (mkF m 0 #[.val (.ref oc), .val (.int (4 : Int32)), .val (.int (1 : Int32))] [])
  refine E.iloadN (q := 1) X0 hx (hb hby d21_0) rfl ?_
  refine E.iconst (q := 2) (v := (1 : Int32)) X0 hx (hb hby d21_1) rfl ?_
  refine E.icmpN (q := 5) X0 hx (hb hby d21_2) (XT.ii_lt_f (by decide)) ?_
  refine E.aloadN (q := 6) X0 hx (hb hby d21_5) rfl rfl ?_
  refine E.iconst (q := 7) (v := (0 : Int32)) X0 hx (hb hby d21_6) rfl ?_
  refine Ends.cld X0 hx hZ e0 A_c (i := 0) rfl rfl (hb hby d21_7) ?_
  refine E.aloadN (q := 9) X0 hx (hb hby d21_8) rfl rfl ?_
  refine E.iloadN (q := 10) X0 hx (hb hby d21_9) rfl ?_
  refine E.iloadN (q := 11) X0 hx (hb hby d21_10) rfl ?_
  refine E.isub (q := 12) X0 hx (hb hby d21_11) ?_
  rw [show ((4 : Int32) - (1 : Int32)) = (3 : Int32) from by decide]
  refine E.iconst (q := 13) (v := (1 : Int32)) X0 hx (hb hby d21_12) rfl ?_
  refine E.iadd (q := 14) X0 hx (hb hby d21_13) ?_
  rw [show ((3 : Int32) + (1 : Int32)) = (4 : Int32) from by decide]
  refine Ends.cld X0 hx hZ e0 A_c (i := 4) rfl rfl (hb hby d21_14) ?_
  by_cases hq0 : c0 = c4
  · refine E.icmpN (q := 18) X0 hx (hb hby d21_15) (XT.ii_ne_f hq0) ?_
    refine E.iloadN (q := 19) X0 hx (hb hby d21_18) rfl ?_
    refine E.iconst (q := 20) (v := (2 : Int32)) X0 hx (hb hby d21_19) rfl ?_
    refine E.icmpY (q := 36) X0 hx (hb hby d21_20) (XT.ii_lt_t (by decide)) ?_
    refine E.iloadN (q := 37) X0 hx (hb hby d21_36) rfl ?_
    refine E.iconst (q := 38) (v := (3 : Int32)) X0 hx (hb hby d21_37) rfl ?_
    refine E.icmpY (q := 54) X0 hx (hb hby d21_38) (XT.ii_lt_t (by decide)) ?_
    refine E.iloadN (q := 55) X0 hx (hb hby d21_54) rfl ?_
    refine E.iconst (q := 56) (v := (4 : Int32)) X0 hx (hb hby d21_55) rfl ?_
    refine E.icmpY (q := 72) X0 hx (hb hby d21_56) (XT.ii_lt_t (by decide)) ?_
    refine E.iloadN (q := 73) X0 hx (hb hby d21_72) rfl ?_
    refine E.iconst (q := 74) (v := (5 : Int32)) X0 hx (hb hby d21_73) rfl ?_
    refine E.icmpY (q := 90) X0 hx (hb hby d21_74) (XT.ii_lt_t (by decide)) ?_
    refine E.iconst (q := 91) (v := (1 : Int32)) X0 hx (hb hby d21_90) rfl ?_
    refine E.goto (q := 95) X0 hx (hb hby d21_91) ?_
    exact Ends.retS X0 hx hlk hret (by simp) rfl (hb hby d21_95) (by decide) (by decide) ⟨by rw [if_pos ((own_bd4_1 c0 c1 c2 c3 c4 c5).mpr hq0)], e0, rfl⟩
  · refine E.icmpY (q := 94) X0 hx (hb hby d21_15) (XT.ii_ne_t hq0) ?_
    refine E.iconst (q := 95) (v := (0 : Int32)) X0 hx (hb hby d21_94) rfl ?_
    exact Ends.retS X0 hx hlk hret (by simp) rfl (hb hby d21_95) (by decide) (by decide) ⟨by rw [if_neg (fun q => hq0 ((own_bd4_1 c0 c1 c2 c3 c4 c5).mp q))], e0, rfl⟩
theorem own_bd4_2 (c0 c1 c2 c3 c4 c5 : Int32) : own_bord [c0, c1, c2, c3, c4, c5] 4 2 = true ↔ c0 = c3 ∧ c1 = c4 := by simp [own_bord, List.range, List.range.loop]
theorem efBd4_2 (m : MethodId) (x0 : Addr) (x1 : Int32) (x2 : Int32) : entryFrame m #[(.ref x0), (.int x1), (.int x2)] 3 = mkF m 0 #[.val (.ref x0), .val (.int x1), .val (.int x2)] [] := by first | (simp [entryFrame, mkF, argsToLocals, Value.category]; done) | rfl
set_option maxRecDepth 65536 in
set_option maxHeartbeats 40000000 in
theorem rmBd4_2 (l : Launch) (Z : State) (a0 : Array Value) (hw : ∀ d ∈ tables_1, d.before a0 Z = true) (oc : Addr) (c0 c1 c2 c3 c4 c5 : Int32) (h0 : Heap) (A_c : Ary Z h0 oc .char [(.int c0), (.int c1), (.int c2), (.int c3), (.int c4), (.int c5)]) :
    Con l (⟨"com/example/needlework/needlework/match/PrefixTableOfPinLaw", "isBorder", "([CII)Z"⟩ : MethodName) method_5_code 3 (some .boolean) [] ({ frames := 0, cells := 0, slots := 0, locals := 0 } : Room) #[(.ref oc), (.int (4 : Int32)), (.int (2 : Int32))] Z h0 (fun v h L => v = some (.int (if own_bord [c0, c1, c2, c3, c4, c5] 4 2 = true then (1 : Int32) else 0)) ∧ h = h0 ∧ L = []) := by
  refine Con.of (plainFor_of_name pn_6) ?_
  intro p e s m below meth c s₁ hx hZ hby hml hown hnm hret hlk X0 e0
  refine Ends.cast (efBd4_2 m oc (4 : Int32) (2 : Int32)) ?_
  show Ends none p e below s _ _ _ s₁ (mkF m 0 #[.val (.ref oc), .val (.int (4 : Int32)), .val (.int (2 : Int32))] [])
  refine E.iloadN (q := 1) X0 hx (hb hby d21_0) rfl ?_
  refine E.iconst (q := 2) (v := (1 : Int32)) X0 hx (hb hby d21_1) rfl ?_
  refine E.icmpN (q := 5) X0 hx (hb hby d21_2) (XT.ii_lt_f (by decide)) ?_
  refine E.aloadN (q := 6) X0 hx (hb hby d21_5) rfl rfl ?_
  refine E.iconst (q := 7) (v := (0 : Int32)) X0 hx (hb hby d21_6) rfl ?_
  refine Ends.cld X0 hx hZ e0 A_c (i := 0) rfl rfl (hb hby d21_7) ?_
  refine E.aloadN (q := 9) X0 hx (hb hby d21_8) rfl rfl ?_
  refine E.iloadN (q := 10) X0 hx (hb hby d21_9) rfl ?_
  refine E.iloadN (q := 11) X0 hx (hb hby d21_10) rfl ?_
  refine E.isub (q := 12) X0 hx (hb hby d21_11) ?_
  rw [show ((4 : Int32) - (2 : Int32)) = (2 : Int32) from by decide]
  refine E.iconst (q := 13) (v := (1 : Int32)) X0 hx (hb hby d21_12) rfl ?_
  refine E.iadd (q := 14) X0 hx (hb hby d21_13) ?_
  rw [show ((2 : Int32) + (1 : Int32)) = (3 : Int32) from by decide]
  refine Ends.cld X0 hx hZ e0 A_c (i := 3) rfl rfl (hb hby d21_14) ?_
  by_cases hq0 : c0 = c3
  · refine E.icmpN (q := 18) X0 hx (hb hby d21_15) (XT.ii_ne_f hq0) ?_
    refine E.iloadN (q := 19) X0 hx (hb hby d21_18) rfl ?_
    refine E.iconst (q := 20) (v := (2 : Int32)) X0 hx (hb hby d21_19) rfl ?_
    refine E.icmpN (q := 23) X0 hx (hb hby d21_20) (XT.ii_lt_f (by decide)) ?_
    refine E.aloadN (q := 24) X0 hx (hb hby d21_23) rfl rfl ?_
    refine E.iconst (q := 25) (v := (1 : Int32)) X0 hx (hb hby d21_24) rfl ?_
    refine Ends.cld X0 hx hZ e0 A_c (i := 1) rfl rfl (hb hby d21_25) ?_
    refine E.aloadN (q := 27) X0 hx (hb hby d21_26) rfl rfl ?_
    refine E.iloadN (q := 28) X0 hx (hb hby d21_27) rfl ?_
    refine E.iloadN (q := 29) X0 hx (hb hby d21_28) rfl ?_
    refine E.isub (q := 30) X0 hx (hb hby d21_29) ?_
    rw [show ((4 : Int32) - (2 : Int32)) = (2 : Int32) from by decide]
    refine E.iconst (q := 31) (v := (2 : Int32)) X0 hx (hb hby d21_30) rfl ?_
    refine E.iadd (q := 32) X0 hx (hb hby d21_31) ?_
    rw [show ((2 : Int32) + (2 : Int32)) = (4 : Int32) from by decide]
    refine Ends.cld X0 hx hZ e0 A_c (i := 4) rfl rfl (hb hby d21_32) ?_
    by_cases hq1 : c1 = c4
    · refine E.icmpN (q := 36) X0 hx (hb hby d21_33) (XT.ii_ne_f hq1) ?_
      refine E.iloadN (q := 37) X0 hx (hb hby d21_36) rfl ?_
      refine E.iconst (q := 38) (v := (3 : Int32)) X0 hx (hb hby d21_37) rfl ?_
      refine E.icmpY (q := 54) X0 hx (hb hby d21_38) (XT.ii_lt_t (by decide)) ?_
      refine E.iloadN (q := 55) X0 hx (hb hby d21_54) rfl ?_
      refine E.iconst (q := 56) (v := (4 : Int32)) X0 hx (hb hby d21_55) rfl ?_
      refine E.icmpY (q := 72) X0 hx (hb hby d21_56) (XT.ii_lt_t (by decide)) ?_
      refine E.iloadN (q := 73) X0 hx (hb hby d21_72) rfl ?_
      refine E.iconst (q := 74) (v := (5 : Int32)) X0 hx (hb hby d21_73) rfl ?_
      refine E.icmpY (q := 90) X0 hx (hb hby d21_74) (XT.ii_lt_t (by decide)) ?_
      refine E.iconst (q := 91) (v := (1 : Int32)) X0 hx (hb hby d21_90) rfl ?_
      refine E.goto (q := 95) X0 hx (hb hby d21_91) ?_
      exact Ends.retS X0 hx hlk hret (by simp) rfl (hb hby d21_95) (by decide) (by decide) ⟨by rw [if_pos ((own_bd4_2 c0 c1 c2 c3 c4 c5).mpr ⟨hq0, hq1⟩)], e0, rfl⟩
    · refine E.icmpY (q := 94) X0 hx (hb hby d21_33) (XT.ii_ne_t hq1) ?_
      refine E.iconst (q := 95) (v := (0 : Int32)) X0 hx (hb hby d21_94) rfl ?_
      exact Ends.retS X0 hx hlk hret (by simp) rfl (hb hby d21_95) (by decide) (by decide) ⟨by rw [if_neg (fun q => hq1 ((own_bd4_2 c0 c1 c2 c3 c4 c5).mp q).2)], e0, rfl⟩
  · refine E.icmpY (q := 94) X0 hx (hb hby d21_15) (XT.ii_ne_t hq0) ?_
    refine E.iconst (q := 95) (v := (0 : Int32)) X0 hx (hb hby d21_94) rfl ?_
    exact Ends.retS X0 hx hlk hret (by simp) rfl (hb hby d21_95) (by decide) (by decide) ⟨by rw [if_neg (fun q => hq0 ((own_bd4_2 c0 c1 c2 c3 c4 c5).mp q).1)], e0, rfl⟩
theorem own_bd4_3 (c0 c1 c2 c3 c4 c5 : Int32) : own_bord [c0, c1, c2, c3, c4, c5] 4 3 = true ↔ c0 = c2 ∧ c1 = c3 ∧ c2 = c4 := by simp [own_bord, List.range, List.range.loop]
theorem efBd4_3 (m : MethodId) (x0 : Addr) (x1 : Int32) (x2 : Int32) : entryFrame m #[(.ref x0), (.int x1), (.int x2)] 3 = mkF m 0 #[.val (.ref x0), .val (.int x1), .val (.int x2)] [] := by first | (simp [entryFrame, mkF, argsToLocals, Value.category]; done) | rfl
set_option maxRecDepth 65536 in
set_option maxHeartbeats 40000000 in
theorem rmBd4_3 (l : Launch) (Z : State) (a0 : Array Value) (hw : ∀ d ∈ tables_1, d.before a0 Z = true) (oc : Addr) (c0 c1 c2 c3 c4 c5 : Int32) (h0 : Heap) (A_c : Ary Z h0 oc .char [(.int c0), (.int c1), (.int c2), (.int c3), (.int c4), (.int c5)]) :
    Con l (⟨"com/example/needlework/needlework/match/PrefixTableOfPinLaw", "isBorder", "([CII)Z"⟩ : MethodName) method_5_code 3 (some .boolean) [] ({ frames := 0, cells := 0, slots := 0, locals := 0 } : Room) #[(.ref oc), (.int (4 : Int32)), (.int (3 : Int32))] Z h0 (fun v h L => v = some (.int (if own_bord [c0, c1, c2, c3, c4, c5] 4 3 = true then (1 : Int32) else 0)) ∧ h = h0 ∧ L = []) := by
  refine Con.of (plainFor_of_name pn_6) ?_
  intro p e s m below meth c s₁ hx hZ hby hml hown hnm hret hlk X0 e0
  refine Ends.cast (efBd4_3 m oc (4 : Int32) (3 : Int32)) ?_
  show Ends none p e below s _ _ _ s₁ (mkF m 0 #[.val (.ref oc), .val (.int (4 : Int32)), .val (.int (3 : Int32))] [])
  refine E.iloadN (q := 1) X0 hx (hb hby d21_0) rfl ?_
  refine E.iconst (q := 2) (v := (1 : Int32)) X0 hx (hb hby d21_1) rfl ?_
  refine E.icmpN (q := 5) X0 hx (hb hby d21_2) (XT.ii_lt_f (by decide)) ?_
  refine E.aloadN (q := 6) X0 hx (hb hby d21_5) rfl rfl ?_
  refine E.iconst (q := 7) (v := (0 : Int32)) X0 hx (hb hby d21_6) rfl ?_
  refine Ends.cld X0 hx hZ e0 A_c (i := 0) rfl rfl (hb hby d21_7) ?_
  refine E.aloadN (q := 9) X0 hx (hb hby d21_8) rfl rfl ?_
  refine E.iloadN (q := 10) X0 hx (hb hby d21_9) rfl ?_
  refine E.iloadN (q := 11) X0 hx (hb hby d21_10) rfl ?_
  refine E.isub (q := 12) X0 hx (hb hby d21_11) ?_
  rw [show ((4 : Int32) - (3 : Int32)) = (1 : Int32) from by decide]
  refine E.iconst (q := 13) (v := (1 : Int32)) X0 hx (hb hby d21_12) rfl ?_
  refine E.iadd (q := 14) X0 hx (hb hby d21_13) ?_
  rw [show ((1 : Int32) + (1 : Int32)) = (2 : Int32) from by decide]
  refine Ends.cld X0 hx hZ e0 A_c (i := 2) rfl rfl (hb hby d21_14) ?_
  by_cases hq0 : c0 = c2
  · refine E.icmpN (q := 18) X0 hx (hb hby d21_15) (XT.ii_ne_f hq0) ?_
    refine E.iloadN (q := 19) X0 hx (hb hby d21_18) rfl ?_
    refine E.iconst (q := 20) (v := (2 : Int32)) X0 hx (hb hby d21_19) rfl ?_
    refine E.icmpN (q := 23) X0 hx (hb hby d21_20) (XT.ii_lt_f (by decide)) ?_
    refine E.aloadN (q := 24) X0 hx (hb hby d21_23) rfl rfl ?_
    refine E.iconst (q := 25) (v := (1 : Int32)) X0 hx (hb hby d21_24) rfl ?_
    refine Ends.cld X0 hx hZ e0 A_c (i := 1) rfl rfl (hb hby d21_25) ?_
    refine E.aloadN (q := 27) X0 hx (hb hby d21_26) rfl rfl ?_
    refine E.iloadN (q := 28) X0 hx (hb hby d21_27) rfl ?_
    refine E.iloadN (q := 29) X0 hx (hb hby d21_28) rfl ?_
    refine E.isub (q := 30) X0 hx (hb hby d21_29) ?_
    rw [show ((4 : Int32) - (3 : Int32)) = (1 : Int32) from by decide]
    refine E.iconst (q := 31) (v := (2 : Int32)) X0 hx (hb hby d21_30) rfl ?_
    refine E.iadd (q := 32) X0 hx (hb hby d21_31) ?_
    rw [show ((1 : Int32) + (2 : Int32)) = (3 : Int32) from by decide]
    refine Ends.cld X0 hx hZ e0 A_c (i := 3) rfl rfl (hb hby d21_32) ?_
    by_cases hq1 : c1 = c3
    · refine E.icmpN (q := 36) X0 hx (hb hby d21_33) (XT.ii_ne_f hq1) ?_
      refine E.iloadN (q := 37) X0 hx (hb hby d21_36) rfl ?_
      refine E.iconst (q := 38) (v := (3 : Int32)) X0 hx (hb hby d21_37) rfl ?_
      refine E.icmpN (q := 41) X0 hx (hb hby d21_38) (XT.ii_lt_f (by decide)) ?_
      refine E.aloadN (q := 42) X0 hx (hb hby d21_41) rfl rfl ?_
      refine E.iconst (q := 43) (v := (2 : Int32)) X0 hx (hb hby d21_42) rfl ?_
      refine Ends.cld X0 hx hZ e0 A_c (i := 2) rfl rfl (hb hby d21_43) ?_
      refine E.aloadN (q := 45) X0 hx (hb hby d21_44) rfl rfl ?_
      refine E.iloadN (q := 46) X0 hx (hb hby d21_45) rfl ?_
      refine E.iloadN (q := 47) X0 hx (hb hby d21_46) rfl ?_
      refine E.isub (q := 48) X0 hx (hb hby d21_47) ?_
      rw [show ((4 : Int32) - (3 : Int32)) = (1 : Int32) from by decide]
      refine E.iconst (q := 49) (v := (3 : Int32)) X0 hx (hb hby d21_48) rfl ?_
      refine E.iadd (q := 50) X0 hx (hb hby d21_49) ?_
      rw [show ((1 : Int32) + (3 : Int32)) = (4 : Int32) from by decide]
      refine Ends.cld X0 hx hZ e0 A_c (i := 4) rfl rfl (hb hby d21_50) ?_
      by_cases hq2 : c2 = c4
      · refine E.icmpN (q := 54) X0 hx (hb hby d21_51) (XT.ii_ne_f hq2) ?_
        refine E.iloadN (q := 55) X0 hx (hb hby d21_54) rfl ?_
        refine E.iconst (q := 56) (v := (4 : Int32)) X0 hx (hb hby d21_55) rfl ?_
        refine E.icmpY (q := 72) X0 hx (hb hby d21_56) (XT.ii_lt_t (by decide)) ?_
        refine E.iloadN (q := 73) X0 hx (hb hby d21_72) rfl ?_
        refine E.iconst (q := 74) (v := (5 : Int32)) X0 hx (hb hby d21_73) rfl ?_
        refine E.icmpY (q := 90) X0 hx (hb hby d21_74) (XT.ii_lt_t (by decide)) ?_
        refine E.iconst (q := 91) (v := (1 : Int32)) X0 hx (hb hby d21_90) rfl ?_
        refine E.goto (q := 95) X0 hx (hb hby d21_91) ?_
        exact Ends.retS X0 hx hlk hret (by simp) rfl (hb hby d21_95) (by decide) (by decide) ⟨by rw [if_pos ((own_bd4_3 c0 c1 c2 c3 c4 c5).mpr ⟨hq0, hq1, hq2⟩)], e0, rfl⟩
      · refine E.icmpY (q := 94) X0 hx (hb hby d21_51) (XT.ii_ne_t hq2) ?_
        refine E.iconst (q := 95) (v := (0 : Int32)) X0 hx (hb hby d21_94) rfl ?_
        exact Ends.retS X0 hx hlk hret (by simp) rfl (hb hby d21_95) (by decide) (by decide) ⟨by rw [if_neg (fun q => hq2 ((own_bd4_3 c0 c1 c2 c3 c4 c5).mp q).2.2)], e0, rfl⟩
    · refine E.icmpY (q := 94) X0 hx (hb hby d21_33) (XT.ii_ne_t hq1) ?_
      refine E.iconst (q := 95) (v := (0 : Int32)) X0 hx (hb hby d21_94) rfl ?_
      exact Ends.retS X0 hx hlk hret (by simp) rfl (hb hby d21_95) (by decide) (by decide) ⟨by rw [if_neg (fun q => hq1 ((own_bd4_3 c0 c1 c2 c3 c4 c5).mp q).2.1)], e0, rfl⟩
  · refine E.icmpY (q := 94) X0 hx (hb hby d21_15) (XT.ii_ne_t hq0) ?_
    refine E.iconst (q := 95) (v := (0 : Int32)) X0 hx (hb hby d21_94) rfl ?_
    exact Ends.retS X0 hx hlk hret (by simp) rfl (hb hby d21_95) (by decide) (by decide) ⟨by rw [if_neg (fun q => hq0 ((own_bd4_3 c0 c1 c2 c3 c4 c5).mp q).1)], e0, rfl⟩
theorem own_bd4_4 (c0 c1 c2 c3 c4 c5 : Int32) : own_bord [c0, c1, c2, c3, c4, c5] 4 4 = true ↔ c0 = c1 ∧ c1 = c2 ∧ c2 = c3 ∧ c3 = c4 := by simp [own_bord, List.range, List.range.loop]
theorem efBd4_4 (m : MethodId) (x0 : Addr) (x1 : Int32) (x2 : Int32) : entryFrame m #[(.ref x0), (.int x1), (.int x2)] 3 = mkF m 0 #[.val (.ref x0), .val (.int x1), .val (.int x2)] [] := by first | (simp [entryFrame, mkF, argsToLocals, Value.category]; done) | rfl
set_option maxRecDepth 65536 in
set_option maxHeartbeats 40000000 in
theorem rmBd4_4 (l : Launch) (Z : State) (a0 : Array Value) (hw : ∀ d ∈ tables_1, d.before a0 Z = true) (oc : Addr) (c0 c1 c2 c3 c4 c5 : Int32) (h0 : Heap) (A_c : Ary Z h0 oc .char [(.int c0), (.int c1), (.int c2), (.int c3), (.int c4), (.int c5)]) :
    Con l (⟨"com/example/needlework/needlework/match/PrefixTableOfPinLaw", "isBorder", "([CII)Z"⟩ : MethodName) method_5_code 3 (some .boolean) [] ({ frames := 0, cells := 0, slots := 0, locals := 0 } : Room) #[(.ref oc), (.int (4 : Int32)), (.int (4 : Int32))] Z h0 (fun v h L => v = some (.int (if own_bord [c0, c1, c2, c3, c4, c5] 4 4 = true then (1 : Int32) else 0)) ∧ h = h0 ∧ L = []) := by
  refine Con.of (plainFor_of_name pn_6) ?_
  intro p e s m below meth c s₁ hx hZ hby hml hown hnm hret hlk X0 e0
  refine Ends.cast (efBd4_4 m oc (4 : Int32) (4 : Int32)) ?_
  show Ends none p e below s _ _ _ s₁ (mkF m 0 #[.val (.ref oc), .val (.int (4 : Int32)), .val (.int (4 : Int32))] [])
  refine E.iloadN (q := 1) X0 hx (hb hby d21_0) rfl ?_
  refine E.iconst (q := 2) (v := (1 : Int32)) X0 hx (hb hby d21_1) rfl ?_
  refine E.icmpN (q := 5) X0 hx (hb hby d21_2) (XT.ii_lt_f (by decide)) ?_
  refine E.aloadN (q := 6) X0 hx (hb hby d21_5) rfl rfl ?_
  refine E.iconst (q := 7) (v := (0 : Int32)) X0 hx (hb hby d21_6) rfl ?_
  refine Ends.cld X0 hx hZ e0 A_c (i := 0) rfl rfl (hb hby d21_7) ?_
  refine E.aloadN (q := 9) X0 hx (hb hby d21_8) rfl rfl ?_
  refine E.iloadN (q := 10) X0 hx (hb hby d21_9) rfl ?_
  refine E.iloadN (q := 11) X0 hx (hb hby d21_10) rfl ?_
  refine E.isub (q := 12) X0 hx (hb hby d21_11) ?_
  rw [show ((4 : Int32) - (4 : Int32)) = (0 : Int32) from by decide]
  refine E.iconst (q := 13) (v := (1 : Int32)) X0 hx (hb hby d21_12) rfl ?_
  refine E.iadd (q := 14) X0 hx (hb hby d21_13) ?_
  rw [show ((0 : Int32) + (1 : Int32)) = (1 : Int32) from by decide]
  refine Ends.cld X0 hx hZ e0 A_c (i := 1) rfl rfl (hb hby d21_14) ?_
  by_cases hq0 : c0 = c1
  · refine E.icmpN (q := 18) X0 hx (hb hby d21_15) (XT.ii_ne_f hq0) ?_
    refine E.iloadN (q := 19) X0 hx (hb hby d21_18) rfl ?_
    refine E.iconst (q := 20) (v := (2 : Int32)) X0 hx (hb hby d21_19) rfl ?_
    refine E.icmpN (q := 23) X0 hx (hb hby d21_20) (XT.ii_lt_f (by decide)) ?_
    refine E.aloadN (q := 24) X0 hx (hb hby d21_23) rfl rfl ?_
    refine E.iconst (q := 25) (v := (1 : Int32)) X0 hx (hb hby d21_24) rfl ?_
    refine Ends.cld X0 hx hZ e0 A_c (i := 1) rfl rfl (hb hby d21_25) ?_
    refine E.aloadN (q := 27) X0 hx (hb hby d21_26) rfl rfl ?_
    refine E.iloadN (q := 28) X0 hx (hb hby d21_27) rfl ?_
    refine E.iloadN (q := 29) X0 hx (hb hby d21_28) rfl ?_
    refine E.isub (q := 30) X0 hx (hb hby d21_29) ?_
    rw [show ((4 : Int32) - (4 : Int32)) = (0 : Int32) from by decide]
    refine E.iconst (q := 31) (v := (2 : Int32)) X0 hx (hb hby d21_30) rfl ?_
    refine E.iadd (q := 32) X0 hx (hb hby d21_31) ?_
    rw [show ((0 : Int32) + (2 : Int32)) = (2 : Int32) from by decide]
    refine Ends.cld X0 hx hZ e0 A_c (i := 2) rfl rfl (hb hby d21_32) ?_
    by_cases hq1 : c1 = c2
    · refine E.icmpN (q := 36) X0 hx (hb hby d21_33) (XT.ii_ne_f hq1) ?_
      refine E.iloadN (q := 37) X0 hx (hb hby d21_36) rfl ?_
      refine E.iconst (q := 38) (v := (3 : Int32)) X0 hx (hb hby d21_37) rfl ?_
      refine E.icmpN (q := 41) X0 hx (hb hby d21_38) (XT.ii_lt_f (by decide)) ?_
      refine E.aloadN (q := 42) X0 hx (hb hby d21_41) rfl rfl ?_
      refine E.iconst (q := 43) (v := (2 : Int32)) X0 hx (hb hby d21_42) rfl ?_
      refine Ends.cld X0 hx hZ e0 A_c (i := 2) rfl rfl (hb hby d21_43) ?_
      refine E.aloadN (q := 45) X0 hx (hb hby d21_44) rfl rfl ?_
      refine E.iloadN (q := 46) X0 hx (hb hby d21_45) rfl ?_
      refine E.iloadN (q := 47) X0 hx (hb hby d21_46) rfl ?_
      refine E.isub (q := 48) X0 hx (hb hby d21_47) ?_
      rw [show ((4 : Int32) - (4 : Int32)) = (0 : Int32) from by decide]
      refine E.iconst (q := 49) (v := (3 : Int32)) X0 hx (hb hby d21_48) rfl ?_
      refine E.iadd (q := 50) X0 hx (hb hby d21_49) ?_
      rw [show ((0 : Int32) + (3 : Int32)) = (3 : Int32) from by decide]
      refine Ends.cld X0 hx hZ e0 A_c (i := 3) rfl rfl (hb hby d21_50) ?_
      by_cases hq2 : c2 = c3
      · refine E.icmpN (q := 54) X0 hx (hb hby d21_51) (XT.ii_ne_f hq2) ?_
        refine E.iloadN (q := 55) X0 hx (hb hby d21_54) rfl ?_
        refine E.iconst (q := 56) (v := (4 : Int32)) X0 hx (hb hby d21_55) rfl ?_
        refine E.icmpN (q := 59) X0 hx (hb hby d21_56) (XT.ii_lt_f (by decide)) ?_
        refine E.aloadN (q := 60) X0 hx (hb hby d21_59) rfl rfl ?_
        refine E.iconst (q := 61) (v := (3 : Int32)) X0 hx (hb hby d21_60) rfl ?_
        refine Ends.cld X0 hx hZ e0 A_c (i := 3) rfl rfl (hb hby d21_61) ?_
        refine E.aloadN (q := 63) X0 hx (hb hby d21_62) rfl rfl ?_
        refine E.iloadN (q := 64) X0 hx (hb hby d21_63) rfl ?_
        refine E.iloadN (q := 65) X0 hx (hb hby d21_64) rfl ?_
        refine E.isub (q := 66) X0 hx (hb hby d21_65) ?_
        rw [show ((4 : Int32) - (4 : Int32)) = (0 : Int32) from by decide]
        refine E.iconst (q := 67) (v := (4 : Int32)) X0 hx (hb hby d21_66) rfl ?_
        refine E.iadd (q := 68) X0 hx (hb hby d21_67) ?_
        rw [show ((0 : Int32) + (4 : Int32)) = (4 : Int32) from by decide]
        refine Ends.cld X0 hx hZ e0 A_c (i := 4) rfl rfl (hb hby d21_68) ?_
        by_cases hq3 : c3 = c4
        · refine E.icmpN (q := 72) X0 hx (hb hby d21_69) (XT.ii_ne_f hq3) ?_
          refine E.iloadN (q := 73) X0 hx (hb hby d21_72) rfl ?_
          refine E.iconst (q := 74) (v := (5 : Int32)) X0 hx (hb hby d21_73) rfl ?_
          refine E.icmpY (q := 90) X0 hx (hb hby d21_74) (XT.ii_lt_t (by decide)) ?_
          refine E.iconst (q := 91) (v := (1 : Int32)) X0 hx (hb hby d21_90) rfl ?_
          refine E.goto (q := 95) X0 hx (hb hby d21_91) ?_
          exact Ends.retS X0 hx hlk hret (by simp) rfl (hb hby d21_95) (by decide) (by decide) ⟨by rw [if_pos ((own_bd4_4 c0 c1 c2 c3 c4 c5).mpr ⟨hq0, hq1, hq2, hq3⟩)], e0, rfl⟩
        · refine E.icmpY (q := 94) X0 hx (hb hby d21_69) (XT.ii_ne_t hq3) ?_
          refine E.iconst (q := 95) (v := (0 : Int32)) X0 hx (hb hby d21_94) rfl ?_
          exact Ends.retS X0 hx hlk hret (by simp) rfl (hb hby d21_95) (by decide) (by decide) ⟨by rw [if_neg (fun q => hq3 ((own_bd4_4 c0 c1 c2 c3 c4 c5).mp q).2.2.2)], e0, rfl⟩
      · refine E.icmpY (q := 94) X0 hx (hb hby d21_51) (XT.ii_ne_t hq2) ?_
        refine E.iconst (q := 95) (v := (0 : Int32)) X0 hx (hb hby d21_94) rfl ?_
        exact Ends.retS X0 hx hlk hret (by simp) rfl (hb hby d21_95) (by decide) (by decide) ⟨by rw [if_neg (fun q => hq2 ((own_bd4_4 c0 c1 c2 c3 c4 c5).mp q).2.2.1)], e0, rfl⟩
    · refine E.icmpY (q := 94) X0 hx (hb hby d21_33) (XT.ii_ne_t hq1) ?_
      refine E.iconst (q := 95) (v := (0 : Int32)) X0 hx (hb hby d21_94) rfl ?_
      exact Ends.retS X0 hx hlk hret (by simp) rfl (hb hby d21_95) (by decide) (by decide) ⟨by rw [if_neg (fun q => hq1 ((own_bd4_4 c0 c1 c2 c3 c4 c5).mp q).2.1)], e0, rfl⟩
  · refine E.icmpY (q := 94) X0 hx (hb hby d21_15) (XT.ii_ne_t hq0) ?_
    refine E.iconst (q := 95) (v := (0 : Int32)) X0 hx (hb hby d21_94) rfl ?_
    exact Ends.retS X0 hx hlk hret (by simp) rfl (hb hby d21_95) (by decide) (by decide) ⟨by rw [if_neg (fun q => hq0 ((own_bd4_4 c0 c1 c2 c3 c4 c5).mp q).1)], e0, rfl⟩
theorem own_bd5_1 (c0 c1 c2 c3 c4 c5 : Int32) : own_bord [c0, c1, c2, c3, c4, c5] 5 1 = true ↔ c0 = c5 := by simp [own_bord, List.range, List.range.loop]
theorem efBd5_1 (m : MethodId) (x0 : Addr) (x1 : Int32) (x2 : Int32) : entryFrame m #[(.ref x0), (.int x1), (.int x2)] 3 = mkF m 0 #[.val (.ref x0), .val (.int x1), .val (.int x2)] [] := by first | (simp [entryFrame, mkF, argsToLocals, Value.category]; done) | rfl
set_option maxRecDepth 65536 in
set_option maxHeartbeats 40000000 in
theorem rmBd5_1 (l : Launch) (Z : State) (a0 : Array Value) (hw : ∀ d ∈ tables_1, d.before a0 Z = true) (oc : Addr) (c0 c1 c2 c3 c4 c5 : Int32) (h0 : Heap) (A_c : Ary Z h0 oc .char [(.int c0), (.int c1), (.int c2), (.int c3), (.int c4), (.int c5)]) :
    Con l (⟨"com/example/needlework/needlework/match/PrefixTableOfPinLaw", "isBorder", "([CII)Z"⟩ : MethodName) method_5_code 3 (some .boolean) [] ({ frames := 0, cells := 0, slots := 0, locals := 0 } : Room) #[(.ref oc), (.int (5 : Int32)), (.int (1 : Int32))] Z h0 (fun v h L => v = some (.int (if own_bord [c0, c1, c2, c3, c4, c5] 5 1 = true then (1 : Int32) else 0)) ∧ h = h0 ∧ L = []) := by
  refine Con.of (plainFor_of_name pn_6) ?_
  intro p e s m below meth c s₁ hx hZ hby hml hown hnm hret hlk X0 e0
  refine Ends.cast (efBd5_1 m oc (5 : Int32) (1 : Int32)) ?_
  show Ends none p e below s _ _ _ s₁ (mkF m 0 #[.val (.ref oc), .val (.int (5 : Int32)), .val (.int (1 : Int32))] [])
  refine E.iloadN (q := 1) X0 hx (hb hby d21_0) rfl ?_
  refine E.iconst (q := 2) (v := (1 : Int32)) X0 hx (hb hby d21_1) rfl ?_
  refine E.icmpN (q := 5) X0 hx (hb hby d21_2) (XT.ii_lt_f (by decide)) ?_
  refine E.aloadN (q := 6) X0 hx (hb hby d21_5) rfl rfl ?_
  refine E.iconst (q := 7) (v := (0 : Int32)) X0 hx (hb hby d21_6) rfl ?_
  refine Ends.cld X0 hx hZ e0 A_c (i := 0) rfl rfl (hb hby d21_7) ?_
  refine E.aloadN (q := 9) X0 hx (hb hby d21_8) rfl rfl ?_
  refine E.iloadN (q := 10) X0 hx (hb hby d21_9) rfl ?_
  refine E.iloadN (q := 11) X0 hx (hb hby d21_10) rfl ?_
  refine E.isub (q := 12) X0 hx (hb hby d21_11) ?_
  rw [show ((5 : Int32) - (1 : Int32)) = (4 : Int32) from by decide]
  refine E.iconst (q := 13) (v := (1 : Int32)) X0 hx (hb hby d21_12) rfl ?_
  refine E.iadd (q := 14) X0 hx (hb hby d21_13) ?_
  rw [show ((4 : Int32) + (1 : Int32)) = (5 : Int32) from by decide]
  refine Ends.cld X0 hx hZ e0 A_c (i := 5) rfl rfl (hb hby d21_14) ?_
  by_cases hq0 : c0 = c5
  · refine E.icmpN (q := 18) X0 hx (hb hby d21_15) (XT.ii_ne_f hq0) ?_
    refine E.iloadN (q := 19) X0 hx (hb hby d21_18) rfl ?_
    refine E.iconst (q := 20) (v := (2 : Int32)) X0 hx (hb hby d21_19) rfl ?_
    refine E.icmpY (q := 36) X0 hx (hb hby d21_20) (XT.ii_lt_t (by decide)) ?_
    refine E.iloadN (q := 37) X0 hx (hb hby d21_36) rfl ?_
    refine E.iconst (q := 38) (v := (3 : Int32)) X0 hx (hb hby d21_37) rfl ?_
    refine E.icmpY (q := 54) X0 hx (hb hby d21_38) (XT.ii_lt_t (by decide)) ?_
    refine E.iloadN (q := 55) X0 hx (hb hby d21_54) rfl ?_
    refine E.iconst (q := 56) (v := (4 : Int32)) X0 hx (hb hby d21_55) rfl ?_
    refine E.icmpY (q := 72) X0 hx (hb hby d21_56) (XT.ii_lt_t (by decide)) ?_
    refine E.iloadN (q := 73) X0 hx (hb hby d21_72) rfl ?_
    refine E.iconst (q := 74) (v := (5 : Int32)) X0 hx (hb hby d21_73) rfl ?_
    refine E.icmpY (q := 90) X0 hx (hb hby d21_74) (XT.ii_lt_t (by decide)) ?_
    refine E.iconst (q := 91) (v := (1 : Int32)) X0 hx (hb hby d21_90) rfl ?_
    refine E.goto (q := 95) X0 hx (hb hby d21_91) ?_
    exact Ends.retS X0 hx hlk hret (by simp) rfl (hb hby d21_95) (by decide) (by decide) ⟨by rw [if_pos ((own_bd5_1 c0 c1 c2 c3 c4 c5).mpr hq0)], e0, rfl⟩
  · refine E.icmpY (q := 94) X0 hx (hb hby d21_15) (XT.ii_ne_t hq0) ?_
    refine E.iconst (q := 95) (v := (0 : Int32)) X0 hx (hb hby d21_94) rfl ?_
    exact Ends.retS X0 hx hlk hret (by simp) rfl (hb hby d21_95) (by decide) (by decide) ⟨by rw [if_neg (fun q => hq0 ((own_bd5_1 c0 c1 c2 c3 c4 c5).mp q))], e0, rfl⟩
theorem own_bd5_2 (c0 c1 c2 c3 c4 c5 : Int32) : own_bord [c0, c1, c2, c3, c4, c5] 5 2 = true ↔ c0 = c4 ∧ c1 = c5 := by simp [own_bord, List.range, List.range.loop]
theorem efBd5_2 (m : MethodId) (x0 : Addr) (x1 : Int32) (x2 : Int32) : entryFrame m #[(.ref x0), (.int x1), (.int x2)] 3 = mkF m 0 #[.val (.ref x0), .val (.int x1), .val (.int x2)] [] := by first | (simp [entryFrame, mkF, argsToLocals, Value.category]; done) | rfl
set_option maxRecDepth 65536 in
set_option maxHeartbeats 40000000 in
theorem rmBd5_2 (l : Launch) (Z : State) (a0 : Array Value) (hw : ∀ d ∈ tables_1, d.before a0 Z = true) (oc : Addr) (c0 c1 c2 c3 c4 c5 : Int32) (h0 : Heap) (A_c : Ary Z h0 oc .char [(.int c0), (.int c1), (.int c2), (.int c3), (.int c4), (.int c5)]) :
    Con l (⟨"com/example/needlework/needlework/match/PrefixTableOfPinLaw", "isBorder", "([CII)Z"⟩ : MethodName) method_5_code 3 (some .boolean) [] ({ frames := 0, cells := 0, slots := 0, locals := 0 } : Room) #[(.ref oc), (.int (5 : Int32)), (.int (2 : Int32))] Z h0 (fun v h L => v = some (.int (if own_bord [c0, c1, c2, c3, c4, c5] 5 2 = true then (1 : Int32) else 0)) ∧ h = h0 ∧ L = []) := by
  refine Con.of (plainFor_of_name pn_6) ?_
  intro p e s m below meth c s₁ hx hZ hby hml hown hnm hret hlk X0 e0
  refine Ends.cast (efBd5_2 m oc (5 : Int32) (2 : Int32)) ?_
  show Ends none p e below s _ _ _ s₁ (mkF m 0 #[.val (.ref oc), .val (.int (5 : Int32)), .val (.int (2 : Int32))] [])
  refine E.iloadN (q := 1) X0 hx (hb hby d21_0) rfl ?_
  refine E.iconst (q := 2) (v := (1 : Int32)) X0 hx (hb hby d21_1) rfl ?_
  refine E.icmpN (q := 5) X0 hx (hb hby d21_2) (XT.ii_lt_f (by decide)) ?_
  refine E.aloadN (q := 6) X0 hx (hb hby d21_5) rfl rfl ?_
  refine E.iconst (q := 7) (v := (0 : Int32)) X0 hx (hb hby d21_6) rfl ?_
  refine Ends.cld X0 hx hZ e0 A_c (i := 0) rfl rfl (hb hby d21_7) ?_
  refine E.aloadN (q := 9) X0 hx (hb hby d21_8) rfl rfl ?_
  refine E.iloadN (q := 10) X0 hx (hb hby d21_9) rfl ?_
  refine E.iloadN (q := 11) X0 hx (hb hby d21_10) rfl ?_
  refine E.isub (q := 12) X0 hx (hb hby d21_11) ?_
  rw [show ((5 : Int32) - (2 : Int32)) = (3 : Int32) from by decide]
  refine E.iconst (q := 13) (v := (1 : Int32)) X0 hx (hb hby d21_12) rfl ?_
  refine E.iadd (q := 14) X0 hx (hb hby d21_13) ?_
  rw [show ((3 : Int32) + (1 : Int32)) = (4 : Int32) from by decide]
  refine Ends.cld X0 hx hZ e0 A_c (i := 4) rfl rfl (hb hby d21_14) ?_
  by_cases hq0 : c0 = c4
  · refine E.icmpN (q := 18) X0 hx (hb hby d21_15) (XT.ii_ne_f hq0) ?_
    refine E.iloadN (q := 19) X0 hx (hb hby d21_18) rfl ?_
    refine E.iconst (q := 20) (v := (2 : Int32)) X0 hx (hb hby d21_19) rfl ?_
    refine E.icmpN (q := 23) X0 hx (hb hby d21_20) (XT.ii_lt_f (by decide)) ?_
    refine E.aloadN (q := 24) X0 hx (hb hby d21_23) rfl rfl ?_
    refine E.iconst (q := 25) (v := (1 : Int32)) X0 hx (hb hby d21_24) rfl ?_
    refine Ends.cld X0 hx hZ e0 A_c (i := 1) rfl rfl (hb hby d21_25) ?_
    refine E.aloadN (q := 27) X0 hx (hb hby d21_26) rfl rfl ?_
    refine E.iloadN (q := 28) X0 hx (hb hby d21_27) rfl ?_
    refine E.iloadN (q := 29) X0 hx (hb hby d21_28) rfl ?_
    refine E.isub (q := 30) X0 hx (hb hby d21_29) ?_
    rw [show ((5 : Int32) - (2 : Int32)) = (3 : Int32) from by decide]
    refine E.iconst (q := 31) (v := (2 : Int32)) X0 hx (hb hby d21_30) rfl ?_
    refine E.iadd (q := 32) X0 hx (hb hby d21_31) ?_
    rw [show ((3 : Int32) + (2 : Int32)) = (5 : Int32) from by decide]
    refine Ends.cld X0 hx hZ e0 A_c (i := 5) rfl rfl (hb hby d21_32) ?_
    by_cases hq1 : c1 = c5
    · refine E.icmpN (q := 36) X0 hx (hb hby d21_33) (XT.ii_ne_f hq1) ?_
      refine E.iloadN (q := 37) X0 hx (hb hby d21_36) rfl ?_
      refine E.iconst (q := 38) (v := (3 : Int32)) X0 hx (hb hby d21_37) rfl ?_
      refine E.icmpY (q := 54) X0 hx (hb hby d21_38) (XT.ii_lt_t (by decide)) ?_
      refine E.iloadN (q := 55) X0 hx (hb hby d21_54) rfl ?_
      refine E.iconst (q := 56) (v := (4 : Int32)) X0 hx (hb hby d21_55) rfl ?_
      refine E.icmpY (q := 72) X0 hx (hb hby d21_56) (XT.ii_lt_t (by decide)) ?_
      refine E.iloadN (q := 73) X0 hx (hb hby d21_72) rfl ?_
      refine E.iconst (q := 74) (v := (5 : Int32)) X0 hx (hb hby d21_73) rfl ?_
      refine E.icmpY (q := 90) X0 hx (hb hby d21_74) (XT.ii_lt_t (by decide)) ?_
      refine E.iconst (q := 91) (v := (1 : Int32)) X0 hx (hb hby d21_90) rfl ?_
      refine E.goto (q := 95) X0 hx (hb hby d21_91) ?_
      exact Ends.retS X0 hx hlk hret (by simp) rfl (hb hby d21_95) (by decide) (by decide) ⟨by rw [if_pos ((own_bd5_2 c0 c1 c2 c3 c4 c5).mpr ⟨hq0, hq1⟩)], e0, rfl⟩
    · refine E.icmpY (q := 94) X0 hx (hb hby d21_33) (XT.ii_ne_t hq1) ?_
      refine E.iconst (q := 95) (v := (0 : Int32)) X0 hx (hb hby d21_94) rfl ?_
      exact Ends.retS X0 hx hlk hret (by simp) rfl (hb hby d21_95) (by decide) (by decide) ⟨by rw [if_neg (fun q => hq1 ((own_bd5_2 c0 c1 c2 c3 c4 c5).mp q).2)], e0, rfl⟩
  · refine E.icmpY (q := 94) X0 hx (hb hby d21_15) (XT.ii_ne_t hq0) ?_
    refine E.iconst (q := 95) (v := (0 : Int32)) X0 hx (hb hby d21_94) rfl ?_
    exact Ends.retS X0 hx hlk hret (by simp) rfl (hb hby d21_95) (by decide) (by decide) ⟨by rw [if_neg (fun q => hq0 ((own_bd5_2 c0 c1 c2 c3 c4 c5).mp q).1)], e0, rfl⟩
theorem own_bd5_3 (c0 c1 c2 c3 c4 c5 : Int32) : own_bord [c0, c1, c2, c3, c4, c5] 5 3 = true ↔ c0 = c3 ∧ c1 = c4 ∧ c2 = c5 := by simp [own_bord, List.range, List.range.loop]
theorem efBd5_3 (m : MethodId) (x0 : Addr) (x1 : Int32) (x2 : Int32) : entryFrame m #[(.ref x0), (.int x1), (.int x2)] 3 = mkF m 0 #[.val (.ref x0), .val (.int x1), .val (.int x2)] [] := by first | (simp [entryFrame, mkF, argsToLocals, Value.category]; done) | rfl
set_option maxRecDepth 65536 in
set_option maxHeartbeats 40000000 in
theorem rmBd5_3 (l : Launch) (Z : State) (a0 : Array Value) (hw : ∀ d ∈ tables_1, d.before a0 Z = true) (oc : Addr) (c0 c1 c2 c3 c4 c5 : Int32) (h0 : Heap) (A_c : Ary Z h0 oc .char [(.int c0), (.int c1), (.int c2), (.int c3), (.int c4), (.int c5)]) :
    Con l (⟨"com/example/needlework/needlework/match/PrefixTableOfPinLaw", "isBorder", "([CII)Z"⟩ : MethodName) method_5_code 3 (some .boolean) [] ({ frames := 0, cells := 0, slots := 0, locals := 0 } : Room) #[(.ref oc), (.int (5 : Int32)), (.int (3 : Int32))] Z h0 (fun v h L => v = some (.int (if own_bord [c0, c1, c2, c3, c4, c5] 5 3 = true then (1 : Int32) else 0)) ∧ h = h0 ∧ L = []) := by
  refine Con.of (plainFor_of_name pn_6) ?_
  intro p e s m below meth c s₁ hx hZ hby hml hown hnm hret hlk X0 e0
  refine Ends.cast (efBd5_3 m oc (5 : Int32) (3 : Int32)) ?_
  show Ends none p e below s _ _ _ s₁ (mkF m 0 #[.val (.ref oc), .val (.int (5 : Int32)), .val (.int (3 : Int32))] [])
  refine E.iloadN (q := 1) X0 hx (hb hby d21_0) rfl ?_
  refine E.iconst (q := 2) (v := (1 : Int32)) X0 hx (hb hby d21_1) rfl ?_
  refine E.icmpN (q := 5) X0 hx (hb hby d21_2) (XT.ii_lt_f (by decide)) ?_
  refine E.aloadN (q := 6) X0 hx (hb hby d21_5) rfl rfl ?_
  refine E.iconst (q := 7) (v := (0 : Int32)) X0 hx (hb hby d21_6) rfl ?_
  refine Ends.cld X0 hx hZ e0 A_c (i := 0) rfl rfl (hb hby d21_7) ?_
  refine E.aloadN (q := 9) X0 hx (hb hby d21_8) rfl rfl ?_
  refine E.iloadN (q := 10) X0 hx (hb hby d21_9) rfl ?_
  refine E.iloadN (q := 11) X0 hx (hb hby d21_10) rfl ?_
  refine E.isub (q := 12) X0 hx (hb hby d21_11) ?_
  rw [show ((5 : Int32) - (3 : Int32)) = (2 : Int32) from by decide]
  refine E.iconst (q := 13) (v := (1 : Int32)) X0 hx (hb hby d21_12) rfl ?_
  refine E.iadd (q := 14) X0 hx (hb hby d21_13) ?_
  rw [show ((2 : Int32) + (1 : Int32)) = (3 : Int32) from by decide]
  refine Ends.cld X0 hx hZ e0 A_c (i := 3) rfl rfl (hb hby d21_14) ?_
  by_cases hq0 : c0 = c3
  · refine E.icmpN (q := 18) X0 hx (hb hby d21_15) (XT.ii_ne_f hq0) ?_
    refine E.iloadN (q := 19) X0 hx (hb hby d21_18) rfl ?_
    refine E.iconst (q := 20) (v := (2 : Int32)) X0 hx (hb hby d21_19) rfl ?_
    refine E.icmpN (q := 23) X0 hx (hb hby d21_20) (XT.ii_lt_f (by decide)) ?_
    refine E.aloadN (q := 24) X0 hx (hb hby d21_23) rfl rfl ?_
    refine E.iconst (q := 25) (v := (1 : Int32)) X0 hx (hb hby d21_24) rfl ?_
    refine Ends.cld X0 hx hZ e0 A_c (i := 1) rfl rfl (hb hby d21_25) ?_
    refine E.aloadN (q := 27) X0 hx (hb hby d21_26) rfl rfl ?_
    refine E.iloadN (q := 28) X0 hx (hb hby d21_27) rfl ?_
    refine E.iloadN (q := 29) X0 hx (hb hby d21_28) rfl ?_
    refine E.isub (q := 30) X0 hx (hb hby d21_29) ?_
    rw [show ((5 : Int32) - (3 : Int32)) = (2 : Int32) from by decide]
    refine E.iconst (q := 31) (v := (2 : Int32)) X0 hx (hb hby d21_30) rfl ?_
    refine E.iadd (q := 32) X0 hx (hb hby d21_31) ?_
    rw [show ((2 : Int32) + (2 : Int32)) = (4 : Int32) from by decide]
    refine Ends.cld X0 hx hZ e0 A_c (i := 4) rfl rfl (hb hby d21_32) ?_
    by_cases hq1 : c1 = c4
    · refine E.icmpN (q := 36) X0 hx (hb hby d21_33) (XT.ii_ne_f hq1) ?_
      refine E.iloadN (q := 37) X0 hx (hb hby d21_36) rfl ?_
      refine E.iconst (q := 38) (v := (3 : Int32)) X0 hx (hb hby d21_37) rfl ?_
      refine E.icmpN (q := 41) X0 hx (hb hby d21_38) (XT.ii_lt_f (by decide)) ?_
      refine E.aloadN (q := 42) X0 hx (hb hby d21_41) rfl rfl ?_
      refine E.iconst (q := 43) (v := (2 : Int32)) X0 hx (hb hby d21_42) rfl ?_
      refine Ends.cld X0 hx hZ e0 A_c (i := 2) rfl rfl (hb hby d21_43) ?_
      refine E.aloadN (q := 45) X0 hx (hb hby d21_44) rfl rfl ?_
      refine E.iloadN (q := 46) X0 hx (hb hby d21_45) rfl ?_
      refine E.iloadN (q := 47) X0 hx (hb hby d21_46) rfl ?_
      refine E.isub (q := 48) X0 hx (hb hby d21_47) ?_
      rw [show ((5 : Int32) - (3 : Int32)) = (2 : Int32) from by decide]
      refine E.iconst (q := 49) (v := (3 : Int32)) X0 hx (hb hby d21_48) rfl ?_
      refine E.iadd (q := 50) X0 hx (hb hby d21_49) ?_
      rw [show ((2 : Int32) + (3 : Int32)) = (5 : Int32) from by decide]
      refine Ends.cld X0 hx hZ e0 A_c (i := 5) rfl rfl (hb hby d21_50) ?_
      by_cases hq2 : c2 = c5
      · refine E.icmpN (q := 54) X0 hx (hb hby d21_51) (XT.ii_ne_f hq2) ?_
        refine E.iloadN (q := 55) X0 hx (hb hby d21_54) rfl ?_
        refine E.iconst (q := 56) (v := (4 : Int32)) X0 hx (hb hby d21_55) rfl ?_
        refine E.icmpY (q := 72) X0 hx (hb hby d21_56) (XT.ii_lt_t (by decide)) ?_
        refine E.iloadN (q := 73) X0 hx (hb hby d21_72) rfl ?_
        refine E.iconst (q := 74) (v := (5 : Int32)) X0 hx (hb hby d21_73) rfl ?_
        refine E.icmpY (q := 90) X0 hx (hb hby d21_74) (XT.ii_lt_t (by decide)) ?_
        refine E.iconst (q := 91) (v := (1 : Int32)) X0 hx (hb hby d21_90) rfl ?_
        refine E.goto (q := 95) X0 hx (hb hby d21_91) ?_
        exact Ends.retS X0 hx hlk hret (by simp) rfl (hb hby d21_95) (by decide) (by decide) ⟨by rw [if_pos ((own_bd5_3 c0 c1 c2 c3 c4 c5).mpr ⟨hq0, hq1, hq2⟩)], e0, rfl⟩
      · refine E.icmpY (q := 94) X0 hx (hb hby d21_51) (XT.ii_ne_t hq2) ?_
        refine E.iconst (q := 95) (v := (0 : Int32)) X0 hx (hb hby d21_94) rfl ?_
        exact Ends.retS X0 hx hlk hret (by simp) rfl (hb hby d21_95) (by decide) (by decide) ⟨by rw [if_neg (fun q => hq2 ((own_bd5_3 c0 c1 c2 c3 c4 c5).mp q).2.2)], e0, rfl⟩
    · refine E.icmpY (q := 94) X0 hx (hb hby d21_33) (XT.ii_ne_t hq1) ?_
      refine E.iconst (q := 95) (v := (0 : Int32)) X0 hx (hb hby d21_94) rfl ?_
      exact Ends.retS X0 hx hlk hret (by simp) rfl (hb hby d21_95) (by decide) (by decide) ⟨by rw [if_neg (fun q => hq1 ((own_bd5_3 c0 c1 c2 c3 c4 c5).mp q).2.1)], e0, rfl⟩
  · refine E.icmpY (q := 94) X0 hx (hb hby d21_15) (XT.ii_ne_t hq0) ?_
    refine E.iconst (q := 95) (v := (0 : Int32)) X0 hx (hb hby d21_94) rfl ?_
    exact Ends.retS X0 hx hlk hret (by simp) rfl (hb hby d21_95) (by decide) (by decide) ⟨by rw [if_neg (fun q => hq0 ((own_bd5_3 c0 c1 c2 c3 c4 c5).mp q).1)], e0, rfl⟩
theorem own_bd5_4 (c0 c1 c2 c3 c4 c5 : Int32) : own_bord [c0, c1, c2, c3, c4, c5] 5 4 = true ↔ c0 = c2 ∧ c1 = c3 ∧ c2 = c4 ∧ c3 = c5 := by simp [own_bord, List.range, List.range.loop]
theorem efBd5_4 (m : MethodId) (x0 : Addr) (x1 : Int32) (x2 : Int32) : entryFrame m #[(.ref x0), (.int x1), (.int x2)] 3 = mkF m 0 #[.val (.ref x0), .val (.int x1), .val (.int x2)] [] := by first | (simp [entryFrame, mkF, argsToLocals, Value.category]; done) | rfl
set_option maxRecDepth 65536 in
set_option maxHeartbeats 40000000 in
theorem rmBd5_4 (l : Launch) (Z : State) (a0 : Array Value) (hw : ∀ d ∈ tables_1, d.before a0 Z = true) (oc : Addr) (c0 c1 c2 c3 c4 c5 : Int32) (h0 : Heap) (A_c : Ary Z h0 oc .char [(.int c0), (.int c1), (.int c2), (.int c3), (.int c4), (.int c5)]) :
    Con l (⟨"com/example/needlework/needlework/match/PrefixTableOfPinLaw", "isBorder", "([CII)Z"⟩ : MethodName) method_5_code 3 (some .boolean) [] ({ frames := 0, cells := 0, slots := 0, locals := 0 } : Room) #[(.ref oc), (.int (5 : Int32)), (.int (4 : Int32))] Z h0 (fun v h L => v = some (.int (if own_bord [c0, c1, c2, c3, c4, c5] 5 4 = true then (1 : Int32) else 0)) ∧ h = h0 ∧ L = []) := by
  refine Con.of (plainFor_of_name pn_6) ?_
  intro p e s m below meth c s₁ hx hZ hby hml hown hnm hret hlk X0 e0
  refine Ends.cast (efBd5_4 m oc (5 : Int32) (4 : Int32)) ?_
  show Ends none p e below s _ _ _ s₁ (mkF m 0 #[.val (.ref oc), .val (.int (5 : Int32)), .val (.int (4 : Int32))] [])
  refine E.iloadN (q := 1) X0 hx (hb hby d21_0) rfl ?_
  refine E.iconst (q := 2) (v := (1 : Int32)) X0 hx (hb hby d21_1) rfl ?_
  refine E.icmpN (q := 5) X0 hx (hb hby d21_2) (XT.ii_lt_f (by decide)) ?_
  refine E.aloadN (q := 6) X0 hx (hb hby d21_5) rfl rfl ?_
  refine E.iconst (q := 7) (v := (0 : Int32)) X0 hx (hb hby d21_6) rfl ?_
  refine Ends.cld X0 hx hZ e0 A_c (i := 0) rfl rfl (hb hby d21_7) ?_
  refine E.aloadN (q := 9) X0 hx (hb hby d21_8) rfl rfl ?_
  refine E.iloadN (q := 10) X0 hx (hb hby d21_9) rfl ?_
  refine E.iloadN (q := 11) X0 hx (hb hby d21_10) rfl ?_
  refine E.isub (q := 12) X0 hx (hb hby d21_11) ?_
  rw [show ((5 : Int32) - (4 : Int32)) = (1 : Int32) from by decide]
  refine E.iconst (q := 13) (v := (1 : Int32)) X0 hx (hb hby d21_12) rfl ?_
  refine E.iadd (q := 14) X0 hx (hb hby d21_13) ?_
  rw [show ((1 : Int32) + (1 : Int32)) = (2 : Int32) from by decide]
  refine Ends.cld X0 hx hZ e0 A_c (i := 2) rfl rfl (hb hby d21_14) ?_
  by_cases hq0 : c0 = c2
  · refine E.icmpN (q := 18) X0 hx (hb hby d21_15) (XT.ii_ne_f hq0) ?_
    refine E.iloadN (q := 19) X0 hx (hb hby d21_18) rfl ?_
    refine E.iconst (q := 20) (v := (2 : Int32)) X0 hx (hb hby d21_19) rfl ?_
    refine E.icmpN (q := 23) X0 hx (hb hby d21_20) (XT.ii_lt_f (by decide)) ?_
    refine E.aloadN (q := 24) X0 hx (hb hby d21_23) rfl rfl ?_
    refine E.iconst (q := 25) (v := (1 : Int32)) X0 hx (hb hby d21_24) rfl ?_
    refine Ends.cld X0 hx hZ e0 A_c (i := 1) rfl rfl (hb hby d21_25) ?_
    refine E.aloadN (q := 27) X0 hx (hb hby d21_26) rfl rfl ?_
    refine E.iloadN (q := 28) X0 hx (hb hby d21_27) rfl ?_
    refine E.iloadN (q := 29) X0 hx (hb hby d21_28) rfl ?_
    refine E.isub (q := 30) X0 hx (hb hby d21_29) ?_
    rw [show ((5 : Int32) - (4 : Int32)) = (1 : Int32) from by decide]
    refine E.iconst (q := 31) (v := (2 : Int32)) X0 hx (hb hby d21_30) rfl ?_
    refine E.iadd (q := 32) X0 hx (hb hby d21_31) ?_
    rw [show ((1 : Int32) + (2 : Int32)) = (3 : Int32) from by decide]
    refine Ends.cld X0 hx hZ e0 A_c (i := 3) rfl rfl (hb hby d21_32) ?_
    by_cases hq1 : c1 = c3
    · refine E.icmpN (q := 36) X0 hx (hb hby d21_33) (XT.ii_ne_f hq1) ?_
      refine E.iloadN (q := 37) X0 hx (hb hby d21_36) rfl ?_
      refine E.iconst (q := 38) (v := (3 : Int32)) X0 hx (hb hby d21_37) rfl ?_
      refine E.icmpN (q := 41) X0 hx (hb hby d21_38) (XT.ii_lt_f (by decide)) ?_
      refine E.aloadN (q := 42) X0 hx (hb hby d21_41) rfl rfl ?_
      refine E.iconst (q := 43) (v := (2 : Int32)) X0 hx (hb hby d21_42) rfl ?_
      refine Ends.cld X0 hx hZ e0 A_c (i := 2) rfl rfl (hb hby d21_43) ?_
      refine E.aloadN (q := 45) X0 hx (hb hby d21_44) rfl rfl ?_
      refine E.iloadN (q := 46) X0 hx (hb hby d21_45) rfl ?_
      refine E.iloadN (q := 47) X0 hx (hb hby d21_46) rfl ?_
      refine E.isub (q := 48) X0 hx (hb hby d21_47) ?_
      rw [show ((5 : Int32) - (4 : Int32)) = (1 : Int32) from by decide]
      refine E.iconst (q := 49) (v := (3 : Int32)) X0 hx (hb hby d21_48) rfl ?_
      refine E.iadd (q := 50) X0 hx (hb hby d21_49) ?_
      rw [show ((1 : Int32) + (3 : Int32)) = (4 : Int32) from by decide]
      refine Ends.cld X0 hx hZ e0 A_c (i := 4) rfl rfl (hb hby d21_50) ?_
      by_cases hq2 : c2 = c4
      · refine E.icmpN (q := 54) X0 hx (hb hby d21_51) (XT.ii_ne_f hq2) ?_
        refine E.iloadN (q := 55) X0 hx (hb hby d21_54) rfl ?_
        refine E.iconst (q := 56) (v := (4 : Int32)) X0 hx (hb hby d21_55) rfl ?_
        refine E.icmpN (q := 59) X0 hx (hb hby d21_56) (XT.ii_lt_f (by decide)) ?_
        refine E.aloadN (q := 60) X0 hx (hb hby d21_59) rfl rfl ?_
        refine E.iconst (q := 61) (v := (3 : Int32)) X0 hx (hb hby d21_60) rfl ?_
        refine Ends.cld X0 hx hZ e0 A_c (i := 3) rfl rfl (hb hby d21_61) ?_
        refine E.aloadN (q := 63) X0 hx (hb hby d21_62) rfl rfl ?_
        refine E.iloadN (q := 64) X0 hx (hb hby d21_63) rfl ?_
        refine E.iloadN (q := 65) X0 hx (hb hby d21_64) rfl ?_
        refine E.isub (q := 66) X0 hx (hb hby d21_65) ?_
        rw [show ((5 : Int32) - (4 : Int32)) = (1 : Int32) from by decide]
        refine E.iconst (q := 67) (v := (4 : Int32)) X0 hx (hb hby d21_66) rfl ?_
        refine E.iadd (q := 68) X0 hx (hb hby d21_67) ?_
        rw [show ((1 : Int32) + (4 : Int32)) = (5 : Int32) from by decide]
        refine Ends.cld X0 hx hZ e0 A_c (i := 5) rfl rfl (hb hby d21_68) ?_
        by_cases hq3 : c3 = c5
        · refine E.icmpN (q := 72) X0 hx (hb hby d21_69) (XT.ii_ne_f hq3) ?_
          refine E.iloadN (q := 73) X0 hx (hb hby d21_72) rfl ?_
          refine E.iconst (q := 74) (v := (5 : Int32)) X0 hx (hb hby d21_73) rfl ?_
          refine E.icmpY (q := 90) X0 hx (hb hby d21_74) (XT.ii_lt_t (by decide)) ?_
          refine E.iconst (q := 91) (v := (1 : Int32)) X0 hx (hb hby d21_90) rfl ?_
          refine E.goto (q := 95) X0 hx (hb hby d21_91) ?_
          exact Ends.retS X0 hx hlk hret (by simp) rfl (hb hby d21_95) (by decide) (by decide) ⟨by rw [if_pos ((own_bd5_4 c0 c1 c2 c3 c4 c5).mpr ⟨hq0, hq1, hq2, hq3⟩)], e0, rfl⟩
        · refine E.icmpY (q := 94) X0 hx (hb hby d21_69) (XT.ii_ne_t hq3) ?_
          refine E.iconst (q := 95) (v := (0 : Int32)) X0 hx (hb hby d21_94) rfl ?_
          exact Ends.retS X0 hx hlk hret (by simp) rfl (hb hby d21_95) (by decide) (by decide) ⟨by rw [if_neg (fun q => hq3 ((own_bd5_4 c0 c1 c2 c3 c4 c5).mp q).2.2.2)], e0, rfl⟩
      · refine E.icmpY (q := 94) X0 hx (hb hby d21_51) (XT.ii_ne_t hq2) ?_
        refine E.iconst (q := 95) (v := (0 : Int32)) X0 hx (hb hby d21_94) rfl ?_
        exact Ends.retS X0 hx hlk hret (by simp) rfl (hb hby d21_95) (by decide) (by decide) ⟨by rw [if_neg (fun q => hq2 ((own_bd5_4 c0 c1 c2 c3 c4 c5).mp q).2.2.1)], e0, rfl⟩
    · refine E.icmpY (q := 94) X0 hx (hb hby d21_33) (XT.ii_ne_t hq1) ?_
      refine E.iconst (q := 95) (v := (0 : Int32)) X0 hx (hb hby d21_94) rfl ?_
      exact Ends.retS X0 hx hlk hret (by simp) rfl (hb hby d21_95) (by decide) (by decide) ⟨by rw [if_neg (fun q => hq1 ((own_bd5_4 c0 c1 c2 c3 c4 c5).mp q).2.1)], e0, rfl⟩
  · refine E.icmpY (q := 94) X0 hx (hb hby d21_15) (XT.ii_ne_t hq0) ?_
    refine E.iconst (q := 95) (v := (0 : Int32)) X0 hx (hb hby d21_94) rfl ?_
    exact Ends.retS X0 hx hlk hret (by simp) rfl (hb hby d21_95) (by decide) (by decide) ⟨by rw [if_neg (fun q => hq0 ((own_bd5_4 c0 c1 c2 c3 c4 c5).mp q).1)], e0, rfl⟩
theorem own_bd5_5 (c0 c1 c2 c3 c4 c5 : Int32) : own_bord [c0, c1, c2, c3, c4, c5] 5 5 = true ↔ c0 = c1 ∧ c1 = c2 ∧ c2 = c3 ∧ c3 = c4 ∧ c4 = c5 := by simp [own_bord, List.range, List.range.loop]
theorem efBd5_5 (m : MethodId) (x0 : Addr) (x1 : Int32) (x2 : Int32) : entryFrame m #[(.ref x0), (.int x1), (.int x2)] 3 = mkF m 0 #[.val (.ref x0), .val (.int x1), .val (.int x2)] [] := by first | (simp [entryFrame, mkF, argsToLocals, Value.category]; done) | rfl
set_option maxRecDepth 65536 in
set_option maxHeartbeats 40000000 in
theorem rmBd5_5 (l : Launch) (Z : State) (a0 : Array Value) (hw : ∀ d ∈ tables_1, d.before a0 Z = true) (oc : Addr) (c0 c1 c2 c3 c4 c5 : Int32) (h0 : Heap) (A_c : Ary Z h0 oc .char [(.int c0), (.int c1), (.int c2), (.int c3), (.int c4), (.int c5)]) :
    Con l (⟨"com/example/needlework/needlework/match/PrefixTableOfPinLaw", "isBorder", "([CII)Z"⟩ : MethodName) method_5_code 3 (some .boolean) [] ({ frames := 0, cells := 0, slots := 0, locals := 0 } : Room) #[(.ref oc), (.int (5 : Int32)), (.int (5 : Int32))] Z h0 (fun v h L => v = some (.int (if own_bord [c0, c1, c2, c3, c4, c5] 5 5 = true then (1 : Int32) else 0)) ∧ h = h0 ∧ L = []) := by
  refine Con.of (plainFor_of_name pn_6) ?_
  intro p e s m below meth c s₁ hx hZ hby hml hown hnm hret hlk X0 e0
  refine Ends.cast (efBd5_5 m oc (5 : Int32) (5 : Int32)) ?_
  show Ends none p e below s _ _ _ s₁ (mkF m 0 #[.val (.ref oc), .val (.int (5 : Int32)), .val (.int (5 : Int32))] [])
  refine E.iloadN (q := 1) X0 hx (hb hby d21_0) rfl ?_
  refine E.iconst (q := 2) (v := (1 : Int32)) X0 hx (hb hby d21_1) rfl ?_
  refine E.icmpN (q := 5) X0 hx (hb hby d21_2) (XT.ii_lt_f (by decide)) ?_
  refine E.aloadN (q := 6) X0 hx (hb hby d21_5) rfl rfl ?_
  refine E.iconst (q := 7) (v := (0 : Int32)) X0 hx (hb hby d21_6) rfl ?_
  refine Ends.cld X0 hx hZ e0 A_c (i := 0) rfl rfl (hb hby d21_7) ?_
  refine E.aloadN (q := 9) X0 hx (hb hby d21_8) rfl rfl ?_
  refine E.iloadN (q := 10) X0 hx (hb hby d21_9) rfl ?_
  refine E.iloadN (q := 11) X0 hx (hb hby d21_10) rfl ?_
  refine E.isub (q := 12) X0 hx (hb hby d21_11) ?_
  rw [show ((5 : Int32) - (5 : Int32)) = (0 : Int32) from by decide]
  refine E.iconst (q := 13) (v := (1 : Int32)) X0 hx (hb hby d21_12) rfl ?_
  refine E.iadd (q := 14) X0 hx (hb hby d21_13) ?_
  rw [show ((0 : Int32) + (1 : Int32)) = (1 : Int32) from by decide]
  refine Ends.cld X0 hx hZ e0 A_c (i := 1) rfl rfl (hb hby d21_14) ?_
  by_cases hq0 : c0 = c1
  · refine E.icmpN (q := 18) X0 hx (hb hby d21_15) (XT.ii_ne_f hq0) ?_
    refine E.iloadN (q := 19) X0 hx (hb hby d21_18) rfl ?_
    refine E.iconst (q := 20) (v := (2 : Int32)) X0 hx (hb hby d21_19) rfl ?_
    refine E.icmpN (q := 23) X0 hx (hb hby d21_20) (XT.ii_lt_f (by decide)) ?_
    refine E.aloadN (q := 24) X0 hx (hb hby d21_23) rfl rfl ?_
    refine E.iconst (q := 25) (v := (1 : Int32)) X0 hx (hb hby d21_24) rfl ?_
    refine Ends.cld X0 hx hZ e0 A_c (i := 1) rfl rfl (hb hby d21_25) ?_
    refine E.aloadN (q := 27) X0 hx (hb hby d21_26) rfl rfl ?_
    refine E.iloadN (q := 28) X0 hx (hb hby d21_27) rfl ?_
    refine E.iloadN (q := 29) X0 hx (hb hby d21_28) rfl ?_
    refine E.isub (q := 30) X0 hx (hb hby d21_29) ?_
    rw [show ((5 : Int32) - (5 : Int32)) = (0 : Int32) from by decide]
    refine E.iconst (q := 31) (v := (2 : Int32)) X0 hx (hb hby d21_30) rfl ?_
    refine E.iadd (q := 32) X0 hx (hb hby d21_31) ?_
    rw [show ((0 : Int32) + (2 : Int32)) = (2 : Int32) from by decide]
    refine Ends.cld X0 hx hZ e0 A_c (i := 2) rfl rfl (hb hby d21_32) ?_
    by_cases hq1 : c1 = c2
    · refine E.icmpN (q := 36) X0 hx (hb hby d21_33) (XT.ii_ne_f hq1) ?_
      refine E.iloadN (q := 37) X0 hx (hb hby d21_36) rfl ?_
      refine E.iconst (q := 38) (v := (3 : Int32)) X0 hx (hb hby d21_37) rfl ?_
      refine E.icmpN (q := 41) X0 hx (hb hby d21_38) (XT.ii_lt_f (by decide)) ?_
      refine E.aloadN (q := 42) X0 hx (hb hby d21_41) rfl rfl ?_
      refine E.iconst (q := 43) (v := (2 : Int32)) X0 hx (hb hby d21_42) rfl ?_
      refine Ends.cld X0 hx hZ e0 A_c (i := 2) rfl rfl (hb hby d21_43) ?_
      refine E.aloadN (q := 45) X0 hx (hb hby d21_44) rfl rfl ?_
      refine E.iloadN (q := 46) X0 hx (hb hby d21_45) rfl ?_
      refine E.iloadN (q := 47) X0 hx (hb hby d21_46) rfl ?_
      refine E.isub (q := 48) X0 hx (hb hby d21_47) ?_
      rw [show ((5 : Int32) - (5 : Int32)) = (0 : Int32) from by decide]
      refine E.iconst (q := 49) (v := (3 : Int32)) X0 hx (hb hby d21_48) rfl ?_
      refine E.iadd (q := 50) X0 hx (hb hby d21_49) ?_
      rw [show ((0 : Int32) + (3 : Int32)) = (3 : Int32) from by decide]
      refine Ends.cld X0 hx hZ e0 A_c (i := 3) rfl rfl (hb hby d21_50) ?_
      by_cases hq2 : c2 = c3
      · refine E.icmpN (q := 54) X0 hx (hb hby d21_51) (XT.ii_ne_f hq2) ?_
        refine E.iloadN (q := 55) X0 hx (hb hby d21_54) rfl ?_
        refine E.iconst (q := 56) (v := (4 : Int32)) X0 hx (hb hby d21_55) rfl ?_
        refine E.icmpN (q := 59) X0 hx (hb hby d21_56) (XT.ii_lt_f (by decide)) ?_
        refine E.aloadN (q := 60) X0 hx (hb hby d21_59) rfl rfl ?_
        refine E.iconst (q := 61) (v := (3 : Int32)) X0 hx (hb hby d21_60) rfl ?_
        refine Ends.cld X0 hx hZ e0 A_c (i := 3) rfl rfl (hb hby d21_61) ?_
        refine E.aloadN (q := 63) X0 hx (hb hby d21_62) rfl rfl ?_
        refine E.iloadN (q := 64) X0 hx (hb hby d21_63) rfl ?_
        refine E.iloadN (q := 65) X0 hx (hb hby d21_64) rfl ?_
        refine E.isub (q := 66) X0 hx (hb hby d21_65) ?_
        rw [show ((5 : Int32) - (5 : Int32)) = (0 : Int32) from by decide]
        refine E.iconst (q := 67) (v := (4 : Int32)) X0 hx (hb hby d21_66) rfl ?_
        refine E.iadd (q := 68) X0 hx (hb hby d21_67) ?_
        rw [show ((0 : Int32) + (4 : Int32)) = (4 : Int32) from by decide]
        refine Ends.cld X0 hx hZ e0 A_c (i := 4) rfl rfl (hb hby d21_68) ?_
        by_cases hq3 : c3 = c4
        · refine E.icmpN (q := 72) X0 hx (hb hby d21_69) (XT.ii_ne_f hq3) ?_
          refine E.iloadN (q := 73) X0 hx (hb hby d21_72) rfl ?_
          refine E.iconst (q := 74) (v := (5 : Int32)) X0 hx (hb hby d21_73) rfl ?_
          refine E.icmpN (q := 77) X0 hx (hb hby d21_74) (XT.ii_lt_f (by decide)) ?_
          refine E.aloadN (q := 78) X0 hx (hb hby d21_77) rfl rfl ?_
          refine E.iconst (q := 79) (v := (4 : Int32)) X0 hx (hb hby d21_78) rfl ?_
          refine Ends.cld X0 hx hZ e0 A_c (i := 4) rfl rfl (hb hby d21_79) ?_
          refine E.aloadN (q := 81) X0 hx (hb hby d21_80) rfl rfl ?_
          refine E.iloadN (q := 82) X0 hx (hb hby d21_81) rfl ?_
          refine E.iloadN (q := 83) X0 hx (hb hby d21_82) rfl ?_
          refine E.isub (q := 84) X0 hx (hb hby d21_83) ?_
          rw [show ((5 : Int32) - (5 : Int32)) = (0 : Int32) from by decide]
          refine E.iconst (q := 85) (v := (5 : Int32)) X0 hx (hb hby d21_84) rfl ?_
          refine E.iadd (q := 86) X0 hx (hb hby d21_85) ?_
          rw [show ((0 : Int32) + (5 : Int32)) = (5 : Int32) from by decide]
          refine Ends.cld X0 hx hZ e0 A_c (i := 5) rfl rfl (hb hby d21_86) ?_
          by_cases hq4 : c4 = c5
          · refine E.icmpN (q := 90) X0 hx (hb hby d21_87) (XT.ii_ne_f hq4) ?_
            refine E.iconst (q := 91) (v := (1 : Int32)) X0 hx (hb hby d21_90) rfl ?_
            refine E.goto (q := 95) X0 hx (hb hby d21_91) ?_
            exact Ends.retS X0 hx hlk hret (by simp) rfl (hb hby d21_95) (by decide) (by decide) ⟨by rw [if_pos ((own_bd5_5 c0 c1 c2 c3 c4 c5).mpr ⟨hq0, hq1, hq2, hq3, hq4⟩)], e0, rfl⟩
          · refine E.icmpY (q := 94) X0 hx (hb hby d21_87) (XT.ii_ne_t hq4) ?_
            refine E.iconst (q := 95) (v := (0 : Int32)) X0 hx (hb hby d21_94) rfl ?_
            exact Ends.retS X0 hx hlk hret (by simp) rfl (hb hby d21_95) (by decide) (by decide) ⟨by rw [if_neg (fun q => hq4 ((own_bd5_5 c0 c1 c2 c3 c4 c5).mp q).2.2.2.2)], e0, rfl⟩
        · refine E.icmpY (q := 94) X0 hx (hb hby d21_69) (XT.ii_ne_t hq3) ?_
          refine E.iconst (q := 95) (v := (0 : Int32)) X0 hx (hb hby d21_94) rfl ?_
          exact Ends.retS X0 hx hlk hret (by simp) rfl (hb hby d21_95) (by decide) (by decide) ⟨by rw [if_neg (fun q => hq3 ((own_bd5_5 c0 c1 c2 c3 c4 c5).mp q).2.2.2.1)], e0, rfl⟩
      · refine E.icmpY (q := 94) X0 hx (hb hby d21_51) (XT.ii_ne_t hq2) ?_
        refine E.iconst (q := 95) (v := (0 : Int32)) X0 hx (hb hby d21_94) rfl ?_
        exact Ends.retS X0 hx hlk hret (by simp) rfl (hb hby d21_95) (by decide) (by decide) ⟨by rw [if_neg (fun q => hq2 ((own_bd5_5 c0 c1 c2 c3 c4 c5).mp q).2.2.1)], e0, rfl⟩
    · refine E.icmpY (q := 94) X0 hx (hb hby d21_33) (XT.ii_ne_t hq1) ?_
      refine E.iconst (q := 95) (v := (0 : Int32)) X0 hx (hb hby d21_94) rfl ?_
      exact Ends.retS X0 hx hlk hret (by simp) rfl (hb hby d21_95) (by decide) (by decide) ⟨by rw [if_neg (fun q => hq1 ((own_bd5_5 c0 c1 c2 c3 c4 c5).mp q).2.1)], e0, rfl⟩
  · refine E.icmpY (q := 94) X0 hx (hb hby d21_15) (XT.ii_ne_t hq0) ?_
    refine E.iconst (q := 95) (v := (0 : Int32)) X0 hx (hb hby d21_94) rfl ?_
    exact Ends.retS X0 hx hlk hret (by simp) rfl (hb hby d21_95) (by decide) (by decide) ⟨by rw [if_neg (fun q => hq0 ((own_bd5_5 c0 c1 c2 c3 c4 c5).mp q).1)], e0, rfl⟩
theorem efRf0 (m : MethodId) (x0 : Addr) (x1 : Int32) : entryFrame m #[(.ref x0), (.int x1)] 2 = mkF m 0 #[.val (.ref x0), .val (.int x1)] [] := by first | (simp [entryFrame, mkF, argsToLocals, Value.category]; done) | rfl
set_option maxRecDepth 65536 in
set_option maxHeartbeats 40000000 in
theorem rmRf0 (l : Launch) (Z : State) (a0 : Array Value) (hw : ∀ d ∈ tables_1, d.before a0 Z = true) (oc : Addr) (c0 c1 c2 c3 c4 c5 : Int32) (h0 : Heap) (A_c : Ary Z h0 oc .char [(.int c0), (.int c1), (.int c2), (.int c3), (.int c4), (.int c5)]) :
    Con l (⟨"com/example/needlework/needlework/match/PrefixTableOfPinLaw", "ref", "([CI)I"⟩ : MethodName) method_6_code 2 (some .int) [] ({ frames := 1, cells := 0, slots := 0, locals := 24 } : Room) #[(.ref oc), (.int (0 : Int32))] Z h0 (fun v h L => v = some (.int (Int32.ofNat (own_ref [c0, c1, c2, c3, c4, c5] 0))) ∧ h = h0 ∧ L = []) := by
  refine Con.of (plainFor_of_name pn_6) ?_
  intro p e s m below meth c s₁ hx hZ hby hml hown hnm hret hlk X0 e0
  refine Ends.cast (efRf0 m oc (0 : Int32)) ?_
  show Ends none p e below s _ _ _ s₁ (mkF m 0 #[.val (.ref oc), .val (.int (0 : Int32))] [])
  have O0 := Ok.refl h0 []
  refine E.iloadN (q := 1) X0 hx (hb hby d20_0) rfl ?_
  refine E.iconst (q := 2) (v := (5 : Int32)) X0 hx (hb hby d20_1) rfl ?_
  refine E.icmpY (q := 16) X0 hx (hb hby d20_2) (XT.ii_lt_t (by decide)) ?_
  refine E.iloadN (q := 17) X0 hx (hb hby d20_16) rfl ?_
  refine E.iconst (q := 18) (v := (4 : Int32)) X0 hx (hb hby d20_17) rfl ?_
  refine E.icmpY (q := 32) X0 hx (hb hby d20_18) (XT.ii_lt_t (by decide)) ?_
  refine E.iloadN (q := 33) X0 hx (hb hby d20_32) rfl ?_
  refine E.iconst (q := 34) (v := (3 : Int32)) X0 hx (hb hby d20_33) rfl ?_
  refine E.icmpY (q := 48) X0 hx (hb hby d20_34) (XT.ii_lt_t (by decide)) ?_
  refine E.iloadN (q := 49) X0 hx (hb hby d20_48) rfl ?_
  refine E.iconst (q := 50) (v := (2 : Int32)) X0 hx (hb hby d20_49) rfl ?_
  refine E.icmpY (q := 64) X0 hx (hb hby d20_50) (XT.ii_lt_t (by decide)) ?_
  refine E.iloadN (q := 65) X0 hx (hb hby d20_64) rfl ?_
  refine E.iconst (q := 66) (v := (1 : Int32)) X0 hx (hb hby d20_65) rfl ?_
  refine E.icmpY (q := 80) X0 hx (hb hby d20_66) (XT.ii_lt_t (by decide)) ?_
  refine E.iconst (q := 81) (v := (0 : Int32)) X0 hx (hb hby d20_80) rfl ?_
  have hr : own_ref [c0, c1, c2, c3, c4, c5] 0 = 0 := by simp [own_ref]
  exact Ends.retI X0 hx hlk hret (hb hby d20_81) (by decide) (by decide) ⟨by rw [hr]; rfl, e0, rfl⟩
theorem efRf1 (m : MethodId) (x0 : Addr) (x1 : Int32) : entryFrame m #[(.ref x0), (.int x1)] 2 = mkF m 0 #[.val (.ref x0), .val (.int x1)] [] := by first | (simp [entryFrame, mkF, argsToLocals, Value.category]; done) | rfl
set_option maxRecDepth 65536 in
set_option maxHeartbeats 40000000 in
theorem rmRf1 (l : Launch) (Z : State) (a0 : Array Value) (hw : ∀ d ∈ tables_1, d.before a0 Z = true) (oc : Addr) (c0 c1 c2 c3 c4 c5 : Int32) (h0 : Heap) (A_c : Ary Z h0 oc .char [(.int c0), (.int c1), (.int c2), (.int c3), (.int c4), (.int c5)]) :
    Con l (⟨"com/example/needlework/needlework/match/PrefixTableOfPinLaw", "ref", "([CI)I"⟩ : MethodName) method_6_code 2 (some .int) [] ({ frames := 1, cells := 0, slots := 0, locals := 24 } : Room) #[(.ref oc), (.int (1 : Int32))] Z h0 (fun v h L => v = some (.int (Int32.ofNat (own_ref [c0, c1, c2, c3, c4, c5] 1))) ∧ h = h0 ∧ L = []) := by
  refine Con.of (plainFor_of_name pn_6) ?_
  intro p e s m below meth c s₁ hx hZ hby hml hown hnm hret hlk X0 e0
  refine Ends.cast (efRf1 m oc (1 : Int32)) ?_
  show Ends none p e below s _ _ _ s₁ (mkF m 0 #[.val (.ref oc), .val (.int (1 : Int32))] [])
  have O0 := Ok.refl h0 []
  refine E.iloadN (q := 1) X0 hx (hb hby d20_0) rfl ?_
  refine E.iconst (q := 2) (v := (5 : Int32)) X0 hx (hb hby d20_1) rfl ?_
  refine E.icmpY (q := 16) X0 hx (hb hby d20_2) (XT.ii_lt_t (by decide)) ?_
  refine E.iloadN (q := 17) X0 hx (hb hby d20_16) rfl ?_
  refine E.iconst (q := 18) (v := (4 : Int32)) X0 hx (hb hby d20_17) rfl ?_
  refine E.icmpY (q := 32) X0 hx (hb hby d20_18) (XT.ii_lt_t (by decide)) ?_
  refine E.iloadN (q := 33) X0 hx (hb hby d20_32) rfl ?_
  refine E.iconst (q := 34) (v := (3 : Int32)) X0 hx (hb hby d20_33) rfl ?_
  refine E.icmpY (q := 48) X0 hx (hb hby d20_34) (XT.ii_lt_t (by decide)) ?_
  refine E.iloadN (q := 49) X0 hx (hb hby d20_48) rfl ?_
  refine E.iconst (q := 50) (v := (2 : Int32)) X0 hx (hb hby d20_49) rfl ?_
  refine E.icmpY (q := 64) X0 hx (hb hby d20_50) (XT.ii_lt_t (by decide)) ?_
  refine E.iloadN (q := 65) X0 hx (hb hby d20_64) rfl ?_
  refine E.iconst (q := 66) (v := (1 : Int32)) X0 hx (hb hby d20_65) rfl ?_
  refine E.icmpN (q := 69) X0 hx (hb hby d20_66) (XT.ii_lt_f (by decide)) ?_
  refine E.aloadN (q := 70) X0 hx (hb hby d20_69) rfl rfl ?_
  refine E.iloadN (q := 71) X0 hx (hb hby d20_70) rfl ?_
  refine E.iconst (q := 72) (v := (1 : Int32)) X0 hx (hb hby d20_71) rfl ?_
  refine Ends.callS X0 hx hZ hown (hw _ (List.mem_of_getElem? (i := 105) rfl)) (hw _ (List.mem_of_getElem? (i := 106) rfl)) (hw _ (List.mem_of_getElem? (i := 4) rfl)) (hw _ (List.mem_of_getElem? (i := 107) rfl)) (by decide) (argsL := [(.ref oc), (.int (1 : Int32)), (.int (1 : Int32))]) (rest := []) e0 (rmBd1_1 l Z a0 hw oc c0 c1 c2 c3 c4 c5 _ A_c) (W := 0) (by decide) (by decide) (by rw [hml]; rfl) (lenOf pd_20 rfl) (Nat.le_of_eq rfl) (hb hby d20_72) (by decide) (by decide) rfl ?_
  rintro T331 v331 L331 X331 ⟨rfl, e331, rfl⟩
  rw [List.append_nil] at X331
  show Ends none p e below s _ _ _ T331 (mkF m 75 #[.val (.ref oc), .val (.int (1 : Int32))] [(.int (if own_bord [c0, c1, c2, c3, c4, c5] 1 1 = true then (1 : Int32) else 0))])
  by_cases hq1 : (if own_bord [c0, c1, c2, c3, c4, c5] 1 1 = true then (1 : Int32) else 0) = (0 : Int32)
  · refine E.ifY (q := 80) X331 hx (hb hby d20_75) (XT.i0_eq_t hq1) ?_
    have hb1 : ¬ own_bord [c0, c1, c2, c3, c4, c5] 1 1 = true := own_ifn hq1
    refine E.iconst (q := 81) (v := (0 : Int32)) X331 hx (hb hby d20_80) rfl ?_
    have hr : own_ref [c0, c1, c2, c3, c4, c5] 1 = 0 := by simp [own_ref, hb1]
    exact Ends.retI X331 hx hlk hret (hb hby d20_81) (by decide) (by decide) ⟨by rw [hr]; rfl, e331, rfl⟩
  · refine E.ifN (q := 78) X331 hx (hb hby d20_75) (XT.i0_eq_f hq1) ?_
    have hb1 : own_bord [c0, c1, c2, c3, c4, c5] 1 1 = true := own_ifp hq1
    refine E.iconst (q := 79) (v := (1 : Int32)) X331 hx (hb hby d20_78) rfl ?_
    have hr : own_ref [c0, c1, c2, c3, c4, c5] 1 = 1 := by simp [own_ref, hb1]
    exact Ends.retI X331 hx hlk hret (hb hby d20_79) (by decide) (by decide) ⟨by rw [hr]; rfl, e331, rfl⟩
theorem efRf2 (m : MethodId) (x0 : Addr) (x1 : Int32) : entryFrame m #[(.ref x0), (.int x1)] 2 = mkF m 0 #[.val (.ref x0), .val (.int x1)] [] := by first | (simp [entryFrame, mkF, argsToLocals, Value.category]; done) | rfl
set_option maxRecDepth 65536 in
set_option maxHeartbeats 40000000 in
theorem rmRf2 (l : Launch) (Z : State) (a0 : Array Value) (hw : ∀ d ∈ tables_1, d.before a0 Z = true) (oc : Addr) (c0 c1 c2 c3 c4 c5 : Int32) (h0 : Heap) (A_c : Ary Z h0 oc .char [(.int c0), (.int c1), (.int c2), (.int c3), (.int c4), (.int c5)]) :
    Con l (⟨"com/example/needlework/needlework/match/PrefixTableOfPinLaw", "ref", "([CI)I"⟩ : MethodName) method_6_code 2 (some .int) [] ({ frames := 1, cells := 0, slots := 0, locals := 24 } : Room) #[(.ref oc), (.int (2 : Int32))] Z h0 (fun v h L => v = some (.int (Int32.ofNat (own_ref [c0, c1, c2, c3, c4, c5] 2))) ∧ h = h0 ∧ L = []) := by
  refine Con.of (plainFor_of_name pn_6) ?_
  intro p e s m below meth c s₁ hx hZ hby hml hown hnm hret hlk X0 e0
  refine Ends.cast (efRf2 m oc (2 : Int32)) ?_
  show Ends none p e below s _ _ _ s₁ (mkF m 0 #[.val (.ref oc), .val (.int (2 : Int32))] [])
  have O0 := Ok.refl h0 []
  refine E.iloadN (q := 1) X0 hx (hb hby d20_0) rfl ?_
  refine E.iconst (q := 2) (v := (5 : Int32)) X0 hx (hb hby d20_1) rfl ?_
  refine E.icmpY (q := 16) X0 hx (hb hby d20_2) (XT.ii_lt_t (by decide)) ?_
  refine E.iloadN (q := 17) X0 hx (hb hby d20_16) rfl ?_
  refine E.iconst (q := 18) (v := (4 : Int32)) X0 hx (hb hby d20_17) rfl ?_
  refine E.icmpY (q := 32) X0 hx (hb hby d20_18) (XT.ii_lt_t (by decide)) ?_
  refine E.iloadN (q := 33) X0 hx (hb hby d20_32) rfl ?_
  refine E.iconst (q := 34) (v := (3 : Int32)) X0 hx (hb hby d20_33) rfl ?_
  refine E.icmpY (q := 48) X0 hx (hb hby d20_34) (XT.ii_lt_t (by decide)) ?_
  refine E.iloadN (q := 49) X0 hx (hb hby d20_48) rfl ?_
  refine E.iconst (q := 50) (v := (2 : Int32)) X0 hx (hb hby d20_49) rfl ?_
  refine E.icmpN (q := 53) X0 hx (hb hby d20_50) (XT.ii_lt_f (by decide)) ?_
  refine E.aloadN (q := 54) X0 hx (hb hby d20_53) rfl rfl ?_
  refine E.iloadN (q := 55) X0 hx (hb hby d20_54) rfl ?_
  refine E.iconst (q := 56) (v := (2 : Int32)) X0 hx (hb hby d20_55) rfl ?_
  refine Ends.callS X0 hx hZ hown (hw _ (List.mem_of_getElem? (i := 105) rfl)) (hw _ (List.mem_of_getElem? (i := 106) rfl)) (hw _ (List.mem_of_getElem? (i := 4) rfl)) (hw _ (List.mem_of_getElem? (i := 107) rfl)) (by decide) (argsL := [(.ref oc), (.int (2 : Int32)), (.int (2 : Int32))]) (rest := []) e0 (rmBd2_2 l Z a0 hw oc c0 c1 c2 c3 c4 c5 _ A_c) (W := 0) (by decide) (by decide) (by rw [hml]; rfl) (lenOf pd_20 rfl) (Nat.le_of_eq rfl) (hb hby d20_56) (by decide) (by decide) rfl ?_
  rintro T332 v332 L332 X332 ⟨rfl, e332, rfl⟩
  rw [List.append_nil] at X332
  show Ends none p e below s _ _ _ T332 (mkF m 59 #[.val (.ref oc), .val (.int (2 : Int32))] [(.int (if own_bord [c0, c1, c2, c3, c4, c5] 2 2 = true then (1 : Int32) else 0))])
  by_cases hq2 : (if own_bord [c0, c1, c2, c3, c4, c5] 2 2 = true then (1 : Int32) else 0) = (0 : Int32)
  · refine E.ifY (q := 64) X332 hx (hb hby d20_59) (XT.i0_eq_t hq2) ?_
    have hb2 : ¬ own_bord [c0, c1, c2, c3, c4, c5] 2 2 = true := own_ifn hq2
    refine E.iloadN (q := 65) X332 hx (hb hby d20_64) rfl ?_
    refine E.iconst (q := 66) (v := (1 : Int32)) X332 hx (hb hby d20_65) rfl ?_
    refine E.icmpN (q := 69) X332 hx (hb hby d20_66) (XT.ii_lt_f (by decide)) ?_
    refine E.aloadN (q := 70) X332 hx (hb hby d20_69) rfl rfl ?_
    refine E.iloadN (q := 71) X332 hx (hb hby d20_70) rfl ?_
    refine E.iconst (q := 72) (v := (1 : Int32)) X332 hx (hb hby d20_71) rfl ?_
    refine Ends.callS X332 hx hZ hown (hw _ (List.mem_of_getElem? (i := 105) rfl)) (hw _ (List.mem_of_getElem? (i := 106) rfl)) (hw _ (List.mem_of_getElem? (i := 4) rfl)) (hw _ (List.mem_of_getElem? (i := 107) rfl)) (by decide) (argsL := [(.ref oc), (.int (2 : Int32)), (.int (1 : Int32))]) (rest := []) e332 (rmBd2_1 l Z a0 hw oc c0 c1 c2 c3 c4 c5 _ A_c) (W := 0) (by decide) (by decide) (by rw [hml]; rfl) (lenOf pd_20 rfl) (Nat.le_of_eq rfl) (hb hby d20_72) (by decide) (by decide) rfl ?_
    rintro T333 v333 L333 X333 ⟨rfl, e333, rfl⟩
    rw [List.append_nil] at X333
    show Ends none p e below s _ _ _ T333 (mkF m 75 #[.val (.ref oc), .val (.int (2 : Int32))] [(.int (if own_bord [c0, c1, c2, c3, c4, c5] 2 1 = true then (1 : Int32) else 0))])
    by_cases hq1 : (if own_bord [c0, c1, c2, c3, c4, c5] 2 1 = true then (1 : Int32) else 0) = (0 : Int32)
    · refine E.ifY (q := 80) X333 hx (hb hby d20_75) (XT.i0_eq_t hq1) ?_
      have hb1 : ¬ own_bord [c0, c1, c2, c3, c4, c5] 2 1 = true := own_ifn hq1
      refine E.iconst (q := 81) (v := (0 : Int32)) X333 hx (hb hby d20_80) rfl ?_
      have hr : own_ref [c0, c1, c2, c3, c4, c5] 2 = 0 := by simp [own_ref, hb2, hb1]
      exact Ends.retI X333 hx hlk hret (hb hby d20_81) (by decide) (by decide) ⟨by rw [hr]; rfl, e333, rfl⟩
    · refine E.ifN (q := 78) X333 hx (hb hby d20_75) (XT.i0_eq_f hq1) ?_
      have hb1 : own_bord [c0, c1, c2, c3, c4, c5] 2 1 = true := own_ifp hq1
      refine E.iconst (q := 79) (v := (1 : Int32)) X333 hx (hb hby d20_78) rfl ?_
      have hr : own_ref [c0, c1, c2, c3, c4, c5] 2 = 1 := by simp [own_ref, hb2, hb1]
      exact Ends.retI X333 hx hlk hret (hb hby d20_79) (by decide) (by decide) ⟨by rw [hr]; rfl, e333, rfl⟩
  · refine E.ifN (q := 62) X332 hx (hb hby d20_59) (XT.i0_eq_f hq2) ?_
    have hb2 : own_bord [c0, c1, c2, c3, c4, c5] 2 2 = true := own_ifp hq2
    refine E.iconst (q := 63) (v := (2 : Int32)) X332 hx (hb hby d20_62) rfl ?_
    have hr : own_ref [c0, c1, c2, c3, c4, c5] 2 = 2 := by simp [own_ref, hb2]
    exact Ends.retI X332 hx hlk hret (hb hby d20_63) (by decide) (by decide) ⟨by rw [hr]; rfl, e332, rfl⟩
theorem efRf3 (m : MethodId) (x0 : Addr) (x1 : Int32) : entryFrame m #[(.ref x0), (.int x1)] 2 = mkF m 0 #[.val (.ref x0), .val (.int x1)] [] := by first | (simp [entryFrame, mkF, argsToLocals, Value.category]; done) | rfl
set_option maxRecDepth 65536 in
set_option maxHeartbeats 40000000 in
theorem rmRf3 (l : Launch) (Z : State) (a0 : Array Value) (hw : ∀ d ∈ tables_1, d.before a0 Z = true) (oc : Addr) (c0 c1 c2 c3 c4 c5 : Int32) (h0 : Heap) (A_c : Ary Z h0 oc .char [(.int c0), (.int c1), (.int c2), (.int c3), (.int c4), (.int c5)]) :
    Con l (⟨"com/example/needlework/needlework/match/PrefixTableOfPinLaw", "ref", "([CI)I"⟩ : MethodName) method_6_code 2 (some .int) [] ({ frames := 1, cells := 0, slots := 0, locals := 24 } : Room) #[(.ref oc), (.int (3 : Int32))] Z h0 (fun v h L => v = some (.int (Int32.ofNat (own_ref [c0, c1, c2, c3, c4, c5] 3))) ∧ h = h0 ∧ L = []) := by
  refine Con.of (plainFor_of_name pn_6) ?_
  intro p e s m below meth c s₁ hx hZ hby hml hown hnm hret hlk X0 e0
  refine Ends.cast (efRf3 m oc (3 : Int32)) ?_
  show Ends none p e below s _ _ _ s₁ (mkF m 0 #[.val (.ref oc), .val (.int (3 : Int32))] [])
  have O0 := Ok.refl h0 []
  refine E.iloadN (q := 1) X0 hx (hb hby d20_0) rfl ?_
  refine E.iconst (q := 2) (v := (5 : Int32)) X0 hx (hb hby d20_1) rfl ?_
  refine E.icmpY (q := 16) X0 hx (hb hby d20_2) (XT.ii_lt_t (by decide)) ?_
  refine E.iloadN (q := 17) X0 hx (hb hby d20_16) rfl ?_
  refine E.iconst (q := 18) (v := (4 : Int32)) X0 hx (hb hby d20_17) rfl ?_
  refine E.icmpY (q := 32) X0 hx (hb hby d20_18) (XT.ii_lt_t (by decide)) ?_
  refine E.iloadN (q := 33) X0 hx (hb hby d20_32) rfl ?_
  refine E.iconst (q := 34) (v := (3 : Int32)) X0 hx (hb hby d20_33) rfl ?_
  refine E.icmpN (q := 37) X0 hx (hb hby d20_34) (XT.ii_lt_f (by decide)) ?_
  refine E.aloadN (q := 38) X0 hx (hb hby d20_37) rfl rfl ?_
  refine E.iloadN (q := 39) X0 hx (hb hby d20_38) rfl ?_
  refine E.iconst (q := 40) (v := (3 : Int32)) X0 hx (hb hby d20_39) rfl ?_
  refine Ends.callS X0 hx hZ hown (hw _ (List.mem_of_getElem? (i := 105) rfl)) (hw _ (List.mem_of_getElem? (i := 106) rfl)) (hw _ (List.mem_of_getElem? (i := 4) rfl)) (hw _ (List.mem_of_getElem? (i := 107) rfl)) (by decide) (argsL := [(.ref oc), (.int (3 : Int32)), (.int (3 : Int32))]) (rest := []) e0 (rmBd3_3 l Z a0 hw oc c0 c1 c2 c3 c4 c5 _ A_c) (W := 0) (by decide) (by decide) (by rw [hml]; rfl) (lenOf pd_20 rfl) (Nat.le_of_eq rfl) (hb hby d20_40) (by decide) (by decide) rfl ?_
  rintro T334 v334 L334 X334 ⟨rfl, e334, rfl⟩
  rw [List.append_nil] at X334
  show Ends none p e below s _ _ _ T334 (mkF m 43 #[.val (.ref oc), .val (.int (3 : Int32))] [(.int (if own_bord [c0, c1, c2, c3, c4, c5] 3 3 = true then (1 : Int32) else 0))])
  by_cases hq3 : (if own_bord [c0, c1, c2, c3, c4, c5] 3 3 = true then (1 : Int32) else 0) = (0 : Int32)
  · refine E.ifY (q := 48) X334 hx (hb hby d20_43) (XT.i0_eq_t hq3) ?_
    have hb3 : ¬ own_bord [c0, c1, c2, c3, c4, c5] 3 3 = true := own_ifn hq3
    refine E.iloadN (q := 49) X334 hx (hb hby d20_48) rfl ?_
    refine E.iconst (q := 50) (v := (2 : Int32)) X334 hx (hb hby d20_49) rfl ?_
    refine E.icmpN (q := 53) X334 hx (hb hby d20_50) (XT.ii_lt_f (by decide)) ?_
    refine E.aloadN (q := 54) X334 hx (hb hby d20_53) rfl rfl ?_
    refine E.iloadN (q := 55) X334 hx (hb hby d20_54) rfl ?_
    refine E.iconst (q := 56) (v := (2 : Int32)) X334 hx (hb hby d20_55) rfl ?_
    refine Ends.callS X334 hx hZ hown (hw _ (List.mem_of_getElem? (i := 105) rfl)) (hw _ (List.mem_of_getElem? (i := 106) rfl)) (hw _ (List.mem_of_getElem? (i := 4) rfl)) (hw _ (List.mem_of_getElem? (i := 107) rfl)) (by decide) (argsL := [(.ref oc), (.int (3 : Int32)), (.int (2 : Int32))]) (rest := []) e334 (rmBd3_2 l Z a0 hw oc c0 c1 c2 c3 c4 c5 _ A_c) (W := 0) (by decide) (by decide) (by rw [hml]; rfl) (lenOf pd_20 rfl) (Nat.le_of_eq rfl) (hb hby d20_56) (by decide) (by decide) rfl ?_
    rintro T335 v335 L335 X335 ⟨rfl, e335, rfl⟩
    rw [List.append_nil] at X335
    show Ends none p e below s _ _ _ T335 (mkF m 59 #[.val (.ref oc), .val (.int (3 : Int32))] [(.int (if own_bord [c0, c1, c2, c3, c4, c5] 3 2 = true then (1 : Int32) else 0))])
    by_cases hq2 : (if own_bord [c0, c1, c2, c3, c4, c5] 3 2 = true then (1 : Int32) else 0) = (0 : Int32)
    · refine E.ifY (q := 64) X335 hx (hb hby d20_59) (XT.i0_eq_t hq2) ?_
      have hb2 : ¬ own_bord [c0, c1, c2, c3, c4, c5] 3 2 = true := own_ifn hq2
      refine E.iloadN (q := 65) X335 hx (hb hby d20_64) rfl ?_
      refine E.iconst (q := 66) (v := (1 : Int32)) X335 hx (hb hby d20_65) rfl ?_
      refine E.icmpN (q := 69) X335 hx (hb hby d20_66) (XT.ii_lt_f (by decide)) ?_
      refine E.aloadN (q := 70) X335 hx (hb hby d20_69) rfl rfl ?_
      refine E.iloadN (q := 71) X335 hx (hb hby d20_70) rfl ?_
      refine E.iconst (q := 72) (v := (1 : Int32)) X335 hx (hb hby d20_71) rfl ?_
      refine Ends.callS X335 hx hZ hown (hw _ (List.mem_of_getElem? (i := 105) rfl)) (hw _ (List.mem_of_getElem? (i := 106) rfl)) (hw _ (List.mem_of_getElem? (i := 4) rfl)) (hw _ (List.mem_of_getElem? (i := 107) rfl)) (by decide) (argsL := [(.ref oc), (.int (3 : Int32)), (.int (1 : Int32))]) (rest := []) e335 (rmBd3_1 l Z a0 hw oc c0 c1 c2 c3 c4 c5 _ A_c) (W := 0) (by decide) (by decide) (by rw [hml]; rfl) (lenOf pd_20 rfl) (Nat.le_of_eq rfl) (hb hby d20_72) (by decide) (by decide) rfl ?_
      rintro T336 v336 L336 X336 ⟨rfl, e336, rfl⟩
      rw [List.append_nil] at X336
      show Ends none p e below s _ _ _ T336 (mkF m 75 #[.val (.ref oc), .val (.int (3 : Int32))] [(.int (if own_bord [c0, c1, c2, c3, c4, c5] 3 1 = true then (1 : Int32) else 0))])
      by_cases hq1 : (if own_bord [c0, c1, c2, c3, c4, c5] 3 1 = true then (1 : Int32) else 0) = (0 : Int32)
      · refine E.ifY (q := 80) X336 hx (hb hby d20_75) (XT.i0_eq_t hq1) ?_
        have hb1 : ¬ own_bord [c0, c1, c2, c3, c4, c5] 3 1 = true := own_ifn hq1
        refine E.iconst (q := 81) (v := (0 : Int32)) X336 hx (hb hby d20_80) rfl ?_
        have hr : own_ref [c0, c1, c2, c3, c4, c5] 3 = 0 := by simp [own_ref, hb3, hb2, hb1]
        exact Ends.retI X336 hx hlk hret (hb hby d20_81) (by decide) (by decide) ⟨by rw [hr]; rfl, e336, rfl⟩
      · refine E.ifN (q := 78) X336 hx (hb hby d20_75) (XT.i0_eq_f hq1) ?_
        have hb1 : own_bord [c0, c1, c2, c3, c4, c5] 3 1 = true := own_ifp hq1
        refine E.iconst (q := 79) (v := (1 : Int32)) X336 hx (hb hby d20_78) rfl ?_
        have hr : own_ref [c0, c1, c2, c3, c4, c5] 3 = 1 := by simp [own_ref, hb3, hb2, hb1]
        exact Ends.retI X336 hx hlk hret (hb hby d20_79) (by decide) (by decide) ⟨by rw [hr]; rfl, e336, rfl⟩
    · refine E.ifN (q := 62) X335 hx (hb hby d20_59) (XT.i0_eq_f hq2) ?_
      have hb2 : own_bord [c0, c1, c2, c3, c4, c5] 3 2 = true := own_ifp hq2
      refine E.iconst (q := 63) (v := (2 : Int32)) X335 hx (hb hby d20_62) rfl ?_
      have hr : own_ref [c0, c1, c2, c3, c4, c5] 3 = 2 := by simp [own_ref, hb3, hb2]
      exact Ends.retI X335 hx hlk hret (hb hby d20_63) (by decide) (by decide) ⟨by rw [hr]; rfl, e335, rfl⟩
  · refine E.ifN (q := 46) X334 hx (hb hby d20_43) (XT.i0_eq_f hq3) ?_
    have hb3 : own_bord [c0, c1, c2, c3, c4, c5] 3 3 = true := own_ifp hq3
    refine E.iconst (q := 47) (v := (3 : Int32)) X334 hx (hb hby d20_46) rfl ?_
    have hr : own_ref [c0, c1, c2, c3, c4, c5] 3 = 3 := by simp [own_ref, hb3]
    exact Ends.retI X334 hx hlk hret (hb hby d20_47) (by decide) (by decide) ⟨by rw [hr]; rfl, e334, rfl⟩
theorem efRf4 (m : MethodId) (x0 : Addr) (x1 : Int32) : entryFrame m #[(.ref x0), (.int x1)] 2 = mkF m 0 #[.val (.ref x0), .val (.int x1)] [] := by first | (simp [entryFrame, mkF, argsToLocals, Value.category]; done) | rfl
set_option maxRecDepth 65536 in
set_option maxHeartbeats 40000000 in
theorem rmRf4 (l : Launch) (Z : State) (a0 : Array Value) (hw : ∀ d ∈ tables_1, d.before a0 Z = true) (oc : Addr) (c0 c1 c2 c3 c4 c5 : Int32) (h0 : Heap) (A_c : Ary Z h0 oc .char [(.int c0), (.int c1), (.int c2), (.int c3), (.int c4), (.int c5)]) :
    Con l (⟨"com/example/needlework/needlework/match/PrefixTableOfPinLaw", "ref", "([CI)I"⟩ : MethodName) method_6_code 2 (some .int) [] ({ frames := 1, cells := 0, slots := 0, locals := 24 } : Room) #[(.ref oc), (.int (4 : Int32))] Z h0 (fun v h L => v = some (.int (Int32.ofNat (own_ref [c0, c1, c2, c3, c4, c5] 4))) ∧ h = h0 ∧ L = []) := by
  refine Con.of (plainFor_of_name pn_6) ?_
  intro p e s m below meth c s₁ hx hZ hby hml hown hnm hret hlk X0 e0
  refine Ends.cast (efRf4 m oc (4 : Int32)) ?_
  show Ends none p e below s _ _ _ s₁ (mkF m 0 #[.val (.ref oc), .val (.int (4 : Int32))] [])
  have O0 := Ok.refl h0 []
  refine E.iloadN (q := 1) X0 hx (hb hby d20_0) rfl ?_
  refine E.iconst (q := 2) (v := (5 : Int32)) X0 hx (hb hby d20_1) rfl ?_
  refine E.icmpY (q := 16) X0 hx (hb hby d20_2) (XT.ii_lt_t (by decide)) ?_
  refine E.iloadN (q := 17) X0 hx (hb hby d20_16) rfl ?_
  refine E.iconst (q := 18) (v := (4 : Int32)) X0 hx (hb hby d20_17) rfl ?_
  refine E.icmpN (q := 21) X0 hx (hb hby d20_18) (XT.ii_lt_f (by decide)) ?_
  refine E.aloadN (q := 22) X0 hx (hb hby d20_21) rfl rfl ?_
  refine E.iloadN (q := 23) X0 hx (hb hby d20_22) rfl ?_
  refine E.iconst (q := 24) (v := (4 : Int32)) X0 hx (hb hby d20_23) rfl ?_
  refine Ends.callS X0 hx hZ hown (hw _ (List.mem_of_getElem? (i := 105) rfl)) (hw _ (List.mem_of_getElem? (i := 106) rfl)) (hw _ (List.mem_of_getElem? (i := 4) rfl)) (hw _ (List.mem_of_getElem? (i := 107) rfl)) (by decide) (argsL := [(.ref oc), (.int (4 : Int32)), (.int (4 : Int32))]) (rest := []) e0 (rmBd4_4 l Z a0 hw oc c0 c1 c2 c3 c4 c5 _ A_c) (W := 0) (by decide) (by decide) (by rw [hml]; rfl) (lenOf pd_20 rfl) (Nat.le_of_eq rfl) (hb hby d20_24) (by decide) (by decide) rfl ?_
  rintro T337 v337 L337 X337 ⟨rfl, e337, rfl⟩
  rw [List.append_nil] at X337
  show Ends none p e below s _ _ _ T337 (mkF m 27 #[.val (.ref oc), .val (.int (4 : Int32))] [(.int (if own_bord [c0, c1, c2, c3, c4, c5] 4 4 = true then (1 : Int32) else 0))])
  by_cases hq4 : (if own_bord [c0, c1, c2, c3, c4, c5] 4 4 = true then (1 : Int32) else 0) = (0 : Int32)
  · refine E.ifY (q := 32) X337 hx (hb hby d20_27) (XT.i0_eq_t hq4) ?_
    have hb4 : ¬ own_bord [c0, c1, c2, c3, c4, c5] 4 4 = true := own_ifn hq4
    refine E.iloadN (q := 33) X337 hx (hb hby d20_32) rfl ?_
    refine E.iconst (q := 34) (v := (3 : Int32)) X337 hx (hb hby d20_33) rfl ?_
    refine E.icmpN (q := 37) X337 hx (hb hby d20_34) (XT.ii_lt_f (by decide)) ?_
    refine E.aloadN (q := 38) X337 hx (hb hby d20_37) rfl rfl ?_
    refine E.iloadN (q := 39) X337 hx (hb hby d20_38) rfl ?_
    refine E.iconst (q := 40) (v := (3 : Int32)) X337 hx (hb hby d20_39) rfl ?_
    refine Ends.callS X337 hx hZ hown (hw _ (List.mem_of_getElem? (i := 105) rfl)) (hw _ (List.mem_of_getElem? (i := 106) rfl)) (hw _ (List.mem_of_getElem? (i := 4) rfl)) (hw _ (List.mem_of_getElem? (i := 107) rfl)) (by decide) (argsL := [(.ref oc), (.int (4 : Int32)), (.int (3 : Int32))]) (rest := []) e337 (rmBd4_3 l Z a0 hw oc c0 c1 c2 c3 c4 c5 _ A_c) (W := 0) (by decide) (by decide) (by rw [hml]; rfl) (lenOf pd_20 rfl) (Nat.le_of_eq rfl) (hb hby d20_40) (by decide) (by decide) rfl ?_
    rintro T338 v338 L338 X338 ⟨rfl, e338, rfl⟩
    rw [List.append_nil] at X338
    show Ends none p e below s _ _ _ T338 (mkF m 43 #[.val (.ref oc), .val (.int (4 : Int32))] [(.int (if own_bord [c0, c1, c2, c3, c4, c5] 4 3 = true then (1 : Int32) else 0))])
    by_cases hq3 : (if own_bord [c0, c1, c2, c3, c4, c5] 4 3 = true then (1 : Int32) else 0) = (0 : Int32)
    · refine E.ifY (q := 48) X338 hx (hb hby d20_43) (XT.i0_eq_t hq3) ?_
      have hb3 : ¬ own_bord [c0, c1, c2, c3, c4, c5] 4 3 = true := own_ifn hq3
      refine E.iloadN (q := 49) X338 hx (hb hby d20_48) rfl ?_
      refine E.iconst (q := 50) (v := (2 : Int32)) X338 hx (hb hby d20_49) rfl ?_
      refine E.icmpN (q := 53) X338 hx (hb hby d20_50) (XT.ii_lt_f (by decide)) ?_
      refine E.aloadN (q := 54) X338 hx (hb hby d20_53) rfl rfl ?_
      refine E.iloadN (q := 55) X338 hx (hb hby d20_54) rfl ?_
      refine E.iconst (q := 56) (v := (2 : Int32)) X338 hx (hb hby d20_55) rfl ?_
      refine Ends.callS X338 hx hZ hown (hw _ (List.mem_of_getElem? (i := 105) rfl)) (hw _ (List.mem_of_getElem? (i := 106) rfl)) (hw _ (List.mem_of_getElem? (i := 4) rfl)) (hw _ (List.mem_of_getElem? (i := 107) rfl)) (by decide) (argsL := [(.ref oc), (.int (4 : Int32)), (.int (2 : Int32))]) (rest := []) e338 (rmBd4_2 l Z a0 hw oc c0 c1 c2 c3 c4 c5 _ A_c) (W := 0) (by decide) (by decide) (by rw [hml]; rfl) (lenOf pd_20 rfl) (Nat.le_of_eq rfl) (hb hby d20_56) (by decide) (by decide) rfl ?_
      rintro T339 v339 L339 X339 ⟨rfl, e339, rfl⟩
      rw [List.append_nil] at X339
      show Ends none p e below s _ _ _ T339 (mkF m 59 #[.val (.ref oc), .val (.int (4 : Int32))] [(.int (if own_bord [c0, c1, c2, c3, c4, c5] 4 2 = true then (1 : Int32) else 0))])
      by_cases hq2 : (if own_bord [c0, c1, c2, c3, c4, c5] 4 2 = true then (1 : Int32) else 0) = (0 : Int32)
      · refine E.ifY (q := 64) X339 hx (hb hby d20_59) (XT.i0_eq_t hq2) ?_
        have hb2 : ¬ own_bord [c0, c1, c2, c3, c4, c5] 4 2 = true := own_ifn hq2
        refine E.iloadN (q := 65) X339 hx (hb hby d20_64) rfl ?_
        refine E.iconst (q := 66) (v := (1 : Int32)) X339 hx (hb hby d20_65) rfl ?_
        refine E.icmpN (q := 69) X339 hx (hb hby d20_66) (XT.ii_lt_f (by decide)) ?_
        refine E.aloadN (q := 70) X339 hx (hb hby d20_69) rfl rfl ?_
        refine E.iloadN (q := 71) X339 hx (hb hby d20_70) rfl ?_
        refine E.iconst (q := 72) (v := (1 : Int32)) X339 hx (hb hby d20_71) rfl ?_
        refine Ends.callS X339 hx hZ hown (hw _ (List.mem_of_getElem? (i := 105) rfl)) (hw _ (List.mem_of_getElem? (i := 106) rfl)) (hw _ (List.mem_of_getElem? (i := 4) rfl)) (hw _ (List.mem_of_getElem? (i := 107) rfl)) (by decide) (argsL := [(.ref oc), (.int (4 : Int32)), (.int (1 : Int32))]) (rest := []) e339 (rmBd4_1 l Z a0 hw oc c0 c1 c2 c3 c4 c5 _ A_c) (W := 0) (by decide) (by decide) (by rw [hml]; rfl) (lenOf pd_20 rfl) (Nat.le_of_eq rfl) (hb hby d20_72) (by decide) (by decide) rfl ?_
        rintro T340 v340 L340 X340 ⟨rfl, e340, rfl⟩
        rw [List.append_nil] at X340
        show Ends none p e below s _ _ _ T340 (mkF m 75 #[.val (.ref oc), .val (.int (4 : Int32))] [(.int (if own_bord [c0, c1, c2, c3, c4, c5] 4 1 = true then (1 : Int32) else 0))])
        by_cases hq1 : (if own_bord [c0, c1, c2, c3, c4, c5] 4 1 = true then (1 : Int32) else 0) = (0 : Int32)
        · refine E.ifY (q := 80) X340 hx (hb hby d20_75) (XT.i0_eq_t hq1) ?_
          have hb1 : ¬ own_bord [c0, c1, c2, c3, c4, c5] 4 1 = true := own_ifn hq1
          refine E.iconst (q := 81) (v := (0 : Int32)) X340 hx (hb hby d20_80) rfl ?_
          have hr : own_ref [c0, c1, c2, c3, c4, c5] 4 = 0 := by simp [own_ref, hb4, hb3, hb2, hb1]
          exact Ends.retI X340 hx hlk hret (hb hby d20_81) (by decide) (by decide) ⟨by rw [hr]; rfl, e340, rfl⟩
        · refine E.ifN (q := 78) X340 hx (hb hby d20_75) (XT.i0_eq_f hq1) ?_
          have hb1 : own_bord [c0, c1, c2, c3, c4, c5] 4 1 = true := own_ifp hq1
          refine E.iconst (q := 79) (v := (1 : Int32)) X340 hx (hb hby d20_78) rfl ?_
          have hr : own_ref [c0, c1, c2, c3, c4, c5] 4 = 1 := by simp [own_ref, hb4, hb3, hb2, hb1]
          exact Ends.retI X340 hx hlk hret (hb hby d20_79) (by decide) (by decide) ⟨by rw [hr]; rfl, e340, rfl⟩
      · refine E.ifN (q := 62) X339 hx (hb hby d20_59) (XT.i0_eq_f hq2) ?_
        have hb2 : own_bord [c0, c1, c2, c3, c4, c5] 4 2 = true := own_ifp hq2
        refine E.iconst (q := 63) (v := (2 : Int32)) X339 hx (hb hby d20_62) rfl ?_
        have hr : own_ref [c0, c1, c2, c3, c4, c5] 4 = 2 := by simp [own_ref, hb4, hb3, hb2]
        exact Ends.retI X339 hx hlk hret (hb hby d20_63) (by decide) (by decide) ⟨by rw [hr]; rfl, e339, rfl⟩
    · refine E.ifN (q := 46) X338 hx (hb hby d20_43) (XT.i0_eq_f hq3) ?_
      have hb3 : own_bord [c0, c1, c2, c3, c4, c5] 4 3 = true := own_ifp hq3
      refine E.iconst (q := 47) (v := (3 : Int32)) X338 hx (hb hby d20_46) rfl ?_
      have hr : own_ref [c0, c1, c2, c3, c4, c5] 4 = 3 := by simp [own_ref, hb4, hb3]
      exact Ends.retI X338 hx hlk hret (hb hby d20_47) (by decide) (by decide) ⟨by rw [hr]; rfl, e338, rfl⟩
  · refine E.ifN (q := 30) X337 hx (hb hby d20_27) (XT.i0_eq_f hq4) ?_
    have hb4 : own_bord [c0, c1, c2, c3, c4, c5] 4 4 = true := own_ifp hq4
    refine E.iconst (q := 31) (v := (4 : Int32)) X337 hx (hb hby d20_30) rfl ?_
    have hr : own_ref [c0, c1, c2, c3, c4, c5] 4 = 4 := by simp [own_ref, hb4]
    exact Ends.retI X337 hx hlk hret (hb hby d20_31) (by decide) (by decide) ⟨by rw [hr]; rfl, e337, rfl⟩
theorem efRf5 (m : MethodId) (x0 : Addr) (x1 : Int32) : entryFrame m #[(.ref x0), (.int x1)] 2 = mkF m 0 #[.val (.ref x0), .val (.int x1)] [] := by first | (simp [entryFrame, mkF, argsToLocals, Value.category]; done) | rfl
set_option maxRecDepth 65536 in
set_option maxHeartbeats 40000000 in
theorem rmRf5 (l : Launch) (Z : State) (a0 : Array Value) (hw : ∀ d ∈ tables_1, d.before a0 Z = true) (oc : Addr) (c0 c1 c2 c3 c4 c5 : Int32) (h0 : Heap) (A_c : Ary Z h0 oc .char [(.int c0), (.int c1), (.int c2), (.int c3), (.int c4), (.int c5)]) :
    Con l (⟨"com/example/needlework/needlework/match/PrefixTableOfPinLaw", "ref", "([CI)I"⟩ : MethodName) method_6_code 2 (some .int) [] ({ frames := 1, cells := 0, slots := 0, locals := 24 } : Room) #[(.ref oc), (.int (5 : Int32))] Z h0 (fun v h L => v = some (.int (Int32.ofNat (own_ref [c0, c1, c2, c3, c4, c5] 5))) ∧ h = h0 ∧ L = []) := by
  refine Con.of (plainFor_of_name pn_6) ?_
  intro p e s m below meth c s₁ hx hZ hby hml hown hnm hret hlk X0 e0
  refine Ends.cast (efRf5 m oc (5 : Int32)) ?_
  show Ends none p e below s _ _ _ s₁ (mkF m 0 #[.val (.ref oc), .val (.int (5 : Int32))] [])
  have O0 := Ok.refl h0 []
  refine E.iloadN (q := 1) X0 hx (hb hby d20_0) rfl ?_
  refine E.iconst (q := 2) (v := (5 : Int32)) X0 hx (hb hby d20_1) rfl ?_
  refine E.icmpN (q := 5) X0 hx (hb hby d20_2) (XT.ii_lt_f (by decide)) ?_
  refine E.aloadN (q := 6) X0 hx (hb hby d20_5) rfl rfl ?_
  refine E.iloadN (q := 7) X0 hx (hb hby d20_6) rfl ?_
  refine E.iconst (q := 8) (v := (5 : Int32)) X0 hx (hb hby d20_7) rfl ?_
  refine Ends.callS X0 hx hZ hown (hw _ (List.mem_of_getElem? (i := 105) rfl)) (hw _ (List.mem_of_getElem? (i := 106) rfl)) (hw _ (List.mem_of_getElem? (i := 4) rfl)) (hw _ (List.mem_of_getElem? (i := 107) rfl)) (by decide) (argsL := [(.ref oc), (.int (5 : Int32)), (.int (5 : Int32))]) (rest := []) e0 (rmBd5_5 l Z a0 hw oc c0 c1 c2 c3 c4 c5 _ A_c) (W := 0) (by decide) (by decide) (by rw [hml]; rfl) (lenOf pd_20 rfl) (Nat.le_of_eq rfl) (hb hby d20_8) (by decide) (by decide) rfl ?_
  rintro T341 v341 L341 X341 ⟨rfl, e341, rfl⟩
  rw [List.append_nil] at X341
  show Ends none p e below s _ _ _ T341 (mkF m 11 #[.val (.ref oc), .val (.int (5 : Int32))] [(.int (if own_bord [c0, c1, c2, c3, c4, c5] 5 5 = true then (1 : Int32) else 0))])
  by_cases hq5 : (if own_bord [c0, c1, c2, c3, c4, c5] 5 5 = true then (1 : Int32) else 0) = (0 : Int32)
  · refine E.ifY (q := 16) X341 hx (hb hby d20_11) (XT.i0_eq_t hq5) ?_
    have hb5 : ¬ own_bord [c0, c1, c2, c3, c4, c5] 5 5 = true := own_ifn hq5
    refine E.iloadN (q := 17) X341 hx (hb hby d20_16) rfl ?_
    refine E.iconst (q := 18) (v := (4 : Int32)) X341 hx (hb hby d20_17) rfl ?_
    refine E.icmpN (q := 21) X341 hx (hb hby d20_18) (XT.ii_lt_f (by decide)) ?_
    refine E.aloadN (q := 22) X341 hx (hb hby d20_21) rfl rfl ?_
    refine E.iloadN (q := 23) X341 hx (hb hby d20_22) rfl ?_
    refine E.iconst (q := 24) (v := (4 : Int32)) X341 hx (hb hby d20_23) rfl ?_
    refine Ends.callS X341 hx hZ hown (hw _ (List.mem_of_getElem? (i := 105) rfl)) (hw _ (List.mem_of_getElem? (i := 106) rfl)) (hw _ (List.mem_of_getElem? (i := 4) rfl)) (hw _ (List.mem_of_getElem? (i := 107) rfl)) (by decide) (argsL := [(.ref oc), (.int (5 : Int32)), (.int (4 : Int32))]) (rest := []) e341 (rmBd5_4 l Z a0 hw oc c0 c1 c2 c3 c4 c5 _ A_c) (W := 0) (by decide) (by decide) (by rw [hml]; rfl) (lenOf pd_20 rfl) (Nat.le_of_eq rfl) (hb hby d20_24) (by decide) (by decide) rfl ?_
    rintro T342 v342 L342 X342 ⟨rfl, e342, rfl⟩
    rw [List.append_nil] at X342
    show Ends none p e below s _ _ _ T342 (mkF m 27 #[.val (.ref oc), .val (.int (5 : Int32))] [(.int (if own_bord [c0, c1, c2, c3, c4, c5] 5 4 = true then (1 : Int32) else 0))])
    by_cases hq4 : (if own_bord [c0, c1, c2, c3, c4, c5] 5 4 = true then (1 : Int32) else 0) = (0 : Int32)
    · refine E.ifY (q := 32) X342 hx (hb hby d20_27) (XT.i0_eq_t hq4) ?_
      have hb4 : ¬ own_bord [c0, c1, c2, c3, c4, c5] 5 4 = true := own_ifn hq4
      refine E.iloadN (q := 33) X342 hx (hb hby d20_32) rfl ?_
      refine E.iconst (q := 34) (v := (3 : Int32)) X342 hx (hb hby d20_33) rfl ?_
      refine E.icmpN (q := 37) X342 hx (hb hby d20_34) (XT.ii_lt_f (by decide)) ?_
      refine E.aloadN (q := 38) X342 hx (hb hby d20_37) rfl rfl ?_
      refine E.iloadN (q := 39) X342 hx (hb hby d20_38) rfl ?_
      refine E.iconst (q := 40) (v := (3 : Int32)) X342 hx (hb hby d20_39) rfl ?_
      refine Ends.callS X342 hx hZ hown (hw _ (List.mem_of_getElem? (i := 105) rfl)) (hw _ (List.mem_of_getElem? (i := 106) rfl)) (hw _ (List.mem_of_getElem? (i := 4) rfl)) (hw _ (List.mem_of_getElem? (i := 107) rfl)) (by decide) (argsL := [(.ref oc), (.int (5 : Int32)), (.int (3 : Int32))]) (rest := []) e342 (rmBd5_3 l Z a0 hw oc c0 c1 c2 c3 c4 c5 _ A_c) (W := 0) (by decide) (by decide) (by rw [hml]; rfl) (lenOf pd_20 rfl) (Nat.le_of_eq rfl) (hb hby d20_40) (by decide) (by decide) rfl ?_
      rintro T343 v343 L343 X343 ⟨rfl, e343, rfl⟩
      rw [List.append_nil] at X343
      show Ends none p e below s _ _ _ T343 (mkF m 43 #[.val (.ref oc), .val (.int (5 : Int32))] [(.int (if own_bord [c0, c1, c2, c3, c4, c5] 5 3 = true then (1 : Int32) else 0))])
      by_cases hq3 : (if own_bord [c0, c1, c2, c3, c4, c5] 5 3 = true then (1 : Int32) else 0) = (0 : Int32)
      · refine E.ifY (q := 48) X343 hx (hb hby d20_43) (XT.i0_eq_t hq3) ?_
        have hb3 : ¬ own_bord [c0, c1, c2, c3, c4, c5] 5 3 = true := own_ifn hq3
        refine E.iloadN (q := 49) X343 hx (hb hby d20_48) rfl ?_
        refine E.iconst (q := 50) (v := (2 : Int32)) X343 hx (hb hby d20_49) rfl ?_
        refine E.icmpN (q := 53) X343 hx (hb hby d20_50) (XT.ii_lt_f (by decide)) ?_
        refine E.aloadN (q := 54) X343 hx (hb hby d20_53) rfl rfl ?_
        refine E.iloadN (q := 55) X343 hx (hb hby d20_54) rfl ?_
        refine E.iconst (q := 56) (v := (2 : Int32)) X343 hx (hb hby d20_55) rfl ?_
        refine Ends.callS X343 hx hZ hown (hw _ (List.mem_of_getElem? (i := 105) rfl)) (hw _ (List.mem_of_getElem? (i := 106) rfl)) (hw _ (List.mem_of_getElem? (i := 4) rfl)) (hw _ (List.mem_of_getElem? (i := 107) rfl)) (by decide) (argsL := [(.ref oc), (.int (5 : Int32)), (.int (2 : Int32))]) (rest := []) e343 (rmBd5_2 l Z a0 hw oc c0 c1 c2 c3 c4 c5 _ A_c) (W := 0) (by decide) (by decide) (by rw [hml]; rfl) (lenOf pd_20 rfl) (Nat.le_of_eq rfl) (hb hby d20_56) (by decide) (by decide) rfl ?_
        rintro T344 v344 L344 X344 ⟨rfl, e344, rfl⟩
        rw [List.append_nil] at X344
        show Ends none p e below s _ _ _ T344 (mkF m 59 #[.val (.ref oc), .val (.int (5 : Int32))] [(.int (if own_bord [c0, c1, c2, c3, c4, c5] 5 2 = true then (1 : Int32) else 0))])
        by_cases hq2 : (if own_bord [c0, c1, c2, c3, c4, c5] 5 2 = true then (1 : Int32) else 0) = (0 : Int32)
        · refine E.ifY (q := 64) X344 hx (hb hby d20_59) (XT.i0_eq_t hq2) ?_
          have hb2 : ¬ own_bord [c0, c1, c2, c3, c4, c5] 5 2 = true := own_ifn hq2
          refine E.iloadN (q := 65) X344 hx (hb hby d20_64) rfl ?_
          refine E.iconst (q := 66) (v := (1 : Int32)) X344 hx (hb hby d20_65) rfl ?_
          refine E.icmpN (q := 69) X344 hx (hb hby d20_66) (XT.ii_lt_f (by decide)) ?_
          refine E.aloadN (q := 70) X344 hx (hb hby d20_69) rfl rfl ?_
          refine E.iloadN (q := 71) X344 hx (hb hby d20_70) rfl ?_
          refine E.iconst (q := 72) (v := (1 : Int32)) X344 hx (hb hby d20_71) rfl ?_
          refine Ends.callS X344 hx hZ hown (hw _ (List.mem_of_getElem? (i := 105) rfl)) (hw _ (List.mem_of_getElem? (i := 106) rfl)) (hw _ (List.mem_of_getElem? (i := 4) rfl)) (hw _ (List.mem_of_getElem? (i := 107) rfl)) (by decide) (argsL := [(.ref oc), (.int (5 : Int32)), (.int (1 : Int32))]) (rest := []) e344 (rmBd5_1 l Z a0 hw oc c0 c1 c2 c3 c4 c5 _ A_c) (W := 0) (by decide) (by decide) (by rw [hml]; rfl) (lenOf pd_20 rfl) (Nat.le_of_eq rfl) (hb hby d20_72) (by decide) (by decide) rfl ?_
          rintro T345 v345 L345 X345 ⟨rfl, e345, rfl⟩
          rw [List.append_nil] at X345
          show Ends none p e below s _ _ _ T345 (mkF m 75 #[.val (.ref oc), .val (.int (5 : Int32))] [(.int (if own_bord [c0, c1, c2, c3, c4, c5] 5 1 = true then (1 : Int32) else 0))])
          by_cases hq1 : (if own_bord [c0, c1, c2, c3, c4, c5] 5 1 = true then (1 : Int32) else 0) = (0 : Int32)
          · refine E.ifY (q := 80) X345 hx (hb hby d20_75) (XT.i0_eq_t hq1) ?_
            have hb1 : ¬ own_bord [c0, c1, c2, c3, c4, c5] 5 1 = true := own_ifn hq1
            refine E.iconst (q := 81) (v := (0 : Int32)) X345 hx (hb hby d20_80) rfl ?_
            have hr : own_ref [c0, c1, c2, c3, c4, c5] 5 = 0 := by simp [own_ref, hb5, hb4, hb3, hb2, hb1]
            exact Ends.retI X345 hx hlk hret (hb hby d20_81) (by decide) (by decide) ⟨by rw [hr]; rfl, e345, rfl⟩
          · refine E.ifN (q := 78) X345 hx (hb hby d20_75) (XT.i0_eq_f hq1) ?_
            have hb1 : own_bord [c0, c1, c2, c3, c4, c5] 5 1 = true := own_ifp hq1
            refine E.iconst (q := 79) (v := (1 : Int32)) X345 hx (hb hby d20_78) rfl ?_
            have hr : own_ref [c0, c1, c2, c3, c4, c5] 5 = 1 := by simp [own_ref, hb5, hb4, hb3, hb2, hb1]
            exact Ends.retI X345 hx hlk hret (hb hby d20_79) (by decide) (by decide) ⟨by rw [hr]; rfl, e345, rfl⟩
        · refine E.ifN (q := 62) X344 hx (hb hby d20_59) (XT.i0_eq_f hq2) ?_
          have hb2 : own_bord [c0, c1, c2, c3, c4, c5] 5 2 = true := own_ifp hq2
          refine E.iconst (q := 63) (v := (2 : Int32)) X344 hx (hb hby d20_62) rfl ?_
          have hr : own_ref [c0, c1, c2, c3, c4, c5] 5 = 2 := by simp [own_ref, hb5, hb4, hb3, hb2]
          exact Ends.retI X344 hx hlk hret (hb hby d20_63) (by decide) (by decide) ⟨by rw [hr]; rfl, e344, rfl⟩
      · refine E.ifN (q := 46) X343 hx (hb hby d20_43) (XT.i0_eq_f hq3) ?_
        have hb3 : own_bord [c0, c1, c2, c3, c4, c5] 5 3 = true := own_ifp hq3
        refine E.iconst (q := 47) (v := (3 : Int32)) X343 hx (hb hby d20_46) rfl ?_
        have hr : own_ref [c0, c1, c2, c3, c4, c5] 5 = 3 := by simp [own_ref, hb5, hb4, hb3]
        exact Ends.retI X343 hx hlk hret (hb hby d20_47) (by decide) (by decide) ⟨by rw [hr]; rfl, e343, rfl⟩
    · refine E.ifN (q := 30) X342 hx (hb hby d20_27) (XT.i0_eq_f hq4) ?_
      have hb4 : own_bord [c0, c1, c2, c3, c4, c5] 5 4 = true := own_ifp hq4
      refine E.iconst (q := 31) (v := (4 : Int32)) X342 hx (hb hby d20_30) rfl ?_
      have hr : own_ref [c0, c1, c2, c3, c4, c5] 5 = 4 := by simp [own_ref, hb5, hb4]
      exact Ends.retI X342 hx hlk hret (hb hby d20_31) (by decide) (by decide) ⟨by rw [hr]; rfl, e342, rfl⟩
  · refine E.ifN (q := 14) X341 hx (hb hby d20_11) (XT.i0_eq_f hq5) ?_
    have hb5 : own_bord [c0, c1, c2, c3, c4, c5] 5 5 = true := own_ifp hq5
    refine E.iconst (q := 15) (v := (5 : Int32)) X341 hx (hb hby d20_14) rfl ?_
    have hr : own_ref [c0, c1, c2, c3, c4, c5] 5 = 5 := by simp [own_ref, hb5]
    exact Ends.retI X341 hx hlk hret (hb hby d20_15) (by decide) (by decide) ⟨by rw [hr]; rfl, e341, rfl⟩
theorem efCk0 (m : MethodId) (x0 : Addr) (x1 : Addr) (x2 : Int32) (x3 : Int32) : entryFrame m #[(.ref x0), (.ref x1), (.int x2), (.int x3)] 4 = mkF m 0 #[.val (.ref x0), .val (.ref x1), .val (.int x2), .val (.int x3)] [] := by first | (simp [entryFrame, mkF, argsToLocals, Value.category]; done) | rfl
set_option maxRecDepth 65536 in
set_option maxHeartbeats 40000000 in
theorem rmCk0 (l : Launch) (Z : State) (a0 : Array Value) (hw : ∀ d ∈ tables_1, d.before a0 Z = true) (ot : Addr) (oc : Addr) (c0 c1 c2 c3 c4 c5 : Int32) (n : Nat) (hn : n ≤ 6) (ts : List Int32) (ht : 0 < n → ts[0]? = some (Int32.ofNat (own_ref [c0, c1, c2, c3, c4, c5] 0))) (h0 : Heap) (A_c : Ary Z h0 oc .char [(.int c0), (.int c1), (.int c2), (.int c3), (.int c4), (.int c5)]) (A_t : Ary Z h0 ot .int (ts.map Value.int)) :
    Con l (⟨"com/example/needlework/needlework/match/PrefixTableOfPinLaw", "check", "([I[CII)Z"⟩ : MethodName) method_4_code 4 (some .boolean) [] ({ frames := 2, cells := 0, slots := 0, locals := 48 } : Room) #[(.ref ot), (.ref oc), (.int (Int32.ofNat n)), (.int (0 : Int32))] Z h0 (fun v h L => v = some (.int (1 : Int32)) ∧ h = h0 ∧ L = []) := by
  refine Con.of (plainFor_of_name pn_6) ?_
  intro p e s m below meth c s₁ hx hZ hby hml hown hnm hret hlk X0 e0
  refine Ends.cast (efCk0 m ot oc (Int32.ofNat n) (0 : Int32)) ?_
  show Ends none p e below s _ _ _ s₁ (mkF m 0 #[.val (.ref ot), .val (.ref oc), .val (.int (Int32.ofNat n)), .val (.int (0 : Int32))] [])
  have O0 := Ok.refl h0 []
  refine E.iloadN (q := 1) X0 hx (hb hby d11_0) rfl ?_
  refine E.iloadN (q := 2) X0 hx (hb hby d11_1) rfl ?_
  by_cases hq : (0 : Int32) < (Int32.ofNat n)
  · refine E.icmpN (q := 5) X0 hx (hb hby d11_2) (XT.ii_ge_f hq) ?_
    have hin : 0 < n := (own_ltN (a := 0) (by decide) (by omega)).mp hq
    refine E.aloadN (q := 6) X0 hx (hb hby d11_5) rfl rfl ?_
    refine E.iloadN (q := 7) X0 hx (hb hby d11_6) rfl ?_
    refine Ends.ild X0 hx hZ e0 A_t (i := 0) (v := .int (Int32.ofNat (own_ref [c0, c1, c2, c3, c4, c5] 0))) rfl (by rw [List.getElem?_map, ht hin]; rfl) (hb hby d11_7) ?_
    show Ends none p e below s _ _ _ s₁ (mkF m 8 #[.val (.ref ot), .val (.ref oc), .val (.int (Int32.ofNat n)), .val (.int (0 : Int32))] [(.int (Int32.ofNat (own_ref [c0, c1, c2, c3, c4, c5] 0)))])
    refine E.aloadN (q := 9) X0 hx (hb hby d11_8) rfl rfl ?_
    refine E.iloadN (q := 10) X0 hx (hb hby d11_9) rfl ?_
    refine Ends.callS X0 hx hZ hown (hw _ (List.mem_of_getElem? (i := 102) rfl)) (hw _ (List.mem_of_getElem? (i := 103) rfl)) (hw _ (List.mem_of_getElem? (i := 4) rfl)) (hw _ (List.mem_of_getElem? (i := 104) rfl)) (by decide) (argsL := [(.ref oc), (.int (0 : Int32))]) (rest := [(.int (Int32.ofNat (own_ref [c0, c1, c2, c3, c4, c5] 0)))]) e0 (rmRf0 l Z a0 hw oc c0 c1 c2 c3 c4 c5 _ A_c) (W := 1) (by decide) (by decide) (by rw [hml]; rfl) (lenOf pd_21 rfl) (Nat.le_of_eq rfl) (hb hby d11_10) (by decide) (by decide) rfl ?_
    rintro T346 v346 L346 X346 ⟨rfl, e346, rfl⟩
    rw [List.append_nil] at X346
    show Ends none p e below s _ _ _ T346 (mkF m 13 #[.val (.ref ot), .val (.ref oc), .val (.int (Int32.ofNat n)), .val (.int (0 : Int32))] [(.int (Int32.ofNat (own_ref [c0, c1, c2, c3, c4, c5] 0))), (.int (Int32.ofNat (own_ref [c0, c1, c2, c3, c4, c5] 0)))])
    refine E.icmpN (q := 16) X346 hx (hb hby d11_13) (XT.ii_ne_f rfl) ?_
    refine E.iconst (q := 17) (v := (1 : Int32)) X346 hx (hb hby d11_16) rfl ?_
    refine E.goto (q := 21) X346 hx (hb hby d11_17) ?_
    exact Ends.retS X346 hx hlk hret (by simp) rfl (hb hby d11_21) (by decide) (by decide) ⟨rfl, e346, rfl⟩
  · refine E.icmpY (q := 16) X0 hx (hb hby d11_2) (XT.ii_ge_t hq) ?_
    refine E.iconst (q := 17) (v := (1 : Int32)) X0 hx (hb hby d11_16) rfl ?_
    refine E.goto (q := 21) X0 hx (hb hby d11_17) ?_
    exact Ends.retS X0 hx hlk hret (by simp) rfl (hb hby d11_21) (by decide) (by decide) ⟨rfl, e0, rfl⟩
theorem efCk1 (m : MethodId) (x0 : Addr) (x1 : Addr) (x2 : Int32) (x3 : Int32) : entryFrame m #[(.ref x0), (.ref x1), (.int x2), (.int x3)] 4 = mkF m 0 #[.val (.ref x0), .val (.ref x1), .val (.int x2), .val (.int x3)] [] := by first | (simp [entryFrame, mkF, argsToLocals, Value.category]; done) | rfl
set_option maxRecDepth 65536 in
set_option maxHeartbeats 40000000 in
theorem rmCk1 (l : Launch) (Z : State) (a0 : Array Value) (hw : ∀ d ∈ tables_1, d.before a0 Z = true) (ot : Addr) (oc : Addr) (c0 c1 c2 c3 c4 c5 : Int32) (n : Nat) (hn : n ≤ 6) (ts : List Int32) (ht : 1 < n → ts[1]? = some (Int32.ofNat (own_ref [c0, c1, c2, c3, c4, c5] 1))) (h0 : Heap) (A_c : Ary Z h0 oc .char [(.int c0), (.int c1), (.int c2), (.int c3), (.int c4), (.int c5)]) (A_t : Ary Z h0 ot .int (ts.map Value.int)) :
    Con l (⟨"com/example/needlework/needlework/match/PrefixTableOfPinLaw", "check", "([I[CII)Z"⟩ : MethodName) method_4_code 4 (some .boolean) [] ({ frames := 2, cells := 0, slots := 0, locals := 48 } : Room) #[(.ref ot), (.ref oc), (.int (Int32.ofNat n)), (.int (1 : Int32))] Z h0 (fun v h L => v = some (.int (1 : Int32)) ∧ h = h0 ∧ L = []) := by
  refine Con.of (plainFor_of_name pn_6) ?_
  intro p e s m below meth c s₁ hx hZ hby hml hown hnm hret hlk X0 e0
  refine Ends.cast (efCk1 m ot oc (Int32.ofNat n) (1 : Int32)) ?_
  show Ends none p e below s _ _ _ s₁ (mkF m 0 #[.val (.ref ot), .val (.ref oc), .val (.int (Int32.ofNat n)), .val (.int (1 : Int32))] [])
  have O0 := Ok.refl h0 []
  refine E.iloadN (q := 1) X0 hx (hb hby d11_0) rfl ?_
  refine E.iloadN (q := 2) X0 hx (hb hby d11_1) rfl ?_
  by_cases hq : (1 : Int32) < (Int32.ofNat n)
  · refine E.icmpN (q := 5) X0 hx (hb hby d11_2) (XT.ii_ge_f hq) ?_
    have hin : 1 < n := (own_ltN (a := 1) (by decide) (by omega)).mp hq
    refine E.aloadN (q := 6) X0 hx (hb hby d11_5) rfl rfl ?_
    refine E.iloadN (q := 7) X0 hx (hb hby d11_6) rfl ?_
    refine Ends.ild X0 hx hZ e0 A_t (i := 1) (v := .int (Int32.ofNat (own_ref [c0, c1, c2, c3, c4, c5] 1))) rfl (by rw [List.getElem?_map, ht hin]; rfl) (hb hby d11_7) ?_
    show Ends none p e below s _ _ _ s₁ (mkF m 8 #[.val (.ref ot), .val (.ref oc), .val (.int (Int32.ofNat n)), .val (.int (1 : Int32))] [(.int (Int32.ofNat (own_ref [c0, c1, c2, c3, c4, c5] 1)))])
    refine E.aloadN (q := 9) X0 hx (hb hby d11_8) rfl rfl ?_
    refine E.iloadN (q := 10) X0 hx (hb hby d11_9) rfl ?_
    refine Ends.callS X0 hx hZ hown (hw _ (List.mem_of_getElem? (i := 102) rfl)) (hw _ (List.mem_of_getElem? (i := 103) rfl)) (hw _ (List.mem_of_getElem? (i := 4) rfl)) (hw _ (List.mem_of_getElem? (i := 104) rfl)) (by decide) (argsL := [(.ref oc), (.int (1 : Int32))]) (rest := [(.int (Int32.ofNat (own_ref [c0, c1, c2, c3, c4, c5] 1)))]) e0 (rmRf1 l Z a0 hw oc c0 c1 c2 c3 c4 c5 _ A_c) (W := 1) (by decide) (by decide) (by rw [hml]; rfl) (lenOf pd_21 rfl) (Nat.le_of_eq rfl) (hb hby d11_10) (by decide) (by decide) rfl ?_
    rintro T347 v347 L347 X347 ⟨rfl, e347, rfl⟩
    rw [List.append_nil] at X347
    show Ends none p e below s _ _ _ T347 (mkF m 13 #[.val (.ref ot), .val (.ref oc), .val (.int (Int32.ofNat n)), .val (.int (1 : Int32))] [(.int (Int32.ofNat (own_ref [c0, c1, c2, c3, c4, c5] 1))), (.int (Int32.ofNat (own_ref [c0, c1, c2, c3, c4, c5] 1)))])
    refine E.icmpN (q := 16) X347 hx (hb hby d11_13) (XT.ii_ne_f rfl) ?_
    refine E.iconst (q := 17) (v := (1 : Int32)) X347 hx (hb hby d11_16) rfl ?_
    refine E.goto (q := 21) X347 hx (hb hby d11_17) ?_
    exact Ends.retS X347 hx hlk hret (by simp) rfl (hb hby d11_21) (by decide) (by decide) ⟨rfl, e347, rfl⟩
  · refine E.icmpY (q := 16) X0 hx (hb hby d11_2) (XT.ii_ge_t hq) ?_
    refine E.iconst (q := 17) (v := (1 : Int32)) X0 hx (hb hby d11_16) rfl ?_
    refine E.goto (q := 21) X0 hx (hb hby d11_17) ?_
    exact Ends.retS X0 hx hlk hret (by simp) rfl (hb hby d11_21) (by decide) (by decide) ⟨rfl, e0, rfl⟩
theorem efCk2 (m : MethodId) (x0 : Addr) (x1 : Addr) (x2 : Int32) (x3 : Int32) : entryFrame m #[(.ref x0), (.ref x1), (.int x2), (.int x3)] 4 = mkF m 0 #[.val (.ref x0), .val (.ref x1), .val (.int x2), .val (.int x3)] [] := by first | (simp [entryFrame, mkF, argsToLocals, Value.category]; done) | rfl
set_option maxRecDepth 65536 in
set_option maxHeartbeats 40000000 in
theorem rmCk2 (l : Launch) (Z : State) (a0 : Array Value) (hw : ∀ d ∈ tables_1, d.before a0 Z = true) (ot : Addr) (oc : Addr) (c0 c1 c2 c3 c4 c5 : Int32) (n : Nat) (hn : n ≤ 6) (ts : List Int32) (ht : 2 < n → ts[2]? = some (Int32.ofNat (own_ref [c0, c1, c2, c3, c4, c5] 2))) (h0 : Heap) (A_c : Ary Z h0 oc .char [(.int c0), (.int c1), (.int c2), (.int c3), (.int c4), (.int c5)]) (A_t : Ary Z h0 ot .int (ts.map Value.int)) :
    Con l (⟨"com/example/needlework/needlework/match/PrefixTableOfPinLaw", "check", "([I[CII)Z"⟩ : MethodName) method_4_code 4 (some .boolean) [] ({ frames := 2, cells := 0, slots := 0, locals := 48 } : Room) #[(.ref ot), (.ref oc), (.int (Int32.ofNat n)), (.int (2 : Int32))] Z h0 (fun v h L => v = some (.int (1 : Int32)) ∧ h = h0 ∧ L = []) := by
  refine Con.of (plainFor_of_name pn_6) ?_
  intro p e s m below meth c s₁ hx hZ hby hml hown hnm hret hlk X0 e0
  refine Ends.cast (efCk2 m ot oc (Int32.ofNat n) (2 : Int32)) ?_
  show Ends none p e below s _ _ _ s₁ (mkF m 0 #[.val (.ref ot), .val (.ref oc), .val (.int (Int32.ofNat n)), .val (.int (2 : Int32))] [])
  have O0 := Ok.refl h0 []
  refine E.iloadN (q := 1) X0 hx (hb hby d11_0) rfl ?_
  refine E.iloadN (q := 2) X0 hx (hb hby d11_1) rfl ?_
  by_cases hq : (2 : Int32) < (Int32.ofNat n)
  · refine E.icmpN (q := 5) X0 hx (hb hby d11_2) (XT.ii_ge_f hq) ?_
    have hin : 2 < n := (own_ltN (a := 2) (by decide) (by omega)).mp hq
    refine E.aloadN (q := 6) X0 hx (hb hby d11_5) rfl rfl ?_
    refine E.iloadN (q := 7) X0 hx (hb hby d11_6) rfl ?_
    refine Ends.ild X0 hx hZ e0 A_t (i := 2) (v := .int (Int32.ofNat (own_ref [c0, c1, c2, c3, c4, c5] 2))) rfl (by rw [List.getElem?_map, ht hin]; rfl) (hb hby d11_7) ?_
    show Ends none p e below s _ _ _ s₁ (mkF m 8 #[.val (.ref ot), .val (.ref oc), .val (.int (Int32.ofNat n)), .val (.int (2 : Int32))] [(.int (Int32.ofNat (own_ref [c0, c1, c2, c3, c4, c5] 2)))])
    refine E.aloadN (q := 9) X0 hx (hb hby d11_8) rfl rfl ?_
    refine E.iloadN (q := 10) X0 hx (hb hby d11_9) rfl ?_
    refine Ends.callS X0 hx hZ hown (hw _ (List.mem_of_getElem? (i := 102) rfl)) (hw _ (List.mem_of_getElem? (i := 103) rfl)) (hw _ (List.mem_of_getElem? (i := 4) rfl)) (hw _ (List.mem_of_getElem? (i := 104) rfl)) (by decide) (argsL := [(.ref oc), (.int (2 : Int32))]) (rest := [(.int (Int32.ofNat (own_ref [c0, c1, c2, c3, c4, c5] 2)))]) e0 (rmRf2 l Z a0 hw oc c0 c1 c2 c3 c4 c5 _ A_c) (W := 1) (by decide) (by decide) (by rw [hml]; rfl) (lenOf pd_21 rfl) (Nat.le_of_eq rfl) (hb hby d11_10) (by decide) (by decide) rfl ?_
    rintro T348 v348 L348 X348 ⟨rfl, e348, rfl⟩
    rw [List.append_nil] at X348
    show Ends none p e below s _ _ _ T348 (mkF m 13 #[.val (.ref ot), .val (.ref oc), .val (.int (Int32.ofNat n)), .val (.int (2 : Int32))] [(.int (Int32.ofNat (own_ref [c0, c1, c2, c3, c4, c5] 2))), (.int (Int32.ofNat (own_ref [c0, c1, c2, c3, c4, c5] 2)))])
    refine E.icmpN (q := 16) X348 hx (hb hby d11_13) (XT.ii_ne_f rfl) ?_
    refine E.iconst (q := 17) (v := (1 : Int32)) X348 hx (hb hby d11_16) rfl ?_
    refine E.goto (q := 21) X348 hx (hb hby d11_17) ?_
    exact Ends.retS X348 hx hlk hret (by simp) rfl (hb hby d11_21) (by decide) (by decide) ⟨rfl, e348, rfl⟩
  · refine E.icmpY (q := 16) X0 hx (hb hby d11_2) (XT.ii_ge_t hq) ?_
    refine E.iconst (q := 17) (v := (1 : Int32)) X0 hx (hb hby d11_16) rfl ?_
    refine E.goto (q := 21) X0 hx (hb hby d11_17) ?_
    exact Ends.retS X0 hx hlk hret (by simp) rfl (hb hby d11_21) (by decide) (by decide) ⟨rfl, e0, rfl⟩
theorem efCk3 (m : MethodId) (x0 : Addr) (x1 : Addr) (x2 : Int32) (x3 : Int32) : entryFrame m #[(.ref x0), (.ref x1), (.int x2), (.int x3)] 4 = mkF m 0 #[.val (.ref x0), .val (.ref x1), .val (.int x2), .val (.int x3)] [] := by first | (simp [entryFrame, mkF, argsToLocals, Value.category]; done) | rfl
set_option maxRecDepth 65536 in
set_option maxHeartbeats 40000000 in
theorem rmCk3 (l : Launch) (Z : State) (a0 : Array Value) (hw : ∀ d ∈ tables_1, d.before a0 Z = true) (ot : Addr) (oc : Addr) (c0 c1 c2 c3 c4 c5 : Int32) (n : Nat) (hn : n ≤ 6) (ts : List Int32) (ht : 3 < n → ts[3]? = some (Int32.ofNat (own_ref [c0, c1, c2, c3, c4, c5] 3))) (h0 : Heap) (A_c : Ary Z h0 oc .char [(.int c0), (.int c1), (.int c2), (.int c3), (.int c4), (.int c5)]) (A_t : Ary Z h0 ot .int (ts.map Value.int)) :
    Con l (⟨"com/example/needlework/needlework/match/PrefixTableOfPinLaw", "check", "([I[CII)Z"⟩ : MethodName) method_4_code 4 (some .boolean) [] ({ frames := 2, cells := 0, slots := 0, locals := 48 } : Room) #[(.ref ot), (.ref oc), (.int (Int32.ofNat n)), (.int (3 : Int32))] Z h0 (fun v h L => v = some (.int (1 : Int32)) ∧ h = h0 ∧ L = []) := by
  refine Con.of (plainFor_of_name pn_6) ?_
  intro p e s m below meth c s₁ hx hZ hby hml hown hnm hret hlk X0 e0
  refine Ends.cast (efCk3 m ot oc (Int32.ofNat n) (3 : Int32)) ?_
  show Ends none p e below s _ _ _ s₁ (mkF m 0 #[.val (.ref ot), .val (.ref oc), .val (.int (Int32.ofNat n)), .val (.int (3 : Int32))] [])
  have O0 := Ok.refl h0 []
  refine E.iloadN (q := 1) X0 hx (hb hby d11_0) rfl ?_
  refine E.iloadN (q := 2) X0 hx (hb hby d11_1) rfl ?_
  by_cases hq : (3 : Int32) < (Int32.ofNat n)
  · refine E.icmpN (q := 5) X0 hx (hb hby d11_2) (XT.ii_ge_f hq) ?_
    have hin : 3 < n := (own_ltN (a := 3) (by decide) (by omega)).mp hq
    refine E.aloadN (q := 6) X0 hx (hb hby d11_5) rfl rfl ?_
    refine E.iloadN (q := 7) X0 hx (hb hby d11_6) rfl ?_
    refine Ends.ild X0 hx hZ e0 A_t (i := 3) (v := .int (Int32.ofNat (own_ref [c0, c1, c2, c3, c4, c5] 3))) rfl (by rw [List.getElem?_map, ht hin]; rfl) (hb hby d11_7) ?_
    show Ends none p e below s _ _ _ s₁ (mkF m 8 #[.val (.ref ot), .val (.ref oc), .val (.int (Int32.ofNat n)), .val (.int (3 : Int32))] [(.int (Int32.ofNat (own_ref [c0, c1, c2, c3, c4, c5] 3)))])
    refine E.aloadN (q := 9) X0 hx (hb hby d11_8) rfl rfl ?_
    refine E.iloadN (q := 10) X0 hx (hb hby d11_9) rfl ?_
    refine Ends.callS X0 hx hZ hown (hw _ (List.mem_of_getElem? (i := 102) rfl)) (hw _ (List.mem_of_getElem? (i := 103) rfl)) (hw _ (List.mem_of_getElem? (i := 4) rfl)) (hw _ (List.mem_of_getElem? (i := 104) rfl)) (by decide) (argsL := [(.ref oc), (.int (3 : Int32))]) (rest := [(.int (Int32.ofNat (own_ref [c0, c1, c2, c3, c4, c5] 3)))]) e0 (rmRf3 l Z a0 hw oc c0 c1 c2 c3 c4 c5 _ A_c) (W := 1) (by decide) (by decide) (by rw [hml]; rfl) (lenOf pd_21 rfl) (Nat.le_of_eq rfl) (hb hby d11_10) (by decide) (by decide) rfl ?_
    rintro T349 v349 L349 X349 ⟨rfl, e349, rfl⟩
    rw [List.append_nil] at X349
    show Ends none p e below s _ _ _ T349 (mkF m 13 #[.val (.ref ot), .val (.ref oc), .val (.int (Int32.ofNat n)), .val (.int (3 : Int32))] [(.int (Int32.ofNat (own_ref [c0, c1, c2, c3, c4, c5] 3))), (.int (Int32.ofNat (own_ref [c0, c1, c2, c3, c4, c5] 3)))])
    refine E.icmpN (q := 16) X349 hx (hb hby d11_13) (XT.ii_ne_f rfl) ?_
    refine E.iconst (q := 17) (v := (1 : Int32)) X349 hx (hb hby d11_16) rfl ?_
    refine E.goto (q := 21) X349 hx (hb hby d11_17) ?_
    exact Ends.retS X349 hx hlk hret (by simp) rfl (hb hby d11_21) (by decide) (by decide) ⟨rfl, e349, rfl⟩
  · refine E.icmpY (q := 16) X0 hx (hb hby d11_2) (XT.ii_ge_t hq) ?_
    refine E.iconst (q := 17) (v := (1 : Int32)) X0 hx (hb hby d11_16) rfl ?_
    refine E.goto (q := 21) X0 hx (hb hby d11_17) ?_
    exact Ends.retS X0 hx hlk hret (by simp) rfl (hb hby d11_21) (by decide) (by decide) ⟨rfl, e0, rfl⟩
theorem efCk4 (m : MethodId) (x0 : Addr) (x1 : Addr) (x2 : Int32) (x3 : Int32) : entryFrame m #[(.ref x0), (.ref x1), (.int x2), (.int x3)] 4 = mkF m 0 #[.val (.ref x0), .val (.ref x1), .val (.int x2), .val (.int x3)] [] := by first | (simp [entryFrame, mkF, argsToLocals, Value.category]; done) | rfl
set_option maxRecDepth 65536 in
set_option maxHeartbeats 40000000 in
theorem rmCk4 (l : Launch) (Z : State) (a0 : Array Value) (hw : ∀ d ∈ tables_1, d.before a0 Z = true) (ot : Addr) (oc : Addr) (c0 c1 c2 c3 c4 c5 : Int32) (n : Nat) (hn : n ≤ 6) (ts : List Int32) (ht : 4 < n → ts[4]? = some (Int32.ofNat (own_ref [c0, c1, c2, c3, c4, c5] 4))) (h0 : Heap) (A_c : Ary Z h0 oc .char [(.int c0), (.int c1), (.int c2), (.int c3), (.int c4), (.int c5)]) (A_t : Ary Z h0 ot .int (ts.map Value.int)) :
    Con l (⟨"com/example/needlework/needlework/match/PrefixTableOfPinLaw", "check", "([I[CII)Z"⟩ : MethodName) method_4_code 4 (some .boolean) [] ({ frames := 2, cells := 0, slots := 0, locals := 48 } : Room) #[(.ref ot), (.ref oc), (.int (Int32.ofNat n)), (.int (4 : Int32))] Z h0 (fun v h L => v = some (.int (1 : Int32)) ∧ h = h0 ∧ L = []) := by
  refine Con.of (plainFor_of_name pn_6) ?_
  intro p e s m below meth c s₁ hx hZ hby hml hown hnm hret hlk X0 e0
  refine Ends.cast (efCk4 m ot oc (Int32.ofNat n) (4 : Int32)) ?_
  show Ends none p e below s _ _ _ s₁ (mkF m 0 #[.val (.ref ot), .val (.ref oc), .val (.int (Int32.ofNat n)), .val (.int (4 : Int32))] [])
  have O0 := Ok.refl h0 []
  refine E.iloadN (q := 1) X0 hx (hb hby d11_0) rfl ?_
  refine E.iloadN (q := 2) X0 hx (hb hby d11_1) rfl ?_
  by_cases hq : (4 : Int32) < (Int32.ofNat n)
  · refine E.icmpN (q := 5) X0 hx (hb hby d11_2) (XT.ii_ge_f hq) ?_
    have hin : 4 < n := (own_ltN (a := 4) (by decide) (by omega)).mp hq
    refine E.aloadN (q := 6) X0 hx (hb hby d11_5) rfl rfl ?_
    refine E.iloadN (q := 7) X0 hx (hb hby d11_6) rfl ?_
    refine Ends.ild X0 hx hZ e0 A_t (i := 4) (v := .int (Int32.ofNat (own_ref [c0, c1, c2, c3, c4, c5] 4))) rfl (by rw [List.getElem?_map, ht hin]; rfl) (hb hby d11_7) ?_
    show Ends none p e below s _ _ _ s₁ (mkF m 8 #[.val (.ref ot), .val (.ref oc), .val (.int (Int32.ofNat n)), .val (.int (4 : Int32))] [(.int (Int32.ofNat (own_ref [c0, c1, c2, c3, c4, c5] 4)))])
    refine E.aloadN (q := 9) X0 hx (hb hby d11_8) rfl rfl ?_
    refine E.iloadN (q := 10) X0 hx (hb hby d11_9) rfl ?_
    refine Ends.callS X0 hx hZ hown (hw _ (List.mem_of_getElem? (i := 102) rfl)) (hw _ (List.mem_of_getElem? (i := 103) rfl)) (hw _ (List.mem_of_getElem? (i := 4) rfl)) (hw _ (List.mem_of_getElem? (i := 104) rfl)) (by decide) (argsL := [(.ref oc), (.int (4 : Int32))]) (rest := [(.int (Int32.ofNat (own_ref [c0, c1, c2, c3, c4, c5] 4)))]) e0 (rmRf4 l Z a0 hw oc c0 c1 c2 c3 c4 c5 _ A_c) (W := 1) (by decide) (by decide) (by rw [hml]; rfl) (lenOf pd_21 rfl) (Nat.le_of_eq rfl) (hb hby d11_10) (by decide) (by decide) rfl ?_
    rintro T350 v350 L350 X350 ⟨rfl, e350, rfl⟩
    rw [List.append_nil] at X350
    show Ends none p e below s _ _ _ T350 (mkF m 13 #[.val (.ref ot), .val (.ref oc), .val (.int (Int32.ofNat n)), .val (.int (4 : Int32))] [(.int (Int32.ofNat (own_ref [c0, c1, c2, c3, c4, c5] 4))), (.int (Int32.ofNat (own_ref [c0, c1, c2, c3, c4, c5] 4)))])
    refine E.icmpN (q := 16) X350 hx (hb hby d11_13) (XT.ii_ne_f rfl) ?_
    refine E.iconst (q := 17) (v := (1 : Int32)) X350 hx (hb hby d11_16) rfl ?_
    refine E.goto (q := 21) X350 hx (hb hby d11_17) ?_
    exact Ends.retS X350 hx hlk hret (by simp) rfl (hb hby d11_21) (by decide) (by decide) ⟨rfl, e350, rfl⟩
  · refine E.icmpY (q := 16) X0 hx (hb hby d11_2) (XT.ii_ge_t hq) ?_
    refine E.iconst (q := 17) (v := (1 : Int32)) X0 hx (hb hby d11_16) rfl ?_
    refine E.goto (q := 21) X0 hx (hb hby d11_17) ?_
    exact Ends.retS X0 hx hlk hret (by simp) rfl (hb hby d11_21) (by decide) (by decide) ⟨rfl, e0, rfl⟩
theorem efCk5 (m : MethodId) (x0 : Addr) (x1 : Addr) (x2 : Int32) (x3 : Int32) : entryFrame m #[(.ref x0), (.ref x1), (.int x2), (.int x3)] 4 = mkF m 0 #[.val (.ref x0), .val (.ref x1), .val (.int x2), .val (.int x3)] [] := by first | (simp [entryFrame, mkF, argsToLocals, Value.category]; done) | rfl
set_option maxRecDepth 65536 in
set_option maxHeartbeats 40000000 in
theorem rmCk5 (l : Launch) (Z : State) (a0 : Array Value) (hw : ∀ d ∈ tables_1, d.before a0 Z = true) (ot : Addr) (oc : Addr) (c0 c1 c2 c3 c4 c5 : Int32) (n : Nat) (hn : n ≤ 6) (ts : List Int32) (ht : 5 < n → ts[5]? = some (Int32.ofNat (own_ref [c0, c1, c2, c3, c4, c5] 5))) (h0 : Heap) (A_c : Ary Z h0 oc .char [(.int c0), (.int c1), (.int c2), (.int c3), (.int c4), (.int c5)]) (A_t : Ary Z h0 ot .int (ts.map Value.int)) :
    Con l (⟨"com/example/needlework/needlework/match/PrefixTableOfPinLaw", "check", "([I[CII)Z"⟩ : MethodName) method_4_code 4 (some .boolean) [] ({ frames := 2, cells := 0, slots := 0, locals := 48 } : Room) #[(.ref ot), (.ref oc), (.int (Int32.ofNat n)), (.int (5 : Int32))] Z h0 (fun v h L => v = some (.int (1 : Int32)) ∧ h = h0 ∧ L = []) := by
  refine Con.of (plainFor_of_name pn_6) ?_
  intro p e s m below meth c s₁ hx hZ hby hml hown hnm hret hlk X0 e0
  refine Ends.cast (efCk5 m ot oc (Int32.ofNat n) (5 : Int32)) ?_
  show Ends none p e below s _ _ _ s₁ (mkF m 0 #[.val (.ref ot), .val (.ref oc), .val (.int (Int32.ofNat n)), .val (.int (5 : Int32))] [])
  have O0 := Ok.refl h0 []
  refine E.iloadN (q := 1) X0 hx (hb hby d11_0) rfl ?_
  refine E.iloadN (q := 2) X0 hx (hb hby d11_1) rfl ?_
  by_cases hq : (5 : Int32) < (Int32.ofNat n)
  · refine E.icmpN (q := 5) X0 hx (hb hby d11_2) (XT.ii_ge_f hq) ?_
    have hin : 5 < n := (own_ltN (a := 5) (by decide) (by omega)).mp hq
    refine E.aloadN (q := 6) X0 hx (hb hby d11_5) rfl rfl ?_
    refine E.iloadN (q := 7) X0 hx (hb hby d11_6) rfl ?_
    refine Ends.ild X0 hx hZ e0 A_t (i := 5) (v := .int (Int32.ofNat (own_ref [c0, c1, c2, c3, c4, c5] 5))) rfl (by rw [List.getElem?_map, ht hin]; rfl) (hb hby d11_7) ?_
    show Ends none p e below s _ _ _ s₁ (mkF m 8 #[.val (.ref ot), .val (.ref oc), .val (.int (Int32.ofNat n)), .val (.int (5 : Int32))] [(.int (Int32.ofNat (own_ref [c0, c1, c2, c3, c4, c5] 5)))])
    refine E.aloadN (q := 9) X0 hx (hb hby d11_8) rfl rfl ?_
    refine E.iloadN (q := 10) X0 hx (hb hby d11_9) rfl ?_
    refine Ends.callS X0 hx hZ hown (hw _ (List.mem_of_getElem? (i := 102) rfl)) (hw _ (List.mem_of_getElem? (i := 103) rfl)) (hw _ (List.mem_of_getElem? (i := 4) rfl)) (hw _ (List.mem_of_getElem? (i := 104) rfl)) (by decide) (argsL := [(.ref oc), (.int (5 : Int32))]) (rest := [(.int (Int32.ofNat (own_ref [c0, c1, c2, c3, c4, c5] 5)))]) e0 (rmRf5 l Z a0 hw oc c0 c1 c2 c3 c4 c5 _ A_c) (W := 1) (by decide) (by decide) (by rw [hml]; rfl) (lenOf pd_21 rfl) (Nat.le_of_eq rfl) (hb hby d11_10) (by decide) (by decide) rfl ?_
    rintro T351 v351 L351 X351 ⟨rfl, e351, rfl⟩
    rw [List.append_nil] at X351
    show Ends none p e below s _ _ _ T351 (mkF m 13 #[.val (.ref ot), .val (.ref oc), .val (.int (Int32.ofNat n)), .val (.int (5 : Int32))] [(.int (Int32.ofNat (own_ref [c0, c1, c2, c3, c4, c5] 5))), (.int (Int32.ofNat (own_ref [c0, c1, c2, c3, c4, c5] 5)))])
    refine E.icmpN (q := 16) X351 hx (hb hby d11_13) (XT.ii_ne_f rfl) ?_
    refine E.iconst (q := 17) (v := (1 : Int32)) X351 hx (hb hby d11_16) rfl ?_
    refine E.goto (q := 21) X351 hx (hb hby d11_17) ?_
    exact Ends.retS X351 hx hlk hret (by simp) rfl (hb hby d11_21) (by decide) (by decide) ⟨rfl, e351, rfl⟩
  · refine E.icmpY (q := 16) X0 hx (hb hby d11_2) (XT.ii_ge_t hq) ?_
    refine E.iconst (q := 17) (v := (1 : Int32)) X0 hx (hb hby d11_16) rfl ?_
    refine E.goto (q := 21) X0 hx (hb hby d11_17) ?_
    exact Ends.retS X0 hx hlk hret (by simp) rfl (hb hby d11_21) (by decide) (by decide) ⟨rfl, e0, rfl⟩
theorem ef_0 (m : MethodId) (x0 : Int32) (x1 : Int32) (x2 : Int32) (x3 : Int32) (x4 : Int32) (x5 : Int32) : entryFrame m #[(.int x0), (.int x1), (.int x2), (.int x3), (.int x4), (.int x5)] maxLocals = mkF m 0 #[.val (.int x0), .val (.int x1), .val (.int x2), .val (.int x3), .val (.int x4), .val (.int x5), .unset, .unset, .unset, .unset, .unset] [] := by first | (simp [entryFrame, mkF, argsToLocals, Value.category, maxLocals]; done) | rfl
set_option maxRecDepth 65536 in
set_option maxHeartbeats 40000000 in
theorem rm0 (l : Launch) (Z : State) (a0 : Array Value) (hw : ∀ d ∈ tables_1, d.before a0 Z = true) (nn : Int32) (p1 : Int32) (p2 : Int32) (p3 : Int32) (p4 : Int32) (p5 : Int32) (h0 : Heap) (cs : Int32) (hcs : ¬ cs = (0 : Int32)) (S0 : Sta Z h0 "java/lang/String" "COMPACT_STRINGS" "Z" (.int cs)) (fv : Value) (hfv : fv = .null ∨ ∃ a, fv = .ref a) (S1 : Sta Z h0 "jdk/internal/util/Preconditions" "SIOOBE_FORMATTER" "Ljava/util/function/BiFunction;" fv) (S2 : Sta Z h0 "java/lang/StringUTF16" "$assertionsDisabled" "Z" (.int (1 : Int32))) (S3 : Sta Z h0 "java/lang/StringUTF16" "HI_BYTE_SHIFT" "I" (.int (0 : Int32))) (S4 : Sta Z h0 "java/lang/StringUTF16" "LO_BYTE_SHIFT" "I" (.int (8 : Int32))) :
    ConH l x code maxLocals ret tables_1 room_1 #[(.int nn), (.int p1), (.int p2), (.int p3), (.int p4), (.int p5)] Z h0 own_EL (fun v h L => v = some (.int 1) ∧ Fr h0.size L) := by
  refine ConH.of (plainFor_of_name pn_6) ?_
  intro p e s m below meth c s₁ vm0 HC0 hx hZ hby hml hown hnm hret hlk X0 e0
  refine Ends.cast (ef_0 m nn p1 p2 p3 p4 p5) ?_
  show Ends (some (CHr Z own_EL vm0 h0)) p e below s _ _ _ s₁ (mkF m 0 #[.val (.int nn), .val (.int p1), .val (.int p2), .val (.int p3), .val (.int p4), .val (.int p5), .unset, .unset, .unset, .unset, .unset] [])
  have O0 := Ok.refl h0 []
  refine E.iloadN (q := 1) X0 hx (hb hby at_0) rfl ?_
  refine E.ldc (q := 3) X0 hx hZ hown (hw _ (List.mem_of_getElem? (i := 0) rfl)) (hb hby at_1) ?_
  refine E.iand (q := 4) X0 hx (hb hby at_3) ?_
  refine E.bipush (q := 6) (v := (7 : Int32)) X0 hx (hb hby at_4) rfl ?_
  refine E.irem (q := 7) X0 hx (hb hby at_6) (by decide) ?_
  obtain ⟨nk, hnk, enk⟩ := own_mod nn 7 (by decide) (by decide)
  rw [show ((nn &&& (2147483647 : Int32)) % (7 : Int32)) = Int32.ofNat nk from enk]
  show Ends (some (CHr Z own_EL vm0 h0)) p e below s _ _ _ s₁ (mkF m 7 #[.val (.int nn), .val (.int p1), .val (.int p2), .val (.int p3), .val (.int p4), .val (.int p5), .unset, .unset, .unset, .unset, .unset] [(.int (Int32.ofNat nk))])
  refine E.istore (q := 9) (l' := #[.val (.int nn), .val (.int p1), .val (.int p2), .val (.int p3), .val (.int p4), .val (.int p5), .val (.int (Int32.ofNat nk)), .unset, .unset, .unset, .unset]) X0 hx (hb hby at_7) rfl ?_
  refine E.iconst (q := 10) (v := (4 : Int32)) X0 hx (hb hby at_9) rfl ?_
  refine Ends.newA X0 hx hZ (hw _ (List.mem_of_getElem? (i := 1) rfl)) e0 (hb hby at_10) (N := 4) rfl (by decide) (by decide) (by decide) ?_
  intro T352 h352 b352 g352 X352 e352 E352 A352
  have ge_b352 : h0.size ≤ b352 := Nat.le_trans O0.le (Nat.le_of_eq g352.symm)
  have O352 := O0.ext E352
  have HC353 := HC0.trans (CHr.ext E352 HC0.1)
  have V352 : Ary Z h352 b352 .char [(.int (0 : Int32)), (.int (0 : Int32)), (.int (0 : Int32)), (.int (0 : Int32))] := A352
  refine E.dup (q := 13) X352 hx (hb hby at_12) rfl ?_
  refine E.iconst (q := 14) (v := (0 : Int32)) X352 hx (hb hby at_13) rfl ?_
  refine E.iloadN (q := 15) X352 hx (hb hby at_14) rfl ?_
  refine E.i2c (q := 16) X352 hx (hb hby at_15) ?_
  refine Ends.cst X352 hx hZ e352 V352 (x' := (p2.toUInt32.toUInt16.toUInt32.toInt32)) (own_nc16 (own_cC p2)) (i := 0) rfl (show 0 < 4 from by decide) (hb hby at_16) ?_
  intro T354 h354 X354 e354 W354 V354
  have V354 : Ary Z h354 b352 .char [(.int (p2.toUInt32.toUInt16.toUInt32.toInt32)), (.int (0 : Int32)), (.int (0 : Int32)), (.int (0 : Int32))] := V354
  have O354 := O352.wr W354 (Or.inr ge_b352)
  have HC355 := HC353.trans (CHr.wr W354 (own_safe_ary hZ.alike V352 (by decide)) HC353.1)
  refine E.dup (q := 18) X354 hx (hb hby at_17) rfl ?_
  refine E.iconst (q := 19) (v := (1 : Int32)) X354 hx (hb hby at_18) rfl ?_
  refine E.iloadN (q := 20) X354 hx (hb hby at_19) rfl ?_
  refine E.i2c (q := 21) X354 hx (hb hby at_20) ?_
  refine Ends.cst X354 hx hZ e354 V354 (x' := (p3.toUInt32.toUInt16.toUInt32.toInt32)) (own_nc16 (own_cC p3)) (i := 1) rfl (show 1 < 4 from by decide) (hb hby at_21) ?_
  intro T356 h356 X356 e356 W356 V356
  have V356 : Ary Z h356 b352 .char [(.int (p2.toUInt32.toUInt16.toUInt32.toInt32)), (.int (p3.toUInt32.toUInt16.toUInt32.toInt32)), (.int (0 : Int32)), (.int (0 : Int32))] := V356
  have O356 := O354.wr W356 (Or.inr ge_b352)
  have HC357 := HC355.trans (CHr.wr W356 (own_safe_ary hZ.alike V354 (by decide)) HC355.1)
  refine E.dup (q := 23) X356 hx (hb hby at_22) rfl ?_
  refine E.iconst (q := 24) (v := (2 : Int32)) X356 hx (hb hby at_23) rfl ?_
  refine E.iload (q := 26) X356 hx (hb hby at_24) rfl ?_
  refine E.i2c (q := 27) X356 hx (hb hby at_26) ?_
  refine Ends.cst X356 hx hZ e356 V356 (x' := (p4.toUInt32.toUInt16.toUInt32.toInt32)) (own_nc16 (own_cC p4)) (i := 2) rfl (show 2 < 4 from by decide) (hb hby at_27) ?_
  intro T358 h358 X358 e358 W358 V358
  have V358 : Ary Z h358 b352 .char [(.int (p2.toUInt32.toUInt16.toUInt32.toInt32)), (.int (p3.toUInt32.toUInt16.toUInt32.toInt32)), (.int (p4.toUInt32.toUInt16.toUInt32.toInt32)), (.int (0 : Int32))] := V358
  have O358 := O356.wr W358 (Or.inr ge_b352)
  have HC359 := HC357.trans (CHr.wr W358 (own_safe_ary hZ.alike V356 (by decide)) HC357.1)
  refine E.dup (q := 29) X358 hx (hb hby at_28) rfl ?_
  refine E.iconst (q := 30) (v := (3 : Int32)) X358 hx (hb hby at_29) rfl ?_
  refine E.iload (q := 32) X358 hx (hb hby at_30) rfl ?_
  refine E.i2c (q := 33) X358 hx (hb hby at_32) ?_
  refine Ends.cst X358 hx hZ e358 V358 (x' := (p5.toUInt32.toUInt16.toUInt32.toInt32)) (own_nc16 (own_cC p5)) (i := 3) rfl (show 3 < 4 from by decide) (hb hby at_33) ?_
  intro T360 h360 X360 e360 W360 V360
  have V360 : Ary Z h360 b352 .char [(.int (p2.toUInt32.toUInt16.toUInt32.toInt32)), (.int (p3.toUInt32.toUInt16.toUInt32.toInt32)), (.int (p4.toUInt32.toUInt16.toUInt32.toInt32)), (.int (p5.toUInt32.toUInt16.toUInt32.toInt32))] := V360
  have O360 := O358.wr W360 (Or.inr ge_b352)
  have HC361 := HC359.trans (CHr.wr W360 (own_safe_ary hZ.alike V358 (by decide)) HC359.1)
  refine E.astore (q := 36) (l' := #[.val (.int nn), .val (.int p1), .val (.int p2), .val (.int p3), .val (.int p4), .val (.int p5), .val (.int (Int32.ofNat nk)), .val (.ref b352), .unset, .unset, .unset]) X360 hx (hb hby at_34) rfl rfl ?_
  refine E.bipush (q := 38) (v := (6 : Int32)) X360 hx (hb hby at_36) rfl ?_
  refine Ends.newA X360 hx hZ (hw _ (List.mem_of_getElem? (i := 1) rfl)) e360 (hb hby at_38) (N := 6) rfl (by decide) (by decide) (by decide) ?_
  intro T362 h362 b362 g362 X362 e362 E362 A362
  have ge_b362 : h0.size ≤ b362 := Nat.le_trans O360.le (Nat.le_of_eq g362.symm)
  have O362 := O360.ext E362
  have HC363 := HC361.trans (CHr.ext E362 HC361.1)
  have V362 : Ary Z h362 b362 .char [(.int (0 : Int32)), (.int (0 : Int32)), (.int (0 : Int32)), (.int (0 : Int32)), (.int (0 : Int32)), (.int (0 : Int32))] := A362
  refine E.astore (q := 42) (l' := #[.val (.int nn), .val (.int p1), .val (.int p2), .val (.int p3), .val (.int p4), .val (.int p5), .val (.int (Int32.ofNat nk)), .val (.ref b352), .val (.ref b362), .unset, .unset]) X362 hx (hb hby at_40) rfl rfl ?_
  refine E.aload (q := 44) X362 hx (hb hby at_42) rfl rfl ?_
  refine E.iconst (q := 45) (v := (0 : Int32)) X362 hx (hb hby at_44) rfl ?_
  refine E.aload (q := 47) X362 hx (hb hby at_45) rfl rfl ?_
  refine E.iloadN (q := 48) X362 hx (hb hby at_47) rfl ?_
  refine E.iconst (q := 49) (v := (3 : Int32)) X362 hx (hb hby at_48) rfl ?_
  refine E.iand (q := 50) X362 hx (hb hby at_49) ?_
  obtain ⟨kk0, hkk0, ekk0⟩ := own_and3N p1
  rw [ekk0]
  show Ends (some (CHr Z own_EL vm0 h0)) p e below s _ _ _ T362 (mkF m 50 #[.val (.int nn), .val (.int p1), .val (.int p2), .val (.int p3), .val (.int p4), .val (.int p5), .val (.int (Int32.ofNat nk)), .val (.ref b352), .val (.ref b362), .unset, .unset] [(.int (Int32.ofNat kk0)), (.ref b352), (.int (0 : Int32)), (.ref b362)])
  obtain ⟨z0, hz0⟩ : ∃ z, ([(p2.toUInt32.toUInt16.toUInt32.toInt32), (p3.toUInt32.toUInt16.toUInt32.toInt32), (p4.toUInt32.toUInt16.toUInt32.toInt32), (p5.toUInt32.toUInt16.toUInt32.toInt32)] : List Int32)[kk0]? = some z := ⟨_, List.getElem?_eq_getElem (by simpa using hkk0)⟩
  have hzC0 : own_C z0 := by have q := List.mem_of_getElem? hz0; simp only [List.mem_cons, List.not_mem_nil, or_false] at q; rcases q with rfl | rfl | rfl | rfl <;> exact own_cC _
  have f364 := V360.ext E362
  refine Ends.cld X362 hx hZ e362 (show Ary Z _ _ .char ([(p2.toUInt32.toUInt16.toUInt32.toInt32), (p3.toUInt32.toUInt16.toUInt32.toInt32), (p4.toUInt32.toUInt16.toUInt32.toInt32), (p5.toUInt32.toUInt16.toUInt32.toInt32)].map Value.int) from f364) (i := kk0) (v := .int z0) rfl (by rw [List.getElem?_map, hz0]; rfl) (hb hby at_50) ?_
  show Ends (some (CHr Z own_EL vm0 h0)) p e below s _ _ _ T362 (mkF m 51 #[.val (.int nn), .val (.int p1), .val (.int p2), .val (.int p3), .val (.int p4), .val (.int p5), .val (.int (Int32.ofNat nk)), .val (.ref b352), .val (.ref b362), .unset, .unset] [(.int z0), (.int (0 : Int32)), (.ref b362)])
  refine Ends.cst X362 hx hZ e362 V362 (x' := z0) (own_nc16 hzC0) (i := 0) rfl (show 0 < 6 from by decide) (hb hby at_51) ?_
  intro T365 h365 X365 e365 W365 V365
  have V365 : Ary Z h365 b362 .char [(.int z0), (.int (0 : Int32)), (.int (0 : Int32)), (.int (0 : Int32)), (.int (0 : Int32)), (.int (0 : Int32))] := V365
  have O365 := O362.wr W365 (Or.inr ge_b362)
  have HC366 := HC363.trans (CHr.wr W365 (own_safe_ary hZ.alike V362 (by decide)) HC363.1)
  refine E.aload (q := 54) X365 hx (hb hby at_52) rfl rfl ?_
  refine E.iconst (q := 55) (v := (1 : Int32)) X365 hx (hb hby at_54) rfl ?_
  refine E.aload (q := 57) X365 hx (hb hby at_55) rfl rfl ?_
  refine E.iloadN (q := 58) X365 hx (hb hby at_57) rfl ?_
  refine E.iconst (q := 59) (v := (2 : Int32)) X365 hx (hb hby at_58) rfl ?_
  refine E.iushr (q := 60) X365 hx (hb hby at_59) ?_
  refine E.iconst (q := 61) (v := (3 : Int32)) X365 hx (hb hby at_60) rfl ?_
  refine E.iand (q := 62) X365 hx (hb hby at_61) ?_
  obtain ⟨kk1, hkk1, ekk1⟩ := own_and3N ((p1.toUInt32 >>> ((2 : Int32) &&& 31).toUInt32).toInt32)
  rw [ekk1]
  show Ends (some (CHr Z own_EL vm0 h0)) p e below s _ _ _ T365 (mkF m 62 #[.val (.int nn), .val (.int p1), .val (.int p2), .val (.int p3), .val (.int p4), .val (.int p5), .val (.int (Int32.ofNat nk)), .val (.ref b352), .val (.ref b362), .unset, .unset] [(.int (Int32.ofNat kk1)), (.ref b352), (.int (1 : Int32)), (.ref b362)])
  obtain ⟨z1, hz1⟩ : ∃ z, ([(p2.toUInt32.toUInt16.toUInt32.toInt32), (p3.toUInt32.toUInt16.toUInt32.toInt32), (p4.toUInt32.toUInt16.toUInt32.toInt32), (p5.toUInt32.toUInt16.toUInt32.toInt32)] : List Int32)[kk1]? = some z := ⟨_, List.getElem?_eq_getElem (by simpa using hkk1)⟩
  have hzC1 : own_C z1 := by have q := List.mem_of_getElem? hz1; simp only [List.mem_cons, List.not_mem_nil, or_false] at q; rcases q with rfl | rfl | rfl | rfl <;> exact own_cC _
  have f367 := f364.other W365 (Nat.ne_of_lt (Nat.lt_of_lt_of_eq V360.lt g362.symm))
  refine Ends.cld X365 hx hZ e365 (show Ary Z _ _ .char ([(p2.toUInt32.toUInt16.toUInt32.toInt32), (p3.toUInt32.toUInt16.toUInt32.toInt32), (p4.toUInt32.toUInt16.toUInt32.toInt32), (p5.toUInt32.toUInt16.toUInt32.toInt32)].map Value.int) from f367) (i := kk1) (v := .int z1) rfl (by rw [List.getElem?_map, hz1]; rfl) (hb hby at_62) ?_
  show Ends (some (CHr Z own_EL vm0 h0)) p e below s _ _ _ T365 (mkF m 63 #[.val (.int nn), .val (.int p1), .val (.int p2), .val (.int p3), .val (.int p4), .val (.int p5), .val (.int (Int32.ofNat nk)), .val (.ref b352), .val (.ref b362), .unset, .unset] [(.int z1), (.int (1 : Int32)), (.ref b362)])
  refine Ends.cst X365 hx hZ e365 V365 (x' := z1) (own_nc16 hzC1) (i := 1) rfl (show 1 < 6 from by decide) (hb hby at_63) ?_
  intro T368 h368 X368 e368 W368 V368
  have V368 : Ary Z h368 b362 .char [(.int z0), (.int z1), (.int (0 : Int32)), (.int (0 : Int32)), (.int (0 : Int32)), (.int (0 : Int32))] := V368
  have O368 := O365.wr W368 (Or.inr ge_b362)
  have HC369 := HC366.trans (CHr.wr W368 (own_safe_ary hZ.alike V365 (by decide)) HC366.1)
  refine E.aload (q := 66) X368 hx (hb hby at_64) rfl rfl ?_
  refine E.iconst (q := 67) (v := (2 : Int32)) X368 hx (hb hby at_66) rfl ?_
  refine E.aload (q := 69) X368 hx (hb hby at_67) rfl rfl ?_
  refine E.iloadN (q := 70) X368 hx (hb hby at_69) rfl ?_
  refine E.iconst (q := 71) (v := (4 : Int32)) X368 hx (hb hby at_70) rfl ?_
  refine E.iushr (q := 72) X368 hx (hb hby at_71) ?_
  refine E.iconst (q := 73) (v := (3 : Int32)) X368 hx (hb hby at_72) rfl ?_
  refine E.iand (q := 74) X368 hx (hb hby at_73) ?_
  obtain ⟨kk2, hkk2, ekk2⟩ := own_and3N ((p1.toUInt32 >>> ((4 : Int32) &&& 31).toUInt32).toInt32)
  rw [ekk2]
  show Ends (some (CHr Z own_EL vm0 h0)) p e below s _ _ _ T368 (mkF m 74 #[.val (.int nn), .val (.int p1), .val (.int p2), .val (.int p3), .val (.int p4), .val (.int p5), .val (.int (Int32.ofNat nk)), .val (.ref b352), .val (.ref b362), .unset, .unset] [(.int (Int32.ofNat kk2)), (.ref b352), (.int (2 : Int32)), (.ref b362)])
  obtain ⟨z2, hz2⟩ : ∃ z, ([(p2.toUInt32.toUInt16.toUInt32.toInt32), (p3.toUInt32.toUInt16.toUInt32.toInt32), (p4.toUInt32.toUInt16.toUInt32.toInt32), (p5.toUInt32.toUInt16.toUInt32.toInt32)] : List Int32)[kk2]? = some z := ⟨_, List.getElem?_eq_getElem (by simpa using hkk2)⟩
  have hzC2 : own_C z2 := by have q := List.mem_of_getElem? hz2; simp only [List.mem_cons, List.not_mem_nil, or_false] at q; rcases q with rfl | rfl | rfl | rfl <;> exact own_cC _
  have f370 := f367.other W368 (Nat.ne_of_lt (Nat.lt_of_lt_of_eq V360.lt g362.symm))
  refine Ends.cld X368 hx hZ e368 (show Ary Z _ _ .char ([(p2.toUInt32.toUInt16.toUInt32.toInt32), (p3.toUInt32.toUInt16.toUInt32.toInt32), (p4.toUInt32.toUInt16.toUInt32.toInt32), (p5.toUInt32.toUInt16.toUInt32.toInt32)].map Value.int) from f370) (i := kk2) (v := .int z2) rfl (by rw [List.getElem?_map, hz2]; rfl) (hb hby at_74) ?_
  show Ends (some (CHr Z own_EL vm0 h0)) p e below s _ _ _ T368 (mkF m 75 #[.val (.int nn), .val (.int p1), .val (.int p2), .val (.int p3), .val (.int p4), .val (.int p5), .val (.int (Int32.ofNat nk)), .val (.ref b352), .val (.ref b362), .unset, .unset] [(.int z2), (.int (2 : Int32)), (.ref b362)])
  refine Ends.cst X368 hx hZ e368 V368 (x' := z2) (own_nc16 hzC2) (i := 2) rfl (show 2 < 6 from by decide) (hb hby at_75) ?_
  intro T371 h371 X371 e371 W371 V371
  have V371 : Ary Z h371 b362 .char [(.int z0), (.int z1), (.int z2), (.int (0 : Int32)), (.int (0 : Int32)), (.int (0 : Int32))] := V371
  have O371 := O368.wr W371 (Or.inr ge_b362)
  have HC372 := HC369.trans (CHr.wr W371 (own_safe_ary hZ.alike V368 (by decide)) HC369.1)
  refine E.aload (q := 78) X371 hx (hb hby at_76) rfl rfl ?_
  refine E.iconst (q := 79) (v := (3 : Int32)) X371 hx (hb hby at_78) rfl ?_
  refine E.aload (q := 81) X371 hx (hb hby at_79) rfl rfl ?_
  refine E.iloadN (q := 82) X371 hx (hb hby at_81) rfl ?_
  refine E.bipush (q := 84) (v := (6 : Int32)) X371 hx (hb hby at_82) rfl ?_
  refine E.iushr (q := 85) X371 hx (hb hby at_84) ?_
  refine E.iconst (q := 86) (v := (3 : Int32)) X371 hx (hb hby at_85) rfl ?_
  refine E.iand (q := 87) X371 hx (hb hby at_86) ?_
  obtain ⟨kk3, hkk3, ekk3⟩ := own_and3N ((p1.toUInt32 >>> ((6 : Int32) &&& 31).toUInt32).toInt32)
  rw [ekk3]
  show Ends (some (CHr Z own_EL vm0 h0)) p e below s _ _ _ T371 (mkF m 87 #[.val (.int nn), .val (.int p1), .val (.int p2), .val (.int p3), .val (.int p4), .val (.int p5), .val (.int (Int32.ofNat nk)), .val (.ref b352), .val (.ref b362), .unset, .unset] [(.int (Int32.ofNat kk3)), (.ref b352), (.int (3 : Int32)), (.ref b362)])
  obtain ⟨z3, hz3⟩ : ∃ z, ([(p2.toUInt32.toUInt16.toUInt32.toInt32), (p3.toUInt32.toUInt16.toUInt32.toInt32), (p4.toUInt32.toUInt16.toUInt32.toInt32), (p5.toUInt32.toUInt16.toUInt32.toInt32)] : List Int32)[kk3]? = some z := ⟨_, List.getElem?_eq_getElem (by simpa using hkk3)⟩
  have hzC3 : own_C z3 := by have q := List.mem_of_getElem? hz3; simp only [List.mem_cons, List.not_mem_nil, or_false] at q; rcases q with rfl | rfl | rfl | rfl <;> exact own_cC _
  have f373 := f370.other W371 (Nat.ne_of_lt (Nat.lt_of_lt_of_eq V360.lt g362.symm))
  refine Ends.cld X371 hx hZ e371 (show Ary Z _ _ .char ([(p2.toUInt32.toUInt16.toUInt32.toInt32), (p3.toUInt32.toUInt16.toUInt32.toInt32), (p4.toUInt32.toUInt16.toUInt32.toInt32), (p5.toUInt32.toUInt16.toUInt32.toInt32)].map Value.int) from f373) (i := kk3) (v := .int z3) rfl (by rw [List.getElem?_map, hz3]; rfl) (hb hby at_87) ?_
  show Ends (some (CHr Z own_EL vm0 h0)) p e below s _ _ _ T371 (mkF m 88 #[.val (.int nn), .val (.int p1), .val (.int p2), .val (.int p3), .val (.int p4), .val (.int p5), .val (.int (Int32.ofNat nk)), .val (.ref b352), .val (.ref b362), .unset, .unset] [(.int z3), (.int (3 : Int32)), (.ref b362)])
  refine Ends.cst X371 hx hZ e371 V371 (x' := z3) (own_nc16 hzC3) (i := 3) rfl (show 3 < 6 from by decide) (hb hby at_88) ?_
  intro T374 h374 X374 e374 W374 V374
  have V374 : Ary Z h374 b362 .char [(.int z0), (.int z1), (.int z2), (.int z3), (.int (0 : Int32)), (.int (0 : Int32))] := V374
  have O374 := O371.wr W374 (Or.inr ge_b362)
  have HC375 := HC372.trans (CHr.wr W374 (own_safe_ary hZ.alike V371 (by decide)) HC372.1)
  refine E.aload (q := 91) X374 hx (hb hby at_89) rfl rfl ?_
  refine E.iconst (q := 92) (v := (4 : Int32)) X374 hx (hb hby at_91) rfl ?_
  refine E.aload (q := 94) X374 hx (hb hby at_92) rfl rfl ?_
  refine E.iloadN (q := 95) X374 hx (hb hby at_94) rfl ?_
  refine E.bipush (q := 97) (v := (8 : Int32)) X374 hx (hb hby at_95) rfl ?_
  refine E.iushr (q := 98) X374 hx (hb hby at_97) ?_
  refine E.iconst (q := 99) (v := (3 : Int32)) X374 hx (hb hby at_98) rfl ?_
  refine E.iand (q := 100) X374 hx (hb hby at_99) ?_
  obtain ⟨kk4, hkk4, ekk4⟩ := own_and3N ((p1.toUInt32 >>> ((8 : Int32) &&& 31).toUInt32).toInt32)
  rw [ekk4]
  show Ends (some (CHr Z own_EL vm0 h0)) p e below s _ _ _ T374 (mkF m 100 #[.val (.int nn), .val (.int p1), .val (.int p2), .val (.int p3), .val (.int p4), .val (.int p5), .val (.int (Int32.ofNat nk)), .val (.ref b352), .val (.ref b362), .unset, .unset] [(.int (Int32.ofNat kk4)), (.ref b352), (.int (4 : Int32)), (.ref b362)])
  obtain ⟨z4, hz4⟩ : ∃ z, ([(p2.toUInt32.toUInt16.toUInt32.toInt32), (p3.toUInt32.toUInt16.toUInt32.toInt32), (p4.toUInt32.toUInt16.toUInt32.toInt32), (p5.toUInt32.toUInt16.toUInt32.toInt32)] : List Int32)[kk4]? = some z := ⟨_, List.getElem?_eq_getElem (by simpa using hkk4)⟩
  have hzC4 : own_C z4 := by have q := List.mem_of_getElem? hz4; simp only [List.mem_cons, List.not_mem_nil, or_false] at q; rcases q with rfl | rfl | rfl | rfl <;> exact own_cC _
  have f376 := f373.other W374 (Nat.ne_of_lt (Nat.lt_of_lt_of_eq V360.lt g362.symm))
  refine Ends.cld X374 hx hZ e374 (show Ary Z _ _ .char ([(p2.toUInt32.toUInt16.toUInt32.toInt32), (p3.toUInt32.toUInt16.toUInt32.toInt32), (p4.toUInt32.toUInt16.toUInt32.toInt32), (p5.toUInt32.toUInt16.toUInt32.toInt32)].map Value.int) from f376) (i := kk4) (v := .int z4) rfl (by rw [List.getElem?_map, hz4]; rfl) (hb hby at_100) ?_
  show Ends (some (CHr Z own_EL vm0 h0)) p e below s _ _ _ T374 (mkF m 101 #[.val (.int nn), .val (.int p1), .val (.int p2), .val (.int p3), .val (.int p4), .val (.int p5), .val (.int (Int32.ofNat nk)), .val (.ref b352), .val (.ref b362), .unset, .unset] [(.int z4), (.int (4 : Int32)), (.ref b362)])
  refine Ends.cst X374 hx hZ e374 V374 (x' := z4) (own_nc16 hzC4) (i := 4) rfl (show 4 < 6 from by decide) (hb hby at_101) ?_
  intro T377 h377 X377 e377 W377 V377
  have V377 : Ary Z h377 b362 .char [(.int z0), (.int z1), (.int z2), (.int z3), (.int z4), (.int (0 : Int32))] := V377
  have O377 := O374.wr W377 (Or.inr ge_b362)
  have HC378 := HC375.trans (CHr.wr W377 (own_safe_ary hZ.alike V374 (by decide)) HC375.1)
  refine E.aload (q := 104) X377 hx (hb hby at_102) rfl rfl ?_
  refine E.iconst (q := 105) (v := (5 : Int32)) X377 hx (hb hby at_104) rfl ?_
  refine E.aload (q := 107) X377 hx (hb hby at_105) rfl rfl ?_
  refine E.iloadN (q := 108) X377 hx (hb hby at_107) rfl ?_
  refine E.bipush (q := 110) (v := (10 : Int32)) X377 hx (hb hby at_108) rfl ?_
  refine E.iushr (q := 111) X377 hx (hb hby at_110) ?_
  refine E.iconst (q := 112) (v := (3 : Int32)) X377 hx (hb hby at_111) rfl ?_
  refine E.iand (q := 113) X377 hx (hb hby at_112) ?_
  obtain ⟨kk5, hkk5, ekk5⟩ := own_and3N ((p1.toUInt32 >>> ((10 : Int32) &&& 31).toUInt32).toInt32)
  rw [ekk5]
  show Ends (some (CHr Z own_EL vm0 h0)) p e below s _ _ _ T377 (mkF m 113 #[.val (.int nn), .val (.int p1), .val (.int p2), .val (.int p3), .val (.int p4), .val (.int p5), .val (.int (Int32.ofNat nk)), .val (.ref b352), .val (.ref b362), .unset, .unset] [(.int (Int32.ofNat kk5)), (.ref b352), (.int (5 : Int32)), (.ref b362)])
  obtain ⟨z5, hz5⟩ : ∃ z, ([(p2.toUInt32.toUInt16.toUInt32.toInt32), (p3.toUInt32.toUInt16.toUInt32.toInt32), (p4.toUInt32.toUInt16.toUInt32.toInt32), (p5.toUInt32.toUInt16.toUInt32.toInt32)] : List Int32)[kk5]? = some z := ⟨_, List.getElem?_eq_getElem (by simpa using hkk5)⟩
  have hzC5 : own_C z5 := by have q := List.mem_of_getElem? hz5; simp only [List.mem_cons, List.not_mem_nil, or_false] at q; rcases q with rfl | rfl | rfl | rfl <;> exact own_cC _
  have f379 := f376.other W377 (Nat.ne_of_lt (Nat.lt_of_lt_of_eq V360.lt g362.symm))
  refine Ends.cld X377 hx hZ e377 (show Ary Z _ _ .char ([(p2.toUInt32.toUInt16.toUInt32.toInt32), (p3.toUInt32.toUInt16.toUInt32.toInt32), (p4.toUInt32.toUInt16.toUInt32.toInt32), (p5.toUInt32.toUInt16.toUInt32.toInt32)].map Value.int) from f379) (i := kk5) (v := .int z5) rfl (by rw [List.getElem?_map, hz5]; rfl) (hb hby at_113) ?_
  show Ends (some (CHr Z own_EL vm0 h0)) p e below s _ _ _ T377 (mkF m 114 #[.val (.int nn), .val (.int p1), .val (.int p2), .val (.int p3), .val (.int p4), .val (.int p5), .val (.int (Int32.ofNat nk)), .val (.ref b352), .val (.ref b362), .unset, .unset] [(.int z5), (.int (5 : Int32)), (.ref b362)])
  refine Ends.cst X377 hx hZ e377 V377 (x' := z5) (own_nc16 hzC5) (i := 5) rfl (show 5 < 6 from by decide) (hb hby at_114) ?_
  intro T380 h380 X380 e380 W380 V380
  have V380 : Ary Z h380 b362 .char [(.int z0), (.int z1), (.int z2), (.int z3), (.int z4), (.int z5)] := V380
  have O380 := O377.wr W380 (Or.inr ge_b362)
  have HC381 := HC378.trans (CHr.wr W380 (own_safe_ary hZ.alike V377 (by decide)) HC378.1)
  refine E.aload (q := 117) X380 hx (hb hby at_115) rfl rfl ?_
  refine E.iload (q := 119) X380 hx (hb hby at_117) rfl ?_
  have hnk7 : nk = 0 ∨ nk = 1 ∨ nk = 2 ∨ nk = 3 ∨ nk = 4 ∨ nk = 5 ∨ nk = 6 := by omega
  rcases hnk7 with rfl | rfl | rfl | rfl | rfl | rfl | rfl
  · show Ends (some (CHr Z own_EL vm0 h0)) p e below s _ _ _ T380 (mkF m 119 #[.val (.int nn), .val (.int p1), .val (.int p2), .val (.int p3), .val (.int p4), .val (.int p5), .val (.int (0 : Int32)), .val (.ref b352), .val (.ref b362), .unset, .unset] [(.int (0 : Int32)), (.ref b362)])
    refine Ends.callSH X380 hx hZ hown (hw _ (List.mem_of_getElem? (i := 2) rfl)) (hw _ (List.mem_of_getElem? (i := 3) rfl)) (hw _ (List.mem_of_getElem? (i := 4) rfl)) (hw _ (List.mem_of_getElem? (i := 5) rfl)) (by decide) (argsL := [(.ref b362), (.int (0 : Int32))]) (rest := []) e380 (Nat.zero_le _) (own_EW hw) HC381.1 (rmMk_0 l Z a0 hw b362 z0 z1 z2 z3 z4 z5 hzC0 hzC1 hzC2 hzC3 hzC4 hzC5 _ V380 cs hcs (own_sta_keep S0 O380.1 own_ns0) (own_sta_keep S2 O380.1 own_ns0) (own_sta_keep S3 O380.1 own_ns0) (own_sta_keep S4 O380.1 own_ns0)) (W := 0) (by decide) (by decide) (by rw [hml]; rfl) (lenOf pd_22 rfl) (Nat.le_of_eq rfl) (hb hby at_119) (by decide) (by decide) rfl ?_
    rintro s T382 v382 L382 X382 hc382 hZ hown ⟨a382, V382, cd382, bs382, rfl, ga382, hO382, Ea382, Fv382, Fc382, A382, hS382⟩
    have e382 : T382.heap = T382.heap := rfl
    have O382 := O380.call hO382 all0
    have HC383 := HC381.trans hc382
    show Ends (some (CHr Z own_EL vm0 h0)) p e below s _ _ _ T382 (mkF m 122 #[.val (.int nn), .val (.int p1), .val (.int p2), .val (.int p3), .val (.int p4), .val (.int p5), .val (.int (0 : Int32)), .val (.ref b352), .val (.ref b362), .unset, .unset] [(.ref a382)])
    refine E.astore (q := 124) (l' := #[.val (.int nn), .val (.int p1), .val (.int p2), .val (.int p3), .val (.int p4), .val (.int p5), .val (.int (0 : Int32)), .val (.ref b352), .val (.ref b362), .val (.ref a382), .unset]) X382 hx (hb hby at_122) rfl rfl ?_
    refine E.aload (q := 126) X382 hx (hb hby at_124) rfl rfl ?_
    refine Ends.callSH X382 hx hZ hown (hw _ (List.mem_of_getElem? (i := 27) rfl)) (hw _ (List.mem_of_getElem? (i := 28) rfl)) (hw _ (List.mem_of_getElem? (i := 29) rfl)) (hw _ (List.mem_of_getElem? (i := 30) rfl)) (by decide) (argsL := [(.ref a382)]) (rest := []) e382 (Nat.le_refl _) (own_EW hw) HC383.1 (rm5 l Z a0 hw a382 V382 cd382 bs382 ([] : List Int32) hS382 (by simp) _ Ea382 Fv382 Fc382 A382 cs hcs (own_sta_keep S0 O382.1 own_ns0) fv hfv (own_sta_keep S1 O382.1 own_ns0) (own_sta_keep S2 O382.1 own_ns0) (own_sta_keep S3 O382.1 own_ns0) (own_sta_keep S4 O382.1 own_ns0)) (W := 0) (by decide) (by decide) (by rw [hml]; rfl) (lenOf pd_23 rfl) (Nat.le_of_eq rfl) (hb hby at_126) (by decide) (by decide) rfl ?_
    rintro s T384 v384 L384 X384 hc384 hZ hown ⟨b384, rfl, gb384, hO384, T_384⟩
    have e384 : T384.heap = T384.heap := rfl
    have O384 := O382.call hO384 all0
    have HC385 := HC383.trans hc384
    show Ends (some (CHr Z own_EL vm0 h0)) p e below s _ _ _ T384 (mkF m 129 #[.val (.int nn), .val (.int p1), .val (.int p2), .val (.int p3), .val (.int p4), .val (.int p5), .val (.int (0 : Int32)), .val (.ref b352), .val (.ref b362), .val (.ref a382), .unset] [(.ref b384)])
    refine E.astore (q := 131) (l' := #[.val (.int nn), .val (.int p1), .val (.int p2), .val (.int p3), .val (.int p4), .val (.int p5), .val (.int (0 : Int32)), .val (.ref b352), .val (.ref b362), .val (.ref a382), .val (.ref b384)]) X384 hx (hb hby at_129) rfl rfl ?_
    refine E.aload (q := 133) X384 hx (hb hby at_131) rfl rfl ?_
    refine E.nullN (q := 136) X384 hx (hb hby at_133) ?_
    refine E.aload (q := 138) X384 hx (hb hby at_136) rfl rfl ?_
    refine Ends.alen X384 hx hZ e384 T_384 (hb hby at_138) (n := (0 : Int32)) (by rw [List.length_map, own_ints_len, own_kmp_len]; rfl) ?_
    refine E.iload (q := 141) X384 hx (hb hby at_139) rfl ?_
    refine E.icmpY (q := 146) X384 hx (hb hby at_141) (XT.ii_eq_t (by decide)) ?_
    refine E.aload (q := 148) X384 hx (hb hby at_146) rfl rfl ?_
    refine E.aload (q := 150) X384 hx (hb hby at_148) rfl rfl ?_
    refine E.iload (q := 152) X384 hx (hb hby at_150) rfl ?_
    refine E.iconst (q := 153) (v := (0 : Int32)) X384 hx (hb hby at_152) rfl ?_
    have f386 := V380.keep hO382.1 nin0
    have f387 := f386.keep hO384.1 nin0
    refine Ends.callS X384 hx hZ hown (hw _ (List.mem_of_getElem? (i := 62) rfl)) (hw _ (List.mem_of_getElem? (i := 63) rfl)) (hw _ (List.mem_of_getElem? (i := 4) rfl)) (hw _ (List.mem_of_getElem? (i := 64) rfl)) (by decide) (argsL := [(.ref b384), (.ref b362), (.int (0 : Int32)), (.int (0 : Int32))]) (rest := []) e384 (rmCk0 l Z a0 hw b384 b362 z0 z1 z2 z3 z4 z5 0 (by decide) (own_ints (own_kmp ([] : List Int32))) (fun q => absurd q (by decide)) _ f387 T_384) (W := 0) (by decide) (by decide) (by rw [hml]; rfl) (lenOf pd_24 rfl) (Nat.le_of_eq rfl) (hb hby at_153) (by decide) (by decide) rfl ?_
    rintro T388 v388 L388 X388 ⟨rfl, e388, rfl⟩
    rw [List.append_nil] at X388
    show Ends (some (CHr Z own_EL vm0 h0)) p e below s _ _ _ T388 (mkF m 156 #[.val (.int nn), .val (.int p1), .val (.int p2), .val (.int p3), .val (.int p4), .val (.int p5), .val (.int (0 : Int32)), .val (.ref b352), .val (.ref b362), .val (.ref a382), .val (.ref b384)] [(.int (1 : Int32))])
    refine E.ifN (q := 159) X388 hx (hb hby at_156) (XT.i0_eq_f (by decide)) ?_
    refine E.aload (q := 161) X388 hx (hb hby at_159) rfl rfl ?_
    refine E.aload (q := 163) X388 hx (hb hby at_161) rfl rfl ?_
    refine E.iload (q := 165) X388 hx (hb hby at_163) rfl ?_
    refine E.iconst (q := 166) (v := (1 : Int32)) X388 hx (hb hby at_165) rfl ?_
    refine Ends.callS X388 hx hZ hown (hw _ (List.mem_of_getElem? (i := 62) rfl)) (hw _ (List.mem_of_getElem? (i := 63) rfl)) (hw _ (List.mem_of_getElem? (i := 4) rfl)) (hw _ (List.mem_of_getElem? (i := 64) rfl)) (by decide) (argsL := [(.ref b384), (.ref b362), (.int (0 : Int32)), (.int (1 : Int32))]) (rest := []) e388 (rmCk1 l Z a0 hw b384 b362 z0 z1 z2 z3 z4 z5 0 (by decide) (own_ints (own_kmp ([] : List Int32))) (fun q => absurd q (by decide)) _ f387 T_384) (W := 0) (by decide) (by decide) (by rw [hml]; rfl) (lenOf pd_24 rfl) (Nat.le_of_eq rfl) (hb hby at_166) (by decide) (by decide) rfl ?_
    rintro T389 v389 L389 X389 ⟨rfl, e389, rfl⟩
    rw [List.append_nil] at X389
    show Ends (some (CHr Z own_EL vm0 h0)) p e below s _ _ _ T389 (mkF m 169 #[.val (.int nn), .val (.int p1), .val (.int p2), .val (.int p3), .val (.int p4), .val (.int p5), .val (.int (0 : Int32)), .val (.ref b352), .val (.ref b362), .val (.ref a382), .val (.ref b384)] [(.int (1 : Int32))])
    refine E.ifN (q := 172) X389 hx (hb hby at_169) (XT.i0_eq_f (by decide)) ?_
    refine E.aload (q := 174) X389 hx (hb hby at_172) rfl rfl ?_
    refine E.aload (q := 176) X389 hx (hb hby at_174) rfl rfl ?_
    refine E.iload (q := 178) X389 hx (hb hby at_176) rfl ?_
    refine E.iconst (q := 179) (v := (2 : Int32)) X389 hx (hb hby at_178) rfl ?_
    refine Ends.callS X389 hx hZ hown (hw _ (List.mem_of_getElem? (i := 62) rfl)) (hw _ (List.mem_of_getElem? (i := 63) rfl)) (hw _ (List.mem_of_getElem? (i := 4) rfl)) (hw _ (List.mem_of_getElem? (i := 64) rfl)) (by decide) (argsL := [(.ref b384), (.ref b362), (.int (0 : Int32)), (.int (2 : Int32))]) (rest := []) e389 (rmCk2 l Z a0 hw b384 b362 z0 z1 z2 z3 z4 z5 0 (by decide) (own_ints (own_kmp ([] : List Int32))) (fun q => absurd q (by decide)) _ f387 T_384) (W := 0) (by decide) (by decide) (by rw [hml]; rfl) (lenOf pd_24 rfl) (Nat.le_of_eq rfl) (hb hby at_179) (by decide) (by decide) rfl ?_
    rintro T390 v390 L390 X390 ⟨rfl, e390, rfl⟩
    rw [List.append_nil] at X390
    show Ends (some (CHr Z own_EL vm0 h0)) p e below s _ _ _ T390 (mkF m 182 #[.val (.int nn), .val (.int p1), .val (.int p2), .val (.int p3), .val (.int p4), .val (.int p5), .val (.int (0 : Int32)), .val (.ref b352), .val (.ref b362), .val (.ref a382), .val (.ref b384)] [(.int (1 : Int32))])
    refine E.ifN (q := 185) X390 hx (hb hby at_182) (XT.i0_eq_f (by decide)) ?_
    refine E.aload (q := 187) X390 hx (hb hby at_185) rfl rfl ?_
    refine E.aload (q := 189) X390 hx (hb hby at_187) rfl rfl ?_
    refine E.iload (q := 191) X390 hx (hb hby at_189) rfl ?_
    refine E.iconst (q := 192) (v := (3 : Int32)) X390 hx (hb hby at_191) rfl ?_
    refine Ends.callS X390 hx hZ hown (hw _ (List.mem_of_getElem? (i := 62) rfl)) (hw _ (List.mem_of_getElem? (i := 63) rfl)) (hw _ (List.mem_of_getElem? (i := 4) rfl)) (hw _ (List.mem_of_getElem? (i := 64) rfl)) (by decide) (argsL := [(.ref b384), (.ref b362), (.int (0 : Int32)), (.int (3 : Int32))]) (rest := []) e390 (rmCk3 l Z a0 hw b384 b362 z0 z1 z2 z3 z4 z5 0 (by decide) (own_ints (own_kmp ([] : List Int32))) (fun q => absurd q (by decide)) _ f387 T_384) (W := 0) (by decide) (by decide) (by rw [hml]; rfl) (lenOf pd_24 rfl) (Nat.le_of_eq rfl) (hb hby at_192) (by decide) (by decide) rfl ?_
    rintro T391 v391 L391 X391 ⟨rfl, e391, rfl⟩
    rw [List.append_nil] at X391
    show Ends (some (CHr Z own_EL vm0 h0)) p e below s _ _ _ T391 (mkF m 195 #[.val (.int nn), .val (.int p1), .val (.int p2), .val (.int p3), .val (.int p4), .val (.int p5), .val (.int (0 : Int32)), .val (.ref b352), .val (.ref b362), .val (.ref a382), .val (.ref b384)] [(.int (1 : Int32))])
    refine E.ifN (q := 198) X391 hx (hb hby at_195) (XT.i0_eq_f (by decide)) ?_
    refine E.aload (q := 200) X391 hx (hb hby at_198) rfl rfl ?_
    refine E.aload (q := 202) X391 hx (hb hby at_200) rfl rfl ?_
    refine E.iload (q := 204) X391 hx (hb hby at_202) rfl ?_
    refine E.iconst (q := 205) (v := (4 : Int32)) X391 hx (hb hby at_204) rfl ?_
    refine Ends.callS X391 hx hZ hown (hw _ (List.mem_of_getElem? (i := 62) rfl)) (hw _ (List.mem_of_getElem? (i := 63) rfl)) (hw _ (List.mem_of_getElem? (i := 4) rfl)) (hw _ (List.mem_of_getElem? (i := 64) rfl)) (by decide) (argsL := [(.ref b384), (.ref b362), (.int (0 : Int32)), (.int (4 : Int32))]) (rest := []) e391 (rmCk4 l Z a0 hw b384 b362 z0 z1 z2 z3 z4 z5 0 (by decide) (own_ints (own_kmp ([] : List Int32))) (fun q => absurd q (by decide)) _ f387 T_384) (W := 0) (by decide) (by decide) (by rw [hml]; rfl) (lenOf pd_24 rfl) (Nat.le_of_eq rfl) (hb hby at_205) (by decide) (by decide) rfl ?_
    rintro T392 v392 L392 X392 ⟨rfl, e392, rfl⟩
    rw [List.append_nil] at X392
    show Ends (some (CHr Z own_EL vm0 h0)) p e below s _ _ _ T392 (mkF m 208 #[.val (.int nn), .val (.int p1), .val (.int p2), .val (.int p3), .val (.int p4), .val (.int p5), .val (.int (0 : Int32)), .val (.ref b352), .val (.ref b362), .val (.ref a382), .val (.ref b384)] [(.int (1 : Int32))])
    refine E.ifN (q := 211) X392 hx (hb hby at_208) (XT.i0_eq_f (by decide)) ?_
    refine E.aload (q := 213) X392 hx (hb hby at_211) rfl rfl ?_
    refine E.aload (q := 215) X392 hx (hb hby at_213) rfl rfl ?_
    refine E.iload (q := 217) X392 hx (hb hby at_215) rfl ?_
    refine E.iconst (q := 218) (v := (5 : Int32)) X392 hx (hb hby at_217) rfl ?_
    refine Ends.callS X392 hx hZ hown (hw _ (List.mem_of_getElem? (i := 62) rfl)) (hw _ (List.mem_of_getElem? (i := 63) rfl)) (hw _ (List.mem_of_getElem? (i := 4) rfl)) (hw _ (List.mem_of_getElem? (i := 64) rfl)) (by decide) (argsL := [(.ref b384), (.ref b362), (.int (0 : Int32)), (.int (5 : Int32))]) (rest := []) e392 (rmCk5 l Z a0 hw b384 b362 z0 z1 z2 z3 z4 z5 0 (by decide) (own_ints (own_kmp ([] : List Int32))) (fun q => absurd q (by decide)) _ f387 T_384) (W := 0) (by decide) (by decide) (by rw [hml]; rfl) (lenOf pd_24 rfl) (Nat.le_of_eq rfl) (hb hby at_218) (by decide) (by decide) rfl ?_
    rintro T393 v393 L393 X393 ⟨rfl, e393, rfl⟩
    rw [List.append_nil] at X393
    show Ends (some (CHr Z own_EL vm0 h0)) p e below s _ _ _ T393 (mkF m 221 #[.val (.int nn), .val (.int p1), .val (.int p2), .val (.int p3), .val (.int p4), .val (.int p5), .val (.int (0 : Int32)), .val (.ref b352), .val (.ref b362), .val (.ref a382), .val (.ref b384)] [(.int (1 : Int32))])
    refine E.ifN (q := 224) X393 hx (hb hby at_221) (XT.i0_eq_f (by decide)) ?_
    refine E.iconst (q := 225) (v := (1 : Int32)) X393 hx (hb hby at_224) rfl ?_
    refine E.goto (q := 229) X393 hx (hb hby at_225) ?_
    exact Ends.retS X393 hx hlk hret (by simp) rfl (hb hby at_229) (by decide) (by decide) ⟨⟨rfl, (O384).fr⟩, by first | exact (Nat.le_refl _) | (rw [e393]; exact (Nat.le_refl _))⟩ (hF := own_chret X393 hZ (own_EW hw) HC385 (by first | rfl | assumption))
  · show Ends (some (CHr Z own_EL vm0 h0)) p e below s _ _ _ T380 (mkF m 119 #[.val (.int nn), .val (.int p1), .val (.int p2), .val (.int p3), .val (.int p4), .val (.int p5), .val (.int (1 : Int32)), .val (.ref b352), .val (.ref b362), .unset, .unset] [(.int (1 : Int32)), (.ref b362)])
    refine Ends.callSH X380 hx hZ hown (hw _ (List.mem_of_getElem? (i := 2) rfl)) (hw _ (List.mem_of_getElem? (i := 3) rfl)) (hw _ (List.mem_of_getElem? (i := 4) rfl)) (hw _ (List.mem_of_getElem? (i := 5) rfl)) (by decide) (argsL := [(.ref b362), (.int (1 : Int32))]) (rest := []) e380 (Nat.zero_le _) (own_EW hw) HC381.1 (rmMk_1 l Z a0 hw b362 z0 z1 z2 z3 z4 z5 hzC0 hzC1 hzC2 hzC3 hzC4 hzC5 _ V380 cs hcs (own_sta_keep S0 O380.1 own_ns0) (own_sta_keep S2 O380.1 own_ns0) (own_sta_keep S3 O380.1 own_ns0) (own_sta_keep S4 O380.1 own_ns0)) (W := 0) (by decide) (by decide) (by rw [hml]; rfl) (lenOf pd_22 rfl) (Nat.le_of_eq rfl) (hb hby at_119) (by decide) (by decide) rfl ?_
    rintro s T394 v394 L394 X394 hc394 hZ hown ⟨a394, V394, cd394, bs394, rfl, ga394, hO394, Ea394, Fv394, Fc394, A394, hS394⟩
    have e394 : T394.heap = T394.heap := rfl
    have O394 := O380.call hO394 all0
    have HC395 := HC381.trans hc394
    show Ends (some (CHr Z own_EL vm0 h0)) p e below s _ _ _ T394 (mkF m 122 #[.val (.int nn), .val (.int p1), .val (.int p2), .val (.int p3), .val (.int p4), .val (.int p5), .val (.int (1 : Int32)), .val (.ref b352), .val (.ref b362), .unset, .unset] [(.ref a394)])
    refine E.astore (q := 124) (l' := #[.val (.int nn), .val (.int p1), .val (.int p2), .val (.int p3), .val (.int p4), .val (.int p5), .val (.int (1 : Int32)), .val (.ref b352), .val (.ref b362), .val (.ref a394), .unset]) X394 hx (hb hby at_122) rfl rfl ?_
    refine E.aload (q := 126) X394 hx (hb hby at_124) rfl rfl ?_
    refine Ends.callSH X394 hx hZ hown (hw _ (List.mem_of_getElem? (i := 27) rfl)) (hw _ (List.mem_of_getElem? (i := 28) rfl)) (hw _ (List.mem_of_getElem? (i := 29) rfl)) (hw _ (List.mem_of_getElem? (i := 30) rfl)) (by decide) (argsL := [(.ref a394)]) (rest := []) e394 (Nat.le_refl _) (own_EW hw) HC395.1 (rm5 l Z a0 hw a394 V394 cd394 bs394 [z0] hS394 (by simp) _ Ea394 Fv394 Fc394 A394 cs hcs (own_sta_keep S0 O394.1 own_ns0) fv hfv (own_sta_keep S1 O394.1 own_ns0) (own_sta_keep S2 O394.1 own_ns0) (own_sta_keep S3 O394.1 own_ns0) (own_sta_keep S4 O394.1 own_ns0)) (W := 0) (by decide) (by decide) (by rw [hml]; rfl) (lenOf pd_23 rfl) (Nat.le_of_eq rfl) (hb hby at_126) (by decide) (by decide) rfl ?_
    rintro s T396 v396 L396 X396 hc396 hZ hown ⟨b396, rfl, gb396, hO396, T_396⟩
    have e396 : T396.heap = T396.heap := rfl
    have O396 := O394.call hO396 all0
    have HC397 := HC395.trans hc396
    show Ends (some (CHr Z own_EL vm0 h0)) p e below s _ _ _ T396 (mkF m 129 #[.val (.int nn), .val (.int p1), .val (.int p2), .val (.int p3), .val (.int p4), .val (.int p5), .val (.int (1 : Int32)), .val (.ref b352), .val (.ref b362), .val (.ref a394), .unset] [(.ref b396)])
    refine E.astore (q := 131) (l' := #[.val (.int nn), .val (.int p1), .val (.int p2), .val (.int p3), .val (.int p4), .val (.int p5), .val (.int (1 : Int32)), .val (.ref b352), .val (.ref b362), .val (.ref a394), .val (.ref b396)]) X396 hx (hb hby at_129) rfl rfl ?_
    refine E.aload (q := 133) X396 hx (hb hby at_131) rfl rfl ?_
    refine E.nullN (q := 136) X396 hx (hb hby at_133) ?_
    refine E.aload (q := 138) X396 hx (hb hby at_136) rfl rfl ?_
    refine Ends.alen X396 hx hZ e396 T_396 (hb hby at_138) (n := (1 : Int32)) (by rw [List.length_map, own_ints_len, own_kmp_len]; rfl) ?_
    refine E.iload (q := 141) X396 hx (hb hby at_139) rfl ?_
    refine E.icmpY (q := 146) X396 hx (hb hby at_141) (XT.ii_eq_t (by decide)) ?_
    refine E.aload (q := 148) X396 hx (hb hby at_146) rfl rfl ?_
    refine E.aload (q := 150) X396 hx (hb hby at_148) rfl rfl ?_
    refine E.iload (q := 152) X396 hx (hb hby at_150) rfl ?_
    refine E.iconst (q := 153) (v := (0 : Int32)) X396 hx (hb hby at_152) rfl ?_
    have f398 := V380.keep hO394.1 nin0
    have f399 := f398.keep hO396.1 nin0
    refine Ends.callS X396 hx hZ hown (hw _ (List.mem_of_getElem? (i := 62) rfl)) (hw _ (List.mem_of_getElem? (i := 63) rfl)) (hw _ (List.mem_of_getElem? (i := 4) rfl)) (hw _ (List.mem_of_getElem? (i := 64) rfl)) (by decide) (argsL := [(.ref b396), (.ref b362), (.int (1 : Int32)), (.int (0 : Int32))]) (rest := []) e396 (rmCk0 l Z a0 hw b396 b362 z0 z1 z2 z3 z4 z5 1 (by decide) (own_ints (own_kmp [z0])) (fun _ => own_ckat (own_law z0 z1 z2 z3 z4 z5 (n := 1) (i := 0) (by decide) (by decide))) _ f399 T_396) (W := 0) (by decide) (by decide) (by rw [hml]; rfl) (lenOf pd_24 rfl) (Nat.le_of_eq rfl) (hb hby at_153) (by decide) (by decide) rfl ?_
    rintro T400 v400 L400 X400 ⟨rfl, e400, rfl⟩
    rw [List.append_nil] at X400
    show Ends (some (CHr Z own_EL vm0 h0)) p e below s _ _ _ T400 (mkF m 156 #[.val (.int nn), .val (.int p1), .val (.int p2), .val (.int p3), .val (.int p4), .val (.int p5), .val (.int (1 : Int32)), .val (.ref b352), .val (.ref b362), .val (.ref a394), .val (.ref b396)] [(.int (1 : Int32))])
    refine E.ifN (q := 159) X400 hx (hb hby at_156) (XT.i0_eq_f (by decide)) ?_
    refine E.aload (q := 161) X400 hx (hb hby at_159) rfl rfl ?_
    refine E.aload (q := 163) X400 hx (hb hby at_161) rfl rfl ?_
    refine E.iload (q := 165) X400 hx (hb hby at_163) rfl ?_
    refine E.iconst (q := 166) (v := (1 : Int32)) X400 hx (hb hby at_165) rfl ?_
    refine Ends.callS X400 hx hZ hown (hw _ (List.mem_of_getElem? (i := 62) rfl)) (hw _ (List.mem_of_getElem? (i := 63) rfl)) (hw _ (List.mem_of_getElem? (i := 4) rfl)) (hw _ (List.mem_of_getElem? (i := 64) rfl)) (by decide) (argsL := [(.ref b396), (.ref b362), (.int (1 : Int32)), (.int (1 : Int32))]) (rest := []) e400 (rmCk1 l Z a0 hw b396 b362 z0 z1 z2 z3 z4 z5 1 (by decide) (own_ints (own_kmp [z0])) (fun q => absurd q (by decide)) _ f399 T_396) (W := 0) (by decide) (by decide) (by rw [hml]; rfl) (lenOf pd_24 rfl) (Nat.le_of_eq rfl) (hb hby at_166) (by decide) (by decide) rfl ?_
    rintro T401 v401 L401 X401 ⟨rfl, e401, rfl⟩
    rw [List.append_nil] at X401
    show Ends (some (CHr Z own_EL vm0 h0)) p e below s _ _ _ T401 (mkF m 169 #[.val (.int nn), .val (.int p1), .val (.int p2), .val (.int p3), .val (.int p4), .val (.int p5), .val (.int (1 : Int32)), .val (.ref b352), .val (.ref b362), .val (.ref a394), .val (.ref b396)] [(.int (1 : Int32))])
    refine E.ifN (q := 172) X401 hx (hb hby at_169) (XT.i0_eq_f (by decide)) ?_
    refine E.aload (q := 174) X401 hx (hb hby at_172) rfl rfl ?_
    refine E.aload (q := 176) X401 hx (hb hby at_174) rfl rfl ?_
    refine E.iload (q := 178) X401 hx (hb hby at_176) rfl ?_
    refine E.iconst (q := 179) (v := (2 : Int32)) X401 hx (hb hby at_178) rfl ?_
    refine Ends.callS X401 hx hZ hown (hw _ (List.mem_of_getElem? (i := 62) rfl)) (hw _ (List.mem_of_getElem? (i := 63) rfl)) (hw _ (List.mem_of_getElem? (i := 4) rfl)) (hw _ (List.mem_of_getElem? (i := 64) rfl)) (by decide) (argsL := [(.ref b396), (.ref b362), (.int (1 : Int32)), (.int (2 : Int32))]) (rest := []) e401 (rmCk2 l Z a0 hw b396 b362 z0 z1 z2 z3 z4 z5 1 (by decide) (own_ints (own_kmp [z0])) (fun q => absurd q (by decide)) _ f399 T_396) (W := 0) (by decide) (by decide) (by rw [hml]; rfl) (lenOf pd_24 rfl) (Nat.le_of_eq rfl) (hb hby at_179) (by decide) (by decide) rfl ?_
    rintro T402 v402 L402 X402 ⟨rfl, e402, rfl⟩
    rw [List.append_nil] at X402
    show Ends (some (CHr Z own_EL vm0 h0)) p e below s _ _ _ T402 (mkF m 182 #[.val (.int nn), .val (.int p1), .val (.int p2), .val (.int p3), .val (.int p4), .val (.int p5), .val (.int (1 : Int32)), .val (.ref b352), .val (.ref b362), .val (.ref a394), .val (.ref b396)] [(.int (1 : Int32))])
    refine E.ifN (q := 185) X402 hx (hb hby at_182) (XT.i0_eq_f (by decide)) ?_
    refine E.aload (q := 187) X402 hx (hb hby at_185) rfl rfl ?_
    refine E.aload (q := 189) X402 hx (hb hby at_187) rfl rfl ?_
    refine E.iload (q := 191) X402 hx (hb hby at_189) rfl ?_
    refine E.iconst (q := 192) (v := (3 : Int32)) X402 hx (hb hby at_191) rfl ?_
    refine Ends.callS X402 hx hZ hown (hw _ (List.mem_of_getElem? (i := 62) rfl)) (hw _ (List.mem_of_getElem? (i := 63) rfl)) (hw _ (List.mem_of_getElem? (i := 4) rfl)) (hw _ (List.mem_of_getElem? (i := 64) rfl)) (by decide) (argsL := [(.ref b396), (.ref b362), (.int (1 : Int32)), (.int (3 : Int32))]) (rest := []) e402 (rmCk3 l Z a0 hw b396 b362 z0 z1 z2 z3 z4 z5 1 (by decide) (own_ints (own_kmp [z0])) (fun q => absurd q (by decide)) _ f399 T_396) (W := 0) (by decide) (by decide) (by rw [hml]; rfl) (lenOf pd_24 rfl) (Nat.le_of_eq rfl) (hb hby at_192) (by decide) (by decide) rfl ?_
    rintro T403 v403 L403 X403 ⟨rfl, e403, rfl⟩
    rw [List.append_nil] at X403
    show Ends (some (CHr Z own_EL vm0 h0)) p e below s _ _ _ T403 (mkF m 195 #[.val (.int nn), .val (.int p1), .val (.int p2), .val (.int p3), .val (.int p4), .val (.int p5), .val (.int (1 : Int32)), .val (.ref b352), .val (.ref b362), .val (.ref a394), .val (.ref b396)] [(.int (1 : Int32))])
    refine E.ifN (q := 198) X403 hx (hb hby at_195) (XT.i0_eq_f (by decide)) ?_
    refine E.aload (q := 200) X403 hx (hb hby at_198) rfl rfl ?_
    refine E.aload (q := 202) X403 hx (hb hby at_200) rfl rfl ?_
    refine E.iload (q := 204) X403 hx (hb hby at_202) rfl ?_
    refine E.iconst (q := 205) (v := (4 : Int32)) X403 hx (hb hby at_204) rfl ?_
    refine Ends.callS X403 hx hZ hown (hw _ (List.mem_of_getElem? (i := 62) rfl)) (hw _ (List.mem_of_getElem? (i := 63) rfl)) (hw _ (List.mem_of_getElem? (i := 4) rfl)) (hw _ (List.mem_of_getElem? (i := 64) rfl)) (by decide) (argsL := [(.ref b396), (.ref b362), (.int (1 : Int32)), (.int (4 : Int32))]) (rest := []) e403 (rmCk4 l Z a0 hw b396 b362 z0 z1 z2 z3 z4 z5 1 (by decide) (own_ints (own_kmp [z0])) (fun q => absurd q (by decide)) _ f399 T_396) (W := 0) (by decide) (by decide) (by rw [hml]; rfl) (lenOf pd_24 rfl) (Nat.le_of_eq rfl) (hb hby at_205) (by decide) (by decide) rfl ?_
    rintro T404 v404 L404 X404 ⟨rfl, e404, rfl⟩
    rw [List.append_nil] at X404
    show Ends (some (CHr Z own_EL vm0 h0)) p e below s _ _ _ T404 (mkF m 208 #[.val (.int nn), .val (.int p1), .val (.int p2), .val (.int p3), .val (.int p4), .val (.int p5), .val (.int (1 : Int32)), .val (.ref b352), .val (.ref b362), .val (.ref a394), .val (.ref b396)] [(.int (1 : Int32))])
    refine E.ifN (q := 211) X404 hx (hb hby at_208) (XT.i0_eq_f (by decide)) ?_
    refine E.aload (q := 213) X404 hx (hb hby at_211) rfl rfl ?_
    refine E.aload (q := 215) X404 hx (hb hby at_213) rfl rfl ?_
    refine E.iload (q := 217) X404 hx (hb hby at_215) rfl ?_
    refine E.iconst (q := 218) (v := (5 : Int32)) X404 hx (hb hby at_217) rfl ?_
    refine Ends.callS X404 hx hZ hown (hw _ (List.mem_of_getElem? (i := 62) rfl)) (hw _ (List.mem_of_getElem? (i := 63) rfl)) (hw _ (List.mem_of_getElem? (i := 4) rfl)) (hw _ (List.mem_of_getElem? (i := 64) rfl)) (by decide) (argsL := [(.ref b396), (.ref b362), (.int (1 : Int32)), (.int (5 : Int32))]) (rest := []) e404 (rmCk5 l Z a0 hw b396 b362 z0 z1 z2 z3 z4 z5 1 (by decide) (own_ints (own_kmp [z0])) (fun q => absurd q (by decide)) _ f399 T_396) (W := 0) (by decide) (by decide) (by rw [hml]; rfl) (lenOf pd_24 rfl) (Nat.le_of_eq rfl) (hb hby at_218) (by decide) (by decide) rfl ?_
    rintro T405 v405 L405 X405 ⟨rfl, e405, rfl⟩
    rw [List.append_nil] at X405
    show Ends (some (CHr Z own_EL vm0 h0)) p e below s _ _ _ T405 (mkF m 221 #[.val (.int nn), .val (.int p1), .val (.int p2), .val (.int p3), .val (.int p4), .val (.int p5), .val (.int (1 : Int32)), .val (.ref b352), .val (.ref b362), .val (.ref a394), .val (.ref b396)] [(.int (1 : Int32))])
    refine E.ifN (q := 224) X405 hx (hb hby at_221) (XT.i0_eq_f (by decide)) ?_
    refine E.iconst (q := 225) (v := (1 : Int32)) X405 hx (hb hby at_224) rfl ?_
    refine E.goto (q := 229) X405 hx (hb hby at_225) ?_
    exact Ends.retS X405 hx hlk hret (by simp) rfl (hb hby at_229) (by decide) (by decide) ⟨⟨rfl, (O396).fr⟩, by first | exact (Nat.le_refl _) | (rw [e405]; exact (Nat.le_refl _))⟩ (hF := own_chret X405 hZ (own_EW hw) HC397 (by first | rfl | assumption))
  · show Ends (some (CHr Z own_EL vm0 h0)) p e below s _ _ _ T380 (mkF m 119 #[.val (.int nn), .val (.int p1), .val (.int p2), .val (.int p3), .val (.int p4), .val (.int p5), .val (.int (2 : Int32)), .val (.ref b352), .val (.ref b362), .unset, .unset] [(.int (2 : Int32)), (.ref b362)])
    refine Ends.callSH X380 hx hZ hown (hw _ (List.mem_of_getElem? (i := 2) rfl)) (hw _ (List.mem_of_getElem? (i := 3) rfl)) (hw _ (List.mem_of_getElem? (i := 4) rfl)) (hw _ (List.mem_of_getElem? (i := 5) rfl)) (by decide) (argsL := [(.ref b362), (.int (2 : Int32))]) (rest := []) e380 (Nat.zero_le _) (own_EW hw) HC381.1 (rmMk_2 l Z a0 hw b362 z0 z1 z2 z3 z4 z5 hzC0 hzC1 hzC2 hzC3 hzC4 hzC5 _ V380 cs hcs (own_sta_keep S0 O380.1 own_ns0) (own_sta_keep S2 O380.1 own_ns0) (own_sta_keep S3 O380.1 own_ns0) (own_sta_keep S4 O380.1 own_ns0)) (W := 0) (by decide) (by decide) (by rw [hml]; rfl) (lenOf pd_22 rfl) (Nat.le_of_eq rfl) (hb hby at_119) (by decide) (by decide) rfl ?_
    rintro s T406 v406 L406 X406 hc406 hZ hown ⟨a406, V406, cd406, bs406, rfl, ga406, hO406, Ea406, Fv406, Fc406, A406, hS406⟩
    have e406 : T406.heap = T406.heap := rfl
    have O406 := O380.call hO406 all0
    have HC407 := HC381.trans hc406
    show Ends (some (CHr Z own_EL vm0 h0)) p e below s _ _ _ T406 (mkF m 122 #[.val (.int nn), .val (.int p1), .val (.int p2), .val (.int p3), .val (.int p4), .val (.int p5), .val (.int (2 : Int32)), .val (.ref b352), .val (.ref b362), .unset, .unset] [(.ref a406)])
    refine E.astore (q := 124) (l' := #[.val (.int nn), .val (.int p1), .val (.int p2), .val (.int p3), .val (.int p4), .val (.int p5), .val (.int (2 : Int32)), .val (.ref b352), .val (.ref b362), .val (.ref a406), .unset]) X406 hx (hb hby at_122) rfl rfl ?_
    refine E.aload (q := 126) X406 hx (hb hby at_124) rfl rfl ?_
    refine Ends.callSH X406 hx hZ hown (hw _ (List.mem_of_getElem? (i := 27) rfl)) (hw _ (List.mem_of_getElem? (i := 28) rfl)) (hw _ (List.mem_of_getElem? (i := 29) rfl)) (hw _ (List.mem_of_getElem? (i := 30) rfl)) (by decide) (argsL := [(.ref a406)]) (rest := []) e406 (Nat.le_refl _) (own_EW hw) HC407.1 (rm5 l Z a0 hw a406 V406 cd406 bs406 [z0, z1] hS406 (by simp) _ Ea406 Fv406 Fc406 A406 cs hcs (own_sta_keep S0 O406.1 own_ns0) fv hfv (own_sta_keep S1 O406.1 own_ns0) (own_sta_keep S2 O406.1 own_ns0) (own_sta_keep S3 O406.1 own_ns0) (own_sta_keep S4 O406.1 own_ns0)) (W := 0) (by decide) (by decide) (by rw [hml]; rfl) (lenOf pd_23 rfl) (Nat.le_of_eq rfl) (hb hby at_126) (by decide) (by decide) rfl ?_
    rintro s T408 v408 L408 X408 hc408 hZ hown ⟨b408, rfl, gb408, hO408, T_408⟩
    have e408 : T408.heap = T408.heap := rfl
    have O408 := O406.call hO408 all0
    have HC409 := HC407.trans hc408
    show Ends (some (CHr Z own_EL vm0 h0)) p e below s _ _ _ T408 (mkF m 129 #[.val (.int nn), .val (.int p1), .val (.int p2), .val (.int p3), .val (.int p4), .val (.int p5), .val (.int (2 : Int32)), .val (.ref b352), .val (.ref b362), .val (.ref a406), .unset] [(.ref b408)])
    refine E.astore (q := 131) (l' := #[.val (.int nn), .val (.int p1), .val (.int p2), .val (.int p3), .val (.int p4), .val (.int p5), .val (.int (2 : Int32)), .val (.ref b352), .val (.ref b362), .val (.ref a406), .val (.ref b408)]) X408 hx (hb hby at_129) rfl rfl ?_
    refine E.aload (q := 133) X408 hx (hb hby at_131) rfl rfl ?_
    refine E.nullN (q := 136) X408 hx (hb hby at_133) ?_
    refine E.aload (q := 138) X408 hx (hb hby at_136) rfl rfl ?_
    refine Ends.alen X408 hx hZ e408 T_408 (hb hby at_138) (n := (2 : Int32)) (by rw [List.length_map, own_ints_len, own_kmp_len]; rfl) ?_
    refine E.iload (q := 141) X408 hx (hb hby at_139) rfl ?_
    refine E.icmpY (q := 146) X408 hx (hb hby at_141) (XT.ii_eq_t (by decide)) ?_
    refine E.aload (q := 148) X408 hx (hb hby at_146) rfl rfl ?_
    refine E.aload (q := 150) X408 hx (hb hby at_148) rfl rfl ?_
    refine E.iload (q := 152) X408 hx (hb hby at_150) rfl ?_
    refine E.iconst (q := 153) (v := (0 : Int32)) X408 hx (hb hby at_152) rfl ?_
    have f410 := V380.keep hO406.1 nin0
    have f411 := f410.keep hO408.1 nin0
    refine Ends.callS X408 hx hZ hown (hw _ (List.mem_of_getElem? (i := 62) rfl)) (hw _ (List.mem_of_getElem? (i := 63) rfl)) (hw _ (List.mem_of_getElem? (i := 4) rfl)) (hw _ (List.mem_of_getElem? (i := 64) rfl)) (by decide) (argsL := [(.ref b408), (.ref b362), (.int (2 : Int32)), (.int (0 : Int32))]) (rest := []) e408 (rmCk0 l Z a0 hw b408 b362 z0 z1 z2 z3 z4 z5 2 (by decide) (own_ints (own_kmp [z0, z1])) (fun _ => own_ckat (own_law z0 z1 z2 z3 z4 z5 (n := 2) (i := 0) (by decide) (by decide))) _ f411 T_408) (W := 0) (by decide) (by decide) (by rw [hml]; rfl) (lenOf pd_24 rfl) (Nat.le_of_eq rfl) (hb hby at_153) (by decide) (by decide) rfl ?_
    rintro T412 v412 L412 X412 ⟨rfl, e412, rfl⟩
    rw [List.append_nil] at X412
    show Ends (some (CHr Z own_EL vm0 h0)) p e below s _ _ _ T412 (mkF m 156 #[.val (.int nn), .val (.int p1), .val (.int p2), .val (.int p3), .val (.int p4), .val (.int p5), .val (.int (2 : Int32)), .val (.ref b352), .val (.ref b362), .val (.ref a406), .val (.ref b408)] [(.int (1 : Int32))])
    refine E.ifN (q := 159) X412 hx (hb hby at_156) (XT.i0_eq_f (by decide)) ?_
    refine E.aload (q := 161) X412 hx (hb hby at_159) rfl rfl ?_
    refine E.aload (q := 163) X412 hx (hb hby at_161) rfl rfl ?_
    refine E.iload (q := 165) X412 hx (hb hby at_163) rfl ?_
    refine E.iconst (q := 166) (v := (1 : Int32)) X412 hx (hb hby at_165) rfl ?_
    refine Ends.callS X412 hx hZ hown (hw _ (List.mem_of_getElem? (i := 62) rfl)) (hw _ (List.mem_of_getElem? (i := 63) rfl)) (hw _ (List.mem_of_getElem? (i := 4) rfl)) (hw _ (List.mem_of_getElem? (i := 64) rfl)) (by decide) (argsL := [(.ref b408), (.ref b362), (.int (2 : Int32)), (.int (1 : Int32))]) (rest := []) e412 (rmCk1 l Z a0 hw b408 b362 z0 z1 z2 z3 z4 z5 2 (by decide) (own_ints (own_kmp [z0, z1])) (fun _ => own_ckat (own_law z0 z1 z2 z3 z4 z5 (n := 2) (i := 1) (by decide) (by decide))) _ f411 T_408) (W := 0) (by decide) (by decide) (by rw [hml]; rfl) (lenOf pd_24 rfl) (Nat.le_of_eq rfl) (hb hby at_166) (by decide) (by decide) rfl ?_
    rintro T413 v413 L413 X413 ⟨rfl, e413, rfl⟩
    rw [List.append_nil] at X413
    show Ends (some (CHr Z own_EL vm0 h0)) p e below s _ _ _ T413 (mkF m 169 #[.val (.int nn), .val (.int p1), .val (.int p2), .val (.int p3), .val (.int p4), .val (.int p5), .val (.int (2 : Int32)), .val (.ref b352), .val (.ref b362), .val (.ref a406), .val (.ref b408)] [(.int (1 : Int32))])
    refine E.ifN (q := 172) X413 hx (hb hby at_169) (XT.i0_eq_f (by decide)) ?_
    refine E.aload (q := 174) X413 hx (hb hby at_172) rfl rfl ?_
    refine E.aload (q := 176) X413 hx (hb hby at_174) rfl rfl ?_
    refine E.iload (q := 178) X413 hx (hb hby at_176) rfl ?_
    refine E.iconst (q := 179) (v := (2 : Int32)) X413 hx (hb hby at_178) rfl ?_
    refine Ends.callS X413 hx hZ hown (hw _ (List.mem_of_getElem? (i := 62) rfl)) (hw _ (List.mem_of_getElem? (i := 63) rfl)) (hw _ (List.mem_of_getElem? (i := 4) rfl)) (hw _ (List.mem_of_getElem? (i := 64) rfl)) (by decide) (argsL := [(.ref b408), (.ref b362), (.int (2 : Int32)), (.int (2 : Int32))]) (rest := []) e413 (rmCk2 l Z a0 hw b408 b362 z0 z1 z2 z3 z4 z5 2 (by decide) (own_ints (own_kmp [z0, z1])) (fun q => absurd q (by decide)) _ f411 T_408) (W := 0) (by decide) (by decide) (by rw [hml]; rfl) (lenOf pd_24 rfl) (Nat.le_of_eq rfl) (hb hby at_179) (by decide) (by decide) rfl ?_
    rintro T414 v414 L414 X414 ⟨rfl, e414, rfl⟩
    rw [List.append_nil] at X414
    show Ends (some (CHr Z own_EL vm0 h0)) p e below s _ _ _ T414 (mkF m 182 #[.val (.int nn), .val (.int p1), .val (.int p2), .val (.int p3), .val (.int p4), .val (.int p5), .val (.int (2 : Int32)), .val (.ref b352), .val (.ref b362), .val (.ref a406), .val (.ref b408)] [(.int (1 : Int32))])
    refine E.ifN (q := 185) X414 hx (hb hby at_182) (XT.i0_eq_f (by decide)) ?_
    refine E.aload (q := 187) X414 hx (hb hby at_185) rfl rfl ?_
    refine E.aload (q := 189) X414 hx (hb hby at_187) rfl rfl ?_
    refine E.iload (q := 191) X414 hx (hb hby at_189) rfl ?_
    refine E.iconst (q := 192) (v := (3 : Int32)) X414 hx (hb hby at_191) rfl ?_
    refine Ends.callS X414 hx hZ hown (hw _ (List.mem_of_getElem? (i := 62) rfl)) (hw _ (List.mem_of_getElem? (i := 63) rfl)) (hw _ (List.mem_of_getElem? (i := 4) rfl)) (hw _ (List.mem_of_getElem? (i := 64) rfl)) (by decide) (argsL := [(.ref b408), (.ref b362), (.int (2 : Int32)), (.int (3 : Int32))]) (rest := []) e414 (rmCk3 l Z a0 hw b408 b362 z0 z1 z2 z3 z4 z5 2 (by decide) (own_ints (own_kmp [z0, z1])) (fun q => absurd q (by decide)) _ f411 T_408) (W := 0) (by decide) (by decide) (by rw [hml]; rfl) (lenOf pd_24 rfl) (Nat.le_of_eq rfl) (hb hby at_192) (by decide) (by decide) rfl ?_
    rintro T415 v415 L415 X415 ⟨rfl, e415, rfl⟩
    rw [List.append_nil] at X415
    show Ends (some (CHr Z own_EL vm0 h0)) p e below s _ _ _ T415 (mkF m 195 #[.val (.int nn), .val (.int p1), .val (.int p2), .val (.int p3), .val (.int p4), .val (.int p5), .val (.int (2 : Int32)), .val (.ref b352), .val (.ref b362), .val (.ref a406), .val (.ref b408)] [(.int (1 : Int32))])
    refine E.ifN (q := 198) X415 hx (hb hby at_195) (XT.i0_eq_f (by decide)) ?_
    refine E.aload (q := 200) X415 hx (hb hby at_198) rfl rfl ?_
    refine E.aload (q := 202) X415 hx (hb hby at_200) rfl rfl ?_
    refine E.iload (q := 204) X415 hx (hb hby at_202) rfl ?_
    refine E.iconst (q := 205) (v := (4 : Int32)) X415 hx (hb hby at_204) rfl ?_
    refine Ends.callS X415 hx hZ hown (hw _ (List.mem_of_getElem? (i := 62) rfl)) (hw _ (List.mem_of_getElem? (i := 63) rfl)) (hw _ (List.mem_of_getElem? (i := 4) rfl)) (hw _ (List.mem_of_getElem? (i := 64) rfl)) (by decide) (argsL := [(.ref b408), (.ref b362), (.int (2 : Int32)), (.int (4 : Int32))]) (rest := []) e415 (rmCk4 l Z a0 hw b408 b362 z0 z1 z2 z3 z4 z5 2 (by decide) (own_ints (own_kmp [z0, z1])) (fun q => absurd q (by decide)) _ f411 T_408) (W := 0) (by decide) (by decide) (by rw [hml]; rfl) (lenOf pd_24 rfl) (Nat.le_of_eq rfl) (hb hby at_205) (by decide) (by decide) rfl ?_
    rintro T416 v416 L416 X416 ⟨rfl, e416, rfl⟩
    rw [List.append_nil] at X416
    show Ends (some (CHr Z own_EL vm0 h0)) p e below s _ _ _ T416 (mkF m 208 #[.val (.int nn), .val (.int p1), .val (.int p2), .val (.int p3), .val (.int p4), .val (.int p5), .val (.int (2 : Int32)), .val (.ref b352), .val (.ref b362), .val (.ref a406), .val (.ref b408)] [(.int (1 : Int32))])
    refine E.ifN (q := 211) X416 hx (hb hby at_208) (XT.i0_eq_f (by decide)) ?_
    refine E.aload (q := 213) X416 hx (hb hby at_211) rfl rfl ?_
    refine E.aload (q := 215) X416 hx (hb hby at_213) rfl rfl ?_
    refine E.iload (q := 217) X416 hx (hb hby at_215) rfl ?_
    refine E.iconst (q := 218) (v := (5 : Int32)) X416 hx (hb hby at_217) rfl ?_
    refine Ends.callS X416 hx hZ hown (hw _ (List.mem_of_getElem? (i := 62) rfl)) (hw _ (List.mem_of_getElem? (i := 63) rfl)) (hw _ (List.mem_of_getElem? (i := 4) rfl)) (hw _ (List.mem_of_getElem? (i := 64) rfl)) (by decide) (argsL := [(.ref b408), (.ref b362), (.int (2 : Int32)), (.int (5 : Int32))]) (rest := []) e416 (rmCk5 l Z a0 hw b408 b362 z0 z1 z2 z3 z4 z5 2 (by decide) (own_ints (own_kmp [z0, z1])) (fun q => absurd q (by decide)) _ f411 T_408) (W := 0) (by decide) (by decide) (by rw [hml]; rfl) (lenOf pd_24 rfl) (Nat.le_of_eq rfl) (hb hby at_218) (by decide) (by decide) rfl ?_
    rintro T417 v417 L417 X417 ⟨rfl, e417, rfl⟩
    rw [List.append_nil] at X417
    show Ends (some (CHr Z own_EL vm0 h0)) p e below s _ _ _ T417 (mkF m 221 #[.val (.int nn), .val (.int p1), .val (.int p2), .val (.int p3), .val (.int p4), .val (.int p5), .val (.int (2 : Int32)), .val (.ref b352), .val (.ref b362), .val (.ref a406), .val (.ref b408)] [(.int (1 : Int32))])
    refine E.ifN (q := 224) X417 hx (hb hby at_221) (XT.i0_eq_f (by decide)) ?_
    refine E.iconst (q := 225) (v := (1 : Int32)) X417 hx (hb hby at_224) rfl ?_
    refine E.goto (q := 229) X417 hx (hb hby at_225) ?_
    exact Ends.retS X417 hx hlk hret (by simp) rfl (hb hby at_229) (by decide) (by decide) ⟨⟨rfl, (O408).fr⟩, by first | exact (Nat.le_refl _) | (rw [e417]; exact (Nat.le_refl _))⟩ (hF := own_chret X417 hZ (own_EW hw) HC409 (by first | rfl | assumption))
  · show Ends (some (CHr Z own_EL vm0 h0)) p e below s _ _ _ T380 (mkF m 119 #[.val (.int nn), .val (.int p1), .val (.int p2), .val (.int p3), .val (.int p4), .val (.int p5), .val (.int (3 : Int32)), .val (.ref b352), .val (.ref b362), .unset, .unset] [(.int (3 : Int32)), (.ref b362)])
    refine Ends.callSH X380 hx hZ hown (hw _ (List.mem_of_getElem? (i := 2) rfl)) (hw _ (List.mem_of_getElem? (i := 3) rfl)) (hw _ (List.mem_of_getElem? (i := 4) rfl)) (hw _ (List.mem_of_getElem? (i := 5) rfl)) (by decide) (argsL := [(.ref b362), (.int (3 : Int32))]) (rest := []) e380 (Nat.zero_le _) (own_EW hw) HC381.1 (rmMk_3 l Z a0 hw b362 z0 z1 z2 z3 z4 z5 hzC0 hzC1 hzC2 hzC3 hzC4 hzC5 _ V380 cs hcs (own_sta_keep S0 O380.1 own_ns0) (own_sta_keep S2 O380.1 own_ns0) (own_sta_keep S3 O380.1 own_ns0) (own_sta_keep S4 O380.1 own_ns0)) (W := 0) (by decide) (by decide) (by rw [hml]; rfl) (lenOf pd_22 rfl) (Nat.le_of_eq rfl) (hb hby at_119) (by decide) (by decide) rfl ?_
    rintro s T418 v418 L418 X418 hc418 hZ hown ⟨a418, V418, cd418, bs418, rfl, ga418, hO418, Ea418, Fv418, Fc418, A418, hS418⟩
    have e418 : T418.heap = T418.heap := rfl
    have O418 := O380.call hO418 all0
    have HC419 := HC381.trans hc418
    show Ends (some (CHr Z own_EL vm0 h0)) p e below s _ _ _ T418 (mkF m 122 #[.val (.int nn), .val (.int p1), .val (.int p2), .val (.int p3), .val (.int p4), .val (.int p5), .val (.int (3 : Int32)), .val (.ref b352), .val (.ref b362), .unset, .unset] [(.ref a418)])
    refine E.astore (q := 124) (l' := #[.val (.int nn), .val (.int p1), .val (.int p2), .val (.int p3), .val (.int p4), .val (.int p5), .val (.int (3 : Int32)), .val (.ref b352), .val (.ref b362), .val (.ref a418), .unset]) X418 hx (hb hby at_122) rfl rfl ?_
    refine E.aload (q := 126) X418 hx (hb hby at_124) rfl rfl ?_
    refine Ends.callSH X418 hx hZ hown (hw _ (List.mem_of_getElem? (i := 27) rfl)) (hw _ (List.mem_of_getElem? (i := 28) rfl)) (hw _ (List.mem_of_getElem? (i := 29) rfl)) (hw _ (List.mem_of_getElem? (i := 30) rfl)) (by decide) (argsL := [(.ref a418)]) (rest := []) e418 (Nat.le_refl _) (own_EW hw) HC419.1 (rm5 l Z a0 hw a418 V418 cd418 bs418 [z0, z1, z2] hS418 (by simp) _ Ea418 Fv418 Fc418 A418 cs hcs (own_sta_keep S0 O418.1 own_ns0) fv hfv (own_sta_keep S1 O418.1 own_ns0) (own_sta_keep S2 O418.1 own_ns0) (own_sta_keep S3 O418.1 own_ns0) (own_sta_keep S4 O418.1 own_ns0)) (W := 0) (by decide) (by decide) (by rw [hml]; rfl) (lenOf pd_23 rfl) (Nat.le_of_eq rfl) (hb hby at_126) (by decide) (by decide) rfl ?_
    rintro s T420 v420 L420 X420 hc420 hZ hown ⟨b420, rfl, gb420, hO420, T_420⟩
    have e420 : T420.heap = T420.heap := rfl
    have O420 := O418.call hO420 all0
    have HC421 := HC419.trans hc420
    show Ends (some (CHr Z own_EL vm0 h0)) p e below s _ _ _ T420 (mkF m 129 #[.val (.int nn), .val (.int p1), .val (.int p2), .val (.int p3), .val (.int p4), .val (.int p5), .val (.int (3 : Int32)), .val (.ref b352), .val (.ref b362), .val (.ref a418), .unset] [(.ref b420)])
    refine E.astore (q := 131) (l' := #[.val (.int nn), .val (.int p1), .val (.int p2), .val (.int p3), .val (.int p4), .val (.int p5), .val (.int (3 : Int32)), .val (.ref b352), .val (.ref b362), .val (.ref a418), .val (.ref b420)]) X420 hx (hb hby at_129) rfl rfl ?_
    refine E.aload (q := 133) X420 hx (hb hby at_131) rfl rfl ?_
    refine E.nullN (q := 136) X420 hx (hb hby at_133) ?_
    refine E.aload (q := 138) X420 hx (hb hby at_136) rfl rfl ?_
    refine Ends.alen X420 hx hZ e420 T_420 (hb hby at_138) (n := (3 : Int32)) (by rw [List.length_map, own_ints_len, own_kmp_len]; rfl) ?_
    refine E.iload (q := 141) X420 hx (hb hby at_139) rfl ?_
    refine E.icmpY (q := 146) X420 hx (hb hby at_141) (XT.ii_eq_t (by decide)) ?_
    refine E.aload (q := 148) X420 hx (hb hby at_146) rfl rfl ?_
    refine E.aload (q := 150) X420 hx (hb hby at_148) rfl rfl ?_
    refine E.iload (q := 152) X420 hx (hb hby at_150) rfl ?_
    refine E.iconst (q := 153) (v := (0 : Int32)) X420 hx (hb hby at_152) rfl ?_
    have f422 := V380.keep hO418.1 nin0
    have f423 := f422.keep hO420.1 nin0
    refine Ends.callS X420 hx hZ hown (hw _ (List.mem_of_getElem? (i := 62) rfl)) (hw _ (List.mem_of_getElem? (i := 63) rfl)) (hw _ (List.mem_of_getElem? (i := 4) rfl)) (hw _ (List.mem_of_getElem? (i := 64) rfl)) (by decide) (argsL := [(.ref b420), (.ref b362), (.int (3 : Int32)), (.int (0 : Int32))]) (rest := []) e420 (rmCk0 l Z a0 hw b420 b362 z0 z1 z2 z3 z4 z5 3 (by decide) (own_ints (own_kmp [z0, z1, z2])) (fun _ => own_ckat (own_law z0 z1 z2 z3 z4 z5 (n := 3) (i := 0) (by decide) (by decide))) _ f423 T_420) (W := 0) (by decide) (by decide) (by rw [hml]; rfl) (lenOf pd_24 rfl) (Nat.le_of_eq rfl) (hb hby at_153) (by decide) (by decide) rfl ?_
    rintro T424 v424 L424 X424 ⟨rfl, e424, rfl⟩
    rw [List.append_nil] at X424
    show Ends (some (CHr Z own_EL vm0 h0)) p e below s _ _ _ T424 (mkF m 156 #[.val (.int nn), .val (.int p1), .val (.int p2), .val (.int p3), .val (.int p4), .val (.int p5), .val (.int (3 : Int32)), .val (.ref b352), .val (.ref b362), .val (.ref a418), .val (.ref b420)] [(.int (1 : Int32))])
    refine E.ifN (q := 159) X424 hx (hb hby at_156) (XT.i0_eq_f (by decide)) ?_
    refine E.aload (q := 161) X424 hx (hb hby at_159) rfl rfl ?_
    refine E.aload (q := 163) X424 hx (hb hby at_161) rfl rfl ?_
    refine E.iload (q := 165) X424 hx (hb hby at_163) rfl ?_
    refine E.iconst (q := 166) (v := (1 : Int32)) X424 hx (hb hby at_165) rfl ?_
    refine Ends.callS X424 hx hZ hown (hw _ (List.mem_of_getElem? (i := 62) rfl)) (hw _ (List.mem_of_getElem? (i := 63) rfl)) (hw _ (List.mem_of_getElem? (i := 4) rfl)) (hw _ (List.mem_of_getElem? (i := 64) rfl)) (by decide) (argsL := [(.ref b420), (.ref b362), (.int (3 : Int32)), (.int (1 : Int32))]) (rest := []) e424 (rmCk1 l Z a0 hw b420 b362 z0 z1 z2 z3 z4 z5 3 (by decide) (own_ints (own_kmp [z0, z1, z2])) (fun _ => own_ckat (own_law z0 z1 z2 z3 z4 z5 (n := 3) (i := 1) (by decide) (by decide))) _ f423 T_420) (W := 0) (by decide) (by decide) (by rw [hml]; rfl) (lenOf pd_24 rfl) (Nat.le_of_eq rfl) (hb hby at_166) (by decide) (by decide) rfl ?_
    rintro T425 v425 L425 X425 ⟨rfl, e425, rfl⟩
    rw [List.append_nil] at X425
    show Ends (some (CHr Z own_EL vm0 h0)) p e below s _ _ _ T425 (mkF m 169 #[.val (.int nn), .val (.int p1), .val (.int p2), .val (.int p3), .val (.int p4), .val (.int p5), .val (.int (3 : Int32)), .val (.ref b352), .val (.ref b362), .val (.ref a418), .val (.ref b420)] [(.int (1 : Int32))])
    refine E.ifN (q := 172) X425 hx (hb hby at_169) (XT.i0_eq_f (by decide)) ?_
    refine E.aload (q := 174) X425 hx (hb hby at_172) rfl rfl ?_
    refine E.aload (q := 176) X425 hx (hb hby at_174) rfl rfl ?_
    refine E.iload (q := 178) X425 hx (hb hby at_176) rfl ?_
    refine E.iconst (q := 179) (v := (2 : Int32)) X425 hx (hb hby at_178) rfl ?_
    refine Ends.callS X425 hx hZ hown (hw _ (List.mem_of_getElem? (i := 62) rfl)) (hw _ (List.mem_of_getElem? (i := 63) rfl)) (hw _ (List.mem_of_getElem? (i := 4) rfl)) (hw _ (List.mem_of_getElem? (i := 64) rfl)) (by decide) (argsL := [(.ref b420), (.ref b362), (.int (3 : Int32)), (.int (2 : Int32))]) (rest := []) e425 (rmCk2 l Z a0 hw b420 b362 z0 z1 z2 z3 z4 z5 3 (by decide) (own_ints (own_kmp [z0, z1, z2])) (fun _ => own_ckat (own_law z0 z1 z2 z3 z4 z5 (n := 3) (i := 2) (by decide) (by decide))) _ f423 T_420) (W := 0) (by decide) (by decide) (by rw [hml]; rfl) (lenOf pd_24 rfl) (Nat.le_of_eq rfl) (hb hby at_179) (by decide) (by decide) rfl ?_
    rintro T426 v426 L426 X426 ⟨rfl, e426, rfl⟩
    rw [List.append_nil] at X426
    show Ends (some (CHr Z own_EL vm0 h0)) p e below s _ _ _ T426 (mkF m 182 #[.val (.int nn), .val (.int p1), .val (.int p2), .val (.int p3), .val (.int p4), .val (.int p5), .val (.int (3 : Int32)), .val (.ref b352), .val (.ref b362), .val (.ref a418), .val (.ref b420)] [(.int (1 : Int32))])
    refine E.ifN (q := 185) X426 hx (hb hby at_182) (XT.i0_eq_f (by decide)) ?_
    refine E.aload (q := 187) X426 hx (hb hby at_185) rfl rfl ?_
    refine E.aload (q := 189) X426 hx (hb hby at_187) rfl rfl ?_
    refine E.iload (q := 191) X426 hx (hb hby at_189) rfl ?_
    refine E.iconst (q := 192) (v := (3 : Int32)) X426 hx (hb hby at_191) rfl ?_
    refine Ends.callS X426 hx hZ hown (hw _ (List.mem_of_getElem? (i := 62) rfl)) (hw _ (List.mem_of_getElem? (i := 63) rfl)) (hw _ (List.mem_of_getElem? (i := 4) rfl)) (hw _ (List.mem_of_getElem? (i := 64) rfl)) (by decide) (argsL := [(.ref b420), (.ref b362), (.int (3 : Int32)), (.int (3 : Int32))]) (rest := []) e426 (rmCk3 l Z a0 hw b420 b362 z0 z1 z2 z3 z4 z5 3 (by decide) (own_ints (own_kmp [z0, z1, z2])) (fun q => absurd q (by decide)) _ f423 T_420) (W := 0) (by decide) (by decide) (by rw [hml]; rfl) (lenOf pd_24 rfl) (Nat.le_of_eq rfl) (hb hby at_192) (by decide) (by decide) rfl ?_
    rintro T427 v427 L427 X427 ⟨rfl, e427, rfl⟩
    rw [List.append_nil] at X427
    show Ends (some (CHr Z own_EL vm0 h0)) p e below s _ _ _ T427 (mkF m 195 #[.val (.int nn), .val (.int p1), .val (.int p2), .val (.int p3), .val (.int p4), .val (.int p5), .val (.int (3 : Int32)), .val (.ref b352), .val (.ref b362), .val (.ref a418), .val (.ref b420)] [(.int (1 : Int32))])
    refine E.ifN (q := 198) X427 hx (hb hby at_195) (XT.i0_eq_f (by decide)) ?_
    refine E.aload (q := 200) X427 hx (hb hby at_198) rfl rfl ?_
    refine E.aload (q := 202) X427 hx (hb hby at_200) rfl rfl ?_
    refine E.iload (q := 204) X427 hx (hb hby at_202) rfl ?_
    refine E.iconst (q := 205) (v := (4 : Int32)) X427 hx (hb hby at_204) rfl ?_
    refine Ends.callS X427 hx hZ hown (hw _ (List.mem_of_getElem? (i := 62) rfl)) (hw _ (List.mem_of_getElem? (i := 63) rfl)) (hw _ (List.mem_of_getElem? (i := 4) rfl)) (hw _ (List.mem_of_getElem? (i := 64) rfl)) (by decide) (argsL := [(.ref b420), (.ref b362), (.int (3 : Int32)), (.int (4 : Int32))]) (rest := []) e427 (rmCk4 l Z a0 hw b420 b362 z0 z1 z2 z3 z4 z5 3 (by decide) (own_ints (own_kmp [z0, z1, z2])) (fun q => absurd q (by decide)) _ f423 T_420) (W := 0) (by decide) (by decide) (by rw [hml]; rfl) (lenOf pd_24 rfl) (Nat.le_of_eq rfl) (hb hby at_205) (by decide) (by decide) rfl ?_
    rintro T428 v428 L428 X428 ⟨rfl, e428, rfl⟩
    rw [List.append_nil] at X428
    show Ends (some (CHr Z own_EL vm0 h0)) p e below s _ _ _ T428 (mkF m 208 #[.val (.int nn), .val (.int p1), .val (.int p2), .val (.int p3), .val (.int p4), .val (.int p5), .val (.int (3 : Int32)), .val (.ref b352), .val (.ref b362), .val (.ref a418), .val (.ref b420)] [(.int (1 : Int32))])
    refine E.ifN (q := 211) X428 hx (hb hby at_208) (XT.i0_eq_f (by decide)) ?_
    refine E.aload (q := 213) X428 hx (hb hby at_211) rfl rfl ?_
    refine E.aload (q := 215) X428 hx (hb hby at_213) rfl rfl ?_
    refine E.iload (q := 217) X428 hx (hb hby at_215) rfl ?_
    refine E.iconst (q := 218) (v := (5 : Int32)) X428 hx (hb hby at_217) rfl ?_
    refine Ends.callS X428 hx hZ hown (hw _ (List.mem_of_getElem? (i := 62) rfl)) (hw _ (List.mem_of_getElem? (i := 63) rfl)) (hw _ (List.mem_of_getElem? (i := 4) rfl)) (hw _ (List.mem_of_getElem? (i := 64) rfl)) (by decide) (argsL := [(.ref b420), (.ref b362), (.int (3 : Int32)), (.int (5 : Int32))]) (rest := []) e428 (rmCk5 l Z a0 hw b420 b362 z0 z1 z2 z3 z4 z5 3 (by decide) (own_ints (own_kmp [z0, z1, z2])) (fun q => absurd q (by decide)) _ f423 T_420) (W := 0) (by decide) (by decide) (by rw [hml]; rfl) (lenOf pd_24 rfl) (Nat.le_of_eq rfl) (hb hby at_218) (by decide) (by decide) rfl ?_
    rintro T429 v429 L429 X429 ⟨rfl, e429, rfl⟩
    rw [List.append_nil] at X429
    show Ends (some (CHr Z own_EL vm0 h0)) p e below s _ _ _ T429 (mkF m 221 #[.val (.int nn), .val (.int p1), .val (.int p2), .val (.int p3), .val (.int p4), .val (.int p5), .val (.int (3 : Int32)), .val (.ref b352), .val (.ref b362), .val (.ref a418), .val (.ref b420)] [(.int (1 : Int32))])
    refine E.ifN (q := 224) X429 hx (hb hby at_221) (XT.i0_eq_f (by decide)) ?_
    refine E.iconst (q := 225) (v := (1 : Int32)) X429 hx (hb hby at_224) rfl ?_
    refine E.goto (q := 229) X429 hx (hb hby at_225) ?_
    exact Ends.retS X429 hx hlk hret (by simp) rfl (hb hby at_229) (by decide) (by decide) ⟨⟨rfl, (O420).fr⟩, by first | exact (Nat.le_refl _) | (rw [e429]; exact (Nat.le_refl _))⟩ (hF := own_chret X429 hZ (own_EW hw) HC421 (by first | rfl | assumption))
  · show Ends (some (CHr Z own_EL vm0 h0)) p e below s _ _ _ T380 (mkF m 119 #[.val (.int nn), .val (.int p1), .val (.int p2), .val (.int p3), .val (.int p4), .val (.int p5), .val (.int (4 : Int32)), .val (.ref b352), .val (.ref b362), .unset, .unset] [(.int (4 : Int32)), (.ref b362)])
    refine Ends.callSH X380 hx hZ hown (hw _ (List.mem_of_getElem? (i := 2) rfl)) (hw _ (List.mem_of_getElem? (i := 3) rfl)) (hw _ (List.mem_of_getElem? (i := 4) rfl)) (hw _ (List.mem_of_getElem? (i := 5) rfl)) (by decide) (argsL := [(.ref b362), (.int (4 : Int32))]) (rest := []) e380 (Nat.zero_le _) (own_EW hw) HC381.1 (rmMk_4 l Z a0 hw b362 z0 z1 z2 z3 z4 z5 hzC0 hzC1 hzC2 hzC3 hzC4 hzC5 _ V380 cs hcs (own_sta_keep S0 O380.1 own_ns0) (own_sta_keep S2 O380.1 own_ns0) (own_sta_keep S3 O380.1 own_ns0) (own_sta_keep S4 O380.1 own_ns0)) (W := 0) (by decide) (by decide) (by rw [hml]; rfl) (lenOf pd_22 rfl) (Nat.le_of_eq rfl) (hb hby at_119) (by decide) (by decide) rfl ?_
    rintro s T430 v430 L430 X430 hc430 hZ hown ⟨a430, V430, cd430, bs430, rfl, ga430, hO430, Ea430, Fv430, Fc430, A430, hS430⟩
    have e430 : T430.heap = T430.heap := rfl
    have O430 := O380.call hO430 all0
    have HC431 := HC381.trans hc430
    show Ends (some (CHr Z own_EL vm0 h0)) p e below s _ _ _ T430 (mkF m 122 #[.val (.int nn), .val (.int p1), .val (.int p2), .val (.int p3), .val (.int p4), .val (.int p5), .val (.int (4 : Int32)), .val (.ref b352), .val (.ref b362), .unset, .unset] [(.ref a430)])
    refine E.astore (q := 124) (l' := #[.val (.int nn), .val (.int p1), .val (.int p2), .val (.int p3), .val (.int p4), .val (.int p5), .val (.int (4 : Int32)), .val (.ref b352), .val (.ref b362), .val (.ref a430), .unset]) X430 hx (hb hby at_122) rfl rfl ?_
    refine E.aload (q := 126) X430 hx (hb hby at_124) rfl rfl ?_
    refine Ends.callSH X430 hx hZ hown (hw _ (List.mem_of_getElem? (i := 27) rfl)) (hw _ (List.mem_of_getElem? (i := 28) rfl)) (hw _ (List.mem_of_getElem? (i := 29) rfl)) (hw _ (List.mem_of_getElem? (i := 30) rfl)) (by decide) (argsL := [(.ref a430)]) (rest := []) e430 (Nat.le_refl _) (own_EW hw) HC431.1 (rm5 l Z a0 hw a430 V430 cd430 bs430 [z0, z1, z2, z3] hS430 (by simp) _ Ea430 Fv430 Fc430 A430 cs hcs (own_sta_keep S0 O430.1 own_ns0) fv hfv (own_sta_keep S1 O430.1 own_ns0) (own_sta_keep S2 O430.1 own_ns0) (own_sta_keep S3 O430.1 own_ns0) (own_sta_keep S4 O430.1 own_ns0)) (W := 0) (by decide) (by decide) (by rw [hml]; rfl) (lenOf pd_23 rfl) (Nat.le_of_eq rfl) (hb hby at_126) (by decide) (by decide) rfl ?_
    rintro s T432 v432 L432 X432 hc432 hZ hown ⟨b432, rfl, gb432, hO432, T_432⟩
    have e432 : T432.heap = T432.heap := rfl
    have O432 := O430.call hO432 all0
    have HC433 := HC431.trans hc432
    show Ends (some (CHr Z own_EL vm0 h0)) p e below s _ _ _ T432 (mkF m 129 #[.val (.int nn), .val (.int p1), .val (.int p2), .val (.int p3), .val (.int p4), .val (.int p5), .val (.int (4 : Int32)), .val (.ref b352), .val (.ref b362), .val (.ref a430), .unset] [(.ref b432)])
    refine E.astore (q := 131) (l' := #[.val (.int nn), .val (.int p1), .val (.int p2), .val (.int p3), .val (.int p4), .val (.int p5), .val (.int (4 : Int32)), .val (.ref b352), .val (.ref b362), .val (.ref a430), .val (.ref b432)]) X432 hx (hb hby at_129) rfl rfl ?_
    refine E.aload (q := 133) X432 hx (hb hby at_131) rfl rfl ?_
    refine E.nullN (q := 136) X432 hx (hb hby at_133) ?_
    refine E.aload (q := 138) X432 hx (hb hby at_136) rfl rfl ?_
    refine Ends.alen X432 hx hZ e432 T_432 (hb hby at_138) (n := (4 : Int32)) (by rw [List.length_map, own_ints_len, own_kmp_len]; rfl) ?_
    refine E.iload (q := 141) X432 hx (hb hby at_139) rfl ?_
    refine E.icmpY (q := 146) X432 hx (hb hby at_141) (XT.ii_eq_t (by decide)) ?_
    refine E.aload (q := 148) X432 hx (hb hby at_146) rfl rfl ?_
    refine E.aload (q := 150) X432 hx (hb hby at_148) rfl rfl ?_
    refine E.iload (q := 152) X432 hx (hb hby at_150) rfl ?_
    refine E.iconst (q := 153) (v := (0 : Int32)) X432 hx (hb hby at_152) rfl ?_
    have f434 := V380.keep hO430.1 nin0
    have f435 := f434.keep hO432.1 nin0
    refine Ends.callS X432 hx hZ hown (hw _ (List.mem_of_getElem? (i := 62) rfl)) (hw _ (List.mem_of_getElem? (i := 63) rfl)) (hw _ (List.mem_of_getElem? (i := 4) rfl)) (hw _ (List.mem_of_getElem? (i := 64) rfl)) (by decide) (argsL := [(.ref b432), (.ref b362), (.int (4 : Int32)), (.int (0 : Int32))]) (rest := []) e432 (rmCk0 l Z a0 hw b432 b362 z0 z1 z2 z3 z4 z5 4 (by decide) (own_ints (own_kmp [z0, z1, z2, z3])) (fun _ => own_ckat (own_law z0 z1 z2 z3 z4 z5 (n := 4) (i := 0) (by decide) (by decide))) _ f435 T_432) (W := 0) (by decide) (by decide) (by rw [hml]; rfl) (lenOf pd_24 rfl) (Nat.le_of_eq rfl) (hb hby at_153) (by decide) (by decide) rfl ?_
    rintro T436 v436 L436 X436 ⟨rfl, e436, rfl⟩
    rw [List.append_nil] at X436
    show Ends (some (CHr Z own_EL vm0 h0)) p e below s _ _ _ T436 (mkF m 156 #[.val (.int nn), .val (.int p1), .val (.int p2), .val (.int p3), .val (.int p4), .val (.int p5), .val (.int (4 : Int32)), .val (.ref b352), .val (.ref b362), .val (.ref a430), .val (.ref b432)] [(.int (1 : Int32))])
    refine E.ifN (q := 159) X436 hx (hb hby at_156) (XT.i0_eq_f (by decide)) ?_
    refine E.aload (q := 161) X436 hx (hb hby at_159) rfl rfl ?_
    refine E.aload (q := 163) X436 hx (hb hby at_161) rfl rfl ?_
    refine E.iload (q := 165) X436 hx (hb hby at_163) rfl ?_
    refine E.iconst (q := 166) (v := (1 : Int32)) X436 hx (hb hby at_165) rfl ?_
    refine Ends.callS X436 hx hZ hown (hw _ (List.mem_of_getElem? (i := 62) rfl)) (hw _ (List.mem_of_getElem? (i := 63) rfl)) (hw _ (List.mem_of_getElem? (i := 4) rfl)) (hw _ (List.mem_of_getElem? (i := 64) rfl)) (by decide) (argsL := [(.ref b432), (.ref b362), (.int (4 : Int32)), (.int (1 : Int32))]) (rest := []) e436 (rmCk1 l Z a0 hw b432 b362 z0 z1 z2 z3 z4 z5 4 (by decide) (own_ints (own_kmp [z0, z1, z2, z3])) (fun _ => own_ckat (own_law z0 z1 z2 z3 z4 z5 (n := 4) (i := 1) (by decide) (by decide))) _ f435 T_432) (W := 0) (by decide) (by decide) (by rw [hml]; rfl) (lenOf pd_24 rfl) (Nat.le_of_eq rfl) (hb hby at_166) (by decide) (by decide) rfl ?_
    rintro T437 v437 L437 X437 ⟨rfl, e437, rfl⟩
    rw [List.append_nil] at X437
    show Ends (some (CHr Z own_EL vm0 h0)) p e below s _ _ _ T437 (mkF m 169 #[.val (.int nn), .val (.int p1), .val (.int p2), .val (.int p3), .val (.int p4), .val (.int p5), .val (.int (4 : Int32)), .val (.ref b352), .val (.ref b362), .val (.ref a430), .val (.ref b432)] [(.int (1 : Int32))])
    refine E.ifN (q := 172) X437 hx (hb hby at_169) (XT.i0_eq_f (by decide)) ?_
    refine E.aload (q := 174) X437 hx (hb hby at_172) rfl rfl ?_
    refine E.aload (q := 176) X437 hx (hb hby at_174) rfl rfl ?_
    refine E.iload (q := 178) X437 hx (hb hby at_176) rfl ?_
    refine E.iconst (q := 179) (v := (2 : Int32)) X437 hx (hb hby at_178) rfl ?_
    refine Ends.callS X437 hx hZ hown (hw _ (List.mem_of_getElem? (i := 62) rfl)) (hw _ (List.mem_of_getElem? (i := 63) rfl)) (hw _ (List.mem_of_getElem? (i := 4) rfl)) (hw _ (List.mem_of_getElem? (i := 64) rfl)) (by decide) (argsL := [(.ref b432), (.ref b362), (.int (4 : Int32)), (.int (2 : Int32))]) (rest := []) e437 (rmCk2 l Z a0 hw b432 b362 z0 z1 z2 z3 z4 z5 4 (by decide) (own_ints (own_kmp [z0, z1, z2, z3])) (fun _ => own_ckat (own_law z0 z1 z2 z3 z4 z5 (n := 4) (i := 2) (by decide) (by decide))) _ f435 T_432) (W := 0) (by decide) (by decide) (by rw [hml]; rfl) (lenOf pd_24 rfl) (Nat.le_of_eq rfl) (hb hby at_179) (by decide) (by decide) rfl ?_
    rintro T438 v438 L438 X438 ⟨rfl, e438, rfl⟩
    rw [List.append_nil] at X438
    show Ends (some (CHr Z own_EL vm0 h0)) p e below s _ _ _ T438 (mkF m 182 #[.val (.int nn), .val (.int p1), .val (.int p2), .val (.int p3), .val (.int p4), .val (.int p5), .val (.int (4 : Int32)), .val (.ref b352), .val (.ref b362), .val (.ref a430), .val (.ref b432)] [(.int (1 : Int32))])
    refine E.ifN (q := 185) X438 hx (hb hby at_182) (XT.i0_eq_f (by decide)) ?_
    refine E.aload (q := 187) X438 hx (hb hby at_185) rfl rfl ?_
    refine E.aload (q := 189) X438 hx (hb hby at_187) rfl rfl ?_
    refine E.iload (q := 191) X438 hx (hb hby at_189) rfl ?_
    refine E.iconst (q := 192) (v := (3 : Int32)) X438 hx (hb hby at_191) rfl ?_
    refine Ends.callS X438 hx hZ hown (hw _ (List.mem_of_getElem? (i := 62) rfl)) (hw _ (List.mem_of_getElem? (i := 63) rfl)) (hw _ (List.mem_of_getElem? (i := 4) rfl)) (hw _ (List.mem_of_getElem? (i := 64) rfl)) (by decide) (argsL := [(.ref b432), (.ref b362), (.int (4 : Int32)), (.int (3 : Int32))]) (rest := []) e438 (rmCk3 l Z a0 hw b432 b362 z0 z1 z2 z3 z4 z5 4 (by decide) (own_ints (own_kmp [z0, z1, z2, z3])) (fun _ => own_ckat (own_law z0 z1 z2 z3 z4 z5 (n := 4) (i := 3) (by decide) (by decide))) _ f435 T_432) (W := 0) (by decide) (by decide) (by rw [hml]; rfl) (lenOf pd_24 rfl) (Nat.le_of_eq rfl) (hb hby at_192) (by decide) (by decide) rfl ?_
    rintro T439 v439 L439 X439 ⟨rfl, e439, rfl⟩
    rw [List.append_nil] at X439
    show Ends (some (CHr Z own_EL vm0 h0)) p e below s _ _ _ T439 (mkF m 195 #[.val (.int nn), .val (.int p1), .val (.int p2), .val (.int p3), .val (.int p4), .val (.int p5), .val (.int (4 : Int32)), .val (.ref b352), .val (.ref b362), .val (.ref a430), .val (.ref b432)] [(.int (1 : Int32))])
    refine E.ifN (q := 198) X439 hx (hb hby at_195) (XT.i0_eq_f (by decide)) ?_
    refine E.aload (q := 200) X439 hx (hb hby at_198) rfl rfl ?_
    refine E.aload (q := 202) X439 hx (hb hby at_200) rfl rfl ?_
    refine E.iload (q := 204) X439 hx (hb hby at_202) rfl ?_
    refine E.iconst (q := 205) (v := (4 : Int32)) X439 hx (hb hby at_204) rfl ?_
    refine Ends.callS X439 hx hZ hown (hw _ (List.mem_of_getElem? (i := 62) rfl)) (hw _ (List.mem_of_getElem? (i := 63) rfl)) (hw _ (List.mem_of_getElem? (i := 4) rfl)) (hw _ (List.mem_of_getElem? (i := 64) rfl)) (by decide) (argsL := [(.ref b432), (.ref b362), (.int (4 : Int32)), (.int (4 : Int32))]) (rest := []) e439 (rmCk4 l Z a0 hw b432 b362 z0 z1 z2 z3 z4 z5 4 (by decide) (own_ints (own_kmp [z0, z1, z2, z3])) (fun q => absurd q (by decide)) _ f435 T_432) (W := 0) (by decide) (by decide) (by rw [hml]; rfl) (lenOf pd_24 rfl) (Nat.le_of_eq rfl) (hb hby at_205) (by decide) (by decide) rfl ?_
    rintro T440 v440 L440 X440 ⟨rfl, e440, rfl⟩
    rw [List.append_nil] at X440
    show Ends (some (CHr Z own_EL vm0 h0)) p e below s _ _ _ T440 (mkF m 208 #[.val (.int nn), .val (.int p1), .val (.int p2), .val (.int p3), .val (.int p4), .val (.int p5), .val (.int (4 : Int32)), .val (.ref b352), .val (.ref b362), .val (.ref a430), .val (.ref b432)] [(.int (1 : Int32))])
    refine E.ifN (q := 211) X440 hx (hb hby at_208) (XT.i0_eq_f (by decide)) ?_
    refine E.aload (q := 213) X440 hx (hb hby at_211) rfl rfl ?_
    refine E.aload (q := 215) X440 hx (hb hby at_213) rfl rfl ?_
    refine E.iload (q := 217) X440 hx (hb hby at_215) rfl ?_
    refine E.iconst (q := 218) (v := (5 : Int32)) X440 hx (hb hby at_217) rfl ?_
    refine Ends.callS X440 hx hZ hown (hw _ (List.mem_of_getElem? (i := 62) rfl)) (hw _ (List.mem_of_getElem? (i := 63) rfl)) (hw _ (List.mem_of_getElem? (i := 4) rfl)) (hw _ (List.mem_of_getElem? (i := 64) rfl)) (by decide) (argsL := [(.ref b432), (.ref b362), (.int (4 : Int32)), (.int (5 : Int32))]) (rest := []) e440 (rmCk5 l Z a0 hw b432 b362 z0 z1 z2 z3 z4 z5 4 (by decide) (own_ints (own_kmp [z0, z1, z2, z3])) (fun q => absurd q (by decide)) _ f435 T_432) (W := 0) (by decide) (by decide) (by rw [hml]; rfl) (lenOf pd_24 rfl) (Nat.le_of_eq rfl) (hb hby at_218) (by decide) (by decide) rfl ?_
    rintro T441 v441 L441 X441 ⟨rfl, e441, rfl⟩
    rw [List.append_nil] at X441
    show Ends (some (CHr Z own_EL vm0 h0)) p e below s _ _ _ T441 (mkF m 221 #[.val (.int nn), .val (.int p1), .val (.int p2), .val (.int p3), .val (.int p4), .val (.int p5), .val (.int (4 : Int32)), .val (.ref b352), .val (.ref b362), .val (.ref a430), .val (.ref b432)] [(.int (1 : Int32))])
    refine E.ifN (q := 224) X441 hx (hb hby at_221) (XT.i0_eq_f (by decide)) ?_
    refine E.iconst (q := 225) (v := (1 : Int32)) X441 hx (hb hby at_224) rfl ?_
    refine E.goto (q := 229) X441 hx (hb hby at_225) ?_
    exact Ends.retS X441 hx hlk hret (by simp) rfl (hb hby at_229) (by decide) (by decide) ⟨⟨rfl, (O432).fr⟩, by first | exact (Nat.le_refl _) | (rw [e441]; exact (Nat.le_refl _))⟩ (hF := own_chret X441 hZ (own_EW hw) HC433 (by first | rfl | assumption))
  · show Ends (some (CHr Z own_EL vm0 h0)) p e below s _ _ _ T380 (mkF m 119 #[.val (.int nn), .val (.int p1), .val (.int p2), .val (.int p3), .val (.int p4), .val (.int p5), .val (.int (5 : Int32)), .val (.ref b352), .val (.ref b362), .unset, .unset] [(.int (5 : Int32)), (.ref b362)])
    refine Ends.callSH X380 hx hZ hown (hw _ (List.mem_of_getElem? (i := 2) rfl)) (hw _ (List.mem_of_getElem? (i := 3) rfl)) (hw _ (List.mem_of_getElem? (i := 4) rfl)) (hw _ (List.mem_of_getElem? (i := 5) rfl)) (by decide) (argsL := [(.ref b362), (.int (5 : Int32))]) (rest := []) e380 (Nat.zero_le _) (own_EW hw) HC381.1 (rmMk_5 l Z a0 hw b362 z0 z1 z2 z3 z4 z5 hzC0 hzC1 hzC2 hzC3 hzC4 hzC5 _ V380 cs hcs (own_sta_keep S0 O380.1 own_ns0) (own_sta_keep S2 O380.1 own_ns0) (own_sta_keep S3 O380.1 own_ns0) (own_sta_keep S4 O380.1 own_ns0)) (W := 0) (by decide) (by decide) (by rw [hml]; rfl) (lenOf pd_22 rfl) (Nat.le_of_eq rfl) (hb hby at_119) (by decide) (by decide) rfl ?_
    rintro s T442 v442 L442 X442 hc442 hZ hown ⟨a442, V442, cd442, bs442, rfl, ga442, hO442, Ea442, Fv442, Fc442, A442, hS442⟩
    have e442 : T442.heap = T442.heap := rfl
    have O442 := O380.call hO442 all0
    have HC443 := HC381.trans hc442
    show Ends (some (CHr Z own_EL vm0 h0)) p e below s _ _ _ T442 (mkF m 122 #[.val (.int nn), .val (.int p1), .val (.int p2), .val (.int p3), .val (.int p4), .val (.int p5), .val (.int (5 : Int32)), .val (.ref b352), .val (.ref b362), .unset, .unset] [(.ref a442)])
    refine E.astore (q := 124) (l' := #[.val (.int nn), .val (.int p1), .val (.int p2), .val (.int p3), .val (.int p4), .val (.int p5), .val (.int (5 : Int32)), .val (.ref b352), .val (.ref b362), .val (.ref a442), .unset]) X442 hx (hb hby at_122) rfl rfl ?_
    refine E.aload (q := 126) X442 hx (hb hby at_124) rfl rfl ?_
    refine Ends.callSH X442 hx hZ hown (hw _ (List.mem_of_getElem? (i := 27) rfl)) (hw _ (List.mem_of_getElem? (i := 28) rfl)) (hw _ (List.mem_of_getElem? (i := 29) rfl)) (hw _ (List.mem_of_getElem? (i := 30) rfl)) (by decide) (argsL := [(.ref a442)]) (rest := []) e442 (Nat.le_refl _) (own_EW hw) HC443.1 (rm5 l Z a0 hw a442 V442 cd442 bs442 [z0, z1, z2, z3, z4] hS442 (by simp) _ Ea442 Fv442 Fc442 A442 cs hcs (own_sta_keep S0 O442.1 own_ns0) fv hfv (own_sta_keep S1 O442.1 own_ns0) (own_sta_keep S2 O442.1 own_ns0) (own_sta_keep S3 O442.1 own_ns0) (own_sta_keep S4 O442.1 own_ns0)) (W := 0) (by decide) (by decide) (by rw [hml]; rfl) (lenOf pd_23 rfl) (Nat.le_of_eq rfl) (hb hby at_126) (by decide) (by decide) rfl ?_
    rintro s T444 v444 L444 X444 hc444 hZ hown ⟨b444, rfl, gb444, hO444, T_444⟩
    have e444 : T444.heap = T444.heap := rfl
    have O444 := O442.call hO444 all0
    have HC445 := HC443.trans hc444
    show Ends (some (CHr Z own_EL vm0 h0)) p e below s _ _ _ T444 (mkF m 129 #[.val (.int nn), .val (.int p1), .val (.int p2), .val (.int p3), .val (.int p4), .val (.int p5), .val (.int (5 : Int32)), .val (.ref b352), .val (.ref b362), .val (.ref a442), .unset] [(.ref b444)])
    refine E.astore (q := 131) (l' := #[.val (.int nn), .val (.int p1), .val (.int p2), .val (.int p3), .val (.int p4), .val (.int p5), .val (.int (5 : Int32)), .val (.ref b352), .val (.ref b362), .val (.ref a442), .val (.ref b444)]) X444 hx (hb hby at_129) rfl rfl ?_
    refine E.aload (q := 133) X444 hx (hb hby at_131) rfl rfl ?_
    refine E.nullN (q := 136) X444 hx (hb hby at_133) ?_
    refine E.aload (q := 138) X444 hx (hb hby at_136) rfl rfl ?_
    refine Ends.alen X444 hx hZ e444 T_444 (hb hby at_138) (n := (5 : Int32)) (by rw [List.length_map, own_ints_len, own_kmp_len]; rfl) ?_
    refine E.iload (q := 141) X444 hx (hb hby at_139) rfl ?_
    refine E.icmpY (q := 146) X444 hx (hb hby at_141) (XT.ii_eq_t (by decide)) ?_
    refine E.aload (q := 148) X444 hx (hb hby at_146) rfl rfl ?_
    refine E.aload (q := 150) X444 hx (hb hby at_148) rfl rfl ?_
    refine E.iload (q := 152) X444 hx (hb hby at_150) rfl ?_
    refine E.iconst (q := 153) (v := (0 : Int32)) X444 hx (hb hby at_152) rfl ?_
    have f446 := V380.keep hO442.1 nin0
    have f447 := f446.keep hO444.1 nin0
    refine Ends.callS X444 hx hZ hown (hw _ (List.mem_of_getElem? (i := 62) rfl)) (hw _ (List.mem_of_getElem? (i := 63) rfl)) (hw _ (List.mem_of_getElem? (i := 4) rfl)) (hw _ (List.mem_of_getElem? (i := 64) rfl)) (by decide) (argsL := [(.ref b444), (.ref b362), (.int (5 : Int32)), (.int (0 : Int32))]) (rest := []) e444 (rmCk0 l Z a0 hw b444 b362 z0 z1 z2 z3 z4 z5 5 (by decide) (own_ints (own_kmp [z0, z1, z2, z3, z4])) (fun _ => own_ckat (own_law z0 z1 z2 z3 z4 z5 (n := 5) (i := 0) (by decide) (by decide))) _ f447 T_444) (W := 0) (by decide) (by decide) (by rw [hml]; rfl) (lenOf pd_24 rfl) (Nat.le_of_eq rfl) (hb hby at_153) (by decide) (by decide) rfl ?_
    rintro T448 v448 L448 X448 ⟨rfl, e448, rfl⟩
    rw [List.append_nil] at X448
    show Ends (some (CHr Z own_EL vm0 h0)) p e below s _ _ _ T448 (mkF m 156 #[.val (.int nn), .val (.int p1), .val (.int p2), .val (.int p3), .val (.int p4), .val (.int p5), .val (.int (5 : Int32)), .val (.ref b352), .val (.ref b362), .val (.ref a442), .val (.ref b444)] [(.int (1 : Int32))])
    refine E.ifN (q := 159) X448 hx (hb hby at_156) (XT.i0_eq_f (by decide)) ?_
    refine E.aload (q := 161) X448 hx (hb hby at_159) rfl rfl ?_
    refine E.aload (q := 163) X448 hx (hb hby at_161) rfl rfl ?_
    refine E.iload (q := 165) X448 hx (hb hby at_163) rfl ?_
    refine E.iconst (q := 166) (v := (1 : Int32)) X448 hx (hb hby at_165) rfl ?_
    refine Ends.callS X448 hx hZ hown (hw _ (List.mem_of_getElem? (i := 62) rfl)) (hw _ (List.mem_of_getElem? (i := 63) rfl)) (hw _ (List.mem_of_getElem? (i := 4) rfl)) (hw _ (List.mem_of_getElem? (i := 64) rfl)) (by decide) (argsL := [(.ref b444), (.ref b362), (.int (5 : Int32)), (.int (1 : Int32))]) (rest := []) e448 (rmCk1 l Z a0 hw b444 b362 z0 z1 z2 z3 z4 z5 5 (by decide) (own_ints (own_kmp [z0, z1, z2, z3, z4])) (fun _ => own_ckat (own_law z0 z1 z2 z3 z4 z5 (n := 5) (i := 1) (by decide) (by decide))) _ f447 T_444) (W := 0) (by decide) (by decide) (by rw [hml]; rfl) (lenOf pd_24 rfl) (Nat.le_of_eq rfl) (hb hby at_166) (by decide) (by decide) rfl ?_
    rintro T449 v449 L449 X449 ⟨rfl, e449, rfl⟩
    rw [List.append_nil] at X449
    show Ends (some (CHr Z own_EL vm0 h0)) p e below s _ _ _ T449 (mkF m 169 #[.val (.int nn), .val (.int p1), .val (.int p2), .val (.int p3), .val (.int p4), .val (.int p5), .val (.int (5 : Int32)), .val (.ref b352), .val (.ref b362), .val (.ref a442), .val (.ref b444)] [(.int (1 : Int32))])
    refine E.ifN (q := 172) X449 hx (hb hby at_169) (XT.i0_eq_f (by decide)) ?_
    refine E.aload (q := 174) X449 hx (hb hby at_172) rfl rfl ?_
    refine E.aload (q := 176) X449 hx (hb hby at_174) rfl rfl ?_
    refine E.iload (q := 178) X449 hx (hb hby at_176) rfl ?_
    refine E.iconst (q := 179) (v := (2 : Int32)) X449 hx (hb hby at_178) rfl ?_
    refine Ends.callS X449 hx hZ hown (hw _ (List.mem_of_getElem? (i := 62) rfl)) (hw _ (List.mem_of_getElem? (i := 63) rfl)) (hw _ (List.mem_of_getElem? (i := 4) rfl)) (hw _ (List.mem_of_getElem? (i := 64) rfl)) (by decide) (argsL := [(.ref b444), (.ref b362), (.int (5 : Int32)), (.int (2 : Int32))]) (rest := []) e449 (rmCk2 l Z a0 hw b444 b362 z0 z1 z2 z3 z4 z5 5 (by decide) (own_ints (own_kmp [z0, z1, z2, z3, z4])) (fun _ => own_ckat (own_law z0 z1 z2 z3 z4 z5 (n := 5) (i := 2) (by decide) (by decide))) _ f447 T_444) (W := 0) (by decide) (by decide) (by rw [hml]; rfl) (lenOf pd_24 rfl) (Nat.le_of_eq rfl) (hb hby at_179) (by decide) (by decide) rfl ?_
    rintro T450 v450 L450 X450 ⟨rfl, e450, rfl⟩
    rw [List.append_nil] at X450
    show Ends (some (CHr Z own_EL vm0 h0)) p e below s _ _ _ T450 (mkF m 182 #[.val (.int nn), .val (.int p1), .val (.int p2), .val (.int p3), .val (.int p4), .val (.int p5), .val (.int (5 : Int32)), .val (.ref b352), .val (.ref b362), .val (.ref a442), .val (.ref b444)] [(.int (1 : Int32))])
    refine E.ifN (q := 185) X450 hx (hb hby at_182) (XT.i0_eq_f (by decide)) ?_
    refine E.aload (q := 187) X450 hx (hb hby at_185) rfl rfl ?_
    refine E.aload (q := 189) X450 hx (hb hby at_187) rfl rfl ?_
    refine E.iload (q := 191) X450 hx (hb hby at_189) rfl ?_
    refine E.iconst (q := 192) (v := (3 : Int32)) X450 hx (hb hby at_191) rfl ?_
    refine Ends.callS X450 hx hZ hown (hw _ (List.mem_of_getElem? (i := 62) rfl)) (hw _ (List.mem_of_getElem? (i := 63) rfl)) (hw _ (List.mem_of_getElem? (i := 4) rfl)) (hw _ (List.mem_of_getElem? (i := 64) rfl)) (by decide) (argsL := [(.ref b444), (.ref b362), (.int (5 : Int32)), (.int (3 : Int32))]) (rest := []) e450 (rmCk3 l Z a0 hw b444 b362 z0 z1 z2 z3 z4 z5 5 (by decide) (own_ints (own_kmp [z0, z1, z2, z3, z4])) (fun _ => own_ckat (own_law z0 z1 z2 z3 z4 z5 (n := 5) (i := 3) (by decide) (by decide))) _ f447 T_444) (W := 0) (by decide) (by decide) (by rw [hml]; rfl) (lenOf pd_24 rfl) (Nat.le_of_eq rfl) (hb hby at_192) (by decide) (by decide) rfl ?_
    rintro T451 v451 L451 X451 ⟨rfl, e451, rfl⟩
    rw [List.append_nil] at X451
    show Ends (some (CHr Z own_EL vm0 h0)) p e below s _ _ _ T451 (mkF m 195 #[.val (.int nn), .val (.int p1), .val (.int p2), .val (.int p3), .val (.int p4), .val (.int p5), .val (.int (5 : Int32)), .val (.ref b352), .val (.ref b362), .val (.ref a442), .val (.ref b444)] [(.int (1 : Int32))])
    refine E.ifN (q := 198) X451 hx (hb hby at_195) (XT.i0_eq_f (by decide)) ?_
    refine E.aload (q := 200) X451 hx (hb hby at_198) rfl rfl ?_
    refine E.aload (q := 202) X451 hx (hb hby at_200) rfl rfl ?_
    refine E.iload (q := 204) X451 hx (hb hby at_202) rfl ?_
    refine E.iconst (q := 205) (v := (4 : Int32)) X451 hx (hb hby at_204) rfl ?_
    refine Ends.callS X451 hx hZ hown (hw _ (List.mem_of_getElem? (i := 62) rfl)) (hw _ (List.mem_of_getElem? (i := 63) rfl)) (hw _ (List.mem_of_getElem? (i := 4) rfl)) (hw _ (List.mem_of_getElem? (i := 64) rfl)) (by decide) (argsL := [(.ref b444), (.ref b362), (.int (5 : Int32)), (.int (4 : Int32))]) (rest := []) e451 (rmCk4 l Z a0 hw b444 b362 z0 z1 z2 z3 z4 z5 5 (by decide) (own_ints (own_kmp [z0, z1, z2, z3, z4])) (fun _ => own_ckat (own_law z0 z1 z2 z3 z4 z5 (n := 5) (i := 4) (by decide) (by decide))) _ f447 T_444) (W := 0) (by decide) (by decide) (by rw [hml]; rfl) (lenOf pd_24 rfl) (Nat.le_of_eq rfl) (hb hby at_205) (by decide) (by decide) rfl ?_
    rintro T452 v452 L452 X452 ⟨rfl, e452, rfl⟩
    rw [List.append_nil] at X452
    show Ends (some (CHr Z own_EL vm0 h0)) p e below s _ _ _ T452 (mkF m 208 #[.val (.int nn), .val (.int p1), .val (.int p2), .val (.int p3), .val (.int p4), .val (.int p5), .val (.int (5 : Int32)), .val (.ref b352), .val (.ref b362), .val (.ref a442), .val (.ref b444)] [(.int (1 : Int32))])
    refine E.ifN (q := 211) X452 hx (hb hby at_208) (XT.i0_eq_f (by decide)) ?_
    refine E.aload (q := 213) X452 hx (hb hby at_211) rfl rfl ?_
    refine E.aload (q := 215) X452 hx (hb hby at_213) rfl rfl ?_
    refine E.iload (q := 217) X452 hx (hb hby at_215) rfl ?_
    refine E.iconst (q := 218) (v := (5 : Int32)) X452 hx (hb hby at_217) rfl ?_
    refine Ends.callS X452 hx hZ hown (hw _ (List.mem_of_getElem? (i := 62) rfl)) (hw _ (List.mem_of_getElem? (i := 63) rfl)) (hw _ (List.mem_of_getElem? (i := 4) rfl)) (hw _ (List.mem_of_getElem? (i := 64) rfl)) (by decide) (argsL := [(.ref b444), (.ref b362), (.int (5 : Int32)), (.int (5 : Int32))]) (rest := []) e452 (rmCk5 l Z a0 hw b444 b362 z0 z1 z2 z3 z4 z5 5 (by decide) (own_ints (own_kmp [z0, z1, z2, z3, z4])) (fun q => absurd q (by decide)) _ f447 T_444) (W := 0) (by decide) (by decide) (by rw [hml]; rfl) (lenOf pd_24 rfl) (Nat.le_of_eq rfl) (hb hby at_218) (by decide) (by decide) rfl ?_
    rintro T453 v453 L453 X453 ⟨rfl, e453, rfl⟩
    rw [List.append_nil] at X453
    show Ends (some (CHr Z own_EL vm0 h0)) p e below s _ _ _ T453 (mkF m 221 #[.val (.int nn), .val (.int p1), .val (.int p2), .val (.int p3), .val (.int p4), .val (.int p5), .val (.int (5 : Int32)), .val (.ref b352), .val (.ref b362), .val (.ref a442), .val (.ref b444)] [(.int (1 : Int32))])
    refine E.ifN (q := 224) X453 hx (hb hby at_221) (XT.i0_eq_f (by decide)) ?_
    refine E.iconst (q := 225) (v := (1 : Int32)) X453 hx (hb hby at_224) rfl ?_
    refine E.goto (q := 229) X453 hx (hb hby at_225) ?_
    exact Ends.retS X453 hx hlk hret (by simp) rfl (hb hby at_229) (by decide) (by decide) ⟨⟨rfl, (O444).fr⟩, by first | exact (Nat.le_refl _) | (rw [e453]; exact (Nat.le_refl _))⟩ (hF := own_chret X453 hZ (own_EW hw) HC445 (by first | rfl | assumption))
  · show Ends (some (CHr Z own_EL vm0 h0)) p e below s _ _ _ T380 (mkF m 119 #[.val (.int nn), .val (.int p1), .val (.int p2), .val (.int p3), .val (.int p4), .val (.int p5), .val (.int (6 : Int32)), .val (.ref b352), .val (.ref b362), .unset, .unset] [(.int (6 : Int32)), (.ref b362)])
    refine Ends.callSH X380 hx hZ hown (hw _ (List.mem_of_getElem? (i := 2) rfl)) (hw _ (List.mem_of_getElem? (i := 3) rfl)) (hw _ (List.mem_of_getElem? (i := 4) rfl)) (hw _ (List.mem_of_getElem? (i := 5) rfl)) (by decide) (argsL := [(.ref b362), (.int (6 : Int32))]) (rest := []) e380 (Nat.zero_le _) (own_EW hw) HC381.1 (rmMk_6 l Z a0 hw b362 z0 z1 z2 z3 z4 z5 hzC0 hzC1 hzC2 hzC3 hzC4 hzC5 _ V380 cs hcs (own_sta_keep S0 O380.1 own_ns0) (own_sta_keep S2 O380.1 own_ns0) (own_sta_keep S3 O380.1 own_ns0) (own_sta_keep S4 O380.1 own_ns0)) (W := 0) (by decide) (by decide) (by rw [hml]; rfl) (lenOf pd_22 rfl) (Nat.le_of_eq rfl) (hb hby at_119) (by decide) (by decide) rfl ?_
    rintro s T454 v454 L454 X454 hc454 hZ hown ⟨a454, V454, cd454, bs454, rfl, ga454, hO454, Ea454, Fv454, Fc454, A454, hS454⟩
    have e454 : T454.heap = T454.heap := rfl
    have O454 := O380.call hO454 all0
    have HC455 := HC381.trans hc454
    show Ends (some (CHr Z own_EL vm0 h0)) p e below s _ _ _ T454 (mkF m 122 #[.val (.int nn), .val (.int p1), .val (.int p2), .val (.int p3), .val (.int p4), .val (.int p5), .val (.int (6 : Int32)), .val (.ref b352), .val (.ref b362), .unset, .unset] [(.ref a454)])
    refine E.astore (q := 124) (l' := #[.val (.int nn), .val (.int p1), .val (.int p2), .val (.int p3), .val (.int p4), .val (.int p5), .val (.int (6 : Int32)), .val (.ref b352), .val (.ref b362), .val (.ref a454), .unset]) X454 hx (hb hby at_122) rfl rfl ?_
    refine E.aload (q := 126) X454 hx (hb hby at_124) rfl rfl ?_
    refine Ends.callSH X454 hx hZ hown (hw _ (List.mem_of_getElem? (i := 27) rfl)) (hw _ (List.mem_of_getElem? (i := 28) rfl)) (hw _ (List.mem_of_getElem? (i := 29) rfl)) (hw _ (List.mem_of_getElem? (i := 30) rfl)) (by decide) (argsL := [(.ref a454)]) (rest := []) e454 (Nat.le_refl _) (own_EW hw) HC455.1 (rm5 l Z a0 hw a454 V454 cd454 bs454 [z0, z1, z2, z3, z4, z5] hS454 (by simp) _ Ea454 Fv454 Fc454 A454 cs hcs (own_sta_keep S0 O454.1 own_ns0) fv hfv (own_sta_keep S1 O454.1 own_ns0) (own_sta_keep S2 O454.1 own_ns0) (own_sta_keep S3 O454.1 own_ns0) (own_sta_keep S4 O454.1 own_ns0)) (W := 0) (by decide) (by decide) (by rw [hml]; rfl) (lenOf pd_23 rfl) (Nat.le_of_eq rfl) (hb hby at_126) (by decide) (by decide) rfl ?_
    rintro s T456 v456 L456 X456 hc456 hZ hown ⟨b456, rfl, gb456, hO456, T_456⟩
    have e456 : T456.heap = T456.heap := rfl
    have O456 := O454.call hO456 all0
    have HC457 := HC455.trans hc456
    show Ends (some (CHr Z own_EL vm0 h0)) p e below s _ _ _ T456 (mkF m 129 #[.val (.int nn), .val (.int p1), .val (.int p2), .val (.int p3), .val (.int p4), .val (.int p5), .val (.int (6 : Int32)), .val (.ref b352), .val (.ref b362), .val (.ref a454), .unset] [(.ref b456)])
    refine E.astore (q := 131) (l' := #[.val (.int nn), .val (.int p1), .val (.int p2), .val (.int p3), .val (.int p4), .val (.int p5), .val (.int (6 : Int32)), .val (.ref b352), .val (.ref b362), .val (.ref a454), .val (.ref b456)]) X456 hx (hb hby at_129) rfl rfl ?_
    refine E.aload (q := 133) X456 hx (hb hby at_131) rfl rfl ?_
    refine E.nullN (q := 136) X456 hx (hb hby at_133) ?_
    refine E.aload (q := 138) X456 hx (hb hby at_136) rfl rfl ?_
    refine Ends.alen X456 hx hZ e456 T_456 (hb hby at_138) (n := (6 : Int32)) (by rw [List.length_map, own_ints_len, own_kmp_len]; rfl) ?_
    refine E.iload (q := 141) X456 hx (hb hby at_139) rfl ?_
    refine E.icmpY (q := 146) X456 hx (hb hby at_141) (XT.ii_eq_t (by decide)) ?_
    refine E.aload (q := 148) X456 hx (hb hby at_146) rfl rfl ?_
    refine E.aload (q := 150) X456 hx (hb hby at_148) rfl rfl ?_
    refine E.iload (q := 152) X456 hx (hb hby at_150) rfl ?_
    refine E.iconst (q := 153) (v := (0 : Int32)) X456 hx (hb hby at_152) rfl ?_
    have f458 := V380.keep hO454.1 nin0
    have f459 := f458.keep hO456.1 nin0
    refine Ends.callS X456 hx hZ hown (hw _ (List.mem_of_getElem? (i := 62) rfl)) (hw _ (List.mem_of_getElem? (i := 63) rfl)) (hw _ (List.mem_of_getElem? (i := 4) rfl)) (hw _ (List.mem_of_getElem? (i := 64) rfl)) (by decide) (argsL := [(.ref b456), (.ref b362), (.int (6 : Int32)), (.int (0 : Int32))]) (rest := []) e456 (rmCk0 l Z a0 hw b456 b362 z0 z1 z2 z3 z4 z5 6 (by decide) (own_ints (own_kmp [z0, z1, z2, z3, z4, z5])) (fun _ => own_ckat (own_law z0 z1 z2 z3 z4 z5 (n := 6) (i := 0) (by decide) (by decide))) _ f459 T_456) (W := 0) (by decide) (by decide) (by rw [hml]; rfl) (lenOf pd_24 rfl) (Nat.le_of_eq rfl) (hb hby at_153) (by decide) (by decide) rfl ?_
    rintro T460 v460 L460 X460 ⟨rfl, e460, rfl⟩
    rw [List.append_nil] at X460
    show Ends (some (CHr Z own_EL vm0 h0)) p e below s _ _ _ T460 (mkF m 156 #[.val (.int nn), .val (.int p1), .val (.int p2), .val (.int p3), .val (.int p4), .val (.int p5), .val (.int (6 : Int32)), .val (.ref b352), .val (.ref b362), .val (.ref a454), .val (.ref b456)] [(.int (1 : Int32))])
    refine E.ifN (q := 159) X460 hx (hb hby at_156) (XT.i0_eq_f (by decide)) ?_
    refine E.aload (q := 161) X460 hx (hb hby at_159) rfl rfl ?_
    refine E.aload (q := 163) X460 hx (hb hby at_161) rfl rfl ?_
    refine E.iload (q := 165) X460 hx (hb hby at_163) rfl ?_
    refine E.iconst (q := 166) (v := (1 : Int32)) X460 hx (hb hby at_165) rfl ?_
    refine Ends.callS X460 hx hZ hown (hw _ (List.mem_of_getElem? (i := 62) rfl)) (hw _ (List.mem_of_getElem? (i := 63) rfl)) (hw _ (List.mem_of_getElem? (i := 4) rfl)) (hw _ (List.mem_of_getElem? (i := 64) rfl)) (by decide) (argsL := [(.ref b456), (.ref b362), (.int (6 : Int32)), (.int (1 : Int32))]) (rest := []) e460 (rmCk1 l Z a0 hw b456 b362 z0 z1 z2 z3 z4 z5 6 (by decide) (own_ints (own_kmp [z0, z1, z2, z3, z4, z5])) (fun _ => own_ckat (own_law z0 z1 z2 z3 z4 z5 (n := 6) (i := 1) (by decide) (by decide))) _ f459 T_456) (W := 0) (by decide) (by decide) (by rw [hml]; rfl) (lenOf pd_24 rfl) (Nat.le_of_eq rfl) (hb hby at_166) (by decide) (by decide) rfl ?_
    rintro T461 v461 L461 X461 ⟨rfl, e461, rfl⟩
    rw [List.append_nil] at X461
    show Ends (some (CHr Z own_EL vm0 h0)) p e below s _ _ _ T461 (mkF m 169 #[.val (.int nn), .val (.int p1), .val (.int p2), .val (.int p3), .val (.int p4), .val (.int p5), .val (.int (6 : Int32)), .val (.ref b352), .val (.ref b362), .val (.ref a454), .val (.ref b456)] [(.int (1 : Int32))])
    refine E.ifN (q := 172) X461 hx (hb hby at_169) (XT.i0_eq_f (by decide)) ?_
    refine E.aload (q := 174) X461 hx (hb hby at_172) rfl rfl ?_
    refine E.aload (q := 176) X461 hx (hb hby at_174) rfl rfl ?_
    refine E.iload (q := 178) X461 hx (hb hby at_176) rfl ?_
    refine E.iconst (q := 179) (v := (2 : Int32)) X461 hx (hb hby at_178) rfl ?_
    refine Ends.callS X461 hx hZ hown (hw _ (List.mem_of_getElem? (i := 62) rfl)) (hw _ (List.mem_of_getElem? (i := 63) rfl)) (hw _ (List.mem_of_getElem? (i := 4) rfl)) (hw _ (List.mem_of_getElem? (i := 64) rfl)) (by decide) (argsL := [(.ref b456), (.ref b362), (.int (6 : Int32)), (.int (2 : Int32))]) (rest := []) e461 (rmCk2 l Z a0 hw b456 b362 z0 z1 z2 z3 z4 z5 6 (by decide) (own_ints (own_kmp [z0, z1, z2, z3, z4, z5])) (fun _ => own_ckat (own_law z0 z1 z2 z3 z4 z5 (n := 6) (i := 2) (by decide) (by decide))) _ f459 T_456) (W := 0) (by decide) (by decide) (by rw [hml]; rfl) (lenOf pd_24 rfl) (Nat.le_of_eq rfl) (hb hby at_179) (by decide) (by decide) rfl ?_
    rintro T462 v462 L462 X462 ⟨rfl, e462, rfl⟩
    rw [List.append_nil] at X462
    show Ends (some (CHr Z own_EL vm0 h0)) p e below s _ _ _ T462 (mkF m 182 #[.val (.int nn), .val (.int p1), .val (.int p2), .val (.int p3), .val (.int p4), .val (.int p5), .val (.int (6 : Int32)), .val (.ref b352), .val (.ref b362), .val (.ref a454), .val (.ref b456)] [(.int (1 : Int32))])
    refine E.ifN (q := 185) X462 hx (hb hby at_182) (XT.i0_eq_f (by decide)) ?_
    refine E.aload (q := 187) X462 hx (hb hby at_185) rfl rfl ?_
    refine E.aload (q := 189) X462 hx (hb hby at_187) rfl rfl ?_
    refine E.iload (q := 191) X462 hx (hb hby at_189) rfl ?_
    refine E.iconst (q := 192) (v := (3 : Int32)) X462 hx (hb hby at_191) rfl ?_
    refine Ends.callS X462 hx hZ hown (hw _ (List.mem_of_getElem? (i := 62) rfl)) (hw _ (List.mem_of_getElem? (i := 63) rfl)) (hw _ (List.mem_of_getElem? (i := 4) rfl)) (hw _ (List.mem_of_getElem? (i := 64) rfl)) (by decide) (argsL := [(.ref b456), (.ref b362), (.int (6 : Int32)), (.int (3 : Int32))]) (rest := []) e462 (rmCk3 l Z a0 hw b456 b362 z0 z1 z2 z3 z4 z5 6 (by decide) (own_ints (own_kmp [z0, z1, z2, z3, z4, z5])) (fun _ => own_ckat (own_law z0 z1 z2 z3 z4 z5 (n := 6) (i := 3) (by decide) (by decide))) _ f459 T_456) (W := 0) (by decide) (by decide) (by rw [hml]; rfl) (lenOf pd_24 rfl) (Nat.le_of_eq rfl) (hb hby at_192) (by decide) (by decide) rfl ?_
    rintro T463 v463 L463 X463 ⟨rfl, e463, rfl⟩
    rw [List.append_nil] at X463
    show Ends (some (CHr Z own_EL vm0 h0)) p e below s _ _ _ T463 (mkF m 195 #[.val (.int nn), .val (.int p1), .val (.int p2), .val (.int p3), .val (.int p4), .val (.int p5), .val (.int (6 : Int32)), .val (.ref b352), .val (.ref b362), .val (.ref a454), .val (.ref b456)] [(.int (1 : Int32))])
    refine E.ifN (q := 198) X463 hx (hb hby at_195) (XT.i0_eq_f (by decide)) ?_
    refine E.aload (q := 200) X463 hx (hb hby at_198) rfl rfl ?_
    refine E.aload (q := 202) X463 hx (hb hby at_200) rfl rfl ?_
    refine E.iload (q := 204) X463 hx (hb hby at_202) rfl ?_
    refine E.iconst (q := 205) (v := (4 : Int32)) X463 hx (hb hby at_204) rfl ?_
    refine Ends.callS X463 hx hZ hown (hw _ (List.mem_of_getElem? (i := 62) rfl)) (hw _ (List.mem_of_getElem? (i := 63) rfl)) (hw _ (List.mem_of_getElem? (i := 4) rfl)) (hw _ (List.mem_of_getElem? (i := 64) rfl)) (by decide) (argsL := [(.ref b456), (.ref b362), (.int (6 : Int32)), (.int (4 : Int32))]) (rest := []) e463 (rmCk4 l Z a0 hw b456 b362 z0 z1 z2 z3 z4 z5 6 (by decide) (own_ints (own_kmp [z0, z1, z2, z3, z4, z5])) (fun _ => own_ckat (own_law z0 z1 z2 z3 z4 z5 (n := 6) (i := 4) (by decide) (by decide))) _ f459 T_456) (W := 0) (by decide) (by decide) (by rw [hml]; rfl) (lenOf pd_24 rfl) (Nat.le_of_eq rfl) (hb hby at_205) (by decide) (by decide) rfl ?_
    rintro T464 v464 L464 X464 ⟨rfl, e464, rfl⟩
    rw [List.append_nil] at X464
    show Ends (some (CHr Z own_EL vm0 h0)) p e below s _ _ _ T464 (mkF m 208 #[.val (.int nn), .val (.int p1), .val (.int p2), .val (.int p3), .val (.int p4), .val (.int p5), .val (.int (6 : Int32)), .val (.ref b352), .val (.ref b362), .val (.ref a454), .val (.ref b456)] [(.int (1 : Int32))])
    refine E.ifN (q := 211) X464 hx (hb hby at_208) (XT.i0_eq_f (by decide)) ?_
    refine E.aload (q := 213) X464 hx (hb hby at_211) rfl rfl ?_
    refine E.aload (q := 215) X464 hx (hb hby at_213) rfl rfl ?_
    refine E.iload (q := 217) X464 hx (hb hby at_215) rfl ?_
    refine E.iconst (q := 218) (v := (5 : Int32)) X464 hx (hb hby at_217) rfl ?_
    refine Ends.callS X464 hx hZ hown (hw _ (List.mem_of_getElem? (i := 62) rfl)) (hw _ (List.mem_of_getElem? (i := 63) rfl)) (hw _ (List.mem_of_getElem? (i := 4) rfl)) (hw _ (List.mem_of_getElem? (i := 64) rfl)) (by decide) (argsL := [(.ref b456), (.ref b362), (.int (6 : Int32)), (.int (5 : Int32))]) (rest := []) e464 (rmCk5 l Z a0 hw b456 b362 z0 z1 z2 z3 z4 z5 6 (by decide) (own_ints (own_kmp [z0, z1, z2, z3, z4, z5])) (fun _ => own_ckat (own_law z0 z1 z2 z3 z4 z5 (n := 6) (i := 5) (by decide) (by decide))) _ f459 T_456) (W := 0) (by decide) (by decide) (by rw [hml]; rfl) (lenOf pd_24 rfl) (Nat.le_of_eq rfl) (hb hby at_218) (by decide) (by decide) rfl ?_
    rintro T465 v465 L465 X465 ⟨rfl, e465, rfl⟩
    rw [List.append_nil] at X465
    show Ends (some (CHr Z own_EL vm0 h0)) p e below s _ _ _ T465 (mkF m 221 #[.val (.int nn), .val (.int p1), .val (.int p2), .val (.int p3), .val (.int p4), .val (.int p5), .val (.int (6 : Int32)), .val (.ref b352), .val (.ref b362), .val (.ref a454), .val (.ref b456)] [(.int (1 : Int32))])
    refine E.ifN (q := 224) X465 hx (hb hby at_221) (XT.i0_eq_f (by decide)) ?_
    refine E.iconst (q := 225) (v := (1 : Int32)) X465 hx (hb hby at_224) rfl ?_
    refine E.goto (q := 229) X465 hx (hb hby at_225) ?_
    exact Ends.retS X465 hx hlk hret (by simp) rfl (hb hby at_229) (by decide) (by decide) ⟨⟨rfl, (O456).fr⟩, by first | exact (Nat.le_refl _) | (rw [e465]; exact (Nat.le_refl _))⟩ (hF := own_chret X465 hZ (own_EW hw) HC457 (by first | rfl | assumption))
theorem own_fv {args : Array Value} {s : State} (hj : ∀ w ∈ jdkStatics_1, w.before args s = true) : ∃ fv : Value, (fv = .null ∨ ∃ a, fv = .ref a) ∧ Sta s s.heap "jdk/internal/util/Preconditions" "SIOOBE_FORMATTER" "Ljava/util/function/BiFunction;" fv := by
  have h1 := Cond.before_iff.mp (hj _ (List.mem_of_getElem? (i := 8) rfl))
  have h2 := hj _ (List.mem_of_getElem? (i := 7) rfl)
  simp only [Cond.value] at h1
  cases ht : (Term.static "jdk/internal/util/Preconditions" "SIOOBE_FORMATTER" "Ljava/util/function/BiFunction;").eval args s none [] s with
  | none => simp [ht] at h1
  | some v =>
    refine ⟨v, ?_, Sta.start (args := args) ht (Or.inl h2)⟩
    cases v <;> simp [ht] at h1 ⊢
theorem own_S2 {args : Array Value} {s : State} (hj : ∀ w ∈ jdkStatics_1, w.before args s = true) : Sta s s.heap "java/lang/StringUTF16" "$assertionsDisabled" "Z" (.int (1 : Int32)) := by
  have h1 := Cond.before_iff.mp (hj _ (List.mem_of_getElem? (i := 12) rfl))
  have h2 := hj _ (List.mem_of_getElem? (i := 11) rfl)
  refine Sta.start (args := args) ?_ (Or.inl h2)
  simp only [Cond.value] at h1
  cases ht : (Term.static "java/lang/StringUTF16" "$assertionsDisabled" "Z").eval args s none [] s with
  | none => simp [ht] at h1
  | some v =>
    rw [ht, show (Term.int (1 : Int32)).eval args s none [] s = some (.int (1 : Int32)) from rfl] at h1
    cases v <;> simp_all
theorem own_S3 {args : Array Value} {s : State} (hj : ∀ w ∈ jdkStatics_1, w.before args s = true) : Sta s s.heap "java/lang/StringUTF16" "HI_BYTE_SHIFT" "I" (.int (0 : Int32)) := by
  have h1 := Cond.before_iff.mp (hj _ (List.mem_of_getElem? (i := 15) rfl))
  have h2 := hj _ (List.mem_of_getElem? (i := 14) rfl)
  refine Sta.start (args := args) ?_ (Or.inl h2)
  simp only [Cond.value] at h1
  cases ht : (Term.static "java/lang/StringUTF16" "HI_BYTE_SHIFT" "I").eval args s none [] s with
  | none => simp [ht] at h1
  | some v =>
    rw [ht, show (Term.int (0 : Int32)).eval args s none [] s = some (.int (0 : Int32)) from rfl] at h1
    cases v <;> simp_all
theorem own_S4 {args : Array Value} {s : State} (hj : ∀ w ∈ jdkStatics_1, w.before args s = true) : Sta s s.heap "java/lang/StringUTF16" "LO_BYTE_SHIFT" "I" (.int (8 : Int32)) := by
  have h1 := Cond.before_iff.mp (hj _ (List.mem_of_getElem? (i := 18) rfl))
  have h2 := hj _ (List.mem_of_getElem? (i := 17) rfl)
  refine Sta.start (args := args) ?_ (Or.inl h2)
  simp only [Cond.value] at h1
  cases ht : (Term.static "java/lang/StringUTF16" "LO_BYTE_SHIFT" "I").eval args s none [] s with
  | none => simp [ht] at h1
  | some v =>
    rw [ht, show (Term.int (8 : Int32)).eval args s none [] s = some (.int (8 : Int32)) from rfl] at h1
    cases v <;> simp_all
theorem own_cs {args : Array Value} {s : State} (hj : ∀ w ∈ jdkStatics_1, w.before args s = true) : ∃ cs : Int32, ¬ cs = (0 : Int32) ∧ Sta s s.heap "java/lang/String" "COMPACT_STRINGS" "Z" (.int cs) := by
  obtain ⟨cs, hv⟩ := is_v (Cond.before_iff.mp (hj _ (List.mem_of_getElem? (i := 1) rfl)))
  refine ⟨cs, fun q => ?_, Sta.start (args := args) hv (Or.inl (hj _ (List.mem_of_getElem? (i := 0) rfl)))⟩
  have h := (hj _ (List.mem_of_getElem? (i := 2) rfl))
  subst q
  simp only [Cond.before, Cond.holds, Cond.value] at h
  rw [hv] at h
  simp [Term.eval] at h
theorem own_CH {args : Array Value} {s : State} (hw : ∀ d ∈ tables_1, d.before args s = true) (hj : ∀ w ∈ jdkStatics_1, w.before args s = true) {tb : Tables} {e : Env} (hc : call_1_1 tb e args s) : CHv s own_EL s.vm s.heap := by
  refine CHv.start (own_EW hw) ?_ (hj _ (List.mem_of_getElem? (i := 2) rfl)) (hw _ (List.mem_of_getElem? (i := 20) rfl)) (hw _ (List.mem_of_getElem? (i := 7) rfl))
  intro p hp
  simp only [own_EL, List.mem_cons, List.not_mem_nil, or_false] at hp
  rcases hp with rfl
  exact hc ("java/lang/String", 7) (List.mem_of_getElem? (i := 1) rfl)
set_option maxRecDepth 65536 in
set_option maxHeartbeats 40000000 in
theorem comes_1 {Post : Tables → Env → Array Value → State → Outcome → State → Prop} (hpost : ∀ tb e args s v u, (limb_1_1.after args s (.returned v) u = true ∧ limb_1_2.after args s (.returned v) u = true) → ReturnedEndW s (.returned v) u (Jvm.fieldLocs frame_1_writes args s ++ Jvm.arrayLocs frame_1_arrays args s ++ Jvm.staticLocs frame_1_statics s) 32 2240 → Post tb e args s (.returned v) u) :
    ArmFor flags0 classFile x code maxLocals ret World_1 tables_1 room_1 Calls_1 rest_1 Pre_1 Post := by
  intro l hfl _ _ p e ha hc hk s m args below hf hA hF happ hP
  obtain ⟨hcalls, hrest, hpre⟩ := hP
  obtain ⟨-, -, -, hnamed, -, -, -, hat⟩ := (Spec.applies_iff hf).mp happ
  obtain ⟨hg, hn⟩ := and_e (Cond.before_iff.mp (show (Jvm.Cond.and given_1 narrow_1).before args s = true from hpre))
  obtain ⟨g0, hg⟩ := and_e hg
  obtain ⟨ga0, hg⟩ := and_e hg
  obtain ⟨ga1, hg⟩ := and_e hg
  obtain ⟨ga2, hg⟩ := and_e hg
  obtain ⟨ga3, hg⟩ := and_e hg
  obtain ⟨ga4, hg⟩ := and_e hg
  obtain ⟨w0, w1, w2, w3, w4, w5, rfl⟩ : ∃ w0 w1 w2 w3 w4 w5 : Value, args = #[w0, w1, w2, w3, w4, w5] := by
    have hs : args.size = 6 := by simpa [Cond.value, given_1] using g0
    obtain ⟨L⟩ := args
    match L, hs with
    | [w0, w1, w2, w3, w4, w5], _ => exact ⟨w0, w1, w2, w3, w4, w5, rfl⟩
  have hw := fun d (hd : d ∈ tables_1) => atoms_spec (ws := Jvm.Cond.code x code maxLocals ret :: tables_1) hat d (List.mem_cons_of_mem _ hd)
  have hj := (atoms_of (own := restOwn_1) jdkStatics_1 (show (jdkStatics_1.foldr Jvm.Cond.and restOwn_1).before _ s = true from hrest)).1
  obtain ⟨cs, hcs, S0⟩ := own_cs hj
  have hCH := own_CH hw hj hcalls.1
  obtain ⟨fv, hfv, S1⟩ := own_fv hj
  obtain ⟨i0, ei0⟩ := is_v ga0
  obtain rfl : w0 = (.int i0) := Option.some.inj ei0
  obtain ⟨i1, ei1⟩ := is_v ga1
  obtain rfl : w1 = (.int i1) := Option.some.inj ei1
  obtain ⟨i2, ei2⟩ := is_v ga2
  obtain rfl : w2 = (.int i2) := Option.some.inj ei2
  obtain ⟨i3, ei3⟩ := is_v ga3
  obtain rfl : w3 = (.int i3) := Option.some.inj ei3
  obtain ⟨i4, ei4⟩ := is_v ga4
  obtain rfl : w4 = (.int i4) := Option.some.inj ei4
  obtain ⟨i5, ei5⟩ := is_v hg
  obtain rfl : w5 = (.int i5) := Option.some.inj ei5
  obtain ⟨n, o, h1, h2, h3, _, L, rfl, ⟨rfl, N⟩, -, hq⟩ := rm0 l s _ hw i0 i1 i2 i3 i4 i5 s.heap cs hcs S0 fv hfv S1 (own_S2 hj) (own_S3 hj) (own_S4 hj) p e ha hc hk s m _ below hf ((Spec.applies_iff_loose hf).mp happ).1 ⟨rfl, State.Warmed39.refl s, rfl, hCH⟩ trivial
  exact ⟨n, _, h1, h2, h3, hpost _ _ _ _ _ _ ⟨Cond.after_iff.mpr rfl, Cond.after_iff.mpr (eq_i res_at (Term.int_eval (1)) rfl)⟩ ⟨hq.1, hq.2.1, hq.2.2.1, (hq.2.2.2.sift fun y hy => Or.inr (N y hy)).mono (by decide) (by decide)⟩⟩
theorem main_1_1 : Claimed_1_1 := comes_1 fun _ _ _ _ _ _ h hF => ⟨h.1, hF⟩
theorem main_1_2 : Claimed_1_2 := comes_1 fun _ _ _ _ _ _ h hF => ⟨h.2, hF⟩
end Jvm.Pilot.@@N@@
namespace Jvm.Pilot.@@N@@
open Jvm Jvm.ClassFile Sem Op Lib Jvm.Free Jvm.Stand Jvm.Pilot.@@N@@.Jvm.D
/-! MADE BY PROGRAM (witnessworld.py) out of the Statement's table words and the real class files: 23 classes; the members and pool entries that the words name. The judged class is class 1, her method 1. -/
namespace start1
open Jvm.ClassFile
def u (s : String) : CpInfo := .utf8 (stringToUtf16 s)
/-- a pool by its gaps: so many unusable entries, then the entry; so many at the end -/
def gap : Nat → List CpInfo → List CpInfo
  | 0, r => r
  | n + 1, r => .unusable :: gap n r
def poolList (es : List (Nat × CpInfo)) (last : Nat) : List CpInfo := es.foldr (fun e r => gap e.1 (e.2 :: r)) (gap last [])
def pool (es : List (Nat × CpInfo)) (last : Nat) : Array CpInfo := ⟨poolList es last⟩
def fileOf (pool : Array CpInfo) (this : Nat) (attrs : Array Attribute := #[]) (ms : Array MethodInfo := #[]) (fl : Nat := 33) (sup : Nat := 0) (ifs : Array Nat := #[]) (fds : Array FieldInfo := #[]) : ClassFile where
  minorVersion := 0
  majorVersion := 65
  constantPool := pool
  accessFlags := fl
  thisClass := this
  superClass := sup
  interfaces := ifs
  fields := fds
  methods := ms
  attributes := attrs
def plain (name : String) (sup : Option ClassId) : Class where
  name := name
  kind := .ordinary
  loader := none
  accessFlags := 33
  super := sup
  interfaces := #[]
  cf := none
  fields := #[]
  methods := #[]
  instanceTypes := #[]
  staticTypes := #[]
  resolved := #[]
  callSites := []
  init := .initialized
  statics := none
  mirror := none

def pool0 : Array CpInfo := pool [(5, u "<init>"), (0, u "()V"), (1, .class_ 10), (1, u "java/lang/Object")] 113

def k0c0 : Code := { maxStack := 0, maxLocals := 1, code := object_method_1_code, exceptionTable := #[], attributes := #[] }
def k0m0 : Method := { name := "<init>", desc := "()V", sig := { parameters := [], returnType := none }, accessFlags := 1, code := some k0c0 }
/-- java/lang/Object -/
def k0 : Class := { plain "java/lang/Object" none with
  accessFlags := 33
  interfaces := #[]
  cf := some (fileOf pool0 8 #[] #[{ accessFlags := 1, nameIndex := 5, descriptorIndex := 6, attributes := #[] }] 33 0 #[] #[])
  fields := #[]
  methods := #[k0m0]
  instanceTypes := #[]
  staticTypes := #[]
  resolved := Array.replicate 124 none
  statics := none }

def pool1 : Array CpInfo := pool [(2, .class_ 4), (1, u "java/lang/Object"), (0, u "<init>"), (0, u "()V"), (0, .integer 2147483647), (0, .methodref 9 10), (0, .class_ 11), (0, .nameAndType 12 13), (0, u "com/example/needlework/needlework/match/PrefixTableOfPinLaw"), (0, u "make"), (0, u "([CI)Ljava/lang/String;"), (0, .methodref 15 16), (0, .class_ 17), (0, .nameAndType 18 19), (0, u "com/example/needlework/needlework/match/PrefixTable"), (0, u "of"), (0, u "(Ljava/lang/CharSequence;)[I"), (0, .methodref 9 21), (0, .nameAndType 22 23), (0, u "check"), (0, u "([I[CII)Z"), (0, .class_ 25), (0, u "java/lang/String"), (0, .methodref 24 27), (0, .nameAndType 5 28), (0, u "([C)V"), (0, .methodref 9 30), (0, .nameAndType 31 32), (0, u "ref"), (0, u "([CI)I"), (0, .methodref 9 34), (0, .nameAndType 35 36), (0, u "isBorder"), (0, u "([CII)Z"), (2, u "law"), (0, u "(IIIIII)Z")] 7

def k1m0 : Method := { name := "<init>", desc := "()V", sig := { parameters := [], returnType := none }, accessFlags := 2, code := none }
def k1c1 : Code := { maxStack := 5, maxLocals := 11, code := code, exceptionTable := #[], attributes := #[] }
def k1m1 : Method := { name := "law", desc := "(IIIIII)Z", sig := { parameters := [.int, .int, .int, .int, .int, .int], returnType := some .boolean }, accessFlags := 9, code := some k1c1 }
def k1c2 : Code := { maxStack := 7, maxLocals := 2, code := method_3_code, exceptionTable := #[], attributes := #[] }
def k1m2 : Method := { name := "make", desc := "([CI)Ljava/lang/String;", sig := { parameters := [(.array .char), .int], returnType := some (.object "java/lang/String") }, accessFlags := 10, code := some k1c2 }
def k1c3 : Code := { maxStack := 3, maxLocals := 4, code := method_4_code, exceptionTable := #[], attributes := #[] }
def k1m3 : Method := { name := "check", desc := "([I[CII)Z", sig := { parameters := [(.array .int), (.array .char), .int, .int], returnType := some .boolean }, accessFlags := 10, code := some k1c3 }
def k1c4 : Code := { maxStack := 4, maxLocals := 3, code := method_5_code, exceptionTable := #[], attributes := #[] }
def k1m4 : Method := { name := "isBorder", desc := "([CII)Z", sig := { parameters := [(.array .char), .int, .int], returnType := some .boolean }, accessFlags := 10, code := some k1c4 }
def k1c5 : Code := { maxStack := 3, maxLocals := 2, code := method_6_code, exceptionTable := #[], attributes := #[] }
def k1m5 : Method := { name := "ref", desc := "([CI)I", sig := { parameters := [(.array .char), .int], returnType := some .int }, accessFlags := 10, code := some k1c5 }
/-- com/example/needlework/needlework/match/PrefixTableOfPinLaw -/
def k1 : Class := { plain "com/example/needlework/needlework/match/PrefixTableOfPinLaw" (some 0) with
  accessFlags := 49
  interfaces := #[]
  cf := some (fileOf pool1 9 #[] #[{ accessFlags := 2, nameIndex := 5, descriptorIndex := 6, attributes := #[] }, { accessFlags := 9, nameIndex := 39, descriptorIndex := 40, attributes := #[] }, { accessFlags := 10, nameIndex := 12, descriptorIndex := 13, attributes := #[] }, { accessFlags := 10, nameIndex := 22, descriptorIndex := 23, attributes := #[] }, { accessFlags := 10, nameIndex := 35, descriptorIndex := 36, attributes := #[] }, { accessFlags := 10, nameIndex := 31, descriptorIndex := 32, attributes := #[] }] 49 2 #[] #[])
  fields := #[]
  methods := #[k1m0, k1m1, k1m2, k1m3, k1m4, k1m5]
  instanceTypes := #[]
  staticTypes := #[]
  resolved := Array.replicate 48 none
  statics := none }

def pool2 : Array CpInfo := pool [(1, .class_ 2), (0, u "java/io/Serializable"), (0, .class_ 4), (0, u "java/lang/Object")] 2

/-- java/io/Serializable -/
def k2 : Class := { plain "java/io/Serializable" (some 0) with
  accessFlags := 1537
  interfaces := #[]
  cf := some (fileOf pool2 1 #[] #[] 1537 3 #[] #[])
  fields := #[]
  methods := #[]
  instanceTypes := #[]
  staticTypes := #[]
  resolved := Array.replicate 7 none
  statics := none }

def pool3 : Array CpInfo := pool [(1, .class_ 2), (0, u "java/lang/Comparable"), (0, .class_ 4), (0, u "java/lang/Object")] 7

/-- java/lang/Comparable -/
def k3 : Class := { plain "java/lang/Comparable" (some 0) with
  accessFlags := 1537
  interfaces := #[]
  cf := some (fileOf pool3 1 #[] #[] 1537 3 #[] #[])
  fields := #[]
  methods := #[]
  instanceTypes := #[]
  staticTypes := #[]
  resolved := Array.replicate 12 none
  statics := none }

def pool4 : Array CpInfo := pool [(2, .class_ 4), (1, u "java/lang/CharSequence"), (0, u "length"), (0, u "()I"), (38, u "charAt"), (0, u "(I)C"), (0, .class_ 48), (0, u "java/lang/CharSequence$1CodePointIterator"), (10, .class_ 60), (0, u "java/lang/CharSequence$1CharIterator"), (5, .class_ 67), (0, u "java/lang/Object")] 63

def k4m0 : Method := { name := "length", desc := "()I", sig := { parameters := [], returnType := some .int }, accessFlags := 1025, code := none }
def k4m1 : Method := { name := "charAt", desc := "(I)C", sig := { parameters := [.int], returnType := some .char }, accessFlags := 1025, code := none }
/-- java/lang/CharSequence -/
def k4 : Class := { plain "java/lang/CharSequence" (some 0) with
  accessFlags := 1537
  interfaces := #[]
  cf := some (fileOf pool4 2 #[.nestMembers #[47, 59]] #[{ accessFlags := 1025, nameIndex := 5, descriptorIndex := 6, attributes := #[] }, { accessFlags := 1025, nameIndex := 45, descriptorIndex := 46, attributes := #[] }] 1537 66 #[] #[])
  fields := #[]
  methods := #[k4m0, k4m1]
  instanceTypes := #[]
  staticTypes := #[]
  resolved := Array.replicate 131 none
  statics := none }

def pool5 : Array CpInfo := pool [(1, .class_ 2), (0, u "java/lang/constant/Constable"), (0, .class_ 4), (0, u "java/lang/Object")] 6

/-- java/lang/constant/Constable -/
def k5 : Class := { plain "java/lang/constant/Constable" (some 0) with
  accessFlags := 1537
  interfaces := #[]
  cf := some (fileOf pool5 1 #[] #[] 1537 3 #[] #[])
  fields := #[]
  methods := #[]
  instanceTypes := #[]
  staticTypes := #[]
  resolved := Array.replicate 11 none
  statics := none }

def pool6 : Array CpInfo := pool [(1, .class_ 2), (0, u "java/lang/constant/ConstantDesc"), (0, .class_ 4), (0, u "java/lang/Object")] 32

/-- java/lang/constant/ConstantDesc -/
def k6 : Class := { plain "java/lang/constant/ConstantDesc" (some 0) with
  accessFlags := 1537
  interfaces := #[]
  cf := some (fileOf pool6 1 #[] #[] 1537 3 #[] #[])
  fields := #[]
  methods := #[]
  instanceTypes := #[]
  staticTypes := #[]
  resolved := Array.replicate 37 none
  statics := none }

def pool7 : Array CpInfo := pool [(1, .methodref 2 3), (0, .class_ 4), (0, .nameAndType 5 6), (0, u "java/lang/Object"), (0, u "<init>"), (0, u "()V"), (0, .string 8), (0, u ""), (0, .fieldref 10 11), (0, .class_ 12), (0, .nameAndType 13 14), (0, u "java/lang/String"), (0, u "value"), (0, u "[B"), (0, .fieldref 10 16), (0, .nameAndType 17 18), (0, u "coder"), (0, u "B"), (2, u "hash"), (0, u "I"), (2, u "hashIsZero"), (0, u "Z"), (0, .methodref 10 28), (0, .nameAndType 5 29), (0, u "([CIILjava/lang/Void;)V"), (8, .fieldref 10 39), (0, .nameAndType 40 26), (0, u "COMPACT_STRINGS"), (1, .class_ 44), (1, u "java/lang/StringUTF16"), (0, u "compress"), (1, .methodref 42 48), (0, .nameAndType 49 50), (0, u "coderFromArrayLen"), (0, u "([BI)B"), (56, .class_ 109), (1, u "java/lang/StringLatin1"), (32, u "()Z"), (34, .methodref 42 178), (0, .nameAndType 45 179), (0, u "([CII)[B"), (154, u "()I"), (0, .methodref 10 336), (0, .nameAndType 17 337), (0, u "()B"), (25, u "([BI)C"), (27, u "(II)V"), (35, u "(I)C"), (64, .methodref 10 493), (0, .nameAndType 494 142), (0, u "isLatin1"), (0, .methodref 107 496), (0, .nameAndType 497 363), (0, u "charAt"), (0, .methodref 42 496), (2, u "checkIndex"), (5, u "length"), (67, .class_ 576), (0, u "java/lang/CharSequence"), (22, u "CASE_INSENSITIVE_ORDER"), (0, u "Ljava/util/Comparator;"), (409, u "([C)V"), (42, .fieldref 1054 1055), (0, .class_ 1056), (0, .nameAndType 1057 1058), (0, u "jdk/internal/util/Preconditions"), (0, u "SIOOBE_FORMATTER"), (0, u "Ljava/util/function/BiFunction;"), (0, .methodref 1054 1060), (0, .nameAndType 501 1061), (0, u "(IILjava/util/function/BiFunction;)I"), (39, u "serialPersistentFields"), (0, u "[Ljava/io/ObjectStreamField;"), (0, .class_ 1104), (0, u "java/lang/String$CaseInsensitiveComparator"), (1, .class_ 1107), (0, u "java/io/Serializable"), (0, .class_ 1109), (0, u "java/lang/Comparable"), (0, .class_ 1111), (0, u "java/lang/constant/Constable"), (0, .class_ 1113), (0, u "java/lang/constant/ConstantDesc"), (2, u "serialVersionUID"), (0, u "J"), (3, u "REPL"), (0, u "C"), (2, u "LATIN1"), (1, u "UTF16")] 323

def k7m0 : Method := { name := "<init>", desc := "()V", sig := { parameters := [], returnType := none }, accessFlags := 1, code := none }
def k7c1 : Code := { maxStack := 5, maxLocals := 2, code := jdk_42_method_3_code, exceptionTable := #[], attributes := #[] }
def k7m1 : Method := { name := "<init>", desc := "([C)V", sig := { parameters := [(.array .char)], returnType := none }, accessFlags := 1, code := some k7c1 }
def k7c2 : Code := { maxStack := 2, maxLocals := 1, code := jdk_42_method_54_code, exceptionTable := #[], attributes := #[] }
def k7m2 : Method := { name := "length", desc := "()I", sig := { parameters := [], returnType := some .int }, accessFlags := 1, code := some k7c2 }
def k7c3 : Code := { maxStack := 2, maxLocals := 2, code := jdk_42_method_56_code, exceptionTable := #[], attributes := #[] }
def k7m3 : Method := { name := "charAt", desc := "(I)C", sig := { parameters := [.int], returnType := some .char }, accessFlags := 1, code := some k7c3 }
def k7c4 : Code := { maxStack := 4, maxLocals := 6, code := jdk_42_method_149_code, exceptionTable := #[], attributes := #[] }
def k7m4 : Method := { name := "<init>", desc := "([CIILjava/lang/Void;)V", sig := { parameters := [(.array .char), .int, .int, (.object "java/lang/Void")], returnType := none }, accessFlags := 2, code := some k7c4 }
def k7c5 : Code := { maxStack := 1, maxLocals := 1, code := jdk_42_method_152_code, exceptionTable := #[], attributes := #[] }
def k7m5 : Method := { name := "coder", desc := "()B", sig := { parameters := [], returnType := some .byte }, accessFlags := 0, code := some k7c5 }
def k7c6 : Code := { maxStack := 1, maxLocals := 1, code := jdk_42_method_154_code, exceptionTable := #[], attributes := #[] }
def k7m6 : Method := { name := "isLatin1", desc := "()Z", sig := { parameters := [], returnType := some .boolean }, accessFlags := 0, code := some k7c6 }
def k7c7 : Code := { maxStack := 3, maxLocals := 2, code := jdk_42_method_155_code, exceptionTable := #[], attributes := #[] }
def k7m7 : Method := { name := "checkIndex", desc := "(II)V", sig := { parameters := [.int, .int], returnType := none }, accessFlags := 8, code := some k7c7 }
/-- java/lang/String -/
def k7 : Class := { plain "java/lang/String" (some 0) with
  accessFlags := 49
  interfaces := #[2, 3, 4, 5, 6]
  cf := some (fileOf pool7 10 #[.nestMembers #[1103]] #[{ accessFlags := 1, nameIndex := 5, descriptorIndex := 6, attributes := #[] }, { accessFlags := 1, nameIndex := 5, descriptorIndex := 1010, attributes := #[] }, { accessFlags := 1, nameIndex := 507, descriptorIndex := 334, attributes := #[] }, { accessFlags := 1, nameIndex := 497, descriptorIndex := 427, attributes := #[] }, { accessFlags := 2, nameIndex := 5, descriptorIndex := 29, attributes := #[] }, { accessFlags := 0, nameIndex := 17, descriptorIndex := 337, attributes := #[] }, { accessFlags := 0, nameIndex := 494, descriptorIndex := 142, attributes := #[] }, { accessFlags := 8, nameIndex := 501, descriptorIndex := 391, attributes := #[] }] 49 2 #[1106, 1108, 575, 1110, 1112] #[{ accessFlags := 18, nameIndex := 13, descriptorIndex := 14, attributes := #[] }, { accessFlags := 18, nameIndex := 17, descriptorIndex := 18, attributes := #[] }, { accessFlags := 2, nameIndex := 21, descriptorIndex := 22, attributes := #[] }, { accessFlags := 2, nameIndex := 25, descriptorIndex := 26, attributes := #[] }, { accessFlags := 26, nameIndex := 1116, descriptorIndex := 1117, attributes := #[] }, { accessFlags := 24, nameIndex := 40, descriptorIndex := 26, attributes := #[] }, { accessFlags := 26, nameIndex := 1101, descriptorIndex := 1102, attributes := #[] }, { accessFlags := 26, nameIndex := 1121, descriptorIndex := 1122, attributes := #[] }, { accessFlags := 25, nameIndex := 599, descriptorIndex := 600, attributes := #[] }, { accessFlags := 24, nameIndex := 1125, descriptorIndex := 18, attributes := #[] }, { accessFlags := 24, nameIndex := 1127, descriptorIndex := 18, attributes := #[] }])
  fields := #[{ name := "value", type := (.array .byte), accessFlags := 18, slot := 0, constantValue := 0 }, { name := "coder", type := .byte, accessFlags := 18, slot := 1, constantValue := 0 }, { name := "hash", type := .int, accessFlags := 2, slot := 2, constantValue := 0 }, { name := "hashIsZero", type := .boolean, accessFlags := 2, slot := 3, constantValue := 0 }, { name := "serialVersionUID", type := .long, accessFlags := 26, slot := 0, constantValue := 0 }, { name := "COMPACT_STRINGS", type := .boolean, accessFlags := 24, slot := 1, constantValue := 0 }, { name := "serialPersistentFields", type := (.array (.object "java/io/ObjectStreamField")), accessFlags := 26, slot := 2, constantValue := 0 }, { name := "REPL", type := .char, accessFlags := 26, slot := 3, constantValue := 0 }, { name := "CASE_INSENSITIVE_ORDER", type := (.object "java/util/Comparator"), accessFlags := 25, slot := 4, constantValue := 0 }, { name := "LATIN1", type := .byte, accessFlags := 24, slot := 5, constantValue := 0 }, { name := "UTF16", type := .byte, accessFlags := 24, slot := 6, constantValue := 0 }]
  methods := #[k7m0, k7m1, k7m2, k7m3, k7m4, k7m5, k7m6, k7m7]
  instanceTypes := #[(.array .byte), .byte, .int, .boolean]
  staticTypes := #[.long, .boolean, (.array (.object "java/io/ObjectStreamField")), .char, (.object "java/util/Comparator"), .byte, .byte]
  resolved := Array.replicate 1451 none
  statics := some 0 }

def pool8 : Array CpInfo := pool [(2, .class_ 4), (1, u "java/lang/Object"), (0, u "<init>"), (0, u "()V"), (0, .string 8), (0, u "pattern"), (0, .methodref 10 11), (0, .class_ 12), (0, .nameAndType 13 14), (0, u "java/util/Objects"), (0, u "requireNonNull"), (0, u "(Ljava/lang/Object;Ljava/lang/String;)Ljava/lang/Object;"), (0, .interfaceMethodref 16 17), (0, .class_ 18), (0, .nameAndType 19 20), (0, u "java/lang/CharSequence"), (0, u "length"), (0, u "()I"), (0, .methodref 10 22), (0, .nameAndType 13 23), (0, u "(Ljava/lang/Object;)Ljava/lang/Object;"), (0, .invokeDynamic 0 25), (0, .nameAndType 26 27), (0, u "applyAsInt"), (0, u "(Ljava/lang/CharSequence;)Ljava/util/function/IntUnaryOperator;"), (0, .methodref 29 30), (0, .class_ 31), (0, .nameAndType 32 33), (0, u "com/example/needlework/needlework/match/PrefixTable"), (0, u "of"), (0, u "(ILjava/util/function/IntUnaryOperator;)[I"), (3, .interfaceMethodref 38 39), (0, .class_ 40), (0, .nameAndType 26 41), (0, u "java/util/function/IntUnaryOperator"), (0, u "(I)I"), (2, u "(Ljava/lang/CharSequence;)[I"), (9, .methodType 41), (0, .methodHandle 9 56), (0, .interfaceMethodref 16 57), (0, .nameAndType 58 59), (0, u "charAt"), (0, u "(I)C"), (3, .methodHandle 6 64), (0, .methodref 65 66), (0, .class_ 67), (0, .nameAndType 68 69), (0, u "java/lang/invoke/LambdaMetafactory"), (0, u "metafactory"), (0, u "(Ljava/lang/invoke/MethodHandles$Lookup;Ljava/lang/String;Ljava/lang/invoke/MethodType;Ljava/lang/invoke/MethodType;Ljava/lang/invoke/MethodHandle;Ljava/lang/invoke/MethodType;)Ljava/lang/invoke/CallSite;")] 6

def k8m0 : Method := { name := "<init>", desc := "()V", sig := { parameters := [], returnType := none }, accessFlags := 2, code := none }
def k8c1 : Code := { maxStack := 3, maxLocals := 1, code := prog_15_method_2_code, exceptionTable := #[], attributes := #[] }
def k8m1 : Method := { name := "of", desc := "(Ljava/lang/CharSequence;)[I", sig := { parameters := [(.object "java/lang/CharSequence")], returnType := some (.array .int) }, accessFlags := 9, code := some k8c1 }
def k8c2 : Code := { maxStack := 3, maxLocals := 6, code := prog_15_method_4_code, exceptionTable := #[], attributes := #[] }
def k8m2 : Method := { name := "of", desc := "(ILjava/util/function/IntUnaryOperator;)[I", sig := { parameters := [.int, (.object "java/util/function/IntUnaryOperator")], returnType := some (.array .int) }, accessFlags := 10, code := some k8c2 }
/-- com/example/needlework/needlework/match/PrefixTable -/
def k8 : Class := { plain "com/example/needlework/needlework/match/PrefixTable" (some 0) with
  accessFlags := 49
  interfaces := #[]
  cf := some (fileOf pool8 29 #[.bootstrapMethods #[⟨63, #[54, 55, 54]⟩, ⟨0, #[]⟩]] #[{ accessFlags := 2, nameIndex := 5, descriptorIndex := 6, attributes := #[] }, { accessFlags := 9, nameIndex := 32, descriptorIndex := 44, attributes := #[] }, { accessFlags := 10, nameIndex := 32, descriptorIndex := 33, attributes := #[] }] 49 2 #[] #[])
  fields := #[]
  methods := #[k8m0, k8m1, k8m2]
  instanceTypes := #[]
  staticTypes := #[]
  resolved := Array.replicate 76 none
  callSites := [(1, 19, .makes 22)]
  statics := none }

def pool9 : Array CpInfo := pool [(2, .class_ 4), (1, u "java/lang/Object"), (0, u "<init>"), (0, u "()V"), (35, .class_ 44), (1, u "java/util/Objects"), (0, u "requireNonNull"), (0, u "(Ljava/lang/Object;)Ljava/lang/Object;"), (47, u "(Ljava/lang/Object;Ljava/lang/String;)Ljava/lang/Object;")] 89

def k9m0 : Method := { name := "<init>", desc := "()V", sig := { parameters := [], returnType := none }, accessFlags := 2, code := none }
def k9c1 : Code := { maxStack := 2, maxLocals := 1, code := jdk_31_method_10_code, exceptionTable := #[], attributes := #[] }
def k9m1 : Method := { name := "requireNonNull", desc := "(Ljava/lang/Object;)Ljava/lang/Object;", sig := { parameters := [(.object "java/lang/Object")], returnType := some (.object "java/lang/Object") }, accessFlags := 9, code := some k9c1 }
def k9c2 : Code := { maxStack := 3, maxLocals := 2, code := jdk_31_method_11_code, exceptionTable := #[], attributes := #[] }
def k9m2 : Method := { name := "requireNonNull", desc := "(Ljava/lang/Object;Ljava/lang/String;)Ljava/lang/Object;", sig := { parameters := [(.object "java/lang/Object"), (.object "java/lang/String")], returnType := some (.object "java/lang/Object") }, accessFlags := 9, code := some k9c2 }
/-- java/util/Objects -/
def k9 : Class := { plain "java/util/Objects" (some 0) with
  accessFlags := 49
  interfaces := #[]
  cf := some (fileOf pool9 42 #[] #[{ accessFlags := 2, nameIndex := 5, descriptorIndex := 6, attributes := #[] }, { accessFlags := 9, nameIndex := 45, descriptorIndex := 46, attributes := #[] }, { accessFlags := 9, nameIndex := 45, descriptorIndex := 94, attributes := #[] }] 49 2 #[] #[])
  fields := #[]
  methods := #[k9m0, k9m1, k9m2]
  instanceTypes := #[]
  staticTypes := #[]
  resolved := Array.replicate 184 none
  statics := none }

def pool10 : Array CpInfo := pool [(9, u "applyAsInt"), (6, .class_ 18), (1, u "java/util/function/IntUnaryOperator"), (0, u "(I)I"), (0, .class_ 21), (0, u "java/lang/Object")] 46

def k10m0 : Method := { name := "applyAsInt", desc := "(I)I", sig := { parameters := [.int], returnType := some .int }, accessFlags := 1025, code := none }
/-- java/util/function/IntUnaryOperator -/
def k10 : Class := { plain "java/util/function/IntUnaryOperator" (some 0) with
  accessFlags := 1537
  interfaces := #[]
  cf := some (fileOf pool10 16 #[] #[{ accessFlags := 1025, nameIndex := 9, descriptorIndex := 19, attributes := #[] }] 1537 20 #[] #[])
  fields := #[]
  methods := #[k10m0]
  instanceTypes := #[]
  staticTypes := #[]
  resolved := Array.replicate 68 none
  statics := none }

def pool11 : Array CpInfo := pool [(3, .class_ 4), (0, u "java/lang/String"), (1, .class_ 8), (1, u "java/lang/Object"), (0, u "<init>"), (0, u "()V"), (0, .methodref 12 13), (0, .class_ 14), (0, .nameAndType 15 16), (0, u "java/lang/StringUTF16"), (0, u "newBytesLength"), (0, u "(I)I"), (3, .integer 1073741823), (23, .fieldref 12 45), (0, .nameAndType 46 47), (0, u "$assertionsDisabled"), (0, u "Z"), (0, .methodref 12 49), (0, .nameAndType 50 51), (0, u "length"), (0, u "([B)I"), (7, .fieldref 12 60), (0, .nameAndType 61 62), (0, u "HI_BYTE_SHIFT"), (0, u "I"), (0, .fieldref 12 64), (0, .nameAndType 65 62), (0, u "LO_BYTE_SHIFT"), (1, .methodref 12 68), (0, .nameAndType 69 70), (0, u "checkIndex"), (0, u "(I[B)V"), (0, .methodref 12 72), (0, .nameAndType 73 74), (0, u "getChar"), (0, u "([BI)C"), (32, .methodref 12 108), (0, .nameAndType 109 110), (0, u "newBytesFor"), (0, u "(I)[B"), (0, .methodref 12 112), (0, .nameAndType 113 114), (0, u "putChar"), (0, u "([BII)V"), (0, .methodref 12 116), (0, .nameAndType 117 118), (0, u "compress"), (0, u "([CI[BII)I"), (0, .methodref 12 120), (0, .nameAndType 121 122), (0, u "toBytes"), (0, u "([CII)[B"), (138, u "coderFromArrayLen"), (0, u "([BI)B"), (106, .class_ 371), (1, u "java/lang/StringUTF16$LinesSpliterator"), (20, u "charAt"), (21, .methodref 3 415), (0, .nameAndType 69 416), (0, u "(II)V"), (13, u "MAX_LENGTH"), (196, .class_ 628), (0, u "java/lang/StringUTF16$CodePointsSpliterator"), (0, .class_ 630), (0, u "java/lang/StringUTF16$CharsSpliterator")] 4

def k11m0 : Method := { name := "<init>", desc := "()V", sig := { parameters := [], returnType := none }, accessFlags := 0, code := none }
def k11c1 : Code := { maxStack := 1, maxLocals := 1, code := jdk_52_method_2_code, exceptionTable := #[], attributes := #[] }
def k11m1 : Method := { name := "newBytesFor", desc := "(I)[B", sig := { parameters := [.int], returnType := some (.array .byte) }, accessFlags := 9, code := some k11c1 }
def k11c2 : Code := { maxStack := 4, maxLocals := 1, code := jdk_52_method_3_code, exceptionTable := #[], attributes := #[] }
def k11m2 : Method := { name := "newBytesLength", desc := "(I)I", sig := { parameters := [.int], returnType := some .int }, accessFlags := 9, code := some k11c2 }
def k11c3 : Code := { maxStack := 4, maxLocals := 3, code := jdk_52_method_4_code, exceptionTable := #[], attributes := #[] }
def k11m3 : Method := { name := "putChar", desc := "([BII)V", sig := { parameters := [(.array .byte), .int, .int], returnType := none }, accessFlags := 8, code := some k11c3 }
def k11c4 : Code := { maxStack := 3, maxLocals := 2, code := jdk_52_method_5_code, exceptionTable := #[], attributes := #[] }
def k11m4 : Method := { name := "getChar", desc := "([BI)C", sig := { parameters := [(.array .byte), .int], returnType := some .char }, accessFlags := 8, code := some k11c4 }
def k11c5 : Code := { maxStack := 2, maxLocals := 1, code := jdk_52_method_6_code, exceptionTable := #[], attributes := #[] }
def k11m5 : Method := { name := "length", desc := "([B)I", sig := { parameters := [(.array .byte)], returnType := some .int }, accessFlags := 9, code := some k11c5 }
def k11c6 : Code := { maxStack := 4, maxLocals := 5, code := jdk_52_method_14_code, exceptionTable := #[], attributes := #[] }
def k11m6 : Method := { name := "toBytes", desc := "([CII)[B", sig := { parameters := [(.array .char), .int, .int], returnType := some (.array .byte) }, accessFlags := 9, code := some k11c6 }
def k11c7 : Code := { maxStack := 2, maxLocals := 2, code := jdk_52_method_15_code, exceptionTable := #[], attributes := #[] }
def k11m7 : Method := { name := "coderFromArrayLen", desc := "([BI)B", sig := { parameters := [(.array .byte), .int], returnType := some .byte }, accessFlags := 8, code := some k11c7 }
def k11c8 : Code := { maxStack := 5, maxLocals := 6, code := jdk_52_method_16_code, exceptionTable := #[], attributes := #[] }
def k11m8 : Method := { name := "compress", desc := "([CII)[B", sig := { parameters := [(.array .char), .int, .int], returnType := some (.array .byte) }, accessFlags := 9, code := some k11c8 }
def k11c9 : Code := { maxStack := 3, maxLocals := 7, code := jdk_52_method_21_code, exceptionTable := #[], attributes := #[] }
def k11m9 : Method := { name := "compress", desc := "([CI[BII)I", sig := { parameters := [(.array .char), .int, (.array .byte), .int, .int], returnType := some .int }, accessFlags := 9, code := some k11c9 }
def k11c10 : Code := { maxStack := 2, maxLocals := 2, code := jdk_52_method_83_code, exceptionTable := #[], attributes := #[] }
def k11m10 : Method := { name := "charAt", desc := "([BI)C", sig := { parameters := [(.array .byte), .int], returnType := some .char }, accessFlags := 9, code := some k11c10 }
def k11c11 : Code := { maxStack := 2, maxLocals := 2, code := jdk_52_method_91_code, exceptionTable := #[], attributes := #[] }
def k11m11 : Method := { name := "checkIndex", desc := "(I[B)V", sig := { parameters := [.int, (.array .byte)], returnType := none }, accessFlags := 9, code := some k11c11 }
/-- java/lang/StringUTF16 -/
def k11 : Class := { plain "java/lang/StringUTF16" (some 0) with
  accessFlags := 48
  interfaces := #[]
  cf := some (fileOf pool11 12 #[.nestMembers #[627, 629, 369]] #[{ accessFlags := 0, nameIndex := 9, descriptorIndex := 10, attributes := #[] }, { accessFlags := 9, nameIndex := 109, descriptorIndex := 110, attributes := #[] }, { accessFlags := 9, nameIndex := 15, descriptorIndex := 16, attributes := #[] }, { accessFlags := 8, nameIndex := 113, descriptorIndex := 114, attributes := #[] }, { accessFlags := 8, nameIndex := 73, descriptorIndex := 74, attributes := #[] }, { accessFlags := 9, nameIndex := 50, descriptorIndex := 51, attributes := #[] }, { accessFlags := 9, nameIndex := 121, descriptorIndex := 122, attributes := #[] }, { accessFlags := 8, nameIndex := 261, descriptorIndex := 262, attributes := #[] }, { accessFlags := 9, nameIndex := 117, descriptorIndex := 122, attributes := #[] }, { accessFlags := 9, nameIndex := 117, descriptorIndex := 118, attributes := #[] }, { accessFlags := 9, nameIndex := 392, descriptorIndex := 74, attributes := #[] }, { accessFlags := 9, nameIndex := 69, descriptorIndex := 70, attributes := #[] }] 48 6 #[] #[{ accessFlags := 26, nameIndex := 61, descriptorIndex := 62, attributes := #[] }, { accessFlags := 26, nameIndex := 65, descriptorIndex := 62, attributes := #[] }, { accessFlags := 24, nameIndex := 430, descriptorIndex := 62, attributes := #[] }, { accessFlags := 4120, nameIndex := 46, descriptorIndex := 47, attributes := #[] }])
  fields := #[{ name := "HI_BYTE_SHIFT", type := .int, accessFlags := 26, slot := 0, constantValue := 0 }, { name := "LO_BYTE_SHIFT", type := .int, accessFlags := 26, slot := 1, constantValue := 0 }, { name := "MAX_LENGTH", type := .int, accessFlags := 24, slot := 2, constantValue := 0 }, { name := "$assertionsDisabled", type := .boolean, accessFlags := 4120, slot := 3, constantValue := 0 }]
  methods := #[k11m0, k11m1, k11m2, k11m3, k11m4, k11m5, k11m6, k11m7, k11m8, k11m9, k11m10, k11m11]
  instanceTypes := #[]
  staticTypes := #[.int, .int, .int, .boolean]
  resolved := Array.replicate 635 none
  statics := some 1 }

def pool12 : Array CpInfo := pool [(1, .class_ 2), (0, u "java/lang/String"), (1, .class_ 6), (1, u "java/lang/Object"), (0, u "<init>"), (0, u "()V"), (0, .methodref 1 10), (0, .nameAndType 11 12), (0, u "checkIndex"), (0, u "(II)V"), (1, .class_ 16), (1, u "java/lang/StringLatin1"), (36, u "([BI)C"), (67, u "$assertionsDisabled"), (0, u "Z"), (98, .class_ 223), (1, u "java/lang/StringLatin1$LinesSpliterator"), (28, u "charAt"), (137, .class_ 391), (0, u "java/lang/StringLatin1$CharsSpliterator")] 3

def k12m0 : Method := { name := "<init>", desc := "()V", sig := { parameters := [], returnType := none }, accessFlags := 0, code := none }
def k12c1 : Code := { maxStack := 2, maxLocals := 2, code := jdk_43_method_2_code, exceptionTable := #[], attributes := #[] }
def k12m1 : Method := { name := "charAt", desc := "([BI)C", sig := { parameters := [(.array .byte), .int], returnType := some .char }, accessFlags := 9, code := some k12c1 }
/-- java/lang/StringLatin1 -/
def k12 : Class := { plain "java/lang/StringLatin1" (some 0) with
  accessFlags := 48
  interfaces := #[]
  cf := some (fileOf pool12 14 #[.nestMembers #[390, 221]] #[{ accessFlags := 0, nameIndex := 7, descriptorIndex := 8, attributes := #[] }, { accessFlags := 9, nameIndex := 252, descriptorIndex := 53, attributes := #[] }] 48 4 #[] #[{ accessFlags := 4120, nameIndex := 121, descriptorIndex := 122, attributes := #[] }])
  fields := #[{ name := "$assertionsDisabled", type := .boolean, accessFlags := 4120, slot := 0, constantValue := 0 }]
  methods := #[k12m0, k12m1]
  instanceTypes := #[]
  staticTypes := #[.boolean]
  resolved := Array.replicate 395 none
  statics := none }

def pool13 : Array CpInfo := pool [(2, .class_ 4), (1, u "java/lang/Object"), (0, u "<init>"), (0, u "()V"), (17, .class_ 26), (1, u "jdk/internal/util/Preconditions"), (6, u "checkIndex"), (21, .class_ 56), (0, u "jdk/internal/util/Preconditions$4"), (57, .class_ 115), (0, u "jdk/internal/util/Preconditions$1"), (7, u "SIOOBE_FORMATTER"), (0, u "Ljava/util/function/BiFunction;"), (0, .class_ 126), (0, u "jdk/internal/util/Preconditions$2"), (3, u "AIOOBE_FORMATTER"), (0, .class_ 132), (0, u "jdk/internal/util/Preconditions$3"), (3, u "IOOBE_FORMATTER"), (41, u "(IILjava/util/function/BiFunction;)I")] 15

def k13m0 : Method := { name := "<init>", desc := "()V", sig := { parameters := [], returnType := none }, accessFlags := 1, code := none }
def k13c1 : Code := { maxStack := 3, maxLocals := 3, code := jdk_41_method_11_code, exceptionTable := #[], attributes := #[] }
def k13m1 : Method := { name := "checkIndex", desc := "(IILjava/util/function/BiFunction;)I", sig := { parameters := [.int, .int, (.object "java/util/function/BiFunction")], returnType := some .int }, accessFlags := 9, code := some k13c1 }
/-- jdk/internal/util/Preconditions -/
def k13 : Class := { plain "jdk/internal/util/Preconditions" (some 0) with
  accessFlags := 33
  interfaces := #[]
  cf := some (fileOf pool13 24 #[.nestMembers #[55, 131, 125, 114]] #[{ accessFlags := 1, nameIndex := 5, descriptorIndex := 6, attributes := #[] }, { accessFlags := 9, nameIndex := 33, descriptorIndex := 178, attributes := #[] }] 33 2 #[] #[{ accessFlags := 25, nameIndex := 123, descriptorIndex := 124, attributes := #[] }, { accessFlags := 25, nameIndex := 130, descriptorIndex := 124, attributes := #[] }, { accessFlags := 25, nameIndex := 136, descriptorIndex := 124, attributes := #[] }])
  fields := #[{ name := "SIOOBE_FORMATTER", type := (.object "java/util/function/BiFunction"), accessFlags := 25, slot := 0, constantValue := 0 }, { name := "AIOOBE_FORMATTER", type := (.object "java/util/function/BiFunction"), accessFlags := 25, slot := 1, constantValue := 0 }, { name := "IOOBE_FORMATTER", type := (.object "java/util/function/BiFunction"), accessFlags := 25, slot := 2, constantValue := 0 }]
  methods := #[k13m0, k13m1]
  instanceTypes := #[]
  staticTypes := #[(.object "java/util/function/BiFunction"), (.object "java/util/function/BiFunction"), (.object "java/util/function/BiFunction")]
  resolved := Array.replicate 194 none
  statics := some 2 }

def pool14 : Array CpInfo := pool [(9, u "<init>"), (6, .class_ 18), (1, u "java/lang/Object"), (0, u "()V"), (1, .class_ 23), (1, u "jdk/internal/util/ArraysSupport"), (0, u "LOG2_ARRAY_LONG_INDEX_SCALE"), (0, u "I"), (2, u "U"), (0, u "Ljdk/internal/misc/Unsafe;"), (8, u "BIG_ENDIAN"), (0, u "Z"), (8, u "LOG2_BYTE_BIT_SIZE"), (4, u "LOG2_ARRAY_INT_INDEX_SCALE"), (54, u "JLA"), (0, u "Ljdk/internal/access/JavaLangAccess;"), (11, u "LOG2_ARRAY_BOOLEAN_INDEX_SCALE"), (9, u "LOG2_ARRAY_BYTE_INDEX_SCALE"), (5, u "LOG2_ARRAY_CHAR_INDEX_SCALE"), (5, u "LOG2_ARRAY_SHORT_INDEX_SCALE"), (18, u "LOG2_ARRAY_FLOAT_INDEX_SCALE"), (24, u "LOG2_ARRAY_DOUBLE_INDEX_SCALE"), (89, u "T_BOOLEAN"), (2, u "T_CHAR"), (1, u "T_FLOAT"), (1, u "T_DOUBLE"), (1, u "T_BYTE"), (1, u "T_SHORT"), (1, u "T_INT"), (1, u "T_LONG"), (1, u "SOFT_MAX_ARRAY_LENGTH")] 83

def k14m0 : Method := { name := "<init>", desc := "()V", sig := { parameters := [], returnType := none }, accessFlags := 2, code := none }
/-- jdk/internal/util/ArraysSupport -/
def k14 : Class := { plain "jdk/internal/util/ArraysSupport" (some 0) with
  accessFlags := 33
  interfaces := #[]
  cf := some (fileOf pool14 21 #[] #[{ accessFlags := 2, nameIndex := 9, descriptorIndex := 19, attributes := #[] }] 33 16 #[] #[{ accessFlags := 24, nameIndex := 28, descriptorIndex := 29, attributes := #[] }, { accessFlags := 26, nameIndex := 38, descriptorIndex := 39, attributes := #[] }, { accessFlags := 25, nameIndex := 121, descriptorIndex := 25, attributes := #[] }, { accessFlags := 25, nameIndex := 131, descriptorIndex := 25, attributes := #[] }, { accessFlags := 25, nameIndex := 137, descriptorIndex := 25, attributes := #[] }, { accessFlags := 25, nameIndex := 143, descriptorIndex := 25, attributes := #[] }, { accessFlags := 25, nameIndex := 53, descriptorIndex := 25, attributes := #[] }, { accessFlags := 25, nameIndex := 24, descriptorIndex := 25, attributes := #[] }, { accessFlags := 25, nameIndex := 162, descriptorIndex := 25, attributes := #[] }, { accessFlags := 25, nameIndex := 187, descriptorIndex := 25, attributes := #[] }, { accessFlags := 26, nameIndex := 48, descriptorIndex := 25, attributes := #[] }, { accessFlags := 25, nameIndex := 277, descriptorIndex := 25, attributes := #[] }, { accessFlags := 25, nameIndex := 280, descriptorIndex := 25, attributes := #[] }, { accessFlags := 25, nameIndex := 282, descriptorIndex := 25, attributes := #[] }, { accessFlags := 25, nameIndex := 284, descriptorIndex := 25, attributes := #[] }, { accessFlags := 25, nameIndex := 286, descriptorIndex := 25, attributes := #[] }, { accessFlags := 25, nameIndex := 288, descriptorIndex := 25, attributes := #[] }, { accessFlags := 25, nameIndex := 290, descriptorIndex := 25, attributes := #[] }, { accessFlags := 25, nameIndex := 292, descriptorIndex := 25, attributes := #[] }, { accessFlags := 26, nameIndex := 108, descriptorIndex := 109, attributes := #[] }, { accessFlags := 25, nameIndex := 294, descriptorIndex := 25, attributes := #[] }])
  fields := #[{ name := "U", type := (.object "jdk/internal/misc/Unsafe"), accessFlags := 24, slot := 0, constantValue := 0 }, { name := "BIG_ENDIAN", type := .boolean, accessFlags := 26, slot := 1, constantValue := 0 }, { name := "LOG2_ARRAY_BOOLEAN_INDEX_SCALE", type := .int, accessFlags := 25, slot := 2, constantValue := 0 }, { name := "LOG2_ARRAY_BYTE_INDEX_SCALE", type := .int, accessFlags := 25, slot := 3, constantValue := 0 }, { name := "LOG2_ARRAY_CHAR_INDEX_SCALE", type := .int, accessFlags := 25, slot := 4, constantValue := 0 }, { name := "LOG2_ARRAY_SHORT_INDEX_SCALE", type := .int, accessFlags := 25, slot := 5, constantValue := 0 }, { name := "LOG2_ARRAY_INT_INDEX_SCALE", type := .int, accessFlags := 25, slot := 6, constantValue := 0 }, { name := "LOG2_ARRAY_LONG_INDEX_SCALE", type := .int, accessFlags := 25, slot := 7, constantValue := 0 }, { name := "LOG2_ARRAY_FLOAT_INDEX_SCALE", type := .int, accessFlags := 25, slot := 8, constantValue := 0 }, { name := "LOG2_ARRAY_DOUBLE_INDEX_SCALE", type := .int, accessFlags := 25, slot := 9, constantValue := 0 }, { name := "LOG2_BYTE_BIT_SIZE", type := .int, accessFlags := 26, slot := 10, constantValue := 0 }, { name := "T_BOOLEAN", type := .int, accessFlags := 25, slot := 11, constantValue := 0 }, { name := "T_CHAR", type := .int, accessFlags := 25, slot := 12, constantValue := 0 }, { name := "T_FLOAT", type := .int, accessFlags := 25, slot := 13, constantValue := 0 }, { name := "T_DOUBLE", type := .int, accessFlags := 25, slot := 14, constantValue := 0 }, { name := "T_BYTE", type := .int, accessFlags := 25, slot := 15, constantValue := 0 }, { name := "T_SHORT", type := .int, accessFlags := 25, slot := 16, constantValue := 0 }, { name := "T_INT", type := .int, accessFlags := 25, slot := 17, constantValue := 0 }, { name := "T_LONG", type := .int, accessFlags := 25, slot := 18, constantValue := 0 }, { name := "JLA", type := (.object "jdk/internal/access/JavaLangAccess"), accessFlags := 26, slot := 19, constantValue := 0 }, { name := "SOFT_MAX_ARRAY_LENGTH", type := .int, accessFlags := 25, slot := 20, constantValue := 0 }]
  methods := #[k14m0]
  instanceTypes := #[]
  staticTypes := #[(.object "jdk/internal/misc/Unsafe"), .boolean, .int, .int, .int, .int, .int, .int, .int, .int, .int, .int, .int, .int, .int, .int, .int, .int, .int, (.object "jdk/internal/access/JavaLangAccess"), .int]
  resolved := Array.replicate 378 none
  statics := none }

def pool15 : Array CpInfo := pool [(1, u "java/lang/Cloneable"), (0, .class_ 1), (0, u "java/lang/Object"), (0, .class_ 3)] 3

/-- java/lang/Cloneable -/
def k15 : Class := { plain "java/lang/Cloneable" (some 0) with
  accessFlags := 1537
  interfaces := #[]
  cf := some (fileOf pool15 2 #[] #[] 1537 4 #[] #[])
  fields := #[]
  methods := #[]
  instanceTypes := #[]
  staticTypes := #[]
  resolved := Array.replicate 8 none
  statics := none }

/-- the primitive byte -/
def k16 : Class := { plain "byte" none with kind := .primitive 'B', accessFlags := 0x411 }
/-- [B -/
def k17 : Class := { plain "[B" (some 0) with kind := .array 16 .byte, interfaces := #[15, 2], accessFlags := 1041 }

/-- the primitive char -/
def k18 : Class := { plain "char" none with kind := .primitive 'C', accessFlags := 0x411 }
/-- [C -/
def k19 : Class := { plain "[C" (some 0) with kind := .array 18 .char, interfaces := #[15, 2], accessFlags := 1041 }

/-- the primitive int -/
def k20 : Class := { plain "int" none with kind := .primitive 'I', accessFlags := 0x411 }
/-- [I -/
def k21 : Class := { plain "[I" (some 0) with kind := .array 20 .int, interfaces := #[15, 2], accessFlags := 1041 }

def classes0 : Array Class := #[k0, k1, k2, k3, k4, k5, k6, k7, k8, k9, k10, k11, k12, k13, k14, k15, k16, k17, k18, k19, k20, k21]
/-- the class that the rule has made for the site at 19 of com/example/needlework/needlework/match/PrefixTable.of -/
def k22 : Class := Jvm.LamKit.madeRec { classes := classes0 } "com/example/needlework/needlework/match/PrefixTable" (Jvm.Lambda.Shape.mk "java/util/function/IntUnaryOperator" "applyAsInt" (Jvm.ClassFile.MethodDescriptor.mk ([Jvm.ClassFile.FieldType.int] : List Jvm.ClassFile.FieldType) (Option.some Jvm.ClassFile.FieldType.int)) ([(Jvm.ClassFile.FieldType.object "java/lang/CharSequence")] : List Jvm.ClassFile.FieldType) (9 : Nat) "java/lang/CharSequence" "charAt" (Jvm.ClassFile.MethodDescriptor.mk ([Jvm.ClassFile.FieldType.int] : List Jvm.ClassFile.FieldType) (Option.some Jvm.ClassFile.FieldType.char)) true (Jvm.ClassFile.MethodDescriptor.mk ([Jvm.ClassFile.FieldType.int] : List Jvm.ClassFile.FieldType) (Option.some Jvm.ClassFile.FieldType.int))) 22

def heap : Heap := #[{ cls := 7, slots := #[.long 0, .int 1, .null, .int 0, .null, .int 0, .int 0], vm := .statics 7 },
  { cls := 11, slots := #[.int 0, .int 8, .int 0, .int 1], vm := .statics 11 },
  { cls := 13, slots := #[.null, .null, .null], vm := .statics 13 }]
def classes : Array Class := #[k0, k1, k2, k3, k4, k5, k6, k7, k8, k9, k10, k11, k12, k13, k14, k15, k16, k17, k18, k19, k20, k21, k22]
def interned : List (Array UInt16 × Addr) := []
def slotsUsed : Nat := 14
def theMethod : MethodId := ⟨1, 1⟩
def args0 : Array Value := #[.int 5, .int 27, .int 97, .int 98, .int 300, .int 97]
def aboutOver (below : List Frame) : State where
  vm := { classes := classes, interned := interned.toArray }
  heap := heap
  slotsUsed := slotsUsed
  threads := #[{ frames := .invoking theMethod args0 :: below }]
def below0 : List Frame := [.native { method := ⟨0, 0⟩, args := #[] }]
def about1 : State := aboutOver below0
def p0 : Program := .bare "" "" ""
def e0 : Env := launch0.env 0 0 0
theorem w_frames : about1.frames = Frame.invoking theMethod args0 :: below0 := rfl
set_option maxRecDepth 65536 in
theorem w_args : argsFit about1.vm theMethod args0 = true := by decide +kernel
set_option maxRecDepth 65536 in
theorem w_heap : heapFits about1 = true := by decide +kernel
set_option maxRecDepth 65536 in
theorem w_runnable : about1.curStatus? = some .runnable := by decide +kernel
set_option maxRecDepth 65536 in
theorem w_alone : about1.alone = true := by decide +kernel
set_option maxRecDepth 65536 in
theorem w_named : about1.methodNamed? x = some theMethod := by decide +kernel
set_option maxRecDepth 65536 in
theorem w_hears : about1.hears theMethod below0 = true := by decide +kernel
set_option maxRecDepth 65536 in
theorem w_ripe : about1.ripe theMethod args0 below0 = true := by decide +kernel
theorem w_running : about1.status = .running := rfl
set_option maxRecDepth 65536 in
theorem w_room : about1.hasRoom e0.platform room_1 = true :=
  launch0.hasRoom_least _ room_1 (by decide +kernel) (by decide +kernel) (by decide +kernel) (by decide +kernel) (by decide +kernel) (by decide +kernel)
theorem allAtoms_all (ts : List Jvm.Cond) (a : Array Jvm.Value) (st : Jvm.State) : (allAtoms ts).before a st = ts.all (fun c => c.before a st) := by
  induction ts with
  | nil => rfl
  | cons c t ih =>
    show (Jvm.Cond.and c (allAtoms t)).before a st = _
    rw [Jvm.Cond.before_and, ih, List.all_cons]
def words1 : List Jvm.Cond := Jvm.Cond.code x code maxLocals ret :: tables_1
/-- a 'code' word, met by the world's own term for the bytes: nothing is compared byte by byte -/
theorem code_word {y : MethodName} {bytes : ByteArray} {mx : Nat} {rt : Option FieldType} {a : Array Value} {s : State} {m : MethodId} {meth : Method} {c : Code} (h1 : s.methodNamed? y = some m) (h2 : s.vm.method? m = some meth) (h3 : meth.code = some c) (h4 : c.code = bytes)
    (h5 : (c.maxLocals == mx && c.exceptionTable.isEmpty && decide (c.maxStack ≤ mostOperands) && decide (meth.sig.returnType = rt) && !meth.locks && decide (parseMethodDescriptor y.desc = some meth.sig)) = true) : (Jvm.Cond.code y bytes mx rt).before a s = true := by
  simp only [Bool.and_eq_true, beq_iff_eq, Bool.not_eq_true', decide_eq_true_eq] at h5
  obtain ⟨⟨⟨⟨⟨g1, g2⟩, g3⟩, g4⟩, g5⟩, g6⟩ := h5
  simp [Cond.before, Cond.holds, Cond.value, h1, h2, h3, h4, g1, g2, g3, g4, g5, g6]
def isCode : Jvm.Cond → Bool
  | .code _ _ _ _ => true
  | _ => false
theorem all_split {L : List Jvm.Cond} {P : Jvm.Cond → Bool} (h1 : L.all (fun c => isCode c || P c) = true) (h2 : ∀ c ∈ L.filter isCode, P c = true) : L.all P = true := by
  refine List.all_eq_true.mpr fun c hc => ?_
  have h := List.all_eq_true.mp h1 c hc
  rcases Bool.eq_false_or_eq_true (isCode c) with hi | hi
  · exact h2 c (List.mem_filter.mpr ⟨hc, hi⟩)
  · simpa [hi] using h
set_option maxRecDepth 65536 in
theorem w_c0 : (Jvm.Cond.code x code maxLocals ret).before args0 about1 = true := code_word (m := ⟨1, 1⟩) (meth := k1m1) (c := k1c1) (by decide +kernel) rfl rfl rfl (by decide +kernel)
set_option maxRecDepth 65536 in
theorem w_c1 : (Jvm.Cond.code ({ cls := "com/example/needlework/needlework/match/PrefixTableOfPinLaw", name := "make", desc := "([CI)Ljava/lang/String;" } : Jvm.MethodName) method_3_code (2 : Nat) (Option.some (Jvm.ClassFile.FieldType.object "java/lang/String"))).before args0 about1 = true := code_word (m := ⟨1, 2⟩) (meth := k1m2) (c := k1c2) (by decide +kernel) rfl rfl rfl (by decide +kernel)
set_option maxRecDepth 65536 in
theorem w_c2 : (Jvm.Cond.code ({ cls := "java/lang/String", name := "<init>", desc := "([C)V" } : Jvm.MethodName) jdk_42_method_3_code (2 : Nat) (Option.none : Option Jvm.ClassFile.FieldType)).before args0 about1 = true := code_word (m := ⟨7, 1⟩) (meth := k7m1) (c := k7c1) (by decide +kernel) rfl rfl rfl (by decide +kernel)
set_option maxRecDepth 65536 in
theorem w_c3 : (Jvm.Cond.code ({ cls := "java/lang/String", name := "<init>", desc := "([CIILjava/lang/Void;)V" } : Jvm.MethodName) jdk_42_method_149_code (6 : Nat) (Option.none : Option Jvm.ClassFile.FieldType)).before args0 about1 = true := code_word (m := ⟨7, 4⟩) (meth := k7m4) (c := k7c4) (by decide +kernel) rfl rfl rfl (by decide +kernel)
set_option maxRecDepth 65536 in
theorem w_c4 : (Jvm.Cond.code ({ cls := "java/lang/Object", name := "<init>", desc := "()V" } : Jvm.MethodName) object_method_1_code (1 : Nat) (Option.none : Option Jvm.ClassFile.FieldType)).before args0 about1 = true := code_word (m := ⟨0, 0⟩) (meth := k0m0) (c := k0c0) (by decide +kernel) rfl rfl rfl (by decide +kernel)
set_option maxRecDepth 65536 in
theorem w_c5 : (Jvm.Cond.code ({ cls := "com/example/needlework/needlework/match/PrefixTable", name := "of", desc := "(Ljava/lang/CharSequence;)[I" } : Jvm.MethodName) prog_15_method_2_code (1 : Nat) (Option.some (Jvm.ClassFile.FieldType.array Jvm.ClassFile.FieldType.int))).before args0 about1 = true := code_word (m := ⟨8, 1⟩) (meth := k8m1) (c := k8c1) (by decide +kernel) rfl rfl rfl (by decide +kernel)
set_option maxRecDepth 65536 in
theorem w_c6 : (Jvm.Cond.code ({ cls := "java/util/Objects", name := "requireNonNull", desc := "(Ljava/lang/Object;Ljava/lang/String;)Ljava/lang/Object;" } : Jvm.MethodName) jdk_31_method_11_code (2 : Nat) (Option.some (Jvm.ClassFile.FieldType.object "java/lang/Object"))).before args0 about1 = true := code_word (m := ⟨9, 2⟩) (meth := k9m2) (c := k9c2) (by decide +kernel) rfl rfl rfl (by decide +kernel)
set_option maxRecDepth 65536 in
theorem w_c7 : (Jvm.Cond.code ({ cls := "java/lang/String", name := "length", desc := "()I" } : Jvm.MethodName) jdk_42_method_54_code (1 : Nat) (Option.some Jvm.ClassFile.FieldType.int)).before args0 about1 = true := code_word (m := ⟨7, 2⟩) (meth := k7m2) (c := k7c2) (by decide +kernel) rfl rfl rfl (by decide +kernel)
set_option maxRecDepth 65536 in
theorem w_c8 : (Jvm.Cond.code ({ cls := "java/lang/String", name := "coder", desc := "()B" } : Jvm.MethodName) jdk_42_method_152_code (1 : Nat) (Option.some Jvm.ClassFile.FieldType.byte)).before args0 about1 = true := code_word (m := ⟨7, 5⟩) (meth := k7m5) (c := k7c5) (by decide +kernel) rfl rfl rfl (by decide +kernel)
set_option maxRecDepth 65536 in
theorem w_c9 : (Jvm.Cond.code ({ cls := "java/util/Objects", name := "requireNonNull", desc := "(Ljava/lang/Object;)Ljava/lang/Object;" } : Jvm.MethodName) jdk_31_method_10_code (1 : Nat) (Option.some (Jvm.ClassFile.FieldType.object "java/lang/Object"))).before args0 about1 = true := code_word (m := ⟨9, 1⟩) (meth := k9m1) (c := k9c1) (by decide +kernel) rfl rfl rfl (by decide +kernel)
set_option maxRecDepth 65536 in
theorem w_c10 : (Jvm.Cond.code ({ cls := "com/example/needlework/needlework/match/PrefixTable", name := "of", desc := "(ILjava/util/function/IntUnaryOperator;)[I" } : Jvm.MethodName) prog_15_method_4_code (6 : Nat) (Option.some (Jvm.ClassFile.FieldType.array Jvm.ClassFile.FieldType.int))).before args0 about1 = true := code_word (m := ⟨8, 2⟩) (meth := k8m2) (c := k8c2) (by decide +kernel) rfl rfl rfl (by decide +kernel)
set_option maxRecDepth 65536 in
theorem w_c11 : (Jvm.Cond.code ({ cls := "com/example/needlework/needlework/match/PrefixTableOfPinLaw", name := "check", desc := "([I[CII)Z" } : Jvm.MethodName) method_4_code (4 : Nat) (Option.some Jvm.ClassFile.FieldType.boolean)).before args0 about1 = true := code_word (m := ⟨1, 3⟩) (meth := k1m3) (c := k1c3) (by decide +kernel) rfl rfl rfl (by decide +kernel)
set_option maxRecDepth 65536 in
theorem w_c12 : (Jvm.Cond.code ({ cls := "java/lang/StringUTF16", name := "compress", desc := "([CII)[B" } : Jvm.MethodName) jdk_52_method_16_code (6 : Nat) (Option.some (Jvm.ClassFile.FieldType.array Jvm.ClassFile.FieldType.byte))).before args0 about1 = true := code_word (m := ⟨11, 8⟩) (meth := k11m8) (c := k11c8) (by decide +kernel) rfl rfl rfl (by decide +kernel)
set_option maxRecDepth 65536 in
theorem w_c13 : (Jvm.Cond.code ({ cls := "java/lang/StringUTF16", name := "compress", desc := "([CI[BII)I" } : Jvm.MethodName) jdk_52_method_21_code (7 : Nat) (Option.some Jvm.ClassFile.FieldType.int)).before args0 about1 = true := code_word (m := ⟨11, 9⟩) (meth := k11m9) (c := k11c9) (by decide +kernel) rfl rfl rfl (by decide +kernel)
set_option maxRecDepth 65536 in
theorem w_c14 : (Jvm.Cond.code ({ cls := "java/lang/StringUTF16", name := "coderFromArrayLen", desc := "([BI)B" } : Jvm.MethodName) jdk_52_method_15_code (2 : Nat) (Option.some Jvm.ClassFile.FieldType.byte)).before args0 about1 = true := code_word (m := ⟨11, 7⟩) (meth := k11m7) (c := k11c7) (by decide +kernel) rfl rfl rfl (by decide +kernel)
set_option maxRecDepth 65536 in
theorem w_c15 : (Jvm.Cond.code ({ cls := "java/lang/String", name := "charAt", desc := "(I)C" } : Jvm.MethodName) jdk_42_method_56_code (2 : Nat) (Option.some Jvm.ClassFile.FieldType.char)).before args0 about1 = true := code_word (m := ⟨7, 3⟩) (meth := k7m3) (c := k7c3) (by decide +kernel) rfl rfl rfl (by decide +kernel)
set_option maxRecDepth 65536 in
theorem w_c16 : (Jvm.Cond.code ({ cls := "java/lang/String", name := "isLatin1", desc := "()Z" } : Jvm.MethodName) jdk_42_method_154_code (1 : Nat) (Option.some Jvm.ClassFile.FieldType.boolean)).before args0 about1 = true := code_word (m := ⟨7, 6⟩) (meth := k7m6) (c := k7c6) (by decide +kernel) rfl rfl rfl (by decide +kernel)
set_option maxRecDepth 65536 in
theorem w_c17 : (Jvm.Cond.code ({ cls := "java/lang/StringLatin1", name := "charAt", desc := "([BI)C" } : Jvm.MethodName) jdk_43_method_2_code (2 : Nat) (Option.some Jvm.ClassFile.FieldType.char)).before args0 about1 = true := code_word (m := ⟨12, 1⟩) (meth := k12m1) (c := k12c1) (by decide +kernel) rfl rfl rfl (by decide +kernel)
set_option maxRecDepth 65536 in
theorem w_c18 : (Jvm.Cond.code ({ cls := "java/lang/String", name := "checkIndex", desc := "(II)V" } : Jvm.MethodName) jdk_42_method_155_code (2 : Nat) (Option.none : Option Jvm.ClassFile.FieldType)).before args0 about1 = true := code_word (m := ⟨7, 7⟩) (meth := k7m7) (c := k7c7) (by decide +kernel) rfl rfl rfl (by decide +kernel)
set_option maxRecDepth 65536 in
theorem w_c19 : (Jvm.Cond.code ({ cls := "jdk/internal/util/Preconditions", name := "checkIndex", desc := "(IILjava/util/function/BiFunction;)I" } : Jvm.MethodName) jdk_41_method_11_code (3 : Nat) (Option.some Jvm.ClassFile.FieldType.int)).before args0 about1 = true := code_word (m := ⟨13, 1⟩) (meth := k13m1) (c := k13c1) (by decide +kernel) rfl rfl rfl (by decide +kernel)
set_option maxRecDepth 65536 in
theorem w_c20 : (Jvm.Cond.code ({ cls := "com/example/needlework/needlework/match/PrefixTableOfPinLaw", name := "ref", desc := "([CI)I" } : Jvm.MethodName) method_6_code (2 : Nat) (Option.some Jvm.ClassFile.FieldType.int)).before args0 about1 = true := code_word (m := ⟨1, 5⟩) (meth := k1m5) (c := k1c5) (by decide +kernel) rfl rfl rfl (by decide +kernel)
set_option maxRecDepth 65536 in
theorem w_c21 : (Jvm.Cond.code ({ cls := "com/example/needlework/needlework/match/PrefixTableOfPinLaw", name := "isBorder", desc := "([CII)Z" } : Jvm.MethodName) method_5_code (3 : Nat) (Option.some Jvm.ClassFile.FieldType.boolean)).before args0 about1 = true := code_word (m := ⟨1, 4⟩) (meth := k1m4) (c := k1c4) (by decide +kernel) rfl rfl rfl (by decide +kernel)
set_option maxRecDepth 65536 in
theorem w_c22 : (Jvm.Cond.code ({ cls := "java/lang/StringUTF16", name := "toBytes", desc := "([CII)[B" } : Jvm.MethodName) jdk_52_method_14_code (5 : Nat) (Option.some (Jvm.ClassFile.FieldType.array Jvm.ClassFile.FieldType.byte))).before args0 about1 = true := code_word (m := ⟨11, 6⟩) (meth := k11m6) (c := k11c6) (by decide +kernel) rfl rfl rfl (by decide +kernel)
set_option maxRecDepth 65536 in
theorem w_c23 : (Jvm.Cond.code ({ cls := "java/lang/StringUTF16", name := "newBytesFor", desc := "(I)[B" } : Jvm.MethodName) jdk_52_method_2_code (1 : Nat) (Option.some (Jvm.ClassFile.FieldType.array Jvm.ClassFile.FieldType.byte))).before args0 about1 = true := code_word (m := ⟨11, 1⟩) (meth := k11m1) (c := k11c1) (by decide +kernel) rfl rfl rfl (by decide +kernel)
set_option maxRecDepth 65536 in
theorem w_c24 : (Jvm.Cond.code ({ cls := "java/lang/StringUTF16", name := "newBytesLength", desc := "(I)I" } : Jvm.MethodName) jdk_52_method_3_code (1 : Nat) (Option.some Jvm.ClassFile.FieldType.int)).before args0 about1 = true := code_word (m := ⟨11, 2⟩) (meth := k11m2) (c := k11c2) (by decide +kernel) rfl rfl rfl (by decide +kernel)
set_option maxRecDepth 65536 in
theorem w_c25 : (Jvm.Cond.code ({ cls := "java/lang/StringUTF16", name := "putChar", desc := "([BII)V" } : Jvm.MethodName) jdk_52_method_4_code (3 : Nat) (Option.none : Option Jvm.ClassFile.FieldType)).before args0 about1 = true := code_word (m := ⟨11, 3⟩) (meth := k11m3) (c := k11c3) (by decide +kernel) rfl rfl rfl (by decide +kernel)
set_option maxRecDepth 65536 in
theorem w_c26 : (Jvm.Cond.code ({ cls := "java/lang/StringUTF16", name := "getChar", desc := "([BI)C" } : Jvm.MethodName) jdk_52_method_5_code (2 : Nat) (Option.some Jvm.ClassFile.FieldType.char)).before args0 about1 = true := code_word (m := ⟨11, 4⟩) (meth := k11m4) (c := k11c4) (by decide +kernel) rfl rfl rfl (by decide +kernel)
set_option maxRecDepth 65536 in
theorem w_c27 : (Jvm.Cond.code ({ cls := "java/lang/StringUTF16", name := "charAt", desc := "([BI)C" } : Jvm.MethodName) jdk_52_method_83_code (2 : Nat) (Option.some Jvm.ClassFile.FieldType.char)).before args0 about1 = true := code_word (m := ⟨11, 10⟩) (meth := k11m10) (c := k11c10) (by decide +kernel) rfl rfl rfl (by decide +kernel)
set_option maxRecDepth 65536 in
theorem w_c28 : (Jvm.Cond.code ({ cls := "java/lang/StringUTF16", name := "checkIndex", desc := "(I[B)V" } : Jvm.MethodName) jdk_52_method_91_code (2 : Nat) (Option.none : Option Jvm.ClassFile.FieldType)).before args0 about1 = true := code_word (m := ⟨11, 11⟩) (meth := k11m11) (c := k11c11) (by decide +kernel) rfl rfl rfl (by decide +kernel)
set_option maxRecDepth 65536 in
theorem w_c29 : (Jvm.Cond.code ({ cls := "java/lang/StringUTF16", name := "length", desc := "([B)I" } : Jvm.MethodName) jdk_52_method_6_code (1 : Nat) (Option.some Jvm.ClassFile.FieldType.int)).before args0 about1 = true := code_word (m := ⟨11, 5⟩) (meth := k11m5) (c := k11c5) (by decide +kernel) rfl rfl rfl (by decide +kernel)
def codes1 : List Jvm.Cond := [Jvm.Cond.code x code maxLocals ret, Jvm.Cond.code ({ cls := "com/example/needlework/needlework/match/PrefixTableOfPinLaw", name := "make", desc := "([CI)Ljava/lang/String;" } : Jvm.MethodName) method_3_code (2 : Nat) (Option.some (Jvm.ClassFile.FieldType.object "java/lang/String")), Jvm.Cond.code ({ cls := "java/lang/String", name := "<init>", desc := "([C)V" } : Jvm.MethodName) jdk_42_method_3_code (2 : Nat) (Option.none : Option Jvm.ClassFile.FieldType), Jvm.Cond.code ({ cls := "java/lang/String", name := "<init>", desc := "([CIILjava/lang/Void;)V" } : Jvm.MethodName) jdk_42_method_149_code (6 : Nat) (Option.none : Option Jvm.ClassFile.FieldType), Jvm.Cond.code ({ cls := "java/lang/Object", name := "<init>", desc := "()V" } : Jvm.MethodName) object_method_1_code (1 : Nat) (Option.none : Option Jvm.ClassFile.FieldType), Jvm.Cond.code ({ cls := "com/example/needlework/needlework/match/PrefixTable", name := "of", desc := "(Ljava/lang/CharSequence;)[I" } : Jvm.MethodName) prog_15_method_2_code (1 : Nat) (Option.some (Jvm.ClassFile.FieldType.array Jvm.ClassFile.FieldType.int)), Jvm.Cond.code ({ cls := "java/util/Objects", name := "requireNonNull", desc := "(Ljava/lang/Object;Ljava/lang/String;)Ljava/lang/Object;" } : Jvm.MethodName) jdk_31_method_11_code (2 : Nat) (Option.some (Jvm.ClassFile.FieldType.object "java/lang/Object")), Jvm.Cond.code ({ cls := "java/lang/String", name := "length", desc := "()I" } : Jvm.MethodName) jdk_42_method_54_code (1 : Nat) (Option.some Jvm.ClassFile.FieldType.int), Jvm.Cond.code ({ cls := "java/lang/String", name := "coder", desc := "()B" } : Jvm.MethodName) jdk_42_method_152_code (1 : Nat) (Option.some Jvm.ClassFile.FieldType.byte), Jvm.Cond.code ({ cls := "java/util/Objects", name := "requireNonNull", desc := "(Ljava/lang/Object;)Ljava/lang/Object;" } : Jvm.MethodName) jdk_31_method_10_code (1 : Nat) (Option.some (Jvm.ClassFile.FieldType.object "java/lang/Object")), Jvm.Cond.code ({ cls := "com/example/needlework/needlework/match/PrefixTable", name := "of", desc := "(ILjava/util/function/IntUnaryOperator;)[I" } : Jvm.MethodName) prog_15_method_4_code (6 : Nat) (Option.some (Jvm.ClassFile.FieldType.array Jvm.ClassFile.FieldType.int)), Jvm.Cond.code ({ cls := "com/example/needlework/needlework/match/PrefixTableOfPinLaw", name := "check", desc := "([I[CII)Z" } : Jvm.MethodName) method_4_code (4 : Nat) (Option.some Jvm.ClassFile.FieldType.boolean), Jvm.Cond.code ({ cls := "java/lang/StringUTF16", name := "compress", desc := "([CII)[B" } : Jvm.MethodName) jdk_52_method_16_code (6 : Nat) (Option.some (Jvm.ClassFile.FieldType.array Jvm.ClassFile.FieldType.byte)), Jvm.Cond.code ({ cls := "java/lang/StringUTF16", name := "compress", desc := "([CI[BII)I" } : Jvm.MethodName) jdk_52_method_21_code (7 : Nat) (Option.some Jvm.ClassFile.FieldType.int), Jvm.Cond.code ({ cls := "java/lang/StringUTF16", name := "coderFromArrayLen", desc := "([BI)B" } : Jvm.MethodName) jdk_52_method_15_code (2 : Nat) (Option.some Jvm.ClassFile.FieldType.byte), Jvm.Cond.code ({ cls := "java/lang/String", name := "charAt", desc := "(I)C" } : Jvm.MethodName) jdk_42_method_56_code (2 : Nat) (Option.some Jvm.ClassFile.FieldType.char), Jvm.Cond.code ({ cls := "java/lang/String", name := "isLatin1", desc := "()Z" } : Jvm.MethodName) jdk_42_method_154_code (1 : Nat) (Option.some Jvm.ClassFile.FieldType.boolean), Jvm.Cond.code ({ cls := "java/lang/StringLatin1", name := "charAt", desc := "([BI)C" } : Jvm.MethodName) jdk_43_method_2_code (2 : Nat) (Option.some Jvm.ClassFile.FieldType.char), Jvm.Cond.code ({ cls := "java/lang/String", name := "checkIndex", desc := "(II)V" } : Jvm.MethodName) jdk_42_method_155_code (2 : Nat) (Option.none : Option Jvm.ClassFile.FieldType), Jvm.Cond.code ({ cls := "jdk/internal/util/Preconditions", name := "checkIndex", desc := "(IILjava/util/function/BiFunction;)I" } : Jvm.MethodName) jdk_41_method_11_code (3 : Nat) (Option.some Jvm.ClassFile.FieldType.int), Jvm.Cond.code ({ cls := "com/example/needlework/needlework/match/PrefixTableOfPinLaw", name := "ref", desc := "([CI)I" } : Jvm.MethodName) method_6_code (2 : Nat) (Option.some Jvm.ClassFile.FieldType.int), Jvm.Cond.code ({ cls := "com/example/needlework/needlework/match/PrefixTableOfPinLaw", name := "isBorder", desc := "([CII)Z" } : Jvm.MethodName) method_5_code (3 : Nat) (Option.some Jvm.ClassFile.FieldType.boolean), Jvm.Cond.code ({ cls := "java/lang/StringUTF16", name := "toBytes", desc := "([CII)[B" } : Jvm.MethodName) jdk_52_method_14_code (5 : Nat) (Option.some (Jvm.ClassFile.FieldType.array Jvm.ClassFile.FieldType.byte)), Jvm.Cond.code ({ cls := "java/lang/StringUTF16", name := "newBytesFor", desc := "(I)[B" } : Jvm.MethodName) jdk_52_method_2_code (1 : Nat) (Option.some (Jvm.ClassFile.FieldType.array Jvm.ClassFile.FieldType.byte)), Jvm.Cond.code ({ cls := "java/lang/StringUTF16", name := "newBytesLength", desc := "(I)I" } : Jvm.MethodName) jdk_52_method_3_code (1 : Nat) (Option.some Jvm.ClassFile.FieldType.int), Jvm.Cond.code ({ cls := "java/lang/StringUTF16", name := "putChar", desc := "([BII)V" } : Jvm.MethodName) jdk_52_method_4_code (3 : Nat) (Option.none : Option Jvm.ClassFile.FieldType), Jvm.Cond.code ({ cls := "java/lang/StringUTF16", name := "getChar", desc := "([BI)C" } : Jvm.MethodName) jdk_52_method_5_code (2 : Nat) (Option.some Jvm.ClassFile.FieldType.char), Jvm.Cond.code ({ cls := "java/lang/StringUTF16", name := "charAt", desc := "([BI)C" } : Jvm.MethodName) jdk_52_method_83_code (2 : Nat) (Option.some Jvm.ClassFile.FieldType.char), Jvm.Cond.code ({ cls := "java/lang/StringUTF16", name := "checkIndex", desc := "(I[B)V" } : Jvm.MethodName) jdk_52_method_91_code (2 : Nat) (Option.none : Option Jvm.ClassFile.FieldType), Jvm.Cond.code ({ cls := "java/lang/StringUTF16", name := "length", desc := "([B)I" } : Jvm.MethodName) jdk_52_method_6_code (1 : Nat) (Option.some Jvm.ClassFile.FieldType.int)]
set_option maxRecDepth 65536 in
theorem codes_eq : words1.filter isCode = codes1 := rfl
theorem w_codes : ∀ c ∈ words1.filter isCode, c.before args0 about1 = true := by
  rw [codes_eq]
  intro c hc
  simp only [codes1, List.mem_cons, List.not_mem_nil, or_false] at hc
  rcases hc with rfl | rfl | rfl | rfl | rfl | rfl | rfl | rfl | rfl | rfl | rfl | rfl | rfl | rfl | rfl | rfl | rfl | rfl | rfl | rfl | rfl | rfl | rfl | rfl | rfl | rfl | rfl | rfl | rfl | rfl
  · exact w_c0
  · exact w_c1
  · exact w_c2
  · exact w_c3
  · exact w_c4
  · exact w_c5
  · exact w_c6
  · exact w_c7
  · exact w_c8
  · exact w_c9
  · exact w_c10
  · exact w_c11
  · exact w_c12
  · exact w_c13
  · exact w_c14
  · exact w_c15
  · exact w_c16
  · exact w_c17
  · exact w_c18
  · exact w_c19
  · exact w_c20
  · exact w_c21
  · exact w_c22
  · exact w_c23
  · exact w_c24
  · exact w_c25
  · exact w_c26
  · exact w_c27
  · exact w_c28
  · exact w_c29
set_option maxRecDepth 65536 in
theorem w_t1 : (words1.take 24).all (fun c => isCode c || c.before args0 about1) = true := by decide +kernel
set_option maxRecDepth 65536 in
theorem w_t2 : ((words1.drop 24).take 24).all (fun c => isCode c || c.before args0 about1) = true := by decide +kernel
set_option maxRecDepth 65536 in
theorem w_t3 : (((words1.drop 24).drop 24).take 24).all (fun c => isCode c || c.before args0 about1) = true := by decide +kernel
set_option maxRecDepth 65536 in
theorem w_t4 : ((((words1.drop 24).drop 24).drop 24).take 24).all (fun c => isCode c || c.before args0 about1) = true := by decide +kernel
set_option maxRecDepth 65536 in
theorem w_t5 : (((((words1.drop 24).drop 24).drop 24).drop 24).take 24).all (fun c => isCode c || c.before args0 about1) = true := by decide +kernel
set_option maxRecDepth 65536 in
theorem w_t6 : (((((words1.drop 24).drop 24).drop 24).drop 24).drop 24).all (fun c => isCode c || c.before args0 about1) = true := by decide +kernel
theorem w_tables : (allAtoms (Jvm.Cond.code x code maxLocals ret :: tables_1)).before args0 about1 = true := by
  rw [allAtoms_all]
  show words1.all (fun c => c.before args0 about1) = true
  refine all_split ?_ w_codes
  rw [← List.take_append_drop 24 words1, List.all_append, w_t1, ← List.take_append_drop 24 (words1.drop 24), List.all_append, w_t2, ← List.take_append_drop 24 ((words1.drop 24).drop 24), List.all_append, w_t3, ← List.take_append_drop 24 (((words1.drop 24).drop 24).drop 24), List.all_append, w_t4, ← List.take_append_drop 24 ((((words1.drop 24).drop 24).drop 24).drop 24), List.all_append, w_t5, w_t6]
  rfl
set_option maxRecDepth 65536 in
theorem w_rest : rest_1_c.before args0 about1 = true := by decide +kernel
set_option maxRecDepth 65536 in
theorem w_case : (Jvm.Cond.and given_1 narrow_1).before args0 about1 = true := by decide +kernel
set_option maxRecDepth 65536 in
theorem w_consts : constsHeld consts_1 about1 := Jvm.Lit.constsHeldB_iff.mp (by decide +kernel)
theorem w_applies : (headSpec (Jvm.Cond.code x code maxLocals ret :: tables_1) room_1).applies x e0.platform about1 = true :=
  (Spec.applies_iff w_frames).mpr ⟨w_running, w_runnable, w_alone, w_named, w_hears, w_ripe, w_room, w_tables⟩
theorem atStart : AtStart classFile x code maxLocals ret World_1 tables_1 room_1 Calls_1 rest_1 Pre_1 launch0 p0 e0 about1 theMethod args0 below0 :=
  ⟨lists_1, trivial, launch0.admits_env _ _ _, launch0.least_env, fairChoices_fair.cas, fairChoices_fair.clock, w_frames, w_args, w_heap, w_applies, ⟨w_consts, trivial⟩, w_rest, w_case⟩
end start1
theorem witness_1 : WitnessClaimed_1 := ⟨start1.p0, start1.e0, start1.about1, start1.theMethod, start1.args0, start1.below0, start1.atStart⟩
end Jvm.Pilot.@@N@@
