import JvmDerived
import JvmDerived.Pilot.@@N@@Statement
import JvmDerived.Pilot.@@N@@Code
set_option linter.unusedVariables false
set_option linter.unusedSimpArgs false
@@BLOCK:LamKit.lean.txt@@
namespace Jvm.Pilot.@@N@@
open Jvm Jvm.ClassFile Sem Op Lib Jvm.Free Jvm.Stand Jvm.LawKit Jvm.RoadKit Bundle Jvm.Pilot.@@N@@.Jvm.D
/-! own text: the run of a body in continuation form -/
section OwnKit
variable {wd : Option (Vm → Heap → Prop)} {p : Program} {l : Launch} {e : Env} {R : Room} {s : State} {m : MethodId} {args : Array Value} {below : List Frame} {meth : Method} {c : Code} {T : State} {locs : List Loc} {cells slots : Nat} {Z : State} {a0 : Array Value} {h : Heap} {Qb : Option Value → Heap → List Loc → Prop} {kc ks : Nat}
/-- from the state T with the frame g on top the run comes to the end of the body, and there Qb holds -/
def OkF (wd : Option (Vm → Heap → Prop)) (vm : Vm) (h : Heap) : Prop := match wd with
  | none => True
  | some F => F vm h
def FE (wd : Option (Vm → Heap → Prop)) (s : State) (o : Outcome) (t : State) (L : List Loc) (k n : Nat) : Prop := match wd with
  | none => FrameEnd s o t L k n
  | some F => ReturnedEndW s o t L k n ∧ F t.vm t.heap
theorem FE.of {s t : State} {o : Outcome} {L : List Loc} {k n : Nat} {wd : Option (Vm → Heap → Prop)} (h : FrameEnd s o t L k n) (g : OkF wd t.vm t.heap) : FE wd s o t L k n := by
  cases wd
  · exact h
  · exact ⟨ReturnedEndW.of_narrow h.1 h.2.1 h.2.2, g⟩
def Ends (wd : Option (Vm → Heap → Prop)) (p : Program) (e : Env) (below : List Frame) (s : State) (Qb : Option Value → Heap → List Loc → Prop) (kc ks : Nat) (T : State) (g : JFrame) : Prop :=
  ∃ s₂ o, Steps p.tables e below (T.setTop g) s₂ ∧ s₂.status = .running ∧ Ended s₂ below o ∧ ∃ v L, o = .returned v ∧ Qb v s₂.heap L ∧ FE wd s o s₂ L kc ks
theorem Ends.go {T T' : State} {g g' : JFrame} (h : ∀ t, Steps p.tables e below (T'.setTop g') t → Steps p.tables e below (T.setTop g) t) (k : Ends wd p e below s Qb kc ks T' g') : Ends wd p e below s Qb kc ks T g := by
  obtain ⟨s2, o, st, r⟩ := k
  exact ⟨s2, o, h _ st, r⟩
theorem Ends.cast {T : State} {g g' : JFrame} (h : g = g') (k : Ends wd p e below s Qb kc ks T g') : Ends wd p e below s Qb kc ks T g := h ▸ k
abbrev Con (l : Launch) (y : MethodName) (code : ByteArray) (ml : Nat) (rt : Option FieldType) (ws : List Jvm.Cond) (rm : Room) (as' : Array Value) (Z : State) (h0 : Heap) (Q : Option Value → Heap → List Loc → Prop) : Prop :=
  MetFree l y (head1 (Jvm.Cond.code y code ml rt :: ws) rm) (fun a U => a = as' ∧ Z.Warmed39 U.vm ∧ U.heap = h0) (fun _ _ _ _ _ => True) (fun _ U o U' => ∃ v L, o = .returned v ∧ Q v U'.heap L ∧ FrameEnd U o U' L rm.cells rm.slots)
theorem Con.of {y : MethodName} {code : ByteArray} {ml : Nat} {rt : Option FieldType} {ws : List Jvm.Cond} {rm : Room} {as' : Array Value} {h0 : Heap} {Q : Option Value → Heap → List Loc → Prop} (hp : plainFor y = true)
    (k : ∀ (p : Program) (e : Env) (s : State) (m : MethodId) (below : List Frame) (meth : Method) (c : Code) (s₁ : State), p.tables.exec = Jvm.exec → Z.Warmed39 s.vm → c.code = code → c.maxLocals = ml → s.vm.findClass y.cls = some m.cls → meth.name = y.name → meth.sig.returnType = rt → meth.locks = false →
      Stand p l e rm s m as' below meth c s₁ [] 0 0 → s₁.heap = h0 → Ends none p e below s Q rm.cells rm.slots s₁ (entryFrame m as' ml)) : Con l y code ml rt ws rm as' Z h0 Q := by
  refine MetFree.of_bodySF hp hisR ?_
  intro p e s m args below meth c s₁ Bd hml0 hP hK
  obtain ⟨rfl, hZ, hh⟩ := hP
  exact k p e s m below meth c s₁ Bd.exec hZ Bd.bytes hml0 (findClass_of_methodNamed Bd.named) (name_of_methodNamed Bd.named Bd.method).1 Bd.returns Bd.notSynchronized (Stand.of_body Bd) (by rw [← hh, Bd.state]; rfl)
theorem Ends.ret (X : Stand p l e R s m args below meth c T locs cells slots) (hx : p.tables.exec = Jvm.exec) (hlk : meth.locks = false) {pc : Nat} {Ls : Array Slot} {w : Value} {t : FieldType} {i : Instr} {rest : List Value} (hret : meth.sig.returnType = some t) (hn : narrow t w = w)
    (hi : (i = .ireturn ∧ (t = .int ∨ t = .boolean ∨ t = .byte ∨ t = .char ∨ t = .short) ∧ ∃ z, w = .int z) ∨ (i = .lreturn ∧ t = .long ∧ ∃ z, w = .long z) ∨ (i = .dreturn ∧ t = .double ∧ ∃ z, w = .double z) ∨ (i = .freturn ∧ t = .float ∧ ∃ z, w = .float z) ∨ (i = .areturn ∧ t.isReference = true ∧ w.isRef = true))
    (hd : decode c.code pc = .ok (i, 1)) (hc : cells ≤ kc) (hs : slots ≤ ks) (hQ : Qb (some w) T.heap locs) (hF : OkF wd T.vm T.heap := by exact True.intro) : Ends wd p e below s Qb kc ks T (mkF m pc Ls (w :: rest)) := by
  obtain ⟨fs, hr, hrun, hended, hW, hsame⟩ := X.leave (v := some w) (fun h => by rw [hret] at h; cases h) hlk
  exact ⟨_, _, retOut X hx hret hn hi hd hr, hrun, hended, _, _, rfl, hQ, FE.of ⟨⟨_, rfl⟩, hW, hsame.mono hc hs⟩ hF⟩
theorem Ends.retI (X : Stand p l e R s m args below meth c T locs cells slots) (hx : p.tables.exec = Jvm.exec) (hlk : meth.locks = false) {pc : Nat} {Ls : Array Slot} {z : Int32} {rest : List Value} (hret : meth.sig.returnType = some .int) (hd : decode c.code pc = .ok (.ireturn, 1)) (hc : cells ≤ kc) (hs : slots ≤ ks) (hQ : Qb (some (.int z)) T.heap locs) (hF : OkF wd T.vm T.heap := by exact True.intro) : Ends wd p e below s Qb kc ks T (mkF m pc Ls (.int z :: rest)) :=
  Ends.ret X hx hlk hret rfl (Or.inl ⟨rfl, Or.inl rfl, _, rfl⟩) hd hc hs hQ hF
theorem Ends.retJ (X : Stand p l e R s m args below meth c T locs cells slots) (hx : p.tables.exec = Jvm.exec) (hlk : meth.locks = false) {pc : Nat} {Ls : Array Slot} {z : Int64} {rest : List Value} (hret : meth.sig.returnType = some .long) (hd : decode c.code pc = .ok (.lreturn, 1)) (hc : cells ≤ kc) (hs : slots ≤ ks) (hQ : Qb (some (.long z)) T.heap locs) (hF : OkF wd T.vm T.heap := by exact True.intro) : Ends wd p e below s Qb kc ks T (mkF m pc Ls (.long z :: rest)) :=
  Ends.ret X hx hlk hret rfl (Or.inr (Or.inl ⟨rfl, rfl, _, rfl⟩)) hd hc hs hQ hF
theorem Ends.retS (X : Stand p l e R s m args below meth c T locs cells slots) (hx : p.tables.exec = Jvm.exec) (hlk : meth.locks = false) {pc : Nat} {Ls : Array Slot} {z : Int32} {t : FieldType} {rest : List Value} (hret : meth.sig.returnType = some t) (ht : t = .boolean ∨ t = .byte ∨ t = .char ∨ t = .short) (hn : narrow t (.int z) = .int z) (hd : decode c.code pc = .ok (.ireturn, 1)) (hc : cells ≤ kc) (hs : slots ≤ ks) (hQ : Qb (some (.int z)) T.heap locs) (hF : OkF wd T.vm T.heap := by exact True.intro) : Ends wd p e below s Qb kc ks T (mkF m pc Ls (.int z :: rest)) :=
  Ends.ret X hx hlk hret hn (Or.inl ⟨rfl, Or.inr ht, _, rfl⟩) hd hc hs hQ hF
theorem Ends.retA (X : Stand p l e R s m args below meth c T locs cells slots) (hx : p.tables.exec = Jvm.exec) (hlk : meth.locks = false) {pc : Nat} {Ls : Array Slot} {w : Value} {t : FieldType} {rest : List Value} (hret : meth.sig.returnType = some t) (ht : t.isReference = true) (hw : w.isRef = true) (hn : narrow t w = w) (hd : decode c.code pc = .ok (.areturn, 1)) (hc : cells ≤ kc) (hs : slots ≤ ks) (hQ : Qb (some w) T.heap locs) (hF : OkF wd T.vm T.heap := by exact True.intro) : Ends wd p e below s Qb kc ks T (mkF m pc Ls (w :: rest)) :=
  Ends.ret X hx hlk hret hn (Or.inr (Or.inr (Or.inr (Or.inr ⟨rfl, ht, hw⟩)))) hd hc hs hQ hF
theorem Ends.retV (X : Stand p l e R s m args below meth c T locs cells slots) (hx : p.tables.exec = Jvm.exec) (hlk : meth.locks = false) {pc : Nat} {Ls : Array Slot} (hret : meth.sig.returnType = none) (hd : decode c.code pc = .ok (.return_, 1)) (hc : cells ≤ kc) (hs : slots ≤ ks) (hQ : Qb none T.heap locs) (hF : OkF wd T.vm T.heap := by exact True.intro) : Ends wd p e below s Qb kc ks T (mkF m pc Ls []) := by
  obtain ⟨fs, hr, hrun, hended, hW, hsame⟩ := X.leave (v := none) (fun _ => rfl) hlk
  exact ⟨_, _, X.returnOut hx hret hd hr, hrun, hended, _, _, rfl, hQ, FE.of ⟨⟨_, rfl⟩, hW, hsame.mono hc hs⟩ hF⟩
/-- a static call by its contract -/
theorem Ends.callS (X : Stand p l e R s m args below meth c T locs cells slots) (hx : p.tables.exec = Jvm.exec) (hZ : Z.Warmed39 s.vm) {own : String} (hown : s.vm.findClass own = some m.cls) {index : Nat} {y : MethodName} {bytes : ByteArray} {maxL : Nat} {rt : Option FieldType} {rm : Room} {Q : Option Value → Heap → List Loc → Prop}
    (w1 : (Jvm.Cond.methodLink own index y).before a0 Z = true) (w2 : (Jvm.Cond.static y).before a0 Z = true) (w3 : (Jvm.Cond.initialized y.cls).before a0 Z = true) (w4 : (Jvm.Cond.code y bytes maxL rt).before a0 Z = true) (hy : y.cls ≠ "java/lang/invoke/MethodHandle" ∧ y.cls ≠ "java/lang/invoke/VarHandle")
    {argsL rest : List Value} (eT : T.heap = h) (M : Con l y bytes maxL rt [] rm argsL.toArray Z h Q) {W pc : Nat} (hf : rm.frames + 1 ≤ R.frames) (hl : W + (maxL + 11) + rm.locals ≤ R.locals) {Ls : Array Slot} (hsz : Ls.size = c.maxLocals)
    (hlen : ∀ sig, parseMethodDescriptor y.desc = some sig → argsL.length = sig.parameters.length) (hW : (rest.map fun v => v.category).sum ≤ W) (hd : decode c.code pc = .ok (.invokestatic index, 3)) (hc : cells + rm.cells ≤ R.cells) (hs : slots + rm.slots ≤ R.slots) {st : List Value} (hst : st = argsL.reverse ++ rest)
    (k : ∀ T' v L, Stand p l e R s m args below meth c T' (locs ++ L) (cells + rm.cells) (slots + rm.slots) → Q v T'.heap L → Ends wd p e below s Qb kc ks T' (mkF m (pc + 3) Ls (v.toList ++ rest))) :
    Ends wd p e below s Qb kc ks T (mkF m pc Ls st) := by
  obtain ⟨v, vm1, ⟨T1, L1, k1, n1⟩, -, X1, ⟨Lc, hQ, q1, q2, q3⟩, st1⟩ := Jvm.LawKit.callS X hx hown (mvT hZ w1) (mvT hZ w2) (mvT hZ w3) (mvT hZ w4) hy (backOf (W := W) M hZ w4 w3 hf hl) (g := mkF m pc Ls st) rfl hsz (argsL := argsL) (rest := rest) hlen hst (by show 2 * 0 + _ ≤ _; omega) hd (fun _ _ => ⟨rfl, eT, hc, hs⟩)
  dsimp only [Pt.U, Pt.locs, Pt.cells, Pt.slots] at X1 q1 q2 q3 st1 hQ
  subst q1 q2 q3
  exact Ends.go st1 (k T1 v Lc X1 hQ)
/-- a constructor by its contract -/
theorem Ends.callI (X : Stand p l e R s m args below meth c T locs cells slots) (hx : p.tables.exec = Jvm.exec) (hZ : Z.Warmed39 s.vm) {own : String} (hown : s.vm.findClass own = some m.cls) {index : Nat} {y : MethodName} {bytes : ByteArray} {maxL : Nat} {rm : Room} {Q : Option Value → Heap → List Loc → Prop}
    (w1 : (Jvm.Cond.methodLink own index y).before a0 Z = true) (w2 : (Jvm.Cond.instanceMethod y).before a0 Z = true) (w3 : (Jvm.Cond.initialized y.cls).before a0 Z = true) (w4 : (Jvm.Cond.code y bytes maxL none).before a0 Z = true) (hyn : y.name = "<init>") (hy : y.cls ≠ "java/lang/invoke/MethodHandle" ∧ y.cls ≠ "java/lang/invoke/VarHandle")
    {b : Addr} {argsL rest : List Value} (eT : T.heap = h) (M : Con l y bytes maxL none [] rm (.ref b :: argsL).toArray Z h Q) {W pc : Nat} (hf : rm.frames + 1 ≤ R.frames) (hl : W + (maxL + 11) + rm.locals ≤ R.locals) {Ls : Array Slot} (hsz : Ls.size = c.maxLocals)
    (hlen : ∀ sig, parseMethodDescriptor y.desc = some sig → argsL.length = sig.parameters.length) (hW : (rest.map fun v => v.category).sum ≤ W) (hd : decode c.code pc = .ok (.invokespecial index, 3)) (hc : cells + rm.cells ≤ R.cells) (hs : slots + rm.slots ≤ R.slots) {st : List Value} (hst : st = argsL.reverse ++ .ref b :: rest)
    (k : ∀ T' v L, Stand p l e R s m args below meth c T' (locs ++ L) (cells + rm.cells) (slots + rm.slots) → Q v T'.heap L → Ends wd p e below s Qb kc ks T' (mkF m (pc + 3) Ls (v.toList ++ rest))) :
    Ends wd p e below s Qb kc ks T (mkF m pc Ls st) := by
  obtain ⟨v, vm1, ⟨T1, L1, k1, n1⟩, -, X1, ⟨Lc, hQ, q1, q2, q3⟩, st1⟩ := X.specialBack hx hyn hown (mvT hZ w1) (mvT hZ w2) (mvT hZ w4) hy (backOf (W := W) M hZ w4 w3 hf hl) (g := mkF m pc Ls st) rfl hsz (Steps.refl _) (a := b) (argsL := argsL) (rest := rest) hlen hst (by show 2 * 0 + _ ≤ _; omega) hd (fun _ _ => ⟨rfl, eT, hc, hs⟩)
  dsimp only [Pt.U, Pt.locs, Pt.cells, Pt.slots] at X1 q1 q2 q3 st1 hQ
  subst q1 q2 q3
  exact Ends.go (fun t kt => st1.trans kt) (k T1 v Lc X1 hQ)
/-- an instance method by its contract -/
theorem Ends.callV (X : Stand p l e R s m args below meth c T locs cells slots) (hx : p.tables.exec = Jvm.exec) (hZ : Z.Warmed39 s.vm) {own C : String} (hown : s.vm.findClass own = some m.cls) {index : Nat} {y : MethodName} {bytes : ByteArray} {maxL : Nat} {rt : Option FieldType} {rm : Room} {Q : Option Value → Heap → List Loc → Prop}
    (w1 : (Jvm.Cond.methodLink own index y).before a0 Z = true) (w2 : (Jvm.Cond.declares y).before a0 Z = true) (w5 : (Jvm.Cond.selects C y y).before a0 Z = true) (w6 : (Jvm.Cond.instanceMethod y).before a0 Z = true) (w3 : (Jvm.Cond.initialized y.cls).before a0 Z = true) (w4 : (Jvm.Cond.code y bytes maxL rt).before a0 Z = true) (hy : y.cls ≠ "java/lang/invoke/MethodHandle" ∧ y.cls ≠ "java/lang/invoke/VarHandle")
    {b : Addr} {argsL rest : List Value} (eT : T.heap = h) (E : Exa Z h b C) (M : Con l y bytes maxL rt [] rm (.ref b :: argsL).toArray Z h Q) {W pc : Nat} (hf : rm.frames + 1 ≤ R.frames) (hl : W + (maxL + 11) + rm.locals ≤ R.locals) {Ls : Array Slot} (hsz : Ls.size = c.maxLocals)
    (hlen : ∀ sig, parseMethodDescriptor y.desc = some sig → argsL.length = sig.parameters.length) (hW : (rest.map fun v => v.category).sum ≤ W) (hd : decode c.code pc = .ok (.invokevirtual index, 3)) (hc : cells + rm.cells ≤ R.cells) (hs : slots + rm.slots ≤ R.slots) {st : List Value} (hst : st = argsL.reverse ++ .ref b :: rest)
    (k : ∀ T' v L, Stand p l e R s m args below meth c T' (locs ++ L) (cells + rm.cells) (slots + rm.slots) → Q v T'.heap L → Ends wd p e below s Qb kc ks T' (mkF m (pc + 3) Ls (v.toList ++ rest))) :
    Ends wd p e below s Qb kc ks T (mkF m pc Ls st) := by
  obtain ⟨cq, kq, qa, qb, qc⟩ := isOf (T := T) hZ eT E
  obtain ⟨v, vm1, ⟨T1, L1, k1, n1⟩, -, X1, ⟨Lc, hQ, q1, q2, q3⟩, st1⟩ := X.virtualBack hx (y := y) (z := y) hown (mvT hZ w1) (mvT hZ w2) (notFace_of_selects (args := #[]) (mvT hZ w5)) (mvT hZ w5) (mvT hZ w6) hy (backOf (W := W) M hZ w4 w3 hf hl) qa qc (g := mkF m pc Ls st) rfl hsz (Steps.refl _) (argsL := argsL) (rest := rest) hlen hst (by show 2 * 0 + _ ≤ _; omega) hd (fun _ _ => ⟨rfl, eT, hc, hs⟩)
  dsimp only [Pt.U, Pt.locs, Pt.cells, Pt.slots] at X1 q1 q2 q3 st1 hQ
  subst q1 q2 q3
  exact Ends.go (fun t kt => st1.trans kt) (k T1 v Lc X1 hQ)
end OwnKit
/-! own text, printed by mksteps.py: one lemma a plain instruction -/
section OwnSteps
variable {wd : Option (Vm → Heap → Prop)} {p : Program} {l : Launch} {e : Env} {R : Room} {s : State} {m : MethodId} {args : Array Value} {below : List Frame} {meth : Method} {c : Code} {T : State} {locs : List Loc} {cells slots : Nat} {Z : State} {a0 : Array Value} {h : Heap} {Qb : Option Value → Heap → List Loc → Prop} {kc ks : Nat} {Ls l' : Array Slot} {st : List Value} {pc q k : Nat} {kf : Fin 4} {k2 : Fin 2}
theorem E.iload {v : Int32} (X : Stand p l e R s m args below meth c T locs cells slots) (hx : p.tables.exec = Jvm.exec) (hd : decode c.code pc = .ok (.iload k, 2)) (hl : Ls[k]? = some (.val (.int v))) (k' : Ends wd p e below s Qb kc ks T (mkF m q Ls (.int v :: st))) (hq : pc + 2 = q := by rfl) : Ends wd p e below s Qb kc ks T (mkF m pc Ls st) := by
  subst hq; exact Ends.go (fun t => XS.iload X.here hx rfl hd hl) k'
theorem E.iloadN {v : Int32} (X : Stand p l e R s m args below meth c T locs cells slots) (hx : p.tables.exec = Jvm.exec) (hd : decode c.code pc = .ok (.iload_n kf, 1)) (hl : Ls[kf.val]? = some (.val (.int v))) (k' : Ends wd p e below s Qb kc ks T (mkF m q Ls (.int v :: st))) (hq : pc + 1 = q := by rfl) : Ends wd p e below s Qb kc ks T (mkF m pc Ls st) := by
  subst hq; exact Ends.go (fun t => XS.iloadN X.here hx rfl hd hl) k'
theorem E.istore {v : Int32} (X : Stand p l e R s m args below meth c T locs cells slots) (hx : p.tables.exec = Jvm.exec) (hd : decode c.code pc = .ok (.istore k, 2)) (hl : storeLocals Ls k (.int v) = some l') (k' : Ends wd p e below s Qb kc ks T (mkF m q l' st)) (hq : pc + 2 = q := by rfl) : Ends wd p e below s Qb kc ks T (mkF m pc Ls (.int v :: st)) := by
  subst hq; exact Ends.go (fun t => XS.istore X.here hx rfl hd rfl hl) k'
theorem E.istoreN {v : Int32} (X : Stand p l e R s m args below meth c T locs cells slots) (hx : p.tables.exec = Jvm.exec) (hd : decode c.code pc = .ok (.istore_n kf, 1)) (hl : storeLocals Ls kf.val (.int v) = some l') (k' : Ends wd p e below s Qb kc ks T (mkF m q l' st)) (hq : pc + 1 = q := by rfl) : Ends wd p e below s Qb kc ks T (mkF m pc Ls (.int v :: st)) := by
  subst hq; exact Ends.go (fun t => XS.istoreN X.here hx rfl hd rfl hl) k'
theorem E.lload {v : Int64} (X : Stand p l e R s m args below meth c T locs cells slots) (hx : p.tables.exec = Jvm.exec) (hd : decode c.code pc = .ok (.lload k, 2)) (hl : Ls[k]? = some (.val (.long v))) (k' : Ends wd p e below s Qb kc ks T (mkF m q Ls (.long v :: st))) (hq : pc + 2 = q := by rfl) : Ends wd p e below s Qb kc ks T (mkF m pc Ls st) := by
  subst hq; exact Ends.go (fun t => XS.lload X.here hx rfl hd hl) k'
theorem E.lloadN {v : Int64} (X : Stand p l e R s m args below meth c T locs cells slots) (hx : p.tables.exec = Jvm.exec) (hd : decode c.code pc = .ok (.lload_n kf, 1)) (hl : Ls[kf.val]? = some (.val (.long v))) (k' : Ends wd p e below s Qb kc ks T (mkF m q Ls (.long v :: st))) (hq : pc + 1 = q := by rfl) : Ends wd p e below s Qb kc ks T (mkF m pc Ls st) := by
  subst hq; exact Ends.go (fun t => XS.lloadN X.here hx rfl hd hl) k'
theorem E.lstore {v : Int64} (X : Stand p l e R s m args below meth c T locs cells slots) (hx : p.tables.exec = Jvm.exec) (hd : decode c.code pc = .ok (.lstore k, 2)) (hl : storeLocals Ls k (.long v) = some l') (k' : Ends wd p e below s Qb kc ks T (mkF m q l' st)) (hq : pc + 2 = q := by rfl) : Ends wd p e below s Qb kc ks T (mkF m pc Ls (.long v :: st)) := by
  subst hq; exact Ends.go (fun t => XS.lstore X.here hx rfl hd rfl hl) k'
theorem E.lstoreN {v : Int64} (X : Stand p l e R s m args below meth c T locs cells slots) (hx : p.tables.exec = Jvm.exec) (hd : decode c.code pc = .ok (.lstore_n kf, 1)) (hl : storeLocals Ls kf.val (.long v) = some l') (k' : Ends wd p e below s Qb kc ks T (mkF m q l' st)) (hq : pc + 1 = q := by rfl) : Ends wd p e below s Qb kc ks T (mkF m pc Ls (.long v :: st)) := by
  subst hq; exact Ends.go (fun t => XS.lstoreN X.here hx rfl hd rfl hl) k'
theorem E.dload {v : UInt64} (X : Stand p l e R s m args below meth c T locs cells slots) (hx : p.tables.exec = Jvm.exec) (hd : decode c.code pc = .ok (.dload k, 2)) (hl : Ls[k]? = some (.val (.double v))) (k' : Ends wd p e below s Qb kc ks T (mkF m q Ls (.double v :: st))) (hq : pc + 2 = q := by rfl) : Ends wd p e below s Qb kc ks T (mkF m pc Ls st) := by
  subst hq; exact Ends.go (fun t => XS.dload X.here hx rfl hd hl) k'
theorem E.dloadN {v : UInt64} (X : Stand p l e R s m args below meth c T locs cells slots) (hx : p.tables.exec = Jvm.exec) (hd : decode c.code pc = .ok (.dload_n kf, 1)) (hl : Ls[kf.val]? = some (.val (.double v))) (k' : Ends wd p e below s Qb kc ks T (mkF m q Ls (.double v :: st))) (hq : pc + 1 = q := by rfl) : Ends wd p e below s Qb kc ks T (mkF m pc Ls st) := by
  subst hq; exact Ends.go (fun t => XS.dloadN X.here hx rfl hd hl) k'
theorem E.dstore {v : UInt64} (X : Stand p l e R s m args below meth c T locs cells slots) (hx : p.tables.exec = Jvm.exec) (hd : decode c.code pc = .ok (.dstore k, 2)) (hl : storeLocals Ls k (.double v) = some l') (k' : Ends wd p e below s Qb kc ks T (mkF m q l' st)) (hq : pc + 2 = q := by rfl) : Ends wd p e below s Qb kc ks T (mkF m pc Ls (.double v :: st)) := by
  subst hq; exact Ends.go (fun t => XS.dstore X.here hx rfl hd rfl hl) k'
theorem E.dstoreN {v : UInt64} (X : Stand p l e R s m args below meth c T locs cells slots) (hx : p.tables.exec = Jvm.exec) (hd : decode c.code pc = .ok (.dstore_n kf, 1)) (hl : storeLocals Ls kf.val (.double v) = some l') (k' : Ends wd p e below s Qb kc ks T (mkF m q l' st)) (hq : pc + 1 = q := by rfl) : Ends wd p e below s Qb kc ks T (mkF m pc Ls (.double v :: st)) := by
  subst hq; exact Ends.go (fun t => XS.dstoreN X.here hx rfl hd rfl hl) k'
theorem E.aload {v : Value} (X : Stand p l e R s m args below meth c T locs cells slots) (hx : p.tables.exec = Jvm.exec) (hd : decode c.code pc = .ok (.aload k, 2)) (hl : Ls[k]? = some (.val v)) (hv : v.isRef = true) (k' : Ends wd p e below s Qb kc ks T (mkF m q Ls (v :: st))) (hq : pc + 2 = q := by rfl) : Ends wd p e below s Qb kc ks T (mkF m pc Ls st) := by
  subst hq; exact Ends.go (fun t => XS.aload X.here hx rfl hd hl hv) k'
theorem E.aloadN {v : Value} (X : Stand p l e R s m args below meth c T locs cells slots) (hx : p.tables.exec = Jvm.exec) (hd : decode c.code pc = .ok (.aload_n kf, 1)) (hl : Ls[kf.val]? = some (.val v)) (hv : v.isRef = true) (k' : Ends wd p e below s Qb kc ks T (mkF m q Ls (v :: st))) (hq : pc + 1 = q := by rfl) : Ends wd p e below s Qb kc ks T (mkF m pc Ls st) := by
  subst hq; exact Ends.go (fun t => XS.aloadN X.here hx rfl hd hl hv) k'
theorem E.astore {v : Value} (X : Stand p l e R s m args below meth c T locs cells slots) (hx : p.tables.exec = Jvm.exec) (hd : decode c.code pc = .ok (.astore k, 2)) (hv : v.isRef = true) (hl : storeLocals Ls k v = some l') (k' : Ends wd p e below s Qb kc ks T (mkF m q l' st)) (hq : pc + 2 = q := by rfl) : Ends wd p e below s Qb kc ks T (mkF m pc Ls (v :: st)) := by
  subst hq; exact Ends.go (fun t => XS.astore X.here hx rfl hd rfl hv hl) k'
theorem E.astoreN {v : Value} (X : Stand p l e R s m args below meth c T locs cells slots) (hx : p.tables.exec = Jvm.exec) (hd : decode c.code pc = .ok (.astore_n kf, 1)) (hv : v.isRef = true) (hl : storeLocals Ls kf.val v = some l') (k' : Ends wd p e below s Qb kc ks T (mkF m q l' st)) (hq : pc + 1 = q := by rfl) : Ends wd p e below s Qb kc ks T (mkF m pc Ls (v :: st)) := by
  subst hq; exact Ends.go (fun t => XS.astoreN X.here hx rfl hd rfl hv hl) k'
theorem E.iconst {i : Int} {v : Int32} (X : Stand p l e R s m args below meth c T locs cells slots) (hx : p.tables.exec = Jvm.exec) (hd : decode c.code pc = .ok (.iconst i, 1)) (hv : Int32.ofInt i = v) (k' : Ends wd p e below s Qb kc ks T (mkF m q Ls (.int v :: st))) (hq : pc + 1 = q := by rfl) : Ends wd p e below s Qb kc ks T (mkF m pc Ls st) := by
  subst hq; subst hv; exact Ends.go (fun t => XS.iconst X.here hx rfl hd) k'
theorem E.bipush {i : Int} {v : Int32} (X : Stand p l e R s m args below meth c T locs cells slots) (hx : p.tables.exec = Jvm.exec) (hd : decode c.code pc = .ok (.bipush i, 2)) (hv : (Int8.ofInt i).toInt32 = v) (k' : Ends wd p e below s Qb kc ks T (mkF m q Ls (.int v :: st))) (hq : pc + 2 = q := by rfl) : Ends wd p e below s Qb kc ks T (mkF m pc Ls st) := by
  subst hq; subst hv; exact Ends.go (fun t => XS.bipush X.here hx rfl hd) k'
theorem E.sipush {i : Int} {v : Int32} (X : Stand p l e R s m args below meth c T locs cells slots) (hx : p.tables.exec = Jvm.exec) (hd : decode c.code pc = .ok (.sipush i, 3)) (hv : (Int16.ofInt i).toInt32 = v) (k' : Ends wd p e below s Qb kc ks T (mkF m q Ls (.int v :: st))) (hq : pc + 3 = q := by rfl) : Ends wd p e below s Qb kc ks T (mkF m pc Ls st) := by
  subst hq; subst hv; exact Ends.go (fun t => XS.sipush X.here hx rfl hd) k'
theorem E.lconst {v : Int64} (X : Stand p l e R s m args below meth c T locs cells slots) (hx : p.tables.exec = Jvm.exec) (hd : decode c.code pc = .ok (.lconst k2, 1)) (hv : Int64.ofNat k2 = v) (k' : Ends wd p e below s Qb kc ks T (mkF m q Ls (.long v :: st))) (hq : pc + 1 = q := by rfl) : Ends wd p e below s Qb kc ks T (mkF m pc Ls st) := by
  subst hq; subst hv; exact Ends.go (fun t => XS.lconst X.here hx rfl hd) k'
theorem E.dconst0 {v : UInt64} (X : Stand p l e R s m args below meth c T locs cells slots) (hx : p.tables.exec = Jvm.exec) (hd : decode c.code pc = .ok (.dconst 0, 1)) (hv : FP.dconst0 = v) (k' : Ends wd p e below s Qb kc ks T (mkF m q Ls (.double v :: st))) (hq : pc + 1 = q := by rfl) : Ends wd p e below s Qb kc ks T (mkF m pc Ls st) := by
  subst hq; exact Ends.go (fun t => XS.dconst0 X.here hx rfl hd hv) k'
theorem E.dconst1 {v : UInt64} (X : Stand p l e R s m args below meth c T locs cells slots) (hx : p.tables.exec = Jvm.exec) (hd : decode c.code pc = .ok (.dconst 1, 1)) (hv : FP.dconst1 = v) (k' : Ends wd p e below s Qb kc ks T (mkF m q Ls (.double v :: st))) (hq : pc + 1 = q := by rfl) : Ends wd p e below s Qb kc ks T (mkF m pc Ls st) := by
  subst hq; exact Ends.go (fun t => XS.dconst1 X.here hx rfl hd hv) k'
theorem E.aconstNull  (X : Stand p l e R s m args below meth c T locs cells slots) (hx : p.tables.exec = Jvm.exec) (hd : decode c.code pc = .ok (.aconst_null, 1)) (k' : Ends wd p e below s Qb kc ks T (mkF m q Ls (.null :: st))) (hq : pc + 1 = q := by rfl) : Ends wd p e below s Qb kc ks T (mkF m pc Ls st) := by
  subst hq; exact Ends.go (fun t => XS.aconstNull X.here hx rfl hd) k'
theorem E.iadd {x y : Int32} (X : Stand p l e R s m args below meth c T locs cells slots) (hx : p.tables.exec = Jvm.exec) (hd : decode c.code pc = .ok (.iadd, 1)) (k' : Ends wd p e below s Qb kc ks T (mkF m q Ls (.int (x + y) :: st))) (hq : pc + 1 = q := by rfl) : Ends wd p e below s Qb kc ks T (mkF m pc Ls (.int y :: .int x :: st)) := by
  subst hq; exact Ends.go (fun t => XS.iadd X.here hx rfl hd rfl) k'
theorem E.isub {x y : Int32} (X : Stand p l e R s m args below meth c T locs cells slots) (hx : p.tables.exec = Jvm.exec) (hd : decode c.code pc = .ok (.isub, 1)) (k' : Ends wd p e below s Qb kc ks T (mkF m q Ls (.int (x - y) :: st))) (hq : pc + 1 = q := by rfl) : Ends wd p e below s Qb kc ks T (mkF m pc Ls (.int y :: .int x :: st)) := by
  subst hq; exact Ends.go (fun t => XS.isub X.here hx rfl hd rfl) k'
theorem E.imul {x y : Int32} (X : Stand p l e R s m args below meth c T locs cells slots) (hx : p.tables.exec = Jvm.exec) (hd : decode c.code pc = .ok (.imul, 1)) (k' : Ends wd p e below s Qb kc ks T (mkF m q Ls (.int (x * y) :: st))) (hq : pc + 1 = q := by rfl) : Ends wd p e below s Qb kc ks T (mkF m pc Ls (.int y :: .int x :: st)) := by
  subst hq; exact Ends.go (fun t => XS.imul X.here hx rfl hd rfl) k'
theorem E.iand {x y : Int32} (X : Stand p l e R s m args below meth c T locs cells slots) (hx : p.tables.exec = Jvm.exec) (hd : decode c.code pc = .ok (.iand, 1)) (k' : Ends wd p e below s Qb kc ks T (mkF m q Ls (.int (x &&& y) :: st))) (hq : pc + 1 = q := by rfl) : Ends wd p e below s Qb kc ks T (mkF m pc Ls (.int y :: .int x :: st)) := by
  subst hq; exact Ends.go (fun t => XS.iand X.here hx rfl hd rfl) k'
theorem E.ior {x y : Int32} (X : Stand p l e R s m args below meth c T locs cells slots) (hx : p.tables.exec = Jvm.exec) (hd : decode c.code pc = .ok (.ior, 1)) (k' : Ends wd p e below s Qb kc ks T (mkF m q Ls (.int (x ||| y) :: st))) (hq : pc + 1 = q := by rfl) : Ends wd p e below s Qb kc ks T (mkF m pc Ls (.int y :: .int x :: st)) := by
  subst hq; exact Ends.go (fun t => XS.ior X.here hx rfl hd rfl) k'
theorem E.ixor {x y : Int32} (X : Stand p l e R s m args below meth c T locs cells slots) (hx : p.tables.exec = Jvm.exec) (hd : decode c.code pc = .ok (.ixor, 1)) (k' : Ends wd p e below s Qb kc ks T (mkF m q Ls (.int (x ^^^ y) :: st))) (hq : pc + 1 = q := by rfl) : Ends wd p e below s Qb kc ks T (mkF m pc Ls (.int y :: .int x :: st)) := by
  subst hq; exact Ends.go (fun t => XS.ixor X.here hx rfl hd rfl) k'
theorem E.ladd {x y : Int64} (X : Stand p l e R s m args below meth c T locs cells slots) (hx : p.tables.exec = Jvm.exec) (hd : decode c.code pc = .ok (.ladd, 1)) (k' : Ends wd p e below s Qb kc ks T (mkF m q Ls (.long (x + y) :: st))) (hq : pc + 1 = q := by rfl) : Ends wd p e below s Qb kc ks T (mkF m pc Ls (.long y :: .long x :: st)) := by
  subst hq; exact Ends.go (fun t => XS.ladd X.here hx rfl hd rfl) k'
theorem E.lsub {x y : Int64} (X : Stand p l e R s m args below meth c T locs cells slots) (hx : p.tables.exec = Jvm.exec) (hd : decode c.code pc = .ok (.lsub, 1)) (k' : Ends wd p e below s Qb kc ks T (mkF m q Ls (.long (x - y) :: st))) (hq : pc + 1 = q := by rfl) : Ends wd p e below s Qb kc ks T (mkF m pc Ls (.long y :: .long x :: st)) := by
  subst hq; exact Ends.go (fun t => XS.lsub X.here hx rfl hd rfl) k'
theorem E.lmul {x y : Int64} (X : Stand p l e R s m args below meth c T locs cells slots) (hx : p.tables.exec = Jvm.exec) (hd : decode c.code pc = .ok (.lmul, 1)) (k' : Ends wd p e below s Qb kc ks T (mkF m q Ls (.long (x * y) :: st))) (hq : pc + 1 = q := by rfl) : Ends wd p e below s Qb kc ks T (mkF m pc Ls (.long y :: .long x :: st)) := by
  subst hq; exact Ends.go (fun t => XS.lmul X.here hx rfl hd rfl) k'
theorem E.land {x y : Int64} (X : Stand p l e R s m args below meth c T locs cells slots) (hx : p.tables.exec = Jvm.exec) (hd : decode c.code pc = .ok (.land, 1)) (k' : Ends wd p e below s Qb kc ks T (mkF m q Ls (.long (x &&& y) :: st))) (hq : pc + 1 = q := by rfl) : Ends wd p e below s Qb kc ks T (mkF m pc Ls (.long y :: .long x :: st)) := by
  subst hq; exact Ends.go (fun t => XS.land X.here hx rfl hd rfl) k'
theorem E.lor {x y : Int64} (X : Stand p l e R s m args below meth c T locs cells slots) (hx : p.tables.exec = Jvm.exec) (hd : decode c.code pc = .ok (.lor, 1)) (k' : Ends wd p e below s Qb kc ks T (mkF m q Ls (.long (x ||| y) :: st))) (hq : pc + 1 = q := by rfl) : Ends wd p e below s Qb kc ks T (mkF m pc Ls (.long y :: .long x :: st)) := by
  subst hq; exact Ends.go (fun t => XS.lor X.here hx rfl hd rfl) k'
theorem E.lxor {x y : Int64} (X : Stand p l e R s m args below meth c T locs cells slots) (hx : p.tables.exec = Jvm.exec) (hd : decode c.code pc = .ok (.lxor, 1)) (k' : Ends wd p e below s Qb kc ks T (mkF m q Ls (.long (x ^^^ y) :: st))) (hq : pc + 1 = q := by rfl) : Ends wd p e below s Qb kc ks T (mkF m pc Ls (.long y :: .long x :: st)) := by
  subst hq; exact Ends.go (fun t => XS.lxor X.here hx rfl hd rfl) k'
theorem E.ishl {x : Int32} {y : Int32} (X : Stand p l e R s m args below meth c T locs cells slots) (hx : p.tables.exec = Jvm.exec) (hd : decode c.code pc = .ok (.ishl, 1)) (k' : Ends wd p e below s Qb kc ks T (mkF m q Ls (.int (x <<< (y &&& 31)) :: st))) (hq : pc + 1 = q := by rfl) : Ends wd p e below s Qb kc ks T (mkF m pc Ls (.int y :: .int x :: st)) := by
  subst hq; exact Ends.go (fun t => XS.ishl X.here hx rfl hd rfl) k'
theorem E.ishr {x : Int32} {y : Int32} (X : Stand p l e R s m args below meth c T locs cells slots) (hx : p.tables.exec = Jvm.exec) (hd : decode c.code pc = .ok (.ishr, 1)) (k' : Ends wd p e below s Qb kc ks T (mkF m q Ls (.int (x >>> (y &&& 31)) :: st))) (hq : pc + 1 = q := by rfl) : Ends wd p e below s Qb kc ks T (mkF m pc Ls (.int y :: .int x :: st)) := by
  subst hq; exact Ends.go (fun t => XS.ishr X.here hx rfl hd rfl) k'
theorem E.iushr {x : Int32} {y : Int32} (X : Stand p l e R s m args below meth c T locs cells slots) (hx : p.tables.exec = Jvm.exec) (hd : decode c.code pc = .ok (.iushr, 1)) (k' : Ends wd p e below s Qb kc ks T (mkF m q Ls (.int ((x.toUInt32 >>> (y &&& 31).toUInt32).toInt32) :: st))) (hq : pc + 1 = q := by rfl) : Ends wd p e below s Qb kc ks T (mkF m pc Ls (.int y :: .int x :: st)) := by
  subst hq; exact Ends.go (fun t => XS.iushr X.here hx rfl hd rfl) k'
theorem E.lshl {x : Int64} {y : Int32} (X : Stand p l e R s m args below meth c T locs cells slots) (hx : p.tables.exec = Jvm.exec) (hd : decode c.code pc = .ok (.lshl, 1)) (k' : Ends wd p e below s Qb kc ks T (mkF m q Ls (.long (x <<< (y &&& 0x3f).toInt64) :: st))) (hq : pc + 1 = q := by rfl) : Ends wd p e below s Qb kc ks T (mkF m pc Ls (.int y :: .long x :: st)) := by
  subst hq; exact Ends.go (fun t => XS.lshl X.here hx rfl hd rfl) k'
theorem E.lshr {x : Int64} {y : Int32} (X : Stand p l e R s m args below meth c T locs cells slots) (hx : p.tables.exec = Jvm.exec) (hd : decode c.code pc = .ok (.lshr, 1)) (k' : Ends wd p e below s Qb kc ks T (mkF m q Ls (.long (x >>> (y &&& 0x3f).toInt64) :: st))) (hq : pc + 1 = q := by rfl) : Ends wd p e below s Qb kc ks T (mkF m pc Ls (.int y :: .long x :: st)) := by
  subst hq; exact Ends.go (fun t => XS.lshr X.here hx rfl hd rfl) k'
theorem E.lushr {x : Int64} {y : Int32} (X : Stand p l e R s m args below meth c T locs cells slots) (hx : p.tables.exec = Jvm.exec) (hd : decode c.code pc = .ok (.lushr, 1)) (k' : Ends wd p e below s Qb kc ks T (mkF m q Ls (.long ((x.toUInt64 >>> (y &&& 0x3f).toInt64.toUInt64).toInt64) :: st))) (hq : pc + 1 = q := by rfl) : Ends wd p e below s Qb kc ks T (mkF m pc Ls (.int y :: .long x :: st)) := by
  subst hq; exact Ends.go (fun t => XS.lushr X.here hx rfl hd rfl) k'
theorem E.ineg {x : Int32} (X : Stand p l e R s m args below meth c T locs cells slots) (hx : p.tables.exec = Jvm.exec) (hd : decode c.code pc = .ok (.ineg, 1)) (k' : Ends wd p e below s Qb kc ks T (mkF m q Ls (.int (-x) :: st))) (hq : pc + 1 = q := by rfl) : Ends wd p e below s Qb kc ks T (mkF m pc Ls (.int x :: st)) := by
  subst hq; exact Ends.go (fun t => XS.ineg X.here hx rfl hd rfl) k'
theorem E.lneg {x : Int64} (X : Stand p l e R s m args below meth c T locs cells slots) (hx : p.tables.exec = Jvm.exec) (hd : decode c.code pc = .ok (.lneg, 1)) (k' : Ends wd p e below s Qb kc ks T (mkF m q Ls (.long (-x) :: st))) (hq : pc + 1 = q := by rfl) : Ends wd p e below s Qb kc ks T (mkF m pc Ls (.long x :: st)) := by
  subst hq; exact Ends.go (fun t => XS.lneg X.here hx rfl hd rfl) k'
theorem E.i2l {x : Int32} (X : Stand p l e R s m args below meth c T locs cells slots) (hx : p.tables.exec = Jvm.exec) (hd : decode c.code pc = .ok (.i2l, 1)) (k' : Ends wd p e below s Qb kc ks T (mkF m q Ls (.long (x.toInt64) :: st))) (hq : pc + 1 = q := by rfl) : Ends wd p e below s Qb kc ks T (mkF m pc Ls (.int x :: st)) := by
  subst hq; exact Ends.go (fun t => XS.i2l X.here hx rfl hd rfl) k'
theorem E.l2i {x : Int64} (X : Stand p l e R s m args below meth c T locs cells slots) (hx : p.tables.exec = Jvm.exec) (hd : decode c.code pc = .ok (.l2i, 1)) (k' : Ends wd p e below s Qb kc ks T (mkF m q Ls (.int (x.toInt32) :: st))) (hq : pc + 1 = q := by rfl) : Ends wd p e below s Qb kc ks T (mkF m pc Ls (.long x :: st)) := by
  subst hq; exact Ends.go (fun t => XS.l2i X.here hx rfl hd rfl) k'
theorem E.i2b {x : Int32} (X : Stand p l e R s m args below meth c T locs cells slots) (hx : p.tables.exec = Jvm.exec) (hd : decode c.code pc = .ok (.i2b, 1)) (k' : Ends wd p e below s Qb kc ks T (mkF m q Ls (.int (x.toInt8.toInt32) :: st))) (hq : pc + 1 = q := by rfl) : Ends wd p e below s Qb kc ks T (mkF m pc Ls (.int x :: st)) := by
  subst hq; exact Ends.go (fun t => XS.i2b X.here hx rfl hd rfl) k'
theorem E.i2s {x : Int32} (X : Stand p l e R s m args below meth c T locs cells slots) (hx : p.tables.exec = Jvm.exec) (hd : decode c.code pc = .ok (.i2s, 1)) (k' : Ends wd p e below s Qb kc ks T (mkF m q Ls (.int (x.toInt16.toInt32) :: st))) (hq : pc + 1 = q := by rfl) : Ends wd p e below s Qb kc ks T (mkF m pc Ls (.int x :: st)) := by
  subst hq; exact Ends.go (fun t => XS.i2s X.here hx rfl hd rfl) k'
theorem E.i2c {x : Int32} (X : Stand p l e R s m args below meth c T locs cells slots) (hx : p.tables.exec = Jvm.exec) (hd : decode c.code pc = .ok (.i2c, 1)) (k' : Ends wd p e below s Qb kc ks T (mkF m q Ls (.int (x.toUInt32.toUInt16.toUInt32.toInt32) :: st))) (hq : pc + 1 = q := by rfl) : Ends wd p e below s Qb kc ks T (mkF m pc Ls (.int x :: st)) := by
  subst hq; exact Ends.go (fun t => XS.i2c X.here hx rfl hd rfl) k'
theorem E.i2d {x : Int32} (X : Stand p l e R s m args below meth c T locs cells slots) (hx : p.tables.exec = Jvm.exec) (hd : decode c.code pc = .ok (.i2d, 1)) (k' : Ends wd p e below s Qb kc ks T (mkF m q Ls (.double (FP.i2d x) :: st))) (hq : pc + 1 = q := by rfl) : Ends wd p e below s Qb kc ks T (mkF m pc Ls (.int x :: st)) := by
  subst hq; exact Ends.go (fun t => XS.i2dS X.here hx rfl hd rfl rfl) k'
theorem E.dmul {x y : UInt64} (X : Stand p l e R s m args below meth c T locs cells slots) (hx : p.tables.exec = Jvm.exec) (hd : decode c.code pc = .ok (.dmul, 1)) (hn : Jvm.Free.Fl.NoNaN64 (FP.dmul x y)) (k' : Ends wd p e below s Qb kc ks T (mkF m q Ls (.double (FP.dmul x y) :: st))) (hq : pc + 1 = q := by rfl) : Ends wd p e below s Qb kc ks T (mkF m pc Ls (.double y :: .double x :: st)) := by
  subst hq; exact Ends.go (fun t => XS.dmulS X.here hx rfl hd rfl hn rfl) k'
theorem E.lcmp {x y : Int64} (X : Stand p l e R s m args below meth c T locs cells slots) (hx : p.tables.exec = Jvm.exec) (hd : decode c.code pc = .ok (.lcmp, 1)) (k' : Ends wd p e below s Qb kc ks T (mkF m q Ls (.int (lcmpW x y) :: st))) (hq : pc + 1 = q := by rfl) : Ends wd p e below s Qb kc ks T (mkF m pc Ls (.long y :: .long x :: st)) := by
  subst hq; exact Ends.go (fun t => XS.lcmp X.here hx rfl hd rfl) k'
theorem E.dcmp {x y : UInt64} {o : CmpOp} (X : Stand p l e R s m args below meth c T locs cells slots) (hx : p.tables.exec = Jvm.exec) (hd : decode c.code pc = .ok (.dcmp o, 1)) (k' : Ends wd p e below s Qb kc ks T (mkF m q Ls (.int (cmpValue (FP.dcmp x y) o) :: st))) (hq : pc + 1 = q := by rfl) : Ends wd p e below s Qb kc ks T (mkF m pc Ls (.double y :: .double x :: st)) := by
  subst hq; exact Ends.go (fun t => XS.dcmpS X.here hx rfl hd rfl rfl) k'
theorem E.idiv {x y : Int32} (X : Stand p l e R s m args below meth c T locs cells slots) (hx : p.tables.exec = Jvm.exec) (hd : decode c.code pc = .ok (.idiv, 1)) (hy : ¬ y = 0) (k' : Ends wd p e below s Qb kc ks T (mkF m q Ls (.int (x / y) :: st))) (hq : pc + 1 = q := by rfl) : Ends wd p e below s Qb kc ks T (mkF m pc Ls (.int y :: .int x :: st)) := by
  subst hq; exact Ends.go (fun t => XS.idiv X.here hx rfl hd rfl hy) k'
theorem E.irem {x y : Int32} (X : Stand p l e R s m args below meth c T locs cells slots) (hx : p.tables.exec = Jvm.exec) (hd : decode c.code pc = .ok (.irem, 1)) (hy : ¬ y = 0) (k' : Ends wd p e below s Qb kc ks T (mkF m q Ls (.int (x % y) :: st))) (hq : pc + 1 = q := by rfl) : Ends wd p e below s Qb kc ks T (mkF m pc Ls (.int y :: .int x :: st)) := by
  subst hq; exact Ends.go (fun t => iremM X hx rfl hd rfl hy) k'
theorem E.ldiv {x y : Int64} (X : Stand p l e R s m args below meth c T locs cells slots) (hx : p.tables.exec = Jvm.exec) (hd : decode c.code pc = .ok (.ldiv, 1)) (hy : ¬ y = 0) (k' : Ends wd p e below s Qb kc ks T (mkF m q Ls (.long (x / y) :: st))) (hq : pc + 1 = q := by rfl) : Ends wd p e below s Qb kc ks T (mkF m pc Ls (.long y :: .long x :: st)) := by
  subst hq; exact Ends.go (fun t => XS.ldiv X.here hx rfl hd rfl hy) k'
theorem E.lrem {x y : Int64} (X : Stand p l e R s m args below meth c T locs cells slots) (hx : p.tables.exec = Jvm.exec) (hd : decode c.code pc = .ok (.lrem, 1)) (hy : ¬ y = 0) (k' : Ends wd p e below s Qb kc ks T (mkF m q Ls (.long (x - (x / y) * y) :: st))) (hq : pc + 1 = q := by rfl) : Ends wd p e below s Qb kc ks T (mkF m pc Ls (.long y :: .long x :: st)) := by
  subst hq; exact Ends.go (fun t => XS.lrem X.here hx rfl hd rfl hy) k'
theorem E.iinc {x v : Int32} {cst : Int} (X : Stand p l e R s m args below meth c T locs cells slots) (hx : p.tables.exec = Jvm.exec) (hd : decode c.code pc = .ok (.iinc k cst, 3)) (hl : Ls[k]? = some (.val (.int x))) (hv : x + Int32.ofInt cst = v) (hl' : storeLocals Ls k (.int v) = some l') (k' : Ends wd p e below s Qb kc ks T (mkF m q l' st)) (hq : pc + 3 = q := by rfl) : Ends wd p e below s Qb kc ks T (mkF m pc Ls st) := by
  subst hq; subst hv; exact Ends.go (fun t => XS.iinc X.here hx rfl hd hl hl') k'
theorem E.dup {v : Value} (X : Stand p l e R s m args below meth c T locs cells slots) (hx : p.tables.exec = Jvm.exec) (hd : decode c.code pc = .ok (.dup, 1)) (hc : v.category = 1) (k' : Ends wd p e below s Qb kc ks T (mkF m q Ls (v :: v :: st))) (hq : pc + 1 = q := by rfl) : Ends wd p e below s Qb kc ks T (mkF m pc Ls (v :: st)) := by
  subst hq; exact Ends.go (fun t => XS.dup X.here hx rfl hd rfl hc) k'
theorem E.pop {v : Value} (X : Stand p l e R s m args below meth c T locs cells slots) (hx : p.tables.exec = Jvm.exec) (hd : decode c.code pc = .ok (.pop, 1)) (hc : v.category = 1) (k' : Ends wd p e below s Qb kc ks T (mkF m q Ls st)) (hq : pc + 1 = q := by rfl) : Ends wd p e below s Qb kc ks T (mkF m pc Ls (v :: st)) := by
  subst hq; exact Ends.go (fun t => XS.pop X.here hx rfl hd rfl hc) k'
theorem E.dupX1 {v w : Value} (X : Stand p l e R s m args below meth c T locs cells slots) (hx : p.tables.exec = Jvm.exec) (hd : decode c.code pc = .ok (.dup_x1, 1)) (hc : v.category = 1) (hc2 : w.category = 1) (k' : Ends wd p e below s Qb kc ks T (mkF m q Ls (v :: w :: v :: st))) (hq : pc + 1 = q := by rfl) : Ends wd p e below s Qb kc ks T (mkF m pc Ls (v :: w :: st)) := by
  subst hq; exact Ends.go (fun t => XS.dupX1 X.here hx rfl hd rfl hc hc2) k'
theorem E.icmpY {x y : Int32} {cd : ClassFile.Cond} {o : Int} (X : Stand p l e R s m args below meth c T locs cells slots) (hx : p.tables.exec = Jvm.exec) (hd : decode c.code pc = .ok (.if_icmp cd o, 3)) (hc : if_icmp.holds cd x y = true) (k' : Ends wd p e below s Qb kc ks T (mkF m q Ls st)) (ho : 0 ≤ (pc : Int) + o := by decide) (hq : ((pc : Int) + o).toNat = q := by decide) : Ends wd p e below s Qb kc ks T (mkF m pc Ls (.int y :: .int x :: st)) :=
  Ends.go (fun t => XS.icmpYes X.here hx rfl rfl hd rfl hc ho hq) k'
theorem E.icmpN {x y : Int32} {cd : ClassFile.Cond} {o : Int} (X : Stand p l e R s m args below meth c T locs cells slots) (hx : p.tables.exec = Jvm.exec) (hd : decode c.code pc = .ok (.if_icmp cd o, 3)) (hc : if_icmp.holds cd x y = false) (k' : Ends wd p e below s Qb kc ks T (mkF m q Ls st)) (hq : pc + 3 = q := by rfl) : Ends wd p e below s Qb kc ks T (mkF m pc Ls (.int y :: .int x :: st)) := by
  subst hq; exact Ends.go (fun t => XS.icmpNo X.here hx rfl hd rfl hc) k'
theorem E.ifY {x : Int32} {cd : ClassFile.Cond} {o : Int} (X : Stand p l e R s m args below meth c T locs cells slots) (hx : p.tables.exec = Jvm.exec) (hd : decode c.code pc = .ok (.ifCond cd o, 3)) (hc : ifCond.holds cd x = true) (k' : Ends wd p e below s Qb kc ks T (mkF m q Ls st)) (ho : 0 ≤ (pc : Int) + o := by decide) (hq : ((pc : Int) + o).toNat = q := by decide) : Ends wd p e below s Qb kc ks T (mkF m pc Ls (.int x :: st)) :=
  Ends.go (fun t => XS.ifYes X.here hx rfl rfl hd rfl hc ho hq) k'
theorem E.ifN {x : Int32} {cd : ClassFile.Cond} {o : Int} (X : Stand p l e R s m args below meth c T locs cells slots) (hx : p.tables.exec = Jvm.exec) (hd : decode c.code pc = .ok (.ifCond cd o, 3)) (hc : ifCond.holds cd x = false) (k' : Ends wd p e below s Qb kc ks T (mkF m q Ls st)) (hq : pc + 3 = q := by rfl) : Ends wd p e below s Qb kc ks T (mkF m pc Ls (.int x :: st)) := by
  subst hq; exact Ends.go (fun t => XS.ifNo X.here hx rfl hd rfl hc) k'
theorem E.goto {o : Int} (X : Stand p l e R s m args below meth c T locs cells slots) (hx : p.tables.exec = Jvm.exec) (hd : decode c.code pc = .ok (.goto o, 3)) (k' : Ends wd p e below s Qb kc ks T (mkF m q Ls st)) (ho : 0 ≤ (pc : Int) + o := by decide) (hq : ((pc : Int) + o).toNat = q := by decide) : Ends wd p e below s Qb kc ks T (mkF m pc Ls st) :=
  Ends.go (fun t => XS.goto X.here hx rfl rfl hd ho hq) k'
theorem E.nullY {o : Int} (X : Stand p l e R s m args below meth c T locs cells slots) (hx : p.tables.exec = Jvm.exec) (hd : decode c.code pc = .ok (.ifnull o, 3)) (k' : Ends wd p e below s Qb kc ks T (mkF m q Ls st)) (ho : 0 ≤ (pc : Int) + o := by decide) (hq : ((pc : Int) + o).toNat = q := by decide) : Ends wd p e below s Qb kc ks T (mkF m pc Ls (.null :: st)) :=
  Ends.go (fun t => XS.ifnullYes X.here hx rfl rfl hd rfl ho hq) k'
theorem E.nullN {o : Int} {b : Addr} (X : Stand p l e R s m args below meth c T locs cells slots) (hx : p.tables.exec = Jvm.exec) (hd : decode c.code pc = .ok (.ifnull o, 3)) (k' : Ends wd p e below s Qb kc ks T (mkF m q Ls st)) (hq : pc + 3 = q := by rfl) : Ends wd p e below s Qb kc ks T (mkF m pc Ls (.ref b :: st)) := by
  subst hq; exact Ends.go (fun t => XS.ifnullNo X.here hx rfl hd rfl) k'
theorem E.nonnullY {o : Int} {b : Addr} (X : Stand p l e R s m args below meth c T locs cells slots) (hx : p.tables.exec = Jvm.exec) (hd : decode c.code pc = .ok (.ifnonnull o, 3)) (k' : Ends wd p e below s Qb kc ks T (mkF m q Ls st)) (ho : 0 ≤ (pc : Int) + o := by decide) (hq : ((pc : Int) + o).toNat = q := by decide) : Ends wd p e below s Qb kc ks T (mkF m pc Ls (.ref b :: st)) :=
  Ends.go (fun t => XS.ifnonnullYes X.here hx rfl rfl hd rfl ho hq) k'
theorem E.nonnullN {o : Int} (X : Stand p l e R s m args below meth c T locs cells slots) (hx : p.tables.exec = Jvm.exec) (hd : decode c.code pc = .ok (.ifnonnull o, 3)) (k' : Ends wd p e below s Qb kc ks T (mkF m q Ls st)) (hq : pc + 3 = q := by rfl) : Ends wd p e below s Qb kc ks T (mkF m pc Ls (.null :: st)) := by
  subst hq; exact Ends.go (fun t => XS.ifnonnullNo X.here hx rfl hd rfl) k'
theorem E.ldc {v : Int32} {own : String} {index : Nat} (X : Stand p l e R s m args below meth c T locs cells slots) (hx : p.tables.exec = Jvm.exec) (hZ : Z.Warmed39 s.vm) (hown : s.vm.findClass own = some m.cls) (hc : (Jvm.Cond.constant own index v).before a0 Z = true) (hd : decode c.code pc = .ok (.ldc index, 2)) (k' : Ends wd p e below s Qb kc ks T (mkF m q Ls (.int v :: st))) (hq : pc + 2 = q := by rfl) : Ends wd p e below s Qb kc ks T (mkF m pc Ls st) := by
  subst hq; exact Ends.go (fun t => X.ldcI hx hown (mvT hZ hc) rfl hd) k'
theorem E.ldcW {v : Int32} {own : String} {index : Nat} (X : Stand p l e R s m args below meth c T locs cells slots) (hx : p.tables.exec = Jvm.exec) (hZ : Z.Warmed39 s.vm) (hown : s.vm.findClass own = some m.cls) (hc : (Jvm.Cond.constant own index v).before a0 Z = true) (hd : decode c.code pc = .ok (.ldc_w index, 3)) (k' : Ends wd p e below s Qb kc ks T (mkF m q Ls (.int v :: st))) (hq : pc + 3 = q := by rfl) : Ends wd p e below s Qb kc ks T (mkF m pc Ls st) := by
  subst hq; exact Ends.go (fun t => X.ldcWI hx hown (mvT hZ hc) rfl hd) k'
theorem E.ldc2 {v : Int64} {own : String} {index : Nat} (X : Stand p l e R s m args below meth c T locs cells slots) (hx : p.tables.exec = Jvm.exec) (hZ : Z.Warmed39 s.vm) (hown : s.vm.findClass own = some m.cls) (hc : (Jvm.Cond.constantLong own index v).before a0 Z = true) (hd : decode c.code pc = .ok (.ldc2_w index, 3)) (k' : Ends wd p e below s Qb kc ks T (mkF m q Ls (.long v :: st))) (hq : pc + 3 = q := by rfl) : Ends wd p e below s Qb kc ks T (mkF m pc Ls st) := by
  subst hq; exact Ends.go (fun t => X.ldc2J hx hown (mvT hZ hc) rfl hd) k'
end OwnSteps
/-! own text: arrays by their whole contents; what a body may have done to the heap -/
section OwnHeap
variable {wd : Option (Vm → Heap → Prop)} {p : Program} {l : Launch} {e : Env} {R : Room} {s : State} {m : MethodId} {args : Array Value} {below : List Frame} {meth : Method} {c : Code} {T : State} {locs : List Loc} {cells slots : Nat} {Z : State} {a0 : Array Value} {h h' h0 : Heap} {Qb : Option Value → Heap → List Loc → Prop} {kc ks : Nat} {a b : Addr} {ty : FieldType} {vs : List Value} {v : Value} {sl i : Nat} {ws ws' : List Addr} {L L' : List Loc} {pc : Nat} {Ls : Array Slot} {st : List Value} {j : Int32}
def Ary (Z : State) (h : Heap) (a : Addr) (ty : FieldType) (vs : List Value) : Prop := ∃ c : Cell, Arr Z h a c ty ∧ c.slots = vs.toArray ∧ vs.length < 2 ^ 31
theorem Ary.lt (A : Ary Z h a ty vs) : a < h.size := by obtain ⟨c, A, -⟩ := A; exact A.lt
theorem Ary.ext (E : Ext h h') (A : Ary Z h a ty vs) : Ary Z h' a ty vs := by obtain ⟨c, A, r⟩ := A; exact ⟨c, A.ext E, r⟩
theorem Ary.other (W : Wr h h' b sl v) (A : Ary Z h a ty vs) (q : a ≠ b) : Ary Z h' a ty vs := by obtain ⟨c, A, r⟩ := A; exact ⟨c, Arr.other W A q, r⟩
theorem Ary.keep (A : Ary Z h a ty vs) (K : Keep h h' ws) (q : a ∉ ws) : Ary Z h' a ty vs := by obtain ⟨c, A, r⟩ := A; exact ⟨c, ⟨K.2.1 a c A.1 q, A.2⟩, r⟩
theorem Ary.set (A : Ary Z h a ty vs) (W : Wr h h' a i v) : Ary Z h' a ty (vs.set i v) := by
  obtain ⟨c, A, e, l⟩ := A
  refine ⟨c.setSlot i v, Arr.same W A, ?_, by rw [List.length_set]; exact l⟩
  show c.slots.setIfInBounds i v = _
  rw [e]; simp
theorem own_ofNat {i : Nat} (h : i < 2 ^ 31) : (Int32.ofNat i).toInt = (i : Int) := by
  rw [Int32.toInt_ofNat_of_lt h]
theorem own_clamp {i : Nat} (h : i < 2 ^ 31) : (Int32.ofNat i).toNatClampNeg = i ∧ ¬ (Int32.ofNat i) < 0 := by
  have q := own_ofNat h
  refine ⟨?_, ?_⟩
  · show (Int32.ofNat i).toInt.toNat = i
    omega
  · rw [Int32.lt_iff_toInt_lt]
    have : (0 : Int32).toInt = 0 := by decide
    omega
theorem Ary.new {k : ClassId} {n : Int32} {N : Nat} (A : Arr Z h a (newA k ty n) ty) (hn : n = Int32.ofNat N) (hN : N < 2 ^ 31) : Ary Z h a ty (List.replicate N (defaultValue ty)) := by
  refine ⟨_, A, ?_, by rw [List.length_replicate]; exact hN⟩
  subst hn
  show Array.replicate (Int32.ofNat N).toNatClampNeg (defaultValue ty) = _
  rw [(own_clamp hN).1]; simp
theorem own_inb {c : Cell} (e : c.slots = vs.toArray) (l : vs.length < 2 ^ 31) (hj : j = Int32.ofNat i) (hi : i < vs.length) : ¬ (j < 0 ∨ c.slots.size ≤ j.toNatClampNeg) := by
  subst hj
  have q := own_clamp (i := i) (by omega)
  rw [q.1, e]
  rintro (r | r)
  · exact q.2 r
  · simp at r; omega
theorem own_at {c : Cell} (e : c.slots = vs.toArray) (l : vs.length < 2 ^ 31) (hj : j = Int32.ofNat i) (hv : vs[i]? = some v) : ¬ (j < 0 ∨ c.slots.size ≤ j.toNatClampNeg) ∧ c.slots[j.toNatClampNeg]? = some v := by
  have hi : i < vs.length := (List.getElem?_eq_some_iff.mp hv).1
  refine ⟨own_inb e l hj hi, ?_⟩
  subst hj
  rw [(own_clamp (i := i) (by omega)).1, e]
  simpa using hv
/-- what the walk has done so far: of the elder cells only those in ws are written -/
def Ok (h0 h : Heap) (ws : List Addr) (L : List Loc) : Prop := Keep h0 h ws ∧ ∀ y ∈ L, y.base ∈ ws ∨ h0.size ≤ y.base
theorem Ok.refl (h : Heap) (ws : List Addr) : Ok h h ws [] := ⟨Keep.refl h ws, fun _ q => nomatch q⟩
theorem Ok.ext (O : Ok h0 h ws L) (E : Ext h h') : Ok h0 h' ws L := ⟨O.1.ext E, O.2⟩
theorem Ok.wr (O : Ok h0 h ws L) (W : Wr h h' a sl v) (q : a ∈ ws ∨ h0.size ≤ a) : Ok h0 h' ws (L ++ [⟨a, sl⟩]) :=
  ⟨O.1.wr W q, fun y hy => (List.mem_append.mp hy).elim (O.2 y) fun r => by cases List.mem_singleton.mp r; exact q⟩
theorem Ok.call (O : Ok h0 h ws L) (O' : Ok h h' ws' L') (q : ∀ x ∈ ws', x ∈ ws ∨ h0.size ≤ x) : Ok h0 h' ws (L ++ L') :=
  ⟨O.1.trans O'.1 q, fun y hy => (List.mem_append.mp hy).elim (O.2 y) fun r => (O'.2 y r).elim (q _) fun u => Or.inr (Nat.le_trans O.1.1 u)⟩
theorem Ok.fr (O : Ok h0 h [] L) : Fr h0.size L := fun y hy => (O.2 y hy).elim (fun q => nomatch q) id
theorem Ok.le (O : Ok h0 h ws L) : h0.size ≤ h.size := O.1.1
theorem Ends.alen (X : Stand p l e R s m args below meth c T locs cells slots) (hx : p.tables.exec = Jvm.exec) (hZ : Z.Warmed39 s.vm) (eT : T.heap = h) (A : Ary Z h a ty vs) (hd : decode c.code pc = .ok (.arraylength, 1)) {n : Int32} (hn : Int32.ofNat vs.length = n)
    (k : Ends wd p e below s Qb kc ks T (mkF m (pc + 1) Ls (.int n :: st))) : Ends wd p e below s Qb kc ks T (mkF m pc Ls (.ref a :: st)) := by
  obtain ⟨cl, A, q, -⟩ := A
  refine Ends.go (fun t => X.arraylength hx (cell := cl) (by rw [eT]; exact A.1) (State.isArrayOf_alike hZ.alike A.2.1) (g := mkF m pc Ls (.ref a :: st)) rfl (rest := st) rfl hd t) ?_
  have e1 : cl.slots.size.toInt32 = n := by rw [q, ← hn]; simp
  rw [e1]; exact k
theorem Ends.ild (X : Stand p l e R s m args below meth c T locs cells slots) (hx : p.tables.exec = Jvm.exec) (hZ : Z.Warmed39 s.vm) (eT : T.heap = h) (A : Ary Z h a .int vs) (hj : j = Int32.ofNat i) (hv : vs[i]? = some v) (hd : decode c.code pc = .ok (.iaload, 1))
    (k : Ends wd p e below s Qb kc ks T (mkF m (pc + 1) Ls (v :: st))) : Ends wd p e below s Qb kc ks T (mkF m pc Ls (.int j :: .ref a :: st)) := by
  obtain ⟨cl, A, q, q2⟩ := A
  obtain ⟨r1, r2⟩ := own_at q q2 hj hv
  exact Ends.go (fun t => X.iaload hx (by rw [eT]; exact A.1) (State.isArrayOf_alike hZ.alike A.2.1) A.2.2 r1 r2 (g := mkF m pc Ls (.int j :: .ref a :: st)) rfl rfl hd t) k
theorem Ends.cld (X : Stand p l e R s m args below meth c T locs cells slots) (hx : p.tables.exec = Jvm.exec) (hZ : Z.Warmed39 s.vm) (eT : T.heap = h) (A : Ary Z h a .char vs) (hj : j = Int32.ofNat i) (hv : vs[i]? = some v) (hd : decode c.code pc = .ok (.caload, 1))
    (k : Ends wd p e below s Qb kc ks T (mkF m (pc + 1) Ls (v :: st))) : Ends wd p e below s Qb kc ks T (mkF m pc Ls (.int j :: .ref a :: st)) := by
  obtain ⟨cl, A, q, q2⟩ := A
  obtain ⟨r1, r2⟩ := own_at q q2 hj hv
  exact Ends.go (fun t => X.caload hx (by rw [eT]; exact A.1) (State.isArrayOf_alike hZ.alike A.2.1) A.2.2 r1 r2 (g := mkF m pc Ls (.int j :: .ref a :: st)) rfl rfl hd t) k
theorem Ends.bld (X : Stand p l e R s m args below meth c T locs cells slots) (hx : p.tables.exec = Jvm.exec) (hZ : Z.Warmed39 s.vm) (eT : T.heap = h) (A : Ary Z h a .byte vs) (hj : j = Int32.ofNat i) (hv : vs[i]? = some v) (hd : decode c.code pc = .ok (.baload, 1))
    (k : Ends wd p e below s Qb kc ks T (mkF m (pc + 1) Ls (v :: st))) : Ends wd p e below s Qb kc ks T (mkF m pc Ls (.int j :: .ref a :: st)) := by
  obtain ⟨cl, A, q, q2⟩ := A
  obtain ⟨r1, r2⟩ := own_at q q2 hj hv
  exact Ends.go (fun t => X.baloadBytes hx (by rw [eT]; exact A.1) (State.isArrayOf_alike hZ.alike A.2.1) A.2.2 r1 r2 (g := mkF m pc Ls (.int j :: .ref a :: st)) rfl rfl hd t) k
theorem Ends.dld (X : Stand p l e R s m args below meth c T locs cells slots) (hx : p.tables.exec = Jvm.exec) (hZ : Z.Warmed39 s.vm) (eT : T.heap = h) (A : Ary Z h a .double vs) (hj : j = Int32.ofNat i) (hv : vs[i]? = some v) (hd : decode c.code pc = .ok (.daload, 1))
    (k : Ends wd p e below s Qb kc ks T (mkF m (pc + 1) Ls (v :: st))) : Ends wd p e below s Qb kc ks T (mkF m pc Ls (.int j :: .ref a :: st)) := by
  obtain ⟨cl, A, q, q2⟩ := A
  obtain ⟨r1, r2⟩ := own_at q q2 hj hv
  exact Ends.go (fun t => X.daload hx (by rw [eT]; exact A.1) (State.isArrayOf_alike hZ.alike A.2.1) A.2.2 r1 r2 (g := mkF m pc Ls (.int j :: .ref a :: st)) rfl rfl hd t) k
theorem Ends.ald (X : Stand p l e R s m args below meth c T locs cells slots) (hx : p.tables.exec = Jvm.exec) (hZ : Z.Warmed39 s.vm) (eT : T.heap = h) (A : Ary Z h a ty vs) (hty : ty.isReference = true) (hj : j = Int32.ofNat i) (hv : vs[i]? = some v) (hd : decode c.code pc = .ok (.aaload, 1))
    (k : Ends wd p e below s Qb kc ks T (mkF m (pc + 1) Ls (v :: st))) : Ends wd p e below s Qb kc ks T (mkF m pc Ls (.int j :: .ref a :: st)) := by
  obtain ⟨cl, A, q, q2⟩ := A
  obtain ⟨r1, r2⟩ := own_at q q2 hj hv
  exact Ends.go (fun t => X.aaload hx (by rw [eT]; exact A.1) (State.isArrayOf_alike hZ.alike A.2.1) hty A.2.2 r1 r2 (g := mkF m pc Ls (.int j :: .ref a :: st)) rfl rfl hd t) k
theorem Ends.ist (X : Stand p l e R s m args below meth c T locs cells slots) (hx : p.tables.exec = Jvm.exec) (hZ : Z.Warmed39 s.vm) (eT : T.heap = h) (A : Ary Z h a .int vs) {x : Int32} (hj : j = Int32.ofNat i) (hi : i < vs.length) (hd : decode c.code pc = .ok (.iastore, 1))
    (k : ∀ T' h', Stand p l e R s m args below meth c T' (locs ++ [⟨a, i⟩]) cells slots → T'.heap = h' → Wr h h' a i (.int x) → Ary Z h' a .int (vs.set i (.int x)) → Ends wd p e below s Qb kc ks T' (mkF m (pc + 1) Ls st)) : Ends wd p e below s Qb kc ks T (mkF m pc Ls (.int x :: .int j :: .ref a :: st)) := by
  obtain ⟨cl, A', q, q2⟩ := id A
  obtain ⟨T', h', X', e', W, st'⟩ := stI X hx hZ eT A' (j := j) (own_inb q q2 hj hi) (g := mkF m pc Ls (.int x :: .int j :: .ref a :: st)) rfl rfl hd
  have hc : j.toNatClampNeg = i := by rw [hj]; exact (own_clamp (by omega)).1
  rw [hc] at X' W
  exact Ends.go st' (k T' h' X' e' W (A.set W))
theorem Ends.cst (X : Stand p l e R s m args below meth c T locs cells slots) (hx : p.tables.exec = Jvm.exec) (hZ : Z.Warmed39 s.vm) (eT : T.heap = h) (A : Ary Z h a .char vs) {x x' : Int32} (hxx : nar .char x = x') (hj : j = Int32.ofNat i) (hi : i < vs.length) (hd : decode c.code pc = .ok (.castore, 1))
    (k : ∀ T' h', Stand p l e R s m args below meth c T' (locs ++ [⟨a, i⟩]) cells slots → T'.heap = h' → Wr h h' a i (.int x') → Ary Z h' a .char (vs.set i (.int x')) → Ends wd p e below s Qb kc ks T' (mkF m (pc + 1) Ls st)) : Ends wd p e below s Qb kc ks T (mkF m pc Ls (.int x :: .int j :: .ref a :: st)) := by
  obtain ⟨cl, A', q, q2⟩ := id A
  obtain ⟨T', h', X', e', W, st'⟩ := stC X hx hZ eT A' (j := j) (own_inb q q2 hj hi) (g := mkF m pc Ls (.int x :: .int j :: .ref a :: st)) rfl rfl hd
  have hc : j.toNatClampNeg = i := by rw [hj]; exact (own_clamp (by omega)).1
  rw [hc] at X' W
  rw [hxx] at W
  exact Ends.go st' (k T' h' X' e' W (A.set W))
theorem Ends.bst (X : Stand p l e R s m args below meth c T locs cells slots) (hx : p.tables.exec = Jvm.exec) (hZ : Z.Warmed39 s.vm) (eT : T.heap = h) (A : Ary Z h a .byte vs) {x x' : Int32} (hxx : nar .byte x = x') (hj : j = Int32.ofNat i) (hi : i < vs.length) (hd : decode c.code pc = .ok (.bastore, 1))
    (k : ∀ T' h', Stand p l e R s m args below meth c T' (locs ++ [⟨a, i⟩]) cells slots → T'.heap = h' → Wr h h' a i (.int x') → Ary Z h' a .byte (vs.set i (.int x')) → Ends wd p e below s Qb kc ks T' (mkF m (pc + 1) Ls st)) : Ends wd p e below s Qb kc ks T (mkF m pc Ls (.int x :: .int j :: .ref a :: st)) := by
  obtain ⟨cl, A', q, q2⟩ := id A
  obtain ⟨T', h', X', e', W, st'⟩ := stB X hx hZ eT A' (j := j) (own_inb q q2 hj hi) (g := mkF m pc Ls (.int x :: .int j :: .ref a :: st)) rfl rfl hd
  have hc : j.toNatClampNeg = i := by rw [hj]; exact (own_clamp (by omega)).1
  rw [hc] at X' W
  rw [hxx] at W
  exact Ends.go st' (k T' h' X' e' W (A.set W))
theorem Ends.dst (X : Stand p l e R s m args below meth c T locs cells slots) (hx : p.tables.exec = Jvm.exec) (hZ : Z.Warmed39 s.vm) (eT : T.heap = h) (A : Ary Z h a .double vs) {x : UInt64} (hj : j = Int32.ofNat i) (hi : i < vs.length) (hd : decode c.code pc = .ok (.dastore, 1))
    (k : ∀ T' h', Stand p l e R s m args below meth c T' (locs ++ [⟨a, i⟩]) cells slots → T'.heap = h' → Wr h h' a i (.double x) → Ary Z h' a .double (vs.set i (.double x)) → Ends wd p e below s Qb kc ks T' (mkF m (pc + 1) Ls st)) : Ends wd p e below s Qb kc ks T (mkF m pc Ls (.double x :: .int j :: .ref a :: st)) := by
  obtain ⟨cl, A', q, q2⟩ := id A
  obtain ⟨T', h', X', e', W, st'⟩ := stD X hx hZ eT A' (j := j) (own_inb q q2 hj hi) (g := mkF m pc Ls (.double x :: .int j :: .ref a :: st)) rfl rfl hd
  have hc : j.toNatClampNeg = i := by rw [hj]; exact (own_clamp (by omega)).1
  rw [hc] at X' W
  exact Ends.go st' (k T' h' X' e' W (A.set W))
theorem Ends.newA (X : Stand p l e R s m args below meth c T locs cells slots) (hx : p.tables.exec = Jvm.exec) (hZ : Z.Warmed39 s.vm) {aty : ArrayType} (w : (Jvm.Cond.arrayClass (newarray.typeOf aty)).before a0 Z = true) (eT : T.heap = h) (hd : decode c.code pc = .ok (.newarray aty, 2)) {n : Int32} {N : Nat} (hn : n = Int32.ofNat N) (hN : N * 8 ≤ 536870912) (hc : cells + 1 ≤ R.cells) (hl : slots + N ≤ R.slots)
    (k : ∀ T' h' b, b = h.size → Stand p l e R s m args below meth c T' locs (cells + 1) (slots + N) → T'.heap = h' → Ext h h' → Ary Z h' b (newarray.typeOf aty) (List.replicate N (defaultValue (newarray.typeOf aty))) → Ends wd p e below s Qb kc ks T' (mkF m (pc + 2) Ls (.ref b :: st))) : Ends wd p e below s Qb kc ks T (mkF m pc Ls (.int n :: st)) := by
  have q := own_clamp (i := N) (by omega)
  obtain ⟨T', h', cA, X', e', E, A, st'⟩ := newP X hx hZ w eT (g := mkF m pc Ls (.int n :: st)) rfl hd rfl (by rw [hn]; exact q.2) (cap := N) (by rw [hn, q.1]; exact Nat.le_refl _) hN hc hl
  exact Ends.go st' (k T' h' _ rfl X' e' E (Ary.new A hn (by omega)))
theorem Ends.newC (X : Stand p l e R s m args below meth c T locs cells slots) (hx : p.tables.exec = Jvm.exec) (hZ : Z.Warmed39 s.vm) {own C : String} {index n : Nat} (hown : s.vm.findClass own = some m.cls) (w : (Jvm.Cond.classLink own index C).before a0 Z = true) (wi : (Jvm.Cond.instantiable C n).before a0 Z = true) (wz : (Jvm.Cond.initialized C).before a0 Z = true) (eT : T.heap = h) (hd : decode c.code pc = .ok (.new index, 3)) (hc : cells + 1 ≤ R.cells) (hl : slots + n ≤ R.slots)
    (k : ∀ T' h' b, b = h.size → Stand p l e R s m args below meth c T' locs (cells + 1) (slots + n) → T'.heap = h' → Ext h h' → Exa Z h' b C → (∀ {O nm d : String} {ty : FieldType}, Laid Z a0 C O nm d → parseFieldDescriptor d = some ty → Fld Z h' b O nm d (defaultValue ty)) → Ends wd p e below s Qb kc ks T' (mkF m (pc + 3) Ls (.ref b :: st))) : Ends wd p e below s Qb kc ks T (mkF m pc Ls st) := by
  obtain ⟨T', h', X', e', E, A, D, -, st'⟩ := newO X hx hZ hown w wi wz eT (g := mkF m pc Ls st) rfl hd hc hl
  exact Ends.go st' (k T' h' _ rfl X' e' E A D)
end OwnHeap
section OwnHeap2
variable {wd : Option (Vm → Heap → Prop)} {p : Program} {l : Launch} {e : Env} {R : Room} {s : State} {m : MethodId} {args : Array Value} {below : List Frame} {meth : Method} {c : Code} {T : State} {locs : List Loc} {cells slots : Nat} {Z : State} {a0 : Array Value} {h h' h0 : Heap} {Qb : Option Value → Heap → List Loc → Prop} {kc ks : Nat} {a b : Addr} {ty : FieldType} {v v' old : Value} {pc index kk : Nat} {Ls : Array Slot} {st : List Value} {own R0 O n d host C : String}
theorem Ends.getF (X : Stand p l e R s m args below meth c T locs cells slots) (hx : p.tables.exec = Jvm.exec) (hZ : Z.Warmed39 s.vm) (hown : s.vm.findClass own = some m.cls) (w : (Jvm.Cond.fieldLink own index R0 n d).before a0 Z = true ∨ (Jvm.Cond.fieldLinkNest own index R0 n d host).before a0 Z = true) (via : Via Z R0 O n d) (eT : T.heap = h) (F : Fld Z h a O n d v) (hd : decode c.code pc = .ok (.getfield index, 3))
    (k : ∀ T', Stand p l e R s m args below meth c T' locs cells slots → T'.heap = h → Ends wd p e below s Qb kc ks T' (mkF m (pc + 3) Ls (v :: st))) : Ends wd p e below s Qb kc ks T (mkF m pc Ls (.ref a :: st)) := by
  obtain ⟨T', X', e', st'⟩ := Jvm.RoadKit.getF X hx hZ hown w via eT F (g := mkF m pc Ls (.ref a :: st)) rfl rfl hd
  exact Ends.go st' (k T' X' e')
theorem Ends.putF (X : Stand p l e R s m args below meth c T locs cells slots) (hx : p.tables.exec = Jvm.exec) (hZ : Z.Warmed39 s.vm) (hown : s.vm.findClass own = some m.cls) (w : (Jvm.Cond.fieldLink own index R0 n d).before a0 Z = true ∨ (Jvm.Cond.fieldLinkNest own index R0 n d host).before a0 Z = true) (via : Via Z R0 O n d) (eT : T.heap = h) (F : Fld Z h a O n d old) (E : Exa Z h a C) (L : (Jvm.Cond.lays C O n d).before a0 Z = true ∨ ((Jvm.Cond.laysFinal C O n d).before a0 Z = true ∧ own = O ∧ meth.name = "<init>")) (wi : (Jvm.Cond.instantiable C kk).before a0 Z = true) (hty : parseFieldDescriptor d = some ty) (hn : narrow ty v = v) (hf : fits ty v = true) (hd : decode c.code pc = .ok (.putfield index, 3))
    (k : ∀ T' h', Stand p l e R s m args below meth c T' (locs ++ [⟨a, Jvm.RoadKit.slotOf Z O n d⟩]) cells slots → T'.heap = h' → Wr h h' a (Jvm.RoadKit.slotOf Z O n d) v → Fld Z h' a O n d v → Ends wd p e below s Qb kc ks T' (mkF m (pc + 3) Ls st)) : Ends wd p e below s Qb kc ks T (mkF m pc Ls (v :: .ref a :: st)) := by
  obtain ⟨T', h', X', e', W, st'⟩ := Jvm.RoadKit.putF X hx hZ hown w via eT F E L wi hty hn hf (g := mkF m pc Ls (v :: .ref a :: st)) rfl rfl hd
  exact Ends.go st' (k T' h' X' e' W (F.same W))
theorem Ends.putN (X : Stand p l e R s m args below meth c T locs cells slots) (hx : p.tables.exec = Jvm.exec) (hZ : Z.Warmed39 s.vm) (hown : s.vm.findClass own = some m.cls) (w : (Jvm.Cond.fieldLink own index R0 n d).before a0 Z = true) (via : Via Z R0 O n d) (eT : T.heap = h) (F : Fld Z h a O n d old) (E : Exa Z h a C) (L : (Jvm.Cond.lays C O n d).before a0 Z = true ∨ ((Jvm.Cond.laysFinal C O n d).before a0 Z = true ∧ own = O ∧ meth.name = "<init>")) (wi : (Jvm.Cond.instantiable C kk).before a0 Z = true) (hty : parseFieldDescriptor d = some ty) (hn : narrow ty v = v') (hf : fits ty v' = true) (hd : decode c.code pc = .ok (.putfield index, 3))
    (k : ∀ T' h', Stand p l e R s m args below meth c T' (locs ++ [⟨a, Jvm.RoadKit.slotOf Z O n d⟩]) cells slots → T'.heap = h' → Wr h h' a (Jvm.RoadKit.slotOf Z O n d) v' → Fld Z h' a O n d v' → Ends wd p e below s Qb kc ks T' (mkF m (pc + 3) Ls st)) : Ends wd p e below s Qb kc ks T (mkF m pc Ls (v :: .ref a :: st)) := by
  obtain ⟨T', h', X', e', W, st'⟩ := Jvm.RoadKit.putFN X hx hZ hown w via eT F E L wi hty hn hf (g := mkF m pc Ls (v :: .ref a :: st)) rfl rfl hd
  exact Ends.go st' (k T' h' X' e' W (F.same W))
theorem Ends.initO (X : Stand p l e R s m args below meth c T locs cells slots) (hx : p.tables.exec = Jvm.exec) (hZ : Z.Warmed39 s.vm) (hown : s.vm.findClass own = some m.cls) (w1 : (Jvm.Cond.methodLink own index Lib.objectInit).before a0 Z = true) (w2 : (Jvm.Cond.instanceMethod Lib.objectInit).before a0 Z = true) (w3 : (Jvm.Cond.code Lib.objectInit ⟨#[0xb1]⟩ 1 none).before a0 Z = true) (eT : T.heap = h) (hsz : Ls.size = c.maxLocals) (hd : decode c.code pc = .ok (.invokespecial index, 3)) (hf : 1 ≤ R.frames) {W : Nat} (hW : (st.map fun v => v.category).sum ≤ W) (hl : W + 12 ≤ R.locals)
    (k : ∀ T', Stand p l e R s m args below meth c T' locs cells slots → T'.heap = h → Ends wd p e below s Qb kc ks T' (mkF m (pc + 3) Ls st)) : Ends wd p e below s Qb kc ks T (mkF m pc Ls (.ref a :: st)) := by
  obtain ⟨T', X', e', st'⟩ := Jvm.RoadKit.initO X hx hZ hown w1 w2 w3 eT (g := mkF m pc Ls (.ref a :: st)) rfl hsz rfl hd hf (W := W) (by show 2 * 0 + _ ≤ _; omega) hl
  exact Ends.go st' (k T' X' e')
end OwnHeap2
section OwnHeap3
variable {wd : Option (Vm → Heap → Prop)} {p : Program} {l : Launch} {e : Env} {R : Room} {s : State} {m : MethodId} {args : Array Value} {below : List Frame} {meth : Method} {c : Code} {T : State} {locs : List Loc} {cells slots : Nat} {Z : State} {a0 : Array Value} {h h' h0 : Heap} {Qb : Option Value → Heap → List Loc → Prop} {kc ks : Nat} {a b y : Addr} {ty : FieldType} {vs : List Value} {v : Value} {sl i : Nat} {ws : List Addr} {pc q index : Nat} {Ls : Array Slot} {st : List Value} {j : Int32} {own C n d O R0 host : String}
theorem own_sta_keep (F : Sta Z h C n d v) (K : Keep h h' ws) (q : ∀ x ∈ ws, ∀ cell : Cell, h[x]? = some cell → cell.vm.isStatics = false) : Sta Z h' C n d v := by
  obtain ⟨cf, i, k, f, st, cell, h1, h2, h3, h4, h5, h6, h7⟩ := F
  have ni : st ∉ ws := fun m => by rw [q st m cell h5] at h6; cases h6
  exact ⟨cf, i, k, f, st, cell, h1, h2, h3, h4, K.2.1 st cell h5 ni, h6, h7⟩
theorem own_ns (E : Exa Z h a C) : ∀ x ∈ [a], ∀ cell : Cell, h[x]? = some cell → cell.vm.isStatics = false := fun x m cell q => by
  cases List.mem_singleton.mp m
  obtain ⟨c1, _, h1, -, -, h4, -⟩ := E
  cases h1.symm.trans q; exact h4
theorem own_ns0 : ∀ x ∈ ([] : List Addr), ∀ cell : Cell, h[x]? = some cell → cell.vm.isStatics = false := fun x m => nomatch m
theorem Ends.getS (X : Stand p l e R s m args below meth c T locs cells slots) (hx : p.tables.exec = Jvm.exec) (hZ : Z.Warmed39 s.vm) (hown : s.vm.findClass own = some m.cls) (w : (Jvm.Cond.fieldLink own index R0 n d).before a0 Z = true ∨ (Jvm.Cond.fieldLinkNest own index R0 n d host).before a0 Z = true) (via : Via Z R0 O n d) (eT : T.heap = h) (F : Sta Z h O n d v) (hd : decode c.code pc = .ok (.getstatic index, 3))
    (k : ∀ T', Stand p l e R s m args below meth c T' locs cells slots → T'.heap = h → Ends wd p e below s Qb kc ks T' (mkF m (pc + 3) Ls (v :: st))) : Ends wd p e below s Qb kc ks T (mkF m pc Ls st) := by
  obtain ⟨T', X', e', st'⟩ := getS2 X hx hZ hown w via eT F (g := mkF m pc Ls st) rfl hd
  exact Ends.go st' (k T' X' e')
theorem E.ldc2D {w : UInt64} (X : Stand p l e R s m args below meth c T locs cells slots) (hx : p.tables.exec = Jvm.exec) (hZ : Z.Warmed39 s.vm) (hown : s.vm.findClass own = some m.cls) (hc : (Jvm.Cond.constantDouble own index w).before a0 Z = true) (hd : decode c.code pc = .ok (.ldc2_w index, 3)) (k' : Ends wd p e below s Qb kc ks T (mkF m q Ls (.double w :: st))) (hq : pc + 3 = q := by rfl) : Ends wd p e below s Qb kc ks T (mkF m pc Ls st) := by
  subst hq; exact Ends.go (fun t => X.ldc2DoubleC hx hown (mvT hZ hc) (g := mkF m pc Ls st) rfl hd t) k'
theorem Ends.retD (X : Stand p l e R s m args below meth c T locs cells slots) (hx : p.tables.exec = Jvm.exec) (hlk : meth.locks = false) {z : UInt64} (hret : meth.sig.returnType = some .double) (hd : decode c.code pc = .ok (.dreturn, 1)) (hc : cells ≤ kc) (hs : slots ≤ ks) (hQ : Qb (some (.double z)) T.heap locs) (hF : OkF wd T.vm T.heap := by exact True.intro) : Ends wd p e below s Qb kc ks T (mkF m pc Ls (.double z :: st)) :=
  Ends.ret X hx hlk hret rfl (Or.inr (Or.inr (Or.inl ⟨rfl, rfl, _, rfl⟩))) hd hc hs hQ hF
/-- an array of arrays, with what may lie in it -/
def Ar2 (Z : State) (h : Heap) (a : Addr) (ty : FieldType) (C : String) (vs : List Value) : Prop := ∃ c : Cell, Arr Z h a c (.array ty) ∧ c.slots = vs.toArray ∧ vs.length < 2 ^ 31 ∧ OvrA Z c.cls ty C
theorem Ar2.ary (A : Ar2 Z h a ty C vs) : Ary Z h a (.array ty) vs := by obtain ⟨c, A, q, r, -⟩ := A; exact ⟨c, A, q, r⟩
theorem Ar2.lt (A : Ar2 Z h a ty C vs) : a < h.size := A.ary.lt
theorem Ar2.ext (E : Ext h h') (A : Ar2 Z h a ty C vs) : Ar2 Z h' a ty C vs := by obtain ⟨c, A, r⟩ := A; exact ⟨c, A.ext E, r⟩
theorem Ar2.other (W : Wr h h' b sl v) (A : Ar2 Z h a ty C vs) (q : a ≠ b) : Ar2 Z h' a ty C vs := by obtain ⟨c, A, r⟩ := A; exact ⟨c, Arr.other W A q, r⟩
theorem Ar2.keep (A : Ar2 Z h a ty C vs) (K : Keep h h' ws) (q : a ∉ ws) : Ar2 Z h' a ty C vs := by obtain ⟨c, A, r⟩ := A; exact ⟨c, ⟨K.2.1 a c A.1 q, A.2⟩, r⟩
theorem Ar2.set (A : Ar2 Z h a ty C vs) (W : Wr h h' a i v) : Ar2 Z h' a ty C (vs.set i v) := by
  obtain ⟨c, A, e, l, o⟩ := A
  refine ⟨c.setSlot i v, Arr.same W A, ?_, by rw [List.length_set]; exact l, o⟩
  show c.slots.setIfInBounds i v = _
  rw [e]; simp
theorem Ends.newA2 (X : Stand p l e R s m args below meth c T locs cells slots) (hx : p.tables.exec = Jvm.exec) (hZ : Z.Warmed39 s.vm) (hown : s.vm.findClass own = some m.cls) (hC : (FieldType.array ty).toString = C) (w1 : (Jvm.Cond.classLink own index C).before a0 Z = true) (w2 : (Jvm.Cond.arrayOver (.array ty)).before a0 Z = true) (eT : T.heap = h) (hd : decode c.code pc = .ok (.anewarray index, 3)) {n : Int32} {N : Nat} (hn : n = Int32.ofNat N) (hN : N * 8 ≤ 536870912) (hc : cells + 1 ≤ R.cells) (hl : slots + N ≤ R.slots)
    (k : ∀ T' h' b, b = h.size → Stand p l e R s m args below meth c T' locs (cells + 1) (slots + N) → T'.heap = h' → Ext h h' → Ar2 Z h' b ty C (List.replicate N .null) → Ends wd p e below s Qb kc ks T' (mkF m (pc + 3) Ls (.ref b :: st))) : Ends wd p e below s Qb kc ks T (mkF m pc Ls (.int n :: st)) := by
  have q := own_clamp (i := N) (by omega)
  obtain ⟨T', h', cA, X', e', E, A, -, O, st'⟩ := newRA X hx hZ hown hC w1 w2 eT (g := mkF m pc Ls (.int n :: st)) rfl hd rfl (by rw [hn]; exact q.2) (cap := N) (by rw [hn, q.1]; exact Nat.le_refl _) hN hc hl (ad := "[" ++ C) rfl
  refine Ends.go st' (k T' h' _ rfl X' e' E ?_)
  obtain ⟨c', A', q1, q2⟩ := Ary.new (ty := .array ty) A hn (by omega)
  have e1 : c' = Jvm.RoadKit.newA cA (.array ty) n := Option.some.inj (A'.1.symm.trans A.1)
  exact ⟨c', A', q1, q2, by rw [e1]; exact O⟩
theorem Ends.ast (X : Stand p l e R s m args below meth c T locs cells slots) (hx : p.tables.exec = Jvm.exec) (hZ : Z.Warmed39 s.vm) (eT : T.heap = h) (A : Ar2 Z h a ty C vs) (I : Exa Z h y C) (hj : j = Int32.ofNat i) (hi : i < vs.length) (hd : decode c.code pc = .ok (.aastore, 1))
    (k : ∀ T' h', Stand p l e R s m args below meth c T' (locs ++ [⟨a, i⟩]) cells slots → T'.heap = h' → Wr h h' a i (.ref y) → Ar2 Z h' a ty C (vs.set i (.ref y)) → Ends wd p e below s Qb kc ks T' (mkF m (pc + 1) Ls st)) : Ends wd p e below s Qb kc ks T (mkF m pc Ls (.ref y :: .int j :: .ref a :: st)) := by
  obtain ⟨cl, A', q, q2, O⟩ := id A
  obtain ⟨T', h', X', e', W, st'⟩ := stR X hx hZ eT A' (j := j) (own_inb q q2 hj hi) rfl (Sto.ofVA A' rfl O (Ins.self I)) (g := mkF m pc Ls (.ref y :: .int j :: .ref a :: st)) rfl rfl hd
  have hc : j.toNatClampNeg = i := by rw [hj]; exact (own_clamp (by omega)).1
  rw [hc] at X' W
  exact Ends.go st' (k T' h' X' e' W (A.set W))
theorem Ends.newAE (X : Stand p l e R s m args below meth c T locs cells slots) (hx : p.tables.exec = Jvm.exec) (hZ : Z.Warmed39 s.vm) {aty : ArrayType} (w : (Jvm.Cond.arrayClass (newarray.typeOf aty)).before a0 Z = true) (eT : T.heap = h) (hd : decode c.code pc = .ok (.newarray aty, 2)) {n : Int32} {N : Nat} (hn : n = Int32.ofNat N) (hN : N * 8 ≤ 536870912) (hc : cells + 1 ≤ R.cells) (hl : slots + N ≤ R.slots) {ad : String} (had : "[" ++ (newarray.typeOf aty).toString = ad)
    (k : ∀ T' h' b, b = h.size → Stand p l e R s m args below meth c T' locs (cells + 1) (slots + N) → T'.heap = h' → Ext h h' → Ary Z h' b (newarray.typeOf aty) (List.replicate N (defaultValue (newarray.typeOf aty))) → Exa Z h' b ad → Ends wd p e below s Qb kc ks T' (mkF m (pc + 2) Ls (.ref b :: st))) : Ends wd p e below s Qb kc ks T (mkF m pc Ls (.int n :: st)) := by
  have q := own_clamp (i := N) (by omega)
  obtain ⟨T', h', cA, X', e', E, A, E2, st'⟩ := newPE X hx hZ w eT (g := mkF m pc Ls (.int n :: st)) rfl hd rfl (by rw [hn]; exact q.2) (cap := N) (by rw [hn, q.1]; exact Nat.le_refl _) hN hc hl had
  exact Ends.go st' (k T' h' _ rfl X' e' E (Ary.new A hn (by omega)) E2)
end OwnHeap3
/-! own text: roads that load string constants (the base state moves, ReturnedEndW at the end) -/
section OwnWide
variable {wd : Option (Vm → Heap → Prop)} {p : Program} {l : Launch} {e : Env} {R : Room} {s : State} {m : MethodId} {args : Array Value} {below : List Frame} {meth : Method} {c : Code} {T : State} {locs : List Loc} {cells slots : Nat} {Z : State} {a0 : Array Value} {h : Heap} {Qb : Option Value → Heap → List Loc → Prop} {kc ks : Nat} {F : Vm → Heap → Prop}
def Fl (Q : Option Value → Heap → List Loc → Prop) (f : Nat) : Option Value → Heap → List Loc → Prop := fun v h L => Q v h L ∧ f ≤ h.size
theorem Ends.rebase {vm1 : Vm} {f f0 k1 : Nat} {g : JFrame} (hS : s.Since vm1 k1) (hk : k1 ≤ f) (hf : f0 ≤ f) (k : Ends (some F) p e below (s.setVm vm1) (Fl Qb f) kc ks T g) : Ends (some F) p e below s (Fl Qb f0) kc ks T g := by
  obtain ⟨s2, o, st, hr, hE, v, L, ho, hQ, ⟨hret, hW, hB, hs⟩, hF⟩ := k
  have hS2 : (s.setVm vm1).Since s2.vm s2.heap.size := ⟨hW, hB⟩
  have hS3 := hS.trans hS2 (Nat.le_trans hk hQ.2)
  exact ⟨s2, o, st, hr, hE, v, L, ho, ⟨hQ.1, Nat.le_trans hf hQ.2⟩, ⟨hret, hS3.1, hS3.2, hs.setVm s.vm⟩, hF⟩
abbrev ConW (l : Launch) (y : MethodName) (code : ByteArray) (ml : Nat) (rt : Option FieldType) (ws : List Jvm.Cond) (rm : Room) (as' : Array Value) (Z : State) (h0 : Heap) (Q : Option Value → Heap → List Loc → Prop) : Prop :=
  MetFree l y (head1 (Jvm.Cond.code y code ml rt :: ws) rm) (fun a U => a = as' ∧ Z.Warmed39 U.vm ∧ U.heap = h0) (fun _ _ _ _ _ => True) (fun _ U o U' => ∃ v L, o = .returned v ∧ Q v U'.heap L ∧ ReturnedEndW U o U' L rm.cells rm.slots)
theorem ConW.of {y : MethodName} {code : ByteArray} {ml : Nat} {rt : Option FieldType} {ws : List Jvm.Cond} {rm : Room} {as' : Array Value} {h0 : Heap} {Q : Option Value → Heap → List Loc → Prop} (hp : plainFor y = true)
    (k : ∀ (p : Program) (e : Env) (s : State) (m : MethodId) (below : List Frame) (meth : Method) (c : Code) (s₁ : State), p.tables.exec = Jvm.exec → Z.Warmed39 s.vm → c.code = code → c.maxLocals = ml → s.vm.findClass y.cls = some m.cls → meth.name = y.name → meth.sig.returnType = rt → meth.locks = false →
      Stand p l e rm s m as' below meth c s₁ [] 0 0 → s₁.heap = h0 → Ends (some fun _ _ => True) p e below s (Fl Q 0) rm.cells rm.slots s₁ (entryFrame m as' ml)) : ConW l y code ml rt ws rm as' Z h0 Q := by
  refine MetFree.of_bodySF hp hisR ?_
  intro p e s m args below meth c s₁ Bd hml0 hP hK
  obtain ⟨rfl, hZ, hh⟩ := hP
  obtain ⟨s2, o, h1, h2, h3, v, L, h4, h5, h6, -⟩ := k p e s m below meth c s₁ Bd.exec hZ Bd.bytes hml0 (findClass_of_methodNamed Bd.named) (name_of_methodNamed Bd.named Bd.method).1 Bd.returns Bd.notSynchronized (Stand.of_body Bd) (by rw [← hh, Bd.state]; rfl)
  exact ⟨s2, o, h1, h2, h3, v, L, h4, h5.1, h6⟩
theorem own_since (s : State) : s.Since s.vm 0 := ⟨State.Warmed39.refl s, fun j p hj hp => absurd (Array.getElem?_eq_some_iff.mp hp).1 (Nat.not_lt.mpr hj)⟩
/-- a string constant, loaded cold: what it spells isn't said -/
theorem Ends.ldcS {f0 : Nat} (X : Stand p l e R s m args below meth c T locs cells slots) (hx : p.tables.exec = Jvm.exec) (hZ : Z.Warmed39 s.vm) {own text : String} {index : Nat} (hown : s.vm.findClass own = some m.cls) (w : (Jvm.Cond.stringLink own index text).before a0 Z = true) (wS : ∀ a ∈ Bundle.stringAtoms, a.before a0 Z = true)
    (eT : T.heap = h) (hf : f0 ≤ h.size) {pc : Nat} {Ls : Array Slot} {st : List Value} (hd : decode c.code pc = .ok (.ldc index, 2)) (n : Nat) (hn : 4 * text.toList.length ≤ n) (hbig : n ≤ 536870912) (hc : cells + 2 ≤ R.cells) (hl : slots + (n + 4) ≤ R.slots)
    (k : ∀ s' T' h' a, Stand p l e R s' m args below meth c T' locs (cells + 2) (slots + (n + 4)) → T'.heap = h' → Ext h h' → Z.Warmed39 s'.vm → s'.vm.findClass own = some m.cls → Ends (some F) p e below s' (Fl Qb h'.size) kc ks T' (mkF m (pc + 2) Ls (.ref a :: st))) : Ends (some F) p e below s (Fl Qb f0) kc ks T (mkF m pc Ls st) := by
  obtain ⟨a, T', h', k1, X', e', E, hS, hk1, hZ', hown', st'⟩ := Jvm.RoadKit.ldcS (s := s) (vm0 := s.vm) X hx hZ hown w wS eT (own_since s) (Nat.zero_le _) (g := mkF m pc Ls st) rfl hd hn hbig hc hl
  exact Ends.rebase hS hk1 (Nat.le_trans hf E.1) (Ends.go st' (k _ T' h' a X' e' E hZ' hown'))
/-- a static call by its contract, wide -/
theorem Ends.callSW {f0 : Nat} (X : Stand p l e R s m args below meth c T locs cells slots) (hx : p.tables.exec = Jvm.exec) (hZ : Z.Warmed39 s.vm) {own : String} (hown : s.vm.findClass own = some m.cls) {index : Nat} {y : MethodName} {bytes : ByteArray} {maxL : Nat} {rt : Option FieldType} {rm : Room} {Q : Option Value → Heap → List Loc → Prop}
    (w1 : (Jvm.Cond.methodLink own index y).before a0 Z = true) (w2 : (Jvm.Cond.static y).before a0 Z = true) (w3 : (Jvm.Cond.initialized y.cls).before a0 Z = true) (w4 : (Jvm.Cond.code y bytes maxL rt).before a0 Z = true) (hy : y.cls ≠ "java/lang/invoke/MethodHandle" ∧ y.cls ≠ "java/lang/invoke/VarHandle")
    {argsL rest : List Value} (eT : T.heap = h) (hf0 : f0 ≤ h.size) (M : ConW l y bytes maxL rt [] rm argsL.toArray Z h Q) {W pc : Nat} (hf : rm.frames + 1 ≤ R.frames) (hl : W + (maxL + 11) + rm.locals ≤ R.locals) {Ls : Array Slot} (hsz : Ls.size = c.maxLocals)
    (hlen : ∀ sig, parseMethodDescriptor y.desc = some sig → argsL.length = sig.parameters.length) (hW : (rest.map fun v => v.category).sum ≤ W) (hd : decode c.code pc = .ok (.invokestatic index, 3)) (hc : cells + rm.cells ≤ R.cells) (hs : slots + rm.slots ≤ R.slots) {st : List Value} (hst : st = argsL.reverse ++ rest)
    (k : ∀ s' T' v L, Stand p l e R s' m args below meth c T' (locs ++ L) (cells + rm.cells) (slots + rm.slots) → Z.Warmed39 s'.vm → s'.vm.findClass own = some m.cls → Q v T'.heap L → Ends (some F) p e below s' (Fl Qb T'.heap.size) kc ks T' (mkF m (pc + 3) Ls (v.toList ++ rest))) :
    Ends (some F) p e below s (Fl Qb f0) kc ks T (mkF m pc Ls st) := by
  obtain ⟨v, vm1, ⟨T1, L1, k1, n1⟩, -, X1, hS, hgr, ⟨Lc, hQ, q1, q2, q3⟩, st1⟩ := Jvm.RoadKit.callSS X hx hown (mvT hZ w1) (mvT hZ w2) (mvT hZ w3) (mvT hZ w4) hy (backOfS (W := W) M hZ w4 w3 hf hl) (g := mkF m pc Ls st) rfl hsz (argsL := argsL) (rest := rest) hlen hst (by show 2 * 0 + _ ≤ _; omega) hd (fun _ _ => ⟨rfl, eT, hc, hs⟩)
  dsimp only [Pt.U, Pt.locs, Pt.cells, Pt.slots] at X1 q1 q2 q3 st1 hQ hS hgr
  subst q1 q2 q3
  refine Ends.rebase hS (Nat.le_refl _) (Nat.le_trans hf0 (by rw [← eT]; exact hgr)) (Ends.go (fun t kt => st1.trans kt) (k _ T1 v Lc X1 (State.Warmed39.trans (t := s) hZ hS.1) (by show T1.vm.findClass own = _; rw [hS.1.alike.findClass]; exact hown) hQ))
/-- a constructor by its contract, wide -/
theorem Ends.callIW {f0 : Nat} (X : Stand p l e R s m args below meth c T locs cells slots) (hx : p.tables.exec = Jvm.exec) (hZ : Z.Warmed39 s.vm) {own : String} (hown : s.vm.findClass own = some m.cls) {index : Nat} {y : MethodName} {bytes : ByteArray} {maxL : Nat} {rm : Room} {Q : Option Value → Heap → List Loc → Prop}
    (w1 : (Jvm.Cond.methodLink own index y).before a0 Z = true) (w2 : (Jvm.Cond.instanceMethod y).before a0 Z = true) (w3 : (Jvm.Cond.initialized y.cls).before a0 Z = true) (w4 : (Jvm.Cond.code y bytes maxL none).before a0 Z = true) (hyn : y.name = "<init>") (hy : y.cls ≠ "java/lang/invoke/MethodHandle" ∧ y.cls ≠ "java/lang/invoke/VarHandle")
    {b : Addr} {argsL rest : List Value} (eT : T.heap = h) (hf0 : f0 ≤ h.size) (M : ConW l y bytes maxL none [] rm (.ref b :: argsL).toArray Z h Q) {W pc : Nat} (hf : rm.frames + 1 ≤ R.frames) (hl : W + (maxL + 11) + rm.locals ≤ R.locals) {Ls : Array Slot} (hsz : Ls.size = c.maxLocals)
    (hlen : ∀ sig, parseMethodDescriptor y.desc = some sig → argsL.length = sig.parameters.length) (hW : (rest.map fun v => v.category).sum ≤ W) (hd : decode c.code pc = .ok (.invokespecial index, 3)) (hc : cells + rm.cells ≤ R.cells) (hs : slots + rm.slots ≤ R.slots) {st : List Value} (hst : st = argsL.reverse ++ .ref b :: rest)
    (k : ∀ s' T' v L, Stand p l e R s' m args below meth c T' (locs ++ L) (cells + rm.cells) (slots + rm.slots) → Z.Warmed39 s'.vm → s'.vm.findClass own = some m.cls → Q v T'.heap L → Ends (some F) p e below s' (Fl Qb T'.heap.size) kc ks T' (mkF m (pc + 3) Ls (v.toList ++ rest))) :
    Ends (some F) p e below s (Fl Qb f0) kc ks T (mkF m pc Ls st) := by
  obtain ⟨v, vm1, ⟨T1, L1, k1, n1⟩, -, X1, hS, hgr, ⟨Lc, hQ, q1, q2, q3⟩, st1⟩ := X.specialBackS hx hyn hown (mvT hZ w1) (mvT hZ w2) (mvT hZ w4) hy (backOfS (W := W) M hZ w4 w3 hf hl) (g := mkF m pc Ls st) rfl hsz (Steps.refl _) (a := b) (argsL := argsL) (rest := rest) hlen hst (by show 2 * 0 + _ ≤ _; omega) hd (fun _ _ => ⟨rfl, eT, hc, hs⟩)
  dsimp only [Pt.U, Pt.locs, Pt.cells, Pt.slots] at X1 q1 q2 q3 st1 hQ hS hgr
  subst q1 q2 q3
  refine Ends.rebase hS (Nat.le_refl _) (Nat.le_trans hf0 (by rw [← eT]; exact hgr)) (Ends.go (fun t kt => st1.trans kt) (k _ T1 v Lc X1 (State.Warmed39.trans (t := s) hZ hS.1) (by show T1.vm.findClass own = _; rw [hS.1.alike.findClass]; exact hown) hQ))
/-- instanceof and checkcast -/
theorem Ends.instY (X : Stand p l e R s m args below meth c T locs cells slots) (hx : p.tables.exec = Jvm.exec) (hZ : Z.Warmed39 s.vm) {own K : String} {index : Nat} (hown : s.vm.findClass own = some m.cls) (w : (Jvm.Cond.classLink own index K).before a0 Z = true) (eT : T.heap = h) {a : Addr} (F : Ins Z h a K true) {pc : Nat} {Ls : Array Slot} {st : List Value} (hd : decode c.code pc = .ok (.instanceof index, 3))
    (k : ∀ T', Stand p l e R s m args below meth c T' locs cells slots → T'.heap = h → Ends wd p e below s Qb kc ks T' (mkF m (pc + 3) Ls (.int 1 :: st))) : Ends wd p e below s Qb kc ks T (mkF m pc Ls (.ref a :: st)) := by
  obtain ⟨T', X', e', st'⟩ := Jvm.RoadKit.instY X hx hZ hown w eT F (g := mkF m pc Ls (.ref a :: st)) rfl rfl hd
  exact Ends.go st' (k T' X' e')
theorem Ends.instNo (X : Stand p l e R s m args below meth c T locs cells slots) (hx : p.tables.exec = Jvm.exec) (hZ : Z.Warmed39 s.vm) {own K C : String} {index : Nat} (hown : s.vm.findClass own = some m.cls) (w : (Jvm.Cond.classLink own index K).before a0 Z = true) (eT : T.heap = h) {a : Addr} (E : Exa Z h a C) (F : ∃ c t, Z.vm.findClass C = some c ∧ Z.vm.findClass K = some t ∧ Z.vm.assignable c t = false) {pc : Nat} {Ls : Array Slot} {st : List Value} (hd : decode c.code pc = .ok (.instanceof index, 3))
    (k : ∀ T', Stand p l e R s m args below meth c T' locs cells slots → T'.heap = h → Ends wd p e below s Qb kc ks T' (mkF m (pc + 3) Ls (.int 0 :: st))) : Ends wd p e below s Qb kc ks T (mkF m pc Ls (.ref a :: st)) := by
  obtain ⟨T', X', e', st'⟩ := Jvm.RoadKit.instNo X hx hZ hown w eT E F (g := mkF m pc Ls (.ref a :: st)) rfl rfl hd
  exact Ends.go st' (k T' X' e')
theorem Ends.castY (X : Stand p l e R s m args below meth c T locs cells slots) (hx : p.tables.exec = Jvm.exec) (hZ : Z.Warmed39 s.vm) {own K : String} {index : Nat} (hown : s.vm.findClass own = some m.cls) (w : (Jvm.Cond.classLink own index K).before a0 Z = true) (eT : T.heap = h) {a : Addr} (F : Ins Z h a K true) {pc : Nat} {Ls : Array Slot} {st : List Value} (hd : decode c.code pc = .ok (.checkcast index, 3))
    (k : ∀ T', Stand p l e R s m args below meth c T' locs cells slots → T'.heap = h → Ends wd p e below s Qb kc ks T' (mkF m (pc + 3) Ls (.ref a :: st))) : Ends wd p e below s Qb kc ks T (mkF m pc Ls (.ref a :: st)) := by
  obtain ⟨T', X', e', st'⟩ := Jvm.RoadKit.castY X hx hZ hown w eT F (g := mkF m pc Ls (.ref a :: st)) rfl rfl hd
  exact Ends.go st' (k T' X' e')
theorem Ends.instNull (X : Stand p l e R s m args below meth c T locs cells slots) (hx : p.tables.exec = Jvm.exec) {index pc : Nat} {Ls : Array Slot} {st : List Value} (hd : decode c.code pc = .ok (.instanceof index, 3)) (k : Ends wd p e below s Qb kc ks T (mkF m (pc + 3) Ls (.int 0 :: st))) : Ends wd p e below s Qb kc ks T (mkF m pc Ls (.null :: st)) :=
  Ends.go (fun t => X.instanceofNull hx (g := mkF m pc Ls (.null :: st)) rfl rfl hd t) k
theorem E.acmpY {x y : Value} {cd : ClassFile.ACond} {o : Int} {pc q : Nat} {Ls : Array Slot} {st : List Value} (X : Stand p l e R s m args below meth c T locs cells slots) (hx : p.tables.exec = Jvm.exec) (hd : decode c.code pc = .ok (.if_acmp cd o, 3)) (h1 : x.isRef = true) (h2 : y.isRef = true) (hc : Jvm.Free.XT.acmp cd x y = true) (k' : Ends wd p e below s Qb kc ks T (mkF m q Ls st)) (ho : 0 ≤ (pc : Int) + o := by decide) (hq : ((pc : Int) + o).toNat = q := by decide) : Ends wd p e below s Qb kc ks T (mkF m pc Ls (y :: x :: st)) :=
  Ends.go (fun t => Jvm.Free.XT.acmpYes X.here hx rfl rfl hd rfl h1 h2 hc ho hq) k'
theorem E.acmpN {x y : Value} {cd : ClassFile.ACond} {o : Int} {pc q : Nat} {Ls : Array Slot} {st : List Value} (X : Stand p l e R s m args below meth c T locs cells slots) (hx : p.tables.exec = Jvm.exec) (hd : decode c.code pc = .ok (.if_acmp cd o, 3)) (h1 : x.isRef = true) (h2 : y.isRef = true) (hc : Jvm.Free.XT.acmp cd x y = false) (k' : Ends wd p e below s Qb kc ks T (mkF m q Ls st)) (hq : pc + 3 = q := by rfl) : Ends wd p e below s Qb kc ks T (mkF m pc Ls (y :: x :: st)) := by
  subst hq; exact Ends.go (fun t => Jvm.Free.XT.acmpNo X.here hx rfl hd rfl h1 h2 hc) k'
theorem own_notA {C S K : String} {n : Nat} (w : (Jvm.Cond.superclass C S).before a0 Z = true) (w2 : (Jvm.Cond.noSuperclass S).before a0 Z = true) (wi : (Jvm.Cond.instantiable K n).before a0 Z = true) (h1 : C ≠ K) (h2 : S ≠ K) : ∃ c t, Z.vm.findClass C = some c ∧ Z.vm.findClass K = some t ∧ Z.vm.assignable c t = false := by
  obtain ⟨t, kt, f1, f2, f3, f4, -, -⟩ := Cond.instantiable_spec wi
  obtain ⟨c, h0⟩ := found_sup w
  obtain ⟨p, k, kp, g1, g2, g3, g4, g5, -, g7⟩ := Cond.superclass_spec h0 w
  obtain ⟨c', k', q1, q2, q3, -, -⟩ := Cond.noSuperclass_spec w2
  cases q1.symm.trans g1
  have ne1 := ids_ne h0 f1 h1
  have ne2 := ids_ne g1 f1 h2
  have hi : kt.isInterface = false := by simp only [Bool.or_eq_false_iff] at f4; exact f4.1
  refine ⟨c, t, h0, f1, ?_⟩
  show Z.vm.assignableAux (255 + 1) c t = false
  have n3 : ∀ fuel, Z.vm.isSubclassAux fuel c t = false := fun fuel => by
    cases fuel with
    | zero => rfl
    | succ f =>
      cases f with
      | zero => simp [Vm.isSubclassAux, ne1, g2, g4]
      | succ f => simp [Vm.isSubclassAux, ne1, ne2, g2, g4, q2, q3]
  simp [Vm.assignableAux, ne1, g2, f2, g5, f3, hi, Vm.isSubclass, n3]
theorem Ary.len {a : Addr} {ty : FieldType} {vs : List Value} (A : Ary Z h a ty vs) : vs.length < 2 ^ 31 := by obtain ⟨_, _, _, q⟩ := A; exact q
/-! held: the string constants of EL say their text (the library's CHv, CHr) -/
abbrev ConH (l : Launch) (y : MethodName) (code : ByteArray) (ml : Nat) (rt : Option FieldType) (ws : List Jvm.Cond) (rm : Room) (as' : Array Value) (Z : State) (h0 : Heap) (EL : List (String × Nat)) (Q : Option Value → Heap → List Loc → Prop) : Prop :=
  MetFree l y (head1 (Jvm.Cond.code y code ml rt :: ws) rm) (fun a U => a = as' ∧ Z.Warmed39 U.vm ∧ U.heap = h0 ∧ CHv Z EL U.vm h0) (fun _ _ _ _ _ => True) (fun _ U o U' => ∃ v L, o = .returned v ∧ Q v U'.heap L ∧ CHr Z EL U.vm U.heap U'.vm U'.heap ∧ ReturnedEndW U o U' L rm.cells rm.slots)
theorem ConH.of {y : MethodName} {code : ByteArray} {ml : Nat} {rt : Option FieldType} {ws : List Jvm.Cond} {rm : Room} {as' : Array Value} {h0 : Heap} {EL : List (String × Nat)} {Q : Option Value → Heap → List Loc → Prop} (hp : plainFor y = true)
    (k : ∀ (p : Program) (e : Env) (s : State) (m : MethodId) (below : List Frame) (meth : Method) (c : Code) (s₁ : State) (vm0 : Vm), CHr Z EL vm0 h0 s.vm h0 → p.tables.exec = Jvm.exec → Z.Warmed39 s.vm → c.code = code → c.maxLocals = ml → s.vm.findClass y.cls = some m.cls → meth.name = y.name → meth.sig.returnType = rt → meth.locks = false →
      Stand p l e rm s m as' below meth c s₁ [] 0 0 → s₁.heap = h0 → Ends (some (CHr Z EL vm0 h0)) p e below s (Fl Q 0) rm.cells rm.slots s₁ (entryFrame m as' ml)) : ConH l y code ml rt ws rm as' Z h0 EL Q := by
  refine MetFree.of_bodySF hp hisR ?_
  intro p e s m args below meth c s₁ Bd hml0 hP hK
  obtain ⟨rfl, hZ, hh, hC⟩ := hP
  obtain ⟨s2, o, h1, h2, h3, v, L, h4, h5, h6, h7⟩ := k p e s m below meth c s₁ s.vm (CHr.refl hC) Bd.exec hZ Bd.bytes hml0 (findClass_of_methodNamed Bd.named) (name_of_methodNamed Bd.named Bd.method).1 Bd.returns Bd.notSynchronized (Stand.of_body Bd) (by rw [← hh, Bd.state]; rfl)
  exact ⟨s2, o, h1, h2, h3, v, L, h4, h5.1, by rw [hh]; exact h7, h6⟩
theorem own_chret {EL : List (String × Nat)} {vm0 : Vm} {h0 : Heap} (X : Stand p l e R s m args below meth c T locs cells slots) (hZ : Z.Warmed39 s.vm) (w : EW Z a0 EL) (H : CHr Z EL vm0 h0 s.vm h) (eT : T.heap = h) : CHr Z EL vm0 h0 T.vm T.heap := by
  rw [eT]; exact H.trans (CHv.at (s := s) (vm0 := s.vm) X hZ w H.1)
/-- a string constant, loaded cold, not read -/
theorem Ends.ldcO {f0 : Nat} {EL : List (String × Nat)} (X : Stand p l e R s m args below meth c T locs cells slots) (hx : p.tables.exec = Jvm.exec) (hZ : Z.Warmed39 s.vm) {own text : String} {index : Nat} (hown : s.vm.findClass own = some m.cls) (w : (Jvm.Cond.stringLink own index text).before a0 Z = true) (wS : ∀ a ∈ Bundle.stringAtoms, a.before a0 Z = true)
    (eT : T.heap = h) (hf : f0 ≤ h.size) (hEL : EW Z a0 EL) (H : CHv Z EL s.vm h) {pc : Nat} {Ls : Array Slot} {st : List Value} (hd : decode c.code pc = .ok (.ldc index, 2)) (n : Nat) (hn : 4 * text.toList.length ≤ n) (hbig : n ≤ 536870912) (hc : cells + 2 ≤ R.cells) (hl : slots + (n + 4) ≤ R.slots)
    (k : ∀ s' T' h' a, Stand p l e R s' m args below meth c T' locs (cells + 2) (slots + (n + 4)) → T'.heap = h' → Ext h h' → CHr Z EL s.vm h s'.vm h' → Z.Warmed39 s'.vm → s'.vm.findClass own = some m.cls → Ends (some F) p e below s' (Fl Qb h'.size) kc ks T' (mkF m (pc + 2) Ls (.ref a :: st))) : Ends (some F) p e below s (Fl Qb f0) kc ks T (mkF m pc Ls st) := by
  obtain ⟨a, T', h', k1, X', e', E, hS, hk1, hZ', hown', hC, -, st'⟩ := ldcOH (s := s) (vm0 := s.vm) X hx hZ hown w wS eT (own_since s) (Nat.zero_le _) hEL H (g := mkF m pc Ls st) rfl hd hn hbig hc hl
  exact Ends.rebase hS hk1 (Nat.le_trans hf E.1) (Ends.go st' (k _ T' h' a X' e' E hC hZ' hown'))
theorem Ary.of_arv {a : Addr} {k : ClassId} {ty : FieldType} {z : Int32} {vs : List Value} {d : Value} (A : Arv Z h a k ty z vs d) (hz : z.toNatClampNeg = vs.length) : Ary Z h a ty vs := by
  obtain ⟨c, A, -, h1, h2, h3, -⟩ := A
  have hl : vs.length < 2 ^ 31 := by rw [← hz]; exact (back32 h2).2
  refine ⟨c, A, ?_, hl⟩
  refine Array.ext' ?_
  refine List.ext_getElem? fun i => ?_
  rw [Array.getElem?_toList]
  by_cases q : i < c.slots.size
  · rw [h3 i q]
    have q' : i < vs.length := by omega
    simp [List.getD, q']
  · rw [Array.getElem?_eq_none (by omega)]
    have q' : vs.length ≤ i := by omega
    simp [q']
/-- a string constant of EL, read -/
theorem Ends.ldcR {f0 : Nat} {EL : List (String × Nat)} (X : Stand p l e R s m args below meth c T locs cells slots) (hx : p.tables.exec = Jvm.exec) (hZ : Z.Warmed39 s.vm) {own text : String} {index : Nat} (hown : s.vm.findClass own = some m.cls) (w : (Jvm.Cond.stringLink own index text).before a0 Z = true) (wS : ∀ a ∈ Bundle.stringAtoms, a.before a0 Z = true)
    (eT : T.heap = h) (hf : f0 ≤ h.size) (hEL : EW Z a0 EL) (hmem : (own, index) ∈ EL) (H : CHv Z EL s.vm h) {vs : List Value} {z : Int32} (ht : (∀ c ∈ text.toList, c.toNat < 256) ∧ text.toList.map (fun c => Value.int (Jvm.Lit.byteI c.toNat.toUInt16)) = vs) (hz : ¬ z < 0) (hzl : z.toNatClampNeg = vs.length)
    {pc : Nat} {Ls : Array Slot} {st : List Value} (hd : decode c.code pc = .ok (.ldc index, 2)) (n : Nat) (hn : 4 * text.toList.length ≤ n) (hbig : n ≤ 536870912) (hc : cells + 2 ≤ R.cells) (hl : slots + (n + 4) ≤ R.slots)
    (k : ∀ s' T' h' a b, Stand p l e R s' m args below meth c T' locs (cells + 2) (slots + (n + 4)) → T'.heap = h' → Ext h h' → CHr Z EL s.vm h s'.vm h' → Z.Warmed39 s'.vm → s'.vm.findClass own = some m.cls → Exa Z h' a "java/lang/String" → Fld Z h' a "java/lang/String" "coder" "B" (.int 0) → Fld Z h' a "java/lang/String" "value" "[B" (.ref b) → Ary Z h' b .byte vs → (∀ x, Safe Z EL s'.vm h' x → x ≠ a ∧ x ≠ b) →
      Ends (some F) p e below s' (Fl Qb h'.size) kc ks T' (mkF m (pc + 2) Ls (.ref a :: st))) : Ends (some F) p e below s (Fl Qb f0) kc ks T (mkF m pc Ls st) := by
  obtain ⟨a, T', h', k1, b, kk, X', e', E, hS, hk1, hZ', hown', A1, A2, A3, A4, -, -, hC, -, hsafe, st'⟩ := ldcCH (s := s) (vm0 := s.vm) X hx hZ hown w wS eT (own_since s) (Nat.zero_le _) hEL hmem H ht hz hzl (g := mkF m pc Ls st) rfl hd hn hbig hc hl
  exact Ends.rebase hS hk1 (Nat.le_trans hf E.1) (Ends.go st' (k _ T' h' a b X' e' E hC hZ' hown' A1 A2 A3 (Ary.of_arv A4 hzl) hsafe))

theorem Ends.callSH {f0 : Nat} {EL : List (String × Nat)} (X : Stand p l e R s m args below meth c T locs cells slots) (hx : p.tables.exec = Jvm.exec) (hZ : Z.Warmed39 s.vm) {own : String} (hown : s.vm.findClass own = some m.cls) {index : Nat} {y : MethodName} {bytes : ByteArray} {maxL : Nat} {rt : Option FieldType} {rm : Room} {Q : Option Value → Heap → List Loc → Prop}
    (w1 : (Jvm.Cond.methodLink own index y).before a0 Z = true) (w2 : (Jvm.Cond.static y).before a0 Z = true) (w3 : (Jvm.Cond.initialized y.cls).before a0 Z = true) (w4 : (Jvm.Cond.code y bytes maxL rt).before a0 Z = true) (hy : y.cls ≠ "java/lang/invoke/MethodHandle" ∧ y.cls ≠ "java/lang/invoke/VarHandle")
    {argsL rest : List Value} (eT : T.heap = h) (hf0 : f0 ≤ h.size) (hEL : EW Z a0 EL) (H : CHv Z EL s.vm h) (M : ConH l y bytes maxL rt [] rm argsL.toArray Z h EL Q) {W pc : Nat} (hf : rm.frames + 1 ≤ R.frames) (hl : W + (maxL + 11) + rm.locals ≤ R.locals) {Ls : Array Slot} (hsz : Ls.size = c.maxLocals)
    (hlen : ∀ sig, parseMethodDescriptor y.desc = some sig → argsL.length = sig.parameters.length) (hW : (rest.map fun v => v.category).sum ≤ W) (hd : decode c.code pc = .ok (.invokestatic index, 3)) (hc : cells + rm.cells ≤ R.cells) (hs : slots + rm.slots ≤ R.slots) {st : List Value} (hst : st = argsL.reverse ++ rest)
    (k : ∀ s' T' v L, Stand p l e R s' m args below meth c T' (locs ++ L) (cells + rm.cells) (slots + rm.slots) → CHr Z EL s.vm h s'.vm T'.heap → Z.Warmed39 s'.vm → s'.vm.findClass own = some m.cls → Q v T'.heap L → Ends (some F) p e below s' (Fl Qb T'.heap.size) kc ks T' (mkF m (pc + 3) Ls (v.toList ++ rest))) :
    Ends (some F) p e below s (Fl Qb f0) kc ks T (mkF m pc Ls st) := by
  obtain ⟨v, vm1, ⟨T1, L1, k1, n1⟩, -, X1, hS, hgr, ⟨Lc, hQ, q1, q2, q3, hC⟩, st1⟩ := Jvm.RoadKit.callSS X hx hown (mvT hZ w1) (mvT hZ w2) (mvT hZ w3) (mvT hZ w4) hy (backOfSH (s := s) (vm0 := s.vm) (W := W) M hZ w4 w3 hf hl hEL H) (g := mkF m pc Ls st) rfl hsz (argsL := argsL) (rest := rest) hlen hst (by show 2 * 0 + _ ≤ _; omega) hd (fun _ _ => ⟨rfl, eT, hc, hs⟩)
  dsimp only [Pt.U, Pt.locs, Pt.cells, Pt.slots] at X1 q1 q2 q3 st1 hQ hS hgr hC
  subst q1 q2 q3
  refine Ends.rebase hS (Nat.le_refl _) (Nat.le_trans hf0 (by rw [← eT]; exact hgr)) (Ends.go (fun t kt => st1.trans kt) (k _ T1 v Lc X1 hC (State.Warmed39.trans (t := s) hZ hS.1) (by show T1.vm.findClass own = _; rw [hS.1.alike.findClass]; exact hown) hQ))
theorem Ends.callIH {f0 : Nat} {EL : List (String × Nat)} (X : Stand p l e R s m args below meth c T locs cells slots) (hx : p.tables.exec = Jvm.exec) (hZ : Z.Warmed39 s.vm) {own : String} (hown : s.vm.findClass own = some m.cls) {index : Nat} {y : MethodName} {bytes : ByteArray} {maxL : Nat} {rm : Room} {Q : Option Value → Heap → List Loc → Prop}
    (w1 : (Jvm.Cond.methodLink own index y).before a0 Z = true) (w2 : (Jvm.Cond.instanceMethod y).before a0 Z = true) (w3 : (Jvm.Cond.initialized y.cls).before a0 Z = true) (w4 : (Jvm.Cond.code y bytes maxL none).before a0 Z = true) (hyn : y.name = "<init>") (hy : y.cls ≠ "java/lang/invoke/MethodHandle" ∧ y.cls ≠ "java/lang/invoke/VarHandle")
    {b : Addr} {argsL rest : List Value} (eT : T.heap = h) (hf0 : f0 ≤ h.size) (hEL : EW Z a0 EL) (H : CHv Z EL s.vm h) (M : ConH l y bytes maxL none [] rm (.ref b :: argsL).toArray Z h EL Q) {W pc : Nat} (hf : rm.frames + 1 ≤ R.frames) (hl : W + (maxL + 11) + rm.locals ≤ R.locals) {Ls : Array Slot} (hsz : Ls.size = c.maxLocals)
    (hlen : ∀ sig, parseMethodDescriptor y.desc = some sig → argsL.length = sig.parameters.length) (hW : (rest.map fun v => v.category).sum ≤ W) (hd : decode c.code pc = .ok (.invokespecial index, 3)) (hc : cells + rm.cells ≤ R.cells) (hs : slots + rm.slots ≤ R.slots) {st : List Value} (hst : st = argsL.reverse ++ .ref b :: rest)
    (k : ∀ s' T' v L, Stand p l e R s' m args below meth c T' (locs ++ L) (cells + rm.cells) (slots + rm.slots) → CHr Z EL s.vm h s'.vm T'.heap → Z.Warmed39 s'.vm → s'.vm.findClass own = some m.cls → Q v T'.heap L → Ends (some F) p e below s' (Fl Qb T'.heap.size) kc ks T' (mkF m (pc + 3) Ls (v.toList ++ rest))) :
    Ends (some F) p e below s (Fl Qb f0) kc ks T (mkF m pc Ls st) := by
  obtain ⟨v, vm1, ⟨T1, L1, k1, n1⟩, -, X1, hS, hgr, ⟨Lc, hQ, q1, q2, q3, hC⟩, st1⟩ := X.specialBackS hx hyn hown (mvT hZ w1) (mvT hZ w2) (mvT hZ w4) hy (backOfSH (s := s) (vm0 := s.vm) (W := W) M hZ w4 w3 hf hl hEL H) (g := mkF m pc Ls st) rfl hsz (Steps.refl _) (a := b) (argsL := argsL) (rest := rest) hlen hst (by show 2 * 0 + _ ≤ _; omega) hd (fun _ _ => ⟨rfl, eT, hc, hs⟩)
  dsimp only [Pt.U, Pt.locs, Pt.cells, Pt.slots] at X1 q1 q2 q3 st1 hQ hS hgr hC
  subst q1 q2 q3
  refine Ends.rebase hS (Nat.le_refl _) (Nat.le_trans hf0 (by rw [← eT]; exact hgr)) (Ends.go (fun t kt => st1.trans kt) (k _ T1 v Lc X1 hC (State.Warmed39.trans (t := s) hZ hS.1) (by show T1.vm.findClass own = _; rw [hS.1.alike.findClass]; exact hown) hQ))
theorem own_safe_ary {EL : List (String × Nat)} {vm : Vm} {a : Addr} {ty : FieldType} {vs : List Value} (hal : Z.vm.Alike vm) (A : Ary Z h a ty vs) (ht : ty ≠ .byte) : Safe Z EL vm h a := by
  obtain ⟨c, A, -⟩ := A; exact Safe.arr hal A ht
/-- a String under construction isn't a constant's -/
theorem own_safe_blank {EL : List (String × Nat)} {vm : Vm} {a : Addr} (hal : Z.vm.Alike vm) (E : Exa Z h a "java/lang/String") (F : Fld Z h a "java/lang/String" "value" "[B" .null) : Safe Z EL vm h a := fun B => by
  obtain ⟨cell, k, e1, e2, e3, -, -⟩ := E
  obtain ⟨cell', cf, kf, i, f, f1, f2, f3, f4, f5, f6, f7⟩ := F
  cases e1.symm.trans f1
  obtain ⟨p, -, u, a', -, q, -, G, rfl | rfl⟩ := B
  · cases (show h[q.sa]? = some q.sC from G.ha).symm.trans e1
    obtain ⟨cS, ⟨⟨-, -, -, ⟨c1, k1, i1, g1, -⟩, -, -, -, v1, -⟩, -⟩, -⟩ := G
    obtain ⟨k3, g3, -⟩ := State.fieldFound?_setVm (s := Z) hal f2
    have e4 := (show (Wst Z vm h).fieldFound? _ _ _ = _ from g3).symm.trans g1
    simp only [Option.some.injEq, Prod.mk.injEq] at e4
    rw [← e4.2.2.2, f7] at v1
    cases v1
  · cases (show h[q.sd]? = some q.SA from G.hd).symm.trans e1
    obtain ⟨cS, -, -, g, -⟩ := G
    have g' : vm.findClass "[B" = some q.SA.cls := g
    rw [hal.findClass] at g'
    exact ids_ne e2 g' (by decide) rfl
end OwnWide
set_option maxRecDepth 65536
set_option maxHeartbeats 40000000
theorem own_w {Z : State} {a0 : Array Value} (hw : ∀ d ∈ tables_1, d.before a0 Z = true) (i : Nat) {d : Jvm.Cond} (h : tables_1[i]? = some d) : d.before a0 Z = true := hw _ (List.mem_of_getElem? h)
/-! own text: bytes of chars 0 to 255 -/
theorem own_wr_le {h h' : Heap} {a : Addr} {sl : Nat} {v : Value} (W : Wr h h' a sl v) : h.size ≤ h'.size := by
  obtain ⟨c, -, -, -, rfl⟩ := W; simp
theorem own_nb8 (c : Int32) : nar .byte c.toInt8.toInt32 = c.toInt8.toInt32 := by
  show (c.toInt8.toInt32).toInt8.toInt32 = c.toInt8.toInt32
  simp
/-- a sign of one byte -/
def own_B (z : Int32) : Prop := 0 ≤ z.toInt ∧ z.toInt ≤ 255
theorem own_B_le {z : Int32} (h : own_B z) : ¬ (255 : Int32) < z := by
  rw [Int32.lt_iff_toInt_lt, show (255 : Int32).toInt = 255 from by decide]; have := h.2; omega
theorem own_i8 (z : Int32) : z.toInt8.toInt32.toInt = z.toInt.bmod 256 := by
  rw [Int8.toInt_toInt32]; exact Int32.toInt_toInt8 z
theorem own_b8 {z w : Int32} (h : own_B z) (g : own_B w) : z.toInt8.toInt32 = w.toInt8.toInt32 ↔ z = w := by
  refine ⟨fun q => ?_, fun q => by rw [q]⟩
  have q' := congrArg Int32.toInt q
  rw [own_i8, own_i8] at q'
  refine Int32.toInt_inj.mp ?_
  obtain ⟨h1, h2⟩ := h; obtain ⟨g1, g2⟩ := g
  simp only [Int.bmod] at q'
  split at q' <;> split at q' <;> omega
theorem own_and255 (x : Int32) : own_B (x &&& 255) := by
  have e : (x &&& 255).toInt = ((x.toBitVec.toNat &&& 255 : Nat) : Int) := by
    show ((x &&& 255).toBitVec).toInt = _
    rw [BitVec.toInt_eq_toNat_of_lt]
    · congr 1
    · show 2 * (x.toBitVec.toNat &&& 255) < 2 ^ 32
      have : x.toBitVec.toNat &&& 255 ≤ 255 := Nat.and_le_right
      omega
  have : x.toBitVec.toNat &&& 255 ≤ 255 := Nat.and_le_right
  constructor <;> rw [e] <;> omega
theorem own_nc {z : Int32} (h : own_B z) : z.toUInt32.toUInt16.toUInt32.toInt32 = z := by
  have q : z.toBitVec.toNat ≤ 255 := by
    have e : z.toInt = z.toBitVec.toInt := rfl
    obtain ⟨h1, h2⟩ := h
    rw [e, BitVec.toInt_eq_toNat_cond] at h1 h2
    split at h1 <;> split at h2 <;> omega
  have e : z.toUInt32.toUInt16.toUInt32 = z.toUInt32 := by
    refine UInt32.toNat_inj.mp ?_
    have r : z.toUInt32.toNat ≤ 255 := q
    simp
    omega
  rw [e]; simp
theorem own_ch {x z : Int32} (e : z = (x &&& 255).toUInt32.toUInt16.toUInt32.toInt32) : own_B z ∧ nar .char z = z := by
  have h := own_and255 x
  rw [own_nc h] at e
  subst e
  exact ⟨h, own_nc h⟩
theorem own_succ (i : Nat) : (Int32.ofNat i + (1 : Int32)) = Int32.ofNat (i + 1) := (Int32.ofNat_add i 1).symm
/-! own text: chars and the bytes of UTF16 -/
def own_C (z : Int32) : Prop := 0 ≤ z.toInt ∧ z.toInt ≤ 65535
theorem own_mask8 : ∀ i : Fin 32, (255#32).getLsbD i.val = decide (i.val < 8) := by decide
theorem own_sx8 (b : BitVec 32) : ((b.setWidth 8).signExtend 32) &&& 255#32 = b &&& 255#32 := by
  refine BitVec.eq_of_getLsbD_eq fun i hi => ?_
  have q := own_mask8 ⟨i, hi⟩
  simp only at q
  rw [BitVec.getLsbD_and, BitVec.getLsbD_and, q]
  by_cases h : i < 8
  · simp [BitVec.getLsbD_signExtend, h]; intro _; omega
  · simp [h]
theorem own_byte (y : Int32) : y.toInt8.toInt32 &&& 255 = y &&& 255 := by
  apply Int32.toBitVec_inj.mp
  rw [Int32.toBitVec_and, Int32.toBitVec_and, Int8.toBitVec_toInt32, Int32.toBitVec_toInt8, show BitVec.signExtend 8 y.toBitVec = BitVec.setWidth 8 y.toBitVec from BitVec.signExtend_eq_setWidth_of_le _ (by decide)]
  exact own_sx8 y.toBitVec
theorem own_C_nat {x : Int32} (h : own_C x) : x.toBitVec.toNat < 65536 ∧ x.toBitVec.msb = false := by
  obtain ⟨h1, h2⟩ := h
  have e : x.toInt = x.toBitVec.toInt := rfl
  rw [e, BitVec.toInt_eq_toNat_cond] at h1 h2
  have : x.toBitVec.toNat < 65536 := by split at h1 <;> split at h2 <;> omega
  refine ⟨this, ?_⟩
  rw [BitVec.msb_eq_decide]
  simp; omega
theorem own_shr8 (x : Int32) : (x >>> ((8 : Int32) &&& 31)).toBitVec = x.toBitVec.sshiftRight 8 := by
  rw [show ((8 : Int32) &&& 31) = 8 from by decide, Int32.toBitVec_shiftRight]
  rfl
theorem own_shl8 (x : Int32) : (x <<< ((8 : Int32) &&& 31)).toBitVec = x.toBitVec <<< 8 := by
  rw [show ((8 : Int32) &&& 31) = 8 from by decide, Int32.toBitVec_shiftLeft]
  rfl
theorem own_sh0 (x : Int32) : x >>> ((0 : Int32) &&& 31) = x ∧ x <<< ((0 : Int32) &&& 31) = x := by
  rw [show ((0 : Int32) &&& 31) = 0 from by decide]; simp
theorem own_join16 {x : Int32} (h : own_C x) : (((x >>> ((0 : Int32) &&& 31)).toInt8.toInt32 &&& 255) <<< ((0 : Int32) &&& 31)) ||| (((x >>> ((8 : Int32) &&& 31)).toInt8.toInt32 &&& 255) <<< ((8 : Int32) &&& 31)) = x := by
  obtain ⟨hn, hm⟩ := own_C_nat h
  rw [own_byte, own_byte, (own_sh0 _).1, (own_sh0 _).2]
  apply Int32.toBitVec_inj.mp
  rw [Int32.toBitVec_or, Int32.toBitVec_and, own_shl8, Int32.toBitVec_and, own_shr8]
  refine BitVec.eq_of_getLsbD_eq fun i hi => ?_
  have hz : ∀ j, 16 ≤ j → x.toBitVec.getLsbD j = false := fun j hj => by
    apply Nat.testBit_lt_two_pow
    have h2 : 2 ^ 16 ≤ 2 ^ j := Nat.pow_le_pow_right (by decide) hj
    omega
  have q := own_mask8 ⟨i, hi⟩
  simp only at q
  have e255 : (255 : Int32).toBitVec = 255#32 := rfl
  rw [e255, BitVec.getLsbD_or, BitVec.getLsbD_and, q, BitVec.getLsbD_shiftLeft, BitVec.getLsbD_and, BitVec.getLsbD_sshiftRight]
  by_cases h1 : i < 8
  · simp [h1]
  · have q2 := own_mask8 ⟨i - 8, by omega⟩
    simp only at q2
    rw [q2, show 8 + (i - 8) = i from by omega]
    by_cases h2 : i - 8 < 8
    · simp [h1, h2, hi]; intro _; omega
    · simp [h1, h2]; rw [hz i (by omega)]
theorem own_nc16 {z : Int32} (h : own_C z) : z.toUInt32.toUInt16.toUInt32.toInt32 = z := by
  have q := (own_C_nat h).1
  have e : z.toUInt32.toUInt16.toUInt32 = z.toUInt32 := by
    refine UInt32.toNat_inj.mp ?_
    have r : z.toUInt32.toNat < 65536 := q
    simp
    omega
  rw [e]; simp
theorem own_cC (z : Int32) : own_C (z.toUInt32.toUInt16.toUInt32.toInt32) := by
  have e : (z.toUInt32.toUInt16.toUInt32.toInt32).toBitVec.toNat < 65536 := by
    show (z.toUInt32.toUInt16.toUInt32).toNat < 65536
    have := z.toUInt32.toUInt16.toNat_lt
    simp
    omega
  have e2 : (z.toUInt32.toUInt16.toUInt32.toInt32).toInt = ((z.toUInt32.toUInt16.toUInt32.toInt32).toBitVec.toNat : Int) := by
    show ((z.toUInt32.toUInt16.toUInt32.toInt32).toBitVec).toInt = _
    rw [BitVec.toInt_eq_toNat_of_lt (by omega)]
  constructor <;> rw [e2] <;> omega
theorem own_and16 (z : Int32) : own_C (z &&& 65535) := by
  have e : (z &&& 65535).toBitVec.toNat = z.toBitVec.toNat &&& 65535 := rfl
  have q : z.toBitVec.toNat &&& 65535 ≤ 65535 := Nat.and_le_right
  have e2 : (z &&& 65535).toInt = ((z &&& 65535).toBitVec.toNat : Int) := by
    show ((z &&& 65535).toBitVec).toInt = _
    rw [BitVec.toInt_eq_toNat_of_lt (by omega)]
  constructor <;> rw [e2] <;> omega
theorem own_C0 {z : Int32} (h : own_C z) (h2 : ¬ (255 : Int32) < z) : own_B z := by
  rw [Int32.lt_iff_toInt_lt, show (255 : Int32).toInt = 255 from by decide] at h2
  exact ⟨h.1, by omega⟩
theorem own_latc {x : Int32} (h : own_B x) : x.toInt8.toInt32 &&& 255 = x := by
  rw [own_byte]
  have hC : own_C x := ⟨h.1, by have := h.2; omega⟩
  have q := (own_C_nat hC).1
  have e : x.toInt = x.toBitVec.toInt := rfl
  have q2 : x.toBitVec.toNat ≤ 255 := by
    have h2 := h.2
    rw [e, BitVec.toInt_eq_toNat_of_lt (by omega)] at h2; omega
  apply Int32.toBitVec_inj.mp
  apply BitVec.eq_of_toNat_eq
  show x.toBitVec.toNat &&& 255 = _
  rw [show (255 : Nat) = 2 ^ 8 - 1 from rfl, Nat.and_two_pow_sub_one_eq_mod]; omega
def own_utf : List Int32 → List Int32
  | [] => []
  | x :: xs => (x >>> ((0 : Int32) &&& 31)).toInt8.toInt32 :: (x >>> ((8 : Int32) &&& 31)).toInt8.toInt32 :: own_utf xs
theorem own_utf_len : ∀ xs : List Int32, (own_utf xs).length = 2 * xs.length
  | [] => rfl
  | x :: xs => by simp only [own_utf, List.length_cons, own_utf_len xs]; omega
theorem own_utf_at : ∀ {xs : List Int32} {k : Nat} {x : Int32}, xs[k]? = some x → (own_utf xs)[2 * k]? = some ((x >>> ((0 : Int32) &&& 31)).toInt8.toInt32) ∧ (own_utf xs)[2 * k + 1]? = some ((x >>> ((8 : Int32) &&& 31)).toInt8.toInt32)
  | [], k, x, h => by cases h
  | y :: ys, 0, x, h => by cases h; exact ⟨rfl, rfl⟩
  | y :: ys, k + 1, x, h => by
    have q := own_utf_at (xs := ys) (k := k) (x := x) (by simpa using h)
    rw [show 2 * (k + 1) + 1 = (2 * k + 1) + 1 + 1 from by omega, show 2 * (k + 1) = 2 * k + 1 + 1 from by omega]
    simpa [own_utf] using q
theorem own_shr0' (z : Int32) : z >>> ((0 : Int32) &&& 31) = z := (own_sh0 z).1
theorem own_shr1' {n : Nat} (h : 2 * n < 2 ^ 31) : Int32.ofNat (2 * n) >>> ((1 : Int32) &&& 31) = Int32.ofNat n := by
  rw [show ((1 : Int32) &&& 31) = 1 from by decide]
  apply Int32.toBitVec_inj.mp
  rw [Int32.toBitVec_shiftRight]
  apply BitVec.eq_of_toNat_eq
  show ((Int32.ofNat (2 * n)).toBitVec.sshiftRight 1).toNat = _
  have e : (Int32.ofNat (2 * n)).toBitVec = BitVec.ofNat 32 (2 * n) := rfl
  have e2 : (Int32.ofNat n).toBitVec = BitVec.ofNat 32 n := rfl
  rw [e, e2, BitVec.sshiftRight_eq_of_msb_false]
  · simp; omega
  · rw [BitVec.msb_eq_decide]; simp; omega
theorem own_shl1 {n : Nat} (h : 2 * n < 2 ^ 31) : Int32.ofNat n <<< ((1 : Int32) &&& 31) = Int32.ofNat (2 * n) := by
  rw [show ((1 : Int32) &&& 31) = 1 from by decide]
  apply Int32.toBitVec_inj.mp
  rw [Int32.toBitVec_shiftLeft]
  apply BitVec.eq_of_toNat_eq
  show ((Int32.ofNat n).toBitVec <<< (1 : Nat)).toNat = _
  have e : (Int32.ofNat n).toBitVec = BitVec.ofNat 32 n := rfl
  have e2 : (Int32.ofNat (2 * n)).toBitVec = BitVec.ofNat 32 (2 * n) := rfl
  rw [e, e2]
  simp [Nat.shiftLeft_eq]; omega
/-! own text: the prefix table, in plain words -/
section OwnKmp
variable {α : Type} [DecidableEq α]
def own_fall (xs : List α) (tab : List Nat) (c : α) : Nat → Nat → Nat
  | 0, len => len
  | f + 1, len => if len = 0 then 0 else if xs[len]? = some c then len else own_fall xs tab c f (tab.getD (len - 1) 0)
def own_run (xs : List α) : Nat → List Nat × Nat
  | 0 => (List.replicate xs.length 0, 0)
  | k + 1 => match xs[k + 1]? with
    | none => own_run xs k
    | some c => ((own_run xs k).1.set (k + 1) (if xs[own_fall xs (own_run xs k).1 c (k + 1) (own_run xs k).2]? = some c then own_fall xs (own_run xs k).1 c (k + 1) (own_run xs k).2 + 1 else own_fall xs (own_run xs k).1 c (k + 1) (own_run xs k).2),
        if xs[own_fall xs (own_run xs k).1 c (k + 1) (own_run xs k).2]? = some c then own_fall xs (own_run xs k).1 c (k + 1) (own_run xs k).2 + 1 else own_fall xs (own_run xs k).1 c (k + 1) (own_run xs k).2)
def own_kmp (xs : List α) : List Nat := (own_run xs (xs.length - 1)).1
def own_bord (cs : List α) (i L : Nat) : Bool := (List.range L).all fun j => decide (cs[j]? = cs[i - L + (j + 1)]?)
def own_ref (cs : List α) (i : Nat) : Nat :=
  if 5 ≤ i ∧ own_bord cs i 5 = true then 5 else if 4 ≤ i ∧ own_bord cs i 4 = true then 4 else if 3 ≤ i ∧ own_bord cs i 3 = true then 3 else if 2 ≤ i ∧ own_bord cs i 2 = true then 2 else if 1 ≤ i ∧ own_bord cs i 1 = true then 1 else 0
end OwnKmp
section OwnMap
variable {α β : Type} [DecidableEq α] [DecidableEq β] {g : α → β}
theorem own_map_at {xs : List α} (hg : ∀ a ∈ xs, ∀ b ∈ xs, g a = g b → a = b) {c : α} (hc : c ∈ xs) (i : Nat) : (xs.map g)[i]? = some (g c) ↔ xs[i]? = some c := by
  rw [List.getElem?_map]
  cases h : xs[i]? with
  | none => simp
  | some a =>
    have ha := List.mem_of_getElem? h
    simp only [Option.map_some, Option.some.injEq]
    exact ⟨fun q => hg a ha c hc q, fun q => by rw [q]⟩
theorem own_fall_map {xs : List α} (hg : ∀ a ∈ xs, ∀ b ∈ xs, g a = g b → a = b) {c : α} (hc : c ∈ xs) (tab : List Nat) : ∀ f len, own_fall (xs.map g) tab (g c) f len = own_fall xs tab c f len
  | 0, len => rfl
  | f + 1, len => by
    simp only [own_fall, own_map_at hg hc, own_fall_map hg hc tab f]
theorem own_run_map {xs : List α} (hg : ∀ a ∈ xs, ∀ b ∈ xs, g a = g b → a = b) : ∀ k, own_run (xs.map g) k = own_run xs k
  | 0 => by simp [own_run]
  | k + 1 => by
    have ih := own_run_map hg k
    simp only [own_run]
    rw [List.getElem?_map]
    cases h : xs[k + 1]? with
    | none => simpa using ih
    | some c =>
      have hc := List.mem_of_getElem? h
      simp only [Option.map_some, ih, own_fall_map hg hc, own_map_at hg hc]
theorem own_kmp_map {xs : List α} (hg : ∀ a ∈ xs, ∀ b ∈ xs, g a = g b → a = b) : own_kmp (xs.map g) = own_kmp xs := by
  simp only [own_kmp, List.length_map, own_run_map hg]
theorem own_bord_map {cs : List α} (hg : ∀ a ∈ cs, ∀ b ∈ cs, g a = g b → a = b) (i L : Nat) : own_bord (cs.map g) i L = own_bord cs i L := by
  simp only [own_bord, List.getElem?_map]
  congr 1
  funext j
  congr 1
  apply propext
  cases h1 : cs[j]? with
  | none => cases h2 : cs[i - L + (j + 1)]? <;> simp
  | some a =>
    cases h2 : cs[i - L + (j + 1)]? with
    | none => simp
    | some b =>
      simp only [Option.map_some, Option.some.injEq]
      exact ⟨fun q => hg a (List.mem_of_getElem? h1) b (List.mem_of_getElem? h2) q, fun q => by rw [q]⟩
theorem own_ref_map {cs : List α} (hg : ∀ a ∈ cs, ∀ b ∈ cs, g a = g b → a = b) (i : Nat) : own_ref (cs.map g) i = own_ref cs i := by
  simp only [own_ref, own_bord_map hg]
end OwnMap
def own_chk (cs : List Nat) (n : Nat) : Bool := (List.range n).all fun i => (own_kmp (cs.take n))[i]? == some (own_ref cs i)
theorem own_all6 : ∀ (b : Fin 2) (c : Fin 3) (d : Fin 4) (e : Fin 5) (f : Fin 6) (n : Fin 7), own_chk [0, b.val, c.val, d.val, e.val, f.val] n.val = true := by decide +kernel
theorem own_idx_le {α : Type} [BEq α] [LawfulBEq α] : ∀ (cs : List α) (i : Nat) (x : α), cs[i]? = some x → cs.idxOf x ≤ i
  | [], i, x, h => by cases h
  | y :: ys, 0, x, h => by cases h; simp
  | y :: ys, i + 1, x, h => by
    rw [List.idxOf_cons]
    cases hq : y == x with
    | true => simp
    | false => have := own_idx_le ys i x (by simpa using h); simp; omega
theorem own_idx_inj {α : Type} [BEq α] [LawfulBEq α] {cs : List α} {a b : α} (ha : a ∈ cs) (hb : b ∈ cs) (h : cs.idxOf a = cs.idxOf b) : a = b := by
  have h1 := List.getElem_idxOf (List.idxOf_lt_length_of_mem ha)
  have h2 := List.getElem_idxOf (List.idxOf_lt_length_of_mem hb)
  rw [← h1, ← h2]
  simp only [h]
theorem own_law {α : Type} [DecidableEq α] (x0 x1 x2 x3 x4 x5 : α) {n i : Nat} (hn : n ≤ 6) (hi : i < n) : (own_kmp ([x0, x1, x2, x3, x4, x5].take n))[i]? = some (own_ref [x0, x1, x2, x3, x4, x5] i) := by
  have hinj : ∀ a ∈ [x0, x1, x2, x3, x4, x5], ∀ b ∈ [x0, x1, x2, x3, x4, x5], [x0, x1, x2, x3, x4, x5].idxOf a = [x0, x1, x2, x3, x4, x5].idxOf b → a = b := fun a ha b hb h => own_idx_inj ha hb h
  have hinj2 : ∀ a ∈ [x0, x1, x2, x3, x4, x5].take n, ∀ b ∈ [x0, x1, x2, x3, x4, x5].take n, [x0, x1, x2, x3, x4, x5].idxOf a = [x0, x1, x2, x3, x4, x5].idxOf b → a = b := fun a ha b hb h => own_idx_inj (List.mem_of_mem_take ha) (List.mem_of_mem_take hb) h
  rw [← own_kmp_map (g := fun a => [x0, x1, x2, x3, x4, x5].idxOf a) hinj2, ← own_ref_map (g := fun a => [x0, x1, x2, x3, x4, x5].idxOf a) hinj, List.map_take]
  have l0 := own_idx_le [x0, x1, x2, x3, x4, x5] 0 x0 rfl
  have l1 := own_idx_le [x0, x1, x2, x3, x4, x5] 1 x1 rfl
  have l2 := own_idx_le [x0, x1, x2, x3, x4, x5] 2 x2 rfl
  have l3 := own_idx_le [x0, x1, x2, x3, x4, x5] 3 x3 rfl
  have l4 := own_idx_le [x0, x1, x2, x3, x4, x5] 4 x4 rfl
  have l5 := own_idx_le [x0, x1, x2, x3, x4, x5] 5 x5 rfl
  generalize hg : (fun a => [x0, x1, x2, x3, x4, x5].idxOf a) = g at *
  have e : ∀ a, [x0, x1, x2, x3, x4, x5].idxOf a = g a := fun a => by rw [← hg]
  rw [e] at l0 l1 l2 l3 l4 l5
  have q := own_all6 ⟨g x1, by omega⟩ ⟨g x2, by omega⟩ ⟨g x3, by omega⟩ ⟨g x4, by omega⟩ ⟨g x5, by omega⟩ ⟨n, by omega⟩
  simp only [own_chk, List.all_eq_true, List.mem_range, beq_iff_eq] at q
  have q' := q i hi
  rw [show (0 : Nat) = g x0 from by omega] at q'
  exact q'
theorem own_fall_le {α : Type} [DecidableEq α] {xs : List α} {tab : List Nat} {c : α} (ht : ∀ j, tab.getD j 0 ≤ j) : ∀ f len, own_fall xs tab c f len ≤ len
  | 0, len => Nat.le_refl _
  | f + 1, len => by
    simp only [own_fall]
    split
    · omega
    · split
      · exact Nat.le_refl _
      · have h1 := own_fall_le (c := c) (xs := xs) ht f (tab.getD (len - 1) 0)
        have h2 := ht (len - 1)
        omega
theorem own_getD_set {l : List Nat} {i v : Nat} (h : ∀ j, l.getD j 0 ≤ j) (hv : v ≤ i) : ∀ j, (l.set i v).getD j 0 ≤ j := fun j => by
  have hj := h j
  simp only [List.getD_eq_getElem?_getD] at hj ⊢
  rw [List.getElem?_set]
  split
  · rename_i e
    subst e
    split
    · simpa using hv
    · simp
  · exact hj
theorem own_run_ok {α : Type} [DecidableEq α] (xs : List α) : ∀ k, (own_run xs k).1.length = xs.length ∧ (∀ j, (own_run xs k).1.getD j 0 ≤ j) ∧ (own_run xs k).2 ≤ k
  | 0 => ⟨by simp [own_run], fun j => by simp only [own_run, List.getD_eq_getElem?_getD, List.getElem?_replicate]; split <;> simp, Nat.le_refl _⟩
  | k + 1 => by
    obtain ⟨h1, h2, h3⟩ := own_run_ok xs k
    simp only [own_run]
    split
    · exact ⟨h1, h2, by omega⟩
    · rename_i c hc
      have h4 := own_fall_le (xs := xs) (c := c) h2 (k + 1) (own_run xs k).2
      refine ⟨by simpa using h1, own_getD_set h2 ?_, ?_⟩ <;> split <;> omega
theorem own_run_succ {α : Type} [DecidableEq α] {xs : List α} {k : Nat} {c : α} (h : xs[k + 1]? = some c) {F l2 : Nat} (hF : own_fall xs (own_run xs k).1 c (k + 1) (own_run xs k).2 = F) (hl : l2 = if xs[F]? = some c then F + 1 else F) : own_run xs (k + 1) = ((own_run xs k).1.set (k + 1) l2, l2) := by
  simp only [own_run, h]
  rw [hF, ← hl]
def own_ints (l : List Nat) : List Int32 := l.map Int32.ofNat
theorem own_ints_set (l : List Nat) (i v : Nat) : (own_ints l).set i (Int32.ofNat v) = own_ints (l.set i v) := by simp only [own_ints, List.map_set]
theorem own_ints_len (l : List Nat) : (own_ints l).length = l.length := by simp [own_ints]
theorem own_ints_at {l : List Nat} {i : Nat} (h : i < l.length) : (own_ints l)[i]? = some (Int32.ofNat (l.getD i 0)) := by
  simp [own_ints, List.getD_eq_getElem?_getD, List.getElem?_eq_getElem h]
theorem own_ints0 (n : Nat) : own_ints (List.replicate n 0) = List.replicate n (0 : Int32) := by simp [own_ints]
theorem own_latD {xs : List Int32} {i : Nat} {x : Int32} (h : xs[i]? = some x) : (((xs.take i).map fun x => x.toInt8.toInt32) ++ List.replicate (xs.length - i) (0 : Int32)).set i (x.toInt8.toInt32) = ((xs.take (i + 1)).map fun x => x.toInt8.toInt32) ++ List.replicate (xs.length - (i + 1)) 0 := by
  have hi : i < xs.length := (List.getElem?_eq_some_iff.mp h).1
  rw [List.take_add_one, h, List.set_append]
  have hl : ((xs.take i).map fun x => x.toInt8.toInt32).length = i := by simp; omega
  rw [hl, if_neg (by omega), Nat.sub_self, show xs.length - i = (xs.length - (i + 1)) + 1 from by omega, List.replicate_succ]
  simp
theorem own_utf_append : ∀ (xs ys : List Int32), own_utf (xs ++ ys) = own_utf xs ++ own_utf ys
  | [], ys => rfl
  | x :: xs, ys => by simp only [List.cons_append, own_utf, own_utf_append xs ys]
theorem own_utfD {xs : List Int32} {i : Nat} {x : Int32} (h : xs[i]? = some x) : ((own_utf (xs.take i) ++ List.replicate (2 * xs.length - 2 * i) (0 : Int32)).set (2 * i) ((x >>> ((0 : Int32) &&& 31)).toInt8.toInt32)).set (2 * i + 1) ((x >>> ((8 : Int32) &&& 31)).toInt8.toInt32) = own_utf (xs.take (i + 1)) ++ List.replicate (2 * xs.length - 2 * (i + 1)) 0 := by
  have hi : i < xs.length := (List.getElem?_eq_some_iff.mp h).1
  have hl : (own_utf (xs.take i)).length = 2 * i := by rw [own_utf_len]; simp; omega
  rw [List.take_add_one, h, own_utf_append, List.set_append, hl, if_neg (by omega), Nat.sub_self, show 2 * xs.length - 2 * i = (2 * xs.length - 2 * (i + 1)) + 1 + 1 from by omega, List.replicate_succ, List.replicate_succ, List.set_append, hl, if_neg (by omega), show 2 * i + 1 - 2 * i = 1 from by omega]
  simp [own_utf]
def own_Str (cd : Int32) (bs xs : List Int32) : Prop := (∀ x ∈ xs, own_C x) ∧ ((cd = 0 ∧ bs = xs.map (fun x => x.toInt8.toInt32) ∧ ∀ x ∈ xs, own_B x) ∨ (cd = 1 ∧ bs = own_utf xs))
/-! own text: numbers as naturals; cells that aren't statics -/
theorem own_addN (a b : Nat) : (Int32.ofNat a + Int32.ofNat b) = Int32.ofNat (a + b) := (Int32.ofNat_add a b).symm
theorem own_ltN {a b : Nat} (ha : a < 2 ^ 31) (hb' : b < 2 ^ 31) : Int32.ofNat a < Int32.ofNat b ↔ a < b := by
  rw [Int32.lt_iff_toInt_lt, own_ofNat ha, own_ofNat hb']; omega
theorem own_eqN {a b : Nat} (ha : a < 2 ^ 31) (hb' : b < 2 ^ 31) : Int32.ofNat a = Int32.ofNat b ↔ a = b := by
  refine ⟨fun q => ?_, fun q => by rw [q]⟩
  have := congrArg Int32.toInt q
  rw [own_ofNat ha, own_ofNat hb'] at this; omega
theorem own_not0 {c : Nat} (h : 1 ≤ c) (h' : c ≤ 6) : ¬ Int32.ofNat c = (0 : Int32) := fun q => by
  have := (own_eqN (a := c) (b := 0) (by omega) (by decide)).mp q
  omega
theorem own_pred {i : Nat} (h : 1 ≤ i) : Int32.ofNat i - (1 : Int32) = Int32.ofNat (i - 1) := by
  have e : Int32.ofNat i = Int32.ofNat (i - 1) + (1 : Int32) := by rw [own_succ, show i - 1 + 1 = i from by omega]
  rw [e]; exact Int32.add_sub_cancel _ _
theorem own_cl0 {n : Nat} : (((((Int32.ofNat n) - (Int32.ofNat n)).toUInt32 >>> ((31 : Int32) &&& 31).toUInt32).toInt32).toInt8.toInt32) = (0 : Int32) := by
  rw [Int32.sub_self]; decide
theorem own_cl1 {n : Nat} (h1 : 1 ≤ n) (h6 : n ≤ 6) : (((((Int32.ofNat n) - (Int32.ofNat (2 * n))).toUInt32 >>> ((31 : Int32) &&& 31).toUInt32).toInt32).toInt8.toInt32) = (1 : Int32) := by
  have : n = 1 ∨ n = 2 ∨ n = 3 ∨ n = 4 ∨ n = 5 ∨ n = 6 := by omega
  rcases this with rfl | rfl | rfl | rfl | rfl | rfl <;> decide
theorem own_nsA {Z : State} {h : Heap} {a : Addr} {ty : FieldType} {vs : List Value} (A : Ary Z h a ty vs) {cell : Cell} (q : h[a]? = some cell) : cell.vm.isStatics = false := by
  obtain ⟨c, ⟨f1, ⟨f2, -⟩, -⟩, -⟩ := A
  cases f1.symm.trans q
  cases e : cell.vm with
  | statics k => exact absurd e (f2 k)
  | _ => rfl
theorem own_ns1 {h : Heap} {b : Addr} (B : ∀ cell : Cell, h[b]? = some cell → cell.vm.isStatics = false) : ∀ x ∈ [b], ∀ cell : Cell, h[x]? = some cell → cell.vm.isStatics = false := fun x m cell q => by
  cases List.mem_singleton.mp m; exact B cell q
theorem own_all0 {P : Addr → Prop} : ∀ x ∈ ([] : List Addr), P x := fun _ q => nomatch q
theorem own_all1 {P : Addr → Prop} {a : Addr} (h : P a) : ∀ x ∈ [a], P x := fun x q => by cases List.mem_singleton.mp q; exact h
/-- the lambda's object: it holds the string sa -/
def LamAt (h : Heap) (a : Addr) (cK : ClassId) (sa : Addr) : Prop := h[a]? = some ({ cls := cK, slots := #[.ref sa], vm := .none } : Cell)
theorem LamAt.lt {h : Heap} {a sa : Addr} {cK : ClassId} (A : LamAt h a cK sa) : a < h.size := (Array.getElem?_eq_some_iff.mp A).1
theorem LamAt.ext {h h' : Heap} {a sa : Addr} {cK : ClassId} (A : LamAt h a cK sa) (E : Ext h h') : LamAt h' a cK sa := E.2 _ _ A
theorem LamAt.keep {h h' : Heap} {a sa : Addr} {cK : ClassId} {ws : List Addr} (A : LamAt h a cK sa) (K : Keep h h' ws) (q : a ∉ ws) : LamAt h' a cK sa := K.2.1 a _ A q
theorem LamAt.other {h h' : Heap} {a b sa : Addr} {cK : ClassId} {sl : Nat} {v : Value} (A : LamAt h a cK sa) (W : Wr h h' b sl v) (q : a ≠ b) : LamAt h' a cK sa :=
  A.keep ((Ok.refl h [b]).wr W (Or.inl (List.mem_singleton.mpr rfl))).1 (by simpa using q)
/-! own text: a lambda that captures one object and whose target is an interface's method -/
section OwnLam
open Jvm.Lambda
/-- what the class that the rule makes holds, as one check: the forwarder's bytes, its entries and its field -/
def own_fwd (σ : Lambda.Shape) (host : String) (fcode : ByteArray) (idx ci fi : Nat) : Bool :=
  plainName (host ++ "$$Lambda") &&
  match σ.file host with
  | none => false
  | some D =>
    match (layoutMethods D).bind (·[1]?), layoutFields D 0, D.constantPool[idx]?, D.constantPool[ci]?, D.constantPool[fi]? with
    | some f, some lay, some (.interfaceMethodref ci' nt), some (.class_ n), some (.fieldref _ ft) =>
      decide ((f.code.map fun c => (c.code.data, c.maxLocals)) = some (fcode.data, 2)) && decide (f.accessFlags = 1) && decide (f.sig.returnType = some .int) && decide (ci' = ci) &&
      decide (D.constantPool.className? ci = some σ.implClass) && decide (D.constantPool.nameAndType? nt = some (σ.implName, σ.implDesc.toString)) && decide (D.constantPool.string? n = some σ.implClass) && decide (ci ≠ D.thisClass) &&
      decide (lay.2.1 = σ.captured.toArray) && (match D.constantPool.nameAndType? ft, lay.1[0]? with | some (name, _), some g => decide (lay.1.findIdx? (·.name == name) = some 0) && !g.isStatic && decide (g.slot = 0) | _, _ => false)
    | _, _, _, _, _ => false
theorem own_res39 {Z : State} {vm' : Vm} (hW : Z.Warmed39 vm') {d : ClassId} {k : Class} (hk : Z.vm.classes[d]? = some k) : ∃ k', vm'.classes[d]? = some k' ∧ k' = { k with resolved := k'.resolved, nestHost := k'.nestHost, nestHostError := k'.nestHostError } ∧ ∀ (i : Nat) x, k.resolved[i]? = some (some x) → k'.resolved[i]? = some (some x) := by
  obtain ⟨k', h1, h2, -, h3, -⟩ := hW.2.2.2 d k hk
  refine ⟨k', h1, h2, fun i x hx => ?_⟩
  rcases h3 i with q | ⟨q, -⟩
  · rw [q]; exact hx
  · rw [q] at hx; cases hx
/-- the made class, in whatever tables the start's have come to -/
theorem own_lam {Z : State} {vm' : Vm} (hW : Z.Warmed39 vm') {x : MethodName} {pc index idx ci fi : Nat} {σ : Lambda.Shape} {cK : ClassId} {one : Option Addr} {fcode : ByteArray} {a0 : Array Value}
    (hat : Z.lambdaAt? x pc index σ = some (cK, one)) (hok : own_fwd σ x.cls fcode idx ci fi = true) (hO : (Cond.instantiable "java/lang/Object" 0).before a0 Z = true) :
    ∃ (k : Class) (file : ClassFile) (methk : Method) (ck : Code) (toy : ClassId) (tk : Class) (t : MethodId) (nt : Nat) (f : Field),
      vm'.classes[cK]? = some k ∧ plainName k.name = true ∧ k.kind = .ordinary ∧ k.instanceTypes = σ.captured.toArray ∧ k.cf = some file ∧ file.constantPool[idx]? = some (.interfaceMethodref ci nt) ∧
      vm'.method? ⟨cK, 1⟩ = some methk ∧ methk.code = some ck ∧ ck.code = fcode ∧ ck.maxLocals = 2 ∧ methk.locks = false ∧ methk.accessFlags = 1 ∧ methk.sig.returnType = some .int ∧
      Z.vm.findClass σ.implClass = some toy ∧ Z.vm.classes[toy]? = some tk ∧ ((methodIn toy σ.implName σ.implDesc.toString tk.isInterface none).ask { classPath := fun _ => none } Z.vm).1 = .ok t ∧
      vm'.methodReady cK idx t ∧ k.resolved[ci]? = some (some (.cls toy)) ∧ vm'.fieldReady cK fi cK f ∧ f.isStatic = false ∧ f.slot = 0 := by
  obtain ⟨mD, kD, -, -, -, -, hmD, hkD, -, -, -, -, hmade, -, -⟩ := State.lambdaAt?_spec hat
  obtain ⟨kD', hkD', hnameD⟩ := className_of_methodNamed hmD
  cases hkD.symm.trans hkD'
  obtain ⟨dk, k, ok, tk, file, cf, object, iface, toy, lay, methods, target, found, hd, hk, hfile, hcf, hob, -, hok', hlay, hms, ht, htk, hg, -, hrec, -, -, -, -, hpool, hmeth, hfields, hty, hres, -⟩ := isMade_spec hmade
  cases hkD.symm.trans hd
  rw [hnameD] at hcf
  have h0 : ok.instanceTypes.size = 0 := by
    obtain ⟨c1, k1, q1, q2, -, -, -, q3⟩ := Cond.instantiable_spec hO
    cases q1.symm.trans hob
    cases q2.symm.trans hok'
    exact q3
  rw [h0] at hlay
  unfold own_fwd at hok
  rw [hcf, Bool.and_eq_true] at hok
  obtain ⟨hpn, hok⟩ := hok
  dsimp only at hok
  rw [hlay, hms, Option.bind_some] at hok
  split at hok
  · rename_i f lay' ci' nt n ci2 ft hf hl2 hidx hci hfi
    cases hl2
    simp only [Bool.and_eq_true, decide_eq_true_eq] at hok
    obtain ⟨⟨⟨⟨⟨⟨⟨⟨⟨fc, ffl⟩, fr⟩, rfl⟩, hcn⟩, hnt⟩, hs⟩, hne⟩, hcap⟩, hfld⟩ := hok
    split at hfld
    · rename_i nm ds g hnt2 hg0
      simp only [Bool.and_eq_true, decide_eq_true_eq, Bool.not_eq_true'] at hfld
      obtain ⟨⟨hfi0, hgs⟩, hgl⟩ := hfld
      obtain ⟨k', hk', he, hr⟩ := own_res39 hW hk
      obtain ⟨b, hb', hsame⟩ := hmeth 1 f hf
      obtain ⟨-, -, hsig, hfl, u, y, hu, hy, -, hml, hcd, -⟩ := sameMethod_spec hsame
      rw [hu] at fc
      simp only [Option.map_some, Option.some.injEq, Prod.mk.injEq] at fc
      have hm1 : k'.methods = k.methods := by rw [he]
      have hf1 : k'.fields = k.fields := by rw [he]
      refine ⟨k', file, b, y, toy, tk, target, nt, g, hk', ?_, ?_, ?_, ?_, by rw [hpool.2.1]; exact hidx, ?_, hy, ?_, by rw [hml]; exact fc.2, ?_, by rw [hfl]; exact ffl, by rw [hsig]; exact fr, ht, htk, hg, ⟨k', hk', hr _ _ (hres _ _ ?_)⟩, hr _ _ (hres _ _ ?_), ⟨k', 0, k', hk', hr _ _ (hres _ _ ?_), hk', by rw [hf1]; exact hfields 0 _ hg0⟩, hgs, hgl⟩
      · rw [show k'.name = k.name from by rw [he], hrec.1, hnameD]; exact hpn
      · rw [show k'.kind = k.kind from by rw [he]]; exact hrec.2.1
      · rw [show k'.instanceTypes = k.instanceTypes from by rw [he], hty.1, Array.eq_empty_of_size_eq_zero h0, hcap]; simp
      · rw [show k'.cf = k.cf from by rw [he]]; exact hfile
      · simp [Vm.method?, hk', hm1, hb']
      · rw [hcd]; exact ByteArray.ext fc.1
      · simp [Method.locks, Method.isSynchronized, hfl, ffl, hasFlag, Acc.synchronized]
      · simp [resolvedOf, Array.getElem?_mapIdx, hidx, hcn, ht, htk, hnt, hg]
      · exact resolvedOf_class hci hne hs ht
      · exact resolvedOf_field hfi hnt2 hfi0
    · cases hfld
  · cases hok
theorem own_namedZ {Z s : State} (hZ : Z.Warmed39 s.vm) {x : MethodName} {m : MethodId} (h : s.methodNamed? x = some m) : Z.methodNamed? x = some m := by
  have q := State.methodNamed?_setVm (s := Z) hZ.alike x
  rw [← q]; exact h
variable {wd : Option (Vm → Heap → Prop)} {p : Program} {l : Launch} {e : Env} {R : Room} {s : State} {m : MethodId} {args : Array Value} {below : List Frame} {meth : Method} {c : Code} {T : State} {locs : List Loc} {cells slots : Nat} {Z : State} {a0 : Array Value} {h : Heap} {Qb : Option Value → Heap → List Loc → Prop} {kc ks : Nat}
/-- ConH.of, with the method's own name -/
theorem ConH.ofN {y : MethodName} {code : ByteArray} {ml : Nat} {rt : Option FieldType} {ws : List Jvm.Cond} {rm : Room} {as' : Array Value} {h0 : Heap} {EL : List (String × Nat)} {Q : Option Value → Heap → List Loc → Prop} (hp : plainFor y = true)
    (k : ∀ (p : Program) (e : Env) (s : State) (m : MethodId) (below : List Frame) (meth : Method) (c : Code) (s₁ : State) (vm0 : Vm), CHr Z EL vm0 h0 s.vm h0 → p.tables.exec = Jvm.exec → Z.Warmed39 s.vm → c.code = code → c.maxLocals = ml → s.vm.findClass y.cls = some m.cls → meth.name = y.name → meth.sig.returnType = rt → meth.locks = false →
      Stand p l e rm s m as' below meth c s₁ [] 0 0 → s₁.heap = h0 → Z.methodNamed? y = some m → Ends (some (CHr Z EL vm0 h0)) p e below s (Fl Q 0) rm.cells rm.slots s₁ (entryFrame m as' ml)) : ConH l y code ml rt ws rm as' Z h0 EL Q := by
  refine MetFree.of_bodySF hp hisR ?_
  intro p e s m args below meth c s₁ Bd hml0 hP hK
  obtain ⟨rfl, hZ, hh, hC⟩ := hP
  obtain ⟨s2, o, h1, h2, h3, v, L, h4, h5, h6, h7⟩ := k p e s m below meth c s₁ s.vm (CHr.refl hC) Bd.exec hZ Bd.bytes hml0 (findClass_of_methodNamed Bd.named) (name_of_methodNamed Bd.named Bd.method).1 Bd.returns Bd.notSynchronized (Stand.of_body Bd) (by rw [← hh, Bd.state]; rfl) (own_namedZ hZ Bd.named)
  exact ⟨s2, o, h1, h2, h3, v, L, h4, h5.1, by rw [hh]; exact h7, h6⟩
theorem own_ext_push (h : Heap) (cell : Cell) : Ext h (h.push cell) := ⟨by simp, fun a c q => by
  have hlt := (Array.getElem?_eq_some_iff.mp q).1
  rw [Array.getElem?_push_lt hlt, ← Array.getElem?_eq_getElem hlt]; exact q⟩
/-- the site of such a lambda -/
theorem Ends.site (X : Stand p l e R s m args below meth c T locs cells slots) (hx : p.tables.exec = Jvm.exec) (hZ : Z.Warmed39 s.vm) {x : MethodName} {pc index idx ci fi : Nat} {σ : Lambda.Shape} {C0 : String} {fcode : ByteArray} (hmn : Z.methodNamed? x = some m)
    (w : (Jvm.Cond.lambdaSite x pc index σ).before a0 Z = true) (hcap : σ.captured = [.object C0]) (hok : own_fwd σ x.cls fcode idx ci fi = true) (wO : (Jvm.Cond.instantiable "java/lang/Object" 0).before a0 Z = true) (eT : T.heap = h) {sa : Addr} {Ls : Array Slot} {st : List Value} (hsz : Ls.size = c.maxLocals) {W : Nat} (hW : (st.map fun v => v.category).sum ≤ W) (hwd : W + 1 + 3072 ≤ R.locals)
    (hd : decode c.code pc = .ok (.invokedynamic index, 5)) (hc : cells + 1 ≤ R.cells) (hs : slots + 1 ≤ R.slots)
    (k : ∀ T' h' b cK one, b = h.size → Z.lambdaAt? x pc index σ = some (cK, one) → Stand p l e R s m args below meth c T' locs (cells + 1) (slots + 1) → T'.heap = h' → Ext h h' → h'[b]? = some ({ cls := cK, slots := #[.ref sa], vm := .none } : Cell) → Ends wd p e below s Qb kc ks T' (mkF m (pc + 5) Ls (.ref b :: st))) :
    Ends wd p e below s Qb kc ks T (mkF m pc Ls (.ref sa :: st)) := by
  obtain ⟨cK, one, hat⟩ := Cond.lambdaSite_spec w
  obtain ⟨mD, kD, cfD, i0, p0, lk, hmD, hkD, hcfD, hsh, -, hfind, -, -, hl⟩ := State.lambdaAt?_spec hat
  cases hmn.symm.trans hmD
  obtain ⟨b, nt, desc, site, h1, h2, h3, h4⟩ := shapeOf?_site hsh
  obtain ⟨kc', -, -, -, -, -, -, -, -, hkc, -, hkind, hty, -⟩ := own_lam hZ hat hok wO
  obtain ⟨kD', hkD', heD⟩ := hZ.alike.2.2 _ _ hkD
  have hlk : lk = .makes cK := by
    rcases hl with ⟨a, cell, -, -, hc0, -⟩ | ⟨q, -, -⟩
    · rw [hcap] at hc0; cases hc0
    · exact q
  subst hlk
  have hz : ((kc'.instanceTypes.toList.zip [Value.ref sa]).map fun (t, v) => narrow t v) = [.ref sa] := by rw [hty, hcap]; rfl
  have hwl : e.platform.lambdaLinkWords = 3072 := by rw [X.admits.platform]
  have q := X.lambdaMakes hx (g := mkF m pc Ls (.ref sa :: st)) rfl hsz hd (vals := [.ref sa]) (rest := st) (k := kD') (kc := kc') hkD' (by rw [heD]; exact hfind) (by rw [heD]; exact hcfD) h1 h2 (parseLong_of_parse h3) (by rw [h4, hcap]; rfl) rfl hkc
    (by rw [hwl]; show 2 * 0 + (1 + (st.map fun v => v.category).sum) + 3072 ≤ _; omega) hc (by rw [hz]; exact hs)
    (fun i v hv => by
      rw [hz] at hv
      have hi : i = 0 := by
        have := (Array.getElem?_eq_some_iff.mp hv).1
        simpa using this
      subst hi
      have hv' : v = .ref sa := by simpa using hv.symm
      subst hv'
      simp [State.fitsSlot, State.slotType?, hkc, hkind, hty, hcap, fits])
  rw [hz] at q
  subst eT
  exact Ends.go q.2 (k _ _ _ cK one rfl hat (by simpa using q.1) rfl (own_ext_push _ _) (by show (T.heap.push _)[T.heap.size]? = _; simp))
/-- a method of an interface, on an object of the class C -/
theorem Ends.callF (X : Stand p l e R s m args below meth c T locs cells slots) (hx : p.tables.exec = Jvm.exec) (hZ : Z.Warmed39 s.vm) {own C : String} (hown : s.vm.findClass own = some m.cls) {index count : Nat} {xi y : MethodName} {bytes : ByteArray} {maxL : Nat} {rt : Option FieldType} {rm : Room} {Q : Option Value → Heap → List Loc → Prop}
    (w1 : (Jvm.Cond.methodLink own index xi).before a0 Z = true) (v2 : (Jvm.Cond.declares xi).before a0 Z = true) (v3 : (Jvm.Cond.interfaceMethod xi.cls xi.cls xi.name xi.desc).before a0 Z = true) (v4 : (Jvm.Cond.selects C xi y).before a0 Z = true) (v5 : (Jvm.Cond.instanceMethod y).before a0 Z = true) (v6 : (Jvm.Cond.publicMethod y).before a0 Z = true) (v7 : (Jvm.Cond.unhidden C xi.name xi.desc).before a0 Z = true) (v8 : (Jvm.Cond.castable C xi.cls).before a0 Z = true)
    (w3 : (Jvm.Cond.initialized y.cls).before a0 Z = true) (w4 : (Jvm.Cond.code y bytes maxL rt).before a0 Z = true) (hy : xi.cls ≠ "java/lang/invoke/MethodHandle" ∧ xi.cls ≠ "java/lang/invoke/VarHandle")
    {b : Addr} {argsL rest : List Value} (eT : T.heap = h) (E : Exa Z h b C) (M : Con l y bytes maxL rt [] rm (.ref b :: argsL).toArray Z h Q) {W pc : Nat} (hf : rm.frames + 1 ≤ R.frames) (hl : W + (maxL + 11) + rm.locals ≤ R.locals) {Ls : Array Slot} (hsz : Ls.size = c.maxLocals)
    (hlen : ∀ sig, parseMethodDescriptor xi.desc = some sig → argsL.length = sig.parameters.length) (hW : (rest.map fun v => v.category).sum ≤ W) (hd : decode c.code pc = .ok (.invokeinterface index count, 5)) (hc : cells + rm.cells ≤ R.cells) (hs : slots + rm.slots ≤ R.slots) {st : List Value} (hst : st = argsL.reverse ++ .ref b :: rest)
    (k : ∀ T' v L, Stand p l e R s m args below meth c T' (locs ++ L) (cells + rm.cells) (slots + rm.slots) → Q v T'.heap L → Ends wd p e below s Qb kc ks T' (mkF m (pc + 5) Ls (v.toList ++ rest))) :
    Ends wd p e below s Qb kc ks T (mkF m pc Ls st) := by
  obtain ⟨cq, kq, qa, qb, qc⟩ := isOf (T := T) hZ eT E
  obtain ⟨v, vm1, ⟨T1, L1, k1, n1⟩, -, X1, ⟨Lc, hQ, q1, q2, q3⟩, st1⟩ := X.interfaceBack hx (xi := xi) (y := y) hown (mvT hZ w1) (mvT hZ v2) (mvT hZ v3 (by simp [Cond.onTables, Cond.keepsFace, Cond.keeps, Cond.steady, Cond.faceAtom, hy.1, hy.2])) (mvT hZ v4) (mvT hZ v5) (mvT hZ v6) (mvT hZ v7) (mvT hZ v8) hy (backOf (W := W) M hZ w4 w3 hf hl) qa qb qc (g := mkF m pc Ls st) rfl hsz (Steps.refl _) (argsL := argsL) (rest := rest) hlen hst (by show 2 * 0 + _ ≤ _; omega) hd (fun _ _ => ⟨rfl, eT, hc, hs⟩)
  dsimp only [Pt.U, Pt.locs, Pt.cells, Pt.slots] at X1 q1 q2 q3 st1 hQ
  subst q1 q2 q3
  exact Ends.go (fun t kt => st1.trans kt) (k T1 v Lc X1 hQ)
theorem own_ef2 (m : MethodId) (a : Addr) (k : Int32) : entryFrame m #[.ref a, .int k] 2 = mkF m 0 #[.val (.ref a), .val (.int k)] [] := by first | (simp [entryFrame, mkF, argsToLocals, Value.category]; done) | rfl
/-- one call of the lambda's own method: it goes to the method of the captured object -/
theorem Ends.callLam (X : Stand p l e R s m args below meth c T locs cells slots) (hx : p.tables.exec = Jvm.exec) (hZ : Z.Warmed39 s.vm) {own : String} (hown : s.vm.findClass own = some m.cls) {x0 : MethodName} {pc0 index0 index count idx ci fi : Nat} {σ : Lambda.Shape} {cK : ClassId} {one : Option Addr} {fcode : ByteArray}
    (hat : Z.lambdaAt? x0 pc0 index0 σ = some (cK, one)) (hok : own_fwd σ x0.cls fcode idx ci fi = true) (wO : (Jvm.Cond.instantiable "java/lang/Object" 0).before a0 Z = true)
    (d0 : decode fcode 0 = .ok (.aload_n 0, 1)) (d1 : decode fcode 1 = .ok (.getfield fi, 3)) (d4 : decode fcode 4 = .ok (.iload_n 1, 1)) (d5 : decode fcode 5 = .ok (.invokeinterface idx 2, 5)) (d10 : decode fcode 10 = .ok (.ireturn, 1))
    {xi yi y : MethodName} {C : String} {bytes : ByteArray} {maxL : Nat} {rt : Option FieldType} {rm : Room} {Q : Option Value → Heap → List Loc → Prop}
    (w1 : (Jvm.Cond.methodLink own index xi).before a0 Z = true) (w2 : (Jvm.Cond.declares xi).before a0 Z = true) (w3' : (Jvm.Cond.interfaceMethod xi.cls xi.cls xi.name xi.desc).before a0 Z = true)
    (v2 : (Jvm.Cond.declares yi).before a0 Z = true) (v3 : (Jvm.Cond.interfaceMethod yi.cls yi.cls yi.name yi.desc).before a0 Z = true) (v4 : (Jvm.Cond.selects C yi y).before a0 Z = true) (v5 : (Jvm.Cond.instanceMethod y).before a0 Z = true) (v6 : (Jvm.Cond.publicMethod y).before a0 Z = true) (v7 : (Jvm.Cond.unhidden C yi.name yi.desc).before a0 Z = true) (v8 : (Jvm.Cond.castable C yi.cls).before a0 Z = true)
    (w3 : (Jvm.Cond.initialized y.cls).before a0 Z = true) (w4 : (Jvm.Cond.code y bytes maxL rt).before a0 Z = true) (hyx : xi.cls ≠ "java/lang/invoke/MethodHandle" ∧ xi.cls ≠ "java/lang/invoke/VarHandle") (hyy : yi.cls ≠ "java/lang/invoke/MethodHandle" ∧ yi.cls ≠ "java/lang/invoke/VarHandle")
    (hxi : xi.cls = σ.iface ∧ xi.name = σ.name ∧ xi.desc = σ.sam.toString) (hyi : yi.cls = σ.implClass ∧ yi.name = σ.implName ∧ yi.desc = σ.implDesc.toString)
    {j : Int32} (hlx : ∀ sig, parseMethodDescriptor xi.desc = some sig → [Value.int j].length = sig.parameters.length) (hly : ∀ sig, parseMethodDescriptor yi.desc = some sig → [Value.int j].length = sig.parameters.length)
    {a sa : Addr} {rest : List Value} (eT : T.heap = h) (hcell : h[a]? = some ({ cls := cK, slots := #[.ref sa], vm := .none } : Cell)) (E : Exa Z h sa C) (M : Con l y bytes maxL rt [] rm #[.ref sa, .int j] Z h Q) {x : Int32} (hint : ∀ v h L, Q v h L → v = some (.int x))
    {W pc : Nat} (hf : rm.frames + 2 ≤ R.frames) (hl : W + 13 + ((maxL + 11) + rm.locals) ≤ R.locals) {Ls : Array Slot} (hsz : Ls.size = c.maxLocals) (hW : (rest.map fun v => v.category).sum ≤ W) (hd : decode c.code pc = .ok (.invokeinterface index count, 5)) (hc : cells + rm.cells ≤ R.cells) (hs : slots + rm.slots ≤ R.slots)
    (k : ∀ T' L, Stand p l e R s m args below meth c T' (locs ++ L) (cells + rm.cells) (slots + rm.slots) → Q (some (.int x)) T'.heap L → Ends wd p e below s Qb kc ks T' (mkF m (pc + 5) Ls (.int x :: rest))) :
    Ends wd p e below s Qb kc ks T (mkF m pc Ls (.int j :: .ref a :: rest)) := by
  subst eT
  obtain ⟨mD, kD, -, -, -, -, hmD, hkD, -, -, -, -, hmade, hcan, -⟩ := State.lambdaAt?_spec hat
  obtain ⟨-, -, -, -, -, -, -, iface', -, -, -, -, found, -, -, -, -, -, hi', -, -, -, -, -, -, hfound', -, -, -, -, -, -, -, -, -, -, hsel⟩ := Lambda.isMade_spec hmade
  -- the interface's method, at the start
  obtain ⟨r0, r, hn, hrm, hstR, hsigR⟩ := Cond.declares_spec w2
  obtain ⟨cL, kL, r1, hcL, hkL, hiL, hfoundL, hn1⟩ := Cond.interfaceMethod_spec w3'
  cases hn.symm.trans hn1
  have hr0cls : r0.cls = cL := Option.some.inj ((findClass_of_methodNamed hn).symm.trans hcL)
  obtain ⟨hnameR, hdescR⟩ := name_of_methodNamed hn hrm
  obtain ⟨x1, x2, x3⟩ := hxi
  rw [← x1] at hi'
  cases hcL.symm.trans hi'
  have hfr0 : found = r0 := by
    have h1 : Z.methodFound? xi.cls xi.name xi.desc = some r0 := hfoundL
    simp only [State.methodFound?, hcL, hkL, hiL, Option.bind_eq_bind, Option.bind_some] at h1
    rw [← x2, ← x3] at hfound'
    rw [hfound'] at h1
    exact Option.some.inj h1
  subst hfr0
  obtain ⟨i2, hi2, hasg, hway⟩ := State.lambdaCallable_spec hcan
  rw [← x1] at hi2
  cases hcL.symm.trans hi2
  have hA := hZ.alike
  obtain ⟨kF, -, methK, -, -, -, -, -, -, hkF, -, -, -, -, -, hmK, -, -, -, -, hflK, -⟩ := own_lam hZ hat hok wO
  -- the same, at this call's start
  obtain ⟨kL', hkL', heL⟩ := hA.2.2 _ _ hkL
  have hns : s.methodNamed? xi = some found := by
    have q := State.methodNamed?_setVm (s := Z) hA xi
    rw [hn] at q; exact q
  obtain ⟨vm₁, X₁, hstep₁⟩ := X.invokeinterface hx hown (mvT hZ w1) hns (by rw [hA.method?]; exact hrm) hstR (by rw [hr0cls]; exact hkL') (by rw [heL]; exact hiL) hyx (a := a) hcell (fun z q => nomatch q) hkF (by rw [hA.assignable, hr0cls]; exact hasg)
    (m' := ⟨cK, 1⟩) (meth' := methK) (by rw [Launch.admits_selectMethod X.admits, hA.selectMethod]; exact hsel) hmK (by simp only [hA.superclasses, hA.declaredIn]; rw [hnameR, hdescR, x2, x3]; exact hway) (by rw [hflK]; decide) (by simp [Method.isAbstract, hflK, hasFlag, Acc.abstract])
    (g := mkF m pc Ls (.int j :: .ref a :: rest)) rfl (argsL := [.int j]) (rest := rest) (hlx _ hsigR) rfl hd
  have hZ₁ : Z.Warmed39 (T.setVm vm₁).vm := wtrans hZ X₁.warmed
  have hA₁ := hZ₁.alike
  obtain ⟨kK, file, methk, ck, toy, tk, t, nt, f, hkK, hpn, -, -, hfile, hidx, hmk, hck, hbytes, hml, hlk, hfl, hret, htoy, htk, hlook, hready, hcls, hfready, hfs, hfslot⟩ := own_lam hZ₁ hat hok wO
  have hpk : (T.setVm vm₁).plainMethod ⟨cK, 1⟩ := State.plainMethod.of_name (fun k' hk' => by cases hkK.symm.trans hk'; exact hpn)
  obtain ⟨Y₀, hin⟩ := X₁.into (g := mkF m pc Ls rest) rfl hsz hd #[.ref a, .int j] (R' := { frames := rm.frames + 1, cells := rm.cells, slots := rm.slots, locals := (maxL + 11) + rm.locals }) hmk hck hlk hpk hf (by rw [hml]; show 2 * 0 + (rest.map fun v => v.category).sum + (2 + 11) + ((maxL + 11) + rm.locals) ≤ R.locals; omega) hc hs
  rw [hml, own_ef2] at Y₀ hin
  generalize hU : ((T.setVm vm₁).setTop (mkF m pc Ls rest)).pushFrame (.java (mkF ⟨cK, 1⟩ 0 #[.val (.ref a), .val (.int j)] [])) = U at Y₀ hin
  have hvmU : U.vm = (T.setVm vm₁).vm := by rw [← hU]; rfl
  have hheapU : U.heap = T.heap := by rw [← hU]; rfl
  generalize hs' : (T.setVm vm₁).calling (mkF m pc Ls rest) ⟨cK, 1⟩ #[.ref a, .int j] = s' at Y₀
  have hvm' : s'.vm = (T.setVm vm₁).vm := by rw [← hs']; rfl
  have hZs' : Z.Warmed39 s'.vm := by rw [hvm']; exact hZ₁
  -- the target
  obtain ⟨y0, yr, hyn, hyrm, hystR, hysigR⟩ := Cond.declares_spec v2
  obtain ⟨cM, kM, y1, hcM, hkM, hiM, hfoundM, hyn1⟩ := Cond.interfaceMethod_spec v3
  cases hyn.symm.trans hyn1
  have hy0cls : y0.cls = cM := Option.some.inj ((findClass_of_methodNamed hyn).symm.trans hcM)
  obtain ⟨hnameY, hdescY⟩ := name_of_methodNamed hyn hyrm
  obtain ⟨mk, methM, hnamed, hmethM, -, habM⟩ := Cond.instanceMethod_spec v5
  obtain ⟨c2, r2, m2, q1, q2, q3, q4, -⟩ := Cond.selects_spec v4
  cases hfoundM.symm.trans q2
  cases hnamed.symm.trans q3
  have hpubM : hasFlag methM.accessFlags Acc.public_ = true := Cond.publicMethod_spec hnamed hmethM v6
  obtain ⟨c3, t3, u1, u2, u3⟩ := Cond.castable_spec v8
  cases q1.symm.trans u1
  cases hcM.symm.trans u2
  have hwayM := Cond.unhidden_spec q1 v7
  obtain ⟨cellB, kB, b1, b2, b3, b4, -⟩ := id E
  cases q1.symm.trans b2
  obtain ⟨z1, z2, z3⟩ := hyi
  have htoy' : toy = cM := by rw [← z1] at htoy; exact Option.some.inj (htoy.symm.trans hcM)
  subst htoy'
  cases htk.symm.trans hkM
  have ht : t = y0 := by
    have h1 : Z.methodFound? yi.cls yi.name yi.desc = some y0 := hfoundM
    simp only [State.methodFound?, hcM, hkM, hiM, Option.bind_eq_bind, Option.bind_some] at h1
    rw [← z2, ← z3, hiM] at hlook
    rw [hlook] at h1
    exact Option.some.inj h1
  subst ht
  have hK : Back l { frames := rm.frames + 1, cells := rm.cells, slots := rm.slots, locals := (maxL + 11) + rm.locals } p e (.java (mkF m pc Ls rest) :: below) s' #[.ref a, .int j] y 5 0 _ _ := backOf (W := 0) M hZs' w4 w3 (Nat.le_refl _) (by show 0 + (maxL + 11) + rm.locals ≤ (maxL + 11) + rm.locals; omega)
  have hnamedU : U.methodNamed? y = some mk := by
    have q := State.methodNamed?_setVm (s := Z) hA₁ y
    rw [hnamed] at q
    rw [← hU]; exact q
  obtain ⟨v, ⟨U', ls, cc, sl⟩, Y₁, ⟨Lc, hQ, e1, e2, e3⟩, hsteps⟩ := hK ⟨cK, 1⟩ methk ck ⟨U, [], 0, 0⟩ (mkF ⟨cK, 1⟩ 5 #[.val (.ref a), .val (.int j)] []) (.invokeinterface idx 2) mk #[.ref sa, .int j] Y₀ rfl (by rw [hml]; rfl)
    (by rw [hbytes]; exact d5) (Nat.le_refl _) hnamedU ⟨rfl, hheapU, by show 0 + rm.cells ≤ rm.cells; omega, by show 0 + rm.slots ≤ rm.slots; omega⟩
  dsimp only [Pt.U, Pt.locs, Pt.cells, Pt.slots] at Y₁ hQ e1 e2 e3 hsteps
  subst e1 e2 e3
  obtain rfl := hint _ _ _ hQ
  obtain ⟨fs, hleave, -, hended, hWe, hsame⟩ := Y₁.leave (v := some (.int x)) (fun q => by rw [hret] at q; cases q) hlk
  subst hs'
  obtain ⟨T', X', -, -, htt⟩ := X₁.outOf (g := mkF m pc Ls rest) rfl hd hended hWe hsame
  have hheap' : T'.heap = U'.heap := by
    have q : (U'.setFrames fs).heap = (T'.setTop _).heap := congrArg State.heap htt
    exact q.symm
  refine Ends.go (fun tt kt => hstep₁ _ fun acts => ?_) (k T' _ (by simpa using X') (by rw [hheap']; exact hQ))
  show Steps p.tables e below (doInvoke e ((T.setVm vm₁).setTop (mkF m pc Ls rest)) acts ⟨cK, 1⟩ #[.ref a, .int j]).1 tt
  rw [hin acts]
  have kt' : Steps p.tables e below (U'.setFrames fs) tt := by rw [htt]; exact kt
  refine Steps.trans (Steps.weaken (mid := [.java (mkF m pc Ls rest)]) ?_) kt'
  have hb' : ∀ {q : Nat} {i : Instr} {n : Nat}, decode fcode q = .ok (i, n) → decode ck.code q = .ok (i, n) := fun h => by rw [hbytes]; exact h
  refine XS.aloadN Y₀.here hx rfl (hb' d0) (v := .ref a) rfl rfl ?_
  have hstep1 : Steps p.tables e (.java (mkF m pc Ls rest) :: below) (U.setTop (mkF ⟨cK, 1⟩ 4 #[.val (.ref a), .val (.int j)] [.ref sa])) (U'.setFrames fs) → Steps p.tables e (.java (mkF m pc Ls rest) :: below) (U.setTop (mkF ⟨cK, 1⟩ 1 #[.val (.ref a), .val (.int j)] [.ref a])) (U'.setFrames fs) := fun kk => by
    have hd1 := hb' d1
    jvm_step Y₀.here [hx, hd1, getfield.wp_ready (e := e) (s := U) (f := mkF ⟨cK, 1⟩ 1 #[.val (.ref a), .val (.int j)] [.ref a]) (c := cK) (field := f) (a := a) (rest := []) (cell := ({ cls := cK, slots := #[.ref sa], vm := .none } : Cell)) (v := .ref sa) Y₀.here.top (by rw [hvmU]; exact hfready) hfs rfl (by rw [hheapU]; exact hcell) (by simp) (by rw [hfslot]; rfl)]
    exact kk
  refine hstep1 ?_
  refine XS.iloadN Y₀.here hx rfl (hb' d4) (v := j) rfl ?_
  show Steps p.tables e (.java (mkF m pc Ls rest) :: below) (U.setTop (mkF ⟨cK, 1⟩ 5 #[.val (.ref a), .val (.int j)] [.int j, .ref sa])) (U'.setFrames fs)
  obtain ⟨kB', hkB', heB⟩ := hA₁.2.2 _ _ b3
  obtain ⟨kM', hkM', heM⟩ := hA₁.2.2 _ _ hkM
  have hd5 := hb' d5
  have hst' : cellB.vm.isStatics = false := b4
  jvm_step Y₀.here [hx, hd5, invokeinterface.wp_ready (e := e) (s := U) (index := idx) (count := 2) (ci := ci) (nt := nt) (a := sa) (r0 := t) (m := mk) (named := toy) (ck := kK) (nk := kM') (kcell := kB') (cf := file) (r := yr) (meth := methM) (args := [.int j]) (rest := []) (cell := cellB) (f := mkF ⟨cK, 1⟩ 5 #[.val (.ref a), .val (.int j)] [.int j, .ref sa])
    Y₀.here.top (by rw [hvmU]; exact hready) (by rw [hvmU, hA₁.method?]; exact hyrm) hystR (hly _ hysigR) rfl (by rw [hheapU]; exact b1) (fun q hq => by rw [hq] at hst'; cases hst') (by rw [hvmU]; exact hkB') (by rw [hvmU]; exact hkK) hfile hidx hcls (by rw [hvmU]; exact hkM') (by rw [heM]; exact hiM)
    (by rw [hvmU, hA₁.assignable]; exact u3) (by rw [hvmU, Launch.admits_selectMethod X.admits, hA₁.selectMethod]; exact q4) (by rw [hvmU, hA₁.method?]; exact hmethM) (Or.inr (Or.inr (by rw [hvmU]; simp only [hA₁.superclasses, hA₁.declaredIn]; rw [hnameY, hdescY]; exact hwayM))) (Or.inl hpubM) habM]
  intro acts'
  rw [doInvoke_state]
  refine Steps.trans hsteps ?_
  exact Y₁.ireturnOut hx (t := .int) hret rfl (Or.inl rfl) (hb' d10) hleave
end OwnLam
/-! own text: the probes, in plain words: indices by a comparison gt i j (the rank of i is above that of j) -/
def own_pos (gt : Nat → Nat → Bool) (st : List Nat) (i : Nat) : Nat → Nat
  | 0 => 0
  | k + 1 => if gt i (st.getD k 0) then own_pos gt st i k else k + 1
def own_step (gt : Nat → Nat → Bool) (len : Nat) (st : List Nat) (i : Nat) : List Nat :=
  if st.length < len ∨ gt i (st.getD (st.length - 1) 0) = true then ((st.take (own_pos gt st i st.length)) ++ i :: st.drop (own_pos gt st i st.length)).take len else st
def own_go (gt : Nat → Nat → Bool) (len : Nat) : Nat → List Nat
  | 0 => []
  | k + 1 => own_step gt len (own_go gt len k) k
def own_bf (gt : Nat → Nat → Bool) (n i j : Nat) : Nat := if j < n ∧ j ≠ i ∧ (gt j i = true ∨ (gt i j = false ∧ gt j i = false ∧ j < i)) then 1 else 0
/-- how many stand before i -/
def own_ps (gt : Nat → Nat → Bool) (n i : Nat) : Nat := own_bf gt n i 0 + own_bf gt n i 1 + own_bf gt n i 2 + own_bf gt n i 3 + own_bf gt n i 4
def own_gtL (l : List Nat) (i j : Nat) : Bool := decide (l.getD j 0 < l.getD i 0)
def own_chk5 (l : List Nat) : Bool := (List.range l.length).all fun i => !decide (own_ps (own_gtL l) l.length i < min 3 l.length) || (own_go (own_gtL l) (min 3 l.length) l.length)[own_ps (own_gtL l) l.length i]? == some i
theorem own_a1 : ∀ (a : Fin 5), own_chk5 [a.val] = true := by decide +kernel
theorem own_a2 : ∀ (a b : Fin 5), own_chk5 [a.val, b.val] = true := by decide +kernel
theorem own_a3 : ∀ (a b c : Fin 5), own_chk5 [a.val, b.val, c.val] = true := by decide +kernel
theorem own_a4 : ∀ (a b c d : Fin 5), own_chk5 [a.val, b.val, c.val, d.val] = true := by decide +kernel
theorem own_a5 : ∀ (a b c d e : Fin 5), own_chk5 [a.val, b.val, c.val, d.val, e.val] = true := by decide +kernel
theorem own_aL (l : List Nat) (h5 : l.length ≤ 5) (h : ∀ x ∈ l, x < 5) : own_chk5 l = true := by
  match l, h5, h with
  | [], _, _ => decide
  | [a], _, h => exact own_a1 ⟨a, h a (by simp)⟩
  | [a, b], _, h => exact own_a2 ⟨a, h a (by simp)⟩ ⟨b, h b (by simp)⟩
  | [a, b, c], _, h => exact own_a3 ⟨a, h a (by simp)⟩ ⟨b, h b (by simp)⟩ ⟨c, h c (by simp)⟩
  | [a, b, c, d], _, h => exact own_a4 ⟨a, h a (by simp)⟩ ⟨b, h b (by simp)⟩ ⟨c, h c (by simp)⟩ ⟨d, h d (by simp)⟩
  | [a, b, c, d, e], _, h => exact own_a5 ⟨a, h a (by simp)⟩ ⟨b, h b (by simp)⟩ ⟨c, h c (by simp)⟩ ⟨d, h d (by simp)⟩ ⟨e, h e (by simp)⟩
  | _ :: _ :: _ :: _ :: _ :: _ :: _, h5, _ => exact absurd h5 (by simp)
theorem own_pos_le (gt : Nat → Nat → Bool) (st : List Nat) (i : Nat) : ∀ k, own_pos gt st i k ≤ k
  | 0 => Nat.le_refl _
  | k + 1 => by simp only [own_pos]; split; exact Nat.le_trans (own_pos_le gt st i k) (Nat.le_succ k); exact Nat.le_refl _
theorem own_go_lt (gt : Nat → Nat → Bool) (len : Nat) : ∀ k, ∀ j ∈ own_go gt len k, j < k
  | 0, j, h => by cases h
  | k + 1, j, h => by
    simp only [own_go, own_step] at h
    split at h
    · have h := List.mem_of_mem_take h
      rw [List.mem_append, List.mem_cons] at h
      rcases h with h | h | h
      · have := own_go_lt gt len k j (List.mem_of_mem_take h); omega
      · omega
      · have := own_go_lt gt len k j (List.mem_of_mem_drop h); omega
    · have := own_go_lt gt len k j h; omega
theorem own_getD_mem {l : List Nat} {k : Nat} (h : k < l.length) : l.getD k 0 ∈ l := by
  rw [List.getD_eq_getElem?_getD, List.getElem?_eq_getElem h]; exact List.getElem_mem h
theorem own_pos_congr {gt gt' : Nat → Nat → Bool} {st : List Nat} {i : Nat} (h : ∀ j ∈ st, gt i j = gt' i j) : ∀ k, k ≤ st.length → own_pos gt st i k = own_pos gt' st i k
  | 0, _ => rfl
  | k + 1, hk => by
    simp only [own_pos]
    rw [h _ (own_getD_mem (by omega)), own_pos_congr h k (by omega)]
theorem own_go_congr {gt gt' : Nat → Nat → Bool} {len n : Nat} (h : ∀ i j, i < n → j < n → gt i j = gt' i j) : ∀ k, k ≤ n → own_go gt len k = own_go gt' len k
  | 0, _ => rfl
  | k + 1, hk => by
    have ih := own_go_congr (len := len) h k (by omega)
    simp only [own_go]
    rw [ih]
    have hm : ∀ j ∈ own_go gt' len k, gt k j = gt' k j := fun j hj => h k j (by omega) (by have := own_go_lt gt' len k j hj; omega)
    simp only [own_step]
    rw [own_pos_congr hm _ (Nat.le_refl _)]
    by_cases hl : (own_go gt' len k).length < len
    · rw [if_pos (Or.inl hl), if_pos (Or.inl hl)]
    · by_cases h0 : (own_go gt' len k).length = 0
      · have e : own_go gt' len k = [] := List.eq_nil_of_length_eq_zero h0
        have hl0 : len = 0 := by omega
        rw [e]; subst hl0; simp
      · rw [hm _ (own_getD_mem (by omega))]
theorem own_bf_congr {gt gt' : Nat → Nat → Bool} {n i : Nat} (h : ∀ i j, i < n → j < n → gt i j = gt' i j) (hi : i < n) (j : Nat) : own_bf gt n i j = own_bf gt' n i j := by
  simp only [own_bf]
  by_cases hj : j < n
  · rw [h j i hj hi, h i j hi hj]
  · simp [hj]
theorem own_bf_le (gt : Nat → Nat → Bool) (n i j : Nat) : own_bf gt n i j ≤ 1 := by simp only [own_bf]; split <;> omega
theorem own_ps_le (gt : Nat → Nat → Bool) (n i : Nat) : own_ps gt n i ≤ 5 := by
  have h0 := own_bf_le gt n i 0
  have h1 := own_bf_le gt n i 1
  have h2 := own_bf_le gt n i 2
  have h3 := own_bf_le gt n i 3
  have h4 := own_bf_le gt n i 4
  simp only [own_ps]; omega
theorem own_ps_congr {gt gt' : Nat → Nat → Bool} {n i : Nat} (h : ∀ i j, i < n → j < n → gt i j = gt' i j) (hi : i < n) : own_ps gt n i = own_ps gt' n i := by
  simp only [own_ps, own_bf_congr h hi]
def own_gtI (rk : List Int32) (i j : Nat) : Bool := decide (rk.getD j 0 < rk.getD i 0)
theorem own_cnt_le (l : List Int32) {a b : Int32} (h : a ≤ b) : l.countP (fun x => decide (x < a)) ≤ l.countP (fun x => decide (x < b)) :=
  List.countP_mono_left fun x _ hx => by simp only [decide_eq_true_eq] at hx ⊢; exact Int32.lt_of_lt_of_le hx h
theorem own_cnt_lt : ∀ (l : List Int32) {a b : Int32}, a ∈ l → a < b → l.countP (fun x => decide (x < a)) < l.countP (fun x => decide (x < b))
  | [], _, _, h, _ => by cases h
  | x :: l, a, b, h, hab => by
    have ha : ¬ a < a := Int32.lt_irrefl
    have hle := own_cnt_le l (a := a) (b := b) (Int32.le_of_lt hab)
    rw [List.countP_cons, List.countP_cons]
    rcases List.mem_cons.mp h with rfl | h
    · simp only [decide_eq_true_eq, ha, hab, if_true, if_false]; omega
    · have ih := own_cnt_lt l h hab
      by_cases hx : x < a
      · have hxb : x < b := Int32.lt_trans hx hab
        simp only [decide_eq_true_eq, hx, hxb, if_true]; omega
      · simp only [decide_eq_true_eq, hx, if_false]; split <;> omega
theorem own_probe {rk : List Int32} (h5 : rk.length ≤ 5) {i : Nat} (hi : i < rk.length) (hp : own_ps (own_gtI rk) rk.length i < min 3 rk.length) : (own_go (own_gtI rk) (min 3 rk.length) rk.length)[own_ps (own_gtI rk) rk.length i]? = some i := by
  let g : Int32 → Nat := fun r => rk.countP (fun x => decide (x < r))
  have hL : (rk.map g).length = rk.length := List.length_map ..
  have hat : ∀ k, k < rk.length → (rk.map g).getD k 0 = g (rk.getD k 0) := fun k hk => by
    simp [List.getD_eq_getElem?_getD, List.getElem?_eq_getElem hk]
  have hmem : ∀ k, k < rk.length → rk.getD k 0 ∈ rk := fun k hk => by
    rw [List.getD_eq_getElem?_getD, List.getElem?_eq_getElem hk]; exact List.getElem_mem hk
  have hc : ∀ i j, i < rk.length → j < rk.length → own_gtI rk i j = own_gtL (rk.map g) i j := fun i j hi hj => by
    simp only [own_gtI, own_gtL, hat i hi, hat j hj]
    congr 1
    apply propext
    refine ⟨fun q => own_cnt_lt rk (hmem j hj) q, fun q => ?_⟩
    by_cases h : rk.getD j 0 < rk.getD i 0
    · exact h
    · have h2 : rk.getD i 0 ≤ rk.getD j 0 := Int32.not_lt.mp h
      exact absurd q (Nat.not_lt.mpr (own_cnt_le rk h2))
  have hlt : ∀ x ∈ rk.map g, x < 5 := fun x hx => by
    obtain ⟨r, hr, rfl⟩ := List.mem_map.mp hx
    have h1 : ¬ r < r := Int32.lt_irrefl
    have h2 : rk.countP (fun x => decide (x < r)) < rk.length := by
      have h3 := List.countP_le_length (p := fun x => decide (x < r)) (l := rk)
      rcases Nat.lt_or_eq_of_le h3 with h | h
      · exact h
      · have := List.countP_eq_length.mp h r hr
        simp [h1] at this
    show rk.countP _ < 5
    omega
  have q := own_aL (rk.map g) (by omega) hlt
  simp only [own_chk5, List.all_eq_true, List.mem_range, hL, Bool.or_eq_true, Bool.not_eq_true', decide_eq_false_iff_not, beq_iff_eq] at q
  rw [own_ps_congr hc hi] at hp ⊢
  rw [own_go_congr hc _ (Nat.le_refl _)]
  exact (q i hi).resolve_left (fun h => h hp)
/-! own text: what pick does to its two arrays -/
def own_ins {α : Type} (l : List α) (pos m : Nat) (x : α) : List α := l.take pos ++ x :: ((l.drop pos).take (m - pos) ++ l.drop (m + 1))
theorem own_ins_len {α : Type} {l : List α} {pos m : Nat} {x : α} (h : pos ≤ m) (hm : m < l.length) : (own_ins l pos m x).length = l.length := by
  simp [own_ins]; omega
theorem own_ins_eq {α : Type} {l : List α} {pos m : Nat} {x : α} (h : pos ≤ m) (hm : m < l.length) : (l.take (pos + 1) ++ (l.drop pos).take (m - pos) ++ l.drop (pos + 1 + (m - pos))).set pos x = own_ins l pos m x := by
  have hp : pos < l.length := by omega
  rw [List.append_assoc, List.set_append, if_pos (by simp; omega), show pos + 1 + (m - pos) = m + 1 from by omega, List.take_add_one, List.getElem?_eq_getElem hp, List.set_append, if_neg (by simp; omega)]
  simp [own_ins, Nat.min_eq_left (Nat.le_of_lt hp)]
theorem own_ins_take {α β : Type} {l : List β} {S : List α} {f : α → β} {pos m : Nat} {i : α} (h : pos ≤ m) (hm : m < l.length) (hc : m ≤ S.length) (hS : l.take S.length = S.map f) : (own_ins l pos m (f i)).take (m + 1) = ((S.take pos ++ i :: S.drop pos).take (m + 1)).map f := by
  have e1 : l.take pos = (S.take pos).map f := by
    have := congrArg (List.take pos) hS
    rw [List.take_take, Nat.min_eq_left (by omega)] at this
    rw [this, List.map_take]
  have e2 : (l.drop pos).take (m - pos) = ((S.drop pos).take (m - pos)).map f := by
    have := congrArg (fun z => (z.drop pos).take (m - pos)) hS
    simp only [List.drop_take, List.take_take] at this
    rw [Nat.min_eq_left (by omega)] at this
    rw [this, List.map_take, List.map_drop]
  have hl1 : (S.take pos).length = pos := by simp; omega
  have er : ((S.take pos ++ i :: S.drop pos).take (m + 1)).map f = (((S.take pos).map f) ++ f i :: (S.drop pos).map f).take (m + 1) := by rw [List.map_take, List.map_append, List.map_cons]
  rw [own_ins, e1, e2, er]
  rw [List.take_append, List.take_append]
  simp only [List.length_map, hl1]
  rw [show m + 1 - pos = (m - pos) + 1 from by omega, List.take_succ_cons, List.take_succ_cons, List.take_append]
  simp only [List.length_map, List.length_take, List.length_drop]
  rw [show m - pos - min (m - pos) (S.length - pos) = 0 from by omega, List.take_zero, List.append_nil]
  congr 2
  rw [List.map_take, List.take_take, Nat.min_self]
def own_posI (rs : List Int32) (r : Int32) : Nat → Nat
  | 0 => 0
  | k + 1 => if rs.getD k 0 < r then own_posI rs r k else k + 1
theorem own_posI_le (rs : List Int32) (r : Int32) : ∀ k, own_posI rs r k ≤ k
  | 0 => Nat.le_refl _
  | k + 1 => by simp only [own_posI]; split; exact Nat.le_trans (own_posI_le rs r k) (Nat.le_succ k); exact Nat.le_refl _
/-- the arrays' first places are the state's -/
def own_Rel (rk : List Int32) (len : Nat) (S : List Nat) (ps rs : List Int32) : Prop := ps.length = len ∧ rs.length = len ∧ S.length ≤ len ∧ ps.take S.length = S.map Int32.ofNat ∧ rs.take S.length = S.map (fun j => rk.getD j 0)
theorem own_Rel_at {rk : List Int32} {len : Nat} {S : List Nat} {ps rs : List Int32} (H : own_Rel rk len S ps rs) {k : Nat} (hk : k < S.length) : rs.getD k 0 = rk.getD (S.getD k 0) 0 := by
  have h := congrArg (fun z => z[k]?) H.2.2.2.2
  simp only [List.getElem?_take, if_pos hk, List.getElem?_map] at h
  simp only [List.getD_eq_getElem?_getD, h, List.getElem?_eq_getElem hk, Option.map_some, Option.getD_some]
theorem own_Rel_pos {rk : List Int32} {len : Nat} {S : List Nat} {ps rs : List Int32} (H : own_Rel rk len S ps rs) (i : Nat) : ∀ k, k ≤ S.length → own_posI rs (rk.getD i 0) k = own_pos (own_gtI rk) S i k
  | 0, _ => rfl
  | k + 1, hk => by
    simp only [own_posI, own_pos, own_gtI]
    rw [own_Rel_at H (by omega), own_Rel_pos H i k (by omega)]
    simp
theorem own_Rel0 (rk : List Int32) (len : Nat) : own_Rel rk len [] (List.replicate len 0) (List.replicate len 0) := ⟨by simp, by simp, by simp, by simp, by simp⟩
theorem own_Rel_step {rk : List Int32} {len : Nat} {S : List Nat} {ps rs : List Int32} (H : own_Rel rk len S ps rs) (hl : 1 ≤ len) {i : Nat} (hc : S.length < len ∨ own_gtI rk i (S.getD (S.length - 1) 0) = true) : own_posI rs (rk.getD i 0) S.length ≤ min S.length (len - 1) ∧
    own_Rel rk len (own_step (own_gtI rk) len S i) (own_ins ps (own_posI rs (rk.getD i 0) S.length) (min S.length (len - 1)) (Int32.ofNat i)) (own_ins rs (own_posI rs (rk.getD i 0) S.length) (min S.length (len - 1)) (rk.getD i 0)) ∧ (own_step (own_gtI rk) len S i).length = min S.length (len - 1) + 1 := by
  have hp := own_Rel_pos H i S.length (Nat.le_refl _)
  obtain ⟨h1, h2, h3, h4, h5⟩ := id H
  have hpl := own_pos_le (own_gtI rk) S i S.length
  have hpm : own_pos (own_gtI rk) S i S.length ≤ min S.length (len - 1) := by
    rcases hc with hc | hc
    · omega
    · by_cases hS : S.length = len
      · have : own_pos (own_gtI rk) S i S.length ≤ S.length - 1 := by
          obtain ⟨k, hk⟩ : ∃ k, S.length = k + 1 := ⟨S.length - 1, by omega⟩
          rw [hk] at hc ⊢
          simp only [Nat.add_sub_cancel] at hc ⊢
          simp only [own_pos, hc, if_true]
          exact own_pos_le _ _ _ _
        omega
      · omega
  rw [hp]
  have hst : own_step (own_gtI rk) len S i = (S.take (own_pos (own_gtI rk) S i S.length) ++ i :: S.drop (own_pos (own_gtI rk) S i S.length)).take len := by
    simp only [own_step]; rw [if_pos hc]
  have hlen : (S.take (own_pos (own_gtI rk) S i S.length) ++ i :: S.drop (own_pos (own_gtI rk) S i S.length)).length = S.length + 1 := by simp; omega
  have hlen2 : (own_step (own_gtI rk) len S i).length = min S.length (len - 1) + 1 := by rw [hst, List.length_take, hlen]; omega
  have hm : min S.length (len - 1) < len := by omega
  have htk : own_step (own_gtI rk) len S i = (S.take (own_pos (own_gtI rk) S i S.length) ++ i :: S.drop (own_pos (own_gtI rk) S i S.length)).take (min S.length (len - 1) + 1) := by
    rw [hst]
    by_cases hS : S.length = len
    · congr 1; omega
    · rw [List.take_of_length_le (l := S.take (own_pos (own_gtI rk) S i S.length) ++ i :: S.drop (own_pos (own_gtI rk) S i S.length)) (by omega), List.take_of_length_le (l := S.take (own_pos (own_gtI rk) S i S.length) ++ i :: S.drop (own_pos (own_gtI rk) S i S.length)) (by omega)]
  refine ⟨hpm, ⟨?_, ?_, by omega, ?_, ?_⟩, hlen2⟩
  · rw [own_ins_len hpm (by omega)]; exact h1
  · rw [own_ins_len hpm (by omega)]; exact h2
  · rw [hlen2, own_ins_take hpm (by omega) (by omega) h4, ← htk]
  · rw [hlen2, own_ins_take (f := fun j => rk.getD j 0) hpm (by omega) (by omega) h5, ← htk]
theorem own_step_not {gt : Nat → Nat → Bool} {len : Nat} {S : List Nat} {i : Nat} (h1 : ¬ S.length < len) (h2 : ¬ gt i (S.getD (S.length - 1) 0) = true) : own_step gt len S i = S := by
  simp only [own_step]; rw [if_neg (fun q => q.elim h1 h2)]
/-! own text: int arrays that are copied -/
section OwnCopy
variable {wd : Option (Vm → Heap → Prop)} {p : Program} {l : Launch} {e : Env} {R : Room} {s : State} {m : MethodId} {args : Array Value} {below : List Frame} {meth : Method} {c : Code} {T : State} {locs : List Loc} {cells slots : Nat} {Z : State} {a0 : Array Value} {h : Heap} {Qb : Option Value → Heap → List Loc → Prop} {kc ks : Nat}
theorem own_stretch {li : List Int32} {sp nn : Nat} (h : sp + nn ≤ li.length) : ((List.range nn).map fun i => Value.int (li.getD (sp + i) 0)) = ((li.drop sp).take nn).map Value.int := by
  refine List.ext_getElem? fun j => ?_
  rw [List.getElem?_map, List.getElem?_map]
  by_cases hj : j < nn
  · rw [List.getElem?_range hj, List.getElem?_take, if_pos hj, List.getElem?_drop, List.getElem?_eq_getElem (by omega)]
    simp [List.getD_eq_getElem?_getD, List.getElem?_eq_getElem (show sp + j < li.length by omega)]
  · rw [List.getElem?_eq_none (by simp; omega), List.getElem?_take, if_neg hj]; rfl
/-- System.arraycopy within one int array -/
theorem Ends.cpy (X : Stand p l e R s m args below meth c T locs cells slots) (hx : p.tables.exec = Jvm.exec) (hZ : Z.Warmed39 s.vm) {own : String} {index : Nat} (hown : s.vm.findClass own = some m.cls)
    (w1 : (Jvm.Cond.methodLink own index Jvm.Stand.acN).before a0 Z = true) (w2 : (Jvm.Cond.native Jvm.Stand.acN).before a0 Z = true) (w3 : (Jvm.Cond.static Jvm.Stand.acN).before a0 Z = true) (w4 : (Jvm.Cond.initialized "java/lang/System").before a0 Z = true)
    (eT : T.heap = h) {a : Addr} {li : List Int32} (A : Ary Z h a .int (li.map Value.int)) {sp dp nn : Nat} (h4 : sp + nn ≤ li.length) (h5 : dp + nn ≤ li.length) {pc : Nat} {Ls : Array Slot} {st : List Value} (hsz : Ls.size = c.maxLocals) (hd : decode c.code pc = .ok (.invokestatic index, 3)) (hf : 1 ≤ R.frames)
    {W : Nat} (hW : (st.map fun v => v.category).sum ≤ W) (hlo : W + (nativeFrameWords "java/lang/System" "arraycopy" 5 + 11) ≤ R.locals)
    (k : ∀ T' h' L, Stand p l e R s m args below meth c T' (locs ++ L) cells slots → T'.heap = h' → Ok h h' [a] L → Ary Z h' a .int ((li.take dp ++ (li.drop sp).take nn ++ li.drop (dp + nn)).map Value.int) → Ends wd p e below s Qb kc ks T' (mkF m (pc + 3) Ls st)) :
    Ends wd p e below s Qb kc ks T (mkF m pc Ls (.int (Int32.ofNat nn) :: .int (Int32.ofNat dp) :: .ref a :: .int (Int32.ofNat sp) :: .ref a :: st)) := by
  subst eT
  obtain ⟨cl, Aa, hsl, hlen⟩ := A
  rw [List.length_map] at hlen
  have hss : cl.slots.size = li.length := by rw [hsl]; simp
  obtain ⟨os, kS, hks, sc, hsk⟩ := State.isArrayOf_alike hZ.alike Aa.2.1
  have c1 := own_clamp (i := sp) (by omega)
  have c2 := own_clamp (i := dp) (by omega)
  have c3 := own_clamp (i := nn) (by omega)
  have gv : ∀ i, i < nn → cl.slots.getD (sp + i) .null = .int (li.getD (sp + i) 0) := fun i hi => by
    rw [hsl, Array.getD_eq_getD_getElem?]
    simp [List.getD_eq_getElem?_getD, List.getElem?_eq_getElem (show sp + i < li.length by omega)]
  obtain ⟨vm₁, hW₁, X', st'⟩ := X.arraycopyK hx hown (mvT hZ w1) (mvT hZ w2) (mvT hZ w3) (mvT hZ w4) (src := a) (dst := a) (srcPos := Int32.ofNat sp) (destPos := Int32.ofNat dp) (n := Int32.ofNat nn) Aa.1 Aa.1 os os Aa.2.2 Aa.2.2 hks hks hsk hsk
    (by decide) c1.2 c2.2 c3.2 (by rw [own_ofNat (by omega), own_ofNat (by omega), hss]; omega) (by rw [own_ofNat (by omega), own_ofNat (by omega), hss]; omega)
    (fun vm₁ hw i hi => by rw [c3.1] at hi; rw [c1.1, gv i hi]; exact ⟨rfl, trivial⟩) (g := mkF m pc Ls (.int (Int32.ofNat nn) :: .int (Int32.ofNat dp) :: .ref a :: .int (Int32.ofNat sp) :: .ref a :: st)) rfl hsz rfl hd hf (by show 2 * 0 + _ + _ ≤ _; omega)
  have est : cl.stretch (Int32.ofNat sp).toNatClampNeg (Int32.ofNat nn).toNatClampNeg = ((li.drop sp).take nn).map Value.int := by
    rw [c1.1, c3.1, ← own_stretch h4]
    exact List.map_congr_left fun i hi => gv i (List.mem_range.mp hi)
  have cf := cl.storeRun_facts (Int32.ofNat dp).toNatClampNeg (cl.stretch (Int32.ofNat sp).toNatClampNeg (Int32.ofNat nn).toNatClampNeg)
  have hb' : a < T.heap.size := Aa.lt
  generalize hcp : copied cl cl (Int32.ofNat sp) (Int32.ofNat dp) (Int32.ofNat nn) = cp at X' st'
  have hcp' : cp = cl.storeRun (Int32.ofNat dp).toNatClampNeg (cl.stretch (Int32.ofNat sp).toNatClampNeg (Int32.ofNat nn).toNatClampNeg) := hcp.symm
  rw [← hcp'] at cf
  have eh : ((T.setVm vm₁).setCell a cp).heap = T.heap.setIfInBounds a cp := rfl
  have ul : (((li.drop sp).take nn).map Value.int).length = nn := by simp; omega
  refine Ends.go st' (k _ _ _ X' eh ⟨⟨by simp, fun x cc q r => ?_, fun x cc q => ?_⟩, fun y hy => Or.inl (by rw [copyLocs_base hy]; exact List.mem_singleton.mpr rfl)⟩ ⟨cp, ⟨by rw [Array.getElem?_setIfInBounds_self_of_lt hb'], ?_, by rw [cf.2.1]; exact Aa.2.2⟩, ?_, ?_⟩)
  · have : a ≠ x := fun z => r (by simp [z])
    rw [Array.getElem?_setIfInBounds_ne this]; exact q
  · by_cases u : a = x
    · subst u; cases Aa.1.symm.trans q
      exact ⟨_, by rw [Array.getElem?_setIfInBounds_self_of_lt hb'], cf.1, cf.2.1, cf.2.2.1⟩
    · exact ⟨cc, by rw [Array.getElem?_setIfInBounds_ne u]; exact q, rfl, rfl, rfl⟩
  · have := Aa.2.1; unfold State.isArrayOf at this ⊢; rw [cf.1, cf.2.1]; exact this
  · refine Array.ext_getElem? fun j => ?_
    rw [hcp', est, Cell.storeRun_get _ _ _ _ (by rw [ul, c2.1, hss]; omega), ul, c2.1, hsl]
    simp only [List.getElem?_toArray, List.getElem?_map]
    have l1 : (li.take dp).length = dp := by simp; omega
    have l2 : ((li.drop sp).take nn).length = nn := by simp; omega
    by_cases g1 : j < dp
    · rw [if_neg (by omega), List.append_assoc, List.getElem?_append_left (by omega), List.getElem?_take_of_lt g1]
    · by_cases g2 : j < dp + nn
      · rw [if_pos ⟨by omega, g2⟩, List.getElem?_append_left (by rw [List.length_append]; omega), List.getElem?_append_right (by omega), l1]
      · rw [if_neg (by omega), List.getElem?_append_right (by rw [List.length_append]; omega), List.length_append, l1, l2, List.getElem?_drop, show dp + nn + (j - (dp + nn)) = j by omega]
  · simp only [List.length_map, List.length_append, List.length_take, List.length_drop]; omega
/-- int[].clone() -/
theorem Ends.clone (X : Stand p l e R s m args below meth c T locs cells slots) (hx : p.tables.exec = Jvm.exec) (hZ : Z.Warmed39 s.vm) {own : String} {index : Nat} (hown : s.vm.findClass own = some m.cls)
    (w1 : (Jvm.Cond.methodLink own index ⟨"[I", "clone", "()Ljava/lang/Object;"⟩).before a0 Z = true) (w2 : (Jvm.Cond.sameMethod "[I" "java/lang/Object" "clone" "()Ljava/lang/Object;").before a0 Z = true) (w3 : (Jvm.Cond.native ⟨"java/lang/Object", "clone", "()Ljava/lang/Object;"⟩).before a0 Z = true)
    (w4 : (Jvm.Cond.instanceMethod ⟨"java/lang/Object", "clone", "()Ljava/lang/Object;"⟩).before a0 Z = true) (w5 : (Jvm.Cond.selects "[I" ⟨"[I", "clone", "()Ljava/lang/Object;"⟩ ⟨"java/lang/Object", "clone", "()Ljava/lang/Object;"⟩).before a0 Z = true) (w6 : (Jvm.Cond.castable "[I" "java/lang/Cloneable").before a0 Z = true)
    (eT : T.heap = h) {a : Addr} {li : List Int32} (A : Ary Z h a .int (li.map Value.int)) (E : Exa Z h a "[I") {pc : Nat} {Ls : Array Slot} {st : List Value} (hsz : Ls.size = c.maxLocals) (hd : decode c.code pc = .ok (.invokevirtual index, 3)) (hf : 1 ≤ R.frames)
    {W cap : Nat} (hW : (st.map fun v => v.category).sum ≤ W) (hlo : W + 14 ≤ R.locals) (hcap : li.length ≤ cap) (hc : cells + 1 ≤ R.cells) (hs : slots + cap ≤ R.slots)
    (k : ∀ T' h' b, b = h.size → Stand p l e R s m args below meth c T' locs (cells + 1) (slots + cap) → T'.heap = h' → Ext h h' → Ary Z h' b .int (li.map Value.int) → Exa Z h' b "[I" → Ends wd p e below s Qb kc ks T' (mkF m (pc + 3) Ls (.ref b :: st))) :
    Ends wd p e below s Qb kc ks T (mkF m pc Ls (.ref a :: st)) := by
  obtain ⟨cl, Aa, hsl, hlen⟩ := A
  obtain ⟨os, kS, hks, sc, hsk⟩ := Aa.2.1
  have F : FitC Z cl := fun i v hv => by
    rw [hsl] at hv
    have hv' : (li.map Value.int)[i]? = some v := by simpa using hv
    obtain ⟨x, -, rfl⟩ := List.mem_map.mp (List.mem_of_getElem? hv')
    simp [State.fitsSlot, State.slotType?, hks, hsk, fits]
  obtain ⟨T', h', X', e', E', A', E2, st'⟩ := cloneA X hx hZ hown w1 w2 w3 w4 w5 w6 eT Aa E F (g := mkF m pc Ls (.ref a :: st)) rfl hsz rfl hd hf (W := W) (cap := cap) (by show 2 * 0 + _ ≤ _; omega) hlo (by rw [hsl]; simpa using hcap) hc hs
  exact Ends.go st' (k T' h' _ rfl X' e' E' ⟨_, A', by first | exact hsl | (rw [← hsl]; rfl), hlen⟩ E2)
end OwnCopy
def own_Rn (k : Nat) : Int32 := if k = 32 then 0 else if k = 101 then 1 else if k = 116 then 2 else if k = 97 then 3 else if k = 111 then 4 else if k = 105 then 5 else if k = 110 then 6 else if k = 115 then 7 else if k = 114 then 8 else if k = 104 then 9 else if k = 108 then 10 else if k = 100 then 11 else if k = 99 then 12 else if k = 117 then 13 else if k = 109 then 14 else if k = 102 then 15 else if k = 112 then 16 else if k = 103 then 17 else if k = 119 then 18 else if k = 121 then 19 else if k = 98 then 20 else if k = 44 then 21 else if k = 46 then 22 else if k = 118 then 23 else if k = 107 then 24 else if k = 13 then 25 else if k = 10 then 26 else 27
theorem own_R27 {i : Nat} (h32 : ¬ i = 32) (h101 : ¬ i = 101) (h116 : ¬ i = 116) (h97 : ¬ i = 97) (h111 : ¬ i = 111) (h105 : ¬ i = 105) (h110 : ¬ i = 110) (h115 : ¬ i = 115) (h114 : ¬ i = 114) (h104 : ¬ i = 104) (h108 : ¬ i = 108) (h100 : ¬ i = 100) (h99 : ¬ i = 99) (h117 : ¬ i = 117) (h109 : ¬ i = 109) (h102 : ¬ i = 102) (h112 : ¬ i = 112) (h103 : ¬ i = 103) (h119 : ¬ i = 119) (h121 : ¬ i = 121) (h98 : ¬ i = 98) (h44 : ¬ i = 44) (h46 : ¬ i = 46) (h118 : ¬ i = 118) (h107 : ¬ i = 107) (h13 : ¬ i = 13) (h10 : ¬ i = 10) : own_Rn i = 27 := by simp only [own_Rn, h32, h101, h116, h97, h111, h105, h110, h115, h114, h104, h108, h100, h99, h117, h109, h102, h112, h103, h119, h121, h98, h44, h46, h118, h107, h13, h10, if_false]
theorem own_stuck (f : Nat → Option Bool) : ∀ (l : List Nat) (acc : Option Bool), acc ≠ some true → l.foldl (fun acc i => match acc with | some true => f i | x => x) acc = acc
  | [], _, _ => rfl
  | i :: l, acc, h => by
    rw [List.foldl_cons]
    rcases acc with _ | _ | _
    · exact own_stuck f l none h
    · exact own_stuck f l (some false) h
    · exact absurd rfl h
theorem own_foldall (f : Nat → Option Bool) : ∀ (l : List Nat), l.foldl (fun acc i => match acc with | some true => f i | x => x) (some true) = some true → ∀ i ∈ l, f i = some true
  | [], _, i, hi => nomatch hi
  | j :: l, h, i, hi => by
    rw [List.foldl_cons] at h
    have hj : f j = some true := Classical.byContradiction fun q => by
      rw [own_stuck f l _ q] at h; exact q h
    simp only [hj] at h
    rcases List.mem_cons.mp hi with rfl | hi
    · exact hj
    · exact own_foldall f l h i hi
theorem own_eqI {args : Array Value} {s : State} {idx : List Nat} {t : Term} {v : Int32} (h : (Cond.eq t (Term.int v)).value args s none s idx = some true) : t.eval args s none idx s = some (.int v) := by
  simp only [Cond.value] at h
  cases ht : t.eval args s none idx s with
  | none => simp [ht] at h
  | some w =>
    rw [ht, show (Term.int v).eval args s none idx s = some (.int v) from rfl] at h
    cases w <;> simp_all
theorem own_orF {args : Array Value} {s : State} {idx : List Nat} {c d : Cond} (h : (Cond.or c d).value args s none s idx = some true) (hc : c.value args s none s idx = some false) : d.value args s none s idx = some true := by simpa [Cond.value, hc] using h
theorem own_leF {args : Array Value} {s : State} {i k : Nat} (hi : i < 256) (hk : k < 256) (h : i < k) : (Cond.le (Term.int (Int32.ofNat k)) (Term.index 0)).value args s none s [i] = some false := by
  show some (decide (Int32.ofNat k ≤ Int32.ofNat i)) = some false
  have : ¬ Int32.ofNat k ≤ Int32.ofNat i := by rw [Int32.le_iff_toInt_le, own_ofNat (by omega), own_ofNat (by omega)]; omega
  simp [this]
theorem own_ltF {args : Array Value} {s : State} {i k : Nat} (hi : i < 256) (hk : k < 256) (h : k ≤ i) : (Cond.lt (Term.index 0) (Term.int (Int32.ofNat k))).value args s none s [i] = some false := by
  show some (decide (Int32.ofNat i < Int32.ofNat k)) = some false
  have : ¬ Int32.ofNat i < Int32.ofNat k := by rw [Int32.lt_iff_toInt_lt, own_ofNat (by omega), own_ofNat (by omega)]; omega
  simp [this]
theorem own_allat {args : Array Value} {s : State} {t : Term} {c : Cond} {a : Addr} {cl : Cell} (h : (Cond.all t c).value args s none s [] = some true) (ht : t.eval args s none [] s = some (.ref a)) (ha : s.arrayAt? a = some cl) {i : Nat} (hi : i < cl.slots.size) : c.value args s none s [i] = some true := by
  simp only [Cond.value, ht, ha] at h
  exact own_foldall (fun i => c.value args s none s [i]) _ h i (List.mem_range.mpr hi)
def own_RL : List Int32 := (List.range 256).map own_Rn
theorem own_rar {args : Array Value} {s : State} (hw : ∀ d ∈ tables_1, d.before args s = true) (hn : narrow_1.value args s none s [] = some true) : ∃ rr, Sta s s.heap "com/example/needlework/needlework/match/CompiledPattern" "RARITY" "[B" (.ref rr) ∧ Ary s s.heap rr .byte (own_RL.map Value.int) := by
  obtain ⟨q0, hn⟩ := and_e hn
  obtain ⟨q1, hn⟩ := and_e hn
  obtain ⟨q2, hn⟩ := and_e hn
  obtain ⟨q3, hn⟩ := and_e hn
  obtain ⟨q4, hn⟩ := and_e hn
  obtain ⟨q5, hn⟩ := and_e hn
  obtain ⟨q6, hn⟩ := and_e hn
  obtain ⟨q7, hn⟩ := and_e hn
  obtain ⟨q8, hn⟩ := and_e hn
  obtain ⟨q9, hn⟩ := and_e hn
  obtain ⟨q10, hn⟩ := and_e hn
  obtain ⟨q11, hn⟩ := and_e hn
  obtain ⟨q12, hn⟩ := and_e hn
  obtain ⟨q13, hn⟩ := and_e hn
  obtain ⟨q14, hn⟩ := and_e hn
  obtain ⟨q15, hn⟩ := and_e hn
  obtain ⟨q16, hn⟩ := and_e hn
  obtain ⟨q17, hn⟩ := and_e hn
  obtain ⟨q18, hn⟩ := and_e hn
  obtain ⟨q19, hn⟩ := and_e hn
  obtain ⟨q20, hn⟩ := and_e hn
  obtain ⟨q21, hn⟩ := and_e hn
  obtain ⟨q22, hn⟩ := and_e hn
  obtain ⟨q23, hn⟩ := and_e hn
  obtain ⟨q24, hn⟩ := and_e hn
  obtain ⟨q25, hn⟩ := and_e hn
  obtain ⟨q26, hn⟩ := and_e hn
  obtain ⟨q27, hn⟩ := and_e hn
  obtain ⟨q28, hn⟩ := and_e hn
  obtain ⟨q29, hn⟩ := and_e hn
  obtain ⟨q30, hn⟩ := and_e hn
  obtain ⟨q31, hn⟩ := and_e hn
  obtain ⟨q32, hn⟩ := and_e hn
  obtain ⟨q33, hn⟩ := and_e hn
  obtain ⟨q34, hn⟩ := and_e hn
  obtain ⟨q35, hn⟩ := and_e hn
  obtain ⟨q36, hn⟩ := and_e hn
  obtain ⟨q37, hn⟩ := and_e hn
  obtain ⟨q38, hn⟩ := and_e hn
  have q39 := hn
  obtain ⟨rr, ht⟩ := arr_v q0
  obtain ⟨cl, Aa⟩ := Arr.start ht q0
  have ha := Arr.fin (Vm.Alike.refl _) Aa
  have hsz : cl.slots.size = 256 := by
    have e := own_eqI q1
    obtain ⟨x, cell, e1, e2, e3⟩ : ∃ x cell, ((Jvm.Term.static "com/example/needlework/needlework/match/CompiledPattern" "RARITY" "[B")).eval args s none [] s = some (.ref x) ∧ s.arrayAt? x = some cell ∧ cell.slots.size < 2 ^ 31 ∧ cell.slots.size.toInt32 = (256 : Int32) := by
      simp only [Term.eval] at e ht
      rw [ht] at e
      simp only [Option.bind_eq_bind, Option.bind_some, ha] at e
      refine ⟨rr, cl, by simp only [Term.eval]; exact ht, ha, ?_⟩
      split at e
      · rename_i hlt; exact ⟨hlt, by simpa using e⟩
      · cases e
    cases ht.symm.trans e1
    cases ha.symm.trans e2
    have e4 := congrArg Int32.toInt e3.2
    rw [show cl.slots.size.toInt32 = Int32.ofNat cl.slots.size from rfl, own_ofNat e3.1] at e4
    have e5 : (256 : Int32).toInt = 256 := by decide
    omega
  have ht2 : ∀ idx, ((Jvm.Term.static "com/example/needlework/needlework/match/CompiledPattern" "RARITY" "[B")).eval args s none idx s = some (.ref rr) := fun idx => ht
  have pt : ∀ {k v : Int32}, ¬ k < 0 → (Cond.eq (Term.elem (Jvm.Term.static "com/example/needlework/needlework/match/CompiledPattern" "RARITY" "[B") (Term.int k)) (Term.int v)).value args s none s [] = some true → cl.slots[k.toNatClampNeg]? = some (.int v) := fun {k v} hk q => by
    have e := own_eqI q
    rw [elem_f (ht2 _) (show (Term.int k).eval args s none [] s = some (.int k) from rfl) ha hk] at e; exact e
  have at' : ∀ {i : Nat} {v : Int32}, i < 256 → (Cond.eq (Term.elem (Jvm.Term.static "com/example/needlework/needlework/match/CompiledPattern" "RARITY" "[B") (Term.index 0)) (Term.int v)).value args s none s [i] = some true → cl.slots[i]? = some (.int v) := fun {i v} hi q => by
    have e := own_eqI q
    have cq := own_clamp (i := i) (by omega)
    rw [elem_f (ht2 _) (show (Term.index 0).eval args s none [i] s = some (.int (Int32.ofNat i)) from rfl) ha cq.2, cq.1] at e; exact e
  have key : ∀ i, i < 256 → cl.slots[i]? = some (.int (own_Rn i)) := fun i hi => by
    by_cases g2 : i < 10
    · have z := own_allat q2 ht ha (i := i) (by omega)
      have z := own_orF z (own_leF (k := 10) hi (by decide) g2)
      rw [own_R27 (by omega) (by omega) (by omega) (by omega) (by omega) (by omega) (by omega) (by omega) (by omega) (by omega) (by omega) (by omega) (by omega) (by omega) (by omega) (by omega) (by omega) (by omega) (by omega) (by omega) (by omega) (by omega) (by omega) (by omega) (by omega) (by omega) (by omega)]; exact at' hi z
    by_cases g3 : i = 10
    · subst g3; exact pt (by decide) q3
    by_cases g4 : i = 11
    · subst g4; exact pt (by decide) q4
    by_cases g5 : i = 12
    · subst g5; exact pt (by decide) q5
    by_cases g6 : i = 13
    · subst g6; exact pt (by decide) q6
    by_cases g7 : 14 ≤ i ∧ i < 32
    · have z := own_allat q7 ht ha (i := i) (by omega)
      have z := own_orF z (own_ltF (k := 14) hi (by decide) g7.1)
      have z := own_orF z (own_leF (k := 32) hi (by decide) g7.2)
      rw [own_R27 (by omega) (by omega) (by omega) (by omega) (by omega) (by omega) (by omega) (by omega) (by omega) (by omega) (by omega) (by omega) (by omega) (by omega) (by omega) (by omega) (by omega) (by omega) (by omega) (by omega) (by omega) (by omega) (by omega) (by omega) (by omega) (by omega) (by omega)]; exact at' hi z
    by_cases g8 : i = 32
    · subst g8; exact pt (by decide) q8
    by_cases g9 : 33 ≤ i ∧ i < 44
    · have z := own_allat q9 ht ha (i := i) (by omega)
      have z := own_orF z (own_ltF (k := 33) hi (by decide) g9.1)
      have z := own_orF z (own_leF (k := 44) hi (by decide) g9.2)
      rw [own_R27 (by omega) (by omega) (by omega) (by omega) (by omega) (by omega) (by omega) (by omega) (by omega) (by omega) (by omega) (by omega) (by omega) (by omega) (by omega) (by omega) (by omega) (by omega) (by omega) (by omega) (by omega) (by omega) (by omega) (by omega) (by omega) (by omega) (by omega)]; exact at' hi z
    by_cases g10 : i = 44
    · subst g10; exact pt (by decide) q10
    by_cases g11 : i = 45
    · subst g11; exact pt (by decide) q11
    by_cases g12 : i = 46
    · subst g12; exact pt (by decide) q12
    by_cases g13 : 47 ≤ i ∧ i < 97
    · have z := own_allat q13 ht ha (i := i) (by omega)
      have z := own_orF z (own_ltF (k := 47) hi (by decide) g13.1)
      have z := own_orF z (own_leF (k := 97) hi (by decide) g13.2)
      rw [own_R27 (by omega) (by omega) (by omega) (by omega) (by omega) (by omega) (by omega) (by omega) (by omega) (by omega) (by omega) (by omega) (by omega) (by omega) (by omega) (by omega) (by omega) (by omega) (by omega) (by omega) (by omega) (by omega) (by omega) (by omega) (by omega) (by omega) (by omega)]; exact at' hi z
    by_cases g14 : i = 97
    · subst g14; exact pt (by decide) q14
    by_cases g15 : i = 98
    · subst g15; exact pt (by decide) q15
    by_cases g16 : i = 99
    · subst g16; exact pt (by decide) q16
    by_cases g17 : i = 100
    · subst g17; exact pt (by decide) q17
    by_cases g18 : i = 101
    · subst g18; exact pt (by decide) q18
    by_cases g19 : i = 102
    · subst g19; exact pt (by decide) q19
    by_cases g20 : i = 103
    · subst g20; exact pt (by decide) q20
    by_cases g21 : i = 104
    · subst g21; exact pt (by decide) q21
    by_cases g22 : i = 105
    · subst g22; exact pt (by decide) q22
    by_cases g23 : i = 106
    · subst g23; exact pt (by decide) q23
    by_cases g24 : i = 107
    · subst g24; exact pt (by decide) q24
    by_cases g25 : i = 108
    · subst g25; exact pt (by decide) q25
    by_cases g26 : i = 109
    · subst g26; exact pt (by decide) q26
    by_cases g27 : i = 110
    · subst g27; exact pt (by decide) q27
    by_cases g28 : i = 111
    · subst g28; exact pt (by decide) q28
    by_cases g29 : i = 112
    · subst g29; exact pt (by decide) q29
    by_cases g30 : i = 113
    · subst g30; exact pt (by decide) q30
    by_cases g31 : i = 114
    · subst g31; exact pt (by decide) q31
    by_cases g32 : i = 115
    · subst g32; exact pt (by decide) q32
    by_cases g33 : i = 116
    · subst g33; exact pt (by decide) q33
    by_cases g34 : i = 117
    · subst g34; exact pt (by decide) q34
    by_cases g35 : i = 118
    · subst g35; exact pt (by decide) q35
    by_cases g36 : i = 119
    · subst g36; exact pt (by decide) q36
    by_cases g37 : i = 120
    · subst g37; exact pt (by decide) q37
    by_cases g38 : i = 121
    · subst g38; exact pt (by decide) q38
    by_cases g39 : 122 ≤ i
    · have z := own_allat q39 ht ha (i := i) (by omega)
      have z := own_orF z (own_ltF (k := 122) hi (by decide) g39)
      rw [own_R27 (by omega) (by omega) (by omega) (by omega) (by omega) (by omega) (by omega) (by omega) (by omega) (by omega) (by omega) (by omega) (by omega) (by omega) (by omega) (by omega) (by omega) (by omega) (by omega) (by omega) (by omega) (by omega) (by omega) (by omega) (by omega) (by omega) (by omega)]; exact at' hi z
    exfalso; omega
  refine ⟨rr, Sta.start (args := args) ht (Or.inr ⟨(own_w hw 27 rfl), (own_w hw 158 rfl)⟩), cl, Aa, ?_, by simp [own_RL]⟩
  refine Array.ext_getElem? fun i => ?_
  by_cases hi : i < 256
  · rw [key i hi]; simp [own_RL, hi]
  · rw [Array.getElem?_eq_none (by omega)]; simp [own_RL, hi]
theorem own_kmp_len {α : Type} [DecidableEq α] (xs : List α) : (own_kmp xs).length = xs.length := (own_run_ok xs _).1
theorem own_ckat {l : List Nat} {i r : Nat} (h : l[i]? = some r) : (own_ints l)[i]? = some (Int32.ofNat r) := by simp [own_ints, h]
theorem own_ifn {P : Prop} [Decidable P] (h : (if P then (1 : Int32) else 0) = 0) : ¬ P := fun q => by rw [if_pos q] at h; exact absurd h (by decide)
theorem own_ifp {P : Prop} [Decidable P] (h : ¬ (if P then (1 : Int32) else 0) = 0) : P := Classical.byContradiction fun q => h (if_neg q)
theorem own_mod (x : Int32) (m : Nat) (hm : 0 < m) (hm2 : m < 100) : ∃ k : Nat, k < m ∧ (x &&& (2147483647 : Int32)) % Int32.ofNat m = Int32.ofNat k := by
  have q : x.toBitVec.toNat &&& 2147483647 ≤ 2147483647 := Nat.and_le_right
  have e : (x &&& 2147483647).toInt = ((x.toBitVec.toNat &&& 2147483647 : Nat) : Int) := by
    show ((x &&& 2147483647).toBitVec).toInt = _
    rw [BitVec.toInt_eq_toNat_of_lt]
    · rfl
    · show 2 * (x.toBitVec.toNat &&& 2147483647) < 2 ^ 32; omega
  refine ⟨(x.toBitVec.toNat &&& 2147483647) % m, Nat.mod_lt _ hm, ?_⟩
  have hl := Nat.mod_lt (x.toBitVec.toNat &&& 2147483647) hm
  apply Int32.toInt_inj.mp
  rw [Int32.toInt_mod, e, own_ofNat (by omega), own_ofNat (by omega)]
  exact Int.tmod_eq_emod_of_nonneg (by omega)
theorem own_C5 {c0 c1 c2 c3 c4 : Int32} (h0 : own_C c0) (h1 : own_C c1) (h2 : own_C c2) (h3 : own_C c3) (h4 : own_C c4) (n : Nat) : ∀ x ∈ [c0, c1, c2, c3, c4].take n, own_C x := fun x hx => by
  have := List.mem_of_mem_take hx
  simp only [List.mem_cons, List.not_mem_nil, or_false] at this
  rcases this with rfl | rfl | rfl | rfl | rfl <;> assumption
def own_ref5 {α : Type} [DecidableEq α] (cs : List α) (i : Nat) : Nat :=
  if 4 ≤ i ∧ own_bord cs i 4 = true then 4 else if 3 ≤ i ∧ own_bord cs i 3 = true then 3 else if 2 ≤ i ∧ own_bord cs i 2 = true then 2 else if 1 ≤ i ∧ own_bord cs i 1 = true then 1 else 0
theorem own_law5 {α : Type} [DecidableEq α] (x0 x1 x2 x3 x4 : α) {n i : Nat} (hn : n ≤ 5) (hi : i < n) : (own_kmp ([x0, x1, x2, x3, x4].take n))[i]? = some (own_ref5 [x0, x1, x2, x3, x4] i) := by
  have q := own_law x0 x1 x2 x3 x4 x0 (n := n) (i := i) (by omega) hi
  have e : [x0, x1, x2, x3, x4, x0].take n = [x0, x1, x2, x3, x4].take n := by
    rw [show [x0, x1, x2, x3, x4, x0] = [x0, x1, x2, x3, x4] ++ [x0] from rfl, List.take_append, show n - [x0, x1, x2, x3, x4].length = 0 from by simp; omega]; simp
  rw [e] at q
  rw [q]
  congr 1
  have : i = 0 ∨ i = 1 ∨ i = 2 ∨ i = 3 ∨ i = 4 := by omega
  rcases this with rfl | rfl | rfl | rfl | rfl <;> simp [own_ref, own_ref5, own_bord, List.range, List.range.loop]
theorem own_subN' {a b : Nat} (h : b ≤ a) : Int32.ofNat a - Int32.ofNat b = Int32.ofNat (a - b) := by
  have e : Int32.ofNat a = Int32.ofNat (a - b) + Int32.ofNat b := by rw [own_addN, Nat.sub_add_cancel h]
  rw [e]; exact Int32.add_sub_cancel _ _
theorem own_dec (k : Nat) : Int32.ofNat (k + 1) + (-1 : Int32) = Int32.ofNat k := by
  have := own_pred (i := k + 1) (by omega)
  rw [Nat.add_sub_cancel] at this
  rw [← this, Int32.sub_eq_add_neg]
def own_Rf (x : Int32) : Int32 := own_Rn (x.toBitVec.toNat &&& 255)
theorem own_and255N (x : Int32) : x &&& (255 : Int32) = Int32.ofNat (x.toBitVec.toNat &&& 255) := by
  apply Int32.toBitVec_inj.mp
  apply BitVec.eq_of_toNat_eq
  have q : x.toBitVec.toNat &&& 255 ≤ 255 := Nat.and_le_right
  show x.toBitVec.toNat &&& 255 = (BitVec.ofNat 32 _).toNat
  simp <;> omega
theorem own_RLat (x : Int32) : (own_RL.map Value.int)[x.toBitVec.toNat &&& 255]? = some (.int (own_Rf x)) := by
  have q : x.toBitVec.toNat &&& 255 ≤ 255 := Nat.and_le_right
  have h : x.toBitVec.toNat &&& 255 < 256 := by omega
  simp [own_RL, own_Rf, h]
theorem own_Rn_pos (k : Nat) : (-1 : Int32) < own_Rn k := by
  by_cases h : k < 256
  · have q : ∀ k : Fin 256, (-1 : Int32) < own_Rn k.val := by decide +kernel
    exact q ⟨k, h⟩
  · rw [own_R27 (by omega) (by omega) (by omega) (by omega) (by omega) (by omega) (by omega) (by omega) (by omega) (by omega) (by omega) (by omega) (by omega) (by omega) (by omega) (by omega) (by omega) (by omega) (by omega) (by omega) (by omega) (by omega) (by omega) (by omega) (by omega) (by omega) (by omega)]; decide
theorem own_Rf_pos (x : Int32) : (-1 : Int32) < own_Rf x := own_Rn_pos _
theorem own_fin {rk ps rs : List Int32} {len : Nat} {S : List Nat} (H : own_Rel rk len S ps rs) (hS : S.length = len) : ps = own_ints S := by
  have h := H.2.2.2.1
  rw [hS, List.take_of_length_le (by rw [H.1]; exact Nat.le_refl _)] at h
  exact h
theorem own_gtI_take (l : List Int32) {n i j : Nat} (hi : i < n) (hj : j < n) : own_gtI (l.take n) i j = own_gtI l i j := by
  simp only [own_gtI, List.getD_eq_getElem?_getD, List.getElem?_take, if_pos hi, if_pos hj]
theorem own_probe5 {l : List Int32} (hl : l.length = 5) {n i : Nat} (hn : n ≤ 5) (hi : i < n) (hp : own_ps (own_gtI l) n i < min 3 n) : (own_go (own_gtI (l.take n)) (min 3 n) n)[own_ps (own_gtI l) n i]? = some i := by
  have hln : (l.take n).length = n := by rw [List.length_take, hl]; omega
  have hc : ∀ i j, i < n → j < n → own_gtI l i j = own_gtI (l.take n) i j := fun i j hi hj => (own_gtI_take l hi hj).symm
  rw [own_ps_congr hc hi] at hp ⊢
  have q := own_probe (rk := l.take n) (by omega) (i := i) (by omega) (by rw [hln]; exact hp)
  rw [hln] at q
  exact q
theorem own_ints_at' {l : List Nat} {i r : Nat} (h : l[i]? = some r) : (own_ints l)[i]? = some (Int32.ofNat r) := own_ckat h
theorem own_nlt {a b : Int32} (h1 : ¬ a < b) (h2 : ¬ b = a) : b < a := by
  rw [Int32.lt_iff_toInt_lt] at h1 ⊢
  have : b.toInt ≠ a.toInt := fun q => h2 (Int32.toInt_inj.mp q)
  omega
theorem own_go_len (gt : Nat → Nat → Bool) (len : Nat) : ∀ k, (own_go gt len k).length = min k len
  | 0 => by simp [own_go]
  | k + 1 => by
    have ih := own_go_len gt len k
    have hp := own_pos_le gt (own_go gt len k) k (own_go gt len k).length
    simp only [own_go, own_step]
    split
    · rename_i h
      simp only [List.length_take, List.length_append, List.length_cons, List.length_drop]
      rcases h with h | h
      · omega
      · omega
    · rename_i h
      have : ¬ (own_go gt len k).length < len := fun q => h (Or.inl q)
      omega
theorem own_uD {xs : List Int32} {i : Nat} {x : Int32} (h : xs[i]? = some x) : (xs.take i ++ List.replicate (xs.length - i) (0 : Int32)).set i x = xs.take (i + 1) ++ List.replicate (xs.length - (i + 1)) 0 := by
  have hi : i < xs.length := (List.getElem?_eq_some_iff.mp h).1
  rw [List.take_add_one, h, List.set_append]
  have hl : (xs.take i).length = i := by simp; omega
  rw [hl, if_neg (by omega), Nat.sub_self, show xs.length - i = (xs.length - (i + 1)) + 1 from by omega, List.replicate_succ]
  simp
abbrev D_ (c : ByteArray) (p : Nat) (i : Instr) (n : Nat) : Prop := decode c p = .ok (i, n)
theorem pn_0 : plainName "java/lang/String" = true := by first | (simp [plainName, overriddenIn]; done) | decide +kernel
theorem pn_1 : plainName "jdk/internal/util/Preconditions" = true := by first | (simp [plainName, overriddenIn]; done) | decide +kernel
theorem pn_2 : plainName "java/lang/StringLatin1" = true := by first | (simp [plainName, overriddenIn]; done) | decide +kernel
theorem pn_3 : plainName "java/lang/StringUTF16" = true := by first | (simp [plainName, overriddenIn]; done) | decide +kernel
theorem pn_4 : plainName "com/example/needlework/needlework/match/PrefixTable" = true := by first | (simp [plainName, overriddenIn]; done) | decide +kernel
theorem pn_5 : plainName "java/util/Objects" = true := by first | (simp [plainName, overriddenIn]; done) | decide +kernel
theorem pn_6 : plainName "com/example/needlework/needlework/match/CompiledPattern" = true := by first | (simp [plainName, overriddenIn]; done) | decide +kernel
theorem pn_7 : plainName "com/example/needlework/needlework/match/CompiledPatternOfPinLaw" = true := by first | (simp [plainName, overriddenIn]; done) | decide +kernel
theorem pd_0 : parseMethodDescriptor "()B" = some ⟨[], some .byte⟩ := by decide +kernel
theorem pd_1 : parseMethodDescriptor "(IILjava/util/function/BiFunction;)I" = some ⟨[.int, .int, (.object "java/util/function/BiFunction")], some .int⟩ := by decide +kernel
theorem pd_2 : parseMethodDescriptor "(II)V" = some ⟨[.int, .int], none⟩ := by decide +kernel
theorem pd_3 : parseMethodDescriptor "([B)I" = some ⟨[(.array .byte)], some .int⟩ := by decide +kernel
theorem pd_4 : parseMethodDescriptor "(I[B)V" = some ⟨[.int, (.array .byte)], none⟩ := by decide +kernel
theorem pd_5 : parseMethodDescriptor "([BI)C" = some ⟨[(.array .byte), .int], some .char⟩ := by decide +kernel
theorem pd_6 : parseMethodDescriptor "()Z" = some ⟨[], some .boolean⟩ := by decide +kernel
theorem pd_7 : parseMethodDescriptor "(I)I" = some ⟨[.int], some .int⟩ := by decide +kernel
theorem pd_8 : parseMethodDescriptor "(I)[B" = some ⟨[.int], some (.array .byte)⟩ := by decide +kernel
theorem pd_9 : parseMethodDescriptor "([BII)V" = some ⟨[(.array .byte), .int, .int], none⟩ := by decide +kernel
theorem pd_10 : parseMethodDescriptor "([CI[BII)I" = some ⟨[(.array .char), .int, (.array .byte), .int, .int], some .int⟩ := by decide +kernel
theorem pd_11 : parseMethodDescriptor "([CII)[B" = some ⟨[(.array .char), .int, .int], some (.array .byte)⟩ := by decide +kernel
theorem pd_12 : parseMethodDescriptor "([BI)B" = some ⟨[(.array .byte), .int], some .byte⟩ := by decide +kernel
theorem pd_13 : parseMethodDescriptor "([CIILjava/lang/Void;)V" = some ⟨[(.array .char), .int, .int, (.object "java/lang/Void")], none⟩ := by decide +kernel
theorem pd_14 : parseMethodDescriptor "(I)C" = some ⟨[.int], some .char⟩ := by decide +kernel
theorem pd_15 : parseMethodDescriptor "(Ljava/lang/Object;Ljava/lang/String;)Ljava/lang/Object;" = some ⟨[(.object "java/lang/Object"), (.object "java/lang/String")], some (.object "java/lang/Object")⟩ := by decide +kernel
theorem pd_16 : parseMethodDescriptor "()I" = some ⟨[], some .int⟩ := by decide +kernel
theorem pd_17 : parseMethodDescriptor "(Ljava/lang/Object;)Ljava/lang/Object;" = some ⟨[(.object "java/lang/Object")], some (.object "java/lang/Object")⟩ := by decide +kernel
theorem pd_18 : parseMethodDescriptor "(ILjava/util/function/IntUnaryOperator;)[I" = some ⟨[.int, (.object "java/util/function/IntUnaryOperator")], some (.array .int)⟩ := by decide +kernel
theorem pd_19 : parseMethodDescriptor "(II)I" = some ⟨[.int, .int], some .int⟩ := by decide +kernel
theorem pd_20 : parseMethodDescriptor "([I[I[I)V" = some ⟨[(.array .int), (.array .int), (.array .int)], none⟩ := by decide +kernel
theorem pd_21 : parseMethodDescriptor "([I[IIII)I" = some ⟨[(.array .int), (.array .int), .int, .int, .int], some .int⟩ := by decide +kernel
theorem pd_22 : parseMethodDescriptor "(Ljava/lang/CharSequence;)[I" = some ⟨[(.object "java/lang/CharSequence")], some (.array .int)⟩ := by decide +kernel
theorem pd_23 : parseMethodDescriptor "(ILjava/util/function/IntUnaryOperator;[I)Lcom/example/needlework/needlework/match/CompiledPattern;" = some ⟨[.int, (.object "java/util/function/IntUnaryOperator"), (.array .int)], some (.object "com/example/needlework/needlework/match/CompiledPattern")⟩ := by decide +kernel
theorem pd_24 : parseMethodDescriptor "([III)Z" = some ⟨[(.array .int), .int, .int], some .boolean⟩ := by decide +kernel
theorem pd_25 : parseMethodDescriptor "([IIII)I" = some ⟨[(.array .int), .int, .int, .int], some .int⟩ := by decide +kernel
theorem pd_26 : parseMethodDescriptor "([C)V" = some ⟨[(.array .char)], none⟩ := by decide +kernel
theorem pd_27 : parseMethodDescriptor "(Ljava/lang/CharSequence;)Lcom/example/needlework/needlework/match/CompiledPattern;" = some ⟨[(.object "java/lang/CharSequence")], some (.object "com/example/needlework/needlework/match/CompiledPattern")⟩ := by decide +kernel
theorem pd_28 : parseMethodDescriptor "()[I" = some ⟨[], some (.array .int)⟩ := by decide +kernel
theorem pd_29 : parseMethodDescriptor "([I[III)Z" = some ⟨[(.array .int), (.array .int), .int, .int], some .boolean⟩ := by decide +kernel
theorem pd_30 : parseMethodDescriptor "([II)I" = some ⟨[(.array .int), .int], some .int⟩ := by decide +kernel
abbrev c1_ := jdk_42_method_3_code
theorem d1_0 : D_ c1_ 0 (.aload_n 0) 1 := by decide +kernel
theorem d1_1 : D_ c1_ 1 (.aload_n 1) 1 := by decide +kernel
theorem d1_2 : D_ c1_ 2 (.iconst 0) 1 := by decide +kernel
theorem d1_3 : D_ c1_ 3 (.aload_n 1) 1 := by decide +kernel
theorem d1_4 : D_ c1_ 4 (.arraylength) 1 := by decide +kernel
theorem d1_5 : D_ c1_ 5 (.aconst_null) 1 := by decide +kernel
theorem d1_6 : D_ c1_ 6 (.invokespecial 27) 3 := by decide +kernel
theorem d1_9 : D_ c1_ 9 (.return_) 1 := by decide +kernel
abbrev c2_ := jdk_42_method_149_code
theorem d2_0 : D_ c2_ 0 (.aload_n 0) 1 := by decide +kernel
theorem d2_1 : D_ c2_ 1 (.invokespecial 1) 3 := by decide +kernel
theorem d2_4 : D_ c2_ 4 (.iload_n 3) 1 := by decide +kernel
theorem d2_5 : D_ c2_ 5 (.ifCond .ne 22) 3 := by decide +kernel
theorem d2_8 : D_ c2_ 8 (.aload_n 0) 1 := by decide +kernel
theorem d2_9 : D_ c2_ 9 (.ldc 7) 2 := by decide +kernel
theorem d2_11 : D_ c2_ 11 (.getfield 9) 3 := by decide +kernel
theorem d2_14 : D_ c2_ 14 (.putfield 9) 3 := by decide +kernel
theorem d2_17 : D_ c2_ 17 (.aload_n 0) 1 := by decide +kernel
theorem d2_18 : D_ c2_ 18 (.ldc 7) 2 := by decide +kernel
theorem d2_20 : D_ c2_ 20 (.getfield 15) 3 := by decide +kernel
theorem d2_23 : D_ c2_ 23 (.putfield 15) 3 := by decide +kernel
theorem d2_26 : D_ c2_ 26 (.return_) 1 := by decide +kernel
theorem d2_27 : D_ c2_ 27 (.getstatic 38) 3 := by decide +kernel
theorem d2_30 : D_ c2_ 30 (.ifCond .eq 28) 3 := by decide +kernel
theorem d2_33 : D_ c2_ 33 (.aload_n 1) 1 := by decide +kernel
theorem d2_34 : D_ c2_ 34 (.iload_n 2) 1 := by decide +kernel
theorem d2_35 : D_ c2_ 35 (.iload_n 3) 1 := by decide +kernel
theorem d2_36 : D_ c2_ 36 (.invokestatic 177) 3 := by decide +kernel
theorem d2_39 : D_ c2_ 39 (.astore 5) 2 := by decide +kernel
theorem d2_41 : D_ c2_ 41 (.aload_n 0) 1 := by decide +kernel
theorem d2_42 : D_ c2_ 42 (.aload 5) 2 := by decide +kernel
theorem d2_44 : D_ c2_ 44 (.iload_n 3) 1 := by decide +kernel
theorem d2_45 : D_ c2_ 45 (.invokestatic 47) 3 := by decide +kernel
theorem d2_48 : D_ c2_ 48 (.putfield 15) 3 := by decide +kernel
theorem d2_51 : D_ c2_ 51 (.aload_n 0) 1 := by decide +kernel
theorem d2_52 : D_ c2_ 52 (.aload 5) 2 := by decide +kernel
theorem d2_54 : D_ c2_ 54 (.putfield 9) 3 := by decide +kernel
theorem d2_57 : D_ c2_ 57 (.return_) 1 := by decide +kernel
abbrev c4_ := prog_14_method_2_code
theorem d4_0 : D_ c4_ 0 (.aload_n 0) 1 := by decide +kernel
theorem d4_1 : D_ c4_ 1 (.ldc 19) 2 := by decide +kernel
theorem d4_3 : D_ c4_ 3 (.invokestatic 21) 3 := by decide +kernel
theorem d4_6 : D_ c4_ 6 (.pop) 1 := by decide +kernel
theorem d4_7 : D_ c4_ 7 (.aload_n 0) 1 := by decide +kernel
theorem d4_8 : D_ c4_ 8 (.invokeinterface 27 1) 5 := by decide +kernel
theorem d4_13 : D_ c4_ 13 (.aload_n 0) 1 := by decide +kernel
theorem d4_14 : D_ c4_ 14 (.dup) 1 := by decide +kernel
theorem d4_15 : D_ c4_ 15 (.invokestatic 33) 3 := by decide +kernel
theorem d4_18 : D_ c4_ 18 (.pop) 1 := by decide +kernel
theorem d4_19 : D_ c4_ 19 (.invokedynamic 36) 5 := by decide +kernel
theorem d4_24 : D_ c4_ 24 (.aload_n 0) 1 := by decide +kernel
theorem d4_25 : D_ c4_ 25 (.invokestatic 40) 3 := by decide +kernel
theorem d4_28 : D_ c4_ 28 (.invokestatic 46) 3 := by decide +kernel
theorem d4_31 : D_ c4_ 31 (.areturn) 1 := by decide +kernel
abbrev c5_ := jdk_31_method_11_code
theorem d5_0 : D_ c5_ 0 (.aload_n 0) 1 := by decide +kernel
theorem d5_1 : D_ c5_ 1 (.ifnonnull 12) 3 := by decide +kernel
theorem d5_13 : D_ c5_ 13 (.aload_n 0) 1 := by decide +kernel
theorem d5_14 : D_ c5_ 14 (.areturn) 1 := by decide +kernel
abbrev c6_ := jdk_42_method_54_code
theorem d6_0 : D_ c6_ 0 (.aload_n 0) 1 := by decide +kernel
theorem d6_1 : D_ c6_ 1 (.getfield 9) 3 := by decide +kernel
theorem d6_4 : D_ c6_ 4 (.arraylength) 1 := by decide +kernel
theorem d6_5 : D_ c6_ 5 (.aload_n 0) 1 := by decide +kernel
theorem d6_6 : D_ c6_ 6 (.invokevirtual 335) 3 := by decide +kernel
theorem d6_9 : D_ c6_ 9 (.ishr) 1 := by decide +kernel
theorem d6_10 : D_ c6_ 10 (.ireturn) 1 := by decide +kernel
abbrev c7_ := jdk_42_method_152_code
theorem d7_0 : D_ c7_ 0 (.getstatic 38) 3 := by decide +kernel
theorem d7_3 : D_ c7_ 3 (.ifCond .eq 10) 3 := by decide +kernel
theorem d7_6 : D_ c7_ 6 (.aload_n 0) 1 := by decide +kernel
theorem d7_7 : D_ c7_ 7 (.getfield 15) 3 := by decide +kernel
theorem d7_10 : D_ c7_ 10 (.goto 4) 3 := by decide +kernel
theorem d7_14 : D_ c7_ 14 (.ireturn) 1 := by decide +kernel
abbrev c8_ := jdk_31_method_10_code
theorem d8_0 : D_ c8_ 0 (.aload_n 0) 1 := by decide +kernel
theorem d8_1 : D_ c8_ 1 (.ifnonnull 11) 3 := by decide +kernel
theorem d8_12 : D_ c8_ 12 (.aload_n 0) 1 := by decide +kernel
theorem d8_13 : D_ c8_ 13 (.areturn) 1 := by decide +kernel
abbrev c9_ := prog_16_method_2_code
theorem d9_0 : D_ c9_ 0 (.aload_n 0) 1 := by decide +kernel
theorem d9_1 : D_ c9_ 1 (.ldc 7) 2 := by decide +kernel
theorem d9_3 : D_ c9_ 3 (.invokestatic 9) 3 := by decide +kernel
theorem d9_6 : D_ c9_ 6 (.pop) 1 := by decide +kernel
theorem d9_7 : D_ c9_ 7 (.aload_n 0) 1 := by decide +kernel
theorem d9_8 : D_ c9_ 8 (.invokeinterface 15 1) 5 := by decide +kernel
theorem d9_13 : D_ c9_ 13 (.aload_n 0) 1 := by decide +kernel
theorem d9_14 : D_ c9_ 14 (.dup) 1 := by decide +kernel
theorem d9_15 : D_ c9_ 15 (.invokestatic 21) 3 := by decide +kernel
theorem d9_18 : D_ c9_ 18 (.pop) 1 := by decide +kernel
theorem d9_19 : D_ c9_ 19 (.invokedynamic 24) 5 := by decide +kernel
theorem d9_24 : D_ c9_ 24 (.invokestatic 28) 3 := by decide +kernel
theorem d9_27 : D_ c9_ 27 (.areturn) 1 := by decide +kernel
abbrev c10_ := prog_16_method_4_code
theorem d10_0 : D_ c10_ 0 (.iload_n 0) 1 := by decide +kernel
theorem d10_1 : D_ c10_ 1 (.newarray .int) 2 := by decide +kernel
theorem d10_3 : D_ c10_ 3 (.astore_n 2) 1 := by decide +kernel
theorem d10_4 : D_ c10_ 4 (.iconst 0) 1 := by decide +kernel
theorem d10_5 : D_ c10_ 5 (.istore_n 3) 1 := by decide +kernel
theorem d10_6 : D_ c10_ 6 (.iconst 1) 1 := by decide +kernel
theorem d10_7 : D_ c10_ 7 (.istore 4) 2 := by decide +kernel
theorem d10_9 : D_ c10_ 9 (.iload 4) 2 := by decide +kernel
theorem d10_11 : D_ c10_ 11 (.iload_n 0) 1 := by decide +kernel
theorem d10_12 : D_ c10_ 12 (.if_icmp .ge 64) 3 := by decide +kernel
theorem d10_15 : D_ c10_ 15 (.aload_n 1) 1 := by decide +kernel
theorem d10_16 : D_ c10_ 16 (.iload 4) 2 := by decide +kernel
theorem d10_18 : D_ c10_ 18 (.invokeinterface 37 2) 5 := by decide +kernel
theorem d10_23 : D_ c10_ 23 (.istore 5) 2 := by decide +kernel
theorem d10_25 : D_ c10_ 25 (.iload_n 3) 1 := by decide +kernel
theorem d10_26 : D_ c10_ 26 (.ifCond .le 24) 3 := by decide +kernel
theorem d10_29 : D_ c10_ 29 (.aload_n 1) 1 := by decide +kernel
theorem d10_30 : D_ c10_ 30 (.iload_n 3) 1 := by decide +kernel
theorem d10_31 : D_ c10_ 31 (.invokeinterface 37 2) 5 := by decide +kernel
theorem d10_36 : D_ c10_ 36 (.iload 5) 2 := by decide +kernel
theorem d10_38 : D_ c10_ 38 (.if_icmp .eq 12) 3 := by decide +kernel
theorem d10_41 : D_ c10_ 41 (.aload_n 2) 1 := by decide +kernel
theorem d10_42 : D_ c10_ 42 (.iload_n 3) 1 := by decide +kernel
theorem d10_43 : D_ c10_ 43 (.iconst 1) 1 := by decide +kernel
theorem d10_44 : D_ c10_ 44 (.isub) 1 := by decide +kernel
theorem d10_45 : D_ c10_ 45 (.iaload) 1 := by decide +kernel
theorem d10_46 : D_ c10_ 46 (.istore_n 3) 1 := by decide +kernel
theorem d10_47 : D_ c10_ 47 (.goto (-22)) 3 := by decide +kernel
theorem d10_50 : D_ c10_ 50 (.aload_n 1) 1 := by decide +kernel
theorem d10_51 : D_ c10_ 51 (.iload_n 3) 1 := by decide +kernel
theorem d10_52 : D_ c10_ 52 (.invokeinterface 37 2) 5 := by decide +kernel
theorem d10_57 : D_ c10_ 57 (.iload 5) 2 := by decide +kernel
theorem d10_59 : D_ c10_ 59 (.if_icmp .ne 6) 3 := by decide +kernel
theorem d10_62 : D_ c10_ 62 (.iinc 3 1) 3 := by decide +kernel
theorem d10_65 : D_ c10_ 65 (.aload_n 2) 1 := by decide +kernel
theorem d10_66 : D_ c10_ 66 (.iload 4) 2 := by decide +kernel
theorem d10_68 : D_ c10_ 68 (.iload_n 3) 1 := by decide +kernel
theorem d10_69 : D_ c10_ 69 (.iastore) 1 := by decide +kernel
theorem d10_70 : D_ c10_ 70 (.iinc 4 1) 3 := by decide +kernel
theorem d10_73 : D_ c10_ 73 (.goto (-64)) 3 := by decide +kernel
theorem d10_76 : D_ c10_ 76 (.aload_n 2) 1 := by decide +kernel
theorem d10_77 : D_ c10_ 77 (.areturn) 1 := by decide +kernel
abbrev c11_ := prog_14_method_4_code
theorem d11_0 : D_ c11_ 0 (.iload_n 0) 1 := by decide +kernel
theorem d11_1 : D_ c11_ 1 (.newarray .int) 2 := by decide +kernel
theorem d11_3 : D_ c11_ 3 (.astore_n 3) 1 := by decide +kernel
theorem d11_4 : D_ c11_ 4 (.iconst 3) 1 := by decide +kernel
theorem d11_5 : D_ c11_ 5 (.iload_n 0) 1 := by decide +kernel
theorem d11_6 : D_ c11_ 6 (.invokestatic 55) 3 := by decide +kernel
theorem d11_9 : D_ c11_ 9 (.newarray .int) 2 := by decide +kernel
theorem d11_11 : D_ c11_ 11 (.astore 4) 2 := by decide +kernel
theorem d11_13 : D_ c11_ 13 (.aload 4) 2 := by decide +kernel
theorem d11_15 : D_ c11_ 15 (.arraylength) 1 := by decide +kernel
theorem d11_16 : D_ c11_ 16 (.newarray .int) 2 := by decide +kernel
theorem d11_18 : D_ c11_ 18 (.astore 5) 2 := by decide +kernel
theorem d11_20 : D_ c11_ 20 (.iconst 0) 1 := by decide +kernel
theorem d11_21 : D_ c11_ 21 (.istore 6) 2 := by decide +kernel
theorem d11_23 : D_ c11_ 23 (.iconst (-1)) 1 := by decide +kernel
theorem d11_24 : D_ c11_ 24 (.istore 7) 2 := by decide +kernel
theorem d11_26 : D_ c11_ 26 (.iconst 0) 1 := by decide +kernel
theorem d11_27 : D_ c11_ 27 (.istore 8) 2 := by decide +kernel
theorem d11_29 : D_ c11_ 29 (.iload 8) 2 := by decide +kernel
theorem d11_31 : D_ c11_ 31 (.iload_n 0) 1 := by decide +kernel
theorem d11_32 : D_ c11_ 32 (.if_icmp .ge 76) 3 := by decide +kernel
theorem d11_35 : D_ c11_ 35 (.aload_n 1) 1 := by decide +kernel
theorem d11_36 : D_ c11_ 36 (.iload 8) 2 := by decide +kernel
theorem d11_38 : D_ c11_ 38 (.invokeinterface 61 2) 5 := by decide +kernel
theorem d11_43 : D_ c11_ 43 (.istore 9) 2 := by decide +kernel
theorem d11_45 : D_ c11_ 45 (.aload_n 3) 1 := by decide +kernel
theorem d11_46 : D_ c11_ 46 (.iload 8) 2 := by decide +kernel
theorem d11_48 : D_ c11_ 48 (.iload 9) 2 := by decide +kernel
theorem d11_50 : D_ c11_ 50 (.iastore) 1 := by decide +kernel
theorem d11_51 : D_ c11_ 51 (.getstatic 66) 3 := by decide +kernel
theorem d11_54 : D_ c11_ 54 (.iload 9) 2 := by decide +kernel
theorem d11_56 : D_ c11_ 56 (.sipush 255) 3 := by decide +kernel
theorem d11_59 : D_ c11_ 59 (.iand) 1 := by decide +kernel
theorem d11_60 : D_ c11_ 60 (.baload) 1 := by decide +kernel
theorem d11_61 : D_ c11_ 61 (.istore 10) 2 := by decide +kernel
theorem d11_63 : D_ c11_ 63 (.iload 10) 2 := by decide +kernel
theorem d11_65 : D_ c11_ 65 (.iload 7) 2 := by decide +kernel
theorem d11_67 : D_ c11_ 67 (.if_icmp .le 35) 3 := by decide +kernel
theorem d11_70 : D_ c11_ 70 (.aload 4) 2 := by decide +kernel
theorem d11_72 : D_ c11_ 72 (.aload 5) 2 := by decide +kernel
theorem d11_74 : D_ c11_ 74 (.iload 6) 2 := by decide +kernel
theorem d11_76 : D_ c11_ 76 (.iload 8) 2 := by decide +kernel
theorem d11_78 : D_ c11_ 78 (.iload 10) 2 := by decide +kernel
theorem d11_80 : D_ c11_ 80 (.invokestatic 70) 3 := by decide +kernel
theorem d11_83 : D_ c11_ 83 (.istore 6) 2 := by decide +kernel
theorem d11_85 : D_ c11_ 85 (.iload 6) 2 := by decide +kernel
theorem d11_87 : D_ c11_ 87 (.aload 4) 2 := by decide +kernel
theorem d11_89 : D_ c11_ 89 (.arraylength) 1 := by decide +kernel
theorem d11_90 : D_ c11_ 90 (.if_icmp .ne 12) 3 := by decide +kernel
theorem d11_93 : D_ c11_ 93 (.aload 5) 2 := by decide +kernel
theorem d11_95 : D_ c11_ 95 (.iload 6) 2 := by decide +kernel
theorem d11_97 : D_ c11_ 97 (.iconst 1) 1 := by decide +kernel
theorem d11_98 : D_ c11_ 98 (.isub) 1 := by decide +kernel
theorem d11_99 : D_ c11_ 99 (.iaload) 1 := by decide +kernel
theorem d11_100 : D_ c11_ 100 (.istore 7) 2 := by decide +kernel
theorem d11_102 : D_ c11_ 102 (.iinc 8 1) 3 := by decide +kernel
theorem d11_105 : D_ c11_ 105 (.goto (-76)) 3 := by decide +kernel
theorem d11_108 : D_ c11_ 108 (.new 8) 3 := by decide +kernel
theorem d11_111 : D_ c11_ 111 (.dup) 1 := by decide +kernel
theorem d11_112 : D_ c11_ 112 (.aload_n 3) 1 := by decide +kernel
theorem d11_113 : D_ c11_ 113 (.aload_n 2) 1 := by decide +kernel
theorem d11_114 : D_ c11_ 114 (.aload 4) 2 := by decide +kernel
theorem d11_116 : D_ c11_ 116 (.invokespecial 74) 3 := by decide +kernel
theorem d11_119 : D_ c11_ 119 (.areturn) 1 := by decide +kernel
abbrev c12_ := jdk_29_method_69_code
theorem d12_0 : D_ c12_ 0 (.iload_n 0) 1 := by decide +kernel
theorem d12_1 : D_ c12_ 1 (.iload_n 1) 1 := by decide +kernel
theorem d12_2 : D_ c12_ 2 (.if_icmp .gt 7) 3 := by decide +kernel
theorem d12_5 : D_ c12_ 5 (.iload_n 0) 1 := by decide +kernel
theorem d12_6 : D_ c12_ 6 (.goto 4) 3 := by decide +kernel
theorem d12_9 : D_ c12_ 9 (.iload_n 1) 1 := by decide +kernel
theorem d12_10 : D_ c12_ 10 (.ireturn) 1 := by decide +kernel
abbrev c13_ := prog_14_method_1_code
theorem d13_0 : D_ c13_ 0 (.aload_n 0) 1 := by decide +kernel
theorem d13_1 : D_ c13_ 1 (.invokespecial 1) 3 := by decide +kernel
theorem d13_4 : D_ c13_ 4 (.aload_n 0) 1 := by decide +kernel
theorem d13_5 : D_ c13_ 5 (.aload_n 1) 1 := by decide +kernel
theorem d13_6 : D_ c13_ 6 (.putfield 7) 3 := by decide +kernel
theorem d13_9 : D_ c13_ 9 (.aload_n 0) 1 := by decide +kernel
theorem d13_10 : D_ c13_ 10 (.aload_n 2) 1 := by decide +kernel
theorem d13_11 : D_ c13_ 11 (.putfield 13) 3 := by decide +kernel
theorem d13_14 : D_ c13_ 14 (.aload_n 0) 1 := by decide +kernel
theorem d13_15 : D_ c13_ 15 (.aload_n 3) 1 := by decide +kernel
theorem d13_16 : D_ c13_ 16 (.putfield 16) 3 := by decide +kernel
theorem d13_19 : D_ c13_ 19 (.return_) 1 := by decide +kernel
abbrev c14_ := prog_14_method_6_code
theorem d14_0 : D_ c14_ 0 (.aload_n 0) 1 := by decide +kernel
theorem d14_1 : D_ c14_ 1 (.getfield 7) 3 := by decide +kernel
theorem d14_4 : D_ c14_ 4 (.arraylength) 1 := by decide +kernel
theorem d14_5 : D_ c14_ 5 (.ireturn) 1 := by decide +kernel
abbrev c15_ := prog_14_method_5_code
theorem d15_0 : D_ c15_ 0 (.aload_n 0) 1 := by decide +kernel
theorem d15_1 : D_ c15_ 1 (.getfield 13) 3 := by decide +kernel
theorem d15_4 : D_ c15_ 4 (.invokevirtual 77) 3 := by decide +kernel
theorem d15_7 : D_ c15_ 7 (.checkcast 78) 3 := by decide +kernel
theorem d15_10 : D_ c15_ 10 (.areturn) 1 := by decide +kernel
abbrev c16_ := method_7_code
theorem d16_0 : D_ c16_ 0 (.iload_n 0) 1 := by decide +kernel
theorem d16_1 : D_ c16_ 1 (.sipush 255) 3 := by decide +kernel
theorem d16_4 : D_ c16_ 4 (.iand) 1 := by decide +kernel
theorem d16_5 : D_ c16_ 5 (.istore_n 1) 1 := by decide +kernel
theorem d16_6 : D_ c16_ 6 (.iload_n 1) 1 := by decide +kernel
theorem d16_7 : D_ c16_ 7 (.bipush 32) 2 := by decide +kernel
theorem d16_9 : D_ c16_ 9 (.if_icmp .ne 5) 3 := by decide +kernel
theorem d16_12 : D_ c16_ 12 (.iconst 0) 1 := by decide +kernel
theorem d16_13 : D_ c16_ 13 (.ireturn) 1 := by decide +kernel
theorem d16_14 : D_ c16_ 14 (.iload_n 1) 1 := by decide +kernel
theorem d16_15 : D_ c16_ 15 (.bipush 101) 2 := by decide +kernel
theorem d16_17 : D_ c16_ 17 (.if_icmp .ne 5) 3 := by decide +kernel
theorem d16_20 : D_ c16_ 20 (.iconst 1) 1 := by decide +kernel
theorem d16_21 : D_ c16_ 21 (.ireturn) 1 := by decide +kernel
theorem d16_22 : D_ c16_ 22 (.iload_n 1) 1 := by decide +kernel
theorem d16_23 : D_ c16_ 23 (.bipush 116) 2 := by decide +kernel
theorem d16_25 : D_ c16_ 25 (.if_icmp .ne 5) 3 := by decide +kernel
theorem d16_28 : D_ c16_ 28 (.iconst 2) 1 := by decide +kernel
theorem d16_29 : D_ c16_ 29 (.ireturn) 1 := by decide +kernel
theorem d16_30 : D_ c16_ 30 (.iload_n 1) 1 := by decide +kernel
theorem d16_31 : D_ c16_ 31 (.bipush 97) 2 := by decide +kernel
theorem d16_33 : D_ c16_ 33 (.if_icmp .ne 5) 3 := by decide +kernel
theorem d16_36 : D_ c16_ 36 (.iconst 3) 1 := by decide +kernel
theorem d16_37 : D_ c16_ 37 (.ireturn) 1 := by decide +kernel
theorem d16_38 : D_ c16_ 38 (.iload_n 1) 1 := by decide +kernel
theorem d16_39 : D_ c16_ 39 (.bipush 111) 2 := by decide +kernel
theorem d16_41 : D_ c16_ 41 (.if_icmp .ne 5) 3 := by decide +kernel
theorem d16_44 : D_ c16_ 44 (.iconst 4) 1 := by decide +kernel
theorem d16_45 : D_ c16_ 45 (.ireturn) 1 := by decide +kernel
theorem d16_46 : D_ c16_ 46 (.iload_n 1) 1 := by decide +kernel
theorem d16_47 : D_ c16_ 47 (.bipush 105) 2 := by decide +kernel
theorem d16_49 : D_ c16_ 49 (.if_icmp .ne 5) 3 := by decide +kernel
theorem d16_52 : D_ c16_ 52 (.iconst 5) 1 := by decide +kernel
theorem d16_53 : D_ c16_ 53 (.ireturn) 1 := by decide +kernel
theorem d16_54 : D_ c16_ 54 (.iload_n 1) 1 := by decide +kernel
theorem d16_55 : D_ c16_ 55 (.bipush 110) 2 := by decide +kernel
theorem d16_57 : D_ c16_ 57 (.if_icmp .ne 6) 3 := by decide +kernel
theorem d16_60 : D_ c16_ 60 (.bipush 6) 2 := by decide +kernel
theorem d16_62 : D_ c16_ 62 (.ireturn) 1 := by decide +kernel
theorem d16_63 : D_ c16_ 63 (.iload_n 1) 1 := by decide +kernel
theorem d16_64 : D_ c16_ 64 (.bipush 115) 2 := by decide +kernel
theorem d16_66 : D_ c16_ 66 (.if_icmp .ne 6) 3 := by decide +kernel
theorem d16_69 : D_ c16_ 69 (.bipush 7) 2 := by decide +kernel
theorem d16_71 : D_ c16_ 71 (.ireturn) 1 := by decide +kernel
theorem d16_72 : D_ c16_ 72 (.iload_n 1) 1 := by decide +kernel
theorem d16_73 : D_ c16_ 73 (.bipush 114) 2 := by decide +kernel
theorem d16_75 : D_ c16_ 75 (.if_icmp .ne 6) 3 := by decide +kernel
theorem d16_78 : D_ c16_ 78 (.bipush 8) 2 := by decide +kernel
theorem d16_80 : D_ c16_ 80 (.ireturn) 1 := by decide +kernel
theorem d16_81 : D_ c16_ 81 (.iload_n 1) 1 := by decide +kernel
theorem d16_82 : D_ c16_ 82 (.bipush 104) 2 := by decide +kernel
theorem d16_84 : D_ c16_ 84 (.if_icmp .ne 6) 3 := by decide +kernel
theorem d16_87 : D_ c16_ 87 (.bipush 9) 2 := by decide +kernel
theorem d16_89 : D_ c16_ 89 (.ireturn) 1 := by decide +kernel
theorem d16_90 : D_ c16_ 90 (.iload_n 1) 1 := by decide +kernel
theorem d16_91 : D_ c16_ 91 (.bipush 108) 2 := by decide +kernel
theorem d16_93 : D_ c16_ 93 (.if_icmp .ne 6) 3 := by decide +kernel
theorem d16_96 : D_ c16_ 96 (.bipush 10) 2 := by decide +kernel
theorem d16_98 : D_ c16_ 98 (.ireturn) 1 := by decide +kernel
theorem d16_99 : D_ c16_ 99 (.iload_n 1) 1 := by decide +kernel
theorem d16_100 : D_ c16_ 100 (.bipush 100) 2 := by decide +kernel
theorem d16_102 : D_ c16_ 102 (.if_icmp .ne 6) 3 := by decide +kernel
theorem d16_105 : D_ c16_ 105 (.bipush 11) 2 := by decide +kernel
theorem d16_107 : D_ c16_ 107 (.ireturn) 1 := by decide +kernel
theorem d16_108 : D_ c16_ 108 (.iload_n 1) 1 := by decide +kernel
theorem d16_109 : D_ c16_ 109 (.bipush 99) 2 := by decide +kernel
theorem d16_111 : D_ c16_ 111 (.if_icmp .ne 6) 3 := by decide +kernel
theorem d16_114 : D_ c16_ 114 (.bipush 12) 2 := by decide +kernel
theorem d16_116 : D_ c16_ 116 (.ireturn) 1 := by decide +kernel
theorem d16_117 : D_ c16_ 117 (.iload_n 1) 1 := by decide +kernel
theorem d16_118 : D_ c16_ 118 (.bipush 117) 2 := by decide +kernel
theorem d16_120 : D_ c16_ 120 (.if_icmp .ne 6) 3 := by decide +kernel
theorem d16_123 : D_ c16_ 123 (.bipush 13) 2 := by decide +kernel
theorem d16_125 : D_ c16_ 125 (.ireturn) 1 := by decide +kernel
theorem d16_126 : D_ c16_ 126 (.iload_n 1) 1 := by decide +kernel
theorem d16_127 : D_ c16_ 127 (.bipush 109) 2 := by decide +kernel
theorem d16_129 : D_ c16_ 129 (.if_icmp .ne 6) 3 := by decide +kernel
theorem d16_132 : D_ c16_ 132 (.bipush 14) 2 := by decide +kernel
theorem d16_134 : D_ c16_ 134 (.ireturn) 1 := by decide +kernel
theorem d16_135 : D_ c16_ 135 (.iload_n 1) 1 := by decide +kernel
theorem d16_136 : D_ c16_ 136 (.bipush 102) 2 := by decide +kernel
theorem d16_138 : D_ c16_ 138 (.if_icmp .ne 6) 3 := by decide +kernel
theorem d16_141 : D_ c16_ 141 (.bipush 15) 2 := by decide +kernel
theorem d16_143 : D_ c16_ 143 (.ireturn) 1 := by decide +kernel
theorem d16_144 : D_ c16_ 144 (.iload_n 1) 1 := by decide +kernel
theorem d16_145 : D_ c16_ 145 (.bipush 112) 2 := by decide +kernel
theorem d16_147 : D_ c16_ 147 (.if_icmp .ne 6) 3 := by decide +kernel
theorem d16_150 : D_ c16_ 150 (.bipush 16) 2 := by decide +kernel
theorem d16_152 : D_ c16_ 152 (.ireturn) 1 := by decide +kernel
theorem d16_153 : D_ c16_ 153 (.iload_n 1) 1 := by decide +kernel
theorem d16_154 : D_ c16_ 154 (.bipush 103) 2 := by decide +kernel
theorem d16_156 : D_ c16_ 156 (.if_icmp .ne 6) 3 := by decide +kernel
theorem d16_159 : D_ c16_ 159 (.bipush 17) 2 := by decide +kernel
theorem d16_161 : D_ c16_ 161 (.ireturn) 1 := by decide +kernel
theorem d16_162 : D_ c16_ 162 (.iload_n 1) 1 := by decide +kernel
theorem d16_163 : D_ c16_ 163 (.bipush 119) 2 := by decide +kernel
theorem d16_165 : D_ c16_ 165 (.if_icmp .ne 6) 3 := by decide +kernel
theorem d16_168 : D_ c16_ 168 (.bipush 18) 2 := by decide +kernel
theorem d16_170 : D_ c16_ 170 (.ireturn) 1 := by decide +kernel
theorem d16_171 : D_ c16_ 171 (.iload_n 1) 1 := by decide +kernel
theorem d16_172 : D_ c16_ 172 (.bipush 121) 2 := by decide +kernel
theorem d16_174 : D_ c16_ 174 (.if_icmp .ne 6) 3 := by decide +kernel
theorem d16_177 : D_ c16_ 177 (.bipush 19) 2 := by decide +kernel
theorem d16_179 : D_ c16_ 179 (.ireturn) 1 := by decide +kernel
theorem d16_180 : D_ c16_ 180 (.iload_n 1) 1 := by decide +kernel
theorem d16_181 : D_ c16_ 181 (.bipush 98) 2 := by decide +kernel
theorem d16_183 : D_ c16_ 183 (.if_icmp .ne 6) 3 := by decide +kernel
theorem d16_186 : D_ c16_ 186 (.bipush 20) 2 := by decide +kernel
theorem d16_188 : D_ c16_ 188 (.ireturn) 1 := by decide +kernel
theorem d16_189 : D_ c16_ 189 (.iload_n 1) 1 := by decide +kernel
theorem d16_190 : D_ c16_ 190 (.bipush 44) 2 := by decide +kernel
theorem d16_192 : D_ c16_ 192 (.if_icmp .ne 6) 3 := by decide +kernel
theorem d16_195 : D_ c16_ 195 (.bipush 21) 2 := by decide +kernel
theorem d16_197 : D_ c16_ 197 (.ireturn) 1 := by decide +kernel
theorem d16_198 : D_ c16_ 198 (.iload_n 1) 1 := by decide +kernel
theorem d16_199 : D_ c16_ 199 (.bipush 46) 2 := by decide +kernel
theorem d16_201 : D_ c16_ 201 (.if_icmp .ne 6) 3 := by decide +kernel
theorem d16_204 : D_ c16_ 204 (.bipush 22) 2 := by decide +kernel
theorem d16_206 : D_ c16_ 206 (.ireturn) 1 := by decide +kernel
theorem d16_207 : D_ c16_ 207 (.iload_n 1) 1 := by decide +kernel
theorem d16_208 : D_ c16_ 208 (.bipush 118) 2 := by decide +kernel
theorem d16_210 : D_ c16_ 210 (.if_icmp .ne 6) 3 := by decide +kernel
theorem d16_213 : D_ c16_ 213 (.bipush 23) 2 := by decide +kernel
theorem d16_215 : D_ c16_ 215 (.ireturn) 1 := by decide +kernel
theorem d16_216 : D_ c16_ 216 (.iload_n 1) 1 := by decide +kernel
theorem d16_217 : D_ c16_ 217 (.bipush 107) 2 := by decide +kernel
theorem d16_219 : D_ c16_ 219 (.if_icmp .ne 6) 3 := by decide +kernel
theorem d16_222 : D_ c16_ 222 (.bipush 24) 2 := by decide +kernel
theorem d16_224 : D_ c16_ 224 (.ireturn) 1 := by decide +kernel
theorem d16_225 : D_ c16_ 225 (.iload_n 1) 1 := by decide +kernel
theorem d16_226 : D_ c16_ 226 (.bipush 13) 2 := by decide +kernel
theorem d16_228 : D_ c16_ 228 (.if_icmp .ne 6) 3 := by decide +kernel
theorem d16_231 : D_ c16_ 231 (.bipush 25) 2 := by decide +kernel
theorem d16_233 : D_ c16_ 233 (.ireturn) 1 := by decide +kernel
theorem d16_234 : D_ c16_ 234 (.iload_n 1) 1 := by decide +kernel
theorem d16_235 : D_ c16_ 235 (.bipush 10) 2 := by decide +kernel
theorem d16_237 : D_ c16_ 237 (.if_icmp .ne 6) 3 := by decide +kernel
theorem d16_240 : D_ c16_ 240 (.bipush 26) 2 := by decide +kernel
theorem d16_242 : D_ c16_ 242 (.ireturn) 1 := by decide +kernel
theorem d16_243 : D_ c16_ 243 (.bipush 27) 2 := by decide +kernel
theorem d16_245 : D_ c16_ 245 (.ireturn) 1 := by decide +kernel
abbrev c17_ := prog_14_method_8_code
theorem d17_0 : D_ c17_ 0 (.aload_n 0) 1 := by decide +kernel
theorem d17_1 : D_ c17_ 1 (.getfield 16) 3 := by decide +kernel
theorem d17_4 : D_ c17_ 4 (.areturn) 1 := by decide +kernel
abbrev c18_ := method_3_code
theorem d18_0 : D_ c18_ 0 (.iload_n 3) 1 := by decide +kernel
theorem d18_1 : D_ c18_ 1 (.iload_n 2) 1 := by decide +kernel
theorem d18_2 : D_ c18_ 2 (.if_icmp .lt 5) 3 := by decide +kernel
theorem d18_5 : D_ c18_ 5 (.iconst 1) 1 := by decide +kernel
theorem d18_6 : D_ c18_ 6 (.ireturn) 1 := by decide +kernel
theorem d18_7 : D_ c18_ 7 (.aload_n 1) 1 := by decide +kernel
theorem d18_8 : D_ c18_ 8 (.iload_n 2) 1 := by decide +kernel
theorem d18_9 : D_ c18_ 9 (.iconst 0) 1 := by decide +kernel
theorem d18_10 : D_ c18_ 10 (.iload_n 3) 1 := by decide +kernel
theorem d18_11 : D_ c18_ 11 (.invokestatic 54) 3 := by decide +kernel
theorem d18_14 : D_ c18_ 14 (.aload_n 1) 1 := by decide +kernel
theorem d18_15 : D_ c18_ 15 (.iload_n 2) 1 := by decide +kernel
theorem d18_16 : D_ c18_ 16 (.iconst 1) 1 := by decide +kernel
theorem d18_17 : D_ c18_ 17 (.iload_n 3) 1 := by decide +kernel
theorem d18_18 : D_ c18_ 18 (.invokestatic 54) 3 := by decide +kernel
theorem d18_21 : D_ c18_ 21 (.iadd) 1 := by decide +kernel
theorem d18_22 : D_ c18_ 22 (.aload_n 1) 1 := by decide +kernel
theorem d18_23 : D_ c18_ 23 (.iload_n 2) 1 := by decide +kernel
theorem d18_24 : D_ c18_ 24 (.iconst 2) 1 := by decide +kernel
theorem d18_25 : D_ c18_ 25 (.iload_n 3) 1 := by decide +kernel
theorem d18_26 : D_ c18_ 26 (.invokestatic 54) 3 := by decide +kernel
theorem d18_29 : D_ c18_ 29 (.iadd) 1 := by decide +kernel
theorem d18_30 : D_ c18_ 30 (.aload_n 1) 1 := by decide +kernel
theorem d18_31 : D_ c18_ 31 (.iload_n 2) 1 := by decide +kernel
theorem d18_32 : D_ c18_ 32 (.iconst 3) 1 := by decide +kernel
theorem d18_33 : D_ c18_ 33 (.iload_n 3) 1 := by decide +kernel
theorem d18_34 : D_ c18_ 34 (.invokestatic 54) 3 := by decide +kernel
theorem d18_37 : D_ c18_ 37 (.iadd) 1 := by decide +kernel
theorem d18_38 : D_ c18_ 38 (.aload_n 1) 1 := by decide +kernel
theorem d18_39 : D_ c18_ 39 (.iload_n 2) 1 := by decide +kernel
theorem d18_40 : D_ c18_ 40 (.iconst 4) 1 := by decide +kernel
theorem d18_41 : D_ c18_ 41 (.iload_n 3) 1 := by decide +kernel
theorem d18_42 : D_ c18_ 42 (.invokestatic 54) 3 := by decide +kernel
theorem d18_45 : D_ c18_ 45 (.iadd) 1 := by decide +kernel
theorem d18_46 : D_ c18_ 46 (.istore 4) 2 := by decide +kernel
theorem d18_48 : D_ c18_ 48 (.iload 4) 2 := by decide +kernel
theorem d18_50 : D_ c18_ 50 (.aload_n 0) 1 := by decide +kernel
theorem d18_51 : D_ c18_ 51 (.arraylength) 1 := by decide +kernel
theorem d18_52 : D_ c18_ 52 (.if_icmp .lt 5) 3 := by decide +kernel
theorem d18_55 : D_ c18_ 55 (.iconst 1) 1 := by decide +kernel
theorem d18_56 : D_ c18_ 56 (.ireturn) 1 := by decide +kernel
theorem d18_57 : D_ c18_ 57 (.aload_n 0) 1 := by decide +kernel
theorem d18_58 : D_ c18_ 58 (.iload 4) 2 := by decide +kernel
theorem d18_60 : D_ c18_ 60 (.iaload) 1 := by decide +kernel
theorem d18_61 : D_ c18_ 61 (.iload_n 3) 1 := by decide +kernel
theorem d18_62 : D_ c18_ 62 (.if_icmp .ne 7) 3 := by decide +kernel
theorem d18_65 : D_ c18_ 65 (.iconst 1) 1 := by decide +kernel
theorem d18_66 : D_ c18_ 66 (.goto 4) 3 := by decide +kernel
theorem d18_70 : D_ c18_ 70 (.ireturn) 1 := by decide +kernel
abbrev c19_ := jdk_52_method_16_code
theorem d19_0 : D_ c19_ 0 (.iload_n 2) 1 := by decide +kernel
theorem d19_1 : D_ c19_ 1 (.newarray .byte) 2 := by decide +kernel
theorem d19_3 : D_ c19_ 3 (.astore_n 3) 1 := by decide +kernel
theorem d19_4 : D_ c19_ 4 (.aload_n 0) 1 := by decide +kernel
theorem d19_5 : D_ c19_ 5 (.iload_n 1) 1 := by decide +kernel
theorem d19_6 : D_ c19_ 6 (.aload_n 3) 1 := by decide +kernel
theorem d19_7 : D_ c19_ 7 (.iconst 0) 1 := by decide +kernel
theorem d19_8 : D_ c19_ 8 (.iload_n 2) 1 := by decide +kernel
theorem d19_9 : D_ c19_ 9 (.invokestatic 115) 3 := by decide +kernel
theorem d19_12 : D_ c19_ 12 (.istore 4) 2 := by decide +kernel
theorem d19_14 : D_ c19_ 14 (.iload 4) 2 := by decide +kernel
theorem d19_16 : D_ c19_ 16 (.iload_n 2) 1 := by decide +kernel
theorem d19_17 : D_ c19_ 17 (.if_icmp .eq 40) 3 := by decide +kernel
theorem d19_20 : D_ c19_ 20 (.aload_n 0) 1 := by decide +kernel
theorem d19_21 : D_ c19_ 21 (.iload_n 1) 1 := by decide +kernel
theorem d19_22 : D_ c19_ 22 (.iload_n 2) 1 := by decide +kernel
theorem d19_23 : D_ c19_ 23 (.invokestatic 119) 3 := by decide +kernel
theorem d19_26 : D_ c19_ 26 (.astore 5) 2 := by decide +kernel
theorem d19_28 : D_ c19_ 28 (.aload 5) 2 := by decide +kernel
theorem d19_30 : D_ c19_ 30 (.iload 4) 2 := by decide +kernel
theorem d19_32 : D_ c19_ 32 (.invokestatic 71) 3 := by decide +kernel
theorem d19_35 : D_ c19_ 35 (.sipush 255) 3 := by decide +kernel
theorem d19_38 : D_ c19_ 38 (.if_icmp .gt 16) 3 := by decide +kernel
theorem d19_54 : D_ c19_ 54 (.aload 5) 2 := by decide +kernel
theorem d19_56 : D_ c19_ 56 (.areturn) 1 := by decide +kernel
theorem d19_57 : D_ c19_ 57 (.aload_n 3) 1 := by decide +kernel
theorem d19_58 : D_ c19_ 58 (.areturn) 1 := by decide +kernel
abbrev c20_ := jdk_52_method_21_code
theorem d20_0 : D_ c20_ 0 (.iconst 0) 1 := by decide +kernel
theorem d20_1 : D_ c20_ 1 (.istore 5) 2 := by decide +kernel
theorem d20_3 : D_ c20_ 3 (.iload 5) 2 := by decide +kernel
theorem d20_5 : D_ c20_ 5 (.iload 4) 2 := by decide +kernel
theorem d20_7 : D_ c20_ 7 (.if_icmp .ge 37) 3 := by decide +kernel
theorem d20_10 : D_ c20_ 10 (.aload_n 0) 1 := by decide +kernel
theorem d20_11 : D_ c20_ 11 (.iload_n 1) 1 := by decide +kernel
theorem d20_12 : D_ c20_ 12 (.caload) 1 := by decide +kernel
theorem d20_13 : D_ c20_ 13 (.istore 6) 2 := by decide +kernel
theorem d20_15 : D_ c20_ 15 (.iload 6) 2 := by decide +kernel
theorem d20_17 : D_ c20_ 17 (.sipush 255) 3 := by decide +kernel
theorem d20_20 : D_ c20_ 20 (.if_icmp .le 6) 3 := by decide +kernel
theorem d20_23 : D_ c20_ 23 (.iload 5) 2 := by decide +kernel
theorem d20_25 : D_ c20_ 25 (.ireturn) 1 := by decide +kernel
theorem d20_26 : D_ c20_ 26 (.aload_n 2) 1 := by decide +kernel
theorem d20_27 : D_ c20_ 27 (.iload_n 3) 1 := by decide +kernel
theorem d20_28 : D_ c20_ 28 (.iload 6) 2 := by decide +kernel
theorem d20_30 : D_ c20_ 30 (.i2b) 1 := by decide +kernel
theorem d20_31 : D_ c20_ 31 (.bastore) 1 := by decide +kernel
theorem d20_32 : D_ c20_ 32 (.iinc 1 1) 3 := by decide +kernel
theorem d20_35 : D_ c20_ 35 (.iinc 3 1) 3 := by decide +kernel
theorem d20_38 : D_ c20_ 38 (.iinc 5 1) 3 := by decide +kernel
theorem d20_41 : D_ c20_ 41 (.goto (-38)) 3 := by decide +kernel
theorem d20_44 : D_ c20_ 44 (.iload 4) 2 := by decide +kernel
theorem d20_46 : D_ c20_ 46 (.ireturn) 1 := by decide +kernel
abbrev c21_ := jdk_52_method_15_code
theorem d21_0 : D_ c21_ 0 (.iload_n 1) 1 := by decide +kernel
theorem d21_1 : D_ c21_ 1 (.aload_n 0) 1 := by decide +kernel
theorem d21_2 : D_ c21_ 2 (.arraylength) 1 := by decide +kernel
theorem d21_3 : D_ c21_ 3 (.isub) 1 := by decide +kernel
theorem d21_4 : D_ c21_ 4 (.bipush 31) 2 := by decide +kernel
theorem d21_6 : D_ c21_ 6 (.iushr) 1 := by decide +kernel
theorem d21_7 : D_ c21_ 7 (.i2b) 1 := by decide +kernel
theorem d21_8 : D_ c21_ 8 (.ireturn) 1 := by decide +kernel
abbrev c22_ := jdk_42_method_56_code
theorem d22_0 : D_ c22_ 0 (.aload_n 0) 1 := by decide +kernel
theorem d22_1 : D_ c22_ 1 (.invokevirtual 492) 3 := by decide +kernel
theorem d22_4 : D_ c22_ 4 (.ifCond .eq 12) 3 := by decide +kernel
theorem d22_7 : D_ c22_ 7 (.aload_n 0) 1 := by decide +kernel
theorem d22_8 : D_ c22_ 8 (.getfield 9) 3 := by decide +kernel
theorem d22_11 : D_ c22_ 11 (.iload_n 1) 1 := by decide +kernel
theorem d22_12 : D_ c22_ 12 (.invokestatic 495) 3 := by decide +kernel
theorem d22_15 : D_ c22_ 15 (.ireturn) 1 := by decide +kernel
theorem d22_16 : D_ c22_ 16 (.aload_n 0) 1 := by decide +kernel
theorem d22_17 : D_ c22_ 17 (.getfield 9) 3 := by decide +kernel
theorem d22_20 : D_ c22_ 20 (.iload_n 1) 1 := by decide +kernel
theorem d22_21 : D_ c22_ 21 (.invokestatic 498) 3 := by decide +kernel
theorem d22_24 : D_ c22_ 24 (.ireturn) 1 := by decide +kernel
abbrev c23_ := jdk_42_method_154_code
theorem d23_0 : D_ c23_ 0 (.getstatic 38) 3 := by decide +kernel
theorem d23_3 : D_ c23_ 3 (.ifCond .eq 14) 3 := by decide +kernel
theorem d23_6 : D_ c23_ 6 (.aload_n 0) 1 := by decide +kernel
theorem d23_7 : D_ c23_ 7 (.getfield 15) 3 := by decide +kernel
theorem d23_10 : D_ c23_ 10 (.ifCond .ne 7) 3 := by decide +kernel
theorem d23_13 : D_ c23_ 13 (.iconst 1) 1 := by decide +kernel
theorem d23_14 : D_ c23_ 14 (.goto 4) 3 := by decide +kernel
theorem d23_17 : D_ c23_ 17 (.iconst 0) 1 := by decide +kernel
theorem d23_18 : D_ c23_ 18 (.ireturn) 1 := by decide +kernel
abbrev c24_ := jdk_43_method_2_code
theorem d24_0 : D_ c24_ 0 (.iload_n 1) 1 := by decide +kernel
theorem d24_1 : D_ c24_ 1 (.aload_n 0) 1 := by decide +kernel
theorem d24_2 : D_ c24_ 2 (.arraylength) 1 := by decide +kernel
theorem d24_3 : D_ c24_ 3 (.invokestatic 9) 3 := by decide +kernel
theorem d24_6 : D_ c24_ 6 (.aload_n 0) 1 := by decide +kernel
theorem d24_7 : D_ c24_ 7 (.iload_n 1) 1 := by decide +kernel
theorem d24_8 : D_ c24_ 8 (.baload) 1 := by decide +kernel
theorem d24_9 : D_ c24_ 9 (.sipush 255) 3 := by decide +kernel
theorem d24_12 : D_ c24_ 12 (.iand) 1 := by decide +kernel
theorem d24_13 : D_ c24_ 13 (.i2c) 1 := by decide +kernel
theorem d24_14 : D_ c24_ 14 (.ireturn) 1 := by decide +kernel
abbrev c25_ := jdk_42_method_155_code
theorem d25_0 : D_ c25_ 0 (.iload_n 0) 1 := by decide +kernel
theorem d25_1 : D_ c25_ 1 (.iload_n 1) 1 := by decide +kernel
theorem d25_2 : D_ c25_ 2 (.getstatic 1053) 3 := by decide +kernel
theorem d25_5 : D_ c25_ 5 (.invokestatic 1059) 3 := by decide +kernel
theorem d25_8 : D_ c25_ 8 (.pop) 1 := by decide +kernel
theorem d25_9 : D_ c25_ 9 (.return_) 1 := by decide +kernel
abbrev c26_ := jdk_41_method_11_code
theorem d26_0 : D_ c26_ 0 (.iload_n 0) 1 := by decide +kernel
theorem d26_1 : D_ c26_ 1 (.ifCond .lt 8) 3 := by decide +kernel
theorem d26_4 : D_ c26_ 4 (.iload_n 0) 1 := by decide +kernel
theorem d26_5 : D_ c26_ 5 (.iload_n 1) 1 := by decide +kernel
theorem d26_6 : D_ c26_ 6 (.if_icmp .lt 10) 3 := by decide +kernel
theorem d26_16 : D_ c26_ 16 (.iload_n 0) 1 := by decide +kernel
theorem d26_17 : D_ c26_ 17 (.ireturn) 1 := by decide +kernel
abbrev c27_ := prog_14_method_10_code
theorem d27_0 : D_ c27_ 0 (.iload_n 2) 1 := by decide +kernel
theorem d27_1 : D_ c27_ 1 (.istore 5) 2 := by decide +kernel
theorem d27_3 : D_ c27_ 3 (.iload 5) 2 := by decide +kernel
theorem d27_5 : D_ c27_ 5 (.ifCond .le 20) 3 := by decide +kernel
theorem d27_8 : D_ c27_ 8 (.iload 4) 2 := by decide +kernel
theorem d27_10 : D_ c27_ 10 (.aload_n 1) 1 := by decide +kernel
theorem d27_11 : D_ c27_ 11 (.iload 5) 2 := by decide +kernel
theorem d27_13 : D_ c27_ 13 (.iconst 1) 1 := by decide +kernel
theorem d27_14 : D_ c27_ 14 (.isub) 1 := by decide +kernel
theorem d27_15 : D_ c27_ 15 (.iaload) 1 := by decide +kernel
theorem d27_16 : D_ c27_ 16 (.if_icmp .le 9) 3 := by decide +kernel
theorem d27_19 : D_ c27_ 19 (.iinc 5 (-1)) 3 := by decide +kernel
theorem d27_22 : D_ c27_ 22 (.goto (-19)) 3 := by decide +kernel
theorem d27_25 : D_ c27_ 25 (.iload_n 2) 1 := by decide +kernel
theorem d27_26 : D_ c27_ 26 (.aload_n 0) 1 := by decide +kernel
theorem d27_27 : D_ c27_ 27 (.arraylength) 1 := by decide +kernel
theorem d27_28 : D_ c27_ 28 (.iconst 1) 1 := by decide +kernel
theorem d27_29 : D_ c27_ 29 (.isub) 1 := by decide +kernel
theorem d27_30 : D_ c27_ 30 (.invokestatic 55) 3 := by decide +kernel
theorem d27_33 : D_ c27_ 33 (.istore 6) 2 := by decide +kernel
theorem d27_35 : D_ c27_ 35 (.aload_n 0) 1 := by decide +kernel
theorem d27_36 : D_ c27_ 36 (.iload 5) 2 := by decide +kernel
theorem d27_38 : D_ c27_ 38 (.aload_n 0) 1 := by decide +kernel
theorem d27_39 : D_ c27_ 39 (.iload 5) 2 := by decide +kernel
theorem d27_41 : D_ c27_ 41 (.iconst 1) 1 := by decide +kernel
theorem d27_42 : D_ c27_ 42 (.iadd) 1 := by decide +kernel
theorem d27_43 : D_ c27_ 43 (.iload 6) 2 := by decide +kernel
theorem d27_45 : D_ c27_ 45 (.iload 5) 2 := by decide +kernel
theorem d27_47 : D_ c27_ 47 (.isub) 1 := by decide +kernel
theorem d27_48 : D_ c27_ 48 (.invokestatic 82) 3 := by decide +kernel
theorem d27_51 : D_ c27_ 51 (.aload_n 1) 1 := by decide +kernel
theorem d27_52 : D_ c27_ 52 (.iload 5) 2 := by decide +kernel
theorem d27_54 : D_ c27_ 54 (.aload_n 1) 1 := by decide +kernel
theorem d27_55 : D_ c27_ 55 (.iload 5) 2 := by decide +kernel
theorem d27_57 : D_ c27_ 57 (.iconst 1) 1 := by decide +kernel
theorem d27_58 : D_ c27_ 58 (.iadd) 1 := by decide +kernel
theorem d27_59 : D_ c27_ 59 (.iload 6) 2 := by decide +kernel
theorem d27_61 : D_ c27_ 61 (.iload 5) 2 := by decide +kernel
theorem d27_63 : D_ c27_ 63 (.isub) 1 := by decide +kernel
theorem d27_64 : D_ c27_ 64 (.invokestatic 82) 3 := by decide +kernel
theorem d27_67 : D_ c27_ 67 (.aload_n 0) 1 := by decide +kernel
theorem d27_68 : D_ c27_ 68 (.iload 5) 2 := by decide +kernel
theorem d27_70 : D_ c27_ 70 (.iload_n 3) 1 := by decide +kernel
theorem d27_71 : D_ c27_ 71 (.iastore) 1 := by decide +kernel
theorem d27_72 : D_ c27_ 72 (.aload_n 1) 1 := by decide +kernel
theorem d27_73 : D_ c27_ 73 (.iload 5) 2 := by decide +kernel
theorem d27_75 : D_ c27_ 75 (.iload 4) 2 := by decide +kernel
theorem d27_77 : D_ c27_ 77 (.iastore) 1 := by decide +kernel
theorem d27_78 : D_ c27_ 78 (.iload 6) 2 := by decide +kernel
theorem d27_80 : D_ c27_ 80 (.iconst 1) 1 := by decide +kernel
theorem d27_81 : D_ c27_ 81 (.iadd) 1 := by decide +kernel
theorem d27_82 : D_ c27_ 82 (.ireturn) 1 := by decide +kernel
abbrev c28_ := prog_14_method_7_code
theorem d28_0 : D_ c28_ 0 (.aload_n 0) 1 := by decide +kernel
theorem d28_1 : D_ c28_ 1 (.getfield 7) 3 := by decide +kernel
theorem d28_4 : D_ c28_ 4 (.iload_n 1) 1 := by decide +kernel
theorem d28_5 : D_ c28_ 5 (.iaload) 1 := by decide +kernel
theorem d28_6 : D_ c28_ 6 (.ireturn) 1 := by decide +kernel
abbrev c29_ := method_6_code
theorem d29_0 : D_ c29_ 0 (.iload_n 1) 1 := by decide +kernel
theorem d29_1 : D_ c29_ 1 (.iconst 4) 1 := by decide +kernel
theorem d29_2 : D_ c29_ 2 (.if_icmp .lt 14) 3 := by decide +kernel
theorem d29_5 : D_ c29_ 5 (.aload_n 0) 1 := by decide +kernel
theorem d29_6 : D_ c29_ 6 (.iconst 4) 1 := by decide +kernel
theorem d29_7 : D_ c29_ 7 (.iload_n 1) 1 := by decide +kernel
theorem d29_8 : D_ c29_ 8 (.invokestatic 58) 3 := by decide +kernel
theorem d29_11 : D_ c29_ 11 (.ifCond .eq 5) 3 := by decide +kernel
theorem d29_14 : D_ c29_ 14 (.iconst 4) 1 := by decide +kernel
theorem d29_15 : D_ c29_ 15 (.ireturn) 1 := by decide +kernel
theorem d29_16 : D_ c29_ 16 (.iload_n 1) 1 := by decide +kernel
theorem d29_17 : D_ c29_ 17 (.iconst 3) 1 := by decide +kernel
theorem d29_18 : D_ c29_ 18 (.if_icmp .lt 14) 3 := by decide +kernel
theorem d29_21 : D_ c29_ 21 (.aload_n 0) 1 := by decide +kernel
theorem d29_22 : D_ c29_ 22 (.iconst 3) 1 := by decide +kernel
theorem d29_23 : D_ c29_ 23 (.iload_n 1) 1 := by decide +kernel
theorem d29_24 : D_ c29_ 24 (.invokestatic 58) 3 := by decide +kernel
theorem d29_27 : D_ c29_ 27 (.ifCond .eq 5) 3 := by decide +kernel
theorem d29_30 : D_ c29_ 30 (.iconst 3) 1 := by decide +kernel
theorem d29_31 : D_ c29_ 31 (.ireturn) 1 := by decide +kernel
theorem d29_32 : D_ c29_ 32 (.iload_n 1) 1 := by decide +kernel
theorem d29_33 : D_ c29_ 33 (.iconst 2) 1 := by decide +kernel
theorem d29_34 : D_ c29_ 34 (.if_icmp .lt 14) 3 := by decide +kernel
theorem d29_37 : D_ c29_ 37 (.aload_n 0) 1 := by decide +kernel
theorem d29_38 : D_ c29_ 38 (.iconst 2) 1 := by decide +kernel
theorem d29_39 : D_ c29_ 39 (.iload_n 1) 1 := by decide +kernel
theorem d29_40 : D_ c29_ 40 (.invokestatic 58) 3 := by decide +kernel
theorem d29_43 : D_ c29_ 43 (.ifCond .eq 5) 3 := by decide +kernel
theorem d29_46 : D_ c29_ 46 (.iconst 2) 1 := by decide +kernel
theorem d29_47 : D_ c29_ 47 (.ireturn) 1 := by decide +kernel
theorem d29_48 : D_ c29_ 48 (.iload_n 1) 1 := by decide +kernel
theorem d29_49 : D_ c29_ 49 (.iconst 1) 1 := by decide +kernel
theorem d29_50 : D_ c29_ 50 (.if_icmp .lt 14) 3 := by decide +kernel
theorem d29_53 : D_ c29_ 53 (.aload_n 0) 1 := by decide +kernel
theorem d29_54 : D_ c29_ 54 (.iconst 1) 1 := by decide +kernel
theorem d29_55 : D_ c29_ 55 (.iload_n 1) 1 := by decide +kernel
theorem d29_56 : D_ c29_ 56 (.invokestatic 58) 3 := by decide +kernel
theorem d29_59 : D_ c29_ 59 (.ifCond .eq 5) 3 := by decide +kernel
theorem d29_62 : D_ c29_ 62 (.iconst 1) 1 := by decide +kernel
theorem d29_63 : D_ c29_ 63 (.ireturn) 1 := by decide +kernel
theorem d29_64 : D_ c29_ 64 (.iconst 0) 1 := by decide +kernel
theorem d29_65 : D_ c29_ 65 (.ireturn) 1 := by decide +kernel
abbrev c30_ := method_5_code
theorem d30_0 : D_ c30_ 0 (.iload_n 2) 1 := by decide +kernel
theorem d30_1 : D_ c30_ 1 (.iload_n 1) 1 := by decide +kernel
theorem d30_2 : D_ c30_ 2 (.isub) 1 := by decide +kernel
theorem d30_3 : D_ c30_ 3 (.iconst 1) 1 := by decide +kernel
theorem d30_4 : D_ c30_ 4 (.iadd) 1 := by decide +kernel
theorem d30_5 : D_ c30_ 5 (.istore_n 3) 1 := by decide +kernel
theorem d30_6 : D_ c30_ 6 (.iload_n 1) 1 := by decide +kernel
theorem d30_7 : D_ c30_ 7 (.ifCond .le 14) 3 := by decide +kernel
theorem d30_10 : D_ c30_ 10 (.aload_n 0) 1 := by decide +kernel
theorem d30_11 : D_ c30_ 11 (.iconst 0) 1 := by decide +kernel
theorem d30_12 : D_ c30_ 12 (.iaload) 1 := by decide +kernel
theorem d30_13 : D_ c30_ 13 (.aload_n 0) 1 := by decide +kernel
theorem d30_14 : D_ c30_ 14 (.iload_n 3) 1 := by decide +kernel
theorem d30_15 : D_ c30_ 15 (.iaload) 1 := by decide +kernel
theorem d30_16 : D_ c30_ 16 (.if_icmp .eq 5) 3 := by decide +kernel
theorem d30_19 : D_ c30_ 19 (.iconst 0) 1 := by decide +kernel
theorem d30_20 : D_ c30_ 20 (.ireturn) 1 := by decide +kernel
theorem d30_21 : D_ c30_ 21 (.iload_n 1) 1 := by decide +kernel
theorem d30_22 : D_ c30_ 22 (.iconst 1) 1 := by decide +kernel
theorem d30_23 : D_ c30_ 23 (.if_icmp .le 16) 3 := by decide +kernel
theorem d30_26 : D_ c30_ 26 (.aload_n 0) 1 := by decide +kernel
theorem d30_27 : D_ c30_ 27 (.iconst 1) 1 := by decide +kernel
theorem d30_28 : D_ c30_ 28 (.iaload) 1 := by decide +kernel
theorem d30_29 : D_ c30_ 29 (.aload_n 0) 1 := by decide +kernel
theorem d30_30 : D_ c30_ 30 (.iload_n 3) 1 := by decide +kernel
theorem d30_31 : D_ c30_ 31 (.iconst 1) 1 := by decide +kernel
theorem d30_32 : D_ c30_ 32 (.iadd) 1 := by decide +kernel
theorem d30_33 : D_ c30_ 33 (.iaload) 1 := by decide +kernel
theorem d30_34 : D_ c30_ 34 (.if_icmp .eq 5) 3 := by decide +kernel
theorem d30_37 : D_ c30_ 37 (.iconst 0) 1 := by decide +kernel
theorem d30_38 : D_ c30_ 38 (.ireturn) 1 := by decide +kernel
theorem d30_39 : D_ c30_ 39 (.iload_n 1) 1 := by decide +kernel
theorem d30_40 : D_ c30_ 40 (.iconst 2) 1 := by decide +kernel
theorem d30_41 : D_ c30_ 41 (.if_icmp .le 16) 3 := by decide +kernel
theorem d30_44 : D_ c30_ 44 (.aload_n 0) 1 := by decide +kernel
theorem d30_45 : D_ c30_ 45 (.iconst 2) 1 := by decide +kernel
theorem d30_46 : D_ c30_ 46 (.iaload) 1 := by decide +kernel
theorem d30_47 : D_ c30_ 47 (.aload_n 0) 1 := by decide +kernel
theorem d30_48 : D_ c30_ 48 (.iload_n 3) 1 := by decide +kernel
theorem d30_49 : D_ c30_ 49 (.iconst 2) 1 := by decide +kernel
theorem d30_50 : D_ c30_ 50 (.iadd) 1 := by decide +kernel
theorem d30_51 : D_ c30_ 51 (.iaload) 1 := by decide +kernel
theorem d30_52 : D_ c30_ 52 (.if_icmp .eq 5) 3 := by decide +kernel
theorem d30_55 : D_ c30_ 55 (.iconst 0) 1 := by decide +kernel
theorem d30_56 : D_ c30_ 56 (.ireturn) 1 := by decide +kernel
theorem d30_57 : D_ c30_ 57 (.iload_n 1) 1 := by decide +kernel
theorem d30_58 : D_ c30_ 58 (.iconst 3) 1 := by decide +kernel
theorem d30_59 : D_ c30_ 59 (.if_icmp .le 16) 3 := by decide +kernel
theorem d30_62 : D_ c30_ 62 (.aload_n 0) 1 := by decide +kernel
theorem d30_63 : D_ c30_ 63 (.iconst 3) 1 := by decide +kernel
theorem d30_64 : D_ c30_ 64 (.iaload) 1 := by decide +kernel
theorem d30_65 : D_ c30_ 65 (.aload_n 0) 1 := by decide +kernel
theorem d30_66 : D_ c30_ 66 (.iload_n 3) 1 := by decide +kernel
theorem d30_67 : D_ c30_ 67 (.iconst 3) 1 := by decide +kernel
theorem d30_68 : D_ c30_ 68 (.iadd) 1 := by decide +kernel
theorem d30_69 : D_ c30_ 69 (.iaload) 1 := by decide +kernel
theorem d30_70 : D_ c30_ 70 (.if_icmp .eq 5) 3 := by decide +kernel
theorem d30_73 : D_ c30_ 73 (.iconst 0) 1 := by decide +kernel
theorem d30_74 : D_ c30_ 74 (.ireturn) 1 := by decide +kernel
theorem d30_75 : D_ c30_ 75 (.iconst 1) 1 := by decide +kernel
theorem d30_76 : D_ c30_ 76 (.ireturn) 1 := by decide +kernel
abbrev c31_ := method_4_code
theorem d31_0 : D_ c31_ 0 (.iload_n 2) 1 := by decide +kernel
theorem d31_1 : D_ c31_ 1 (.iload_n 1) 1 := by decide +kernel
theorem d31_2 : D_ c31_ 2 (.if_icmp .ge 8) 3 := by decide +kernel
theorem d31_5 : D_ c31_ 5 (.iload_n 2) 1 := by decide +kernel
theorem d31_6 : D_ c31_ 6 (.iload_n 3) 1 := by decide +kernel
theorem d31_7 : D_ c31_ 7 (.if_icmp .ne 5) 3 := by decide +kernel
theorem d31_10 : D_ c31_ 10 (.iconst 0) 1 := by decide +kernel
theorem d31_11 : D_ c31_ 11 (.ireturn) 1 := by decide +kernel
theorem d31_12 : D_ c31_ 12 (.aload_n 0) 1 := by decide +kernel
theorem d31_13 : D_ c31_ 13 (.iload_n 2) 1 := by decide +kernel
theorem d31_14 : D_ c31_ 14 (.iaload) 1 := by decide +kernel
theorem d31_15 : D_ c31_ 15 (.aload_n 0) 1 := by decide +kernel
theorem d31_16 : D_ c31_ 16 (.iload_n 3) 1 := by decide +kernel
theorem d31_17 : D_ c31_ 17 (.iaload) 1 := by decide +kernel
theorem d31_18 : D_ c31_ 18 (.if_icmp .le 5) 3 := by decide +kernel
theorem d31_21 : D_ c31_ 21 (.iconst 1) 1 := by decide +kernel
theorem d31_22 : D_ c31_ 22 (.ireturn) 1 := by decide +kernel
theorem d31_23 : D_ c31_ 23 (.aload_n 0) 1 := by decide +kernel
theorem d31_24 : D_ c31_ 24 (.iload_n 2) 1 := by decide +kernel
theorem d31_25 : D_ c31_ 25 (.iaload) 1 := by decide +kernel
theorem d31_26 : D_ c31_ 26 (.aload_n 0) 1 := by decide +kernel
theorem d31_27 : D_ c31_ 27 (.iload_n 3) 1 := by decide +kernel
theorem d31_28 : D_ c31_ 28 (.iaload) 1 := by decide +kernel
theorem d31_29 : D_ c31_ 29 (.if_icmp .ne 10) 3 := by decide +kernel
theorem d31_32 : D_ c31_ 32 (.iload_n 2) 1 := by decide +kernel
theorem d31_33 : D_ c31_ 33 (.iload_n 3) 1 := by decide +kernel
theorem d31_34 : D_ c31_ 34 (.if_icmp .ge 5) 3 := by decide +kernel
theorem d31_37 : D_ c31_ 37 (.iconst 1) 1 := by decide +kernel
theorem d31_38 : D_ c31_ 38 (.ireturn) 1 := by decide +kernel
theorem d31_39 : D_ c31_ 39 (.iconst 0) 1 := by decide +kernel
theorem d31_40 : D_ c31_ 40 (.ireturn) 1 := by decide +kernel
abbrev c32_ := jdk_52_method_14_code
theorem d32_0 : D_ c32_ 0 (.iload_n 2) 1 := by decide +kernel
theorem d32_1 : D_ c32_ 1 (.invokestatic 107) 3 := by decide +kernel
theorem d32_4 : D_ c32_ 4 (.astore_n 3) 1 := by decide +kernel
theorem d32_5 : D_ c32_ 5 (.iconst 0) 1 := by decide +kernel
theorem d32_6 : D_ c32_ 6 (.istore 4) 2 := by decide +kernel
theorem d32_8 : D_ c32_ 8 (.iload 4) 2 := by decide +kernel
theorem d32_10 : D_ c32_ 10 (.iload_n 2) 1 := by decide +kernel
theorem d32_11 : D_ c32_ 11 (.if_icmp .ge 21) 3 := by decide +kernel
theorem d32_14 : D_ c32_ 14 (.aload_n 3) 1 := by decide +kernel
theorem d32_15 : D_ c32_ 15 (.iload 4) 2 := by decide +kernel
theorem d32_17 : D_ c32_ 17 (.aload_n 0) 1 := by decide +kernel
theorem d32_18 : D_ c32_ 18 (.iload_n 1) 1 := by decide +kernel
theorem d32_19 : D_ c32_ 19 (.caload) 1 := by decide +kernel
theorem d32_20 : D_ c32_ 20 (.invokestatic 111) 3 := by decide +kernel
theorem d32_23 : D_ c32_ 23 (.iinc 1 1) 3 := by decide +kernel
theorem d32_26 : D_ c32_ 26 (.iinc 4 1) 3 := by decide +kernel
theorem d32_29 : D_ c32_ 29 (.goto (-21)) 3 := by decide +kernel
theorem d32_32 : D_ c32_ 32 (.aload_n 3) 1 := by decide +kernel
theorem d32_33 : D_ c32_ 33 (.areturn) 1 := by decide +kernel
abbrev c33_ := jdk_52_method_2_code
theorem d33_0 : D_ c33_ 0 (.iload_n 0) 1 := by decide +kernel
theorem d33_1 : D_ c33_ 1 (.invokestatic 11) 3 := by decide +kernel
theorem d33_4 : D_ c33_ 4 (.newarray .byte) 2 := by decide +kernel
theorem d33_6 : D_ c33_ 6 (.areturn) 1 := by decide +kernel
abbrev c34_ := jdk_52_method_3_code
theorem d34_0 : D_ c34_ 0 (.iload_n 0) 1 := by decide +kernel
theorem d34_1 : D_ c34_ 1 (.ifCond .ge 11) 3 := by decide +kernel
theorem d34_12 : D_ c34_ 12 (.iload_n 0) 1 := by decide +kernel
theorem d34_13 : D_ c34_ 13 (.ldc 20) 2 := by decide +kernel
theorem d34_15 : D_ c34_ 15 (.if_icmp .lt 40) 3 := by decide +kernel
theorem d34_55 : D_ c34_ 55 (.iload_n 0) 1 := by decide +kernel
theorem d34_56 : D_ c34_ 56 (.iconst 1) 1 := by decide +kernel
theorem d34_57 : D_ c34_ 57 (.ishl) 1 := by decide +kernel
theorem d34_58 : D_ c34_ 58 (.ireturn) 1 := by decide +kernel
abbrev c35_ := jdk_52_method_4_code
theorem d35_0 : D_ c35_ 0 (.getstatic 44) 3 := by decide +kernel
theorem d35_3 : D_ c35_ 3 (.ifCond .ne 25) 3 := by decide +kernel
theorem d35_28 : D_ c35_ 28 (.iload_n 1) 1 := by decide +kernel
theorem d35_29 : D_ c35_ 29 (.iconst 1) 1 := by decide +kernel
theorem d35_30 : D_ c35_ 30 (.ishl) 1 := by decide +kernel
theorem d35_31 : D_ c35_ 31 (.istore_n 1) 1 := by decide +kernel
theorem d35_32 : D_ c35_ 32 (.aload_n 0) 1 := by decide +kernel
theorem d35_33 : D_ c35_ 33 (.iload_n 1) 1 := by decide +kernel
theorem d35_34 : D_ c35_ 34 (.iinc 1 1) 3 := by decide +kernel
theorem d35_37 : D_ c35_ 37 (.iload_n 2) 1 := by decide +kernel
theorem d35_38 : D_ c35_ 38 (.getstatic 59) 3 := by decide +kernel
theorem d35_41 : D_ c35_ 41 (.ishr) 1 := by decide +kernel
theorem d35_42 : D_ c35_ 42 (.i2b) 1 := by decide +kernel
theorem d35_43 : D_ c35_ 43 (.bastore) 1 := by decide +kernel
theorem d35_44 : D_ c35_ 44 (.aload_n 0) 1 := by decide +kernel
theorem d35_45 : D_ c35_ 45 (.iload_n 1) 1 := by decide +kernel
theorem d35_46 : D_ c35_ 46 (.iload_n 2) 1 := by decide +kernel
theorem d35_47 : D_ c35_ 47 (.getstatic 63) 3 := by decide +kernel
theorem d35_50 : D_ c35_ 50 (.ishr) 1 := by decide +kernel
theorem d35_51 : D_ c35_ 51 (.i2b) 1 := by decide +kernel
theorem d35_52 : D_ c35_ 52 (.bastore) 1 := by decide +kernel
theorem d35_53 : D_ c35_ 53 (.return_) 1 := by decide +kernel
abbrev c36_ := jdk_52_method_5_code
theorem d36_0 : D_ c36_ 0 (.getstatic 44) 3 := by decide +kernel
theorem d36_3 : D_ c36_ 3 (.ifCond .ne 25) 3 := by decide +kernel
theorem d36_28 : D_ c36_ 28 (.iload_n 1) 1 := by decide +kernel
theorem d36_29 : D_ c36_ 29 (.iconst 1) 1 := by decide +kernel
theorem d36_30 : D_ c36_ 30 (.ishl) 1 := by decide +kernel
theorem d36_31 : D_ c36_ 31 (.istore_n 1) 1 := by decide +kernel
theorem d36_32 : D_ c36_ 32 (.aload_n 0) 1 := by decide +kernel
theorem d36_33 : D_ c36_ 33 (.iload_n 1) 1 := by decide +kernel
theorem d36_34 : D_ c36_ 34 (.iinc 1 1) 3 := by decide +kernel
theorem d36_37 : D_ c36_ 37 (.baload) 1 := by decide +kernel
theorem d36_38 : D_ c36_ 38 (.sipush 255) 3 := by decide +kernel
theorem d36_41 : D_ c36_ 41 (.iand) 1 := by decide +kernel
theorem d36_42 : D_ c36_ 42 (.getstatic 59) 3 := by decide +kernel
theorem d36_45 : D_ c36_ 45 (.ishl) 1 := by decide +kernel
theorem d36_46 : D_ c36_ 46 (.aload_n 0) 1 := by decide +kernel
theorem d36_47 : D_ c36_ 47 (.iload_n 1) 1 := by decide +kernel
theorem d36_48 : D_ c36_ 48 (.baload) 1 := by decide +kernel
theorem d36_49 : D_ c36_ 49 (.sipush 255) 3 := by decide +kernel
theorem d36_52 : D_ c36_ 52 (.iand) 1 := by decide +kernel
theorem d36_53 : D_ c36_ 53 (.getstatic 63) 3 := by decide +kernel
theorem d36_56 : D_ c36_ 56 (.ishl) 1 := by decide +kernel
theorem d36_57 : D_ c36_ 57 (.ior) 1 := by decide +kernel
theorem d36_58 : D_ c36_ 58 (.i2c) 1 := by decide +kernel
theorem d36_59 : D_ c36_ 59 (.ireturn) 1 := by decide +kernel
abbrev c37_ := jdk_52_method_83_code
theorem d37_0 : D_ c37_ 0 (.iload_n 1) 1 := by decide +kernel
theorem d37_1 : D_ c37_ 1 (.aload_n 0) 1 := by decide +kernel
theorem d37_2 : D_ c37_ 2 (.invokestatic 67) 3 := by decide +kernel
theorem d37_5 : D_ c37_ 5 (.aload_n 0) 1 := by decide +kernel
theorem d37_6 : D_ c37_ 6 (.iload_n 1) 1 := by decide +kernel
theorem d37_7 : D_ c37_ 7 (.invokestatic 71) 3 := by decide +kernel
theorem d37_10 : D_ c37_ 10 (.ireturn) 1 := by decide +kernel
abbrev c38_ := jdk_52_method_91_code
theorem d38_0 : D_ c38_ 0 (.iload_n 0) 1 := by decide +kernel
theorem d38_1 : D_ c38_ 1 (.aload_n 1) 1 := by decide +kernel
theorem d38_2 : D_ c38_ 2 (.invokestatic 48) 3 := by decide +kernel
theorem d38_5 : D_ c38_ 5 (.invokestatic 414) 3 := by decide +kernel
theorem d38_8 : D_ c38_ 8 (.return_) 1 := by decide +kernel
abbrev c39_ := jdk_52_method_6_code
theorem d39_0 : D_ c39_ 0 (.aload_n 0) 1 := by decide +kernel
theorem d39_1 : D_ c39_ 1 (.arraylength) 1 := by decide +kernel
theorem d39_2 : D_ c39_ 2 (.iconst 1) 1 := by decide +kernel
theorem d39_3 : D_ c39_ 3 (.ishr) 1 := by decide +kernel
theorem d39_4 : D_ c39_ 4 (.ireturn) 1 := by decide +kernel
theorem own_sat {Z : State} {a0 : Array Value} (hw : ∀ d ∈ tables_1, d.before a0 Z = true) : ∀ a ∈ Bundle.stringAtoms, a.before a0 Z = true := by
  intro a ha
  simp only [Bundle.stringAtoms, List.mem_cons, List.not_mem_nil, or_false] at ha
  rcases ha with rfl | rfl | rfl | rfl | rfl | rfl | rfl
  · exact (own_w hw 6 rfl)
  · exact (own_w hw 5 rfl)
  · exact (own_w hw 18 rfl)
  · exact (own_w hw 19 rfl)
  · exact (own_w hw 20 rfl)
  · exact (own_w hw 21 rfl)
  · exact (own_w hw 22 rfl)
def own_EL : List (String × Nat) := [("java/lang/String", 7)]
theorem own_EW {Z : State} {a0 : Array Value} (hw : ∀ d ∈ tables_1, d.before a0 Z = true) : EW Z a0 own_EL := EW.cons (own_w hw 17 rfl) (by decide) EW.nil
theorem efrmCo0 (m : MethodId) (x0 : Addr) : entryFrame m #[(.ref x0)] 1 = mkF m 0 #[.val (.ref x0)] [] := by first | (simp [entryFrame, mkF, argsToLocals, Value.category]; done) | rfl
theorem rmCo0 (l : Launch) (Z : State) (a0 : Array Value) (hw : ∀ d ∈ tables_1, d.before a0 Z = true) (oa : Addr) (h0 : Heap) (Sc : Fld Z h0 oa "java/lang/String" "coder" "B" (.int (0 : Int32))) (cs : Int32) (hcs : ¬ cs = (0 : Int32)) (S0 : Sta Z h0 "java/lang/String" "COMPACT_STRINGS" "Z" (.int cs)) :
    Con l (⟨"java/lang/String", "coder", "()B"⟩ : MethodName) jdk_42_method_152_code 1 (some .byte) [] ({ frames := 0, cells := 0, slots := 0, locals := 0 } : Room) #[(.ref oa)] Z h0 (fun v h L => v = some (.int (0 : Int32)) ∧ h = h0 ∧ L = []) := by
  refine Con.of (plainFor_of_name pn_0) ?_
  intro p e s m below meth c s₁ hx hZ hby hml hown hnm hret hlk X0 e0
  refine Ends.cast (efrmCo0 m oa) ?_
  have O0 := Ok.refl h0 []
  refine Ends.getS X0 hx hZ hown (host := "") (Or.inl (own_w hw 48 rfl)) Via.refl e0 (own_sta_keep S0 O0.1 own_ns0) (hb hby d7_0) ?_
  intro T466 X466 e466
  refine E.ifN (q := 6) X466 hx (hb hby d7_3) (XT.i0_eq_f hcs) ?_
  refine E.aloadN (q := 7) X466 hx (hb hby d7_6) rfl rfl ?_
  refine Ends.getF X466 hx hZ hown (host := "") (Or.inl (own_w hw 24 rfl)) Via.refl e466 Sc (hb hby d7_7) ?_
  intro T467 X467 e467
  refine E.goto (q := 14) X467 hx (hb hby d7_10) ?_
  exact Ends.retS X467 hx hlk hret (by simp) rfl (hb hby d7_14) (by decide) (by decide) ⟨rfl, e467, rfl⟩
theorem efrmIs0 (m : MethodId) (x0 : Addr) : entryFrame m #[(.ref x0)] 1 = mkF m 0 #[.val (.ref x0)] [] := by first | (simp [entryFrame, mkF, argsToLocals, Value.category]; done) | rfl
theorem rmIs0 (l : Launch) (Z : State) (a0 : Array Value) (hw : ∀ d ∈ tables_1, d.before a0 Z = true) (oa : Addr) (h0 : Heap) (Sc : Fld Z h0 oa "java/lang/String" "coder" "B" (.int (0 : Int32))) (cs : Int32) (hcs : ¬ cs = (0 : Int32)) (S0 : Sta Z h0 "java/lang/String" "COMPACT_STRINGS" "Z" (.int cs)) :
    Con l (⟨"java/lang/String", "isLatin1", "()Z"⟩ : MethodName) jdk_42_method_154_code 1 (some .boolean) [] ({ frames := 0, cells := 0, slots := 0, locals := 0 } : Room) #[(.ref oa)] Z h0 (fun v h L => v = some (.int (1 : Int32)) ∧ h = h0 ∧ L = []) := by
  refine Con.of (plainFor_of_name pn_0) ?_
  intro p e s m below meth c s₁ hx hZ hby hml hown hnm hret hlk X0 e0
  refine Ends.cast (efrmIs0 m oa) ?_
  have O0 := Ok.refl h0 []
  refine Ends.getS X0 hx hZ hown (host := "") (Or.inl (own_w hw 48 rfl)) Via.refl e0 (own_sta_keep S0 O0.1 own_ns0) (hb hby d23_0) ?_
  intro T468 X468 e468
  refine E.ifN (q := 6) X468 hx (hb hby d23_3) (XT.i0_eq_f hcs) ?_
  refine E.aloadN (q := 7) X468 hx (hb hby d23_6) rfl rfl ?_
  refine Ends.getF X468 hx hZ hown (host := "") (Or.inl (own_w hw 24 rfl)) Via.refl e468 Sc (hb hby d23_7) ?_
  intro T469 X469 e469
  refine E.ifN (q := 13) X469 hx (hb hby d23_10) (XT.i0_ne_f (by decide)) ?_
  refine E.iconst (q := 14) (v := (1 : Int32)) X469 hx (hb hby d23_13) rfl ?_
  refine E.goto (q := 18) X469 hx (hb hby d23_14) ?_
  exact Ends.retS X469 hx hlk hret (by simp) rfl (hb hby d23_18) (by decide) (by decide) ⟨rfl, e469, rfl⟩
theorem efLn0 (m : MethodId) (x0 : Addr) : entryFrame m #[(.ref x0)] 1 = mkF m 0 #[.val (.ref x0)] [] := by first | (simp [entryFrame, mkF, argsToLocals, Value.category]; done) | rfl
theorem rmLn0 (l : Launch) (Z : State) (a0 : Array Value) (hw : ∀ d ∈ tables_1, d.before a0 Z = true) (oa : Addr) (Va : Addr) (bs : List Int32) (h0 : Heap) (Es : Exa Z h0 oa "java/lang/String") (Svs : Fld Z h0 oa "java/lang/String" "value" "[B" (.ref Va)) (Scs : Fld Z h0 oa "java/lang/String" "coder" "B" (.int (0 : Int32))) (A_x : Ary Z h0 Va .byte (bs.map Value.int)) (cs : Int32) (hcs : ¬ cs = (0 : Int32)) (S0 : Sta Z h0 "java/lang/String" "COMPACT_STRINGS" "Z" (.int cs)) :
    Con l (⟨"java/lang/String", "length", "()I"⟩ : MethodName) jdk_42_method_54_code 1 (some .int) [] ({ frames := 1, cells := 0, slots := 0, locals := 24 } : Room) #[(.ref oa)] Z h0 (fun v h L => v = some (.int ((Int32.ofNat bs.length) >>> ((0 : Int32) &&& 31))) ∧ h = h0 ∧ L = []) := by
  refine Con.of (plainFor_of_name pn_0) ?_
  intro p e s m below meth c s₁ hx hZ hby hml hown hnm hret hlk X0 e0
  refine Ends.cast (efLn0 m oa) ?_
  have O0 := Ok.refl h0 []
  refine E.aloadN (q := 1) X0 hx (hb hby d6_0) rfl rfl ?_
  refine Ends.getF X0 hx hZ hown (host := "") (Or.inl (own_w hw 23 rfl)) Via.refl e0 Svs (hb hby d6_1) ?_
  intro T470 X470 e470
  refine Ends.alen X470 hx hZ e470 A_x (hb hby d6_4) (n := (Int32.ofNat bs.length)) (by rw [List.length_map]) ?_
  refine E.aloadN (q := 6) X470 hx (hb hby d6_5) rfl rfl ?_
  refine Ends.callV X470 hx hZ hown (own_w hw 43 rfl) (own_w hw 44 rfl) (own_w hw 46 rfl) (own_w hw 45 rfl) (own_w hw 6 rfl) (own_w hw 47 rfl) (by decide) (argsL := []) (rest := [(.int (Int32.ofNat bs.length))]) e470 Es (rmCo0 l Z a0 hw oa _ Scs cs hcs S0) (W := 1) (by decide) (by decide) (by rw [hml]; rfl) (lenOf pd_0 rfl) (Nat.le_of_eq rfl) (hb hby d6_6) (by decide) (by decide) rfl ?_
  rintro T471 v471 L471 X471 ⟨rfl, e471, rfl⟩
  rw [List.append_nil] at X471
  refine E.ishr (q := 10) X471 hx (hb hby d6_9) ?_
  exact Ends.retI X471 hx hlk hret (hb hby d6_10) (by decide) (by decide) ⟨rfl, e471, rfl⟩
theorem efrmCo1 (m : MethodId) (x0 : Addr) : entryFrame m #[(.ref x0)] 1 = mkF m 0 #[.val (.ref x0)] [] := by first | (simp [entryFrame, mkF, argsToLocals, Value.category]; done) | rfl
theorem rmCo1 (l : Launch) (Z : State) (a0 : Array Value) (hw : ∀ d ∈ tables_1, d.before a0 Z = true) (oa : Addr) (h0 : Heap) (Sc : Fld Z h0 oa "java/lang/String" "coder" "B" (.int (1 : Int32))) (cs : Int32) (hcs : ¬ cs = (0 : Int32)) (S0 : Sta Z h0 "java/lang/String" "COMPACT_STRINGS" "Z" (.int cs)) :
    Con l (⟨"java/lang/String", "coder", "()B"⟩ : MethodName) jdk_42_method_152_code 1 (some .byte) [] ({ frames := 0, cells := 0, slots := 0, locals := 0 } : Room) #[(.ref oa)] Z h0 (fun v h L => v = some (.int (1 : Int32)) ∧ h = h0 ∧ L = []) := by
  refine Con.of (plainFor_of_name pn_0) ?_
  intro p e s m below meth c s₁ hx hZ hby hml hown hnm hret hlk X0 e0
  refine Ends.cast (efrmCo1 m oa) ?_
  have O0 := Ok.refl h0 []
  refine Ends.getS X0 hx hZ hown (host := "") (Or.inl (own_w hw 48 rfl)) Via.refl e0 (own_sta_keep S0 O0.1 own_ns0) (hb hby d7_0) ?_
  intro T472 X472 e472
  refine E.ifN (q := 6) X472 hx (hb hby d7_3) (XT.i0_eq_f hcs) ?_
  refine E.aloadN (q := 7) X472 hx (hb hby d7_6) rfl rfl ?_
  refine Ends.getF X472 hx hZ hown (host := "") (Or.inl (own_w hw 24 rfl)) Via.refl e472 Sc (hb hby d7_7) ?_
  intro T473 X473 e473
  refine E.goto (q := 14) X473 hx (hb hby d7_10) ?_
  exact Ends.retS X473 hx hlk hret (by simp) rfl (hb hby d7_14) (by decide) (by decide) ⟨rfl, e473, rfl⟩
theorem efrmIs1 (m : MethodId) (x0 : Addr) : entryFrame m #[(.ref x0)] 1 = mkF m 0 #[.val (.ref x0)] [] := by first | (simp [entryFrame, mkF, argsToLocals, Value.category]; done) | rfl
theorem rmIs1 (l : Launch) (Z : State) (a0 : Array Value) (hw : ∀ d ∈ tables_1, d.before a0 Z = true) (oa : Addr) (h0 : Heap) (Sc : Fld Z h0 oa "java/lang/String" "coder" "B" (.int (1 : Int32))) (cs : Int32) (hcs : ¬ cs = (0 : Int32)) (S0 : Sta Z h0 "java/lang/String" "COMPACT_STRINGS" "Z" (.int cs)) :
    Con l (⟨"java/lang/String", "isLatin1", "()Z"⟩ : MethodName) jdk_42_method_154_code 1 (some .boolean) [] ({ frames := 0, cells := 0, slots := 0, locals := 0 } : Room) #[(.ref oa)] Z h0 (fun v h L => v = some (.int (0 : Int32)) ∧ h = h0 ∧ L = []) := by
  refine Con.of (plainFor_of_name pn_0) ?_
  intro p e s m below meth c s₁ hx hZ hby hml hown hnm hret hlk X0 e0
  refine Ends.cast (efrmIs1 m oa) ?_
  have O0 := Ok.refl h0 []
  refine Ends.getS X0 hx hZ hown (host := "") (Or.inl (own_w hw 48 rfl)) Via.refl e0 (own_sta_keep S0 O0.1 own_ns0) (hb hby d23_0) ?_
  intro T474 X474 e474
  refine E.ifN (q := 6) X474 hx (hb hby d23_3) (XT.i0_eq_f hcs) ?_
  refine E.aloadN (q := 7) X474 hx (hb hby d23_6) rfl rfl ?_
  refine Ends.getF X474 hx hZ hown (host := "") (Or.inl (own_w hw 24 rfl)) Via.refl e474 Sc (hb hby d23_7) ?_
  intro T475 X475 e475
  refine E.ifY (q := 17) X475 hx (hb hby d23_10) (XT.i0_ne_t (by decide)) ?_
  refine E.iconst (q := 18) (v := (0 : Int32)) X475 hx (hb hby d23_17) rfl ?_
  exact Ends.retS X475 hx hlk hret (by simp) rfl (hb hby d23_18) (by decide) (by decide) ⟨rfl, e475, rfl⟩
theorem efLn1 (m : MethodId) (x0 : Addr) : entryFrame m #[(.ref x0)] 1 = mkF m 0 #[.val (.ref x0)] [] := by first | (simp [entryFrame, mkF, argsToLocals, Value.category]; done) | rfl
theorem rmLn1 (l : Launch) (Z : State) (a0 : Array Value) (hw : ∀ d ∈ tables_1, d.before a0 Z = true) (oa : Addr) (Va : Addr) (bs : List Int32) (h0 : Heap) (Es : Exa Z h0 oa "java/lang/String") (Svs : Fld Z h0 oa "java/lang/String" "value" "[B" (.ref Va)) (Scs : Fld Z h0 oa "java/lang/String" "coder" "B" (.int (1 : Int32))) (A_x : Ary Z h0 Va .byte (bs.map Value.int)) (cs : Int32) (hcs : ¬ cs = (0 : Int32)) (S0 : Sta Z h0 "java/lang/String" "COMPACT_STRINGS" "Z" (.int cs)) :
    Con l (⟨"java/lang/String", "length", "()I"⟩ : MethodName) jdk_42_method_54_code 1 (some .int) [] ({ frames := 1, cells := 0, slots := 0, locals := 24 } : Room) #[(.ref oa)] Z h0 (fun v h L => v = some (.int ((Int32.ofNat bs.length) >>> ((1 : Int32) &&& 31))) ∧ h = h0 ∧ L = []) := by
  refine Con.of (plainFor_of_name pn_0) ?_
  intro p e s m below meth c s₁ hx hZ hby hml hown hnm hret hlk X0 e0
  refine Ends.cast (efLn1 m oa) ?_
  have O0 := Ok.refl h0 []
  refine E.aloadN (q := 1) X0 hx (hb hby d6_0) rfl rfl ?_
  refine Ends.getF X0 hx hZ hown (host := "") (Or.inl (own_w hw 23 rfl)) Via.refl e0 Svs (hb hby d6_1) ?_
  intro T476 X476 e476
  refine Ends.alen X476 hx hZ e476 A_x (hb hby d6_4) (n := (Int32.ofNat bs.length)) (by rw [List.length_map]) ?_
  refine E.aloadN (q := 6) X476 hx (hb hby d6_5) rfl rfl ?_
  refine Ends.callV X476 hx hZ hown (own_w hw 43 rfl) (own_w hw 44 rfl) (own_w hw 46 rfl) (own_w hw 45 rfl) (own_w hw 6 rfl) (own_w hw 47 rfl) (by decide) (argsL := []) (rest := [(.int (Int32.ofNat bs.length))]) e476 Es (rmCo1 l Z a0 hw oa _ Scs cs hcs S0) (W := 1) (by decide) (by decide) (by rw [hml]; rfl) (lenOf pd_0 rfl) (Nat.le_of_eq rfl) (hb hby d6_6) (by decide) (by decide) rfl ?_
  rintro T477 v477 L477 X477 ⟨rfl, e477, rfl⟩
  rw [List.append_nil] at X477
  refine E.ishr (q := 10) X477 hx (hb hby d6_9) ?_
  exact Ends.retI X477 hx hlk hret (hb hby d6_10) (by decide) (by decide) ⟨rfl, e477, rfl⟩
theorem own_len (l : Launch) (Z : State) (a0 : Array Value) (hw : ∀ d ∈ tables_1, d.before a0 Z = true) (oa Va : Addr) (cd : Int32) (bs xs : List Int32) (hS : own_Str cd bs xs) (h0 : Heap) (Es : Exa Z h0 oa "java/lang/String") (Svs : Fld Z h0 oa "java/lang/String" "value" "[B" (.ref Va)) (Scs : Fld Z h0 oa "java/lang/String" "coder" "B" (.int cd)) (A_x : Ary Z h0 Va .byte (bs.map Value.int)) (cs : Int32) (hcs : ¬ cs = (0 : Int32)) (S0 : Sta Z h0 "java/lang/String" "COMPACT_STRINGS" "Z" (.int cs)) : Con l (⟨"java/lang/String", "length", "()I"⟩ : MethodName) jdk_42_method_54_code 1 (some .int) [] ({ frames := 1, cells := 0, slots := 0, locals := 24 } : Room) #[.ref oa] Z h0 (fun v h L => v = some (.int (Int32.ofNat xs.length)) ∧ h = h0 ∧ L = []) := by
  have lb : bs.length < 2 ^ 31 := by have := A_x.len; rwa [List.length_map] at this
  rcases hS.2 with ⟨rfl, hb', -⟩ | ⟨rfl, hb'⟩
  · have q := rmLn0 l Z a0 hw oa Va bs h0 Es Svs Scs A_x cs hcs S0
    rw [own_shr0', hb', List.length_map] at q
    exact q
  · have q := rmLn1 l Z a0 hw oa Va bs h0 Es Svs Scs A_x cs hcs S0
    rw [hb', own_utf_len] at q lb
    rw [own_shr1' (by omega)] at q
    exact q
theorem efrmPn (m : MethodId) (x0 : Int32) (x1 : Int32) : entryFrame m #[(.int x0), (.int x1), .null] 3 = mkF m 0 #[.val (.int x0), .val (.int x1), .val .null] [] := by first | (simp [entryFrame, mkF, argsToLocals, Value.category]; done) | rfl
theorem rmPn (l : Launch) (Z : State) (a0 : Array Value) (hw : ∀ d ∈ tables_1, d.before a0 Z = true) (k n : Nat) (hk : k < n) (hn : n < 2 ^ 31) (h0 : Heap) :
    Con l (⟨"jdk/internal/util/Preconditions", "checkIndex", "(IILjava/util/function/BiFunction;)I"⟩ : MethodName) jdk_41_method_11_code 3 (some .int) [] ({ frames := 0, cells := 0, slots := 0, locals := 0 } : Room) #[(.int (Int32.ofNat k)), (.int (Int32.ofNat n)), .null] Z h0 (fun v h L => v = some (.int (Int32.ofNat k)) ∧ h = h0 ∧ L = []) := by
  refine Con.of (plainFor_of_name pn_1) ?_
  intro p e s m below meth c s₁ hx hZ hby hml hown hnm hret hlk X0 e0
  refine Ends.cast (efrmPn m (Int32.ofNat k) (Int32.ofNat n)) ?_
  have O0 := Ok.refl h0 []
  refine E.iloadN (q := 1) X0 hx (hb hby d26_0) rfl ?_
  refine E.ifN (q := 4) X0 hx (hb hby d26_1) (XT.i0_lt_f (own_clamp (by omega)).2) ?_
  refine E.iloadN (q := 5) X0 hx (hb hby d26_4) rfl ?_
  refine E.iloadN (q := 6) X0 hx (hb hby d26_5) rfl ?_
  refine E.icmpY (q := 16) X0 hx (hb hby d26_6) (XT.ii_lt_t ((own_ltN (by omega) hn).mpr hk)) ?_
  refine E.iloadN (q := 17) X0 hx (hb hby d26_16) rfl ?_
  exact Ends.retI X0 hx hlk hret (hb hby d26_17) (by decide) (by decide) ⟨rfl, e0, rfl⟩
theorem efrmPr (m : MethodId) (x0 : Int32) (x1 : Int32) (x2 : Addr) : entryFrame m #[(.int x0), (.int x1), (.ref x2)] 3 = mkF m 0 #[.val (.int x0), .val (.int x1), .val (.ref x2)] [] := by first | (simp [entryFrame, mkF, argsToLocals, Value.category]; done) | rfl
theorem rmPr (l : Launch) (Z : State) (a0 : Array Value) (hw : ∀ d ∈ tables_1, d.before a0 Z = true) (k n : Nat) (hk : k < n) (hn : n < 2 ^ 31) (of : Addr) (h0 : Heap) :
    Con l (⟨"jdk/internal/util/Preconditions", "checkIndex", "(IILjava/util/function/BiFunction;)I"⟩ : MethodName) jdk_41_method_11_code 3 (some .int) [] ({ frames := 0, cells := 0, slots := 0, locals := 0 } : Room) #[(.int (Int32.ofNat k)), (.int (Int32.ofNat n)), (.ref of)] Z h0 (fun v h L => v = some (.int (Int32.ofNat k)) ∧ h = h0 ∧ L = []) := by
  refine Con.of (plainFor_of_name pn_1) ?_
  intro p e s m below meth c s₁ hx hZ hby hml hown hnm hret hlk X0 e0
  refine Ends.cast (efrmPr m (Int32.ofNat k) (Int32.ofNat n) of) ?_
  have O0 := Ok.refl h0 []
  refine E.iloadN (q := 1) X0 hx (hb hby d26_0) rfl ?_
  refine E.ifN (q := 4) X0 hx (hb hby d26_1) (XT.i0_lt_f (own_clamp (by omega)).2) ?_
  refine E.iloadN (q := 5) X0 hx (hb hby d26_4) rfl ?_
  refine E.iloadN (q := 6) X0 hx (hb hby d26_5) rfl ?_
  refine E.icmpY (q := 16) X0 hx (hb hby d26_6) (XT.ii_lt_t ((own_ltN (by omega) hn).mpr hk)) ?_
  refine E.iloadN (q := 17) X0 hx (hb hby d26_16) rfl ?_
  exact Ends.retI X0 hx hlk hret (hb hby d26_17) (by decide) (by decide) ⟨rfl, e0, rfl⟩
theorem own_pc (l : Launch) (Z : State) (a0 : Array Value) (hw : ∀ d ∈ tables_1, d.before a0 Z = true) (k n : Nat) (hk : k < n) (hn : n < 2 ^ 31) (h0 : Heap) (fv : Value) (hfv : fv = .null ∨ ∃ a, fv = .ref a) : Con l (⟨"jdk/internal/util/Preconditions", "checkIndex", "(IILjava/util/function/BiFunction;)I"⟩ : MethodName) jdk_41_method_11_code 3 (some .int) [] ({ frames := 0, cells := 0, slots := 0, locals := 0 } : Room) #[.int (Int32.ofNat k), .int (Int32.ofNat n), fv] Z h0 (fun v h L => v = some (.int (Int32.ofNat k)) ∧ h = h0 ∧ L = []) := by
  rcases hfv with rfl | ⟨a, rfl⟩
  · exact rmPn l Z a0 hw k n hk hn h0
  · exact rmPr l Z a0 hw k n hk hn a h0
theorem ef_25 (m : MethodId) (x0 : Int32) (x1 : Int32) : entryFrame m #[(.int x0), (.int x1)] 2 = mkF m 0 #[.val (.int x0), .val (.int x1)] [] := by first | (simp [entryFrame, mkF, argsToLocals, Value.category]; done) | rfl
theorem rm25 (l : Launch) (Z : State) (a0 : Array Value) (hw : ∀ d ∈ tables_1, d.before a0 Z = true) (k n : Nat) (hk : k < n) (hn : n < 2 ^ 31) (h0 : Heap) (cs : Int32) (hcs : ¬ cs = (0 : Int32)) (S0 : Sta Z h0 "java/lang/String" "COMPACT_STRINGS" "Z" (.int cs)) (fv : Value) (hfv : fv = .null ∨ ∃ a, fv = .ref a) (S1 : Sta Z h0 "jdk/internal/util/Preconditions" "SIOOBE_FORMATTER" "Ljava/util/function/BiFunction;" fv) :
    Con l (⟨"java/lang/String", "checkIndex", "(II)V"⟩ : MethodName) jdk_42_method_155_code 2 none [] ({ frames := 1, cells := 0, slots := 0, locals := 24 } : Room) #[(.int (Int32.ofNat k)), (.int (Int32.ofNat n))] Z h0 (fun v h L => v = none ∧ h = h0 ∧ L = []) := by
  refine Con.of (plainFor_of_name pn_0) ?_
  intro p e s m below meth c s₁ hx hZ hby hml hown hnm hret hlk X0 e0
  refine Ends.cast (ef_25 m (Int32.ofNat k) (Int32.ofNat n)) ?_
  have O0 := Ok.refl h0 []
  refine E.iloadN (q := 1) X0 hx (hb hby d25_0) rfl ?_
  refine E.iloadN (q := 2) X0 hx (hb hby d25_1) rfl ?_
  refine Ends.getS X0 hx hZ hown (host := "") (Or.inl (own_w hw 151 rfl)) Via.refl e0 (own_sta_keep S1 O0.1 own_ns0) (hb hby d25_2) ?_
  intro T478 X478 e478
  refine Ends.callS X478 hx hZ hown (own_w hw 153 rfl) (own_w hw 154 rfl) (own_w hw 152 rfl) (own_w hw 155 rfl) (by decide) (argsL := [(.int (Int32.ofNat k)), (.int (Int32.ofNat n)), fv]) (rest := []) e478 (own_pc l Z a0 hw k n hk hn _ fv hfv) (W := 0) (by decide) (by decide) (by rw [hml]; rfl) (lenOf pd_1 rfl) (Nat.le_of_eq rfl) (hb hby d25_5) (by decide) (by decide) rfl ?_
  rintro T479 v479 L479 X479 ⟨rfl, e479, rfl⟩
  rw [List.append_nil] at X479
  refine E.pop (q := 9) X479 hx (hb hby d25_8) rfl ?_
  exact Ends.retV X479 hx hlk hret (hb hby d25_9) (by decide) (by decide) ⟨rfl, e479, rfl⟩
theorem ef_24 (m : MethodId) (x0 : Addr) (x1 : Int32) : entryFrame m #[(.ref x0), (.int x1)] 2 = mkF m 0 #[.val (.ref x0), .val (.int x1)] [] := by first | (simp [entryFrame, mkF, argsToLocals, Value.category]; done) | rfl
theorem rm24 (l : Launch) (Z : State) (a0 : Array Value) (hw : ∀ d ∈ tables_1, d.before a0 Z = true) (oa : Addr) (k : Nat) (bs : List Int32) (y : Int32) (hk : bs[k]? = some y) (h0 : Heap) (A_x : Ary Z h0 oa .byte (bs.map Value.int)) (cs : Int32) (hcs : ¬ cs = (0 : Int32)) (S0 : Sta Z h0 "java/lang/String" "COMPACT_STRINGS" "Z" (.int cs)) (fv : Value) (hfv : fv = .null ∨ ∃ a, fv = .ref a) (S1 : Sta Z h0 "jdk/internal/util/Preconditions" "SIOOBE_FORMATTER" "Ljava/util/function/BiFunction;" fv) :
    Con l (⟨"java/lang/StringLatin1", "charAt", "([BI)C"⟩ : MethodName) jdk_43_method_2_code 2 (some .char) [] ({ frames := 2, cells := 0, slots := 0, locals := 48 } : Room) #[(.ref oa), (.int (Int32.ofNat k))] Z h0 (fun v h L => v = some (.int ((y &&& (255 : Int32)).toUInt32.toUInt16.toUInt32.toInt32)) ∧ h = h0 ∧ L = []) := by
  refine Con.of (plainFor_of_name pn_2) ?_
  intro p e s m below meth c s₁ hx hZ hby hml hown hnm hret hlk X0 e0
  refine Ends.cast (ef_24 m oa (Int32.ofNat k)) ?_
  have O0 := Ok.refl h0 []
  have lx : bs.length < 2 ^ 31 := by have := A_x.len; rwa [List.length_map] at this
  have hkl : k < bs.length := (List.getElem?_eq_some_iff.mp hk).1
  refine E.iloadN (q := 1) X0 hx (hb hby d24_0) rfl ?_
  refine E.aloadN (q := 2) X0 hx (hb hby d24_1) rfl rfl ?_
  refine Ends.alen X0 hx hZ e0 A_x (hb hby d24_2) (n := (Int32.ofNat bs.length)) (by rw [List.length_map]) ?_
  refine Ends.callS X0 hx hZ hown (own_w hw 148 rfl) (own_w hw 149 rfl) (own_w hw 6 rfl) (own_w hw 150 rfl) (by decide) (argsL := [(.int (Int32.ofNat k)), (.int (Int32.ofNat bs.length))]) (rest := []) e0 (rm25 l Z a0 hw k bs.length hkl lx _ cs hcs S0 fv hfv S1) (W := 0) (by decide) (by decide) (by rw [hml]; rfl) (lenOf pd_2 rfl) (Nat.le_of_eq rfl) (hb hby d24_3) (by decide) (by decide) rfl ?_
  rintro T480 v480 L480 X480 ⟨rfl, e480, rfl⟩
  rw [List.append_nil] at X480
  refine E.aloadN (q := 7) X480 hx (hb hby d24_6) rfl rfl ?_
  refine E.iloadN (q := 8) X480 hx (hb hby d24_7) rfl ?_
  refine Ends.bld X480 hx hZ e480 A_x (i := k) (v := .int y) rfl (by rw [List.getElem?_map, hk]; rfl) (hb hby d24_8) ?_
  refine E.sipush (q := 12) (v := (255 : Int32)) X480 hx (hb hby d24_9) rfl ?_
  refine E.iand (q := 13) X480 hx (hb hby d24_12) ?_
  refine E.i2c (q := 14) X480 hx (hb hby d24_13) ?_
  exact Ends.retS X480 hx hlk hret (by simp) (congrArg Value.int (own_ch rfl).2) (hb hby d24_14) (by decide) (by decide) ⟨rfl, e480, rfl⟩
theorem ef_39 (m : MethodId) (x0 : Addr) : entryFrame m #[(.ref x0)] 1 = mkF m 0 #[.val (.ref x0)] [] := by first | (simp [entryFrame, mkF, argsToLocals, Value.category]; done) | rfl
theorem rm39 (l : Launch) (Z : State) (a0 : Array Value) (hw : ∀ d ∈ tables_1, d.before a0 Z = true) (oa : Addr) (xs : List Int32) (h0 : Heap) (A_x : Ary Z h0 oa .byte ((own_utf xs).map Value.int)) :
    Con l (⟨"java/lang/StringUTF16", "length", "([B)I"⟩ : MethodName) jdk_52_method_6_code 1 (some .int) [] ({ frames := 0, cells := 0, slots := 0, locals := 0 } : Room) #[(.ref oa)] Z h0 (fun v h L => v = some (.int (Int32.ofNat xs.length)) ∧ h = h0 ∧ L = []) := by
  refine Con.of (plainFor_of_name pn_3) ?_
  intro p e s m below meth c s₁ hx hZ hby hml hown hnm hret hlk X0 e0
  refine Ends.cast (ef_39 m oa) ?_
  have O0 := Ok.refl h0 []
  have lx : 2 * xs.length < 2 ^ 31 := by have := A_x.len; rwa [List.length_map, own_utf_len] at this
  refine E.aloadN (q := 1) X0 hx (hb hby d39_0) rfl rfl ?_
  refine Ends.alen X0 hx hZ e0 A_x (hb hby d39_1) (n := (Int32.ofNat (2 * xs.length))) (by rw [List.length_map, own_utf_len]) ?_
  refine E.iconst (q := 3) (v := (1 : Int32)) X0 hx (hb hby d39_2) rfl ?_
  refine E.ishr (q := 4) X0 hx (hb hby d39_3) ?_
  exact Ends.retI X0 hx hlk hret (hb hby d39_4) (by decide) (by decide) ⟨by rw [own_shr1' (by omega)], e0, rfl⟩
theorem ef_38 (m : MethodId) (x0 : Int32) (x1 : Addr) : entryFrame m #[(.int x0), (.ref x1)] 2 = mkF m 0 #[.val (.int x0), .val (.ref x1)] [] := by first | (simp [entryFrame, mkF, argsToLocals, Value.category]; done) | rfl
theorem rm38 (l : Launch) (Z : State) (a0 : Array Value) (hw : ∀ d ∈ tables_1, d.before a0 Z = true) (oa : Addr) (k : Nat) (xs : List Int32) (hk : k < xs.length) (h0 : Heap) (A_x : Ary Z h0 oa .byte ((own_utf xs).map Value.int)) (cs : Int32) (hcs : ¬ cs = (0 : Int32)) (S0 : Sta Z h0 "java/lang/String" "COMPACT_STRINGS" "Z" (.int cs)) (fv : Value) (hfv : fv = .null ∨ ∃ a, fv = .ref a) (S1 : Sta Z h0 "jdk/internal/util/Preconditions" "SIOOBE_FORMATTER" "Ljava/util/function/BiFunction;" fv) :
    Con l (⟨"java/lang/StringUTF16", "checkIndex", "(I[B)V"⟩ : MethodName) jdk_52_method_91_code 2 none [] ({ frames := 2, cells := 0, slots := 0, locals := 48 } : Room) #[(.int (Int32.ofNat k)), (.ref oa)] Z h0 (fun v h L => v = none ∧ h = h0 ∧ L = []) := by
  refine Con.of (plainFor_of_name pn_3) ?_
  intro p e s m below meth c s₁ hx hZ hby hml hown hnm hret hlk X0 e0
  refine Ends.cast (ef_38 m (Int32.ofNat k) oa) ?_
  have O0 := Ok.refl h0 []
  have lx : 2 * xs.length < 2 ^ 31 := by have := A_x.len; rwa [List.length_map, own_utf_len] at this
  refine E.iloadN (q := 1) X0 hx (hb hby d38_0) rfl ?_
  refine E.aloadN (q := 2) X0 hx (hb hby d38_1) rfl rfl ?_
  refine Ends.callS X0 hx hZ hown (own_w hw 205 rfl) (own_w hw 206 rfl) (own_w hw 121 rfl) (own_w hw 207 rfl) (by decide) (argsL := [(.ref oa)]) (rest := [(.int (Int32.ofNat k))]) e0 (rm39 l Z a0 hw oa xs _ A_x) (W := 1) (by decide) (by decide) (by rw [hml]; rfl) (lenOf pd_3 rfl) (Nat.le_of_eq rfl) (hb hby d38_2) (by decide) (by decide) rfl ?_
  rintro T481 v481 L481 X481 ⟨rfl, e481, rfl⟩
  rw [List.append_nil] at X481
  refine Ends.callS X481 hx hZ hown (own_w hw 208 rfl) (own_w hw 149 rfl) (own_w hw 6 rfl) (own_w hw 150 rfl) (by decide) (argsL := [(.int (Int32.ofNat k)), (.int (Int32.ofNat xs.length))]) (rest := []) e481 (rm25 l Z a0 hw k xs.length hk (by omega) _ cs hcs S0 fv hfv S1) (W := 0) (by decide) (by decide) (by rw [hml]; rfl) (lenOf pd_2 rfl) (Nat.le_of_eq rfl) (hb hby d38_5) (by decide) (by decide) rfl ?_
  rintro T482 v482 L482 X482 ⟨rfl, e482, rfl⟩
  rw [List.append_nil] at X482
  exact Ends.retV X482 hx hlk hret (hb hby d38_8) (by decide) (by decide) ⟨rfl, e482, rfl⟩
theorem ef_36 (m : MethodId) (x0 : Addr) (x1 : Int32) : entryFrame m #[(.ref x0), (.int x1)] 2 = mkF m 0 #[.val (.ref x0), .val (.int x1)] [] := by first | (simp [entryFrame, mkF, argsToLocals, Value.category]; done) | rfl
theorem rm36 (l : Launch) (Z : State) (a0 : Array Value) (hw : ∀ d ∈ tables_1, d.before a0 Z = true) (oa : Addr) (k : Nat) (xs : List Int32) (x : Int32) (hk : xs[k]? = some x) (hC : own_C x) (h0 : Heap) (A_x : Ary Z h0 oa .byte ((own_utf xs).map Value.int)) (S2 : Sta Z h0 "java/lang/StringUTF16" "$assertionsDisabled" "Z" (.int (1 : Int32))) (S3 : Sta Z h0 "java/lang/StringUTF16" "HI_BYTE_SHIFT" "I" (.int (0 : Int32))) (S4 : Sta Z h0 "java/lang/StringUTF16" "LO_BYTE_SHIFT" "I" (.int (8 : Int32))) :
    Con l (⟨"java/lang/StringUTF16", "getChar", "([BI)C"⟩ : MethodName) jdk_52_method_5_code 2 (some .char) [] ({ frames := 0, cells := 0, slots := 0, locals := 0 } : Room) #[(.ref oa), (.int (Int32.ofNat k))] Z h0 (fun v h L => v = some (.int x) ∧ h = h0 ∧ L = []) := by
  refine Con.of (plainFor_of_name pn_3) ?_
  intro p e s m below meth c s₁ hx hZ hby hml hown hnm hret hlk X0 e0
  refine Ends.cast (ef_36 m oa (Int32.ofNat k)) ?_
  have O0 := Ok.refl h0 []
  have lx : 2 * xs.length < 2 ^ 31 := by have := A_x.len; rwa [List.length_map, own_utf_len] at this
  have hkl : k < xs.length := (List.getElem?_eq_some_iff.mp hk).1
  obtain ⟨u1, u2⟩ := own_utf_at hk
  refine Ends.getS X0 hx hZ hown (host := "") (Or.inl (own_w hw 193 rfl)) Via.refl e0 (own_sta_keep S2 O0.1 own_ns0) (hb hby d36_0) ?_
  intro T483 X483 e483
  refine E.ifY (q := 28) X483 hx (hb hby d36_3) (XT.i0_ne_t (by decide)) ?_
  refine E.iloadN (q := 29) X483 hx (hb hby d36_28) rfl ?_
  refine E.iconst (q := 30) (v := (1 : Int32)) X483 hx (hb hby d36_29) rfl ?_
  refine E.ishl (q := 31) X483 hx (hb hby d36_30) ?_
  rw [own_shl1 (by omega)]
  refine E.istoreN (q := 32) (l' := #[.val (.ref oa), .val (.int (Int32.ofNat (2 * k)))]) X483 hx (hb hby d36_31) rfl ?_
  refine E.aloadN (q := 33) X483 hx (hb hby d36_32) rfl rfl ?_
  refine E.iloadN (q := 34) X483 hx (hb hby d36_33) rfl ?_
  refine E.iinc (q := 37) (v := ((Int32.ofNat (2 * k)) + (1 : Int32))) (l' := #[.val (.ref oa), .val (.int ((Int32.ofNat (2 * k)) + (1 : Int32)))]) X483 hx (hb hby d36_34) rfl rfl rfl ?_
  refine Ends.bld X483 hx hZ e483 A_x (i := (2 * k)) (v := .int ((x >>> ((0 : Int32) &&& 31)).toInt8.toInt32)) rfl (by rw [List.getElem?_map, u1]; rfl) (hb hby d36_37) ?_
  refine E.sipush (q := 41) (v := (255 : Int32)) X483 hx (hb hby d36_38) rfl ?_
  refine E.iand (q := 42) X483 hx (hb hby d36_41) ?_
  refine Ends.getS X483 hx hZ hown (host := "") (Or.inl (own_w hw 194 rfl)) Via.refl e483 (own_sta_keep S3 O0.1 own_ns0) (hb hby d36_42) ?_
  intro T484 X484 e484
  refine E.ishl (q := 46) X484 hx (hb hby d36_45) ?_
  refine E.aloadN (q := 47) X484 hx (hb hby d36_46) rfl rfl ?_
  refine E.iloadN (q := 48) X484 hx (hb hby d36_47) rfl ?_
  rw [own_succ (2 * k)]
  refine Ends.bld X484 hx hZ e484 A_x (i := (2 * k + 1)) (v := .int ((x >>> ((8 : Int32) &&& 31)).toInt8.toInt32)) rfl (by rw [List.getElem?_map, u2]; rfl) (hb hby d36_48) ?_
  refine E.sipush (q := 52) (v := (255 : Int32)) X484 hx (hb hby d36_49) rfl ?_
  refine E.iand (q := 53) X484 hx (hb hby d36_52) ?_
  refine Ends.getS X484 hx hZ hown (host := "") (Or.inl (own_w hw 195 rfl)) Via.refl e484 (own_sta_keep S4 O0.1 own_ns0) (hb hby d36_53) ?_
  intro T485 X485 e485
  refine E.ishl (q := 57) X485 hx (hb hby d36_56) ?_
  refine E.ior (q := 58) X485 hx (hb hby d36_57) ?_
  refine E.i2c (q := 59) X485 hx (hb hby d36_58) ?_
  rw [own_join16 hC, own_nc16 hC]
  exact Ends.retS X485 hx hlk hret (by simp) (congrArg Value.int (own_nc16 hC)) (hb hby d36_59) (by decide) (by decide) ⟨rfl, e485, rfl⟩
theorem ef_37 (m : MethodId) (x0 : Addr) (x1 : Int32) : entryFrame m #[(.ref x0), (.int x1)] 2 = mkF m 0 #[.val (.ref x0), .val (.int x1)] [] := by first | (simp [entryFrame, mkF, argsToLocals, Value.category]; done) | rfl
theorem rm37 (l : Launch) (Z : State) (a0 : Array Value) (hw : ∀ d ∈ tables_1, d.before a0 Z = true) (oa : Addr) (k : Nat) (xs : List Int32) (x : Int32) (hk : xs[k]? = some x) (hC : own_C x) (h0 : Heap) (A_x : Ary Z h0 oa .byte ((own_utf xs).map Value.int)) (cs : Int32) (hcs : ¬ cs = (0 : Int32)) (S0 : Sta Z h0 "java/lang/String" "COMPACT_STRINGS" "Z" (.int cs)) (fv : Value) (hfv : fv = .null ∨ ∃ a, fv = .ref a) (S1 : Sta Z h0 "jdk/internal/util/Preconditions" "SIOOBE_FORMATTER" "Ljava/util/function/BiFunction;" fv) (S2 : Sta Z h0 "java/lang/StringUTF16" "$assertionsDisabled" "Z" (.int (1 : Int32))) (S3 : Sta Z h0 "java/lang/StringUTF16" "HI_BYTE_SHIFT" "I" (.int (0 : Int32))) (S4 : Sta Z h0 "java/lang/StringUTF16" "LO_BYTE_SHIFT" "I" (.int (8 : Int32))) :
    Con l (⟨"java/lang/StringUTF16", "charAt", "([BI)C"⟩ : MethodName) jdk_52_method_83_code 2 (some .char) [] ({ frames := 3, cells := 0, slots := 0, locals := 72 } : Room) #[(.ref oa), (.int (Int32.ofNat k))] Z h0 (fun v h L => v = some (.int x) ∧ h = h0 ∧ L = []) := by
  refine Con.of (plainFor_of_name pn_3) ?_
  intro p e s m below meth c s₁ hx hZ hby hml hown hnm hret hlk X0 e0
  refine Ends.cast (ef_37 m oa (Int32.ofNat k)) ?_
  have O0 := Ok.refl h0 []
  have hkl : k < xs.length := (List.getElem?_eq_some_iff.mp hk).1
  refine E.iloadN (q := 1) X0 hx (hb hby d37_0) rfl ?_
  refine E.aloadN (q := 2) X0 hx (hb hby d37_1) rfl rfl ?_
  refine Ends.callS X0 hx hZ hown (own_w hw 202 rfl) (own_w hw 203 rfl) (own_w hw 121 rfl) (own_w hw 204 rfl) (by decide) (argsL := [(.int (Int32.ofNat k)), (.ref oa)]) (rest := []) e0 (rm38 l Z a0 hw oa k xs hkl _ A_x cs hcs S0 fv hfv S1) (W := 0) (by decide) (by decide) (by rw [hml]; rfl) (lenOf pd_4 rfl) (Nat.le_of_eq rfl) (hb hby d37_2) (by decide) (by decide) rfl ?_
  rintro T486 v486 L486 X486 ⟨rfl, e486, rfl⟩
  rw [List.append_nil] at X486
  refine E.aloadN (q := 6) X486 hx (hb hby d37_5) rfl rfl ?_
  refine E.iloadN (q := 7) X486 hx (hb hby d37_6) rfl ?_
  refine Ends.callS X486 hx hZ hown (own_w hw 196 rfl) (own_w hw 197 rfl) (own_w hw 121 rfl) (own_w hw 198 rfl) (by decide) (argsL := [(.ref oa), (.int (Int32.ofNat k))]) (rest := []) e486 (rm36 l Z a0 hw oa k xs x hk hC _ A_x S2 S3 S4) (W := 0) (by decide) (by decide) (by rw [hml]; rfl) (lenOf pd_5 rfl) (Nat.le_of_eq rfl) (hb hby d37_7) (by decide) (by decide) rfl ?_
  rintro T487 v487 L487 X487 ⟨rfl, e487, rfl⟩
  rw [List.append_nil] at X487
  exact Ends.retS X487 hx hlk hret (by simp) (congrArg Value.int (own_nc16 hC)) (hb hby d37_10) (by decide) (by decide) ⟨rfl, e487, rfl⟩
theorem efCa0 (m : MethodId) (x0 : Addr) (x1 : Int32) : entryFrame m #[(.ref x0), (.int x1)] 2 = mkF m 0 #[.val (.ref x0), .val (.int x1)] [] := by first | (simp [entryFrame, mkF, argsToLocals, Value.category]; done) | rfl
theorem rmCa0 (l : Launch) (Z : State) (a0 : Array Value) (hw : ∀ d ∈ tables_1, d.before a0 Z = true) (oa : Addr) (Va : Addr) (k : Nat) (xs : List Int32) (x : Int32) (hk : xs[k]? = some x) (hB : own_B x) (h0 : Heap) (Es : Exa Z h0 oa "java/lang/String") (Svs : Fld Z h0 oa "java/lang/String" "value" "[B" (.ref Va)) (Scs : Fld Z h0 oa "java/lang/String" "coder" "B" (.int (0 : Int32))) (A_x : Ary Z h0 Va .byte ((xs.map fun x => x.toInt8.toInt32).map Value.int)) (cs : Int32) (hcs : ¬ cs = (0 : Int32)) (S0 : Sta Z h0 "java/lang/String" "COMPACT_STRINGS" "Z" (.int cs)) (fv : Value) (hfv : fv = .null ∨ ∃ a, fv = .ref a) (S1 : Sta Z h0 "jdk/internal/util/Preconditions" "SIOOBE_FORMATTER" "Ljava/util/function/BiFunction;" fv) (S2 : Sta Z h0 "java/lang/StringUTF16" "$assertionsDisabled" "Z" (.int (1 : Int32))) (S3 : Sta Z h0 "java/lang/StringUTF16" "HI_BYTE_SHIFT" "I" (.int (0 : Int32))) (S4 : Sta Z h0 "java/lang/StringUTF16" "LO_BYTE_SHIFT" "I" (.int (8 : Int32))) :
    Con l (⟨"java/lang/String", "charAt", "(I)C"⟩ : MethodName) jdk_42_method_56_code 2 (some .char) [] ({ frames := 4, cells := 0, slots := 0, locals := 96 } : Room) #[(.ref oa), (.int (Int32.ofNat k))] Z h0 (fun v h L => v = some (.int x) ∧ h = h0 ∧ L = []) := by
  refine Con.of (plainFor_of_name pn_0) ?_
  intro p e s m below meth c s₁ hx hZ hby hml hown hnm hret hlk X0 e0
  refine Ends.cast (efCa0 m oa (Int32.ofNat k)) ?_
  have O0 := Ok.refl h0 []
  refine E.aloadN (q := 1) X0 hx (hb hby d22_0) rfl rfl ?_
  refine Ends.callV X0 hx hZ hown (own_w hw 139 rfl) (own_w hw 140 rfl) (own_w hw 142 rfl) (own_w hw 141 rfl) (own_w hw 6 rfl) (own_w hw 143 rfl) (by decide) (argsL := []) (rest := []) e0 Es (rmIs0 l Z a0 hw oa _ Scs cs hcs S0) (W := 0) (by decide) (by decide) (by rw [hml]; rfl) (lenOf pd_6 rfl) (Nat.le_of_eq rfl) (hb hby d22_1) (by decide) (by decide) rfl ?_
  rintro T488 v488 L488 X488 ⟨rfl, e488, rfl⟩
  rw [List.append_nil] at X488
  refine E.ifN (q := 7) X488 hx (hb hby d22_4) (XT.i0_eq_f (by decide)) ?_
  refine E.aloadN (q := 8) X488 hx (hb hby d22_7) rfl rfl ?_
  refine Ends.getF X488 hx hZ hown (host := "") (Or.inl (own_w hw 23 rfl)) Via.refl e488 Svs (hb hby d22_8) ?_
  intro T489 X489 e489
  refine E.iloadN (q := 12) X489 hx (hb hby d22_11) rfl ?_
  refine Ends.callS X489 hx hZ hown (own_w hw 144 rfl) (own_w hw 145 rfl) (own_w hw 146 rfl) (own_w hw 147 rfl) (by decide) (argsL := [(.ref Va), (.int (Int32.ofNat k))]) (rest := []) e489 (rm24 l Z a0 hw Va k (xs.map fun x => x.toInt8.toInt32) (x.toInt8.toInt32) (by rw [List.getElem?_map, hk]; rfl) _ A_x cs hcs S0 fv hfv S1) (W := 0) (by decide) (by decide) (by rw [hml]; rfl) (lenOf pd_5 rfl) (Nat.le_of_eq rfl) (hb hby d22_12) (by decide) (by decide) rfl ?_
  rintro T490 v490 L490 X490 ⟨rfl, e490, rfl⟩
  rw [List.append_nil] at X490
  rw [own_latc hB, own_nc hB]
  exact Ends.retS X490 hx hlk hret (by simp) (congrArg Value.int (own_nc hB)) (hb hby d22_15) (by decide) (by decide) ⟨rfl, e490, rfl⟩
theorem efCa1 (m : MethodId) (x0 : Addr) (x1 : Int32) : entryFrame m #[(.ref x0), (.int x1)] 2 = mkF m 0 #[.val (.ref x0), .val (.int x1)] [] := by first | (simp [entryFrame, mkF, argsToLocals, Value.category]; done) | rfl
theorem rmCa1 (l : Launch) (Z : State) (a0 : Array Value) (hw : ∀ d ∈ tables_1, d.before a0 Z = true) (oa : Addr) (Va : Addr) (k : Nat) (xs : List Int32) (x : Int32) (hk : xs[k]? = some x) (hC : own_C x) (h0 : Heap) (Es : Exa Z h0 oa "java/lang/String") (Svs : Fld Z h0 oa "java/lang/String" "value" "[B" (.ref Va)) (Scs : Fld Z h0 oa "java/lang/String" "coder" "B" (.int (1 : Int32))) (A_x : Ary Z h0 Va .byte ((own_utf xs).map Value.int)) (cs : Int32) (hcs : ¬ cs = (0 : Int32)) (S0 : Sta Z h0 "java/lang/String" "COMPACT_STRINGS" "Z" (.int cs)) (fv : Value) (hfv : fv = .null ∨ ∃ a, fv = .ref a) (S1 : Sta Z h0 "jdk/internal/util/Preconditions" "SIOOBE_FORMATTER" "Ljava/util/function/BiFunction;" fv) (S2 : Sta Z h0 "java/lang/StringUTF16" "$assertionsDisabled" "Z" (.int (1 : Int32))) (S3 : Sta Z h0 "java/lang/StringUTF16" "HI_BYTE_SHIFT" "I" (.int (0 : Int32))) (S4 : Sta Z h0 "java/lang/StringUTF16" "LO_BYTE_SHIFT" "I" (.int (8 : Int32))) :
    Con l (⟨"java/lang/String", "charAt", "(I)C"⟩ : MethodName) jdk_42_method_56_code 2 (some .char) [] ({ frames := 4, cells := 0, slots := 0, locals := 96 } : Room) #[(.ref oa), (.int (Int32.ofNat k))] Z h0 (fun v h L => v = some (.int x) ∧ h = h0 ∧ L = []) := by
  refine Con.of (plainFor_of_name pn_0) ?_
  intro p e s m below meth c s₁ hx hZ hby hml hown hnm hret hlk X0 e0
  refine Ends.cast (efCa1 m oa (Int32.ofNat k)) ?_
  have O0 := Ok.refl h0 []
  refine E.aloadN (q := 1) X0 hx (hb hby d22_0) rfl rfl ?_
  refine Ends.callV X0 hx hZ hown (own_w hw 139 rfl) (own_w hw 140 rfl) (own_w hw 142 rfl) (own_w hw 141 rfl) (own_w hw 6 rfl) (own_w hw 143 rfl) (by decide) (argsL := []) (rest := []) e0 Es (rmIs1 l Z a0 hw oa _ Scs cs hcs S0) (W := 0) (by decide) (by decide) (by rw [hml]; rfl) (lenOf pd_6 rfl) (Nat.le_of_eq rfl) (hb hby d22_1) (by decide) (by decide) rfl ?_
  rintro T491 v491 L491 X491 ⟨rfl, e491, rfl⟩
  rw [List.append_nil] at X491
  refine E.ifY (q := 16) X491 hx (hb hby d22_4) (XT.i0_eq_t (by decide)) ?_
  refine E.aloadN (q := 17) X491 hx (hb hby d22_16) rfl rfl ?_
  refine Ends.getF X491 hx hZ hown (host := "") (Or.inl (own_w hw 23 rfl)) Via.refl e491 Svs (hb hby d22_17) ?_
  intro T492 X492 e492
  refine E.iloadN (q := 21) X492 hx (hb hby d22_20) rfl ?_
  refine Ends.callS X492 hx hZ hown (own_w hw 199 rfl) (own_w hw 200 rfl) (own_w hw 121 rfl) (own_w hw 201 rfl) (by decide) (argsL := [(.ref Va), (.int (Int32.ofNat k))]) (rest := []) e492 (rm37 l Z a0 hw Va k xs x hk hC _ A_x cs hcs S0 fv hfv S1 S2 S3 S4) (W := 0) (by decide) (by decide) (by rw [hml]; rfl) (lenOf pd_5 rfl) (Nat.le_of_eq rfl) (hb hby d22_21) (by decide) (by decide) rfl ?_
  rintro T493 v493 L493 X493 ⟨rfl, e493, rfl⟩
  rw [List.append_nil] at X493
  exact Ends.retS X493 hx hlk hret (by simp) (congrArg Value.int (own_nc16 hC)) (hb hby d22_24) (by decide) (by decide) ⟨rfl, e493, rfl⟩
theorem own_ca (l : Launch) (Z : State) (a0 : Array Value) (hw : ∀ d ∈ tables_1, d.before a0 Z = true) (oa Va : Addr) (cd : Int32) (bs xs : List Int32) (hS : own_Str cd bs xs) (k : Nat) (x : Int32) (hk : xs[k]? = some x) (h0 : Heap) (Es : Exa Z h0 oa "java/lang/String") (Svs : Fld Z h0 oa "java/lang/String" "value" "[B" (.ref Va)) (Scs : Fld Z h0 oa "java/lang/String" "coder" "B" (.int cd)) (A_x : Ary Z h0 Va .byte (bs.map Value.int)) (cs : Int32) (hcs : ¬ cs = (0 : Int32)) (S0 : Sta Z h0 "java/lang/String" "COMPACT_STRINGS" "Z" (.int cs)) (fv : Value) (hfv : fv = .null ∨ ∃ a, fv = .ref a) (S1 : Sta Z h0 "jdk/internal/util/Preconditions" "SIOOBE_FORMATTER" "Ljava/util/function/BiFunction;" fv) (S2 : Sta Z h0 "java/lang/StringUTF16" "$assertionsDisabled" "Z" (.int (1 : Int32))) (S3 : Sta Z h0 "java/lang/StringUTF16" "HI_BYTE_SHIFT" "I" (.int (0 : Int32))) (S4 : Sta Z h0 "java/lang/StringUTF16" "LO_BYTE_SHIFT" "I" (.int (8 : Int32))) : Con l (⟨"java/lang/String", "charAt", "(I)C"⟩ : MethodName) jdk_42_method_56_code 2 (some .char) [] ({ frames := 4, cells := 0, slots := 0, locals := 96 } : Room) #[.ref oa, .int (Int32.ofNat k)] Z h0 (fun v h L => v = some (.int x) ∧ h = h0 ∧ L = []) := by
  obtain ⟨hC, ⟨rfl, rfl, hB⟩ | ⟨rfl, rfl⟩⟩ := hS
  · exact rmCa0 l Z a0 hw oa Va k xs x hk (hB x (List.mem_of_getElem? hk)) h0 Es Svs Scs A_x cs hcs S0 fv hfv S1 S2 S3 S4
  · exact rmCa1 l Z a0 hw oa Va k xs x hk (hC x (List.mem_of_getElem? hk)) h0 Es Svs Scs A_x cs hcs S0 fv hfv S1 S2 S3 S4
theorem ef_20 (m : MethodId) (x0 : Addr) (x1 : Int32) (x2 : Addr) (x3 : Int32) (x4 : Int32) : entryFrame m #[(.ref x0), (.int x1), (.ref x2), (.int x3), (.int x4)] 7 = mkF m 0 #[.val (.ref x0), .val (.int x1), .val (.ref x2), .val (.int x3), .val (.int x4), .unset, .unset] [] := by first | (simp [entryFrame, mkF, argsToLocals, Value.category]; done) | rfl
theorem rm20 (l : Launch) (Z : State) (a0 : Array Value) (hw : ∀ d ∈ tables_1, d.before a0 Z = true) (oc : Addr) (od : Addr) (xs : List Int32) (hxs : ∀ x ∈ xs, own_C x) (h6 : xs.length ≤ 6) (h0 : Heap) (A_c : Ary Z h0 oc .char (xs.map Value.int)) (A_d : Ary Z h0 od .byte ((List.replicate xs.length (0 : Int32)).map Value.int)) (hne : oc ≠ od) :
    Con l (⟨"java/lang/StringUTF16", "compress", "([CI[BII)I"⟩ : MethodName) jdk_52_method_21_code 7 (some .int) [] ({ frames := 0, cells := 0, slots := 0, locals := 0 } : Room) #[(.ref oc), (.int (0 : Int32)), (.ref od), (.int (0 : Int32)), (.int (Int32.ofNat xs.length))] Z h0 (fun v h L => ∃ r : Nat, v = some (.int (Int32.ofNat r)) ∧ Ok h0 h [od] L ∧ ((r = xs.length ∧ (∀ x ∈ xs, own_B x) ∧ Ary Z h od .byte ((xs.map fun x => x.toInt8.toInt32).map Value.int)) ∨ (r < xs.length ∧ ∃ x, xs[r]? = some x ∧ (255 : Int32) < x))) := by
  refine Con.of (plainFor_of_name pn_3) ?_
  intro p e s m below meth c s₁ hx hZ hby hml hown hnm hret hlk X0 e0
  refine Ends.cast (ef_20 m oc (0 : Int32) od (0 : Int32) (Int32.ofNat xs.length)) ?_
  have O0 := Ok.refl h0 [od]
  refine E.iconst (q := 1) (v := (0 : Int32)) X0 hx (hb hby d20_0) rfl ?_
  refine E.istore (q := 3) (l' := #[.val (.ref oc), .val (.int (0 : Int32)), .val (.ref od), .val (.int (0 : Int32)), .val (.int (Int32.ofNat xs.length)), .val (.int (0 : Int32)), .unset]) X0 hx (hb hby d20_1) rfl ?_
  have J : ∀ mm i, i + mm = xs.length → (∀ k x, k < i → xs[k]? = some x → own_B x) → ∀ l6 : Slot, (l6 = .unset ∨ ∃ q, l6 = .val (.int q)) → ∀ (Tj : State) (hj : Heap) (lj : List Loc), Stand p l e ({ frames := 0, cells := 0, slots := 0, locals := 0 } : Room) s m #[(.ref oc), (.int (0 : Int32)), (.ref od), (.int (0 : Int32)), (.int (Int32.ofNat xs.length))] below meth c Tj lj 0 0 → Tj.heap = hj → Ok h0 hj [od] lj → Ary Z hj od .byte ((((xs.take i).map fun x => x.toInt8.toInt32) ++ List.replicate (xs.length - i) (0 : Int32)).map Value.int) → Ends none p e below s (fun v h L => ∃ r : Nat, v = some (.int (Int32.ofNat r)) ∧ Ok h0 h [od] L ∧ ((r = xs.length ∧ (∀ x ∈ xs, own_B x) ∧ Ary Z h od .byte ((xs.map fun x => x.toInt8.toInt32).map Value.int)) ∨ (r < xs.length ∧ ∃ x, xs[r]? = some x ∧ (255 : Int32) < x))) ({ frames := 0, cells := 0, slots := 0, locals := 0 } : Room).cells ({ frames := 0, cells := 0, slots := 0, locals := 0 } : Room).slots Tj (mkF m 3 #[.val (.ref oc), .val (.int (Int32.ofNat i)), .val (.ref od), .val (.int (Int32.ofNat i)), .val (.int (Int32.ofNat xs.length)), .val (.int (Int32.ofNat i)), l6] []) := by
    intro mm
    induction mm with
    | zero =>
      intro i hi hB l6 hl6 Tj hj lj Xj ej Oj Aj
      have hi' : i = xs.length := by omega
      subst hi'
      refine E.iload (q := 5) Xj hx (hb hby d20_3) rfl ?_
      refine E.iload (q := 7) Xj hx (hb hby d20_5) rfl ?_
      refine E.icmpY (q := 44) Xj hx (hb hby d20_7) (XT.ii_ge_t (Int32.lt_irrefl)) ?_
      refine E.iload (q := 46) Xj hx (hb hby d20_44) rfl ?_
      have hAll : ∀ x ∈ xs, own_B x := fun x hx' => by obtain ⟨k, hk, e⟩ := List.getElem_of_mem hx'; exact hB k x hk (by rw [List.getElem?_eq_getElem hk, e])
      subst ej
      exact Ends.retI Xj hx hlk hret (hb hby d20_46) (by decide) (by decide) ⟨_, rfl, Oj, Or.inl ⟨rfl, hAll, by simpa using Aj⟩⟩
    | succ mm ih =>
      intro i hi hB l6 hl6 Tj hj lj Xj ej Oj Aj
      have hi1 : i < xs.length := by omega
      obtain ⟨x, hxi⟩ : ∃ x, xs[i]? = some x := ⟨_, List.getElem?_eq_getElem hi1⟩
      refine E.iload (q := 5) Xj hx (hb hby d20_3) rfl ?_
      refine E.iload (q := 7) Xj hx (hb hby d20_5) rfl ?_
      refine E.icmpN (q := 10) Xj hx (hb hby d20_7) (XT.ii_ge_f ((own_ltN (by omega) (by omega)).mpr hi1)) ?_
      refine E.aloadN (q := 11) Xj hx (hb hby d20_10) rfl rfl ?_
      refine E.iloadN (q := 12) Xj hx (hb hby d20_11) rfl ?_
      have f494 := A_c.keep Oj.1 (ninS hne nin0)
      refine Ends.cld Xj hx hZ ej f494 (i := i) (v := .int x) rfl (by rw [List.getElem?_map, hxi]; rfl) (hb hby d20_12) ?_
      have st6 : storeLocals #[.val (.ref oc), .val (.int (Int32.ofNat i)), .val (.ref od), .val (.int (Int32.ofNat i)), .val (.int (Int32.ofNat xs.length)), .val (.int (Int32.ofNat i)), l6] 6 (.int x) = some #[.val (.ref oc), .val (.int (Int32.ofNat i)), .val (.ref od), .val (.int (Int32.ofNat i)), .val (.int (Int32.ofNat xs.length)), .val (.int (Int32.ofNat i)), .val (.int x)] := by rcases hl6 with rfl | ⟨q, rfl⟩ <;> rfl
      refine E.istore (q := 15) (l' := #[.val (.ref oc), .val (.int (Int32.ofNat i)), .val (.ref od), .val (.int (Int32.ofNat i)), .val (.int (Int32.ofNat xs.length)), .val (.int (Int32.ofNat i)), .val (.int x)]) Xj hx (hb hby d20_13) st6 ?_
      refine E.iload (q := 17) Xj hx (hb hby d20_15) rfl ?_
      refine E.sipush (q := 20) (v := (255 : Int32)) Xj hx (hb hby d20_17) rfl ?_
      by_cases hgt : (255 : Int32) < x
      · refine E.icmpN (q := 23) Xj hx (hb hby d20_20) (XT.ii_le_f hgt) ?_
        refine E.iload (q := 25) Xj hx (hb hby d20_23) rfl ?_
        subst ej
        exact Ends.retI Xj hx hlk hret (hb hby d20_25) (by decide) (by decide) ⟨_, rfl, Oj, Or.inr ⟨hi1, x, hxi, hgt⟩⟩
      · refine E.icmpY (q := 26) Xj hx (hb hby d20_20) (XT.ii_le_t hgt) ?_
        refine E.aloadN (q := 27) Xj hx (hb hby d20_26) rfl rfl ?_
        refine E.iloadN (q := 28) Xj hx (hb hby d20_27) rfl ?_
        refine E.iload (q := 30) Xj hx (hb hby d20_28) rfl ?_
        refine E.i2b (q := 31) Xj hx (hb hby d20_30) ?_
        refine Ends.bst Xj hx hZ ej Aj (x' := x.toInt8.toInt32) (own_nb8 _) (i := i) rfl (by simp; omega) (hb hby d20_31) ?_
        intro T495 h495 X495 e495 W495 V495
        rw [← List.map_set, own_latD hxi] at V495
        have O495 := Oj.wr W495 (Or.inl (List.mem_of_getElem? (i := 0) rfl))
        refine E.iinc (q := 35) (v := ((Int32.ofNat i) + (1 : Int32))) (l' := #[.val (.ref oc), .val (.int ((Int32.ofNat i) + (1 : Int32))), .val (.ref od), .val (.int (Int32.ofNat i)), .val (.int (Int32.ofNat xs.length)), .val (.int (Int32.ofNat i)), .val (.int x)]) X495 hx (hb hby d20_32) rfl rfl rfl ?_
        refine E.iinc (q := 38) (v := ((Int32.ofNat i) + (1 : Int32))) (l' := #[.val (.ref oc), .val (.int ((Int32.ofNat i) + (1 : Int32))), .val (.ref od), .val (.int ((Int32.ofNat i) + (1 : Int32))), .val (.int (Int32.ofNat xs.length)), .val (.int (Int32.ofNat i)), .val (.int x)]) X495 hx (hb hby d20_35) rfl rfl rfl ?_
        refine E.iinc (q := 41) (v := ((Int32.ofNat i) + (1 : Int32))) (l' := #[.val (.ref oc), .val (.int ((Int32.ofNat i) + (1 : Int32))), .val (.ref od), .val (.int ((Int32.ofNat i) + (1 : Int32))), .val (.int (Int32.ofNat xs.length)), .val (.int ((Int32.ofNat i) + (1 : Int32))), .val (.int x)]) X495 hx (hb hby d20_38) rfl rfl rfl ?_
        refine E.goto (q := 3) X495 hx (hb hby d20_41) ?_
        rw [own_succ i]
        have hB2 : ∀ k z, k < i + 1 → xs[k]? = some z → own_B z := fun k z hk hz => (Nat.lt_succ_iff_lt_or_eq.mp hk).elim (fun q => hB k z q hz) (fun q => by rw [q, hxi] at hz; cases hz; exact own_C0 (hxs _ (List.mem_of_getElem? hxi)) hgt)
        exact ih (i + 1) (by omega) hB2 _ (Or.inr ⟨_, rfl⟩) _ _ _ X495 e495 O495 V495
  exact J xs.length 0 (by omega) (fun k x q => absurd q (Nat.not_lt_zero k)) _ (Or.inl rfl) _ _ _ X0 e0 O0 (by simpa using A_d)
theorem ef_35 (m : MethodId) (x0 : Addr) (x1 : Int32) (x2 : Int32) : entryFrame m #[(.ref x0), (.int x1), (.int x2)] 3 = mkF m 0 #[.val (.ref x0), .val (.int x1), .val (.int x2)] [] := by first | (simp [entryFrame, mkF, argsToLocals, Value.category]; done) | rfl
theorem rm35 (l : Launch) (Z : State) (a0 : Array Value) (hw : ∀ d ∈ tables_1, d.before a0 Z = true) (ob : Addr) (x : Int32) (k : Nat) (vs : List Int32) (hk : 2 * k + 1 < vs.length) (h0 : Heap) (A_b : Ary Z h0 ob .byte (vs.map Value.int)) (B_b : ∀ cell : Cell, h0[ob]? = some cell → cell.vm.isStatics = false) (S2 : Sta Z h0 "java/lang/StringUTF16" "$assertionsDisabled" "Z" (.int (1 : Int32))) (S3 : Sta Z h0 "java/lang/StringUTF16" "HI_BYTE_SHIFT" "I" (.int (0 : Int32))) (S4 : Sta Z h0 "java/lang/StringUTF16" "LO_BYTE_SHIFT" "I" (.int (8 : Int32))) :
    Con l (⟨"java/lang/StringUTF16", "putChar", "([BII)V"⟩ : MethodName) jdk_52_method_4_code 3 none [] ({ frames := 0, cells := 0, slots := 0, locals := 0 } : Room) #[(.ref ob), (.int (Int32.ofNat k)), (.int x)] Z h0 (fun v h L => v = none ∧ Ok h0 h [ob] L ∧ Ary Z h ob .byte (((vs.set (2 * k) ((x >>> ((0 : Int32) &&& 31)).toInt8.toInt32)).set (2 * k + 1) ((x >>> ((8 : Int32) &&& 31)).toInt8.toInt32)).map Value.int)) := by
  refine Con.of (plainFor_of_name pn_3) ?_
  intro p e s m below meth c s₁ hx hZ hby hml hown hnm hret hlk X0 e0
  refine Ends.cast (ef_35 m ob (Int32.ofNat k) x) ?_
  have O0 := Ok.refl h0 [ob]
  have lx : vs.length < 2 ^ 31 := by have := A_b.len; rwa [List.length_map] at this
  refine Ends.getS X0 hx hZ hown (host := "") (Or.inl (own_w hw 193 rfl)) Via.refl e0 (own_sta_keep S2 O0.1 (own_ns1 B_b)) (hb hby d35_0) ?_
  intro T496 X496 e496
  refine E.ifY (q := 28) X496 hx (hb hby d35_3) (XT.i0_ne_t (by decide)) ?_
  refine E.iloadN (q := 29) X496 hx (hb hby d35_28) rfl ?_
  refine E.iconst (q := 30) (v := (1 : Int32)) X496 hx (hb hby d35_29) rfl ?_
  refine E.ishl (q := 31) X496 hx (hb hby d35_30) ?_
  rw [own_shl1 (by omega)]
  refine E.istoreN (q := 32) (l' := #[.val (.ref ob), .val (.int (Int32.ofNat (2 * k))), .val (.int x)]) X496 hx (hb hby d35_31) rfl ?_
  refine E.aloadN (q := 33) X496 hx (hb hby d35_32) rfl rfl ?_
  refine E.iloadN (q := 34) X496 hx (hb hby d35_33) rfl ?_
  refine E.iinc (q := 37) (v := ((Int32.ofNat (2 * k)) + (1 : Int32))) (l' := #[.val (.ref ob), .val (.int ((Int32.ofNat (2 * k)) + (1 : Int32))), .val (.int x)]) X496 hx (hb hby d35_34) rfl rfl rfl ?_
  refine E.iloadN (q := 38) X496 hx (hb hby d35_37) rfl ?_
  refine Ends.getS X496 hx hZ hown (host := "") (Or.inl (own_w hw 194 rfl)) Via.refl e496 (own_sta_keep S3 O0.1 (own_ns1 B_b)) (hb hby d35_38) ?_
  intro T497 X497 e497
  refine E.ishr (q := 42) X497 hx (hb hby d35_41) ?_
  refine E.i2b (q := 43) X497 hx (hb hby d35_42) ?_
  refine Ends.bst X497 hx hZ e497 A_b (x' := (x >>> ((0 : Int32) &&& 31)).toInt8.toInt32) (own_nb8 _) (i := 2 * k) rfl (by simp only [List.length_map, List.length_set]; omega) (hb hby d35_43) ?_
  intro T498 h498 X498 e498 W498 V498
  rw [← List.map_set] at V498
  have O498 := O0.wr W498 (Or.inl (List.mem_of_getElem? (i := 0) rfl))
  refine E.aloadN (q := 45) X498 hx (hb hby d35_44) rfl rfl ?_
  refine E.iloadN (q := 46) X498 hx (hb hby d35_45) rfl ?_
  refine E.iloadN (q := 47) X498 hx (hb hby d35_46) rfl ?_
  refine Ends.getS X498 hx hZ hown (host := "") (Or.inl (own_w hw 195 rfl)) Via.refl e498 (own_sta_keep S4 O498.1 (own_ns1 B_b)) (hb hby d35_47) ?_
  intro T499 X499 e499
  refine E.ishr (q := 51) X499 hx (hb hby d35_50) ?_
  refine E.i2b (q := 52) X499 hx (hb hby d35_51) ?_
  refine Ends.bst X499 hx hZ e499 V498 (x' := (x >>> ((8 : Int32) &&& 31)).toInt8.toInt32) (own_nb8 _) (i := 2 * k + 1) (own_succ (2 * k)) (by simp only [List.length_map, List.length_set]; omega) (hb hby d35_52) ?_
  intro T500 h500 X500 e500 W500 V500
  rw [← List.map_set] at V500
  have O500 := O498.wr W500 (Or.inl (List.mem_of_getElem? (i := 0) rfl))
  subst e500
  exact Ends.retV X500 hx hlk hret (hb hby d35_53) (by decide) (by decide) ⟨rfl, O500, V500⟩
theorem ef_34 (m : MethodId) (x0 : Int32) : entryFrame m #[(.int x0)] 1 = mkF m 0 #[.val (.int x0)] [] := by first | (simp [entryFrame, mkF, argsToLocals, Value.category]; done) | rfl
theorem rm34 (l : Launch) (Z : State) (a0 : Array Value) (hw : ∀ d ∈ tables_1, d.before a0 Z = true) (n : Nat) (h6 : n ≤ 6) (h0 : Heap) :
    Con l (⟨"java/lang/StringUTF16", "newBytesLength", "(I)I"⟩ : MethodName) jdk_52_method_3_code 1 (some .int) [] ({ frames := 0, cells := 0, slots := 0, locals := 0 } : Room) #[(.int (Int32.ofNat n))] Z h0 (fun v h L => v = some (.int (Int32.ofNat (2 * n))) ∧ h = h0 ∧ L = []) := by
  refine Con.of (plainFor_of_name pn_3) ?_
  intro p e s m below meth c s₁ hx hZ hby hml hown hnm hret hlk X0 e0
  refine Ends.cast (ef_34 m (Int32.ofNat n)) ?_
  have O0 := Ok.refl h0 []
  refine E.iloadN (q := 1) X0 hx (hb hby d34_0) rfl ?_
  refine E.ifY (q := 12) X0 hx (hb hby d34_1) (XT.i0_ge_t (own_clamp (by omega)).2) ?_
  refine E.iloadN (q := 13) X0 hx (hb hby d34_12) rfl ?_
  refine E.ldc (q := 15) X0 hx hZ hown (own_w hw 189 rfl) (hb hby d34_13) ?_
  refine E.icmpY (q := 55) X0 hx (hb hby d34_15) (XT.ii_lt_t (by rw [show (1073741823 : Int32) = Int32.ofNat 1073741823 from rfl, own_ltN (by omega) (by omega)]; omega)) ?_
  refine E.iloadN (q := 56) X0 hx (hb hby d34_55) rfl ?_
  refine E.iconst (q := 57) (v := (1 : Int32)) X0 hx (hb hby d34_56) rfl ?_
  refine E.ishl (q := 58) X0 hx (hb hby d34_57) ?_
  rw [own_shl1 (by omega)]
  exact Ends.retI X0 hx hlk hret (hb hby d34_58) (by decide) (by decide) ⟨rfl, e0, rfl⟩
theorem ef_33 (m : MethodId) (x0 : Int32) : entryFrame m #[(.int x0)] 1 = mkF m 0 #[.val (.int x0)] [] := by first | (simp [entryFrame, mkF, argsToLocals, Value.category]; done) | rfl
theorem rm33 (l : Launch) (Z : State) (a0 : Array Value) (hw : ∀ d ∈ tables_1, d.before a0 Z = true) (n : Nat) (h6 : n ≤ 6) (h0 : Heap) :
    Con l (⟨"java/lang/StringUTF16", "newBytesFor", "(I)[B"⟩ : MethodName) jdk_52_method_2_code 1 (some (.array .byte)) [] ({ frames := 1, cells := 1, slots := 12, locals := 24 } : Room) #[(.int (Int32.ofNat n))] Z h0 (fun v h L => ∃ b, v = some (.ref b) ∧ h0.size ≤ b ∧ Ok h0 h [] L ∧ Ary Z h b .byte ((List.replicate (2 * n) (0 : Int32)).map Value.int)) := by
  refine Con.of (plainFor_of_name pn_3) ?_
  intro p e s m below meth c s₁ hx hZ hby hml hown hnm hret hlk X0 e0
  refine Ends.cast (ef_33 m (Int32.ofNat n)) ?_
  have O0 := Ok.refl h0 []
  refine E.iloadN (q := 1) X0 hx (hb hby d33_0) rfl ?_
  refine Ends.callS X0 hx hZ hown (own_w hw 186 rfl) (own_w hw 187 rfl) (own_w hw 121 rfl) (own_w hw 188 rfl) (by decide) (argsL := [(.int (Int32.ofNat n))]) (rest := []) e0 (rm34 l Z a0 hw n h6 _) (W := 0) (by decide) (by decide) (by rw [hml]; rfl) (lenOf pd_7 rfl) (Nat.le_of_eq rfl) (hb hby d33_1) (by decide) (by decide) rfl ?_
  rintro T501 v501 L501 X501 ⟨rfl, e501, rfl⟩
  rw [List.append_nil] at X501
  refine Ends.newA X501 hx hZ (own_w hw 18 rfl) e501 (hb hby d33_4) (N := (2 * n)) rfl (by omega) (by decide) (by show 0 + (2 * n) ≤ 12; omega) ?_
  intro T502 h502 b502 g502 X502 e502 E502 A502
  have ge_b502 : h0.size ≤ b502 := Nat.le_trans O0.le (Nat.le_of_eq g502.symm)
  have O502 := O0.ext E502
  have V502 : Ary Z h502 b502 .byte ((List.replicate (2 * n) (0 : Int32)).map Value.int) := by rw [List.map_replicate]; exact A502
  subst e502
  exact Ends.retA X502 hx hlk hret rfl rfl rfl (hb hby d33_6) (by decide) (by show 0 + 2 * n ≤ 12; omega) ⟨_, rfl, ge_b502, O502, V502⟩
theorem ef_32 (m : MethodId) (x0 : Addr) (x1 : Int32) (x2 : Int32) : entryFrame m #[(.ref x0), (.int x1), (.int x2)] 5 = mkF m 0 #[.val (.ref x0), .val (.int x1), .val (.int x2), .unset, .unset] [] := by first | (simp [entryFrame, mkF, argsToLocals, Value.category]; done) | rfl
theorem rm32 (l : Launch) (Z : State) (a0 : Array Value) (hw : ∀ d ∈ tables_1, d.before a0 Z = true) (oc : Addr) (xs : List Int32) (h6 : xs.length ≤ 6) (h0 : Heap) (A_c : Ary Z h0 oc .char (xs.map Value.int)) (S2 : Sta Z h0 "java/lang/StringUTF16" "$assertionsDisabled" "Z" (.int (1 : Int32))) (S3 : Sta Z h0 "java/lang/StringUTF16" "HI_BYTE_SHIFT" "I" (.int (0 : Int32))) (S4 : Sta Z h0 "java/lang/StringUTF16" "LO_BYTE_SHIFT" "I" (.int (8 : Int32))) :
    Con l (⟨"java/lang/StringUTF16", "toBytes", "([CII)[B"⟩ : MethodName) jdk_52_method_14_code 5 (some (.array .byte)) [] ({ frames := 2, cells := 1, slots := 12, locals := 48 } : Room) #[(.ref oc), (.int (0 : Int32)), (.int (Int32.ofNat xs.length))] Z h0 (fun v h L => ∃ b, v = some (.ref b) ∧ h0.size ≤ b ∧ Ok h0 h [] L ∧ Ary Z h b .byte ((own_utf xs).map Value.int)) := by
  refine Con.of (plainFor_of_name pn_3) ?_
  intro p e s m below meth c s₁ hx hZ hby hml hown hnm hret hlk X0 e0
  refine Ends.cast (ef_32 m oc (0 : Int32) (Int32.ofNat xs.length)) ?_
  have O0 := Ok.refl h0 []
  refine E.iloadN (q := 1) X0 hx (hb hby d32_0) rfl ?_
  refine Ends.callS X0 hx hZ hown (own_w hw 183 rfl) (own_w hw 184 rfl) (own_w hw 121 rfl) (own_w hw 185 rfl) (by decide) (argsL := [(.int (Int32.ofNat xs.length))]) (rest := []) e0 (rm33 l Z a0 hw xs.length h6 _) (W := 0) (by decide) (by decide) (by rw [hml]; rfl) (lenOf pd_8 rfl) (Nat.le_of_eq rfl) (hb hby d32_1) (by decide) (by decide) rfl ?_
  rintro T503 v503 L503 X503 ⟨bb, rfl, ge_bb, hO503, V503⟩
  have e503 : T503.heap = T503.heap := rfl
  have O503 := O0.call hO503 all0
  have nb : oc ≠ bb := Nat.ne_of_lt (Nat.lt_of_lt_of_le A_c.lt ge_bb)
  refine E.astoreN (q := 5) (l' := #[.val (.ref oc), .val (.int (0 : Int32)), .val (.int (Int32.ofNat xs.length)), .val (.ref bb), .unset]) X503 hx (hb hby d32_4) rfl rfl ?_
  refine E.iconst (q := 6) (v := (0 : Int32)) X503 hx (hb hby d32_5) rfl ?_
  refine E.istore (q := 8) (l' := #[.val (.ref oc), .val (.int (0 : Int32)), .val (.int (Int32.ofNat xs.length)), .val (.ref bb), .val (.int (0 : Int32))]) X503 hx (hb hby d32_6) rfl ?_
  have J : ∀ mm i, i + mm = xs.length → ∀ (Tj : State) (hj : Heap) (lj : List Loc), Stand p l e ({ frames := 2, cells := 1, slots := 12, locals := 48 } : Room) s m #[(.ref oc), (.int (0 : Int32)), (.int (Int32.ofNat xs.length))] below meth c Tj lj 1 12 → Tj.heap = hj → Ok h0 hj [] lj → Ary Z hj bb .byte ((own_utf (xs.take i) ++ List.replicate (2 * xs.length - 2 * i) (0 : Int32)).map Value.int) → Ends none p e below s (fun v h L => ∃ b, v = some (.ref b) ∧ h0.size ≤ b ∧ Ok h0 h [] L ∧ Ary Z h b .byte ((own_utf xs).map Value.int)) ({ frames := 2, cells := 1, slots := 12, locals := 48 } : Room).cells ({ frames := 2, cells := 1, slots := 12, locals := 48 } : Room).slots Tj (mkF m 8 #[.val (.ref oc), .val (.int (Int32.ofNat i)), .val (.int (Int32.ofNat xs.length)), .val (.ref bb), .val (.int (Int32.ofNat i))] []) := by
    intro mm
    induction mm with
    | zero =>
      intro i hi Tj hj lj Xj ej Oj Aj
      have hi' : i = xs.length := by omega
      subst hi'
      refine E.iload (q := 10) Xj hx (hb hby d32_8) rfl ?_
      refine E.iloadN (q := 11) Xj hx (hb hby d32_10) rfl ?_
      refine E.icmpY (q := 32) Xj hx (hb hby d32_11) (XT.ii_ge_t (Int32.lt_irrefl)) ?_
      refine E.aloadN (q := 33) Xj hx (hb hby d32_32) rfl rfl ?_
      subst ej
      exact Ends.retA Xj hx hlk hret rfl rfl rfl (hb hby d32_33) (by decide) (by decide) ⟨_, rfl, ge_bb, Oj, by simpa using Aj⟩
    | succ mm ih =>
      intro i hi Tj hj lj Xj ej Oj Aj
      have hi1 : i < xs.length := by omega
      obtain ⟨x, hxi⟩ : ∃ x, xs[i]? = some x := ⟨_, List.getElem?_eq_getElem hi1⟩
      refine E.iload (q := 10) Xj hx (hb hby d32_8) rfl ?_
      refine E.iloadN (q := 11) Xj hx (hb hby d32_10) rfl ?_
      refine E.icmpN (q := 14) Xj hx (hb hby d32_11) (XT.ii_ge_f ((own_ltN (by omega) (by omega)).mpr hi1)) ?_
      refine E.aloadN (q := 15) Xj hx (hb hby d32_14) rfl rfl ?_
      refine E.iload (q := 17) Xj hx (hb hby d32_15) rfl ?_
      refine E.aloadN (q := 18) Xj hx (hb hby d32_17) rfl rfl ?_
      refine E.iloadN (q := 19) Xj hx (hb hby d32_18) rfl ?_
      have f504 := A_c.keep Oj.1 nin0
      refine Ends.cld Xj hx hZ ej f504 (i := i) (v := .int x) rfl (by rw [List.getElem?_map, hxi]; rfl) (hb hby d32_19) ?_
      refine Ends.callS Xj hx hZ hown (own_w hw 190 rfl) (own_w hw 191 rfl) (own_w hw 121 rfl) (own_w hw 192 rfl) (by decide) (argsL := [(.ref bb), (.int (Int32.ofNat i)), (.int x)]) (rest := []) ej (rm35 l Z a0 hw bb x i (own_utf (xs.take i) ++ List.replicate (2 * xs.length - 2 * i) (0 : Int32)) (by simp only [List.length_append, own_utf_len, List.length_replicate, List.length_take]; omega) _ Aj (fun cell q => own_nsA Aj q) (own_sta_keep S2 Oj.1 own_ns0) (own_sta_keep S3 Oj.1 own_ns0) (own_sta_keep S4 Oj.1 own_ns0)) (W := 0) (by decide) (by decide) (by rw [hml]; rfl) (lenOf pd_9 rfl) (Nat.le_of_eq rfl) (hb hby d32_20) (by decide) (by decide) rfl ?_
      rintro T505 v505 L505 X505 ⟨rfl, hO505, V505⟩
      have e505 : T505.heap = T505.heap := rfl
      have O505 := Oj.call hO505 (allS (Or.inr ge_bb) all0)
      rw [own_utfD hxi] at V505
      refine E.iinc (q := 26) (v := ((Int32.ofNat i) + (1 : Int32))) (l' := #[.val (.ref oc), .val (.int ((Int32.ofNat i) + (1 : Int32))), .val (.int (Int32.ofNat xs.length)), .val (.ref bb), .val (.int (Int32.ofNat i))]) X505 hx (hb hby d32_23) rfl rfl rfl ?_
      refine E.iinc (q := 29) (v := ((Int32.ofNat i) + (1 : Int32))) (l' := #[.val (.ref oc), .val (.int ((Int32.ofNat i) + (1 : Int32))), .val (.int (Int32.ofNat xs.length)), .val (.ref bb), .val (.int ((Int32.ofNat i) + (1 : Int32)))]) X505 hx (hb hby d32_26) rfl rfl rfl ?_
      refine E.goto (q := 8) X505 hx (hb hby d32_29) ?_
      rw [own_succ i]
      exact ih (i + 1) (by omega) _ _ _ X505 e505 O505 V505
  exact J xs.length 0 (by omega) _ _ _ X503 e503 O503 (by simpa [own_utf] using V503)
theorem ef_19 (m : MethodId) (x0 : Addr) (x1 : Int32) (x2 : Int32) : entryFrame m #[(.ref x0), (.int x1), (.int x2)] 6 = mkF m 0 #[.val (.ref x0), .val (.int x1), .val (.int x2), .unset, .unset, .unset] [] := by first | (simp [entryFrame, mkF, argsToLocals, Value.category]; done) | rfl
theorem rm19 (l : Launch) (Z : State) (a0 : Array Value) (hw : ∀ d ∈ tables_1, d.before a0 Z = true) (oc : Addr) (xs : List Int32) (hxs : ∀ x ∈ xs, own_C x) (h6 : xs.length ≤ 6) (h0 : Heap) (A_c : Ary Z h0 oc .char (xs.map Value.int)) (S2 : Sta Z h0 "java/lang/StringUTF16" "$assertionsDisabled" "Z" (.int (1 : Int32))) (S3 : Sta Z h0 "java/lang/StringUTF16" "HI_BYTE_SHIFT" "I" (.int (0 : Int32))) (S4 : Sta Z h0 "java/lang/StringUTF16" "LO_BYTE_SHIFT" "I" (.int (8 : Int32))) :
    Con l (⟨"java/lang/StringUTF16", "compress", "([CII)[B"⟩ : MethodName) jdk_52_method_16_code 6 (some (.array .byte)) [] ({ frames := 3, cells := 2, slots := 18, locals := 72 } : Room) #[(.ref oc), (.int (0 : Int32)), (.int (Int32.ofNat xs.length))] Z h0 (fun v h L => ∃ (b : Addr) (bs : List Int32), v = some (.ref b) ∧ h0.size ≤ b ∧ Ok h0 h [] L ∧ Ary Z h b .byte (bs.map Value.int) ∧ ((bs = (xs.map fun x => x.toInt8.toInt32) ∧ ∀ x ∈ xs, own_B x) ∨ bs = own_utf xs)) := by
  refine Con.of (plainFor_of_name pn_3) ?_
  intro p e s m below meth c s₁ hx hZ hby hml hown hnm hret hlk X0 e0
  refine Ends.cast (ef_19 m oc (0 : Int32) (Int32.ofNat xs.length)) ?_
  have O0 := Ok.refl h0 []
  refine E.iloadN (q := 1) X0 hx (hb hby d19_0) rfl ?_
  refine Ends.newA X0 hx hZ (own_w hw 18 rfl) e0 (hb hby d19_1) (N := xs.length) rfl (by omega) (by decide) (by show 0 + xs.length ≤ 18; omega) ?_
  intro T506 h506 b506 g506 X506 e506 E506 A506
  have ge_b506 : h0.size ≤ b506 := Nat.le_trans O0.le (Nat.le_of_eq g506.symm)
  have O506 := O0.ext E506
  have V506 : Ary Z h506 b506 .byte ((List.replicate xs.length (0 : Int32)).map Value.int) := by rw [List.map_replicate]; exact A506
  refine E.astoreN (q := 4) (l' := #[.val (.ref oc), .val (.int (0 : Int32)), .val (.int (Int32.ofNat xs.length)), .val (.ref b506), .unset, .unset]) X506 hx (hb hby d19_3) rfl rfl ?_
  refine E.aloadN (q := 5) X506 hx (hb hby d19_4) rfl rfl ?_
  refine E.iloadN (q := 6) X506 hx (hb hby d19_5) rfl ?_
  refine E.aloadN (q := 7) X506 hx (hb hby d19_6) rfl rfl ?_
  refine E.iconst (q := 8) (v := (0 : Int32)) X506 hx (hb hby d19_7) rfl ?_
  refine E.iloadN (q := 9) X506 hx (hb hby d19_8) rfl ?_
  have f507 := A_c.ext E506
  refine Ends.callS X506 hx hZ hown (own_w hw 123 rfl) (own_w hw 124 rfl) (own_w hw 121 rfl) (own_w hw 125 rfl) (by decide) (argsL := [(.ref oc), (.int (0 : Int32)), (.ref b506), (.int (0 : Int32)), (.int (Int32.ofNat xs.length))]) (rest := []) e506 (rm20 l Z a0 hw oc b506 xs hxs h6 _ f507 V506 (Nat.ne_of_lt (Nat.lt_of_lt_of_eq A_c.lt g506.symm))) (W := 0) (by decide) (by decide) (by rw [hml]; rfl) (lenOf pd_10 rfl) (Nat.le_of_eq rfl) (hb hby d19_9) (by decide) (by show 0 + xs.length + 0 ≤ 18; omega) rfl ?_
  rintro T508 v508 L508 X508 ⟨r508, rfl, hO508, hD508⟩
  have e508 : T508.heap = T508.heap := rfl
  have O508 := O506.call hO508 (allS (Or.inr ge_b506) all0)
  rcases hD508 with ⟨hr, hB, AD⟩ | ⟨hr, x, hxr, hgt⟩
  · subst hr
    refine E.istore (q := 14) (l' := #[.val (.ref oc), .val (.int (0 : Int32)), .val (.int (Int32.ofNat xs.length)), .val (.ref b506), .val (.int (Int32.ofNat xs.length)), .unset]) X508 hx (hb hby d19_12) rfl ?_
    refine E.iload (q := 16) X508 hx (hb hby d19_14) rfl ?_
    refine E.iloadN (q := 17) X508 hx (hb hby d19_16) rfl ?_
    refine E.icmpY (q := 57) X508 hx (hb hby d19_17) (XT.ii_eq_t rfl) ?_
    refine E.aloadN (q := 58) X508 hx (hb hby d19_57) rfl rfl ?_
    exact Ends.retA X508 hx hlk hret rfl rfl rfl (hb hby d19_58) (by decide) (by show 0 + xs.length + 0 ≤ 18; omega) ⟨_, _, rfl, ge_b506, O508, AD, Or.inl ⟨rfl, hB⟩⟩
  · refine E.istore (q := 14) (l' := #[.val (.ref oc), .val (.int (0 : Int32)), .val (.int (Int32.ofNat xs.length)), .val (.ref b506), .val (.int (Int32.ofNat r508)), .unset]) X508 hx (hb hby d19_12) rfl ?_
    refine E.iload (q := 16) X508 hx (hb hby d19_14) rfl ?_
    refine E.iloadN (q := 17) X508 hx (hb hby d19_16) rfl ?_
    refine E.icmpN (q := 20) X508 hx (hb hby d19_17) (XT.ii_eq_f (fun e => absurd ((own_eqN (by omega) (by omega)).mp e) (by omega))) ?_
    refine E.aloadN (q := 21) X508 hx (hb hby d19_20) rfl rfl ?_
    refine E.iloadN (q := 22) X508 hx (hb hby d19_21) rfl ?_
    refine E.iloadN (q := 23) X508 hx (hb hby d19_22) rfl ?_
    have f509 := f507.keep hO508.1 (ninS (Nat.ne_of_lt (Nat.lt_of_lt_of_eq A_c.lt g506.symm)) nin0)
    refine Ends.callS X508 hx hZ hown (own_w hw 180 rfl) (own_w hw 181 rfl) (own_w hw 121 rfl) (own_w hw 182 rfl) (by decide) (argsL := [(.ref oc), (.int (0 : Int32)), (.int (Int32.ofNat xs.length))]) (rest := []) e508 (rm32 l Z a0 hw oc xs h6 _ f509 (own_sta_keep S2 O508.1 own_ns0) (own_sta_keep S3 O508.1 own_ns0) (own_sta_keep S4 O508.1 own_ns0)) (W := 0) (by decide) (by decide) (by rw [hml]; rfl) (lenOf pd_11 rfl) (Nat.le_of_eq rfl) (hb hby d19_23) (by decide) (by show 0 + xs.length + 0 + 12 ≤ 18; omega) rfl ?_
    rintro T510 v510 L510 X510 ⟨b510, rfl, gb510, hO510, V510⟩
    have e510 : T510.heap = T510.heap := rfl
    have O510 := O508.call hO510 all0
    have ge_b510 : h0.size ≤ b510 := Nat.le_trans O508.le gb510
    refine E.astore (q := 28) (l' := #[.val (.ref oc), .val (.int (0 : Int32)), .val (.int (Int32.ofNat xs.length)), .val (.ref b506), .val (.int (Int32.ofNat r508)), .val (.ref b510)]) X510 hx (hb hby d19_26) rfl rfl ?_
    refine E.aload (q := 30) X510 hx (hb hby d19_28) rfl rfl ?_
    refine E.iload (q := 32) X510 hx (hb hby d19_30) rfl ?_
    refine Ends.callS X510 hx hZ hown (own_w hw 196 rfl) (own_w hw 197 rfl) (own_w hw 121 rfl) (own_w hw 198 rfl) (by decide) (argsL := [(.ref b510), (.int (Int32.ofNat r508))]) (rest := []) e510 (rm36 l Z a0 hw b510 r508 xs x hxr (hxs x (List.mem_of_getElem? hxr)) _ V510 (own_sta_keep S2 O510.1 own_ns0) (own_sta_keep S3 O510.1 own_ns0) (own_sta_keep S4 O510.1 own_ns0)) (W := 0) (by decide) (by decide) (by rw [hml]; rfl) (lenOf pd_5 rfl) (Nat.le_of_eq rfl) (hb hby d19_32) (by decide) (by show 0 + xs.length + 0 + 12 + 0 ≤ 18; omega) rfl ?_
    rintro T511 v511 L511 X511 ⟨rfl, e511, rfl⟩
    rw [List.append_nil] at X511
    refine E.sipush (q := 38) (v := (255 : Int32)) X511 hx (hb hby d19_35) rfl ?_
    refine E.icmpY (q := 54) X511 hx (hb hby d19_38) (XT.ii_gt_t hgt) ?_
    refine E.aload (q := 56) X511 hx (hb hby d19_54) rfl rfl ?_
    have eq' := e511
    exact Ends.retA X511 hx hlk hret rfl rfl rfl (hb hby d19_56) (by decide) (by show 0 + xs.length + 0 + 12 + 0 ≤ 18; omega) ⟨_, _, rfl, ge_b510, by first | exact O510 | (rw [e511]; exact O510), by first | exact V510 | (rw [e511]; exact V510), Or.inr rfl⟩
theorem efrmCl0 (m : MethodId) (x0 : Addr) (x1 : Int32) : entryFrame m #[(.ref x0), (.int x1)] 2 = mkF m 0 #[.val (.ref x0), .val (.int x1)] [] := by first | (simp [entryFrame, mkF, argsToLocals, Value.category]; done) | rfl
theorem rmCl0 (l : Launch) (Z : State) (a0 : Array Value) (hw : ∀ d ∈ tables_1, d.before a0 Z = true) (od : Addr) (n : Nat) (vs : List Value) (h0 : Heap) (A_d : Ary Z h0 od .byte vs) (hv : vs.length = n) :
    Con l (⟨"java/lang/StringUTF16", "coderFromArrayLen", "([BI)B"⟩ : MethodName) jdk_52_method_15_code 2 (some .byte) [] ({ frames := 0, cells := 0, slots := 0, locals := 0 } : Room) #[(.ref od), (.int (Int32.ofNat n))] Z h0 (fun v h L => v = some (.int (0 : Int32)) ∧ h = h0 ∧ L = []) := by
  refine Con.of (plainFor_of_name pn_3) ?_
  intro p e s m below meth c s₁ hx hZ hby hml hown hnm hret hlk X0 e0
  refine Ends.cast (efrmCl0 m od (Int32.ofNat n)) ?_
  refine E.iloadN (q := 1) X0 hx (hb hby d21_0) rfl ?_
  refine E.aloadN (q := 2) X0 hx (hb hby d21_1) rfl rfl ?_
  refine Ends.alen X0 hx hZ e0 A_d (hb hby d21_2) (n := (Int32.ofNat n)) (by rw [hv]) ?_
  refine E.isub (q := 4) X0 hx (hb hby d21_3) ?_
  refine E.bipush (q := 6) (v := (31 : Int32)) X0 hx (hb hby d21_4) rfl ?_
  refine E.iushr (q := 7) X0 hx (hb hby d21_6) ?_
  refine E.i2b (q := 8) X0 hx (hb hby d21_7) ?_
  rw [own_cl0]
  exact Ends.retS X0 hx hlk hret (by simp) rfl (hb hby d21_8) (by decide) (by decide) ⟨rfl, e0, rfl⟩
theorem efrmCl1 (m : MethodId) (x0 : Addr) (x1 : Int32) : entryFrame m #[(.ref x0), (.int x1)] 2 = mkF m 0 #[.val (.ref x0), .val (.int x1)] [] := by first | (simp [entryFrame, mkF, argsToLocals, Value.category]; done) | rfl
theorem rmCl1 (l : Launch) (Z : State) (a0 : Array Value) (hw : ∀ d ∈ tables_1, d.before a0 Z = true) (od : Addr) (n : Nat) (vs : List Value) (h0 : Heap) (A_d : Ary Z h0 od .byte vs) (hn1 : 1 ≤ n) (h6 : n ≤ 6) (hv : vs.length = 2 * n) :
    Con l (⟨"java/lang/StringUTF16", "coderFromArrayLen", "([BI)B"⟩ : MethodName) jdk_52_method_15_code 2 (some .byte) [] ({ frames := 0, cells := 0, slots := 0, locals := 0 } : Room) #[(.ref od), (.int (Int32.ofNat n))] Z h0 (fun v h L => v = some (.int (1 : Int32)) ∧ h = h0 ∧ L = []) := by
  refine Con.of (plainFor_of_name pn_3) ?_
  intro p e s m below meth c s₁ hx hZ hby hml hown hnm hret hlk X0 e0
  refine Ends.cast (efrmCl1 m od (Int32.ofNat n)) ?_
  refine E.iloadN (q := 1) X0 hx (hb hby d21_0) rfl ?_
  refine E.aloadN (q := 2) X0 hx (hb hby d21_1) rfl rfl ?_
  refine Ends.alen X0 hx hZ e0 A_d (hb hby d21_2) (n := (Int32.ofNat (2 * n))) (by rw [hv]) ?_
  refine E.isub (q := 4) X0 hx (hb hby d21_3) ?_
  refine E.bipush (q := 6) (v := (31 : Int32)) X0 hx (hb hby d21_4) rfl ?_
  refine E.iushr (q := 7) X0 hx (hb hby d21_6) ?_
  refine E.i2b (q := 8) X0 hx (hb hby d21_7) ?_
  rw [own_cl1 hn1 h6]
  exact Ends.retS X0 hx hlk hret (by simp) rfl (hb hby d21_8) (by decide) (by decide) ⟨rfl, e0, rfl⟩
theorem efI4_n (m : MethodId) (x0 : Addr) (x1 : Addr) (x2 : Int32) (x3 : Int32) : entryFrame m #[(.ref x0), (.ref x1), (.int x2), (.int x3), .null] 6 = mkF m 0 #[.val (.ref x0), .val (.ref x1), .val (.int x2), .val (.int x3), .val .null, .unset] [] := by first | (simp [entryFrame, mkF, argsToLocals, Value.category]; done) | rfl
theorem rmI4_n (l : Launch) (Z : State) (a0 : Array Value) (hw : ∀ d ∈ tables_1, d.before a0 Z = true) (oa : Addr) (oc : Addr) (xs : List Int32) (hxs : ∀ x ∈ xs, own_C x) (h1 : 1 ≤ xs.length) (h6 : xs.length ≤ 6) (h0 : Heap) (E0 : Exa Z h0 oa "java/lang/String") (F_v : Fld Z h0 oa "java/lang/String" "value" "[B" .null) (F_c : Fld Z h0 oa "java/lang/String" "coder" "B" (.int (0 : Int32))) (A_c : Ary Z h0 oc .char (xs.map Value.int)) (hne : oc ≠ oa) (cs : Int32) (hcs : ¬ cs = (0 : Int32)) (S0 : Sta Z h0 "java/lang/String" "COMPACT_STRINGS" "Z" (.int cs)) (S2 : Sta Z h0 "java/lang/StringUTF16" "$assertionsDisabled" "Z" (.int (1 : Int32))) (S3 : Sta Z h0 "java/lang/StringUTF16" "HI_BYTE_SHIFT" "I" (.int (0 : Int32))) (S4 : Sta Z h0 "java/lang/StringUTF16" "LO_BYTE_SHIFT" "I" (.int (8 : Int32))) :
    Con l (⟨"java/lang/String", "<init>", "([CIILjava/lang/Void;)V"⟩ : MethodName) jdk_42_method_149_code 6 none [] ({ frames := 4, cells := 2, slots := 18, locals := 96 } : Room) #[(.ref oa), (.ref oc), (.int (0 : Int32)), (.int (Int32.ofNat xs.length)), .null] Z h0 (fun v h L => v = none ∧ ∃ (V : Addr) (cd : Int32) (bs : List Int32), h0.size ≤ V ∧ Ok h0 h [oa] L ∧ Fld Z h oa "java/lang/String" "value" "[B" (.ref V) ∧ Fld Z h oa "java/lang/String" "coder" "B" (.int cd) ∧ Ary Z h V .byte (bs.map Value.int) ∧ own_Str cd bs xs) := by
  refine Con.of (plainFor_of_name pn_0) ?_
  intro p e s m below meth c s₁ hx hZ hby hml hown hnm hret hlk X0 e0
  refine Ends.cast (efI4_n m oa oc (0 : Int32) (Int32.ofNat xs.length)) ?_
  have O0 := Ok.refl h0 [oa]
  refine E.aloadN (q := 1) X0 hx (hb hby d2_0) rfl rfl ?_
  refine Ends.initO X0 hx hZ hown (own_w hw 14 rfl) (own_w hw 15 rfl) (own_w hw 16 rfl) e0 (by rw [hml]; rfl) (hb hby d2_1) (by decide) (W := 0) (Nat.le_of_eq rfl) (by decide) ?_
  intro T512 X512 e512
  refine E.iloadN (q := 5) X512 hx (hb hby d2_4) rfl ?_
  refine E.ifY (q := 27) X512 hx (hb hby d2_5) (XT.i0_ne_t (own_not0 h1 h6)) ?_
  refine Ends.getS X512 hx hZ hown (host := "") (Or.inl (own_w hw 48 rfl)) Via.refl e512 (own_sta_keep S0 O0.1 (own_ns E0)) (hb hby d2_27) ?_
  intro T513 X513 e513
  refine E.ifN (q := 33) X513 hx (hb hby d2_30) (XT.i0_eq_f hcs) ?_
  refine E.aloadN (q := 34) X513 hx (hb hby d2_33) rfl rfl ?_
  refine E.iloadN (q := 35) X513 hx (hb hby d2_34) rfl ?_
  refine E.iloadN (q := 36) X513 hx (hb hby d2_35) rfl ?_
  refine Ends.callS X513 hx hZ hown (own_w hw 119 rfl) (own_w hw 120 rfl) (own_w hw 121 rfl) (own_w hw 122 rfl) (by decide) (argsL := [(.ref oc), (.int (0 : Int32)), (.int (Int32.ofNat xs.length))]) (rest := []) e513 (rm19 l Z a0 hw oc xs hxs h6 _ A_c (own_sta_keep S2 O0.1 (own_ns E0)) (own_sta_keep S3 O0.1 (own_ns E0)) (own_sta_keep S4 O0.1 (own_ns E0))) (W := 0) (by decide) (by decide) (by rw [hml]; rfl) (lenOf pd_11 rfl) (Nat.le_of_eq rfl) (hb hby d2_36) (by decide) (by decide) rfl ?_
  rintro T514 v514 L514 X514 ⟨b514, bs514, rfl, gb514, hO514, V514, hD514⟩
  have e514 : T514.heap = T514.heap := rfl
  have O514 := O0.call hO514 all0
  have gv : h0.size ≤ b514 := Nat.le_trans O0.le gb514
  refine E.astore (q := 41) (l' := #[.val (.ref oa), .val (.ref oc), .val (.int (0 : Int32)), .val (.int (Int32.ofNat xs.length)), .val .null, .val (.ref b514)]) X514 hx (hb hby d2_39) rfl rfl ?_
  refine E.aloadN (q := 42) X514 hx (hb hby d2_41) rfl rfl ?_
  refine E.aload (q := 44) X514 hx (hb hby d2_42) rfl rfl ?_
  refine E.iloadN (q := 45) X514 hx (hb hby d2_44) rfl ?_
  rcases hD514 with ⟨hbs, hB⟩ | hbs
  · refine Ends.callS X514 hx hZ hown (own_w hw 126 rfl) (own_w hw 127 rfl) (own_w hw 121 rfl) (own_w hw 128 rfl) (by decide) (argsL := [(.ref b514), (.int (Int32.ofNat xs.length))]) (rest := [(.ref oa)]) e514 (rmCl0 l Z a0 hw b514 xs.length _ _ V514 (by rw [List.length_map, hbs, List.length_map])) (W := 1) (by decide) (by decide) (by rw [hml]; rfl) (lenOf pd_12 rfl) (Nat.le_of_eq rfl) (hb hby d2_45) (by decide) (by decide) rfl ?_
    rintro T515 v515 L515 X515 ⟨rfl, e515, rfl⟩
    rw [List.append_nil] at X515
    have f516 := F_c.keep hO514.1 nin0
    have f517 := E0.keep hO514.1
    refine Ends.putN X515 hx hZ hown (own_w hw 24 rfl) Via.refl e515 f516 f517 (Or.inr ⟨(own_w hw 20 rfl), rfl, hnm⟩) (own_w hw 5 rfl) (ty := .byte) (v' := .int (0 : Int32)) (by decide) rfl (by decide) (hb hby d2_48) ?_
    intro T518 h518 X518 e518 W518 Fw518
    have O518 := O514.wr W518 (Or.inl (List.mem_of_getElem? (i := 0) rfl))
    refine E.aloadN (q := 52) X518 hx (hb hby d2_51) rfl rfl ?_
    refine E.aload (q := 54) X518 hx (hb hby d2_52) rfl rfl ?_
    have f519 := (F_v.keep hO514.1 nin0).other W518 (Or.inr (slot_ne (Or.inr (own_w hw 19 rfl)) (Or.inr (own_w hw 20 rfl)) (by decide) (t := (.array .byte)) (t' := .byte) (by decide) (by decide)))
    have f520 := f517.wr W518
    refine Ends.putF X518 hx hZ hown (host := "") (Or.inl (own_w hw 23 rfl)) Via.refl e518 f519 f520 (Or.inr ⟨(own_w hw 19 rfl), rfl, hnm⟩) (own_w hw 5 rfl) (ty := (.array .byte)) (by decide) rfl rfl (hb hby d2_54) ?_
    intro T521 h521 X521 e521 W521 Fw521
    have O521 := O518.wr W521 (Or.inl (List.mem_of_getElem? (i := 0) rfl))
    have f522 := Fw518.other W521 (Or.inr (slot_ne (Or.inr (own_w hw 20 rfl)) (Or.inr (own_w hw 19 rfl)) (by decide) (t := .byte) (t' := (.array .byte)) (by decide) (by decide)))
    have f523 := (V514.other W518 (Ne.symm (Nat.ne_of_lt (Nat.lt_of_lt_of_le E0.lt gb514)))).other W521 (Ne.symm (Nat.ne_of_lt (Nat.lt_of_lt_of_le E0.lt gb514)))
    subst e521
    exact Ends.retV X521 hx hlk hret (hb hby d2_57) (by decide) (by decide) ⟨rfl, _, _, _, gv, O521, Fw521, f522, f523, hxs, Or.inl ⟨rfl, hbs, hB⟩⟩
  · refine Ends.callS X514 hx hZ hown (own_w hw 126 rfl) (own_w hw 127 rfl) (own_w hw 121 rfl) (own_w hw 128 rfl) (by decide) (argsL := [(.ref b514), (.int (Int32.ofNat xs.length))]) (rest := [(.ref oa)]) e514 (rmCl1 l Z a0 hw b514 xs.length _ _ V514 h1 h6 (by rw [List.length_map, hbs, own_utf_len])) (W := 1) (by decide) (by decide) (by rw [hml]; rfl) (lenOf pd_12 rfl) (Nat.le_of_eq rfl) (hb hby d2_45) (by decide) (by decide) rfl ?_
    rintro T524 v524 L524 X524 ⟨rfl, e524, rfl⟩
    rw [List.append_nil] at X524
    have f525 := F_c.keep hO514.1 nin0
    have f526 := E0.keep hO514.1
    refine Ends.putN X524 hx hZ hown (own_w hw 24 rfl) Via.refl e524 f525 f526 (Or.inr ⟨(own_w hw 20 rfl), rfl, hnm⟩) (own_w hw 5 rfl) (ty := .byte) (v' := .int (1 : Int32)) (by decide) rfl (by decide) (hb hby d2_48) ?_
    intro T527 h527 X527 e527 W527 Fw527
    have O527 := O514.wr W527 (Or.inl (List.mem_of_getElem? (i := 0) rfl))
    refine E.aloadN (q := 52) X527 hx (hb hby d2_51) rfl rfl ?_
    refine E.aload (q := 54) X527 hx (hb hby d2_52) rfl rfl ?_
    have f528 := (F_v.keep hO514.1 nin0).other W527 (Or.inr (slot_ne (Or.inr (own_w hw 19 rfl)) (Or.inr (own_w hw 20 rfl)) (by decide) (t := (.array .byte)) (t' := .byte) (by decide) (by decide)))
    have f529 := f526.wr W527
    refine Ends.putF X527 hx hZ hown (host := "") (Or.inl (own_w hw 23 rfl)) Via.refl e527 f528 f529 (Or.inr ⟨(own_w hw 19 rfl), rfl, hnm⟩) (own_w hw 5 rfl) (ty := (.array .byte)) (by decide) rfl rfl (hb hby d2_54) ?_
    intro T530 h530 X530 e530 W530 Fw530
    have O530 := O527.wr W530 (Or.inl (List.mem_of_getElem? (i := 0) rfl))
    have f531 := Fw527.other W530 (Or.inr (slot_ne (Or.inr (own_w hw 20 rfl)) (Or.inr (own_w hw 19 rfl)) (by decide) (t := .byte) (t' := (.array .byte)) (by decide) (by decide)))
    have f532 := (V514.other W527 (Ne.symm (Nat.ne_of_lt (Nat.lt_of_lt_of_le E0.lt gb514)))).other W530 (Ne.symm (Nat.ne_of_lt (Nat.lt_of_lt_of_le E0.lt gb514)))
    subst e530
    exact Ends.retV X530 hx hlk hret (hb hby d2_57) (by decide) (by decide) ⟨rfl, _, _, _, gv, O530, Fw530, f531, f532, hxs, Or.inr ⟨rfl, hbs⟩⟩
theorem efI1_n (m : MethodId) (x0 : Addr) (x1 : Addr) : entryFrame m #[(.ref x0), (.ref x1)] 2 = mkF m 0 #[.val (.ref x0), .val (.ref x1)] [] := by first | (simp [entryFrame, mkF, argsToLocals, Value.category]; done) | rfl
theorem rmI1_n (l : Launch) (Z : State) (a0 : Array Value) (hw : ∀ d ∈ tables_1, d.before a0 Z = true) (oa : Addr) (oc : Addr) (xs : List Int32) (hxs : ∀ x ∈ xs, own_C x) (h1 : 1 ≤ xs.length) (h6 : xs.length ≤ 6) (h0 : Heap) (E0 : Exa Z h0 oa "java/lang/String") (F_v : Fld Z h0 oa "java/lang/String" "value" "[B" .null) (F_c : Fld Z h0 oa "java/lang/String" "coder" "B" (.int (0 : Int32))) (A_c : Ary Z h0 oc .char (xs.map Value.int)) (hne : oc ≠ oa) (cs : Int32) (hcs : ¬ cs = (0 : Int32)) (S0 : Sta Z h0 "java/lang/String" "COMPACT_STRINGS" "Z" (.int cs)) (S2 : Sta Z h0 "java/lang/StringUTF16" "$assertionsDisabled" "Z" (.int (1 : Int32))) (S3 : Sta Z h0 "java/lang/StringUTF16" "HI_BYTE_SHIFT" "I" (.int (0 : Int32))) (S4 : Sta Z h0 "java/lang/StringUTF16" "LO_BYTE_SHIFT" "I" (.int (8 : Int32))) :
    Con l (⟨"java/lang/String", "<init>", "([C)V"⟩ : MethodName) jdk_42_method_3_code 2 none [] ({ frames := 5, cells := 2, slots := 18, locals := 120 } : Room) #[(.ref oa), (.ref oc)] Z h0 (fun v h L => v = none ∧ ∃ (V : Addr) (cd : Int32) (bs : List Int32), h0.size ≤ V ∧ Ok h0 h [oa] L ∧ Fld Z h oa "java/lang/String" "value" "[B" (.ref V) ∧ Fld Z h oa "java/lang/String" "coder" "B" (.int cd) ∧ Ary Z h V .byte (bs.map Value.int) ∧ own_Str cd bs xs) := by
  refine Con.of (plainFor_of_name pn_0) ?_
  intro p e s m below meth c s₁ hx hZ hby hml hown hnm hret hlk X0 e0
  refine Ends.cast (efI1_n m oa oc) ?_
  have O0 := Ok.refl h0 [oa]
  refine E.aloadN (q := 1) X0 hx (hb hby d1_0) rfl rfl ?_
  refine E.aloadN (q := 2) X0 hx (hb hby d1_1) rfl rfl ?_
  refine E.iconst (q := 3) (v := (0 : Int32)) X0 hx (hb hby d1_2) rfl ?_
  refine E.aloadN (q := 4) X0 hx (hb hby d1_3) rfl rfl ?_
  refine Ends.alen X0 hx hZ e0 A_c (hb hby d1_4) (n := (Int32.ofNat xs.length)) (by rw [List.length_map]) ?_
  refine E.aconstNull (q := 6) X0 hx (hb hby d1_5) ?_
  refine Ends.callI X0 hx hZ hown (own_w hw 10 rfl) (own_w hw 11 rfl) (own_w hw 6 rfl) (own_w hw 13 rfl) rfl (by decide) (argsL := [(.ref oc), (.int (0 : Int32)), (.int (Int32.ofNat xs.length)), .null]) (rest := []) e0 (rmI4_n l Z a0 hw oa oc xs hxs h1 h6 _ E0 F_v F_c A_c hne cs hcs S0 S2 S3 S4) (W := 0) (by decide) (by decide) (by rw [hml]; rfl) (lenOf pd_13 rfl) (Nat.le_of_eq rfl) (hb hby d1_6) (by decide) (by decide) rfl ?_
  rintro T533 v533 L533 X533 ⟨rfl, V533, cd533, bs533, gV533, hO533, a533, b533, d533, hs533⟩
  have e533 : T533.heap = T533.heap := rfl
  have O533 := O0.call hO533 (allS (Or.inl (List.mem_of_getElem? (i := 0) rfl)) all0)
  exact Ends.retV X533 hx hlk hret (hb hby d1_9) (by decide) (by decide) ⟨rfl, _, _, _, gV533, hO533, a533, b533, d533, hs533⟩
theorem efI4_0 (m : MethodId) (x0 : Addr) (x1 : Addr) (x2 : Int32) (x3 : Int32) : entryFrame m #[(.ref x0), (.ref x1), (.int x2), (.int x3), .null] 6 = mkF m 0 #[.val (.ref x0), .val (.ref x1), .val (.int x2), .val (.int x3), .val .null, .unset] [] := by first | (simp [entryFrame, mkF, argsToLocals, Value.category]; done) | rfl
theorem rmI4_0 (l : Launch) (Z : State) (a0 : Array Value) (hw : ∀ d ∈ tables_1, d.before a0 Z = true) (oa : Addr) (oc : Addr) (h0 : Heap) (E0 : Exa Z h0 oa "java/lang/String") (F_v : Fld Z h0 oa "java/lang/String" "value" "[B" .null) (F_c : Fld Z h0 oa "java/lang/String" "coder" "B" (.int (0 : Int32))) (A_c : Ary Z h0 oc .char []) :
    ConH l (⟨"java/lang/String", "<init>", "([CIILjava/lang/Void;)V"⟩ : MethodName) jdk_42_method_149_code 6 none [] ({ frames := 1, cells := 4, slots := 8, locals := 24 } : Room) #[(.ref oa), (.ref oc), (.int (0 : Int32)), (.int (0 : Int32)), .null] Z h0 own_EL (fun v h L => v = none ∧ ∃ V, Ok h0 h [oa] L ∧ Fld Z h oa "java/lang/String" "value" "[B" (.ref V) ∧ Fld Z h oa "java/lang/String" "coder" "B" (.int (0 : Int32)) ∧ Ary Z h V .byte []) := by
  refine ConH.of (plainFor_of_name pn_0) ?_
  intro p e s m below meth c s₁ vm0 HC0 hx hZ hby hml hown hnm hret hlk X0 e0
  refine Ends.cast (efI4_0 m oa oc (0 : Int32) (0 : Int32)) ?_
  have O0 := Ok.refl h0 [oa]
  have Z0 : Safe Z own_EL s.vm h0 oa := own_safe_blank hZ.alike E0 F_v
  refine E.aloadN (q := 1) X0 hx (hb hby d2_0) rfl rfl ?_
  refine Ends.initO X0 hx hZ hown (own_w hw 14 rfl) (own_w hw 15 rfl) (own_w hw 16 rfl) e0 (by rw [hml]; rfl) (hb hby d2_1) (by decide) (W := 0) (Nat.le_of_eq rfl) (by decide) ?_
  intro T534 X534 e534
  refine E.iloadN (q := 5) X534 hx (hb hby d2_4) rfl ?_
  refine E.ifN (q := 8) X534 hx (hb hby d2_5) (XT.i0_ne_f (by decide)) ?_
  refine E.aloadN (q := 9) X534 hx (hb hby d2_8) rfl rfl ?_
  refine Ends.ldcR X534 hx hZ hown (own_w hw 17 rfl) (own_sat hw) e534 (Nat.zero_le _) (own_EW hw) (List.mem_of_getElem? (i := 0) rfl) HC0.1 (vs := []) (z := 0) (by decide) (by decide) (by decide) (hb hby d2_9) 0 (by decide) (by decide) (by decide) (by decide) ?_
  intro s T535 h535 c535 d535 X535 e535 E535 hc535 hZ hown Ea535 Fc535 Fv535 A535 sf535
  have O535 := O0.ext E535
  have HC536 := HC0.trans hc535
  have f537 := CHr.safe hc535 E0.lt Z0
  have nd535 := sf535 oa f537
  refine Ends.getF X535 hx hZ hown (host := "") (Or.inl (own_w hw 23 rfl)) Via.refl e535 Fv535 (hb hby d2_11) ?_
  intro T538 X538 e538
  have f539 := F_v.ext E535
  have f540 := E0.ext E535
  refine Ends.putF X538 hx hZ hown (host := "") (Or.inl (own_w hw 23 rfl)) Via.refl e538 f539 f540 (Or.inr ⟨(own_w hw 19 rfl), rfl, hnm⟩) (own_w hw 5 rfl) (ty := (.array .byte)) (by decide) rfl rfl (hb hby d2_14) ?_
  intro T541 h541 X541 e541 W541 Fw541
  have O541 := O535.wr W541 (Or.inl (List.mem_of_getElem? (i := 0) rfl))
  have HC542 := HC536.trans (CHr.wr W541 f537 HC536.1)
  refine E.aloadN (q := 18) X541 hx (hb hby d2_17) rfl rfl ?_
  refine Ends.ldcR X541 hx hZ hown (own_w hw 17 rfl) (own_sat hw) e541 (Nat.le_trans (Nat.le_refl _) (own_wr_le W541)) (own_EW hw) (List.mem_of_getElem? (i := 0) rfl) HC542.1 (vs := []) (z := 0) (by decide) (by decide) (by decide) (hb hby d2_18) 0 (by decide) (by decide) (by decide) (by decide) ?_
  intro s T543 h543 c543 d543 X543 e543 E543 hc543 hZ hown Ea543 Fc543 Fv543 A543 sf543
  have O543 := O541.ext E543
  have HC544 := HC542.trans hc543
  have f545 := Safe.wr W541 f537 HC536.1 f537
  have f546 := f540.wr W541
  have f547 := CHr.safe hc543 f546.lt f545
  have nd543 := sf543 oa f547
  refine Ends.getF X543 hx hZ hown (host := "") (Or.inl (own_w hw 24 rfl)) Via.refl e543 Fc543 (hb hby d2_20) ?_
  intro T548 X548 e548
  have f549 := ((F_c.ext E535).other W541 (Or.inr (slot_ne (Or.inr (own_w hw 20 rfl)) (Or.inr (own_w hw 19 rfl)) (by decide) (t := .byte) (t' := (.array .byte)) (by decide) (by decide)))).ext E543
  have f550 := f546.ext E543
  refine Ends.putN X548 hx hZ hown (own_w hw 24 rfl) Via.refl e548 f549 f550 (Or.inr ⟨(own_w hw 20 rfl), rfl, hnm⟩) (own_w hw 5 rfl) (ty := .byte) (v' := .int (0 : Int32)) (by decide) rfl (by decide) (hb hby d2_23) ?_
  intro T551 h551 X551 e551 W551 Fw551
  have O551 := O543.wr W551 (Or.inl (List.mem_of_getElem? (i := 0) rfl))
  have HC552 := HC544.trans (CHr.wr W551 f547 HC544.1)
  have f553 := (Fw541.ext E543).other W551 (Or.inr (slot_ne (Or.inr (own_w hw 19 rfl)) (Or.inr (own_w hw 20 rfl)) (by decide) (t := (.array .byte)) (t' := .byte) (by decide) (by decide)))
  have f554 := ((A535.other W541 (Ne.symm nd535.2)).ext E543).other W551 (Ne.symm nd535.2)
  subst e551
  exact Ends.retV X551 hx hlk hret (hb hby d2_26) (by decide) (by decide) ⟨⟨rfl, _, O551, f553, Fw551, f554⟩, by first | exact (Nat.le_trans (Nat.le_refl _) (own_wr_le W551)) | (rw [e551]; exact (Nat.le_trans (Nat.le_refl _) (own_wr_le W551)))⟩ (hF := own_chret X551 hZ (own_EW hw) HC552 (by first | rfl | assumption))
theorem efI1_0 (m : MethodId) (x0 : Addr) (x1 : Addr) : entryFrame m #[(.ref x0), (.ref x1)] 2 = mkF m 0 #[.val (.ref x0), .val (.ref x1)] [] := by first | (simp [entryFrame, mkF, argsToLocals, Value.category]; done) | rfl
theorem rmI1_0 (l : Launch) (Z : State) (a0 : Array Value) (hw : ∀ d ∈ tables_1, d.before a0 Z = true) (oa : Addr) (oc : Addr) (h0 : Heap) (E0 : Exa Z h0 oa "java/lang/String") (F_v : Fld Z h0 oa "java/lang/String" "value" "[B" .null) (F_c : Fld Z h0 oa "java/lang/String" "coder" "B" (.int (0 : Int32))) (A_c : Ary Z h0 oc .char []) :
    ConH l (⟨"java/lang/String", "<init>", "([C)V"⟩ : MethodName) jdk_42_method_3_code 2 none [] ({ frames := 2, cells := 4, slots := 8, locals := 48 } : Room) #[(.ref oa), (.ref oc)] Z h0 own_EL (fun v h L => v = none ∧ ∃ V, Ok h0 h [oa] L ∧ Fld Z h oa "java/lang/String" "value" "[B" (.ref V) ∧ Fld Z h oa "java/lang/String" "coder" "B" (.int (0 : Int32)) ∧ Ary Z h V .byte []) := by
  refine ConH.of (plainFor_of_name pn_0) ?_
  intro p e s m below meth c s₁ vm0 HC0 hx hZ hby hml hown hnm hret hlk X0 e0
  refine Ends.cast (efI1_0 m oa oc) ?_
  have O0 := Ok.refl h0 [oa]
  refine E.aloadN (q := 1) X0 hx (hb hby d1_0) rfl rfl ?_
  refine E.aloadN (q := 2) X0 hx (hb hby d1_1) rfl rfl ?_
  refine E.iconst (q := 3) (v := (0 : Int32)) X0 hx (hb hby d1_2) rfl ?_
  refine E.aloadN (q := 4) X0 hx (hb hby d1_3) rfl rfl ?_
  refine Ends.alen X0 hx hZ e0 A_c (hb hby d1_4) (n := (0 : Int32)) rfl ?_
  refine E.aconstNull (q := 6) X0 hx (hb hby d1_5) ?_
  refine Ends.callIH X0 hx hZ hown (own_w hw 10 rfl) (own_w hw 11 rfl) (own_w hw 6 rfl) (own_w hw 13 rfl) rfl (by decide) (argsL := [(.ref oc), (.int (0 : Int32)), (.int (0 : Int32)), .null]) (rest := []) e0 (Nat.zero_le _) (own_EW hw) HC0.1 (rmI4_0 l Z a0 hw oa oc _ E0 F_v F_c A_c) (W := 0) (by decide) (by decide) (by rw [hml]; rfl) (lenOf pd_13 rfl) (Nat.le_of_eq rfl) (hb hby d1_6) (by decide) (by decide) rfl ?_
  rintro s T555 v555 L555 X555 hc555 hZ hown ⟨rfl, V555, hO555, a555, b555, d555⟩
  have e555 : T555.heap = T555.heap := rfl
  have O555 := O0.call hO555 (allS (Or.inl (List.mem_of_getElem? (i := 0) rfl)) all0)
  have HC556 := HC0.trans hc555
  exact Ends.retV X555 hx hlk hret (hb hby d1_9) (by decide) (by decide) ⟨⟨rfl, _, hO555, a555, b555, d555⟩, by first | exact (Nat.le_refl _) | (rw [e555]; exact (Nat.le_refl _))⟩ (hF := own_chret X555 hZ (own_EW hw) HC556 (by first | rfl | assumption))
def own_fcode : ByteArray := ⟨#[0x2a, 0xb4, 0x00, 0x0f, 0x1b, 0xb9, 0x00, 0x17, 0x02, 0x00, 0xac]⟩
theorem own_f0 : decode own_fcode 0 = .ok (.aload_n 0, 1) := by decide +kernel
theorem own_f1 : decode own_fcode 1 = .ok (.getfield 15, 3) := by decide +kernel
theorem own_f4 : decode own_fcode 4 = .ok (.iload_n 1, 1) := by decide +kernel
theorem own_f5 : decode own_fcode 5 = .ok (.invokeinterface 23 2, 5) := by decide +kernel
theorem own_f10 : decode own_fcode 10 = .ok (.ireturn, 1) := by decide +kernel
def own_sh : Lambda.Shape := (Jvm.Lambda.Shape.mk "java/util/function/IntUnaryOperator" "applyAsInt" (Jvm.ClassFile.MethodDescriptor.mk ([Jvm.ClassFile.FieldType.int] : List Jvm.ClassFile.FieldType) (Option.some Jvm.ClassFile.FieldType.int)) ([(Jvm.ClassFile.FieldType.object "java/lang/CharSequence")] : List Jvm.ClassFile.FieldType) (9 : Nat) "java/lang/CharSequence" "charAt" (Jvm.ClassFile.MethodDescriptor.mk ([Jvm.ClassFile.FieldType.int] : List Jvm.ClassFile.FieldType) (Option.some Jvm.ClassFile.FieldType.char)) true (Jvm.ClassFile.MethodDescriptor.mk ([Jvm.ClassFile.FieldType.int] : List Jvm.ClassFile.FieldType) (Option.some Jvm.ClassFile.FieldType.int)))
theorem own_fw0 : own_fwd own_sh "com/example/needlework/needlework/match/CompiledPattern" own_fcode 23 19 15 = true := by decide +kernel
theorem own_fw1 : own_fwd own_sh "com/example/needlework/needlework/match/PrefixTable" own_fcode 23 19 15 = true := by decide +kernel
theorem ef_10 (m : MethodId) (x0 : Int32) (x1 : Addr) : entryFrame m #[(.int x0), (.ref x1)] 6 = mkF m 0 #[.val (.int x0), .val (.ref x1), .unset, .unset, .unset, .unset] [] := by first | (simp [entryFrame, mkF, argsToLocals, Value.category]; done) | rfl
theorem rm10 (l : Launch) (Z : State) (a0 : Array Value) (hw : ∀ d ∈ tables_1, d.before a0 Z = true) (oa : Addr) (sa : Addr) (x0 : MethodName) (pc0 index0 : Nat) (cK : ClassId) (one : Option Addr) (hat : Z.lambdaAt? x0 pc0 index0 own_sh = some (cK, one)) (hfw : own_fwd own_sh x0.cls own_fcode 23 19 15 = true) (Va : Addr) (cd : Int32) (bs xs : List Int32) (hS : own_Str cd bs xs) (h6 : xs.length ≤ 6) (h0 : Heap) (LA : LamAt h0 oa cK sa) (Es : Exa Z h0 sa "java/lang/String") (Svs : Fld Z h0 sa "java/lang/String" "value" "[B" (.ref Va)) (Scs : Fld Z h0 sa "java/lang/String" "coder" "B" (.int cd)) (A_x : Ary Z h0 Va .byte (bs.map Value.int)) (cs : Int32) (hcs : ¬ cs = (0 : Int32)) (S0 : Sta Z h0 "java/lang/String" "COMPACT_STRINGS" "Z" (.int cs)) (fv : Value) (hfv : fv = .null ∨ ∃ a, fv = .ref a) (S1 : Sta Z h0 "jdk/internal/util/Preconditions" "SIOOBE_FORMATTER" "Ljava/util/function/BiFunction;" fv) (S2 : Sta Z h0 "java/lang/StringUTF16" "$assertionsDisabled" "Z" (.int (1 : Int32))) (S3 : Sta Z h0 "java/lang/StringUTF16" "HI_BYTE_SHIFT" "I" (.int (0 : Int32))) (S4 : Sta Z h0 "java/lang/StringUTF16" "LO_BYTE_SHIFT" "I" (.int (8 : Int32))) :
    Con l (⟨"com/example/needlework/needlework/match/PrefixTable", "of", "(ILjava/util/function/IntUnaryOperator;)[I"⟩ : MethodName) prog_16_method_4_code 6 (some (.array .int)) [] ({ frames := 6, cells := 1, slots := 6, locals := 150 } : Room) #[(.int (Int32.ofNat xs.length)), (.ref oa)] Z h0 (fun v h L => ∃ b, v = some (.ref b) ∧ h0.size ≤ b ∧ Ok h0 h [] L ∧ Ary Z h b .int ((own_ints (own_kmp xs)).map Value.int) ∧ Exa Z h b "[I") := by
  refine Con.of (plainFor_of_name pn_4) ?_
  intro p e s m below meth c s₁ hx hZ hby hml hown hnm hret hlk X0 e0
  refine Ends.cast (ef_10 m (Int32.ofNat xs.length) oa) ?_
  have O0 := Ok.refl h0 []
  refine E.iloadN (q := 1) X0 hx (hb hby d10_0) rfl ?_
  refine Ends.newAE X0 hx hZ (own_w hw 1 rfl) e0 (hb hby d10_1) (N := xs.length) rfl (by omega) (by decide) (by show 0 + xs.length ≤ 6; omega) (ad := "[I") (by decide) ?_
  intro T557 h557 b557 g557 X557 e557 E557 A557 B557
  have ge_b557 : h0.size ≤ b557 := Nat.le_trans O0.le (Nat.le_of_eq g557.symm)
  have O557 := O0.ext E557
  have V557 : Ary Z h557 b557 .int ((List.replicate xs.length (0 : Int32)).map Value.int) := by rw [List.map_replicate]; exact A557
  refine E.astoreN (q := 4) (l' := #[.val (.int (Int32.ofNat xs.length)), .val (.ref oa), .val (.ref b557), .unset, .unset, .unset]) X557 hx (hb hby d10_3) rfl rfl ?_
  refine E.iconst (q := 5) (v := (0 : Int32)) X557 hx (hb hby d10_4) rfl ?_
  refine E.istoreN (q := 6) (l' := #[.val (.int (Int32.ofNat xs.length)), .val (.ref oa), .val (.ref b557), .val (.int (0 : Int32)), .unset, .unset]) X557 hx (hb hby d10_5) rfl ?_
  refine E.iconst (q := 7) (v := (1 : Int32)) X557 hx (hb hby d10_6) rfl ?_
  refine E.istore (q := 9) (l' := #[.val (.int (Int32.ofNat xs.length)), .val (.ref oa), .val (.ref b557), .val (.int (0 : Int32)), .val (.int (1 : Int32)), .unset]) X557 hx (hb hby d10_7) rfl ?_
  have n_oa : oa ≠ b557 := (Nat.ne_of_lt (Nat.lt_of_lt_of_eq LA.lt g557.symm))
  have n_sa : sa ≠ b557 := (Nat.ne_of_lt (Nat.lt_of_lt_of_eq Es.lt g557.symm))
  have n_Va : Va ≠ b557 := (Nat.ne_of_lt (Nat.lt_of_lt_of_eq A_x.lt g557.symm))
  have J : ∀ mm k, k + mm = xs.length - 1 → ∀ l5 : Slot, (l5 = .unset ∨ ∃ q, l5 = .val (.int q)) → ∀ (Tj : State) (hj : Heap) (lj : List Loc), Stand p l e ({ frames := 6, cells := 1, slots := 6, locals := 150 } : Room) s m #[(.int (Int32.ofNat xs.length)), (.ref oa)] below meth c Tj lj 1 (0 + xs.length) → Tj.heap = hj → Ok h0 hj [] lj → Ary Z hj b557 .int ((own_ints (own_run xs k).1).map Value.int) → Exa Z hj b557 "[I" → Ends none p e below s (fun v h L => ∃ b, v = some (.ref b) ∧ h0.size ≤ b ∧ Ok h0 h [] L ∧ Ary Z h b .int ((own_ints (own_kmp xs)).map Value.int) ∧ Exa Z h b "[I") ({ frames := 6, cells := 1, slots := 6, locals := 150 } : Room).cells ({ frames := 6, cells := 1, slots := 6, locals := 150 } : Room).slots Tj (mkF m 9 #[.val (.int (Int32.ofNat xs.length)), .val (.ref oa), .val (.ref b557), .val (.int (Int32.ofNat (own_run xs k).2)), .val (.int (Int32.ofNat (k + 1))), l5] []) := by
    intro mm
    induction mm with
    | zero =>
      intro k hk l5 hl5 Tj hj lj Xj ej Oj Aj Ej
      refine E.iload (q := 11) Xj hx (hb hby d10_9) rfl ?_
      refine E.iloadN (q := 12) Xj hx (hb hby d10_11) rfl ?_
      refine E.icmpY (q := 76) Xj hx (hb hby d10_12) (XT.ii_ge_t (by rw [own_ltN (by omega) (by omega)]; omega)) ?_
      refine E.aloadN (q := 77) Xj hx (hb hby d10_76) rfl rfl ?_
      have hk' : k = xs.length - 1 := by omega
      subst hk'
      subst ej
      exact Ends.retA Xj hx hlk hret rfl rfl rfl (hb hby d10_77) (by decide) (by show 0 + xs.length ≤ 6; omega) ⟨_, rfl, ge_b557, Oj, Aj, Ej⟩
    | succ mm ih =>
      intro k hk l5 hl5 Tj hj lj Xj ej Oj Aj Ej
      have hk1 : k + 1 < xs.length := by omega
      obtain ⟨x, hxk⟩ : ∃ x, xs[k + 1]? = some x := ⟨_, List.getElem?_eq_getElem hk1⟩
      obtain ⟨ok1, ok2, ok3⟩ := own_run_ok xs k
      refine E.iload (q := 11) Xj hx (hb hby d10_9) rfl ?_
      refine E.iloadN (q := 12) Xj hx (hb hby d10_11) rfl ?_
      refine E.icmpN (q := 15) Xj hx (hb hby d10_12) (XT.ii_ge_f ((own_ltN (by omega) (by omega)).mpr hk1)) ?_
      refine E.aloadN (q := 16) Xj hx (hb hby d10_15) rfl rfl ?_
      refine E.iload (q := 18) Xj hx (hb hby d10_16) rfl ?_
      have f559 := Es.keep Oj.1
      have f560 := Svs.keep Oj.1 nin0
      have f561 := Scs.keep Oj.1 nin0
      have f562 := A_x.keep Oj.1 nin0
      have f563 := LA.keep Oj.1 nin0
      refine Ends.callLam Xj hx hZ hown hat hfw (own_w hw 55 rfl) own_f0 own_f1 own_f4 own_f5 own_f10 (own_w hw 129 rfl) (own_w hw 130 rfl) (own_w hw 131 rfl) (own_w hw 132 rfl) (own_w hw 137 rfl) (own_w hw 133 rfl) (own_w hw 134 rfl) (own_w hw 135 rfl) (own_w hw 136 rfl) (own_w hw 41 rfl) (own_w hw 6 rfl) (own_w hw 138 rfl) (by decide) (by decide) ⟨rfl, rfl, by decide +kernel⟩ ⟨rfl, rfl, by decide +kernel⟩ (lenOf pd_7 rfl) (lenOf pd_14 rfl) (rest := []) ej f563 f559 (own_ca l Z a0 hw sa Va cd bs xs hS (k + 1) x hxk _ f559 f560 f561 f562 cs hcs (own_sta_keep S0 Oj.1 own_ns0) fv hfv (own_sta_keep S1 Oj.1 own_ns0) (own_sta_keep S2 Oj.1 own_ns0) (own_sta_keep S3 Oj.1 own_ns0) (own_sta_keep S4 Oj.1 own_ns0)) (fun _ _ _ q => q.1) (W := 0) (by decide) (by decide) (by rw [hml]; rfl) (Nat.le_of_eq rfl) (hb hby d10_18) (by decide) (by show 0 + xs.length + 0 ≤ 6; omega) ?_
      rintro T558 L558 X558 ⟨-, e558, rfl⟩
      rw [List.append_nil] at X558
      have st5 : storeLocals #[.val (.int (Int32.ofNat xs.length)), .val (.ref oa), .val (.ref b557), .val (.int (Int32.ofNat (own_run xs k).2)), .val (.int (Int32.ofNat (k + 1))), l5] 5 (.int x) = some #[.val (.int (Int32.ofNat xs.length)), .val (.ref oa), .val (.ref b557), .val (.int (Int32.ofNat (own_run xs k).2)), .val (.int (Int32.ofNat (k + 1))), .val (.int x)] := by rcases hl5 with rfl | ⟨q, rfl⟩ <;> rfl
      refine E.istore (q := 25) (l' := #[.val (.int (Int32.ofNat xs.length)), .val (.ref oa), .val (.ref b557), .val (.int (Int32.ofNat (own_run xs k).2)), .val (.int (Int32.ofNat (k + 1))), .val (.int x)]) X558 hx (hb hby d10_23) st5 ?_
      obtain ⟨F, hF⟩ : ∃ F, own_fall xs (own_run xs k).1 x (k + 1) (own_run xs k).2 = F := ⟨_, rfl⟩
      have hFk : F ≤ k := by rw [← hF]; exact Nat.le_trans (own_fall_le ok2 _ _) ok3
      have K5 :  ∀ Tf : State, Stand p l e ({ frames := 6, cells := 1, slots := 6, locals := 150 } : Room) s m #[(.int (Int32.ofNat xs.length)), (.ref oa)] below meth c Tf lj 1 (0 + xs.length) → Tf.heap = hj → Ends none p e below s (fun v h L => ∃ b, v = some (.ref b) ∧ h0.size ≤ b ∧ Ok h0 h [] L ∧ Ary Z h b .int ((own_ints (own_kmp xs)).map Value.int) ∧ Exa Z h b "[I") ({ frames := 6, cells := 1, slots := 6, locals := 150 } : Room).cells ({ frames := 6, cells := 1, slots := 6, locals := 150 } : Room).slots Tf (mkF m 50 #[.val (.int (Int32.ofNat xs.length)), .val (.ref oa), .val (.ref b557), .val (.int (Int32.ofNat F)), .val (.int (Int32.ofNat (k + 1))), .val (.int x)] []) := by
        intro Tf Xf ef
        obtain ⟨y, hyF⟩ : ∃ y, xs[F]? = some y := ⟨_, List.getElem?_eq_getElem (by omega)⟩
        refine E.aloadN (q := 51) Xf hx (hb hby d10_50) rfl rfl ?_
        refine E.iloadN (q := 52) Xf hx (hb hby d10_51) rfl ?_
        refine Ends.callLam Xf hx hZ hown hat hfw (own_w hw 55 rfl) own_f0 own_f1 own_f4 own_f5 own_f10 (own_w hw 129 rfl) (own_w hw 130 rfl) (own_w hw 131 rfl) (own_w hw 132 rfl) (own_w hw 137 rfl) (own_w hw 133 rfl) (own_w hw 134 rfl) (own_w hw 135 rfl) (own_w hw 136 rfl) (own_w hw 41 rfl) (own_w hw 6 rfl) (own_w hw 138 rfl) (by decide) (by decide) ⟨rfl, rfl, by decide +kernel⟩ ⟨rfl, rfl, by decide +kernel⟩ (lenOf pd_7 rfl) (lenOf pd_14 rfl) (rest := []) ef f563 f559 (own_ca l Z a0 hw sa Va cd bs xs hS (F) y hyF _ f559 f560 f561 f562 cs hcs (own_sta_keep S0 Oj.1 own_ns0) fv hfv (own_sta_keep S1 Oj.1 own_ns0) (own_sta_keep S2 Oj.1 own_ns0) (own_sta_keep S3 Oj.1 own_ns0) (own_sta_keep S4 Oj.1 own_ns0)) (fun _ _ _ q => q.1) (W := 0) (by decide) (by decide) (by rw [hml]; rfl) (Nat.le_of_eq rfl) (hb hby d10_52) (by decide) (by show 0 + xs.length + 0 ≤ 6; omega) ?_
        rintro T564 L564 X564 ⟨-, e564, rfl⟩
        rw [List.append_nil] at X564
        refine E.iload (q := 59) X564 hx (hb hby d10_57) rfl ?_
        by_cases hq : y = x
        · refine E.icmpN (q := 62) X564 hx (hb hby d10_59) (XT.ii_ne_f hq) ?_
          refine E.iinc (q := 65) (v := ((Int32.ofNat F) + (1 : Int32))) (l' := #[.val (.int (Int32.ofNat xs.length)), .val (.ref oa), .val (.ref b557), .val (.int ((Int32.ofNat F) + (1 : Int32))), .val (.int (Int32.ofNat (k + 1))), .val (.int x)]) X564 hx (hb hby d10_62) rfl rfl rfl ?_
          rw [own_succ F]
          refine E.aloadN (q := 66) X564 hx (hb hby d10_65) rfl rfl ?_
          refine E.iload (q := 68) X564 hx (hb hby d10_66) rfl ?_
          refine E.iloadN (q := 69) X564 hx (hb hby d10_68) rfl ?_
          refine Ends.ist X564 hx hZ e564 Aj (i := k + 1) rfl (by rw [List.length_map, own_ints_len, ok1]; exact hk1) (hb hby d10_69) ?_
          intro T565 h565 X565 e565 W565 V565
          have hrs := own_run_succ (l2 := F + 1) hxk hF (by rw [hyF, hq, if_pos rfl])
          have hr1 : (own_run xs (k + 1)).2 = F + 1 := by rw [hrs]
          have V2565 : Ary Z h565 b557 .int ((own_ints (own_run xs (k + 1)).1).map Value.int) := by rw [hrs, ← own_ints_set, List.map_set]; exact V565
          have O565 := Oj.wr W565 (Or.inr ge_b557)
          refine E.iinc (q := 73) (v := ((Int32.ofNat (k + 1)) + (1 : Int32))) (l' := #[.val (.int (Int32.ofNat xs.length)), .val (.ref oa), .val (.ref b557), .val (.int (Int32.ofNat (F + 1))), .val (.int ((Int32.ofNat (k + 1)) + (1 : Int32))), .val (.int x)]) X565 hx (hb hby d10_70) rfl rfl rfl ?_
          refine E.goto (q := 9) X565 hx (hb hby d10_73) ?_
          rw [own_succ (k + 1), ← hr1]
          have f566 := Ej.wr W565
          exact ih (k + 1) (by omega) _ (Or.inr ⟨_, rfl⟩) _ _ _ X565 e565 O565 V2565 f566
        · refine E.icmpY (q := 65) X564 hx (hb hby d10_59) (XT.ii_ne_t hq) ?_
          refine E.aloadN (q := 66) X564 hx (hb hby d10_65) rfl rfl ?_
          refine E.iload (q := 68) X564 hx (hb hby d10_66) rfl ?_
          refine E.iloadN (q := 69) X564 hx (hb hby d10_68) rfl ?_
          refine Ends.ist X564 hx hZ e564 Aj (i := k + 1) rfl (by rw [List.length_map, own_ints_len, ok1]; exact hk1) (hb hby d10_69) ?_
          intro T567 h567 X567 e567 W567 V567
          have hrs := own_run_succ (l2 := F) hxk hF (by rw [hyF, if_neg (fun q => hq (Option.some.inj q))])
          have hr1 : (own_run xs (k + 1)).2 = F := by rw [hrs]
          have V2567 : Ary Z h567 b557 .int ((own_ints (own_run xs (k + 1)).1).map Value.int) := by rw [hrs, ← own_ints_set, List.map_set]; exact V567
          have O567 := Oj.wr W567 (Or.inr ge_b557)
          refine E.iinc (q := 73) (v := ((Int32.ofNat (k + 1)) + (1 : Int32))) (l' := #[.val (.int (Int32.ofNat xs.length)), .val (.ref oa), .val (.ref b557), .val (.int (Int32.ofNat F)), .val (.int ((Int32.ofNat (k + 1)) + (1 : Int32))), .val (.int x)]) X567 hx (hb hby d10_70) rfl rfl rfl ?_
          refine E.goto (q := 9) X567 hx (hb hby d10_73) ?_
          rw [own_succ (k + 1), ← hr1]
          have f568 := Ej.wr W567
          exact ih (k + 1) (by omega) _ (Or.inr ⟨_, rfl⟩) _ _ _ X567 e567 O567 V2567 f568
      have G : ∀ f len, len ≤ f → len ≤ k → own_fall xs (own_run xs k).1 x f len = F → ∀ Tg : State, Stand p l e ({ frames := 6, cells := 1, slots := 6, locals := 150 } : Room) s m #[(.int (Int32.ofNat xs.length)), (.ref oa)] below meth c Tg lj 1 (0 + xs.length) → Tg.heap = hj → Ends none p e below s (fun v h L => ∃ b, v = some (.ref b) ∧ h0.size ≤ b ∧ Ok h0 h [] L ∧ Ary Z h b .int ((own_ints (own_kmp xs)).map Value.int) ∧ Exa Z h b "[I") ({ frames := 6, cells := 1, slots := 6, locals := 150 } : Room).cells ({ frames := 6, cells := 1, slots := 6, locals := 150 } : Room).slots Tg (mkF m 25 #[.val (.int (Int32.ofNat xs.length)), .val (.ref oa), .val (.ref b557), .val (.int (Int32.ofNat len)), .val (.int (Int32.ofNat (k + 1))), .val (.int x)] []) := by
        intro f
        induction f with
        | zero =>
          intro len hlf hlk hfa Tg Xg eg
          obtain rfl : len = 0 := by omega
          obtain rfl : 0 = F := hfa
          refine E.iloadN (q := 26) Xg hx (hb hby d10_25) rfl ?_
          refine E.ifY (q := 50) Xg hx (hb hby d10_26) (XT.i0_le_t (by decide)) ?_
          exact K5 _ Xg eg
        | succ f ih2 =>
          intro len hlf hlk hfa Tg Xg eg
          by_cases hl0 : len = 0
          · subst hl0
            obtain rfl : 0 = F := by rw [← hfa]; simp [own_fall]
            refine E.iloadN (q := 26) Xg hx (hb hby d10_25) rfl ?_
            refine E.ifY (q := 50) Xg hx (hb hby d10_26) (XT.i0_le_t (by decide)) ?_
            exact K5 _ Xg eg
          · obtain ⟨y, hyl⟩ : ∃ y, xs[len]? = some y := ⟨_, List.getElem?_eq_getElem (by omega)⟩
            refine E.iloadN (q := 26) Xg hx (hb hby d10_25) rfl ?_
            refine E.ifN (q := 29) Xg hx (hb hby d10_26) (XT.i0_le_f (by rw [show (0 : Int32) = Int32.ofNat 0 from rfl, own_ltN (by omega) (by omega)]; omega)) ?_
            refine E.aloadN (q := 30) Xg hx (hb hby d10_29) rfl rfl ?_
            refine E.iloadN (q := 31) Xg hx (hb hby d10_30) rfl ?_
            refine Ends.callLam Xg hx hZ hown hat hfw (own_w hw 55 rfl) own_f0 own_f1 own_f4 own_f5 own_f10 (own_w hw 129 rfl) (own_w hw 130 rfl) (own_w hw 131 rfl) (own_w hw 132 rfl) (own_w hw 137 rfl) (own_w hw 133 rfl) (own_w hw 134 rfl) (own_w hw 135 rfl) (own_w hw 136 rfl) (own_w hw 41 rfl) (own_w hw 6 rfl) (own_w hw 138 rfl) (by decide) (by decide) ⟨rfl, rfl, by decide +kernel⟩ ⟨rfl, rfl, by decide +kernel⟩ (lenOf pd_7 rfl) (lenOf pd_14 rfl) (rest := []) eg f563 f559 (own_ca l Z a0 hw sa Va cd bs xs hS (len) y hyl _ f559 f560 f561 f562 cs hcs (own_sta_keep S0 Oj.1 own_ns0) fv hfv (own_sta_keep S1 Oj.1 own_ns0) (own_sta_keep S2 Oj.1 own_ns0) (own_sta_keep S3 Oj.1 own_ns0) (own_sta_keep S4 Oj.1 own_ns0)) (fun _ _ _ q => q.1) (W := 0) (by decide) (by decide) (by rw [hml]; rfl) (Nat.le_of_eq rfl) (hb hby d10_31) (by decide) (by show 0 + xs.length + 0 ≤ 6; omega) ?_
            rintro T569 L569 X569 ⟨-, e569, rfl⟩
            rw [List.append_nil] at X569
            refine E.iload (q := 38) X569 hx (hb hby d10_36) rfl ?_
            by_cases hq : y = x
            · refine E.icmpY (q := 50) X569 hx (hb hby d10_38) (XT.ii_eq_t hq) ?_
              obtain rfl : len = F := by rw [← hfa]; simp only [own_fall]; rw [if_neg hl0, hyl, hq, if_pos rfl]
              exact K5 _ X569 e569
            · refine E.icmpN (q := 41) X569 hx (hb hby d10_38) (XT.ii_eq_f hq) ?_
              refine E.aloadN (q := 42) X569 hx (hb hby d10_41) rfl rfl ?_
              refine E.iloadN (q := 43) X569 hx (hb hby d10_42) rfl ?_
              refine E.iconst (q := 44) (v := (1 : Int32)) X569 hx (hb hby d10_43) rfl ?_
              refine E.isub (q := 45) X569 hx (hb hby d10_44) ?_
              rw [own_pred (by omega)]
              refine Ends.ild X569 hx hZ e569 Aj (i := (len - 1)) (v := .int (Int32.ofNat ((own_run xs k).1.getD (len - 1) 0))) rfl (by rw [List.getElem?_map, (own_ints_at (by rw [ok1]; omega))]; rfl) (hb hby d10_45) ?_
              refine E.istoreN (q := 47) (l' := #[.val (.int (Int32.ofNat xs.length)), .val (.ref oa), .val (.ref b557), .val (.int (Int32.ofNat ((own_run xs k).1.getD (len - 1) 0))), .val (.int (Int32.ofNat (k + 1))), .val (.int x)]) X569 hx (hb hby d10_46) rfl ?_
              refine E.goto (q := 25) X569 hx (hb hby d10_47) ?_
              have hd1 := ok2 (len - 1)
              exact ih2 ((own_run xs k).1.getD (len - 1) 0) (by omega) (by omega) (by rw [← hfa]; simp only [own_fall]; rw [if_neg hl0, hyl, if_neg (fun e => hq (Option.some.inj e))]) _ X569 e569
      exact G (k + 1) (own_run xs k).2 (by omega) ok3 hF _ X558 e558
  exact J (xs.length - 1) 0 (by omega) _ (Or.inl rfl) _ _ _ X557 e557 O557 (by show Ary Z _ _ _ ((own_ints (List.replicate xs.length 0)).map Value.int); rw [own_ints0]; exact V557) B557
theorem ef_5 (m : MethodId) (x0 : Addr) (x1 : Addr) : entryFrame m #[(.ref x0), (.ref x1)] 2 = mkF m 0 #[.val (.ref x0), .val (.ref x1)] [] := by first | (simp [entryFrame, mkF, argsToLocals, Value.category]; done) | rfl
theorem rm5 (l : Launch) (Z : State) (a0 : Array Value) (hw : ∀ d ∈ tables_1, d.before a0 Z = true) (oa : Addr) (om : Addr) (h0 : Heap) :
    Con l (⟨"java/util/Objects", "requireNonNull", "(Ljava/lang/Object;Ljava/lang/String;)Ljava/lang/Object;"⟩ : MethodName) jdk_31_method_11_code 2 (some (.object "java/lang/Object")) [] ({ frames := 0, cells := 0, slots := 0, locals := 0 } : Room) #[(.ref oa), (.ref om)] Z h0 (fun v h L => v = some (.ref oa) ∧ h = h0 ∧ L = []) := by
  refine Con.of (plainFor_of_name pn_5) ?_
  intro p e s m below meth c s₁ hx hZ hby hml hown hnm hret hlk X0 e0
  refine Ends.cast (ef_5 m oa om) ?_
  refine E.aloadN (q := 1) X0 hx (hb hby d5_0) rfl rfl ?_
  refine E.nonnullY (q := 13) X0 hx (hb hby d5_1) ?_
  refine E.aloadN (q := 14) X0 hx (hb hby d5_13) rfl rfl ?_
  exact Ends.retA X0 hx hlk hret rfl rfl rfl (hb hby d5_14) (by decide) (by decide) ⟨rfl, e0, rfl⟩
theorem ef_8 (m : MethodId) (x0 : Addr) : entryFrame m #[(.ref x0)] 1 = mkF m 0 #[.val (.ref x0)] [] := by first | (simp [entryFrame, mkF, argsToLocals, Value.category]; done) | rfl
theorem rm8 (l : Launch) (Z : State) (a0 : Array Value) (hw : ∀ d ∈ tables_1, d.before a0 Z = true) (oa : Addr) (h0 : Heap) :
    Con l (⟨"java/util/Objects", "requireNonNull", "(Ljava/lang/Object;)Ljava/lang/Object;"⟩ : MethodName) jdk_31_method_10_code 1 (some (.object "java/lang/Object")) [] ({ frames := 0, cells := 0, slots := 0, locals := 0 } : Room) #[(.ref oa)] Z h0 (fun v h L => v = some (.ref oa) ∧ h = h0 ∧ L = []) := by
  refine Con.of (plainFor_of_name pn_5) ?_
  intro p e s m below meth c s₁ hx hZ hby hml hown hnm hret hlk X0 e0
  refine Ends.cast (ef_8 m oa) ?_
  refine E.aloadN (q := 1) X0 hx (hb hby d8_0) rfl rfl ?_
  refine E.nonnullY (q := 12) X0 hx (hb hby d8_1) ?_
  refine E.aloadN (q := 13) X0 hx (hb hby d8_12) rfl rfl ?_
  exact Ends.retA X0 hx hlk hret rfl rfl rfl (hb hby d8_13) (by decide) (by decide) ⟨rfl, e0, rfl⟩
theorem ef_9 (m : MethodId) (x0 : Addr) : entryFrame m #[(.ref x0)] 1 = mkF m 0 #[.val (.ref x0)] [] := by first | (simp [entryFrame, mkF, argsToLocals, Value.category]; done) | rfl
theorem rm9 (l : Launch) (Z : State) (a0 : Array Value) (hw : ∀ d ∈ tables_1, d.before a0 Z = true) (sa : Addr) (Va : Addr) (cd : Int32) (bs xs : List Int32) (hS : own_Str cd bs xs) (h6 : xs.length ≤ 6) (h0 : Heap) (Es : Exa Z h0 sa "java/lang/String") (Svs : Fld Z h0 sa "java/lang/String" "value" "[B" (.ref Va)) (Scs : Fld Z h0 sa "java/lang/String" "coder" "B" (.int cd)) (A_x : Ary Z h0 Va .byte (bs.map Value.int)) (cs : Int32) (hcs : ¬ cs = (0 : Int32)) (S0 : Sta Z h0 "java/lang/String" "COMPACT_STRINGS" "Z" (.int cs)) (fv : Value) (hfv : fv = .null ∨ ∃ a, fv = .ref a) (S1 : Sta Z h0 "jdk/internal/util/Preconditions" "SIOOBE_FORMATTER" "Ljava/util/function/BiFunction;" fv) (S2 : Sta Z h0 "java/lang/StringUTF16" "$assertionsDisabled" "Z" (.int (1 : Int32))) (S3 : Sta Z h0 "java/lang/StringUTF16" "HI_BYTE_SHIFT" "I" (.int (0 : Int32))) (S4 : Sta Z h0 "java/lang/StringUTF16" "LO_BYTE_SHIFT" "I" (.int (8 : Int32))) :
    ConH l (⟨"com/example/needlework/needlework/match/PrefixTable", "of", "(Ljava/lang/CharSequence;)[I"⟩ : MethodName) prog_16_method_2_code 1 (some (.array .int)) [] ({ frames := 7, cells := 4, slots := 39, locals := 3090 } : Room) #[(.ref sa)] Z h0 own_EL (fun v h L => ∃ b, v = some (.ref b) ∧ h0.size ≤ b ∧ Ok h0 h [] L ∧ Ary Z h b .int ((own_ints (own_kmp xs)).map Value.int) ∧ Exa Z h b "[I") := by
  refine ConH.ofN (plainFor_of_name pn_4) ?_
  intro p e s m below meth c s₁ vm0 HC0 hx hZ hby hml hown hnm hret hlk X0 e0 hmn
  refine Ends.cast (ef_9 m sa) ?_
  have O0 := Ok.refl h0 []
  refine E.aloadN (q := 1) X0 hx (hb hby d9_0) rfl rfl ?_
  refine Ends.ldcO X0 hx hZ hown (own_w hw 60 rfl) (own_sat hw) e0 (Nat.zero_le _) (own_EW hw) HC0.1 (hb hby d9_1) 28 (by decide) (by decide) (by decide) (by decide) ?_
  intro s T570 h570 c570 X570 e570 E570 hc570 hZ hown
  have O570 := O0.ext E570
  have HC571 := HC0.trans hc570
  refine Ends.callS X570 hx hZ hown (own_w hw 61 rfl) (own_w hw 31 rfl) (own_w hw 32 rfl) (own_w hw 33 rfl) (by decide) (argsL := [(.ref sa), (.ref c570)]) (rest := []) e570 (rm5 l Z a0 hw sa c570 _) (W := 0) (by decide) (by decide) (by rw [hml]; rfl) (lenOf pd_15 rfl) (Nat.le_of_eq rfl) (hb hby d9_3) (by decide) (by decide) rfl ?_
  rintro T572 v572 L572 X572 ⟨rfl, e572, rfl⟩
  rw [List.append_nil] at X572
  refine E.pop (q := 7) X572 hx (hb hby d9_6) rfl ?_
  refine E.aloadN (q := 8) X572 hx (hb hby d9_7) rfl rfl ?_
  have f573 := Es.ext E570
  have f574 := Svs.ext E570
  have f575 := Scs.ext E570
  have f576 := A_x.ext E570
  refine Ends.callF X572 hx hZ hown (own_w hw 62 rfl) (own_w hw 35 rfl) (own_w hw 36 rfl) (own_w hw 37 rfl) (own_w hw 38 rfl) (own_w hw 39 rfl) (own_w hw 40 rfl) (own_w hw 41 rfl) (own_w hw 6 rfl) (own_w hw 42 rfl) (by decide) (argsL := []) (rest := []) e572 f573 (own_len l Z a0 hw sa Va cd bs xs hS _ f573 f574 f575 f576 cs hcs (own_sta_keep S0 O570.1 own_ns0)) (W := 0) (by decide) (by decide) (by rw [hml]; rfl) (lenOf pd_16 rfl) (Nat.le_of_eq rfl) (hb hby d9_8) (by decide) (by decide) rfl ?_
  rintro T577 v577 L577 X577 ⟨rfl, e577, rfl⟩
  rw [List.append_nil] at X577
  refine E.aloadN (q := 14) X577 hx (hb hby d9_13) rfl rfl ?_
  refine E.dup (q := 15) X577 hx (hb hby d9_14) rfl ?_
  refine Ends.callS X577 hx hZ hown (own_w hw 63 rfl) (own_w hw 50 rfl) (own_w hw 32 rfl) (own_w hw 51 rfl) (by decide) (argsL := [(.ref sa)]) (rest := [(.ref sa), (.int (Int32.ofNat xs.length))]) e577 (rm8 l Z a0 hw sa _) (W := 2) (by decide) (by decide) (by rw [hml]; rfl) (lenOf pd_17 rfl) (Nat.le_of_eq rfl) (hb hby d9_15) (by decide) (by decide) rfl ?_
  rintro T578 v578 L578 X578 ⟨rfl, e578, rfl⟩
  rw [List.append_nil] at X578
  refine E.pop (q := 19) X578 hx (hb hby d9_18) rfl ?_
  refine Ends.site (σ := own_sh) (C0 := "java/lang/CharSequence") X578 hx hZ (x := ({ cls := "com/example/needlework/needlework/match/PrefixTable", name := "of", desc := "(Ljava/lang/CharSequence;)[I" } : Jvm.MethodName)) hmn (own_w hw 64 rfl) rfl own_fw1 (own_w hw 55 rfl) e578 (sa := sa) (st := [(.int (Int32.ofNat xs.length))]) (by rw [hml]; rfl) (W := 1) (Nat.le_of_eq rfl) (by decide) (hb hby d9_19) (by decide) (by decide) ?_
  intro T579 h579 b579 cK579 one579 g579 hat579 X579 e579 E579 A579
  have ge_b579 : h0.size ≤ b579 := Nat.le_trans O570.le (Nat.le_of_eq g579.symm)
  have O579 := O570.ext E579
  have HC580 := HC571.trans (CHr.ext E579 HC571.1)
  have LA579 : LamAt h579 b579 cK579 sa := A579
  have f581 := f573.ext E579
  have f582 := f574.ext E579
  have f583 := f575.ext E579
  have f584 := f576.ext E579
  refine Ends.callS X579 hx hZ hown (own_w hw 65 rfl) (own_w hw 66 rfl) (own_w hw 58 rfl) (own_w hw 67 rfl) (by decide) (argsL := [(.int (Int32.ofNat xs.length)), (.ref b579)]) (rest := []) e579 (rm10 l Z a0 hw b579 sa ({ cls := "com/example/needlework/needlework/match/PrefixTable", name := "of", desc := "(Ljava/lang/CharSequence;)[I" } : Jvm.MethodName) 19 24 cK579 one579 hat579 own_fw1 Va cd bs xs hS h6 _ LA579 f581 f582 f583 f584 cs hcs (own_sta_keep S0 O579.1 own_ns0) fv hfv (own_sta_keep S1 O579.1 own_ns0) (own_sta_keep S2 O579.1 own_ns0) (own_sta_keep S3 O579.1 own_ns0) (own_sta_keep S4 O579.1 own_ns0)) (W := 0) (by decide) (by decide) (by rw [hml]; rfl) (lenOf pd_18 rfl) (Nat.le_of_eq rfl) (hb hby d9_24) (by decide) (by decide) rfl ?_
  rintro T585 v585 L585 X585 ⟨b585, rfl, gb585, hO585, V585, EX585⟩
  have e585 : T585.heap = T585.heap := rfl
  have O585 := O579.call hO585 all0
  have HC586 := HC580.trans (CHr.keep hO585.1 (own_all0) HC580.1)
  have ge2 : h0.size ≤ b585 := Nat.le_trans O579.le gb585
  exact Ends.retA X585 hx hlk hret rfl rfl rfl (hb hby d9_27) (by decide) (by decide) ⟨⟨_, rfl, ge2, O585, V585, EX585⟩, by first | exact (Nat.le_trans (Nat.le_trans (Nat.le_refl _) E579.1) hO585.1.1) | (rw [e585]; exact (Nat.le_trans (Nat.le_trans (Nat.le_refl _) E579.1) hO585.1.1))⟩ (hF := own_chret X585 hZ (own_EW hw) HC586 (by first | rfl | assumption))
theorem ef_12 (m : MethodId) (x0 : Int32) (x1 : Int32) : entryFrame m #[(.int x0), (.int x1)] 2 = mkF m 0 #[.val (.int x0), .val (.int x1)] [] := by first | (simp [entryFrame, mkF, argsToLocals, Value.category]; done) | rfl
theorem rm12 (l : Launch) (Z : State) (a0 : Array Value) (hw : ∀ d ∈ tables_1, d.before a0 Z = true) (na nb : Nat) (hna : na < 2 ^ 31) (hnb : nb < 2 ^ 31) (h0 : Heap) :
    Con l (⟨"java/lang/Math", "min", "(II)I"⟩ : MethodName) jdk_29_method_69_code 2 (some .int) [] ({ frames := 0, cells := 0, slots := 0, locals := 0 } : Room) #[(.int (Int32.ofNat na)), (.int (Int32.ofNat nb))] Z h0 (fun v h L => v = some (.int (Int32.ofNat (min na nb))) ∧ h = h0 ∧ L = []) := by
  refine Con.of (Jvm.Free.JP.mathPlain rfl (by decide +kernel)) ?_
  intro p e s m below meth c s₁ hx hZ hby hml hown hnm hret hlk X0 e0
  refine Ends.cast (ef_12 m (Int32.ofNat na) (Int32.ofNat nb)) ?_
  refine E.iloadN (q := 1) X0 hx (hb hby d12_0) rfl ?_
  refine E.iloadN (q := 2) X0 hx (hb hby d12_1) rfl ?_
  by_cases hq : (Int32.ofNat nb) < (Int32.ofNat na)
  · refine E.icmpY (q := 9) X0 hx (hb hby d12_2) (XT.ii_gt_t hq) ?_
    have hq' := (own_ltN hnb hna).mp hq
    refine E.iloadN (q := 10) X0 hx (hb hby d12_9) rfl ?_
    exact Ends.retI X0 hx hlk hret (hb hby d12_10) (by decide) (by decide) ⟨by rw [Nat.min_eq_right (by omega)], e0, rfl⟩
  · refine E.icmpN (q := 5) X0 hx (hb hby d12_2) (XT.ii_gt_f hq) ?_
    have hq' : ¬ nb < na := fun q => hq ((own_ltN hnb hna).mpr q)
    refine E.iloadN (q := 6) X0 hx (hb hby d12_5) rfl ?_
    refine E.goto (q := 10) X0 hx (hb hby d12_6) ?_
    exact Ends.retI X0 hx hlk hret (hb hby d12_10) (by decide) (by decide) ⟨by rw [Nat.min_eq_left (by omega)], e0, rfl⟩
theorem ef_27 (m : MethodId) (x0 : Addr) (x1 : Addr) (x2 : Int32) (x3 : Int32) (x4 : Int32) : entryFrame m #[(.ref x0), (.ref x1), (.int x2), (.int x3), (.int x4)] 7 = mkF m 0 #[.val (.ref x0), .val (.ref x1), .val (.int x2), .val (.int x3), .val (.int x4), .unset, .unset] [] := by first | (simp [entryFrame, mkF, argsToLocals, Value.category]; done) | rfl
theorem rm27 (l : Launch) (Z : State) (a0 : Array Value) (hw : ∀ d ∈ tables_1, d.before a0 Z = true) (pa : Addr) (ra : Addr) (r : Int32) (len cn ix : Nat) (ps rs : List Int32) (hl1 : 1 ≤ len) (hl3 : len ≤ 3) (hcl : cn ≤ len) (hps : ps.length = len) (hrs : rs.length = len) (hpm : own_posI rs r cn ≤ min cn (len - 1)) (h0 : Heap) (A_p : Ary Z h0 pa .int (ps.map Value.int)) (A_r : Ary Z h0 ra .int (rs.map Value.int)) (hne : pa ≠ ra) :
    Con l (⟨"com/example/needlework/needlework/match/CompiledPattern", "pick", "([I[IIII)I"⟩ : MethodName) prog_14_method_10_code 7 (some .int) [] ({ frames := 1, cells := 0, slots := 0, locals := 40 } : Room) #[(.ref pa), (.ref ra), (.int (Int32.ofNat cn)), (.int (Int32.ofNat ix)), (.int r)] Z h0 (fun v h L => v = some (.int (Int32.ofNat (min cn (len - 1) + 1))) ∧ Ok h0 h [pa, ra] L ∧ Ary Z h pa .int ((own_ins ps (own_posI rs r cn) (min cn (len - 1)) (Int32.ofNat ix)).map Value.int) ∧ Ary Z h ra .int ((own_ins rs (own_posI rs r cn) (min cn (len - 1)) r).map Value.int)) := by
  refine Con.of (plainFor_of_name pn_6) ?_
  intro p e s m below meth c s₁ hx hZ hby hml hown hnm hret hlk X0 e0
  refine Ends.cast (ef_27 m pa ra (Int32.ofNat cn) (Int32.ofNat ix) r) ?_
  have O0 := Ok.refl h0 [pa, ra]
  obtain ⟨P, hP⟩ : ∃ P, own_posI rs r cn = P := ⟨_, rfl⟩
  obtain ⟨M, hM⟩ : ∃ M, min cn (len - 1) = M := ⟨_, rfl⟩
  rw [hP, hM] at hpm
  have hMl : M < len := by omega
  refine E.iloadN (q := 1) X0 hx (hb hby d27_0) rfl ?_
  refine E.istore (q := 3) (l' := #[.val (.ref pa), .val (.ref ra), .val (.int (Int32.ofNat cn)), .val (.int (Int32.ofNat ix)), .val (.int r), .val (.int (Int32.ofNat cn)), .unset]) X0 hx (hb hby d27_1) rfl ?_
  have K2 :  ∀ Tj : State, Stand p l e ({ frames := 1, cells := 0, slots := 0, locals := 40 } : Room) s m #[(.ref pa), (.ref ra), (.int (Int32.ofNat cn)), (.int (Int32.ofNat ix)), (.int r)] below meth c Tj [] 0 0 → Tj.heap = h0 → Ends none p e below s (fun v h L => v = some (.int (Int32.ofNat (min cn (len - 1) + 1))) ∧ Ok h0 h [pa, ra] L ∧ Ary Z h pa .int ((own_ins ps (own_posI rs r cn) (min cn (len - 1)) (Int32.ofNat ix)).map Value.int) ∧ Ary Z h ra .int ((own_ins rs (own_posI rs r cn) (min cn (len - 1)) r).map Value.int)) ({ frames := 1, cells := 0, slots := 0, locals := 40 } : Room).cells ({ frames := 1, cells := 0, slots := 0, locals := 40 } : Room).slots Tj (mkF m 25 #[.val (.ref pa), .val (.ref ra), .val (.int (Int32.ofNat cn)), .val (.int (Int32.ofNat ix)), .val (.int r), .val (.int (Int32.ofNat P)), .unset] []) := by
    intro Tj Xj ej
    refine E.iloadN (q := 26) Xj hx (hb hby d27_25) rfl ?_
    refine E.aloadN (q := 27) Xj hx (hb hby d27_26) rfl rfl ?_
    refine Ends.alen Xj hx hZ ej A_p (hb hby d27_27) (n := (Int32.ofNat len)) (by rw [List.length_map, hps]) ?_
    refine E.iconst (q := 29) (v := (1 : Int32)) Xj hx (hb hby d27_28) rfl ?_
    refine E.isub (q := 30) Xj hx (hb hby d27_29) ?_
    rw [own_pred hl1]
    refine Ends.callS Xj hx hZ hown (own_w hw 71 rfl) (own_w hw 72 rfl) (own_w hw 73 rfl) (own_w hw 74 rfl) (by decide) (argsL := [(.int (Int32.ofNat cn)), (.int (Int32.ofNat (len - 1)))]) (rest := []) ej (rm12 l Z a0 hw cn (len - 1) (by omega) (by omega) _) (W := 0) (by decide) (by decide) (by rw [hml]; rfl) (lenOf pd_19 rfl) (Nat.le_of_eq rfl) (hb hby d27_30) (by decide) (by decide) rfl ?_
    rintro T587 v587 L587 X587 ⟨rfl, e587, rfl⟩
    rw [List.append_nil] at X587
    rw [hM]
    refine E.istore (q := 35) (l' := #[.val (.ref pa), .val (.ref ra), .val (.int (Int32.ofNat cn)), .val (.int (Int32.ofNat ix)), .val (.int r), .val (.int (Int32.ofNat P)), .val (.int (Int32.ofNat M))]) X587 hx (hb hby d27_33) rfl ?_
    refine E.aloadN (q := 36) X587 hx (hb hby d27_35) rfl rfl ?_
    refine E.iload (q := 38) X587 hx (hb hby d27_36) rfl ?_
    refine E.aloadN (q := 39) X587 hx (hb hby d27_38) rfl rfl ?_
    refine E.iload (q := 41) X587 hx (hb hby d27_39) rfl ?_
    refine E.iconst (q := 42) (v := (1 : Int32)) X587 hx (hb hby d27_41) rfl ?_
    refine E.iadd (q := 43) X587 hx (hb hby d27_42) ?_
    refine E.iload (q := 45) X587 hx (hb hby d27_43) rfl ?_
    refine E.iload (q := 47) X587 hx (hb hby d27_45) rfl ?_
    refine E.isub (q := 48) X587 hx (hb hby d27_47) ?_
    rw [own_succ P, own_subN' hpm]
    refine Ends.cpy X587 hx hZ hown (own_w hw 162 rfl) (own_w hw 165 rfl) (own_w hw 163 rfl) (own_w hw 164 rfl) e587 A_p (sp := P) (dp := P + 1) (nn := M - P) (by omega) (by omega) (by rw [hml]; rfl) (hb hby d27_48) (by decide) (W := 0) (Nat.le_of_eq rfl) (by decide) ?_
    intro T588 h588 L588 X588 e588 hO588 V588
    have O588 := O0.call hO588 (allS (Or.inl (List.mem_of_getElem? (i := 0) rfl)) all0)
    refine E.aloadN (q := 52) X588 hx (hb hby d27_51) rfl rfl ?_
    refine E.iload (q := 54) X588 hx (hb hby d27_52) rfl ?_
    refine E.aloadN (q := 55) X588 hx (hb hby d27_54) rfl rfl ?_
    refine E.iload (q := 57) X588 hx (hb hby d27_55) rfl ?_
    refine E.iconst (q := 58) (v := (1 : Int32)) X588 hx (hb hby d27_57) rfl ?_
    refine E.iadd (q := 59) X588 hx (hb hby d27_58) ?_
    refine E.iload (q := 61) X588 hx (hb hby d27_59) rfl ?_
    refine E.iload (q := 63) X588 hx (hb hby d27_61) rfl ?_
    refine E.isub (q := 64) X588 hx (hb hby d27_63) ?_
    rw [own_succ P, own_subN' hpm]
    have f590 := A_r.keep hO588.1 (ninS (Ne.symm hne) nin0)
    refine Ends.cpy X588 hx hZ hown (own_w hw 162 rfl) (own_w hw 165 rfl) (own_w hw 163 rfl) (own_w hw 164 rfl) e588 f590 (sp := P) (dp := P + 1) (nn := M - P) (by omega) (by omega) (by rw [hml]; rfl) (hb hby d27_64) (by decide) (W := 0) (Nat.le_of_eq rfl) (by decide) ?_
    intro T589 h589 L589 X589 e589 hO589 V589
    have O589 := O588.call hO589 (allS (Or.inl (List.mem_of_getElem? (i := 1) rfl)) all0)
    refine E.aloadN (q := 68) X589 hx (hb hby d27_67) rfl rfl ?_
    refine E.iload (q := 70) X589 hx (hb hby d27_68) rfl ?_
    refine E.iloadN (q := 71) X589 hx (hb hby d27_70) rfl ?_
    have f592 := V588.keep hO589.1 (ninS hne nin0)
    refine Ends.ist X589 hx hZ e589 f592 (i := P) rfl (by simp only [List.length_map, List.length_append, List.length_take, List.length_drop]; omega) (hb hby d27_71) ?_
    intro T591 h591 X591 e591 W591 V591
    rw [← List.map_set, own_ins_eq hpm (by omega)] at V591
    have O591 := O589.wr W591 (Or.inl (List.mem_of_getElem? (i := 0) rfl))
    refine E.aloadN (q := 73) X591 hx (hb hby d27_72) rfl rfl ?_
    refine E.iload (q := 75) X591 hx (hb hby d27_73) rfl ?_
    refine E.iload (q := 77) X591 hx (hb hby d27_75) rfl ?_
    have f594 := V589.other W591 (Ne.symm hne)
    refine Ends.ist X591 hx hZ e591 f594 (i := P) rfl (by simp only [List.length_map, List.length_append, List.length_take, List.length_drop]; omega) (hb hby d27_77) ?_
    intro T593 h593 X593 e593 W593 V593
    rw [← List.map_set, own_ins_eq hpm (by omega)] at V593
    have O593 := O591.wr W593 (Or.inl (List.mem_of_getElem? (i := 1) rfl))
    refine E.iload (q := 80) X593 hx (hb hby d27_78) rfl ?_
    refine E.iconst (q := 81) (v := (1 : Int32)) X593 hx (hb hby d27_80) rfl ?_
    refine E.iadd (q := 82) X593 hx (hb hby d27_81) ?_
    rw [own_succ M]
    have f595 := V591.other W593 hne
    subst e593
    exact Ends.retI X593 hx hlk hret (hb hby d27_82) (by decide) (by decide) ⟨by first | rfl | rw [hM], O593, by rw [hP]; first | exact f595 | (rw [hM]; exact f595), by rw [hP]; first | exact V593 | (rw [hM]; exact V593)⟩
  have G : ∀ k, k ≤ cn → own_posI rs r k = P → ∀ Tj : State, Stand p l e ({ frames := 1, cells := 0, slots := 0, locals := 40 } : Room) s m #[(.ref pa), (.ref ra), (.int (Int32.ofNat cn)), (.int (Int32.ofNat ix)), (.int r)] below meth c Tj [] 0 0 → Tj.heap = h0 → Ends none p e below s (fun v h L => v = some (.int (Int32.ofNat (min cn (len - 1) + 1))) ∧ Ok h0 h [pa, ra] L ∧ Ary Z h pa .int ((own_ins ps (own_posI rs r cn) (min cn (len - 1)) (Int32.ofNat ix)).map Value.int) ∧ Ary Z h ra .int ((own_ins rs (own_posI rs r cn) (min cn (len - 1)) r).map Value.int)) ({ frames := 1, cells := 0, slots := 0, locals := 40 } : Room).cells ({ frames := 1, cells := 0, slots := 0, locals := 40 } : Room).slots Tj (mkF m 3 #[.val (.ref pa), .val (.ref ra), .val (.int (Int32.ofNat cn)), .val (.int (Int32.ofNat ix)), .val (.int r), .val (.int (Int32.ofNat k)), .unset] []) := by
    intro k
    induction k with
    | zero =>
      intro hk hf Tj Xj ej
      obtain rfl : 0 = P := hf
      refine E.iload (q := 5) Xj hx (hb hby d27_3) rfl ?_
      refine E.ifY (q := 25) Xj hx (hb hby d27_5) (XT.i0_le_t (by decide)) ?_
      exact K2 _ Xj ej
    | succ k ih =>
      intro hk hf Tj Xj ej
      obtain ⟨y, hy⟩ : ∃ y, rs[k]? = some y := ⟨_, List.getElem?_eq_getElem (by omega)⟩
      have hyd : rs.getD k 0 = y := by simp [List.getD_eq_getElem?_getD, hy]
      refine E.iload (q := 5) Xj hx (hb hby d27_3) rfl ?_
      refine E.ifN (q := 8) Xj hx (hb hby d27_5) (XT.i0_le_f (by rw [show (0 : Int32) = Int32.ofNat 0 from rfl, own_ltN (by omega) (by omega)]; omega)) ?_
      refine E.iload (q := 10) Xj hx (hb hby d27_8) rfl ?_
      refine E.aloadN (q := 11) Xj hx (hb hby d27_10) rfl rfl ?_
      refine E.iload (q := 13) Xj hx (hb hby d27_11) rfl ?_
      refine E.iconst (q := 14) (v := (1 : Int32)) Xj hx (hb hby d27_13) rfl ?_
      refine E.isub (q := 15) Xj hx (hb hby d27_14) ?_
      rw [own_pred (by omega)]
      refine Ends.ild Xj hx hZ ej A_r (i := k) (v := .int y) rfl (by rw [List.getElem?_map, hy]; rfl) (hb hby d27_15) ?_
      by_cases hq : y < r
      · refine E.icmpN (q := 19) Xj hx (hb hby d27_16) (XT.ii_le_f hq) ?_
        refine E.iinc (q := 22) (v := ((Int32.ofNat (k + 1)) + (-1 : Int32))) (l' := #[.val (.ref pa), .val (.ref ra), .val (.int (Int32.ofNat cn)), .val (.int (Int32.ofNat ix)), .val (.int r), .val (.int ((Int32.ofNat (k + 1)) + (-1 : Int32))), .unset]) Xj hx (hb hby d27_19) rfl rfl rfl ?_
        refine E.goto (q := 3) Xj hx (hb hby d27_22) ?_
        rw [own_dec k]
        exact ih (by omega) (by rw [← hf]; simp only [own_posI]; rw [hyd, if_pos hq]) _ Xj ej
      · refine E.icmpY (q := 25) Xj hx (hb hby d27_16) (XT.ii_le_t hq) ?_
        obtain rfl : k + 1 = P := by rw [← hf]; simp only [own_posI]; rw [hyd, if_neg hq]
        exact K2 _ Xj ej
  exact G cn (Nat.le_refl _) hP _ X0 e0
theorem ef_13 (m : MethodId) (x0 : Addr) (x1 : Addr) (x2 : Addr) (x3 : Addr) : entryFrame m #[(.ref x0), (.ref x1), (.ref x2), (.ref x3)] 4 = mkF m 0 #[.val (.ref x0), .val (.ref x1), .val (.ref x2), .val (.ref x3)] [] := by first | (simp [entryFrame, mkF, argsToLocals, Value.category]; done) | rfl
theorem rm13 (l : Launch) (Z : State) (a0 : Array Value) (hw : ∀ d ∈ tables_1, d.before a0 Z = true) (oa : Addr) (ou : Addr) (ot : Addr) (op : Addr) (h0 : Heap) (E0 : Exa Z h0 oa "com/example/needlework/needlework/match/CompiledPattern") (F_units : Fld Z h0 oa "com/example/needlework/needlework/match/CompiledPattern" "units" "[I" .null) (F_table : Fld Z h0 oa "com/example/needlework/needlework/match/CompiledPattern" "table" "[I" .null) (F_probes : Fld Z h0 oa "com/example/needlework/needlework/match/CompiledPattern" "probes" "[I" .null) :
    Con l (⟨"com/example/needlework/needlework/match/CompiledPattern", "<init>", "([I[I[I)V"⟩ : MethodName) prog_14_method_1_code 4 none [] ({ frames := 1, cells := 0, slots := 0, locals := 24 } : Room) #[(.ref oa), (.ref ou), (.ref ot), (.ref op)] Z h0 (fun v h L => v = none ∧ Ok h0 h [oa] L ∧ Fld Z h oa "com/example/needlework/needlework/match/CompiledPattern" "units" "[I" (.ref ou) ∧ Fld Z h oa "com/example/needlework/needlework/match/CompiledPattern" "table" "[I" (.ref ot) ∧ Fld Z h oa "com/example/needlework/needlework/match/CompiledPattern" "probes" "[I" (.ref op)) := by
  refine Con.of (plainFor_of_name pn_6) ?_
  intro p e s m below meth c s₁ hx hZ hby hml hown hnm hret hlk X0 e0
  refine Ends.cast (ef_13 m oa ou ot op) ?_
  have O0 := Ok.refl h0 [oa]
  refine E.aloadN (q := 1) X0 hx (hb hby d13_0) rfl rfl ?_
  refine Ends.initO X0 hx hZ hown (own_w hw 80 rfl) (own_w hw 15 rfl) (own_w hw 16 rfl) e0 (by rw [hml]; rfl) (hb hby d13_1) (by decide) (W := 0) (Nat.le_of_eq rfl) (by decide) ?_
  intro T596 X596 e596
  refine E.aloadN (q := 5) X596 hx (hb hby d13_4) rfl rfl ?_
  refine E.aloadN (q := 6) X596 hx (hb hby d13_5) rfl rfl ?_
  refine Ends.putF X596 hx hZ hown (host := "") (Or.inl (own_w hw 81 rfl)) Via.refl e596 F_units E0 (Or.inr ⟨(own_w hw 82 rfl), rfl, hnm⟩) (own_w hw 76 rfl) (ty := (.array .int)) (by decide) rfl rfl (hb hby d13_6) ?_
  intro T597 h597 X597 e597 W597 Fw597
  have O597 := O0.wr W597 (Or.inl (List.mem_of_getElem? (i := 0) rfl))
  refine E.aloadN (q := 10) X597 hx (hb hby d13_9) rfl rfl ?_
  refine E.aloadN (q := 11) X597 hx (hb hby d13_10) rfl rfl ?_
  have f598 := F_table.other W597 (Or.inr (slot_ne (Or.inr (own_w hw 84 rfl)) (Or.inr (own_w hw 82 rfl)) (by decide) (t := (.array .int)) (t' := (.array .int)) (by decide) (by decide)))
  have f599 := E0.wr W597
  refine Ends.putF X597 hx hZ hown (host := "") (Or.inl (own_w hw 83 rfl)) Via.refl e597 f598 f599 (Or.inr ⟨(own_w hw 84 rfl), rfl, hnm⟩) (own_w hw 76 rfl) (ty := (.array .int)) (by decide) rfl rfl (hb hby d13_11) ?_
  intro T600 h600 X600 e600 W600 Fw600
  have O600 := O597.wr W600 (Or.inl (List.mem_of_getElem? (i := 0) rfl))
  refine E.aloadN (q := 15) X600 hx (hb hby d13_14) rfl rfl ?_
  refine E.aloadN (q := 16) X600 hx (hb hby d13_15) rfl rfl ?_
  have f601 := (F_probes.other W597 (Or.inr (slot_ne (Or.inr (own_w hw 86 rfl)) (Or.inr (own_w hw 82 rfl)) (by decide) (t := (.array .int)) (t' := (.array .int)) (by decide) (by decide)))).other W600 (Or.inr (slot_ne (Or.inr (own_w hw 86 rfl)) (Or.inr (own_w hw 84 rfl)) (by decide) (t := (.array .int)) (t' := (.array .int)) (by decide) (by decide)))
  have f602 := f599.wr W600
  refine Ends.putF X600 hx hZ hown (host := "") (Or.inl (own_w hw 85 rfl)) Via.refl e600 f601 f602 (Or.inr ⟨(own_w hw 86 rfl), rfl, hnm⟩) (own_w hw 76 rfl) (ty := (.array .int)) (by decide) rfl rfl (hb hby d13_16) ?_
  intro T603 h603 X603 e603 W603 Fw603
  have O603 := O600.wr W603 (Or.inl (List.mem_of_getElem? (i := 0) rfl))
  have f604 := (Fw597.other W600 (Or.inr (slot_ne (Or.inr (own_w hw 82 rfl)) (Or.inr (own_w hw 84 rfl)) (by decide) (t := (.array .int)) (t' := (.array .int)) (by decide) (by decide)))).other W603 (Or.inr (slot_ne (Or.inr (own_w hw 82 rfl)) (Or.inr (own_w hw 86 rfl)) (by decide) (t := (.array .int)) (t' := (.array .int)) (by decide) (by decide)))
  have f605 := Fw600.other W603 (Or.inr (slot_ne (Or.inr (own_w hw 84 rfl)) (Or.inr (own_w hw 86 rfl)) (by decide) (t := (.array .int)) (t' := (.array .int)) (by decide) (by decide)))
  subst e603
  exact Ends.retV X603 hx hlk hret (hb hby d13_19) (by decide) (by decide) ⟨rfl, O603, f604, f605, Fw603⟩
theorem ef_14 (m : MethodId) (x0 : Addr) : entryFrame m #[(.ref x0)] 1 = mkF m 0 #[.val (.ref x0)] [] := by first | (simp [entryFrame, mkF, argsToLocals, Value.category]; done) | rfl
theorem rm14 (l : Launch) (Z : State) (a0 : Array Value) (hw : ∀ d ∈ tables_1, d.before a0 Z = true) (oa : Addr) (ou : Addr) (li : List Int32) (h0 : Heap) (F_u : Fld Z h0 oa "com/example/needlework/needlework/match/CompiledPattern" "units" "[I" (.ref ou)) (A_u : Ary Z h0 ou .int (li.map Value.int)) :
    Con l (⟨"com/example/needlework/needlework/match/CompiledPattern", "length", "()I"⟩ : MethodName) prog_14_method_6_code 1 (some .int) [] ({ frames := 0, cells := 0, slots := 0, locals := 0 } : Room) #[(.ref oa)] Z h0 (fun v h L => v = some (.int (Int32.ofNat li.length)) ∧ h = h0 ∧ L = []) := by
  refine Con.of (plainFor_of_name pn_6) ?_
  intro p e s m below meth c s₁ hx hZ hby hml hown hnm hret hlk X0 e0
  refine Ends.cast (ef_14 m oa) ?_
  have O0 := Ok.refl h0 []
  refine E.aloadN (q := 1) X0 hx (hb hby d14_0) rfl rfl ?_
  refine Ends.getF X0 hx hZ hown (host := "") (Or.inl (own_w hw 81 rfl)) Via.refl e0 F_u (hb hby d14_1) ?_
  intro T606 X606 e606
  refine Ends.alen X606 hx hZ e606 A_u (hb hby d14_4) (n := (Int32.ofNat li.length)) (by rw [List.length_map]) ?_
  exact Ends.retI X606 hx hlk hret (hb hby d14_5) (by decide) (by decide) ⟨rfl, e606, rfl⟩
theorem ef_28 (m : MethodId) (x0 : Addr) (x1 : Int32) : entryFrame m #[(.ref x0), (.int x1)] 2 = mkF m 0 #[.val (.ref x0), .val (.int x1)] [] := by first | (simp [entryFrame, mkF, argsToLocals, Value.category]; done) | rfl
theorem rm28 (l : Launch) (Z : State) (a0 : Array Value) (hw : ∀ d ∈ tables_1, d.before a0 Z = true) (oa : Addr) (ou : Addr) (k : Nat) (x : Int32) (li : List Int32) (hk : li[k]? = some x) (h0 : Heap) (F_u : Fld Z h0 oa "com/example/needlework/needlework/match/CompiledPattern" "units" "[I" (.ref ou)) (A_u : Ary Z h0 ou .int (li.map Value.int)) :
    Con l (⟨"com/example/needlework/needlework/match/CompiledPattern", "unit", "(I)I"⟩ : MethodName) prog_14_method_7_code 2 (some .int) [] ({ frames := 0, cells := 0, slots := 0, locals := 0 } : Room) #[(.ref oa), (.int (Int32.ofNat k))] Z h0 (fun v h L => v = some (.int x) ∧ h = h0 ∧ L = []) := by
  refine Con.of (plainFor_of_name pn_6) ?_
  intro p e s m below meth c s₁ hx hZ hby hml hown hnm hret hlk X0 e0
  refine Ends.cast (ef_28 m oa (Int32.ofNat k)) ?_
  have O0 := Ok.refl h0 []
  refine E.aloadN (q := 1) X0 hx (hb hby d28_0) rfl rfl ?_
  refine Ends.getF X0 hx hZ hown (host := "") (Or.inl (own_w hw 81 rfl)) Via.refl e0 F_u (hb hby d28_1) ?_
  intro T607 X607 e607
  refine E.iloadN (q := 5) X607 hx (hb hby d28_4) rfl ?_
  refine Ends.ild X607 hx hZ e607 A_u (i := k) (v := .int x) rfl (by rw [List.getElem?_map, hk]; rfl) (hb hby d28_5) ?_
  exact Ends.retI X607 hx hlk hret (hb hby d28_6) (by decide) (by decide) ⟨rfl, e607, rfl⟩
theorem ef_17 (m : MethodId) (x0 : Addr) : entryFrame m #[(.ref x0)] 1 = mkF m 0 #[.val (.ref x0)] [] := by first | (simp [entryFrame, mkF, argsToLocals, Value.category]; done) | rfl
theorem rm17 (l : Launch) (Z : State) (a0 : Array Value) (hw : ∀ d ∈ tables_1, d.before a0 Z = true) (oa : Addr) (op : Addr) (h0 : Heap) (F_p : Fld Z h0 oa "com/example/needlework/needlework/match/CompiledPattern" "probes" "[I" (.ref op)) :
    Con l (⟨"com/example/needlework/needlework/match/CompiledPattern", "probes", "()[I"⟩ : MethodName) prog_14_method_8_code 1 (some (.array .int)) [] ({ frames := 0, cells := 0, slots := 0, locals := 0 } : Room) #[(.ref oa)] Z h0 (fun v h L => v = some (.ref op) ∧ h = h0 ∧ L = []) := by
  refine Con.of (plainFor_of_name pn_6) ?_
  intro p e s m below meth c s₁ hx hZ hby hml hown hnm hret hlk X0 e0
  refine Ends.cast (ef_17 m oa) ?_
  have O0 := Ok.refl h0 []
  refine E.aloadN (q := 1) X0 hx (hb hby d17_0) rfl rfl ?_
  refine Ends.getF X0 hx hZ hown (host := "") (Or.inl (own_w hw 85 rfl)) Via.refl e0 F_p (hb hby d17_1) ?_
  intro T608 X608 e608
  exact Ends.retA X608 hx hlk hret rfl rfl rfl (hb hby d17_4) (by decide) (by decide) ⟨rfl, e608, rfl⟩
theorem ef_15 (m : MethodId) (x0 : Addr) : entryFrame m #[(.ref x0)] 1 = mkF m 0 #[.val (.ref x0)] [] := by first | (simp [entryFrame, mkF, argsToLocals, Value.category]; done) | rfl
theorem rm15 (l : Launch) (Z : State) (a0 : Array Value) (hw : ∀ d ∈ tables_1, d.before a0 Z = true) (oa : Addr) (ot : Addr) (li : List Int32) (hl5 : li.length ≤ 5) (h0 : Heap) (F_t : Fld Z h0 oa "com/example/needlework/needlework/match/CompiledPattern" "table" "[I" (.ref ot)) (A_t : Ary Z h0 ot .int (li.map Value.int)) (E_t : Exa Z h0 ot "[I") :
    Con l (⟨"com/example/needlework/needlework/match/CompiledPattern", "prefixTable", "()[I"⟩ : MethodName) prog_14_method_5_code 1 (some (.array .int)) [] ({ frames := 1, cells := 1, slots := 5, locals := 24 } : Room) #[(.ref oa)] Z h0 (fun v h L => ∃ b, v = some (.ref b) ∧ h0.size ≤ b ∧ Ok h0 h [] L ∧ Ary Z h b .int (li.map Value.int)) := by
  refine Con.of (plainFor_of_name pn_6) ?_
  intro p e s m below meth c s₁ hx hZ hby hml hown hnm hret hlk X0 e0
  refine Ends.cast (ef_15 m oa) ?_
  have O0 := Ok.refl h0 []
  refine E.aloadN (q := 1) X0 hx (hb hby d15_0) rfl rfl ?_
  refine Ends.getF X0 hx hZ hown (host := "") (Or.inl (own_w hw 83 rfl)) Via.refl e0 F_t (hb hby d15_1) ?_
  intro T609 X609 e609
  refine Ends.clone X609 hx hZ hown (own_w hw 97 rfl) (own_w hw 98 rfl) (own_w hw 102 rfl) (own_w hw 100 rfl) (own_w hw 101 rfl) (own_w hw 103 rfl) e609 A_t E_t (by rw [hml]; rfl) (hb hby d15_4) (by decide) (W := 0) (cap := 5) (Nat.le_of_eq rfl) (by decide) hl5 (by decide) (by decide) ?_
  intro T610 h610 b610 g610 X610 e610 E610 A610 B610
  have ge_b610 : h0.size ≤ b610 := Nat.le_trans O0.le (Nat.le_of_eq g610.symm)
  have O610 := O0.ext E610
  refine Ends.castY X610 hx hZ hown (own_w hw 104 rfl) e610 (Ins.self B610) (hb hby d15_7) ?_
  intro T611 X611 e611
  subst e611
  exact Ends.retA X611 hx hlk hret rfl rfl rfl (hb hby d15_10) (by decide) (by decide) ⟨_, rfl, ge_b610, O610, A610⟩
theorem ef_11 (m : MethodId) (x0 : Int32) (x1 : Addr) (x2 : Addr) : entryFrame m #[(.int x0), (.ref x1), (.ref x2)] 11 = mkF m 0 #[.val (.int x0), .val (.ref x1), .val (.ref x2), .unset, .unset, .unset, .unset, .unset, .unset, .unset, .unset] [] := by first | (simp [entryFrame, mkF, argsToLocals, Value.category]; done) | rfl
theorem rm11 (l : Launch) (Z : State) (a0 : Array Value) (hw : ∀ d ∈ tables_1, d.before a0 Z = true) (oa : Addr) (tb : Addr) (sa : Addr) (x0 : MethodName) (pc0 index0 : Nat) (cK : ClassId) (one : Option Addr) (hat : Z.lambdaAt? x0 pc0 index0 own_sh = some (cK, one)) (hfw : own_fwd own_sh x0.cls own_fcode 23 19 15 = true) (Va : Addr) (cd : Int32) (bs xs : List Int32) (hS : own_Str cd bs xs) (h5 : xs.length ≤ 5) (rr : Addr) (h0 : Heap) (LA : LamAt h0 oa cK sa) (Es : Exa Z h0 sa "java/lang/String") (Svs : Fld Z h0 sa "java/lang/String" "value" "[B" (.ref Va)) (Scs : Fld Z h0 sa "java/lang/String" "coder" "B" (.int cd)) (A_x : Ary Z h0 Va .byte (bs.map Value.int)) (cs : Int32) (hcs : ¬ cs = (0 : Int32)) (S0 : Sta Z h0 "java/lang/String" "COMPACT_STRINGS" "Z" (.int cs)) (fv : Value) (hfv : fv = .null ∨ ∃ a, fv = .ref a) (S1 : Sta Z h0 "jdk/internal/util/Preconditions" "SIOOBE_FORMATTER" "Ljava/util/function/BiFunction;" fv) (S2 : Sta Z h0 "java/lang/StringUTF16" "$assertionsDisabled" "Z" (.int (1 : Int32))) (S3 : Sta Z h0 "java/lang/StringUTF16" "HI_BYTE_SHIFT" "I" (.int (0 : Int32))) (S4 : Sta Z h0 "java/lang/StringUTF16" "LO_BYTE_SHIFT" "I" (.int (8 : Int32))) (SR : Sta Z h0 "com/example/needlework/needlework/match/CompiledPattern" "RARITY" "[B" (.ref rr)) (A_R : Ary Z h0 rr .byte (own_RL.map Value.int)) :
    Con l (⟨"com/example/needlework/needlework/match/CompiledPattern", "of", "(ILjava/util/function/IntUnaryOperator;[I)Lcom/example/needlework/needlework/match/CompiledPattern;"⟩ : MethodName) prog_14_method_4_code 11 (some (.object "com/example/needlework/needlework/match/CompiledPattern")) [] ({ frames := 6, cells := 4, slots := 14, locals := 150 } : Room) #[(.int (Int32.ofNat xs.length)), (.ref oa), (.ref tb)] Z h0 (fun v h L => ∃ (o Uu Pp : Addr), v = some (.ref o) ∧ h0.size ≤ o ∧ Ok h0 h [] L ∧ Exa Z h o "com/example/needlework/needlework/match/CompiledPattern" ∧ Fld Z h o "com/example/needlework/needlework/match/CompiledPattern" "units" "[I" (.ref Uu) ∧ Fld Z h o "com/example/needlework/needlework/match/CompiledPattern" "table" "[I" (.ref tb) ∧ Fld Z h o "com/example/needlework/needlework/match/CompiledPattern" "probes" "[I" (.ref Pp) ∧ Ary Z h Uu .int (xs.map Value.int) ∧ Ary Z h Pp .int ((own_ints (own_go (own_gtI (xs.map own_Rf)) (min 3 xs.length) xs.length)).map Value.int)) := by
  refine Con.of (plainFor_of_name pn_6) ?_
  intro p e s m below meth c s₁ hx hZ hby hml hown hnm hret hlk X0 e0
  refine Ends.cast (ef_11 m (Int32.ofNat xs.length) oa tb) ?_
  have O0 := Ok.refl h0 []
  refine E.iloadN (q := 1) X0 hx (hb hby d11_0) rfl ?_
  refine Ends.newA X0 hx hZ (own_w hw 1 rfl) e0 (hb hby d11_1) (N := xs.length) rfl (by omega) (by decide) (by show 0 + xs.length ≤ 14; omega) ?_
  intro T612 h612 b612 g612 X612 e612 E612 A612
  have ge_b612 : h0.size ≤ b612 := Nat.le_trans O0.le (Nat.le_of_eq g612.symm)
  have O612 := O0.ext E612
  have V612 : Ary Z h612 b612 .int ((List.replicate xs.length (0 : Int32)).map Value.int) := by rw [List.map_replicate]; exact A612
  refine E.astoreN (q := 4) (l' := #[.val (.int (Int32.ofNat xs.length)), .val (.ref oa), .val (.ref tb), .val (.ref b612), .unset, .unset, .unset, .unset, .unset, .unset, .unset]) X612 hx (hb hby d11_3) rfl rfl ?_
  refine E.iconst (q := 5) (v := (3 : Int32)) X612 hx (hb hby d11_4) rfl ?_
  refine E.iloadN (q := 6) X612 hx (hb hby d11_5) rfl ?_
  refine Ends.callS X612 hx hZ hown (own_w hw 71 rfl) (own_w hw 72 rfl) (own_w hw 73 rfl) (own_w hw 74 rfl) (by decide) (argsL := [(.int (3 : Int32)), (.int (Int32.ofNat xs.length))]) (rest := []) e612 (rm12 l Z a0 hw 3 xs.length (by decide) (by omega) _) (W := 0) (by decide) (by decide) (by rw [hml]; rfl) (lenOf pd_19 rfl) (Nat.le_of_eq rfl) (hb hby d11_6) (by decide) (by show 0 + xs.length + 0 ≤ 14; omega) rfl ?_
  rintro T613 v613 L613 X613 ⟨rfl, e613, rfl⟩
  rw [List.append_nil] at X613
  refine Ends.newA X613 hx hZ (own_w hw 1 rfl) e613 (hb hby d11_9) (N := (min 3 xs.length)) rfl (by omega) (by decide) (by show 0 + xs.length + 0 + (min 3 xs.length) ≤ 14; omega) ?_
  intro T614 h614 b614 g614 X614 e614 E614 A614
  have ge_b614 : h0.size ≤ b614 := Nat.le_trans O612.le (Nat.le_of_eq g614.symm)
  have O614 := O612.ext E614
  have V614 : Ary Z h614 b614 .int ((List.replicate (min 3 xs.length) (0 : Int32)).map Value.int) := by rw [List.map_replicate]; exact A614
  refine E.astore (q := 13) (l' := #[.val (.int (Int32.ofNat xs.length)), .val (.ref oa), .val (.ref tb), .val (.ref b612), .val (.ref b614), .unset, .unset, .unset, .unset, .unset, .unset]) X614 hx (hb hby d11_11) rfl rfl ?_
  refine E.aload (q := 15) X614 hx (hb hby d11_13) rfl rfl ?_
  refine Ends.alen X614 hx hZ e614 V614 (hb hby d11_15) (n := (Int32.ofNat (min 3 xs.length))) (by rw [List.length_map, List.length_replicate]) ?_
  refine Ends.newA X614 hx hZ (own_w hw 1 rfl) e614 (hb hby d11_16) (N := (min 3 xs.length)) rfl (by omega) (by decide) (by show 0 + xs.length + 0 + (min 3 xs.length) + (min 3 xs.length) ≤ 14; omega) ?_
  intro T615 h615 b615 g615 X615 e615 E615 A615
  have ge_b615 : h0.size ≤ b615 := Nat.le_trans O614.le (Nat.le_of_eq g615.symm)
  have O615 := O614.ext E615
  have V615 : Ary Z h615 b615 .int ((List.replicate (min 3 xs.length) (0 : Int32)).map Value.int) := by rw [List.map_replicate]; exact A615
  refine E.astore (q := 20) (l' := #[.val (.int (Int32.ofNat xs.length)), .val (.ref oa), .val (.ref tb), .val (.ref b612), .val (.ref b614), .val (.ref b615), .unset, .unset, .unset, .unset, .unset]) X615 hx (hb hby d11_18) rfl rfl ?_
  refine E.iconst (q := 21) (v := (0 : Int32)) X615 hx (hb hby d11_20) rfl ?_
  refine E.istore (q := 23) (l' := #[.val (.int (Int32.ofNat xs.length)), .val (.ref oa), .val (.ref tb), .val (.ref b612), .val (.ref b614), .val (.ref b615), .val (.int (0 : Int32)), .unset, .unset, .unset, .unset]) X615 hx (hb hby d11_21) rfl ?_
  refine E.iconst (q := 24) (v := (-1 : Int32)) X615 hx (hb hby d11_23) rfl ?_
  refine E.istore (q := 26) (l' := #[.val (.int (Int32.ofNat xs.length)), .val (.ref oa), .val (.ref tb), .val (.ref b612), .val (.ref b614), .val (.ref b615), .val (.int (0 : Int32)), .val (.int (-1 : Int32)), .unset, .unset, .unset]) X615 hx (hb hby d11_24) rfl ?_
  refine E.iconst (q := 27) (v := (0 : Int32)) X615 hx (hb hby d11_26) rfl ?_
  refine E.istore (q := 29) (l' := #[.val (.int (Int32.ofNat xs.length)), .val (.ref oa), .val (.ref tb), .val (.ref b612), .val (.ref b614), .val (.ref b615), .val (.int (0 : Int32)), .val (.int (-1 : Int32)), .val (.int (0 : Int32)), .unset, .unset]) X615 hx (hb hby d11_27) rfl ?_
  have n_oa_b612 : oa ≠ b612 := (Nat.ne_of_lt (Nat.lt_of_lt_of_eq LA.lt g612.symm))
  have f616 := LA.ext E612
  have n_oa_b614 : oa ≠ b614 := (Nat.ne_of_lt (Nat.lt_of_lt_of_eq f616.lt g614.symm))
  have f617 := f616.ext E614
  have n_oa_b615 : oa ≠ b615 := (Nat.ne_of_lt (Nat.lt_of_lt_of_eq f617.lt g615.symm))
  have n_sa_b612 : sa ≠ b612 := (Nat.ne_of_lt (Nat.lt_of_lt_of_eq Es.lt g612.symm))
  have f618 := Es.ext E612
  have n_sa_b614 : sa ≠ b614 := (Nat.ne_of_lt (Nat.lt_of_lt_of_eq f618.lt g614.symm))
  have f619 := f618.ext E614
  have n_sa_b615 : sa ≠ b615 := (Nat.ne_of_lt (Nat.lt_of_lt_of_eq f619.lt g615.symm))
  have n_Va_b612 : Va ≠ b612 := (Nat.ne_of_lt (Nat.lt_of_lt_of_eq A_x.lt g612.symm))
  have f620 := A_x.ext E612
  have n_Va_b614 : Va ≠ b614 := (Nat.ne_of_lt (Nat.lt_of_lt_of_eq f620.lt g614.symm))
  have f621 := f620.ext E614
  have n_Va_b615 : Va ≠ b615 := (Nat.ne_of_lt (Nat.lt_of_lt_of_eq f621.lt g615.symm))
  have n_rr_b612 : rr ≠ b612 := (Nat.ne_of_lt (Nat.lt_of_lt_of_eq A_R.lt g612.symm))
  have f622 := A_R.ext E612
  have n_rr_b614 : rr ≠ b614 := (Nat.ne_of_lt (Nat.lt_of_lt_of_eq f622.lt g614.symm))
  have f623 := f622.ext E614
  have n_rr_b615 : rr ≠ b615 := (Nat.ne_of_lt (Nat.lt_of_lt_of_eq f623.lt g615.symm))
  have n_b612_b614 : b612 ≠ b614 := (Nat.ne_of_lt (Nat.lt_of_lt_of_eq V612.lt g614.symm))
  have f624 := V612.ext E614
  have n_b612_b615 : b612 ≠ b615 := (Nat.ne_of_lt (Nat.lt_of_lt_of_eq f624.lt g615.symm))
  have n_b614_b615 : b614 ≠ b615 := (Nat.ne_of_lt (Nat.lt_of_lt_of_eq V614.lt g615.symm))
  have J : ∀ mm i, i + mm = xs.length → ∀ (ps rs : List Int32) (tv : Int32), own_Rel (xs.map own_Rf) (min 3 xs.length) (own_go (own_gtI (xs.map own_Rf)) (min 3 xs.length) i) ps rs → (i < xs.length → (i < (min 3 xs.length) ∧ tv = -1) ∨ ((min 3 xs.length) ≤ i ∧ tv = (xs.map own_Rf).getD ((own_go (own_gtI (xs.map own_Rf)) (min 3 xs.length) i).getD ((min 3 xs.length) - 1) 0) 0)) → ∀ l9 l10 : Slot, (l9 = .unset ∨ ∃ q, l9 = .val (.int q)) → (l10 = .unset ∨ ∃ q, l10 = .val (.int q)) → ∀ (Tj : State) (hj : Heap) (lj : List Loc), Stand p l e ({ frames := 6, cells := 4, slots := 14, locals := 150 } : Room) s m #[(.int (Int32.ofNat xs.length)), (.ref oa), (.ref tb)] below meth c Tj lj 3 (0 + xs.length + 0 + (min 3 xs.length) + (min 3 xs.length)) → Tj.heap = hj → Ok h0 hj [] lj → Ary Z hj b612 .int ((xs.take i ++ List.replicate (xs.length - i) (0 : Int32)).map Value.int) → Ary Z hj b614 .int (ps.map Value.int) → Ary Z hj b615 .int (rs.map Value.int) → Ends none p e below s (fun v h L => ∃ (o Uu Pp : Addr), v = some (.ref o) ∧ h0.size ≤ o ∧ Ok h0 h [] L ∧ Exa Z h o "com/example/needlework/needlework/match/CompiledPattern" ∧ Fld Z h o "com/example/needlework/needlework/match/CompiledPattern" "units" "[I" (.ref Uu) ∧ Fld Z h o "com/example/needlework/needlework/match/CompiledPattern" "table" "[I" (.ref tb) ∧ Fld Z h o "com/example/needlework/needlework/match/CompiledPattern" "probes" "[I" (.ref Pp) ∧ Ary Z h Uu .int (xs.map Value.int) ∧ Ary Z h Pp .int ((own_ints (own_go (own_gtI (xs.map own_Rf)) (min 3 xs.length) xs.length)).map Value.int)) ({ frames := 6, cells := 4, slots := 14, locals := 150 } : Room).cells ({ frames := 6, cells := 4, slots := 14, locals := 150 } : Room).slots Tj (mkF m 29 #[.val (.int (Int32.ofNat xs.length)), .val (.ref oa), .val (.ref tb), .val (.ref b612), .val (.ref b614), .val (.ref b615), .val (.int (Int32.ofNat (min i (min 3 xs.length)))), .val (.int tv), .val (.int (Int32.ofNat i)), l9, l10] []) := by
    intro mm
    induction mm with
    | zero =>
      intro i hi ps rs tv H htv l9 l10 hl9 hl10 Tj hj lj Xj ej Oj Au Ap Ar
      have hi' : i = xs.length := by omega
      subst hi'
      refine E.iload (q := 31) Xj hx (hb hby d11_29) rfl ?_
      refine E.iloadN (q := 32) Xj hx (hb hby d11_31) rfl ?_
      refine E.icmpY (q := 108) Xj hx (hb hby d11_32) (XT.ii_ge_t (Int32.lt_irrefl)) ?_
      refine Ends.newC Xj hx hZ hown (own_w hw 75 rfl) (own_w hw 76 rfl) (own_w hw 27 rfl) ej (hb hby d11_108) (by decide) (by show 0 + xs.length + 0 + (min 3 xs.length) + (min 3 xs.length) + 3 ≤ 14; omega) ?_
      intro T625 h625 b625 g625 X625 e625 E625 A625 D625
      have ge_b625 : h0.size ≤ b625 := Nat.le_trans Oj.le (Nat.le_of_eq g625.symm)
      have O625 := Oj.ext E625
      have F625_units : Fld Z h625 b625 "com/example/needlework/needlework/match/CompiledPattern" "units" "[I" .null := D625 (Or.inr (own_w hw 82 rfl)) (ty := (.array .int)) (by decide)
      have F625_table : Fld Z h625 b625 "com/example/needlework/needlework/match/CompiledPattern" "table" "[I" .null := D625 (Or.inr (own_w hw 84 rfl)) (ty := (.array .int)) (by decide)
      have F625_probes : Fld Z h625 b625 "com/example/needlework/needlework/match/CompiledPattern" "probes" "[I" .null := D625 (Or.inr (own_w hw 86 rfl)) (ty := (.array .int)) (by decide)
      refine E.dup (q := 112) X625 hx (hb hby d11_111) rfl ?_
      refine E.aloadN (q := 113) X625 hx (hb hby d11_112) rfl rfl ?_
      refine E.aloadN (q := 114) X625 hx (hb hby d11_113) rfl rfl ?_
      refine E.aload (q := 116) X625 hx (hb hby d11_114) rfl rfl ?_
      refine Ends.callI X625 hx hZ hown (own_w hw 77 rfl) (own_w hw 78 rfl) (own_w hw 27 rfl) (own_w hw 79 rfl) rfl (by decide) (argsL := [(.ref b612), (.ref tb), (.ref b614)]) (rest := [(.ref b625)]) e625 (rm13 l Z a0 hw b625 b612 tb b614 _ A625 F625_units F625_table F625_probes) (W := 1) (by decide) (by decide) (by rw [hml]; rfl) (lenOf pd_20 rfl) (Nat.le_of_eq rfl) (hb hby d11_116) (by decide) (by show 0 + xs.length + 0 + (min 3 xs.length) + (min 3 xs.length) + 3 + 0 ≤ 14; omega) rfl ?_
      rintro T626 v626 L626 X626 ⟨rfl, hO626, Fu626, Ft626, Fp626⟩
      have e626 : T626.heap = T626.heap := rfl
      have O626 := O625.call hO626 (allS (Or.inr ge_b625) all0)
      have hfin : ps = own_ints (own_go (own_gtI (xs.map own_Rf)) (min 3 xs.length) xs.length) := own_fin H (by rw [own_go_len]; omega)
      have hun : ((xs.take xs.length ++ List.replicate (xs.length - xs.length) (0 : Int32)).map Value.int) = (xs.map Value.int) := by simp
      have f627 := A625.keep hO626.1
      have f628 := (Au.ext E625).keep hO626.1 (ninS (Nat.ne_of_lt (Nat.lt_of_lt_of_eq Au.lt g625.symm)) nin0)
      have f629 := (Ap.ext E625).keep hO626.1 (ninS (Nat.ne_of_lt (Nat.lt_of_lt_of_eq Ap.lt g625.symm)) nin0)
      exact Ends.retA X626 hx hlk hret rfl rfl rfl (hb hby d11_119) (by decide) (by show 0 + xs.length + 0 + (min 3 xs.length) + (min 3 xs.length) + 3 + 0 ≤ 14; omega) ⟨_, _, _, rfl, ge_b625, O626, f627, Fu626, Ft626, Fp626, by rw [← hun]; exact f628, by rw [← hfin]; exact f629⟩
    | succ mm ih =>
      intro i hi ps rs tv H htv l9 l10 hl9 hl10 Tj hj lj Xj ej Oj Au Ap Ar
      have hi1 : i < xs.length := by omega
      obtain ⟨x, hxi⟩ : ∃ x, xs[i]? = some x := ⟨_, List.getElem?_eq_getElem hi1⟩
      have hSl : (own_go (own_gtI (xs.map own_Rf)) (min 3 xs.length) i).length = min i (min 3 xs.length) := own_go_len _ _ _
      have hrk : (xs.map own_Rf).getD i 0 = own_Rf x := by simp [List.getD_eq_getElem?_getD, hxi]
      have hL1 : 1 ≤ (min 3 xs.length) := by omega
      have htv := htv hi1
      refine E.iload (q := 31) Xj hx (hb hby d11_29) rfl ?_
      refine E.iloadN (q := 32) Xj hx (hb hby d11_31) rfl ?_
      refine E.icmpN (q := 35) Xj hx (hb hby d11_32) (XT.ii_ge_f ((own_ltN (by omega) (by omega)).mpr hi1)) ?_
      refine E.aloadN (q := 36) Xj hx (hb hby d11_35) rfl rfl ?_
      refine E.iload (q := 38) Xj hx (hb hby d11_36) rfl ?_
      have f631 := Es.keep Oj.1
      have f632 := Svs.keep Oj.1 nin0
      have f633 := Scs.keep Oj.1 nin0
      have f634 := A_x.keep Oj.1 nin0
      have f635 := LA.keep Oj.1 nin0
      refine Ends.callLam Xj hx hZ hown hat hfw (own_w hw 55 rfl) own_f0 own_f1 own_f4 own_f5 own_f10 (own_w hw 156 rfl) (own_w hw 130 rfl) (own_w hw 131 rfl) (own_w hw 132 rfl) (own_w hw 137 rfl) (own_w hw 133 rfl) (own_w hw 134 rfl) (own_w hw 135 rfl) (own_w hw 136 rfl) (own_w hw 41 rfl) (own_w hw 6 rfl) (own_w hw 138 rfl) (by decide) (by decide) ⟨rfl, rfl, by decide +kernel⟩ ⟨rfl, rfl, by decide +kernel⟩ (lenOf pd_7 rfl) (lenOf pd_14 rfl) (rest := []) ej f635 f631 (own_ca l Z a0 hw sa Va cd bs xs hS (i) x hxi _ f631 f632 f633 f634 cs hcs (own_sta_keep S0 Oj.1 own_ns0) fv hfv (own_sta_keep S1 Oj.1 own_ns0) (own_sta_keep S2 Oj.1 own_ns0) (own_sta_keep S3 Oj.1 own_ns0) (own_sta_keep S4 Oj.1 own_ns0)) (fun _ _ _ q => q.1) (W := 0) (by decide) (by decide) (by rw [hml]; rfl) (Nat.le_of_eq rfl) (hb hby d11_38) (by decide) (by show 0 + xs.length + 0 + (min 3 xs.length) + (min 3 xs.length) + 0 ≤ 14; omega) ?_
      rintro T630 L630 X630 ⟨-, e630, rfl⟩
      rw [List.append_nil] at X630
      have st9 : storeLocals #[.val (.int (Int32.ofNat xs.length)), .val (.ref oa), .val (.ref tb), .val (.ref b612), .val (.ref b614), .val (.ref b615), .val (.int (Int32.ofNat (min i (min 3 xs.length)))), .val (.int tv), .val (.int (Int32.ofNat i)), l9, l10] 9 (.int x) = some #[.val (.int (Int32.ofNat xs.length)), .val (.ref oa), .val (.ref tb), .val (.ref b612), .val (.ref b614), .val (.ref b615), .val (.int (Int32.ofNat (min i (min 3 xs.length)))), .val (.int tv), .val (.int (Int32.ofNat i)), .val (.int x), l10] := by rcases hl9 with rfl | ⟨q, rfl⟩ <;> rcases hl10 with rfl | ⟨q', rfl⟩ <;> rfl
      refine E.istore (q := 45) (l' := #[.val (.int (Int32.ofNat xs.length)), .val (.ref oa), .val (.ref tb), .val (.ref b612), .val (.ref b614), .val (.ref b615), .val (.int (Int32.ofNat (min i (min 3 xs.length)))), .val (.int tv), .val (.int (Int32.ofNat i)), .val (.int x), l10]) X630 hx (hb hby d11_43) st9 ?_
      refine E.aloadN (q := 46) X630 hx (hb hby d11_45) rfl rfl ?_
      refine E.iload (q := 48) X630 hx (hb hby d11_46) rfl ?_
      refine E.iload (q := 50) X630 hx (hb hby d11_48) rfl ?_
      refine Ends.ist X630 hx hZ e630 Au (i := i) rfl (by simp; omega) (hb hby d11_50) ?_
      intro T636 h636 X636 e636 W636 V636
      rw [← List.map_set, own_uD hxi] at V636
      have O636 := Oj.wr W636 (Or.inr ge_b612)
      refine Ends.getS X636 hx hZ hown (host := "") (Or.inl (own_w hw 157 rfl)) Via.refl e636 (own_sta_keep SR O636.1 own_ns0) (hb hby d11_51) ?_
      intro T637 X637 e637
      refine E.iload (q := 56) X637 hx (hb hby d11_54) rfl ?_
      refine E.sipush (q := 59) (v := (255 : Int32)) X637 hx (hb hby d11_56) rfl ?_
      refine E.iand (q := 60) X637 hx (hb hby d11_59) ?_
      have f638 := (A_R.keep Oj.1 nin0).other W636 n_rr_b612
      refine Ends.bld X637 hx hZ e637 f638 (i := x.toBitVec.toNat &&& 255) (v := .int (own_Rf x)) (own_and255N x) (own_RLat x) (hb hby d11_60) ?_
      have st10 : storeLocals #[.val (.int (Int32.ofNat xs.length)), .val (.ref oa), .val (.ref tb), .val (.ref b612), .val (.ref b614), .val (.ref b615), .val (.int (Int32.ofNat (min i (min 3 xs.length)))), .val (.int tv), .val (.int (Int32.ofNat i)), .val (.int x), l10] 10 (.int (own_Rf x)) = some #[.val (.int (Int32.ofNat xs.length)), .val (.ref oa), .val (.ref tb), .val (.ref b612), .val (.ref b614), .val (.ref b615), .val (.int (Int32.ofNat (min i (min 3 xs.length)))), .val (.int tv), .val (.int (Int32.ofNat i)), .val (.int x), .val (.int (own_Rf x))] := by rcases hl10 with rfl | ⟨q, rfl⟩ <;> rfl
      refine E.istore (q := 63) (l' := #[.val (.int (Int32.ofNat xs.length)), .val (.ref oa), .val (.ref tb), .val (.ref b612), .val (.ref b614), .val (.ref b615), .val (.int (Int32.ofNat (min i (min 3 xs.length)))), .val (.int tv), .val (.int (Int32.ofNat i)), .val (.int x), .val (.int (own_Rf x))]) X637 hx (hb hby d11_61) st10 ?_
      refine E.iload (q := 65) X637 hx (hb hby d11_63) rfl ?_
      refine E.iload (q := 67) X637 hx (hb hby d11_65) rfl ?_
      by_cases hq : tv < (own_Rf x)
      · refine E.icmpN (q := 70) X637 hx (hb hby d11_67) (XT.ii_le_f hq) ?_
        have hc : (own_go (own_gtI (xs.map own_Rf)) (min 3 xs.length) i).length < (min 3 xs.length) ∨ own_gtI (xs.map own_Rf) i ((own_go (own_gtI (xs.map own_Rf)) (min 3 xs.length) i).getD ((own_go (own_gtI (xs.map own_Rf)) (min 3 xs.length) i).length - 1) 0) = true := by
          rcases htv with ⟨h1, -⟩ | ⟨h1, h2⟩
          · left; rw [hSl]; omega
          · right; rw [hSl, Nat.min_eq_right h1]; simp only [own_gtI, decide_eq_true_eq]; rw [← h2, hrk]; exact hq
        have st := own_Rel_step H hL1 hc
        rw [hSl, hrk] at st
        have hcn : min (min i (min 3 xs.length)) ((min 3 xs.length) - 1) + 1 = min (i + 1) (min 3 xs.length) := by omega
        refine E.aload (q := 72) X637 hx (hb hby d11_70) rfl rfl ?_
        refine E.aload (q := 74) X637 hx (hb hby d11_72) rfl rfl ?_
        refine E.iload (q := 76) X637 hx (hb hby d11_74) rfl ?_
        refine E.iload (q := 78) X637 hx (hb hby d11_76) rfl ?_
        refine E.iload (q := 80) X637 hx (hb hby d11_78) rfl ?_
        have f641 := Ap.other W636 (Ne.symm n_b612_b614)
        have f642 := Ar.other W636 (Ne.symm n_b612_b615)
        refine Ends.callS X637 hx hZ hown (own_w hw 159 rfl) (own_w hw 160 rfl) (own_w hw 27 rfl) (own_w hw 161 rfl) (by decide) (argsL := [(.ref b614), (.ref b615), (.int (Int32.ofNat (min i (min 3 xs.length)))), (.int (Int32.ofNat i)), (.int (own_Rf x))]) (rest := []) e637 (rm27 l Z a0 hw b614 b615 (own_Rf x) (min 3 xs.length) (min i (min 3 xs.length)) i ps rs hL1 (by omega) (by omega) H.1 H.2.1 st.1 _ f641 f642 n_b614_b615) (W := 0) (by decide) (by decide) (by rw [hml]; rfl) (lenOf pd_21 rfl) (Nat.le_of_eq rfl) (hb hby d11_80) (by decide) (by show 0 + xs.length + 0 + (min 3 xs.length) + (min 3 xs.length) + 0 + 0 ≤ 14; omega) rfl ?_
        rintro T643 v643 L643 X643 ⟨rfl, hO643, VP643, VR643⟩
        have e643 : T643.heap = T643.heap := rfl
        have O643 := O636.call hO643 (allS (Or.inr ge_b614) (allS (Or.inr ge_b615) all0))
        have H2 : own_Rel (xs.map own_Rf) (min 3 xs.length) (own_go (own_gtI (xs.map own_Rf)) (min 3 xs.length) (i + 1)) _ _ := st.2.1
        generalize own_ins ps (own_posI rs (own_Rf x) (min i (min 3 xs.length))) (min (min i (min 3 xs.length)) ((min 3 xs.length) - 1)) (Int32.ofNat i) = ps2 at VP643 H2
        generalize own_ins rs (own_posI rs (own_Rf x) (min i (min 3 xs.length))) (min (min i (min 3 xs.length)) ((min 3 xs.length) - 1)) (own_Rf x) = rs2 at VR643 H2
        have hSl2 : (own_go (own_gtI (xs.map own_Rf)) (min 3 xs.length) (i + 1)).length = min (i + 1) (min 3 xs.length) := own_go_len _ _ _
        rw [hcn]
        refine E.istore (q := 85) (l' := #[.val (.int (Int32.ofNat xs.length)), .val (.ref oa), .val (.ref tb), .val (.ref b612), .val (.ref b614), .val (.ref b615), .val (.int (Int32.ofNat (min (i + 1) (min 3 xs.length)))), .val (.int tv), .val (.int (Int32.ofNat i)), .val (.int x), .val (.int (own_Rf x))]) X643 hx (hb hby d11_83) rfl ?_
        refine E.iload (q := 87) X643 hx (hb hby d11_85) rfl ?_
        refine E.aload (q := 89) X643 hx (hb hby d11_87) rfl rfl ?_
        refine Ends.alen X643 hx hZ e643 VP643 (hb hby d11_89) (n := (Int32.ofNat (min 3 xs.length))) (by rw [List.length_map, H2.1]) ?_
        by_cases hfull : (Int32.ofNat (min (i + 1) (min 3 xs.length))) = (Int32.ofNat (min 3 xs.length))
        · refine E.icmpN (q := 93) X643 hx (hb hby d11_90) (XT.ii_ne_f hfull) ?_
          have hfl : (min 3 xs.length) ≤ i + 1 := by have := (own_eqN (by omega) (by omega)).mp hfull; omega
          refine E.aload (q := 95) X643 hx (hb hby d11_93) rfl rfl ?_
          refine E.iload (q := 97) X643 hx (hb hby d11_95) rfl ?_
          refine E.iconst (q := 98) (v := (1 : Int32)) X643 hx (hb hby d11_97) rfl ?_
          refine E.isub (q := 99) X643 hx (hb hby d11_98) ?_
          rw [own_pred (by omega)]
          obtain ⟨t2, at2⟩ : ∃ z, rs2[min (i + 1) (min 3 xs.length) - 1]? = some z := ⟨_, List.getElem?_eq_getElem (by rw [H2.2.1]; omega)⟩
          have ht2 : t2 = (xs.map own_Rf).getD ((own_go (own_gtI (xs.map own_Rf)) (min 3 xs.length) (i + 1)).getD ((min 3 xs.length) - 1) 0) 0 := by rw [← own_Rel_at H2 (k := (min 3 xs.length) - 1) (by rw [hSl2]; omega)]; rw [show min (i + 1) (min 3 xs.length) - 1 = (min 3 xs.length) - 1 from by omega] at at2; simp [List.getD_eq_getElem?_getD, at2]
          refine Ends.ild X643 hx hZ e643 VR643 (i := (min (i + 1) (min 3 xs.length) - 1)) (v := .int t2) rfl (by rw [List.getElem?_map, at2]; rfl) (hb hby d11_99) ?_
          refine E.istore (q := 102) (l' := #[.val (.int (Int32.ofNat xs.length)), .val (.ref oa), .val (.ref tb), .val (.ref b612), .val (.ref b614), .val (.ref b615), .val (.int (Int32.ofNat (min (i + 1) (min 3 xs.length)))), .val (.int t2), .val (.int (Int32.ofNat i)), .val (.int x), .val (.int (own_Rf x))]) X643 hx (hb hby d11_100) rfl ?_
          refine E.iinc (q := 105) (v := ((Int32.ofNat i) + (1 : Int32))) (l' := #[.val (.int (Int32.ofNat xs.length)), .val (.ref oa), .val (.ref tb), .val (.ref b612), .val (.ref b614), .val (.ref b615), .val (.int (Int32.ofNat (min (i + 1) (min 3 xs.length)))), .val (.int t2), .val (.int ((Int32.ofNat i) + (1 : Int32))), .val (.int x), .val (.int (own_Rf x))]) X643 hx (hb hby d11_102) rfl rfl rfl ?_
          refine E.goto (q := 29) X643 hx (hb hby d11_105) ?_
          rw [own_succ i]
          have f644 := V636.keep hO643.1 (ninS n_b612_b614 (ninS n_b612_b615 nin0))
          exact ih (i + 1) (by omega) ps2 rs2 t2 H2 (fun _ => Or.inr ⟨hfl, ht2⟩) _ _ (Or.inr ⟨_, rfl⟩) (Or.inr ⟨_, rfl⟩) _ _ _ X643 e643 O643 f644 VP643 VR643
        · refine E.icmpY (q := 102) X643 hx (hb hby d11_90) (XT.ii_ne_t hfull) ?_
          have hnf : i + 1 < (min 3 xs.length) := Classical.byContradiction fun q => hfull (by rw [show min (i + 1) (min 3 xs.length) = (min 3 xs.length) from by omega])
          have htm : tv = -1 := htv.elim (fun q => q.2) (fun q => absurd q.1 (by omega))
          refine E.iinc (q := 105) (v := ((Int32.ofNat i) + (1 : Int32))) (l' := #[.val (.int (Int32.ofNat xs.length)), .val (.ref oa), .val (.ref tb), .val (.ref b612), .val (.ref b614), .val (.ref b615), .val (.int (Int32.ofNat (min (i + 1) (min 3 xs.length)))), .val (.int tv), .val (.int ((Int32.ofNat i) + (1 : Int32))), .val (.int x), .val (.int (own_Rf x))]) X643 hx (hb hby d11_102) rfl rfl rfl ?_
          refine E.goto (q := 29) X643 hx (hb hby d11_105) ?_
          rw [own_succ i]
          have f645 := V636.keep hO643.1 (ninS n_b612_b614 (ninS n_b612_b615 nin0))
          exact ih (i + 1) (by omega) ps2 rs2 tv H2 (fun _ => Or.inl ⟨hnf, htm⟩) _ _ (Or.inr ⟨_, rfl⟩) (Or.inr ⟨_, rfl⟩) _ _ _ X643 e643 O643 f645 VP643 VR643
      · refine E.icmpY (q := 102) X637 hx (hb hby d11_67) (XT.ii_le_t hq) ?_
        have hfu : (min 3 xs.length) ≤ i ∧ tv = (xs.map own_Rf).getD ((own_go (own_gtI (xs.map own_Rf)) (min 3 xs.length) i).getD ((min 3 xs.length) - 1) 0) 0 := htv.resolve_left (fun q => hq (by rw [q.2]; exact own_Rf_pos x))
        have hst : (own_go (own_gtI (xs.map own_Rf)) (min 3 xs.length) (i + 1)) = (own_go (own_gtI (xs.map own_Rf)) (min 3 xs.length) i) := own_step_not (by rw [hSl]; omega) (by rw [hSl, Nat.min_eq_right hfu.1]; simp only [own_gtI, decide_eq_true_eq]; rw [← hfu.2, hrk]; exact hq)
        refine E.iinc (q := 105) (v := ((Int32.ofNat i) + (1 : Int32))) (l' := #[.val (.int (Int32.ofNat xs.length)), .val (.ref oa), .val (.ref tb), .val (.ref b612), .val (.ref b614), .val (.ref b615), .val (.int (Int32.ofNat (min i (min 3 xs.length)))), .val (.int tv), .val (.int ((Int32.ofNat i) + (1 : Int32))), .val (.int x), .val (.int (own_Rf x))]) X637 hx (hb hby d11_102) rfl rfl rfl ?_
        refine E.goto (q := 29) X637 hx (hb hby d11_105) ?_
        rw [own_succ i, show min i (min 3 xs.length) = min (i + 1) (min 3 xs.length) from by omega]
        have f639 := Ap.other W636 (Ne.symm n_b612_b614)
        have f640 := Ar.other W636 (Ne.symm n_b612_b615)
        exact ih (i + 1) (by omega) ps rs tv (by rw [hst]; exact H) (fun _ => Or.inr ⟨by omega, by rw [hst]; exact hfu.2⟩) _ _ (Or.inr ⟨_, rfl⟩) (Or.inr ⟨_, rfl⟩) _ _ _ X637 e637 O636 V636 f639 f640
  have htv0 : (0 < xs.length → (0 < (min 3 xs.length) ∧ (-1 : Int32) = -1) ∨ ((min 3 xs.length) ≤ 0 ∧ (-1 : Int32) = (xs.map own_Rf).getD ((own_go (own_gtI (xs.map own_Rf)) (min 3 xs.length) 0).getD ((min 3 xs.length) - 1) 0) 0)) := fun q => Or.inl ⟨by omega, rfl⟩
  have f646 := f624.ext E615
  have f647 := V614.ext E615
  exact J xs.length 0 (by omega) _ _ _ (own_Rel0 (xs.map own_Rf) (min 3 xs.length)) htv0 _ _ (Or.inl rfl) (Or.inl rfl) _ _ _ X615 e615 O615 (by simpa using f646) f647 V615
theorem ef_4 (m : MethodId) (x0 : Addr) : entryFrame m #[(.ref x0)] 1 = mkF m 0 #[.val (.ref x0)] [] := by first | (simp [entryFrame, mkF, argsToLocals, Value.category]; done) | rfl
theorem rm4 (l : Launch) (Z : State) (a0 : Array Value) (hw : ∀ d ∈ tables_1, d.before a0 Z = true) (sa : Addr) (Va : Addr) (cd : Int32) (bs xs : List Int32) (hS : own_Str cd bs xs) (h5 : xs.length ≤ 5) (rr : Addr) (h0 : Heap) (Es : Exa Z h0 sa "java/lang/String") (Svs : Fld Z h0 sa "java/lang/String" "value" "[B" (.ref Va)) (Scs : Fld Z h0 sa "java/lang/String" "coder" "B" (.int cd)) (A_x : Ary Z h0 Va .byte (bs.map Value.int)) (cs : Int32) (hcs : ¬ cs = (0 : Int32)) (S0 : Sta Z h0 "java/lang/String" "COMPACT_STRINGS" "Z" (.int cs)) (fv : Value) (hfv : fv = .null ∨ ∃ a, fv = .ref a) (S1 : Sta Z h0 "jdk/internal/util/Preconditions" "SIOOBE_FORMATTER" "Ljava/util/function/BiFunction;" fv) (S2 : Sta Z h0 "java/lang/StringUTF16" "$assertionsDisabled" "Z" (.int (1 : Int32))) (S3 : Sta Z h0 "java/lang/StringUTF16" "HI_BYTE_SHIFT" "I" (.int (0 : Int32))) (S4 : Sta Z h0 "java/lang/StringUTF16" "LO_BYTE_SHIFT" "I" (.int (8 : Int32))) (SR : Sta Z h0 "com/example/needlework/needlework/match/CompiledPattern" "RARITY" "[B" (.ref rr)) (A_R : Ary Z h0 rr .byte (own_RL.map Value.int)) :
    ConH l (⟨"com/example/needlework/needlework/match/CompiledPattern", "of", "(Ljava/lang/CharSequence;)Lcom/example/needlework/needlework/match/CompiledPattern;"⟩ : MethodName) prog_14_method_2_code 1 (some (.object "com/example/needlework/needlework/match/CompiledPattern")) [] ({ frames := 8, cells := 11, slots := 88, locals := 3110 } : Room) #[(.ref sa)] Z h0 own_EL (fun v h L => ∃ (o Uu Tt Pp : Addr), v = some (.ref o) ∧ h0.size ≤ o ∧ Ok h0 h [] L ∧ Ary Z h Tt .int ((own_ints (own_kmp xs)).map Value.int) ∧ Exa Z h Tt "[I" ∧ Exa Z h o "com/example/needlework/needlework/match/CompiledPattern" ∧ Fld Z h o "com/example/needlework/needlework/match/CompiledPattern" "units" "[I" (.ref Uu) ∧ Fld Z h o "com/example/needlework/needlework/match/CompiledPattern" "table" "[I" (.ref Tt) ∧ Fld Z h o "com/example/needlework/needlework/match/CompiledPattern" "probes" "[I" (.ref Pp) ∧ Ary Z h Uu .int (xs.map Value.int) ∧ Ary Z h Pp .int ((own_ints (own_go (own_gtI (xs.map own_Rf)) (min 3 xs.length) xs.length)).map Value.int)) := by
  refine ConH.ofN (plainFor_of_name pn_6) ?_
  intro p e s m below meth c s₁ vm0 HC0 hx hZ hby hml hown hnm hret hlk X0 e0 hmn
  refine Ends.cast (ef_4 m sa) ?_
  have O0 := Ok.refl h0 []
  refine E.aloadN (q := 1) X0 hx (hb hby d4_0) rfl rfl ?_
  refine Ends.ldcO X0 hx hZ hown (own_w hw 29 rfl) (own_sat hw) e0 (Nat.zero_le _) (own_EW hw) HC0.1 (hb hby d4_1) 28 (by decide) (by decide) (by decide) (by decide) ?_
  intro s T648 h648 c648 X648 e648 E648 hc648 hZ hown
  have O648 := O0.ext E648
  have HC649 := HC0.trans hc648
  refine Ends.callS X648 hx hZ hown (own_w hw 30 rfl) (own_w hw 31 rfl) (own_w hw 32 rfl) (own_w hw 33 rfl) (by decide) (argsL := [(.ref sa), (.ref c648)]) (rest := []) e648 (rm5 l Z a0 hw sa c648 _) (W := 0) (by decide) (by decide) (by rw [hml]; rfl) (lenOf pd_15 rfl) (Nat.le_of_eq rfl) (hb hby d4_3) (by decide) (by decide) rfl ?_
  rintro T650 v650 L650 X650 ⟨rfl, e650, rfl⟩
  rw [List.append_nil] at X650
  refine E.pop (q := 7) X650 hx (hb hby d4_6) rfl ?_
  refine E.aloadN (q := 8) X650 hx (hb hby d4_7) rfl rfl ?_
  have f651 := Es.ext E648
  have f652 := Svs.ext E648
  have f653 := Scs.ext E648
  have f654 := A_x.ext E648
  refine Ends.callF X650 hx hZ hown (own_w hw 34 rfl) (own_w hw 35 rfl) (own_w hw 36 rfl) (own_w hw 37 rfl) (own_w hw 38 rfl) (own_w hw 39 rfl) (own_w hw 40 rfl) (own_w hw 41 rfl) (own_w hw 6 rfl) (own_w hw 42 rfl) (by decide) (argsL := []) (rest := []) e650 f651 (own_len l Z a0 hw sa Va cd bs xs hS _ f651 f652 f653 f654 cs hcs (own_sta_keep S0 O648.1 own_ns0)) (W := 0) (by decide) (by decide) (by rw [hml]; rfl) (lenOf pd_16 rfl) (Nat.le_of_eq rfl) (hb hby d4_8) (by decide) (by decide) rfl ?_
  rintro T655 v655 L655 X655 ⟨rfl, e655, rfl⟩
  rw [List.append_nil] at X655
  refine E.aloadN (q := 14) X655 hx (hb hby d4_13) rfl rfl ?_
  refine E.dup (q := 15) X655 hx (hb hby d4_14) rfl ?_
  refine Ends.callS X655 hx hZ hown (own_w hw 49 rfl) (own_w hw 50 rfl) (own_w hw 32 rfl) (own_w hw 51 rfl) (by decide) (argsL := [(.ref sa)]) (rest := [(.ref sa), (.int (Int32.ofNat xs.length))]) e655 (rm8 l Z a0 hw sa _) (W := 2) (by decide) (by decide) (by rw [hml]; rfl) (lenOf pd_17 rfl) (Nat.le_of_eq rfl) (hb hby d4_15) (by decide) (by decide) rfl ?_
  rintro T656 v656 L656 X656 ⟨rfl, e656, rfl⟩
  rw [List.append_nil] at X656
  refine E.pop (q := 19) X656 hx (hb hby d4_18) rfl ?_
  refine Ends.site (σ := own_sh) (C0 := "java/lang/CharSequence") X656 hx hZ (x := ({ cls := "com/example/needlework/needlework/match/CompiledPattern", name := "of", desc := "(Ljava/lang/CharSequence;)Lcom/example/needlework/needlework/match/CompiledPattern;" } : Jvm.MethodName)) hmn (own_w hw 52 rfl) rfl own_fw0 (own_w hw 55 rfl) e656 (sa := sa) (st := [(.int (Int32.ofNat xs.length))]) (by rw [hml]; rfl) (W := 1) (Nat.le_of_eq rfl) (by decide) (hb hby d4_19) (by decide) (by decide) ?_
  intro T657 h657 b657 cK657 one657 g657 hat657 X657 e657 E657 A657
  have ge_b657 : h0.size ≤ b657 := Nat.le_trans O648.le (Nat.le_of_eq g657.symm)
  have O657 := O648.ext E657
  have HC658 := HC649.trans (CHr.ext E657 HC649.1)
  have LA657 : LamAt h657 b657 cK657 sa := A657
  refine E.aloadN (q := 25) X657 hx (hb hby d4_24) rfl rfl ?_
  have f659 := f651.ext E657
  have f660 := f652.ext E657
  have f661 := f653.ext E657
  have f662 := f654.ext E657
  refine Ends.callSH X657 hx hZ hown (own_w hw 56 rfl) (own_w hw 57 rfl) (own_w hw 58 rfl) (own_w hw 59 rfl) (by decide) (argsL := [(.ref sa)]) (rest := [(.ref b657), (.int (Int32.ofNat xs.length))]) e657 (Nat.le_trans (Nat.le_refl _) E657.1) (own_EW hw) HC658.1 (rm9 l Z a0 hw sa Va cd bs xs hS (by omega) _ f659 f660 f661 f662 cs hcs (own_sta_keep S0 O657.1 own_ns0) fv hfv (own_sta_keep S1 O657.1 own_ns0) (own_sta_keep S2 O657.1 own_ns0) (own_sta_keep S3 O657.1 own_ns0) (own_sta_keep S4 O657.1 own_ns0)) (W := 2) (by decide) (by decide) (by rw [hml]; rfl) (lenOf pd_22 rfl) (Nat.le_of_eq rfl) (hb hby d4_25) (by decide) (by decide) rfl ?_
  rintro s T663 v663 L663 X663 hc663 hZ hown ⟨b663, rfl, gb663, hO663, V663, EX663⟩
  have e663 : T663.heap = T663.heap := rfl
  have O663 := O657.call hO663 all0
  have HC664 := HC658.trans hc663
  have f665 := LA657.keep hO663.1 nin0
  have f666 := f659.keep hO663.1
  have f667 := f660.keep hO663.1 nin0
  have f668 := f661.keep hO663.1 nin0
  have f669 := f662.keep hO663.1 nin0
  have f670 := ((A_R.ext E648).ext E657).keep hO663.1 nin0
  refine Ends.callS X663 hx hZ hown (own_w hw 68 rfl) (own_w hw 69 rfl) (own_w hw 27 rfl) (own_w hw 70 rfl) (by decide) (argsL := [(.int (Int32.ofNat xs.length)), (.ref b657), (.ref b663)]) (rest := []) e663 (rm11 l Z a0 hw b657 b663 sa ({ cls := "com/example/needlework/needlework/match/CompiledPattern", name := "of", desc := "(Ljava/lang/CharSequence;)Lcom/example/needlework/needlework/match/CompiledPattern;" } : Jvm.MethodName) 19 36 cK657 one657 hat657 own_fw0 Va cd bs xs hS h5 rr _ f665 f666 f667 f668 f669 cs hcs (own_sta_keep S0 O663.1 own_ns0) fv hfv (own_sta_keep S1 O663.1 own_ns0) (own_sta_keep S2 O663.1 own_ns0) (own_sta_keep S3 O663.1 own_ns0) (own_sta_keep S4 O663.1 own_ns0) (own_sta_keep SR O663.1 own_ns0) f670) (W := 0) (by decide) (by decide) (by rw [hml]; rfl) (lenOf pd_23 rfl) (Nat.le_of_eq rfl) (hb hby d4_28) (by decide) (by decide) rfl ?_
  rintro T671 v671 L671 X671 ⟨o671, Uu671, Pp671, rfl, go671, hO671, Eo671, Fu671, Ft671, Fp671, AU671, AP671⟩
  have e671 : T671.heap = T671.heap := rfl
  have O671 := O663.call hO671 all0
  have HC672 := HC664.trans (CHr.keep hO671.1 (own_all0) HC664.1)
  have ge2 : h0.size ≤ o671 := Nat.le_trans O663.le go671
  have f673 := V663.keep hO671.1 nin0
  have f674 := EX663.keep hO671.1
  exact Ends.retA X671 hx hlk hret rfl rfl rfl (hb hby d4_31) (by decide) (by decide) ⟨⟨_, _, _, _, rfl, ge2, O671, f673, f674, Eo671, Fu671, Ft671, Fp671, AU671, AP671⟩, by first | exact (Nat.le_trans (Nat.le_refl _) hO671.1.1) | (rw [e671]; exact (Nat.le_trans (Nat.le_refl _) hO671.1.1))⟩ (hF := own_chret X671 hZ (own_EW hw) HC672 (by first | rfl | assumption))
theorem ef_16 (m : MethodId) (x0 : Int32) : entryFrame m #[(.int x0)] 2 = mkF m 0 #[.val (.int x0), .unset] [] := by first | (simp [entryFrame, mkF, argsToLocals, Value.category]; done) | rfl
theorem rm16 (l : Launch) (Z : State) (a0 : Array Value) (hw : ∀ d ∈ tables_1, d.before a0 Z = true) (x : Int32) (h0 : Heap) :
    Con l (⟨"com/example/needlework/needlework/match/CompiledPatternOfPinLaw", "rarity", "(I)I"⟩ : MethodName) method_7_code 2 (some .int) [] ({ frames := 0, cells := 0, slots := 0, locals := 0 } : Room) #[(.int x)] Z h0 (fun v h L => v = some (.int (own_Rf x)) ∧ h = h0 ∧ L = []) := by
  refine Con.of (plainFor_of_name pn_7) ?_
  intro p e s m below meth c s₁ hx hZ hby hml hown hnm hret hlk X0 e0
  refine Ends.cast (ef_16 m x) ?_
  refine E.iloadN (q := 1) X0 hx (hb hby d16_0) rfl ?_
  refine E.sipush (q := 4) (v := (255 : Int32)) X0 hx (hb hby d16_1) rfl ?_
  refine E.iand (q := 5) X0 hx (hb hby d16_4) ?_
  obtain ⟨kk, hkk⟩ : ∃ kk, kk = x.toBitVec.toNat &&& 255 := ⟨_, rfl⟩
  have hk255 : kk ≤ 255 := by rw [hkk]; exact Nat.and_le_right
  have hR : own_Rf x = own_Rn kk := by rw [hkk]; rfl
  rw [own_and255N x, ← hkk]
  refine E.istoreN (q := 6) (l' := #[.val (.int x), .val (.int (Int32.ofNat kk))]) X0 hx (hb hby d16_5) rfl ?_
  refine E.iloadN (q := 7) X0 hx (hb hby d16_6) rfl ?_
  refine E.bipush (q := 9) (v := (32 : Int32)) X0 hx (hb hby d16_7) rfl ?_
  by_cases q32 : (Int32.ofNat kk) = (32 : Int32)
  · refine E.icmpN (q := 12) X0 hx (hb hby d16_9) (XT.ii_ne_f q32) ?_
    have e : kk = 32 := (own_eqN (b := 32) (by omega) (by decide)).mp q32
    refine E.iconst (q := 13) (v := (0 : Int32)) X0 hx (hb hby d16_12) rfl ?_
    exact Ends.retI X0 hx hlk hret (hb hby d16_13) (by decide) (by decide) ⟨by rw [hR, e]; rfl, e0, rfl⟩
  · refine E.icmpY (q := 14) X0 hx (hb hby d16_9) (XT.ii_ne_t q32) ?_
    have n32 : ¬ kk = 32 := fun q => q32 (by rw [q]; rfl)
    refine E.iloadN (q := 15) X0 hx (hb hby d16_14) rfl ?_
    refine E.bipush (q := 17) (v := (101 : Int32)) X0 hx (hb hby d16_15) rfl ?_
    by_cases q101 : (Int32.ofNat kk) = (101 : Int32)
    · refine E.icmpN (q := 20) X0 hx (hb hby d16_17) (XT.ii_ne_f q101) ?_
      have e : kk = 101 := (own_eqN (b := 101) (by omega) (by decide)).mp q101
      refine E.iconst (q := 21) (v := (1 : Int32)) X0 hx (hb hby d16_20) rfl ?_
      exact Ends.retI X0 hx hlk hret (hb hby d16_21) (by decide) (by decide) ⟨by rw [hR, e]; rfl, e0, rfl⟩
    · refine E.icmpY (q := 22) X0 hx (hb hby d16_17) (XT.ii_ne_t q101) ?_
      have n101 : ¬ kk = 101 := fun q => q101 (by rw [q]; rfl)
      refine E.iloadN (q := 23) X0 hx (hb hby d16_22) rfl ?_
      refine E.bipush (q := 25) (v := (116 : Int32)) X0 hx (hb hby d16_23) rfl ?_
      by_cases q116 : (Int32.ofNat kk) = (116 : Int32)
      · refine E.icmpN (q := 28) X0 hx (hb hby d16_25) (XT.ii_ne_f q116) ?_
        have e : kk = 116 := (own_eqN (b := 116) (by omega) (by decide)).mp q116
        refine E.iconst (q := 29) (v := (2 : Int32)) X0 hx (hb hby d16_28) rfl ?_
        exact Ends.retI X0 hx hlk hret (hb hby d16_29) (by decide) (by decide) ⟨by rw [hR, e]; rfl, e0, rfl⟩
      · refine E.icmpY (q := 30) X0 hx (hb hby d16_25) (XT.ii_ne_t q116) ?_
        have n116 : ¬ kk = 116 := fun q => q116 (by rw [q]; rfl)
        refine E.iloadN (q := 31) X0 hx (hb hby d16_30) rfl ?_
        refine E.bipush (q := 33) (v := (97 : Int32)) X0 hx (hb hby d16_31) rfl ?_
        by_cases q97 : (Int32.ofNat kk) = (97 : Int32)
        · refine E.icmpN (q := 36) X0 hx (hb hby d16_33) (XT.ii_ne_f q97) ?_
          have e : kk = 97 := (own_eqN (b := 97) (by omega) (by decide)).mp q97
          refine E.iconst (q := 37) (v := (3 : Int32)) X0 hx (hb hby d16_36) rfl ?_
          exact Ends.retI X0 hx hlk hret (hb hby d16_37) (by decide) (by decide) ⟨by rw [hR, e]; rfl, e0, rfl⟩
        · refine E.icmpY (q := 38) X0 hx (hb hby d16_33) (XT.ii_ne_t q97) ?_
          have n97 : ¬ kk = 97 := fun q => q97 (by rw [q]; rfl)
          refine E.iloadN (q := 39) X0 hx (hb hby d16_38) rfl ?_
          refine E.bipush (q := 41) (v := (111 : Int32)) X0 hx (hb hby d16_39) rfl ?_
          by_cases q111 : (Int32.ofNat kk) = (111 : Int32)
          · refine E.icmpN (q := 44) X0 hx (hb hby d16_41) (XT.ii_ne_f q111) ?_
            have e : kk = 111 := (own_eqN (b := 111) (by omega) (by decide)).mp q111
            refine E.iconst (q := 45) (v := (4 : Int32)) X0 hx (hb hby d16_44) rfl ?_
            exact Ends.retI X0 hx hlk hret (hb hby d16_45) (by decide) (by decide) ⟨by rw [hR, e]; rfl, e0, rfl⟩
          · refine E.icmpY (q := 46) X0 hx (hb hby d16_41) (XT.ii_ne_t q111) ?_
            have n111 : ¬ kk = 111 := fun q => q111 (by rw [q]; rfl)
            refine E.iloadN (q := 47) X0 hx (hb hby d16_46) rfl ?_
            refine E.bipush (q := 49) (v := (105 : Int32)) X0 hx (hb hby d16_47) rfl ?_
            by_cases q105 : (Int32.ofNat kk) = (105 : Int32)
            · refine E.icmpN (q := 52) X0 hx (hb hby d16_49) (XT.ii_ne_f q105) ?_
              have e : kk = 105 := (own_eqN (b := 105) (by omega) (by decide)).mp q105
              refine E.iconst (q := 53) (v := (5 : Int32)) X0 hx (hb hby d16_52) rfl ?_
              exact Ends.retI X0 hx hlk hret (hb hby d16_53) (by decide) (by decide) ⟨by rw [hR, e]; rfl, e0, rfl⟩
            · refine E.icmpY (q := 54) X0 hx (hb hby d16_49) (XT.ii_ne_t q105) ?_
              have n105 : ¬ kk = 105 := fun q => q105 (by rw [q]; rfl)
              refine E.iloadN (q := 55) X0 hx (hb hby d16_54) rfl ?_
              refine E.bipush (q := 57) (v := (110 : Int32)) X0 hx (hb hby d16_55) rfl ?_
              by_cases q110 : (Int32.ofNat kk) = (110 : Int32)
              · refine E.icmpN (q := 60) X0 hx (hb hby d16_57) (XT.ii_ne_f q110) ?_
                have e : kk = 110 := (own_eqN (b := 110) (by omega) (by decide)).mp q110
                refine E.bipush (q := 62) (v := (6 : Int32)) X0 hx (hb hby d16_60) rfl ?_
                exact Ends.retI X0 hx hlk hret (hb hby d16_62) (by decide) (by decide) ⟨by rw [hR, e]; rfl, e0, rfl⟩
              · refine E.icmpY (q := 63) X0 hx (hb hby d16_57) (XT.ii_ne_t q110) ?_
                have n110 : ¬ kk = 110 := fun q => q110 (by rw [q]; rfl)
                refine E.iloadN (q := 64) X0 hx (hb hby d16_63) rfl ?_
                refine E.bipush (q := 66) (v := (115 : Int32)) X0 hx (hb hby d16_64) rfl ?_
                by_cases q115 : (Int32.ofNat kk) = (115 : Int32)
                · refine E.icmpN (q := 69) X0 hx (hb hby d16_66) (XT.ii_ne_f q115) ?_
                  have e : kk = 115 := (own_eqN (b := 115) (by omega) (by decide)).mp q115
                  refine E.bipush (q := 71) (v := (7 : Int32)) X0 hx (hb hby d16_69) rfl ?_
                  exact Ends.retI X0 hx hlk hret (hb hby d16_71) (by decide) (by decide) ⟨by rw [hR, e]; rfl, e0, rfl⟩
                · refine E.icmpY (q := 72) X0 hx (hb hby d16_66) (XT.ii_ne_t q115) ?_
                  have n115 : ¬ kk = 115 := fun q => q115 (by rw [q]; rfl)
                  refine E.iloadN (q := 73) X0 hx (hb hby d16_72) rfl ?_
                  refine E.bipush (q := 75) (v := (114 : Int32)) X0 hx (hb hby d16_73) rfl ?_
                  by_cases q114 : (Int32.ofNat kk) = (114 : Int32)
                  · refine E.icmpN (q := 78) X0 hx (hb hby d16_75) (XT.ii_ne_f q114) ?_
                    have e : kk = 114 := (own_eqN (b := 114) (by omega) (by decide)).mp q114
                    refine E.bipush (q := 80) (v := (8 : Int32)) X0 hx (hb hby d16_78) rfl ?_
                    exact Ends.retI X0 hx hlk hret (hb hby d16_80) (by decide) (by decide) ⟨by rw [hR, e]; rfl, e0, rfl⟩
                  · refine E.icmpY (q := 81) X0 hx (hb hby d16_75) (XT.ii_ne_t q114) ?_
                    have n114 : ¬ kk = 114 := fun q => q114 (by rw [q]; rfl)
                    refine E.iloadN (q := 82) X0 hx (hb hby d16_81) rfl ?_
                    refine E.bipush (q := 84) (v := (104 : Int32)) X0 hx (hb hby d16_82) rfl ?_
                    by_cases q104 : (Int32.ofNat kk) = (104 : Int32)
                    · refine E.icmpN (q := 87) X0 hx (hb hby d16_84) (XT.ii_ne_f q104) ?_
                      have e : kk = 104 := (own_eqN (b := 104) (by omega) (by decide)).mp q104
                      refine E.bipush (q := 89) (v := (9 : Int32)) X0 hx (hb hby d16_87) rfl ?_
                      exact Ends.retI X0 hx hlk hret (hb hby d16_89) (by decide) (by decide) ⟨by rw [hR, e]; rfl, e0, rfl⟩
                    · refine E.icmpY (q := 90) X0 hx (hb hby d16_84) (XT.ii_ne_t q104) ?_
                      have n104 : ¬ kk = 104 := fun q => q104 (by rw [q]; rfl)
                      refine E.iloadN (q := 91) X0 hx (hb hby d16_90) rfl ?_
                      refine E.bipush (q := 93) (v := (108 : Int32)) X0 hx (hb hby d16_91) rfl ?_
                      by_cases q108 : (Int32.ofNat kk) = (108 : Int32)
                      · refine E.icmpN (q := 96) X0 hx (hb hby d16_93) (XT.ii_ne_f q108) ?_
                        have e : kk = 108 := (own_eqN (b := 108) (by omega) (by decide)).mp q108
                        refine E.bipush (q := 98) (v := (10 : Int32)) X0 hx (hb hby d16_96) rfl ?_
                        exact Ends.retI X0 hx hlk hret (hb hby d16_98) (by decide) (by decide) ⟨by rw [hR, e]; rfl, e0, rfl⟩
                      · refine E.icmpY (q := 99) X0 hx (hb hby d16_93) (XT.ii_ne_t q108) ?_
                        have n108 : ¬ kk = 108 := fun q => q108 (by rw [q]; rfl)
                        refine E.iloadN (q := 100) X0 hx (hb hby d16_99) rfl ?_
                        refine E.bipush (q := 102) (v := (100 : Int32)) X0 hx (hb hby d16_100) rfl ?_
                        by_cases q100 : (Int32.ofNat kk) = (100 : Int32)
                        · refine E.icmpN (q := 105) X0 hx (hb hby d16_102) (XT.ii_ne_f q100) ?_
                          have e : kk = 100 := (own_eqN (b := 100) (by omega) (by decide)).mp q100
                          refine E.bipush (q := 107) (v := (11 : Int32)) X0 hx (hb hby d16_105) rfl ?_
                          exact Ends.retI X0 hx hlk hret (hb hby d16_107) (by decide) (by decide) ⟨by rw [hR, e]; rfl, e0, rfl⟩
                        · refine E.icmpY (q := 108) X0 hx (hb hby d16_102) (XT.ii_ne_t q100) ?_
                          have n100 : ¬ kk = 100 := fun q => q100 (by rw [q]; rfl)
                          refine E.iloadN (q := 109) X0 hx (hb hby d16_108) rfl ?_
                          refine E.bipush (q := 111) (v := (99 : Int32)) X0 hx (hb hby d16_109) rfl ?_
                          by_cases q99 : (Int32.ofNat kk) = (99 : Int32)
                          · refine E.icmpN (q := 114) X0 hx (hb hby d16_111) (XT.ii_ne_f q99) ?_
                            have e : kk = 99 := (own_eqN (b := 99) (by omega) (by decide)).mp q99
                            refine E.bipush (q := 116) (v := (12 : Int32)) X0 hx (hb hby d16_114) rfl ?_
                            exact Ends.retI X0 hx hlk hret (hb hby d16_116) (by decide) (by decide) ⟨by rw [hR, e]; rfl, e0, rfl⟩
                          · refine E.icmpY (q := 117) X0 hx (hb hby d16_111) (XT.ii_ne_t q99) ?_
                            have n99 : ¬ kk = 99 := fun q => q99 (by rw [q]; rfl)
                            refine E.iloadN (q := 118) X0 hx (hb hby d16_117) rfl ?_
                            refine E.bipush (q := 120) (v := (117 : Int32)) X0 hx (hb hby d16_118) rfl ?_
                            by_cases q117 : (Int32.ofNat kk) = (117 : Int32)
                            · refine E.icmpN (q := 123) X0 hx (hb hby d16_120) (XT.ii_ne_f q117) ?_
                              have e : kk = 117 := (own_eqN (b := 117) (by omega) (by decide)).mp q117
                              refine E.bipush (q := 125) (v := (13 : Int32)) X0 hx (hb hby d16_123) rfl ?_
                              exact Ends.retI X0 hx hlk hret (hb hby d16_125) (by decide) (by decide) ⟨by rw [hR, e]; rfl, e0, rfl⟩
                            · refine E.icmpY (q := 126) X0 hx (hb hby d16_120) (XT.ii_ne_t q117) ?_
                              have n117 : ¬ kk = 117 := fun q => q117 (by rw [q]; rfl)
                              refine E.iloadN (q := 127) X0 hx (hb hby d16_126) rfl ?_
                              refine E.bipush (q := 129) (v := (109 : Int32)) X0 hx (hb hby d16_127) rfl ?_
                              by_cases q109 : (Int32.ofNat kk) = (109 : Int32)
                              · refine E.icmpN (q := 132) X0 hx (hb hby d16_129) (XT.ii_ne_f q109) ?_
                                have e : kk = 109 := (own_eqN (b := 109) (by omega) (by decide)).mp q109
                                refine E.bipush (q := 134) (v := (14 : Int32)) X0 hx (hb hby d16_132) rfl ?_
                                exact Ends.retI X0 hx hlk hret (hb hby d16_134) (by decide) (by decide) ⟨by rw [hR, e]; rfl, e0, rfl⟩
                              · refine E.icmpY (q := 135) X0 hx (hb hby d16_129) (XT.ii_ne_t q109) ?_
                                have n109 : ¬ kk = 109 := fun q => q109 (by rw [q]; rfl)
                                refine E.iloadN (q := 136) X0 hx (hb hby d16_135) rfl ?_
                                refine E.bipush (q := 138) (v := (102 : Int32)) X0 hx (hb hby d16_136) rfl ?_
                                by_cases q102 : (Int32.ofNat kk) = (102 : Int32)
                                · refine E.icmpN (q := 141) X0 hx (hb hby d16_138) (XT.ii_ne_f q102) ?_
                                  have e : kk = 102 := (own_eqN (b := 102) (by omega) (by decide)).mp q102
                                  refine E.bipush (q := 143) (v := (15 : Int32)) X0 hx (hb hby d16_141) rfl ?_
                                  exact Ends.retI X0 hx hlk hret (hb hby d16_143) (by decide) (by decide) ⟨by rw [hR, e]; rfl, e0, rfl⟩
                                · refine E.icmpY (q := 144) X0 hx (hb hby d16_138) (XT.ii_ne_t q102) ?_
                                  have n102 : ¬ kk = 102 := fun q => q102 (by rw [q]; rfl)
                                  refine E.iloadN (q := 145) X0 hx (hb hby d16_144) rfl ?_
                                  refine E.bipush (q := 147) (v := (112 : Int32)) X0 hx (hb hby d16_145) rfl ?_
                                  by_cases q112 : (Int32.ofNat kk) = (112 : Int32)
                                  · refine E.icmpN (q := 150) X0 hx (hb hby d16_147) (XT.ii_ne_f q112) ?_
                                    have e : kk = 112 := (own_eqN (b := 112) (by omega) (by decide)).mp q112
                                    refine E.bipush (q := 152) (v := (16 : Int32)) X0 hx (hb hby d16_150) rfl ?_
                                    exact Ends.retI X0 hx hlk hret (hb hby d16_152) (by decide) (by decide) ⟨by rw [hR, e]; rfl, e0, rfl⟩
                                  · refine E.icmpY (q := 153) X0 hx (hb hby d16_147) (XT.ii_ne_t q112) ?_
                                    have n112 : ¬ kk = 112 := fun q => q112 (by rw [q]; rfl)
                                    refine E.iloadN (q := 154) X0 hx (hb hby d16_153) rfl ?_
                                    refine E.bipush (q := 156) (v := (103 : Int32)) X0 hx (hb hby d16_154) rfl ?_
                                    by_cases q103 : (Int32.ofNat kk) = (103 : Int32)
                                    · refine E.icmpN (q := 159) X0 hx (hb hby d16_156) (XT.ii_ne_f q103) ?_
                                      have e : kk = 103 := (own_eqN (b := 103) (by omega) (by decide)).mp q103
                                      refine E.bipush (q := 161) (v := (17 : Int32)) X0 hx (hb hby d16_159) rfl ?_
                                      exact Ends.retI X0 hx hlk hret (hb hby d16_161) (by decide) (by decide) ⟨by rw [hR, e]; rfl, e0, rfl⟩
                                    · refine E.icmpY (q := 162) X0 hx (hb hby d16_156) (XT.ii_ne_t q103) ?_
                                      have n103 : ¬ kk = 103 := fun q => q103 (by rw [q]; rfl)
                                      refine E.iloadN (q := 163) X0 hx (hb hby d16_162) rfl ?_
                                      refine E.bipush (q := 165) (v := (119 : Int32)) X0 hx (hb hby d16_163) rfl ?_
                                      by_cases q119 : (Int32.ofNat kk) = (119 : Int32)
                                      · refine E.icmpN (q := 168) X0 hx (hb hby d16_165) (XT.ii_ne_f q119) ?_
                                        have e : kk = 119 := (own_eqN (b := 119) (by omega) (by decide)).mp q119
                                        refine E.bipush (q := 170) (v := (18 : Int32)) X0 hx (hb hby d16_168) rfl ?_
                                        exact Ends.retI X0 hx hlk hret (hb hby d16_170) (by decide) (by decide) ⟨by rw [hR, e]; rfl, e0, rfl⟩
                                      · refine E.icmpY (q := 171) X0 hx (hb hby d16_165) (XT.ii_ne_t q119) ?_
                                        have n119 : ¬ kk = 119 := fun q => q119 (by rw [q]; rfl)
                                        refine E.iloadN (q := 172) X0 hx (hb hby d16_171) rfl ?_
                                        refine E.bipush (q := 174) (v := (121 : Int32)) X0 hx (hb hby d16_172) rfl ?_
                                        by_cases q121 : (Int32.ofNat kk) = (121 : Int32)
                                        · refine E.icmpN (q := 177) X0 hx (hb hby d16_174) (XT.ii_ne_f q121) ?_
                                          have e : kk = 121 := (own_eqN (b := 121) (by omega) (by decide)).mp q121
                                          refine E.bipush (q := 179) (v := (19 : Int32)) X0 hx (hb hby d16_177) rfl ?_
                                          exact Ends.retI X0 hx hlk hret (hb hby d16_179) (by decide) (by decide) ⟨by rw [hR, e]; rfl, e0, rfl⟩
                                        · refine E.icmpY (q := 180) X0 hx (hb hby d16_174) (XT.ii_ne_t q121) ?_
                                          have n121 : ¬ kk = 121 := fun q => q121 (by rw [q]; rfl)
                                          refine E.iloadN (q := 181) X0 hx (hb hby d16_180) rfl ?_
                                          refine E.bipush (q := 183) (v := (98 : Int32)) X0 hx (hb hby d16_181) rfl ?_
                                          by_cases q98 : (Int32.ofNat kk) = (98 : Int32)
                                          · refine E.icmpN (q := 186) X0 hx (hb hby d16_183) (XT.ii_ne_f q98) ?_
                                            have e : kk = 98 := (own_eqN (b := 98) (by omega) (by decide)).mp q98
                                            refine E.bipush (q := 188) (v := (20 : Int32)) X0 hx (hb hby d16_186) rfl ?_
                                            exact Ends.retI X0 hx hlk hret (hb hby d16_188) (by decide) (by decide) ⟨by rw [hR, e]; rfl, e0, rfl⟩
                                          · refine E.icmpY (q := 189) X0 hx (hb hby d16_183) (XT.ii_ne_t q98) ?_
                                            have n98 : ¬ kk = 98 := fun q => q98 (by rw [q]; rfl)
                                            refine E.iloadN (q := 190) X0 hx (hb hby d16_189) rfl ?_
                                            refine E.bipush (q := 192) (v := (44 : Int32)) X0 hx (hb hby d16_190) rfl ?_
                                            by_cases q44 : (Int32.ofNat kk) = (44 : Int32)
                                            · refine E.icmpN (q := 195) X0 hx (hb hby d16_192) (XT.ii_ne_f q44) ?_
                                              have e : kk = 44 := (own_eqN (b := 44) (by omega) (by decide)).mp q44
                                              refine E.bipush (q := 197) (v := (21 : Int32)) X0 hx (hb hby d16_195) rfl ?_
                                              exact Ends.retI X0 hx hlk hret (hb hby d16_197) (by decide) (by decide) ⟨by rw [hR, e]; rfl, e0, rfl⟩
                                            · refine E.icmpY (q := 198) X0 hx (hb hby d16_192) (XT.ii_ne_t q44) ?_
                                              have n44 : ¬ kk = 44 := fun q => q44 (by rw [q]; rfl)
                                              refine E.iloadN (q := 199) X0 hx (hb hby d16_198) rfl ?_
                                              refine E.bipush (q := 201) (v := (46 : Int32)) X0 hx (hb hby d16_199) rfl ?_
                                              by_cases q46 : (Int32.ofNat kk) = (46 : Int32)
                                              · refine E.icmpN (q := 204) X0 hx (hb hby d16_201) (XT.ii_ne_f q46) ?_
                                                have e : kk = 46 := (own_eqN (b := 46) (by omega) (by decide)).mp q46
                                                refine E.bipush (q := 206) (v := (22 : Int32)) X0 hx (hb hby d16_204) rfl ?_
                                                exact Ends.retI X0 hx hlk hret (hb hby d16_206) (by decide) (by decide) ⟨by rw [hR, e]; rfl, e0, rfl⟩
                                              · refine E.icmpY (q := 207) X0 hx (hb hby d16_201) (XT.ii_ne_t q46) ?_
                                                have n46 : ¬ kk = 46 := fun q => q46 (by rw [q]; rfl)
                                                refine E.iloadN (q := 208) X0 hx (hb hby d16_207) rfl ?_
                                                refine E.bipush (q := 210) (v := (118 : Int32)) X0 hx (hb hby d16_208) rfl ?_
                                                by_cases q118 : (Int32.ofNat kk) = (118 : Int32)
                                                · refine E.icmpN (q := 213) X0 hx (hb hby d16_210) (XT.ii_ne_f q118) ?_
                                                  have e : kk = 118 := (own_eqN (b := 118) (by omega) (by decide)).mp q118
                                                  refine E.bipush (q := 215) (v := (23 : Int32)) X0 hx (hb hby d16_213) rfl ?_
                                                  exact Ends.retI X0 hx hlk hret (hb hby d16_215) (by decide) (by decide) ⟨by rw [hR, e]; rfl, e0, rfl⟩
                                                · refine E.icmpY (q := 216) X0 hx (hb hby d16_210) (XT.ii_ne_t q118) ?_
                                                  have n118 : ¬ kk = 118 := fun q => q118 (by rw [q]; rfl)
                                                  refine E.iloadN (q := 217) X0 hx (hb hby d16_216) rfl ?_
                                                  refine E.bipush (q := 219) (v := (107 : Int32)) X0 hx (hb hby d16_217) rfl ?_
                                                  by_cases q107 : (Int32.ofNat kk) = (107 : Int32)
                                                  · refine E.icmpN (q := 222) X0 hx (hb hby d16_219) (XT.ii_ne_f q107) ?_
                                                    have e : kk = 107 := (own_eqN (b := 107) (by omega) (by decide)).mp q107
                                                    refine E.bipush (q := 224) (v := (24 : Int32)) X0 hx (hb hby d16_222) rfl ?_
                                                    exact Ends.retI X0 hx hlk hret (hb hby d16_224) (by decide) (by decide) ⟨by rw [hR, e]; rfl, e0, rfl⟩
                                                  · refine E.icmpY (q := 225) X0 hx (hb hby d16_219) (XT.ii_ne_t q107) ?_
                                                    have n107 : ¬ kk = 107 := fun q => q107 (by rw [q]; rfl)
                                                    refine E.iloadN (q := 226) X0 hx (hb hby d16_225) rfl ?_
                                                    refine E.bipush (q := 228) (v := (13 : Int32)) X0 hx (hb hby d16_226) rfl ?_
                                                    by_cases q13 : (Int32.ofNat kk) = (13 : Int32)
                                                    · refine E.icmpN (q := 231) X0 hx (hb hby d16_228) (XT.ii_ne_f q13) ?_
                                                      have e : kk = 13 := (own_eqN (b := 13) (by omega) (by decide)).mp q13
                                                      refine E.bipush (q := 233) (v := (25 : Int32)) X0 hx (hb hby d16_231) rfl ?_
                                                      exact Ends.retI X0 hx hlk hret (hb hby d16_233) (by decide) (by decide) ⟨by rw [hR, e]; rfl, e0, rfl⟩
                                                    · refine E.icmpY (q := 234) X0 hx (hb hby d16_228) (XT.ii_ne_t q13) ?_
                                                      have n13 : ¬ kk = 13 := fun q => q13 (by rw [q]; rfl)
                                                      refine E.iloadN (q := 235) X0 hx (hb hby d16_234) rfl ?_
                                                      refine E.bipush (q := 237) (v := (10 : Int32)) X0 hx (hb hby d16_235) rfl ?_
                                                      by_cases q10 : (Int32.ofNat kk) = (10 : Int32)
                                                      · refine E.icmpN (q := 240) X0 hx (hb hby d16_237) (XT.ii_ne_f q10) ?_
                                                        have e : kk = 10 := (own_eqN (b := 10) (by omega) (by decide)).mp q10
                                                        refine E.bipush (q := 242) (v := (26 : Int32)) X0 hx (hb hby d16_240) rfl ?_
                                                        exact Ends.retI X0 hx hlk hret (hb hby d16_242) (by decide) (by decide) ⟨by rw [hR, e]; rfl, e0, rfl⟩
                                                      · refine E.icmpY (q := 243) X0 hx (hb hby d16_237) (XT.ii_ne_t q10) ?_
                                                        have n10 : ¬ kk = 10 := fun q => q10 (by rw [q]; rfl)
                                                        refine E.bipush (q := 245) (v := (27 : Int32)) X0 hx (hb hby d16_243) rfl ?_
                                                        exact Ends.retI X0 hx hlk hret (hb hby d16_245) (by decide) (by decide) ⟨by rw [hR, own_R27 n32 n101 n116 n97 n111 n105 n110 n115 n114 n104 n108 n100 n99 n117 n109 n102 n112 n103 n119 n121 n98 n44 n46 n118 n107 n13 n10], e0, rfl⟩
theorem own_bd1_1 (u0 u1 u2 u3 u4 : Int32) : own_bord [u0, u1, u2, u3, u4] 1 1 = true ↔ u0 = u1 := by simp [own_bord, List.range, List.range.loop]
theorem efMt1_1 (m : MethodId) (x0 : Addr) (x1 : Int32) (x2 : Int32) : entryFrame m #[(.ref x0), (.int x1), (.int x2)] 4 = mkF m 0 #[.val (.ref x0), .val (.int x1), .val (.int x2), .unset] [] := by first | (simp [entryFrame, mkF, argsToLocals, Value.category]; done) | rfl
theorem rmMt1_1 (l : Launch) (Z : State) (a0 : Array Value) (hw : ∀ d ∈ tables_1, d.before a0 Z = true) (oc : Addr) (u0 u1 u2 u3 u4 : Int32) (h0 : Heap) (A_c : Ary Z h0 oc .int [(.int u0), (.int u1), (.int u2), (.int u3), (.int u4)]) :
    Con l (⟨"com/example/needlework/needlework/match/CompiledPatternOfPinLaw", "matches", "([III)Z"⟩ : MethodName) method_5_code 4 (some .boolean) [] ({ frames := 0, cells := 0, slots := 0, locals := 0 } : Room) #[(.ref oc), (.int (1 : Int32)), (.int (1 : Int32))] Z h0 (fun v h L => v = some (.int (if own_bord [u0, u1, u2, u3, u4] 1 1 = true then (1 : Int32) else 0)) ∧ h = h0 ∧ L = []) := by
  refine Con.of (plainFor_of_name pn_7) ?_
  intro p e s m below meth c s₁ hx hZ hby hml hown hnm hret hlk X0 e0
  refine Ends.cast (efMt1_1 m oc (1 : Int32) (1 : Int32)) ?_
  refine E.iloadN (q := 1) X0 hx (hb hby d30_0) rfl ?_
  refine E.iloadN (q := 2) X0 hx (hb hby d30_1) rfl ?_
  refine E.isub (q := 3) X0 hx (hb hby d30_2) ?_
  rw [show ((1 : Int32) - (1 : Int32)) = (0 : Int32) from by decide]
  refine E.iconst (q := 4) (v := (1 : Int32)) X0 hx (hb hby d30_3) rfl ?_
  refine E.iadd (q := 5) X0 hx (hb hby d30_4) ?_
  rw [show ((0 : Int32) + (1 : Int32)) = (1 : Int32) from by decide]
  refine E.istoreN (q := 6) (l' := #[.val (.ref oc), .val (.int (1 : Int32)), .val (.int (1 : Int32)), .val (.int (1 : Int32))]) X0 hx (hb hby d30_5) rfl ?_
  refine E.iloadN (q := 7) X0 hx (hb hby d30_6) rfl ?_
  refine E.ifN (q := 10) X0 hx (hb hby d30_7) (XT.i0_le_f (by decide)) ?_
  refine E.aloadN (q := 11) X0 hx (hb hby d30_10) rfl rfl ?_
  refine E.iconst (q := 12) (v := (0 : Int32)) X0 hx (hb hby d30_11) rfl ?_
  refine Ends.ild X0 hx hZ e0 A_c (i := 0) rfl rfl (hb hby d30_12) ?_
  refine E.aloadN (q := 14) X0 hx (hb hby d30_13) rfl rfl ?_
  refine E.iloadN (q := 15) X0 hx (hb hby d30_14) rfl ?_
  refine Ends.ild X0 hx hZ e0 A_c (i := 1) rfl rfl (hb hby d30_15) ?_
  by_cases hq0 : u0 = u1
  · refine E.icmpY (q := 21) X0 hx (hb hby d30_16) (XT.ii_eq_t hq0) ?_
    refine E.iloadN (q := 22) X0 hx (hb hby d30_21) rfl ?_
    refine E.iconst (q := 23) (v := (1 : Int32)) X0 hx (hb hby d30_22) rfl ?_
    refine E.icmpY (q := 39) X0 hx (hb hby d30_23) (XT.ii_le_t (by decide)) ?_
    refine E.iloadN (q := 40) X0 hx (hb hby d30_39) rfl ?_
    refine E.iconst (q := 41) (v := (2 : Int32)) X0 hx (hb hby d30_40) rfl ?_
    refine E.icmpY (q := 57) X0 hx (hb hby d30_41) (XT.ii_le_t (by decide)) ?_
    refine E.iloadN (q := 58) X0 hx (hb hby d30_57) rfl ?_
    refine E.iconst (q := 59) (v := (3 : Int32)) X0 hx (hb hby d30_58) rfl ?_
    refine E.icmpY (q := 75) X0 hx (hb hby d30_59) (XT.ii_le_t (by decide)) ?_
    refine E.iconst (q := 76) (v := (1 : Int32)) X0 hx (hb hby d30_75) rfl ?_
    exact Ends.retS X0 hx hlk hret (by simp) rfl (hb hby d30_76) (by decide) (by decide) ⟨by rw [if_pos ((own_bd1_1 u0 u1 u2 u3 u4).mpr hq0)], e0, rfl⟩
  · refine E.icmpN (q := 19) X0 hx (hb hby d30_16) (XT.ii_eq_f hq0) ?_
    refine E.iconst (q := 20) (v := (0 : Int32)) X0 hx (hb hby d30_19) rfl ?_
    exact Ends.retS X0 hx hlk hret (by simp) rfl (hb hby d30_20) (by decide) (by decide) ⟨by rw [if_neg (fun q => hq0 ((own_bd1_1 u0 u1 u2 u3 u4).mp q))], e0, rfl⟩
theorem own_bd2_1 (u0 u1 u2 u3 u4 : Int32) : own_bord [u0, u1, u2, u3, u4] 2 1 = true ↔ u0 = u2 := by simp [own_bord, List.range, List.range.loop]
theorem efMt2_1 (m : MethodId) (x0 : Addr) (x1 : Int32) (x2 : Int32) : entryFrame m #[(.ref x0), (.int x1), (.int x2)] 4 = mkF m 0 #[.val (.ref x0), .val (.int x1), .val (.int x2), .unset] [] := by first | (simp [entryFrame, mkF, argsToLocals, Value.category]; done) | rfl
theorem rmMt2_1 (l : Launch) (Z : State) (a0 : Array Value) (hw : ∀ d ∈ tables_1, d.before a0 Z = true) (oc : Addr) (u0 u1 u2 u3 u4 : Int32) (h0 : Heap) (A_c : Ary Z h0 oc .int [(.int u0), (.int u1), (.int u2), (.int u3), (.int u4)]) :
    Con l (⟨"com/example/needlework/needlework/match/CompiledPatternOfPinLaw", "matches", "([III)Z"⟩ : MethodName) method_5_code 4 (some .boolean) [] ({ frames := 0, cells := 0, slots := 0, locals := 0 } : Room) #[(.ref oc), (.int (1 : Int32)), (.int (2 : Int32))] Z h0 (fun v h L => v = some (.int (if own_bord [u0, u1, u2, u3, u4] 2 1 = true then (1 : Int32) else 0)) ∧ h = h0 ∧ L = []) := by
  refine Con.of (plainFor_of_name pn_7) ?_
  intro p e s m below meth c s₁ hx hZ hby hml hown hnm hret hlk X0 e0
  refine Ends.cast (efMt2_1 m oc (1 : Int32) (2 : Int32)) ?_
  refine E.iloadN (q := 1) X0 hx (hb hby d30_0) rfl ?_
  refine E.iloadN (q := 2) X0 hx (hb hby d30_1) rfl ?_
  refine E.isub (q := 3) X0 hx (hb hby d30_2) ?_
  rw [show ((2 : Int32) - (1 : Int32)) = (1 : Int32) from by decide]
  refine E.iconst (q := 4) (v := (1 : Int32)) X0 hx (hb hby d30_3) rfl ?_
  refine E.iadd (q := 5) X0 hx (hb hby d30_4) ?_
  rw [show ((1 : Int32) + (1 : Int32)) = (2 : Int32) from by decide]
  refine E.istoreN (q := 6) (l' := #[.val (.ref oc), .val (.int (1 : Int32)), .val (.int (2 : Int32)), .val (.int (2 : Int32))]) X0 hx (hb hby d30_5) rfl ?_
  refine E.iloadN (q := 7) X0 hx (hb hby d30_6) rfl ?_
  refine E.ifN (q := 10) X0 hx (hb hby d30_7) (XT.i0_le_f (by decide)) ?_
  refine E.aloadN (q := 11) X0 hx (hb hby d30_10) rfl rfl ?_
  refine E.iconst (q := 12) (v := (0 : Int32)) X0 hx (hb hby d30_11) rfl ?_
  refine Ends.ild X0 hx hZ e0 A_c (i := 0) rfl rfl (hb hby d30_12) ?_
  refine E.aloadN (q := 14) X0 hx (hb hby d30_13) rfl rfl ?_
  refine E.iloadN (q := 15) X0 hx (hb hby d30_14) rfl ?_
  refine Ends.ild X0 hx hZ e0 A_c (i := 2) rfl rfl (hb hby d30_15) ?_
  by_cases hq0 : u0 = u2
  · refine E.icmpY (q := 21) X0 hx (hb hby d30_16) (XT.ii_eq_t hq0) ?_
    refine E.iloadN (q := 22) X0 hx (hb hby d30_21) rfl ?_
    refine E.iconst (q := 23) (v := (1 : Int32)) X0 hx (hb hby d30_22) rfl ?_
    refine E.icmpY (q := 39) X0 hx (hb hby d30_23) (XT.ii_le_t (by decide)) ?_
    refine E.iloadN (q := 40) X0 hx (hb hby d30_39) rfl ?_
    refine E.iconst (q := 41) (v := (2 : Int32)) X0 hx (hb hby d30_40) rfl ?_
    refine E.icmpY (q := 57) X0 hx (hb hby d30_41) (XT.ii_le_t (by decide)) ?_
    refine E.iloadN (q := 58) X0 hx (hb hby d30_57) rfl ?_
    refine E.iconst (q := 59) (v := (3 : Int32)) X0 hx (hb hby d30_58) rfl ?_
    refine E.icmpY (q := 75) X0 hx (hb hby d30_59) (XT.ii_le_t (by decide)) ?_
    refine E.iconst (q := 76) (v := (1 : Int32)) X0 hx (hb hby d30_75) rfl ?_
    exact Ends.retS X0 hx hlk hret (by simp) rfl (hb hby d30_76) (by decide) (by decide) ⟨by rw [if_pos ((own_bd2_1 u0 u1 u2 u3 u4).mpr hq0)], e0, rfl⟩
  · refine E.icmpN (q := 19) X0 hx (hb hby d30_16) (XT.ii_eq_f hq0) ?_
    refine E.iconst (q := 20) (v := (0 : Int32)) X0 hx (hb hby d30_19) rfl ?_
    exact Ends.retS X0 hx hlk hret (by simp) rfl (hb hby d30_20) (by decide) (by decide) ⟨by rw [if_neg (fun q => hq0 ((own_bd2_1 u0 u1 u2 u3 u4).mp q))], e0, rfl⟩
theorem own_bd2_2 (u0 u1 u2 u3 u4 : Int32) : own_bord [u0, u1, u2, u3, u4] 2 2 = true ↔ u0 = u1 ∧ u1 = u2 := by simp [own_bord, List.range, List.range.loop]
theorem efMt2_2 (m : MethodId) (x0 : Addr) (x1 : Int32) (x2 : Int32) : entryFrame m #[(.ref x0), (.int x1), (.int x2)] 4 = mkF m 0 #[.val (.ref x0), .val (.int x1), .val (.int x2), .unset] [] := by first | (simp [entryFrame, mkF, argsToLocals, Value.category]; done) | rfl
theorem rmMt2_2 (l : Launch) (Z : State) (a0 : Array Value) (hw : ∀ d ∈ tables_1, d.before a0 Z = true) (oc : Addr) (u0 u1 u2 u3 u4 : Int32) (h0 : Heap) (A_c : Ary Z h0 oc .int [(.int u0), (.int u1), (.int u2), (.int u3), (.int u4)]) :
    Con l (⟨"com/example/needlework/needlework/match/CompiledPatternOfPinLaw", "matches", "([III)Z"⟩ : MethodName) method_5_code 4 (some .boolean) [] ({ frames := 0, cells := 0, slots := 0, locals := 0 } : Room) #[(.ref oc), (.int (2 : Int32)), (.int (2 : Int32))] Z h0 (fun v h L => v = some (.int (if own_bord [u0, u1, u2, u3, u4] 2 2 = true then (1 : Int32) else 0)) ∧ h = h0 ∧ L = []) := by
  refine Con.of (plainFor_of_name pn_7) ?_
  intro p e s m below meth c s₁ hx hZ hby hml hown hnm hret hlk X0 e0
  refine Ends.cast (efMt2_2 m oc (2 : Int32) (2 : Int32)) ?_
  refine E.iloadN (q := 1) X0 hx (hb hby d30_0) rfl ?_
  refine E.iloadN (q := 2) X0 hx (hb hby d30_1) rfl ?_
  refine E.isub (q := 3) X0 hx (hb hby d30_2) ?_
  rw [show ((2 : Int32) - (2 : Int32)) = (0 : Int32) from by decide]
  refine E.iconst (q := 4) (v := (1 : Int32)) X0 hx (hb hby d30_3) rfl ?_
  refine E.iadd (q := 5) X0 hx (hb hby d30_4) ?_
  rw [show ((0 : Int32) + (1 : Int32)) = (1 : Int32) from by decide]
  refine E.istoreN (q := 6) (l' := #[.val (.ref oc), .val (.int (2 : Int32)), .val (.int (2 : Int32)), .val (.int (1 : Int32))]) X0 hx (hb hby d30_5) rfl ?_
  refine E.iloadN (q := 7) X0 hx (hb hby d30_6) rfl ?_
  refine E.ifN (q := 10) X0 hx (hb hby d30_7) (XT.i0_le_f (by decide)) ?_
  refine E.aloadN (q := 11) X0 hx (hb hby d30_10) rfl rfl ?_
  refine E.iconst (q := 12) (v := (0 : Int32)) X0 hx (hb hby d30_11) rfl ?_
  refine Ends.ild X0 hx hZ e0 A_c (i := 0) rfl rfl (hb hby d30_12) ?_
  refine E.aloadN (q := 14) X0 hx (hb hby d30_13) rfl rfl ?_
  refine E.iloadN (q := 15) X0 hx (hb hby d30_14) rfl ?_
  refine Ends.ild X0 hx hZ e0 A_c (i := 1) rfl rfl (hb hby d30_15) ?_
  by_cases hq0 : u0 = u1
  · refine E.icmpY (q := 21) X0 hx (hb hby d30_16) (XT.ii_eq_t hq0) ?_
    refine E.iloadN (q := 22) X0 hx (hb hby d30_21) rfl ?_
    refine E.iconst (q := 23) (v := (1 : Int32)) X0 hx (hb hby d30_22) rfl ?_
    refine E.icmpN (q := 26) X0 hx (hb hby d30_23) (XT.ii_le_f (by decide)) ?_
    refine E.aloadN (q := 27) X0 hx (hb hby d30_26) rfl rfl ?_
    refine E.iconst (q := 28) (v := (1 : Int32)) X0 hx (hb hby d30_27) rfl ?_
    refine Ends.ild X0 hx hZ e0 A_c (i := 1) rfl rfl (hb hby d30_28) ?_
    refine E.aloadN (q := 30) X0 hx (hb hby d30_29) rfl rfl ?_
    refine E.iloadN (q := 31) X0 hx (hb hby d30_30) rfl ?_
    refine E.iconst (q := 32) (v := (1 : Int32)) X0 hx (hb hby d30_31) rfl ?_
    refine E.iadd (q := 33) X0 hx (hb hby d30_32) ?_
    rw [show ((1 : Int32) + (1 : Int32)) = (2 : Int32) from by decide]
    refine Ends.ild X0 hx hZ e0 A_c (i := 2) rfl rfl (hb hby d30_33) ?_
    by_cases hq1 : u1 = u2
    · refine E.icmpY (q := 39) X0 hx (hb hby d30_34) (XT.ii_eq_t hq1) ?_
      refine E.iloadN (q := 40) X0 hx (hb hby d30_39) rfl ?_
      refine E.iconst (q := 41) (v := (2 : Int32)) X0 hx (hb hby d30_40) rfl ?_
      refine E.icmpY (q := 57) X0 hx (hb hby d30_41) (XT.ii_le_t (by decide)) ?_
      refine E.iloadN (q := 58) X0 hx (hb hby d30_57) rfl ?_
      refine E.iconst (q := 59) (v := (3 : Int32)) X0 hx (hb hby d30_58) rfl ?_
      refine E.icmpY (q := 75) X0 hx (hb hby d30_59) (XT.ii_le_t (by decide)) ?_
      refine E.iconst (q := 76) (v := (1 : Int32)) X0 hx (hb hby d30_75) rfl ?_
      exact Ends.retS X0 hx hlk hret (by simp) rfl (hb hby d30_76) (by decide) (by decide) ⟨by rw [if_pos ((own_bd2_2 u0 u1 u2 u3 u4).mpr ⟨hq0, hq1⟩)], e0, rfl⟩
    · refine E.icmpN (q := 37) X0 hx (hb hby d30_34) (XT.ii_eq_f hq1) ?_
      refine E.iconst (q := 38) (v := (0 : Int32)) X0 hx (hb hby d30_37) rfl ?_
      exact Ends.retS X0 hx hlk hret (by simp) rfl (hb hby d30_38) (by decide) (by decide) ⟨by rw [if_neg (fun q => hq1 ((own_bd2_2 u0 u1 u2 u3 u4).mp q).2)], e0, rfl⟩
  · refine E.icmpN (q := 19) X0 hx (hb hby d30_16) (XT.ii_eq_f hq0) ?_
    refine E.iconst (q := 20) (v := (0 : Int32)) X0 hx (hb hby d30_19) rfl ?_
    exact Ends.retS X0 hx hlk hret (by simp) rfl (hb hby d30_20) (by decide) (by decide) ⟨by rw [if_neg (fun q => hq0 ((own_bd2_2 u0 u1 u2 u3 u4).mp q).1)], e0, rfl⟩
theorem own_bd3_1 (u0 u1 u2 u3 u4 : Int32) : own_bord [u0, u1, u2, u3, u4] 3 1 = true ↔ u0 = u3 := by simp [own_bord, List.range, List.range.loop]
theorem efMt3_1 (m : MethodId) (x0 : Addr) (x1 : Int32) (x2 : Int32) : entryFrame m #[(.ref x0), (.int x1), (.int x2)] 4 = mkF m 0 #[.val (.ref x0), .val (.int x1), .val (.int x2), .unset] [] := by first | (simp [entryFrame, mkF, argsToLocals, Value.category]; done) | rfl
theorem rmMt3_1 (l : Launch) (Z : State) (a0 : Array Value) (hw : ∀ d ∈ tables_1, d.before a0 Z = true) (oc : Addr) (u0 u1 u2 u3 u4 : Int32) (h0 : Heap) (A_c : Ary Z h0 oc .int [(.int u0), (.int u1), (.int u2), (.int u3), (.int u4)]) :
    Con l (⟨"com/example/needlework/needlework/match/CompiledPatternOfPinLaw", "matches", "([III)Z"⟩ : MethodName) method_5_code 4 (some .boolean) [] ({ frames := 0, cells := 0, slots := 0, locals := 0 } : Room) #[(.ref oc), (.int (1 : Int32)), (.int (3 : Int32))] Z h0 (fun v h L => v = some (.int (if own_bord [u0, u1, u2, u3, u4] 3 1 = true then (1 : Int32) else 0)) ∧ h = h0 ∧ L = []) := by
  refine Con.of (plainFor_of_name pn_7) ?_
  intro p e s m below meth c s₁ hx hZ hby hml hown hnm hret hlk X0 e0
  refine Ends.cast (efMt3_1 m oc (1 : Int32) (3 : Int32)) ?_
  refine E.iloadN (q := 1) X0 hx (hb hby d30_0) rfl ?_
  refine E.iloadN (q := 2) X0 hx (hb hby d30_1) rfl ?_
  refine E.isub (q := 3) X0 hx (hb hby d30_2) ?_
  rw [show ((3 : Int32) - (1 : Int32)) = (2 : Int32) from by decide]
  refine E.iconst (q := 4) (v := (1 : Int32)) X0 hx (hb hby d30_3) rfl ?_
  refine E.iadd (q := 5) X0 hx (hb hby d30_4) ?_
  rw [show ((2 : Int32) + (1 : Int32)) = (3 : Int32) from by decide]
  refine E.istoreN (q := 6) (l' := #[.val (.ref oc), .val (.int (1 : Int32)), .val (.int (3 : Int32)), .val (.int (3 : Int32))]) X0 hx (hb hby d30_5) rfl ?_
  refine E.iloadN (q := 7) X0 hx (hb hby d30_6) rfl ?_
  refine E.ifN (q := 10) X0 hx (hb hby d30_7) (XT.i0_le_f (by decide)) ?_
  refine E.aloadN (q := 11) X0 hx (hb hby d30_10) rfl rfl ?_
  refine E.iconst (q := 12) (v := (0 : Int32)) X0 hx (hb hby d30_11) rfl ?_
  refine Ends.ild X0 hx hZ e0 A_c (i := 0) rfl rfl (hb hby d30_12) ?_
  refine E.aloadN (q := 14) X0 hx (hb hby d30_13) rfl rfl ?_
  refine E.iloadN (q := 15) X0 hx (hb hby d30_14) rfl ?_
  refine Ends.ild X0 hx hZ e0 A_c (i := 3) rfl rfl (hb hby d30_15) ?_
  by_cases hq0 : u0 = u3
  · refine E.icmpY (q := 21) X0 hx (hb hby d30_16) (XT.ii_eq_t hq0) ?_
    refine E.iloadN (q := 22) X0 hx (hb hby d30_21) rfl ?_
    refine E.iconst (q := 23) (v := (1 : Int32)) X0 hx (hb hby d30_22) rfl ?_
    refine E.icmpY (q := 39) X0 hx (hb hby d30_23) (XT.ii_le_t (by decide)) ?_
    refine E.iloadN (q := 40) X0 hx (hb hby d30_39) rfl ?_
    refine E.iconst (q := 41) (v := (2 : Int32)) X0 hx (hb hby d30_40) rfl ?_
    refine E.icmpY (q := 57) X0 hx (hb hby d30_41) (XT.ii_le_t (by decide)) ?_
    refine E.iloadN (q := 58) X0 hx (hb hby d30_57) rfl ?_
    refine E.iconst (q := 59) (v := (3 : Int32)) X0 hx (hb hby d30_58) rfl ?_
    refine E.icmpY (q := 75) X0 hx (hb hby d30_59) (XT.ii_le_t (by decide)) ?_
    refine E.iconst (q := 76) (v := (1 : Int32)) X0 hx (hb hby d30_75) rfl ?_
    exact Ends.retS X0 hx hlk hret (by simp) rfl (hb hby d30_76) (by decide) (by decide) ⟨by rw [if_pos ((own_bd3_1 u0 u1 u2 u3 u4).mpr hq0)], e0, rfl⟩
  · refine E.icmpN (q := 19) X0 hx (hb hby d30_16) (XT.ii_eq_f hq0) ?_
    refine E.iconst (q := 20) (v := (0 : Int32)) X0 hx (hb hby d30_19) rfl ?_
    exact Ends.retS X0 hx hlk hret (by simp) rfl (hb hby d30_20) (by decide) (by decide) ⟨by rw [if_neg (fun q => hq0 ((own_bd3_1 u0 u1 u2 u3 u4).mp q))], e0, rfl⟩
theorem own_bd3_2 (u0 u1 u2 u3 u4 : Int32) : own_bord [u0, u1, u2, u3, u4] 3 2 = true ↔ u0 = u2 ∧ u1 = u3 := by simp [own_bord, List.range, List.range.loop]
theorem efMt3_2 (m : MethodId) (x0 : Addr) (x1 : Int32) (x2 : Int32) : entryFrame m #[(.ref x0), (.int x1), (.int x2)] 4 = mkF m 0 #[.val (.ref x0), .val (.int x1), .val (.int x2), .unset] [] := by first | (simp [entryFrame, mkF, argsToLocals, Value.category]; done) | rfl
theorem rmMt3_2 (l : Launch) (Z : State) (a0 : Array Value) (hw : ∀ d ∈ tables_1, d.before a0 Z = true) (oc : Addr) (u0 u1 u2 u3 u4 : Int32) (h0 : Heap) (A_c : Ary Z h0 oc .int [(.int u0), (.int u1), (.int u2), (.int u3), (.int u4)]) :
    Con l (⟨"com/example/needlework/needlework/match/CompiledPatternOfPinLaw", "matches", "([III)Z"⟩ : MethodName) method_5_code 4 (some .boolean) [] ({ frames := 0, cells := 0, slots := 0, locals := 0 } : Room) #[(.ref oc), (.int (2 : Int32)), (.int (3 : Int32))] Z h0 (fun v h L => v = some (.int (if own_bord [u0, u1, u2, u3, u4] 3 2 = true then (1 : Int32) else 0)) ∧ h = h0 ∧ L = []) := by
  refine Con.of (plainFor_of_name pn_7) ?_
  intro p e s m below meth c s₁ hx hZ hby hml hown hnm hret hlk X0 e0
  refine Ends.cast (efMt3_2 m oc (2 : Int32) (3 : Int32)) ?_
  refine E.iloadN (q := 1) X0 hx (hb hby d30_0) rfl ?_
  refine E.iloadN (q := 2) X0 hx (hb hby d30_1) rfl ?_
  refine E.isub (q := 3) X0 hx (hb hby d30_2) ?_
  rw [show ((3 : Int32) - (2 : Int32)) = (1 : Int32) from by decide]
  refine E.iconst (q := 4) (v := (1 : Int32)) X0 hx (hb hby d30_3) rfl ?_
  refine E.iadd (q := 5) X0 hx (hb hby d30_4) ?_
  rw [show ((1 : Int32) + (1 : Int32)) = (2 : Int32) from by decide]
  refine E.istoreN (q := 6) (l' := #[.val (.ref oc), .val (.int (2 : Int32)), .val (.int (3 : Int32)), .val (.int (2 : Int32))]) X0 hx (hb hby d30_5) rfl ?_
  refine E.iloadN (q := 7) X0 hx (hb hby d30_6) rfl ?_
  refine E.ifN (q := 10) X0 hx (hb hby d30_7) (XT.i0_le_f (by decide)) ?_
  refine E.aloadN (q := 11) X0 hx (hb hby d30_10) rfl rfl ?_
  refine E.iconst (q := 12) (v := (0 : Int32)) X0 hx (hb hby d30_11) rfl ?_
  refine Ends.ild X0 hx hZ e0 A_c (i := 0) rfl rfl (hb hby d30_12) ?_
  refine E.aloadN (q := 14) X0 hx (hb hby d30_13) rfl rfl ?_
  refine E.iloadN (q := 15) X0 hx (hb hby d30_14) rfl ?_
  refine Ends.ild X0 hx hZ e0 A_c (i := 2) rfl rfl (hb hby d30_15) ?_
  by_cases hq0 : u0 = u2
  · refine E.icmpY (q := 21) X0 hx (hb hby d30_16) (XT.ii_eq_t hq0) ?_
    refine E.iloadN (q := 22) X0 hx (hb hby d30_21) rfl ?_
    refine E.iconst (q := 23) (v := (1 : Int32)) X0 hx (hb hby d30_22) rfl ?_
    refine E.icmpN (q := 26) X0 hx (hb hby d30_23) (XT.ii_le_f (by decide)) ?_
    refine E.aloadN (q := 27) X0 hx (hb hby d30_26) rfl rfl ?_
    refine E.iconst (q := 28) (v := (1 : Int32)) X0 hx (hb hby d30_27) rfl ?_
    refine Ends.ild X0 hx hZ e0 A_c (i := 1) rfl rfl (hb hby d30_28) ?_
    refine E.aloadN (q := 30) X0 hx (hb hby d30_29) rfl rfl ?_
    refine E.iloadN (q := 31) X0 hx (hb hby d30_30) rfl ?_
    refine E.iconst (q := 32) (v := (1 : Int32)) X0 hx (hb hby d30_31) rfl ?_
    refine E.iadd (q := 33) X0 hx (hb hby d30_32) ?_
    rw [show ((2 : Int32) + (1 : Int32)) = (3 : Int32) from by decide]
    refine Ends.ild X0 hx hZ e0 A_c (i := 3) rfl rfl (hb hby d30_33) ?_
    by_cases hq1 : u1 = u3
    · refine E.icmpY (q := 39) X0 hx (hb hby d30_34) (XT.ii_eq_t hq1) ?_
      refine E.iloadN (q := 40) X0 hx (hb hby d30_39) rfl ?_
      refine E.iconst (q := 41) (v := (2 : Int32)) X0 hx (hb hby d30_40) rfl ?_
      refine E.icmpY (q := 57) X0 hx (hb hby d30_41) (XT.ii_le_t (by decide)) ?_
      refine E.iloadN (q := 58) X0 hx (hb hby d30_57) rfl ?_
      refine E.iconst (q := 59) (v := (3 : Int32)) X0 hx (hb hby d30_58) rfl ?_
      refine E.icmpY (q := 75) X0 hx (hb hby d30_59) (XT.ii_le_t (by decide)) ?_
      refine E.iconst (q := 76) (v := (1 : Int32)) X0 hx (hb hby d30_75) rfl ?_
      exact Ends.retS X0 hx hlk hret (by simp) rfl (hb hby d30_76) (by decide) (by decide) ⟨by rw [if_pos ((own_bd3_2 u0 u1 u2 u3 u4).mpr ⟨hq0, hq1⟩)], e0, rfl⟩
    · refine E.icmpN (q := 37) X0 hx (hb hby d30_34) (XT.ii_eq_f hq1) ?_
      refine E.iconst (q := 38) (v := (0 : Int32)) X0 hx (hb hby d30_37) rfl ?_
      exact Ends.retS X0 hx hlk hret (by simp) rfl (hb hby d30_38) (by decide) (by decide) ⟨by rw [if_neg (fun q => hq1 ((own_bd3_2 u0 u1 u2 u3 u4).mp q).2)], e0, rfl⟩
  · refine E.icmpN (q := 19) X0 hx (hb hby d30_16) (XT.ii_eq_f hq0) ?_
    refine E.iconst (q := 20) (v := (0 : Int32)) X0 hx (hb hby d30_19) rfl ?_
    exact Ends.retS X0 hx hlk hret (by simp) rfl (hb hby d30_20) (by decide) (by decide) ⟨by rw [if_neg (fun q => hq0 ((own_bd3_2 u0 u1 u2 u3 u4).mp q).1)], e0, rfl⟩
theorem own_bd3_3 (u0 u1 u2 u3 u4 : Int32) : own_bord [u0, u1, u2, u3, u4] 3 3 = true ↔ u0 = u1 ∧ u1 = u2 ∧ u2 = u3 := by simp [own_bord, List.range, List.range.loop]
theorem efMt3_3 (m : MethodId) (x0 : Addr) (x1 : Int32) (x2 : Int32) : entryFrame m #[(.ref x0), (.int x1), (.int x2)] 4 = mkF m 0 #[.val (.ref x0), .val (.int x1), .val (.int x2), .unset] [] := by first | (simp [entryFrame, mkF, argsToLocals, Value.category]; done) | rfl
theorem rmMt3_3 (l : Launch) (Z : State) (a0 : Array Value) (hw : ∀ d ∈ tables_1, d.before a0 Z = true) (oc : Addr) (u0 u1 u2 u3 u4 : Int32) (h0 : Heap) (A_c : Ary Z h0 oc .int [(.int u0), (.int u1), (.int u2), (.int u3), (.int u4)]) :
    Con l (⟨"com/example/needlework/needlework/match/CompiledPatternOfPinLaw", "matches", "([III)Z"⟩ : MethodName) method_5_code 4 (some .boolean) [] ({ frames := 0, cells := 0, slots := 0, locals := 0 } : Room) #[(.ref oc), (.int (3 : Int32)), (.int (3 : Int32))] Z h0 (fun v h L => v = some (.int (if own_bord [u0, u1, u2, u3, u4] 3 3 = true then (1 : Int32) else 0)) ∧ h = h0 ∧ L = []) := by
  refine Con.of (plainFor_of_name pn_7) ?_
  intro p e s m below meth c s₁ hx hZ hby hml hown hnm hret hlk X0 e0
  refine Ends.cast (efMt3_3 m oc (3 : Int32) (3 : Int32)) ?_
  refine E.iloadN (q := 1) X0 hx (hb hby d30_0) rfl ?_
  refine E.iloadN (q := 2) X0 hx (hb hby d30_1) rfl ?_
  refine E.isub (q := 3) X0 hx (hb hby d30_2) ?_
  rw [show ((3 : Int32) - (3 : Int32)) = (0 : Int32) from by decide]
  refine E.iconst (q := 4) (v := (1 : Int32)) X0 hx (hb hby d30_3) rfl ?_
  refine E.iadd (q := 5) X0 hx (hb hby d30_4) ?_
  rw [show ((0 : Int32) + (1 : Int32)) = (1 : Int32) from by decide]
  refine E.istoreN (q := 6) (l' := #[.val (.ref oc), .val (.int (3 : Int32)), .val (.int (3 : Int32)), .val (.int (1 : Int32))]) X0 hx (hb hby d30_5) rfl ?_
  refine E.iloadN (q := 7) X0 hx (hb hby d30_6) rfl ?_
  refine E.ifN (q := 10) X0 hx (hb hby d30_7) (XT.i0_le_f (by decide)) ?_
  refine E.aloadN (q := 11) X0 hx (hb hby d30_10) rfl rfl ?_
  refine E.iconst (q := 12) (v := (0 : Int32)) X0 hx (hb hby d30_11) rfl ?_
  refine Ends.ild X0 hx hZ e0 A_c (i := 0) rfl rfl (hb hby d30_12) ?_
  refine E.aloadN (q := 14) X0 hx (hb hby d30_13) rfl rfl ?_
  refine E.iloadN (q := 15) X0 hx (hb hby d30_14) rfl ?_
  refine Ends.ild X0 hx hZ e0 A_c (i := 1) rfl rfl (hb hby d30_15) ?_
  by_cases hq0 : u0 = u1
  · refine E.icmpY (q := 21) X0 hx (hb hby d30_16) (XT.ii_eq_t hq0) ?_
    refine E.iloadN (q := 22) X0 hx (hb hby d30_21) rfl ?_
    refine E.iconst (q := 23) (v := (1 : Int32)) X0 hx (hb hby d30_22) rfl ?_
    refine E.icmpN (q := 26) X0 hx (hb hby d30_23) (XT.ii_le_f (by decide)) ?_
    refine E.aloadN (q := 27) X0 hx (hb hby d30_26) rfl rfl ?_
    refine E.iconst (q := 28) (v := (1 : Int32)) X0 hx (hb hby d30_27) rfl ?_
    refine Ends.ild X0 hx hZ e0 A_c (i := 1) rfl rfl (hb hby d30_28) ?_
    refine E.aloadN (q := 30) X0 hx (hb hby d30_29) rfl rfl ?_
    refine E.iloadN (q := 31) X0 hx (hb hby d30_30) rfl ?_
    refine E.iconst (q := 32) (v := (1 : Int32)) X0 hx (hb hby d30_31) rfl ?_
    refine E.iadd (q := 33) X0 hx (hb hby d30_32) ?_
    rw [show ((1 : Int32) + (1 : Int32)) = (2 : Int32) from by decide]
    refine Ends.ild X0 hx hZ e0 A_c (i := 2) rfl rfl (hb hby d30_33) ?_
    by_cases hq1 : u1 = u2
    · refine E.icmpY (q := 39) X0 hx (hb hby d30_34) (XT.ii_eq_t hq1) ?_
      refine E.iloadN (q := 40) X0 hx (hb hby d30_39) rfl ?_
      refine E.iconst (q := 41) (v := (2 : Int32)) X0 hx (hb hby d30_40) rfl ?_
      refine E.icmpN (q := 44) X0 hx (hb hby d30_41) (XT.ii_le_f (by decide)) ?_
      refine E.aloadN (q := 45) X0 hx (hb hby d30_44) rfl rfl ?_
      refine E.iconst (q := 46) (v := (2 : Int32)) X0 hx (hb hby d30_45) rfl ?_
      refine Ends.ild X0 hx hZ e0 A_c (i := 2) rfl rfl (hb hby d30_46) ?_
      refine E.aloadN (q := 48) X0 hx (hb hby d30_47) rfl rfl ?_
      refine E.iloadN (q := 49) X0 hx (hb hby d30_48) rfl ?_
      refine E.iconst (q := 50) (v := (2 : Int32)) X0 hx (hb hby d30_49) rfl ?_
      refine E.iadd (q := 51) X0 hx (hb hby d30_50) ?_
      rw [show ((1 : Int32) + (2 : Int32)) = (3 : Int32) from by decide]
      refine Ends.ild X0 hx hZ e0 A_c (i := 3) rfl rfl (hb hby d30_51) ?_
      by_cases hq2 : u2 = u3
      · refine E.icmpY (q := 57) X0 hx (hb hby d30_52) (XT.ii_eq_t hq2) ?_
        refine E.iloadN (q := 58) X0 hx (hb hby d30_57) rfl ?_
        refine E.iconst (q := 59) (v := (3 : Int32)) X0 hx (hb hby d30_58) rfl ?_
        refine E.icmpY (q := 75) X0 hx (hb hby d30_59) (XT.ii_le_t (by decide)) ?_
        refine E.iconst (q := 76) (v := (1 : Int32)) X0 hx (hb hby d30_75) rfl ?_
        exact Ends.retS X0 hx hlk hret (by simp) rfl (hb hby d30_76) (by decide) (by decide) ⟨by rw [if_pos ((own_bd3_3 u0 u1 u2 u3 u4).mpr ⟨hq0, hq1, hq2⟩)], e0, rfl⟩
      · refine E.icmpN (q := 55) X0 hx (hb hby d30_52) (XT.ii_eq_f hq2) ?_
        refine E.iconst (q := 56) (v := (0 : Int32)) X0 hx (hb hby d30_55) rfl ?_
        exact Ends.retS X0 hx hlk hret (by simp) rfl (hb hby d30_56) (by decide) (by decide) ⟨by rw [if_neg (fun q => hq2 ((own_bd3_3 u0 u1 u2 u3 u4).mp q).2.2)], e0, rfl⟩
    · refine E.icmpN (q := 37) X0 hx (hb hby d30_34) (XT.ii_eq_f hq1) ?_
      refine E.iconst (q := 38) (v := (0 : Int32)) X0 hx (hb hby d30_37) rfl ?_
      exact Ends.retS X0 hx hlk hret (by simp) rfl (hb hby d30_38) (by decide) (by decide) ⟨by rw [if_neg (fun q => hq1 ((own_bd3_3 u0 u1 u2 u3 u4).mp q).2.1)], e0, rfl⟩
  · refine E.icmpN (q := 19) X0 hx (hb hby d30_16) (XT.ii_eq_f hq0) ?_
    refine E.iconst (q := 20) (v := (0 : Int32)) X0 hx (hb hby d30_19) rfl ?_
    exact Ends.retS X0 hx hlk hret (by simp) rfl (hb hby d30_20) (by decide) (by decide) ⟨by rw [if_neg (fun q => hq0 ((own_bd3_3 u0 u1 u2 u3 u4).mp q).1)], e0, rfl⟩
theorem own_bd4_1 (u0 u1 u2 u3 u4 : Int32) : own_bord [u0, u1, u2, u3, u4] 4 1 = true ↔ u0 = u4 := by simp [own_bord, List.range, List.range.loop]
theorem efMt4_1 (m : MethodId) (x0 : Addr) (x1 : Int32) (x2 : Int32) : entryFrame m #[(.ref x0), (.int x1), (.int x2)] 4 = mkF m 0 #[.val (.ref x0), .val (.int x1), .val (.int x2), .unset] [] := by first | (simp [entryFrame, mkF, argsToLocals, Value.category]; done) | rfl
theorem rmMt4_1 (l : Launch) (Z : State) (a0 : Array Value) (hw : ∀ d ∈ tables_1, d.before a0 Z = true) (oc : Addr) (u0 u1 u2 u3 u4 : Int32) (h0 : Heap) (A_c : Ary Z h0 oc .int [(.int u0), (.int u1), (.int u2), (.int u3), (.int u4)]) :
    Con l (⟨"com/example/needlework/needlework/match/CompiledPatternOfPinLaw", "matches", "([III)Z"⟩ : MethodName) method_5_code 4 (some .boolean) [] ({ frames := 0, cells := 0, slots := 0, locals := 0 } : Room) #[(.ref oc), (.int (1 : Int32)), (.int (4 : Int32))] Z h0 (fun v h L => v = some (.int (if own_bord [u0, u1, u2, u3, u4] 4 1 = true then (1 : Int32) else 0)) ∧ h = h0 ∧ L = []) := by
  refine Con.of (plainFor_of_name pn_7) ?_
  intro p e s m below meth c s₁ hx hZ hby hml hown hnm hret hlk X0 e0
  refine Ends.cast (efMt4_1 m oc (1 : Int32) (4 : Int32)) ?_
  refine E.iloadN (q := 1) X0 hx (hb hby d30_0) rfl ?_
  refine E.iloadN (q := 2) X0 hx (hb hby d30_1) rfl ?_
  refine E.isub (q := 3) X0 hx (hb hby d30_2) ?_
  rw [show ((4 : Int32) - (1 : Int32)) = (3 : Int32) from by decide]
  refine E.iconst (q := 4) (v := (1 : Int32)) X0 hx (hb hby d30_3) rfl ?_
  refine E.iadd (q := 5) X0 hx (hb hby d30_4) ?_
  rw [show ((3 : Int32) + (1 : Int32)) = (4 : Int32) from by decide]
  refine E.istoreN (q := 6) (l' := #[.val (.ref oc), .val (.int (1 : Int32)), .val (.int (4 : Int32)), .val (.int (4 : Int32))]) X0 hx (hb hby d30_5) rfl ?_
  refine E.iloadN (q := 7) X0 hx (hb hby d30_6) rfl ?_
  refine E.ifN (q := 10) X0 hx (hb hby d30_7) (XT.i0_le_f (by decide)) ?_
  refine E.aloadN (q := 11) X0 hx (hb hby d30_10) rfl rfl ?_
  refine E.iconst (q := 12) (v := (0 : Int32)) X0 hx (hb hby d30_11) rfl ?_
  refine Ends.ild X0 hx hZ e0 A_c (i := 0) rfl rfl (hb hby d30_12) ?_
  refine E.aloadN (q := 14) X0 hx (hb hby d30_13) rfl rfl ?_
  refine E.iloadN (q := 15) X0 hx (hb hby d30_14) rfl ?_
  refine Ends.ild X0 hx hZ e0 A_c (i := 4) rfl rfl (hb hby d30_15) ?_
  by_cases hq0 : u0 = u4
  · refine E.icmpY (q := 21) X0 hx (hb hby d30_16) (XT.ii_eq_t hq0) ?_
    refine E.iloadN (q := 22) X0 hx (hb hby d30_21) rfl ?_
    refine E.iconst (q := 23) (v := (1 : Int32)) X0 hx (hb hby d30_22) rfl ?_
    refine E.icmpY (q := 39) X0 hx (hb hby d30_23) (XT.ii_le_t (by decide)) ?_
    refine E.iloadN (q := 40) X0 hx (hb hby d30_39) rfl ?_
    refine E.iconst (q := 41) (v := (2 : Int32)) X0 hx (hb hby d30_40) rfl ?_
    refine E.icmpY (q := 57) X0 hx (hb hby d30_41) (XT.ii_le_t (by decide)) ?_
    refine E.iloadN (q := 58) X0 hx (hb hby d30_57) rfl ?_
    refine E.iconst (q := 59) (v := (3 : Int32)) X0 hx (hb hby d30_58) rfl ?_
    refine E.icmpY (q := 75) X0 hx (hb hby d30_59) (XT.ii_le_t (by decide)) ?_
    refine E.iconst (q := 76) (v := (1 : Int32)) X0 hx (hb hby d30_75) rfl ?_
    exact Ends.retS X0 hx hlk hret (by simp) rfl (hb hby d30_76) (by decide) (by decide) ⟨by rw [if_pos ((own_bd4_1 u0 u1 u2 u3 u4).mpr hq0)], e0, rfl⟩
  · refine E.icmpN (q := 19) X0 hx (hb hby d30_16) (XT.ii_eq_f hq0) ?_
    refine E.iconst (q := 20) (v := (0 : Int32)) X0 hx (hb hby d30_19) rfl ?_
    exact Ends.retS X0 hx hlk hret (by simp) rfl (hb hby d30_20) (by decide) (by decide) ⟨by rw [if_neg (fun q => hq0 ((own_bd4_1 u0 u1 u2 u3 u4).mp q))], e0, rfl⟩
theorem own_bd4_2 (u0 u1 u2 u3 u4 : Int32) : own_bord [u0, u1, u2, u3, u4] 4 2 = true ↔ u0 = u3 ∧ u1 = u4 := by simp [own_bord, List.range, List.range.loop]
theorem efMt4_2 (m : MethodId) (x0 : Addr) (x1 : Int32) (x2 : Int32) : entryFrame m #[(.ref x0), (.int x1), (.int x2)] 4 = mkF m 0 #[.val (.ref x0), .val (.int x1), .val (.int x2), .unset] [] := by first | (simp [entryFrame, mkF, argsToLocals, Value.category]; done) | rfl
theorem rmMt4_2 (l : Launch) (Z : State) (a0 : Array Value) (hw : ∀ d ∈ tables_1, d.before a0 Z = true) (oc : Addr) (u0 u1 u2 u3 u4 : Int32) (h0 : Heap) (A_c : Ary Z h0 oc .int [(.int u0), (.int u1), (.int u2), (.int u3), (.int u4)]) :
    Con l (⟨"com/example/needlework/needlework/match/CompiledPatternOfPinLaw", "matches", "([III)Z"⟩ : MethodName) method_5_code 4 (some .boolean) [] ({ frames := 0, cells := 0, slots := 0, locals := 0 } : Room) #[(.ref oc), (.int (2 : Int32)), (.int (4 : Int32))] Z h0 (fun v h L => v = some (.int (if own_bord [u0, u1, u2, u3, u4] 4 2 = true then (1 : Int32) else 0)) ∧ h = h0 ∧ L = []) := by
  refine Con.of (plainFor_of_name pn_7) ?_
  intro p e s m below meth c s₁ hx hZ hby hml hown hnm hret hlk X0 e0
  refine Ends.cast (efMt4_2 m oc (2 : Int32) (4 : Int32)) ?_
  refine E.iloadN (q := 1) X0 hx (hb hby d30_0) rfl ?_
  refine E.iloadN (q := 2) X0 hx (hb hby d30_1) rfl ?_
  refine E.isub (q := 3) X0 hx (hb hby d30_2) ?_
  rw [show ((4 : Int32) - (2 : Int32)) = (2 : Int32) from by decide]
  refine E.iconst (q := 4) (v := (1 : Int32)) X0 hx (hb hby d30_3) rfl ?_
  refine E.iadd (q := 5) X0 hx (hb hby d30_4) ?_
  rw [show ((2 : Int32) + (1 : Int32)) = (3 : Int32) from by decide]
  refine E.istoreN (q := 6) (l' := #[.val (.ref oc), .val (.int (2 : Int32)), .val (.int (4 : Int32)), .val (.int (3 : Int32))]) X0 hx (hb hby d30_5) rfl ?_
  refine E.iloadN (q := 7) X0 hx (hb hby d30_6) rfl ?_
  refine E.ifN (q := 10) X0 hx (hb hby d30_7) (XT.i0_le_f (by decide)) ?_
  refine E.aloadN (q := 11) X0 hx (hb hby d30_10) rfl rfl ?_
  refine E.iconst (q := 12) (v := (0 : Int32)) X0 hx (hb hby d30_11) rfl ?_
  refine Ends.ild X0 hx hZ e0 A_c (i := 0) rfl rfl (hb hby d30_12) ?_
  refine E.aloadN (q := 14) X0 hx (hb hby d30_13) rfl rfl ?_
  refine E.iloadN (q := 15) X0 hx (hb hby d30_14) rfl ?_
  refine Ends.ild X0 hx hZ e0 A_c (i := 3) rfl rfl (hb hby d30_15) ?_
  by_cases hq0 : u0 = u3
  · refine E.icmpY (q := 21) X0 hx (hb hby d30_16) (XT.ii_eq_t hq0) ?_
    refine E.iloadN (q := 22) X0 hx (hb hby d30_21) rfl ?_
    refine E.iconst (q := 23) (v := (1 : Int32)) X0 hx (hb hby d30_22) rfl ?_
    refine E.icmpN (q := 26) X0 hx (hb hby d30_23) (XT.ii_le_f (by decide)) ?_
    refine E.aloadN (q := 27) X0 hx (hb hby d30_26) rfl rfl ?_
    refine E.iconst (q := 28) (v := (1 : Int32)) X0 hx (hb hby d30_27) rfl ?_
    refine Ends.ild X0 hx hZ e0 A_c (i := 1) rfl rfl (hb hby d30_28) ?_
    refine E.aloadN (q := 30) X0 hx (hb hby d30_29) rfl rfl ?_
    refine E.iloadN (q := 31) X0 hx (hb hby d30_30) rfl ?_
    refine E.iconst (q := 32) (v := (1 : Int32)) X0 hx (hb hby d30_31) rfl ?_
    refine E.iadd (q := 33) X0 hx (hb hby d30_32) ?_
    rw [show ((3 : Int32) + (1 : Int32)) = (4 : Int32) from by decide]
    refine Ends.ild X0 hx hZ e0 A_c (i := 4) rfl rfl (hb hby d30_33) ?_
    by_cases hq1 : u1 = u4
    · refine E.icmpY (q := 39) X0 hx (hb hby d30_34) (XT.ii_eq_t hq1) ?_
      refine E.iloadN (q := 40) X0 hx (hb hby d30_39) rfl ?_
      refine E.iconst (q := 41) (v := (2 : Int32)) X0 hx (hb hby d30_40) rfl ?_
      refine E.icmpY (q := 57) X0 hx (hb hby d30_41) (XT.ii_le_t (by decide)) ?_
      refine E.iloadN (q := 58) X0 hx (hb hby d30_57) rfl ?_
      refine E.iconst (q := 59) (v := (3 : Int32)) X0 hx (hb hby d30_58) rfl ?_
      refine E.icmpY (q := 75) X0 hx (hb hby d30_59) (XT.ii_le_t (by decide)) ?_
      refine E.iconst (q := 76) (v := (1 : Int32)) X0 hx (hb hby d30_75) rfl ?_
      exact Ends.retS X0 hx hlk hret (by simp) rfl (hb hby d30_76) (by decide) (by decide) ⟨by rw [if_pos ((own_bd4_2 u0 u1 u2 u3 u4).mpr ⟨hq0, hq1⟩)], e0, rfl⟩
    · refine E.icmpN (q := 37) X0 hx (hb hby d30_34) (XT.ii_eq_f hq1) ?_
      refine E.iconst (q := 38) (v := (0 : Int32)) X0 hx (hb hby d30_37) rfl ?_
      exact Ends.retS X0 hx hlk hret (by simp) rfl (hb hby d30_38) (by decide) (by decide) ⟨by rw [if_neg (fun q => hq1 ((own_bd4_2 u0 u1 u2 u3 u4).mp q).2)], e0, rfl⟩
  · refine E.icmpN (q := 19) X0 hx (hb hby d30_16) (XT.ii_eq_f hq0) ?_
    refine E.iconst (q := 20) (v := (0 : Int32)) X0 hx (hb hby d30_19) rfl ?_
    exact Ends.retS X0 hx hlk hret (by simp) rfl (hb hby d30_20) (by decide) (by decide) ⟨by rw [if_neg (fun q => hq0 ((own_bd4_2 u0 u1 u2 u3 u4).mp q).1)], e0, rfl⟩
theorem own_bd4_3 (u0 u1 u2 u3 u4 : Int32) : own_bord [u0, u1, u2, u3, u4] 4 3 = true ↔ u0 = u2 ∧ u1 = u3 ∧ u2 = u4 := by simp [own_bord, List.range, List.range.loop]
theorem efMt4_3 (m : MethodId) (x0 : Addr) (x1 : Int32) (x2 : Int32) : entryFrame m #[(.ref x0), (.int x1), (.int x2)] 4 = mkF m 0 #[.val (.ref x0), .val (.int x1), .val (.int x2), .unset] [] := by first | (simp [entryFrame, mkF, argsToLocals, Value.category]; done) | rfl
theorem rmMt4_3 (l : Launch) (Z : State) (a0 : Array Value) (hw : ∀ d ∈ tables_1, d.before a0 Z = true) (oc : Addr) (u0 u1 u2 u3 u4 : Int32) (h0 : Heap) (A_c : Ary Z h0 oc .int [(.int u0), (.int u1), (.int u2), (.int u3), (.int u4)]) :
    Con l (⟨"com/example/needlework/needlework/match/CompiledPatternOfPinLaw", "matches", "([III)Z"⟩ : MethodName) method_5_code 4 (some .boolean) [] ({ frames := 0, cells := 0, slots := 0, locals := 0 } : Room) #[(.ref oc), (.int (3 : Int32)), (.int (4 : Int32))] Z h0 (fun v h L => v = some (.int (if own_bord [u0, u1, u2, u3, u4] 4 3 = true then (1 : Int32) else 0)) ∧ h = h0 ∧ L = []) := by
  refine Con.of (plainFor_of_name pn_7) ?_
  intro p e s m below meth c s₁ hx hZ hby hml hown hnm hret hlk X0 e0
  refine Ends.cast (efMt4_3 m oc (3 : Int32) (4 : Int32)) ?_
  refine E.iloadN (q := 1) X0 hx (hb hby d30_0) rfl ?_
  refine E.iloadN (q := 2) X0 hx (hb hby d30_1) rfl ?_
  refine E.isub (q := 3) X0 hx (hb hby d30_2) ?_
  rw [show ((4 : Int32) - (3 : Int32)) = (1 : Int32) from by decide]
  refine E.iconst (q := 4) (v := (1 : Int32)) X0 hx (hb hby d30_3) rfl ?_
  refine E.iadd (q := 5) X0 hx (hb hby d30_4) ?_
  rw [show ((1 : Int32) + (1 : Int32)) = (2 : Int32) from by decide]
  refine E.istoreN (q := 6) (l' := #[.val (.ref oc), .val (.int (3 : Int32)), .val (.int (4 : Int32)), .val (.int (2 : Int32))]) X0 hx (hb hby d30_5) rfl ?_
  refine E.iloadN (q := 7) X0 hx (hb hby d30_6) rfl ?_
  refine E.ifN (q := 10) X0 hx (hb hby d30_7) (XT.i0_le_f (by decide)) ?_
  refine E.aloadN (q := 11) X0 hx (hb hby d30_10) rfl rfl ?_
  refine E.iconst (q := 12) (v := (0 : Int32)) X0 hx (hb hby d30_11) rfl ?_
  refine Ends.ild X0 hx hZ e0 A_c (i := 0) rfl rfl (hb hby d30_12) ?_
  refine E.aloadN (q := 14) X0 hx (hb hby d30_13) rfl rfl ?_
  refine E.iloadN (q := 15) X0 hx (hb hby d30_14) rfl ?_
  refine Ends.ild X0 hx hZ e0 A_c (i := 2) rfl rfl (hb hby d30_15) ?_
  by_cases hq0 : u0 = u2
  · refine E.icmpY (q := 21) X0 hx (hb hby d30_16) (XT.ii_eq_t hq0) ?_
    refine E.iloadN (q := 22) X0 hx (hb hby d30_21) rfl ?_
    refine E.iconst (q := 23) (v := (1 : Int32)) X0 hx (hb hby d30_22) rfl ?_
    refine E.icmpN (q := 26) X0 hx (hb hby d30_23) (XT.ii_le_f (by decide)) ?_
    refine E.aloadN (q := 27) X0 hx (hb hby d30_26) rfl rfl ?_
    refine E.iconst (q := 28) (v := (1 : Int32)) X0 hx (hb hby d30_27) rfl ?_
    refine Ends.ild X0 hx hZ e0 A_c (i := 1) rfl rfl (hb hby d30_28) ?_
    refine E.aloadN (q := 30) X0 hx (hb hby d30_29) rfl rfl ?_
    refine E.iloadN (q := 31) X0 hx (hb hby d30_30) rfl ?_
    refine E.iconst (q := 32) (v := (1 : Int32)) X0 hx (hb hby d30_31) rfl ?_
    refine E.iadd (q := 33) X0 hx (hb hby d30_32) ?_
    rw [show ((2 : Int32) + (1 : Int32)) = (3 : Int32) from by decide]
    refine Ends.ild X0 hx hZ e0 A_c (i := 3) rfl rfl (hb hby d30_33) ?_
    by_cases hq1 : u1 = u3
    · refine E.icmpY (q := 39) X0 hx (hb hby d30_34) (XT.ii_eq_t hq1) ?_
      refine E.iloadN (q := 40) X0 hx (hb hby d30_39) rfl ?_
      refine E.iconst (q := 41) (v := (2 : Int32)) X0 hx (hb hby d30_40) rfl ?_
      refine E.icmpN (q := 44) X0 hx (hb hby d30_41) (XT.ii_le_f (by decide)) ?_
      refine E.aloadN (q := 45) X0 hx (hb hby d30_44) rfl rfl ?_
      refine E.iconst (q := 46) (v := (2 : Int32)) X0 hx (hb hby d30_45) rfl ?_
      refine Ends.ild X0 hx hZ e0 A_c (i := 2) rfl rfl (hb hby d30_46) ?_
      refine E.aloadN (q := 48) X0 hx (hb hby d30_47) rfl rfl ?_
      refine E.iloadN (q := 49) X0 hx (hb hby d30_48) rfl ?_
      refine E.iconst (q := 50) (v := (2 : Int32)) X0 hx (hb hby d30_49) rfl ?_
      refine E.iadd (q := 51) X0 hx (hb hby d30_50) ?_
      rw [show ((2 : Int32) + (2 : Int32)) = (4 : Int32) from by decide]
      refine Ends.ild X0 hx hZ e0 A_c (i := 4) rfl rfl (hb hby d30_51) ?_
      by_cases hq2 : u2 = u4
      · refine E.icmpY (q := 57) X0 hx (hb hby d30_52) (XT.ii_eq_t hq2) ?_
        refine E.iloadN (q := 58) X0 hx (hb hby d30_57) rfl ?_
        refine E.iconst (q := 59) (v := (3 : Int32)) X0 hx (hb hby d30_58) rfl ?_
        refine E.icmpY (q := 75) X0 hx (hb hby d30_59) (XT.ii_le_t (by decide)) ?_
        refine E.iconst (q := 76) (v := (1 : Int32)) X0 hx (hb hby d30_75) rfl ?_
        exact Ends.retS X0 hx hlk hret (by simp) rfl (hb hby d30_76) (by decide) (by decide) ⟨by rw [if_pos ((own_bd4_3 u0 u1 u2 u3 u4).mpr ⟨hq0, hq1, hq2⟩)], e0, rfl⟩
      · refine E.icmpN (q := 55) X0 hx (hb hby d30_52) (XT.ii_eq_f hq2) ?_
        refine E.iconst (q := 56) (v := (0 : Int32)) X0 hx (hb hby d30_55) rfl ?_
        exact Ends.retS X0 hx hlk hret (by simp) rfl (hb hby d30_56) (by decide) (by decide) ⟨by rw [if_neg (fun q => hq2 ((own_bd4_3 u0 u1 u2 u3 u4).mp q).2.2)], e0, rfl⟩
    · refine E.icmpN (q := 37) X0 hx (hb hby d30_34) (XT.ii_eq_f hq1) ?_
      refine E.iconst (q := 38) (v := (0 : Int32)) X0 hx (hb hby d30_37) rfl ?_
      exact Ends.retS X0 hx hlk hret (by simp) rfl (hb hby d30_38) (by decide) (by decide) ⟨by rw [if_neg (fun q => hq1 ((own_bd4_3 u0 u1 u2 u3 u4).mp q).2.1)], e0, rfl⟩
  · refine E.icmpN (q := 19) X0 hx (hb hby d30_16) (XT.ii_eq_f hq0) ?_
    refine E.iconst (q := 20) (v := (0 : Int32)) X0 hx (hb hby d30_19) rfl ?_
    exact Ends.retS X0 hx hlk hret (by simp) rfl (hb hby d30_20) (by decide) (by decide) ⟨by rw [if_neg (fun q => hq0 ((own_bd4_3 u0 u1 u2 u3 u4).mp q).1)], e0, rfl⟩
theorem own_bd4_4 (u0 u1 u2 u3 u4 : Int32) : own_bord [u0, u1, u2, u3, u4] 4 4 = true ↔ u0 = u1 ∧ u1 = u2 ∧ u2 = u3 ∧ u3 = u4 := by simp [own_bord, List.range, List.range.loop]
theorem efMt4_4 (m : MethodId) (x0 : Addr) (x1 : Int32) (x2 : Int32) : entryFrame m #[(.ref x0), (.int x1), (.int x2)] 4 = mkF m 0 #[.val (.ref x0), .val (.int x1), .val (.int x2), .unset] [] := by first | (simp [entryFrame, mkF, argsToLocals, Value.category]; done) | rfl
theorem rmMt4_4 (l : Launch) (Z : State) (a0 : Array Value) (hw : ∀ d ∈ tables_1, d.before a0 Z = true) (oc : Addr) (u0 u1 u2 u3 u4 : Int32) (h0 : Heap) (A_c : Ary Z h0 oc .int [(.int u0), (.int u1), (.int u2), (.int u3), (.int u4)]) :
    Con l (⟨"com/example/needlework/needlework/match/CompiledPatternOfPinLaw", "matches", "([III)Z"⟩ : MethodName) method_5_code 4 (some .boolean) [] ({ frames := 0, cells := 0, slots := 0, locals := 0 } : Room) #[(.ref oc), (.int (4 : Int32)), (.int (4 : Int32))] Z h0 (fun v h L => v = some (.int (if own_bord [u0, u1, u2, u3, u4] 4 4 = true then (1 : Int32) else 0)) ∧ h = h0 ∧ L = []) := by
  refine Con.of (plainFor_of_name pn_7) ?_
  intro p e s m below meth c s₁ hx hZ hby hml hown hnm hret hlk X0 e0
  refine Ends.cast (efMt4_4 m oc (4 : Int32) (4 : Int32)) ?_
  refine E.iloadN (q := 1) X0 hx (hb hby d30_0) rfl ?_
  refine E.iloadN (q := 2) X0 hx (hb hby d30_1) rfl ?_
  refine E.isub (q := 3) X0 hx (hb hby d30_2) ?_
  rw [show ((4 : Int32) - (4 : Int32)) = (0 : Int32) from by decide]
  refine E.iconst (q := 4) (v := (1 : Int32)) X0 hx (hb hby d30_3) rfl ?_
  refine E.iadd (q := 5) X0 hx (hb hby d30_4) ?_
  rw [show ((0 : Int32) + (1 : Int32)) = (1 : Int32) from by decide]
  refine E.istoreN (q := 6) (l' := #[.val (.ref oc), .val (.int (4 : Int32)), .val (.int (4 : Int32)), .val (.int (1 : Int32))]) X0 hx (hb hby d30_5) rfl ?_
  refine E.iloadN (q := 7) X0 hx (hb hby d30_6) rfl ?_
  refine E.ifN (q := 10) X0 hx (hb hby d30_7) (XT.i0_le_f (by decide)) ?_
  refine E.aloadN (q := 11) X0 hx (hb hby d30_10) rfl rfl ?_
  refine E.iconst (q := 12) (v := (0 : Int32)) X0 hx (hb hby d30_11) rfl ?_
  refine Ends.ild X0 hx hZ e0 A_c (i := 0) rfl rfl (hb hby d30_12) ?_
  refine E.aloadN (q := 14) X0 hx (hb hby d30_13) rfl rfl ?_
  refine E.iloadN (q := 15) X0 hx (hb hby d30_14) rfl ?_
  refine Ends.ild X0 hx hZ e0 A_c (i := 1) rfl rfl (hb hby d30_15) ?_
  by_cases hq0 : u0 = u1
  · refine E.icmpY (q := 21) X0 hx (hb hby d30_16) (XT.ii_eq_t hq0) ?_
    refine E.iloadN (q := 22) X0 hx (hb hby d30_21) rfl ?_
    refine E.iconst (q := 23) (v := (1 : Int32)) X0 hx (hb hby d30_22) rfl ?_
    refine E.icmpN (q := 26) X0 hx (hb hby d30_23) (XT.ii_le_f (by decide)) ?_
    refine E.aloadN (q := 27) X0 hx (hb hby d30_26) rfl rfl ?_
    refine E.iconst (q := 28) (v := (1 : Int32)) X0 hx (hb hby d30_27) rfl ?_
    refine Ends.ild X0 hx hZ e0 A_c (i := 1) rfl rfl (hb hby d30_28) ?_
    refine E.aloadN (q := 30) X0 hx (hb hby d30_29) rfl rfl ?_
    refine E.iloadN (q := 31) X0 hx (hb hby d30_30) rfl ?_
    refine E.iconst (q := 32) (v := (1 : Int32)) X0 hx (hb hby d30_31) rfl ?_
    refine E.iadd (q := 33) X0 hx (hb hby d30_32) ?_
    rw [show ((1 : Int32) + (1 : Int32)) = (2 : Int32) from by decide]
    refine Ends.ild X0 hx hZ e0 A_c (i := 2) rfl rfl (hb hby d30_33) ?_
    by_cases hq1 : u1 = u2
    · refine E.icmpY (q := 39) X0 hx (hb hby d30_34) (XT.ii_eq_t hq1) ?_
      refine E.iloadN (q := 40) X0 hx (hb hby d30_39) rfl ?_
      refine E.iconst (q := 41) (v := (2 : Int32)) X0 hx (hb hby d30_40) rfl ?_
      refine E.icmpN (q := 44) X0 hx (hb hby d30_41) (XT.ii_le_f (by decide)) ?_
      refine E.aloadN (q := 45) X0 hx (hb hby d30_44) rfl rfl ?_
      refine E.iconst (q := 46) (v := (2 : Int32)) X0 hx (hb hby d30_45) rfl ?_
      refine Ends.ild X0 hx hZ e0 A_c (i := 2) rfl rfl (hb hby d30_46) ?_
      refine E.aloadN (q := 48) X0 hx (hb hby d30_47) rfl rfl ?_
      refine E.iloadN (q := 49) X0 hx (hb hby d30_48) rfl ?_
      refine E.iconst (q := 50) (v := (2 : Int32)) X0 hx (hb hby d30_49) rfl ?_
      refine E.iadd (q := 51) X0 hx (hb hby d30_50) ?_
      rw [show ((1 : Int32) + (2 : Int32)) = (3 : Int32) from by decide]
      refine Ends.ild X0 hx hZ e0 A_c (i := 3) rfl rfl (hb hby d30_51) ?_
      by_cases hq2 : u2 = u3
      · refine E.icmpY (q := 57) X0 hx (hb hby d30_52) (XT.ii_eq_t hq2) ?_
        refine E.iloadN (q := 58) X0 hx (hb hby d30_57) rfl ?_
        refine E.iconst (q := 59) (v := (3 : Int32)) X0 hx (hb hby d30_58) rfl ?_
        refine E.icmpN (q := 62) X0 hx (hb hby d30_59) (XT.ii_le_f (by decide)) ?_
        refine E.aloadN (q := 63) X0 hx (hb hby d30_62) rfl rfl ?_
        refine E.iconst (q := 64) (v := (3 : Int32)) X0 hx (hb hby d30_63) rfl ?_
        refine Ends.ild X0 hx hZ e0 A_c (i := 3) rfl rfl (hb hby d30_64) ?_
        refine E.aloadN (q := 66) X0 hx (hb hby d30_65) rfl rfl ?_
        refine E.iloadN (q := 67) X0 hx (hb hby d30_66) rfl ?_
        refine E.iconst (q := 68) (v := (3 : Int32)) X0 hx (hb hby d30_67) rfl ?_
        refine E.iadd (q := 69) X0 hx (hb hby d30_68) ?_
        rw [show ((1 : Int32) + (3 : Int32)) = (4 : Int32) from by decide]
        refine Ends.ild X0 hx hZ e0 A_c (i := 4) rfl rfl (hb hby d30_69) ?_
        by_cases hq3 : u3 = u4
        · refine E.icmpY (q := 75) X0 hx (hb hby d30_70) (XT.ii_eq_t hq3) ?_
          refine E.iconst (q := 76) (v := (1 : Int32)) X0 hx (hb hby d30_75) rfl ?_
          exact Ends.retS X0 hx hlk hret (by simp) rfl (hb hby d30_76) (by decide) (by decide) ⟨by rw [if_pos ((own_bd4_4 u0 u1 u2 u3 u4).mpr ⟨hq0, hq1, hq2, hq3⟩)], e0, rfl⟩
        · refine E.icmpN (q := 73) X0 hx (hb hby d30_70) (XT.ii_eq_f hq3) ?_
          refine E.iconst (q := 74) (v := (0 : Int32)) X0 hx (hb hby d30_73) rfl ?_
          exact Ends.retS X0 hx hlk hret (by simp) rfl (hb hby d30_74) (by decide) (by decide) ⟨by rw [if_neg (fun q => hq3 ((own_bd4_4 u0 u1 u2 u3 u4).mp q).2.2.2)], e0, rfl⟩
      · refine E.icmpN (q := 55) X0 hx (hb hby d30_52) (XT.ii_eq_f hq2) ?_
        refine E.iconst (q := 56) (v := (0 : Int32)) X0 hx (hb hby d30_55) rfl ?_
        exact Ends.retS X0 hx hlk hret (by simp) rfl (hb hby d30_56) (by decide) (by decide) ⟨by rw [if_neg (fun q => hq2 ((own_bd4_4 u0 u1 u2 u3 u4).mp q).2.2.1)], e0, rfl⟩
    · refine E.icmpN (q := 37) X0 hx (hb hby d30_34) (XT.ii_eq_f hq1) ?_
      refine E.iconst (q := 38) (v := (0 : Int32)) X0 hx (hb hby d30_37) rfl ?_
      exact Ends.retS X0 hx hlk hret (by simp) rfl (hb hby d30_38) (by decide) (by decide) ⟨by rw [if_neg (fun q => hq1 ((own_bd4_4 u0 u1 u2 u3 u4).mp q).2.1)], e0, rfl⟩
  · refine E.icmpN (q := 19) X0 hx (hb hby d30_16) (XT.ii_eq_f hq0) ?_
    refine E.iconst (q := 20) (v := (0 : Int32)) X0 hx (hb hby d30_19) rfl ?_
    exact Ends.retS X0 hx hlk hret (by simp) rfl (hb hby d30_20) (by decide) (by decide) ⟨by rw [if_neg (fun q => hq0 ((own_bd4_4 u0 u1 u2 u3 u4).mp q).1)], e0, rfl⟩
theorem efBr0 (m : MethodId) (x0 : Addr) (x1 : Int32) : entryFrame m #[(.ref x0), (.int x1)] 2 = mkF m 0 #[.val (.ref x0), .val (.int x1)] [] := by first | (simp [entryFrame, mkF, argsToLocals, Value.category]; done) | rfl
theorem rmBr0 (l : Launch) (Z : State) (a0 : Array Value) (hw : ∀ d ∈ tables_1, d.before a0 Z = true) (oc : Addr) (u0 u1 u2 u3 u4 : Int32) (h0 : Heap) (A_c : Ary Z h0 oc .int [(.int u0), (.int u1), (.int u2), (.int u3), (.int u4)]) :
    Con l (⟨"com/example/needlework/needlework/match/CompiledPatternOfPinLaw", "border", "([II)I"⟩ : MethodName) method_6_code 2 (some .int) [] ({ frames := 1, cells := 0, slots := 0, locals := 24 } : Room) #[(.ref oc), (.int (0 : Int32))] Z h0 (fun v h L => v = some (.int (Int32.ofNat (own_ref5 [u0, u1, u2, u3, u4] 0))) ∧ h = h0 ∧ L = []) := by
  refine Con.of (plainFor_of_name pn_7) ?_
  intro p e s m below meth c s₁ hx hZ hby hml hown hnm hret hlk X0 e0
  refine Ends.cast (efBr0 m oc (0 : Int32)) ?_
  have O0 := Ok.refl h0 []
  refine E.iloadN (q := 1) X0 hx (hb hby d29_0) rfl ?_
  refine E.iconst (q := 2) (v := (4 : Int32)) X0 hx (hb hby d29_1) rfl ?_
  refine E.icmpY (q := 16) X0 hx (hb hby d29_2) (XT.ii_lt_t (by decide)) ?_
  refine E.iloadN (q := 17) X0 hx (hb hby d29_16) rfl ?_
  refine E.iconst (q := 18) (v := (3 : Int32)) X0 hx (hb hby d29_17) rfl ?_
  refine E.icmpY (q := 32) X0 hx (hb hby d29_18) (XT.ii_lt_t (by decide)) ?_
  refine E.iloadN (q := 33) X0 hx (hb hby d29_32) rfl ?_
  refine E.iconst (q := 34) (v := (2 : Int32)) X0 hx (hb hby d29_33) rfl ?_
  refine E.icmpY (q := 48) X0 hx (hb hby d29_34) (XT.ii_lt_t (by decide)) ?_
  refine E.iloadN (q := 49) X0 hx (hb hby d29_48) rfl ?_
  refine E.iconst (q := 50) (v := (1 : Int32)) X0 hx (hb hby d29_49) rfl ?_
  refine E.icmpY (q := 64) X0 hx (hb hby d29_50) (XT.ii_lt_t (by decide)) ?_
  refine E.iconst (q := 65) (v := (0 : Int32)) X0 hx (hb hby d29_64) rfl ?_
  have hr : own_ref5 [u0, u1, u2, u3, u4] 0 = 0 := by simp [own_ref5]
  exact Ends.retI X0 hx hlk hret (hb hby d29_65) (by decide) (by decide) ⟨by rw [hr]; rfl, e0, rfl⟩
theorem efBr1 (m : MethodId) (x0 : Addr) (x1 : Int32) : entryFrame m #[(.ref x0), (.int x1)] 2 = mkF m 0 #[.val (.ref x0), .val (.int x1)] [] := by first | (simp [entryFrame, mkF, argsToLocals, Value.category]; done) | rfl
theorem rmBr1 (l : Launch) (Z : State) (a0 : Array Value) (hw : ∀ d ∈ tables_1, d.before a0 Z = true) (oc : Addr) (u0 u1 u2 u3 u4 : Int32) (h0 : Heap) (A_c : Ary Z h0 oc .int [(.int u0), (.int u1), (.int u2), (.int u3), (.int u4)]) :
    Con l (⟨"com/example/needlework/needlework/match/CompiledPatternOfPinLaw", "border", "([II)I"⟩ : MethodName) method_6_code 2 (some .int) [] ({ frames := 1, cells := 0, slots := 0, locals := 24 } : Room) #[(.ref oc), (.int (1 : Int32))] Z h0 (fun v h L => v = some (.int (Int32.ofNat (own_ref5 [u0, u1, u2, u3, u4] 1))) ∧ h = h0 ∧ L = []) := by
  refine Con.of (plainFor_of_name pn_7) ?_
  intro p e s m below meth c s₁ hx hZ hby hml hown hnm hret hlk X0 e0
  refine Ends.cast (efBr1 m oc (1 : Int32)) ?_
  have O0 := Ok.refl h0 []
  refine E.iloadN (q := 1) X0 hx (hb hby d29_0) rfl ?_
  refine E.iconst (q := 2) (v := (4 : Int32)) X0 hx (hb hby d29_1) rfl ?_
  refine E.icmpY (q := 16) X0 hx (hb hby d29_2) (XT.ii_lt_t (by decide)) ?_
  refine E.iloadN (q := 17) X0 hx (hb hby d29_16) rfl ?_
  refine E.iconst (q := 18) (v := (3 : Int32)) X0 hx (hb hby d29_17) rfl ?_
  refine E.icmpY (q := 32) X0 hx (hb hby d29_18) (XT.ii_lt_t (by decide)) ?_
  refine E.iloadN (q := 33) X0 hx (hb hby d29_32) rfl ?_
  refine E.iconst (q := 34) (v := (2 : Int32)) X0 hx (hb hby d29_33) rfl ?_
  refine E.icmpY (q := 48) X0 hx (hb hby d29_34) (XT.ii_lt_t (by decide)) ?_
  refine E.iloadN (q := 49) X0 hx (hb hby d29_48) rfl ?_
  refine E.iconst (q := 50) (v := (1 : Int32)) X0 hx (hb hby d29_49) rfl ?_
  refine E.icmpN (q := 53) X0 hx (hb hby d29_50) (XT.ii_lt_f (by decide)) ?_
  refine E.aloadN (q := 54) X0 hx (hb hby d29_53) rfl rfl ?_
  refine E.iconst (q := 55) (v := (1 : Int32)) X0 hx (hb hby d29_54) rfl ?_
  refine E.iloadN (q := 56) X0 hx (hb hby d29_55) rfl ?_
  refine Ends.callS X0 hx hZ hown (own_w hw 174 rfl) (own_w hw 175 rfl) (own_w hw 108 rfl) (own_w hw 176 rfl) (by decide) (argsL := [(.ref oc), (.int (1 : Int32)), (.int (1 : Int32))]) (rest := []) e0 (rmMt1_1 l Z a0 hw oc u0 u1 u2 u3 u4 _ A_c) (W := 0) (by decide) (by decide) (by rw [hml]; rfl) (lenOf pd_24 rfl) (Nat.le_of_eq rfl) (hb hby d29_56) (by decide) (by decide) rfl ?_
  rintro T675 v675 L675 X675 ⟨rfl, e675, rfl⟩
  rw [List.append_nil] at X675
  by_cases hq1 : (if own_bord [u0, u1, u2, u3, u4] 1 1 = true then (1 : Int32) else 0) = (0 : Int32)
  · refine E.ifY (q := 64) X675 hx (hb hby d29_59) (XT.i0_eq_t hq1) ?_
    have hb1 : ¬ own_bord [u0, u1, u2, u3, u4] 1 1 = true := own_ifn hq1
    refine E.iconst (q := 65) (v := (0 : Int32)) X675 hx (hb hby d29_64) rfl ?_
    have hr : own_ref5 [u0, u1, u2, u3, u4] 1 = 0 := by simp [own_ref5, hb1]
    exact Ends.retI X675 hx hlk hret (hb hby d29_65) (by decide) (by decide) ⟨by rw [hr]; rfl, e675, rfl⟩
  · refine E.ifN (q := 62) X675 hx (hb hby d29_59) (XT.i0_eq_f hq1) ?_
    have hb1 : own_bord [u0, u1, u2, u3, u4] 1 1 = true := own_ifp hq1
    refine E.iconst (q := 63) (v := (1 : Int32)) X675 hx (hb hby d29_62) rfl ?_
    have hr : own_ref5 [u0, u1, u2, u3, u4] 1 = 1 := by simp [own_ref5, hb1]
    exact Ends.retI X675 hx hlk hret (hb hby d29_63) (by decide) (by decide) ⟨by rw [hr]; rfl, e675, rfl⟩
theorem efBr2 (m : MethodId) (x0 : Addr) (x1 : Int32) : entryFrame m #[(.ref x0), (.int x1)] 2 = mkF m 0 #[.val (.ref x0), .val (.int x1)] [] := by first | (simp [entryFrame, mkF, argsToLocals, Value.category]; done) | rfl
theorem rmBr2 (l : Launch) (Z : State) (a0 : Array Value) (hw : ∀ d ∈ tables_1, d.before a0 Z = true) (oc : Addr) (u0 u1 u2 u3 u4 : Int32) (h0 : Heap) (A_c : Ary Z h0 oc .int [(.int u0), (.int u1), (.int u2), (.int u3), (.int u4)]) :
    Con l (⟨"com/example/needlework/needlework/match/CompiledPatternOfPinLaw", "border", "([II)I"⟩ : MethodName) method_6_code 2 (some .int) [] ({ frames := 1, cells := 0, slots := 0, locals := 24 } : Room) #[(.ref oc), (.int (2 : Int32))] Z h0 (fun v h L => v = some (.int (Int32.ofNat (own_ref5 [u0, u1, u2, u3, u4] 2))) ∧ h = h0 ∧ L = []) := by
  refine Con.of (plainFor_of_name pn_7) ?_
  intro p e s m below meth c s₁ hx hZ hby hml hown hnm hret hlk X0 e0
  refine Ends.cast (efBr2 m oc (2 : Int32)) ?_
  have O0 := Ok.refl h0 []
  refine E.iloadN (q := 1) X0 hx (hb hby d29_0) rfl ?_
  refine E.iconst (q := 2) (v := (4 : Int32)) X0 hx (hb hby d29_1) rfl ?_
  refine E.icmpY (q := 16) X0 hx (hb hby d29_2) (XT.ii_lt_t (by decide)) ?_
  refine E.iloadN (q := 17) X0 hx (hb hby d29_16) rfl ?_
  refine E.iconst (q := 18) (v := (3 : Int32)) X0 hx (hb hby d29_17) rfl ?_
  refine E.icmpY (q := 32) X0 hx (hb hby d29_18) (XT.ii_lt_t (by decide)) ?_
  refine E.iloadN (q := 33) X0 hx (hb hby d29_32) rfl ?_
  refine E.iconst (q := 34) (v := (2 : Int32)) X0 hx (hb hby d29_33) rfl ?_
  refine E.icmpN (q := 37) X0 hx (hb hby d29_34) (XT.ii_lt_f (by decide)) ?_
  refine E.aloadN (q := 38) X0 hx (hb hby d29_37) rfl rfl ?_
  refine E.iconst (q := 39) (v := (2 : Int32)) X0 hx (hb hby d29_38) rfl ?_
  refine E.iloadN (q := 40) X0 hx (hb hby d29_39) rfl ?_
  refine Ends.callS X0 hx hZ hown (own_w hw 174 rfl) (own_w hw 175 rfl) (own_w hw 108 rfl) (own_w hw 176 rfl) (by decide) (argsL := [(.ref oc), (.int (2 : Int32)), (.int (2 : Int32))]) (rest := []) e0 (rmMt2_2 l Z a0 hw oc u0 u1 u2 u3 u4 _ A_c) (W := 0) (by decide) (by decide) (by rw [hml]; rfl) (lenOf pd_24 rfl) (Nat.le_of_eq rfl) (hb hby d29_40) (by decide) (by decide) rfl ?_
  rintro T676 v676 L676 X676 ⟨rfl, e676, rfl⟩
  rw [List.append_nil] at X676
  by_cases hq2 : (if own_bord [u0, u1, u2, u3, u4] 2 2 = true then (1 : Int32) else 0) = (0 : Int32)
  · refine E.ifY (q := 48) X676 hx (hb hby d29_43) (XT.i0_eq_t hq2) ?_
    have hb2 : ¬ own_bord [u0, u1, u2, u3, u4] 2 2 = true := own_ifn hq2
    refine E.iloadN (q := 49) X676 hx (hb hby d29_48) rfl ?_
    refine E.iconst (q := 50) (v := (1 : Int32)) X676 hx (hb hby d29_49) rfl ?_
    refine E.icmpN (q := 53) X676 hx (hb hby d29_50) (XT.ii_lt_f (by decide)) ?_
    refine E.aloadN (q := 54) X676 hx (hb hby d29_53) rfl rfl ?_
    refine E.iconst (q := 55) (v := (1 : Int32)) X676 hx (hb hby d29_54) rfl ?_
    refine E.iloadN (q := 56) X676 hx (hb hby d29_55) rfl ?_
    refine Ends.callS X676 hx hZ hown (own_w hw 174 rfl) (own_w hw 175 rfl) (own_w hw 108 rfl) (own_w hw 176 rfl) (by decide) (argsL := [(.ref oc), (.int (1 : Int32)), (.int (2 : Int32))]) (rest := []) e676 (rmMt2_1 l Z a0 hw oc u0 u1 u2 u3 u4 _ A_c) (W := 0) (by decide) (by decide) (by rw [hml]; rfl) (lenOf pd_24 rfl) (Nat.le_of_eq rfl) (hb hby d29_56) (by decide) (by decide) rfl ?_
    rintro T677 v677 L677 X677 ⟨rfl, e677, rfl⟩
    rw [List.append_nil] at X677
    by_cases hq1 : (if own_bord [u0, u1, u2, u3, u4] 2 1 = true then (1 : Int32) else 0) = (0 : Int32)
    · refine E.ifY (q := 64) X677 hx (hb hby d29_59) (XT.i0_eq_t hq1) ?_
      have hb1 : ¬ own_bord [u0, u1, u2, u3, u4] 2 1 = true := own_ifn hq1
      refine E.iconst (q := 65) (v := (0 : Int32)) X677 hx (hb hby d29_64) rfl ?_
      have hr : own_ref5 [u0, u1, u2, u3, u4] 2 = 0 := by simp [own_ref5, hb2, hb1]
      exact Ends.retI X677 hx hlk hret (hb hby d29_65) (by decide) (by decide) ⟨by rw [hr]; rfl, e677, rfl⟩
    · refine E.ifN (q := 62) X677 hx (hb hby d29_59) (XT.i0_eq_f hq1) ?_
      have hb1 : own_bord [u0, u1, u2, u3, u4] 2 1 = true := own_ifp hq1
      refine E.iconst (q := 63) (v := (1 : Int32)) X677 hx (hb hby d29_62) rfl ?_
      have hr : own_ref5 [u0, u1, u2, u3, u4] 2 = 1 := by simp [own_ref5, hb2, hb1]
      exact Ends.retI X677 hx hlk hret (hb hby d29_63) (by decide) (by decide) ⟨by rw [hr]; rfl, e677, rfl⟩
  · refine E.ifN (q := 46) X676 hx (hb hby d29_43) (XT.i0_eq_f hq2) ?_
    have hb2 : own_bord [u0, u1, u2, u3, u4] 2 2 = true := own_ifp hq2
    refine E.iconst (q := 47) (v := (2 : Int32)) X676 hx (hb hby d29_46) rfl ?_
    have hr : own_ref5 [u0, u1, u2, u3, u4] 2 = 2 := by simp [own_ref5, hb2]
    exact Ends.retI X676 hx hlk hret (hb hby d29_47) (by decide) (by decide) ⟨by rw [hr]; rfl, e676, rfl⟩
theorem efBr3 (m : MethodId) (x0 : Addr) (x1 : Int32) : entryFrame m #[(.ref x0), (.int x1)] 2 = mkF m 0 #[.val (.ref x0), .val (.int x1)] [] := by first | (simp [entryFrame, mkF, argsToLocals, Value.category]; done) | rfl
theorem rmBr3 (l : Launch) (Z : State) (a0 : Array Value) (hw : ∀ d ∈ tables_1, d.before a0 Z = true) (oc : Addr) (u0 u1 u2 u3 u4 : Int32) (h0 : Heap) (A_c : Ary Z h0 oc .int [(.int u0), (.int u1), (.int u2), (.int u3), (.int u4)]) :
    Con l (⟨"com/example/needlework/needlework/match/CompiledPatternOfPinLaw", "border", "([II)I"⟩ : MethodName) method_6_code 2 (some .int) [] ({ frames := 1, cells := 0, slots := 0, locals := 24 } : Room) #[(.ref oc), (.int (3 : Int32))] Z h0 (fun v h L => v = some (.int (Int32.ofNat (own_ref5 [u0, u1, u2, u3, u4] 3))) ∧ h = h0 ∧ L = []) := by
  refine Con.of (plainFor_of_name pn_7) ?_
  intro p e s m below meth c s₁ hx hZ hby hml hown hnm hret hlk X0 e0
  refine Ends.cast (efBr3 m oc (3 : Int32)) ?_
  have O0 := Ok.refl h0 []
  refine E.iloadN (q := 1) X0 hx (hb hby d29_0) rfl ?_
  refine E.iconst (q := 2) (v := (4 : Int32)) X0 hx (hb hby d29_1) rfl ?_
  refine E.icmpY (q := 16) X0 hx (hb hby d29_2) (XT.ii_lt_t (by decide)) ?_
  refine E.iloadN (q := 17) X0 hx (hb hby d29_16) rfl ?_
  refine E.iconst (q := 18) (v := (3 : Int32)) X0 hx (hb hby d29_17) rfl ?_
  refine E.icmpN (q := 21) X0 hx (hb hby d29_18) (XT.ii_lt_f (by decide)) ?_
  refine E.aloadN (q := 22) X0 hx (hb hby d29_21) rfl rfl ?_
  refine E.iconst (q := 23) (v := (3 : Int32)) X0 hx (hb hby d29_22) rfl ?_
  refine E.iloadN (q := 24) X0 hx (hb hby d29_23) rfl ?_
  refine Ends.callS X0 hx hZ hown (own_w hw 174 rfl) (own_w hw 175 rfl) (own_w hw 108 rfl) (own_w hw 176 rfl) (by decide) (argsL := [(.ref oc), (.int (3 : Int32)), (.int (3 : Int32))]) (rest := []) e0 (rmMt3_3 l Z a0 hw oc u0 u1 u2 u3 u4 _ A_c) (W := 0) (by decide) (by decide) (by rw [hml]; rfl) (lenOf pd_24 rfl) (Nat.le_of_eq rfl) (hb hby d29_24) (by decide) (by decide) rfl ?_
  rintro T678 v678 L678 X678 ⟨rfl, e678, rfl⟩
  rw [List.append_nil] at X678
  by_cases hq3 : (if own_bord [u0, u1, u2, u3, u4] 3 3 = true then (1 : Int32) else 0) = (0 : Int32)
  · refine E.ifY (q := 32) X678 hx (hb hby d29_27) (XT.i0_eq_t hq3) ?_
    have hb3 : ¬ own_bord [u0, u1, u2, u3, u4] 3 3 = true := own_ifn hq3
    refine E.iloadN (q := 33) X678 hx (hb hby d29_32) rfl ?_
    refine E.iconst (q := 34) (v := (2 : Int32)) X678 hx (hb hby d29_33) rfl ?_
    refine E.icmpN (q := 37) X678 hx (hb hby d29_34) (XT.ii_lt_f (by decide)) ?_
    refine E.aloadN (q := 38) X678 hx (hb hby d29_37) rfl rfl ?_
    refine E.iconst (q := 39) (v := (2 : Int32)) X678 hx (hb hby d29_38) rfl ?_
    refine E.iloadN (q := 40) X678 hx (hb hby d29_39) rfl ?_
    refine Ends.callS X678 hx hZ hown (own_w hw 174 rfl) (own_w hw 175 rfl) (own_w hw 108 rfl) (own_w hw 176 rfl) (by decide) (argsL := [(.ref oc), (.int (2 : Int32)), (.int (3 : Int32))]) (rest := []) e678 (rmMt3_2 l Z a0 hw oc u0 u1 u2 u3 u4 _ A_c) (W := 0) (by decide) (by decide) (by rw [hml]; rfl) (lenOf pd_24 rfl) (Nat.le_of_eq rfl) (hb hby d29_40) (by decide) (by decide) rfl ?_
    rintro T679 v679 L679 X679 ⟨rfl, e679, rfl⟩
    rw [List.append_nil] at X679
    by_cases hq2 : (if own_bord [u0, u1, u2, u3, u4] 3 2 = true then (1 : Int32) else 0) = (0 : Int32)
    · refine E.ifY (q := 48) X679 hx (hb hby d29_43) (XT.i0_eq_t hq2) ?_
      have hb2 : ¬ own_bord [u0, u1, u2, u3, u4] 3 2 = true := own_ifn hq2
      refine E.iloadN (q := 49) X679 hx (hb hby d29_48) rfl ?_
      refine E.iconst (q := 50) (v := (1 : Int32)) X679 hx (hb hby d29_49) rfl ?_
      refine E.icmpN (q := 53) X679 hx (hb hby d29_50) (XT.ii_lt_f (by decide)) ?_
      refine E.aloadN (q := 54) X679 hx (hb hby d29_53) rfl rfl ?_
      refine E.iconst (q := 55) (v := (1 : Int32)) X679 hx (hb hby d29_54) rfl ?_
      refine E.iloadN (q := 56) X679 hx (hb hby d29_55) rfl ?_
      refine Ends.callS X679 hx hZ hown (own_w hw 174 rfl) (own_w hw 175 rfl) (own_w hw 108 rfl) (own_w hw 176 rfl) (by decide) (argsL := [(.ref oc), (.int (1 : Int32)), (.int (3 : Int32))]) (rest := []) e679 (rmMt3_1 l Z a0 hw oc u0 u1 u2 u3 u4 _ A_c) (W := 0) (by decide) (by decide) (by rw [hml]; rfl) (lenOf pd_24 rfl) (Nat.le_of_eq rfl) (hb hby d29_56) (by decide) (by decide) rfl ?_
      rintro T680 v680 L680 X680 ⟨rfl, e680, rfl⟩
      rw [List.append_nil] at X680
      by_cases hq1 : (if own_bord [u0, u1, u2, u3, u4] 3 1 = true then (1 : Int32) else 0) = (0 : Int32)
      · refine E.ifY (q := 64) X680 hx (hb hby d29_59) (XT.i0_eq_t hq1) ?_
        have hb1 : ¬ own_bord [u0, u1, u2, u3, u4] 3 1 = true := own_ifn hq1
        refine E.iconst (q := 65) (v := (0 : Int32)) X680 hx (hb hby d29_64) rfl ?_
        have hr : own_ref5 [u0, u1, u2, u3, u4] 3 = 0 := by simp [own_ref5, hb3, hb2, hb1]
        exact Ends.retI X680 hx hlk hret (hb hby d29_65) (by decide) (by decide) ⟨by rw [hr]; rfl, e680, rfl⟩
      · refine E.ifN (q := 62) X680 hx (hb hby d29_59) (XT.i0_eq_f hq1) ?_
        have hb1 : own_bord [u0, u1, u2, u3, u4] 3 1 = true := own_ifp hq1
        refine E.iconst (q := 63) (v := (1 : Int32)) X680 hx (hb hby d29_62) rfl ?_
        have hr : own_ref5 [u0, u1, u2, u3, u4] 3 = 1 := by simp [own_ref5, hb3, hb2, hb1]
        exact Ends.retI X680 hx hlk hret (hb hby d29_63) (by decide) (by decide) ⟨by rw [hr]; rfl, e680, rfl⟩
    · refine E.ifN (q := 46) X679 hx (hb hby d29_43) (XT.i0_eq_f hq2) ?_
      have hb2 : own_bord [u0, u1, u2, u3, u4] 3 2 = true := own_ifp hq2
      refine E.iconst (q := 47) (v := (2 : Int32)) X679 hx (hb hby d29_46) rfl ?_
      have hr : own_ref5 [u0, u1, u2, u3, u4] 3 = 2 := by simp [own_ref5, hb3, hb2]
      exact Ends.retI X679 hx hlk hret (hb hby d29_47) (by decide) (by decide) ⟨by rw [hr]; rfl, e679, rfl⟩
  · refine E.ifN (q := 30) X678 hx (hb hby d29_27) (XT.i0_eq_f hq3) ?_
    have hb3 : own_bord [u0, u1, u2, u3, u4] 3 3 = true := own_ifp hq3
    refine E.iconst (q := 31) (v := (3 : Int32)) X678 hx (hb hby d29_30) rfl ?_
    have hr : own_ref5 [u0, u1, u2, u3, u4] 3 = 3 := by simp [own_ref5, hb3]
    exact Ends.retI X678 hx hlk hret (hb hby d29_31) (by decide) (by decide) ⟨by rw [hr]; rfl, e678, rfl⟩
theorem efBr4 (m : MethodId) (x0 : Addr) (x1 : Int32) : entryFrame m #[(.ref x0), (.int x1)] 2 = mkF m 0 #[.val (.ref x0), .val (.int x1)] [] := by first | (simp [entryFrame, mkF, argsToLocals, Value.category]; done) | rfl
theorem rmBr4 (l : Launch) (Z : State) (a0 : Array Value) (hw : ∀ d ∈ tables_1, d.before a0 Z = true) (oc : Addr) (u0 u1 u2 u3 u4 : Int32) (h0 : Heap) (A_c : Ary Z h0 oc .int [(.int u0), (.int u1), (.int u2), (.int u3), (.int u4)]) :
    Con l (⟨"com/example/needlework/needlework/match/CompiledPatternOfPinLaw", "border", "([II)I"⟩ : MethodName) method_6_code 2 (some .int) [] ({ frames := 1, cells := 0, slots := 0, locals := 24 } : Room) #[(.ref oc), (.int (4 : Int32))] Z h0 (fun v h L => v = some (.int (Int32.ofNat (own_ref5 [u0, u1, u2, u3, u4] 4))) ∧ h = h0 ∧ L = []) := by
  refine Con.of (plainFor_of_name pn_7) ?_
  intro p e s m below meth c s₁ hx hZ hby hml hown hnm hret hlk X0 e0
  refine Ends.cast (efBr4 m oc (4 : Int32)) ?_
  have O0 := Ok.refl h0 []
  refine E.iloadN (q := 1) X0 hx (hb hby d29_0) rfl ?_
  refine E.iconst (q := 2) (v := (4 : Int32)) X0 hx (hb hby d29_1) rfl ?_
  refine E.icmpN (q := 5) X0 hx (hb hby d29_2) (XT.ii_lt_f (by decide)) ?_
  refine E.aloadN (q := 6) X0 hx (hb hby d29_5) rfl rfl ?_
  refine E.iconst (q := 7) (v := (4 : Int32)) X0 hx (hb hby d29_6) rfl ?_
  refine E.iloadN (q := 8) X0 hx (hb hby d29_7) rfl ?_
  refine Ends.callS X0 hx hZ hown (own_w hw 174 rfl) (own_w hw 175 rfl) (own_w hw 108 rfl) (own_w hw 176 rfl) (by decide) (argsL := [(.ref oc), (.int (4 : Int32)), (.int (4 : Int32))]) (rest := []) e0 (rmMt4_4 l Z a0 hw oc u0 u1 u2 u3 u4 _ A_c) (W := 0) (by decide) (by decide) (by rw [hml]; rfl) (lenOf pd_24 rfl) (Nat.le_of_eq rfl) (hb hby d29_8) (by decide) (by decide) rfl ?_
  rintro T681 v681 L681 X681 ⟨rfl, e681, rfl⟩
  rw [List.append_nil] at X681
  by_cases hq4 : (if own_bord [u0, u1, u2, u3, u4] 4 4 = true then (1 : Int32) else 0) = (0 : Int32)
  · refine E.ifY (q := 16) X681 hx (hb hby d29_11) (XT.i0_eq_t hq4) ?_
    have hb4 : ¬ own_bord [u0, u1, u2, u3, u4] 4 4 = true := own_ifn hq4
    refine E.iloadN (q := 17) X681 hx (hb hby d29_16) rfl ?_
    refine E.iconst (q := 18) (v := (3 : Int32)) X681 hx (hb hby d29_17) rfl ?_
    refine E.icmpN (q := 21) X681 hx (hb hby d29_18) (XT.ii_lt_f (by decide)) ?_
    refine E.aloadN (q := 22) X681 hx (hb hby d29_21) rfl rfl ?_
    refine E.iconst (q := 23) (v := (3 : Int32)) X681 hx (hb hby d29_22) rfl ?_
    refine E.iloadN (q := 24) X681 hx (hb hby d29_23) rfl ?_
    refine Ends.callS X681 hx hZ hown (own_w hw 174 rfl) (own_w hw 175 rfl) (own_w hw 108 rfl) (own_w hw 176 rfl) (by decide) (argsL := [(.ref oc), (.int (3 : Int32)), (.int (4 : Int32))]) (rest := []) e681 (rmMt4_3 l Z a0 hw oc u0 u1 u2 u3 u4 _ A_c) (W := 0) (by decide) (by decide) (by rw [hml]; rfl) (lenOf pd_24 rfl) (Nat.le_of_eq rfl) (hb hby d29_24) (by decide) (by decide) rfl ?_
    rintro T682 v682 L682 X682 ⟨rfl, e682, rfl⟩
    rw [List.append_nil] at X682
    by_cases hq3 : (if own_bord [u0, u1, u2, u3, u4] 4 3 = true then (1 : Int32) else 0) = (0 : Int32)
    · refine E.ifY (q := 32) X682 hx (hb hby d29_27) (XT.i0_eq_t hq3) ?_
      have hb3 : ¬ own_bord [u0, u1, u2, u3, u4] 4 3 = true := own_ifn hq3
      refine E.iloadN (q := 33) X682 hx (hb hby d29_32) rfl ?_
      refine E.iconst (q := 34) (v := (2 : Int32)) X682 hx (hb hby d29_33) rfl ?_
      refine E.icmpN (q := 37) X682 hx (hb hby d29_34) (XT.ii_lt_f (by decide)) ?_
      refine E.aloadN (q := 38) X682 hx (hb hby d29_37) rfl rfl ?_
      refine E.iconst (q := 39) (v := (2 : Int32)) X682 hx (hb hby d29_38) rfl ?_
      refine E.iloadN (q := 40) X682 hx (hb hby d29_39) rfl ?_
      refine Ends.callS X682 hx hZ hown (own_w hw 174 rfl) (own_w hw 175 rfl) (own_w hw 108 rfl) (own_w hw 176 rfl) (by decide) (argsL := [(.ref oc), (.int (2 : Int32)), (.int (4 : Int32))]) (rest := []) e682 (rmMt4_2 l Z a0 hw oc u0 u1 u2 u3 u4 _ A_c) (W := 0) (by decide) (by decide) (by rw [hml]; rfl) (lenOf pd_24 rfl) (Nat.le_of_eq rfl) (hb hby d29_40) (by decide) (by decide) rfl ?_
      rintro T683 v683 L683 X683 ⟨rfl, e683, rfl⟩
      rw [List.append_nil] at X683
      by_cases hq2 : (if own_bord [u0, u1, u2, u3, u4] 4 2 = true then (1 : Int32) else 0) = (0 : Int32)
      · refine E.ifY (q := 48) X683 hx (hb hby d29_43) (XT.i0_eq_t hq2) ?_
        have hb2 : ¬ own_bord [u0, u1, u2, u3, u4] 4 2 = true := own_ifn hq2
        refine E.iloadN (q := 49) X683 hx (hb hby d29_48) rfl ?_
        refine E.iconst (q := 50) (v := (1 : Int32)) X683 hx (hb hby d29_49) rfl ?_
        refine E.icmpN (q := 53) X683 hx (hb hby d29_50) (XT.ii_lt_f (by decide)) ?_
        refine E.aloadN (q := 54) X683 hx (hb hby d29_53) rfl rfl ?_
        refine E.iconst (q := 55) (v := (1 : Int32)) X683 hx (hb hby d29_54) rfl ?_
        refine E.iloadN (q := 56) X683 hx (hb hby d29_55) rfl ?_
        refine Ends.callS X683 hx hZ hown (own_w hw 174 rfl) (own_w hw 175 rfl) (own_w hw 108 rfl) (own_w hw 176 rfl) (by decide) (argsL := [(.ref oc), (.int (1 : Int32)), (.int (4 : Int32))]) (rest := []) e683 (rmMt4_1 l Z a0 hw oc u0 u1 u2 u3 u4 _ A_c) (W := 0) (by decide) (by decide) (by rw [hml]; rfl) (lenOf pd_24 rfl) (Nat.le_of_eq rfl) (hb hby d29_56) (by decide) (by decide) rfl ?_
        rintro T684 v684 L684 X684 ⟨rfl, e684, rfl⟩
        rw [List.append_nil] at X684
        by_cases hq1 : (if own_bord [u0, u1, u2, u3, u4] 4 1 = true then (1 : Int32) else 0) = (0 : Int32)
        · refine E.ifY (q := 64) X684 hx (hb hby d29_59) (XT.i0_eq_t hq1) ?_
          have hb1 : ¬ own_bord [u0, u1, u2, u3, u4] 4 1 = true := own_ifn hq1
          refine E.iconst (q := 65) (v := (0 : Int32)) X684 hx (hb hby d29_64) rfl ?_
          have hr : own_ref5 [u0, u1, u2, u3, u4] 4 = 0 := by simp [own_ref5, hb4, hb3, hb2, hb1]
          exact Ends.retI X684 hx hlk hret (hb hby d29_65) (by decide) (by decide) ⟨by rw [hr]; rfl, e684, rfl⟩
        · refine E.ifN (q := 62) X684 hx (hb hby d29_59) (XT.i0_eq_f hq1) ?_
          have hb1 : own_bord [u0, u1, u2, u3, u4] 4 1 = true := own_ifp hq1
          refine E.iconst (q := 63) (v := (1 : Int32)) X684 hx (hb hby d29_62) rfl ?_
          have hr : own_ref5 [u0, u1, u2, u3, u4] 4 = 1 := by simp [own_ref5, hb4, hb3, hb2, hb1]
          exact Ends.retI X684 hx hlk hret (hb hby d29_63) (by decide) (by decide) ⟨by rw [hr]; rfl, e684, rfl⟩
      · refine E.ifN (q := 46) X683 hx (hb hby d29_43) (XT.i0_eq_f hq2) ?_
        have hb2 : own_bord [u0, u1, u2, u3, u4] 4 2 = true := own_ifp hq2
        refine E.iconst (q := 47) (v := (2 : Int32)) X683 hx (hb hby d29_46) rfl ?_
        have hr : own_ref5 [u0, u1, u2, u3, u4] 4 = 2 := by simp [own_ref5, hb4, hb3, hb2]
        exact Ends.retI X683 hx hlk hret (hb hby d29_47) (by decide) (by decide) ⟨by rw [hr]; rfl, e683, rfl⟩
    · refine E.ifN (q := 30) X682 hx (hb hby d29_27) (XT.i0_eq_f hq3) ?_
      have hb3 : own_bord [u0, u1, u2, u3, u4] 4 3 = true := own_ifp hq3
      refine E.iconst (q := 31) (v := (3 : Int32)) X682 hx (hb hby d29_30) rfl ?_
      have hr : own_ref5 [u0, u1, u2, u3, u4] 4 = 3 := by simp [own_ref5, hb4, hb3]
      exact Ends.retI X682 hx hlk hret (hb hby d29_31) (by decide) (by decide) ⟨by rw [hr]; rfl, e682, rfl⟩
  · refine E.ifN (q := 14) X681 hx (hb hby d29_11) (XT.i0_eq_f hq4) ?_
    have hb4 : own_bord [u0, u1, u2, u3, u4] 4 4 = true := own_ifp hq4
    refine E.iconst (q := 15) (v := (4 : Int32)) X681 hx (hb hby d29_14) rfl ?_
    have hr : own_ref5 [u0, u1, u2, u3, u4] 4 = 4 := by simp [own_ref5, hb4]
    exact Ends.retI X681 hx hlk hret (hb hby d29_15) (by decide) (by decide) ⟨by rw [hr]; rfl, e681, rfl⟩
theorem efBf0_0 (m : MethodId) (x0 : Addr) (x1 : Int32) (x2 : Int32) (x3 : Int32) : entryFrame m #[(.ref x0), (.int x1), (.int x2), (.int x3)] 4 = mkF m 0 #[.val (.ref x0), .val (.int x1), .val (.int x2), .val (.int x3)] [] := by first | (simp [entryFrame, mkF, argsToLocals, Value.category]; done) | rfl
theorem rmBf0_0 (l : Launch) (Z : State) (a0 : Array Value) (hw : ∀ d ∈ tables_1, d.before a0 Z = true) (oc : Addr) (r0 r1 r2 r3 r4 : Int32) (n : Nat) (hn : n ≤ 5) (h0 : Heap) (A_c : Ary Z h0 oc .int [(.int r0), (.int r1), (.int r2), (.int r3), (.int r4)]) :
    Con l (⟨"com/example/needlework/needlework/match/CompiledPatternOfPinLaw", "before", "([IIII)I"⟩ : MethodName) method_4_code 4 (some .int) [] ({ frames := 0, cells := 0, slots := 0, locals := 0 } : Room) #[(.ref oc), (.int (Int32.ofNat n)), (.int (0 : Int32)), (.int (0 : Int32))] Z h0 (fun v h L => v = some (.int (Int32.ofNat (own_bf (own_gtI [r0, r1, r2, r3, r4]) n 0 0))) ∧ h = h0 ∧ L = []) := by
  refine Con.of (plainFor_of_name pn_7) ?_
  intro p e s m below meth c s₁ hx hZ hby hml hown hnm hret hlk X0 e0
  refine Ends.cast (efBf0_0 m oc (Int32.ofNat n) (0 : Int32) (0 : Int32)) ?_
  refine E.iloadN (q := 1) X0 hx (hb hby d31_0) rfl ?_
  refine E.iloadN (q := 2) X0 hx (hb hby d31_1) rfl ?_
  by_cases hq : (0 : Int32) < (Int32.ofNat n)
  · refine E.icmpN (q := 5) X0 hx (hb hby d31_2) (XT.ii_ge_f hq) ?_
    have hjn : 0 < n := (own_ltN (a := 0) (by decide) (by omega)).mp hq
    refine E.iloadN (q := 6) X0 hx (hb hby d31_5) rfl ?_
    refine E.iloadN (q := 7) X0 hx (hb hby d31_6) rfl ?_
    refine E.icmpN (q := 10) X0 hx (hb hby d31_7) (XT.ii_ne_f (by decide)) ?_
    refine E.iconst (q := 11) (v := (0 : Int32)) X0 hx (hb hby d31_10) rfl ?_
    have hr : own_bf (own_gtI [r0, r1, r2, r3, r4]) n 0 0 = 0 := by simp [own_bf]
    exact Ends.retI X0 hx hlk hret (hb hby d31_11) (by decide) (by decide) ⟨by rw [hr]; rfl, e0, rfl⟩
  · refine E.icmpY (q := 10) X0 hx (hb hby d31_2) (XT.ii_ge_t hq) ?_
    have hjn : ¬ 0 < n := fun q => hq ((own_ltN (a := 0) (by decide) (by omega)).mpr q)
    refine E.iconst (q := 11) (v := (0 : Int32)) X0 hx (hb hby d31_10) rfl ?_
    have hr : own_bf (own_gtI [r0, r1, r2, r3, r4]) n 0 0 = 0 := by simp [own_bf, hjn]
    exact Ends.retI X0 hx hlk hret (hb hby d31_11) (by decide) (by decide) ⟨by rw [hr]; rfl, e0, rfl⟩
theorem efBf0_1 (m : MethodId) (x0 : Addr) (x1 : Int32) (x2 : Int32) (x3 : Int32) : entryFrame m #[(.ref x0), (.int x1), (.int x2), (.int x3)] 4 = mkF m 0 #[.val (.ref x0), .val (.int x1), .val (.int x2), .val (.int x3)] [] := by first | (simp [entryFrame, mkF, argsToLocals, Value.category]; done) | rfl
theorem rmBf0_1 (l : Launch) (Z : State) (a0 : Array Value) (hw : ∀ d ∈ tables_1, d.before a0 Z = true) (oc : Addr) (r0 r1 r2 r3 r4 : Int32) (n : Nat) (hn : n ≤ 5) (h0 : Heap) (A_c : Ary Z h0 oc .int [(.int r0), (.int r1), (.int r2), (.int r3), (.int r4)]) :
    Con l (⟨"com/example/needlework/needlework/match/CompiledPatternOfPinLaw", "before", "([IIII)I"⟩ : MethodName) method_4_code 4 (some .int) [] ({ frames := 0, cells := 0, slots := 0, locals := 0 } : Room) #[(.ref oc), (.int (Int32.ofNat n)), (.int (1 : Int32)), (.int (0 : Int32))] Z h0 (fun v h L => v = some (.int (Int32.ofNat (own_bf (own_gtI [r0, r1, r2, r3, r4]) n 0 1))) ∧ h = h0 ∧ L = []) := by
  refine Con.of (plainFor_of_name pn_7) ?_
  intro p e s m below meth c s₁ hx hZ hby hml hown hnm hret hlk X0 e0
  refine Ends.cast (efBf0_1 m oc (Int32.ofNat n) (1 : Int32) (0 : Int32)) ?_
  refine E.iloadN (q := 1) X0 hx (hb hby d31_0) rfl ?_
  refine E.iloadN (q := 2) X0 hx (hb hby d31_1) rfl ?_
  by_cases hq : (1 : Int32) < (Int32.ofNat n)
  · refine E.icmpN (q := 5) X0 hx (hb hby d31_2) (XT.ii_ge_f hq) ?_
    have hjn : 1 < n := (own_ltN (a := 1) (by decide) (by omega)).mp hq
    refine E.iloadN (q := 6) X0 hx (hb hby d31_5) rfl ?_
    refine E.iloadN (q := 7) X0 hx (hb hby d31_6) rfl ?_
    refine E.icmpY (q := 12) X0 hx (hb hby d31_7) (XT.ii_ne_t (by decide)) ?_
    refine E.aloadN (q := 13) X0 hx (hb hby d31_12) rfl rfl ?_
    refine E.iloadN (q := 14) X0 hx (hb hby d31_13) rfl ?_
    refine Ends.ild X0 hx hZ e0 A_c (i := 1) rfl rfl (hb hby d31_14) ?_
    refine E.aloadN (q := 16) X0 hx (hb hby d31_15) rfl rfl ?_
    refine E.iloadN (q := 17) X0 hx (hb hby d31_16) rfl ?_
    refine Ends.ild X0 hx hZ e0 A_c (i := 0) rfl rfl (hb hby d31_17) ?_
    by_cases h1 : r0 < r1
    · refine E.icmpN (q := 21) X0 hx (hb hby d31_18) (XT.ii_le_f h1) ?_
      refine E.iconst (q := 22) (v := (1 : Int32)) X0 hx (hb hby d31_21) rfl ?_
      have hr : own_bf (own_gtI [r0, r1, r2, r3, r4]) n 0 1 = 1 := by simp [own_bf, own_gtI, hjn, h1]
      exact Ends.retI X0 hx hlk hret (hb hby d31_22) (by decide) (by decide) ⟨by rw [hr]; rfl, e0, rfl⟩
    · refine E.icmpY (q := 23) X0 hx (hb hby d31_18) (XT.ii_le_t h1) ?_
      refine E.aloadN (q := 24) X0 hx (hb hby d31_23) rfl rfl ?_
      refine E.iloadN (q := 25) X0 hx (hb hby d31_24) rfl ?_
      refine Ends.ild X0 hx hZ e0 A_c (i := 1) rfl rfl (hb hby d31_25) ?_
      refine E.aloadN (q := 27) X0 hx (hb hby d31_26) rfl rfl ?_
      refine E.iloadN (q := 28) X0 hx (hb hby d31_27) rfl ?_
      refine Ends.ild X0 hx hZ e0 A_c (i := 0) rfl rfl (hb hby d31_28) ?_
      by_cases h2 : r1 = r0
      · refine E.icmpN (q := 32) X0 hx (hb hby d31_29) (XT.ii_ne_f h2) ?_
        refine E.iloadN (q := 33) X0 hx (hb hby d31_32) rfl ?_
        refine E.iloadN (q := 34) X0 hx (hb hby d31_33) rfl ?_
        refine E.icmpY (q := 39) X0 hx (hb hby d31_34) (XT.ii_ge_t (by decide)) ?_
        refine E.iconst (q := 40) (v := (0 : Int32)) X0 hx (hb hby d31_39) rfl ?_
        have hr : own_bf (own_gtI [r0, r1, r2, r3, r4]) n 0 1 = 0 := by simp [own_bf, own_gtI, hjn, h2, Int32.lt_irrefl]
        exact Ends.retI X0 hx hlk hret (hb hby d31_40) (by decide) (by decide) ⟨by rw [hr]; rfl, e0, rfl⟩
      · refine E.icmpY (q := 39) X0 hx (hb hby d31_29) (XT.ii_ne_t h2) ?_
        have h3 : r1 < r0 := own_nlt h1 h2
        refine E.iconst (q := 40) (v := (0 : Int32)) X0 hx (hb hby d31_39) rfl ?_
        have hr : own_bf (own_gtI [r0, r1, r2, r3, r4]) n 0 1 = 0 := by simp [own_bf, own_gtI, hjn, h1, h3]
        exact Ends.retI X0 hx hlk hret (hb hby d31_40) (by decide) (by decide) ⟨by rw [hr]; rfl, e0, rfl⟩
  · refine E.icmpY (q := 10) X0 hx (hb hby d31_2) (XT.ii_ge_t hq) ?_
    have hjn : ¬ 1 < n := fun q => hq ((own_ltN (a := 1) (by decide) (by omega)).mpr q)
    refine E.iconst (q := 11) (v := (0 : Int32)) X0 hx (hb hby d31_10) rfl ?_
    have hr : own_bf (own_gtI [r0, r1, r2, r3, r4]) n 0 1 = 0 := by simp [own_bf, hjn]
    exact Ends.retI X0 hx hlk hret (hb hby d31_11) (by decide) (by decide) ⟨by rw [hr]; rfl, e0, rfl⟩
theorem efBf0_2 (m : MethodId) (x0 : Addr) (x1 : Int32) (x2 : Int32) (x3 : Int32) : entryFrame m #[(.ref x0), (.int x1), (.int x2), (.int x3)] 4 = mkF m 0 #[.val (.ref x0), .val (.int x1), .val (.int x2), .val (.int x3)] [] := by first | (simp [entryFrame, mkF, argsToLocals, Value.category]; done) | rfl
theorem rmBf0_2 (l : Launch) (Z : State) (a0 : Array Value) (hw : ∀ d ∈ tables_1, d.before a0 Z = true) (oc : Addr) (r0 r1 r2 r3 r4 : Int32) (n : Nat) (hn : n ≤ 5) (h0 : Heap) (A_c : Ary Z h0 oc .int [(.int r0), (.int r1), (.int r2), (.int r3), (.int r4)]) :
    Con l (⟨"com/example/needlework/needlework/match/CompiledPatternOfPinLaw", "before", "([IIII)I"⟩ : MethodName) method_4_code 4 (some .int) [] ({ frames := 0, cells := 0, slots := 0, locals := 0 } : Room) #[(.ref oc), (.int (Int32.ofNat n)), (.int (2 : Int32)), (.int (0 : Int32))] Z h0 (fun v h L => v = some (.int (Int32.ofNat (own_bf (own_gtI [r0, r1, r2, r3, r4]) n 0 2))) ∧ h = h0 ∧ L = []) := by
  refine Con.of (plainFor_of_name pn_7) ?_
  intro p e s m below meth c s₁ hx hZ hby hml hown hnm hret hlk X0 e0
  refine Ends.cast (efBf0_2 m oc (Int32.ofNat n) (2 : Int32) (0 : Int32)) ?_
  refine E.iloadN (q := 1) X0 hx (hb hby d31_0) rfl ?_
  refine E.iloadN (q := 2) X0 hx (hb hby d31_1) rfl ?_
  by_cases hq : (2 : Int32) < (Int32.ofNat n)
  · refine E.icmpN (q := 5) X0 hx (hb hby d31_2) (XT.ii_ge_f hq) ?_
    have hjn : 2 < n := (own_ltN (a := 2) (by decide) (by omega)).mp hq
    refine E.iloadN (q := 6) X0 hx (hb hby d31_5) rfl ?_
    refine E.iloadN (q := 7) X0 hx (hb hby d31_6) rfl ?_
    refine E.icmpY (q := 12) X0 hx (hb hby d31_7) (XT.ii_ne_t (by decide)) ?_
    refine E.aloadN (q := 13) X0 hx (hb hby d31_12) rfl rfl ?_
    refine E.iloadN (q := 14) X0 hx (hb hby d31_13) rfl ?_
    refine Ends.ild X0 hx hZ e0 A_c (i := 2) rfl rfl (hb hby d31_14) ?_
    refine E.aloadN (q := 16) X0 hx (hb hby d31_15) rfl rfl ?_
    refine E.iloadN (q := 17) X0 hx (hb hby d31_16) rfl ?_
    refine Ends.ild X0 hx hZ e0 A_c (i := 0) rfl rfl (hb hby d31_17) ?_
    by_cases h1 : r0 < r2
    · refine E.icmpN (q := 21) X0 hx (hb hby d31_18) (XT.ii_le_f h1) ?_
      refine E.iconst (q := 22) (v := (1 : Int32)) X0 hx (hb hby d31_21) rfl ?_
      have hr : own_bf (own_gtI [r0, r1, r2, r3, r4]) n 0 2 = 1 := by simp [own_bf, own_gtI, hjn, h1]
      exact Ends.retI X0 hx hlk hret (hb hby d31_22) (by decide) (by decide) ⟨by rw [hr]; rfl, e0, rfl⟩
    · refine E.icmpY (q := 23) X0 hx (hb hby d31_18) (XT.ii_le_t h1) ?_
      refine E.aloadN (q := 24) X0 hx (hb hby d31_23) rfl rfl ?_
      refine E.iloadN (q := 25) X0 hx (hb hby d31_24) rfl ?_
      refine Ends.ild X0 hx hZ e0 A_c (i := 2) rfl rfl (hb hby d31_25) ?_
      refine E.aloadN (q := 27) X0 hx (hb hby d31_26) rfl rfl ?_
      refine E.iloadN (q := 28) X0 hx (hb hby d31_27) rfl ?_
      refine Ends.ild X0 hx hZ e0 A_c (i := 0) rfl rfl (hb hby d31_28) ?_
      by_cases h2 : r2 = r0
      · refine E.icmpN (q := 32) X0 hx (hb hby d31_29) (XT.ii_ne_f h2) ?_
        refine E.iloadN (q := 33) X0 hx (hb hby d31_32) rfl ?_
        refine E.iloadN (q := 34) X0 hx (hb hby d31_33) rfl ?_
        refine E.icmpY (q := 39) X0 hx (hb hby d31_34) (XT.ii_ge_t (by decide)) ?_
        refine E.iconst (q := 40) (v := (0 : Int32)) X0 hx (hb hby d31_39) rfl ?_
        have hr : own_bf (own_gtI [r0, r1, r2, r3, r4]) n 0 2 = 0 := by simp [own_bf, own_gtI, hjn, h2, Int32.lt_irrefl]
        exact Ends.retI X0 hx hlk hret (hb hby d31_40) (by decide) (by decide) ⟨by rw [hr]; rfl, e0, rfl⟩
      · refine E.icmpY (q := 39) X0 hx (hb hby d31_29) (XT.ii_ne_t h2) ?_
        have h3 : r2 < r0 := own_nlt h1 h2
        refine E.iconst (q := 40) (v := (0 : Int32)) X0 hx (hb hby d31_39) rfl ?_
        have hr : own_bf (own_gtI [r0, r1, r2, r3, r4]) n 0 2 = 0 := by simp [own_bf, own_gtI, hjn, h1, h3]
        exact Ends.retI X0 hx hlk hret (hb hby d31_40) (by decide) (by decide) ⟨by rw [hr]; rfl, e0, rfl⟩
  · refine E.icmpY (q := 10) X0 hx (hb hby d31_2) (XT.ii_ge_t hq) ?_
    have hjn : ¬ 2 < n := fun q => hq ((own_ltN (a := 2) (by decide) (by omega)).mpr q)
    refine E.iconst (q := 11) (v := (0 : Int32)) X0 hx (hb hby d31_10) rfl ?_
    have hr : own_bf (own_gtI [r0, r1, r2, r3, r4]) n 0 2 = 0 := by simp [own_bf, hjn]
    exact Ends.retI X0 hx hlk hret (hb hby d31_11) (by decide) (by decide) ⟨by rw [hr]; rfl, e0, rfl⟩
theorem efBf0_3 (m : MethodId) (x0 : Addr) (x1 : Int32) (x2 : Int32) (x3 : Int32) : entryFrame m #[(.ref x0), (.int x1), (.int x2), (.int x3)] 4 = mkF m 0 #[.val (.ref x0), .val (.int x1), .val (.int x2), .val (.int x3)] [] := by first | (simp [entryFrame, mkF, argsToLocals, Value.category]; done) | rfl
theorem rmBf0_3 (l : Launch) (Z : State) (a0 : Array Value) (hw : ∀ d ∈ tables_1, d.before a0 Z = true) (oc : Addr) (r0 r1 r2 r3 r4 : Int32) (n : Nat) (hn : n ≤ 5) (h0 : Heap) (A_c : Ary Z h0 oc .int [(.int r0), (.int r1), (.int r2), (.int r3), (.int r4)]) :
    Con l (⟨"com/example/needlework/needlework/match/CompiledPatternOfPinLaw", "before", "([IIII)I"⟩ : MethodName) method_4_code 4 (some .int) [] ({ frames := 0, cells := 0, slots := 0, locals := 0 } : Room) #[(.ref oc), (.int (Int32.ofNat n)), (.int (3 : Int32)), (.int (0 : Int32))] Z h0 (fun v h L => v = some (.int (Int32.ofNat (own_bf (own_gtI [r0, r1, r2, r3, r4]) n 0 3))) ∧ h = h0 ∧ L = []) := by
  refine Con.of (plainFor_of_name pn_7) ?_
  intro p e s m below meth c s₁ hx hZ hby hml hown hnm hret hlk X0 e0
  refine Ends.cast (efBf0_3 m oc (Int32.ofNat n) (3 : Int32) (0 : Int32)) ?_
  refine E.iloadN (q := 1) X0 hx (hb hby d31_0) rfl ?_
  refine E.iloadN (q := 2) X0 hx (hb hby d31_1) rfl ?_
  by_cases hq : (3 : Int32) < (Int32.ofNat n)
  · refine E.icmpN (q := 5) X0 hx (hb hby d31_2) (XT.ii_ge_f hq) ?_
    have hjn : 3 < n := (own_ltN (a := 3) (by decide) (by omega)).mp hq
    refine E.iloadN (q := 6) X0 hx (hb hby d31_5) rfl ?_
    refine E.iloadN (q := 7) X0 hx (hb hby d31_6) rfl ?_
    refine E.icmpY (q := 12) X0 hx (hb hby d31_7) (XT.ii_ne_t (by decide)) ?_
    refine E.aloadN (q := 13) X0 hx (hb hby d31_12) rfl rfl ?_
    refine E.iloadN (q := 14) X0 hx (hb hby d31_13) rfl ?_
    refine Ends.ild X0 hx hZ e0 A_c (i := 3) rfl rfl (hb hby d31_14) ?_
    refine E.aloadN (q := 16) X0 hx (hb hby d31_15) rfl rfl ?_
    refine E.iloadN (q := 17) X0 hx (hb hby d31_16) rfl ?_
    refine Ends.ild X0 hx hZ e0 A_c (i := 0) rfl rfl (hb hby d31_17) ?_
    by_cases h1 : r0 < r3
    · refine E.icmpN (q := 21) X0 hx (hb hby d31_18) (XT.ii_le_f h1) ?_
      refine E.iconst (q := 22) (v := (1 : Int32)) X0 hx (hb hby d31_21) rfl ?_
      have hr : own_bf (own_gtI [r0, r1, r2, r3, r4]) n 0 3 = 1 := by simp [own_bf, own_gtI, hjn, h1]
      exact Ends.retI X0 hx hlk hret (hb hby d31_22) (by decide) (by decide) ⟨by rw [hr]; rfl, e0, rfl⟩
    · refine E.icmpY (q := 23) X0 hx (hb hby d31_18) (XT.ii_le_t h1) ?_
      refine E.aloadN (q := 24) X0 hx (hb hby d31_23) rfl rfl ?_
      refine E.iloadN (q := 25) X0 hx (hb hby d31_24) rfl ?_
      refine Ends.ild X0 hx hZ e0 A_c (i := 3) rfl rfl (hb hby d31_25) ?_
      refine E.aloadN (q := 27) X0 hx (hb hby d31_26) rfl rfl ?_
      refine E.iloadN (q := 28) X0 hx (hb hby d31_27) rfl ?_
      refine Ends.ild X0 hx hZ e0 A_c (i := 0) rfl rfl (hb hby d31_28) ?_
      by_cases h2 : r3 = r0
      · refine E.icmpN (q := 32) X0 hx (hb hby d31_29) (XT.ii_ne_f h2) ?_
        refine E.iloadN (q := 33) X0 hx (hb hby d31_32) rfl ?_
        refine E.iloadN (q := 34) X0 hx (hb hby d31_33) rfl ?_
        refine E.icmpY (q := 39) X0 hx (hb hby d31_34) (XT.ii_ge_t (by decide)) ?_
        refine E.iconst (q := 40) (v := (0 : Int32)) X0 hx (hb hby d31_39) rfl ?_
        have hr : own_bf (own_gtI [r0, r1, r2, r3, r4]) n 0 3 = 0 := by simp [own_bf, own_gtI, hjn, h2, Int32.lt_irrefl]
        exact Ends.retI X0 hx hlk hret (hb hby d31_40) (by decide) (by decide) ⟨by rw [hr]; rfl, e0, rfl⟩
      · refine E.icmpY (q := 39) X0 hx (hb hby d31_29) (XT.ii_ne_t h2) ?_
        have h3 : r3 < r0 := own_nlt h1 h2
        refine E.iconst (q := 40) (v := (0 : Int32)) X0 hx (hb hby d31_39) rfl ?_
        have hr : own_bf (own_gtI [r0, r1, r2, r3, r4]) n 0 3 = 0 := by simp [own_bf, own_gtI, hjn, h1, h3]
        exact Ends.retI X0 hx hlk hret (hb hby d31_40) (by decide) (by decide) ⟨by rw [hr]; rfl, e0, rfl⟩
  · refine E.icmpY (q := 10) X0 hx (hb hby d31_2) (XT.ii_ge_t hq) ?_
    have hjn : ¬ 3 < n := fun q => hq ((own_ltN (a := 3) (by decide) (by omega)).mpr q)
    refine E.iconst (q := 11) (v := (0 : Int32)) X0 hx (hb hby d31_10) rfl ?_
    have hr : own_bf (own_gtI [r0, r1, r2, r3, r4]) n 0 3 = 0 := by simp [own_bf, hjn]
    exact Ends.retI X0 hx hlk hret (hb hby d31_11) (by decide) (by decide) ⟨by rw [hr]; rfl, e0, rfl⟩
theorem efBf0_4 (m : MethodId) (x0 : Addr) (x1 : Int32) (x2 : Int32) (x3 : Int32) : entryFrame m #[(.ref x0), (.int x1), (.int x2), (.int x3)] 4 = mkF m 0 #[.val (.ref x0), .val (.int x1), .val (.int x2), .val (.int x3)] [] := by first | (simp [entryFrame, mkF, argsToLocals, Value.category]; done) | rfl
theorem rmBf0_4 (l : Launch) (Z : State) (a0 : Array Value) (hw : ∀ d ∈ tables_1, d.before a0 Z = true) (oc : Addr) (r0 r1 r2 r3 r4 : Int32) (n : Nat) (hn : n ≤ 5) (h0 : Heap) (A_c : Ary Z h0 oc .int [(.int r0), (.int r1), (.int r2), (.int r3), (.int r4)]) :
    Con l (⟨"com/example/needlework/needlework/match/CompiledPatternOfPinLaw", "before", "([IIII)I"⟩ : MethodName) method_4_code 4 (some .int) [] ({ frames := 0, cells := 0, slots := 0, locals := 0 } : Room) #[(.ref oc), (.int (Int32.ofNat n)), (.int (4 : Int32)), (.int (0 : Int32))] Z h0 (fun v h L => v = some (.int (Int32.ofNat (own_bf (own_gtI [r0, r1, r2, r3, r4]) n 0 4))) ∧ h = h0 ∧ L = []) := by
  refine Con.of (plainFor_of_name pn_7) ?_
  intro p e s m below meth c s₁ hx hZ hby hml hown hnm hret hlk X0 e0
  refine Ends.cast (efBf0_4 m oc (Int32.ofNat n) (4 : Int32) (0 : Int32)) ?_
  refine E.iloadN (q := 1) X0 hx (hb hby d31_0) rfl ?_
  refine E.iloadN (q := 2) X0 hx (hb hby d31_1) rfl ?_
  by_cases hq : (4 : Int32) < (Int32.ofNat n)
  · refine E.icmpN (q := 5) X0 hx (hb hby d31_2) (XT.ii_ge_f hq) ?_
    have hjn : 4 < n := (own_ltN (a := 4) (by decide) (by omega)).mp hq
    refine E.iloadN (q := 6) X0 hx (hb hby d31_5) rfl ?_
    refine E.iloadN (q := 7) X0 hx (hb hby d31_6) rfl ?_
    refine E.icmpY (q := 12) X0 hx (hb hby d31_7) (XT.ii_ne_t (by decide)) ?_
    refine E.aloadN (q := 13) X0 hx (hb hby d31_12) rfl rfl ?_
    refine E.iloadN (q := 14) X0 hx (hb hby d31_13) rfl ?_
    refine Ends.ild X0 hx hZ e0 A_c (i := 4) rfl rfl (hb hby d31_14) ?_
    refine E.aloadN (q := 16) X0 hx (hb hby d31_15) rfl rfl ?_
    refine E.iloadN (q := 17) X0 hx (hb hby d31_16) rfl ?_
    refine Ends.ild X0 hx hZ e0 A_c (i := 0) rfl rfl (hb hby d31_17) ?_
    by_cases h1 : r0 < r4
    · refine E.icmpN (q := 21) X0 hx (hb hby d31_18) (XT.ii_le_f h1) ?_
      refine E.iconst (q := 22) (v := (1 : Int32)) X0 hx (hb hby d31_21) rfl ?_
      have hr : own_bf (own_gtI [r0, r1, r2, r3, r4]) n 0 4 = 1 := by simp [own_bf, own_gtI, hjn, h1]
      exact Ends.retI X0 hx hlk hret (hb hby d31_22) (by decide) (by decide) ⟨by rw [hr]; rfl, e0, rfl⟩
    · refine E.icmpY (q := 23) X0 hx (hb hby d31_18) (XT.ii_le_t h1) ?_
      refine E.aloadN (q := 24) X0 hx (hb hby d31_23) rfl rfl ?_
      refine E.iloadN (q := 25) X0 hx (hb hby d31_24) rfl ?_
      refine Ends.ild X0 hx hZ e0 A_c (i := 4) rfl rfl (hb hby d31_25) ?_
      refine E.aloadN (q := 27) X0 hx (hb hby d31_26) rfl rfl ?_
      refine E.iloadN (q := 28) X0 hx (hb hby d31_27) rfl ?_
      refine Ends.ild X0 hx hZ e0 A_c (i := 0) rfl rfl (hb hby d31_28) ?_
      by_cases h2 : r4 = r0
      · refine E.icmpN (q := 32) X0 hx (hb hby d31_29) (XT.ii_ne_f h2) ?_
        refine E.iloadN (q := 33) X0 hx (hb hby d31_32) rfl ?_
        refine E.iloadN (q := 34) X0 hx (hb hby d31_33) rfl ?_
        refine E.icmpY (q := 39) X0 hx (hb hby d31_34) (XT.ii_ge_t (by decide)) ?_
        refine E.iconst (q := 40) (v := (0 : Int32)) X0 hx (hb hby d31_39) rfl ?_
        have hr : own_bf (own_gtI [r0, r1, r2, r3, r4]) n 0 4 = 0 := by simp [own_bf, own_gtI, hjn, h2, Int32.lt_irrefl]
        exact Ends.retI X0 hx hlk hret (hb hby d31_40) (by decide) (by decide) ⟨by rw [hr]; rfl, e0, rfl⟩
      · refine E.icmpY (q := 39) X0 hx (hb hby d31_29) (XT.ii_ne_t h2) ?_
        have h3 : r4 < r0 := own_nlt h1 h2
        refine E.iconst (q := 40) (v := (0 : Int32)) X0 hx (hb hby d31_39) rfl ?_
        have hr : own_bf (own_gtI [r0, r1, r2, r3, r4]) n 0 4 = 0 := by simp [own_bf, own_gtI, hjn, h1, h3]
        exact Ends.retI X0 hx hlk hret (hb hby d31_40) (by decide) (by decide) ⟨by rw [hr]; rfl, e0, rfl⟩
  · refine E.icmpY (q := 10) X0 hx (hb hby d31_2) (XT.ii_ge_t hq) ?_
    have hjn : ¬ 4 < n := fun q => hq ((own_ltN (a := 4) (by decide) (by omega)).mpr q)
    refine E.iconst (q := 11) (v := (0 : Int32)) X0 hx (hb hby d31_10) rfl ?_
    have hr : own_bf (own_gtI [r0, r1, r2, r3, r4]) n 0 4 = 0 := by simp [own_bf, hjn]
    exact Ends.retI X0 hx hlk hret (hb hby d31_11) (by decide) (by decide) ⟨by rw [hr]; rfl, e0, rfl⟩
theorem efBf1_0 (m : MethodId) (x0 : Addr) (x1 : Int32) (x2 : Int32) (x3 : Int32) : entryFrame m #[(.ref x0), (.int x1), (.int x2), (.int x3)] 4 = mkF m 0 #[.val (.ref x0), .val (.int x1), .val (.int x2), .val (.int x3)] [] := by first | (simp [entryFrame, mkF, argsToLocals, Value.category]; done) | rfl
theorem rmBf1_0 (l : Launch) (Z : State) (a0 : Array Value) (hw : ∀ d ∈ tables_1, d.before a0 Z = true) (oc : Addr) (r0 r1 r2 r3 r4 : Int32) (n : Nat) (hn : n ≤ 5) (h0 : Heap) (A_c : Ary Z h0 oc .int [(.int r0), (.int r1), (.int r2), (.int r3), (.int r4)]) :
    Con l (⟨"com/example/needlework/needlework/match/CompiledPatternOfPinLaw", "before", "([IIII)I"⟩ : MethodName) method_4_code 4 (some .int) [] ({ frames := 0, cells := 0, slots := 0, locals := 0 } : Room) #[(.ref oc), (.int (Int32.ofNat n)), (.int (0 : Int32)), (.int (1 : Int32))] Z h0 (fun v h L => v = some (.int (Int32.ofNat (own_bf (own_gtI [r0, r1, r2, r3, r4]) n 1 0))) ∧ h = h0 ∧ L = []) := by
  refine Con.of (plainFor_of_name pn_7) ?_
  intro p e s m below meth c s₁ hx hZ hby hml hown hnm hret hlk X0 e0
  refine Ends.cast (efBf1_0 m oc (Int32.ofNat n) (0 : Int32) (1 : Int32)) ?_
  refine E.iloadN (q := 1) X0 hx (hb hby d31_0) rfl ?_
  refine E.iloadN (q := 2) X0 hx (hb hby d31_1) rfl ?_
  by_cases hq : (0 : Int32) < (Int32.ofNat n)
  · refine E.icmpN (q := 5) X0 hx (hb hby d31_2) (XT.ii_ge_f hq) ?_
    have hjn : 0 < n := (own_ltN (a := 0) (by decide) (by omega)).mp hq
    refine E.iloadN (q := 6) X0 hx (hb hby d31_5) rfl ?_
    refine E.iloadN (q := 7) X0 hx (hb hby d31_6) rfl ?_
    refine E.icmpY (q := 12) X0 hx (hb hby d31_7) (XT.ii_ne_t (by decide)) ?_
    refine E.aloadN (q := 13) X0 hx (hb hby d31_12) rfl rfl ?_
    refine E.iloadN (q := 14) X0 hx (hb hby d31_13) rfl ?_
    refine Ends.ild X0 hx hZ e0 A_c (i := 0) rfl rfl (hb hby d31_14) ?_
    refine E.aloadN (q := 16) X0 hx (hb hby d31_15) rfl rfl ?_
    refine E.iloadN (q := 17) X0 hx (hb hby d31_16) rfl ?_
    refine Ends.ild X0 hx hZ e0 A_c (i := 1) rfl rfl (hb hby d31_17) ?_
    by_cases h1 : r1 < r0
    · refine E.icmpN (q := 21) X0 hx (hb hby d31_18) (XT.ii_le_f h1) ?_
      refine E.iconst (q := 22) (v := (1 : Int32)) X0 hx (hb hby d31_21) rfl ?_
      have hr : own_bf (own_gtI [r0, r1, r2, r3, r4]) n 1 0 = 1 := by simp [own_bf, own_gtI, hjn, h1]
      exact Ends.retI X0 hx hlk hret (hb hby d31_22) (by decide) (by decide) ⟨by rw [hr]; rfl, e0, rfl⟩
    · refine E.icmpY (q := 23) X0 hx (hb hby d31_18) (XT.ii_le_t h1) ?_
      refine E.aloadN (q := 24) X0 hx (hb hby d31_23) rfl rfl ?_
      refine E.iloadN (q := 25) X0 hx (hb hby d31_24) rfl ?_
      refine Ends.ild X0 hx hZ e0 A_c (i := 0) rfl rfl (hb hby d31_25) ?_
      refine E.aloadN (q := 27) X0 hx (hb hby d31_26) rfl rfl ?_
      refine E.iloadN (q := 28) X0 hx (hb hby d31_27) rfl ?_
      refine Ends.ild X0 hx hZ e0 A_c (i := 1) rfl rfl (hb hby d31_28) ?_
      by_cases h2 : r0 = r1
      · refine E.icmpN (q := 32) X0 hx (hb hby d31_29) (XT.ii_ne_f h2) ?_
        refine E.iloadN (q := 33) X0 hx (hb hby d31_32) rfl ?_
        refine E.iloadN (q := 34) X0 hx (hb hby d31_33) rfl ?_
        refine E.icmpN (q := 37) X0 hx (hb hby d31_34) (XT.ii_ge_f (by decide)) ?_
        refine E.iconst (q := 38) (v := (1 : Int32)) X0 hx (hb hby d31_37) rfl ?_
        have hr : own_bf (own_gtI [r0, r1, r2, r3, r4]) n 1 0 = 1 := by simp [own_bf, own_gtI, hjn, h2, Int32.lt_irrefl]
        exact Ends.retI X0 hx hlk hret (hb hby d31_38) (by decide) (by decide) ⟨by rw [hr]; rfl, e0, rfl⟩
      · refine E.icmpY (q := 39) X0 hx (hb hby d31_29) (XT.ii_ne_t h2) ?_
        have h3 : r0 < r1 := own_nlt h1 h2
        refine E.iconst (q := 40) (v := (0 : Int32)) X0 hx (hb hby d31_39) rfl ?_
        have hr : own_bf (own_gtI [r0, r1, r2, r3, r4]) n 1 0 = 0 := by simp [own_bf, own_gtI, hjn, h1, h3]
        exact Ends.retI X0 hx hlk hret (hb hby d31_40) (by decide) (by decide) ⟨by rw [hr]; rfl, e0, rfl⟩
  · refine E.icmpY (q := 10) X0 hx (hb hby d31_2) (XT.ii_ge_t hq) ?_
    have hjn : ¬ 0 < n := fun q => hq ((own_ltN (a := 0) (by decide) (by omega)).mpr q)
    refine E.iconst (q := 11) (v := (0 : Int32)) X0 hx (hb hby d31_10) rfl ?_
    have hr : own_bf (own_gtI [r0, r1, r2, r3, r4]) n 1 0 = 0 := by simp [own_bf, hjn]
    exact Ends.retI X0 hx hlk hret (hb hby d31_11) (by decide) (by decide) ⟨by rw [hr]; rfl, e0, rfl⟩
theorem efBf1_1 (m : MethodId) (x0 : Addr) (x1 : Int32) (x2 : Int32) (x3 : Int32) : entryFrame m #[(.ref x0), (.int x1), (.int x2), (.int x3)] 4 = mkF m 0 #[.val (.ref x0), .val (.int x1), .val (.int x2), .val (.int x3)] [] := by first | (simp [entryFrame, mkF, argsToLocals, Value.category]; done) | rfl
theorem rmBf1_1 (l : Launch) (Z : State) (a0 : Array Value) (hw : ∀ d ∈ tables_1, d.before a0 Z = true) (oc : Addr) (r0 r1 r2 r3 r4 : Int32) (n : Nat) (hn : n ≤ 5) (h0 : Heap) (A_c : Ary Z h0 oc .int [(.int r0), (.int r1), (.int r2), (.int r3), (.int r4)]) :
    Con l (⟨"com/example/needlework/needlework/match/CompiledPatternOfPinLaw", "before", "([IIII)I"⟩ : MethodName) method_4_code 4 (some .int) [] ({ frames := 0, cells := 0, slots := 0, locals := 0 } : Room) #[(.ref oc), (.int (Int32.ofNat n)), (.int (1 : Int32)), (.int (1 : Int32))] Z h0 (fun v h L => v = some (.int (Int32.ofNat (own_bf (own_gtI [r0, r1, r2, r3, r4]) n 1 1))) ∧ h = h0 ∧ L = []) := by
  refine Con.of (plainFor_of_name pn_7) ?_
  intro p e s m below meth c s₁ hx hZ hby hml hown hnm hret hlk X0 e0
  refine Ends.cast (efBf1_1 m oc (Int32.ofNat n) (1 : Int32) (1 : Int32)) ?_
  refine E.iloadN (q := 1) X0 hx (hb hby d31_0) rfl ?_
  refine E.iloadN (q := 2) X0 hx (hb hby d31_1) rfl ?_
  by_cases hq : (1 : Int32) < (Int32.ofNat n)
  · refine E.icmpN (q := 5) X0 hx (hb hby d31_2) (XT.ii_ge_f hq) ?_
    have hjn : 1 < n := (own_ltN (a := 1) (by decide) (by omega)).mp hq
    refine E.iloadN (q := 6) X0 hx (hb hby d31_5) rfl ?_
    refine E.iloadN (q := 7) X0 hx (hb hby d31_6) rfl ?_
    refine E.icmpN (q := 10) X0 hx (hb hby d31_7) (XT.ii_ne_f (by decide)) ?_
    refine E.iconst (q := 11) (v := (0 : Int32)) X0 hx (hb hby d31_10) rfl ?_
    have hr : own_bf (own_gtI [r0, r1, r2, r3, r4]) n 1 1 = 0 := by simp [own_bf]
    exact Ends.retI X0 hx hlk hret (hb hby d31_11) (by decide) (by decide) ⟨by rw [hr]; rfl, e0, rfl⟩
  · refine E.icmpY (q := 10) X0 hx (hb hby d31_2) (XT.ii_ge_t hq) ?_
    have hjn : ¬ 1 < n := fun q => hq ((own_ltN (a := 1) (by decide) (by omega)).mpr q)
    refine E.iconst (q := 11) (v := (0 : Int32)) X0 hx (hb hby d31_10) rfl ?_
    have hr : own_bf (own_gtI [r0, r1, r2, r3, r4]) n 1 1 = 0 := by simp [own_bf, hjn]
    exact Ends.retI X0 hx hlk hret (hb hby d31_11) (by decide) (by decide) ⟨by rw [hr]; rfl, e0, rfl⟩
theorem efBf1_2 (m : MethodId) (x0 : Addr) (x1 : Int32) (x2 : Int32) (x3 : Int32) : entryFrame m #[(.ref x0), (.int x1), (.int x2), (.int x3)] 4 = mkF m 0 #[.val (.ref x0), .val (.int x1), .val (.int x2), .val (.int x3)] [] := by first | (simp [entryFrame, mkF, argsToLocals, Value.category]; done) | rfl
theorem rmBf1_2 (l : Launch) (Z : State) (a0 : Array Value) (hw : ∀ d ∈ tables_1, d.before a0 Z = true) (oc : Addr) (r0 r1 r2 r3 r4 : Int32) (n : Nat) (hn : n ≤ 5) (h0 : Heap) (A_c : Ary Z h0 oc .int [(.int r0), (.int r1), (.int r2), (.int r3), (.int r4)]) :
    Con l (⟨"com/example/needlework/needlework/match/CompiledPatternOfPinLaw", "before", "([IIII)I"⟩ : MethodName) method_4_code 4 (some .int) [] ({ frames := 0, cells := 0, slots := 0, locals := 0 } : Room) #[(.ref oc), (.int (Int32.ofNat n)), (.int (2 : Int32)), (.int (1 : Int32))] Z h0 (fun v h L => v = some (.int (Int32.ofNat (own_bf (own_gtI [r0, r1, r2, r3, r4]) n 1 2))) ∧ h = h0 ∧ L = []) := by
  refine Con.of (plainFor_of_name pn_7) ?_
  intro p e s m below meth c s₁ hx hZ hby hml hown hnm hret hlk X0 e0
  refine Ends.cast (efBf1_2 m oc (Int32.ofNat n) (2 : Int32) (1 : Int32)) ?_
  refine E.iloadN (q := 1) X0 hx (hb hby d31_0) rfl ?_
  refine E.iloadN (q := 2) X0 hx (hb hby d31_1) rfl ?_
  by_cases hq : (2 : Int32) < (Int32.ofNat n)
  · refine E.icmpN (q := 5) X0 hx (hb hby d31_2) (XT.ii_ge_f hq) ?_
    have hjn : 2 < n := (own_ltN (a := 2) (by decide) (by omega)).mp hq
    refine E.iloadN (q := 6) X0 hx (hb hby d31_5) rfl ?_
    refine E.iloadN (q := 7) X0 hx (hb hby d31_6) rfl ?_
    refine E.icmpY (q := 12) X0 hx (hb hby d31_7) (XT.ii_ne_t (by decide)) ?_
    refine E.aloadN (q := 13) X0 hx (hb hby d31_12) rfl rfl ?_
    refine E.iloadN (q := 14) X0 hx (hb hby d31_13) rfl ?_
    refine Ends.ild X0 hx hZ e0 A_c (i := 2) rfl rfl (hb hby d31_14) ?_
    refine E.aloadN (q := 16) X0 hx (hb hby d31_15) rfl rfl ?_
    refine E.iloadN (q := 17) X0 hx (hb hby d31_16) rfl ?_
    refine Ends.ild X0 hx hZ e0 A_c (i := 1) rfl rfl (hb hby d31_17) ?_
    by_cases h1 : r1 < r2
    · refine E.icmpN (q := 21) X0 hx (hb hby d31_18) (XT.ii_le_f h1) ?_
      refine E.iconst (q := 22) (v := (1 : Int32)) X0 hx (hb hby d31_21) rfl ?_
      have hr : own_bf (own_gtI [r0, r1, r2, r3, r4]) n 1 2 = 1 := by simp [own_bf, own_gtI, hjn, h1]
      exact Ends.retI X0 hx hlk hret (hb hby d31_22) (by decide) (by decide) ⟨by rw [hr]; rfl, e0, rfl⟩
    · refine E.icmpY (q := 23) X0 hx (hb hby d31_18) (XT.ii_le_t h1) ?_
      refine E.aloadN (q := 24) X0 hx (hb hby d31_23) rfl rfl ?_
      refine E.iloadN (q := 25) X0 hx (hb hby d31_24) rfl ?_
      refine Ends.ild X0 hx hZ e0 A_c (i := 2) rfl rfl (hb hby d31_25) ?_
      refine E.aloadN (q := 27) X0 hx (hb hby d31_26) rfl rfl ?_
      refine E.iloadN (q := 28) X0 hx (hb hby d31_27) rfl ?_
      refine Ends.ild X0 hx hZ e0 A_c (i := 1) rfl rfl (hb hby d31_28) ?_
      by_cases h2 : r2 = r1
      · refine E.icmpN (q := 32) X0 hx (hb hby d31_29) (XT.ii_ne_f h2) ?_
        refine E.iloadN (q := 33) X0 hx (hb hby d31_32) rfl ?_
        refine E.iloadN (q := 34) X0 hx (hb hby d31_33) rfl ?_
        refine E.icmpY (q := 39) X0 hx (hb hby d31_34) (XT.ii_ge_t (by decide)) ?_
        refine E.iconst (q := 40) (v := (0 : Int32)) X0 hx (hb hby d31_39) rfl ?_
        have hr : own_bf (own_gtI [r0, r1, r2, r3, r4]) n 1 2 = 0 := by simp [own_bf, own_gtI, hjn, h2, Int32.lt_irrefl]
        exact Ends.retI X0 hx hlk hret (hb hby d31_40) (by decide) (by decide) ⟨by rw [hr]; rfl, e0, rfl⟩
      · refine E.icmpY (q := 39) X0 hx (hb hby d31_29) (XT.ii_ne_t h2) ?_
        have h3 : r2 < r1 := own_nlt h1 h2
        refine E.iconst (q := 40) (v := (0 : Int32)) X0 hx (hb hby d31_39) rfl ?_
        have hr : own_bf (own_gtI [r0, r1, r2, r3, r4]) n 1 2 = 0 := by simp [own_bf, own_gtI, hjn, h1, h3]
        exact Ends.retI X0 hx hlk hret (hb hby d31_40) (by decide) (by decide) ⟨by rw [hr]; rfl, e0, rfl⟩
  · refine E.icmpY (q := 10) X0 hx (hb hby d31_2) (XT.ii_ge_t hq) ?_
    have hjn : ¬ 2 < n := fun q => hq ((own_ltN (a := 2) (by decide) (by omega)).mpr q)
    refine E.iconst (q := 11) (v := (0 : Int32)) X0 hx (hb hby d31_10) rfl ?_
    have hr : own_bf (own_gtI [r0, r1, r2, r3, r4]) n 1 2 = 0 := by simp [own_bf, hjn]
    exact Ends.retI X0 hx hlk hret (hb hby d31_11) (by decide) (by decide) ⟨by rw [hr]; rfl, e0, rfl⟩
theorem efBf1_3 (m : MethodId) (x0 : Addr) (x1 : Int32) (x2 : Int32) (x3 : Int32) : entryFrame m #[(.ref x0), (.int x1), (.int x2), (.int x3)] 4 = mkF m 0 #[.val (.ref x0), .val (.int x1), .val (.int x2), .val (.int x3)] [] := by first | (simp [entryFrame, mkF, argsToLocals, Value.category]; done) | rfl
theorem rmBf1_3 (l : Launch) (Z : State) (a0 : Array Value) (hw : ∀ d ∈ tables_1, d.before a0 Z = true) (oc : Addr) (r0 r1 r2 r3 r4 : Int32) (n : Nat) (hn : n ≤ 5) (h0 : Heap) (A_c : Ary Z h0 oc .int [(.int r0), (.int r1), (.int r2), (.int r3), (.int r4)]) :
    Con l (⟨"com/example/needlework/needlework/match/CompiledPatternOfPinLaw", "before", "([IIII)I"⟩ : MethodName) method_4_code 4 (some .int) [] ({ frames := 0, cells := 0, slots := 0, locals := 0 } : Room) #[(.ref oc), (.int (Int32.ofNat n)), (.int (3 : Int32)), (.int (1 : Int32))] Z h0 (fun v h L => v = some (.int (Int32.ofNat (own_bf (own_gtI [r0, r1, r2, r3, r4]) n 1 3))) ∧ h = h0 ∧ L = []) := by
  refine Con.of (plainFor_of_name pn_7) ?_
  intro p e s m below meth c s₁ hx hZ hby hml hown hnm hret hlk X0 e0
  refine Ends.cast (efBf1_3 m oc (Int32.ofNat n) (3 : Int32) (1 : Int32)) ?_
  refine E.iloadN (q := 1) X0 hx (hb hby d31_0) rfl ?_
  refine E.iloadN (q := 2) X0 hx (hb hby d31_1) rfl ?_
  by_cases hq : (3 : Int32) < (Int32.ofNat n)
  · refine E.icmpN (q := 5) X0 hx (hb hby d31_2) (XT.ii_ge_f hq) ?_
    have hjn : 3 < n := (own_ltN (a := 3) (by decide) (by omega)).mp hq
    refine E.iloadN (q := 6) X0 hx (hb hby d31_5) rfl ?_
    refine E.iloadN (q := 7) X0 hx (hb hby d31_6) rfl ?_
    refine E.icmpY (q := 12) X0 hx (hb hby d31_7) (XT.ii_ne_t (by decide)) ?_
    refine E.aloadN (q := 13) X0 hx (hb hby d31_12) rfl rfl ?_
    refine E.iloadN (q := 14) X0 hx (hb hby d31_13) rfl ?_
    refine Ends.ild X0 hx hZ e0 A_c (i := 3) rfl rfl (hb hby d31_14) ?_
    refine E.aloadN (q := 16) X0 hx (hb hby d31_15) rfl rfl ?_
    refine E.iloadN (q := 17) X0 hx (hb hby d31_16) rfl ?_
    refine Ends.ild X0 hx hZ e0 A_c (i := 1) rfl rfl (hb hby d31_17) ?_
    by_cases h1 : r1 < r3
    · refine E.icmpN (q := 21) X0 hx (hb hby d31_18) (XT.ii_le_f h1) ?_
      refine E.iconst (q := 22) (v := (1 : Int32)) X0 hx (hb hby d31_21) rfl ?_
      have hr : own_bf (own_gtI [r0, r1, r2, r3, r4]) n 1 3 = 1 := by simp [own_bf, own_gtI, hjn, h1]
      exact Ends.retI X0 hx hlk hret (hb hby d31_22) (by decide) (by decide) ⟨by rw [hr]; rfl, e0, rfl⟩
    · refine E.icmpY (q := 23) X0 hx (hb hby d31_18) (XT.ii_le_t h1) ?_
      refine E.aloadN (q := 24) X0 hx (hb hby d31_23) rfl rfl ?_
      refine E.iloadN (q := 25) X0 hx (hb hby d31_24) rfl ?_
      refine Ends.ild X0 hx hZ e0 A_c (i := 3) rfl rfl (hb hby d31_25) ?_
      refine E.aloadN (q := 27) X0 hx (hb hby d31_26) rfl rfl ?_
      refine E.iloadN (q := 28) X0 hx (hb hby d31_27) rfl ?_
      refine Ends.ild X0 hx hZ e0 A_c (i := 1) rfl rfl (hb hby d31_28) ?_
      by_cases h2 : r3 = r1
      · refine E.icmpN (q := 32) X0 hx (hb hby d31_29) (XT.ii_ne_f h2) ?_
        refine E.iloadN (q := 33) X0 hx (hb hby d31_32) rfl ?_
        refine E.iloadN (q := 34) X0 hx (hb hby d31_33) rfl ?_
        refine E.icmpY (q := 39) X0 hx (hb hby d31_34) (XT.ii_ge_t (by decide)) ?_
        refine E.iconst (q := 40) (v := (0 : Int32)) X0 hx (hb hby d31_39) rfl ?_
        have hr : own_bf (own_gtI [r0, r1, r2, r3, r4]) n 1 3 = 0 := by simp [own_bf, own_gtI, hjn, h2, Int32.lt_irrefl]
        exact Ends.retI X0 hx hlk hret (hb hby d31_40) (by decide) (by decide) ⟨by rw [hr]; rfl, e0, rfl⟩
      · refine E.icmpY (q := 39) X0 hx (hb hby d31_29) (XT.ii_ne_t h2) ?_
        have h3 : r3 < r1 := own_nlt h1 h2
        refine E.iconst (q := 40) (v := (0 : Int32)) X0 hx (hb hby d31_39) rfl ?_
        have hr : own_bf (own_gtI [r0, r1, r2, r3, r4]) n 1 3 = 0 := by simp [own_bf, own_gtI, hjn, h1, h3]
        exact Ends.retI X0 hx hlk hret (hb hby d31_40) (by decide) (by decide) ⟨by rw [hr]; rfl, e0, rfl⟩
  · refine E.icmpY (q := 10) X0 hx (hb hby d31_2) (XT.ii_ge_t hq) ?_
    have hjn : ¬ 3 < n := fun q => hq ((own_ltN (a := 3) (by decide) (by omega)).mpr q)
    refine E.iconst (q := 11) (v := (0 : Int32)) X0 hx (hb hby d31_10) rfl ?_
    have hr : own_bf (own_gtI [r0, r1, r2, r3, r4]) n 1 3 = 0 := by simp [own_bf, hjn]
    exact Ends.retI X0 hx hlk hret (hb hby d31_11) (by decide) (by decide) ⟨by rw [hr]; rfl, e0, rfl⟩
theorem efBf1_4 (m : MethodId) (x0 : Addr) (x1 : Int32) (x2 : Int32) (x3 : Int32) : entryFrame m #[(.ref x0), (.int x1), (.int x2), (.int x3)] 4 = mkF m 0 #[.val (.ref x0), .val (.int x1), .val (.int x2), .val (.int x3)] [] := by first | (simp [entryFrame, mkF, argsToLocals, Value.category]; done) | rfl
theorem rmBf1_4 (l : Launch) (Z : State) (a0 : Array Value) (hw : ∀ d ∈ tables_1, d.before a0 Z = true) (oc : Addr) (r0 r1 r2 r3 r4 : Int32) (n : Nat) (hn : n ≤ 5) (h0 : Heap) (A_c : Ary Z h0 oc .int [(.int r0), (.int r1), (.int r2), (.int r3), (.int r4)]) :
    Con l (⟨"com/example/needlework/needlework/match/CompiledPatternOfPinLaw", "before", "([IIII)I"⟩ : MethodName) method_4_code 4 (some .int) [] ({ frames := 0, cells := 0, slots := 0, locals := 0 } : Room) #[(.ref oc), (.int (Int32.ofNat n)), (.int (4 : Int32)), (.int (1 : Int32))] Z h0 (fun v h L => v = some (.int (Int32.ofNat (own_bf (own_gtI [r0, r1, r2, r3, r4]) n 1 4))) ∧ h = h0 ∧ L = []) := by
  refine Con.of (plainFor_of_name pn_7) ?_
  intro p e s m below meth c s₁ hx hZ hby hml hown hnm hret hlk X0 e0
  refine Ends.cast (efBf1_4 m oc (Int32.ofNat n) (4 : Int32) (1 : Int32)) ?_
  refine E.iloadN (q := 1) X0 hx (hb hby d31_0) rfl ?_
  refine E.iloadN (q := 2) X0 hx (hb hby d31_1) rfl ?_
  by_cases hq : (4 : Int32) < (Int32.ofNat n)
  · refine E.icmpN (q := 5) X0 hx (hb hby d31_2) (XT.ii_ge_f hq) ?_
    have hjn : 4 < n := (own_ltN (a := 4) (by decide) (by omega)).mp hq
    refine E.iloadN (q := 6) X0 hx (hb hby d31_5) rfl ?_
    refine E.iloadN (q := 7) X0 hx (hb hby d31_6) rfl ?_
    refine E.icmpY (q := 12) X0 hx (hb hby d31_7) (XT.ii_ne_t (by decide)) ?_
    refine E.aloadN (q := 13) X0 hx (hb hby d31_12) rfl rfl ?_
    refine E.iloadN (q := 14) X0 hx (hb hby d31_13) rfl ?_
    refine Ends.ild X0 hx hZ e0 A_c (i := 4) rfl rfl (hb hby d31_14) ?_
    refine E.aloadN (q := 16) X0 hx (hb hby d31_15) rfl rfl ?_
    refine E.iloadN (q := 17) X0 hx (hb hby d31_16) rfl ?_
    refine Ends.ild X0 hx hZ e0 A_c (i := 1) rfl rfl (hb hby d31_17) ?_
    by_cases h1 : r1 < r4
    · refine E.icmpN (q := 21) X0 hx (hb hby d31_18) (XT.ii_le_f h1) ?_
      refine E.iconst (q := 22) (v := (1 : Int32)) X0 hx (hb hby d31_21) rfl ?_
      have hr : own_bf (own_gtI [r0, r1, r2, r3, r4]) n 1 4 = 1 := by simp [own_bf, own_gtI, hjn, h1]
      exact Ends.retI X0 hx hlk hret (hb hby d31_22) (by decide) (by decide) ⟨by rw [hr]; rfl, e0, rfl⟩
    · refine E.icmpY (q := 23) X0 hx (hb hby d31_18) (XT.ii_le_t h1) ?_
      refine E.aloadN (q := 24) X0 hx (hb hby d31_23) rfl rfl ?_
      refine E.iloadN (q := 25) X0 hx (hb hby d31_24) rfl ?_
      refine Ends.ild X0 hx hZ e0 A_c (i := 4) rfl rfl (hb hby d31_25) ?_
      refine E.aloadN (q := 27) X0 hx (hb hby d31_26) rfl rfl ?_
      refine E.iloadN (q := 28) X0 hx (hb hby d31_27) rfl ?_
      refine Ends.ild X0 hx hZ e0 A_c (i := 1) rfl rfl (hb hby d31_28) ?_
      by_cases h2 : r4 = r1
      · refine E.icmpN (q := 32) X0 hx (hb hby d31_29) (XT.ii_ne_f h2) ?_
        refine E.iloadN (q := 33) X0 hx (hb hby d31_32) rfl ?_
        refine E.iloadN (q := 34) X0 hx (hb hby d31_33) rfl ?_
        refine E.icmpY (q := 39) X0 hx (hb hby d31_34) (XT.ii_ge_t (by decide)) ?_
        refine E.iconst (q := 40) (v := (0 : Int32)) X0 hx (hb hby d31_39) rfl ?_
        have hr : own_bf (own_gtI [r0, r1, r2, r3, r4]) n 1 4 = 0 := by simp [own_bf, own_gtI, hjn, h2, Int32.lt_irrefl]
        exact Ends.retI X0 hx hlk hret (hb hby d31_40) (by decide) (by decide) ⟨by rw [hr]; rfl, e0, rfl⟩
      · refine E.icmpY (q := 39) X0 hx (hb hby d31_29) (XT.ii_ne_t h2) ?_
        have h3 : r4 < r1 := own_nlt h1 h2
        refine E.iconst (q := 40) (v := (0 : Int32)) X0 hx (hb hby d31_39) rfl ?_
        have hr : own_bf (own_gtI [r0, r1, r2, r3, r4]) n 1 4 = 0 := by simp [own_bf, own_gtI, hjn, h1, h3]
        exact Ends.retI X0 hx hlk hret (hb hby d31_40) (by decide) (by decide) ⟨by rw [hr]; rfl, e0, rfl⟩
  · refine E.icmpY (q := 10) X0 hx (hb hby d31_2) (XT.ii_ge_t hq) ?_
    have hjn : ¬ 4 < n := fun q => hq ((own_ltN (a := 4) (by decide) (by omega)).mpr q)
    refine E.iconst (q := 11) (v := (0 : Int32)) X0 hx (hb hby d31_10) rfl ?_
    have hr : own_bf (own_gtI [r0, r1, r2, r3, r4]) n 1 4 = 0 := by simp [own_bf, hjn]
    exact Ends.retI X0 hx hlk hret (hb hby d31_11) (by decide) (by decide) ⟨by rw [hr]; rfl, e0, rfl⟩
theorem efBf2_0 (m : MethodId) (x0 : Addr) (x1 : Int32) (x2 : Int32) (x3 : Int32) : entryFrame m #[(.ref x0), (.int x1), (.int x2), (.int x3)] 4 = mkF m 0 #[.val (.ref x0), .val (.int x1), .val (.int x2), .val (.int x3)] [] := by first | (simp [entryFrame, mkF, argsToLocals, Value.category]; done) | rfl
theorem rmBf2_0 (l : Launch) (Z : State) (a0 : Array Value) (hw : ∀ d ∈ tables_1, d.before a0 Z = true) (oc : Addr) (r0 r1 r2 r3 r4 : Int32) (n : Nat) (hn : n ≤ 5) (h0 : Heap) (A_c : Ary Z h0 oc .int [(.int r0), (.int r1), (.int r2), (.int r3), (.int r4)]) :
    Con l (⟨"com/example/needlework/needlework/match/CompiledPatternOfPinLaw", "before", "([IIII)I"⟩ : MethodName) method_4_code 4 (some .int) [] ({ frames := 0, cells := 0, slots := 0, locals := 0 } : Room) #[(.ref oc), (.int (Int32.ofNat n)), (.int (0 : Int32)), (.int (2 : Int32))] Z h0 (fun v h L => v = some (.int (Int32.ofNat (own_bf (own_gtI [r0, r1, r2, r3, r4]) n 2 0))) ∧ h = h0 ∧ L = []) := by
  refine Con.of (plainFor_of_name pn_7) ?_
  intro p e s m below meth c s₁ hx hZ hby hml hown hnm hret hlk X0 e0
  refine Ends.cast (efBf2_0 m oc (Int32.ofNat n) (0 : Int32) (2 : Int32)) ?_
  refine E.iloadN (q := 1) X0 hx (hb hby d31_0) rfl ?_
  refine E.iloadN (q := 2) X0 hx (hb hby d31_1) rfl ?_
  by_cases hq : (0 : Int32) < (Int32.ofNat n)
  · refine E.icmpN (q := 5) X0 hx (hb hby d31_2) (XT.ii_ge_f hq) ?_
    have hjn : 0 < n := (own_ltN (a := 0) (by decide) (by omega)).mp hq
    refine E.iloadN (q := 6) X0 hx (hb hby d31_5) rfl ?_
    refine E.iloadN (q := 7) X0 hx (hb hby d31_6) rfl ?_
    refine E.icmpY (q := 12) X0 hx (hb hby d31_7) (XT.ii_ne_t (by decide)) ?_
    refine E.aloadN (q := 13) X0 hx (hb hby d31_12) rfl rfl ?_
    refine E.iloadN (q := 14) X0 hx (hb hby d31_13) rfl ?_
    refine Ends.ild X0 hx hZ e0 A_c (i := 0) rfl rfl (hb hby d31_14) ?_
    refine E.aloadN (q := 16) X0 hx (hb hby d31_15) rfl rfl ?_
    refine E.iloadN (q := 17) X0 hx (hb hby d31_16) rfl ?_
    refine Ends.ild X0 hx hZ e0 A_c (i := 2) rfl rfl (hb hby d31_17) ?_
    by_cases h1 : r2 < r0
    · refine E.icmpN (q := 21) X0 hx (hb hby d31_18) (XT.ii_le_f h1) ?_
      refine E.iconst (q := 22) (v := (1 : Int32)) X0 hx (hb hby d31_21) rfl ?_
      have hr : own_bf (own_gtI [r0, r1, r2, r3, r4]) n 2 0 = 1 := by simp [own_bf, own_gtI, hjn, h1]
      exact Ends.retI X0 hx hlk hret (hb hby d31_22) (by decide) (by decide) ⟨by rw [hr]; rfl, e0, rfl⟩
    · refine E.icmpY (q := 23) X0 hx (hb hby d31_18) (XT.ii_le_t h1) ?_
      refine E.aloadN (q := 24) X0 hx (hb hby d31_23) rfl rfl ?_
      refine E.iloadN (q := 25) X0 hx (hb hby d31_24) rfl ?_
      refine Ends.ild X0 hx hZ e0 A_c (i := 0) rfl rfl (hb hby d31_25) ?_
      refine E.aloadN (q := 27) X0 hx (hb hby d31_26) rfl rfl ?_
      refine E.iloadN (q := 28) X0 hx (hb hby d31_27) rfl ?_
      refine Ends.ild X0 hx hZ e0 A_c (i := 2) rfl rfl (hb hby d31_28) ?_
      by_cases h2 : r0 = r2
      · refine E.icmpN (q := 32) X0 hx (hb hby d31_29) (XT.ii_ne_f h2) ?_
        refine E.iloadN (q := 33) X0 hx (hb hby d31_32) rfl ?_
        refine E.iloadN (q := 34) X0 hx (hb hby d31_33) rfl ?_
        refine E.icmpN (q := 37) X0 hx (hb hby d31_34) (XT.ii_ge_f (by decide)) ?_
        refine E.iconst (q := 38) (v := (1 : Int32)) X0 hx (hb hby d31_37) rfl ?_
        have hr : own_bf (own_gtI [r0, r1, r2, r3, r4]) n 2 0 = 1 := by simp [own_bf, own_gtI, hjn, h2, Int32.lt_irrefl]
        exact Ends.retI X0 hx hlk hret (hb hby d31_38) (by decide) (by decide) ⟨by rw [hr]; rfl, e0, rfl⟩
      · refine E.icmpY (q := 39) X0 hx (hb hby d31_29) (XT.ii_ne_t h2) ?_
        have h3 : r0 < r2 := own_nlt h1 h2
        refine E.iconst (q := 40) (v := (0 : Int32)) X0 hx (hb hby d31_39) rfl ?_
        have hr : own_bf (own_gtI [r0, r1, r2, r3, r4]) n 2 0 = 0 := by simp [own_bf, own_gtI, hjn, h1, h3]
        exact Ends.retI X0 hx hlk hret (hb hby d31_40) (by decide) (by decide) ⟨by rw [hr]; rfl, e0, rfl⟩
  · refine E.icmpY (q := 10) X0 hx (hb hby d31_2) (XT.ii_ge_t hq) ?_
    have hjn : ¬ 0 < n := fun q => hq ((own_ltN (a := 0) (by decide) (by omega)).mpr q)
    refine E.iconst (q := 11) (v := (0 : Int32)) X0 hx (hb hby d31_10) rfl ?_
    have hr : own_bf (own_gtI [r0, r1, r2, r3, r4]) n 2 0 = 0 := by simp [own_bf, hjn]
    exact Ends.retI X0 hx hlk hret (hb hby d31_11) (by decide) (by decide) ⟨by rw [hr]; rfl, e0, rfl⟩
theorem efBf2_1 (m : MethodId) (x0 : Addr) (x1 : Int32) (x2 : Int32) (x3 : Int32) : entryFrame m #[(.ref x0), (.int x1), (.int x2), (.int x3)] 4 = mkF m 0 #[.val (.ref x0), .val (.int x1), .val (.int x2), .val (.int x3)] [] := by first | (simp [entryFrame, mkF, argsToLocals, Value.category]; done) | rfl
theorem rmBf2_1 (l : Launch) (Z : State) (a0 : Array Value) (hw : ∀ d ∈ tables_1, d.before a0 Z = true) (oc : Addr) (r0 r1 r2 r3 r4 : Int32) (n : Nat) (hn : n ≤ 5) (h0 : Heap) (A_c : Ary Z h0 oc .int [(.int r0), (.int r1), (.int r2), (.int r3), (.int r4)]) :
    Con l (⟨"com/example/needlework/needlework/match/CompiledPatternOfPinLaw", "before", "([IIII)I"⟩ : MethodName) method_4_code 4 (some .int) [] ({ frames := 0, cells := 0, slots := 0, locals := 0 } : Room) #[(.ref oc), (.int (Int32.ofNat n)), (.int (1 : Int32)), (.int (2 : Int32))] Z h0 (fun v h L => v = some (.int (Int32.ofNat (own_bf (own_gtI [r0, r1, r2, r3, r4]) n 2 1))) ∧ h = h0 ∧ L = []) := by
  refine Con.of (plainFor_of_name pn_7) ?_
  intro p e s m below meth c s₁ hx hZ hby hml hown hnm hret hlk X0 e0
  refine Ends.cast (efBf2_1 m oc (Int32.ofNat n) (1 : Int32) (2 : Int32)) ?_
  refine E.iloadN (q := 1) X0 hx (hb hby d31_0) rfl ?_
  refine E.iloadN (q := 2) X0 hx (hb hby d31_1) rfl ?_
  by_cases hq : (1 : Int32) < (Int32.ofNat n)
  · refine E.icmpN (q := 5) X0 hx (hb hby d31_2) (XT.ii_ge_f hq) ?_
    have hjn : 1 < n := (own_ltN (a := 1) (by decide) (by omega)).mp hq
    refine E.iloadN (q := 6) X0 hx (hb hby d31_5) rfl ?_
    refine E.iloadN (q := 7) X0 hx (hb hby d31_6) rfl ?_
    refine E.icmpY (q := 12) X0 hx (hb hby d31_7) (XT.ii_ne_t (by decide)) ?_
    refine E.aloadN (q := 13) X0 hx (hb hby d31_12) rfl rfl ?_
    refine E.iloadN (q := 14) X0 hx (hb hby d31_13) rfl ?_
    refine Ends.ild X0 hx hZ e0 A_c (i := 1) rfl rfl (hb hby d31_14) ?_
    refine E.aloadN (q := 16) X0 hx (hb hby d31_15) rfl rfl ?_
    refine E.iloadN (q := 17) X0 hx (hb hby d31_16) rfl ?_
    refine Ends.ild X0 hx hZ e0 A_c (i := 2) rfl rfl (hb hby d31_17) ?_
    by_cases h1 : r2 < r1
    · refine E.icmpN (q := 21) X0 hx (hb hby d31_18) (XT.ii_le_f h1) ?_
      refine E.iconst (q := 22) (v := (1 : Int32)) X0 hx (hb hby d31_21) rfl ?_
      have hr : own_bf (own_gtI [r0, r1, r2, r3, r4]) n 2 1 = 1 := by simp [own_bf, own_gtI, hjn, h1]
      exact Ends.retI X0 hx hlk hret (hb hby d31_22) (by decide) (by decide) ⟨by rw [hr]; rfl, e0, rfl⟩
    · refine E.icmpY (q := 23) X0 hx (hb hby d31_18) (XT.ii_le_t h1) ?_
      refine E.aloadN (q := 24) X0 hx (hb hby d31_23) rfl rfl ?_
      refine E.iloadN (q := 25) X0 hx (hb hby d31_24) rfl ?_
      refine Ends.ild X0 hx hZ e0 A_c (i := 1) rfl rfl (hb hby d31_25) ?_
      refine E.aloadN (q := 27) X0 hx (hb hby d31_26) rfl rfl ?_
      refine E.iloadN (q := 28) X0 hx (hb hby d31_27) rfl ?_
      refine Ends.ild X0 hx hZ e0 A_c (i := 2) rfl rfl (hb hby d31_28) ?_
      by_cases h2 : r1 = r2
      · refine E.icmpN (q := 32) X0 hx (hb hby d31_29) (XT.ii_ne_f h2) ?_
        refine E.iloadN (q := 33) X0 hx (hb hby d31_32) rfl ?_
        refine E.iloadN (q := 34) X0 hx (hb hby d31_33) rfl ?_
        refine E.icmpN (q := 37) X0 hx (hb hby d31_34) (XT.ii_ge_f (by decide)) ?_
        refine E.iconst (q := 38) (v := (1 : Int32)) X0 hx (hb hby d31_37) rfl ?_
        have hr : own_bf (own_gtI [r0, r1, r2, r3, r4]) n 2 1 = 1 := by simp [own_bf, own_gtI, hjn, h2, Int32.lt_irrefl]
        exact Ends.retI X0 hx hlk hret (hb hby d31_38) (by decide) (by decide) ⟨by rw [hr]; rfl, e0, rfl⟩
      · refine E.icmpY (q := 39) X0 hx (hb hby d31_29) (XT.ii_ne_t h2) ?_
        have h3 : r1 < r2 := own_nlt h1 h2
        refine E.iconst (q := 40) (v := (0 : Int32)) X0 hx (hb hby d31_39) rfl ?_
        have hr : own_bf (own_gtI [r0, r1, r2, r3, r4]) n 2 1 = 0 := by simp [own_bf, own_gtI, hjn, h1, h3]
        exact Ends.retI X0 hx hlk hret (hb hby d31_40) (by decide) (by decide) ⟨by rw [hr]; rfl, e0, rfl⟩
  · refine E.icmpY (q := 10) X0 hx (hb hby d31_2) (XT.ii_ge_t hq) ?_
    have hjn : ¬ 1 < n := fun q => hq ((own_ltN (a := 1) (by decide) (by omega)).mpr q)
    refine E.iconst (q := 11) (v := (0 : Int32)) X0 hx (hb hby d31_10) rfl ?_
    have hr : own_bf (own_gtI [r0, r1, r2, r3, r4]) n 2 1 = 0 := by simp [own_bf, hjn]
    exact Ends.retI X0 hx hlk hret (hb hby d31_11) (by decide) (by decide) ⟨by rw [hr]; rfl, e0, rfl⟩
theorem efBf2_2 (m : MethodId) (x0 : Addr) (x1 : Int32) (x2 : Int32) (x3 : Int32) : entryFrame m #[(.ref x0), (.int x1), (.int x2), (.int x3)] 4 = mkF m 0 #[.val (.ref x0), .val (.int x1), .val (.int x2), .val (.int x3)] [] := by first | (simp [entryFrame, mkF, argsToLocals, Value.category]; done) | rfl
theorem rmBf2_2 (l : Launch) (Z : State) (a0 : Array Value) (hw : ∀ d ∈ tables_1, d.before a0 Z = true) (oc : Addr) (r0 r1 r2 r3 r4 : Int32) (n : Nat) (hn : n ≤ 5) (h0 : Heap) (A_c : Ary Z h0 oc .int [(.int r0), (.int r1), (.int r2), (.int r3), (.int r4)]) :
    Con l (⟨"com/example/needlework/needlework/match/CompiledPatternOfPinLaw", "before", "([IIII)I"⟩ : MethodName) method_4_code 4 (some .int) [] ({ frames := 0, cells := 0, slots := 0, locals := 0 } : Room) #[(.ref oc), (.int (Int32.ofNat n)), (.int (2 : Int32)), (.int (2 : Int32))] Z h0 (fun v h L => v = some (.int (Int32.ofNat (own_bf (own_gtI [r0, r1, r2, r3, r4]) n 2 2))) ∧ h = h0 ∧ L = []) := by
  refine Con.of (plainFor_of_name pn_7) ?_
  intro p e s m below meth c s₁ hx hZ hby hml hown hnm hret hlk X0 e0
  refine Ends.cast (efBf2_2 m oc (Int32.ofNat n) (2 : Int32) (2 : Int32)) ?_
  refine E.iloadN (q := 1) X0 hx (hb hby d31_0) rfl ?_
  refine E.iloadN (q := 2) X0 hx (hb hby d31_1) rfl ?_
  by_cases hq : (2 : Int32) < (Int32.ofNat n)
  · refine E.icmpN (q := 5) X0 hx (hb hby d31_2) (XT.ii_ge_f hq) ?_
    have hjn : 2 < n := (own_ltN (a := 2) (by decide) (by omega)).mp hq
    refine E.iloadN (q := 6) X0 hx (hb hby d31_5) rfl ?_
    refine E.iloadN (q := 7) X0 hx (hb hby d31_6) rfl ?_
    refine E.icmpN (q := 10) X0 hx (hb hby d31_7) (XT.ii_ne_f (by decide)) ?_
    refine E.iconst (q := 11) (v := (0 : Int32)) X0 hx (hb hby d31_10) rfl ?_
    have hr : own_bf (own_gtI [r0, r1, r2, r3, r4]) n 2 2 = 0 := by simp [own_bf]
    exact Ends.retI X0 hx hlk hret (hb hby d31_11) (by decide) (by decide) ⟨by rw [hr]; rfl, e0, rfl⟩
  · refine E.icmpY (q := 10) X0 hx (hb hby d31_2) (XT.ii_ge_t hq) ?_
    have hjn : ¬ 2 < n := fun q => hq ((own_ltN (a := 2) (by decide) (by omega)).mpr q)
    refine E.iconst (q := 11) (v := (0 : Int32)) X0 hx (hb hby d31_10) rfl ?_
    have hr : own_bf (own_gtI [r0, r1, r2, r3, r4]) n 2 2 = 0 := by simp [own_bf, hjn]
    exact Ends.retI X0 hx hlk hret (hb hby d31_11) (by decide) (by decide) ⟨by rw [hr]; rfl, e0, rfl⟩
theorem efBf2_3 (m : MethodId) (x0 : Addr) (x1 : Int32) (x2 : Int32) (x3 : Int32) : entryFrame m #[(.ref x0), (.int x1), (.int x2), (.int x3)] 4 = mkF m 0 #[.val (.ref x0), .val (.int x1), .val (.int x2), .val (.int x3)] [] := by first | (simp [entryFrame, mkF, argsToLocals, Value.category]; done) | rfl
theorem rmBf2_3 (l : Launch) (Z : State) (a0 : Array Value) (hw : ∀ d ∈ tables_1, d.before a0 Z = true) (oc : Addr) (r0 r1 r2 r3 r4 : Int32) (n : Nat) (hn : n ≤ 5) (h0 : Heap) (A_c : Ary Z h0 oc .int [(.int r0), (.int r1), (.int r2), (.int r3), (.int r4)]) :
    Con l (⟨"com/example/needlework/needlework/match/CompiledPatternOfPinLaw", "before", "([IIII)I"⟩ : MethodName) method_4_code 4 (some .int) [] ({ frames := 0, cells := 0, slots := 0, locals := 0 } : Room) #[(.ref oc), (.int (Int32.ofNat n)), (.int (3 : Int32)), (.int (2 : Int32))] Z h0 (fun v h L => v = some (.int (Int32.ofNat (own_bf (own_gtI [r0, r1, r2, r3, r4]) n 2 3))) ∧ h = h0 ∧ L = []) := by
  refine Con.of (plainFor_of_name pn_7) ?_
  intro p e s m below meth c s₁ hx hZ hby hml hown hnm hret hlk X0 e0
  refine Ends.cast (efBf2_3 m oc (Int32.ofNat n) (3 : Int32) (2 : Int32)) ?_
  refine E.iloadN (q := 1) X0 hx (hb hby d31_0) rfl ?_
  refine E.iloadN (q := 2) X0 hx (hb hby d31_1) rfl ?_
  by_cases hq : (3 : Int32) < (Int32.ofNat n)
  · refine E.icmpN (q := 5) X0 hx (hb hby d31_2) (XT.ii_ge_f hq) ?_
    have hjn : 3 < n := (own_ltN (a := 3) (by decide) (by omega)).mp hq
    refine E.iloadN (q := 6) X0 hx (hb hby d31_5) rfl ?_
    refine E.iloadN (q := 7) X0 hx (hb hby d31_6) rfl ?_
    refine E.icmpY (q := 12) X0 hx (hb hby d31_7) (XT.ii_ne_t (by decide)) ?_
    refine E.aloadN (q := 13) X0 hx (hb hby d31_12) rfl rfl ?_
    refine E.iloadN (q := 14) X0 hx (hb hby d31_13) rfl ?_
    refine Ends.ild X0 hx hZ e0 A_c (i := 3) rfl rfl (hb hby d31_14) ?_
    refine E.aloadN (q := 16) X0 hx (hb hby d31_15) rfl rfl ?_
    refine E.iloadN (q := 17) X0 hx (hb hby d31_16) rfl ?_
    refine Ends.ild X0 hx hZ e0 A_c (i := 2) rfl rfl (hb hby d31_17) ?_
    by_cases h1 : r2 < r3
    · refine E.icmpN (q := 21) X0 hx (hb hby d31_18) (XT.ii_le_f h1) ?_
      refine E.iconst (q := 22) (v := (1 : Int32)) X0 hx (hb hby d31_21) rfl ?_
      have hr : own_bf (own_gtI [r0, r1, r2, r3, r4]) n 2 3 = 1 := by simp [own_bf, own_gtI, hjn, h1]
      exact Ends.retI X0 hx hlk hret (hb hby d31_22) (by decide) (by decide) ⟨by rw [hr]; rfl, e0, rfl⟩
    · refine E.icmpY (q := 23) X0 hx (hb hby d31_18) (XT.ii_le_t h1) ?_
      refine E.aloadN (q := 24) X0 hx (hb hby d31_23) rfl rfl ?_
      refine E.iloadN (q := 25) X0 hx (hb hby d31_24) rfl ?_
      refine Ends.ild X0 hx hZ e0 A_c (i := 3) rfl rfl (hb hby d31_25) ?_
      refine E.aloadN (q := 27) X0 hx (hb hby d31_26) rfl rfl ?_
      refine E.iloadN (q := 28) X0 hx (hb hby d31_27) rfl ?_
      refine Ends.ild X0 hx hZ e0 A_c (i := 2) rfl rfl (hb hby d31_28) ?_
      by_cases h2 : r3 = r2
      · refine E.icmpN (q := 32) X0 hx (hb hby d31_29) (XT.ii_ne_f h2) ?_
        refine E.iloadN (q := 33) X0 hx (hb hby d31_32) rfl ?_
        refine E.iloadN (q := 34) X0 hx (hb hby d31_33) rfl ?_
        refine E.icmpY (q := 39) X0 hx (hb hby d31_34) (XT.ii_ge_t (by decide)) ?_
        refine E.iconst (q := 40) (v := (0 : Int32)) X0 hx (hb hby d31_39) rfl ?_
        have hr : own_bf (own_gtI [r0, r1, r2, r3, r4]) n 2 3 = 0 := by simp [own_bf, own_gtI, hjn, h2, Int32.lt_irrefl]
        exact Ends.retI X0 hx hlk hret (hb hby d31_40) (by decide) (by decide) ⟨by rw [hr]; rfl, e0, rfl⟩
      · refine E.icmpY (q := 39) X0 hx (hb hby d31_29) (XT.ii_ne_t h2) ?_
        have h3 : r3 < r2 := own_nlt h1 h2
        refine E.iconst (q := 40) (v := (0 : Int32)) X0 hx (hb hby d31_39) rfl ?_
        have hr : own_bf (own_gtI [r0, r1, r2, r3, r4]) n 2 3 = 0 := by simp [own_bf, own_gtI, hjn, h1, h3]
        exact Ends.retI X0 hx hlk hret (hb hby d31_40) (by decide) (by decide) ⟨by rw [hr]; rfl, e0, rfl⟩
  · refine E.icmpY (q := 10) X0 hx (hb hby d31_2) (XT.ii_ge_t hq) ?_
    have hjn : ¬ 3 < n := fun q => hq ((own_ltN (a := 3) (by decide) (by omega)).mpr q)
    refine E.iconst (q := 11) (v := (0 : Int32)) X0 hx (hb hby d31_10) rfl ?_
    have hr : own_bf (own_gtI [r0, r1, r2, r3, r4]) n 2 3 = 0 := by simp [own_bf, hjn]
    exact Ends.retI X0 hx hlk hret (hb hby d31_11) (by decide) (by decide) ⟨by rw [hr]; rfl, e0, rfl⟩
theorem efBf2_4 (m : MethodId) (x0 : Addr) (x1 : Int32) (x2 : Int32) (x3 : Int32) : entryFrame m #[(.ref x0), (.int x1), (.int x2), (.int x3)] 4 = mkF m 0 #[.val (.ref x0), .val (.int x1), .val (.int x2), .val (.int x3)] [] := by first | (simp [entryFrame, mkF, argsToLocals, Value.category]; done) | rfl
theorem rmBf2_4 (l : Launch) (Z : State) (a0 : Array Value) (hw : ∀ d ∈ tables_1, d.before a0 Z = true) (oc : Addr) (r0 r1 r2 r3 r4 : Int32) (n : Nat) (hn : n ≤ 5) (h0 : Heap) (A_c : Ary Z h0 oc .int [(.int r0), (.int r1), (.int r2), (.int r3), (.int r4)]) :
    Con l (⟨"com/example/needlework/needlework/match/CompiledPatternOfPinLaw", "before", "([IIII)I"⟩ : MethodName) method_4_code 4 (some .int) [] ({ frames := 0, cells := 0, slots := 0, locals := 0 } : Room) #[(.ref oc), (.int (Int32.ofNat n)), (.int (4 : Int32)), (.int (2 : Int32))] Z h0 (fun v h L => v = some (.int (Int32.ofNat (own_bf (own_gtI [r0, r1, r2, r3, r4]) n 2 4))) ∧ h = h0 ∧ L = []) := by
  refine Con.of (plainFor_of_name pn_7) ?_
  intro p e s m below meth c s₁ hx hZ hby hml hown hnm hret hlk X0 e0
  refine Ends.cast (efBf2_4 m oc (Int32.ofNat n) (4 : Int32) (2 : Int32)) ?_
  refine E.iloadN (q := 1) X0 hx (hb hby d31_0) rfl ?_
  refine E.iloadN (q := 2) X0 hx (hb hby d31_1) rfl ?_
  by_cases hq : (4 : Int32) < (Int32.ofNat n)
  · refine E.icmpN (q := 5) X0 hx (hb hby d31_2) (XT.ii_ge_f hq) ?_
    have hjn : 4 < n := (own_ltN (a := 4) (by decide) (by omega)).mp hq
    refine E.iloadN (q := 6) X0 hx (hb hby d31_5) rfl ?_
    refine E.iloadN (q := 7) X0 hx (hb hby d31_6) rfl ?_
    refine E.icmpY (q := 12) X0 hx (hb hby d31_7) (XT.ii_ne_t (by decide)) ?_
    refine E.aloadN (q := 13) X0 hx (hb hby d31_12) rfl rfl ?_
    refine E.iloadN (q := 14) X0 hx (hb hby d31_13) rfl ?_
    refine Ends.ild X0 hx hZ e0 A_c (i := 4) rfl rfl (hb hby d31_14) ?_
    refine E.aloadN (q := 16) X0 hx (hb hby d31_15) rfl rfl ?_
    refine E.iloadN (q := 17) X0 hx (hb hby d31_16) rfl ?_
    refine Ends.ild X0 hx hZ e0 A_c (i := 2) rfl rfl (hb hby d31_17) ?_
    by_cases h1 : r2 < r4
    · refine E.icmpN (q := 21) X0 hx (hb hby d31_18) (XT.ii_le_f h1) ?_
      refine E.iconst (q := 22) (v := (1 : Int32)) X0 hx (hb hby d31_21) rfl ?_
      have hr : own_bf (own_gtI [r0, r1, r2, r3, r4]) n 2 4 = 1 := by simp [own_bf, own_gtI, hjn, h1]
      exact Ends.retI X0 hx hlk hret (hb hby d31_22) (by decide) (by decide) ⟨by rw [hr]; rfl, e0, rfl⟩
    · refine E.icmpY (q := 23) X0 hx (hb hby d31_18) (XT.ii_le_t h1) ?_
      refine E.aloadN (q := 24) X0 hx (hb hby d31_23) rfl rfl ?_
      refine E.iloadN (q := 25) X0 hx (hb hby d31_24) rfl ?_
      refine Ends.ild X0 hx hZ e0 A_c (i := 4) rfl rfl (hb hby d31_25) ?_
      refine E.aloadN (q := 27) X0 hx (hb hby d31_26) rfl rfl ?_
      refine E.iloadN (q := 28) X0 hx (hb hby d31_27) rfl ?_
      refine Ends.ild X0 hx hZ e0 A_c (i := 2) rfl rfl (hb hby d31_28) ?_
      by_cases h2 : r4 = r2
      · refine E.icmpN (q := 32) X0 hx (hb hby d31_29) (XT.ii_ne_f h2) ?_
        refine E.iloadN (q := 33) X0 hx (hb hby d31_32) rfl ?_
        refine E.iloadN (q := 34) X0 hx (hb hby d31_33) rfl ?_
        refine E.icmpY (q := 39) X0 hx (hb hby d31_34) (XT.ii_ge_t (by decide)) ?_
        refine E.iconst (q := 40) (v := (0 : Int32)) X0 hx (hb hby d31_39) rfl ?_
        have hr : own_bf (own_gtI [r0, r1, r2, r3, r4]) n 2 4 = 0 := by simp [own_bf, own_gtI, hjn, h2, Int32.lt_irrefl]
        exact Ends.retI X0 hx hlk hret (hb hby d31_40) (by decide) (by decide) ⟨by rw [hr]; rfl, e0, rfl⟩
      · refine E.icmpY (q := 39) X0 hx (hb hby d31_29) (XT.ii_ne_t h2) ?_
        have h3 : r4 < r2 := own_nlt h1 h2
        refine E.iconst (q := 40) (v := (0 : Int32)) X0 hx (hb hby d31_39) rfl ?_
        have hr : own_bf (own_gtI [r0, r1, r2, r3, r4]) n 2 4 = 0 := by simp [own_bf, own_gtI, hjn, h1, h3]
        exact Ends.retI X0 hx hlk hret (hb hby d31_40) (by decide) (by decide) ⟨by rw [hr]; rfl, e0, rfl⟩
  · refine E.icmpY (q := 10) X0 hx (hb hby d31_2) (XT.ii_ge_t hq) ?_
    have hjn : ¬ 4 < n := fun q => hq ((own_ltN (a := 4) (by decide) (by omega)).mpr q)
    refine E.iconst (q := 11) (v := (0 : Int32)) X0 hx (hb hby d31_10) rfl ?_
    have hr : own_bf (own_gtI [r0, r1, r2, r3, r4]) n 2 4 = 0 := by simp [own_bf, hjn]
    exact Ends.retI X0 hx hlk hret (hb hby d31_11) (by decide) (by decide) ⟨by rw [hr]; rfl, e0, rfl⟩
theorem efBf3_0 (m : MethodId) (x0 : Addr) (x1 : Int32) (x2 : Int32) (x3 : Int32) : entryFrame m #[(.ref x0), (.int x1), (.int x2), (.int x3)] 4 = mkF m 0 #[.val (.ref x0), .val (.int x1), .val (.int x2), .val (.int x3)] [] := by first | (simp [entryFrame, mkF, argsToLocals, Value.category]; done) | rfl
theorem rmBf3_0 (l : Launch) (Z : State) (a0 : Array Value) (hw : ∀ d ∈ tables_1, d.before a0 Z = true) (oc : Addr) (r0 r1 r2 r3 r4 : Int32) (n : Nat) (hn : n ≤ 5) (h0 : Heap) (A_c : Ary Z h0 oc .int [(.int r0), (.int r1), (.int r2), (.int r3), (.int r4)]) :
    Con l (⟨"com/example/needlework/needlework/match/CompiledPatternOfPinLaw", "before", "([IIII)I"⟩ : MethodName) method_4_code 4 (some .int) [] ({ frames := 0, cells := 0, slots := 0, locals := 0 } : Room) #[(.ref oc), (.int (Int32.ofNat n)), (.int (0 : Int32)), (.int (3 : Int32))] Z h0 (fun v h L => v = some (.int (Int32.ofNat (own_bf (own_gtI [r0, r1, r2, r3, r4]) n 3 0))) ∧ h = h0 ∧ L = []) := by
  refine Con.of (plainFor_of_name pn_7) ?_
  intro p e s m below meth c s₁ hx hZ hby hml hown hnm hret hlk X0 e0
  refine Ends.cast (efBf3_0 m oc (Int32.ofNat n) (0 : Int32) (3 : Int32)) ?_
  refine E.iloadN (q := 1) X0 hx (hb hby d31_0) rfl ?_
  refine E.iloadN (q := 2) X0 hx (hb hby d31_1) rfl ?_
  by_cases hq : (0 : Int32) < (Int32.ofNat n)
  · refine E.icmpN (q := 5) X0 hx (hb hby d31_2) (XT.ii_ge_f hq) ?_
    have hjn : 0 < n := (own_ltN (a := 0) (by decide) (by omega)).mp hq
    refine E.iloadN (q := 6) X0 hx (hb hby d31_5) rfl ?_
    refine E.iloadN (q := 7) X0 hx (hb hby d31_6) rfl ?_
    refine E.icmpY (q := 12) X0 hx (hb hby d31_7) (XT.ii_ne_t (by decide)) ?_
    refine E.aloadN (q := 13) X0 hx (hb hby d31_12) rfl rfl ?_
    refine E.iloadN (q := 14) X0 hx (hb hby d31_13) rfl ?_
    refine Ends.ild X0 hx hZ e0 A_c (i := 0) rfl rfl (hb hby d31_14) ?_
    refine E.aloadN (q := 16) X0 hx (hb hby d31_15) rfl rfl ?_
    refine E.iloadN (q := 17) X0 hx (hb hby d31_16) rfl ?_
    refine Ends.ild X0 hx hZ e0 A_c (i := 3) rfl rfl (hb hby d31_17) ?_
    by_cases h1 : r3 < r0
    · refine E.icmpN (q := 21) X0 hx (hb hby d31_18) (XT.ii_le_f h1) ?_
      refine E.iconst (q := 22) (v := (1 : Int32)) X0 hx (hb hby d31_21) rfl ?_
      have hr : own_bf (own_gtI [r0, r1, r2, r3, r4]) n 3 0 = 1 := by simp [own_bf, own_gtI, hjn, h1]
      exact Ends.retI X0 hx hlk hret (hb hby d31_22) (by decide) (by decide) ⟨by rw [hr]; rfl, e0, rfl⟩
    · refine E.icmpY (q := 23) X0 hx (hb hby d31_18) (XT.ii_le_t h1) ?_
      refine E.aloadN (q := 24) X0 hx (hb hby d31_23) rfl rfl ?_
      refine E.iloadN (q := 25) X0 hx (hb hby d31_24) rfl ?_
      refine Ends.ild X0 hx hZ e0 A_c (i := 0) rfl rfl (hb hby d31_25) ?_
      refine E.aloadN (q := 27) X0 hx (hb hby d31_26) rfl rfl ?_
      refine E.iloadN (q := 28) X0 hx (hb hby d31_27) rfl ?_
      refine Ends.ild X0 hx hZ e0 A_c (i := 3) rfl rfl (hb hby d31_28) ?_
      by_cases h2 : r0 = r3
      · refine E.icmpN (q := 32) X0 hx (hb hby d31_29) (XT.ii_ne_f h2) ?_
        refine E.iloadN (q := 33) X0 hx (hb hby d31_32) rfl ?_
        refine E.iloadN (q := 34) X0 hx (hb hby d31_33) rfl ?_
        refine E.icmpN (q := 37) X0 hx (hb hby d31_34) (XT.ii_ge_f (by decide)) ?_
        refine E.iconst (q := 38) (v := (1 : Int32)) X0 hx (hb hby d31_37) rfl ?_
        have hr : own_bf (own_gtI [r0, r1, r2, r3, r4]) n 3 0 = 1 := by simp [own_bf, own_gtI, hjn, h2, Int32.lt_irrefl]
        exact Ends.retI X0 hx hlk hret (hb hby d31_38) (by decide) (by decide) ⟨by rw [hr]; rfl, e0, rfl⟩
      · refine E.icmpY (q := 39) X0 hx (hb hby d31_29) (XT.ii_ne_t h2) ?_
        have h3 : r0 < r3 := own_nlt h1 h2
        refine E.iconst (q := 40) (v := (0 : Int32)) X0 hx (hb hby d31_39) rfl ?_
        have hr : own_bf (own_gtI [r0, r1, r2, r3, r4]) n 3 0 = 0 := by simp [own_bf, own_gtI, hjn, h1, h3]
        exact Ends.retI X0 hx hlk hret (hb hby d31_40) (by decide) (by decide) ⟨by rw [hr]; rfl, e0, rfl⟩
  · refine E.icmpY (q := 10) X0 hx (hb hby d31_2) (XT.ii_ge_t hq) ?_
    have hjn : ¬ 0 < n := fun q => hq ((own_ltN (a := 0) (by decide) (by omega)).mpr q)
    refine E.iconst (q := 11) (v := (0 : Int32)) X0 hx (hb hby d31_10) rfl ?_
    have hr : own_bf (own_gtI [r0, r1, r2, r3, r4]) n 3 0 = 0 := by simp [own_bf, hjn]
    exact Ends.retI X0 hx hlk hret (hb hby d31_11) (by decide) (by decide) ⟨by rw [hr]; rfl, e0, rfl⟩
theorem efBf3_1 (m : MethodId) (x0 : Addr) (x1 : Int32) (x2 : Int32) (x3 : Int32) : entryFrame m #[(.ref x0), (.int x1), (.int x2), (.int x3)] 4 = mkF m 0 #[.val (.ref x0), .val (.int x1), .val (.int x2), .val (.int x3)] [] := by first | (simp [entryFrame, mkF, argsToLocals, Value.category]; done) | rfl
theorem rmBf3_1 (l : Launch) (Z : State) (a0 : Array Value) (hw : ∀ d ∈ tables_1, d.before a0 Z = true) (oc : Addr) (r0 r1 r2 r3 r4 : Int32) (n : Nat) (hn : n ≤ 5) (h0 : Heap) (A_c : Ary Z h0 oc .int [(.int r0), (.int r1), (.int r2), (.int r3), (.int r4)]) :
    Con l (⟨"com/example/needlework/needlework/match/CompiledPatternOfPinLaw", "before", "([IIII)I"⟩ : MethodName) method_4_code 4 (some .int) [] ({ frames := 0, cells := 0, slots := 0, locals := 0 } : Room) #[(.ref oc), (.int (Int32.ofNat n)), (.int (1 : Int32)), (.int (3 : Int32))] Z h0 (fun v h L => v = some (.int (Int32.ofNat (own_bf (own_gtI [r0, r1, r2, r3, r4]) n 3 1))) ∧ h = h0 ∧ L = []) := by
  refine Con.of (plainFor_of_name pn_7) ?_
  intro p e s m below meth c s₁ hx hZ hby hml hown hnm hret hlk X0 e0
  refine Ends.cast (efBf3_1 m oc (Int32.ofNat n) (1 : Int32) (3 : Int32)) ?_
  refine E.iloadN (q := 1) X0 hx (hb hby d31_0) rfl ?_
  refine E.iloadN (q := 2) X0 hx (hb hby d31_1) rfl ?_
  by_cases hq : (1 : Int32) < (Int32.ofNat n)
  · refine E.icmpN (q := 5) X0 hx (hb hby d31_2) (XT.ii_ge_f hq) ?_
    have hjn : 1 < n := (own_ltN (a := 1) (by decide) (by omega)).mp hq
    refine E.iloadN (q := 6) X0 hx (hb hby d31_5) rfl ?_
    refine E.iloadN (q := 7) X0 hx (hb hby d31_6) rfl ?_
    refine E.icmpY (q := 12) X0 hx (hb hby d31_7) (XT.ii_ne_t (by decide)) ?_
    refine E.aloadN (q := 13) X0 hx (hb hby d31_12) rfl rfl ?_
    refine E.iloadN (q := 14) X0 hx (hb hby d31_13) rfl ?_
    refine Ends.ild X0 hx hZ e0 A_c (i := 1) rfl rfl (hb hby d31_14) ?_
    refine E.aloadN (q := 16) X0 hx (hb hby d31_15) rfl rfl ?_
    refine E.iloadN (q := 17) X0 hx (hb hby d31_16) rfl ?_
    refine Ends.ild X0 hx hZ e0 A_c (i := 3) rfl rfl (hb hby d31_17) ?_
    by_cases h1 : r3 < r1
    · refine E.icmpN (q := 21) X0 hx (hb hby d31_18) (XT.ii_le_f h1) ?_
      refine E.iconst (q := 22) (v := (1 : Int32)) X0 hx (hb hby d31_21) rfl ?_
      have hr : own_bf (own_gtI [r0, r1, r2, r3, r4]) n 3 1 = 1 := by simp [own_bf, own_gtI, hjn, h1]
      exact Ends.retI X0 hx hlk hret (hb hby d31_22) (by decide) (by decide) ⟨by rw [hr]; rfl, e0, rfl⟩
    · refine E.icmpY (q := 23) X0 hx (hb hby d31_18) (XT.ii_le_t h1) ?_
      refine E.aloadN (q := 24) X0 hx (hb hby d31_23) rfl rfl ?_
      refine E.iloadN (q := 25) X0 hx (hb hby d31_24) rfl ?_
      refine Ends.ild X0 hx hZ e0 A_c (i := 1) rfl rfl (hb hby d31_25) ?_
      refine E.aloadN (q := 27) X0 hx (hb hby d31_26) rfl rfl ?_
      refine E.iloadN (q := 28) X0 hx (hb hby d31_27) rfl ?_
      refine Ends.ild X0 hx hZ e0 A_c (i := 3) rfl rfl (hb hby d31_28) ?_
      by_cases h2 : r1 = r3
      · refine E.icmpN (q := 32) X0 hx (hb hby d31_29) (XT.ii_ne_f h2) ?_
        refine E.iloadN (q := 33) X0 hx (hb hby d31_32) rfl ?_
        refine E.iloadN (q := 34) X0 hx (hb hby d31_33) rfl ?_
        refine E.icmpN (q := 37) X0 hx (hb hby d31_34) (XT.ii_ge_f (by decide)) ?_
        refine E.iconst (q := 38) (v := (1 : Int32)) X0 hx (hb hby d31_37) rfl ?_
        have hr : own_bf (own_gtI [r0, r1, r2, r3, r4]) n 3 1 = 1 := by simp [own_bf, own_gtI, hjn, h2, Int32.lt_irrefl]
        exact Ends.retI X0 hx hlk hret (hb hby d31_38) (by decide) (by decide) ⟨by rw [hr]; rfl, e0, rfl⟩
      · refine E.icmpY (q := 39) X0 hx (hb hby d31_29) (XT.ii_ne_t h2) ?_
        have h3 : r1 < r3 := own_nlt h1 h2
        refine E.iconst (q := 40) (v := (0 : Int32)) X0 hx (hb hby d31_39) rfl ?_
        have hr : own_bf (own_gtI [r0, r1, r2, r3, r4]) n 3 1 = 0 := by simp [own_bf, own_gtI, hjn, h1, h3]
        exact Ends.retI X0 hx hlk hret (hb hby d31_40) (by decide) (by decide) ⟨by rw [hr]; rfl, e0, rfl⟩
  · refine E.icmpY (q := 10) X0 hx (hb hby d31_2) (XT.ii_ge_t hq) ?_
    have hjn : ¬ 1 < n := fun q => hq ((own_ltN (a := 1) (by decide) (by omega)).mpr q)
    refine E.iconst (q := 11) (v := (0 : Int32)) X0 hx (hb hby d31_10) rfl ?_
    have hr : own_bf (own_gtI [r0, r1, r2, r3, r4]) n 3 1 = 0 := by simp [own_bf, hjn]
    exact Ends.retI X0 hx hlk hret (hb hby d31_11) (by decide) (by decide) ⟨by rw [hr]; rfl, e0, rfl⟩
theorem efBf3_2 (m : MethodId) (x0 : Addr) (x1 : Int32) (x2 : Int32) (x3 : Int32) : entryFrame m #[(.ref x0), (.int x1), (.int x2), (.int x3)] 4 = mkF m 0 #[.val (.ref x0), .val (.int x1), .val (.int x2), .val (.int x3)] [] := by first | (simp [entryFrame, mkF, argsToLocals, Value.category]; done) | rfl
theorem rmBf3_2 (l : Launch) (Z : State) (a0 : Array Value) (hw : ∀ d ∈ tables_1, d.before a0 Z = true) (oc : Addr) (r0 r1 r2 r3 r4 : Int32) (n : Nat) (hn : n ≤ 5) (h0 : Heap) (A_c : Ary Z h0 oc .int [(.int r0), (.int r1), (.int r2), (.int r3), (.int r4)]) :
    Con l (⟨"com/example/needlework/needlework/match/CompiledPatternOfPinLaw", "before", "([IIII)I"⟩ : MethodName) method_4_code 4 (some .int) [] ({ frames := 0, cells := 0, slots := 0, locals := 0 } : Room) #[(.ref oc), (.int (Int32.ofNat n)), (.int (2 : Int32)), (.int (3 : Int32))] Z h0 (fun v h L => v = some (.int (Int32.ofNat (own_bf (own_gtI [r0, r1, r2, r3, r4]) n 3 2))) ∧ h = h0 ∧ L = []) := by
  refine Con.of (plainFor_of_name pn_7) ?_
  intro p e s m below meth c s₁ hx hZ hby hml hown hnm hret hlk X0 e0
  refine Ends.cast (efBf3_2 m oc (Int32.ofNat n) (2 : Int32) (3 : Int32)) ?_
  refine E.iloadN (q := 1) X0 hx (hb hby d31_0) rfl ?_
  refine E.iloadN (q := 2) X0 hx (hb hby d31_1) rfl ?_
  by_cases hq : (2 : Int32) < (Int32.ofNat n)
  · refine E.icmpN (q := 5) X0 hx (hb hby d31_2) (XT.ii_ge_f hq) ?_
    have hjn : 2 < n := (own_ltN (a := 2) (by decide) (by omega)).mp hq
    refine E.iloadN (q := 6) X0 hx (hb hby d31_5) rfl ?_
    refine E.iloadN (q := 7) X0 hx (hb hby d31_6) rfl ?_
    refine E.icmpY (q := 12) X0 hx (hb hby d31_7) (XT.ii_ne_t (by decide)) ?_
    refine E.aloadN (q := 13) X0 hx (hb hby d31_12) rfl rfl ?_
    refine E.iloadN (q := 14) X0 hx (hb hby d31_13) rfl ?_
    refine Ends.ild X0 hx hZ e0 A_c (i := 2) rfl rfl (hb hby d31_14) ?_
    refine E.aloadN (q := 16) X0 hx (hb hby d31_15) rfl rfl ?_
    refine E.iloadN (q := 17) X0 hx (hb hby d31_16) rfl ?_
    refine Ends.ild X0 hx hZ e0 A_c (i := 3) rfl rfl (hb hby d31_17) ?_
    by_cases h1 : r3 < r2
    · refine E.icmpN (q := 21) X0 hx (hb hby d31_18) (XT.ii_le_f h1) ?_
      refine E.iconst (q := 22) (v := (1 : Int32)) X0 hx (hb hby d31_21) rfl ?_
      have hr : own_bf (own_gtI [r0, r1, r2, r3, r4]) n 3 2 = 1 := by simp [own_bf, own_gtI, hjn, h1]
      exact Ends.retI X0 hx hlk hret (hb hby d31_22) (by decide) (by decide) ⟨by rw [hr]; rfl, e0, rfl⟩
    · refine E.icmpY (q := 23) X0 hx (hb hby d31_18) (XT.ii_le_t h1) ?_
      refine E.aloadN (q := 24) X0 hx (hb hby d31_23) rfl rfl ?_
      refine E.iloadN (q := 25) X0 hx (hb hby d31_24) rfl ?_
      refine Ends.ild X0 hx hZ e0 A_c (i := 2) rfl rfl (hb hby d31_25) ?_
      refine E.aloadN (q := 27) X0 hx (hb hby d31_26) rfl rfl ?_
      refine E.iloadN (q := 28) X0 hx (hb hby d31_27) rfl ?_
      refine Ends.ild X0 hx hZ e0 A_c (i := 3) rfl rfl (hb hby d31_28) ?_
      by_cases h2 : r2 = r3
      · refine E.icmpN (q := 32) X0 hx (hb hby d31_29) (XT.ii_ne_f h2) ?_
        refine E.iloadN (q := 33) X0 hx (hb hby d31_32) rfl ?_
        refine E.iloadN (q := 34) X0 hx (hb hby d31_33) rfl ?_
        refine E.icmpN (q := 37) X0 hx (hb hby d31_34) (XT.ii_ge_f (by decide)) ?_
        refine E.iconst (q := 38) (v := (1 : Int32)) X0 hx (hb hby d31_37) rfl ?_
        have hr : own_bf (own_gtI [r0, r1, r2, r3, r4]) n 3 2 = 1 := by simp [own_bf, own_gtI, hjn, h2, Int32.lt_irrefl]
        exact Ends.retI X0 hx hlk hret (hb hby d31_38) (by decide) (by decide) ⟨by rw [hr]; rfl, e0, rfl⟩
      · refine E.icmpY (q := 39) X0 hx (hb hby d31_29) (XT.ii_ne_t h2) ?_
        have h3 : r2 < r3 := own_nlt h1 h2
        refine E.iconst (q := 40) (v := (0 : Int32)) X0 hx (hb hby d31_39) rfl ?_
        have hr : own_bf (own_gtI [r0, r1, r2, r3, r4]) n 3 2 = 0 := by simp [own_bf, own_gtI, hjn, h1, h3]
        exact Ends.retI X0 hx hlk hret (hb hby d31_40) (by decide) (by decide) ⟨by rw [hr]; rfl, e0, rfl⟩
  · refine E.icmpY (q := 10) X0 hx (hb hby d31_2) (XT.ii_ge_t hq) ?_
    have hjn : ¬ 2 < n := fun q => hq ((own_ltN (a := 2) (by decide) (by omega)).mpr q)
    refine E.iconst (q := 11) (v := (0 : Int32)) X0 hx (hb hby d31_10) rfl ?_
    have hr : own_bf (own_gtI [r0, r1, r2, r3, r4]) n 3 2 = 0 := by simp [own_bf, hjn]
    exact Ends.retI X0 hx hlk hret (hb hby d31_11) (by decide) (by decide) ⟨by rw [hr]; rfl, e0, rfl⟩
theorem efBf3_3 (m : MethodId) (x0 : Addr) (x1 : Int32) (x2 : Int32) (x3 : Int32) : entryFrame m #[(.ref x0), (.int x1), (.int x2), (.int x3)] 4 = mkF m 0 #[.val (.ref x0), .val (.int x1), .val (.int x2), .val (.int x3)] [] := by first | (simp [entryFrame, mkF, argsToLocals, Value.category]; done) | rfl
theorem rmBf3_3 (l : Launch) (Z : State) (a0 : Array Value) (hw : ∀ d ∈ tables_1, d.before a0 Z = true) (oc : Addr) (r0 r1 r2 r3 r4 : Int32) (n : Nat) (hn : n ≤ 5) (h0 : Heap) (A_c : Ary Z h0 oc .int [(.int r0), (.int r1), (.int r2), (.int r3), (.int r4)]) :
    Con l (⟨"com/example/needlework/needlework/match/CompiledPatternOfPinLaw", "before", "([IIII)I"⟩ : MethodName) method_4_code 4 (some .int) [] ({ frames := 0, cells := 0, slots := 0, locals := 0 } : Room) #[(.ref oc), (.int (Int32.ofNat n)), (.int (3 : Int32)), (.int (3 : Int32))] Z h0 (fun v h L => v = some (.int (Int32.ofNat (own_bf (own_gtI [r0, r1, r2, r3, r4]) n 3 3))) ∧ h = h0 ∧ L = []) := by
  refine Con.of (plainFor_of_name pn_7) ?_
  intro p e s m below meth c s₁ hx hZ hby hml hown hnm hret hlk X0 e0
  refine Ends.cast (efBf3_3 m oc (Int32.ofNat n) (3 : Int32) (3 : Int32)) ?_
  refine E.iloadN (q := 1) X0 hx (hb hby d31_0) rfl ?_
  refine E.iloadN (q := 2) X0 hx (hb hby d31_1) rfl ?_
  by_cases hq : (3 : Int32) < (Int32.ofNat n)
  · refine E.icmpN (q := 5) X0 hx (hb hby d31_2) (XT.ii_ge_f hq) ?_
    have hjn : 3 < n := (own_ltN (a := 3) (by decide) (by omega)).mp hq
    refine E.iloadN (q := 6) X0 hx (hb hby d31_5) rfl ?_
    refine E.iloadN (q := 7) X0 hx (hb hby d31_6) rfl ?_
    refine E.icmpN (q := 10) X0 hx (hb hby d31_7) (XT.ii_ne_f (by decide)) ?_
    refine E.iconst (q := 11) (v := (0 : Int32)) X0 hx (hb hby d31_10) rfl ?_
    have hr : own_bf (own_gtI [r0, r1, r2, r3, r4]) n 3 3 = 0 := by simp [own_bf]
    exact Ends.retI X0 hx hlk hret (hb hby d31_11) (by decide) (by decide) ⟨by rw [hr]; rfl, e0, rfl⟩
  · refine E.icmpY (q := 10) X0 hx (hb hby d31_2) (XT.ii_ge_t hq) ?_
    have hjn : ¬ 3 < n := fun q => hq ((own_ltN (a := 3) (by decide) (by omega)).mpr q)
    refine E.iconst (q := 11) (v := (0 : Int32)) X0 hx (hb hby d31_10) rfl ?_
    have hr : own_bf (own_gtI [r0, r1, r2, r3, r4]) n 3 3 = 0 := by simp [own_bf, hjn]
    exact Ends.retI X0 hx hlk hret (hb hby d31_11) (by decide) (by decide) ⟨by rw [hr]; rfl, e0, rfl⟩
theorem efBf3_4 (m : MethodId) (x0 : Addr) (x1 : Int32) (x2 : Int32) (x3 : Int32) : entryFrame m #[(.ref x0), (.int x1), (.int x2), (.int x3)] 4 = mkF m 0 #[.val (.ref x0), .val (.int x1), .val (.int x2), .val (.int x3)] [] := by first | (simp [entryFrame, mkF, argsToLocals, Value.category]; done) | rfl
theorem rmBf3_4 (l : Launch) (Z : State) (a0 : Array Value) (hw : ∀ d ∈ tables_1, d.before a0 Z = true) (oc : Addr) (r0 r1 r2 r3 r4 : Int32) (n : Nat) (hn : n ≤ 5) (h0 : Heap) (A_c : Ary Z h0 oc .int [(.int r0), (.int r1), (.int r2), (.int r3), (.int r4)]) :
    Con l (⟨"com/example/needlework/needlework/match/CompiledPatternOfPinLaw", "before", "([IIII)I"⟩ : MethodName) method_4_code 4 (some .int) [] ({ frames := 0, cells := 0, slots := 0, locals := 0 } : Room) #[(.ref oc), (.int (Int32.ofNat n)), (.int (4 : Int32)), (.int (3 : Int32))] Z h0 (fun v h L => v = some (.int (Int32.ofNat (own_bf (own_gtI [r0, r1, r2, r3, r4]) n 3 4))) ∧ h = h0 ∧ L = []) := by
  refine Con.of (plainFor_of_name pn_7) ?_
  intro p e s m below meth c s₁ hx hZ hby hml hown hnm hret hlk X0 e0
  refine Ends.cast (efBf3_4 m oc (Int32.ofNat n) (4 : Int32) (3 : Int32)) ?_
  refine E.iloadN (q := 1) X0 hx (hb hby d31_0) rfl ?_
  refine E.iloadN (q := 2) X0 hx (hb hby d31_1) rfl ?_
  by_cases hq : (4 : Int32) < (Int32.ofNat n)
  · refine E.icmpN (q := 5) X0 hx (hb hby d31_2) (XT.ii_ge_f hq) ?_
    have hjn : 4 < n := (own_ltN (a := 4) (by decide) (by omega)).mp hq
    refine E.iloadN (q := 6) X0 hx (hb hby d31_5) rfl ?_
    refine E.iloadN (q := 7) X0 hx (hb hby d31_6) rfl ?_
    refine E.icmpY (q := 12) X0 hx (hb hby d31_7) (XT.ii_ne_t (by decide)) ?_
    refine E.aloadN (q := 13) X0 hx (hb hby d31_12) rfl rfl ?_
    refine E.iloadN (q := 14) X0 hx (hb hby d31_13) rfl ?_
    refine Ends.ild X0 hx hZ e0 A_c (i := 4) rfl rfl (hb hby d31_14) ?_
    refine E.aloadN (q := 16) X0 hx (hb hby d31_15) rfl rfl ?_
    refine E.iloadN (q := 17) X0 hx (hb hby d31_16) rfl ?_
    refine Ends.ild X0 hx hZ e0 A_c (i := 3) rfl rfl (hb hby d31_17) ?_
    by_cases h1 : r3 < r4
    · refine E.icmpN (q := 21) X0 hx (hb hby d31_18) (XT.ii_le_f h1) ?_
      refine E.iconst (q := 22) (v := (1 : Int32)) X0 hx (hb hby d31_21) rfl ?_
      have hr : own_bf (own_gtI [r0, r1, r2, r3, r4]) n 3 4 = 1 := by simp [own_bf, own_gtI, hjn, h1]
      exact Ends.retI X0 hx hlk hret (hb hby d31_22) (by decide) (by decide) ⟨by rw [hr]; rfl, e0, rfl⟩
    · refine E.icmpY (q := 23) X0 hx (hb hby d31_18) (XT.ii_le_t h1) ?_
      refine E.aloadN (q := 24) X0 hx (hb hby d31_23) rfl rfl ?_
      refine E.iloadN (q := 25) X0 hx (hb hby d31_24) rfl ?_
      refine Ends.ild X0 hx hZ e0 A_c (i := 4) rfl rfl (hb hby d31_25) ?_
      refine E.aloadN (q := 27) X0 hx (hb hby d31_26) rfl rfl ?_
      refine E.iloadN (q := 28) X0 hx (hb hby d31_27) rfl ?_
      refine Ends.ild X0 hx hZ e0 A_c (i := 3) rfl rfl (hb hby d31_28) ?_
      by_cases h2 : r4 = r3
      · refine E.icmpN (q := 32) X0 hx (hb hby d31_29) (XT.ii_ne_f h2) ?_
        refine E.iloadN (q := 33) X0 hx (hb hby d31_32) rfl ?_
        refine E.iloadN (q := 34) X0 hx (hb hby d31_33) rfl ?_
        refine E.icmpY (q := 39) X0 hx (hb hby d31_34) (XT.ii_ge_t (by decide)) ?_
        refine E.iconst (q := 40) (v := (0 : Int32)) X0 hx (hb hby d31_39) rfl ?_
        have hr : own_bf (own_gtI [r0, r1, r2, r3, r4]) n 3 4 = 0 := by simp [own_bf, own_gtI, hjn, h2, Int32.lt_irrefl]
        exact Ends.retI X0 hx hlk hret (hb hby d31_40) (by decide) (by decide) ⟨by rw [hr]; rfl, e0, rfl⟩
      · refine E.icmpY (q := 39) X0 hx (hb hby d31_29) (XT.ii_ne_t h2) ?_
        have h3 : r4 < r3 := own_nlt h1 h2
        refine E.iconst (q := 40) (v := (0 : Int32)) X0 hx (hb hby d31_39) rfl ?_
        have hr : own_bf (own_gtI [r0, r1, r2, r3, r4]) n 3 4 = 0 := by simp [own_bf, own_gtI, hjn, h1, h3]
        exact Ends.retI X0 hx hlk hret (hb hby d31_40) (by decide) (by decide) ⟨by rw [hr]; rfl, e0, rfl⟩
  · refine E.icmpY (q := 10) X0 hx (hb hby d31_2) (XT.ii_ge_t hq) ?_
    have hjn : ¬ 4 < n := fun q => hq ((own_ltN (a := 4) (by decide) (by omega)).mpr q)
    refine E.iconst (q := 11) (v := (0 : Int32)) X0 hx (hb hby d31_10) rfl ?_
    have hr : own_bf (own_gtI [r0, r1, r2, r3, r4]) n 3 4 = 0 := by simp [own_bf, hjn]
    exact Ends.retI X0 hx hlk hret (hb hby d31_11) (by decide) (by decide) ⟨by rw [hr]; rfl, e0, rfl⟩
theorem efBf4_0 (m : MethodId) (x0 : Addr) (x1 : Int32) (x2 : Int32) (x3 : Int32) : entryFrame m #[(.ref x0), (.int x1), (.int x2), (.int x3)] 4 = mkF m 0 #[.val (.ref x0), .val (.int x1), .val (.int x2), .val (.int x3)] [] := by first | (simp [entryFrame, mkF, argsToLocals, Value.category]; done) | rfl
theorem rmBf4_0 (l : Launch) (Z : State) (a0 : Array Value) (hw : ∀ d ∈ tables_1, d.before a0 Z = true) (oc : Addr) (r0 r1 r2 r3 r4 : Int32) (n : Nat) (hn : n ≤ 5) (h0 : Heap) (A_c : Ary Z h0 oc .int [(.int r0), (.int r1), (.int r2), (.int r3), (.int r4)]) :
    Con l (⟨"com/example/needlework/needlework/match/CompiledPatternOfPinLaw", "before", "([IIII)I"⟩ : MethodName) method_4_code 4 (some .int) [] ({ frames := 0, cells := 0, slots := 0, locals := 0 } : Room) #[(.ref oc), (.int (Int32.ofNat n)), (.int (0 : Int32)), (.int (4 : Int32))] Z h0 (fun v h L => v = some (.int (Int32.ofNat (own_bf (own_gtI [r0, r1, r2, r3, r4]) n 4 0))) ∧ h = h0 ∧ L = []) := by
  refine Con.of (plainFor_of_name pn_7) ?_
  intro p e s m below meth c s₁ hx hZ hby hml hown hnm hret hlk X0 e0
  refine Ends.cast (efBf4_0 m oc (Int32.ofNat n) (0 : Int32) (4 : Int32)) ?_
  refine E.iloadN (q := 1) X0 hx (hb hby d31_0) rfl ?_
  refine E.iloadN (q := 2) X0 hx (hb hby d31_1) rfl ?_
  by_cases hq : (0 : Int32) < (Int32.ofNat n)
  · refine E.icmpN (q := 5) X0 hx (hb hby d31_2) (XT.ii_ge_f hq) ?_
    have hjn : 0 < n := (own_ltN (a := 0) (by decide) (by omega)).mp hq
    refine E.iloadN (q := 6) X0 hx (hb hby d31_5) rfl ?_
    refine E.iloadN (q := 7) X0 hx (hb hby d31_6) rfl ?_
    refine E.icmpY (q := 12) X0 hx (hb hby d31_7) (XT.ii_ne_t (by decide)) ?_
    refine E.aloadN (q := 13) X0 hx (hb hby d31_12) rfl rfl ?_
    refine E.iloadN (q := 14) X0 hx (hb hby d31_13) rfl ?_
    refine Ends.ild X0 hx hZ e0 A_c (i := 0) rfl rfl (hb hby d31_14) ?_
    refine E.aloadN (q := 16) X0 hx (hb hby d31_15) rfl rfl ?_
    refine E.iloadN (q := 17) X0 hx (hb hby d31_16) rfl ?_
    refine Ends.ild X0 hx hZ e0 A_c (i := 4) rfl rfl (hb hby d31_17) ?_
    by_cases h1 : r4 < r0
    · refine E.icmpN (q := 21) X0 hx (hb hby d31_18) (XT.ii_le_f h1) ?_
      refine E.iconst (q := 22) (v := (1 : Int32)) X0 hx (hb hby d31_21) rfl ?_
      have hr : own_bf (own_gtI [r0, r1, r2, r3, r4]) n 4 0 = 1 := by simp [own_bf, own_gtI, hjn, h1]
      exact Ends.retI X0 hx hlk hret (hb hby d31_22) (by decide) (by decide) ⟨by rw [hr]; rfl, e0, rfl⟩
    · refine E.icmpY (q := 23) X0 hx (hb hby d31_18) (XT.ii_le_t h1) ?_
      refine E.aloadN (q := 24) X0 hx (hb hby d31_23) rfl rfl ?_
      refine E.iloadN (q := 25) X0 hx (hb hby d31_24) rfl ?_
      refine Ends.ild X0 hx hZ e0 A_c (i := 0) rfl rfl (hb hby d31_25) ?_
      refine E.aloadN (q := 27) X0 hx (hb hby d31_26) rfl rfl ?_
      refine E.iloadN (q := 28) X0 hx (hb hby d31_27) rfl ?_
      refine Ends.ild X0 hx hZ e0 A_c (i := 4) rfl rfl (hb hby d31_28) ?_
      by_cases h2 : r0 = r4
      · refine E.icmpN (q := 32) X0 hx (hb hby d31_29) (XT.ii_ne_f h2) ?_
        refine E.iloadN (q := 33) X0 hx (hb hby d31_32) rfl ?_
        refine E.iloadN (q := 34) X0 hx (hb hby d31_33) rfl ?_
        refine E.icmpN (q := 37) X0 hx (hb hby d31_34) (XT.ii_ge_f (by decide)) ?_
        refine E.iconst (q := 38) (v := (1 : Int32)) X0 hx (hb hby d31_37) rfl ?_
        have hr : own_bf (own_gtI [r0, r1, r2, r3, r4]) n 4 0 = 1 := by simp [own_bf, own_gtI, hjn, h2, Int32.lt_irrefl]
        exact Ends.retI X0 hx hlk hret (hb hby d31_38) (by decide) (by decide) ⟨by rw [hr]; rfl, e0, rfl⟩
      · refine E.icmpY (q := 39) X0 hx (hb hby d31_29) (XT.ii_ne_t h2) ?_
        have h3 : r0 < r4 := own_nlt h1 h2
        refine E.iconst (q := 40) (v := (0 : Int32)) X0 hx (hb hby d31_39) rfl ?_
        have hr : own_bf (own_gtI [r0, r1, r2, r3, r4]) n 4 0 = 0 := by simp [own_bf, own_gtI, hjn, h1, h3]
        exact Ends.retI X0 hx hlk hret (hb hby d31_40) (by decide) (by decide) ⟨by rw [hr]; rfl, e0, rfl⟩
  · refine E.icmpY (q := 10) X0 hx (hb hby d31_2) (XT.ii_ge_t hq) ?_
    have hjn : ¬ 0 < n := fun q => hq ((own_ltN (a := 0) (by decide) (by omega)).mpr q)
    refine E.iconst (q := 11) (v := (0 : Int32)) X0 hx (hb hby d31_10) rfl ?_
    have hr : own_bf (own_gtI [r0, r1, r2, r3, r4]) n 4 0 = 0 := by simp [own_bf, hjn]
    exact Ends.retI X0 hx hlk hret (hb hby d31_11) (by decide) (by decide) ⟨by rw [hr]; rfl, e0, rfl⟩
theorem efBf4_1 (m : MethodId) (x0 : Addr) (x1 : Int32) (x2 : Int32) (x3 : Int32) : entryFrame m #[(.ref x0), (.int x1), (.int x2), (.int x3)] 4 = mkF m 0 #[.val (.ref x0), .val (.int x1), .val (.int x2), .val (.int x3)] [] := by first | (simp [entryFrame, mkF, argsToLocals, Value.category]; done) | rfl
theorem rmBf4_1 (l : Launch) (Z : State) (a0 : Array Value) (hw : ∀ d ∈ tables_1, d.before a0 Z = true) (oc : Addr) (r0 r1 r2 r3 r4 : Int32) (n : Nat) (hn : n ≤ 5) (h0 : Heap) (A_c : Ary Z h0 oc .int [(.int r0), (.int r1), (.int r2), (.int r3), (.int r4)]) :
    Con l (⟨"com/example/needlework/needlework/match/CompiledPatternOfPinLaw", "before", "([IIII)I"⟩ : MethodName) method_4_code 4 (some .int) [] ({ frames := 0, cells := 0, slots := 0, locals := 0 } : Room) #[(.ref oc), (.int (Int32.ofNat n)), (.int (1 : Int32)), (.int (4 : Int32))] Z h0 (fun v h L => v = some (.int (Int32.ofNat (own_bf (own_gtI [r0, r1, r2, r3, r4]) n 4 1))) ∧ h = h0 ∧ L = []) := by
  refine Con.of (plainFor_of_name pn_7) ?_
  intro p e s m below meth c s₁ hx hZ hby hml hown hnm hret hlk X0 e0
  refine Ends.cast (efBf4_1 m oc (Int32.ofNat n) (1 : Int32) (4 : Int32)) ?_
  refine E.iloadN (q := 1) X0 hx (hb hby d31_0) rfl ?_
  refine E.iloadN (q := 2) X0 hx (hb hby d31_1) rfl ?_
  by_cases hq : (1 : Int32) < (Int32.ofNat n)
  · refine E.icmpN (q := 5) X0 hx (hb hby d31_2) (XT.ii_ge_f hq) ?_
    have hjn : 1 < n := (own_ltN (a := 1) (by decide) (by omega)).mp hq
    refine E.iloadN (q := 6) X0 hx (hb hby d31_5) rfl ?_
    refine E.iloadN (q := 7) X0 hx (hb hby d31_6) rfl ?_
    refine E.icmpY (q := 12) X0 hx (hb hby d31_7) (XT.ii_ne_t (by decide)) ?_
    refine E.aloadN (q := 13) X0 hx (hb hby d31_12) rfl rfl ?_
    refine E.iloadN (q := 14) X0 hx (hb hby d31_13) rfl ?_
    refine Ends.ild X0 hx hZ e0 A_c (i := 1) rfl rfl (hb hby d31_14) ?_
    refine E.aloadN (q := 16) X0 hx (hb hby d31_15) rfl rfl ?_
    refine E.iloadN (q := 17) X0 hx (hb hby d31_16) rfl ?_
    refine Ends.ild X0 hx hZ e0 A_c (i := 4) rfl rfl (hb hby d31_17) ?_
    by_cases h1 : r4 < r1
    · refine E.icmpN (q := 21) X0 hx (hb hby d31_18) (XT.ii_le_f h1) ?_
      refine E.iconst (q := 22) (v := (1 : Int32)) X0 hx (hb hby d31_21) rfl ?_
      have hr : own_bf (own_gtI [r0, r1, r2, r3, r4]) n 4 1 = 1 := by simp [own_bf, own_gtI, hjn, h1]
      exact Ends.retI X0 hx hlk hret (hb hby d31_22) (by decide) (by decide) ⟨by rw [hr]; rfl, e0, rfl⟩
    · refine E.icmpY (q := 23) X0 hx (hb hby d31_18) (XT.ii_le_t h1) ?_
      refine E.aloadN (q := 24) X0 hx (hb hby d31_23) rfl rfl ?_
      refine E.iloadN (q := 25) X0 hx (hb hby d31_24) rfl ?_
      refine Ends.ild X0 hx hZ e0 A_c (i := 1) rfl rfl (hb hby d31_25) ?_
      refine E.aloadN (q := 27) X0 hx (hb hby d31_26) rfl rfl ?_
      refine E.iloadN (q := 28) X0 hx (hb hby d31_27) rfl ?_
      refine Ends.ild X0 hx hZ e0 A_c (i := 4) rfl rfl (hb hby d31_28) ?_
      by_cases h2 : r1 = r4
      · refine E.icmpN (q := 32) X0 hx (hb hby d31_29) (XT.ii_ne_f h2) ?_
        refine E.iloadN (q := 33) X0 hx (hb hby d31_32) rfl ?_
        refine E.iloadN (q := 34) X0 hx (hb hby d31_33) rfl ?_
        refine E.icmpN (q := 37) X0 hx (hb hby d31_34) (XT.ii_ge_f (by decide)) ?_
        refine E.iconst (q := 38) (v := (1 : Int32)) X0 hx (hb hby d31_37) rfl ?_
        have hr : own_bf (own_gtI [r0, r1, r2, r3, r4]) n 4 1 = 1 := by simp [own_bf, own_gtI, hjn, h2, Int32.lt_irrefl]
        exact Ends.retI X0 hx hlk hret (hb hby d31_38) (by decide) (by decide) ⟨by rw [hr]; rfl, e0, rfl⟩
      · refine E.icmpY (q := 39) X0 hx (hb hby d31_29) (XT.ii_ne_t h2) ?_
        have h3 : r1 < r4 := own_nlt h1 h2
        refine E.iconst (q := 40) (v := (0 : Int32)) X0 hx (hb hby d31_39) rfl ?_
        have hr : own_bf (own_gtI [r0, r1, r2, r3, r4]) n 4 1 = 0 := by simp [own_bf, own_gtI, hjn, h1, h3]
        exact Ends.retI X0 hx hlk hret (hb hby d31_40) (by decide) (by decide) ⟨by rw [hr]; rfl, e0, rfl⟩
  · refine E.icmpY (q := 10) X0 hx (hb hby d31_2) (XT.ii_ge_t hq) ?_
    have hjn : ¬ 1 < n := fun q => hq ((own_ltN (a := 1) (by decide) (by omega)).mpr q)
    refine E.iconst (q := 11) (v := (0 : Int32)) X0 hx (hb hby d31_10) rfl ?_
    have hr : own_bf (own_gtI [r0, r1, r2, r3, r4]) n 4 1 = 0 := by simp [own_bf, hjn]
    exact Ends.retI X0 hx hlk hret (hb hby d31_11) (by decide) (by decide) ⟨by rw [hr]; rfl, e0, rfl⟩
theorem efBf4_2 (m : MethodId) (x0 : Addr) (x1 : Int32) (x2 : Int32) (x3 : Int32) : entryFrame m #[(.ref x0), (.int x1), (.int x2), (.int x3)] 4 = mkF m 0 #[.val (.ref x0), .val (.int x1), .val (.int x2), .val (.int x3)] [] := by first | (simp [entryFrame, mkF, argsToLocals, Value.category]; done) | rfl
theorem rmBf4_2 (l : Launch) (Z : State) (a0 : Array Value) (hw : ∀ d ∈ tables_1, d.before a0 Z = true) (oc : Addr) (r0 r1 r2 r3 r4 : Int32) (n : Nat) (hn : n ≤ 5) (h0 : Heap) (A_c : Ary Z h0 oc .int [(.int r0), (.int r1), (.int r2), (.int r3), (.int r4)]) :
    Con l (⟨"com/example/needlework/needlework/match/CompiledPatternOfPinLaw", "before", "([IIII)I"⟩ : MethodName) method_4_code 4 (some .int) [] ({ frames := 0, cells := 0, slots := 0, locals := 0 } : Room) #[(.ref oc), (.int (Int32.ofNat n)), (.int (2 : Int32)), (.int (4 : Int32))] Z h0 (fun v h L => v = some (.int (Int32.ofNat (own_bf (own_gtI [r0, r1, r2, r3, r4]) n 4 2))) ∧ h = h0 ∧ L = []) := by
  refine Con.of (plainFor_of_name pn_7) ?_
  intro p e s m below meth c s₁ hx hZ hby hml hown hnm hret hlk X0 e0
  refine Ends.cast (efBf4_2 m oc (Int32.ofNat n) (2 : Int32) (4 : Int32)) ?_
  refine E.iloadN (q := 1) X0 hx (hb hby d31_0) rfl ?_
  refine E.iloadN (q := 2) X0 hx (hb hby d31_1) rfl ?_
  by_cases hq : (2 : Int32) < (Int32.ofNat n)
  · refine E.icmpN (q := 5) X0 hx (hb hby d31_2) (XT.ii_ge_f hq) ?_
    have hjn : 2 < n := (own_ltN (a := 2) (by decide) (by omega)).mp hq
    refine E.iloadN (q := 6) X0 hx (hb hby d31_5) rfl ?_
    refine E.iloadN (q := 7) X0 hx (hb hby d31_6) rfl ?_
    refine E.icmpY (q := 12) X0 hx (hb hby d31_7) (XT.ii_ne_t (by decide)) ?_
    refine E.aloadN (q := 13) X0 hx (hb hby d31_12) rfl rfl ?_
    refine E.iloadN (q := 14) X0 hx (hb hby d31_13) rfl ?_
    refine Ends.ild X0 hx hZ e0 A_c (i := 2) rfl rfl (hb hby d31_14) ?_
    refine E.aloadN (q := 16) X0 hx (hb hby d31_15) rfl rfl ?_
    refine E.iloadN (q := 17) X0 hx (hb hby d31_16) rfl ?_
    refine Ends.ild X0 hx hZ e0 A_c (i := 4) rfl rfl (hb hby d31_17) ?_
    by_cases h1 : r4 < r2
    · refine E.icmpN (q := 21) X0 hx (hb hby d31_18) (XT.ii_le_f h1) ?_
      refine E.iconst (q := 22) (v := (1 : Int32)) X0 hx (hb hby d31_21) rfl ?_
      have hr : own_bf (own_gtI [r0, r1, r2, r3, r4]) n 4 2 = 1 := by simp [own_bf, own_gtI, hjn, h1]
      exact Ends.retI X0 hx hlk hret (hb hby d31_22) (by decide) (by decide) ⟨by rw [hr]; rfl, e0, rfl⟩
    · refine E.icmpY (q := 23) X0 hx (hb hby d31_18) (XT.ii_le_t h1) ?_
      refine E.aloadN (q := 24) X0 hx (hb hby d31_23) rfl rfl ?_
      refine E.iloadN (q := 25) X0 hx (hb hby d31_24) rfl ?_
      refine Ends.ild X0 hx hZ e0 A_c (i := 2) rfl rfl (hb hby d31_25) ?_
      refine E.aloadN (q := 27) X0 hx (hb hby d31_26) rfl rfl ?_
      refine E.iloadN (q := 28) X0 hx (hb hby d31_27) rfl ?_
      refine Ends.ild X0 hx hZ e0 A_c (i := 4) rfl rfl (hb hby d31_28) ?_
      by_cases h2 : r2 = r4
      · refine E.icmpN (q := 32) X0 hx (hb hby d31_29) (XT.ii_ne_f h2) ?_
        refine E.iloadN (q := 33) X0 hx (hb hby d31_32) rfl ?_
        refine E.iloadN (q := 34) X0 hx (hb hby d31_33) rfl ?_
        refine E.icmpN (q := 37) X0 hx (hb hby d31_34) (XT.ii_ge_f (by decide)) ?_
        refine E.iconst (q := 38) (v := (1 : Int32)) X0 hx (hb hby d31_37) rfl ?_
        have hr : own_bf (own_gtI [r0, r1, r2, r3, r4]) n 4 2 = 1 := by simp [own_bf, own_gtI, hjn, h2, Int32.lt_irrefl]
        exact Ends.retI X0 hx hlk hret (hb hby d31_38) (by decide) (by decide) ⟨by rw [hr]; rfl, e0, rfl⟩
      · refine E.icmpY (q := 39) X0 hx (hb hby d31_29) (XT.ii_ne_t h2) ?_
        have h3 : r2 < r4 := own_nlt h1 h2
        refine E.iconst (q := 40) (v := (0 : Int32)) X0 hx (hb hby d31_39) rfl ?_
        have hr : own_bf (own_gtI [r0, r1, r2, r3, r4]) n 4 2 = 0 := by simp [own_bf, own_gtI, hjn, h1, h3]
        exact Ends.retI X0 hx hlk hret (hb hby d31_40) (by decide) (by decide) ⟨by rw [hr]; rfl, e0, rfl⟩
  · refine E.icmpY (q := 10) X0 hx (hb hby d31_2) (XT.ii_ge_t hq) ?_
    have hjn : ¬ 2 < n := fun q => hq ((own_ltN (a := 2) (by decide) (by omega)).mpr q)
    refine E.iconst (q := 11) (v := (0 : Int32)) X0 hx (hb hby d31_10) rfl ?_
    have hr : own_bf (own_gtI [r0, r1, r2, r3, r4]) n 4 2 = 0 := by simp [own_bf, hjn]
    exact Ends.retI X0 hx hlk hret (hb hby d31_11) (by decide) (by decide) ⟨by rw [hr]; rfl, e0, rfl⟩
theorem efBf4_3 (m : MethodId) (x0 : Addr) (x1 : Int32) (x2 : Int32) (x3 : Int32) : entryFrame m #[(.ref x0), (.int x1), (.int x2), (.int x3)] 4 = mkF m 0 #[.val (.ref x0), .val (.int x1), .val (.int x2), .val (.int x3)] [] := by first | (simp [entryFrame, mkF, argsToLocals, Value.category]; done) | rfl
theorem rmBf4_3 (l : Launch) (Z : State) (a0 : Array Value) (hw : ∀ d ∈ tables_1, d.before a0 Z = true) (oc : Addr) (r0 r1 r2 r3 r4 : Int32) (n : Nat) (hn : n ≤ 5) (h0 : Heap) (A_c : Ary Z h0 oc .int [(.int r0), (.int r1), (.int r2), (.int r3), (.int r4)]) :
    Con l (⟨"com/example/needlework/needlework/match/CompiledPatternOfPinLaw", "before", "([IIII)I"⟩ : MethodName) method_4_code 4 (some .int) [] ({ frames := 0, cells := 0, slots := 0, locals := 0 } : Room) #[(.ref oc), (.int (Int32.ofNat n)), (.int (3 : Int32)), (.int (4 : Int32))] Z h0 (fun v h L => v = some (.int (Int32.ofNat (own_bf (own_gtI [r0, r1, r2, r3, r4]) n 4 3))) ∧ h = h0 ∧ L = []) := by
  refine Con.of (plainFor_of_name pn_7) ?_
  intro p e s m below meth c s₁ hx hZ hby hml hown hnm hret hlk X0 e0
  refine Ends.cast (efBf4_3 m oc (Int32.ofNat n) (3 : Int32) (4 : Int32)) ?_
  refine E.iloadN (q := 1) X0 hx (hb hby d31_0) rfl ?_
  refine E.iloadN (q := 2) X0 hx (hb hby d31_1) rfl ?_
  by_cases hq : (3 : Int32) < (Int32.ofNat n)
  · refine E.icmpN (q := 5) X0 hx (hb hby d31_2) (XT.ii_ge_f hq) ?_
    have hjn : 3 < n := (own_ltN (a := 3) (by decide) (by omega)).mp hq
    refine E.iloadN (q := 6) X0 hx (hb hby d31_5) rfl ?_
    refine E.iloadN (q := 7) X0 hx (hb hby d31_6) rfl ?_
    refine E.icmpY (q := 12) X0 hx (hb hby d31_7) (XT.ii_ne_t (by decide)) ?_
    refine E.aloadN (q := 13) X0 hx (hb hby d31_12) rfl rfl ?_
    refine E.iloadN (q := 14) X0 hx (hb hby d31_13) rfl ?_
    refine Ends.ild X0 hx hZ e0 A_c (i := 3) rfl rfl (hb hby d31_14) ?_
    refine E.aloadN (q := 16) X0 hx (hb hby d31_15) rfl rfl ?_
    refine E.iloadN (q := 17) X0 hx (hb hby d31_16) rfl ?_
    refine Ends.ild X0 hx hZ e0 A_c (i := 4) rfl rfl (hb hby d31_17) ?_
    by_cases h1 : r4 < r3
    · refine E.icmpN (q := 21) X0 hx (hb hby d31_18) (XT.ii_le_f h1) ?_
      refine E.iconst (q := 22) (v := (1 : Int32)) X0 hx (hb hby d31_21) rfl ?_
      have hr : own_bf (own_gtI [r0, r1, r2, r3, r4]) n 4 3 = 1 := by simp [own_bf, own_gtI, hjn, h1]
      exact Ends.retI X0 hx hlk hret (hb hby d31_22) (by decide) (by decide) ⟨by rw [hr]; rfl, e0, rfl⟩
    · refine E.icmpY (q := 23) X0 hx (hb hby d31_18) (XT.ii_le_t h1) ?_
      refine E.aloadN (q := 24) X0 hx (hb hby d31_23) rfl rfl ?_
      refine E.iloadN (q := 25) X0 hx (hb hby d31_24) rfl ?_
      refine Ends.ild X0 hx hZ e0 A_c (i := 3) rfl rfl (hb hby d31_25) ?_
      refine E.aloadN (q := 27) X0 hx (hb hby d31_26) rfl rfl ?_
      refine E.iloadN (q := 28) X0 hx (hb hby d31_27) rfl ?_
      refine Ends.ild X0 hx hZ e0 A_c (i := 4) rfl rfl (hb hby d31_28) ?_
      by_cases h2 : r3 = r4
      · refine E.icmpN (q := 32) X0 hx (hb hby d31_29) (XT.ii_ne_f h2) ?_
        refine E.iloadN (q := 33) X0 hx (hb hby d31_32) rfl ?_
        refine E.iloadN (q := 34) X0 hx (hb hby d31_33) rfl ?_
        refine E.icmpN (q := 37) X0 hx (hb hby d31_34) (XT.ii_ge_f (by decide)) ?_
        refine E.iconst (q := 38) (v := (1 : Int32)) X0 hx (hb hby d31_37) rfl ?_
        have hr : own_bf (own_gtI [r0, r1, r2, r3, r4]) n 4 3 = 1 := by simp [own_bf, own_gtI, hjn, h2, Int32.lt_irrefl]
        exact Ends.retI X0 hx hlk hret (hb hby d31_38) (by decide) (by decide) ⟨by rw [hr]; rfl, e0, rfl⟩
      · refine E.icmpY (q := 39) X0 hx (hb hby d31_29) (XT.ii_ne_t h2) ?_
        have h3 : r3 < r4 := own_nlt h1 h2
        refine E.iconst (q := 40) (v := (0 : Int32)) X0 hx (hb hby d31_39) rfl ?_
        have hr : own_bf (own_gtI [r0, r1, r2, r3, r4]) n 4 3 = 0 := by simp [own_bf, own_gtI, hjn, h1, h3]
        exact Ends.retI X0 hx hlk hret (hb hby d31_40) (by decide) (by decide) ⟨by rw [hr]; rfl, e0, rfl⟩
  · refine E.icmpY (q := 10) X0 hx (hb hby d31_2) (XT.ii_ge_t hq) ?_
    have hjn : ¬ 3 < n := fun q => hq ((own_ltN (a := 3) (by decide) (by omega)).mpr q)
    refine E.iconst (q := 11) (v := (0 : Int32)) X0 hx (hb hby d31_10) rfl ?_
    have hr : own_bf (own_gtI [r0, r1, r2, r3, r4]) n 4 3 = 0 := by simp [own_bf, hjn]
    exact Ends.retI X0 hx hlk hret (hb hby d31_11) (by decide) (by decide) ⟨by rw [hr]; rfl, e0, rfl⟩
theorem efBf4_4 (m : MethodId) (x0 : Addr) (x1 : Int32) (x2 : Int32) (x3 : Int32) : entryFrame m #[(.ref x0), (.int x1), (.int x2), (.int x3)] 4 = mkF m 0 #[.val (.ref x0), .val (.int x1), .val (.int x2), .val (.int x3)] [] := by first | (simp [entryFrame, mkF, argsToLocals, Value.category]; done) | rfl
theorem rmBf4_4 (l : Launch) (Z : State) (a0 : Array Value) (hw : ∀ d ∈ tables_1, d.before a0 Z = true) (oc : Addr) (r0 r1 r2 r3 r4 : Int32) (n : Nat) (hn : n ≤ 5) (h0 : Heap) (A_c : Ary Z h0 oc .int [(.int r0), (.int r1), (.int r2), (.int r3), (.int r4)]) :
    Con l (⟨"com/example/needlework/needlework/match/CompiledPatternOfPinLaw", "before", "([IIII)I"⟩ : MethodName) method_4_code 4 (some .int) [] ({ frames := 0, cells := 0, slots := 0, locals := 0 } : Room) #[(.ref oc), (.int (Int32.ofNat n)), (.int (4 : Int32)), (.int (4 : Int32))] Z h0 (fun v h L => v = some (.int (Int32.ofNat (own_bf (own_gtI [r0, r1, r2, r3, r4]) n 4 4))) ∧ h = h0 ∧ L = []) := by
  refine Con.of (plainFor_of_name pn_7) ?_
  intro p e s m below meth c s₁ hx hZ hby hml hown hnm hret hlk X0 e0
  refine Ends.cast (efBf4_4 m oc (Int32.ofNat n) (4 : Int32) (4 : Int32)) ?_
  refine E.iloadN (q := 1) X0 hx (hb hby d31_0) rfl ?_
  refine E.iloadN (q := 2) X0 hx (hb hby d31_1) rfl ?_
  by_cases hq : (4 : Int32) < (Int32.ofNat n)
  · refine E.icmpN (q := 5) X0 hx (hb hby d31_2) (XT.ii_ge_f hq) ?_
    have hjn : 4 < n := (own_ltN (a := 4) (by decide) (by omega)).mp hq
    refine E.iloadN (q := 6) X0 hx (hb hby d31_5) rfl ?_
    refine E.iloadN (q := 7) X0 hx (hb hby d31_6) rfl ?_
    refine E.icmpN (q := 10) X0 hx (hb hby d31_7) (XT.ii_ne_f (by decide)) ?_
    refine E.iconst (q := 11) (v := (0 : Int32)) X0 hx (hb hby d31_10) rfl ?_
    have hr : own_bf (own_gtI [r0, r1, r2, r3, r4]) n 4 4 = 0 := by simp [own_bf]
    exact Ends.retI X0 hx hlk hret (hb hby d31_11) (by decide) (by decide) ⟨by rw [hr]; rfl, e0, rfl⟩
  · refine E.icmpY (q := 10) X0 hx (hb hby d31_2) (XT.ii_ge_t hq) ?_
    have hjn : ¬ 4 < n := fun q => hq ((own_ltN (a := 4) (by decide) (by omega)).mpr q)
    refine E.iconst (q := 11) (v := (0 : Int32)) X0 hx (hb hby d31_10) rfl ?_
    have hr : own_bf (own_gtI [r0, r1, r2, r3, r4]) n 4 4 = 0 := by simp [own_bf, hjn]
    exact Ends.retI X0 hx hlk hret (hb hby d31_11) (by decide) (by decide) ⟨by rw [hr]; rfl, e0, rfl⟩
theorem efPo0 (m : MethodId) (x0 : Addr) (x1 : Addr) (x2 : Int32) (x3 : Int32) : entryFrame m #[(.ref x0), (.ref x1), (.int x2), (.int x3)] 5 = mkF m 0 #[.val (.ref x0), .val (.ref x1), .val (.int x2), .val (.int x3), .unset] [] := by first | (simp [entryFrame, mkF, argsToLocals, Value.category]; done) | rfl
theorem rmPo0 (l : Launch) (Z : State) (a0 : Array Value) (hw : ∀ d ∈ tables_1, d.before a0 Z = true) (oq : Addr) (oc : Addr) (r0 r1 r2 r3 r4 : Int32) (n : Nat) (hn : n ≤ 5) (pl : List Int32) (hpl : pl.length ≤ 3) (hP : 0 < n → own_ps (own_gtI [r0, r1, r2, r3, r4]) n 0 < pl.length → pl[own_ps (own_gtI [r0, r1, r2, r3, r4]) n 0]? = some (Int32.ofNat 0)) (h0 : Heap) (A_c : Ary Z h0 oc .int [(.int r0), (.int r1), (.int r2), (.int r3), (.int r4)]) (A_q : Ary Z h0 oq .int (pl.map Value.int)) :
    Con l (⟨"com/example/needlework/needlework/match/CompiledPatternOfPinLaw", "probeOk", "([I[III)Z"⟩ : MethodName) method_3_code 5 (some .boolean) [] ({ frames := 1, cells := 0, slots := 0, locals := 40 } : Room) #[(.ref oq), (.ref oc), (.int (Int32.ofNat n)), (.int (0 : Int32))] Z h0 (fun v h L => v = some (.int (1 : Int32)) ∧ h = h0 ∧ L = []) := by
  refine Con.of (plainFor_of_name pn_7) ?_
  intro p e s m below meth c s₁ hx hZ hby hml hown hnm hret hlk X0 e0
  refine Ends.cast (efPo0 m oq oc (Int32.ofNat n) (0 : Int32)) ?_
  have O0 := Ok.refl h0 []
  refine E.iloadN (q := 1) X0 hx (hb hby d18_0) rfl ?_
  refine E.iloadN (q := 2) X0 hx (hb hby d18_1) rfl ?_
  by_cases hq : (0 : Int32) < (Int32.ofNat n)
  · refine E.icmpY (q := 7) X0 hx (hb hby d18_2) (XT.ii_lt_t hq) ?_
    have hin : 0 < n := (own_ltN (a := 0) (by decide) (by omega)).mp hq
    refine E.aloadN (q := 8) X0 hx (hb hby d18_7) rfl rfl ?_
    refine E.iloadN (q := 9) X0 hx (hb hby d18_8) rfl ?_
    refine E.iconst (q := 10) (v := (0 : Int32)) X0 hx (hb hby d18_9) rfl ?_
    refine E.iloadN (q := 11) X0 hx (hb hby d18_10) rfl ?_
    refine Ends.callS X0 hx hZ hown (own_w hw 177 rfl) (own_w hw 178 rfl) (own_w hw 108 rfl) (own_w hw 179 rfl) (by decide) (argsL := [(.ref oc), (.int (Int32.ofNat n)), (.int (0 : Int32)), (.int (0 : Int32))]) (rest := []) e0 (rmBf0_0 l Z a0 hw oc r0 r1 r2 r3 r4 n hn _ A_c) (W := 0) (by decide) (by decide) (by rw [hml]; rfl) (lenOf pd_25 rfl) (Nat.le_of_eq rfl) (hb hby d18_11) (by decide) (by decide) rfl ?_
    rintro T685 v685 L685 X685 ⟨rfl, e685, rfl⟩
    rw [List.append_nil] at X685
    refine E.aloadN (q := 15) X685 hx (hb hby d18_14) rfl rfl ?_
    refine E.iloadN (q := 16) X685 hx (hb hby d18_15) rfl ?_
    refine E.iconst (q := 17) (v := (1 : Int32)) X685 hx (hb hby d18_16) rfl ?_
    refine E.iloadN (q := 18) X685 hx (hb hby d18_17) rfl ?_
    refine Ends.callS X685 hx hZ hown (own_w hw 177 rfl) (own_w hw 178 rfl) (own_w hw 108 rfl) (own_w hw 179 rfl) (by decide) (argsL := [(.ref oc), (.int (Int32.ofNat n)), (.int (1 : Int32)), (.int (0 : Int32))]) (rest := [(.int (Int32.ofNat (own_bf (own_gtI [r0, r1, r2, r3, r4]) n 0 0)))]) e685 (rmBf0_1 l Z a0 hw oc r0 r1 r2 r3 r4 n hn _ A_c) (W := 1) (by decide) (by decide) (by rw [hml]; rfl) (lenOf pd_25 rfl) (Nat.le_of_eq rfl) (hb hby d18_18) (by decide) (by decide) rfl ?_
    rintro T686 v686 L686 X686 ⟨rfl, e686, rfl⟩
    rw [List.append_nil] at X686
    refine E.iadd (q := 22) X686 hx (hb hby d18_21) ?_
    refine E.aloadN (q := 23) X686 hx (hb hby d18_22) rfl rfl ?_
    refine E.iloadN (q := 24) X686 hx (hb hby d18_23) rfl ?_
    refine E.iconst (q := 25) (v := (2 : Int32)) X686 hx (hb hby d18_24) rfl ?_
    refine E.iloadN (q := 26) X686 hx (hb hby d18_25) rfl ?_
    refine Ends.callS X686 hx hZ hown (own_w hw 177 rfl) (own_w hw 178 rfl) (own_w hw 108 rfl) (own_w hw 179 rfl) (by decide) (argsL := [(.ref oc), (.int (Int32.ofNat n)), (.int (2 : Int32)), (.int (0 : Int32))]) (rest := [(.int ((Int32.ofNat (own_bf (own_gtI [r0, r1, r2, r3, r4]) n 0 0)) + (Int32.ofNat (own_bf (own_gtI [r0, r1, r2, r3, r4]) n 0 1))))]) e686 (rmBf0_2 l Z a0 hw oc r0 r1 r2 r3 r4 n hn _ A_c) (W := 1) (by decide) (by decide) (by rw [hml]; rfl) (lenOf pd_25 rfl) (Nat.le_of_eq rfl) (hb hby d18_26) (by decide) (by decide) rfl ?_
    rintro T687 v687 L687 X687 ⟨rfl, e687, rfl⟩
    rw [List.append_nil] at X687
    refine E.iadd (q := 30) X687 hx (hb hby d18_29) ?_
    refine E.aloadN (q := 31) X687 hx (hb hby d18_30) rfl rfl ?_
    refine E.iloadN (q := 32) X687 hx (hb hby d18_31) rfl ?_
    refine E.iconst (q := 33) (v := (3 : Int32)) X687 hx (hb hby d18_32) rfl ?_
    refine E.iloadN (q := 34) X687 hx (hb hby d18_33) rfl ?_
    refine Ends.callS X687 hx hZ hown (own_w hw 177 rfl) (own_w hw 178 rfl) (own_w hw 108 rfl) (own_w hw 179 rfl) (by decide) (argsL := [(.ref oc), (.int (Int32.ofNat n)), (.int (3 : Int32)), (.int (0 : Int32))]) (rest := [(.int (((Int32.ofNat (own_bf (own_gtI [r0, r1, r2, r3, r4]) n 0 0)) + (Int32.ofNat (own_bf (own_gtI [r0, r1, r2, r3, r4]) n 0 1))) + (Int32.ofNat (own_bf (own_gtI [r0, r1, r2, r3, r4]) n 0 2))))]) e687 (rmBf0_3 l Z a0 hw oc r0 r1 r2 r3 r4 n hn _ A_c) (W := 1) (by decide) (by decide) (by rw [hml]; rfl) (lenOf pd_25 rfl) (Nat.le_of_eq rfl) (hb hby d18_34) (by decide) (by decide) rfl ?_
    rintro T688 v688 L688 X688 ⟨rfl, e688, rfl⟩
    rw [List.append_nil] at X688
    refine E.iadd (q := 38) X688 hx (hb hby d18_37) ?_
    refine E.aloadN (q := 39) X688 hx (hb hby d18_38) rfl rfl ?_
    refine E.iloadN (q := 40) X688 hx (hb hby d18_39) rfl ?_
    refine E.iconst (q := 41) (v := (4 : Int32)) X688 hx (hb hby d18_40) rfl ?_
    refine E.iloadN (q := 42) X688 hx (hb hby d18_41) rfl ?_
    refine Ends.callS X688 hx hZ hown (own_w hw 177 rfl) (own_w hw 178 rfl) (own_w hw 108 rfl) (own_w hw 179 rfl) (by decide) (argsL := [(.ref oc), (.int (Int32.ofNat n)), (.int (4 : Int32)), (.int (0 : Int32))]) (rest := [(.int ((((Int32.ofNat (own_bf (own_gtI [r0, r1, r2, r3, r4]) n 0 0)) + (Int32.ofNat (own_bf (own_gtI [r0, r1, r2, r3, r4]) n 0 1))) + (Int32.ofNat (own_bf (own_gtI [r0, r1, r2, r3, r4]) n 0 2))) + (Int32.ofNat (own_bf (own_gtI [r0, r1, r2, r3, r4]) n 0 3))))]) e688 (rmBf0_4 l Z a0 hw oc r0 r1 r2 r3 r4 n hn _ A_c) (W := 1) (by decide) (by decide) (by rw [hml]; rfl) (lenOf pd_25 rfl) (Nat.le_of_eq rfl) (hb hby d18_42) (by decide) (by decide) rfl ?_
    rintro T689 v689 L689 X689 ⟨rfl, e689, rfl⟩
    rw [List.append_nil] at X689
    refine E.iadd (q := 46) X689 hx (hb hby d18_45) ?_
    rw [own_addN, own_addN, own_addN, own_addN]
    obtain ⟨pp, hpp⟩ : ∃ z, z = own_ps (own_gtI [r0, r1, r2, r3, r4]) n 0 := ⟨_, rfl⟩
    have hpb : pp ≤ 5 := by rw [hpp]; exact own_ps_le _ _ _
    rw [show own_bf (own_gtI [r0, r1, r2, r3, r4]) n 0 0 + own_bf (own_gtI [r0, r1, r2, r3, r4]) n 0 1 + own_bf (own_gtI [r0, r1, r2, r3, r4]) n 0 2 + own_bf (own_gtI [r0, r1, r2, r3, r4]) n 0 3 + own_bf (own_gtI [r0, r1, r2, r3, r4]) n 0 4 = pp from hpp.symm]
    rw [← hpp] at hP
    refine E.istore (q := 48) (l' := #[.val (.ref oq), .val (.ref oc), .val (.int (Int32.ofNat n)), .val (.int (0 : Int32)), .val (.int (Int32.ofNat pp))]) X689 hx (hb hby d18_46) rfl ?_
    refine E.iload (q := 50) X689 hx (hb hby d18_48) rfl ?_
    refine E.aloadN (q := 51) X689 hx (hb hby d18_50) rfl rfl ?_
    refine Ends.alen X689 hx hZ e689 A_q (hb hby d18_51) (n := (Int32.ofNat pl.length)) (by rw [List.length_map]) ?_
    by_cases hq2 : (Int32.ofNat pp) < (Int32.ofNat pl.length)
    · refine E.icmpY (q := 57) X689 hx (hb hby d18_52) (XT.ii_lt_t hq2) ?_
      have hpl2 : pp < pl.length := (own_ltN (by omega) (by omega)).mp hq2
      refine E.aloadN (q := 58) X689 hx (hb hby d18_57) rfl rfl ?_
      refine E.iload (q := 60) X689 hx (hb hby d18_58) rfl ?_
      refine Ends.ild X689 hx hZ e689 A_q (i := pp) (v := .int (Int32.ofNat 0)) rfl (by rw [List.getElem?_map, hP hin hpl2]; rfl) (hb hby d18_60) ?_
      refine E.iloadN (q := 62) X689 hx (hb hby d18_61) rfl ?_
      refine E.icmpN (q := 65) X689 hx (hb hby d18_62) (XT.ii_ne_f rfl) ?_
      refine E.iconst (q := 66) (v := (1 : Int32)) X689 hx (hb hby d18_65) rfl ?_
      refine E.goto (q := 70) X689 hx (hb hby d18_66) ?_
      exact Ends.retS X689 hx hlk hret (by simp) rfl (hb hby d18_70) (by decide) (by decide) ⟨rfl, e689, rfl⟩
    · refine E.icmpN (q := 55) X689 hx (hb hby d18_52) (XT.ii_lt_f hq2) ?_
      refine E.iconst (q := 56) (v := (1 : Int32)) X689 hx (hb hby d18_55) rfl ?_
      exact Ends.retS X689 hx hlk hret (by simp) rfl (hb hby d18_56) (by decide) (by decide) ⟨rfl, e689, rfl⟩
  · refine E.icmpN (q := 5) X0 hx (hb hby d18_2) (XT.ii_lt_f hq) ?_
    refine E.iconst (q := 6) (v := (1 : Int32)) X0 hx (hb hby d18_5) rfl ?_
    exact Ends.retS X0 hx hlk hret (by simp) rfl (hb hby d18_6) (by decide) (by decide) ⟨rfl, e0, rfl⟩
theorem efPo1 (m : MethodId) (x0 : Addr) (x1 : Addr) (x2 : Int32) (x3 : Int32) : entryFrame m #[(.ref x0), (.ref x1), (.int x2), (.int x3)] 5 = mkF m 0 #[.val (.ref x0), .val (.ref x1), .val (.int x2), .val (.int x3), .unset] [] := by first | (simp [entryFrame, mkF, argsToLocals, Value.category]; done) | rfl
theorem rmPo1 (l : Launch) (Z : State) (a0 : Array Value) (hw : ∀ d ∈ tables_1, d.before a0 Z = true) (oq : Addr) (oc : Addr) (r0 r1 r2 r3 r4 : Int32) (n : Nat) (hn : n ≤ 5) (pl : List Int32) (hpl : pl.length ≤ 3) (hP : 1 < n → own_ps (own_gtI [r0, r1, r2, r3, r4]) n 1 < pl.length → pl[own_ps (own_gtI [r0, r1, r2, r3, r4]) n 1]? = some (Int32.ofNat 1)) (h0 : Heap) (A_c : Ary Z h0 oc .int [(.int r0), (.int r1), (.int r2), (.int r3), (.int r4)]) (A_q : Ary Z h0 oq .int (pl.map Value.int)) :
    Con l (⟨"com/example/needlework/needlework/match/CompiledPatternOfPinLaw", "probeOk", "([I[III)Z"⟩ : MethodName) method_3_code 5 (some .boolean) [] ({ frames := 1, cells := 0, slots := 0, locals := 40 } : Room) #[(.ref oq), (.ref oc), (.int (Int32.ofNat n)), (.int (1 : Int32))] Z h0 (fun v h L => v = some (.int (1 : Int32)) ∧ h = h0 ∧ L = []) := by
  refine Con.of (plainFor_of_name pn_7) ?_
  intro p e s m below meth c s₁ hx hZ hby hml hown hnm hret hlk X0 e0
  refine Ends.cast (efPo1 m oq oc (Int32.ofNat n) (1 : Int32)) ?_
  have O0 := Ok.refl h0 []
  refine E.iloadN (q := 1) X0 hx (hb hby d18_0) rfl ?_
  refine E.iloadN (q := 2) X0 hx (hb hby d18_1) rfl ?_
  by_cases hq : (1 : Int32) < (Int32.ofNat n)
  · refine E.icmpY (q := 7) X0 hx (hb hby d18_2) (XT.ii_lt_t hq) ?_
    have hin : 1 < n := (own_ltN (a := 1) (by decide) (by omega)).mp hq
    refine E.aloadN (q := 8) X0 hx (hb hby d18_7) rfl rfl ?_
    refine E.iloadN (q := 9) X0 hx (hb hby d18_8) rfl ?_
    refine E.iconst (q := 10) (v := (0 : Int32)) X0 hx (hb hby d18_9) rfl ?_
    refine E.iloadN (q := 11) X0 hx (hb hby d18_10) rfl ?_
    refine Ends.callS X0 hx hZ hown (own_w hw 177 rfl) (own_w hw 178 rfl) (own_w hw 108 rfl) (own_w hw 179 rfl) (by decide) (argsL := [(.ref oc), (.int (Int32.ofNat n)), (.int (0 : Int32)), (.int (1 : Int32))]) (rest := []) e0 (rmBf1_0 l Z a0 hw oc r0 r1 r2 r3 r4 n hn _ A_c) (W := 0) (by decide) (by decide) (by rw [hml]; rfl) (lenOf pd_25 rfl) (Nat.le_of_eq rfl) (hb hby d18_11) (by decide) (by decide) rfl ?_
    rintro T690 v690 L690 X690 ⟨rfl, e690, rfl⟩
    rw [List.append_nil] at X690
    refine E.aloadN (q := 15) X690 hx (hb hby d18_14) rfl rfl ?_
    refine E.iloadN (q := 16) X690 hx (hb hby d18_15) rfl ?_
    refine E.iconst (q := 17) (v := (1 : Int32)) X690 hx (hb hby d18_16) rfl ?_
    refine E.iloadN (q := 18) X690 hx (hb hby d18_17) rfl ?_
    refine Ends.callS X690 hx hZ hown (own_w hw 177 rfl) (own_w hw 178 rfl) (own_w hw 108 rfl) (own_w hw 179 rfl) (by decide) (argsL := [(.ref oc), (.int (Int32.ofNat n)), (.int (1 : Int32)), (.int (1 : Int32))]) (rest := [(.int (Int32.ofNat (own_bf (own_gtI [r0, r1, r2, r3, r4]) n 1 0)))]) e690 (rmBf1_1 l Z a0 hw oc r0 r1 r2 r3 r4 n hn _ A_c) (W := 1) (by decide) (by decide) (by rw [hml]; rfl) (lenOf pd_25 rfl) (Nat.le_of_eq rfl) (hb hby d18_18) (by decide) (by decide) rfl ?_
    rintro T691 v691 L691 X691 ⟨rfl, e691, rfl⟩
    rw [List.append_nil] at X691
    refine E.iadd (q := 22) X691 hx (hb hby d18_21) ?_
    refine E.aloadN (q := 23) X691 hx (hb hby d18_22) rfl rfl ?_
    refine E.iloadN (q := 24) X691 hx (hb hby d18_23) rfl ?_
    refine E.iconst (q := 25) (v := (2 : Int32)) X691 hx (hb hby d18_24) rfl ?_
    refine E.iloadN (q := 26) X691 hx (hb hby d18_25) rfl ?_
    refine Ends.callS X691 hx hZ hown (own_w hw 177 rfl) (own_w hw 178 rfl) (own_w hw 108 rfl) (own_w hw 179 rfl) (by decide) (argsL := [(.ref oc), (.int (Int32.ofNat n)), (.int (2 : Int32)), (.int (1 : Int32))]) (rest := [(.int ((Int32.ofNat (own_bf (own_gtI [r0, r1, r2, r3, r4]) n 1 0)) + (Int32.ofNat (own_bf (own_gtI [r0, r1, r2, r3, r4]) n 1 1))))]) e691 (rmBf1_2 l Z a0 hw oc r0 r1 r2 r3 r4 n hn _ A_c) (W := 1) (by decide) (by decide) (by rw [hml]; rfl) (lenOf pd_25 rfl) (Nat.le_of_eq rfl) (hb hby d18_26) (by decide) (by decide) rfl ?_
    rintro T692 v692 L692 X692 ⟨rfl, e692, rfl⟩
    rw [List.append_nil] at X692
    refine E.iadd (q := 30) X692 hx (hb hby d18_29) ?_
    refine E.aloadN (q := 31) X692 hx (hb hby d18_30) rfl rfl ?_
    refine E.iloadN (q := 32) X692 hx (hb hby d18_31) rfl ?_
    refine E.iconst (q := 33) (v := (3 : Int32)) X692 hx (hb hby d18_32) rfl ?_
    refine E.iloadN (q := 34) X692 hx (hb hby d18_33) rfl ?_
    refine Ends.callS X692 hx hZ hown (own_w hw 177 rfl) (own_w hw 178 rfl) (own_w hw 108 rfl) (own_w hw 179 rfl) (by decide) (argsL := [(.ref oc), (.int (Int32.ofNat n)), (.int (3 : Int32)), (.int (1 : Int32))]) (rest := [(.int (((Int32.ofNat (own_bf (own_gtI [r0, r1, r2, r3, r4]) n 1 0)) + (Int32.ofNat (own_bf (own_gtI [r0, r1, r2, r3, r4]) n 1 1))) + (Int32.ofNat (own_bf (own_gtI [r0, r1, r2, r3, r4]) n 1 2))))]) e692 (rmBf1_3 l Z a0 hw oc r0 r1 r2 r3 r4 n hn _ A_c) (W := 1) (by decide) (by decide) (by rw [hml]; rfl) (lenOf pd_25 rfl) (Nat.le_of_eq rfl) (hb hby d18_34) (by decide) (by decide) rfl ?_
    rintro T693 v693 L693 X693 ⟨rfl, e693, rfl⟩
    rw [List.append_nil] at X693
    refine E.iadd (q := 38) X693 hx (hb hby d18_37) ?_
    refine E.aloadN (q := 39) X693 hx (hb hby d18_38) rfl rfl ?_
    refine E.iloadN (q := 40) X693 hx (hb hby d18_39) rfl ?_
    refine E.iconst (q := 41) (v := (4 : Int32)) X693 hx (hb hby d18_40) rfl ?_
    refine E.iloadN (q := 42) X693 hx (hb hby d18_41) rfl ?_
    refine Ends.callS X693 hx hZ hown (own_w hw 177 rfl) (own_w hw 178 rfl) (own_w hw 108 rfl) (own_w hw 179 rfl) (by decide) (argsL := [(.ref oc), (.int (Int32.ofNat n)), (.int (4 : Int32)), (.int (1 : Int32))]) (rest := [(.int ((((Int32.ofNat (own_bf (own_gtI [r0, r1, r2, r3, r4]) n 1 0)) + (Int32.ofNat (own_bf (own_gtI [r0, r1, r2, r3, r4]) n 1 1))) + (Int32.ofNat (own_bf (own_gtI [r0, r1, r2, r3, r4]) n 1 2))) + (Int32.ofNat (own_bf (own_gtI [r0, r1, r2, r3, r4]) n 1 3))))]) e693 (rmBf1_4 l Z a0 hw oc r0 r1 r2 r3 r4 n hn _ A_c) (W := 1) (by decide) (by decide) (by rw [hml]; rfl) (lenOf pd_25 rfl) (Nat.le_of_eq rfl) (hb hby d18_42) (by decide) (by decide) rfl ?_
    rintro T694 v694 L694 X694 ⟨rfl, e694, rfl⟩
    rw [List.append_nil] at X694
    refine E.iadd (q := 46) X694 hx (hb hby d18_45) ?_
    rw [own_addN, own_addN, own_addN, own_addN]
    obtain ⟨pp, hpp⟩ : ∃ z, z = own_ps (own_gtI [r0, r1, r2, r3, r4]) n 1 := ⟨_, rfl⟩
    have hpb : pp ≤ 5 := by rw [hpp]; exact own_ps_le _ _ _
    rw [show own_bf (own_gtI [r0, r1, r2, r3, r4]) n 1 0 + own_bf (own_gtI [r0, r1, r2, r3, r4]) n 1 1 + own_bf (own_gtI [r0, r1, r2, r3, r4]) n 1 2 + own_bf (own_gtI [r0, r1, r2, r3, r4]) n 1 3 + own_bf (own_gtI [r0, r1, r2, r3, r4]) n 1 4 = pp from hpp.symm]
    rw [← hpp] at hP
    refine E.istore (q := 48) (l' := #[.val (.ref oq), .val (.ref oc), .val (.int (Int32.ofNat n)), .val (.int (1 : Int32)), .val (.int (Int32.ofNat pp))]) X694 hx (hb hby d18_46) rfl ?_
    refine E.iload (q := 50) X694 hx (hb hby d18_48) rfl ?_
    refine E.aloadN (q := 51) X694 hx (hb hby d18_50) rfl rfl ?_
    refine Ends.alen X694 hx hZ e694 A_q (hb hby d18_51) (n := (Int32.ofNat pl.length)) (by rw [List.length_map]) ?_
    by_cases hq2 : (Int32.ofNat pp) < (Int32.ofNat pl.length)
    · refine E.icmpY (q := 57) X694 hx (hb hby d18_52) (XT.ii_lt_t hq2) ?_
      have hpl2 : pp < pl.length := (own_ltN (by omega) (by omega)).mp hq2
      refine E.aloadN (q := 58) X694 hx (hb hby d18_57) rfl rfl ?_
      refine E.iload (q := 60) X694 hx (hb hby d18_58) rfl ?_
      refine Ends.ild X694 hx hZ e694 A_q (i := pp) (v := .int (Int32.ofNat 1)) rfl (by rw [List.getElem?_map, hP hin hpl2]; rfl) (hb hby d18_60) ?_
      refine E.iloadN (q := 62) X694 hx (hb hby d18_61) rfl ?_
      refine E.icmpN (q := 65) X694 hx (hb hby d18_62) (XT.ii_ne_f rfl) ?_
      refine E.iconst (q := 66) (v := (1 : Int32)) X694 hx (hb hby d18_65) rfl ?_
      refine E.goto (q := 70) X694 hx (hb hby d18_66) ?_
      exact Ends.retS X694 hx hlk hret (by simp) rfl (hb hby d18_70) (by decide) (by decide) ⟨rfl, e694, rfl⟩
    · refine E.icmpN (q := 55) X694 hx (hb hby d18_52) (XT.ii_lt_f hq2) ?_
      refine E.iconst (q := 56) (v := (1 : Int32)) X694 hx (hb hby d18_55) rfl ?_
      exact Ends.retS X694 hx hlk hret (by simp) rfl (hb hby d18_56) (by decide) (by decide) ⟨rfl, e694, rfl⟩
  · refine E.icmpN (q := 5) X0 hx (hb hby d18_2) (XT.ii_lt_f hq) ?_
    refine E.iconst (q := 6) (v := (1 : Int32)) X0 hx (hb hby d18_5) rfl ?_
    exact Ends.retS X0 hx hlk hret (by simp) rfl (hb hby d18_6) (by decide) (by decide) ⟨rfl, e0, rfl⟩
theorem efPo2 (m : MethodId) (x0 : Addr) (x1 : Addr) (x2 : Int32) (x3 : Int32) : entryFrame m #[(.ref x0), (.ref x1), (.int x2), (.int x3)] 5 = mkF m 0 #[.val (.ref x0), .val (.ref x1), .val (.int x2), .val (.int x3), .unset] [] := by first | (simp [entryFrame, mkF, argsToLocals, Value.category]; done) | rfl
theorem rmPo2 (l : Launch) (Z : State) (a0 : Array Value) (hw : ∀ d ∈ tables_1, d.before a0 Z = true) (oq : Addr) (oc : Addr) (r0 r1 r2 r3 r4 : Int32) (n : Nat) (hn : n ≤ 5) (pl : List Int32) (hpl : pl.length ≤ 3) (hP : 2 < n → own_ps (own_gtI [r0, r1, r2, r3, r4]) n 2 < pl.length → pl[own_ps (own_gtI [r0, r1, r2, r3, r4]) n 2]? = some (Int32.ofNat 2)) (h0 : Heap) (A_c : Ary Z h0 oc .int [(.int r0), (.int r1), (.int r2), (.int r3), (.int r4)]) (A_q : Ary Z h0 oq .int (pl.map Value.int)) :
    Con l (⟨"com/example/needlework/needlework/match/CompiledPatternOfPinLaw", "probeOk", "([I[III)Z"⟩ : MethodName) method_3_code 5 (some .boolean) [] ({ frames := 1, cells := 0, slots := 0, locals := 40 } : Room) #[(.ref oq), (.ref oc), (.int (Int32.ofNat n)), (.int (2 : Int32))] Z h0 (fun v h L => v = some (.int (1 : Int32)) ∧ h = h0 ∧ L = []) := by
  refine Con.of (plainFor_of_name pn_7) ?_
  intro p e s m below meth c s₁ hx hZ hby hml hown hnm hret hlk X0 e0
  refine Ends.cast (efPo2 m oq oc (Int32.ofNat n) (2 : Int32)) ?_
  have O0 := Ok.refl h0 []
  refine E.iloadN (q := 1) X0 hx (hb hby d18_0) rfl ?_
  refine E.iloadN (q := 2) X0 hx (hb hby d18_1) rfl ?_
  by_cases hq : (2 : Int32) < (Int32.ofNat n)
  · refine E.icmpY (q := 7) X0 hx (hb hby d18_2) (XT.ii_lt_t hq) ?_
    have hin : 2 < n := (own_ltN (a := 2) (by decide) (by omega)).mp hq
    refine E.aloadN (q := 8) X0 hx (hb hby d18_7) rfl rfl ?_
    refine E.iloadN (q := 9) X0 hx (hb hby d18_8) rfl ?_
    refine E.iconst (q := 10) (v := (0 : Int32)) X0 hx (hb hby d18_9) rfl ?_
    refine E.iloadN (q := 11) X0 hx (hb hby d18_10) rfl ?_
    refine Ends.callS X0 hx hZ hown (own_w hw 177 rfl) (own_w hw 178 rfl) (own_w hw 108 rfl) (own_w hw 179 rfl) (by decide) (argsL := [(.ref oc), (.int (Int32.ofNat n)), (.int (0 : Int32)), (.int (2 : Int32))]) (rest := []) e0 (rmBf2_0 l Z a0 hw oc r0 r1 r2 r3 r4 n hn _ A_c) (W := 0) (by decide) (by decide) (by rw [hml]; rfl) (lenOf pd_25 rfl) (Nat.le_of_eq rfl) (hb hby d18_11) (by decide) (by decide) rfl ?_
    rintro T695 v695 L695 X695 ⟨rfl, e695, rfl⟩
    rw [List.append_nil] at X695
    refine E.aloadN (q := 15) X695 hx (hb hby d18_14) rfl rfl ?_
    refine E.iloadN (q := 16) X695 hx (hb hby d18_15) rfl ?_
    refine E.iconst (q := 17) (v := (1 : Int32)) X695 hx (hb hby d18_16) rfl ?_
    refine E.iloadN (q := 18) X695 hx (hb hby d18_17) rfl ?_
    refine Ends.callS X695 hx hZ hown (own_w hw 177 rfl) (own_w hw 178 rfl) (own_w hw 108 rfl) (own_w hw 179 rfl) (by decide) (argsL := [(.ref oc), (.int (Int32.ofNat n)), (.int (1 : Int32)), (.int (2 : Int32))]) (rest := [(.int (Int32.ofNat (own_bf (own_gtI [r0, r1, r2, r3, r4]) n 2 0)))]) e695 (rmBf2_1 l Z a0 hw oc r0 r1 r2 r3 r4 n hn _ A_c) (W := 1) (by decide) (by decide) (by rw [hml]; rfl) (lenOf pd_25 rfl) (Nat.le_of_eq rfl) (hb hby d18_18) (by decide) (by decide) rfl ?_
    rintro T696 v696 L696 X696 ⟨rfl, e696, rfl⟩
    rw [List.append_nil] at X696
    refine E.iadd (q := 22) X696 hx (hb hby d18_21) ?_
    refine E.aloadN (q := 23) X696 hx (hb hby d18_22) rfl rfl ?_
    refine E.iloadN (q := 24) X696 hx (hb hby d18_23) rfl ?_
    refine E.iconst (q := 25) (v := (2 : Int32)) X696 hx (hb hby d18_24) rfl ?_
    refine E.iloadN (q := 26) X696 hx (hb hby d18_25) rfl ?_
    refine Ends.callS X696 hx hZ hown (own_w hw 177 rfl) (own_w hw 178 rfl) (own_w hw 108 rfl) (own_w hw 179 rfl) (by decide) (argsL := [(.ref oc), (.int (Int32.ofNat n)), (.int (2 : Int32)), (.int (2 : Int32))]) (rest := [(.int ((Int32.ofNat (own_bf (own_gtI [r0, r1, r2, r3, r4]) n 2 0)) + (Int32.ofNat (own_bf (own_gtI [r0, r1, r2, r3, r4]) n 2 1))))]) e696 (rmBf2_2 l Z a0 hw oc r0 r1 r2 r3 r4 n hn _ A_c) (W := 1) (by decide) (by decide) (by rw [hml]; rfl) (lenOf pd_25 rfl) (Nat.le_of_eq rfl) (hb hby d18_26) (by decide) (by decide) rfl ?_
    rintro T697 v697 L697 X697 ⟨rfl, e697, rfl⟩
    rw [List.append_nil] at X697
    refine E.iadd (q := 30) X697 hx (hb hby d18_29) ?_
    refine E.aloadN (q := 31) X697 hx (hb hby d18_30) rfl rfl ?_
    refine E.iloadN (q := 32) X697 hx (hb hby d18_31) rfl ?_
    refine E.iconst (q := 33) (v := (3 : Int32)) X697 hx (hb hby d18_32) rfl ?_
    refine E.iloadN (q := 34) X697 hx (hb hby d18_33) rfl ?_
    refine Ends.callS X697 hx hZ hown (own_w hw 177 rfl) (own_w hw 178 rfl) (own_w hw 108 rfl) (own_w hw 179 rfl) (by decide) (argsL := [(.ref oc), (.int (Int32.ofNat n)), (.int (3 : Int32)), (.int (2 : Int32))]) (rest := [(.int (((Int32.ofNat (own_bf (own_gtI [r0, r1, r2, r3, r4]) n 2 0)) + (Int32.ofNat (own_bf (own_gtI [r0, r1, r2, r3, r4]) n 2 1))) + (Int32.ofNat (own_bf (own_gtI [r0, r1, r2, r3, r4]) n 2 2))))]) e697 (rmBf2_3 l Z a0 hw oc r0 r1 r2 r3 r4 n hn _ A_c) (W := 1) (by decide) (by decide) (by rw [hml]; rfl) (lenOf pd_25 rfl) (Nat.le_of_eq rfl) (hb hby d18_34) (by decide) (by decide) rfl ?_
    rintro T698 v698 L698 X698 ⟨rfl, e698, rfl⟩
    rw [List.append_nil] at X698
    refine E.iadd (q := 38) X698 hx (hb hby d18_37) ?_
    refine E.aloadN (q := 39) X698 hx (hb hby d18_38) rfl rfl ?_
    refine E.iloadN (q := 40) X698 hx (hb hby d18_39) rfl ?_
    refine E.iconst (q := 41) (v := (4 : Int32)) X698 hx (hb hby d18_40) rfl ?_
    refine E.iloadN (q := 42) X698 hx (hb hby d18_41) rfl ?_
    refine Ends.callS X698 hx hZ hown (own_w hw 177 rfl) (own_w hw 178 rfl) (own_w hw 108 rfl) (own_w hw 179 rfl) (by decide) (argsL := [(.ref oc), (.int (Int32.ofNat n)), (.int (4 : Int32)), (.int (2 : Int32))]) (rest := [(.int ((((Int32.ofNat (own_bf (own_gtI [r0, r1, r2, r3, r4]) n 2 0)) + (Int32.ofNat (own_bf (own_gtI [r0, r1, r2, r3, r4]) n 2 1))) + (Int32.ofNat (own_bf (own_gtI [r0, r1, r2, r3, r4]) n 2 2))) + (Int32.ofNat (own_bf (own_gtI [r0, r1, r2, r3, r4]) n 2 3))))]) e698 (rmBf2_4 l Z a0 hw oc r0 r1 r2 r3 r4 n hn _ A_c) (W := 1) (by decide) (by decide) (by rw [hml]; rfl) (lenOf pd_25 rfl) (Nat.le_of_eq rfl) (hb hby d18_42) (by decide) (by decide) rfl ?_
    rintro T699 v699 L699 X699 ⟨rfl, e699, rfl⟩
    rw [List.append_nil] at X699
    refine E.iadd (q := 46) X699 hx (hb hby d18_45) ?_
    rw [own_addN, own_addN, own_addN, own_addN]
    obtain ⟨pp, hpp⟩ : ∃ z, z = own_ps (own_gtI [r0, r1, r2, r3, r4]) n 2 := ⟨_, rfl⟩
    have hpb : pp ≤ 5 := by rw [hpp]; exact own_ps_le _ _ _
    rw [show own_bf (own_gtI [r0, r1, r2, r3, r4]) n 2 0 + own_bf (own_gtI [r0, r1, r2, r3, r4]) n 2 1 + own_bf (own_gtI [r0, r1, r2, r3, r4]) n 2 2 + own_bf (own_gtI [r0, r1, r2, r3, r4]) n 2 3 + own_bf (own_gtI [r0, r1, r2, r3, r4]) n 2 4 = pp from hpp.symm]
    rw [← hpp] at hP
    refine E.istore (q := 48) (l' := #[.val (.ref oq), .val (.ref oc), .val (.int (Int32.ofNat n)), .val (.int (2 : Int32)), .val (.int (Int32.ofNat pp))]) X699 hx (hb hby d18_46) rfl ?_
    refine E.iload (q := 50) X699 hx (hb hby d18_48) rfl ?_
    refine E.aloadN (q := 51) X699 hx (hb hby d18_50) rfl rfl ?_
    refine Ends.alen X699 hx hZ e699 A_q (hb hby d18_51) (n := (Int32.ofNat pl.length)) (by rw [List.length_map]) ?_
    by_cases hq2 : (Int32.ofNat pp) < (Int32.ofNat pl.length)
    · refine E.icmpY (q := 57) X699 hx (hb hby d18_52) (XT.ii_lt_t hq2) ?_
      have hpl2 : pp < pl.length := (own_ltN (by omega) (by omega)).mp hq2
      refine E.aloadN (q := 58) X699 hx (hb hby d18_57) rfl rfl ?_
      refine E.iload (q := 60) X699 hx (hb hby d18_58) rfl ?_
      refine Ends.ild X699 hx hZ e699 A_q (i := pp) (v := .int (Int32.ofNat 2)) rfl (by rw [List.getElem?_map, hP hin hpl2]; rfl) (hb hby d18_60) ?_
      refine E.iloadN (q := 62) X699 hx (hb hby d18_61) rfl ?_
      refine E.icmpN (q := 65) X699 hx (hb hby d18_62) (XT.ii_ne_f rfl) ?_
      refine E.iconst (q := 66) (v := (1 : Int32)) X699 hx (hb hby d18_65) rfl ?_
      refine E.goto (q := 70) X699 hx (hb hby d18_66) ?_
      exact Ends.retS X699 hx hlk hret (by simp) rfl (hb hby d18_70) (by decide) (by decide) ⟨rfl, e699, rfl⟩
    · refine E.icmpN (q := 55) X699 hx (hb hby d18_52) (XT.ii_lt_f hq2) ?_
      refine E.iconst (q := 56) (v := (1 : Int32)) X699 hx (hb hby d18_55) rfl ?_
      exact Ends.retS X699 hx hlk hret (by simp) rfl (hb hby d18_56) (by decide) (by decide) ⟨rfl, e699, rfl⟩
  · refine E.icmpN (q := 5) X0 hx (hb hby d18_2) (XT.ii_lt_f hq) ?_
    refine E.iconst (q := 6) (v := (1 : Int32)) X0 hx (hb hby d18_5) rfl ?_
    exact Ends.retS X0 hx hlk hret (by simp) rfl (hb hby d18_6) (by decide) (by decide) ⟨rfl, e0, rfl⟩
theorem efPo3 (m : MethodId) (x0 : Addr) (x1 : Addr) (x2 : Int32) (x3 : Int32) : entryFrame m #[(.ref x0), (.ref x1), (.int x2), (.int x3)] 5 = mkF m 0 #[.val (.ref x0), .val (.ref x1), .val (.int x2), .val (.int x3), .unset] [] := by first | (simp [entryFrame, mkF, argsToLocals, Value.category]; done) | rfl
theorem rmPo3 (l : Launch) (Z : State) (a0 : Array Value) (hw : ∀ d ∈ tables_1, d.before a0 Z = true) (oq : Addr) (oc : Addr) (r0 r1 r2 r3 r4 : Int32) (n : Nat) (hn : n ≤ 5) (pl : List Int32) (hpl : pl.length ≤ 3) (hP : 3 < n → own_ps (own_gtI [r0, r1, r2, r3, r4]) n 3 < pl.length → pl[own_ps (own_gtI [r0, r1, r2, r3, r4]) n 3]? = some (Int32.ofNat 3)) (h0 : Heap) (A_c : Ary Z h0 oc .int [(.int r0), (.int r1), (.int r2), (.int r3), (.int r4)]) (A_q : Ary Z h0 oq .int (pl.map Value.int)) :
    Con l (⟨"com/example/needlework/needlework/match/CompiledPatternOfPinLaw", "probeOk", "([I[III)Z"⟩ : MethodName) method_3_code 5 (some .boolean) [] ({ frames := 1, cells := 0, slots := 0, locals := 40 } : Room) #[(.ref oq), (.ref oc), (.int (Int32.ofNat n)), (.int (3 : Int32))] Z h0 (fun v h L => v = some (.int (1 : Int32)) ∧ h = h0 ∧ L = []) := by
  refine Con.of (plainFor_of_name pn_7) ?_
  intro p e s m below meth c s₁ hx hZ hby hml hown hnm hret hlk X0 e0
  refine Ends.cast (efPo3 m oq oc (Int32.ofNat n) (3 : Int32)) ?_
  have O0 := Ok.refl h0 []
  refine E.iloadN (q := 1) X0 hx (hb hby d18_0) rfl ?_
  refine E.iloadN (q := 2) X0 hx (hb hby d18_1) rfl ?_
  by_cases hq : (3 : Int32) < (Int32.ofNat n)
  · refine E.icmpY (q := 7) X0 hx (hb hby d18_2) (XT.ii_lt_t hq) ?_
    have hin : 3 < n := (own_ltN (a := 3) (by decide) (by omega)).mp hq
    refine E.aloadN (q := 8) X0 hx (hb hby d18_7) rfl rfl ?_
    refine E.iloadN (q := 9) X0 hx (hb hby d18_8) rfl ?_
    refine E.iconst (q := 10) (v := (0 : Int32)) X0 hx (hb hby d18_9) rfl ?_
    refine E.iloadN (q := 11) X0 hx (hb hby d18_10) rfl ?_
    refine Ends.callS X0 hx hZ hown (own_w hw 177 rfl) (own_w hw 178 rfl) (own_w hw 108 rfl) (own_w hw 179 rfl) (by decide) (argsL := [(.ref oc), (.int (Int32.ofNat n)), (.int (0 : Int32)), (.int (3 : Int32))]) (rest := []) e0 (rmBf3_0 l Z a0 hw oc r0 r1 r2 r3 r4 n hn _ A_c) (W := 0) (by decide) (by decide) (by rw [hml]; rfl) (lenOf pd_25 rfl) (Nat.le_of_eq rfl) (hb hby d18_11) (by decide) (by decide) rfl ?_
    rintro T700 v700 L700 X700 ⟨rfl, e700, rfl⟩
    rw [List.append_nil] at X700
    refine E.aloadN (q := 15) X700 hx (hb hby d18_14) rfl rfl ?_
    refine E.iloadN (q := 16) X700 hx (hb hby d18_15) rfl ?_
    refine E.iconst (q := 17) (v := (1 : Int32)) X700 hx (hb hby d18_16) rfl ?_
    refine E.iloadN (q := 18) X700 hx (hb hby d18_17) rfl ?_
    refine Ends.callS X700 hx hZ hown (own_w hw 177 rfl) (own_w hw 178 rfl) (own_w hw 108 rfl) (own_w hw 179 rfl) (by decide) (argsL := [(.ref oc), (.int (Int32.ofNat n)), (.int (1 : Int32)), (.int (3 : Int32))]) (rest := [(.int (Int32.ofNat (own_bf (own_gtI [r0, r1, r2, r3, r4]) n 3 0)))]) e700 (rmBf3_1 l Z a0 hw oc r0 r1 r2 r3 r4 n hn _ A_c) (W := 1) (by decide) (by decide) (by rw [hml]; rfl) (lenOf pd_25 rfl) (Nat.le_of_eq rfl) (hb hby d18_18) (by decide) (by decide) rfl ?_
    rintro T701 v701 L701 X701 ⟨rfl, e701, rfl⟩
    rw [List.append_nil] at X701
    refine E.iadd (q := 22) X701 hx (hb hby d18_21) ?_
    refine E.aloadN (q := 23) X701 hx (hb hby d18_22) rfl rfl ?_
    refine E.iloadN (q := 24) X701 hx (hb hby d18_23) rfl ?_
    refine E.iconst (q := 25) (v := (2 : Int32)) X701 hx (hb hby d18_24) rfl ?_
    refine E.iloadN (q := 26) X701 hx (hb hby d18_25) rfl ?_
    refine Ends.callS X701 hx hZ hown (own_w hw 177 rfl) (own_w hw 178 rfl) (own_w hw 108 rfl) (own_w hw 179 rfl) (by decide) (argsL := [(.ref oc), (.int (Int32.ofNat n)), (.int (2 : Int32)), (.int (3 : Int32))]) (rest := [(.int ((Int32.ofNat (own_bf (own_gtI [r0, r1, r2, r3, r4]) n 3 0)) + (Int32.ofNat (own_bf (own_gtI [r0, r1, r2, r3, r4]) n 3 1))))]) e701 (rmBf3_2 l Z a0 hw oc r0 r1 r2 r3 r4 n hn _ A_c) (W := 1) (by decide) (by decide) (by rw [hml]; rfl) (lenOf pd_25 rfl) (Nat.le_of_eq rfl) (hb hby d18_26) (by decide) (by decide) rfl ?_
    rintro T702 v702 L702 X702 ⟨rfl, e702, rfl⟩
    rw [List.append_nil] at X702
    refine E.iadd (q := 30) X702 hx (hb hby d18_29) ?_
    refine E.aloadN (q := 31) X702 hx (hb hby d18_30) rfl rfl ?_
    refine E.iloadN (q := 32) X702 hx (hb hby d18_31) rfl ?_
    refine E.iconst (q := 33) (v := (3 : Int32)) X702 hx (hb hby d18_32) rfl ?_
    refine E.iloadN (q := 34) X702 hx (hb hby d18_33) rfl ?_
    refine Ends.callS X702 hx hZ hown (own_w hw 177 rfl) (own_w hw 178 rfl) (own_w hw 108 rfl) (own_w hw 179 rfl) (by decide) (argsL := [(.ref oc), (.int (Int32.ofNat n)), (.int (3 : Int32)), (.int (3 : Int32))]) (rest := [(.int (((Int32.ofNat (own_bf (own_gtI [r0, r1, r2, r3, r4]) n 3 0)) + (Int32.ofNat (own_bf (own_gtI [r0, r1, r2, r3, r4]) n 3 1))) + (Int32.ofNat (own_bf (own_gtI [r0, r1, r2, r3, r4]) n 3 2))))]) e702 (rmBf3_3 l Z a0 hw oc r0 r1 r2 r3 r4 n hn _ A_c) (W := 1) (by decide) (by decide) (by rw [hml]; rfl) (lenOf pd_25 rfl) (Nat.le_of_eq rfl) (hb hby d18_34) (by decide) (by decide) rfl ?_
    rintro T703 v703 L703 X703 ⟨rfl, e703, rfl⟩
    rw [List.append_nil] at X703
    refine E.iadd (q := 38) X703 hx (hb hby d18_37) ?_
    refine E.aloadN (q := 39) X703 hx (hb hby d18_38) rfl rfl ?_
    refine E.iloadN (q := 40) X703 hx (hb hby d18_39) rfl ?_
    refine E.iconst (q := 41) (v := (4 : Int32)) X703 hx (hb hby d18_40) rfl ?_
    refine E.iloadN (q := 42) X703 hx (hb hby d18_41) rfl ?_
    refine Ends.callS X703 hx hZ hown (own_w hw 177 rfl) (own_w hw 178 rfl) (own_w hw 108 rfl) (own_w hw 179 rfl) (by decide) (argsL := [(.ref oc), (.int (Int32.ofNat n)), (.int (4 : Int32)), (.int (3 : Int32))]) (rest := [(.int ((((Int32.ofNat (own_bf (own_gtI [r0, r1, r2, r3, r4]) n 3 0)) + (Int32.ofNat (own_bf (own_gtI [r0, r1, r2, r3, r4]) n 3 1))) + (Int32.ofNat (own_bf (own_gtI [r0, r1, r2, r3, r4]) n 3 2))) + (Int32.ofNat (own_bf (own_gtI [r0, r1, r2, r3, r4]) n 3 3))))]) e703 (rmBf3_4 l Z a0 hw oc r0 r1 r2 r3 r4 n hn _ A_c) (W := 1) (by decide) (by decide) (by rw [hml]; rfl) (lenOf pd_25 rfl) (Nat.le_of_eq rfl) (hb hby d18_42) (by decide) (by decide) rfl ?_
    rintro T704 v704 L704 X704 ⟨rfl, e704, rfl⟩
    rw [List.append_nil] at X704
    refine E.iadd (q := 46) X704 hx (hb hby d18_45) ?_
    rw [own_addN, own_addN, own_addN, own_addN]
    obtain ⟨pp, hpp⟩ : ∃ z, z = own_ps (own_gtI [r0, r1, r2, r3, r4]) n 3 := ⟨_, rfl⟩
    have hpb : pp ≤ 5 := by rw [hpp]; exact own_ps_le _ _ _
    rw [show own_bf (own_gtI [r0, r1, r2, r3, r4]) n 3 0 + own_bf (own_gtI [r0, r1, r2, r3, r4]) n 3 1 + own_bf (own_gtI [r0, r1, r2, r3, r4]) n 3 2 + own_bf (own_gtI [r0, r1, r2, r3, r4]) n 3 3 + own_bf (own_gtI [r0, r1, r2, r3, r4]) n 3 4 = pp from hpp.symm]
    rw [← hpp] at hP
    refine E.istore (q := 48) (l' := #[.val (.ref oq), .val (.ref oc), .val (.int (Int32.ofNat n)), .val (.int (3 : Int32)), .val (.int (Int32.ofNat pp))]) X704 hx (hb hby d18_46) rfl ?_
    refine E.iload (q := 50) X704 hx (hb hby d18_48) rfl ?_
    refine E.aloadN (q := 51) X704 hx (hb hby d18_50) rfl rfl ?_
    refine Ends.alen X704 hx hZ e704 A_q (hb hby d18_51) (n := (Int32.ofNat pl.length)) (by rw [List.length_map]) ?_
    by_cases hq2 : (Int32.ofNat pp) < (Int32.ofNat pl.length)
    · refine E.icmpY (q := 57) X704 hx (hb hby d18_52) (XT.ii_lt_t hq2) ?_
      have hpl2 : pp < pl.length := (own_ltN (by omega) (by omega)).mp hq2
      refine E.aloadN (q := 58) X704 hx (hb hby d18_57) rfl rfl ?_
      refine E.iload (q := 60) X704 hx (hb hby d18_58) rfl ?_
      refine Ends.ild X704 hx hZ e704 A_q (i := pp) (v := .int (Int32.ofNat 3)) rfl (by rw [List.getElem?_map, hP hin hpl2]; rfl) (hb hby d18_60) ?_
      refine E.iloadN (q := 62) X704 hx (hb hby d18_61) rfl ?_
      refine E.icmpN (q := 65) X704 hx (hb hby d18_62) (XT.ii_ne_f rfl) ?_
      refine E.iconst (q := 66) (v := (1 : Int32)) X704 hx (hb hby d18_65) rfl ?_
      refine E.goto (q := 70) X704 hx (hb hby d18_66) ?_
      exact Ends.retS X704 hx hlk hret (by simp) rfl (hb hby d18_70) (by decide) (by decide) ⟨rfl, e704, rfl⟩
    · refine E.icmpN (q := 55) X704 hx (hb hby d18_52) (XT.ii_lt_f hq2) ?_
      refine E.iconst (q := 56) (v := (1 : Int32)) X704 hx (hb hby d18_55) rfl ?_
      exact Ends.retS X704 hx hlk hret (by simp) rfl (hb hby d18_56) (by decide) (by decide) ⟨rfl, e704, rfl⟩
  · refine E.icmpN (q := 5) X0 hx (hb hby d18_2) (XT.ii_lt_f hq) ?_
    refine E.iconst (q := 6) (v := (1 : Int32)) X0 hx (hb hby d18_5) rfl ?_
    exact Ends.retS X0 hx hlk hret (by simp) rfl (hb hby d18_6) (by decide) (by decide) ⟨rfl, e0, rfl⟩
theorem efPo4 (m : MethodId) (x0 : Addr) (x1 : Addr) (x2 : Int32) (x3 : Int32) : entryFrame m #[(.ref x0), (.ref x1), (.int x2), (.int x3)] 5 = mkF m 0 #[.val (.ref x0), .val (.ref x1), .val (.int x2), .val (.int x3), .unset] [] := by first | (simp [entryFrame, mkF, argsToLocals, Value.category]; done) | rfl
theorem rmPo4 (l : Launch) (Z : State) (a0 : Array Value) (hw : ∀ d ∈ tables_1, d.before a0 Z = true) (oq : Addr) (oc : Addr) (r0 r1 r2 r3 r4 : Int32) (n : Nat) (hn : n ≤ 5) (pl : List Int32) (hpl : pl.length ≤ 3) (hP : 4 < n → own_ps (own_gtI [r0, r1, r2, r3, r4]) n 4 < pl.length → pl[own_ps (own_gtI [r0, r1, r2, r3, r4]) n 4]? = some (Int32.ofNat 4)) (h0 : Heap) (A_c : Ary Z h0 oc .int [(.int r0), (.int r1), (.int r2), (.int r3), (.int r4)]) (A_q : Ary Z h0 oq .int (pl.map Value.int)) :
    Con l (⟨"com/example/needlework/needlework/match/CompiledPatternOfPinLaw", "probeOk", "([I[III)Z"⟩ : MethodName) method_3_code 5 (some .boolean) [] ({ frames := 1, cells := 0, slots := 0, locals := 40 } : Room) #[(.ref oq), (.ref oc), (.int (Int32.ofNat n)), (.int (4 : Int32))] Z h0 (fun v h L => v = some (.int (1 : Int32)) ∧ h = h0 ∧ L = []) := by
  refine Con.of (plainFor_of_name pn_7) ?_
  intro p e s m below meth c s₁ hx hZ hby hml hown hnm hret hlk X0 e0
  refine Ends.cast (efPo4 m oq oc (Int32.ofNat n) (4 : Int32)) ?_
  have O0 := Ok.refl h0 []
  refine E.iloadN (q := 1) X0 hx (hb hby d18_0) rfl ?_
  refine E.iloadN (q := 2) X0 hx (hb hby d18_1) rfl ?_
  by_cases hq : (4 : Int32) < (Int32.ofNat n)
  · refine E.icmpY (q := 7) X0 hx (hb hby d18_2) (XT.ii_lt_t hq) ?_
    have hin : 4 < n := (own_ltN (a := 4) (by decide) (by omega)).mp hq
    refine E.aloadN (q := 8) X0 hx (hb hby d18_7) rfl rfl ?_
    refine E.iloadN (q := 9) X0 hx (hb hby d18_8) rfl ?_
    refine E.iconst (q := 10) (v := (0 : Int32)) X0 hx (hb hby d18_9) rfl ?_
    refine E.iloadN (q := 11) X0 hx (hb hby d18_10) rfl ?_
    refine Ends.callS X0 hx hZ hown (own_w hw 177 rfl) (own_w hw 178 rfl) (own_w hw 108 rfl) (own_w hw 179 rfl) (by decide) (argsL := [(.ref oc), (.int (Int32.ofNat n)), (.int (0 : Int32)), (.int (4 : Int32))]) (rest := []) e0 (rmBf4_0 l Z a0 hw oc r0 r1 r2 r3 r4 n hn _ A_c) (W := 0) (by decide) (by decide) (by rw [hml]; rfl) (lenOf pd_25 rfl) (Nat.le_of_eq rfl) (hb hby d18_11) (by decide) (by decide) rfl ?_
    rintro T705 v705 L705 X705 ⟨rfl, e705, rfl⟩
    rw [List.append_nil] at X705
    refine E.aloadN (q := 15) X705 hx (hb hby d18_14) rfl rfl ?_
    refine E.iloadN (q := 16) X705 hx (hb hby d18_15) rfl ?_
    refine E.iconst (q := 17) (v := (1 : Int32)) X705 hx (hb hby d18_16) rfl ?_
    refine E.iloadN (q := 18) X705 hx (hb hby d18_17) rfl ?_
    refine Ends.callS X705 hx hZ hown (own_w hw 177 rfl) (own_w hw 178 rfl) (own_w hw 108 rfl) (own_w hw 179 rfl) (by decide) (argsL := [(.ref oc), (.int (Int32.ofNat n)), (.int (1 : Int32)), (.int (4 : Int32))]) (rest := [(.int (Int32.ofNat (own_bf (own_gtI [r0, r1, r2, r3, r4]) n 4 0)))]) e705 (rmBf4_1 l Z a0 hw oc r0 r1 r2 r3 r4 n hn _ A_c) (W := 1) (by decide) (by decide) (by rw [hml]; rfl) (lenOf pd_25 rfl) (Nat.le_of_eq rfl) (hb hby d18_18) (by decide) (by decide) rfl ?_
    rintro T706 v706 L706 X706 ⟨rfl, e706, rfl⟩
    rw [List.append_nil] at X706
    refine E.iadd (q := 22) X706 hx (hb hby d18_21) ?_
    refine E.aloadN (q := 23) X706 hx (hb hby d18_22) rfl rfl ?_
    refine E.iloadN (q := 24) X706 hx (hb hby d18_23) rfl ?_
    refine E.iconst (q := 25) (v := (2 : Int32)) X706 hx (hb hby d18_24) rfl ?_
    refine E.iloadN (q := 26) X706 hx (hb hby d18_25) rfl ?_
    refine Ends.callS X706 hx hZ hown (own_w hw 177 rfl) (own_w hw 178 rfl) (own_w hw 108 rfl) (own_w hw 179 rfl) (by decide) (argsL := [(.ref oc), (.int (Int32.ofNat n)), (.int (2 : Int32)), (.int (4 : Int32))]) (rest := [(.int ((Int32.ofNat (own_bf (own_gtI [r0, r1, r2, r3, r4]) n 4 0)) + (Int32.ofNat (own_bf (own_gtI [r0, r1, r2, r3, r4]) n 4 1))))]) e706 (rmBf4_2 l Z a0 hw oc r0 r1 r2 r3 r4 n hn _ A_c) (W := 1) (by decide) (by decide) (by rw [hml]; rfl) (lenOf pd_25 rfl) (Nat.le_of_eq rfl) (hb hby d18_26) (by decide) (by decide) rfl ?_
    rintro T707 v707 L707 X707 ⟨rfl, e707, rfl⟩
    rw [List.append_nil] at X707
    refine E.iadd (q := 30) X707 hx (hb hby d18_29) ?_
    refine E.aloadN (q := 31) X707 hx (hb hby d18_30) rfl rfl ?_
    refine E.iloadN (q := 32) X707 hx (hb hby d18_31) rfl ?_
    refine E.iconst (q := 33) (v := (3 : Int32)) X707 hx (hb hby d18_32) rfl ?_
    refine E.iloadN (q := 34) X707 hx (hb hby d18_33) rfl ?_
    refine Ends.callS X707 hx hZ hown (own_w hw 177 rfl) (own_w hw 178 rfl) (own_w hw 108 rfl) (own_w hw 179 rfl) (by decide) (argsL := [(.ref oc), (.int (Int32.ofNat n)), (.int (3 : Int32)), (.int (4 : Int32))]) (rest := [(.int (((Int32.ofNat (own_bf (own_gtI [r0, r1, r2, r3, r4]) n 4 0)) + (Int32.ofNat (own_bf (own_gtI [r0, r1, r2, r3, r4]) n 4 1))) + (Int32.ofNat (own_bf (own_gtI [r0, r1, r2, r3, r4]) n 4 2))))]) e707 (rmBf4_3 l Z a0 hw oc r0 r1 r2 r3 r4 n hn _ A_c) (W := 1) (by decide) (by decide) (by rw [hml]; rfl) (lenOf pd_25 rfl) (Nat.le_of_eq rfl) (hb hby d18_34) (by decide) (by decide) rfl ?_
    rintro T708 v708 L708 X708 ⟨rfl, e708, rfl⟩
    rw [List.append_nil] at X708
    refine E.iadd (q := 38) X708 hx (hb hby d18_37) ?_
    refine E.aloadN (q := 39) X708 hx (hb hby d18_38) rfl rfl ?_
    refine E.iloadN (q := 40) X708 hx (hb hby d18_39) rfl ?_
    refine E.iconst (q := 41) (v := (4 : Int32)) X708 hx (hb hby d18_40) rfl ?_
    refine E.iloadN (q := 42) X708 hx (hb hby d18_41) rfl ?_
    refine Ends.callS X708 hx hZ hown (own_w hw 177 rfl) (own_w hw 178 rfl) (own_w hw 108 rfl) (own_w hw 179 rfl) (by decide) (argsL := [(.ref oc), (.int (Int32.ofNat n)), (.int (4 : Int32)), (.int (4 : Int32))]) (rest := [(.int ((((Int32.ofNat (own_bf (own_gtI [r0, r1, r2, r3, r4]) n 4 0)) + (Int32.ofNat (own_bf (own_gtI [r0, r1, r2, r3, r4]) n 4 1))) + (Int32.ofNat (own_bf (own_gtI [r0, r1, r2, r3, r4]) n 4 2))) + (Int32.ofNat (own_bf (own_gtI [r0, r1, r2, r3, r4]) n 4 3))))]) e708 (rmBf4_4 l Z a0 hw oc r0 r1 r2 r3 r4 n hn _ A_c) (W := 1) (by decide) (by decide) (by rw [hml]; rfl) (lenOf pd_25 rfl) (Nat.le_of_eq rfl) (hb hby d18_42) (by decide) (by decide) rfl ?_
    rintro T709 v709 L709 X709 ⟨rfl, e709, rfl⟩
    rw [List.append_nil] at X709
    refine E.iadd (q := 46) X709 hx (hb hby d18_45) ?_
    rw [own_addN, own_addN, own_addN, own_addN]
    obtain ⟨pp, hpp⟩ : ∃ z, z = own_ps (own_gtI [r0, r1, r2, r3, r4]) n 4 := ⟨_, rfl⟩
    have hpb : pp ≤ 5 := by rw [hpp]; exact own_ps_le _ _ _
    rw [show own_bf (own_gtI [r0, r1, r2, r3, r4]) n 4 0 + own_bf (own_gtI [r0, r1, r2, r3, r4]) n 4 1 + own_bf (own_gtI [r0, r1, r2, r3, r4]) n 4 2 + own_bf (own_gtI [r0, r1, r2, r3, r4]) n 4 3 + own_bf (own_gtI [r0, r1, r2, r3, r4]) n 4 4 = pp from hpp.symm]
    rw [← hpp] at hP
    refine E.istore (q := 48) (l' := #[.val (.ref oq), .val (.ref oc), .val (.int (Int32.ofNat n)), .val (.int (4 : Int32)), .val (.int (Int32.ofNat pp))]) X709 hx (hb hby d18_46) rfl ?_
    refine E.iload (q := 50) X709 hx (hb hby d18_48) rfl ?_
    refine E.aloadN (q := 51) X709 hx (hb hby d18_50) rfl rfl ?_
    refine Ends.alen X709 hx hZ e709 A_q (hb hby d18_51) (n := (Int32.ofNat pl.length)) (by rw [List.length_map]) ?_
    by_cases hq2 : (Int32.ofNat pp) < (Int32.ofNat pl.length)
    · refine E.icmpY (q := 57) X709 hx (hb hby d18_52) (XT.ii_lt_t hq2) ?_
      have hpl2 : pp < pl.length := (own_ltN (by omega) (by omega)).mp hq2
      refine E.aloadN (q := 58) X709 hx (hb hby d18_57) rfl rfl ?_
      refine E.iload (q := 60) X709 hx (hb hby d18_58) rfl ?_
      refine Ends.ild X709 hx hZ e709 A_q (i := pp) (v := .int (Int32.ofNat 4)) rfl (by rw [List.getElem?_map, hP hin hpl2]; rfl) (hb hby d18_60) ?_
      refine E.iloadN (q := 62) X709 hx (hb hby d18_61) rfl ?_
      refine E.icmpN (q := 65) X709 hx (hb hby d18_62) (XT.ii_ne_f rfl) ?_
      refine E.iconst (q := 66) (v := (1 : Int32)) X709 hx (hb hby d18_65) rfl ?_
      refine E.goto (q := 70) X709 hx (hb hby d18_66) ?_
      exact Ends.retS X709 hx hlk hret (by simp) rfl (hb hby d18_70) (by decide) (by decide) ⟨rfl, e709, rfl⟩
    · refine E.icmpN (q := 55) X709 hx (hb hby d18_52) (XT.ii_lt_f hq2) ?_
      refine E.iconst (q := 56) (v := (1 : Int32)) X709 hx (hb hby d18_55) rfl ?_
      exact Ends.retS X709 hx hlk hret (by simp) rfl (hb hby d18_56) (by decide) (by decide) ⟨rfl, e709, rfl⟩
  · refine E.icmpN (q := 5) X0 hx (hb hby d18_2) (XT.ii_lt_f hq) ?_
    refine E.iconst (q := 6) (v := (1 : Int32)) X0 hx (hb hby d18_5) rfl ?_
    exact Ends.retS X0 hx hlk hret (by simp) rfl (hb hby d18_6) (by decide) (by decide) ⟨rfl, e0, rfl⟩
theorem ef_0 (m : MethodId) (x0 : Int32) (x1 : Int32) (x2 : Int32) (x3 : Int32) (x4 : Int32) (x5 : Int32) : entryFrame m #[(.int x0), (.int x1), (.int x2), (.int x3), (.int x4), (.int x5)] maxLocals = mkF m 0 #[.val (.int x0), .val (.int x1), .val (.int x2), .val (.int x3), .val (.int x4), .val (.int x5), .unset, .unset, .unset, .unset, .unset, .unset, .unset] [] := by first | (simp [entryFrame, mkF, argsToLocals, Value.category, maxLocals]; done) | rfl
theorem rm0 (l : Launch) (Z : State) (a0 : Array Value) (hw : ∀ d ∈ tables_1, d.before a0 Z = true) (nn : Int32) (p0 : Int32) (p1 : Int32) (p2 : Int32) (p3 : Int32) (p4 : Int32) (rr : Addr) (h0 : Heap) (cs : Int32) (hcs : ¬ cs = (0 : Int32)) (S0 : Sta Z h0 "java/lang/String" "COMPACT_STRINGS" "Z" (.int cs)) (fv : Value) (hfv : fv = .null ∨ ∃ a, fv = .ref a) (S1 : Sta Z h0 "jdk/internal/util/Preconditions" "SIOOBE_FORMATTER" "Ljava/util/function/BiFunction;" fv) (S2 : Sta Z h0 "java/lang/StringUTF16" "$assertionsDisabled" "Z" (.int (1 : Int32))) (S3 : Sta Z h0 "java/lang/StringUTF16" "HI_BYTE_SHIFT" "I" (.int (0 : Int32))) (S4 : Sta Z h0 "java/lang/StringUTF16" "LO_BYTE_SHIFT" "I" (.int (8 : Int32))) (SR : Sta Z h0 "com/example/needlework/needlework/match/CompiledPattern" "RARITY" "[B" (.ref rr)) (A_R : Ary Z h0 rr .byte (own_RL.map Value.int)) :
    ConH l x code maxLocals ret tables_1 room_1 #[(.int nn), (.int p0), (.int p1), (.int p2), (.int p3), (.int p4)] Z h0 own_EL (fun v h L => v = some (.int 1) ∧ Fr h0.size L) := by
  refine ConH.of (plainFor_of_name pn_7) ?_
  intro p e s m below meth c s₁ vm0 HC0 hx hZ hby hml hown hnm hret hlk X0 e0
  refine Ends.cast (ef_0 m nn p0 p1 p2 p3 p4) ?_
  have O0 := Ok.refl h0 []
  refine E.iloadN (q := 1) X0 hx (hb hby at_0) rfl ?_
  refine E.ldc (q := 3) X0 hx hZ hown (own_w hw 0 rfl) (hb hby at_1) ?_
  refine E.iand (q := 4) X0 hx (hb hby at_3) ?_
  refine E.bipush (q := 6) (v := (6 : Int32)) X0 hx (hb hby at_4) rfl ?_
  refine E.irem (q := 7) X0 hx (hb hby at_6) (by decide) ?_
  obtain ⟨nk, hnk, enk⟩ := own_mod nn 6 (by decide) (by decide)
  rw [show ((nn &&& (2147483647 : Int32)) % (6 : Int32)) = Int32.ofNat nk from enk]
  refine E.istore (q := 9) (l' := #[.val (.int nn), .val (.int p0), .val (.int p1), .val (.int p2), .val (.int p3), .val (.int p4), .val (.int (Int32.ofNat nk)), .unset, .unset, .unset, .unset, .unset, .unset]) X0 hx (hb hby at_7) rfl ?_
  refine E.iconst (q := 10) (v := (5 : Int32)) X0 hx (hb hby at_9) rfl ?_
  refine Ends.newA X0 hx hZ (own_w hw 1 rfl) e0 (hb hby at_10) (N := 5) rfl (by decide) (by decide) (by decide) ?_
  intro T710 h710 b710 g710 X710 e710 E710 A710
  have ge_b710 : h0.size ≤ b710 := Nat.le_trans O0.le (Nat.le_of_eq g710.symm)
  have O710 := O0.ext E710
  have HC711 := HC0.trans (CHr.ext E710 HC0.1)
  have V710 : Ary Z h710 b710 .int [(.int (0 : Int32)), (.int (0 : Int32)), (.int (0 : Int32)), (.int (0 : Int32)), (.int (0 : Int32))] := A710
  refine E.astore (q := 14) (l' := #[.val (.int nn), .val (.int p0), .val (.int p1), .val (.int p2), .val (.int p3), .val (.int p4), .val (.int (Int32.ofNat nk)), .val (.ref b710), .unset, .unset, .unset, .unset, .unset]) X710 hx (hb hby at_12) rfl rfl ?_
  refine E.aload (q := 16) X710 hx (hb hby at_14) rfl rfl ?_
  refine E.iconst (q := 17) (v := (0 : Int32)) X710 hx (hb hby at_16) rfl ?_
  refine E.iloadN (q := 18) X710 hx (hb hby at_17) rfl ?_
  refine E.ldc (q := 20) X710 hx hZ hown (own_w hw 2 rfl) (hb hby at_18) ?_
  refine E.iand (q := 21) X710 hx (hb hby at_20) ?_
  obtain ⟨u0, hu0, eu0⟩ : ∃ z, own_C z ∧ (p0 &&& (65535 : Int32)) = z := ⟨_, own_and16 p0, rfl⟩
  rw [eu0]
  refine Ends.ist X710 hx hZ e710 V710 (i := 0) rfl (show 0 < 5 from by decide) (hb hby at_21) ?_
  intro T712 h712 X712 e712 W712 V712
  have V712 : Ary Z h712 b710 .int [(.int u0), (.int (0 : Int32)), (.int (0 : Int32)), (.int (0 : Int32)), (.int (0 : Int32))] := V712
  have O712 := O710.wr W712 (Or.inr ge_b710)
  have HC713 := HC711.trans (CHr.wr W712 (own_safe_ary hZ.alike V710 (by decide)) HC711.1)
  refine E.aload (q := 24) X712 hx (hb hby at_22) rfl rfl ?_
  refine E.iconst (q := 25) (v := (1 : Int32)) X712 hx (hb hby at_24) rfl ?_
  refine E.iloadN (q := 26) X712 hx (hb hby at_25) rfl ?_
  refine E.ldc (q := 28) X712 hx hZ hown (own_w hw 2 rfl) (hb hby at_26) ?_
  refine E.iand (q := 29) X712 hx (hb hby at_28) ?_
  obtain ⟨u1, hu1, eu1⟩ : ∃ z, own_C z ∧ (p1 &&& (65535 : Int32)) = z := ⟨_, own_and16 p1, rfl⟩
  rw [eu1]
  refine Ends.ist X712 hx hZ e712 V712 (i := 1) rfl (show 1 < 5 from by decide) (hb hby at_29) ?_
  intro T714 h714 X714 e714 W714 V714
  have V714 : Ary Z h714 b710 .int [(.int u0), (.int u1), (.int (0 : Int32)), (.int (0 : Int32)), (.int (0 : Int32))] := V714
  have O714 := O712.wr W714 (Or.inr ge_b710)
  have HC715 := HC713.trans (CHr.wr W714 (own_safe_ary hZ.alike V712 (by decide)) HC713.1)
  refine E.aload (q := 32) X714 hx (hb hby at_30) rfl rfl ?_
  refine E.iconst (q := 33) (v := (2 : Int32)) X714 hx (hb hby at_32) rfl ?_
  refine E.iloadN (q := 34) X714 hx (hb hby at_33) rfl ?_
  refine E.ldc (q := 36) X714 hx hZ hown (own_w hw 2 rfl) (hb hby at_34) ?_
  refine E.iand (q := 37) X714 hx (hb hby at_36) ?_
  obtain ⟨u2, hu2, eu2⟩ : ∃ z, own_C z ∧ (p2 &&& (65535 : Int32)) = z := ⟨_, own_and16 p2, rfl⟩
  rw [eu2]
  refine Ends.ist X714 hx hZ e714 V714 (i := 2) rfl (show 2 < 5 from by decide) (hb hby at_37) ?_
  intro T716 h716 X716 e716 W716 V716
  have V716 : Ary Z h716 b710 .int [(.int u0), (.int u1), (.int u2), (.int (0 : Int32)), (.int (0 : Int32))] := V716
  have O716 := O714.wr W716 (Or.inr ge_b710)
  have HC717 := HC715.trans (CHr.wr W716 (own_safe_ary hZ.alike V714 (by decide)) HC715.1)
  refine E.aload (q := 40) X716 hx (hb hby at_38) rfl rfl ?_
  refine E.iconst (q := 41) (v := (3 : Int32)) X716 hx (hb hby at_40) rfl ?_
  refine E.iload (q := 43) X716 hx (hb hby at_41) rfl ?_
  refine E.ldc (q := 45) X716 hx hZ hown (own_w hw 2 rfl) (hb hby at_43) ?_
  refine E.iand (q := 46) X716 hx (hb hby at_45) ?_
  obtain ⟨u3, hu3, eu3⟩ : ∃ z, own_C z ∧ (p3 &&& (65535 : Int32)) = z := ⟨_, own_and16 p3, rfl⟩
  rw [eu3]
  refine Ends.ist X716 hx hZ e716 V716 (i := 3) rfl (show 3 < 5 from by decide) (hb hby at_46) ?_
  intro T718 h718 X718 e718 W718 V718
  have V718 : Ary Z h718 b710 .int [(.int u0), (.int u1), (.int u2), (.int u3), (.int (0 : Int32))] := V718
  have O718 := O716.wr W718 (Or.inr ge_b710)
  have HC719 := HC717.trans (CHr.wr W718 (own_safe_ary hZ.alike V716 (by decide)) HC717.1)
  refine E.aload (q := 49) X718 hx (hb hby at_47) rfl rfl ?_
  refine E.iconst (q := 50) (v := (4 : Int32)) X718 hx (hb hby at_49) rfl ?_
  refine E.iload (q := 52) X718 hx (hb hby at_50) rfl ?_
  refine E.ldc (q := 54) X718 hx hZ hown (own_w hw 2 rfl) (hb hby at_52) ?_
  refine E.iand (q := 55) X718 hx (hb hby at_54) ?_
  obtain ⟨u4, hu4, eu4⟩ : ∃ z, own_C z ∧ (p4 &&& (65535 : Int32)) = z := ⟨_, own_and16 p4, rfl⟩
  rw [eu4]
  refine Ends.ist X718 hx hZ e718 V718 (i := 4) rfl (show 4 < 5 from by decide) (hb hby at_55) ?_
  intro T720 h720 X720 e720 W720 V720
  have V720 : Ary Z h720 b710 .int [(.int u0), (.int u1), (.int u2), (.int u3), (.int u4)] := V720
  have O720 := O718.wr W720 (Or.inr ge_b710)
  have HC721 := HC719.trans (CHr.wr W720 (own_safe_ary hZ.alike V718 (by decide)) HC719.1)
  have hnk6 : nk = 0 ∨ nk = 1 ∨ nk = 2 ∨ nk = 3 ∨ nk = 4 ∨ nk = 5 := by omega
  rcases hnk6 with rfl | rfl | rfl | rfl | rfl | rfl
  · refine E.iload (q := 58) X720 hx (hb hby at_56) rfl ?_
    refine E.ifN (q := 61) X720 hx (hb hby at_58) (XT.i0_ne_f (by decide)) ?_
    refine E.iconst (q := 62) (v := (0 : Int32)) X720 hx (hb hby at_61) rfl ?_
    refine Ends.newA X720 hx hZ (own_w hw 3 rfl) e720 (hb hby at_62) (N := 0) rfl (by decide) (by decide) (by decide) ?_
    intro T722 h722 b722 g722 X722 e722 E722 A722
    have ge_b722 : h0.size ≤ b722 := Nat.le_trans O720.le (Nat.le_of_eq g722.symm)
    have O722 := O720.ext E722
    have HC723 := HC721.trans (CHr.ext E722 HC721.1)
    have V722 : Ary Z h722 b722 .char [] := A722
    refine E.astore (q := 66) (l' := #[.val (.int nn), .val (.int p0), .val (.int p1), .val (.int p2), .val (.int p3), .val (.int p4), .val (.int (0 : Int32)), .val (.ref b710), .val (.ref b722), .unset, .unset, .unset, .unset]) X722 hx (hb hby at_64) rfl rfl ?_
    refine E.goto (q := 250) X722 hx (hb hby at_66) ?_
    refine Ends.newC X722 hx hZ hown (own_w hw 4 rfl) (own_w hw 5 rfl) (own_w hw 6 rfl) e722 (hb hby at_250) (by decide) (by decide) ?_
    intro T724 h724 b724 g724 X724 e724 E724 A724 D724
    have ge_b724 : h0.size ≤ b724 := Nat.le_trans O722.le (Nat.le_of_eq g724.symm)
    have O724 := O722.ext E724
    have HC725 := HC723.trans (CHr.ext E724 HC723.1)
    have F724_value : Fld Z h724 b724 "java/lang/String" "value" "[B" .null := D724 (Or.inr (own_w hw 19 rfl)) (ty := (.array .byte)) (by decide)
    have F724_coder : Fld Z h724 b724 "java/lang/String" "coder" "B" (.int (0 : Int32)) := D724 (Or.inr (own_w hw 20 rfl)) (ty := .byte) (by decide)
    refine E.dup (q := 254) X724 hx (hb hby at_253) rfl ?_
    refine E.aload (q := 256) X724 hx (hb hby at_254) rfl rfl ?_
    have f726 := V722.ext E724
    refine Ends.callIH X724 hx hZ hown (own_w hw 7 rfl) (own_w hw 8 rfl) (own_w hw 6 rfl) (own_w hw 9 rfl) rfl (by decide) (argsL := [(.ref b722)]) (rest := [(.ref b724)]) e724 (Nat.zero_le _) (own_EW hw) HC725.1 (rmI1_0 l Z a0 hw b724 b722 _ A724 F724_value F724_coder f726) (W := 1) (by decide) (by decide) (by rw [hml]; rfl) (lenOf pd_26 rfl) (Nat.le_of_eq rfl) (hb hby at_256) (by decide) (by decide) rfl ?_
    rintro s T727 v727 L727 X727 hc727 hZ hown ⟨rfl, V727, hO727, Fv727, Fc727, A727⟩
    have e727 : T727.heap = T727.heap := rfl
    have O727 := O724.call hO727 (allS (Or.inr ge_b724) all0)
    have HC728 := HC725.trans hc727
    have f729 := A724.keep hO727.1
    have f730 := ((((((A_R.ext E710).other W712 (Nat.ne_of_lt (Nat.lt_of_lt_of_eq A_R.lt g710.symm))).other W714 (Nat.ne_of_lt (Nat.lt_of_lt_of_eq A_R.lt g710.symm))).other W716 (Nat.ne_of_lt (Nat.lt_of_lt_of_eq A_R.lt g710.symm))).other W718 (Nat.ne_of_lt (Nat.lt_of_lt_of_eq A_R.lt g710.symm))).other W720 (Nat.ne_of_lt (Nat.lt_of_lt_of_eq A_R.lt g710.symm))).ext E722
    have f731 := ((((((((A_R.ext E710).other W712 (Nat.ne_of_lt (Nat.lt_of_lt_of_eq A_R.lt g710.symm))).other W714 (Nat.ne_of_lt (Nat.lt_of_lt_of_eq A_R.lt g710.symm))).other W716 (Nat.ne_of_lt (Nat.lt_of_lt_of_eq A_R.lt g710.symm))).other W718 (Nat.ne_of_lt (Nat.lt_of_lt_of_eq A_R.lt g710.symm))).other W720 (Nat.ne_of_lt (Nat.lt_of_lt_of_eq A_R.lt g710.symm))).ext E722).ext E724).keep hO727.1 (ninS (Nat.ne_of_lt (Nat.lt_of_lt_of_eq f730.lt g724.symm)) nin0)
    refine Ends.callSH X727 hx hZ hown (own_w hw 25 rfl) (own_w hw 26 rfl) (own_w hw 27 rfl) (own_w hw 28 rfl) (by decide) (argsL := [(.ref b724)]) (rest := []) e727 (Nat.le_refl _) (own_EW hw) HC728.1 (rm4 l Z a0 hw b724 V727 (0 : Int32) [] ([] : List Int32) ⟨(fun x hx' => nomatch hx'), Or.inl ⟨rfl, rfl, (fun x hx' => nomatch hx')⟩⟩ (by simp) rr _ f729 Fv727 Fc727 A727 cs hcs (own_sta_keep S0 O727.1 own_ns0) fv hfv (own_sta_keep S1 O727.1 own_ns0) (own_sta_keep S2 O727.1 own_ns0) (own_sta_keep S3 O727.1 own_ns0) (own_sta_keep S4 O727.1 own_ns0) (own_sta_keep SR O727.1 own_ns0) f731) (W := 0) (by decide) (by decide) (by rw [hml]; rfl) (lenOf pd_27 rfl) (Nat.le_of_eq rfl) (hb hby at_259) (by decide) (by decide) rfl ?_
    rintro s T732 v732 L732 X732 hc732 hZ hown ⟨o732, Uu732, Tt732, Pp732, rfl, go732, hO732, AT732, ET732, Eo732, Fu732, Ft732, Fp732, AU732, AP732⟩
    have e732 : T732.heap = T732.heap := rfl
    have O732 := O727.call hO732 all0
    have HC733 := HC728.trans hc732
    have hg732 : (own_go (own_gtI ([] : List Int32)) 0 0).length = 0 := own_go_len _ _ _
    have AP732 : Ary Z _ Pp732 .int ((own_ints (own_go (own_gtI ([] : List Int32)) 0 0)).map Value.int) := AP732
    refine E.astore (q := 264) (l' := #[.val (.int nn), .val (.int p0), .val (.int p1), .val (.int p2), .val (.int p3), .val (.int p4), .val (.int (0 : Int32)), .val (.ref b710), .val (.ref b722), .val (.ref o732), .unset, .unset, .unset]) X732 hx (hb hby at_262) rfl rfl ?_
    refine E.aload (q := 266) X732 hx (hb hby at_264) rfl rfl ?_
    refine Ends.callV X732 hx hZ hown (own_w hw 87 rfl) (own_w hw 88 rfl) (own_w hw 90 rfl) (own_w hw 89 rfl) (own_w hw 27 rfl) (own_w hw 91 rfl) (by decide) (argsL := []) (rest := []) e732 Eo732 (rm14 l Z a0 hw o732 Uu732 ([] : List Int32) _ Fu732 AU732) (W := 0) (by decide) (by decide) (by rw [hml]; rfl) (lenOf pd_16 rfl) (Nat.le_of_eq rfl) (hb hby at_266) (by decide) (by decide) rfl ?_
    rintro T734 v734 L734 X734 ⟨rfl, e734, rfl⟩
    rw [List.append_nil] at X734
    show Ends (some (CHr Z own_EL vm0 h0)) p e below s _ _ _ T734 (mkF m 269 #[.val (.int nn), .val (.int p0), .val (.int p1), .val (.int p2), .val (.int p3), .val (.int p4), .val (.int (0 : Int32)), .val (.ref b710), .val (.ref b722), .val (.ref o732), .unset, .unset, .unset] [(.int (0 : Int32))])
    refine E.iload (q := 271) X734 hx (hb hby at_269) rfl ?_
    refine E.icmpY (q := 276) X734 hx (hb hby at_271) (XT.ii_eq_t (by decide)) ?_
    refine E.iload (q := 278) X734 hx (hb hby at_276) rfl ?_
    refine E.ifY (q := 296) X734 hx (hb hby at_278) (XT.i0_le_t (by decide)) ?_
    refine E.iload (q := 298) X734 hx (hb hby at_296) rfl ?_
    refine E.iconst (q := 299) (v := (1 : Int32)) X734 hx (hb hby at_298) rfl ?_
    refine E.icmpY (q := 317) X734 hx (hb hby at_299) (XT.ii_le_t (by decide)) ?_
    refine E.iload (q := 319) X734 hx (hb hby at_317) rfl ?_
    refine E.iconst (q := 320) (v := (2 : Int32)) X734 hx (hb hby at_319) rfl ?_
    refine E.icmpY (q := 338) X734 hx (hb hby at_320) (XT.ii_le_t (by decide)) ?_
    refine E.iload (q := 340) X734 hx (hb hby at_338) rfl ?_
    refine E.iconst (q := 341) (v := (3 : Int32)) X734 hx (hb hby at_340) rfl ?_
    refine E.icmpY (q := 359) X734 hx (hb hby at_341) (XT.ii_le_t (by decide)) ?_
    refine E.iload (q := 361) X734 hx (hb hby at_359) rfl ?_
    refine E.iconst (q := 362) (v := (4 : Int32)) X734 hx (hb hby at_361) rfl ?_
    refine E.icmpY (q := 380) X734 hx (hb hby at_362) (XT.ii_le_t (by decide)) ?_
    refine E.aload (q := 382) X734 hx (hb hby at_380) rfl rfl ?_
    refine Ends.callV X734 hx hZ hown (own_w hw 92 rfl) (own_w hw 93 rfl) (own_w hw 95 rfl) (own_w hw 94 rfl) (own_w hw 27 rfl) (own_w hw 96 rfl) (by decide) (argsL := []) (rest := []) e734 Eo732 (rm15 l Z a0 hw o732 Tt732 (own_ints (own_kmp ([] : List Int32))) (by rw [own_ints_len, own_kmp_len]; simp) _ Ft732 AT732 ET732) (W := 0) (by decide) (by decide) (by rw [hml]; rfl) (lenOf pd_28 rfl) (Nat.le_of_eq rfl) (hb hby at_382) (by decide) (by decide) rfl ?_
    rintro T735 v735 L735 X735 ⟨b735, rfl, gb735, hO735, AC735⟩
    have e735 : T735.heap = T735.heap := rfl
    have O735 := O732.call hO735 all0
    have HC736 := HC733.trans (CHr.keep hO735.1 (own_all0) HC733.1)
    refine E.astore (q := 387) (l' := #[.val (.int nn), .val (.int p0), .val (.int p1), .val (.int p2), .val (.int p3), .val (.int p4), .val (.int (0 : Int32)), .val (.ref b710), .val (.ref b722), .val (.ref o732), .val (.ref b735), .unset, .unset]) X735 hx (hb hby at_385) rfl rfl ?_
    refine E.aload (q := 389) X735 hx (hb hby at_387) rfl rfl ?_
    refine Ends.alen X735 hx hZ e735 AC735 (hb hby at_389) (n := (0 : Int32)) (by rw [List.length_map, own_ints_len, own_kmp_len]; rfl) ?_
    refine E.iload (q := 392) X735 hx (hb hby at_390) rfl ?_
    refine E.icmpY (q := 397) X735 hx (hb hby at_392) (XT.ii_eq_t (by decide)) ?_
    refine E.iload (q := 399) X735 hx (hb hby at_397) rfl ?_
    refine E.ifY (q := 417) X735 hx (hb hby at_399) (XT.i0_le_t (by decide)) ?_
    refine E.iload (q := 419) X735 hx (hb hby at_417) rfl ?_
    refine E.iconst (q := 420) (v := (1 : Int32)) X735 hx (hb hby at_419) rfl ?_
    refine E.icmpY (q := 438) X735 hx (hb hby at_420) (XT.ii_le_t (by decide)) ?_
    refine E.iload (q := 440) X735 hx (hb hby at_438) rfl ?_
    refine E.iconst (q := 441) (v := (2 : Int32)) X735 hx (hb hby at_440) rfl ?_
    refine E.icmpY (q := 459) X735 hx (hb hby at_441) (XT.ii_le_t (by decide)) ?_
    refine E.iload (q := 461) X735 hx (hb hby at_459) rfl ?_
    refine E.iconst (q := 462) (v := (3 : Int32)) X735 hx (hb hby at_461) rfl ?_
    refine E.icmpY (q := 480) X735 hx (hb hby at_462) (XT.ii_le_t (by decide)) ?_
    refine E.iload (q := 482) X735 hx (hb hby at_480) rfl ?_
    refine E.iconst (q := 483) (v := (4 : Int32)) X735 hx (hb hby at_482) rfl ?_
    refine E.icmpY (q := 501) X735 hx (hb hby at_483) (XT.ii_le_t (by decide)) ?_
    refine E.iconst (q := 502) (v := (5 : Int32)) X735 hx (hb hby at_501) rfl ?_
    refine Ends.newA X735 hx hZ (own_w hw 1 rfl) e735 (hb hby at_502) (N := 5) rfl (by decide) (by decide) (by decide) ?_
    intro T737 h737 b737 g737 X737 e737 E737 A737
    have ge_b737 : h0.size ≤ b737 := Nat.le_trans O735.le (Nat.le_of_eq g737.symm)
    have O737 := O735.ext E737
    have HC738 := HC736.trans (CHr.ext E737 HC736.1)
    have V737 : Ary Z h737 b737 .int [(.int (0 : Int32)), (.int (0 : Int32)), (.int (0 : Int32)), (.int (0 : Int32)), (.int (0 : Int32))] := A737
    refine E.astore (q := 506) (l' := #[.val (.int nn), .val (.int p0), .val (.int p1), .val (.int p2), .val (.int p3), .val (.int p4), .val (.int (0 : Int32)), .val (.ref b710), .val (.ref b722), .val (.ref o732), .val (.ref b735), .val (.ref b737), .unset]) X737 hx (hb hby at_504) rfl rfl ?_
    refine E.aload (q := 508) X737 hx (hb hby at_506) rfl rfl ?_
    refine E.iconst (q := 509) (v := (0 : Int32)) X737 hx (hb hby at_508) rfl ?_
    refine E.aload (q := 511) X737 hx (hb hby at_509) rfl rfl ?_
    refine E.iconst (q := 512) (v := (0 : Int32)) X737 hx (hb hby at_511) rfl ?_
    have f739 := V720.ext E722
    have f740 := (((((V720.ext E722).ext E724).keep hO727.1 (ninS (Nat.ne_of_lt (Nat.lt_of_lt_of_eq f739.lt g724.symm)) nin0)).keep hO732.1 nin0).keep hO735.1 nin0).ext E737
    refine Ends.ild X737 hx hZ e737 f740 (i := 0) rfl rfl (hb hby at_512) ?_
    refine Ends.callS X737 hx hZ hown (own_w hw 106 rfl) (own_w hw 107 rfl) (own_w hw 108 rfl) (own_w hw 109 rfl) (by decide) (argsL := [(.int u0)]) (rest := [(.int (0 : Int32)), (.ref b737)]) e737 (rm16 l Z a0 hw u0 _) (W := 2) (by decide) (by decide) (by rw [hml]; rfl) (lenOf pd_7 rfl) (Nat.le_of_eq rfl) (hb hby at_513) (by decide) (by decide) rfl ?_
    rintro T741 v741 L741 X741 ⟨rfl, e741, rfl⟩
    rw [List.append_nil] at X741
    refine Ends.ist X741 hx hZ e741 V737 (i := 0) rfl (show 0 < 5 from by decide) (hb hby at_516) ?_
    intro T742 h742 X742 e742 W742 V742
    have V742 : Ary Z h742 b737 .int [(.int (own_Rf u0)), (.int (0 : Int32)), (.int (0 : Int32)), (.int (0 : Int32)), (.int (0 : Int32))] := V742
    have O742 := O737.wr W742 (Or.inr ge_b737)
    have HC743 := HC738.trans (CHr.wr W742 (own_safe_ary hZ.alike V737 (by decide)) HC738.1)
    refine E.aload (q := 519) X742 hx (hb hby at_517) rfl rfl ?_
    refine E.iconst (q := 520) (v := (1 : Int32)) X742 hx (hb hby at_519) rfl ?_
    refine E.aload (q := 522) X742 hx (hb hby at_520) rfl rfl ?_
    refine E.iconst (q := 523) (v := (1 : Int32)) X742 hx (hb hby at_522) rfl ?_
    have f744 := (((f739.ext E724).keep hO727.1 (ninS (Nat.ne_of_lt (Nat.lt_of_lt_of_eq f739.lt g724.symm)) nin0)).keep hO732.1 nin0).keep hO735.1 nin0
    have f745 := f740.other W742 (Nat.ne_of_lt (Nat.lt_of_lt_of_eq f744.lt g737.symm))
    refine Ends.ild X742 hx hZ e742 f745 (i := 1) rfl rfl (hb hby at_523) ?_
    refine Ends.callS X742 hx hZ hown (own_w hw 106 rfl) (own_w hw 107 rfl) (own_w hw 108 rfl) (own_w hw 109 rfl) (by decide) (argsL := [(.int u1)]) (rest := [(.int (1 : Int32)), (.ref b737)]) e742 (rm16 l Z a0 hw u1 _) (W := 2) (by decide) (by decide) (by rw [hml]; rfl) (lenOf pd_7 rfl) (Nat.le_of_eq rfl) (hb hby at_524) (by decide) (by decide) rfl ?_
    rintro T746 v746 L746 X746 ⟨rfl, e746, rfl⟩
    rw [List.append_nil] at X746
    refine Ends.ist X746 hx hZ e746 V742 (i := 1) rfl (show 1 < 5 from by decide) (hb hby at_527) ?_
    intro T747 h747 X747 e747 W747 V747
    have V747 : Ary Z h747 b737 .int [(.int (own_Rf u0)), (.int (own_Rf u1)), (.int (0 : Int32)), (.int (0 : Int32)), (.int (0 : Int32))] := V747
    have O747 := O742.wr W747 (Or.inr ge_b737)
    have HC748 := HC743.trans (CHr.wr W747 (own_safe_ary hZ.alike V742 (by decide)) HC743.1)
    refine E.aload (q := 530) X747 hx (hb hby at_528) rfl rfl ?_
    refine E.iconst (q := 531) (v := (2 : Int32)) X747 hx (hb hby at_530) rfl ?_
    refine E.aload (q := 533) X747 hx (hb hby at_531) rfl rfl ?_
    refine E.iconst (q := 534) (v := (2 : Int32)) X747 hx (hb hby at_533) rfl ?_
    have f749 := f745.other W747 (Nat.ne_of_lt (Nat.lt_of_lt_of_eq f744.lt g737.symm))
    refine Ends.ild X747 hx hZ e747 f749 (i := 2) rfl rfl (hb hby at_534) ?_
    refine Ends.callS X747 hx hZ hown (own_w hw 106 rfl) (own_w hw 107 rfl) (own_w hw 108 rfl) (own_w hw 109 rfl) (by decide) (argsL := [(.int u2)]) (rest := [(.int (2 : Int32)), (.ref b737)]) e747 (rm16 l Z a0 hw u2 _) (W := 2) (by decide) (by decide) (by rw [hml]; rfl) (lenOf pd_7 rfl) (Nat.le_of_eq rfl) (hb hby at_535) (by decide) (by decide) rfl ?_
    rintro T750 v750 L750 X750 ⟨rfl, e750, rfl⟩
    rw [List.append_nil] at X750
    refine Ends.ist X750 hx hZ e750 V747 (i := 2) rfl (show 2 < 5 from by decide) (hb hby at_538) ?_
    intro T751 h751 X751 e751 W751 V751
    have V751 : Ary Z h751 b737 .int [(.int (own_Rf u0)), (.int (own_Rf u1)), (.int (own_Rf u2)), (.int (0 : Int32)), (.int (0 : Int32))] := V751
    have O751 := O747.wr W751 (Or.inr ge_b737)
    have HC752 := HC748.trans (CHr.wr W751 (own_safe_ary hZ.alike V747 (by decide)) HC748.1)
    refine E.aload (q := 541) X751 hx (hb hby at_539) rfl rfl ?_
    refine E.iconst (q := 542) (v := (3 : Int32)) X751 hx (hb hby at_541) rfl ?_
    refine E.aload (q := 544) X751 hx (hb hby at_542) rfl rfl ?_
    refine E.iconst (q := 545) (v := (3 : Int32)) X751 hx (hb hby at_544) rfl ?_
    have f753 := f749.other W751 (Nat.ne_of_lt (Nat.lt_of_lt_of_eq f744.lt g737.symm))
    refine Ends.ild X751 hx hZ e751 f753 (i := 3) rfl rfl (hb hby at_545) ?_
    refine Ends.callS X751 hx hZ hown (own_w hw 106 rfl) (own_w hw 107 rfl) (own_w hw 108 rfl) (own_w hw 109 rfl) (by decide) (argsL := [(.int u3)]) (rest := [(.int (3 : Int32)), (.ref b737)]) e751 (rm16 l Z a0 hw u3 _) (W := 2) (by decide) (by decide) (by rw [hml]; rfl) (lenOf pd_7 rfl) (Nat.le_of_eq rfl) (hb hby at_546) (by decide) (by decide) rfl ?_
    rintro T754 v754 L754 X754 ⟨rfl, e754, rfl⟩
    rw [List.append_nil] at X754
    refine Ends.ist X754 hx hZ e754 V751 (i := 3) rfl (show 3 < 5 from by decide) (hb hby at_549) ?_
    intro T755 h755 X755 e755 W755 V755
    have V755 : Ary Z h755 b737 .int [(.int (own_Rf u0)), (.int (own_Rf u1)), (.int (own_Rf u2)), (.int (own_Rf u3)), (.int (0 : Int32))] := V755
    have O755 := O751.wr W755 (Or.inr ge_b737)
    have HC756 := HC752.trans (CHr.wr W755 (own_safe_ary hZ.alike V751 (by decide)) HC752.1)
    refine E.aload (q := 552) X755 hx (hb hby at_550) rfl rfl ?_
    refine E.iconst (q := 553) (v := (4 : Int32)) X755 hx (hb hby at_552) rfl ?_
    refine E.aload (q := 555) X755 hx (hb hby at_553) rfl rfl ?_
    refine E.iconst (q := 556) (v := (4 : Int32)) X755 hx (hb hby at_555) rfl ?_
    have f757 := f753.other W755 (Nat.ne_of_lt (Nat.lt_of_lt_of_eq f744.lt g737.symm))
    refine Ends.ild X755 hx hZ e755 f757 (i := 4) rfl rfl (hb hby at_556) ?_
    refine Ends.callS X755 hx hZ hown (own_w hw 106 rfl) (own_w hw 107 rfl) (own_w hw 108 rfl) (own_w hw 109 rfl) (by decide) (argsL := [(.int u4)]) (rest := [(.int (4 : Int32)), (.ref b737)]) e755 (rm16 l Z a0 hw u4 _) (W := 2) (by decide) (by decide) (by rw [hml]; rfl) (lenOf pd_7 rfl) (Nat.le_of_eq rfl) (hb hby at_557) (by decide) (by decide) rfl ?_
    rintro T758 v758 L758 X758 ⟨rfl, e758, rfl⟩
    rw [List.append_nil] at X758
    refine Ends.ist X758 hx hZ e758 V755 (i := 4) rfl (show 4 < 5 from by decide) (hb hby at_560) ?_
    intro T759 h759 X759 e759 W759 V759
    have V759 : Ary Z h759 b737 .int [(.int (own_Rf u0)), (.int (own_Rf u1)), (.int (own_Rf u2)), (.int (own_Rf u3)), (.int (own_Rf u4))] := V759
    have O759 := O755.wr W759 (Or.inr ge_b737)
    have HC760 := HC756.trans (CHr.wr W759 (own_safe_ary hZ.alike V755 (by decide)) HC756.1)
    refine E.aload (q := 563) X759 hx (hb hby at_561) rfl rfl ?_
    have f761 := Eo732.keep hO735.1
    have f762 := ((((((Fp732.keep hO735.1 nin0).ext E737).other W742 (Or.inl (Nat.ne_of_lt (Nat.lt_of_lt_of_eq f761.lt g737.symm)))).other W747 (Or.inl (Nat.ne_of_lt (Nat.lt_of_lt_of_eq f761.lt g737.symm)))).other W751 (Or.inl (Nat.ne_of_lt (Nat.lt_of_lt_of_eq f761.lt g737.symm)))).other W755 (Or.inl (Nat.ne_of_lt (Nat.lt_of_lt_of_eq f761.lt g737.symm)))).other W759 (Or.inl (Nat.ne_of_lt (Nat.lt_of_lt_of_eq f761.lt g737.symm)))
    have f763 := (((((f761.ext E737).wr W742).wr W747).wr W751).wr W755).wr W759
    refine Ends.callV X759 hx hZ hown (own_w hw 110 rfl) (own_w hw 111 rfl) (own_w hw 113 rfl) (own_w hw 112 rfl) (own_w hw 27 rfl) (own_w hw 114 rfl) (by decide) (argsL := []) (rest := []) e759 f763 (rm17 l Z a0 hw o732 Pp732 _ f762) (W := 0) (by decide) (by decide) (by rw [hml]; rfl) (lenOf pd_28 rfl) (Nat.le_of_eq rfl) (hb hby at_563) (by decide) (by decide) rfl ?_
    rintro T764 v764 L764 X764 ⟨rfl, e764, rfl⟩
    rw [List.append_nil] at X764
    refine E.astore (q := 568) (l' := #[.val (.int nn), .val (.int p0), .val (.int p1), .val (.int p2), .val (.int p3), .val (.int p4), .val (.int (0 : Int32)), .val (.ref b710), .val (.ref b722), .val (.ref o732), .val (.ref b735), .val (.ref b737), .val (.ref Pp732)]) X764 hx (hb hby at_566) rfl rfl ?_
    refine E.aload (q := 570) X764 hx (hb hby at_568) rfl rfl ?_
    have f765 := AP732.keep hO735.1 nin0
    have f766 := ((((((AP732.keep hO735.1 nin0).ext E737).other W742 (Nat.ne_of_lt (Nat.lt_of_lt_of_eq f765.lt g737.symm))).other W747 (Nat.ne_of_lt (Nat.lt_of_lt_of_eq f765.lt g737.symm))).other W751 (Nat.ne_of_lt (Nat.lt_of_lt_of_eq f765.lt g737.symm))).other W755 (Nat.ne_of_lt (Nat.lt_of_lt_of_eq f765.lt g737.symm))).other W759 (Nat.ne_of_lt (Nat.lt_of_lt_of_eq f765.lt g737.symm))
    refine Ends.alen X764 hx hZ e764 f766 (hb hby at_570) (n := (0 : Int32)) (by rw [List.length_map, own_ints_len, hg732]; rfl) ?_
    refine E.iconst (q := 572) (v := (3 : Int32)) X764 hx (hb hby at_571) rfl ?_
    refine E.iload (q := 574) X764 hx (hb hby at_572) rfl ?_
    refine Ends.callS X764 hx hZ hown (own_w hw 115 rfl) (own_w hw 72 rfl) (own_w hw 73 rfl) (own_w hw 74 rfl) (by decide) (argsL := [(.int (3 : Int32)), (.int (0 : Int32))]) (rest := [(.int (0 : Int32))]) e764 (rm12 l Z a0 hw 3 0 (by decide) (by decide) _) (W := 1) (by decide) (by decide) (by rw [hml]; rfl) (lenOf pd_19 rfl) (Nat.le_of_eq rfl) (hb hby at_574) (by decide) (by decide) rfl ?_
    rintro T767 v767 L767 X767 ⟨rfl, e767, rfl⟩
    rw [List.append_nil] at X767
    refine E.icmpY (q := 582) X767 hx (hb hby at_577) (XT.ii_eq_t (by decide)) ?_
    refine E.aload (q := 584) X767 hx (hb hby at_582) rfl rfl ?_
    refine E.aload (q := 586) X767 hx (hb hby at_584) rfl rfl ?_
    refine E.iload (q := 588) X767 hx (hb hby at_586) rfl ?_
    refine E.iconst (q := 589) (v := (0 : Int32)) X767 hx (hb hby at_588) rfl ?_
    refine Ends.callS X767 hx hZ hown (own_w hw 116 rfl) (own_w hw 117 rfl) (own_w hw 108 rfl) (own_w hw 118 rfl) (by decide) (argsL := [(.ref Pp732), (.ref b737), (.int (0 : Int32)), (.int (0 : Int32))]) (rest := []) e767 (rmPo0 l Z a0 hw Pp732 b737 (own_Rf u0) (own_Rf u1) (own_Rf u2) (own_Rf u3) (own_Rf u4) 0 (by decide) (own_ints (own_go (own_gtI ([] : List Int32)) 0 0)) (by rw [own_ints_len, hg732]; decide) (fun q => absurd q (by decide)) _ V759 f766) (W := 0) (by decide) (by decide) (by rw [hml]; rfl) (lenOf pd_29 rfl) (Nat.le_of_eq rfl) (hb hby at_589) (by decide) (by decide) rfl ?_
    rintro T768 v768 L768 X768 ⟨rfl, e768, rfl⟩
    rw [List.append_nil] at X768
    refine E.ifY (q := 597) X768 hx (hb hby at_592) (XT.i0_ne_t (by decide)) ?_
    refine E.aload (q := 599) X768 hx (hb hby at_597) rfl rfl ?_
    refine E.aload (q := 601) X768 hx (hb hby at_599) rfl rfl ?_
    refine E.iload (q := 603) X768 hx (hb hby at_601) rfl ?_
    refine E.iconst (q := 604) (v := (1 : Int32)) X768 hx (hb hby at_603) rfl ?_
    refine Ends.callS X768 hx hZ hown (own_w hw 116 rfl) (own_w hw 117 rfl) (own_w hw 108 rfl) (own_w hw 118 rfl) (by decide) (argsL := [(.ref Pp732), (.ref b737), (.int (0 : Int32)), (.int (1 : Int32))]) (rest := []) e768 (rmPo1 l Z a0 hw Pp732 b737 (own_Rf u0) (own_Rf u1) (own_Rf u2) (own_Rf u3) (own_Rf u4) 0 (by decide) (own_ints (own_go (own_gtI ([] : List Int32)) 0 0)) (by rw [own_ints_len, hg732]; decide) (fun q => absurd q (by decide)) _ V759 f766) (W := 0) (by decide) (by decide) (by rw [hml]; rfl) (lenOf pd_29 rfl) (Nat.le_of_eq rfl) (hb hby at_604) (by decide) (by decide) rfl ?_
    rintro T769 v769 L769 X769 ⟨rfl, e769, rfl⟩
    rw [List.append_nil] at X769
    refine E.ifY (q := 612) X769 hx (hb hby at_607) (XT.i0_ne_t (by decide)) ?_
    refine E.aload (q := 614) X769 hx (hb hby at_612) rfl rfl ?_
    refine E.aload (q := 616) X769 hx (hb hby at_614) rfl rfl ?_
    refine E.iload (q := 618) X769 hx (hb hby at_616) rfl ?_
    refine E.iconst (q := 619) (v := (2 : Int32)) X769 hx (hb hby at_618) rfl ?_
    refine Ends.callS X769 hx hZ hown (own_w hw 116 rfl) (own_w hw 117 rfl) (own_w hw 108 rfl) (own_w hw 118 rfl) (by decide) (argsL := [(.ref Pp732), (.ref b737), (.int (0 : Int32)), (.int (2 : Int32))]) (rest := []) e769 (rmPo2 l Z a0 hw Pp732 b737 (own_Rf u0) (own_Rf u1) (own_Rf u2) (own_Rf u3) (own_Rf u4) 0 (by decide) (own_ints (own_go (own_gtI ([] : List Int32)) 0 0)) (by rw [own_ints_len, hg732]; decide) (fun q => absurd q (by decide)) _ V759 f766) (W := 0) (by decide) (by decide) (by rw [hml]; rfl) (lenOf pd_29 rfl) (Nat.le_of_eq rfl) (hb hby at_619) (by decide) (by decide) rfl ?_
    rintro T770 v770 L770 X770 ⟨rfl, e770, rfl⟩
    rw [List.append_nil] at X770
    refine E.ifY (q := 627) X770 hx (hb hby at_622) (XT.i0_ne_t (by decide)) ?_
    refine E.aload (q := 629) X770 hx (hb hby at_627) rfl rfl ?_
    refine E.aload (q := 631) X770 hx (hb hby at_629) rfl rfl ?_
    refine E.iload (q := 633) X770 hx (hb hby at_631) rfl ?_
    refine E.iconst (q := 634) (v := (3 : Int32)) X770 hx (hb hby at_633) rfl ?_
    refine Ends.callS X770 hx hZ hown (own_w hw 116 rfl) (own_w hw 117 rfl) (own_w hw 108 rfl) (own_w hw 118 rfl) (by decide) (argsL := [(.ref Pp732), (.ref b737), (.int (0 : Int32)), (.int (3 : Int32))]) (rest := []) e770 (rmPo3 l Z a0 hw Pp732 b737 (own_Rf u0) (own_Rf u1) (own_Rf u2) (own_Rf u3) (own_Rf u4) 0 (by decide) (own_ints (own_go (own_gtI ([] : List Int32)) 0 0)) (by rw [own_ints_len, hg732]; decide) (fun q => absurd q (by decide)) _ V759 f766) (W := 0) (by decide) (by decide) (by rw [hml]; rfl) (lenOf pd_29 rfl) (Nat.le_of_eq rfl) (hb hby at_634) (by decide) (by decide) rfl ?_
    rintro T771 v771 L771 X771 ⟨rfl, e771, rfl⟩
    rw [List.append_nil] at X771
    refine E.ifY (q := 642) X771 hx (hb hby at_637) (XT.i0_ne_t (by decide)) ?_
    refine E.aload (q := 644) X771 hx (hb hby at_642) rfl rfl ?_
    refine E.aload (q := 646) X771 hx (hb hby at_644) rfl rfl ?_
    refine E.iload (q := 648) X771 hx (hb hby at_646) rfl ?_
    refine E.iconst (q := 649) (v := (4 : Int32)) X771 hx (hb hby at_648) rfl ?_
    refine Ends.callS X771 hx hZ hown (own_w hw 116 rfl) (own_w hw 117 rfl) (own_w hw 108 rfl) (own_w hw 118 rfl) (by decide) (argsL := [(.ref Pp732), (.ref b737), (.int (0 : Int32)), (.int (4 : Int32))]) (rest := []) e771 (rmPo4 l Z a0 hw Pp732 b737 (own_Rf u0) (own_Rf u1) (own_Rf u2) (own_Rf u3) (own_Rf u4) 0 (by decide) (own_ints (own_go (own_gtI ([] : List Int32)) 0 0)) (by rw [own_ints_len, hg732]; decide) (fun q => absurd q (by decide)) _ V759 f766) (W := 0) (by decide) (by decide) (by rw [hml]; rfl) (lenOf pd_29 rfl) (Nat.le_of_eq rfl) (hb hby at_649) (by decide) (by decide) rfl ?_
    rintro T772 v772 L772 X772 ⟨rfl, e772, rfl⟩
    rw [List.append_nil] at X772
    refine E.ifY (q := 657) X772 hx (hb hby at_652) (XT.i0_ne_t (by decide)) ?_
    refine E.iconst (q := 658) (v := (1 : Int32)) X772 hx (hb hby at_657) rfl ?_
    exact Ends.retS X772 hx hlk hret (by simp) rfl (hb hby at_658) (by decide) (by decide) ⟨⟨rfl, (O759).fr⟩, by first | exact (Nat.le_trans (Nat.le_trans (Nat.le_trans (Nat.le_trans (Nat.le_trans (Nat.le_trans (Nat.le_trans (Nat.le_refl _) hO735.1.1) E737.1) (own_wr_le W742)) (own_wr_le W747)) (own_wr_le W751)) (own_wr_le W755)) (own_wr_le W759)) | (rw [e772]; exact (Nat.le_trans (Nat.le_trans (Nat.le_trans (Nat.le_trans (Nat.le_trans (Nat.le_trans (Nat.le_trans (Nat.le_refl _) hO735.1.1) E737.1) (own_wr_le W742)) (own_wr_le W747)) (own_wr_le W751)) (own_wr_le W755)) (own_wr_le W759)))⟩ (hF := own_chret X772 hZ (own_EW hw) HC760 (by first | rfl | assumption))
  · refine E.iload (q := 58) X720 hx (hb hby at_56) rfl ?_
    refine E.ifY (q := 69) X720 hx (hb hby at_58) (XT.i0_ne_t (by decide)) ?_
    refine E.iload (q := 71) X720 hx (hb hby at_69) rfl ?_
    refine E.iconst (q := 72) (v := (1 : Int32)) X720 hx (hb hby at_71) rfl ?_
    refine E.icmpN (q := 75) X720 hx (hb hby at_72) (XT.ii_ne_f (by decide)) ?_
    refine E.iconst (q := 76) (v := (1 : Int32)) X720 hx (hb hby at_75) rfl ?_
    refine Ends.newA X720 hx hZ (own_w hw 3 rfl) e720 (hb hby at_76) (N := 1) rfl (by decide) (by decide) (by decide) ?_
    intro T773 h773 b773 g773 X773 e773 E773 A773
    have ge_b773 : h0.size ≤ b773 := Nat.le_trans O720.le (Nat.le_of_eq g773.symm)
    have O773 := O720.ext E773
    have HC774 := HC721.trans (CHr.ext E773 HC721.1)
    have V773 : Ary Z h773 b773 .char [(.int (0 : Int32))] := A773
    refine E.dup (q := 79) X773 hx (hb hby at_78) rfl ?_
    refine E.iconst (q := 80) (v := (0 : Int32)) X773 hx (hb hby at_79) rfl ?_
    refine E.aload (q := 82) X773 hx (hb hby at_80) rfl rfl ?_
    refine E.iconst (q := 83) (v := (0 : Int32)) X773 hx (hb hby at_82) rfl ?_
    have f775 := V720.ext E773
    refine Ends.ild X773 hx hZ e773 f775 (i := 0) rfl rfl (hb hby at_83) ?_
    refine E.i2c (q := 85) X773 hx (hb hby at_84) ?_
    refine Ends.cst X773 hx hZ e773 V773 (x' := (u0.toUInt32.toUInt16.toUInt32.toInt32)) (own_nc16 (own_cC u0)) (i := 0) rfl (show 0 < 1 from by decide) (hb hby at_85) ?_
    intro T776 h776 X776 e776 W776 V776
    have V776 : Ary Z h776 b773 .char [(.int (u0.toUInt32.toUInt16.toUInt32.toInt32))] := V776
    have O776 := O773.wr W776 (Or.inr ge_b773)
    have HC777 := HC774.trans (CHr.wr W776 (own_safe_ary hZ.alike V773 (by decide)) HC774.1)
    refine E.astore (q := 88) (l' := #[.val (.int nn), .val (.int p0), .val (.int p1), .val (.int p2), .val (.int p3), .val (.int p4), .val (.int (1 : Int32)), .val (.ref b710), .val (.ref b773), .unset, .unset, .unset, .unset]) X776 hx (hb hby at_86) rfl rfl ?_
    refine E.goto (q := 250) X776 hx (hb hby at_88) ?_
    rw [own_nc16 hu0] at V776
    refine Ends.newC X776 hx hZ hown (own_w hw 4 rfl) (own_w hw 5 rfl) (own_w hw 6 rfl) e776 (hb hby at_250) (by decide) (by decide) ?_
    intro T778 h778 b778 g778 X778 e778 E778 A778 D778
    have ge_b778 : h0.size ≤ b778 := Nat.le_trans O776.le (Nat.le_of_eq g778.symm)
    have O778 := O776.ext E778
    have HC779 := HC777.trans (CHr.ext E778 HC777.1)
    have F778_value : Fld Z h778 b778 "java/lang/String" "value" "[B" .null := D778 (Or.inr (own_w hw 19 rfl)) (ty := (.array .byte)) (by decide)
    have F778_coder : Fld Z h778 b778 "java/lang/String" "coder" "B" (.int (0 : Int32)) := D778 (Or.inr (own_w hw 20 rfl)) (ty := .byte) (by decide)
    refine E.dup (q := 254) X778 hx (hb hby at_253) rfl ?_
    refine E.aload (q := 256) X778 hx (hb hby at_254) rfl rfl ?_
    have f780 := V776.ext E778
    refine Ends.callI X778 hx hZ hown (own_w hw 7 rfl) (own_w hw 8 rfl) (own_w hw 6 rfl) (own_w hw 9 rfl) rfl (by decide) (argsL := [(.ref b773)]) (rest := [(.ref b778)]) e778 (rmI1_n l Z a0 hw b778 b773 [u0] (own_C5 hu0 hu1 hu2 hu3 hu4 1) (by simp) (by simp) _ A778 F778_value F778_coder f780 (Nat.ne_of_lt (Nat.lt_of_lt_of_eq V776.lt g778.symm)) cs hcs (own_sta_keep S0 O778.1 own_ns0) (own_sta_keep S2 O778.1 own_ns0) (own_sta_keep S3 O778.1 own_ns0) (own_sta_keep S4 O778.1 own_ns0)) (W := 1) (by decide) (by decide) (by rw [hml]; rfl) (lenOf pd_26 rfl) (Nat.le_of_eq rfl) (hb hby at_256) (by decide) (by decide) rfl ?_
    rintro T781 v781 L781 X781 ⟨rfl, V781, cd781, bs781, gU781, hO781, Fv781, Fc781, A781, hs781⟩
    have e781 : T781.heap = T781.heap := rfl
    have O781 := O778.call hO781 (allS (Or.inr ge_b778) all0)
    have HC782 := HC779.trans (CHr.keep hO781.1 (own_all1 (own_safe_blank hZ.alike A778 F778_value)) HC779.1)
    have f783 := A778.keep hO781.1
    have f784 := (((((A_R.ext E710).other W712 (Nat.ne_of_lt (Nat.lt_of_lt_of_eq A_R.lt g710.symm))).other W714 (Nat.ne_of_lt (Nat.lt_of_lt_of_eq A_R.lt g710.symm))).other W716 (Nat.ne_of_lt (Nat.lt_of_lt_of_eq A_R.lt g710.symm))).other W718 (Nat.ne_of_lt (Nat.lt_of_lt_of_eq A_R.lt g710.symm))).other W720 (Nat.ne_of_lt (Nat.lt_of_lt_of_eq A_R.lt g710.symm))
    have f785 := (f784.ext E773).other W776 (Nat.ne_of_lt (Nat.lt_of_lt_of_eq f784.lt g773.symm))
    have f786 := (((((((((A_R.ext E710).other W712 (Nat.ne_of_lt (Nat.lt_of_lt_of_eq A_R.lt g710.symm))).other W714 (Nat.ne_of_lt (Nat.lt_of_lt_of_eq A_R.lt g710.symm))).other W716 (Nat.ne_of_lt (Nat.lt_of_lt_of_eq A_R.lt g710.symm))).other W718 (Nat.ne_of_lt (Nat.lt_of_lt_of_eq A_R.lt g710.symm))).other W720 (Nat.ne_of_lt (Nat.lt_of_lt_of_eq A_R.lt g710.symm))).ext E773).other W776 (Nat.ne_of_lt (Nat.lt_of_lt_of_eq f784.lt g773.symm))).ext E778).keep hO781.1 (ninS (Nat.ne_of_lt (Nat.lt_of_lt_of_eq f785.lt g778.symm)) nin0)
    refine Ends.callSH X781 hx hZ hown (own_w hw 25 rfl) (own_w hw 26 rfl) (own_w hw 27 rfl) (own_w hw 28 rfl) (by decide) (argsL := [(.ref b778)]) (rest := []) e781 (Nat.zero_le _) (own_EW hw) HC782.1 (rm4 l Z a0 hw b778 V781 cd781 bs781 [u0] hs781 (by simp) rr _ f783 Fv781 Fc781 A781 cs hcs (own_sta_keep S0 O781.1 own_ns0) fv hfv (own_sta_keep S1 O781.1 own_ns0) (own_sta_keep S2 O781.1 own_ns0) (own_sta_keep S3 O781.1 own_ns0) (own_sta_keep S4 O781.1 own_ns0) (own_sta_keep SR O781.1 own_ns0) f786) (W := 0) (by decide) (by decide) (by rw [hml]; rfl) (lenOf pd_27 rfl) (Nat.le_of_eq rfl) (hb hby at_259) (by decide) (by decide) rfl ?_
    rintro s T787 v787 L787 X787 hc787 hZ hown ⟨o787, Uu787, Tt787, Pp787, rfl, go787, hO787, AT787, ET787, Eo787, Fu787, Ft787, Fp787, AU787, AP787⟩
    have e787 : T787.heap = T787.heap := rfl
    have O787 := O781.call hO787 all0
    have HC788 := HC782.trans hc787
    have hg787 : (own_go (own_gtI [own_Rf u0]) 1 1).length = 1 := own_go_len _ _ _
    have AP787 : Ary Z _ Pp787 .int ((own_ints (own_go (own_gtI [own_Rf u0]) 1 1)).map Value.int) := AP787
    refine E.astore (q := 264) (l' := #[.val (.int nn), .val (.int p0), .val (.int p1), .val (.int p2), .val (.int p3), .val (.int p4), .val (.int (1 : Int32)), .val (.ref b710), .val (.ref b773), .val (.ref o787), .unset, .unset, .unset]) X787 hx (hb hby at_262) rfl rfl ?_
    refine E.aload (q := 266) X787 hx (hb hby at_264) rfl rfl ?_
    refine Ends.callV X787 hx hZ hown (own_w hw 87 rfl) (own_w hw 88 rfl) (own_w hw 90 rfl) (own_w hw 89 rfl) (own_w hw 27 rfl) (own_w hw 91 rfl) (by decide) (argsL := []) (rest := []) e787 Eo787 (rm14 l Z a0 hw o787 Uu787 [u0] _ Fu787 AU787) (W := 0) (by decide) (by decide) (by rw [hml]; rfl) (lenOf pd_16 rfl) (Nat.le_of_eq rfl) (hb hby at_266) (by decide) (by decide) rfl ?_
    rintro T789 v789 L789 X789 ⟨rfl, e789, rfl⟩
    rw [List.append_nil] at X789
    show Ends (some (CHr Z own_EL vm0 h0)) p e below s _ _ _ T789 (mkF m 269 #[.val (.int nn), .val (.int p0), .val (.int p1), .val (.int p2), .val (.int p3), .val (.int p4), .val (.int (1 : Int32)), .val (.ref b710), .val (.ref b773), .val (.ref o787), .unset, .unset, .unset] [(.int (1 : Int32))])
    refine E.iload (q := 271) X789 hx (hb hby at_269) rfl ?_
    refine E.icmpY (q := 276) X789 hx (hb hby at_271) (XT.ii_eq_t (by decide)) ?_
    refine E.iload (q := 278) X789 hx (hb hby at_276) rfl ?_
    refine E.ifN (q := 281) X789 hx (hb hby at_278) (XT.i0_le_f (by decide)) ?_
    refine E.aload (q := 283) X789 hx (hb hby at_281) rfl rfl ?_
    refine E.iconst (q := 284) (v := (0 : Int32)) X789 hx (hb hby at_283) rfl ?_
    refine Ends.callV X789 hx hZ hown (own_w hw 166 rfl) (own_w hw 167 rfl) (own_w hw 169 rfl) (own_w hw 168 rfl) (own_w hw 27 rfl) (own_w hw 170 rfl) (by decide) (argsL := [(.int (0 : Int32))]) (rest := []) e789 Eo787 (rm28 l Z a0 hw o787 Uu787 0 u0 [u0] rfl _ Fu787 AU787) (W := 0) (by decide) (by decide) (by rw [hml]; rfl) (lenOf pd_7 rfl) (Nat.le_of_eq rfl) (hb hby at_284) (by decide) (by decide) rfl ?_
    rintro T790 v790 L790 X790 ⟨rfl, e790, rfl⟩
    rw [List.append_nil] at X790
    refine E.aload (q := 289) X790 hx (hb hby at_287) rfl rfl ?_
    refine E.iconst (q := 290) (v := (0 : Int32)) X790 hx (hb hby at_289) rfl ?_
    have f791 := f775.other W776 (Nat.ne_of_lt (Nat.lt_of_lt_of_eq V720.lt g773.symm))
    have f792 := (((f775.other W776 (Nat.ne_of_lt (Nat.lt_of_lt_of_eq V720.lt g773.symm))).ext E778).keep hO781.1 (ninS (Nat.ne_of_lt (Nat.lt_of_lt_of_eq f791.lt g778.symm)) nin0)).keep hO787.1 nin0
    refine Ends.ild X790 hx hZ e790 f792 (i := 0) rfl rfl (hb hby at_290) ?_
    refine E.icmpY (q := 296) X790 hx (hb hby at_291) (XT.ii_eq_t rfl) ?_
    refine E.iload (q := 298) X790 hx (hb hby at_296) rfl ?_
    refine E.iconst (q := 299) (v := (1 : Int32)) X790 hx (hb hby at_298) rfl ?_
    refine E.icmpY (q := 317) X790 hx (hb hby at_299) (XT.ii_le_t (by decide)) ?_
    refine E.iload (q := 319) X790 hx (hb hby at_317) rfl ?_
    refine E.iconst (q := 320) (v := (2 : Int32)) X790 hx (hb hby at_319) rfl ?_
    refine E.icmpY (q := 338) X790 hx (hb hby at_320) (XT.ii_le_t (by decide)) ?_
    refine E.iload (q := 340) X790 hx (hb hby at_338) rfl ?_
    refine E.iconst (q := 341) (v := (3 : Int32)) X790 hx (hb hby at_340) rfl ?_
    refine E.icmpY (q := 359) X790 hx (hb hby at_341) (XT.ii_le_t (by decide)) ?_
    refine E.iload (q := 361) X790 hx (hb hby at_359) rfl ?_
    refine E.iconst (q := 362) (v := (4 : Int32)) X790 hx (hb hby at_361) rfl ?_
    refine E.icmpY (q := 380) X790 hx (hb hby at_362) (XT.ii_le_t (by decide)) ?_
    refine E.aload (q := 382) X790 hx (hb hby at_380) rfl rfl ?_
    refine Ends.callV X790 hx hZ hown (own_w hw 92 rfl) (own_w hw 93 rfl) (own_w hw 95 rfl) (own_w hw 94 rfl) (own_w hw 27 rfl) (own_w hw 96 rfl) (by decide) (argsL := []) (rest := []) e790 Eo787 (rm15 l Z a0 hw o787 Tt787 (own_ints (own_kmp [u0])) (by rw [own_ints_len, own_kmp_len]; simp) _ Ft787 AT787 ET787) (W := 0) (by decide) (by decide) (by rw [hml]; rfl) (lenOf pd_28 rfl) (Nat.le_of_eq rfl) (hb hby at_382) (by decide) (by decide) rfl ?_
    rintro T793 v793 L793 X793 ⟨b793, rfl, gb793, hO793, AC793⟩
    have e793 : T793.heap = T793.heap := rfl
    have O793 := O787.call hO793 all0
    have HC794 := HC788.trans (CHr.keep hO793.1 (own_all0) HC788.1)
    refine E.astore (q := 387) (l' := #[.val (.int nn), .val (.int p0), .val (.int p1), .val (.int p2), .val (.int p3), .val (.int p4), .val (.int (1 : Int32)), .val (.ref b710), .val (.ref b773), .val (.ref o787), .val (.ref b793), .unset, .unset]) X793 hx (hb hby at_385) rfl rfl ?_
    refine E.aload (q := 389) X793 hx (hb hby at_387) rfl rfl ?_
    refine Ends.alen X793 hx hZ e793 AC793 (hb hby at_389) (n := (1 : Int32)) (by rw [List.length_map, own_ints_len, own_kmp_len]; rfl) ?_
    refine E.iload (q := 392) X793 hx (hb hby at_390) rfl ?_
    refine E.icmpY (q := 397) X793 hx (hb hby at_392) (XT.ii_eq_t (by decide)) ?_
    refine E.iload (q := 399) X793 hx (hb hby at_397) rfl ?_
    refine E.ifN (q := 402) X793 hx (hb hby at_399) (XT.i0_le_f (by decide)) ?_
    refine E.aload (q := 404) X793 hx (hb hby at_402) rfl rfl ?_
    refine E.iconst (q := 405) (v := (0 : Int32)) X793 hx (hb hby at_404) rfl ?_
    refine Ends.ild X793 hx hZ e793 AC793 (i := 0) (v := .int (Int32.ofNat (own_ref5 [u0, u1, u2, u3, u4] 0))) rfl (by rw [List.getElem?_map, (show (own_ints (own_kmp [u0]))[0]? = some (Int32.ofNat (own_ref5 [u0, u1, u2, u3, u4] 0)) from own_ckat (own_law5 u0 u1 u2 u3 u4 (n := 1) (i := 0) (by decide) (by decide)))]; rfl) (hb hby at_405) ?_
    refine E.aload (q := 408) X793 hx (hb hby at_406) rfl rfl ?_
    refine E.iconst (q := 409) (v := (0 : Int32)) X793 hx (hb hby at_408) rfl ?_
    have f795 := f792.keep hO793.1 nin0
    refine Ends.callS X793 hx hZ hown (own_w hw 171 rfl) (own_w hw 172 rfl) (own_w hw 108 rfl) (own_w hw 173 rfl) (by decide) (argsL := [(.ref b710), (.int (0 : Int32))]) (rest := [(.int (Int32.ofNat (own_ref5 [u0, u1, u2, u3, u4] 0)))]) e793 (rmBr0 l Z a0 hw b710 u0 u1 u2 u3 u4 _ f795) (W := 1) (by decide) (by decide) (by rw [hml]; rfl) (lenOf pd_30 rfl) (Nat.le_of_eq rfl) (hb hby at_409) (by decide) (by decide) rfl ?_
    rintro T796 v796 L796 X796 ⟨rfl, e796, rfl⟩
    rw [List.append_nil] at X796
    refine E.icmpY (q := 417) X796 hx (hb hby at_412) (XT.ii_eq_t rfl) ?_
    refine E.iload (q := 419) X796 hx (hb hby at_417) rfl ?_
    refine E.iconst (q := 420) (v := (1 : Int32)) X796 hx (hb hby at_419) rfl ?_
    refine E.icmpY (q := 438) X796 hx (hb hby at_420) (XT.ii_le_t (by decide)) ?_
    refine E.iload (q := 440) X796 hx (hb hby at_438) rfl ?_
    refine E.iconst (q := 441) (v := (2 : Int32)) X796 hx (hb hby at_440) rfl ?_
    refine E.icmpY (q := 459) X796 hx (hb hby at_441) (XT.ii_le_t (by decide)) ?_
    refine E.iload (q := 461) X796 hx (hb hby at_459) rfl ?_
    refine E.iconst (q := 462) (v := (3 : Int32)) X796 hx (hb hby at_461) rfl ?_
    refine E.icmpY (q := 480) X796 hx (hb hby at_462) (XT.ii_le_t (by decide)) ?_
    refine E.iload (q := 482) X796 hx (hb hby at_480) rfl ?_
    refine E.iconst (q := 483) (v := (4 : Int32)) X796 hx (hb hby at_482) rfl ?_
    refine E.icmpY (q := 501) X796 hx (hb hby at_483) (XT.ii_le_t (by decide)) ?_
    refine E.iconst (q := 502) (v := (5 : Int32)) X796 hx (hb hby at_501) rfl ?_
    refine Ends.newA X796 hx hZ (own_w hw 1 rfl) e796 (hb hby at_502) (N := 5) rfl (by decide) (by decide) (by decide) ?_
    intro T797 h797 b797 g797 X797 e797 E797 A797
    have ge_b797 : h0.size ≤ b797 := Nat.le_trans O793.le (Nat.le_of_eq g797.symm)
    have O797 := O793.ext E797
    have HC798 := HC794.trans (CHr.ext E797 HC794.1)
    have V797 : Ary Z h797 b797 .int [(.int (0 : Int32)), (.int (0 : Int32)), (.int (0 : Int32)), (.int (0 : Int32)), (.int (0 : Int32))] := A797
    refine E.astore (q := 506) (l' := #[.val (.int nn), .val (.int p0), .val (.int p1), .val (.int p2), .val (.int p3), .val (.int p4), .val (.int (1 : Int32)), .val (.ref b710), .val (.ref b773), .val (.ref o787), .val (.ref b793), .val (.ref b797), .unset]) X797 hx (hb hby at_504) rfl rfl ?_
    refine E.aload (q := 508) X797 hx (hb hby at_506) rfl rfl ?_
    refine E.iconst (q := 509) (v := (0 : Int32)) X797 hx (hb hby at_508) rfl ?_
    refine E.aload (q := 511) X797 hx (hb hby at_509) rfl rfl ?_
    refine E.iconst (q := 512) (v := (0 : Int32)) X797 hx (hb hby at_511) rfl ?_
    have f799 := f795.ext E797
    refine Ends.ild X797 hx hZ e797 f799 (i := 0) rfl rfl (hb hby at_512) ?_
    refine Ends.callS X797 hx hZ hown (own_w hw 106 rfl) (own_w hw 107 rfl) (own_w hw 108 rfl) (own_w hw 109 rfl) (by decide) (argsL := [(.int u0)]) (rest := [(.int (0 : Int32)), (.ref b797)]) e797 (rm16 l Z a0 hw u0 _) (W := 2) (by decide) (by decide) (by rw [hml]; rfl) (lenOf pd_7 rfl) (Nat.le_of_eq rfl) (hb hby at_513) (by decide) (by decide) rfl ?_
    rintro T800 v800 L800 X800 ⟨rfl, e800, rfl⟩
    rw [List.append_nil] at X800
    refine Ends.ist X800 hx hZ e800 V797 (i := 0) rfl (show 0 < 5 from by decide) (hb hby at_516) ?_
    intro T801 h801 X801 e801 W801 V801
    have V801 : Ary Z h801 b797 .int [(.int (own_Rf u0)), (.int (0 : Int32)), (.int (0 : Int32)), (.int (0 : Int32)), (.int (0 : Int32))] := V801
    have O801 := O797.wr W801 (Or.inr ge_b797)
    have HC802 := HC798.trans (CHr.wr W801 (own_safe_ary hZ.alike V797 (by decide)) HC798.1)
    refine E.aload (q := 519) X801 hx (hb hby at_517) rfl rfl ?_
    refine E.iconst (q := 520) (v := (1 : Int32)) X801 hx (hb hby at_519) rfl ?_
    refine E.aload (q := 522) X801 hx (hb hby at_520) rfl rfl ?_
    refine E.iconst (q := 523) (v := (1 : Int32)) X801 hx (hb hby at_522) rfl ?_
    have f803 := f799.other W801 (Nat.ne_of_lt (Nat.lt_of_lt_of_eq f795.lt g797.symm))
    refine Ends.ild X801 hx hZ e801 f803 (i := 1) rfl rfl (hb hby at_523) ?_
    refine Ends.callS X801 hx hZ hown (own_w hw 106 rfl) (own_w hw 107 rfl) (own_w hw 108 rfl) (own_w hw 109 rfl) (by decide) (argsL := [(.int u1)]) (rest := [(.int (1 : Int32)), (.ref b797)]) e801 (rm16 l Z a0 hw u1 _) (W := 2) (by decide) (by decide) (by rw [hml]; rfl) (lenOf pd_7 rfl) (Nat.le_of_eq rfl) (hb hby at_524) (by decide) (by decide) rfl ?_
    rintro T804 v804 L804 X804 ⟨rfl, e804, rfl⟩
    rw [List.append_nil] at X804
    refine Ends.ist X804 hx hZ e804 V801 (i := 1) rfl (show 1 < 5 from by decide) (hb hby at_527) ?_
    intro T805 h805 X805 e805 W805 V805
    have V805 : Ary Z h805 b797 .int [(.int (own_Rf u0)), (.int (own_Rf u1)), (.int (0 : Int32)), (.int (0 : Int32)), (.int (0 : Int32))] := V805
    have O805 := O801.wr W805 (Or.inr ge_b797)
    have HC806 := HC802.trans (CHr.wr W805 (own_safe_ary hZ.alike V801 (by decide)) HC802.1)
    refine E.aload (q := 530) X805 hx (hb hby at_528) rfl rfl ?_
    refine E.iconst (q := 531) (v := (2 : Int32)) X805 hx (hb hby at_530) rfl ?_
    refine E.aload (q := 533) X805 hx (hb hby at_531) rfl rfl ?_
    refine E.iconst (q := 534) (v := (2 : Int32)) X805 hx (hb hby at_533) rfl ?_
    have f807 := f803.other W805 (Nat.ne_of_lt (Nat.lt_of_lt_of_eq f795.lt g797.symm))
    refine Ends.ild X805 hx hZ e805 f807 (i := 2) rfl rfl (hb hby at_534) ?_
    refine Ends.callS X805 hx hZ hown (own_w hw 106 rfl) (own_w hw 107 rfl) (own_w hw 108 rfl) (own_w hw 109 rfl) (by decide) (argsL := [(.int u2)]) (rest := [(.int (2 : Int32)), (.ref b797)]) e805 (rm16 l Z a0 hw u2 _) (W := 2) (by decide) (by decide) (by rw [hml]; rfl) (lenOf pd_7 rfl) (Nat.le_of_eq rfl) (hb hby at_535) (by decide) (by decide) rfl ?_
    rintro T808 v808 L808 X808 ⟨rfl, e808, rfl⟩
    rw [List.append_nil] at X808
    refine Ends.ist X808 hx hZ e808 V805 (i := 2) rfl (show 2 < 5 from by decide) (hb hby at_538) ?_
    intro T809 h809 X809 e809 W809 V809
    have V809 : Ary Z h809 b797 .int [(.int (own_Rf u0)), (.int (own_Rf u1)), (.int (own_Rf u2)), (.int (0 : Int32)), (.int (0 : Int32))] := V809
    have O809 := O805.wr W809 (Or.inr ge_b797)
    have HC810 := HC806.trans (CHr.wr W809 (own_safe_ary hZ.alike V805 (by decide)) HC806.1)
    refine E.aload (q := 541) X809 hx (hb hby at_539) rfl rfl ?_
    refine E.iconst (q := 542) (v := (3 : Int32)) X809 hx (hb hby at_541) rfl ?_
    refine E.aload (q := 544) X809 hx (hb hby at_542) rfl rfl ?_
    refine E.iconst (q := 545) (v := (3 : Int32)) X809 hx (hb hby at_544) rfl ?_
    have f811 := f807.other W809 (Nat.ne_of_lt (Nat.lt_of_lt_of_eq f795.lt g797.symm))
    refine Ends.ild X809 hx hZ e809 f811 (i := 3) rfl rfl (hb hby at_545) ?_
    refine Ends.callS X809 hx hZ hown (own_w hw 106 rfl) (own_w hw 107 rfl) (own_w hw 108 rfl) (own_w hw 109 rfl) (by decide) (argsL := [(.int u3)]) (rest := [(.int (3 : Int32)), (.ref b797)]) e809 (rm16 l Z a0 hw u3 _) (W := 2) (by decide) (by decide) (by rw [hml]; rfl) (lenOf pd_7 rfl) (Nat.le_of_eq rfl) (hb hby at_546) (by decide) (by decide) rfl ?_
    rintro T812 v812 L812 X812 ⟨rfl, e812, rfl⟩
    rw [List.append_nil] at X812
    refine Ends.ist X812 hx hZ e812 V809 (i := 3) rfl (show 3 < 5 from by decide) (hb hby at_549) ?_
    intro T813 h813 X813 e813 W813 V813
    have V813 : Ary Z h813 b797 .int [(.int (own_Rf u0)), (.int (own_Rf u1)), (.int (own_Rf u2)), (.int (own_Rf u3)), (.int (0 : Int32))] := V813
    have O813 := O809.wr W813 (Or.inr ge_b797)
    have HC814 := HC810.trans (CHr.wr W813 (own_safe_ary hZ.alike V809 (by decide)) HC810.1)
    refine E.aload (q := 552) X813 hx (hb hby at_550) rfl rfl ?_
    refine E.iconst (q := 553) (v := (4 : Int32)) X813 hx (hb hby at_552) rfl ?_
    refine E.aload (q := 555) X813 hx (hb hby at_553) rfl rfl ?_
    refine E.iconst (q := 556) (v := (4 : Int32)) X813 hx (hb hby at_555) rfl ?_
    have f815 := f811.other W813 (Nat.ne_of_lt (Nat.lt_of_lt_of_eq f795.lt g797.symm))
    refine Ends.ild X813 hx hZ e813 f815 (i := 4) rfl rfl (hb hby at_556) ?_
    refine Ends.callS X813 hx hZ hown (own_w hw 106 rfl) (own_w hw 107 rfl) (own_w hw 108 rfl) (own_w hw 109 rfl) (by decide) (argsL := [(.int u4)]) (rest := [(.int (4 : Int32)), (.ref b797)]) e813 (rm16 l Z a0 hw u4 _) (W := 2) (by decide) (by decide) (by rw [hml]; rfl) (lenOf pd_7 rfl) (Nat.le_of_eq rfl) (hb hby at_557) (by decide) (by decide) rfl ?_
    rintro T816 v816 L816 X816 ⟨rfl, e816, rfl⟩
    rw [List.append_nil] at X816
    refine Ends.ist X816 hx hZ e816 V813 (i := 4) rfl (show 4 < 5 from by decide) (hb hby at_560) ?_
    intro T817 h817 X817 e817 W817 V817
    have V817 : Ary Z h817 b797 .int [(.int (own_Rf u0)), (.int (own_Rf u1)), (.int (own_Rf u2)), (.int (own_Rf u3)), (.int (own_Rf u4))] := V817
    have O817 := O813.wr W817 (Or.inr ge_b797)
    have HC818 := HC814.trans (CHr.wr W817 (own_safe_ary hZ.alike V813 (by decide)) HC814.1)
    refine E.aload (q := 563) X817 hx (hb hby at_561) rfl rfl ?_
    have f819 := Eo787.keep hO793.1
    have f820 := ((((((Fp787.keep hO793.1 nin0).ext E797).other W801 (Or.inl (Nat.ne_of_lt (Nat.lt_of_lt_of_eq f819.lt g797.symm)))).other W805 (Or.inl (Nat.ne_of_lt (Nat.lt_of_lt_of_eq f819.lt g797.symm)))).other W809 (Or.inl (Nat.ne_of_lt (Nat.lt_of_lt_of_eq f819.lt g797.symm)))).other W813 (Or.inl (Nat.ne_of_lt (Nat.lt_of_lt_of_eq f819.lt g797.symm)))).other W817 (Or.inl (Nat.ne_of_lt (Nat.lt_of_lt_of_eq f819.lt g797.symm)))
    have f821 := (((((f819.ext E797).wr W801).wr W805).wr W809).wr W813).wr W817
    refine Ends.callV X817 hx hZ hown (own_w hw 110 rfl) (own_w hw 111 rfl) (own_w hw 113 rfl) (own_w hw 112 rfl) (own_w hw 27 rfl) (own_w hw 114 rfl) (by decide) (argsL := []) (rest := []) e817 f821 (rm17 l Z a0 hw o787 Pp787 _ f820) (W := 0) (by decide) (by decide) (by rw [hml]; rfl) (lenOf pd_28 rfl) (Nat.le_of_eq rfl) (hb hby at_563) (by decide) (by decide) rfl ?_
    rintro T822 v822 L822 X822 ⟨rfl, e822, rfl⟩
    rw [List.append_nil] at X822
    refine E.astore (q := 568) (l' := #[.val (.int nn), .val (.int p0), .val (.int p1), .val (.int p2), .val (.int p3), .val (.int p4), .val (.int (1 : Int32)), .val (.ref b710), .val (.ref b773), .val (.ref o787), .val (.ref b793), .val (.ref b797), .val (.ref Pp787)]) X822 hx (hb hby at_566) rfl rfl ?_
    refine E.aload (q := 570) X822 hx (hb hby at_568) rfl rfl ?_
    have f823 := AP787.keep hO793.1 nin0
    have f824 := ((((((AP787.keep hO793.1 nin0).ext E797).other W801 (Nat.ne_of_lt (Nat.lt_of_lt_of_eq f823.lt g797.symm))).other W805 (Nat.ne_of_lt (Nat.lt_of_lt_of_eq f823.lt g797.symm))).other W809 (Nat.ne_of_lt (Nat.lt_of_lt_of_eq f823.lt g797.symm))).other W813 (Nat.ne_of_lt (Nat.lt_of_lt_of_eq f823.lt g797.symm))).other W817 (Nat.ne_of_lt (Nat.lt_of_lt_of_eq f823.lt g797.symm))
    refine Ends.alen X822 hx hZ e822 f824 (hb hby at_570) (n := (1 : Int32)) (by rw [List.length_map, own_ints_len, hg787]; rfl) ?_
    refine E.iconst (q := 572) (v := (3 : Int32)) X822 hx (hb hby at_571) rfl ?_
    refine E.iload (q := 574) X822 hx (hb hby at_572) rfl ?_
    refine Ends.callS X822 hx hZ hown (own_w hw 115 rfl) (own_w hw 72 rfl) (own_w hw 73 rfl) (own_w hw 74 rfl) (by decide) (argsL := [(.int (3 : Int32)), (.int (1 : Int32))]) (rest := [(.int (1 : Int32))]) e822 (rm12 l Z a0 hw 3 1 (by decide) (by decide) _) (W := 1) (by decide) (by decide) (by rw [hml]; rfl) (lenOf pd_19 rfl) (Nat.le_of_eq rfl) (hb hby at_574) (by decide) (by decide) rfl ?_
    rintro T825 v825 L825 X825 ⟨rfl, e825, rfl⟩
    rw [List.append_nil] at X825
    refine E.icmpY (q := 582) X825 hx (hb hby at_577) (XT.ii_eq_t (by decide)) ?_
    refine E.aload (q := 584) X825 hx (hb hby at_582) rfl rfl ?_
    refine E.aload (q := 586) X825 hx (hb hby at_584) rfl rfl ?_
    refine E.iload (q := 588) X825 hx (hb hby at_586) rfl ?_
    refine E.iconst (q := 589) (v := (0 : Int32)) X825 hx (hb hby at_588) rfl ?_
    refine Ends.callS X825 hx hZ hown (own_w hw 116 rfl) (own_w hw 117 rfl) (own_w hw 108 rfl) (own_w hw 118 rfl) (by decide) (argsL := [(.ref Pp787), (.ref b797), (.int (1 : Int32)), (.int (0 : Int32))]) (rest := []) e825 (rmPo0 l Z a0 hw Pp787 b797 (own_Rf u0) (own_Rf u1) (own_Rf u2) (own_Rf u3) (own_Rf u4) 1 (by decide) (own_ints (own_go (own_gtI [own_Rf u0]) 1 1)) (by rw [own_ints_len, hg787]; decide) (fun _ q => own_ckat (own_probe5 (l := [own_Rf u0, own_Rf u1, own_Rf u2, own_Rf u3, own_Rf u4]) rfl (n := 1) (i := 0) (by decide) (by decide) (by rw [own_ints_len, hg787] at q; exact q))) _ V817 f824) (W := 0) (by decide) (by decide) (by rw [hml]; rfl) (lenOf pd_29 rfl) (Nat.le_of_eq rfl) (hb hby at_589) (by decide) (by decide) rfl ?_
    rintro T826 v826 L826 X826 ⟨rfl, e826, rfl⟩
    rw [List.append_nil] at X826
    refine E.ifY (q := 597) X826 hx (hb hby at_592) (XT.i0_ne_t (by decide)) ?_
    refine E.aload (q := 599) X826 hx (hb hby at_597) rfl rfl ?_
    refine E.aload (q := 601) X826 hx (hb hby at_599) rfl rfl ?_
    refine E.iload (q := 603) X826 hx (hb hby at_601) rfl ?_
    refine E.iconst (q := 604) (v := (1 : Int32)) X826 hx (hb hby at_603) rfl ?_
    refine Ends.callS X826 hx hZ hown (own_w hw 116 rfl) (own_w hw 117 rfl) (own_w hw 108 rfl) (own_w hw 118 rfl) (by decide) (argsL := [(.ref Pp787), (.ref b797), (.int (1 : Int32)), (.int (1 : Int32))]) (rest := []) e826 (rmPo1 l Z a0 hw Pp787 b797 (own_Rf u0) (own_Rf u1) (own_Rf u2) (own_Rf u3) (own_Rf u4) 1 (by decide) (own_ints (own_go (own_gtI [own_Rf u0]) 1 1)) (by rw [own_ints_len, hg787]; decide) (fun q => absurd q (by decide)) _ V817 f824) (W := 0) (by decide) (by decide) (by rw [hml]; rfl) (lenOf pd_29 rfl) (Nat.le_of_eq rfl) (hb hby at_604) (by decide) (by decide) rfl ?_
    rintro T827 v827 L827 X827 ⟨rfl, e827, rfl⟩
    rw [List.append_nil] at X827
    refine E.ifY (q := 612) X827 hx (hb hby at_607) (XT.i0_ne_t (by decide)) ?_
    refine E.aload (q := 614) X827 hx (hb hby at_612) rfl rfl ?_
    refine E.aload (q := 616) X827 hx (hb hby at_614) rfl rfl ?_
    refine E.iload (q := 618) X827 hx (hb hby at_616) rfl ?_
    refine E.iconst (q := 619) (v := (2 : Int32)) X827 hx (hb hby at_618) rfl ?_
    refine Ends.callS X827 hx hZ hown (own_w hw 116 rfl) (own_w hw 117 rfl) (own_w hw 108 rfl) (own_w hw 118 rfl) (by decide) (argsL := [(.ref Pp787), (.ref b797), (.int (1 : Int32)), (.int (2 : Int32))]) (rest := []) e827 (rmPo2 l Z a0 hw Pp787 b797 (own_Rf u0) (own_Rf u1) (own_Rf u2) (own_Rf u3) (own_Rf u4) 1 (by decide) (own_ints (own_go (own_gtI [own_Rf u0]) 1 1)) (by rw [own_ints_len, hg787]; decide) (fun q => absurd q (by decide)) _ V817 f824) (W := 0) (by decide) (by decide) (by rw [hml]; rfl) (lenOf pd_29 rfl) (Nat.le_of_eq rfl) (hb hby at_619) (by decide) (by decide) rfl ?_
    rintro T828 v828 L828 X828 ⟨rfl, e828, rfl⟩
    rw [List.append_nil] at X828
    refine E.ifY (q := 627) X828 hx (hb hby at_622) (XT.i0_ne_t (by decide)) ?_
    refine E.aload (q := 629) X828 hx (hb hby at_627) rfl rfl ?_
    refine E.aload (q := 631) X828 hx (hb hby at_629) rfl rfl ?_
    refine E.iload (q := 633) X828 hx (hb hby at_631) rfl ?_
    refine E.iconst (q := 634) (v := (3 : Int32)) X828 hx (hb hby at_633) rfl ?_
    refine Ends.callS X828 hx hZ hown (own_w hw 116 rfl) (own_w hw 117 rfl) (own_w hw 108 rfl) (own_w hw 118 rfl) (by decide) (argsL := [(.ref Pp787), (.ref b797), (.int (1 : Int32)), (.int (3 : Int32))]) (rest := []) e828 (rmPo3 l Z a0 hw Pp787 b797 (own_Rf u0) (own_Rf u1) (own_Rf u2) (own_Rf u3) (own_Rf u4) 1 (by decide) (own_ints (own_go (own_gtI [own_Rf u0]) 1 1)) (by rw [own_ints_len, hg787]; decide) (fun q => absurd q (by decide)) _ V817 f824) (W := 0) (by decide) (by decide) (by rw [hml]; rfl) (lenOf pd_29 rfl) (Nat.le_of_eq rfl) (hb hby at_634) (by decide) (by decide) rfl ?_
    rintro T829 v829 L829 X829 ⟨rfl, e829, rfl⟩
    rw [List.append_nil] at X829
    refine E.ifY (q := 642) X829 hx (hb hby at_637) (XT.i0_ne_t (by decide)) ?_
    refine E.aload (q := 644) X829 hx (hb hby at_642) rfl rfl ?_
    refine E.aload (q := 646) X829 hx (hb hby at_644) rfl rfl ?_
    refine E.iload (q := 648) X829 hx (hb hby at_646) rfl ?_
    refine E.iconst (q := 649) (v := (4 : Int32)) X829 hx (hb hby at_648) rfl ?_
    refine Ends.callS X829 hx hZ hown (own_w hw 116 rfl) (own_w hw 117 rfl) (own_w hw 108 rfl) (own_w hw 118 rfl) (by decide) (argsL := [(.ref Pp787), (.ref b797), (.int (1 : Int32)), (.int (4 : Int32))]) (rest := []) e829 (rmPo4 l Z a0 hw Pp787 b797 (own_Rf u0) (own_Rf u1) (own_Rf u2) (own_Rf u3) (own_Rf u4) 1 (by decide) (own_ints (own_go (own_gtI [own_Rf u0]) 1 1)) (by rw [own_ints_len, hg787]; decide) (fun q => absurd q (by decide)) _ V817 f824) (W := 0) (by decide) (by decide) (by rw [hml]; rfl) (lenOf pd_29 rfl) (Nat.le_of_eq rfl) (hb hby at_649) (by decide) (by decide) rfl ?_
    rintro T830 v830 L830 X830 ⟨rfl, e830, rfl⟩
    rw [List.append_nil] at X830
    refine E.ifY (q := 657) X830 hx (hb hby at_652) (XT.i0_ne_t (by decide)) ?_
    refine E.iconst (q := 658) (v := (1 : Int32)) X830 hx (hb hby at_657) rfl ?_
    exact Ends.retS X830 hx hlk hret (by simp) rfl (hb hby at_658) (by decide) (by decide) ⟨⟨rfl, (O817).fr⟩, by first | exact (Nat.le_trans (Nat.le_trans (Nat.le_trans (Nat.le_trans (Nat.le_trans (Nat.le_trans (Nat.le_trans (Nat.le_refl _) hO793.1.1) E797.1) (own_wr_le W801)) (own_wr_le W805)) (own_wr_le W809)) (own_wr_le W813)) (own_wr_le W817)) | (rw [e830]; exact (Nat.le_trans (Nat.le_trans (Nat.le_trans (Nat.le_trans (Nat.le_trans (Nat.le_trans (Nat.le_trans (Nat.le_refl _) hO793.1.1) E797.1) (own_wr_le W801)) (own_wr_le W805)) (own_wr_le W809)) (own_wr_le W813)) (own_wr_le W817)))⟩ (hF := own_chret X830 hZ (own_EW hw) HC818 (by first | rfl | assumption))
  · refine E.iload (q := 58) X720 hx (hb hby at_56) rfl ?_
    refine E.ifY (q := 69) X720 hx (hb hby at_58) (XT.i0_ne_t (by decide)) ?_
    refine E.iload (q := 71) X720 hx (hb hby at_69) rfl ?_
    refine E.iconst (q := 72) (v := (1 : Int32)) X720 hx (hb hby at_71) rfl ?_
    refine E.icmpY (q := 91) X720 hx (hb hby at_72) (XT.ii_ne_t (by decide)) ?_
    refine E.iload (q := 93) X720 hx (hb hby at_91) rfl ?_
    refine E.iconst (q := 94) (v := (2 : Int32)) X720 hx (hb hby at_93) rfl ?_
    refine E.icmpN (q := 97) X720 hx (hb hby at_94) (XT.ii_ne_f (by decide)) ?_
    refine E.iconst (q := 98) (v := (2 : Int32)) X720 hx (hb hby at_97) rfl ?_
    refine Ends.newA X720 hx hZ (own_w hw 3 rfl) e720 (hb hby at_98) (N := 2) rfl (by decide) (by decide) (by decide) ?_
    intro T831 h831 b831 g831 X831 e831 E831 A831
    have ge_b831 : h0.size ≤ b831 := Nat.le_trans O720.le (Nat.le_of_eq g831.symm)
    have O831 := O720.ext E831
    have HC832 := HC721.trans (CHr.ext E831 HC721.1)
    have V831 : Ary Z h831 b831 .char [(.int (0 : Int32)), (.int (0 : Int32))] := A831
    refine E.dup (q := 101) X831 hx (hb hby at_100) rfl ?_
    refine E.iconst (q := 102) (v := (0 : Int32)) X831 hx (hb hby at_101) rfl ?_
    refine E.aload (q := 104) X831 hx (hb hby at_102) rfl rfl ?_
    refine E.iconst (q := 105) (v := (0 : Int32)) X831 hx (hb hby at_104) rfl ?_
    have f833 := V720.ext E831
    refine Ends.ild X831 hx hZ e831 f833 (i := 0) rfl rfl (hb hby at_105) ?_
    refine E.i2c (q := 107) X831 hx (hb hby at_106) ?_
    refine Ends.cst X831 hx hZ e831 V831 (x' := (u0.toUInt32.toUInt16.toUInt32.toInt32)) (own_nc16 (own_cC u0)) (i := 0) rfl (show 0 < 2 from by decide) (hb hby at_107) ?_
    intro T834 h834 X834 e834 W834 V834
    have V834 : Ary Z h834 b831 .char [(.int (u0.toUInt32.toUInt16.toUInt32.toInt32)), (.int (0 : Int32))] := V834
    have O834 := O831.wr W834 (Or.inr ge_b831)
    have HC835 := HC832.trans (CHr.wr W834 (own_safe_ary hZ.alike V831 (by decide)) HC832.1)
    refine E.dup (q := 109) X834 hx (hb hby at_108) rfl ?_
    refine E.iconst (q := 110) (v := (1 : Int32)) X834 hx (hb hby at_109) rfl ?_
    refine E.aload (q := 112) X834 hx (hb hby at_110) rfl rfl ?_
    refine E.iconst (q := 113) (v := (1 : Int32)) X834 hx (hb hby at_112) rfl ?_
    have f836 := f833.other W834 (Nat.ne_of_lt (Nat.lt_of_lt_of_eq V720.lt g831.symm))
    refine Ends.ild X834 hx hZ e834 f836 (i := 1) rfl rfl (hb hby at_113) ?_
    refine E.i2c (q := 115) X834 hx (hb hby at_114) ?_
    refine Ends.cst X834 hx hZ e834 V834 (x' := (u1.toUInt32.toUInt16.toUInt32.toInt32)) (own_nc16 (own_cC u1)) (i := 1) rfl (show 1 < 2 from by decide) (hb hby at_115) ?_
    intro T837 h837 X837 e837 W837 V837
    have V837 : Ary Z h837 b831 .char [(.int (u0.toUInt32.toUInt16.toUInt32.toInt32)), (.int (u1.toUInt32.toUInt16.toUInt32.toInt32))] := V837
    have O837 := O834.wr W837 (Or.inr ge_b831)
    have HC838 := HC835.trans (CHr.wr W837 (own_safe_ary hZ.alike V834 (by decide)) HC835.1)
    refine E.astore (q := 118) (l' := #[.val (.int nn), .val (.int p0), .val (.int p1), .val (.int p2), .val (.int p3), .val (.int p4), .val (.int (2 : Int32)), .val (.ref b710), .val (.ref b831), .unset, .unset, .unset, .unset]) X837 hx (hb hby at_116) rfl rfl ?_
    refine E.goto (q := 250) X837 hx (hb hby at_118) ?_
    rw [own_nc16 hu0, own_nc16 hu1] at V837
    refine Ends.newC X837 hx hZ hown (own_w hw 4 rfl) (own_w hw 5 rfl) (own_w hw 6 rfl) e837 (hb hby at_250) (by decide) (by decide) ?_
    intro T839 h839 b839 g839 X839 e839 E839 A839 D839
    have ge_b839 : h0.size ≤ b839 := Nat.le_trans O837.le (Nat.le_of_eq g839.symm)
    have O839 := O837.ext E839
    have HC840 := HC838.trans (CHr.ext E839 HC838.1)
    have F839_value : Fld Z h839 b839 "java/lang/String" "value" "[B" .null := D839 (Or.inr (own_w hw 19 rfl)) (ty := (.array .byte)) (by decide)
    have F839_coder : Fld Z h839 b839 "java/lang/String" "coder" "B" (.int (0 : Int32)) := D839 (Or.inr (own_w hw 20 rfl)) (ty := .byte) (by decide)
    refine E.dup (q := 254) X839 hx (hb hby at_253) rfl ?_
    refine E.aload (q := 256) X839 hx (hb hby at_254) rfl rfl ?_
    have f841 := V837.ext E839
    refine Ends.callI X839 hx hZ hown (own_w hw 7 rfl) (own_w hw 8 rfl) (own_w hw 6 rfl) (own_w hw 9 rfl) rfl (by decide) (argsL := [(.ref b831)]) (rest := [(.ref b839)]) e839 (rmI1_n l Z a0 hw b839 b831 [u0, u1] (own_C5 hu0 hu1 hu2 hu3 hu4 2) (by simp) (by simp) _ A839 F839_value F839_coder f841 (Nat.ne_of_lt (Nat.lt_of_lt_of_eq V837.lt g839.symm)) cs hcs (own_sta_keep S0 O839.1 own_ns0) (own_sta_keep S2 O839.1 own_ns0) (own_sta_keep S3 O839.1 own_ns0) (own_sta_keep S4 O839.1 own_ns0)) (W := 1) (by decide) (by decide) (by rw [hml]; rfl) (lenOf pd_26 rfl) (Nat.le_of_eq rfl) (hb hby at_256) (by decide) (by decide) rfl ?_
    rintro T842 v842 L842 X842 ⟨rfl, V842, cd842, bs842, gU842, hO842, Fv842, Fc842, A842, hs842⟩
    have e842 : T842.heap = T842.heap := rfl
    have O842 := O839.call hO842 (allS (Or.inr ge_b839) all0)
    have HC843 := HC840.trans (CHr.keep hO842.1 (own_all1 (own_safe_blank hZ.alike A839 F839_value)) HC840.1)
    have f844 := A839.keep hO842.1
    have f845 := (((((A_R.ext E710).other W712 (Nat.ne_of_lt (Nat.lt_of_lt_of_eq A_R.lt g710.symm))).other W714 (Nat.ne_of_lt (Nat.lt_of_lt_of_eq A_R.lt g710.symm))).other W716 (Nat.ne_of_lt (Nat.lt_of_lt_of_eq A_R.lt g710.symm))).other W718 (Nat.ne_of_lt (Nat.lt_of_lt_of_eq A_R.lt g710.symm))).other W720 (Nat.ne_of_lt (Nat.lt_of_lt_of_eq A_R.lt g710.symm))
    have f846 := ((f845.ext E831).other W834 (Nat.ne_of_lt (Nat.lt_of_lt_of_eq f845.lt g831.symm))).other W837 (Nat.ne_of_lt (Nat.lt_of_lt_of_eq f845.lt g831.symm))
    have f847 := ((((((((((A_R.ext E710).other W712 (Nat.ne_of_lt (Nat.lt_of_lt_of_eq A_R.lt g710.symm))).other W714 (Nat.ne_of_lt (Nat.lt_of_lt_of_eq A_R.lt g710.symm))).other W716 (Nat.ne_of_lt (Nat.lt_of_lt_of_eq A_R.lt g710.symm))).other W718 (Nat.ne_of_lt (Nat.lt_of_lt_of_eq A_R.lt g710.symm))).other W720 (Nat.ne_of_lt (Nat.lt_of_lt_of_eq A_R.lt g710.symm))).ext E831).other W834 (Nat.ne_of_lt (Nat.lt_of_lt_of_eq f845.lt g831.symm))).other W837 (Nat.ne_of_lt (Nat.lt_of_lt_of_eq f845.lt g831.symm))).ext E839).keep hO842.1 (ninS (Nat.ne_of_lt (Nat.lt_of_lt_of_eq f846.lt g839.symm)) nin0)
    refine Ends.callSH X842 hx hZ hown (own_w hw 25 rfl) (own_w hw 26 rfl) (own_w hw 27 rfl) (own_w hw 28 rfl) (by decide) (argsL := [(.ref b839)]) (rest := []) e842 (Nat.zero_le _) (own_EW hw) HC843.1 (rm4 l Z a0 hw b839 V842 cd842 bs842 [u0, u1] hs842 (by simp) rr _ f844 Fv842 Fc842 A842 cs hcs (own_sta_keep S0 O842.1 own_ns0) fv hfv (own_sta_keep S1 O842.1 own_ns0) (own_sta_keep S2 O842.1 own_ns0) (own_sta_keep S3 O842.1 own_ns0) (own_sta_keep S4 O842.1 own_ns0) (own_sta_keep SR O842.1 own_ns0) f847) (W := 0) (by decide) (by decide) (by rw [hml]; rfl) (lenOf pd_27 rfl) (Nat.le_of_eq rfl) (hb hby at_259) (by decide) (by decide) rfl ?_
    rintro s T848 v848 L848 X848 hc848 hZ hown ⟨o848, Uu848, Tt848, Pp848, rfl, go848, hO848, AT848, ET848, Eo848, Fu848, Ft848, Fp848, AU848, AP848⟩
    have e848 : T848.heap = T848.heap := rfl
    have O848 := O842.call hO848 all0
    have HC849 := HC843.trans hc848
    have hg848 : (own_go (own_gtI [own_Rf u0, own_Rf u1]) 2 2).length = 2 := own_go_len _ _ _
    have AP848 : Ary Z _ Pp848 .int ((own_ints (own_go (own_gtI [own_Rf u0, own_Rf u1]) 2 2)).map Value.int) := AP848
    refine E.astore (q := 264) (l' := #[.val (.int nn), .val (.int p0), .val (.int p1), .val (.int p2), .val (.int p3), .val (.int p4), .val (.int (2 : Int32)), .val (.ref b710), .val (.ref b831), .val (.ref o848), .unset, .unset, .unset]) X848 hx (hb hby at_262) rfl rfl ?_
    refine E.aload (q := 266) X848 hx (hb hby at_264) rfl rfl ?_
    refine Ends.callV X848 hx hZ hown (own_w hw 87 rfl) (own_w hw 88 rfl) (own_w hw 90 rfl) (own_w hw 89 rfl) (own_w hw 27 rfl) (own_w hw 91 rfl) (by decide) (argsL := []) (rest := []) e848 Eo848 (rm14 l Z a0 hw o848 Uu848 [u0, u1] _ Fu848 AU848) (W := 0) (by decide) (by decide) (by rw [hml]; rfl) (lenOf pd_16 rfl) (Nat.le_of_eq rfl) (hb hby at_266) (by decide) (by decide) rfl ?_
    rintro T850 v850 L850 X850 ⟨rfl, e850, rfl⟩
    rw [List.append_nil] at X850
    show Ends (some (CHr Z own_EL vm0 h0)) p e below s _ _ _ T850 (mkF m 269 #[.val (.int nn), .val (.int p0), .val (.int p1), .val (.int p2), .val (.int p3), .val (.int p4), .val (.int (2 : Int32)), .val (.ref b710), .val (.ref b831), .val (.ref o848), .unset, .unset, .unset] [(.int (2 : Int32))])
    refine E.iload (q := 271) X850 hx (hb hby at_269) rfl ?_
    refine E.icmpY (q := 276) X850 hx (hb hby at_271) (XT.ii_eq_t (by decide)) ?_
    refine E.iload (q := 278) X850 hx (hb hby at_276) rfl ?_
    refine E.ifN (q := 281) X850 hx (hb hby at_278) (XT.i0_le_f (by decide)) ?_
    refine E.aload (q := 283) X850 hx (hb hby at_281) rfl rfl ?_
    refine E.iconst (q := 284) (v := (0 : Int32)) X850 hx (hb hby at_283) rfl ?_
    refine Ends.callV X850 hx hZ hown (own_w hw 166 rfl) (own_w hw 167 rfl) (own_w hw 169 rfl) (own_w hw 168 rfl) (own_w hw 27 rfl) (own_w hw 170 rfl) (by decide) (argsL := [(.int (0 : Int32))]) (rest := []) e850 Eo848 (rm28 l Z a0 hw o848 Uu848 0 u0 [u0, u1] rfl _ Fu848 AU848) (W := 0) (by decide) (by decide) (by rw [hml]; rfl) (lenOf pd_7 rfl) (Nat.le_of_eq rfl) (hb hby at_284) (by decide) (by decide) rfl ?_
    rintro T851 v851 L851 X851 ⟨rfl, e851, rfl⟩
    rw [List.append_nil] at X851
    refine E.aload (q := 289) X851 hx (hb hby at_287) rfl rfl ?_
    refine E.iconst (q := 290) (v := (0 : Int32)) X851 hx (hb hby at_289) rfl ?_
    have f852 := f836.other W837 (Nat.ne_of_lt (Nat.lt_of_lt_of_eq V720.lt g831.symm))
    have f853 := (((f836.other W837 (Nat.ne_of_lt (Nat.lt_of_lt_of_eq V720.lt g831.symm))).ext E839).keep hO842.1 (ninS (Nat.ne_of_lt (Nat.lt_of_lt_of_eq f852.lt g839.symm)) nin0)).keep hO848.1 nin0
    refine Ends.ild X851 hx hZ e851 f853 (i := 0) rfl rfl (hb hby at_290) ?_
    refine E.icmpY (q := 296) X851 hx (hb hby at_291) (XT.ii_eq_t rfl) ?_
    refine E.iload (q := 298) X851 hx (hb hby at_296) rfl ?_
    refine E.iconst (q := 299) (v := (1 : Int32)) X851 hx (hb hby at_298) rfl ?_
    refine E.icmpN (q := 302) X851 hx (hb hby at_299) (XT.ii_le_f (by decide)) ?_
    refine E.aload (q := 304) X851 hx (hb hby at_302) rfl rfl ?_
    refine E.iconst (q := 305) (v := (1 : Int32)) X851 hx (hb hby at_304) rfl ?_
    refine Ends.callV X851 hx hZ hown (own_w hw 166 rfl) (own_w hw 167 rfl) (own_w hw 169 rfl) (own_w hw 168 rfl) (own_w hw 27 rfl) (own_w hw 170 rfl) (by decide) (argsL := [(.int (1 : Int32))]) (rest := []) e851 Eo848 (rm28 l Z a0 hw o848 Uu848 1 u1 [u0, u1] rfl _ Fu848 AU848) (W := 0) (by decide) (by decide) (by rw [hml]; rfl) (lenOf pd_7 rfl) (Nat.le_of_eq rfl) (hb hby at_305) (by decide) (by decide) rfl ?_
    rintro T854 v854 L854 X854 ⟨rfl, e854, rfl⟩
    rw [List.append_nil] at X854
    refine E.aload (q := 310) X854 hx (hb hby at_308) rfl rfl ?_
    refine E.iconst (q := 311) (v := (1 : Int32)) X854 hx (hb hby at_310) rfl ?_
    refine Ends.ild X854 hx hZ e854 f853 (i := 1) rfl rfl (hb hby at_311) ?_
    refine E.icmpY (q := 317) X854 hx (hb hby at_312) (XT.ii_eq_t rfl) ?_
    refine E.iload (q := 319) X854 hx (hb hby at_317) rfl ?_
    refine E.iconst (q := 320) (v := (2 : Int32)) X854 hx (hb hby at_319) rfl ?_
    refine E.icmpY (q := 338) X854 hx (hb hby at_320) (XT.ii_le_t (by decide)) ?_
    refine E.iload (q := 340) X854 hx (hb hby at_338) rfl ?_
    refine E.iconst (q := 341) (v := (3 : Int32)) X854 hx (hb hby at_340) rfl ?_
    refine E.icmpY (q := 359) X854 hx (hb hby at_341) (XT.ii_le_t (by decide)) ?_
    refine E.iload (q := 361) X854 hx (hb hby at_359) rfl ?_
    refine E.iconst (q := 362) (v := (4 : Int32)) X854 hx (hb hby at_361) rfl ?_
    refine E.icmpY (q := 380) X854 hx (hb hby at_362) (XT.ii_le_t (by decide)) ?_
    refine E.aload (q := 382) X854 hx (hb hby at_380) rfl rfl ?_
    refine Ends.callV X854 hx hZ hown (own_w hw 92 rfl) (own_w hw 93 rfl) (own_w hw 95 rfl) (own_w hw 94 rfl) (own_w hw 27 rfl) (own_w hw 96 rfl) (by decide) (argsL := []) (rest := []) e854 Eo848 (rm15 l Z a0 hw o848 Tt848 (own_ints (own_kmp [u0, u1])) (by rw [own_ints_len, own_kmp_len]; simp) _ Ft848 AT848 ET848) (W := 0) (by decide) (by decide) (by rw [hml]; rfl) (lenOf pd_28 rfl) (Nat.le_of_eq rfl) (hb hby at_382) (by decide) (by decide) rfl ?_
    rintro T855 v855 L855 X855 ⟨b855, rfl, gb855, hO855, AC855⟩
    have e855 : T855.heap = T855.heap := rfl
    have O855 := O848.call hO855 all0
    have HC856 := HC849.trans (CHr.keep hO855.1 (own_all0) HC849.1)
    refine E.astore (q := 387) (l' := #[.val (.int nn), .val (.int p0), .val (.int p1), .val (.int p2), .val (.int p3), .val (.int p4), .val (.int (2 : Int32)), .val (.ref b710), .val (.ref b831), .val (.ref o848), .val (.ref b855), .unset, .unset]) X855 hx (hb hby at_385) rfl rfl ?_
    refine E.aload (q := 389) X855 hx (hb hby at_387) rfl rfl ?_
    refine Ends.alen X855 hx hZ e855 AC855 (hb hby at_389) (n := (2 : Int32)) (by rw [List.length_map, own_ints_len, own_kmp_len]; rfl) ?_
    refine E.iload (q := 392) X855 hx (hb hby at_390) rfl ?_
    refine E.icmpY (q := 397) X855 hx (hb hby at_392) (XT.ii_eq_t (by decide)) ?_
    refine E.iload (q := 399) X855 hx (hb hby at_397) rfl ?_
    refine E.ifN (q := 402) X855 hx (hb hby at_399) (XT.i0_le_f (by decide)) ?_
    refine E.aload (q := 404) X855 hx (hb hby at_402) rfl rfl ?_
    refine E.iconst (q := 405) (v := (0 : Int32)) X855 hx (hb hby at_404) rfl ?_
    refine Ends.ild X855 hx hZ e855 AC855 (i := 0) (v := .int (Int32.ofNat (own_ref5 [u0, u1, u2, u3, u4] 0))) rfl (by rw [List.getElem?_map, (show (own_ints (own_kmp [u0, u1]))[0]? = some (Int32.ofNat (own_ref5 [u0, u1, u2, u3, u4] 0)) from own_ckat (own_law5 u0 u1 u2 u3 u4 (n := 2) (i := 0) (by decide) (by decide)))]; rfl) (hb hby at_405) ?_
    refine E.aload (q := 408) X855 hx (hb hby at_406) rfl rfl ?_
    refine E.iconst (q := 409) (v := (0 : Int32)) X855 hx (hb hby at_408) rfl ?_
    have f857 := f853.keep hO855.1 nin0
    refine Ends.callS X855 hx hZ hown (own_w hw 171 rfl) (own_w hw 172 rfl) (own_w hw 108 rfl) (own_w hw 173 rfl) (by decide) (argsL := [(.ref b710), (.int (0 : Int32))]) (rest := [(.int (Int32.ofNat (own_ref5 [u0, u1, u2, u3, u4] 0)))]) e855 (rmBr0 l Z a0 hw b710 u0 u1 u2 u3 u4 _ f857) (W := 1) (by decide) (by decide) (by rw [hml]; rfl) (lenOf pd_30 rfl) (Nat.le_of_eq rfl) (hb hby at_409) (by decide) (by decide) rfl ?_
    rintro T858 v858 L858 X858 ⟨rfl, e858, rfl⟩
    rw [List.append_nil] at X858
    refine E.icmpY (q := 417) X858 hx (hb hby at_412) (XT.ii_eq_t rfl) ?_
    refine E.iload (q := 419) X858 hx (hb hby at_417) rfl ?_
    refine E.iconst (q := 420) (v := (1 : Int32)) X858 hx (hb hby at_419) rfl ?_
    refine E.icmpN (q := 423) X858 hx (hb hby at_420) (XT.ii_le_f (by decide)) ?_
    refine E.aload (q := 425) X858 hx (hb hby at_423) rfl rfl ?_
    refine E.iconst (q := 426) (v := (1 : Int32)) X858 hx (hb hby at_425) rfl ?_
    refine Ends.ild X858 hx hZ e858 AC855 (i := 1) (v := .int (Int32.ofNat (own_ref5 [u0, u1, u2, u3, u4] 1))) rfl (by rw [List.getElem?_map, (show (own_ints (own_kmp [u0, u1]))[1]? = some (Int32.ofNat (own_ref5 [u0, u1, u2, u3, u4] 1)) from own_ckat (own_law5 u0 u1 u2 u3 u4 (n := 2) (i := 1) (by decide) (by decide)))]; rfl) (hb hby at_426) ?_
    refine E.aload (q := 429) X858 hx (hb hby at_427) rfl rfl ?_
    refine E.iconst (q := 430) (v := (1 : Int32)) X858 hx (hb hby at_429) rfl ?_
    refine Ends.callS X858 hx hZ hown (own_w hw 171 rfl) (own_w hw 172 rfl) (own_w hw 108 rfl) (own_w hw 173 rfl) (by decide) (argsL := [(.ref b710), (.int (1 : Int32))]) (rest := [(.int (Int32.ofNat (own_ref5 [u0, u1, u2, u3, u4] 1)))]) e858 (rmBr1 l Z a0 hw b710 u0 u1 u2 u3 u4 _ f857) (W := 1) (by decide) (by decide) (by rw [hml]; rfl) (lenOf pd_30 rfl) (Nat.le_of_eq rfl) (hb hby at_430) (by decide) (by decide) rfl ?_
    rintro T859 v859 L859 X859 ⟨rfl, e859, rfl⟩
    rw [List.append_nil] at X859
    refine E.icmpY (q := 438) X859 hx (hb hby at_433) (XT.ii_eq_t rfl) ?_
    refine E.iload (q := 440) X859 hx (hb hby at_438) rfl ?_
    refine E.iconst (q := 441) (v := (2 : Int32)) X859 hx (hb hby at_440) rfl ?_
    refine E.icmpY (q := 459) X859 hx (hb hby at_441) (XT.ii_le_t (by decide)) ?_
    refine E.iload (q := 461) X859 hx (hb hby at_459) rfl ?_
    refine E.iconst (q := 462) (v := (3 : Int32)) X859 hx (hb hby at_461) rfl ?_
    refine E.icmpY (q := 480) X859 hx (hb hby at_462) (XT.ii_le_t (by decide)) ?_
    refine E.iload (q := 482) X859 hx (hb hby at_480) rfl ?_
    refine E.iconst (q := 483) (v := (4 : Int32)) X859 hx (hb hby at_482) rfl ?_
    refine E.icmpY (q := 501) X859 hx (hb hby at_483) (XT.ii_le_t (by decide)) ?_
    refine E.iconst (q := 502) (v := (5 : Int32)) X859 hx (hb hby at_501) rfl ?_
    refine Ends.newA X859 hx hZ (own_w hw 1 rfl) e859 (hb hby at_502) (N := 5) rfl (by decide) (by decide) (by decide) ?_
    intro T860 h860 b860 g860 X860 e860 E860 A860
    have ge_b860 : h0.size ≤ b860 := Nat.le_trans O855.le (Nat.le_of_eq g860.symm)
    have O860 := O855.ext E860
    have HC861 := HC856.trans (CHr.ext E860 HC856.1)
    have V860 : Ary Z h860 b860 .int [(.int (0 : Int32)), (.int (0 : Int32)), (.int (0 : Int32)), (.int (0 : Int32)), (.int (0 : Int32))] := A860
    refine E.astore (q := 506) (l' := #[.val (.int nn), .val (.int p0), .val (.int p1), .val (.int p2), .val (.int p3), .val (.int p4), .val (.int (2 : Int32)), .val (.ref b710), .val (.ref b831), .val (.ref o848), .val (.ref b855), .val (.ref b860), .unset]) X860 hx (hb hby at_504) rfl rfl ?_
    refine E.aload (q := 508) X860 hx (hb hby at_506) rfl rfl ?_
    refine E.iconst (q := 509) (v := (0 : Int32)) X860 hx (hb hby at_508) rfl ?_
    refine E.aload (q := 511) X860 hx (hb hby at_509) rfl rfl ?_
    refine E.iconst (q := 512) (v := (0 : Int32)) X860 hx (hb hby at_511) rfl ?_
    have f862 := f857.ext E860
    refine Ends.ild X860 hx hZ e860 f862 (i := 0) rfl rfl (hb hby at_512) ?_
    refine Ends.callS X860 hx hZ hown (own_w hw 106 rfl) (own_w hw 107 rfl) (own_w hw 108 rfl) (own_w hw 109 rfl) (by decide) (argsL := [(.int u0)]) (rest := [(.int (0 : Int32)), (.ref b860)]) e860 (rm16 l Z a0 hw u0 _) (W := 2) (by decide) (by decide) (by rw [hml]; rfl) (lenOf pd_7 rfl) (Nat.le_of_eq rfl) (hb hby at_513) (by decide) (by decide) rfl ?_
    rintro T863 v863 L863 X863 ⟨rfl, e863, rfl⟩
    rw [List.append_nil] at X863
    refine Ends.ist X863 hx hZ e863 V860 (i := 0) rfl (show 0 < 5 from by decide) (hb hby at_516) ?_
    intro T864 h864 X864 e864 W864 V864
    have V864 : Ary Z h864 b860 .int [(.int (own_Rf u0)), (.int (0 : Int32)), (.int (0 : Int32)), (.int (0 : Int32)), (.int (0 : Int32))] := V864
    have O864 := O860.wr W864 (Or.inr ge_b860)
    have HC865 := HC861.trans (CHr.wr W864 (own_safe_ary hZ.alike V860 (by decide)) HC861.1)
    refine E.aload (q := 519) X864 hx (hb hby at_517) rfl rfl ?_
    refine E.iconst (q := 520) (v := (1 : Int32)) X864 hx (hb hby at_519) rfl ?_
    refine E.aload (q := 522) X864 hx (hb hby at_520) rfl rfl ?_
    refine E.iconst (q := 523) (v := (1 : Int32)) X864 hx (hb hby at_522) rfl ?_
    have f866 := f862.other W864 (Nat.ne_of_lt (Nat.lt_of_lt_of_eq f857.lt g860.symm))
    refine Ends.ild X864 hx hZ e864 f866 (i := 1) rfl rfl (hb hby at_523) ?_
    refine Ends.callS X864 hx hZ hown (own_w hw 106 rfl) (own_w hw 107 rfl) (own_w hw 108 rfl) (own_w hw 109 rfl) (by decide) (argsL := [(.int u1)]) (rest := [(.int (1 : Int32)), (.ref b860)]) e864 (rm16 l Z a0 hw u1 _) (W := 2) (by decide) (by decide) (by rw [hml]; rfl) (lenOf pd_7 rfl) (Nat.le_of_eq rfl) (hb hby at_524) (by decide) (by decide) rfl ?_
    rintro T867 v867 L867 X867 ⟨rfl, e867, rfl⟩
    rw [List.append_nil] at X867
    refine Ends.ist X867 hx hZ e867 V864 (i := 1) rfl (show 1 < 5 from by decide) (hb hby at_527) ?_
    intro T868 h868 X868 e868 W868 V868
    have V868 : Ary Z h868 b860 .int [(.int (own_Rf u0)), (.int (own_Rf u1)), (.int (0 : Int32)), (.int (0 : Int32)), (.int (0 : Int32))] := V868
    have O868 := O864.wr W868 (Or.inr ge_b860)
    have HC869 := HC865.trans (CHr.wr W868 (own_safe_ary hZ.alike V864 (by decide)) HC865.1)
    refine E.aload (q := 530) X868 hx (hb hby at_528) rfl rfl ?_
    refine E.iconst (q := 531) (v := (2 : Int32)) X868 hx (hb hby at_530) rfl ?_
    refine E.aload (q := 533) X868 hx (hb hby at_531) rfl rfl ?_
    refine E.iconst (q := 534) (v := (2 : Int32)) X868 hx (hb hby at_533) rfl ?_
    have f870 := f866.other W868 (Nat.ne_of_lt (Nat.lt_of_lt_of_eq f857.lt g860.symm))
    refine Ends.ild X868 hx hZ e868 f870 (i := 2) rfl rfl (hb hby at_534) ?_
    refine Ends.callS X868 hx hZ hown (own_w hw 106 rfl) (own_w hw 107 rfl) (own_w hw 108 rfl) (own_w hw 109 rfl) (by decide) (argsL := [(.int u2)]) (rest := [(.int (2 : Int32)), (.ref b860)]) e868 (rm16 l Z a0 hw u2 _) (W := 2) (by decide) (by decide) (by rw [hml]; rfl) (lenOf pd_7 rfl) (Nat.le_of_eq rfl) (hb hby at_535) (by decide) (by decide) rfl ?_
    rintro T871 v871 L871 X871 ⟨rfl, e871, rfl⟩
    rw [List.append_nil] at X871
    refine Ends.ist X871 hx hZ e871 V868 (i := 2) rfl (show 2 < 5 from by decide) (hb hby at_538) ?_
    intro T872 h872 X872 e872 W872 V872
    have V872 : Ary Z h872 b860 .int [(.int (own_Rf u0)), (.int (own_Rf u1)), (.int (own_Rf u2)), (.int (0 : Int32)), (.int (0 : Int32))] := V872
    have O872 := O868.wr W872 (Or.inr ge_b860)
    have HC873 := HC869.trans (CHr.wr W872 (own_safe_ary hZ.alike V868 (by decide)) HC869.1)
    refine E.aload (q := 541) X872 hx (hb hby at_539) rfl rfl ?_
    refine E.iconst (q := 542) (v := (3 : Int32)) X872 hx (hb hby at_541) rfl ?_
    refine E.aload (q := 544) X872 hx (hb hby at_542) rfl rfl ?_
    refine E.iconst (q := 545) (v := (3 : Int32)) X872 hx (hb hby at_544) rfl ?_
    have f874 := f870.other W872 (Nat.ne_of_lt (Nat.lt_of_lt_of_eq f857.lt g860.symm))
    refine Ends.ild X872 hx hZ e872 f874 (i := 3) rfl rfl (hb hby at_545) ?_
    refine Ends.callS X872 hx hZ hown (own_w hw 106 rfl) (own_w hw 107 rfl) (own_w hw 108 rfl) (own_w hw 109 rfl) (by decide) (argsL := [(.int u3)]) (rest := [(.int (3 : Int32)), (.ref b860)]) e872 (rm16 l Z a0 hw u3 _) (W := 2) (by decide) (by decide) (by rw [hml]; rfl) (lenOf pd_7 rfl) (Nat.le_of_eq rfl) (hb hby at_546) (by decide) (by decide) rfl ?_
    rintro T875 v875 L875 X875 ⟨rfl, e875, rfl⟩
    rw [List.append_nil] at X875
    refine Ends.ist X875 hx hZ e875 V872 (i := 3) rfl (show 3 < 5 from by decide) (hb hby at_549) ?_
    intro T876 h876 X876 e876 W876 V876
    have V876 : Ary Z h876 b860 .int [(.int (own_Rf u0)), (.int (own_Rf u1)), (.int (own_Rf u2)), (.int (own_Rf u3)), (.int (0 : Int32))] := V876
    have O876 := O872.wr W876 (Or.inr ge_b860)
    have HC877 := HC873.trans (CHr.wr W876 (own_safe_ary hZ.alike V872 (by decide)) HC873.1)
    refine E.aload (q := 552) X876 hx (hb hby at_550) rfl rfl ?_
    refine E.iconst (q := 553) (v := (4 : Int32)) X876 hx (hb hby at_552) rfl ?_
    refine E.aload (q := 555) X876 hx (hb hby at_553) rfl rfl ?_
    refine E.iconst (q := 556) (v := (4 : Int32)) X876 hx (hb hby at_555) rfl ?_
    have f878 := f874.other W876 (Nat.ne_of_lt (Nat.lt_of_lt_of_eq f857.lt g860.symm))
    refine Ends.ild X876 hx hZ e876 f878 (i := 4) rfl rfl (hb hby at_556) ?_
    refine Ends.callS X876 hx hZ hown (own_w hw 106 rfl) (own_w hw 107 rfl) (own_w hw 108 rfl) (own_w hw 109 rfl) (by decide) (argsL := [(.int u4)]) (rest := [(.int (4 : Int32)), (.ref b860)]) e876 (rm16 l Z a0 hw u4 _) (W := 2) (by decide) (by decide) (by rw [hml]; rfl) (lenOf pd_7 rfl) (Nat.le_of_eq rfl) (hb hby at_557) (by decide) (by decide) rfl ?_
    rintro T879 v879 L879 X879 ⟨rfl, e879, rfl⟩
    rw [List.append_nil] at X879
    refine Ends.ist X879 hx hZ e879 V876 (i := 4) rfl (show 4 < 5 from by decide) (hb hby at_560) ?_
    intro T880 h880 X880 e880 W880 V880
    have V880 : Ary Z h880 b860 .int [(.int (own_Rf u0)), (.int (own_Rf u1)), (.int (own_Rf u2)), (.int (own_Rf u3)), (.int (own_Rf u4))] := V880
    have O880 := O876.wr W880 (Or.inr ge_b860)
    have HC881 := HC877.trans (CHr.wr W880 (own_safe_ary hZ.alike V876 (by decide)) HC877.1)
    refine E.aload (q := 563) X880 hx (hb hby at_561) rfl rfl ?_
    have f882 := Eo848.keep hO855.1
    have f883 := ((((((Fp848.keep hO855.1 nin0).ext E860).other W864 (Or.inl (Nat.ne_of_lt (Nat.lt_of_lt_of_eq f882.lt g860.symm)))).other W868 (Or.inl (Nat.ne_of_lt (Nat.lt_of_lt_of_eq f882.lt g860.symm)))).other W872 (Or.inl (Nat.ne_of_lt (Nat.lt_of_lt_of_eq f882.lt g860.symm)))).other W876 (Or.inl (Nat.ne_of_lt (Nat.lt_of_lt_of_eq f882.lt g860.symm)))).other W880 (Or.inl (Nat.ne_of_lt (Nat.lt_of_lt_of_eq f882.lt g860.symm)))
    have f884 := (((((f882.ext E860).wr W864).wr W868).wr W872).wr W876).wr W880
    refine Ends.callV X880 hx hZ hown (own_w hw 110 rfl) (own_w hw 111 rfl) (own_w hw 113 rfl) (own_w hw 112 rfl) (own_w hw 27 rfl) (own_w hw 114 rfl) (by decide) (argsL := []) (rest := []) e880 f884 (rm17 l Z a0 hw o848 Pp848 _ f883) (W := 0) (by decide) (by decide) (by rw [hml]; rfl) (lenOf pd_28 rfl) (Nat.le_of_eq rfl) (hb hby at_563) (by decide) (by decide) rfl ?_
    rintro T885 v885 L885 X885 ⟨rfl, e885, rfl⟩
    rw [List.append_nil] at X885
    refine E.astore (q := 568) (l' := #[.val (.int nn), .val (.int p0), .val (.int p1), .val (.int p2), .val (.int p3), .val (.int p4), .val (.int (2 : Int32)), .val (.ref b710), .val (.ref b831), .val (.ref o848), .val (.ref b855), .val (.ref b860), .val (.ref Pp848)]) X885 hx (hb hby at_566) rfl rfl ?_
    refine E.aload (q := 570) X885 hx (hb hby at_568) rfl rfl ?_
    have f886 := AP848.keep hO855.1 nin0
    have f887 := ((((((AP848.keep hO855.1 nin0).ext E860).other W864 (Nat.ne_of_lt (Nat.lt_of_lt_of_eq f886.lt g860.symm))).other W868 (Nat.ne_of_lt (Nat.lt_of_lt_of_eq f886.lt g860.symm))).other W872 (Nat.ne_of_lt (Nat.lt_of_lt_of_eq f886.lt g860.symm))).other W876 (Nat.ne_of_lt (Nat.lt_of_lt_of_eq f886.lt g860.symm))).other W880 (Nat.ne_of_lt (Nat.lt_of_lt_of_eq f886.lt g860.symm))
    refine Ends.alen X885 hx hZ e885 f887 (hb hby at_570) (n := (2 : Int32)) (by rw [List.length_map, own_ints_len, hg848]; rfl) ?_
    refine E.iconst (q := 572) (v := (3 : Int32)) X885 hx (hb hby at_571) rfl ?_
    refine E.iload (q := 574) X885 hx (hb hby at_572) rfl ?_
    refine Ends.callS X885 hx hZ hown (own_w hw 115 rfl) (own_w hw 72 rfl) (own_w hw 73 rfl) (own_w hw 74 rfl) (by decide) (argsL := [(.int (3 : Int32)), (.int (2 : Int32))]) (rest := [(.int (2 : Int32))]) e885 (rm12 l Z a0 hw 3 2 (by decide) (by decide) _) (W := 1) (by decide) (by decide) (by rw [hml]; rfl) (lenOf pd_19 rfl) (Nat.le_of_eq rfl) (hb hby at_574) (by decide) (by decide) rfl ?_
    rintro T888 v888 L888 X888 ⟨rfl, e888, rfl⟩
    rw [List.append_nil] at X888
    refine E.icmpY (q := 582) X888 hx (hb hby at_577) (XT.ii_eq_t (by decide)) ?_
    refine E.aload (q := 584) X888 hx (hb hby at_582) rfl rfl ?_
    refine E.aload (q := 586) X888 hx (hb hby at_584) rfl rfl ?_
    refine E.iload (q := 588) X888 hx (hb hby at_586) rfl ?_
    refine E.iconst (q := 589) (v := (0 : Int32)) X888 hx (hb hby at_588) rfl ?_
    refine Ends.callS X888 hx hZ hown (own_w hw 116 rfl) (own_w hw 117 rfl) (own_w hw 108 rfl) (own_w hw 118 rfl) (by decide) (argsL := [(.ref Pp848), (.ref b860), (.int (2 : Int32)), (.int (0 : Int32))]) (rest := []) e888 (rmPo0 l Z a0 hw Pp848 b860 (own_Rf u0) (own_Rf u1) (own_Rf u2) (own_Rf u3) (own_Rf u4) 2 (by decide) (own_ints (own_go (own_gtI [own_Rf u0, own_Rf u1]) 2 2)) (by rw [own_ints_len, hg848]; decide) (fun _ q => own_ckat (own_probe5 (l := [own_Rf u0, own_Rf u1, own_Rf u2, own_Rf u3, own_Rf u4]) rfl (n := 2) (i := 0) (by decide) (by decide) (by rw [own_ints_len, hg848] at q; exact q))) _ V880 f887) (W := 0) (by decide) (by decide) (by rw [hml]; rfl) (lenOf pd_29 rfl) (Nat.le_of_eq rfl) (hb hby at_589) (by decide) (by decide) rfl ?_
    rintro T889 v889 L889 X889 ⟨rfl, e889, rfl⟩
    rw [List.append_nil] at X889
    refine E.ifY (q := 597) X889 hx (hb hby at_592) (XT.i0_ne_t (by decide)) ?_
    refine E.aload (q := 599) X889 hx (hb hby at_597) rfl rfl ?_
    refine E.aload (q := 601) X889 hx (hb hby at_599) rfl rfl ?_
    refine E.iload (q := 603) X889 hx (hb hby at_601) rfl ?_
    refine E.iconst (q := 604) (v := (1 : Int32)) X889 hx (hb hby at_603) rfl ?_
    refine Ends.callS X889 hx hZ hown (own_w hw 116 rfl) (own_w hw 117 rfl) (own_w hw 108 rfl) (own_w hw 118 rfl) (by decide) (argsL := [(.ref Pp848), (.ref b860), (.int (2 : Int32)), (.int (1 : Int32))]) (rest := []) e889 (rmPo1 l Z a0 hw Pp848 b860 (own_Rf u0) (own_Rf u1) (own_Rf u2) (own_Rf u3) (own_Rf u4) 2 (by decide) (own_ints (own_go (own_gtI [own_Rf u0, own_Rf u1]) 2 2)) (by rw [own_ints_len, hg848]; decide) (fun _ q => own_ckat (own_probe5 (l := [own_Rf u0, own_Rf u1, own_Rf u2, own_Rf u3, own_Rf u4]) rfl (n := 2) (i := 1) (by decide) (by decide) (by rw [own_ints_len, hg848] at q; exact q))) _ V880 f887) (W := 0) (by decide) (by decide) (by rw [hml]; rfl) (lenOf pd_29 rfl) (Nat.le_of_eq rfl) (hb hby at_604) (by decide) (by decide) rfl ?_
    rintro T890 v890 L890 X890 ⟨rfl, e890, rfl⟩
    rw [List.append_nil] at X890
    refine E.ifY (q := 612) X890 hx (hb hby at_607) (XT.i0_ne_t (by decide)) ?_
    refine E.aload (q := 614) X890 hx (hb hby at_612) rfl rfl ?_
    refine E.aload (q := 616) X890 hx (hb hby at_614) rfl rfl ?_
    refine E.iload (q := 618) X890 hx (hb hby at_616) rfl ?_
    refine E.iconst (q := 619) (v := (2 : Int32)) X890 hx (hb hby at_618) rfl ?_
    refine Ends.callS X890 hx hZ hown (own_w hw 116 rfl) (own_w hw 117 rfl) (own_w hw 108 rfl) (own_w hw 118 rfl) (by decide) (argsL := [(.ref Pp848), (.ref b860), (.int (2 : Int32)), (.int (2 : Int32))]) (rest := []) e890 (rmPo2 l Z a0 hw Pp848 b860 (own_Rf u0) (own_Rf u1) (own_Rf u2) (own_Rf u3) (own_Rf u4) 2 (by decide) (own_ints (own_go (own_gtI [own_Rf u0, own_Rf u1]) 2 2)) (by rw [own_ints_len, hg848]; decide) (fun q => absurd q (by decide)) _ V880 f887) (W := 0) (by decide) (by decide) (by rw [hml]; rfl) (lenOf pd_29 rfl) (Nat.le_of_eq rfl) (hb hby at_619) (by decide) (by decide) rfl ?_
    rintro T891 v891 L891 X891 ⟨rfl, e891, rfl⟩
    rw [List.append_nil] at X891
    refine E.ifY (q := 627) X891 hx (hb hby at_622) (XT.i0_ne_t (by decide)) ?_
    refine E.aload (q := 629) X891 hx (hb hby at_627) rfl rfl ?_
    refine E.aload (q := 631) X891 hx (hb hby at_629) rfl rfl ?_
    refine E.iload (q := 633) X891 hx (hb hby at_631) rfl ?_
    refine E.iconst (q := 634) (v := (3 : Int32)) X891 hx (hb hby at_633) rfl ?_
    refine Ends.callS X891 hx hZ hown (own_w hw 116 rfl) (own_w hw 117 rfl) (own_w hw 108 rfl) (own_w hw 118 rfl) (by decide) (argsL := [(.ref Pp848), (.ref b860), (.int (2 : Int32)), (.int (3 : Int32))]) (rest := []) e891 (rmPo3 l Z a0 hw Pp848 b860 (own_Rf u0) (own_Rf u1) (own_Rf u2) (own_Rf u3) (own_Rf u4) 2 (by decide) (own_ints (own_go (own_gtI [own_Rf u0, own_Rf u1]) 2 2)) (by rw [own_ints_len, hg848]; decide) (fun q => absurd q (by decide)) _ V880 f887) (W := 0) (by decide) (by decide) (by rw [hml]; rfl) (lenOf pd_29 rfl) (Nat.le_of_eq rfl) (hb hby at_634) (by decide) (by decide) rfl ?_
    rintro T892 v892 L892 X892 ⟨rfl, e892, rfl⟩
    rw [List.append_nil] at X892
    refine E.ifY (q := 642) X892 hx (hb hby at_637) (XT.i0_ne_t (by decide)) ?_
    refine E.aload (q := 644) X892 hx (hb hby at_642) rfl rfl ?_
    refine E.aload (q := 646) X892 hx (hb hby at_644) rfl rfl ?_
    refine E.iload (q := 648) X892 hx (hb hby at_646) rfl ?_
    refine E.iconst (q := 649) (v := (4 : Int32)) X892 hx (hb hby at_648) rfl ?_
    refine Ends.callS X892 hx hZ hown (own_w hw 116 rfl) (own_w hw 117 rfl) (own_w hw 108 rfl) (own_w hw 118 rfl) (by decide) (argsL := [(.ref Pp848), (.ref b860), (.int (2 : Int32)), (.int (4 : Int32))]) (rest := []) e892 (rmPo4 l Z a0 hw Pp848 b860 (own_Rf u0) (own_Rf u1) (own_Rf u2) (own_Rf u3) (own_Rf u4) 2 (by decide) (own_ints (own_go (own_gtI [own_Rf u0, own_Rf u1]) 2 2)) (by rw [own_ints_len, hg848]; decide) (fun q => absurd q (by decide)) _ V880 f887) (W := 0) (by decide) (by decide) (by rw [hml]; rfl) (lenOf pd_29 rfl) (Nat.le_of_eq rfl) (hb hby at_649) (by decide) (by decide) rfl ?_
    rintro T893 v893 L893 X893 ⟨rfl, e893, rfl⟩
    rw [List.append_nil] at X893
    refine E.ifY (q := 657) X893 hx (hb hby at_652) (XT.i0_ne_t (by decide)) ?_
    refine E.iconst (q := 658) (v := (1 : Int32)) X893 hx (hb hby at_657) rfl ?_
    exact Ends.retS X893 hx hlk hret (by simp) rfl (hb hby at_658) (by decide) (by decide) ⟨⟨rfl, (O880).fr⟩, by first | exact (Nat.le_trans (Nat.le_trans (Nat.le_trans (Nat.le_trans (Nat.le_trans (Nat.le_trans (Nat.le_trans (Nat.le_refl _) hO855.1.1) E860.1) (own_wr_le W864)) (own_wr_le W868)) (own_wr_le W872)) (own_wr_le W876)) (own_wr_le W880)) | (rw [e893]; exact (Nat.le_trans (Nat.le_trans (Nat.le_trans (Nat.le_trans (Nat.le_trans (Nat.le_trans (Nat.le_trans (Nat.le_refl _) hO855.1.1) E860.1) (own_wr_le W864)) (own_wr_le W868)) (own_wr_le W872)) (own_wr_le W876)) (own_wr_le W880)))⟩ (hF := own_chret X893 hZ (own_EW hw) HC881 (by first | rfl | assumption))
  · refine E.iload (q := 58) X720 hx (hb hby at_56) rfl ?_
    refine E.ifY (q := 69) X720 hx (hb hby at_58) (XT.i0_ne_t (by decide)) ?_
    refine E.iload (q := 71) X720 hx (hb hby at_69) rfl ?_
    refine E.iconst (q := 72) (v := (1 : Int32)) X720 hx (hb hby at_71) rfl ?_
    refine E.icmpY (q := 91) X720 hx (hb hby at_72) (XT.ii_ne_t (by decide)) ?_
    refine E.iload (q := 93) X720 hx (hb hby at_91) rfl ?_
    refine E.iconst (q := 94) (v := (2 : Int32)) X720 hx (hb hby at_93) rfl ?_
    refine E.icmpY (q := 121) X720 hx (hb hby at_94) (XT.ii_ne_t (by decide)) ?_
    refine E.iload (q := 123) X720 hx (hb hby at_121) rfl ?_
    refine E.iconst (q := 124) (v := (3 : Int32)) X720 hx (hb hby at_123) rfl ?_
    refine E.icmpN (q := 127) X720 hx (hb hby at_124) (XT.ii_ne_f (by decide)) ?_
    refine E.iconst (q := 128) (v := (3 : Int32)) X720 hx (hb hby at_127) rfl ?_
    refine Ends.newA X720 hx hZ (own_w hw 3 rfl) e720 (hb hby at_128) (N := 3) rfl (by decide) (by decide) (by decide) ?_
    intro T894 h894 b894 g894 X894 e894 E894 A894
    have ge_b894 : h0.size ≤ b894 := Nat.le_trans O720.le (Nat.le_of_eq g894.symm)
    have O894 := O720.ext E894
    have HC895 := HC721.trans (CHr.ext E894 HC721.1)
    have V894 : Ary Z h894 b894 .char [(.int (0 : Int32)), (.int (0 : Int32)), (.int (0 : Int32))] := A894
    refine E.dup (q := 131) X894 hx (hb hby at_130) rfl ?_
    refine E.iconst (q := 132) (v := (0 : Int32)) X894 hx (hb hby at_131) rfl ?_
    refine E.aload (q := 134) X894 hx (hb hby at_132) rfl rfl ?_
    refine E.iconst (q := 135) (v := (0 : Int32)) X894 hx (hb hby at_134) rfl ?_
    have f896 := V720.ext E894
    refine Ends.ild X894 hx hZ e894 f896 (i := 0) rfl rfl (hb hby at_135) ?_
    refine E.i2c (q := 137) X894 hx (hb hby at_136) ?_
    refine Ends.cst X894 hx hZ e894 V894 (x' := (u0.toUInt32.toUInt16.toUInt32.toInt32)) (own_nc16 (own_cC u0)) (i := 0) rfl (show 0 < 3 from by decide) (hb hby at_137) ?_
    intro T897 h897 X897 e897 W897 V897
    have V897 : Ary Z h897 b894 .char [(.int (u0.toUInt32.toUInt16.toUInt32.toInt32)), (.int (0 : Int32)), (.int (0 : Int32))] := V897
    have O897 := O894.wr W897 (Or.inr ge_b894)
    have HC898 := HC895.trans (CHr.wr W897 (own_safe_ary hZ.alike V894 (by decide)) HC895.1)
    refine E.dup (q := 139) X897 hx (hb hby at_138) rfl ?_
    refine E.iconst (q := 140) (v := (1 : Int32)) X897 hx (hb hby at_139) rfl ?_
    refine E.aload (q := 142) X897 hx (hb hby at_140) rfl rfl ?_
    refine E.iconst (q := 143) (v := (1 : Int32)) X897 hx (hb hby at_142) rfl ?_
    have f899 := f896.other W897 (Nat.ne_of_lt (Nat.lt_of_lt_of_eq V720.lt g894.symm))
    refine Ends.ild X897 hx hZ e897 f899 (i := 1) rfl rfl (hb hby at_143) ?_
    refine E.i2c (q := 145) X897 hx (hb hby at_144) ?_
    refine Ends.cst X897 hx hZ e897 V897 (x' := (u1.toUInt32.toUInt16.toUInt32.toInt32)) (own_nc16 (own_cC u1)) (i := 1) rfl (show 1 < 3 from by decide) (hb hby at_145) ?_
    intro T900 h900 X900 e900 W900 V900
    have V900 : Ary Z h900 b894 .char [(.int (u0.toUInt32.toUInt16.toUInt32.toInt32)), (.int (u1.toUInt32.toUInt16.toUInt32.toInt32)), (.int (0 : Int32))] := V900
    have O900 := O897.wr W900 (Or.inr ge_b894)
    have HC901 := HC898.trans (CHr.wr W900 (own_safe_ary hZ.alike V897 (by decide)) HC898.1)
    refine E.dup (q := 147) X900 hx (hb hby at_146) rfl ?_
    refine E.iconst (q := 148) (v := (2 : Int32)) X900 hx (hb hby at_147) rfl ?_
    refine E.aload (q := 150) X900 hx (hb hby at_148) rfl rfl ?_
    refine E.iconst (q := 151) (v := (2 : Int32)) X900 hx (hb hby at_150) rfl ?_
    have f902 := f899.other W900 (Nat.ne_of_lt (Nat.lt_of_lt_of_eq V720.lt g894.symm))
    refine Ends.ild X900 hx hZ e900 f902 (i := 2) rfl rfl (hb hby at_151) ?_
    refine E.i2c (q := 153) X900 hx (hb hby at_152) ?_
    refine Ends.cst X900 hx hZ e900 V900 (x' := (u2.toUInt32.toUInt16.toUInt32.toInt32)) (own_nc16 (own_cC u2)) (i := 2) rfl (show 2 < 3 from by decide) (hb hby at_153) ?_
    intro T903 h903 X903 e903 W903 V903
    have V903 : Ary Z h903 b894 .char [(.int (u0.toUInt32.toUInt16.toUInt32.toInt32)), (.int (u1.toUInt32.toUInt16.toUInt32.toInt32)), (.int (u2.toUInt32.toUInt16.toUInt32.toInt32))] := V903
    have O903 := O900.wr W903 (Or.inr ge_b894)
    have HC904 := HC901.trans (CHr.wr W903 (own_safe_ary hZ.alike V900 (by decide)) HC901.1)
    refine E.astore (q := 156) (l' := #[.val (.int nn), .val (.int p0), .val (.int p1), .val (.int p2), .val (.int p3), .val (.int p4), .val (.int (3 : Int32)), .val (.ref b710), .val (.ref b894), .unset, .unset, .unset, .unset]) X903 hx (hb hby at_154) rfl rfl ?_
    refine E.goto (q := 250) X903 hx (hb hby at_156) ?_
    rw [own_nc16 hu0, own_nc16 hu1, own_nc16 hu2] at V903
    refine Ends.newC X903 hx hZ hown (own_w hw 4 rfl) (own_w hw 5 rfl) (own_w hw 6 rfl) e903 (hb hby at_250) (by decide) (by decide) ?_
    intro T905 h905 b905 g905 X905 e905 E905 A905 D905
    have ge_b905 : h0.size ≤ b905 := Nat.le_trans O903.le (Nat.le_of_eq g905.symm)
    have O905 := O903.ext E905
    have HC906 := HC904.trans (CHr.ext E905 HC904.1)
    have F905_value : Fld Z h905 b905 "java/lang/String" "value" "[B" .null := D905 (Or.inr (own_w hw 19 rfl)) (ty := (.array .byte)) (by decide)
    have F905_coder : Fld Z h905 b905 "java/lang/String" "coder" "B" (.int (0 : Int32)) := D905 (Or.inr (own_w hw 20 rfl)) (ty := .byte) (by decide)
    refine E.dup (q := 254) X905 hx (hb hby at_253) rfl ?_
    refine E.aload (q := 256) X905 hx (hb hby at_254) rfl rfl ?_
    have f907 := V903.ext E905
    refine Ends.callI X905 hx hZ hown (own_w hw 7 rfl) (own_w hw 8 rfl) (own_w hw 6 rfl) (own_w hw 9 rfl) rfl (by decide) (argsL := [(.ref b894)]) (rest := [(.ref b905)]) e905 (rmI1_n l Z a0 hw b905 b894 [u0, u1, u2] (own_C5 hu0 hu1 hu2 hu3 hu4 3) (by simp) (by simp) _ A905 F905_value F905_coder f907 (Nat.ne_of_lt (Nat.lt_of_lt_of_eq V903.lt g905.symm)) cs hcs (own_sta_keep S0 O905.1 own_ns0) (own_sta_keep S2 O905.1 own_ns0) (own_sta_keep S3 O905.1 own_ns0) (own_sta_keep S4 O905.1 own_ns0)) (W := 1) (by decide) (by decide) (by rw [hml]; rfl) (lenOf pd_26 rfl) (Nat.le_of_eq rfl) (hb hby at_256) (by decide) (by decide) rfl ?_
    rintro T908 v908 L908 X908 ⟨rfl, V908, cd908, bs908, gU908, hO908, Fv908, Fc908, A908, hs908⟩
    have e908 : T908.heap = T908.heap := rfl
    have O908 := O905.call hO908 (allS (Or.inr ge_b905) all0)
    have HC909 := HC906.trans (CHr.keep hO908.1 (own_all1 (own_safe_blank hZ.alike A905 F905_value)) HC906.1)
    have f910 := A905.keep hO908.1
    have f911 := (((((A_R.ext E710).other W712 (Nat.ne_of_lt (Nat.lt_of_lt_of_eq A_R.lt g710.symm))).other W714 (Nat.ne_of_lt (Nat.lt_of_lt_of_eq A_R.lt g710.symm))).other W716 (Nat.ne_of_lt (Nat.lt_of_lt_of_eq A_R.lt g710.symm))).other W718 (Nat.ne_of_lt (Nat.lt_of_lt_of_eq A_R.lt g710.symm))).other W720 (Nat.ne_of_lt (Nat.lt_of_lt_of_eq A_R.lt g710.symm))
    have f912 := (((f911.ext E894).other W897 (Nat.ne_of_lt (Nat.lt_of_lt_of_eq f911.lt g894.symm))).other W900 (Nat.ne_of_lt (Nat.lt_of_lt_of_eq f911.lt g894.symm))).other W903 (Nat.ne_of_lt (Nat.lt_of_lt_of_eq f911.lt g894.symm))
    have f913 := (((((((((((A_R.ext E710).other W712 (Nat.ne_of_lt (Nat.lt_of_lt_of_eq A_R.lt g710.symm))).other W714 (Nat.ne_of_lt (Nat.lt_of_lt_of_eq A_R.lt g710.symm))).other W716 (Nat.ne_of_lt (Nat.lt_of_lt_of_eq A_R.lt g710.symm))).other W718 (Nat.ne_of_lt (Nat.lt_of_lt_of_eq A_R.lt g710.symm))).other W720 (Nat.ne_of_lt (Nat.lt_of_lt_of_eq A_R.lt g710.symm))).ext E894).other W897 (Nat.ne_of_lt (Nat.lt_of_lt_of_eq f911.lt g894.symm))).other W900 (Nat.ne_of_lt (Nat.lt_of_lt_of_eq f911.lt g894.symm))).other W903 (Nat.ne_of_lt (Nat.lt_of_lt_of_eq f911.lt g894.symm))).ext E905).keep hO908.1 (ninS (Nat.ne_of_lt (Nat.lt_of_lt_of_eq f912.lt g905.symm)) nin0)
    refine Ends.callSH X908 hx hZ hown (own_w hw 25 rfl) (own_w hw 26 rfl) (own_w hw 27 rfl) (own_w hw 28 rfl) (by decide) (argsL := [(.ref b905)]) (rest := []) e908 (Nat.zero_le _) (own_EW hw) HC909.1 (rm4 l Z a0 hw b905 V908 cd908 bs908 [u0, u1, u2] hs908 (by simp) rr _ f910 Fv908 Fc908 A908 cs hcs (own_sta_keep S0 O908.1 own_ns0) fv hfv (own_sta_keep S1 O908.1 own_ns0) (own_sta_keep S2 O908.1 own_ns0) (own_sta_keep S3 O908.1 own_ns0) (own_sta_keep S4 O908.1 own_ns0) (own_sta_keep SR O908.1 own_ns0) f913) (W := 0) (by decide) (by decide) (by rw [hml]; rfl) (lenOf pd_27 rfl) (Nat.le_of_eq rfl) (hb hby at_259) (by decide) (by decide) rfl ?_
    rintro s T914 v914 L914 X914 hc914 hZ hown ⟨o914, Uu914, Tt914, Pp914, rfl, go914, hO914, AT914, ET914, Eo914, Fu914, Ft914, Fp914, AU914, AP914⟩
    have e914 : T914.heap = T914.heap := rfl
    have O914 := O908.call hO914 all0
    have HC915 := HC909.trans hc914
    have hg914 : (own_go (own_gtI [own_Rf u0, own_Rf u1, own_Rf u2]) 3 3).length = 3 := own_go_len _ _ _
    have AP914 : Ary Z _ Pp914 .int ((own_ints (own_go (own_gtI [own_Rf u0, own_Rf u1, own_Rf u2]) 3 3)).map Value.int) := AP914
    refine E.astore (q := 264) (l' := #[.val (.int nn), .val (.int p0), .val (.int p1), .val (.int p2), .val (.int p3), .val (.int p4), .val (.int (3 : Int32)), .val (.ref b710), .val (.ref b894), .val (.ref o914), .unset, .unset, .unset]) X914 hx (hb hby at_262) rfl rfl ?_
    refine E.aload (q := 266) X914 hx (hb hby at_264) rfl rfl ?_
    refine Ends.callV X914 hx hZ hown (own_w hw 87 rfl) (own_w hw 88 rfl) (own_w hw 90 rfl) (own_w hw 89 rfl) (own_w hw 27 rfl) (own_w hw 91 rfl) (by decide) (argsL := []) (rest := []) e914 Eo914 (rm14 l Z a0 hw o914 Uu914 [u0, u1, u2] _ Fu914 AU914) (W := 0) (by decide) (by decide) (by rw [hml]; rfl) (lenOf pd_16 rfl) (Nat.le_of_eq rfl) (hb hby at_266) (by decide) (by decide) rfl ?_
    rintro T916 v916 L916 X916 ⟨rfl, e916, rfl⟩
    rw [List.append_nil] at X916
    show Ends (some (CHr Z own_EL vm0 h0)) p e below s _ _ _ T916 (mkF m 269 #[.val (.int nn), .val (.int p0), .val (.int p1), .val (.int p2), .val (.int p3), .val (.int p4), .val (.int (3 : Int32)), .val (.ref b710), .val (.ref b894), .val (.ref o914), .unset, .unset, .unset] [(.int (3 : Int32))])
    refine E.iload (q := 271) X916 hx (hb hby at_269) rfl ?_
    refine E.icmpY (q := 276) X916 hx (hb hby at_271) (XT.ii_eq_t (by decide)) ?_
    refine E.iload (q := 278) X916 hx (hb hby at_276) rfl ?_
    refine E.ifN (q := 281) X916 hx (hb hby at_278) (XT.i0_le_f (by decide)) ?_
    refine E.aload (q := 283) X916 hx (hb hby at_281) rfl rfl ?_
    refine E.iconst (q := 284) (v := (0 : Int32)) X916 hx (hb hby at_283) rfl ?_
    refine Ends.callV X916 hx hZ hown (own_w hw 166 rfl) (own_w hw 167 rfl) (own_w hw 169 rfl) (own_w hw 168 rfl) (own_w hw 27 rfl) (own_w hw 170 rfl) (by decide) (argsL := [(.int (0 : Int32))]) (rest := []) e916 Eo914 (rm28 l Z a0 hw o914 Uu914 0 u0 [u0, u1, u2] rfl _ Fu914 AU914) (W := 0) (by decide) (by decide) (by rw [hml]; rfl) (lenOf pd_7 rfl) (Nat.le_of_eq rfl) (hb hby at_284) (by decide) (by decide) rfl ?_
    rintro T917 v917 L917 X917 ⟨rfl, e917, rfl⟩
    rw [List.append_nil] at X917
    refine E.aload (q := 289) X917 hx (hb hby at_287) rfl rfl ?_
    refine E.iconst (q := 290) (v := (0 : Int32)) X917 hx (hb hby at_289) rfl ?_
    have f918 := f902.other W903 (Nat.ne_of_lt (Nat.lt_of_lt_of_eq V720.lt g894.symm))
    have f919 := (((f902.other W903 (Nat.ne_of_lt (Nat.lt_of_lt_of_eq V720.lt g894.symm))).ext E905).keep hO908.1 (ninS (Nat.ne_of_lt (Nat.lt_of_lt_of_eq f918.lt g905.symm)) nin0)).keep hO914.1 nin0
    refine Ends.ild X917 hx hZ e917 f919 (i := 0) rfl rfl (hb hby at_290) ?_
    refine E.icmpY (q := 296) X917 hx (hb hby at_291) (XT.ii_eq_t rfl) ?_
    refine E.iload (q := 298) X917 hx (hb hby at_296) rfl ?_
    refine E.iconst (q := 299) (v := (1 : Int32)) X917 hx (hb hby at_298) rfl ?_
    refine E.icmpN (q := 302) X917 hx (hb hby at_299) (XT.ii_le_f (by decide)) ?_
    refine E.aload (q := 304) X917 hx (hb hby at_302) rfl rfl ?_
    refine E.iconst (q := 305) (v := (1 : Int32)) X917 hx (hb hby at_304) rfl ?_
    refine Ends.callV X917 hx hZ hown (own_w hw 166 rfl) (own_w hw 167 rfl) (own_w hw 169 rfl) (own_w hw 168 rfl) (own_w hw 27 rfl) (own_w hw 170 rfl) (by decide) (argsL := [(.int (1 : Int32))]) (rest := []) e917 Eo914 (rm28 l Z a0 hw o914 Uu914 1 u1 [u0, u1, u2] rfl _ Fu914 AU914) (W := 0) (by decide) (by decide) (by rw [hml]; rfl) (lenOf pd_7 rfl) (Nat.le_of_eq rfl) (hb hby at_305) (by decide) (by decide) rfl ?_
    rintro T920 v920 L920 X920 ⟨rfl, e920, rfl⟩
    rw [List.append_nil] at X920
    refine E.aload (q := 310) X920 hx (hb hby at_308) rfl rfl ?_
    refine E.iconst (q := 311) (v := (1 : Int32)) X920 hx (hb hby at_310) rfl ?_
    refine Ends.ild X920 hx hZ e920 f919 (i := 1) rfl rfl (hb hby at_311) ?_
    refine E.icmpY (q := 317) X920 hx (hb hby at_312) (XT.ii_eq_t rfl) ?_
    refine E.iload (q := 319) X920 hx (hb hby at_317) rfl ?_
    refine E.iconst (q := 320) (v := (2 : Int32)) X920 hx (hb hby at_319) rfl ?_
    refine E.icmpN (q := 323) X920 hx (hb hby at_320) (XT.ii_le_f (by decide)) ?_
    refine E.aload (q := 325) X920 hx (hb hby at_323) rfl rfl ?_
    refine E.iconst (q := 326) (v := (2 : Int32)) X920 hx (hb hby at_325) rfl ?_
    refine Ends.callV X920 hx hZ hown (own_w hw 166 rfl) (own_w hw 167 rfl) (own_w hw 169 rfl) (own_w hw 168 rfl) (own_w hw 27 rfl) (own_w hw 170 rfl) (by decide) (argsL := [(.int (2 : Int32))]) (rest := []) e920 Eo914 (rm28 l Z a0 hw o914 Uu914 2 u2 [u0, u1, u2] rfl _ Fu914 AU914) (W := 0) (by decide) (by decide) (by rw [hml]; rfl) (lenOf pd_7 rfl) (Nat.le_of_eq rfl) (hb hby at_326) (by decide) (by decide) rfl ?_
    rintro T921 v921 L921 X921 ⟨rfl, e921, rfl⟩
    rw [List.append_nil] at X921
    refine E.aload (q := 331) X921 hx (hb hby at_329) rfl rfl ?_
    refine E.iconst (q := 332) (v := (2 : Int32)) X921 hx (hb hby at_331) rfl ?_
    refine Ends.ild X921 hx hZ e921 f919 (i := 2) rfl rfl (hb hby at_332) ?_
    refine E.icmpY (q := 338) X921 hx (hb hby at_333) (XT.ii_eq_t rfl) ?_
    refine E.iload (q := 340) X921 hx (hb hby at_338) rfl ?_
    refine E.iconst (q := 341) (v := (3 : Int32)) X921 hx (hb hby at_340) rfl ?_
    refine E.icmpY (q := 359) X921 hx (hb hby at_341) (XT.ii_le_t (by decide)) ?_
    refine E.iload (q := 361) X921 hx (hb hby at_359) rfl ?_
    refine E.iconst (q := 362) (v := (4 : Int32)) X921 hx (hb hby at_361) rfl ?_
    refine E.icmpY (q := 380) X921 hx (hb hby at_362) (XT.ii_le_t (by decide)) ?_
    refine E.aload (q := 382) X921 hx (hb hby at_380) rfl rfl ?_
    refine Ends.callV X921 hx hZ hown (own_w hw 92 rfl) (own_w hw 93 rfl) (own_w hw 95 rfl) (own_w hw 94 rfl) (own_w hw 27 rfl) (own_w hw 96 rfl) (by decide) (argsL := []) (rest := []) e921 Eo914 (rm15 l Z a0 hw o914 Tt914 (own_ints (own_kmp [u0, u1, u2])) (by rw [own_ints_len, own_kmp_len]; simp) _ Ft914 AT914 ET914) (W := 0) (by decide) (by decide) (by rw [hml]; rfl) (lenOf pd_28 rfl) (Nat.le_of_eq rfl) (hb hby at_382) (by decide) (by decide) rfl ?_
    rintro T922 v922 L922 X922 ⟨b922, rfl, gb922, hO922, AC922⟩
    have e922 : T922.heap = T922.heap := rfl
    have O922 := O914.call hO922 all0
    have HC923 := HC915.trans (CHr.keep hO922.1 (own_all0) HC915.1)
    refine E.astore (q := 387) (l' := #[.val (.int nn), .val (.int p0), .val (.int p1), .val (.int p2), .val (.int p3), .val (.int p4), .val (.int (3 : Int32)), .val (.ref b710), .val (.ref b894), .val (.ref o914), .val (.ref b922), .unset, .unset]) X922 hx (hb hby at_385) rfl rfl ?_
    refine E.aload (q := 389) X922 hx (hb hby at_387) rfl rfl ?_
    refine Ends.alen X922 hx hZ e922 AC922 (hb hby at_389) (n := (3 : Int32)) (by rw [List.length_map, own_ints_len, own_kmp_len]; rfl) ?_
    refine E.iload (q := 392) X922 hx (hb hby at_390) rfl ?_
    refine E.icmpY (q := 397) X922 hx (hb hby at_392) (XT.ii_eq_t (by decide)) ?_
    refine E.iload (q := 399) X922 hx (hb hby at_397) rfl ?_
    refine E.ifN (q := 402) X922 hx (hb hby at_399) (XT.i0_le_f (by decide)) ?_
    refine E.aload (q := 404) X922 hx (hb hby at_402) rfl rfl ?_
    refine E.iconst (q := 405) (v := (0 : Int32)) X922 hx (hb hby at_404) rfl ?_
    refine Ends.ild X922 hx hZ e922 AC922 (i := 0) (v := .int (Int32.ofNat (own_ref5 [u0, u1, u2, u3, u4] 0))) rfl (by rw [List.getElem?_map, (show (own_ints (own_kmp [u0, u1, u2]))[0]? = some (Int32.ofNat (own_ref5 [u0, u1, u2, u3, u4] 0)) from own_ckat (own_law5 u0 u1 u2 u3 u4 (n := 3) (i := 0) (by decide) (by decide)))]; rfl) (hb hby at_405) ?_
    refine E.aload (q := 408) X922 hx (hb hby at_406) rfl rfl ?_
    refine E.iconst (q := 409) (v := (0 : Int32)) X922 hx (hb hby at_408) rfl ?_
    have f924 := f919.keep hO922.1 nin0
    refine Ends.callS X922 hx hZ hown (own_w hw 171 rfl) (own_w hw 172 rfl) (own_w hw 108 rfl) (own_w hw 173 rfl) (by decide) (argsL := [(.ref b710), (.int (0 : Int32))]) (rest := [(.int (Int32.ofNat (own_ref5 [u0, u1, u2, u3, u4] 0)))]) e922 (rmBr0 l Z a0 hw b710 u0 u1 u2 u3 u4 _ f924) (W := 1) (by decide) (by decide) (by rw [hml]; rfl) (lenOf pd_30 rfl) (Nat.le_of_eq rfl) (hb hby at_409) (by decide) (by decide) rfl ?_
    rintro T925 v925 L925 X925 ⟨rfl, e925, rfl⟩
    rw [List.append_nil] at X925
    refine E.icmpY (q := 417) X925 hx (hb hby at_412) (XT.ii_eq_t rfl) ?_
    refine E.iload (q := 419) X925 hx (hb hby at_417) rfl ?_
    refine E.iconst (q := 420) (v := (1 : Int32)) X925 hx (hb hby at_419) rfl ?_
    refine E.icmpN (q := 423) X925 hx (hb hby at_420) (XT.ii_le_f (by decide)) ?_
    refine E.aload (q := 425) X925 hx (hb hby at_423) rfl rfl ?_
    refine E.iconst (q := 426) (v := (1 : Int32)) X925 hx (hb hby at_425) rfl ?_
    refine Ends.ild X925 hx hZ e925 AC922 (i := 1) (v := .int (Int32.ofNat (own_ref5 [u0, u1, u2, u3, u4] 1))) rfl (by rw [List.getElem?_map, (show (own_ints (own_kmp [u0, u1, u2]))[1]? = some (Int32.ofNat (own_ref5 [u0, u1, u2, u3, u4] 1)) from own_ckat (own_law5 u0 u1 u2 u3 u4 (n := 3) (i := 1) (by decide) (by decide)))]; rfl) (hb hby at_426) ?_
    refine E.aload (q := 429) X925 hx (hb hby at_427) rfl rfl ?_
    refine E.iconst (q := 430) (v := (1 : Int32)) X925 hx (hb hby at_429) rfl ?_
    refine Ends.callS X925 hx hZ hown (own_w hw 171 rfl) (own_w hw 172 rfl) (own_w hw 108 rfl) (own_w hw 173 rfl) (by decide) (argsL := [(.ref b710), (.int (1 : Int32))]) (rest := [(.int (Int32.ofNat (own_ref5 [u0, u1, u2, u3, u4] 1)))]) e925 (rmBr1 l Z a0 hw b710 u0 u1 u2 u3 u4 _ f924) (W := 1) (by decide) (by decide) (by rw [hml]; rfl) (lenOf pd_30 rfl) (Nat.le_of_eq rfl) (hb hby at_430) (by decide) (by decide) rfl ?_
    rintro T926 v926 L926 X926 ⟨rfl, e926, rfl⟩
    rw [List.append_nil] at X926
    refine E.icmpY (q := 438) X926 hx (hb hby at_433) (XT.ii_eq_t rfl) ?_
    refine E.iload (q := 440) X926 hx (hb hby at_438) rfl ?_
    refine E.iconst (q := 441) (v := (2 : Int32)) X926 hx (hb hby at_440) rfl ?_
    refine E.icmpN (q := 444) X926 hx (hb hby at_441) (XT.ii_le_f (by decide)) ?_
    refine E.aload (q := 446) X926 hx (hb hby at_444) rfl rfl ?_
    refine E.iconst (q := 447) (v := (2 : Int32)) X926 hx (hb hby at_446) rfl ?_
    refine Ends.ild X926 hx hZ e926 AC922 (i := 2) (v := .int (Int32.ofNat (own_ref5 [u0, u1, u2, u3, u4] 2))) rfl (by rw [List.getElem?_map, (show (own_ints (own_kmp [u0, u1, u2]))[2]? = some (Int32.ofNat (own_ref5 [u0, u1, u2, u3, u4] 2)) from own_ckat (own_law5 u0 u1 u2 u3 u4 (n := 3) (i := 2) (by decide) (by decide)))]; rfl) (hb hby at_447) ?_
    refine E.aload (q := 450) X926 hx (hb hby at_448) rfl rfl ?_
    refine E.iconst (q := 451) (v := (2 : Int32)) X926 hx (hb hby at_450) rfl ?_
    refine Ends.callS X926 hx hZ hown (own_w hw 171 rfl) (own_w hw 172 rfl) (own_w hw 108 rfl) (own_w hw 173 rfl) (by decide) (argsL := [(.ref b710), (.int (2 : Int32))]) (rest := [(.int (Int32.ofNat (own_ref5 [u0, u1, u2, u3, u4] 2)))]) e926 (rmBr2 l Z a0 hw b710 u0 u1 u2 u3 u4 _ f924) (W := 1) (by decide) (by decide) (by rw [hml]; rfl) (lenOf pd_30 rfl) (Nat.le_of_eq rfl) (hb hby at_451) (by decide) (by decide) rfl ?_
    rintro T927 v927 L927 X927 ⟨rfl, e927, rfl⟩
    rw [List.append_nil] at X927
    refine E.icmpY (q := 459) X927 hx (hb hby at_454) (XT.ii_eq_t rfl) ?_
    refine E.iload (q := 461) X927 hx (hb hby at_459) rfl ?_
    refine E.iconst (q := 462) (v := (3 : Int32)) X927 hx (hb hby at_461) rfl ?_
    refine E.icmpY (q := 480) X927 hx (hb hby at_462) (XT.ii_le_t (by decide)) ?_
    refine E.iload (q := 482) X927 hx (hb hby at_480) rfl ?_
    refine E.iconst (q := 483) (v := (4 : Int32)) X927 hx (hb hby at_482) rfl ?_
    refine E.icmpY (q := 501) X927 hx (hb hby at_483) (XT.ii_le_t (by decide)) ?_
    refine E.iconst (q := 502) (v := (5 : Int32)) X927 hx (hb hby at_501) rfl ?_
    refine Ends.newA X927 hx hZ (own_w hw 1 rfl) e927 (hb hby at_502) (N := 5) rfl (by decide) (by decide) (by decide) ?_
    intro T928 h928 b928 g928 X928 e928 E928 A928
    have ge_b928 : h0.size ≤ b928 := Nat.le_trans O922.le (Nat.le_of_eq g928.symm)
    have O928 := O922.ext E928
    have HC929 := HC923.trans (CHr.ext E928 HC923.1)
    have V928 : Ary Z h928 b928 .int [(.int (0 : Int32)), (.int (0 : Int32)), (.int (0 : Int32)), (.int (0 : Int32)), (.int (0 : Int32))] := A928
    refine E.astore (q := 506) (l' := #[.val (.int nn), .val (.int p0), .val (.int p1), .val (.int p2), .val (.int p3), .val (.int p4), .val (.int (3 : Int32)), .val (.ref b710), .val (.ref b894), .val (.ref o914), .val (.ref b922), .val (.ref b928), .unset]) X928 hx (hb hby at_504) rfl rfl ?_
    refine E.aload (q := 508) X928 hx (hb hby at_506) rfl rfl ?_
    refine E.iconst (q := 509) (v := (0 : Int32)) X928 hx (hb hby at_508) rfl ?_
    refine E.aload (q := 511) X928 hx (hb hby at_509) rfl rfl ?_
    refine E.iconst (q := 512) (v := (0 : Int32)) X928 hx (hb hby at_511) rfl ?_
    have f930 := f924.ext E928
    refine Ends.ild X928 hx hZ e928 f930 (i := 0) rfl rfl (hb hby at_512) ?_
    refine Ends.callS X928 hx hZ hown (own_w hw 106 rfl) (own_w hw 107 rfl) (own_w hw 108 rfl) (own_w hw 109 rfl) (by decide) (argsL := [(.int u0)]) (rest := [(.int (0 : Int32)), (.ref b928)]) e928 (rm16 l Z a0 hw u0 _) (W := 2) (by decide) (by decide) (by rw [hml]; rfl) (lenOf pd_7 rfl) (Nat.le_of_eq rfl) (hb hby at_513) (by decide) (by decide) rfl ?_
    rintro T931 v931 L931 X931 ⟨rfl, e931, rfl⟩
    rw [List.append_nil] at X931
    refine Ends.ist X931 hx hZ e931 V928 (i := 0) rfl (show 0 < 5 from by decide) (hb hby at_516) ?_
    intro T932 h932 X932 e932 W932 V932
    have V932 : Ary Z h932 b928 .int [(.int (own_Rf u0)), (.int (0 : Int32)), (.int (0 : Int32)), (.int (0 : Int32)), (.int (0 : Int32))] := V932
    have O932 := O928.wr W932 (Or.inr ge_b928)
    have HC933 := HC929.trans (CHr.wr W932 (own_safe_ary hZ.alike V928 (by decide)) HC929.1)
    refine E.aload (q := 519) X932 hx (hb hby at_517) rfl rfl ?_
    refine E.iconst (q := 520) (v := (1 : Int32)) X932 hx (hb hby at_519) rfl ?_
    refine E.aload (q := 522) X932 hx (hb hby at_520) rfl rfl ?_
    refine E.iconst (q := 523) (v := (1 : Int32)) X932 hx (hb hby at_522) rfl ?_
    have f934 := f930.other W932 (Nat.ne_of_lt (Nat.lt_of_lt_of_eq f924.lt g928.symm))
    refine Ends.ild X932 hx hZ e932 f934 (i := 1) rfl rfl (hb hby at_523) ?_
    refine Ends.callS X932 hx hZ hown (own_w hw 106 rfl) (own_w hw 107 rfl) (own_w hw 108 rfl) (own_w hw 109 rfl) (by decide) (argsL := [(.int u1)]) (rest := [(.int (1 : Int32)), (.ref b928)]) e932 (rm16 l Z a0 hw u1 _) (W := 2) (by decide) (by decide) (by rw [hml]; rfl) (lenOf pd_7 rfl) (Nat.le_of_eq rfl) (hb hby at_524) (by decide) (by decide) rfl ?_
    rintro T935 v935 L935 X935 ⟨rfl, e935, rfl⟩
    rw [List.append_nil] at X935
    refine Ends.ist X935 hx hZ e935 V932 (i := 1) rfl (show 1 < 5 from by decide) (hb hby at_527) ?_
    intro T936 h936 X936 e936 W936 V936
    have V936 : Ary Z h936 b928 .int [(.int (own_Rf u0)), (.int (own_Rf u1)), (.int (0 : Int32)), (.int (0 : Int32)), (.int (0 : Int32))] := V936
    have O936 := O932.wr W936 (Or.inr ge_b928)
    have HC937 := HC933.trans (CHr.wr W936 (own_safe_ary hZ.alike V932 (by decide)) HC933.1)
    refine E.aload (q := 530) X936 hx (hb hby at_528) rfl rfl ?_
    refine E.iconst (q := 531) (v := (2 : Int32)) X936 hx (hb hby at_530) rfl ?_
    refine E.aload (q := 533) X936 hx (hb hby at_531) rfl rfl ?_
    refine E.iconst (q := 534) (v := (2 : Int32)) X936 hx (hb hby at_533) rfl ?_
    have f938 := f934.other W936 (Nat.ne_of_lt (Nat.lt_of_lt_of_eq f924.lt g928.symm))
    refine Ends.ild X936 hx hZ e936 f938 (i := 2) rfl rfl (hb hby at_534) ?_
    refine Ends.callS X936 hx hZ hown (own_w hw 106 rfl) (own_w hw 107 rfl) (own_w hw 108 rfl) (own_w hw 109 rfl) (by decide) (argsL := [(.int u2)]) (rest := [(.int (2 : Int32)), (.ref b928)]) e936 (rm16 l Z a0 hw u2 _) (W := 2) (by decide) (by decide) (by rw [hml]; rfl) (lenOf pd_7 rfl) (Nat.le_of_eq rfl) (hb hby at_535) (by decide) (by decide) rfl ?_
    rintro T939 v939 L939 X939 ⟨rfl, e939, rfl⟩
    rw [List.append_nil] at X939
    refine Ends.ist X939 hx hZ e939 V936 (i := 2) rfl (show 2 < 5 from by decide) (hb hby at_538) ?_
    intro T940 h940 X940 e940 W940 V940
    have V940 : Ary Z h940 b928 .int [(.int (own_Rf u0)), (.int (own_Rf u1)), (.int (own_Rf u2)), (.int (0 : Int32)), (.int (0 : Int32))] := V940
    have O940 := O936.wr W940 (Or.inr ge_b928)
    have HC941 := HC937.trans (CHr.wr W940 (own_safe_ary hZ.alike V936 (by decide)) HC937.1)
    refine E.aload (q := 541) X940 hx (hb hby at_539) rfl rfl ?_
    refine E.iconst (q := 542) (v := (3 : Int32)) X940 hx (hb hby at_541) rfl ?_
    refine E.aload (q := 544) X940 hx (hb hby at_542) rfl rfl ?_
    refine E.iconst (q := 545) (v := (3 : Int32)) X940 hx (hb hby at_544) rfl ?_
    have f942 := f938.other W940 (Nat.ne_of_lt (Nat.lt_of_lt_of_eq f924.lt g928.symm))
    refine Ends.ild X940 hx hZ e940 f942 (i := 3) rfl rfl (hb hby at_545) ?_
    refine Ends.callS X940 hx hZ hown (own_w hw 106 rfl) (own_w hw 107 rfl) (own_w hw 108 rfl) (own_w hw 109 rfl) (by decide) (argsL := [(.int u3)]) (rest := [(.int (3 : Int32)), (.ref b928)]) e940 (rm16 l Z a0 hw u3 _) (W := 2) (by decide) (by decide) (by rw [hml]; rfl) (lenOf pd_7 rfl) (Nat.le_of_eq rfl) (hb hby at_546) (by decide) (by decide) rfl ?_
    rintro T943 v943 L943 X943 ⟨rfl, e943, rfl⟩
    rw [List.append_nil] at X943
    refine Ends.ist X943 hx hZ e943 V940 (i := 3) rfl (show 3 < 5 from by decide) (hb hby at_549) ?_
    intro T944 h944 X944 e944 W944 V944
    have V944 : Ary Z h944 b928 .int [(.int (own_Rf u0)), (.int (own_Rf u1)), (.int (own_Rf u2)), (.int (own_Rf u3)), (.int (0 : Int32))] := V944
    have O944 := O940.wr W944 (Or.inr ge_b928)
    have HC945 := HC941.trans (CHr.wr W944 (own_safe_ary hZ.alike V940 (by decide)) HC941.1)
    refine E.aload (q := 552) X944 hx (hb hby at_550) rfl rfl ?_
    refine E.iconst (q := 553) (v := (4 : Int32)) X944 hx (hb hby at_552) rfl ?_
    refine E.aload (q := 555) X944 hx (hb hby at_553) rfl rfl ?_
    refine E.iconst (q := 556) (v := (4 : Int32)) X944 hx (hb hby at_555) rfl ?_
    have f946 := f942.other W944 (Nat.ne_of_lt (Nat.lt_of_lt_of_eq f924.lt g928.symm))
    refine Ends.ild X944 hx hZ e944 f946 (i := 4) rfl rfl (hb hby at_556) ?_
    refine Ends.callS X944 hx hZ hown (own_w hw 106 rfl) (own_w hw 107 rfl) (own_w hw 108 rfl) (own_w hw 109 rfl) (by decide) (argsL := [(.int u4)]) (rest := [(.int (4 : Int32)), (.ref b928)]) e944 (rm16 l Z a0 hw u4 _) (W := 2) (by decide) (by decide) (by rw [hml]; rfl) (lenOf pd_7 rfl) (Nat.le_of_eq rfl) (hb hby at_557) (by decide) (by decide) rfl ?_
    rintro T947 v947 L947 X947 ⟨rfl, e947, rfl⟩
    rw [List.append_nil] at X947
    refine Ends.ist X947 hx hZ e947 V944 (i := 4) rfl (show 4 < 5 from by decide) (hb hby at_560) ?_
    intro T948 h948 X948 e948 W948 V948
    have V948 : Ary Z h948 b928 .int [(.int (own_Rf u0)), (.int (own_Rf u1)), (.int (own_Rf u2)), (.int (own_Rf u3)), (.int (own_Rf u4))] := V948
    have O948 := O944.wr W948 (Or.inr ge_b928)
    have HC949 := HC945.trans (CHr.wr W948 (own_safe_ary hZ.alike V944 (by decide)) HC945.1)
    refine E.aload (q := 563) X948 hx (hb hby at_561) rfl rfl ?_
    have f950 := Eo914.keep hO922.1
    have f951 := ((((((Fp914.keep hO922.1 nin0).ext E928).other W932 (Or.inl (Nat.ne_of_lt (Nat.lt_of_lt_of_eq f950.lt g928.symm)))).other W936 (Or.inl (Nat.ne_of_lt (Nat.lt_of_lt_of_eq f950.lt g928.symm)))).other W940 (Or.inl (Nat.ne_of_lt (Nat.lt_of_lt_of_eq f950.lt g928.symm)))).other W944 (Or.inl (Nat.ne_of_lt (Nat.lt_of_lt_of_eq f950.lt g928.symm)))).other W948 (Or.inl (Nat.ne_of_lt (Nat.lt_of_lt_of_eq f950.lt g928.symm)))
    have f952 := (((((f950.ext E928).wr W932).wr W936).wr W940).wr W944).wr W948
    refine Ends.callV X948 hx hZ hown (own_w hw 110 rfl) (own_w hw 111 rfl) (own_w hw 113 rfl) (own_w hw 112 rfl) (own_w hw 27 rfl) (own_w hw 114 rfl) (by decide) (argsL := []) (rest := []) e948 f952 (rm17 l Z a0 hw o914 Pp914 _ f951) (W := 0) (by decide) (by decide) (by rw [hml]; rfl) (lenOf pd_28 rfl) (Nat.le_of_eq rfl) (hb hby at_563) (by decide) (by decide) rfl ?_
    rintro T953 v953 L953 X953 ⟨rfl, e953, rfl⟩
    rw [List.append_nil] at X953
    refine E.astore (q := 568) (l' := #[.val (.int nn), .val (.int p0), .val (.int p1), .val (.int p2), .val (.int p3), .val (.int p4), .val (.int (3 : Int32)), .val (.ref b710), .val (.ref b894), .val (.ref o914), .val (.ref b922), .val (.ref b928), .val (.ref Pp914)]) X953 hx (hb hby at_566) rfl rfl ?_
    refine E.aload (q := 570) X953 hx (hb hby at_568) rfl rfl ?_
    have f954 := AP914.keep hO922.1 nin0
    have f955 := ((((((AP914.keep hO922.1 nin0).ext E928).other W932 (Nat.ne_of_lt (Nat.lt_of_lt_of_eq f954.lt g928.symm))).other W936 (Nat.ne_of_lt (Nat.lt_of_lt_of_eq f954.lt g928.symm))).other W940 (Nat.ne_of_lt (Nat.lt_of_lt_of_eq f954.lt g928.symm))).other W944 (Nat.ne_of_lt (Nat.lt_of_lt_of_eq f954.lt g928.symm))).other W948 (Nat.ne_of_lt (Nat.lt_of_lt_of_eq f954.lt g928.symm))
    refine Ends.alen X953 hx hZ e953 f955 (hb hby at_570) (n := (3 : Int32)) (by rw [List.length_map, own_ints_len, hg914]; rfl) ?_
    refine E.iconst (q := 572) (v := (3 : Int32)) X953 hx (hb hby at_571) rfl ?_
    refine E.iload (q := 574) X953 hx (hb hby at_572) rfl ?_
    refine Ends.callS X953 hx hZ hown (own_w hw 115 rfl) (own_w hw 72 rfl) (own_w hw 73 rfl) (own_w hw 74 rfl) (by decide) (argsL := [(.int (3 : Int32)), (.int (3 : Int32))]) (rest := [(.int (3 : Int32))]) e953 (rm12 l Z a0 hw 3 3 (by decide) (by decide) _) (W := 1) (by decide) (by decide) (by rw [hml]; rfl) (lenOf pd_19 rfl) (Nat.le_of_eq rfl) (hb hby at_574) (by decide) (by decide) rfl ?_
    rintro T956 v956 L956 X956 ⟨rfl, e956, rfl⟩
    rw [List.append_nil] at X956
    refine E.icmpY (q := 582) X956 hx (hb hby at_577) (XT.ii_eq_t (by decide)) ?_
    refine E.aload (q := 584) X956 hx (hb hby at_582) rfl rfl ?_
    refine E.aload (q := 586) X956 hx (hb hby at_584) rfl rfl ?_
    refine E.iload (q := 588) X956 hx (hb hby at_586) rfl ?_
    refine E.iconst (q := 589) (v := (0 : Int32)) X956 hx (hb hby at_588) rfl ?_
    refine Ends.callS X956 hx hZ hown (own_w hw 116 rfl) (own_w hw 117 rfl) (own_w hw 108 rfl) (own_w hw 118 rfl) (by decide) (argsL := [(.ref Pp914), (.ref b928), (.int (3 : Int32)), (.int (0 : Int32))]) (rest := []) e956 (rmPo0 l Z a0 hw Pp914 b928 (own_Rf u0) (own_Rf u1) (own_Rf u2) (own_Rf u3) (own_Rf u4) 3 (by decide) (own_ints (own_go (own_gtI [own_Rf u0, own_Rf u1, own_Rf u2]) 3 3)) (by rw [own_ints_len, hg914]; decide) (fun _ q => own_ckat (own_probe5 (l := [own_Rf u0, own_Rf u1, own_Rf u2, own_Rf u3, own_Rf u4]) rfl (n := 3) (i := 0) (by decide) (by decide) (by rw [own_ints_len, hg914] at q; exact q))) _ V948 f955) (W := 0) (by decide) (by decide) (by rw [hml]; rfl) (lenOf pd_29 rfl) (Nat.le_of_eq rfl) (hb hby at_589) (by decide) (by decide) rfl ?_
    rintro T957 v957 L957 X957 ⟨rfl, e957, rfl⟩
    rw [List.append_nil] at X957
    refine E.ifY (q := 597) X957 hx (hb hby at_592) (XT.i0_ne_t (by decide)) ?_
    refine E.aload (q := 599) X957 hx (hb hby at_597) rfl rfl ?_
    refine E.aload (q := 601) X957 hx (hb hby at_599) rfl rfl ?_
    refine E.iload (q := 603) X957 hx (hb hby at_601) rfl ?_
    refine E.iconst (q := 604) (v := (1 : Int32)) X957 hx (hb hby at_603) rfl ?_
    refine Ends.callS X957 hx hZ hown (own_w hw 116 rfl) (own_w hw 117 rfl) (own_w hw 108 rfl) (own_w hw 118 rfl) (by decide) (argsL := [(.ref Pp914), (.ref b928), (.int (3 : Int32)), (.int (1 : Int32))]) (rest := []) e957 (rmPo1 l Z a0 hw Pp914 b928 (own_Rf u0) (own_Rf u1) (own_Rf u2) (own_Rf u3) (own_Rf u4) 3 (by decide) (own_ints (own_go (own_gtI [own_Rf u0, own_Rf u1, own_Rf u2]) 3 3)) (by rw [own_ints_len, hg914]; decide) (fun _ q => own_ckat (own_probe5 (l := [own_Rf u0, own_Rf u1, own_Rf u2, own_Rf u3, own_Rf u4]) rfl (n := 3) (i := 1) (by decide) (by decide) (by rw [own_ints_len, hg914] at q; exact q))) _ V948 f955) (W := 0) (by decide) (by decide) (by rw [hml]; rfl) (lenOf pd_29 rfl) (Nat.le_of_eq rfl) (hb hby at_604) (by decide) (by decide) rfl ?_
    rintro T958 v958 L958 X958 ⟨rfl, e958, rfl⟩
    rw [List.append_nil] at X958
    refine E.ifY (q := 612) X958 hx (hb hby at_607) (XT.i0_ne_t (by decide)) ?_
    refine E.aload (q := 614) X958 hx (hb hby at_612) rfl rfl ?_
    refine E.aload (q := 616) X958 hx (hb hby at_614) rfl rfl ?_
    refine E.iload (q := 618) X958 hx (hb hby at_616) rfl ?_
    refine E.iconst (q := 619) (v := (2 : Int32)) X958 hx (hb hby at_618) rfl ?_
    refine Ends.callS X958 hx hZ hown (own_w hw 116 rfl) (own_w hw 117 rfl) (own_w hw 108 rfl) (own_w hw 118 rfl) (by decide) (argsL := [(.ref Pp914), (.ref b928), (.int (3 : Int32)), (.int (2 : Int32))]) (rest := []) e958 (rmPo2 l Z a0 hw Pp914 b928 (own_Rf u0) (own_Rf u1) (own_Rf u2) (own_Rf u3) (own_Rf u4) 3 (by decide) (own_ints (own_go (own_gtI [own_Rf u0, own_Rf u1, own_Rf u2]) 3 3)) (by rw [own_ints_len, hg914]; decide) (fun _ q => own_ckat (own_probe5 (l := [own_Rf u0, own_Rf u1, own_Rf u2, own_Rf u3, own_Rf u4]) rfl (n := 3) (i := 2) (by decide) (by decide) (by rw [own_ints_len, hg914] at q; exact q))) _ V948 f955) (W := 0) (by decide) (by decide) (by rw [hml]; rfl) (lenOf pd_29 rfl) (Nat.le_of_eq rfl) (hb hby at_619) (by decide) (by decide) rfl ?_
    rintro T959 v959 L959 X959 ⟨rfl, e959, rfl⟩
    rw [List.append_nil] at X959
    refine E.ifY (q := 627) X959 hx (hb hby at_622) (XT.i0_ne_t (by decide)) ?_
    refine E.aload (q := 629) X959 hx (hb hby at_627) rfl rfl ?_
    refine E.aload (q := 631) X959 hx (hb hby at_629) rfl rfl ?_
    refine E.iload (q := 633) X959 hx (hb hby at_631) rfl ?_
    refine E.iconst (q := 634) (v := (3 : Int32)) X959 hx (hb hby at_633) rfl ?_
    refine Ends.callS X959 hx hZ hown (own_w hw 116 rfl) (own_w hw 117 rfl) (own_w hw 108 rfl) (own_w hw 118 rfl) (by decide) (argsL := [(.ref Pp914), (.ref b928), (.int (3 : Int32)), (.int (3 : Int32))]) (rest := []) e959 (rmPo3 l Z a0 hw Pp914 b928 (own_Rf u0) (own_Rf u1) (own_Rf u2) (own_Rf u3) (own_Rf u4) 3 (by decide) (own_ints (own_go (own_gtI [own_Rf u0, own_Rf u1, own_Rf u2]) 3 3)) (by rw [own_ints_len, hg914]; decide) (fun q => absurd q (by decide)) _ V948 f955) (W := 0) (by decide) (by decide) (by rw [hml]; rfl) (lenOf pd_29 rfl) (Nat.le_of_eq rfl) (hb hby at_634) (by decide) (by decide) rfl ?_
    rintro T960 v960 L960 X960 ⟨rfl, e960, rfl⟩
    rw [List.append_nil] at X960
    refine E.ifY (q := 642) X960 hx (hb hby at_637) (XT.i0_ne_t (by decide)) ?_
    refine E.aload (q := 644) X960 hx (hb hby at_642) rfl rfl ?_
    refine E.aload (q := 646) X960 hx (hb hby at_644) rfl rfl ?_
    refine E.iload (q := 648) X960 hx (hb hby at_646) rfl ?_
    refine E.iconst (q := 649) (v := (4 : Int32)) X960 hx (hb hby at_648) rfl ?_
    refine Ends.callS X960 hx hZ hown (own_w hw 116 rfl) (own_w hw 117 rfl) (own_w hw 108 rfl) (own_w hw 118 rfl) (by decide) (argsL := [(.ref Pp914), (.ref b928), (.int (3 : Int32)), (.int (4 : Int32))]) (rest := []) e960 (rmPo4 l Z a0 hw Pp914 b928 (own_Rf u0) (own_Rf u1) (own_Rf u2) (own_Rf u3) (own_Rf u4) 3 (by decide) (own_ints (own_go (own_gtI [own_Rf u0, own_Rf u1, own_Rf u2]) 3 3)) (by rw [own_ints_len, hg914]; decide) (fun q => absurd q (by decide)) _ V948 f955) (W := 0) (by decide) (by decide) (by rw [hml]; rfl) (lenOf pd_29 rfl) (Nat.le_of_eq rfl) (hb hby at_649) (by decide) (by decide) rfl ?_
    rintro T961 v961 L961 X961 ⟨rfl, e961, rfl⟩
    rw [List.append_nil] at X961
    refine E.ifY (q := 657) X961 hx (hb hby at_652) (XT.i0_ne_t (by decide)) ?_
    refine E.iconst (q := 658) (v := (1 : Int32)) X961 hx (hb hby at_657) rfl ?_
    exact Ends.retS X961 hx hlk hret (by simp) rfl (hb hby at_658) (by decide) (by decide) ⟨⟨rfl, (O948).fr⟩, by first | exact (Nat.le_trans (Nat.le_trans (Nat.le_trans (Nat.le_trans (Nat.le_trans (Nat.le_trans (Nat.le_trans (Nat.le_refl _) hO922.1.1) E928.1) (own_wr_le W932)) (own_wr_le W936)) (own_wr_le W940)) (own_wr_le W944)) (own_wr_le W948)) | (rw [e961]; exact (Nat.le_trans (Nat.le_trans (Nat.le_trans (Nat.le_trans (Nat.le_trans (Nat.le_trans (Nat.le_trans (Nat.le_refl _) hO922.1.1) E928.1) (own_wr_le W932)) (own_wr_le W936)) (own_wr_le W940)) (own_wr_le W944)) (own_wr_le W948)))⟩ (hF := own_chret X961 hZ (own_EW hw) HC949 (by first | rfl | assumption))
  · refine E.iload (q := 58) X720 hx (hb hby at_56) rfl ?_
    refine E.ifY (q := 69) X720 hx (hb hby at_58) (XT.i0_ne_t (by decide)) ?_
    refine E.iload (q := 71) X720 hx (hb hby at_69) rfl ?_
    refine E.iconst (q := 72) (v := (1 : Int32)) X720 hx (hb hby at_71) rfl ?_
    refine E.icmpY (q := 91) X720 hx (hb hby at_72) (XT.ii_ne_t (by decide)) ?_
    refine E.iload (q := 93) X720 hx (hb hby at_91) rfl ?_
    refine E.iconst (q := 94) (v := (2 : Int32)) X720 hx (hb hby at_93) rfl ?_
    refine E.icmpY (q := 121) X720 hx (hb hby at_94) (XT.ii_ne_t (by decide)) ?_
    refine E.iload (q := 123) X720 hx (hb hby at_121) rfl ?_
    refine E.iconst (q := 124) (v := (3 : Int32)) X720 hx (hb hby at_123) rfl ?_
    refine E.icmpY (q := 159) X720 hx (hb hby at_124) (XT.ii_ne_t (by decide)) ?_
    refine E.iload (q := 161) X720 hx (hb hby at_159) rfl ?_
    refine E.iconst (q := 162) (v := (4 : Int32)) X720 hx (hb hby at_161) rfl ?_
    refine E.icmpN (q := 165) X720 hx (hb hby at_162) (XT.ii_ne_f (by decide)) ?_
    refine E.iconst (q := 166) (v := (4 : Int32)) X720 hx (hb hby at_165) rfl ?_
    refine Ends.newA X720 hx hZ (own_w hw 3 rfl) e720 (hb hby at_166) (N := 4) rfl (by decide) (by decide) (by decide) ?_
    intro T962 h962 b962 g962 X962 e962 E962 A962
    have ge_b962 : h0.size ≤ b962 := Nat.le_trans O720.le (Nat.le_of_eq g962.symm)
    have O962 := O720.ext E962
    have HC963 := HC721.trans (CHr.ext E962 HC721.1)
    have V962 : Ary Z h962 b962 .char [(.int (0 : Int32)), (.int (0 : Int32)), (.int (0 : Int32)), (.int (0 : Int32))] := A962
    refine E.dup (q := 169) X962 hx (hb hby at_168) rfl ?_
    refine E.iconst (q := 170) (v := (0 : Int32)) X962 hx (hb hby at_169) rfl ?_
    refine E.aload (q := 172) X962 hx (hb hby at_170) rfl rfl ?_
    refine E.iconst (q := 173) (v := (0 : Int32)) X962 hx (hb hby at_172) rfl ?_
    have f964 := V720.ext E962
    refine Ends.ild X962 hx hZ e962 f964 (i := 0) rfl rfl (hb hby at_173) ?_
    refine E.i2c (q := 175) X962 hx (hb hby at_174) ?_
    refine Ends.cst X962 hx hZ e962 V962 (x' := (u0.toUInt32.toUInt16.toUInt32.toInt32)) (own_nc16 (own_cC u0)) (i := 0) rfl (show 0 < 4 from by decide) (hb hby at_175) ?_
    intro T965 h965 X965 e965 W965 V965
    have V965 : Ary Z h965 b962 .char [(.int (u0.toUInt32.toUInt16.toUInt32.toInt32)), (.int (0 : Int32)), (.int (0 : Int32)), (.int (0 : Int32))] := V965
    have O965 := O962.wr W965 (Or.inr ge_b962)
    have HC966 := HC963.trans (CHr.wr W965 (own_safe_ary hZ.alike V962 (by decide)) HC963.1)
    refine E.dup (q := 177) X965 hx (hb hby at_176) rfl ?_
    refine E.iconst (q := 178) (v := (1 : Int32)) X965 hx (hb hby at_177) rfl ?_
    refine E.aload (q := 180) X965 hx (hb hby at_178) rfl rfl ?_
    refine E.iconst (q := 181) (v := (1 : Int32)) X965 hx (hb hby at_180) rfl ?_
    have f967 := f964.other W965 (Nat.ne_of_lt (Nat.lt_of_lt_of_eq V720.lt g962.symm))
    refine Ends.ild X965 hx hZ e965 f967 (i := 1) rfl rfl (hb hby at_181) ?_
    refine E.i2c (q := 183) X965 hx (hb hby at_182) ?_
    refine Ends.cst X965 hx hZ e965 V965 (x' := (u1.toUInt32.toUInt16.toUInt32.toInt32)) (own_nc16 (own_cC u1)) (i := 1) rfl (show 1 < 4 from by decide) (hb hby at_183) ?_
    intro T968 h968 X968 e968 W968 V968
    have V968 : Ary Z h968 b962 .char [(.int (u0.toUInt32.toUInt16.toUInt32.toInt32)), (.int (u1.toUInt32.toUInt16.toUInt32.toInt32)), (.int (0 : Int32)), (.int (0 : Int32))] := V968
    have O968 := O965.wr W968 (Or.inr ge_b962)
    have HC969 := HC966.trans (CHr.wr W968 (own_safe_ary hZ.alike V965 (by decide)) HC966.1)
    refine E.dup (q := 185) X968 hx (hb hby at_184) rfl ?_
    refine E.iconst (q := 186) (v := (2 : Int32)) X968 hx (hb hby at_185) rfl ?_
    refine E.aload (q := 188) X968 hx (hb hby at_186) rfl rfl ?_
    refine E.iconst (q := 189) (v := (2 : Int32)) X968 hx (hb hby at_188) rfl ?_
    have f970 := f967.other W968 (Nat.ne_of_lt (Nat.lt_of_lt_of_eq V720.lt g962.symm))
    refine Ends.ild X968 hx hZ e968 f970 (i := 2) rfl rfl (hb hby at_189) ?_
    refine E.i2c (q := 191) X968 hx (hb hby at_190) ?_
    refine Ends.cst X968 hx hZ e968 V968 (x' := (u2.toUInt32.toUInt16.toUInt32.toInt32)) (own_nc16 (own_cC u2)) (i := 2) rfl (show 2 < 4 from by decide) (hb hby at_191) ?_
    intro T971 h971 X971 e971 W971 V971
    have V971 : Ary Z h971 b962 .char [(.int (u0.toUInt32.toUInt16.toUInt32.toInt32)), (.int (u1.toUInt32.toUInt16.toUInt32.toInt32)), (.int (u2.toUInt32.toUInt16.toUInt32.toInt32)), (.int (0 : Int32))] := V971
    have O971 := O968.wr W971 (Or.inr ge_b962)
    have HC972 := HC969.trans (CHr.wr W971 (own_safe_ary hZ.alike V968 (by decide)) HC969.1)
    refine E.dup (q := 193) X971 hx (hb hby at_192) rfl ?_
    refine E.iconst (q := 194) (v := (3 : Int32)) X971 hx (hb hby at_193) rfl ?_
    refine E.aload (q := 196) X971 hx (hb hby at_194) rfl rfl ?_
    refine E.iconst (q := 197) (v := (3 : Int32)) X971 hx (hb hby at_196) rfl ?_
    have f973 := f970.other W971 (Nat.ne_of_lt (Nat.lt_of_lt_of_eq V720.lt g962.symm))
    refine Ends.ild X971 hx hZ e971 f973 (i := 3) rfl rfl (hb hby at_197) ?_
    refine E.i2c (q := 199) X971 hx (hb hby at_198) ?_
    refine Ends.cst X971 hx hZ e971 V971 (x' := (u3.toUInt32.toUInt16.toUInt32.toInt32)) (own_nc16 (own_cC u3)) (i := 3) rfl (show 3 < 4 from by decide) (hb hby at_199) ?_
    intro T974 h974 X974 e974 W974 V974
    have V974 : Ary Z h974 b962 .char [(.int (u0.toUInt32.toUInt16.toUInt32.toInt32)), (.int (u1.toUInt32.toUInt16.toUInt32.toInt32)), (.int (u2.toUInt32.toUInt16.toUInt32.toInt32)), (.int (u3.toUInt32.toUInt16.toUInt32.toInt32))] := V974
    have O974 := O971.wr W974 (Or.inr ge_b962)
    have HC975 := HC972.trans (CHr.wr W974 (own_safe_ary hZ.alike V971 (by decide)) HC972.1)
    refine E.astore (q := 202) (l' := #[.val (.int nn), .val (.int p0), .val (.int p1), .val (.int p2), .val (.int p3), .val (.int p4), .val (.int (4 : Int32)), .val (.ref b710), .val (.ref b962), .unset, .unset, .unset, .unset]) X974 hx (hb hby at_200) rfl rfl ?_
    refine E.goto (q := 250) X974 hx (hb hby at_202) ?_
    rw [own_nc16 hu0, own_nc16 hu1, own_nc16 hu2, own_nc16 hu3] at V974
    refine Ends.newC X974 hx hZ hown (own_w hw 4 rfl) (own_w hw 5 rfl) (own_w hw 6 rfl) e974 (hb hby at_250) (by decide) (by decide) ?_
    intro T976 h976 b976 g976 X976 e976 E976 A976 D976
    have ge_b976 : h0.size ≤ b976 := Nat.le_trans O974.le (Nat.le_of_eq g976.symm)
    have O976 := O974.ext E976
    have HC977 := HC975.trans (CHr.ext E976 HC975.1)
    have F976_value : Fld Z h976 b976 "java/lang/String" "value" "[B" .null := D976 (Or.inr (own_w hw 19 rfl)) (ty := (.array .byte)) (by decide)
    have F976_coder : Fld Z h976 b976 "java/lang/String" "coder" "B" (.int (0 : Int32)) := D976 (Or.inr (own_w hw 20 rfl)) (ty := .byte) (by decide)
    refine E.dup (q := 254) X976 hx (hb hby at_253) rfl ?_
    refine E.aload (q := 256) X976 hx (hb hby at_254) rfl rfl ?_
    have f978 := V974.ext E976
    refine Ends.callI X976 hx hZ hown (own_w hw 7 rfl) (own_w hw 8 rfl) (own_w hw 6 rfl) (own_w hw 9 rfl) rfl (by decide) (argsL := [(.ref b962)]) (rest := [(.ref b976)]) e976 (rmI1_n l Z a0 hw b976 b962 [u0, u1, u2, u3] (own_C5 hu0 hu1 hu2 hu3 hu4 4) (by simp) (by simp) _ A976 F976_value F976_coder f978 (Nat.ne_of_lt (Nat.lt_of_lt_of_eq V974.lt g976.symm)) cs hcs (own_sta_keep S0 O976.1 own_ns0) (own_sta_keep S2 O976.1 own_ns0) (own_sta_keep S3 O976.1 own_ns0) (own_sta_keep S4 O976.1 own_ns0)) (W := 1) (by decide) (by decide) (by rw [hml]; rfl) (lenOf pd_26 rfl) (Nat.le_of_eq rfl) (hb hby at_256) (by decide) (by decide) rfl ?_
    rintro T979 v979 L979 X979 ⟨rfl, V979, cd979, bs979, gU979, hO979, Fv979, Fc979, A979, hs979⟩
    have e979 : T979.heap = T979.heap := rfl
    have O979 := O976.call hO979 (allS (Or.inr ge_b976) all0)
    have HC980 := HC977.trans (CHr.keep hO979.1 (own_all1 (own_safe_blank hZ.alike A976 F976_value)) HC977.1)
    have f981 := A976.keep hO979.1
    have f982 := (((((A_R.ext E710).other W712 (Nat.ne_of_lt (Nat.lt_of_lt_of_eq A_R.lt g710.symm))).other W714 (Nat.ne_of_lt (Nat.lt_of_lt_of_eq A_R.lt g710.symm))).other W716 (Nat.ne_of_lt (Nat.lt_of_lt_of_eq A_R.lt g710.symm))).other W718 (Nat.ne_of_lt (Nat.lt_of_lt_of_eq A_R.lt g710.symm))).other W720 (Nat.ne_of_lt (Nat.lt_of_lt_of_eq A_R.lt g710.symm))
    have f983 := ((((f982.ext E962).other W965 (Nat.ne_of_lt (Nat.lt_of_lt_of_eq f982.lt g962.symm))).other W968 (Nat.ne_of_lt (Nat.lt_of_lt_of_eq f982.lt g962.symm))).other W971 (Nat.ne_of_lt (Nat.lt_of_lt_of_eq f982.lt g962.symm))).other W974 (Nat.ne_of_lt (Nat.lt_of_lt_of_eq f982.lt g962.symm))
    have f984 := ((((((((((((A_R.ext E710).other W712 (Nat.ne_of_lt (Nat.lt_of_lt_of_eq A_R.lt g710.symm))).other W714 (Nat.ne_of_lt (Nat.lt_of_lt_of_eq A_R.lt g710.symm))).other W716 (Nat.ne_of_lt (Nat.lt_of_lt_of_eq A_R.lt g710.symm))).other W718 (Nat.ne_of_lt (Nat.lt_of_lt_of_eq A_R.lt g710.symm))).other W720 (Nat.ne_of_lt (Nat.lt_of_lt_of_eq A_R.lt g710.symm))).ext E962).other W965 (Nat.ne_of_lt (Nat.lt_of_lt_of_eq f982.lt g962.symm))).other W968 (Nat.ne_of_lt (Nat.lt_of_lt_of_eq f982.lt g962.symm))).other W971 (Nat.ne_of_lt (Nat.lt_of_lt_of_eq f982.lt g962.symm))).other W974 (Nat.ne_of_lt (Nat.lt_of_lt_of_eq f982.lt g962.symm))).ext E976).keep hO979.1 (ninS (Nat.ne_of_lt (Nat.lt_of_lt_of_eq f983.lt g976.symm)) nin0)
    refine Ends.callSH X979 hx hZ hown (own_w hw 25 rfl) (own_w hw 26 rfl) (own_w hw 27 rfl) (own_w hw 28 rfl) (by decide) (argsL := [(.ref b976)]) (rest := []) e979 (Nat.zero_le _) (own_EW hw) HC980.1 (rm4 l Z a0 hw b976 V979 cd979 bs979 [u0, u1, u2, u3] hs979 (by simp) rr _ f981 Fv979 Fc979 A979 cs hcs (own_sta_keep S0 O979.1 own_ns0) fv hfv (own_sta_keep S1 O979.1 own_ns0) (own_sta_keep S2 O979.1 own_ns0) (own_sta_keep S3 O979.1 own_ns0) (own_sta_keep S4 O979.1 own_ns0) (own_sta_keep SR O979.1 own_ns0) f984) (W := 0) (by decide) (by decide) (by rw [hml]; rfl) (lenOf pd_27 rfl) (Nat.le_of_eq rfl) (hb hby at_259) (by decide) (by decide) rfl ?_
    rintro s T985 v985 L985 X985 hc985 hZ hown ⟨o985, Uu985, Tt985, Pp985, rfl, go985, hO985, AT985, ET985, Eo985, Fu985, Ft985, Fp985, AU985, AP985⟩
    have e985 : T985.heap = T985.heap := rfl
    have O985 := O979.call hO985 all0
    have HC986 := HC980.trans hc985
    have hg985 : (own_go (own_gtI [own_Rf u0, own_Rf u1, own_Rf u2, own_Rf u3]) 3 4).length = 3 := own_go_len _ _ _
    have AP985 : Ary Z _ Pp985 .int ((own_ints (own_go (own_gtI [own_Rf u0, own_Rf u1, own_Rf u2, own_Rf u3]) 3 4)).map Value.int) := AP985
    refine E.astore (q := 264) (l' := #[.val (.int nn), .val (.int p0), .val (.int p1), .val (.int p2), .val (.int p3), .val (.int p4), .val (.int (4 : Int32)), .val (.ref b710), .val (.ref b962), .val (.ref o985), .unset, .unset, .unset]) X985 hx (hb hby at_262) rfl rfl ?_
    refine E.aload (q := 266) X985 hx (hb hby at_264) rfl rfl ?_
    refine Ends.callV X985 hx hZ hown (own_w hw 87 rfl) (own_w hw 88 rfl) (own_w hw 90 rfl) (own_w hw 89 rfl) (own_w hw 27 rfl) (own_w hw 91 rfl) (by decide) (argsL := []) (rest := []) e985 Eo985 (rm14 l Z a0 hw o985 Uu985 [u0, u1, u2, u3] _ Fu985 AU985) (W := 0) (by decide) (by decide) (by rw [hml]; rfl) (lenOf pd_16 rfl) (Nat.le_of_eq rfl) (hb hby at_266) (by decide) (by decide) rfl ?_
    rintro T987 v987 L987 X987 ⟨rfl, e987, rfl⟩
    rw [List.append_nil] at X987
    show Ends (some (CHr Z own_EL vm0 h0)) p e below s _ _ _ T987 (mkF m 269 #[.val (.int nn), .val (.int p0), .val (.int p1), .val (.int p2), .val (.int p3), .val (.int p4), .val (.int (4 : Int32)), .val (.ref b710), .val (.ref b962), .val (.ref o985), .unset, .unset, .unset] [(.int (4 : Int32))])
    refine E.iload (q := 271) X987 hx (hb hby at_269) rfl ?_
    refine E.icmpY (q := 276) X987 hx (hb hby at_271) (XT.ii_eq_t (by decide)) ?_
    refine E.iload (q := 278) X987 hx (hb hby at_276) rfl ?_
    refine E.ifN (q := 281) X987 hx (hb hby at_278) (XT.i0_le_f (by decide)) ?_
    refine E.aload (q := 283) X987 hx (hb hby at_281) rfl rfl ?_
    refine E.iconst (q := 284) (v := (0 : Int32)) X987 hx (hb hby at_283) rfl ?_
    refine Ends.callV X987 hx hZ hown (own_w hw 166 rfl) (own_w hw 167 rfl) (own_w hw 169 rfl) (own_w hw 168 rfl) (own_w hw 27 rfl) (own_w hw 170 rfl) (by decide) (argsL := [(.int (0 : Int32))]) (rest := []) e987 Eo985 (rm28 l Z a0 hw o985 Uu985 0 u0 [u0, u1, u2, u3] rfl _ Fu985 AU985) (W := 0) (by decide) (by decide) (by rw [hml]; rfl) (lenOf pd_7 rfl) (Nat.le_of_eq rfl) (hb hby at_284) (by decide) (by decide) rfl ?_
    rintro T988 v988 L988 X988 ⟨rfl, e988, rfl⟩
    rw [List.append_nil] at X988
    refine E.aload (q := 289) X988 hx (hb hby at_287) rfl rfl ?_
    refine E.iconst (q := 290) (v := (0 : Int32)) X988 hx (hb hby at_289) rfl ?_
    have f989 := f973.other W974 (Nat.ne_of_lt (Nat.lt_of_lt_of_eq V720.lt g962.symm))
    have f990 := (((f973.other W974 (Nat.ne_of_lt (Nat.lt_of_lt_of_eq V720.lt g962.symm))).ext E976).keep hO979.1 (ninS (Nat.ne_of_lt (Nat.lt_of_lt_of_eq f989.lt g976.symm)) nin0)).keep hO985.1 nin0
    refine Ends.ild X988 hx hZ e988 f990 (i := 0) rfl rfl (hb hby at_290) ?_
    refine E.icmpY (q := 296) X988 hx (hb hby at_291) (XT.ii_eq_t rfl) ?_
    refine E.iload (q := 298) X988 hx (hb hby at_296) rfl ?_
    refine E.iconst (q := 299) (v := (1 : Int32)) X988 hx (hb hby at_298) rfl ?_
    refine E.icmpN (q := 302) X988 hx (hb hby at_299) (XT.ii_le_f (by decide)) ?_
    refine E.aload (q := 304) X988 hx (hb hby at_302) rfl rfl ?_
    refine E.iconst (q := 305) (v := (1 : Int32)) X988 hx (hb hby at_304) rfl ?_
    refine Ends.callV X988 hx hZ hown (own_w hw 166 rfl) (own_w hw 167 rfl) (own_w hw 169 rfl) (own_w hw 168 rfl) (own_w hw 27 rfl) (own_w hw 170 rfl) (by decide) (argsL := [(.int (1 : Int32))]) (rest := []) e988 Eo985 (rm28 l Z a0 hw o985 Uu985 1 u1 [u0, u1, u2, u3] rfl _ Fu985 AU985) (W := 0) (by decide) (by decide) (by rw [hml]; rfl) (lenOf pd_7 rfl) (Nat.le_of_eq rfl) (hb hby at_305) (by decide) (by decide) rfl ?_
    rintro T991 v991 L991 X991 ⟨rfl, e991, rfl⟩
    rw [List.append_nil] at X991
    refine E.aload (q := 310) X991 hx (hb hby at_308) rfl rfl ?_
    refine E.iconst (q := 311) (v := (1 : Int32)) X991 hx (hb hby at_310) rfl ?_
    refine Ends.ild X991 hx hZ e991 f990 (i := 1) rfl rfl (hb hby at_311) ?_
    refine E.icmpY (q := 317) X991 hx (hb hby at_312) (XT.ii_eq_t rfl) ?_
    refine E.iload (q := 319) X991 hx (hb hby at_317) rfl ?_
    refine E.iconst (q := 320) (v := (2 : Int32)) X991 hx (hb hby at_319) rfl ?_
    refine E.icmpN (q := 323) X991 hx (hb hby at_320) (XT.ii_le_f (by decide)) ?_
    refine E.aload (q := 325) X991 hx (hb hby at_323) rfl rfl ?_
    refine E.iconst (q := 326) (v := (2 : Int32)) X991 hx (hb hby at_325) rfl ?_
    refine Ends.callV X991 hx hZ hown (own_w hw 166 rfl) (own_w hw 167 rfl) (own_w hw 169 rfl) (own_w hw 168 rfl) (own_w hw 27 rfl) (own_w hw 170 rfl) (by decide) (argsL := [(.int (2 : Int32))]) (rest := []) e991 Eo985 (rm28 l Z a0 hw o985 Uu985 2 u2 [u0, u1, u2, u3] rfl _ Fu985 AU985) (W := 0) (by decide) (by decide) (by rw [hml]; rfl) (lenOf pd_7 rfl) (Nat.le_of_eq rfl) (hb hby at_326) (by decide) (by decide) rfl ?_
    rintro T992 v992 L992 X992 ⟨rfl, e992, rfl⟩
    rw [List.append_nil] at X992
    refine E.aload (q := 331) X992 hx (hb hby at_329) rfl rfl ?_
    refine E.iconst (q := 332) (v := (2 : Int32)) X992 hx (hb hby at_331) rfl ?_
    refine Ends.ild X992 hx hZ e992 f990 (i := 2) rfl rfl (hb hby at_332) ?_
    refine E.icmpY (q := 338) X992 hx (hb hby at_333) (XT.ii_eq_t rfl) ?_
    refine E.iload (q := 340) X992 hx (hb hby at_338) rfl ?_
    refine E.iconst (q := 341) (v := (3 : Int32)) X992 hx (hb hby at_340) rfl ?_
    refine E.icmpN (q := 344) X992 hx (hb hby at_341) (XT.ii_le_f (by decide)) ?_
    refine E.aload (q := 346) X992 hx (hb hby at_344) rfl rfl ?_
    refine E.iconst (q := 347) (v := (3 : Int32)) X992 hx (hb hby at_346) rfl ?_
    refine Ends.callV X992 hx hZ hown (own_w hw 166 rfl) (own_w hw 167 rfl) (own_w hw 169 rfl) (own_w hw 168 rfl) (own_w hw 27 rfl) (own_w hw 170 rfl) (by decide) (argsL := [(.int (3 : Int32))]) (rest := []) e992 Eo985 (rm28 l Z a0 hw o985 Uu985 3 u3 [u0, u1, u2, u3] rfl _ Fu985 AU985) (W := 0) (by decide) (by decide) (by rw [hml]; rfl) (lenOf pd_7 rfl) (Nat.le_of_eq rfl) (hb hby at_347) (by decide) (by decide) rfl ?_
    rintro T993 v993 L993 X993 ⟨rfl, e993, rfl⟩
    rw [List.append_nil] at X993
    refine E.aload (q := 352) X993 hx (hb hby at_350) rfl rfl ?_
    refine E.iconst (q := 353) (v := (3 : Int32)) X993 hx (hb hby at_352) rfl ?_
    refine Ends.ild X993 hx hZ e993 f990 (i := 3) rfl rfl (hb hby at_353) ?_
    refine E.icmpY (q := 359) X993 hx (hb hby at_354) (XT.ii_eq_t rfl) ?_
    refine E.iload (q := 361) X993 hx (hb hby at_359) rfl ?_
    refine E.iconst (q := 362) (v := (4 : Int32)) X993 hx (hb hby at_361) rfl ?_
    refine E.icmpY (q := 380) X993 hx (hb hby at_362) (XT.ii_le_t (by decide)) ?_
    refine E.aload (q := 382) X993 hx (hb hby at_380) rfl rfl ?_
    refine Ends.callV X993 hx hZ hown (own_w hw 92 rfl) (own_w hw 93 rfl) (own_w hw 95 rfl) (own_w hw 94 rfl) (own_w hw 27 rfl) (own_w hw 96 rfl) (by decide) (argsL := []) (rest := []) e993 Eo985 (rm15 l Z a0 hw o985 Tt985 (own_ints (own_kmp [u0, u1, u2, u3])) (by rw [own_ints_len, own_kmp_len]; simp) _ Ft985 AT985 ET985) (W := 0) (by decide) (by decide) (by rw [hml]; rfl) (lenOf pd_28 rfl) (Nat.le_of_eq rfl) (hb hby at_382) (by decide) (by decide) rfl ?_
    rintro T994 v994 L994 X994 ⟨b994, rfl, gb994, hO994, AC994⟩
    have e994 : T994.heap = T994.heap := rfl
    have O994 := O985.call hO994 all0
    have HC995 := HC986.trans (CHr.keep hO994.1 (own_all0) HC986.1)
    refine E.astore (q := 387) (l' := #[.val (.int nn), .val (.int p0), .val (.int p1), .val (.int p2), .val (.int p3), .val (.int p4), .val (.int (4 : Int32)), .val (.ref b710), .val (.ref b962), .val (.ref o985), .val (.ref b994), .unset, .unset]) X994 hx (hb hby at_385) rfl rfl ?_
    refine E.aload (q := 389) X994 hx (hb hby at_387) rfl rfl ?_
    refine Ends.alen X994 hx hZ e994 AC994 (hb hby at_389) (n := (4 : Int32)) (by rw [List.length_map, own_ints_len, own_kmp_len]; rfl) ?_
    refine E.iload (q := 392) X994 hx (hb hby at_390) rfl ?_
    refine E.icmpY (q := 397) X994 hx (hb hby at_392) (XT.ii_eq_t (by decide)) ?_
    refine E.iload (q := 399) X994 hx (hb hby at_397) rfl ?_
    refine E.ifN (q := 402) X994 hx (hb hby at_399) (XT.i0_le_f (by decide)) ?_
    refine E.aload (q := 404) X994 hx (hb hby at_402) rfl rfl ?_
    refine E.iconst (q := 405) (v := (0 : Int32)) X994 hx (hb hby at_404) rfl ?_
    refine Ends.ild X994 hx hZ e994 AC994 (i := 0) (v := .int (Int32.ofNat (own_ref5 [u0, u1, u2, u3, u4] 0))) rfl (by rw [List.getElem?_map, (show (own_ints (own_kmp [u0, u1, u2, u3]))[0]? = some (Int32.ofNat (own_ref5 [u0, u1, u2, u3, u4] 0)) from own_ckat (own_law5 u0 u1 u2 u3 u4 (n := 4) (i := 0) (by decide) (by decide)))]; rfl) (hb hby at_405) ?_
    refine E.aload (q := 408) X994 hx (hb hby at_406) rfl rfl ?_
    refine E.iconst (q := 409) (v := (0 : Int32)) X994 hx (hb hby at_408) rfl ?_
    have f996 := f990.keep hO994.1 nin0
    refine Ends.callS X994 hx hZ hown (own_w hw 171 rfl) (own_w hw 172 rfl) (own_w hw 108 rfl) (own_w hw 173 rfl) (by decide) (argsL := [(.ref b710), (.int (0 : Int32))]) (rest := [(.int (Int32.ofNat (own_ref5 [u0, u1, u2, u3, u4] 0)))]) e994 (rmBr0 l Z a0 hw b710 u0 u1 u2 u3 u4 _ f996) (W := 1) (by decide) (by decide) (by rw [hml]; rfl) (lenOf pd_30 rfl) (Nat.le_of_eq rfl) (hb hby at_409) (by decide) (by decide) rfl ?_
    rintro T997 v997 L997 X997 ⟨rfl, e997, rfl⟩
    rw [List.append_nil] at X997
    refine E.icmpY (q := 417) X997 hx (hb hby at_412) (XT.ii_eq_t rfl) ?_
    refine E.iload (q := 419) X997 hx (hb hby at_417) rfl ?_
    refine E.iconst (q := 420) (v := (1 : Int32)) X997 hx (hb hby at_419) rfl ?_
    refine E.icmpN (q := 423) X997 hx (hb hby at_420) (XT.ii_le_f (by decide)) ?_
    refine E.aload (q := 425) X997 hx (hb hby at_423) rfl rfl ?_
    refine E.iconst (q := 426) (v := (1 : Int32)) X997 hx (hb hby at_425) rfl ?_
    refine Ends.ild X997 hx hZ e997 AC994 (i := 1) (v := .int (Int32.ofNat (own_ref5 [u0, u1, u2, u3, u4] 1))) rfl (by rw [List.getElem?_map, (show (own_ints (own_kmp [u0, u1, u2, u3]))[1]? = some (Int32.ofNat (own_ref5 [u0, u1, u2, u3, u4] 1)) from own_ckat (own_law5 u0 u1 u2 u3 u4 (n := 4) (i := 1) (by decide) (by decide)))]; rfl) (hb hby at_426) ?_
    refine E.aload (q := 429) X997 hx (hb hby at_427) rfl rfl ?_
    refine E.iconst (q := 430) (v := (1 : Int32)) X997 hx (hb hby at_429) rfl ?_
    refine Ends.callS X997 hx hZ hown (own_w hw 171 rfl) (own_w hw 172 rfl) (own_w hw 108 rfl) (own_w hw 173 rfl) (by decide) (argsL := [(.ref b710), (.int (1 : Int32))]) (rest := [(.int (Int32.ofNat (own_ref5 [u0, u1, u2, u3, u4] 1)))]) e997 (rmBr1 l Z a0 hw b710 u0 u1 u2 u3 u4 _ f996) (W := 1) (by decide) (by decide) (by rw [hml]; rfl) (lenOf pd_30 rfl) (Nat.le_of_eq rfl) (hb hby at_430) (by decide) (by decide) rfl ?_
    rintro T998 v998 L998 X998 ⟨rfl, e998, rfl⟩
    rw [List.append_nil] at X998
    refine E.icmpY (q := 438) X998 hx (hb hby at_433) (XT.ii_eq_t rfl) ?_
    refine E.iload (q := 440) X998 hx (hb hby at_438) rfl ?_
    refine E.iconst (q := 441) (v := (2 : Int32)) X998 hx (hb hby at_440) rfl ?_
    refine E.icmpN (q := 444) X998 hx (hb hby at_441) (XT.ii_le_f (by decide)) ?_
    refine E.aload (q := 446) X998 hx (hb hby at_444) rfl rfl ?_
    refine E.iconst (q := 447) (v := (2 : Int32)) X998 hx (hb hby at_446) rfl ?_
    refine Ends.ild X998 hx hZ e998 AC994 (i := 2) (v := .int (Int32.ofNat (own_ref5 [u0, u1, u2, u3, u4] 2))) rfl (by rw [List.getElem?_map, (show (own_ints (own_kmp [u0, u1, u2, u3]))[2]? = some (Int32.ofNat (own_ref5 [u0, u1, u2, u3, u4] 2)) from own_ckat (own_law5 u0 u1 u2 u3 u4 (n := 4) (i := 2) (by decide) (by decide)))]; rfl) (hb hby at_447) ?_
    refine E.aload (q := 450) X998 hx (hb hby at_448) rfl rfl ?_
    refine E.iconst (q := 451) (v := (2 : Int32)) X998 hx (hb hby at_450) rfl ?_
    refine Ends.callS X998 hx hZ hown (own_w hw 171 rfl) (own_w hw 172 rfl) (own_w hw 108 rfl) (own_w hw 173 rfl) (by decide) (argsL := [(.ref b710), (.int (2 : Int32))]) (rest := [(.int (Int32.ofNat (own_ref5 [u0, u1, u2, u3, u4] 2)))]) e998 (rmBr2 l Z a0 hw b710 u0 u1 u2 u3 u4 _ f996) (W := 1) (by decide) (by decide) (by rw [hml]; rfl) (lenOf pd_30 rfl) (Nat.le_of_eq rfl) (hb hby at_451) (by decide) (by decide) rfl ?_
    rintro T999 v999 L999 X999 ⟨rfl, e999, rfl⟩
    rw [List.append_nil] at X999
    refine E.icmpY (q := 459) X999 hx (hb hby at_454) (XT.ii_eq_t rfl) ?_
    refine E.iload (q := 461) X999 hx (hb hby at_459) rfl ?_
    refine E.iconst (q := 462) (v := (3 : Int32)) X999 hx (hb hby at_461) rfl ?_
    refine E.icmpN (q := 465) X999 hx (hb hby at_462) (XT.ii_le_f (by decide)) ?_
    refine E.aload (q := 467) X999 hx (hb hby at_465) rfl rfl ?_
    refine E.iconst (q := 468) (v := (3 : Int32)) X999 hx (hb hby at_467) rfl ?_
    refine Ends.ild X999 hx hZ e999 AC994 (i := 3) (v := .int (Int32.ofNat (own_ref5 [u0, u1, u2, u3, u4] 3))) rfl (by rw [List.getElem?_map, (show (own_ints (own_kmp [u0, u1, u2, u3]))[3]? = some (Int32.ofNat (own_ref5 [u0, u1, u2, u3, u4] 3)) from own_ckat (own_law5 u0 u1 u2 u3 u4 (n := 4) (i := 3) (by decide) (by decide)))]; rfl) (hb hby at_468) ?_
    refine E.aload (q := 471) X999 hx (hb hby at_469) rfl rfl ?_
    refine E.iconst (q := 472) (v := (3 : Int32)) X999 hx (hb hby at_471) rfl ?_
    refine Ends.callS X999 hx hZ hown (own_w hw 171 rfl) (own_w hw 172 rfl) (own_w hw 108 rfl) (own_w hw 173 rfl) (by decide) (argsL := [(.ref b710), (.int (3 : Int32))]) (rest := [(.int (Int32.ofNat (own_ref5 [u0, u1, u2, u3, u4] 3)))]) e999 (rmBr3 l Z a0 hw b710 u0 u1 u2 u3 u4 _ f996) (W := 1) (by decide) (by decide) (by rw [hml]; rfl) (lenOf pd_30 rfl) (Nat.le_of_eq rfl) (hb hby at_472) (by decide) (by decide) rfl ?_
    rintro T1000 v1000 L1000 X1000 ⟨rfl, e1000, rfl⟩
    rw [List.append_nil] at X1000
    refine E.icmpY (q := 480) X1000 hx (hb hby at_475) (XT.ii_eq_t rfl) ?_
    refine E.iload (q := 482) X1000 hx (hb hby at_480) rfl ?_
    refine E.iconst (q := 483) (v := (4 : Int32)) X1000 hx (hb hby at_482) rfl ?_
    refine E.icmpY (q := 501) X1000 hx (hb hby at_483) (XT.ii_le_t (by decide)) ?_
    refine E.iconst (q := 502) (v := (5 : Int32)) X1000 hx (hb hby at_501) rfl ?_
    refine Ends.newA X1000 hx hZ (own_w hw 1 rfl) e1000 (hb hby at_502) (N := 5) rfl (by decide) (by decide) (by decide) ?_
    intro T1001 h1001 b1001 g1001 X1001 e1001 E1001 A1001
    have ge_b1001 : h0.size ≤ b1001 := Nat.le_trans O994.le (Nat.le_of_eq g1001.symm)
    have O1001 := O994.ext E1001
    have HC1002 := HC995.trans (CHr.ext E1001 HC995.1)
    have V1001 : Ary Z h1001 b1001 .int [(.int (0 : Int32)), (.int (0 : Int32)), (.int (0 : Int32)), (.int (0 : Int32)), (.int (0 : Int32))] := A1001
    refine E.astore (q := 506) (l' := #[.val (.int nn), .val (.int p0), .val (.int p1), .val (.int p2), .val (.int p3), .val (.int p4), .val (.int (4 : Int32)), .val (.ref b710), .val (.ref b962), .val (.ref o985), .val (.ref b994), .val (.ref b1001), .unset]) X1001 hx (hb hby at_504) rfl rfl ?_
    refine E.aload (q := 508) X1001 hx (hb hby at_506) rfl rfl ?_
    refine E.iconst (q := 509) (v := (0 : Int32)) X1001 hx (hb hby at_508) rfl ?_
    refine E.aload (q := 511) X1001 hx (hb hby at_509) rfl rfl ?_
    refine E.iconst (q := 512) (v := (0 : Int32)) X1001 hx (hb hby at_511) rfl ?_
    have f1003 := f996.ext E1001
    refine Ends.ild X1001 hx hZ e1001 f1003 (i := 0) rfl rfl (hb hby at_512) ?_
    refine Ends.callS X1001 hx hZ hown (own_w hw 106 rfl) (own_w hw 107 rfl) (own_w hw 108 rfl) (own_w hw 109 rfl) (by decide) (argsL := [(.int u0)]) (rest := [(.int (0 : Int32)), (.ref b1001)]) e1001 (rm16 l Z a0 hw u0 _) (W := 2) (by decide) (by decide) (by rw [hml]; rfl) (lenOf pd_7 rfl) (Nat.le_of_eq rfl) (hb hby at_513) (by decide) (by decide) rfl ?_
    rintro T1004 v1004 L1004 X1004 ⟨rfl, e1004, rfl⟩
    rw [List.append_nil] at X1004
    refine Ends.ist X1004 hx hZ e1004 V1001 (i := 0) rfl (show 0 < 5 from by decide) (hb hby at_516) ?_
    intro T1005 h1005 X1005 e1005 W1005 V1005
    have V1005 : Ary Z h1005 b1001 .int [(.int (own_Rf u0)), (.int (0 : Int32)), (.int (0 : Int32)), (.int (0 : Int32)), (.int (0 : Int32))] := V1005
    have O1005 := O1001.wr W1005 (Or.inr ge_b1001)
    have HC1006 := HC1002.trans (CHr.wr W1005 (own_safe_ary hZ.alike V1001 (by decide)) HC1002.1)
    refine E.aload (q := 519) X1005 hx (hb hby at_517) rfl rfl ?_
    refine E.iconst (q := 520) (v := (1 : Int32)) X1005 hx (hb hby at_519) rfl ?_
    refine E.aload (q := 522) X1005 hx (hb hby at_520) rfl rfl ?_
    refine E.iconst (q := 523) (v := (1 : Int32)) X1005 hx (hb hby at_522) rfl ?_
    have f1007 := f1003.other W1005 (Nat.ne_of_lt (Nat.lt_of_lt_of_eq f996.lt g1001.symm))
    refine Ends.ild X1005 hx hZ e1005 f1007 (i := 1) rfl rfl (hb hby at_523) ?_
    refine Ends.callS X1005 hx hZ hown (own_w hw 106 rfl) (own_w hw 107 rfl) (own_w hw 108 rfl) (own_w hw 109 rfl) (by decide) (argsL := [(.int u1)]) (rest := [(.int (1 : Int32)), (.ref b1001)]) e1005 (rm16 l Z a0 hw u1 _) (W := 2) (by decide) (by decide) (by rw [hml]; rfl) (lenOf pd_7 rfl) (Nat.le_of_eq rfl) (hb hby at_524) (by decide) (by decide) rfl ?_
    rintro T1008 v1008 L1008 X1008 ⟨rfl, e1008, rfl⟩
    rw [List.append_nil] at X1008
    refine Ends.ist X1008 hx hZ e1008 V1005 (i := 1) rfl (show 1 < 5 from by decide) (hb hby at_527) ?_
    intro T1009 h1009 X1009 e1009 W1009 V1009
    have V1009 : Ary Z h1009 b1001 .int [(.int (own_Rf u0)), (.int (own_Rf u1)), (.int (0 : Int32)), (.int (0 : Int32)), (.int (0 : Int32))] := V1009
    have O1009 := O1005.wr W1009 (Or.inr ge_b1001)
    have HC1010 := HC1006.trans (CHr.wr W1009 (own_safe_ary hZ.alike V1005 (by decide)) HC1006.1)
    refine E.aload (q := 530) X1009 hx (hb hby at_528) rfl rfl ?_
    refine E.iconst (q := 531) (v := (2 : Int32)) X1009 hx (hb hby at_530) rfl ?_
    refine E.aload (q := 533) X1009 hx (hb hby at_531) rfl rfl ?_
    refine E.iconst (q := 534) (v := (2 : Int32)) X1009 hx (hb hby at_533) rfl ?_
    have f1011 := f1007.other W1009 (Nat.ne_of_lt (Nat.lt_of_lt_of_eq f996.lt g1001.symm))
    refine Ends.ild X1009 hx hZ e1009 f1011 (i := 2) rfl rfl (hb hby at_534) ?_
    refine Ends.callS X1009 hx hZ hown (own_w hw 106 rfl) (own_w hw 107 rfl) (own_w hw 108 rfl) (own_w hw 109 rfl) (by decide) (argsL := [(.int u2)]) (rest := [(.int (2 : Int32)), (.ref b1001)]) e1009 (rm16 l Z a0 hw u2 _) (W := 2) (by decide) (by decide) (by rw [hml]; rfl) (lenOf pd_7 rfl) (Nat.le_of_eq rfl) (hb hby at_535) (by decide) (by decide) rfl ?_
    rintro T1012 v1012 L1012 X1012 ⟨rfl, e1012, rfl⟩
    rw [List.append_nil] at X1012
    refine Ends.ist X1012 hx hZ e1012 V1009 (i := 2) rfl (show 2 < 5 from by decide) (hb hby at_538) ?_
    intro T1013 h1013 X1013 e1013 W1013 V1013
    have V1013 : Ary Z h1013 b1001 .int [(.int (own_Rf u0)), (.int (own_Rf u1)), (.int (own_Rf u2)), (.int (0 : Int32)), (.int (0 : Int32))] := V1013
    have O1013 := O1009.wr W1013 (Or.inr ge_b1001)
    have HC1014 := HC1010.trans (CHr.wr W1013 (own_safe_ary hZ.alike V1009 (by decide)) HC1010.1)
    refine E.aload (q := 541) X1013 hx (hb hby at_539) rfl rfl ?_
    refine E.iconst (q := 542) (v := (3 : Int32)) X1013 hx (hb hby at_541) rfl ?_
    refine E.aload (q := 544) X1013 hx (hb hby at_542) rfl rfl ?_
    refine E.iconst (q := 545) (v := (3 : Int32)) X1013 hx (hb hby at_544) rfl ?_
    have f1015 := f1011.other W1013 (Nat.ne_of_lt (Nat.lt_of_lt_of_eq f996.lt g1001.symm))
    refine Ends.ild X1013 hx hZ e1013 f1015 (i := 3) rfl rfl (hb hby at_545) ?_
    refine Ends.callS X1013 hx hZ hown (own_w hw 106 rfl) (own_w hw 107 rfl) (own_w hw 108 rfl) (own_w hw 109 rfl) (by decide) (argsL := [(.int u3)]) (rest := [(.int (3 : Int32)), (.ref b1001)]) e1013 (rm16 l Z a0 hw u3 _) (W := 2) (by decide) (by decide) (by rw [hml]; rfl) (lenOf pd_7 rfl) (Nat.le_of_eq rfl) (hb hby at_546) (by decide) (by decide) rfl ?_
    rintro T1016 v1016 L1016 X1016 ⟨rfl, e1016, rfl⟩
    rw [List.append_nil] at X1016
    refine Ends.ist X1016 hx hZ e1016 V1013 (i := 3) rfl (show 3 < 5 from by decide) (hb hby at_549) ?_
    intro T1017 h1017 X1017 e1017 W1017 V1017
    have V1017 : Ary Z h1017 b1001 .int [(.int (own_Rf u0)), (.int (own_Rf u1)), (.int (own_Rf u2)), (.int (own_Rf u3)), (.int (0 : Int32))] := V1017
    have O1017 := O1013.wr W1017 (Or.inr ge_b1001)
    have HC1018 := HC1014.trans (CHr.wr W1017 (own_safe_ary hZ.alike V1013 (by decide)) HC1014.1)
    refine E.aload (q := 552) X1017 hx (hb hby at_550) rfl rfl ?_
    refine E.iconst (q := 553) (v := (4 : Int32)) X1017 hx (hb hby at_552) rfl ?_
    refine E.aload (q := 555) X1017 hx (hb hby at_553) rfl rfl ?_
    refine E.iconst (q := 556) (v := (4 : Int32)) X1017 hx (hb hby at_555) rfl ?_
    have f1019 := f1015.other W1017 (Nat.ne_of_lt (Nat.lt_of_lt_of_eq f996.lt g1001.symm))
    refine Ends.ild X1017 hx hZ e1017 f1019 (i := 4) rfl rfl (hb hby at_556) ?_
    refine Ends.callS X1017 hx hZ hown (own_w hw 106 rfl) (own_w hw 107 rfl) (own_w hw 108 rfl) (own_w hw 109 rfl) (by decide) (argsL := [(.int u4)]) (rest := [(.int (4 : Int32)), (.ref b1001)]) e1017 (rm16 l Z a0 hw u4 _) (W := 2) (by decide) (by decide) (by rw [hml]; rfl) (lenOf pd_7 rfl) (Nat.le_of_eq rfl) (hb hby at_557) (by decide) (by decide) rfl ?_
    rintro T1020 v1020 L1020 X1020 ⟨rfl, e1020, rfl⟩
    rw [List.append_nil] at X1020
    refine Ends.ist X1020 hx hZ e1020 V1017 (i := 4) rfl (show 4 < 5 from by decide) (hb hby at_560) ?_
    intro T1021 h1021 X1021 e1021 W1021 V1021
    have V1021 : Ary Z h1021 b1001 .int [(.int (own_Rf u0)), (.int (own_Rf u1)), (.int (own_Rf u2)), (.int (own_Rf u3)), (.int (own_Rf u4))] := V1021
    have O1021 := O1017.wr W1021 (Or.inr ge_b1001)
    have HC1022 := HC1018.trans (CHr.wr W1021 (own_safe_ary hZ.alike V1017 (by decide)) HC1018.1)
    refine E.aload (q := 563) X1021 hx (hb hby at_561) rfl rfl ?_
    have f1023 := Eo985.keep hO994.1
    have f1024 := ((((((Fp985.keep hO994.1 nin0).ext E1001).other W1005 (Or.inl (Nat.ne_of_lt (Nat.lt_of_lt_of_eq f1023.lt g1001.symm)))).other W1009 (Or.inl (Nat.ne_of_lt (Nat.lt_of_lt_of_eq f1023.lt g1001.symm)))).other W1013 (Or.inl (Nat.ne_of_lt (Nat.lt_of_lt_of_eq f1023.lt g1001.symm)))).other W1017 (Or.inl (Nat.ne_of_lt (Nat.lt_of_lt_of_eq f1023.lt g1001.symm)))).other W1021 (Or.inl (Nat.ne_of_lt (Nat.lt_of_lt_of_eq f1023.lt g1001.symm)))
    have f1025 := (((((f1023.ext E1001).wr W1005).wr W1009).wr W1013).wr W1017).wr W1021
    refine Ends.callV X1021 hx hZ hown (own_w hw 110 rfl) (own_w hw 111 rfl) (own_w hw 113 rfl) (own_w hw 112 rfl) (own_w hw 27 rfl) (own_w hw 114 rfl) (by decide) (argsL := []) (rest := []) e1021 f1025 (rm17 l Z a0 hw o985 Pp985 _ f1024) (W := 0) (by decide) (by decide) (by rw [hml]; rfl) (lenOf pd_28 rfl) (Nat.le_of_eq rfl) (hb hby at_563) (by decide) (by decide) rfl ?_
    rintro T1026 v1026 L1026 X1026 ⟨rfl, e1026, rfl⟩
    rw [List.append_nil] at X1026
    refine E.astore (q := 568) (l' := #[.val (.int nn), .val (.int p0), .val (.int p1), .val (.int p2), .val (.int p3), .val (.int p4), .val (.int (4 : Int32)), .val (.ref b710), .val (.ref b962), .val (.ref o985), .val (.ref b994), .val (.ref b1001), .val (.ref Pp985)]) X1026 hx (hb hby at_566) rfl rfl ?_
    refine E.aload (q := 570) X1026 hx (hb hby at_568) rfl rfl ?_
    have f1027 := AP985.keep hO994.1 nin0
    have f1028 := ((((((AP985.keep hO994.1 nin0).ext E1001).other W1005 (Nat.ne_of_lt (Nat.lt_of_lt_of_eq f1027.lt g1001.symm))).other W1009 (Nat.ne_of_lt (Nat.lt_of_lt_of_eq f1027.lt g1001.symm))).other W1013 (Nat.ne_of_lt (Nat.lt_of_lt_of_eq f1027.lt g1001.symm))).other W1017 (Nat.ne_of_lt (Nat.lt_of_lt_of_eq f1027.lt g1001.symm))).other W1021 (Nat.ne_of_lt (Nat.lt_of_lt_of_eq f1027.lt g1001.symm))
    refine Ends.alen X1026 hx hZ e1026 f1028 (hb hby at_570) (n := (3 : Int32)) (by rw [List.length_map, own_ints_len, hg985]; rfl) ?_
    refine E.iconst (q := 572) (v := (3 : Int32)) X1026 hx (hb hby at_571) rfl ?_
    refine E.iload (q := 574) X1026 hx (hb hby at_572) rfl ?_
    refine Ends.callS X1026 hx hZ hown (own_w hw 115 rfl) (own_w hw 72 rfl) (own_w hw 73 rfl) (own_w hw 74 rfl) (by decide) (argsL := [(.int (3 : Int32)), (.int (4 : Int32))]) (rest := [(.int (3 : Int32))]) e1026 (rm12 l Z a0 hw 3 4 (by decide) (by decide) _) (W := 1) (by decide) (by decide) (by rw [hml]; rfl) (lenOf pd_19 rfl) (Nat.le_of_eq rfl) (hb hby at_574) (by decide) (by decide) rfl ?_
    rintro T1029 v1029 L1029 X1029 ⟨rfl, e1029, rfl⟩
    rw [List.append_nil] at X1029
    refine E.icmpY (q := 582) X1029 hx (hb hby at_577) (XT.ii_eq_t (by decide)) ?_
    refine E.aload (q := 584) X1029 hx (hb hby at_582) rfl rfl ?_
    refine E.aload (q := 586) X1029 hx (hb hby at_584) rfl rfl ?_
    refine E.iload (q := 588) X1029 hx (hb hby at_586) rfl ?_
    refine E.iconst (q := 589) (v := (0 : Int32)) X1029 hx (hb hby at_588) rfl ?_
    refine Ends.callS X1029 hx hZ hown (own_w hw 116 rfl) (own_w hw 117 rfl) (own_w hw 108 rfl) (own_w hw 118 rfl) (by decide) (argsL := [(.ref Pp985), (.ref b1001), (.int (4 : Int32)), (.int (0 : Int32))]) (rest := []) e1029 (rmPo0 l Z a0 hw Pp985 b1001 (own_Rf u0) (own_Rf u1) (own_Rf u2) (own_Rf u3) (own_Rf u4) 4 (by decide) (own_ints (own_go (own_gtI [own_Rf u0, own_Rf u1, own_Rf u2, own_Rf u3]) 3 4)) (by rw [own_ints_len, hg985]; decide) (fun _ q => own_ckat (own_probe5 (l := [own_Rf u0, own_Rf u1, own_Rf u2, own_Rf u3, own_Rf u4]) rfl (n := 4) (i := 0) (by decide) (by decide) (by rw [own_ints_len, hg985] at q; exact q))) _ V1021 f1028) (W := 0) (by decide) (by decide) (by rw [hml]; rfl) (lenOf pd_29 rfl) (Nat.le_of_eq rfl) (hb hby at_589) (by decide) (by decide) rfl ?_
    rintro T1030 v1030 L1030 X1030 ⟨rfl, e1030, rfl⟩
    rw [List.append_nil] at X1030
    refine E.ifY (q := 597) X1030 hx (hb hby at_592) (XT.i0_ne_t (by decide)) ?_
    refine E.aload (q := 599) X1030 hx (hb hby at_597) rfl rfl ?_
    refine E.aload (q := 601) X1030 hx (hb hby at_599) rfl rfl ?_
    refine E.iload (q := 603) X1030 hx (hb hby at_601) rfl ?_
    refine E.iconst (q := 604) (v := (1 : Int32)) X1030 hx (hb hby at_603) rfl ?_
    refine Ends.callS X1030 hx hZ hown (own_w hw 116 rfl) (own_w hw 117 rfl) (own_w hw 108 rfl) (own_w hw 118 rfl) (by decide) (argsL := [(.ref Pp985), (.ref b1001), (.int (4 : Int32)), (.int (1 : Int32))]) (rest := []) e1030 (rmPo1 l Z a0 hw Pp985 b1001 (own_Rf u0) (own_Rf u1) (own_Rf u2) (own_Rf u3) (own_Rf u4) 4 (by decide) (own_ints (own_go (own_gtI [own_Rf u0, own_Rf u1, own_Rf u2, own_Rf u3]) 3 4)) (by rw [own_ints_len, hg985]; decide) (fun _ q => own_ckat (own_probe5 (l := [own_Rf u0, own_Rf u1, own_Rf u2, own_Rf u3, own_Rf u4]) rfl (n := 4) (i := 1) (by decide) (by decide) (by rw [own_ints_len, hg985] at q; exact q))) _ V1021 f1028) (W := 0) (by decide) (by decide) (by rw [hml]; rfl) (lenOf pd_29 rfl) (Nat.le_of_eq rfl) (hb hby at_604) (by decide) (by decide) rfl ?_
    rintro T1031 v1031 L1031 X1031 ⟨rfl, e1031, rfl⟩
    rw [List.append_nil] at X1031
    refine E.ifY (q := 612) X1031 hx (hb hby at_607) (XT.i0_ne_t (by decide)) ?_
    refine E.aload (q := 614) X1031 hx (hb hby at_612) rfl rfl ?_
    refine E.aload (q := 616) X1031 hx (hb hby at_614) rfl rfl ?_
    refine E.iload (q := 618) X1031 hx (hb hby at_616) rfl ?_
    refine E.iconst (q := 619) (v := (2 : Int32)) X1031 hx (hb hby at_618) rfl ?_
    refine Ends.callS X1031 hx hZ hown (own_w hw 116 rfl) (own_w hw 117 rfl) (own_w hw 108 rfl) (own_w hw 118 rfl) (by decide) (argsL := [(.ref Pp985), (.ref b1001), (.int (4 : Int32)), (.int (2 : Int32))]) (rest := []) e1031 (rmPo2 l Z a0 hw Pp985 b1001 (own_Rf u0) (own_Rf u1) (own_Rf u2) (own_Rf u3) (own_Rf u4) 4 (by decide) (own_ints (own_go (own_gtI [own_Rf u0, own_Rf u1, own_Rf u2, own_Rf u3]) 3 4)) (by rw [own_ints_len, hg985]; decide) (fun _ q => own_ckat (own_probe5 (l := [own_Rf u0, own_Rf u1, own_Rf u2, own_Rf u3, own_Rf u4]) rfl (n := 4) (i := 2) (by decide) (by decide) (by rw [own_ints_len, hg985] at q; exact q))) _ V1021 f1028) (W := 0) (by decide) (by decide) (by rw [hml]; rfl) (lenOf pd_29 rfl) (Nat.le_of_eq rfl) (hb hby at_619) (by decide) (by decide) rfl ?_
    rintro T1032 v1032 L1032 X1032 ⟨rfl, e1032, rfl⟩
    rw [List.append_nil] at X1032
    refine E.ifY (q := 627) X1032 hx (hb hby at_622) (XT.i0_ne_t (by decide)) ?_
    refine E.aload (q := 629) X1032 hx (hb hby at_627) rfl rfl ?_
    refine E.aload (q := 631) X1032 hx (hb hby at_629) rfl rfl ?_
    refine E.iload (q := 633) X1032 hx (hb hby at_631) rfl ?_
    refine E.iconst (q := 634) (v := (3 : Int32)) X1032 hx (hb hby at_633) rfl ?_
    refine Ends.callS X1032 hx hZ hown (own_w hw 116 rfl) (own_w hw 117 rfl) (own_w hw 108 rfl) (own_w hw 118 rfl) (by decide) (argsL := [(.ref Pp985), (.ref b1001), (.int (4 : Int32)), (.int (3 : Int32))]) (rest := []) e1032 (rmPo3 l Z a0 hw Pp985 b1001 (own_Rf u0) (own_Rf u1) (own_Rf u2) (own_Rf u3) (own_Rf u4) 4 (by decide) (own_ints (own_go (own_gtI [own_Rf u0, own_Rf u1, own_Rf u2, own_Rf u3]) 3 4)) (by rw [own_ints_len, hg985]; decide) (fun _ q => own_ckat (own_probe5 (l := [own_Rf u0, own_Rf u1, own_Rf u2, own_Rf u3, own_Rf u4]) rfl (n := 4) (i := 3) (by decide) (by decide) (by rw [own_ints_len, hg985] at q; exact q))) _ V1021 f1028) (W := 0) (by decide) (by decide) (by rw [hml]; rfl) (lenOf pd_29 rfl) (Nat.le_of_eq rfl) (hb hby at_634) (by decide) (by decide) rfl ?_
    rintro T1033 v1033 L1033 X1033 ⟨rfl, e1033, rfl⟩
    rw [List.append_nil] at X1033
    refine E.ifY (q := 642) X1033 hx (hb hby at_637) (XT.i0_ne_t (by decide)) ?_
    refine E.aload (q := 644) X1033 hx (hb hby at_642) rfl rfl ?_
    refine E.aload (q := 646) X1033 hx (hb hby at_644) rfl rfl ?_
    refine E.iload (q := 648) X1033 hx (hb hby at_646) rfl ?_
    refine E.iconst (q := 649) (v := (4 : Int32)) X1033 hx (hb hby at_648) rfl ?_
    refine Ends.callS X1033 hx hZ hown (own_w hw 116 rfl) (own_w hw 117 rfl) (own_w hw 108 rfl) (own_w hw 118 rfl) (by decide) (argsL := [(.ref Pp985), (.ref b1001), (.int (4 : Int32)), (.int (4 : Int32))]) (rest := []) e1033 (rmPo4 l Z a0 hw Pp985 b1001 (own_Rf u0) (own_Rf u1) (own_Rf u2) (own_Rf u3) (own_Rf u4) 4 (by decide) (own_ints (own_go (own_gtI [own_Rf u0, own_Rf u1, own_Rf u2, own_Rf u3]) 3 4)) (by rw [own_ints_len, hg985]; decide) (fun q => absurd q (by decide)) _ V1021 f1028) (W := 0) (by decide) (by decide) (by rw [hml]; rfl) (lenOf pd_29 rfl) (Nat.le_of_eq rfl) (hb hby at_649) (by decide) (by decide) rfl ?_
    rintro T1034 v1034 L1034 X1034 ⟨rfl, e1034, rfl⟩
    rw [List.append_nil] at X1034
    refine E.ifY (q := 657) X1034 hx (hb hby at_652) (XT.i0_ne_t (by decide)) ?_
    refine E.iconst (q := 658) (v := (1 : Int32)) X1034 hx (hb hby at_657) rfl ?_
    exact Ends.retS X1034 hx hlk hret (by simp) rfl (hb hby at_658) (by decide) (by decide) ⟨⟨rfl, (O1021).fr⟩, by first | exact (Nat.le_trans (Nat.le_trans (Nat.le_trans (Nat.le_trans (Nat.le_trans (Nat.le_trans (Nat.le_trans (Nat.le_refl _) hO994.1.1) E1001.1) (own_wr_le W1005)) (own_wr_le W1009)) (own_wr_le W1013)) (own_wr_le W1017)) (own_wr_le W1021)) | (rw [e1034]; exact (Nat.le_trans (Nat.le_trans (Nat.le_trans (Nat.le_trans (Nat.le_trans (Nat.le_trans (Nat.le_trans (Nat.le_refl _) hO994.1.1) E1001.1) (own_wr_le W1005)) (own_wr_le W1009)) (own_wr_le W1013)) (own_wr_le W1017)) (own_wr_le W1021)))⟩ (hF := own_chret X1034 hZ (own_EW hw) HC1022 (by first | rfl | assumption))
  · refine E.iload (q := 58) X720 hx (hb hby at_56) rfl ?_
    refine E.ifY (q := 69) X720 hx (hb hby at_58) (XT.i0_ne_t (by decide)) ?_
    refine E.iload (q := 71) X720 hx (hb hby at_69) rfl ?_
    refine E.iconst (q := 72) (v := (1 : Int32)) X720 hx (hb hby at_71) rfl ?_
    refine E.icmpY (q := 91) X720 hx (hb hby at_72) (XT.ii_ne_t (by decide)) ?_
    refine E.iload (q := 93) X720 hx (hb hby at_91) rfl ?_
    refine E.iconst (q := 94) (v := (2 : Int32)) X720 hx (hb hby at_93) rfl ?_
    refine E.icmpY (q := 121) X720 hx (hb hby at_94) (XT.ii_ne_t (by decide)) ?_
    refine E.iload (q := 123) X720 hx (hb hby at_121) rfl ?_
    refine E.iconst (q := 124) (v := (3 : Int32)) X720 hx (hb hby at_123) rfl ?_
    refine E.icmpY (q := 159) X720 hx (hb hby at_124) (XT.ii_ne_t (by decide)) ?_
    refine E.iload (q := 161) X720 hx (hb hby at_159) rfl ?_
    refine E.iconst (q := 162) (v := (4 : Int32)) X720 hx (hb hby at_161) rfl ?_
    refine E.icmpY (q := 205) X720 hx (hb hby at_162) (XT.ii_ne_t (by decide)) ?_
    refine E.iconst (q := 206) (v := (5 : Int32)) X720 hx (hb hby at_205) rfl ?_
    refine Ends.newA X720 hx hZ (own_w hw 3 rfl) e720 (hb hby at_206) (N := 5) rfl (by decide) (by decide) (by decide) ?_
    intro T1035 h1035 b1035 g1035 X1035 e1035 E1035 A1035
    have ge_b1035 : h0.size ≤ b1035 := Nat.le_trans O720.le (Nat.le_of_eq g1035.symm)
    have O1035 := O720.ext E1035
    have HC1036 := HC721.trans (CHr.ext E1035 HC721.1)
    have V1035 : Ary Z h1035 b1035 .char [(.int (0 : Int32)), (.int (0 : Int32)), (.int (0 : Int32)), (.int (0 : Int32)), (.int (0 : Int32))] := A1035
    refine E.dup (q := 209) X1035 hx (hb hby at_208) rfl ?_
    refine E.iconst (q := 210) (v := (0 : Int32)) X1035 hx (hb hby at_209) rfl ?_
    refine E.aload (q := 212) X1035 hx (hb hby at_210) rfl rfl ?_
    refine E.iconst (q := 213) (v := (0 : Int32)) X1035 hx (hb hby at_212) rfl ?_
    have f1037 := V720.ext E1035
    refine Ends.ild X1035 hx hZ e1035 f1037 (i := 0) rfl rfl (hb hby at_213) ?_
    refine E.i2c (q := 215) X1035 hx (hb hby at_214) ?_
    refine Ends.cst X1035 hx hZ e1035 V1035 (x' := (u0.toUInt32.toUInt16.toUInt32.toInt32)) (own_nc16 (own_cC u0)) (i := 0) rfl (show 0 < 5 from by decide) (hb hby at_215) ?_
    intro T1038 h1038 X1038 e1038 W1038 V1038
    have V1038 : Ary Z h1038 b1035 .char [(.int (u0.toUInt32.toUInt16.toUInt32.toInt32)), (.int (0 : Int32)), (.int (0 : Int32)), (.int (0 : Int32)), (.int (0 : Int32))] := V1038
    have O1038 := O1035.wr W1038 (Or.inr ge_b1035)
    have HC1039 := HC1036.trans (CHr.wr W1038 (own_safe_ary hZ.alike V1035 (by decide)) HC1036.1)
    refine E.dup (q := 217) X1038 hx (hb hby at_216) rfl ?_
    refine E.iconst (q := 218) (v := (1 : Int32)) X1038 hx (hb hby at_217) rfl ?_
    refine E.aload (q := 220) X1038 hx (hb hby at_218) rfl rfl ?_
    refine E.iconst (q := 221) (v := (1 : Int32)) X1038 hx (hb hby at_220) rfl ?_
    have f1040 := f1037.other W1038 (Nat.ne_of_lt (Nat.lt_of_lt_of_eq V720.lt g1035.symm))
    refine Ends.ild X1038 hx hZ e1038 f1040 (i := 1) rfl rfl (hb hby at_221) ?_
    refine E.i2c (q := 223) X1038 hx (hb hby at_222) ?_
    refine Ends.cst X1038 hx hZ e1038 V1038 (x' := (u1.toUInt32.toUInt16.toUInt32.toInt32)) (own_nc16 (own_cC u1)) (i := 1) rfl (show 1 < 5 from by decide) (hb hby at_223) ?_
    intro T1041 h1041 X1041 e1041 W1041 V1041
    have V1041 : Ary Z h1041 b1035 .char [(.int (u0.toUInt32.toUInt16.toUInt32.toInt32)), (.int (u1.toUInt32.toUInt16.toUInt32.toInt32)), (.int (0 : Int32)), (.int (0 : Int32)), (.int (0 : Int32))] := V1041
    have O1041 := O1038.wr W1041 (Or.inr ge_b1035)
    have HC1042 := HC1039.trans (CHr.wr W1041 (own_safe_ary hZ.alike V1038 (by decide)) HC1039.1)
    refine E.dup (q := 225) X1041 hx (hb hby at_224) rfl ?_
    refine E.iconst (q := 226) (v := (2 : Int32)) X1041 hx (hb hby at_225) rfl ?_
    refine E.aload (q := 228) X1041 hx (hb hby at_226) rfl rfl ?_
    refine E.iconst (q := 229) (v := (2 : Int32)) X1041 hx (hb hby at_228) rfl ?_
    have f1043 := f1040.other W1041 (Nat.ne_of_lt (Nat.lt_of_lt_of_eq V720.lt g1035.symm))
    refine Ends.ild X1041 hx hZ e1041 f1043 (i := 2) rfl rfl (hb hby at_229) ?_
    refine E.i2c (q := 231) X1041 hx (hb hby at_230) ?_
    refine Ends.cst X1041 hx hZ e1041 V1041 (x' := (u2.toUInt32.toUInt16.toUInt32.toInt32)) (own_nc16 (own_cC u2)) (i := 2) rfl (show 2 < 5 from by decide) (hb hby at_231) ?_
    intro T1044 h1044 X1044 e1044 W1044 V1044
    have V1044 : Ary Z h1044 b1035 .char [(.int (u0.toUInt32.toUInt16.toUInt32.toInt32)), (.int (u1.toUInt32.toUInt16.toUInt32.toInt32)), (.int (u2.toUInt32.toUInt16.toUInt32.toInt32)), (.int (0 : Int32)), (.int (0 : Int32))] := V1044
    have O1044 := O1041.wr W1044 (Or.inr ge_b1035)
    have HC1045 := HC1042.trans (CHr.wr W1044 (own_safe_ary hZ.alike V1041 (by decide)) HC1042.1)
    refine E.dup (q := 233) X1044 hx (hb hby at_232) rfl ?_
    refine E.iconst (q := 234) (v := (3 : Int32)) X1044 hx (hb hby at_233) rfl ?_
    refine E.aload (q := 236) X1044 hx (hb hby at_234) rfl rfl ?_
    refine E.iconst (q := 237) (v := (3 : Int32)) X1044 hx (hb hby at_236) rfl ?_
    have f1046 := f1043.other W1044 (Nat.ne_of_lt (Nat.lt_of_lt_of_eq V720.lt g1035.symm))
    refine Ends.ild X1044 hx hZ e1044 f1046 (i := 3) rfl rfl (hb hby at_237) ?_
    refine E.i2c (q := 239) X1044 hx (hb hby at_238) ?_
    refine Ends.cst X1044 hx hZ e1044 V1044 (x' := (u3.toUInt32.toUInt16.toUInt32.toInt32)) (own_nc16 (own_cC u3)) (i := 3) rfl (show 3 < 5 from by decide) (hb hby at_239) ?_
    intro T1047 h1047 X1047 e1047 W1047 V1047
    have V1047 : Ary Z h1047 b1035 .char [(.int (u0.toUInt32.toUInt16.toUInt32.toInt32)), (.int (u1.toUInt32.toUInt16.toUInt32.toInt32)), (.int (u2.toUInt32.toUInt16.toUInt32.toInt32)), (.int (u3.toUInt32.toUInt16.toUInt32.toInt32)), (.int (0 : Int32))] := V1047
    have O1047 := O1044.wr W1047 (Or.inr ge_b1035)
    have HC1048 := HC1045.trans (CHr.wr W1047 (own_safe_ary hZ.alike V1044 (by decide)) HC1045.1)
    refine E.dup (q := 241) X1047 hx (hb hby at_240) rfl ?_
    refine E.iconst (q := 242) (v := (4 : Int32)) X1047 hx (hb hby at_241) rfl ?_
    refine E.aload (q := 244) X1047 hx (hb hby at_242) rfl rfl ?_
    refine E.iconst (q := 245) (v := (4 : Int32)) X1047 hx (hb hby at_244) rfl ?_
    have f1049 := f1046.other W1047 (Nat.ne_of_lt (Nat.lt_of_lt_of_eq V720.lt g1035.symm))
    refine Ends.ild X1047 hx hZ e1047 f1049 (i := 4) rfl rfl (hb hby at_245) ?_
    refine E.i2c (q := 247) X1047 hx (hb hby at_246) ?_
    refine Ends.cst X1047 hx hZ e1047 V1047 (x' := (u4.toUInt32.toUInt16.toUInt32.toInt32)) (own_nc16 (own_cC u4)) (i := 4) rfl (show 4 < 5 from by decide) (hb hby at_247) ?_
    intro T1050 h1050 X1050 e1050 W1050 V1050
    have V1050 : Ary Z h1050 b1035 .char [(.int (u0.toUInt32.toUInt16.toUInt32.toInt32)), (.int (u1.toUInt32.toUInt16.toUInt32.toInt32)), (.int (u2.toUInt32.toUInt16.toUInt32.toInt32)), (.int (u3.toUInt32.toUInt16.toUInt32.toInt32)), (.int (u4.toUInt32.toUInt16.toUInt32.toInt32))] := V1050
    have O1050 := O1047.wr W1050 (Or.inr ge_b1035)
    have HC1051 := HC1048.trans (CHr.wr W1050 (own_safe_ary hZ.alike V1047 (by decide)) HC1048.1)
    refine E.astore (q := 250) (l' := #[.val (.int nn), .val (.int p0), .val (.int p1), .val (.int p2), .val (.int p3), .val (.int p4), .val (.int (5 : Int32)), .val (.ref b710), .val (.ref b1035), .unset, .unset, .unset, .unset]) X1050 hx (hb hby at_248) rfl rfl ?_
    rw [own_nc16 hu0, own_nc16 hu1, own_nc16 hu2, own_nc16 hu3, own_nc16 hu4] at V1050
    refine Ends.newC X1050 hx hZ hown (own_w hw 4 rfl) (own_w hw 5 rfl) (own_w hw 6 rfl) e1050 (hb hby at_250) (by decide) (by decide) ?_
    intro T1052 h1052 b1052 g1052 X1052 e1052 E1052 A1052 D1052
    have ge_b1052 : h0.size ≤ b1052 := Nat.le_trans O1050.le (Nat.le_of_eq g1052.symm)
    have O1052 := O1050.ext E1052
    have HC1053 := HC1051.trans (CHr.ext E1052 HC1051.1)
    have F1052_value : Fld Z h1052 b1052 "java/lang/String" "value" "[B" .null := D1052 (Or.inr (own_w hw 19 rfl)) (ty := (.array .byte)) (by decide)
    have F1052_coder : Fld Z h1052 b1052 "java/lang/String" "coder" "B" (.int (0 : Int32)) := D1052 (Or.inr (own_w hw 20 rfl)) (ty := .byte) (by decide)
    refine E.dup (q := 254) X1052 hx (hb hby at_253) rfl ?_
    refine E.aload (q := 256) X1052 hx (hb hby at_254) rfl rfl ?_
    have f1054 := V1050.ext E1052
    refine Ends.callI X1052 hx hZ hown (own_w hw 7 rfl) (own_w hw 8 rfl) (own_w hw 6 rfl) (own_w hw 9 rfl) rfl (by decide) (argsL := [(.ref b1035)]) (rest := [(.ref b1052)]) e1052 (rmI1_n l Z a0 hw b1052 b1035 [u0, u1, u2, u3, u4] (own_C5 hu0 hu1 hu2 hu3 hu4 5) (by simp) (by simp) _ A1052 F1052_value F1052_coder f1054 (Nat.ne_of_lt (Nat.lt_of_lt_of_eq V1050.lt g1052.symm)) cs hcs (own_sta_keep S0 O1052.1 own_ns0) (own_sta_keep S2 O1052.1 own_ns0) (own_sta_keep S3 O1052.1 own_ns0) (own_sta_keep S4 O1052.1 own_ns0)) (W := 1) (by decide) (by decide) (by rw [hml]; rfl) (lenOf pd_26 rfl) (Nat.le_of_eq rfl) (hb hby at_256) (by decide) (by decide) rfl ?_
    rintro T1055 v1055 L1055 X1055 ⟨rfl, V1055, cd1055, bs1055, gU1055, hO1055, Fv1055, Fc1055, A1055, hs1055⟩
    have e1055 : T1055.heap = T1055.heap := rfl
    have O1055 := O1052.call hO1055 (allS (Or.inr ge_b1052) all0)
    have HC1056 := HC1053.trans (CHr.keep hO1055.1 (own_all1 (own_safe_blank hZ.alike A1052 F1052_value)) HC1053.1)
    have f1057 := A1052.keep hO1055.1
    have f1058 := (((((A_R.ext E710).other W712 (Nat.ne_of_lt (Nat.lt_of_lt_of_eq A_R.lt g710.symm))).other W714 (Nat.ne_of_lt (Nat.lt_of_lt_of_eq A_R.lt g710.symm))).other W716 (Nat.ne_of_lt (Nat.lt_of_lt_of_eq A_R.lt g710.symm))).other W718 (Nat.ne_of_lt (Nat.lt_of_lt_of_eq A_R.lt g710.symm))).other W720 (Nat.ne_of_lt (Nat.lt_of_lt_of_eq A_R.lt g710.symm))
    have f1059 := (((((f1058.ext E1035).other W1038 (Nat.ne_of_lt (Nat.lt_of_lt_of_eq f1058.lt g1035.symm))).other W1041 (Nat.ne_of_lt (Nat.lt_of_lt_of_eq f1058.lt g1035.symm))).other W1044 (Nat.ne_of_lt (Nat.lt_of_lt_of_eq f1058.lt g1035.symm))).other W1047 (Nat.ne_of_lt (Nat.lt_of_lt_of_eq f1058.lt g1035.symm))).other W1050 (Nat.ne_of_lt (Nat.lt_of_lt_of_eq f1058.lt g1035.symm))
    have f1060 := (((((((((((((A_R.ext E710).other W712 (Nat.ne_of_lt (Nat.lt_of_lt_of_eq A_R.lt g710.symm))).other W714 (Nat.ne_of_lt (Nat.lt_of_lt_of_eq A_R.lt g710.symm))).other W716 (Nat.ne_of_lt (Nat.lt_of_lt_of_eq A_R.lt g710.symm))).other W718 (Nat.ne_of_lt (Nat.lt_of_lt_of_eq A_R.lt g710.symm))).other W720 (Nat.ne_of_lt (Nat.lt_of_lt_of_eq A_R.lt g710.symm))).ext E1035).other W1038 (Nat.ne_of_lt (Nat.lt_of_lt_of_eq f1058.lt g1035.symm))).other W1041 (Nat.ne_of_lt (Nat.lt_of_lt_of_eq f1058.lt g1035.symm))).other W1044 (Nat.ne_of_lt (Nat.lt_of_lt_of_eq f1058.lt g1035.symm))).other W1047 (Nat.ne_of_lt (Nat.lt_of_lt_of_eq f1058.lt g1035.symm))).other W1050 (Nat.ne_of_lt (Nat.lt_of_lt_of_eq f1058.lt g1035.symm))).ext E1052).keep hO1055.1 (ninS (Nat.ne_of_lt (Nat.lt_of_lt_of_eq f1059.lt g1052.symm)) nin0)
    refine Ends.callSH X1055 hx hZ hown (own_w hw 25 rfl) (own_w hw 26 rfl) (own_w hw 27 rfl) (own_w hw 28 rfl) (by decide) (argsL := [(.ref b1052)]) (rest := []) e1055 (Nat.zero_le _) (own_EW hw) HC1056.1 (rm4 l Z a0 hw b1052 V1055 cd1055 bs1055 [u0, u1, u2, u3, u4] hs1055 (by simp) rr _ f1057 Fv1055 Fc1055 A1055 cs hcs (own_sta_keep S0 O1055.1 own_ns0) fv hfv (own_sta_keep S1 O1055.1 own_ns0) (own_sta_keep S2 O1055.1 own_ns0) (own_sta_keep S3 O1055.1 own_ns0) (own_sta_keep S4 O1055.1 own_ns0) (own_sta_keep SR O1055.1 own_ns0) f1060) (W := 0) (by decide) (by decide) (by rw [hml]; rfl) (lenOf pd_27 rfl) (Nat.le_of_eq rfl) (hb hby at_259) (by decide) (by decide) rfl ?_
    rintro s T1061 v1061 L1061 X1061 hc1061 hZ hown ⟨o1061, Uu1061, Tt1061, Pp1061, rfl, go1061, hO1061, AT1061, ET1061, Eo1061, Fu1061, Ft1061, Fp1061, AU1061, AP1061⟩
    have e1061 : T1061.heap = T1061.heap := rfl
    have O1061 := O1055.call hO1061 all0
    have HC1062 := HC1056.trans hc1061
    have hg1061 : (own_go (own_gtI [own_Rf u0, own_Rf u1, own_Rf u2, own_Rf u3, own_Rf u4]) 3 5).length = 3 := own_go_len _ _ _
    have AP1061 : Ary Z _ Pp1061 .int ((own_ints (own_go (own_gtI [own_Rf u0, own_Rf u1, own_Rf u2, own_Rf u3, own_Rf u4]) 3 5)).map Value.int) := AP1061
    refine E.astore (q := 264) (l' := #[.val (.int nn), .val (.int p0), .val (.int p1), .val (.int p2), .val (.int p3), .val (.int p4), .val (.int (5 : Int32)), .val (.ref b710), .val (.ref b1035), .val (.ref o1061), .unset, .unset, .unset]) X1061 hx (hb hby at_262) rfl rfl ?_
    refine E.aload (q := 266) X1061 hx (hb hby at_264) rfl rfl ?_
    refine Ends.callV X1061 hx hZ hown (own_w hw 87 rfl) (own_w hw 88 rfl) (own_w hw 90 rfl) (own_w hw 89 rfl) (own_w hw 27 rfl) (own_w hw 91 rfl) (by decide) (argsL := []) (rest := []) e1061 Eo1061 (rm14 l Z a0 hw o1061 Uu1061 [u0, u1, u2, u3, u4] _ Fu1061 AU1061) (W := 0) (by decide) (by decide) (by rw [hml]; rfl) (lenOf pd_16 rfl) (Nat.le_of_eq rfl) (hb hby at_266) (by decide) (by decide) rfl ?_
    rintro T1063 v1063 L1063 X1063 ⟨rfl, e1063, rfl⟩
    rw [List.append_nil] at X1063
    show Ends (some (CHr Z own_EL vm0 h0)) p e below s _ _ _ T1063 (mkF m 269 #[.val (.int nn), .val (.int p0), .val (.int p1), .val (.int p2), .val (.int p3), .val (.int p4), .val (.int (5 : Int32)), .val (.ref b710), .val (.ref b1035), .val (.ref o1061), .unset, .unset, .unset] [(.int (5 : Int32))])
    refine E.iload (q := 271) X1063 hx (hb hby at_269) rfl ?_
    refine E.icmpY (q := 276) X1063 hx (hb hby at_271) (XT.ii_eq_t (by decide)) ?_
    refine E.iload (q := 278) X1063 hx (hb hby at_276) rfl ?_
    refine E.ifN (q := 281) X1063 hx (hb hby at_278) (XT.i0_le_f (by decide)) ?_
    refine E.aload (q := 283) X1063 hx (hb hby at_281) rfl rfl ?_
    refine E.iconst (q := 284) (v := (0 : Int32)) X1063 hx (hb hby at_283) rfl ?_
    refine Ends.callV X1063 hx hZ hown (own_w hw 166 rfl) (own_w hw 167 rfl) (own_w hw 169 rfl) (own_w hw 168 rfl) (own_w hw 27 rfl) (own_w hw 170 rfl) (by decide) (argsL := [(.int (0 : Int32))]) (rest := []) e1063 Eo1061 (rm28 l Z a0 hw o1061 Uu1061 0 u0 [u0, u1, u2, u3, u4] rfl _ Fu1061 AU1061) (W := 0) (by decide) (by decide) (by rw [hml]; rfl) (lenOf pd_7 rfl) (Nat.le_of_eq rfl) (hb hby at_284) (by decide) (by decide) rfl ?_
    rintro T1064 v1064 L1064 X1064 ⟨rfl, e1064, rfl⟩
    rw [List.append_nil] at X1064
    refine E.aload (q := 289) X1064 hx (hb hby at_287) rfl rfl ?_
    refine E.iconst (q := 290) (v := (0 : Int32)) X1064 hx (hb hby at_289) rfl ?_
    have f1065 := f1049.other W1050 (Nat.ne_of_lt (Nat.lt_of_lt_of_eq V720.lt g1035.symm))
    have f1066 := (((f1049.other W1050 (Nat.ne_of_lt (Nat.lt_of_lt_of_eq V720.lt g1035.symm))).ext E1052).keep hO1055.1 (ninS (Nat.ne_of_lt (Nat.lt_of_lt_of_eq f1065.lt g1052.symm)) nin0)).keep hO1061.1 nin0
    refine Ends.ild X1064 hx hZ e1064 f1066 (i := 0) rfl rfl (hb hby at_290) ?_
    refine E.icmpY (q := 296) X1064 hx (hb hby at_291) (XT.ii_eq_t rfl) ?_
    refine E.iload (q := 298) X1064 hx (hb hby at_296) rfl ?_
    refine E.iconst (q := 299) (v := (1 : Int32)) X1064 hx (hb hby at_298) rfl ?_
    refine E.icmpN (q := 302) X1064 hx (hb hby at_299) (XT.ii_le_f (by decide)) ?_
    refine E.aload (q := 304) X1064 hx (hb hby at_302) rfl rfl ?_
    refine E.iconst (q := 305) (v := (1 : Int32)) X1064 hx (hb hby at_304) rfl ?_
    refine Ends.callV X1064 hx hZ hown (own_w hw 166 rfl) (own_w hw 167 rfl) (own_w hw 169 rfl) (own_w hw 168 rfl) (own_w hw 27 rfl) (own_w hw 170 rfl) (by decide) (argsL := [(.int (1 : Int32))]) (rest := []) e1064 Eo1061 (rm28 l Z a0 hw o1061 Uu1061 1 u1 [u0, u1, u2, u3, u4] rfl _ Fu1061 AU1061) (W := 0) (by decide) (by decide) (by rw [hml]; rfl) (lenOf pd_7 rfl) (Nat.le_of_eq rfl) (hb hby at_305) (by decide) (by decide) rfl ?_
    rintro T1067 v1067 L1067 X1067 ⟨rfl, e1067, rfl⟩
    rw [List.append_nil] at X1067
    refine E.aload (q := 310) X1067 hx (hb hby at_308) rfl rfl ?_
    refine E.iconst (q := 311) (v := (1 : Int32)) X1067 hx (hb hby at_310) rfl ?_
    refine Ends.ild X1067 hx hZ e1067 f1066 (i := 1) rfl rfl (hb hby at_311) ?_
    refine E.icmpY (q := 317) X1067 hx (hb hby at_312) (XT.ii_eq_t rfl) ?_
    refine E.iload (q := 319) X1067 hx (hb hby at_317) rfl ?_
    refine E.iconst (q := 320) (v := (2 : Int32)) X1067 hx (hb hby at_319) rfl ?_
    refine E.icmpN (q := 323) X1067 hx (hb hby at_320) (XT.ii_le_f (by decide)) ?_
    refine E.aload (q := 325) X1067 hx (hb hby at_323) rfl rfl ?_
    refine E.iconst (q := 326) (v := (2 : Int32)) X1067 hx (hb hby at_325) rfl ?_
    refine Ends.callV X1067 hx hZ hown (own_w hw 166 rfl) (own_w hw 167 rfl) (own_w hw 169 rfl) (own_w hw 168 rfl) (own_w hw 27 rfl) (own_w hw 170 rfl) (by decide) (argsL := [(.int (2 : Int32))]) (rest := []) e1067 Eo1061 (rm28 l Z a0 hw o1061 Uu1061 2 u2 [u0, u1, u2, u3, u4] rfl _ Fu1061 AU1061) (W := 0) (by decide) (by decide) (by rw [hml]; rfl) (lenOf pd_7 rfl) (Nat.le_of_eq rfl) (hb hby at_326) (by decide) (by decide) rfl ?_
    rintro T1068 v1068 L1068 X1068 ⟨rfl, e1068, rfl⟩
    rw [List.append_nil] at X1068
    refine E.aload (q := 331) X1068 hx (hb hby at_329) rfl rfl ?_
    refine E.iconst (q := 332) (v := (2 : Int32)) X1068 hx (hb hby at_331) rfl ?_
    refine Ends.ild X1068 hx hZ e1068 f1066 (i := 2) rfl rfl (hb hby at_332) ?_
    refine E.icmpY (q := 338) X1068 hx (hb hby at_333) (XT.ii_eq_t rfl) ?_
    refine E.iload (q := 340) X1068 hx (hb hby at_338) rfl ?_
    refine E.iconst (q := 341) (v := (3 : Int32)) X1068 hx (hb hby at_340) rfl ?_
    refine E.icmpN (q := 344) X1068 hx (hb hby at_341) (XT.ii_le_f (by decide)) ?_
    refine E.aload (q := 346) X1068 hx (hb hby at_344) rfl rfl ?_
    refine E.iconst (q := 347) (v := (3 : Int32)) X1068 hx (hb hby at_346) rfl ?_
    refine Ends.callV X1068 hx hZ hown (own_w hw 166 rfl) (own_w hw 167 rfl) (own_w hw 169 rfl) (own_w hw 168 rfl) (own_w hw 27 rfl) (own_w hw 170 rfl) (by decide) (argsL := [(.int (3 : Int32))]) (rest := []) e1068 Eo1061 (rm28 l Z a0 hw o1061 Uu1061 3 u3 [u0, u1, u2, u3, u4] rfl _ Fu1061 AU1061) (W := 0) (by decide) (by decide) (by rw [hml]; rfl) (lenOf pd_7 rfl) (Nat.le_of_eq rfl) (hb hby at_347) (by decide) (by decide) rfl ?_
    rintro T1069 v1069 L1069 X1069 ⟨rfl, e1069, rfl⟩
    rw [List.append_nil] at X1069
    refine E.aload (q := 352) X1069 hx (hb hby at_350) rfl rfl ?_
    refine E.iconst (q := 353) (v := (3 : Int32)) X1069 hx (hb hby at_352) rfl ?_
    refine Ends.ild X1069 hx hZ e1069 f1066 (i := 3) rfl rfl (hb hby at_353) ?_
    refine E.icmpY (q := 359) X1069 hx (hb hby at_354) (XT.ii_eq_t rfl) ?_
    refine E.iload (q := 361) X1069 hx (hb hby at_359) rfl ?_
    refine E.iconst (q := 362) (v := (4 : Int32)) X1069 hx (hb hby at_361) rfl ?_
    refine E.icmpN (q := 365) X1069 hx (hb hby at_362) (XT.ii_le_f (by decide)) ?_
    refine E.aload (q := 367) X1069 hx (hb hby at_365) rfl rfl ?_
    refine E.iconst (q := 368) (v := (4 : Int32)) X1069 hx (hb hby at_367) rfl ?_
    refine Ends.callV X1069 hx hZ hown (own_w hw 166 rfl) (own_w hw 167 rfl) (own_w hw 169 rfl) (own_w hw 168 rfl) (own_w hw 27 rfl) (own_w hw 170 rfl) (by decide) (argsL := [(.int (4 : Int32))]) (rest := []) e1069 Eo1061 (rm28 l Z a0 hw o1061 Uu1061 4 u4 [u0, u1, u2, u3, u4] rfl _ Fu1061 AU1061) (W := 0) (by decide) (by decide) (by rw [hml]; rfl) (lenOf pd_7 rfl) (Nat.le_of_eq rfl) (hb hby at_368) (by decide) (by decide) rfl ?_
    rintro T1070 v1070 L1070 X1070 ⟨rfl, e1070, rfl⟩
    rw [List.append_nil] at X1070
    refine E.aload (q := 373) X1070 hx (hb hby at_371) rfl rfl ?_
    refine E.iconst (q := 374) (v := (4 : Int32)) X1070 hx (hb hby at_373) rfl ?_
    refine Ends.ild X1070 hx hZ e1070 f1066 (i := 4) rfl rfl (hb hby at_374) ?_
    refine E.icmpY (q := 380) X1070 hx (hb hby at_375) (XT.ii_eq_t rfl) ?_
    refine E.aload (q := 382) X1070 hx (hb hby at_380) rfl rfl ?_
    refine Ends.callV X1070 hx hZ hown (own_w hw 92 rfl) (own_w hw 93 rfl) (own_w hw 95 rfl) (own_w hw 94 rfl) (own_w hw 27 rfl) (own_w hw 96 rfl) (by decide) (argsL := []) (rest := []) e1070 Eo1061 (rm15 l Z a0 hw o1061 Tt1061 (own_ints (own_kmp [u0, u1, u2, u3, u4])) (by rw [own_ints_len, own_kmp_len]; simp) _ Ft1061 AT1061 ET1061) (W := 0) (by decide) (by decide) (by rw [hml]; rfl) (lenOf pd_28 rfl) (Nat.le_of_eq rfl) (hb hby at_382) (by decide) (by decide) rfl ?_
    rintro T1071 v1071 L1071 X1071 ⟨b1071, rfl, gb1071, hO1071, AC1071⟩
    have e1071 : T1071.heap = T1071.heap := rfl
    have O1071 := O1061.call hO1071 all0
    have HC1072 := HC1062.trans (CHr.keep hO1071.1 (own_all0) HC1062.1)
    refine E.astore (q := 387) (l' := #[.val (.int nn), .val (.int p0), .val (.int p1), .val (.int p2), .val (.int p3), .val (.int p4), .val (.int (5 : Int32)), .val (.ref b710), .val (.ref b1035), .val (.ref o1061), .val (.ref b1071), .unset, .unset]) X1071 hx (hb hby at_385) rfl rfl ?_
    refine E.aload (q := 389) X1071 hx (hb hby at_387) rfl rfl ?_
    refine Ends.alen X1071 hx hZ e1071 AC1071 (hb hby at_389) (n := (5 : Int32)) (by rw [List.length_map, own_ints_len, own_kmp_len]; rfl) ?_
    refine E.iload (q := 392) X1071 hx (hb hby at_390) rfl ?_
    refine E.icmpY (q := 397) X1071 hx (hb hby at_392) (XT.ii_eq_t (by decide)) ?_
    refine E.iload (q := 399) X1071 hx (hb hby at_397) rfl ?_
    refine E.ifN (q := 402) X1071 hx (hb hby at_399) (XT.i0_le_f (by decide)) ?_
    refine E.aload (q := 404) X1071 hx (hb hby at_402) rfl rfl ?_
    refine E.iconst (q := 405) (v := (0 : Int32)) X1071 hx (hb hby at_404) rfl ?_
    refine Ends.ild X1071 hx hZ e1071 AC1071 (i := 0) (v := .int (Int32.ofNat (own_ref5 [u0, u1, u2, u3, u4] 0))) rfl (by rw [List.getElem?_map, (show (own_ints (own_kmp [u0, u1, u2, u3, u4]))[0]? = some (Int32.ofNat (own_ref5 [u0, u1, u2, u3, u4] 0)) from own_ckat (own_law5 u0 u1 u2 u3 u4 (n := 5) (i := 0) (by decide) (by decide)))]; rfl) (hb hby at_405) ?_
    refine E.aload (q := 408) X1071 hx (hb hby at_406) rfl rfl ?_
    refine E.iconst (q := 409) (v := (0 : Int32)) X1071 hx (hb hby at_408) rfl ?_
    have f1073 := f1066.keep hO1071.1 nin0
    refine Ends.callS X1071 hx hZ hown (own_w hw 171 rfl) (own_w hw 172 rfl) (own_w hw 108 rfl) (own_w hw 173 rfl) (by decide) (argsL := [(.ref b710), (.int (0 : Int32))]) (rest := [(.int (Int32.ofNat (own_ref5 [u0, u1, u2, u3, u4] 0)))]) e1071 (rmBr0 l Z a0 hw b710 u0 u1 u2 u3 u4 _ f1073) (W := 1) (by decide) (by decide) (by rw [hml]; rfl) (lenOf pd_30 rfl) (Nat.le_of_eq rfl) (hb hby at_409) (by decide) (by decide) rfl ?_
    rintro T1074 v1074 L1074 X1074 ⟨rfl, e1074, rfl⟩
    rw [List.append_nil] at X1074
    refine E.icmpY (q := 417) X1074 hx (hb hby at_412) (XT.ii_eq_t rfl) ?_
    refine E.iload (q := 419) X1074 hx (hb hby at_417) rfl ?_
    refine E.iconst (q := 420) (v := (1 : Int32)) X1074 hx (hb hby at_419) rfl ?_
    refine E.icmpN (q := 423) X1074 hx (hb hby at_420) (XT.ii_le_f (by decide)) ?_
    refine E.aload (q := 425) X1074 hx (hb hby at_423) rfl rfl ?_
    refine E.iconst (q := 426) (v := (1 : Int32)) X1074 hx (hb hby at_425) rfl ?_
    refine Ends.ild X1074 hx hZ e1074 AC1071 (i := 1) (v := .int (Int32.ofNat (own_ref5 [u0, u1, u2, u3, u4] 1))) rfl (by rw [List.getElem?_map, (show (own_ints (own_kmp [u0, u1, u2, u3, u4]))[1]? = some (Int32.ofNat (own_ref5 [u0, u1, u2, u3, u4] 1)) from own_ckat (own_law5 u0 u1 u2 u3 u4 (n := 5) (i := 1) (by decide) (by decide)))]; rfl) (hb hby at_426) ?_
    refine E.aload (q := 429) X1074 hx (hb hby at_427) rfl rfl ?_
    refine E.iconst (q := 430) (v := (1 : Int32)) X1074 hx (hb hby at_429) rfl ?_
    refine Ends.callS X1074 hx hZ hown (own_w hw 171 rfl) (own_w hw 172 rfl) (own_w hw 108 rfl) (own_w hw 173 rfl) (by decide) (argsL := [(.ref b710), (.int (1 : Int32))]) (rest := [(.int (Int32.ofNat (own_ref5 [u0, u1, u2, u3, u4] 1)))]) e1074 (rmBr1 l Z a0 hw b710 u0 u1 u2 u3 u4 _ f1073) (W := 1) (by decide) (by decide) (by rw [hml]; rfl) (lenOf pd_30 rfl) (Nat.le_of_eq rfl) (hb hby at_430) (by decide) (by decide) rfl ?_
    rintro T1075 v1075 L1075 X1075 ⟨rfl, e1075, rfl⟩
    rw [List.append_nil] at X1075
    refine E.icmpY (q := 438) X1075 hx (hb hby at_433) (XT.ii_eq_t rfl) ?_
    refine E.iload (q := 440) X1075 hx (hb hby at_438) rfl ?_
    refine E.iconst (q := 441) (v := (2 : Int32)) X1075 hx (hb hby at_440) rfl ?_
    refine E.icmpN (q := 444) X1075 hx (hb hby at_441) (XT.ii_le_f (by decide)) ?_
    refine E.aload (q := 446) X1075 hx (hb hby at_444) rfl rfl ?_
    refine E.iconst (q := 447) (v := (2 : Int32)) X1075 hx (hb hby at_446) rfl ?_
    refine Ends.ild X1075 hx hZ e1075 AC1071 (i := 2) (v := .int (Int32.ofNat (own_ref5 [u0, u1, u2, u3, u4] 2))) rfl (by rw [List.getElem?_map, (show (own_ints (own_kmp [u0, u1, u2, u3, u4]))[2]? = some (Int32.ofNat (own_ref5 [u0, u1, u2, u3, u4] 2)) from own_ckat (own_law5 u0 u1 u2 u3 u4 (n := 5) (i := 2) (by decide) (by decide)))]; rfl) (hb hby at_447) ?_
    refine E.aload (q := 450) X1075 hx (hb hby at_448) rfl rfl ?_
    refine E.iconst (q := 451) (v := (2 : Int32)) X1075 hx (hb hby at_450) rfl ?_
    refine Ends.callS X1075 hx hZ hown (own_w hw 171 rfl) (own_w hw 172 rfl) (own_w hw 108 rfl) (own_w hw 173 rfl) (by decide) (argsL := [(.ref b710), (.int (2 : Int32))]) (rest := [(.int (Int32.ofNat (own_ref5 [u0, u1, u2, u3, u4] 2)))]) e1075 (rmBr2 l Z a0 hw b710 u0 u1 u2 u3 u4 _ f1073) (W := 1) (by decide) (by decide) (by rw [hml]; rfl) (lenOf pd_30 rfl) (Nat.le_of_eq rfl) (hb hby at_451) (by decide) (by decide) rfl ?_
    rintro T1076 v1076 L1076 X1076 ⟨rfl, e1076, rfl⟩
    rw [List.append_nil] at X1076
    refine E.icmpY (q := 459) X1076 hx (hb hby at_454) (XT.ii_eq_t rfl) ?_
    refine E.iload (q := 461) X1076 hx (hb hby at_459) rfl ?_
    refine E.iconst (q := 462) (v := (3 : Int32)) X1076 hx (hb hby at_461) rfl ?_
    refine E.icmpN (q := 465) X1076 hx (hb hby at_462) (XT.ii_le_f (by decide)) ?_
    refine E.aload (q := 467) X1076 hx (hb hby at_465) rfl rfl ?_
    refine E.iconst (q := 468) (v := (3 : Int32)) X1076 hx (hb hby at_467) rfl ?_
    refine Ends.ild X1076 hx hZ e1076 AC1071 (i := 3) (v := .int (Int32.ofNat (own_ref5 [u0, u1, u2, u3, u4] 3))) rfl (by rw [List.getElem?_map, (show (own_ints (own_kmp [u0, u1, u2, u3, u4]))[3]? = some (Int32.ofNat (own_ref5 [u0, u1, u2, u3, u4] 3)) from own_ckat (own_law5 u0 u1 u2 u3 u4 (n := 5) (i := 3) (by decide) (by decide)))]; rfl) (hb hby at_468) ?_
    refine E.aload (q := 471) X1076 hx (hb hby at_469) rfl rfl ?_
    refine E.iconst (q := 472) (v := (3 : Int32)) X1076 hx (hb hby at_471) rfl ?_
    refine Ends.callS X1076 hx hZ hown (own_w hw 171 rfl) (own_w hw 172 rfl) (own_w hw 108 rfl) (own_w hw 173 rfl) (by decide) (argsL := [(.ref b710), (.int (3 : Int32))]) (rest := [(.int (Int32.ofNat (own_ref5 [u0, u1, u2, u3, u4] 3)))]) e1076 (rmBr3 l Z a0 hw b710 u0 u1 u2 u3 u4 _ f1073) (W := 1) (by decide) (by decide) (by rw [hml]; rfl) (lenOf pd_30 rfl) (Nat.le_of_eq rfl) (hb hby at_472) (by decide) (by decide) rfl ?_
    rintro T1077 v1077 L1077 X1077 ⟨rfl, e1077, rfl⟩
    rw [List.append_nil] at X1077
    refine E.icmpY (q := 480) X1077 hx (hb hby at_475) (XT.ii_eq_t rfl) ?_
    refine E.iload (q := 482) X1077 hx (hb hby at_480) rfl ?_
    refine E.iconst (q := 483) (v := (4 : Int32)) X1077 hx (hb hby at_482) rfl ?_
    refine E.icmpN (q := 486) X1077 hx (hb hby at_483) (XT.ii_le_f (by decide)) ?_
    refine E.aload (q := 488) X1077 hx (hb hby at_486) rfl rfl ?_
    refine E.iconst (q := 489) (v := (4 : Int32)) X1077 hx (hb hby at_488) rfl ?_
    refine Ends.ild X1077 hx hZ e1077 AC1071 (i := 4) (v := .int (Int32.ofNat (own_ref5 [u0, u1, u2, u3, u4] 4))) rfl (by rw [List.getElem?_map, (show (own_ints (own_kmp [u0, u1, u2, u3, u4]))[4]? = some (Int32.ofNat (own_ref5 [u0, u1, u2, u3, u4] 4)) from own_ckat (own_law5 u0 u1 u2 u3 u4 (n := 5) (i := 4) (by decide) (by decide)))]; rfl) (hb hby at_489) ?_
    refine E.aload (q := 492) X1077 hx (hb hby at_490) rfl rfl ?_
    refine E.iconst (q := 493) (v := (4 : Int32)) X1077 hx (hb hby at_492) rfl ?_
    refine Ends.callS X1077 hx hZ hown (own_w hw 171 rfl) (own_w hw 172 rfl) (own_w hw 108 rfl) (own_w hw 173 rfl) (by decide) (argsL := [(.ref b710), (.int (4 : Int32))]) (rest := [(.int (Int32.ofNat (own_ref5 [u0, u1, u2, u3, u4] 4)))]) e1077 (rmBr4 l Z a0 hw b710 u0 u1 u2 u3 u4 _ f1073) (W := 1) (by decide) (by decide) (by rw [hml]; rfl) (lenOf pd_30 rfl) (Nat.le_of_eq rfl) (hb hby at_493) (by decide) (by decide) rfl ?_
    rintro T1078 v1078 L1078 X1078 ⟨rfl, e1078, rfl⟩
    rw [List.append_nil] at X1078
    refine E.icmpY (q := 501) X1078 hx (hb hby at_496) (XT.ii_eq_t rfl) ?_
    refine E.iconst (q := 502) (v := (5 : Int32)) X1078 hx (hb hby at_501) rfl ?_
    refine Ends.newA X1078 hx hZ (own_w hw 1 rfl) e1078 (hb hby at_502) (N := 5) rfl (by decide) (by decide) (by decide) ?_
    intro T1079 h1079 b1079 g1079 X1079 e1079 E1079 A1079
    have ge_b1079 : h0.size ≤ b1079 := Nat.le_trans O1071.le (Nat.le_of_eq g1079.symm)
    have O1079 := O1071.ext E1079
    have HC1080 := HC1072.trans (CHr.ext E1079 HC1072.1)
    have V1079 : Ary Z h1079 b1079 .int [(.int (0 : Int32)), (.int (0 : Int32)), (.int (0 : Int32)), (.int (0 : Int32)), (.int (0 : Int32))] := A1079
    refine E.astore (q := 506) (l' := #[.val (.int nn), .val (.int p0), .val (.int p1), .val (.int p2), .val (.int p3), .val (.int p4), .val (.int (5 : Int32)), .val (.ref b710), .val (.ref b1035), .val (.ref o1061), .val (.ref b1071), .val (.ref b1079), .unset]) X1079 hx (hb hby at_504) rfl rfl ?_
    refine E.aload (q := 508) X1079 hx (hb hby at_506) rfl rfl ?_
    refine E.iconst (q := 509) (v := (0 : Int32)) X1079 hx (hb hby at_508) rfl ?_
    refine E.aload (q := 511) X1079 hx (hb hby at_509) rfl rfl ?_
    refine E.iconst (q := 512) (v := (0 : Int32)) X1079 hx (hb hby at_511) rfl ?_
    have f1081 := f1073.ext E1079
    refine Ends.ild X1079 hx hZ e1079 f1081 (i := 0) rfl rfl (hb hby at_512) ?_
    refine Ends.callS X1079 hx hZ hown (own_w hw 106 rfl) (own_w hw 107 rfl) (own_w hw 108 rfl) (own_w hw 109 rfl) (by decide) (argsL := [(.int u0)]) (rest := [(.int (0 : Int32)), (.ref b1079)]) e1079 (rm16 l Z a0 hw u0 _) (W := 2) (by decide) (by decide) (by rw [hml]; rfl) (lenOf pd_7 rfl) (Nat.le_of_eq rfl) (hb hby at_513) (by decide) (by decide) rfl ?_
    rintro T1082 v1082 L1082 X1082 ⟨rfl, e1082, rfl⟩
    rw [List.append_nil] at X1082
    refine Ends.ist X1082 hx hZ e1082 V1079 (i := 0) rfl (show 0 < 5 from by decide) (hb hby at_516) ?_
    intro T1083 h1083 X1083 e1083 W1083 V1083
    have V1083 : Ary Z h1083 b1079 .int [(.int (own_Rf u0)), (.int (0 : Int32)), (.int (0 : Int32)), (.int (0 : Int32)), (.int (0 : Int32))] := V1083
    have O1083 := O1079.wr W1083 (Or.inr ge_b1079)
    have HC1084 := HC1080.trans (CHr.wr W1083 (own_safe_ary hZ.alike V1079 (by decide)) HC1080.1)
    refine E.aload (q := 519) X1083 hx (hb hby at_517) rfl rfl ?_
    refine E.iconst (q := 520) (v := (1 : Int32)) X1083 hx (hb hby at_519) rfl ?_
    refine E.aload (q := 522) X1083 hx (hb hby at_520) rfl rfl ?_
    refine E.iconst (q := 523) (v := (1 : Int32)) X1083 hx (hb hby at_522) rfl ?_
    have f1085 := f1081.other W1083 (Nat.ne_of_lt (Nat.lt_of_lt_of_eq f1073.lt g1079.symm))
    refine Ends.ild X1083 hx hZ e1083 f1085 (i := 1) rfl rfl (hb hby at_523) ?_
    refine Ends.callS X1083 hx hZ hown (own_w hw 106 rfl) (own_w hw 107 rfl) (own_w hw 108 rfl) (own_w hw 109 rfl) (by decide) (argsL := [(.int u1)]) (rest := [(.int (1 : Int32)), (.ref b1079)]) e1083 (rm16 l Z a0 hw u1 _) (W := 2) (by decide) (by decide) (by rw [hml]; rfl) (lenOf pd_7 rfl) (Nat.le_of_eq rfl) (hb hby at_524) (by decide) (by decide) rfl ?_
    rintro T1086 v1086 L1086 X1086 ⟨rfl, e1086, rfl⟩
    rw [List.append_nil] at X1086
    refine Ends.ist X1086 hx hZ e1086 V1083 (i := 1) rfl (show 1 < 5 from by decide) (hb hby at_527) ?_
    intro T1087 h1087 X1087 e1087 W1087 V1087
    have V1087 : Ary Z h1087 b1079 .int [(.int (own_Rf u0)), (.int (own_Rf u1)), (.int (0 : Int32)), (.int (0 : Int32)), (.int (0 : Int32))] := V1087
    have O1087 := O1083.wr W1087 (Or.inr ge_b1079)
    have HC1088 := HC1084.trans (CHr.wr W1087 (own_safe_ary hZ.alike V1083 (by decide)) HC1084.1)
    refine E.aload (q := 530) X1087 hx (hb hby at_528) rfl rfl ?_
    refine E.iconst (q := 531) (v := (2 : Int32)) X1087 hx (hb hby at_530) rfl ?_
    refine E.aload (q := 533) X1087 hx (hb hby at_531) rfl rfl ?_
    refine E.iconst (q := 534) (v := (2 : Int32)) X1087 hx (hb hby at_533) rfl ?_
    have f1089 := f1085.other W1087 (Nat.ne_of_lt (Nat.lt_of_lt_of_eq f1073.lt g1079.symm))
    refine Ends.ild X1087 hx hZ e1087 f1089 (i := 2) rfl rfl (hb hby at_534) ?_
    refine Ends.callS X1087 hx hZ hown (own_w hw 106 rfl) (own_w hw 107 rfl) (own_w hw 108 rfl) (own_w hw 109 rfl) (by decide) (argsL := [(.int u2)]) (rest := [(.int (2 : Int32)), (.ref b1079)]) e1087 (rm16 l Z a0 hw u2 _) (W := 2) (by decide) (by decide) (by rw [hml]; rfl) (lenOf pd_7 rfl) (Nat.le_of_eq rfl) (hb hby at_535) (by decide) (by decide) rfl ?_
    rintro T1090 v1090 L1090 X1090 ⟨rfl, e1090, rfl⟩
    rw [List.append_nil] at X1090
    refine Ends.ist X1090 hx hZ e1090 V1087 (i := 2) rfl (show 2 < 5 from by decide) (hb hby at_538) ?_
    intro T1091 h1091 X1091 e1091 W1091 V1091
    have V1091 : Ary Z h1091 b1079 .int [(.int (own_Rf u0)), (.int (own_Rf u1)), (.int (own_Rf u2)), (.int (0 : Int32)), (.int (0 : Int32))] := V1091
    have O1091 := O1087.wr W1091 (Or.inr ge_b1079)
    have HC1092 := HC1088.trans (CHr.wr W1091 (own_safe_ary hZ.alike V1087 (by decide)) HC1088.1)
    refine E.aload (q := 541) X1091 hx (hb hby at_539) rfl rfl ?_
    refine E.iconst (q := 542) (v := (3 : Int32)) X1091 hx (hb hby at_541) rfl ?_
    refine E.aload (q := 544) X1091 hx (hb hby at_542) rfl rfl ?_
    refine E.iconst (q := 545) (v := (3 : Int32)) X1091 hx (hb hby at_544) rfl ?_
    have f1093 := f1089.other W1091 (Nat.ne_of_lt (Nat.lt_of_lt_of_eq f1073.lt g1079.symm))
    refine Ends.ild X1091 hx hZ e1091 f1093 (i := 3) rfl rfl (hb hby at_545) ?_
    refine Ends.callS X1091 hx hZ hown (own_w hw 106 rfl) (own_w hw 107 rfl) (own_w hw 108 rfl) (own_w hw 109 rfl) (by decide) (argsL := [(.int u3)]) (rest := [(.int (3 : Int32)), (.ref b1079)]) e1091 (rm16 l Z a0 hw u3 _) (W := 2) (by decide) (by decide) (by rw [hml]; rfl) (lenOf pd_7 rfl) (Nat.le_of_eq rfl) (hb hby at_546) (by decide) (by decide) rfl ?_
    rintro T1094 v1094 L1094 X1094 ⟨rfl, e1094, rfl⟩
    rw [List.append_nil] at X1094
    refine Ends.ist X1094 hx hZ e1094 V1091 (i := 3) rfl (show 3 < 5 from by decide) (hb hby at_549) ?_
    intro T1095 h1095 X1095 e1095 W1095 V1095
    have V1095 : Ary Z h1095 b1079 .int [(.int (own_Rf u0)), (.int (own_Rf u1)), (.int (own_Rf u2)), (.int (own_Rf u3)), (.int (0 : Int32))] := V1095
    have O1095 := O1091.wr W1095 (Or.inr ge_b1079)
    have HC1096 := HC1092.trans (CHr.wr W1095 (own_safe_ary hZ.alike V1091 (by decide)) HC1092.1)
    refine E.aload (q := 552) X1095 hx (hb hby at_550) rfl rfl ?_
    refine E.iconst (q := 553) (v := (4 : Int32)) X1095 hx (hb hby at_552) rfl ?_
    refine E.aload (q := 555) X1095 hx (hb hby at_553) rfl rfl ?_
    refine E.iconst (q := 556) (v := (4 : Int32)) X1095 hx (hb hby at_555) rfl ?_
    have f1097 := f1093.other W1095 (Nat.ne_of_lt (Nat.lt_of_lt_of_eq f1073.lt g1079.symm))
    refine Ends.ild X1095 hx hZ e1095 f1097 (i := 4) rfl rfl (hb hby at_556) ?_
    refine Ends.callS X1095 hx hZ hown (own_w hw 106 rfl) (own_w hw 107 rfl) (own_w hw 108 rfl) (own_w hw 109 rfl) (by decide) (argsL := [(.int u4)]) (rest := [(.int (4 : Int32)), (.ref b1079)]) e1095 (rm16 l Z a0 hw u4 _) (W := 2) (by decide) (by decide) (by rw [hml]; rfl) (lenOf pd_7 rfl) (Nat.le_of_eq rfl) (hb hby at_557) (by decide) (by decide) rfl ?_
    rintro T1098 v1098 L1098 X1098 ⟨rfl, e1098, rfl⟩
    rw [List.append_nil] at X1098
    refine Ends.ist X1098 hx hZ e1098 V1095 (i := 4) rfl (show 4 < 5 from by decide) (hb hby at_560) ?_
    intro T1099 h1099 X1099 e1099 W1099 V1099
    have V1099 : Ary Z h1099 b1079 .int [(.int (own_Rf u0)), (.int (own_Rf u1)), (.int (own_Rf u2)), (.int (own_Rf u3)), (.int (own_Rf u4))] := V1099
    have O1099 := O1095.wr W1099 (Or.inr ge_b1079)
    have HC1100 := HC1096.trans (CHr.wr W1099 (own_safe_ary hZ.alike V1095 (by decide)) HC1096.1)
    refine E.aload (q := 563) X1099 hx (hb hby at_561) rfl rfl ?_
    have f1101 := Eo1061.keep hO1071.1
    have f1102 := ((((((Fp1061.keep hO1071.1 nin0).ext E1079).other W1083 (Or.inl (Nat.ne_of_lt (Nat.lt_of_lt_of_eq f1101.lt g1079.symm)))).other W1087 (Or.inl (Nat.ne_of_lt (Nat.lt_of_lt_of_eq f1101.lt g1079.symm)))).other W1091 (Or.inl (Nat.ne_of_lt (Nat.lt_of_lt_of_eq f1101.lt g1079.symm)))).other W1095 (Or.inl (Nat.ne_of_lt (Nat.lt_of_lt_of_eq f1101.lt g1079.symm)))).other W1099 (Or.inl (Nat.ne_of_lt (Nat.lt_of_lt_of_eq f1101.lt g1079.symm)))
    have f1103 := (((((f1101.ext E1079).wr W1083).wr W1087).wr W1091).wr W1095).wr W1099
    refine Ends.callV X1099 hx hZ hown (own_w hw 110 rfl) (own_w hw 111 rfl) (own_w hw 113 rfl) (own_w hw 112 rfl) (own_w hw 27 rfl) (own_w hw 114 rfl) (by decide) (argsL := []) (rest := []) e1099 f1103 (rm17 l Z a0 hw o1061 Pp1061 _ f1102) (W := 0) (by decide) (by decide) (by rw [hml]; rfl) (lenOf pd_28 rfl) (Nat.le_of_eq rfl) (hb hby at_563) (by decide) (by decide) rfl ?_
    rintro T1104 v1104 L1104 X1104 ⟨rfl, e1104, rfl⟩
    rw [List.append_nil] at X1104
    refine E.astore (q := 568) (l' := #[.val (.int nn), .val (.int p0), .val (.int p1), .val (.int p2), .val (.int p3), .val (.int p4), .val (.int (5 : Int32)), .val (.ref b710), .val (.ref b1035), .val (.ref o1061), .val (.ref b1071), .val (.ref b1079), .val (.ref Pp1061)]) X1104 hx (hb hby at_566) rfl rfl ?_
    refine E.aload (q := 570) X1104 hx (hb hby at_568) rfl rfl ?_
    have f1105 := AP1061.keep hO1071.1 nin0
    have f1106 := ((((((AP1061.keep hO1071.1 nin0).ext E1079).other W1083 (Nat.ne_of_lt (Nat.lt_of_lt_of_eq f1105.lt g1079.symm))).other W1087 (Nat.ne_of_lt (Nat.lt_of_lt_of_eq f1105.lt g1079.symm))).other W1091 (Nat.ne_of_lt (Nat.lt_of_lt_of_eq f1105.lt g1079.symm))).other W1095 (Nat.ne_of_lt (Nat.lt_of_lt_of_eq f1105.lt g1079.symm))).other W1099 (Nat.ne_of_lt (Nat.lt_of_lt_of_eq f1105.lt g1079.symm))
    refine Ends.alen X1104 hx hZ e1104 f1106 (hb hby at_570) (n := (3 : Int32)) (by rw [List.length_map, own_ints_len, hg1061]; rfl) ?_
    refine E.iconst (q := 572) (v := (3 : Int32)) X1104 hx (hb hby at_571) rfl ?_
    refine E.iload (q := 574) X1104 hx (hb hby at_572) rfl ?_
    refine Ends.callS X1104 hx hZ hown (own_w hw 115 rfl) (own_w hw 72 rfl) (own_w hw 73 rfl) (own_w hw 74 rfl) (by decide) (argsL := [(.int (3 : Int32)), (.int (5 : Int32))]) (rest := [(.int (3 : Int32))]) e1104 (rm12 l Z a0 hw 3 5 (by decide) (by decide) _) (W := 1) (by decide) (by decide) (by rw [hml]; rfl) (lenOf pd_19 rfl) (Nat.le_of_eq rfl) (hb hby at_574) (by decide) (by decide) rfl ?_
    rintro T1107 v1107 L1107 X1107 ⟨rfl, e1107, rfl⟩
    rw [List.append_nil] at X1107
    refine E.icmpY (q := 582) X1107 hx (hb hby at_577) (XT.ii_eq_t (by decide)) ?_
    refine E.aload (q := 584) X1107 hx (hb hby at_582) rfl rfl ?_
    refine E.aload (q := 586) X1107 hx (hb hby at_584) rfl rfl ?_
    refine E.iload (q := 588) X1107 hx (hb hby at_586) rfl ?_
    refine E.iconst (q := 589) (v := (0 : Int32)) X1107 hx (hb hby at_588) rfl ?_
    refine Ends.callS X1107 hx hZ hown (own_w hw 116 rfl) (own_w hw 117 rfl) (own_w hw 108 rfl) (own_w hw 118 rfl) (by decide) (argsL := [(.ref Pp1061), (.ref b1079), (.int (5 : Int32)), (.int (0 : Int32))]) (rest := []) e1107 (rmPo0 l Z a0 hw Pp1061 b1079 (own_Rf u0) (own_Rf u1) (own_Rf u2) (own_Rf u3) (own_Rf u4) 5 (by decide) (own_ints (own_go (own_gtI [own_Rf u0, own_Rf u1, own_Rf u2, own_Rf u3, own_Rf u4]) 3 5)) (by rw [own_ints_len, hg1061]; decide) (fun _ q => own_ckat (own_probe5 (l := [own_Rf u0, own_Rf u1, own_Rf u2, own_Rf u3, own_Rf u4]) rfl (n := 5) (i := 0) (by decide) (by decide) (by rw [own_ints_len, hg1061] at q; exact q))) _ V1099 f1106) (W := 0) (by decide) (by decide) (by rw [hml]; rfl) (lenOf pd_29 rfl) (Nat.le_of_eq rfl) (hb hby at_589) (by decide) (by decide) rfl ?_
    rintro T1108 v1108 L1108 X1108 ⟨rfl, e1108, rfl⟩
    rw [List.append_nil] at X1108
    refine E.ifY (q := 597) X1108 hx (hb hby at_592) (XT.i0_ne_t (by decide)) ?_
    refine E.aload (q := 599) X1108 hx (hb hby at_597) rfl rfl ?_
    refine E.aload (q := 601) X1108 hx (hb hby at_599) rfl rfl ?_
    refine E.iload (q := 603) X1108 hx (hb hby at_601) rfl ?_
    refine E.iconst (q := 604) (v := (1 : Int32)) X1108 hx (hb hby at_603) rfl ?_
    refine Ends.callS X1108 hx hZ hown (own_w hw 116 rfl) (own_w hw 117 rfl) (own_w hw 108 rfl) (own_w hw 118 rfl) (by decide) (argsL := [(.ref Pp1061), (.ref b1079), (.int (5 : Int32)), (.int (1 : Int32))]) (rest := []) e1108 (rmPo1 l Z a0 hw Pp1061 b1079 (own_Rf u0) (own_Rf u1) (own_Rf u2) (own_Rf u3) (own_Rf u4) 5 (by decide) (own_ints (own_go (own_gtI [own_Rf u0, own_Rf u1, own_Rf u2, own_Rf u3, own_Rf u4]) 3 5)) (by rw [own_ints_len, hg1061]; decide) (fun _ q => own_ckat (own_probe5 (l := [own_Rf u0, own_Rf u1, own_Rf u2, own_Rf u3, own_Rf u4]) rfl (n := 5) (i := 1) (by decide) (by decide) (by rw [own_ints_len, hg1061] at q; exact q))) _ V1099 f1106) (W := 0) (by decide) (by decide) (by rw [hml]; rfl) (lenOf pd_29 rfl) (Nat.le_of_eq rfl) (hb hby at_604) (by decide) (by decide) rfl ?_
    rintro T1109 v1109 L1109 X1109 ⟨rfl, e1109, rfl⟩
    rw [List.append_nil] at X1109
    refine E.ifY (q := 612) X1109 hx (hb hby at_607) (XT.i0_ne_t (by decide)) ?_
    refine E.aload (q := 614) X1109 hx (hb hby at_612) rfl rfl ?_
    refine E.aload (q := 616) X1109 hx (hb hby at_614) rfl rfl ?_
    refine E.iload (q := 618) X1109 hx (hb hby at_616) rfl ?_
    refine E.iconst (q := 619) (v := (2 : Int32)) X1109 hx (hb hby at_618) rfl ?_
    refine Ends.callS X1109 hx hZ hown (own_w hw 116 rfl) (own_w hw 117 rfl) (own_w hw 108 rfl) (own_w hw 118 rfl) (by decide) (argsL := [(.ref Pp1061), (.ref b1079), (.int (5 : Int32)), (.int (2 : Int32))]) (rest := []) e1109 (rmPo2 l Z a0 hw Pp1061 b1079 (own_Rf u0) (own_Rf u1) (own_Rf u2) (own_Rf u3) (own_Rf u4) 5 (by decide) (own_ints (own_go (own_gtI [own_Rf u0, own_Rf u1, own_Rf u2, own_Rf u3, own_Rf u4]) 3 5)) (by rw [own_ints_len, hg1061]; decide) (fun _ q => own_ckat (own_probe5 (l := [own_Rf u0, own_Rf u1, own_Rf u2, own_Rf u3, own_Rf u4]) rfl (n := 5) (i := 2) (by decide) (by decide) (by rw [own_ints_len, hg1061] at q; exact q))) _ V1099 f1106) (W := 0) (by decide) (by decide) (by rw [hml]; rfl) (lenOf pd_29 rfl) (Nat.le_of_eq rfl) (hb hby at_619) (by decide) (by decide) rfl ?_
    rintro T1110 v1110 L1110 X1110 ⟨rfl, e1110, rfl⟩
    rw [List.append_nil] at X1110
    refine E.ifY (q := 627) X1110 hx (hb hby at_622) (XT.i0_ne_t (by decide)) ?_
    refine E.aload (q := 629) X1110 hx (hb hby at_627) rfl rfl ?_
    refine E.aload (q := 631) X1110 hx (hb hby at_629) rfl rfl ?_
    refine E.iload (q := 633) X1110 hx (hb hby at_631) rfl ?_
    refine E.iconst (q := 634) (v := (3 : Int32)) X1110 hx (hb hby at_633) rfl ?_
    refine Ends.callS X1110 hx hZ hown (own_w hw 116 rfl) (own_w hw 117 rfl) (own_w hw 108 rfl) (own_w hw 118 rfl) (by decide) (argsL := [(.ref Pp1061), (.ref b1079), (.int (5 : Int32)), (.int (3 : Int32))]) (rest := []) e1110 (rmPo3 l Z a0 hw Pp1061 b1079 (own_Rf u0) (own_Rf u1) (own_Rf u2) (own_Rf u3) (own_Rf u4) 5 (by decide) (own_ints (own_go (own_gtI [own_Rf u0, own_Rf u1, own_Rf u2, own_Rf u3, own_Rf u4]) 3 5)) (by rw [own_ints_len, hg1061]; decide) (fun _ q => own_ckat (own_probe5 (l := [own_Rf u0, own_Rf u1, own_Rf u2, own_Rf u3, own_Rf u4]) rfl (n := 5) (i := 3) (by decide) (by decide) (by rw [own_ints_len, hg1061] at q; exact q))) _ V1099 f1106) (W := 0) (by decide) (by decide) (by rw [hml]; rfl) (lenOf pd_29 rfl) (Nat.le_of_eq rfl) (hb hby at_634) (by decide) (by decide) rfl ?_
    rintro T1111 v1111 L1111 X1111 ⟨rfl, e1111, rfl⟩
    rw [List.append_nil] at X1111
    refine E.ifY (q := 642) X1111 hx (hb hby at_637) (XT.i0_ne_t (by decide)) ?_
    refine E.aload (q := 644) X1111 hx (hb hby at_642) rfl rfl ?_
    refine E.aload (q := 646) X1111 hx (hb hby at_644) rfl rfl ?_
    refine E.iload (q := 648) X1111 hx (hb hby at_646) rfl ?_
    refine E.iconst (q := 649) (v := (4 : Int32)) X1111 hx (hb hby at_648) rfl ?_
    refine Ends.callS X1111 hx hZ hown (own_w hw 116 rfl) (own_w hw 117 rfl) (own_w hw 108 rfl) (own_w hw 118 rfl) (by decide) (argsL := [(.ref Pp1061), (.ref b1079), (.int (5 : Int32)), (.int (4 : Int32))]) (rest := []) e1111 (rmPo4 l Z a0 hw Pp1061 b1079 (own_Rf u0) (own_Rf u1) (own_Rf u2) (own_Rf u3) (own_Rf u4) 5 (by decide) (own_ints (own_go (own_gtI [own_Rf u0, own_Rf u1, own_Rf u2, own_Rf u3, own_Rf u4]) 3 5)) (by rw [own_ints_len, hg1061]; decide) (fun _ q => own_ckat (own_probe5 (l := [own_Rf u0, own_Rf u1, own_Rf u2, own_Rf u3, own_Rf u4]) rfl (n := 5) (i := 4) (by decide) (by decide) (by rw [own_ints_len, hg1061] at q; exact q))) _ V1099 f1106) (W := 0) (by decide) (by decide) (by rw [hml]; rfl) (lenOf pd_29 rfl) (Nat.le_of_eq rfl) (hb hby at_649) (by decide) (by decide) rfl ?_
    rintro T1112 v1112 L1112 X1112 ⟨rfl, e1112, rfl⟩
    rw [List.append_nil] at X1112
    refine E.ifY (q := 657) X1112 hx (hb hby at_652) (XT.i0_ne_t (by decide)) ?_
    refine E.iconst (q := 658) (v := (1 : Int32)) X1112 hx (hb hby at_657) rfl ?_
    exact Ends.retS X1112 hx hlk hret (by simp) rfl (hb hby at_658) (by decide) (by decide) ⟨⟨rfl, (O1099).fr⟩, by first | exact (Nat.le_trans (Nat.le_trans (Nat.le_trans (Nat.le_trans (Nat.le_trans (Nat.le_trans (Nat.le_trans (Nat.le_refl _) hO1071.1.1) E1079.1) (own_wr_le W1083)) (own_wr_le W1087)) (own_wr_le W1091)) (own_wr_le W1095)) (own_wr_le W1099)) | (rw [e1112]; exact (Nat.le_trans (Nat.le_trans (Nat.le_trans (Nat.le_trans (Nat.le_trans (Nat.le_trans (Nat.le_trans (Nat.le_refl _) hO1071.1.1) E1079.1) (own_wr_le W1083)) (own_wr_le W1087)) (own_wr_le W1091)) (own_wr_le W1095)) (own_wr_le W1099)))⟩ (hF := own_chret X1112 hZ (own_EW hw) HC1100 (by first | rfl | assumption))
theorem own_fv {args : Array Value} {s : State} (hj : ∀ w ∈ jdkStatics_1, w.before args s = true) : ∃ fv : Value, (fv = .null ∨ ∃ a, fv = .ref a) ∧ Sta s s.heap "jdk/internal/util/Preconditions" "SIOOBE_FORMATTER" "Ljava/util/function/BiFunction;" fv := by
  have h1 := Cond.before_iff.mp (hj _ (List.mem_of_getElem? (i := 8) rfl))
  have h2 := hj _ (List.mem_of_getElem? (i := 7) rfl)
  simp only [Cond.value] at h1
  cases ht : (Term.static "jdk/internal/util/Preconditions" "SIOOBE_FORMATTER" "Ljava/util/function/BiFunction;").eval args s none [] s with
  | none => simp [ht] at h1
  | some v =>
    refine ⟨v, ?_, Sta.start (args := args) ht (Or.inl h2)⟩
    cases v <;> simp [ht] at h1 ⊢
theorem own_S2 {args : Array Value} {s : State} (hj : ∀ w ∈ jdkStatics_1, w.before args s = true) : Sta s s.heap "java/lang/StringUTF16" "$assertionsDisabled" "Z" (.int (1 : Int32)) := by
  have h1 := Cond.before_iff.mp (hj _ (List.mem_of_getElem? (i := 12) rfl))
  have h2 := hj _ (List.mem_of_getElem? (i := 11) rfl)
  refine Sta.start (args := args) ?_ (Or.inl h2)
  simp only [Cond.value] at h1
  cases ht : (Term.static "java/lang/StringUTF16" "$assertionsDisabled" "Z").eval args s none [] s with
  | none => simp [ht] at h1
  | some v =>
    rw [ht, show (Term.int (1 : Int32)).eval args s none [] s = some (.int (1 : Int32)) from rfl] at h1
    cases v <;> simp_all
theorem own_S3 {args : Array Value} {s : State} (hj : ∀ w ∈ jdkStatics_1, w.before args s = true) : Sta s s.heap "java/lang/StringUTF16" "HI_BYTE_SHIFT" "I" (.int (0 : Int32)) := by
  have h1 := Cond.before_iff.mp (hj _ (List.mem_of_getElem? (i := 15) rfl))
  have h2 := hj _ (List.mem_of_getElem? (i := 14) rfl)
  refine Sta.start (args := args) ?_ (Or.inl h2)
  simp only [Cond.value] at h1
  cases ht : (Term.static "java/lang/StringUTF16" "HI_BYTE_SHIFT" "I").eval args s none [] s with
  | none => simp [ht] at h1
  | some v =>
    rw [ht, show (Term.int (0 : Int32)).eval args s none [] s = some (.int (0 : Int32)) from rfl] at h1
    cases v <;> simp_all
theorem own_S4 {args : Array Value} {s : State} (hj : ∀ w ∈ jdkStatics_1, w.before args s = true) : Sta s s.heap "java/lang/StringUTF16" "LO_BYTE_SHIFT" "I" (.int (8 : Int32)) := by
  have h1 := Cond.before_iff.mp (hj _ (List.mem_of_getElem? (i := 18) rfl))
  have h2 := hj _ (List.mem_of_getElem? (i := 17) rfl)
  refine Sta.start (args := args) ?_ (Or.inl h2)
  simp only [Cond.value] at h1
  cases ht : (Term.static "java/lang/StringUTF16" "LO_BYTE_SHIFT" "I").eval args s none [] s with
  | none => simp [ht] at h1
  | some v =>
    rw [ht, show (Term.int (8 : Int32)).eval args s none [] s = some (.int (8 : Int32)) from rfl] at h1
    cases v <;> simp_all
theorem own_cs {args : Array Value} {s : State} (hj : ∀ w ∈ jdkStatics_1, w.before args s = true) : ∃ cs : Int32, ¬ cs = (0 : Int32) ∧ Sta s s.heap "java/lang/String" "COMPACT_STRINGS" "Z" (.int cs) := by
  obtain ⟨cs, hv⟩ := is_v (Cond.before_iff.mp (hj _ (List.mem_of_getElem? (i := 1) rfl)))
  refine ⟨cs, fun q => ?_, Sta.start (args := args) hv (Or.inl (hj _ (List.mem_of_getElem? (i := 0) rfl)))⟩
  have h := (hj _ (List.mem_of_getElem? (i := 2) rfl))
  subst q
  simp only [Cond.before, Cond.holds, Cond.value] at h
  rw [hv] at h
  simp [Term.eval] at h
theorem own_CH {args : Array Value} {s : State} (hw : ∀ d ∈ tables_1, d.before args s = true) (hj : ∀ w ∈ jdkStatics_1, w.before args s = true) {tb : Tables} {e : Env} (hc : call_1_1 tb e args s) : CHv s own_EL s.vm s.heap := by
  refine CHv.start (own_EW hw) ?_ (hj _ (List.mem_of_getElem? (i := 2) rfl)) (own_w hw 18 rfl) (own_w hw 5 rfl)
  intro p hp
  simp only [own_EL, List.mem_cons, List.not_mem_nil, or_false] at hp
  rcases hp with rfl
  exact hc ("java/lang/String", 7) (List.mem_of_getElem? (i := 2) rfl)
set_option maxRecDepth 65536 in
set_option maxHeartbeats 40000000 in
theorem comes_1 {Post : Tables → Env → Array Value → State → Outcome → State → Prop} (hpost : ∀ tb e args s v u, (limb_1_1.after args s (.returned v) u = true ∧ limb_1_2.after args s (.returned v) u = true) → ReturnedEndW s (.returned v) u (Jvm.fieldLocs frame_1_writes args s ++ Jvm.arrayLocs frame_1_arrays args s ++ Jvm.staticLocs frame_1_statics s) 48 3328 → Post tb e args s (.returned v) u) :
    ArmFor flags0 classFile x code maxLocals ret World_1 tables_1 room_1 Calls_1 rest_1 Pre_1 Post := by
  intro l hfl _ _ p e ha hc hk s m args below hf hA hF happ hP
  obtain ⟨hcalls, hrest, hpre⟩ := hP
  obtain ⟨-, -, -, hnamed, -, -, -, hat⟩ := (Spec.applies_iff hf).mp happ
  obtain ⟨hg, hn⟩ := and_e (Cond.before_iff.mp (show (Jvm.Cond.and given_1 narrow_1).before args s = true from hpre))
  obtain ⟨g0, hg⟩ := and_e hg
  obtain ⟨ga0, hg⟩ := and_e hg
  obtain ⟨ga1, hg⟩ := and_e hg
  obtain ⟨ga2, hg⟩ := and_e hg
  obtain ⟨ga3, hg⟩ := and_e hg
  obtain ⟨ga4, hg⟩ := and_e hg
  obtain ⟨w0, w1, w2, w3, w4, w5, rfl⟩ : ∃ w0 w1 w2 w3 w4 w5 : Value, args = #[w0, w1, w2, w3, w4, w5] := by
    have hs : args.size = 6 := by simpa [Cond.value, given_1] using g0
    obtain ⟨L⟩ := args
    match L, hs with
    | [w0, w1, w2, w3, w4, w5], _ => exact ⟨w0, w1, w2, w3, w4, w5, rfl⟩
  have hw := fun d (hd : d ∈ tables_1) => atoms_spec (ws := Jvm.Cond.code x code maxLocals ret :: tables_1) hat d (List.mem_cons_of_mem _ hd)
  have hj := (atoms_of (own := restOwn_1) jdkStatics_1 (show (jdkStatics_1.foldr Jvm.Cond.and restOwn_1).before _ s = true from hrest)).1
  obtain ⟨cs, hcs, S0⟩ := own_cs hj
  have hCH := own_CH hw hj hcalls.1
  obtain ⟨fv, hfv, S1⟩ := own_fv hj
  obtain ⟨rr, SR, A_R⟩ := own_rar hw hn
  obtain ⟨i0, ei0⟩ := is_v ga0
  obtain rfl : w0 = (.int i0) := Option.some.inj ei0
  obtain ⟨i1, ei1⟩ := is_v ga1
  obtain rfl : w1 = (.int i1) := Option.some.inj ei1
  obtain ⟨i2, ei2⟩ := is_v ga2
  obtain rfl : w2 = (.int i2) := Option.some.inj ei2
  obtain ⟨i3, ei3⟩ := is_v ga3
  obtain rfl : w3 = (.int i3) := Option.some.inj ei3
  obtain ⟨i4, ei4⟩ := is_v ga4
  obtain rfl : w4 = (.int i4) := Option.some.inj ei4
  obtain ⟨i5, ei5⟩ := is_v hg
  obtain rfl : w5 = (.int i5) := Option.some.inj ei5
  obtain ⟨n, o, h1, h2, h3, _, L, rfl, ⟨rfl, N⟩, -, hq⟩ := rm0 l s _ hw i0 i1 i2 i3 i4 i5 rr s.heap cs hcs S0 fv hfv S1 (own_S2 hj) (own_S3 hj) (own_S4 hj) SR A_R p e ha hc hk s m _ below hf ((Spec.applies_iff_loose hf).mp happ).1 ⟨rfl, State.Warmed39.refl s, rfl, hCH⟩ trivial
  exact ⟨n, _, h1, h2, h3, hpost _ _ _ _ _ _ ⟨Cond.after_iff.mpr rfl, Cond.after_iff.mpr (eq_i res_at (Term.int_eval (1)) rfl)⟩ ⟨hq.1, hq.2.1, hq.2.2.1, (hq.2.2.2.sift fun y hy => Or.inr (N y hy)).mono (by decide) (by decide)⟩⟩
theorem main_1_1 : Claimed_1_1 := comes_1 fun _ _ _ _ _ _ h hF => ⟨h.1, hF⟩
theorem main_1_2 : Claimed_1_2 := comes_1 fun _ _ _ _ _ _ h hF => ⟨h.2, hF⟩
end Jvm.Pilot.@@N@@
namespace Jvm.Pilot.@@N@@
open Jvm Jvm.ClassFile Sem Op Lib Jvm.Free Jvm.Stand Jvm.Pilot.@@N@@.Jvm.D
/-! MADE BY PROGRAM (witnessworld.py) out of the Statement's table words and the real class files: 27 classes; the members and pool entries that the words name. The judged class is class 1, her method 1. -/
namespace start1
open Jvm.ClassFile
def u (s : String) : CpInfo := .utf8 (stringToUtf16 s)
/-- a pool by its gaps: so many unusable entries, then the entry; so many at the end -/
def gap : Nat → List CpInfo → List CpInfo
  | 0, r => r
  | n + 1, r => .unusable :: gap n r
def poolList (es : List (Nat × CpInfo)) (last : Nat) : List CpInfo := es.foldr (fun e r => gap e.1 (e.2 :: r)) (gap last [])
def pool (es : List (Nat × CpInfo)) (last : Nat) : Array CpInfo := ⟨poolList es last⟩
def fileOf (pool : Array CpInfo) (this : Nat) (attrs : Array Attribute := #[]) (ms : Array MethodInfo := #[]) (fl : Nat := 33) (sup : Nat := 0) (ifs : Array Nat := #[]) (fds : Array FieldInfo := #[]) : ClassFile where
  minorVersion := 0
  majorVersion := 65
  constantPool := pool
  accessFlags := fl
  thisClass := this
  superClass := sup
  interfaces := ifs
  fields := fds
  methods := ms
  attributes := attrs
def plain (name : String) (sup : Option ClassId) : Class where
  name := name
  kind := .ordinary
  loader := none
  accessFlags := 33
  super := sup
  interfaces := #[]
  cf := none
  fields := #[]
  methods := #[]
  instanceTypes := #[]
  staticTypes := #[]
  resolved := #[]
  callSites := []
  init := .initialized
  statics := none
  mirror := none

def pool0 : Array CpInfo := pool [(5, u "<init>"), (0, u "()V"), (1, .class_ 10), (1, u "java/lang/Object"), (85, u "clone"), (0, u "()Ljava/lang/Object;")] 26

def k0c0 : Code := { maxStack := 0, maxLocals := 1, code := object_method_1_code, exceptionTable := #[], attributes := #[] }
def k0m0 : Method := { name := "<init>", desc := "()V", sig := { parameters := [], returnType := none }, accessFlags := 1, code := some k0c0 }
def k0m1 : Method := { name := "clone", desc := "()Ljava/lang/Object;", sig := { parameters := [], returnType := some (.object "java/lang/Object") }, accessFlags := 260, code := none }
/-- java/lang/Object -/
def k0 : Class := { plain "java/lang/Object" none with
  accessFlags := 33
  interfaces := #[]
  cf := some (fileOf pool0 8 #[] #[{ accessFlags := 1, nameIndex := 5, descriptorIndex := 6, attributes := #[] }, { accessFlags := 260, nameIndex := 96, descriptorIndex := 97, attributes := #[] }] 33 0 #[] #[])
  fields := #[]
  methods := #[k0m0, k0m1]
  instanceTypes := #[]
  staticTypes := #[]
  resolved := Array.replicate 124 none
  statics := none }

def pool1 : Array CpInfo := pool [(2, .class_ 4), (1, u "java/lang/Object"), (0, u "<init>"), (0, u "()V"), (0, .integer 2147483647), (0, .integer 65535), (0, .class_ 10), (0, u "java/lang/String"), (0, .methodref 9 12), (0, .nameAndType 5 13), (0, u "([C)V"), (0, .methodref 15 16), (0, .class_ 17), (0, .nameAndType 18 19), (0, u "com/example/needlework/needlework/match/CompiledPattern"), (0, u "of"), (0, u "(Ljava/lang/CharSequence;)Lcom/example/needlework/needlework/match/CompiledPattern;"), (0, .methodref 15 21), (0, .nameAndType 22 23), (0, u "length"), (0, u "()I"), (0, .methodref 15 25), (0, .nameAndType 26 27), (0, u "unit"), (0, u "(I)I"), (0, .methodref 15 29), (0, .nameAndType 30 31), (0, u "prefixTable"), (0, u "()[I"), (0, .methodref 33 34), (0, .class_ 35), (0, .nameAndType 36 37), (0, u "com/example/needlework/needlework/match/CompiledPatternOfPinLaw"), (0, u "border"), (0, u "([II)I"), (0, .methodref 33 39), (0, .nameAndType 40 27), (0, u "rarity"), (0, .methodref 15 42), (0, .nameAndType 43 31), (0, u "probes"), (0, .methodref 45 46), (0, .class_ 47), (0, .nameAndType 48 49), (0, u "java/lang/Math"), (0, u "min"), (0, u "(II)I"), (0, .methodref 33 51), (0, .nameAndType 52 53), (0, u "probeOk"), (0, u "([I[III)Z"), (0, .methodref 33 55), (0, .nameAndType 56 57), (0, u "before"), (0, u "([IIII)I"), (0, .methodref 33 59), (0, .nameAndType 60 61), (0, u "matches"), (0, u "([III)Z"), (2, u "law"), (0, u "(IIIIII)Z")] 7

def k1m0 : Method := { name := "<init>", desc := "()V", sig := { parameters := [], returnType := none }, accessFlags := 1, code := none }
def k1c1 : Code := { maxStack := 5, maxLocals := 13, code := code, exceptionTable := #[], attributes := #[] }
def k1m1 : Method := { name := "law", desc := "(IIIIII)Z", sig := { parameters := [.int, .int, .int, .int, .int, .int], returnType := some .boolean }, accessFlags := 9, code := some k1c1 }
def k1c2 : Code := { maxStack := 5, maxLocals := 5, code := method_3_code, exceptionTable := #[], attributes := #[] }
def k1m2 : Method := { name := "probeOk", desc := "([I[III)Z", sig := { parameters := [(.array .int), (.array .int), .int, .int], returnType := some .boolean }, accessFlags := 10, code := some k1c2 }
def k1c3 : Code := { maxStack := 3, maxLocals := 4, code := method_4_code, exceptionTable := #[], attributes := #[] }
def k1m3 : Method := { name := "before", desc := "([IIII)I", sig := { parameters := [(.array .int), .int, .int, .int], returnType := some .int }, accessFlags := 10, code := some k1c3 }
def k1c4 : Code := { maxStack := 4, maxLocals := 4, code := method_5_code, exceptionTable := #[], attributes := #[] }
def k1m4 : Method := { name := "matches", desc := "([III)Z", sig := { parameters := [(.array .int), .int, .int], returnType := some .boolean }, accessFlags := 10, code := some k1c4 }
def k1c5 : Code := { maxStack := 3, maxLocals := 2, code := method_6_code, exceptionTable := #[], attributes := #[] }
def k1m5 : Method := { name := "border", desc := "([II)I", sig := { parameters := [(.array .int), .int], returnType := some .int }, accessFlags := 10, code := some k1c5 }
def k1c6 : Code := { maxStack := 2, maxLocals := 2, code := method_7_code, exceptionTable := #[], attributes := #[] }
def k1m6 : Method := { name := "rarity", desc := "(I)I", sig := { parameters := [.int], returnType := some .int }, accessFlags := 10, code := some k1c6 }
/-- com/example/needlework/needlework/match/CompiledPatternOfPinLaw -/
def k1 : Class := { plain "com/example/needlework/needlework/match/CompiledPatternOfPinLaw" (some 0) with
  accessFlags := 49
  interfaces := #[]
  cf := some (fileOf pool1 33 #[] #[{ accessFlags := 1, nameIndex := 5, descriptorIndex := 6, attributes := #[] }, { accessFlags := 9, nameIndex := 64, descriptorIndex := 65, attributes := #[] }, { accessFlags := 10, nameIndex := 52, descriptorIndex := 53, attributes := #[] }, { accessFlags := 10, nameIndex := 56, descriptorIndex := 57, attributes := #[] }, { accessFlags := 10, nameIndex := 60, descriptorIndex := 61, attributes := #[] }, { accessFlags := 10, nameIndex := 36, descriptorIndex := 37, attributes := #[] }, { accessFlags := 10, nameIndex := 40, descriptorIndex := 27, attributes := #[] }] 49 2 #[] #[])
  fields := #[]
  methods := #[k1m0, k1m1, k1m2, k1m3, k1m4, k1m5, k1m6]
  instanceTypes := #[]
  staticTypes := #[]
  resolved := Array.replicate 73 none
  statics := none }

def pool2 : Array CpInfo := pool [(1, .class_ 2), (0, u "java/io/Serializable"), (0, .class_ 4), (0, u "java/lang/Object")] 2

/-- java/io/Serializable -/
def k2 : Class := { plain "java/io/Serializable" (some 0) with
  accessFlags := 1537
  interfaces := #[]
  cf := some (fileOf pool2 1 #[] #[] 1537 3 #[] #[])
  fields := #[]
  methods := #[]
  instanceTypes := #[]
  staticTypes := #[]
  resolved := Array.replicate 7 none
  statics := none }

def pool3 : Array CpInfo := pool [(1, .class_ 2), (0, u "java/lang/Comparable"), (0, .class_ 4), (0, u "java/lang/Object")] 7

/-- java/lang/Comparable -/
def k3 : Class := { plain "java/lang/Comparable" (some 0) with
  accessFlags := 1537
  interfaces := #[]
  cf := some (fileOf pool3 1 #[] #[] 1537 3 #[] #[])
  fields := #[]
  methods := #[]
  instanceTypes := #[]
  staticTypes := #[]
  resolved := Array.replicate 12 none
  statics := none }

def pool4 : Array CpInfo := pool [(2, .class_ 4), (1, u "java/lang/CharSequence"), (0, u "length"), (0, u "()I"), (38, u "charAt"), (0, u "(I)C"), (0, .class_ 48), (0, u "java/lang/CharSequence$1CodePointIterator"), (10, .class_ 60), (0, u "java/lang/CharSequence$1CharIterator"), (5, .class_ 67), (0, u "java/lang/Object")] 63

def k4m0 : Method := { name := "length", desc := "()I", sig := { parameters := [], returnType := some .int }, accessFlags := 1025, code := none }
def k4m1 : Method := { name := "charAt", desc := "(I)C", sig := { parameters := [.int], returnType := some .char }, accessFlags := 1025, code := none }
/-- java/lang/CharSequence -/
def k4 : Class := { plain "java/lang/CharSequence" (some 0) with
  accessFlags := 1537
  interfaces := #[]
  cf := some (fileOf pool4 2 #[.nestMembers #[47, 59]] #[{ accessFlags := 1025, nameIndex := 5, descriptorIndex := 6, attributes := #[] }, { accessFlags := 1025, nameIndex := 45, descriptorIndex := 46, attributes := #[] }] 1537 66 #[] #[])
  fields := #[]
  methods := #[k4m0, k4m1]
  instanceTypes := #[]
  staticTypes := #[]
  resolved := Array.replicate 131 none
  statics := none }

def pool5 : Array CpInfo := pool [(1, .class_ 2), (0, u "java/lang/constant/Constable"), (0, .class_ 4), (0, u "java/lang/Object")] 6

/-- java/lang/constant/Constable -/
def k5 : Class := { plain "java/lang/constant/Constable" (some 0) with
  accessFlags := 1537
  interfaces := #[]
  cf := some (fileOf pool5 1 #[] #[] 1537 3 #[] #[])
  fields := #[]
  methods := #[]
  instanceTypes := #[]
  staticTypes := #[]
  resolved := Array.replicate 11 none
  statics := none }

def pool6 : Array CpInfo := pool [(1, .class_ 2), (0, u "java/lang/constant/ConstantDesc"), (0, .class_ 4), (0, u "java/lang/Object")] 32

/-- java/lang/constant/ConstantDesc -/
def k6 : Class := { plain "java/lang/constant/ConstantDesc" (some 0) with
  accessFlags := 1537
  interfaces := #[]
  cf := some (fileOf pool6 1 #[] #[] 1537 3 #[] #[])
  fields := #[]
  methods := #[]
  instanceTypes := #[]
  staticTypes := #[]
  resolved := Array.replicate 37 none
  statics := none }

def pool7 : Array CpInfo := pool [(1, .methodref 2 3), (0, .class_ 4), (0, .nameAndType 5 6), (0, u "java/lang/Object"), (0, u "<init>"), (0, u "()V"), (0, .string 8), (0, u ""), (0, .fieldref 10 11), (0, .class_ 12), (0, .nameAndType 13 14), (0, u "java/lang/String"), (0, u "value"), (0, u "[B"), (0, .fieldref 10 16), (0, .nameAndType 17 18), (0, u "coder"), (0, u "B"), (2, u "hash"), (0, u "I"), (2, u "hashIsZero"), (0, u "Z"), (0, .methodref 10 28), (0, .nameAndType 5 29), (0, u "([CIILjava/lang/Void;)V"), (8, .fieldref 10 39), (0, .nameAndType 40 26), (0, u "COMPACT_STRINGS"), (1, .class_ 44), (1, u "java/lang/StringUTF16"), (0, u "compress"), (1, .methodref 42 48), (0, .nameAndType 49 50), (0, u "coderFromArrayLen"), (0, u "([BI)B"), (56, .class_ 109), (1, u "java/lang/StringLatin1"), (32, u "()Z"), (34, .methodref 42 178), (0, .nameAndType 45 179), (0, u "([CII)[B"), (154, u "()I"), (0, .methodref 10 336), (0, .nameAndType 17 337), (0, u "()B"), (25, u "([BI)C"), (27, u "(II)V"), (35, u "(I)C"), (64, .methodref 10 493), (0, .nameAndType 494 142), (0, u "isLatin1"), (0, .methodref 107 496), (0, .nameAndType 497 363), (0, u "charAt"), (0, .methodref 42 496), (2, u "checkIndex"), (5, u "length"), (67, .class_ 576), (0, u "java/lang/CharSequence"), (22, u "CASE_INSENSITIVE_ORDER"), (0, u "Ljava/util/Comparator;"), (409, u "([C)V"), (42, .fieldref 1054 1055), (0, .class_ 1056), (0, .nameAndType 1057 1058), (0, u "jdk/internal/util/Preconditions"), (0, u "SIOOBE_FORMATTER"), (0, u "Ljava/util/function/BiFunction;"), (0, .methodref 1054 1060), (0, .nameAndType 501 1061), (0, u "(IILjava/util/function/BiFunction;)I"), (39, u "serialPersistentFields"), (0, u "[Ljava/io/ObjectStreamField;"), (0, .class_ 1104), (0, u "java/lang/String$CaseInsensitiveComparator"), (1, .class_ 1107), (0, u "java/io/Serializable"), (0, .class_ 1109), (0, u "java/lang/Comparable"), (0, .class_ 1111), (0, u "java/lang/constant/Constable"), (0, .class_ 1113), (0, u "java/lang/constant/ConstantDesc"), (2, u "serialVersionUID"), (0, u "J"), (3, u "REPL"), (0, u "C"), (2, u "LATIN1"), (1, u "UTF16")] 323

def k7m0 : Method := { name := "<init>", desc := "()V", sig := { parameters := [], returnType := none }, accessFlags := 1, code := none }
def k7c1 : Code := { maxStack := 5, maxLocals := 2, code := jdk_42_method_3_code, exceptionTable := #[], attributes := #[] }
def k7m1 : Method := { name := "<init>", desc := "([C)V", sig := { parameters := [(.array .char)], returnType := none }, accessFlags := 1, code := some k7c1 }
def k7c2 : Code := { maxStack := 2, maxLocals := 1, code := jdk_42_method_54_code, exceptionTable := #[], attributes := #[] }
def k7m2 : Method := { name := "length", desc := "()I", sig := { parameters := [], returnType := some .int }, accessFlags := 1, code := some k7c2 }
def k7c3 : Code := { maxStack := 2, maxLocals := 2, code := jdk_42_method_56_code, exceptionTable := #[], attributes := #[] }
def k7m3 : Method := { name := "charAt", desc := "(I)C", sig := { parameters := [.int], returnType := some .char }, accessFlags := 1, code := some k7c3 }
def k7c4 : Code := { maxStack := 4, maxLocals := 6, code := jdk_42_method_149_code, exceptionTable := #[], attributes := #[] }
def k7m4 : Method := { name := "<init>", desc := "([CIILjava/lang/Void;)V", sig := { parameters := [(.array .char), .int, .int, (.object "java/lang/Void")], returnType := none }, accessFlags := 2, code := some k7c4 }
def k7c5 : Code := { maxStack := 1, maxLocals := 1, code := jdk_42_method_152_code, exceptionTable := #[], attributes := #[] }
def k7m5 : Method := { name := "coder", desc := "()B", sig := { parameters := [], returnType := some .byte }, accessFlags := 0, code := some k7c5 }
def k7c6 : Code := { maxStack := 1, maxLocals := 1, code := jdk_42_method_154_code, exceptionTable := #[], attributes := #[] }
def k7m6 : Method := { name := "isLatin1", desc := "()Z", sig := { parameters := [], returnType := some .boolean }, accessFlags := 0, code := some k7c6 }
def k7c7 : Code := { maxStack := 3, maxLocals := 2, code := jdk_42_method_155_code, exceptionTable := #[], attributes := #[] }
def k7m7 : Method := { name := "checkIndex", desc := "(II)V", sig := { parameters := [.int, .int], returnType := none }, accessFlags := 8, code := some k7c7 }
/-- java/lang/String -/
def k7 : Class := { plain "java/lang/String" (some 0) with
  accessFlags := 49
  interfaces := #[2, 3, 4, 5, 6]
  cf := some (fileOf pool7 10 #[.nestMembers #[1103]] #[{ accessFlags := 1, nameIndex := 5, descriptorIndex := 6, attributes := #[] }, { accessFlags := 1, nameIndex := 5, descriptorIndex := 1010, attributes := #[] }, { accessFlags := 1, nameIndex := 507, descriptorIndex := 334, attributes := #[] }, { accessFlags := 1, nameIndex := 497, descriptorIndex := 427, attributes := #[] }, { accessFlags := 2, nameIndex := 5, descriptorIndex := 29, attributes := #[] }, { accessFlags := 0, nameIndex := 17, descriptorIndex := 337, attributes := #[] }, { accessFlags := 0, nameIndex := 494, descriptorIndex := 142, attributes := #[] }, { accessFlags := 8, nameIndex := 501, descriptorIndex := 391, attributes := #[] }] 49 2 #[1106, 1108, 575, 1110, 1112] #[{ accessFlags := 18, nameIndex := 13, descriptorIndex := 14, attributes := #[] }, { accessFlags := 18, nameIndex := 17, descriptorIndex := 18, attributes := #[] }, { accessFlags := 2, nameIndex := 21, descriptorIndex := 22, attributes := #[] }, { accessFlags := 2, nameIndex := 25, descriptorIndex := 26, attributes := #[] }, { accessFlags := 26, nameIndex := 1116, descriptorIndex := 1117, attributes := #[] }, { accessFlags := 24, nameIndex := 40, descriptorIndex := 26, attributes := #[] }, { accessFlags := 26, nameIndex := 1101, descriptorIndex := 1102, attributes := #[] }, { accessFlags := 26, nameIndex := 1121, descriptorIndex := 1122, attributes := #[] }, { accessFlags := 25, nameIndex := 599, descriptorIndex := 600, attributes := #[] }, { accessFlags := 24, nameIndex := 1125, descriptorIndex := 18, attributes := #[] }, { accessFlags := 24, nameIndex := 1127, descriptorIndex := 18, attributes := #[] }])
  fields := #[{ name := "value", type := (.array .byte), accessFlags := 18, slot := 0, constantValue := 0 }, { name := "coder", type := .byte, accessFlags := 18, slot := 1, constantValue := 0 }, { name := "hash", type := .int, accessFlags := 2, slot := 2, constantValue := 0 }, { name := "hashIsZero", type := .boolean, accessFlags := 2, slot := 3, constantValue := 0 }, { name := "serialVersionUID", type := .long, accessFlags := 26, slot := 0, constantValue := 0 }, { name := "COMPACT_STRINGS", type := .boolean, accessFlags := 24, slot := 1, constantValue := 0 }, { name := "serialPersistentFields", type := (.array (.object "java/io/ObjectStreamField")), accessFlags := 26, slot := 2, constantValue := 0 }, { name := "REPL", type := .char, accessFlags := 26, slot := 3, constantValue := 0 }, { name := "CASE_INSENSITIVE_ORDER", type := (.object "java/util/Comparator"), accessFlags := 25, slot := 4, constantValue := 0 }, { name := "LATIN1", type := .byte, accessFlags := 24, slot := 5, constantValue := 0 }, { name := "UTF16", type := .byte, accessFlags := 24, slot := 6, constantValue := 0 }]
  methods := #[k7m0, k7m1, k7m2, k7m3, k7m4, k7m5, k7m6, k7m7]
  instanceTypes := #[(.array .byte), .byte, .int, .boolean]
  staticTypes := #[.long, .boolean, (.array (.object "java/io/ObjectStreamField")), .char, (.object "java/util/Comparator"), .byte, .byte]
  resolved := Array.replicate 1451 none
  statics := some 0 }

def pool8 : Array CpInfo := pool [(1, .methodref 2 3), (0, .class_ 4), (0, .nameAndType 5 6), (0, u "java/lang/Object"), (0, u "<init>"), (0, u "()V"), (0, .fieldref 8 9), (0, .class_ 10), (0, .nameAndType 11 12), (0, u "com/example/needlework/needlework/match/CompiledPattern"), (0, u "units"), (0, u "[I"), (0, .fieldref 8 14), (0, .nameAndType 15 12), (0, u "table"), (0, .fieldref 8 17), (0, .nameAndType 18 12), (0, u "probes"), (0, .string 20), (0, u "pattern"), (0, .methodref 22 23), (0, .class_ 24), (0, .nameAndType 25 26), (0, u "java/util/Objects"), (0, u "requireNonNull"), (0, u "(Ljava/lang/Object;Ljava/lang/String;)Ljava/lang/Object;"), (0, .interfaceMethodref 28 29), (0, .class_ 30), (0, .nameAndType 31 32), (0, u "java/lang/CharSequence"), (0, u "length"), (0, u "()I"), (0, .methodref 22 34), (0, .nameAndType 25 35), (0, u "(Ljava/lang/Object;)Ljava/lang/Object;"), (0, .invokeDynamic 0 37), (0, .nameAndType 38 39), (0, u "applyAsInt"), (0, u "(Ljava/lang/CharSequence;)Ljava/util/function/IntUnaryOperator;"), (0, .methodref 41 42), (0, .class_ 43), (0, .nameAndType 44 45), (0, u "com/example/needlework/needlework/match/PrefixTable"), (0, u "of"), (0, u "(Ljava/lang/CharSequence;)[I"), (0, .methodref 8 47), (0, .nameAndType 44 48), (0, u "(ILjava/util/function/IntUnaryOperator;[I)Lcom/example/needlework/needlework/match/CompiledPattern;"), (6, .methodref 56 57), (0, .class_ 58), (0, .nameAndType 59 60), (0, u "java/lang/Math"), (0, u "min"), (0, u "(II)I"), (0, .interfaceMethodref 62 63), (0, .class_ 64), (0, .nameAndType 38 65), (0, u "java/util/function/IntUnaryOperator"), (0, u "(I)I"), (0, .fieldref 8 67), (0, .nameAndType 68 69), (0, u "RARITY"), (0, u "[B"), (0, .methodref 8 71), (0, .nameAndType 72 73), (0, u "pick"), (0, u "([I[IIII)I"), (0, .methodref 8 75), (0, .nameAndType 5 76), (0, u "([I[I[I)V"), (0, .methodref 78 79), (0, .class_ 12), (0, .nameAndType 80 81), (0, u "clone"), (0, u "()Ljava/lang/Object;"), (0, .methodref 83 84), (0, .class_ 85), (0, .nameAndType 86 87), (0, u "java/lang/System"), (0, u "arraycopy"), (0, u "(Ljava/lang/Object;ILjava/lang/Object;II)V"), (12, .nameAndType 101 102), (0, u "charAt"), (0, u "(I)C"), (4, u "MOST_PROBES"), (0, u "I"), (2, u "COMMON"), (0, u "Ljava/lang/String;"), (2, u "(Ljava/lang/CharSequence;)Lcom/example/needlework/needlework/match/CompiledPattern;"), (2, u "prefixTable"), (0, u "()[I"), (0, u "unit"), (8, .methodType 65), (0, .methodHandle 9 131), (0, .interfaceMethodref 28 100), (3, .methodHandle 6 136), (0, .methodref 137 138), (0, .class_ 139), (0, .nameAndType 140 141), (0, u "java/lang/invoke/LambdaMetafactory"), (0, u "metafactory"), (0, u "(Ljava/lang/invoke/MethodHandles$Lookup;Ljava/lang/String;Ljava/lang/invoke/MethodType;Ljava/lang/invoke/MethodType;Ljava/lang/invoke/MethodHandle;Ljava/lang/invoke/MethodType;)Ljava/lang/invoke/CallSite;")] 6

def k8c0 : Code := { maxStack := 2, maxLocals := 4, code := prog_14_method_1_code, exceptionTable := #[], attributes := #[] }
def k8m0 : Method := { name := "<init>", desc := "([I[I[I)V", sig := { parameters := [(.array .int), (.array .int), (.array .int)], returnType := none }, accessFlags := 2, code := some k8c0 }
def k8c1 : Code := { maxStack := 3, maxLocals := 1, code := prog_14_method_2_code, exceptionTable := #[], attributes := #[] }
def k8m1 : Method := { name := "of", desc := "(Ljava/lang/CharSequence;)Lcom/example/needlework/needlework/match/CompiledPattern;", sig := { parameters := [(.object "java/lang/CharSequence")], returnType := some (.object "com/example/needlework/needlework/match/CompiledPattern") }, accessFlags := 9, code := some k8c1 }
def k8c2 : Code := { maxStack := 5, maxLocals := 11, code := prog_14_method_4_code, exceptionTable := #[], attributes := #[] }
def k8m2 : Method := { name := "of", desc := "(ILjava/util/function/IntUnaryOperator;[I)Lcom/example/needlework/needlework/match/CompiledPattern;", sig := { parameters := [.int, (.object "java/util/function/IntUnaryOperator"), (.array .int)], returnType := some (.object "com/example/needlework/needlework/match/CompiledPattern") }, accessFlags := 10, code := some k8c2 }
def k8c3 : Code := { maxStack := 1, maxLocals := 1, code := prog_14_method_5_code, exceptionTable := #[], attributes := #[] }
def k8m3 : Method := { name := "prefixTable", desc := "()[I", sig := { parameters := [], returnType := some (.array .int) }, accessFlags := 1, code := some k8c3 }
def k8c4 : Code := { maxStack := 1, maxLocals := 1, code := prog_14_method_6_code, exceptionTable := #[], attributes := #[] }
def k8m4 : Method := { name := "length", desc := "()I", sig := { parameters := [], returnType := some .int }, accessFlags := 0, code := some k8c4 }
def k8c5 : Code := { maxStack := 2, maxLocals := 2, code := prog_14_method_7_code, exceptionTable := #[], attributes := #[] }
def k8m5 : Method := { name := "unit", desc := "(I)I", sig := { parameters := [.int], returnType := some .int }, accessFlags := 0, code := some k8c5 }
def k8c6 : Code := { maxStack := 1, maxLocals := 1, code := prog_14_method_8_code, exceptionTable := #[], attributes := #[] }
def k8m6 : Method := { name := "probes", desc := "()[I", sig := { parameters := [], returnType := some (.array .int) }, accessFlags := 0, code := some k8c6 }
def k8c7 : Code := { maxStack := 6, maxLocals := 7, code := prog_14_method_10_code, exceptionTable := #[], attributes := #[] }
def k8m7 : Method := { name := "pick", desc := "([I[IIII)I", sig := { parameters := [(.array .int), (.array .int), .int, .int, .int], returnType := some .int }, accessFlags := 10, code := some k8c7 }
/-- com/example/needlework/needlework/match/CompiledPattern -/
def k8 : Class := { plain "com/example/needlework/needlework/match/CompiledPattern" (some 0) with
  accessFlags := 49
  interfaces := #[]
  cf := some (fileOf pool8 8 #[.bootstrapMethods #[⟨135, #[129, 130, 129]⟩, ⟨0, #[]⟩]] #[{ accessFlags := 2, nameIndex := 5, descriptorIndex := 76, attributes := #[] }, { accessFlags := 9, nameIndex := 44, descriptorIndex := 115, attributes := #[] }, { accessFlags := 10, nameIndex := 44, descriptorIndex := 48, attributes := #[] }, { accessFlags := 1, nameIndex := 118, descriptorIndex := 119, attributes := #[] }, { accessFlags := 0, nameIndex := 31, descriptorIndex := 32, attributes := #[] }, { accessFlags := 0, nameIndex := 120, descriptorIndex := 65, attributes := #[] }, { accessFlags := 0, nameIndex := 18, descriptorIndex := 119, attributes := #[] }, { accessFlags := 10, nameIndex := 72, descriptorIndex := 73, attributes := #[] }] 49 2 #[] #[{ accessFlags := 26, nameIndex := 107, descriptorIndex := 108, attributes := #[] }, { accessFlags := 26, nameIndex := 111, descriptorIndex := 112, attributes := #[] }, { accessFlags := 26, nameIndex := 68, descriptorIndex := 69, attributes := #[] }, { accessFlags := 18, nameIndex := 11, descriptorIndex := 12, attributes := #[] }, { accessFlags := 18, nameIndex := 15, descriptorIndex := 12, attributes := #[] }, { accessFlags := 18, nameIndex := 18, descriptorIndex := 12, attributes := #[] }])
  fields := #[{ name := "MOST_PROBES", type := .int, accessFlags := 26, slot := 0, constantValue := 0 }, { name := "COMMON", type := (.object "java/lang/String"), accessFlags := 26, slot := 1, constantValue := 0 }, { name := "RARITY", type := (.array .byte), accessFlags := 26, slot := 2, constantValue := 0 }, { name := "units", type := (.array .int), accessFlags := 18, slot := 0, constantValue := 0 }, { name := "table", type := (.array .int), accessFlags := 18, slot := 1, constantValue := 0 }, { name := "probes", type := (.array .int), accessFlags := 18, slot := 2, constantValue := 0 }]
  methods := #[k8m0, k8m1, k8m2, k8m3, k8m4, k8m5, k8m6, k8m7]
  instanceTypes := #[(.array .int), (.array .int), (.array .int)]
  staticTypes := #[.int, (.object "java/lang/String"), (.array .byte)]
  resolved := Array.replicate 148 none
  callSites := [(1, 19, .makes 25)]
  statics := some 1 }

def pool9 : Array CpInfo := pool [(2, .class_ 4), (1, u "java/lang/Object"), (0, u "<init>"), (0, u "()V"), (35, .class_ 44), (1, u "java/util/Objects"), (0, u "requireNonNull"), (0, u "(Ljava/lang/Object;)Ljava/lang/Object;"), (47, u "(Ljava/lang/Object;Ljava/lang/String;)Ljava/lang/Object;")] 89

def k9m0 : Method := { name := "<init>", desc := "()V", sig := { parameters := [], returnType := none }, accessFlags := 2, code := none }
def k9c1 : Code := { maxStack := 2, maxLocals := 1, code := jdk_31_method_10_code, exceptionTable := #[], attributes := #[] }
def k9m1 : Method := { name := "requireNonNull", desc := "(Ljava/lang/Object;)Ljava/lang/Object;", sig := { parameters := [(.object "java/lang/Object")], returnType := some (.object "java/lang/Object") }, accessFlags := 9, code := some k9c1 }
def k9c2 : Code := { maxStack := 3, maxLocals := 2, code := jdk_31_method_11_code, exceptionTable := #[], attributes := #[] }
def k9m2 : Method := { name := "requireNonNull", desc := "(Ljava/lang/Object;Ljava/lang/String;)Ljava/lang/Object;", sig := { parameters := [(.object "java/lang/Object"), (.object "java/lang/String")], returnType := some (.object "java/lang/Object") }, accessFlags := 9, code := some k9c2 }
/-- java/util/Objects -/
def k9 : Class := { plain "java/util/Objects" (some 0) with
  accessFlags := 49
  interfaces := #[]
  cf := some (fileOf pool9 42 #[] #[{ accessFlags := 2, nameIndex := 5, descriptorIndex := 6, attributes := #[] }, { accessFlags := 9, nameIndex := 45, descriptorIndex := 46, attributes := #[] }, { accessFlags := 9, nameIndex := 45, descriptorIndex := 94, attributes := #[] }] 49 2 #[] #[])
  fields := #[]
  methods := #[k9m0, k9m1, k9m2]
  instanceTypes := #[]
  staticTypes := #[]
  resolved := Array.replicate 184 none
  statics := none }

def pool10 : Array CpInfo := pool [(9, u "applyAsInt"), (6, .class_ 18), (1, u "java/util/function/IntUnaryOperator"), (0, u "(I)I"), (0, .class_ 21), (0, u "java/lang/Object")] 46

def k10m0 : Method := { name := "applyAsInt", desc := "(I)I", sig := { parameters := [.int], returnType := some .int }, accessFlags := 1025, code := none }
/-- java/util/function/IntUnaryOperator -/
def k10 : Class := { plain "java/util/function/IntUnaryOperator" (some 0) with
  accessFlags := 1537
  interfaces := #[]
  cf := some (fileOf pool10 16 #[] #[{ accessFlags := 1025, nameIndex := 9, descriptorIndex := 19, attributes := #[] }] 1537 20 #[] #[])
  fields := #[]
  methods := #[k10m0]
  instanceTypes := #[]
  staticTypes := #[]
  resolved := Array.replicate 68 none
  statics := none }

def pool11 : Array CpInfo := pool [(2, .class_ 4), (1, u "java/lang/Object"), (0, u "<init>"), (0, u "()V"), (0, .string 8), (0, u "pattern"), (0, .methodref 10 11), (0, .class_ 12), (0, .nameAndType 13 14), (0, u "java/util/Objects"), (0, u "requireNonNull"), (0, u "(Ljava/lang/Object;Ljava/lang/String;)Ljava/lang/Object;"), (0, .interfaceMethodref 16 17), (0, .class_ 18), (0, .nameAndType 19 20), (0, u "java/lang/CharSequence"), (0, u "length"), (0, u "()I"), (0, .methodref 10 22), (0, .nameAndType 13 23), (0, u "(Ljava/lang/Object;)Ljava/lang/Object;"), (0, .invokeDynamic 0 25), (0, .nameAndType 26 27), (0, u "applyAsInt"), (0, u "(Ljava/lang/CharSequence;)Ljava/util/function/IntUnaryOperator;"), (0, .methodref 29 30), (0, .class_ 31), (0, .nameAndType 32 33), (0, u "com/example/needlework/needlework/match/PrefixTable"), (0, u "of"), (0, u "(ILjava/util/function/IntUnaryOperator;)[I"), (3, .interfaceMethodref 38 39), (0, .class_ 40), (0, .nameAndType 26 41), (0, u "java/util/function/IntUnaryOperator"), (0, u "(I)I"), (2, u "(Ljava/lang/CharSequence;)[I"), (9, .methodType 41), (0, .methodHandle 9 56), (0, .interfaceMethodref 16 57), (0, .nameAndType 58 59), (0, u "charAt"), (0, u "(I)C"), (3, .methodHandle 6 64), (0, .methodref 65 66), (0, .class_ 67), (0, .nameAndType 68 69), (0, u "java/lang/invoke/LambdaMetafactory"), (0, u "metafactory"), (0, u "(Ljava/lang/invoke/MethodHandles$Lookup;Ljava/lang/String;Ljava/lang/invoke/MethodType;Ljava/lang/invoke/MethodType;Ljava/lang/invoke/MethodHandle;Ljava/lang/invoke/MethodType;)Ljava/lang/invoke/CallSite;")] 6

def k11m0 : Method := { name := "<init>", desc := "()V", sig := { parameters := [], returnType := none }, accessFlags := 2, code := none }
def k11c1 : Code := { maxStack := 3, maxLocals := 1, code := prog_16_method_2_code, exceptionTable := #[], attributes := #[] }
def k11m1 : Method := { name := "of", desc := "(Ljava/lang/CharSequence;)[I", sig := { parameters := [(.object "java/lang/CharSequence")], returnType := some (.array .int) }, accessFlags := 9, code := some k11c1 }
def k11c2 : Code := { maxStack := 3, maxLocals := 6, code := prog_16_method_4_code, exceptionTable := #[], attributes := #[] }
def k11m2 : Method := { name := "of", desc := "(ILjava/util/function/IntUnaryOperator;)[I", sig := { parameters := [.int, (.object "java/util/function/IntUnaryOperator")], returnType := some (.array .int) }, accessFlags := 10, code := some k11c2 }
/-- com/example/needlework/needlework/match/PrefixTable -/
def k11 : Class := { plain "com/example/needlework/needlework/match/PrefixTable" (some 0) with
  accessFlags := 49
  interfaces := #[]
  cf := some (fileOf pool11 29 #[.bootstrapMethods #[⟨63, #[54, 55, 54]⟩, ⟨0, #[]⟩]] #[{ accessFlags := 2, nameIndex := 5, descriptorIndex := 6, attributes := #[] }, { accessFlags := 9, nameIndex := 32, descriptorIndex := 44, attributes := #[] }, { accessFlags := 10, nameIndex := 32, descriptorIndex := 33, attributes := #[] }] 49 2 #[] #[])
  fields := #[]
  methods := #[k11m0, k11m1, k11m2]
  instanceTypes := #[]
  staticTypes := #[]
  resolved := Array.replicate 76 none
  callSites := [(1, 19, .makes 26)]
  statics := none }

def pool12 : Array CpInfo := pool [(1, .class_ 2), (0, u "java/lang/Math"), (1, .class_ 6), (1, u "java/lang/Object"), (0, u "<init>"), (0, u "()V"), (89, .class_ 100), (1, u "java/lang/Math$RandomNumberGeneratorHolder"), (71, u "negativeZeroFloatBits"), (0, u "J"), (2, u "negativeZeroDoubleBits"), (24, u "min"), (43, u "$assertionsDisabled"), (0, u "Z"), (88, u "(II)I"), (2, u "twoToTheDoubleScaleDown"), (0, u "D"), (4, u "twoToTheDoubleScaleUp"), (9, u "E"), (3, u "PI"), (2, u "TAU"), (2, u "DEGREES_TO_RADIANS"), (0, u "RADIANS_TO_DEGREES")] 94

def k12m0 : Method := { name := "<init>", desc := "()V", sig := { parameters := [], returnType := none }, accessFlags := 2, code := none }
def k12c1 : Code := { maxStack := 2, maxLocals := 2, code := jdk_29_method_69_code, exceptionTable := #[], attributes := #[] }
def k12m1 : Method := { name := "min", desc := "(II)I", sig := { parameters := [.int, .int], returnType := some .int }, accessFlags := 9, code := some k12c1 }
/-- java/lang/Math -/
def k12 : Class := { plain "java/lang/Math" (some 0) with
  accessFlags := 49
  interfaces := #[]
  cf := some (fileOf pool12 1 #[.nestMembers #[98]] #[{ accessFlags := 2, nameIndex := 7, descriptorIndex := 8, attributes := #[] }, { accessFlags := 9, nameIndex := 201, descriptorIndex := 335, attributes := #[] }] 49 4 #[] #[{ accessFlags := 25, nameIndex := 354, descriptorIndex := 339, attributes := #[] }, { accessFlags := 25, nameIndex := 358, descriptorIndex := 339, attributes := #[] }, { accessFlags := 25, nameIndex := 361, descriptorIndex := 339, attributes := #[] }, { accessFlags := 26, nameIndex := 364, descriptorIndex := 339, attributes := #[] }, { accessFlags := 26, nameIndex := 365, descriptorIndex := 339, attributes := #[] }, { accessFlags := 26, nameIndex := 172, descriptorIndex := 173, attributes := #[] }, { accessFlags := 26, nameIndex := 176, descriptorIndex := 173, attributes := #[] }, { accessFlags := 8, nameIndex := 344, descriptorIndex := 339, attributes := #[] }, { accessFlags := 8, nameIndex := 338, descriptorIndex := 339, attributes := #[] }, { accessFlags := 4120, nameIndex := 245, descriptorIndex := 246, attributes := #[] }])
  fields := #[{ name := "E", type := .double, accessFlags := 25, slot := 0, constantValue := 0 }, { name := "PI", type := .double, accessFlags := 25, slot := 1, constantValue := 0 }, { name := "TAU", type := .double, accessFlags := 25, slot := 2, constantValue := 0 }, { name := "DEGREES_TO_RADIANS", type := .double, accessFlags := 26, slot := 3, constantValue := 0 }, { name := "RADIANS_TO_DEGREES", type := .double, accessFlags := 26, slot := 4, constantValue := 0 }, { name := "negativeZeroFloatBits", type := .long, accessFlags := 26, slot := 5, constantValue := 0 }, { name := "negativeZeroDoubleBits", type := .long, accessFlags := 26, slot := 6, constantValue := 0 }, { name := "twoToTheDoubleScaleUp", type := .double, accessFlags := 8, slot := 7, constantValue := 0 }, { name := "twoToTheDoubleScaleDown", type := .double, accessFlags := 8, slot := 8, constantValue := 0 }, { name := "$assertionsDisabled", type := .boolean, accessFlags := 4120, slot := 9, constantValue := 0 }]
  methods := #[k12m0, k12m1]
  instanceTypes := #[]
  staticTypes := #[.double, .double, .double, .double, .double, .long, .long, .double, .double, .boolean]
  resolved := Array.replicate 460 none
  statics := none }

def pool13 : Array CpInfo := pool [(1, .class_ 2), (0, u "java/lang/Cloneable"), (0, .class_ 4), (0, u "java/lang/Object")] 2

/-- java/lang/Cloneable -/
def k13 : Class := { plain "java/lang/Cloneable" (some 0) with
  accessFlags := 1537
  interfaces := #[]
  cf := some (fileOf pool13 1 #[] #[] 1537 3 #[] #[])
  fields := #[]
  methods := #[]
  instanceTypes := #[]
  staticTypes := #[]
  resolved := Array.replicate 7 none
  statics := none }

def pool14 : Array CpInfo := pool [(3, .class_ 4), (0, u "java/lang/String"), (1, .class_ 8), (1, u "java/lang/Object"), (0, u "<init>"), (0, u "()V"), (0, .methodref 12 13), (0, .class_ 14), (0, .nameAndType 15 16), (0, u "java/lang/StringUTF16"), (0, u "newBytesLength"), (0, u "(I)I"), (3, .integer 1073741823), (23, .fieldref 12 45), (0, .nameAndType 46 47), (0, u "$assertionsDisabled"), (0, u "Z"), (0, .methodref 12 49), (0, .nameAndType 50 51), (0, u "length"), (0, u "([B)I"), (7, .fieldref 12 60), (0, .nameAndType 61 62), (0, u "HI_BYTE_SHIFT"), (0, u "I"), (0, .fieldref 12 64), (0, .nameAndType 65 62), (0, u "LO_BYTE_SHIFT"), (1, .methodref 12 68), (0, .nameAndType 69 70), (0, u "checkIndex"), (0, u "(I[B)V"), (0, .methodref 12 72), (0, .nameAndType 73 74), (0, u "getChar"), (0, u "([BI)C"), (32, .methodref 12 108), (0, .nameAndType 109 110), (0, u "newBytesFor"), (0, u "(I)[B"), (0, .methodref 12 112), (0, .nameAndType 113 114), (0, u "putChar"), (0, u "([BII)V"), (0, .methodref 12 116), (0, .nameAndType 117 118), (0, u "compress"), (0, u "([CI[BII)I"), (0, .methodref 12 120), (0, .nameAndType 121 122), (0, u "toBytes"), (0, u "([CII)[B"), (138, u "coderFromArrayLen"), (0, u "([BI)B"), (106, .class_ 371), (1, u "java/lang/StringUTF16$LinesSpliterator"), (20, u "charAt"), (21, .methodref 3 415), (0, .nameAndType 69 416), (0, u "(II)V"), (13, u "MAX_LENGTH"), (196, .class_ 628), (0, u "java/lang/StringUTF16$CodePointsSpliterator"), (0, .class_ 630), (0, u "java/lang/StringUTF16$CharsSpliterator")] 4

def k14m0 : Method := { name := "<init>", desc := "()V", sig := { parameters := [], returnType := none }, accessFlags := 0, code := none }
def k14c1 : Code := { maxStack := 1, maxLocals := 1, code := jdk_52_method_2_code, exceptionTable := #[], attributes := #[] }
def k14m1 : Method := { name := "newBytesFor", desc := "(I)[B", sig := { parameters := [.int], returnType := some (.array .byte) }, accessFlags := 9, code := some k14c1 }
def k14c2 : Code := { maxStack := 4, maxLocals := 1, code := jdk_52_method_3_code, exceptionTable := #[], attributes := #[] }
def k14m2 : Method := { name := "newBytesLength", desc := "(I)I", sig := { parameters := [.int], returnType := some .int }, accessFlags := 9, code := some k14c2 }
def k14c3 : Code := { maxStack := 4, maxLocals := 3, code := jdk_52_method_4_code, exceptionTable := #[], attributes := #[] }
def k14m3 : Method := { name := "putChar", desc := "([BII)V", sig := { parameters := [(.array .byte), .int, .int], returnType := none }, accessFlags := 8, code := some k14c3 }
def k14c4 : Code := { maxStack := 3, maxLocals := 2, code := jdk_52_method_5_code, exceptionTable := #[], attributes := #[] }
def k14m4 : Method := { name := "getChar", desc := "([BI)C", sig := { parameters := [(.array .byte), .int], returnType := some .char }, accessFlags := 8, code := some k14c4 }
def k14c5 : Code := { maxStack := 2, maxLocals := 1, code := jdk_52_method_6_code, exceptionTable := #[], attributes := #[] }
def k14m5 : Method := { name := "length", desc := "([B)I", sig := { parameters := [(.array .byte)], returnType := some .int }, accessFlags := 9, code := some k14c5 }
def k14c6 : Code := { maxStack := 4, maxLocals := 5, code := jdk_52_method_14_code, exceptionTable := #[], attributes := #[] }
def k14m6 : Method := { name := "toBytes", desc := "([CII)[B", sig := { parameters := [(.array .char), .int, .int], returnType := some (.array .byte) }, accessFlags := 9, code := some k14c6 }
def k14c7 : Code := { maxStack := 2, maxLocals := 2, code := jdk_52_method_15_code, exceptionTable := #[], attributes := #[] }
def k14m7 : Method := { name := "coderFromArrayLen", desc := "([BI)B", sig := { parameters := [(.array .byte), .int], returnType := some .byte }, accessFlags := 8, code := some k14c7 }
def k14c8 : Code := { maxStack := 5, maxLocals := 6, code := jdk_52_method_16_code, exceptionTable := #[], attributes := #[] }
def k14m8 : Method := { name := "compress", desc := "([CII)[B", sig := { parameters := [(.array .char), .int, .int], returnType := some (.array .byte) }, accessFlags := 9, code := some k14c8 }
def k14c9 : Code := { maxStack := 3, maxLocals := 7, code := jdk_52_method_21_code, exceptionTable := #[], attributes := #[] }
def k14m9 : Method := { name := "compress", desc := "([CI[BII)I", sig := { parameters := [(.array .char), .int, (.array .byte), .int, .int], returnType := some .int }, accessFlags := 9, code := some k14c9 }
def k14c10 : Code := { maxStack := 2, maxLocals := 2, code := jdk_52_method_83_code, exceptionTable := #[], attributes := #[] }
def k14m10 : Method := { name := "charAt", desc := "([BI)C", sig := { parameters := [(.array .byte), .int], returnType := some .char }, accessFlags := 9, code := some k14c10 }
def k14c11 : Code := { maxStack := 2, maxLocals := 2, code := jdk_52_method_91_code, exceptionTable := #[], attributes := #[] }
def k14m11 : Method := { name := "checkIndex", desc := "(I[B)V", sig := { parameters := [.int, (.array .byte)], returnType := none }, accessFlags := 9, code := some k14c11 }
/-- java/lang/StringUTF16 -/
def k14 : Class := { plain "java/lang/StringUTF16" (some 0) with
  accessFlags := 48
  interfaces := #[]
  cf := some (fileOf pool14 12 #[.nestMembers #[627, 629, 369]] #[{ accessFlags := 0, nameIndex := 9, descriptorIndex := 10, attributes := #[] }, { accessFlags := 9, nameIndex := 109, descriptorIndex := 110, attributes := #[] }, { accessFlags := 9, nameIndex := 15, descriptorIndex := 16, attributes := #[] }, { accessFlags := 8, nameIndex := 113, descriptorIndex := 114, attributes := #[] }, { accessFlags := 8, nameIndex := 73, descriptorIndex := 74, attributes := #[] }, { accessFlags := 9, nameIndex := 50, descriptorIndex := 51, attributes := #[] }, { accessFlags := 9, nameIndex := 121, descriptorIndex := 122, attributes := #[] }, { accessFlags := 8, nameIndex := 261, descriptorIndex := 262, attributes := #[] }, { accessFlags := 9, nameIndex := 117, descriptorIndex := 122, attributes := #[] }, { accessFlags := 9, nameIndex := 117, descriptorIndex := 118, attributes := #[] }, { accessFlags := 9, nameIndex := 392, descriptorIndex := 74, attributes := #[] }, { accessFlags := 9, nameIndex := 69, descriptorIndex := 70, attributes := #[] }] 48 6 #[] #[{ accessFlags := 26, nameIndex := 61, descriptorIndex := 62, attributes := #[] }, { accessFlags := 26, nameIndex := 65, descriptorIndex := 62, attributes := #[] }, { accessFlags := 24, nameIndex := 430, descriptorIndex := 62, attributes := #[] }, { accessFlags := 4120, nameIndex := 46, descriptorIndex := 47, attributes := #[] }])
  fields := #[{ name := "HI_BYTE_SHIFT", type := .int, accessFlags := 26, slot := 0, constantValue := 0 }, { name := "LO_BYTE_SHIFT", type := .int, accessFlags := 26, slot := 1, constantValue := 0 }, { name := "MAX_LENGTH", type := .int, accessFlags := 24, slot := 2, constantValue := 0 }, { name := "$assertionsDisabled", type := .boolean, accessFlags := 4120, slot := 3, constantValue := 0 }]
  methods := #[k14m0, k14m1, k14m2, k14m3, k14m4, k14m5, k14m6, k14m7, k14m8, k14m9, k14m10, k14m11]
  instanceTypes := #[]
  staticTypes := #[.int, .int, .int, .boolean]
  resolved := Array.replicate 635 none
  statics := some 2 }

def pool15 : Array CpInfo := pool [(1, .class_ 2), (0, u "java/lang/String"), (1, .class_ 6), (1, u "java/lang/Object"), (0, u "<init>"), (0, u "()V"), (0, .methodref 1 10), (0, .nameAndType 11 12), (0, u "checkIndex"), (0, u "(II)V"), (1, .class_ 16), (1, u "java/lang/StringLatin1"), (36, u "([BI)C"), (67, u "$assertionsDisabled"), (0, u "Z"), (98, .class_ 223), (1, u "java/lang/StringLatin1$LinesSpliterator"), (28, u "charAt"), (137, .class_ 391), (0, u "java/lang/StringLatin1$CharsSpliterator")] 3

def k15m0 : Method := { name := "<init>", desc := "()V", sig := { parameters := [], returnType := none }, accessFlags := 0, code := none }
def k15c1 : Code := { maxStack := 2, maxLocals := 2, code := jdk_43_method_2_code, exceptionTable := #[], attributes := #[] }
def k15m1 : Method := { name := "charAt", desc := "([BI)C", sig := { parameters := [(.array .byte), .int], returnType := some .char }, accessFlags := 9, code := some k15c1 }
/-- java/lang/StringLatin1 -/
def k15 : Class := { plain "java/lang/StringLatin1" (some 0) with
  accessFlags := 48
  interfaces := #[]
  cf := some (fileOf pool15 14 #[.nestMembers #[390, 221]] #[{ accessFlags := 0, nameIndex := 7, descriptorIndex := 8, attributes := #[] }, { accessFlags := 9, nameIndex := 252, descriptorIndex := 53, attributes := #[] }] 48 4 #[] #[{ accessFlags := 4120, nameIndex := 121, descriptorIndex := 122, attributes := #[] }])
  fields := #[{ name := "$assertionsDisabled", type := .boolean, accessFlags := 4120, slot := 0, constantValue := 0 }]
  methods := #[k15m0, k15m1]
  instanceTypes := #[]
  staticTypes := #[.boolean]
  resolved := Array.replicate 395 none
  statics := none }

def pool16 : Array CpInfo := pool [(2, .class_ 4), (1, u "java/lang/Object"), (0, u "<init>"), (0, u "()V"), (17, .class_ 26), (1, u "jdk/internal/util/Preconditions"), (6, u "checkIndex"), (21, .class_ 56), (0, u "jdk/internal/util/Preconditions$4"), (57, .class_ 115), (0, u "jdk/internal/util/Preconditions$1"), (7, u "SIOOBE_FORMATTER"), (0, u "Ljava/util/function/BiFunction;"), (0, .class_ 126), (0, u "jdk/internal/util/Preconditions$2"), (3, u "AIOOBE_FORMATTER"), (0, .class_ 132), (0, u "jdk/internal/util/Preconditions$3"), (3, u "IOOBE_FORMATTER"), (41, u "(IILjava/util/function/BiFunction;)I")] 15

def k16m0 : Method := { name := "<init>", desc := "()V", sig := { parameters := [], returnType := none }, accessFlags := 1, code := none }
def k16c1 : Code := { maxStack := 3, maxLocals := 3, code := jdk_41_method_11_code, exceptionTable := #[], attributes := #[] }
def k16m1 : Method := { name := "checkIndex", desc := "(IILjava/util/function/BiFunction;)I", sig := { parameters := [.int, .int, (.object "java/util/function/BiFunction")], returnType := some .int }, accessFlags := 9, code := some k16c1 }
/-- jdk/internal/util/Preconditions -/
def k16 : Class := { plain "jdk/internal/util/Preconditions" (some 0) with
  accessFlags := 33
  interfaces := #[]
  cf := some (fileOf pool16 24 #[.nestMembers #[55, 131, 125, 114]] #[{ accessFlags := 1, nameIndex := 5, descriptorIndex := 6, attributes := #[] }, { accessFlags := 9, nameIndex := 33, descriptorIndex := 178, attributes := #[] }] 33 2 #[] #[{ accessFlags := 25, nameIndex := 123, descriptorIndex := 124, attributes := #[] }, { accessFlags := 25, nameIndex := 130, descriptorIndex := 124, attributes := #[] }, { accessFlags := 25, nameIndex := 136, descriptorIndex := 124, attributes := #[] }])
  fields := #[{ name := "SIOOBE_FORMATTER", type := (.object "java/util/function/BiFunction"), accessFlags := 25, slot := 0, constantValue := 0 }, { name := "AIOOBE_FORMATTER", type := (.object "java/util/function/BiFunction"), accessFlags := 25, slot := 1, constantValue := 0 }, { name := "IOOBE_FORMATTER", type := (.object "java/util/function/BiFunction"), accessFlags := 25, slot := 2, constantValue := 0 }]
  methods := #[k16m0, k16m1]
  instanceTypes := #[]
  staticTypes := #[(.object "java/util/function/BiFunction"), (.object "java/util/function/BiFunction"), (.object "java/util/function/BiFunction")]
  resolved := Array.replicate 194 none
  statics := some 3 }

def pool17 : Array CpInfo := pool [(2, .class_ 4), (1, u "java/lang/Object"), (0, u "<init>"), (0, u "()V"), (1, .class_ 10), (1, u "java/lang/System"), (0, u "allowSecurityManager"), (0, u "I"), (16, u "cons"), (0, u "Ljava/io/Console;"), (77, .class_ 110), (1, u "java/lang/System$CallersHolder"), (43, u "initialErrStream"), (0, u "Ljava/io/PrintStream;"), (19, u "security"), (0, u "Ljava/lang/SecurityManager;"), (31, .class_ 209), (0, u "java/lang/System$1"), (7, u "props"), (0, u "Ljava/util/Properties;"), (2, u "lineSeparator"), (0, u "Ljava/lang/String;"), (96, .class_ 321), (1, u "java/lang/System$LoggerFinder"), (5, .class_ 328), (0, u "java/lang/System$Logger"), (67, u "err"), (2, u "out"), (91, u "notSupportedJnuEncoding"), (15, u "in"), (17, u "initialIn"), (0, u "Ljava/io/InputStream;"), (35, u "bootLayer"), (0, u "Ljava/lang/ModuleLayer;"), (99, .class_ 664), (0, u "java/lang/System$2"), (9, u "NEVER"), (2, u "MAYBE"), (49, u "arraycopy"), (0, u "(Ljava/lang/Object;ILjava/lang/Object;II)V"), (72, .class_ 802), (0, u "java/lang/System$Logger$Level")] 31

def k17m0 : Method := { name := "<init>", desc := "()V", sig := { parameters := [], returnType := none }, accessFlags := 2, code := none }
def k17m1 : Method := { name := "arraycopy", desc := "(Ljava/lang/Object;ILjava/lang/Object;II)V", sig := { parameters := [(.object "java/lang/Object"), .int, (.object "java/lang/Object"), .int, .int], returnType := none }, accessFlags := 265, code := none }
/-- java/lang/System -/
def k17 : Class := { plain "java/lang/System" (some 0) with
  accessFlags := 49
  interfaces := #[]
  cf := some (fileOf pool17 8 #[.nestMembers #[319, 327, 801, 108, 663, 208]] #[{ accessFlags := 2, nameIndex := 5, descriptorIndex := 6, attributes := #[] }, { accessFlags := 265, nameIndex := 727, descriptorIndex := 728, attributes := #[] }] 49 2 #[] #[{ accessFlags := 25, nameIndex := 507, descriptorIndex := 526, attributes := #[] }, { accessFlags := 25, nameIndex := 399, descriptorIndex := 155, attributes := #[] }, { accessFlags := 25, nameIndex := 396, descriptorIndex := 155, attributes := #[] }, { accessFlags := 10, nameIndex := 525, descriptorIndex := 526, attributes := #[] }, { accessFlags := 26, nameIndex := 674, descriptorIndex := 12, attributes := #[] }, { accessFlags := 26, nameIndex := 677, descriptorIndex := 12, attributes := #[] }, { accessFlags := 10, nameIndex := 11, descriptorIndex := 12, attributes := #[] }, { accessFlags := 74, nameIndex := 175, descriptorIndex := 176, attributes := #[] }, { accessFlags := 10, nameIndex := 491, descriptorIndex := 222, attributes := #[] }, { accessFlags := 74, nameIndex := 29, descriptorIndex := 30, attributes := #[] }, { accessFlags := 74, nameIndex := 154, descriptorIndex := 155, attributes := #[] }, { accessFlags := 10, nameIndex := 217, descriptorIndex := 218, attributes := #[] }, { accessFlags := 10, nameIndex := 221, descriptorIndex := 222, attributes := #[] }, { accessFlags := 8, nameIndex := 562, descriptorIndex := 563, attributes := #[] }])
  fields := #[{ name := "in", type := (.object "java/io/InputStream"), accessFlags := 25, slot := 0, constantValue := 0 }, { name := "out", type := (.object "java/io/PrintStream"), accessFlags := 25, slot := 1, constantValue := 0 }, { name := "err", type := (.object "java/io/PrintStream"), accessFlags := 25, slot := 2, constantValue := 0 }, { name := "initialIn", type := (.object "java/io/InputStream"), accessFlags := 10, slot := 3, constantValue := 0 }, { name := "NEVER", type := .int, accessFlags := 26, slot := 4, constantValue := 0 }, { name := "MAYBE", type := .int, accessFlags := 26, slot := 5, constantValue := 0 }, { name := "allowSecurityManager", type := .int, accessFlags := 10, slot := 6, constantValue := 0 }, { name := "security", type := (.object "java/lang/SecurityManager"), accessFlags := 74, slot := 7, constantValue := 0 }, { name := "notSupportedJnuEncoding", type := (.object "java/lang/String"), accessFlags := 10, slot := 8, constantValue := 0 }, { name := "cons", type := (.object "java/io/Console"), accessFlags := 74, slot := 9, constantValue := 0 }, { name := "initialErrStream", type := (.object "java/io/PrintStream"), accessFlags := 74, slot := 10, constantValue := 0 }, { name := "props", type := (.object "java/util/Properties"), accessFlags := 10, slot := 11, constantValue := 0 }, { name := "lineSeparator", type := (.object "java/lang/String"), accessFlags := 10, slot := 12, constantValue := 0 }, { name := "bootLayer", type := (.object "java/lang/ModuleLayer"), accessFlags := 8, slot := 13, constantValue := 0 }]
  methods := #[k17m0, k17m1]
  instanceTypes := #[]
  staticTypes := #[(.object "java/io/InputStream"), (.object "java/io/PrintStream"), (.object "java/io/PrintStream"), (.object "java/io/InputStream"), .int, .int, .int, (.object "java/lang/SecurityManager"), (.object "java/lang/String"), (.object "java/io/Console"), (.object "java/io/PrintStream"), (.object "java/util/Properties"), (.object "java/lang/String"), (.object "java/lang/ModuleLayer")]
  resolved := Array.replicate 834 none
  statics := none }

def pool18 : Array CpInfo := pool [(9, u "<init>"), (6, .class_ 18), (1, u "java/lang/Object"), (0, u "()V"), (1, .class_ 23), (1, u "jdk/internal/util/ArraysSupport"), (0, u "LOG2_ARRAY_LONG_INDEX_SCALE"), (0, u "I"), (2, u "U"), (0, u "Ljdk/internal/misc/Unsafe;"), (8, u "BIG_ENDIAN"), (0, u "Z"), (8, u "LOG2_BYTE_BIT_SIZE"), (4, u "LOG2_ARRAY_INT_INDEX_SCALE"), (54, u "JLA"), (0, u "Ljdk/internal/access/JavaLangAccess;"), (11, u "LOG2_ARRAY_BOOLEAN_INDEX_SCALE"), (9, u "LOG2_ARRAY_BYTE_INDEX_SCALE"), (5, u "LOG2_ARRAY_CHAR_INDEX_SCALE"), (5, u "LOG2_ARRAY_SHORT_INDEX_SCALE"), (18, u "LOG2_ARRAY_FLOAT_INDEX_SCALE"), (24, u "LOG2_ARRAY_DOUBLE_INDEX_SCALE"), (89, u "T_BOOLEAN"), (2, u "T_CHAR"), (1, u "T_FLOAT"), (1, u "T_DOUBLE"), (1, u "T_BYTE"), (1, u "T_SHORT"), (1, u "T_INT"), (1, u "T_LONG"), (1, u "SOFT_MAX_ARRAY_LENGTH")] 83

def k18m0 : Method := { name := "<init>", desc := "()V", sig := { parameters := [], returnType := none }, accessFlags := 2, code := none }
/-- jdk/internal/util/ArraysSupport -/
def k18 : Class := { plain "jdk/internal/util/ArraysSupport" (some 0) with
  accessFlags := 33
  interfaces := #[]
  cf := some (fileOf pool18 21 #[] #[{ accessFlags := 2, nameIndex := 9, descriptorIndex := 19, attributes := #[] }] 33 16 #[] #[{ accessFlags := 24, nameIndex := 28, descriptorIndex := 29, attributes := #[] }, { accessFlags := 26, nameIndex := 38, descriptorIndex := 39, attributes := #[] }, { accessFlags := 25, nameIndex := 121, descriptorIndex := 25, attributes := #[] }, { accessFlags := 25, nameIndex := 131, descriptorIndex := 25, attributes := #[] }, { accessFlags := 25, nameIndex := 137, descriptorIndex := 25, attributes := #[] }, { accessFlags := 25, nameIndex := 143, descriptorIndex := 25, attributes := #[] }, { accessFlags := 25, nameIndex := 53, descriptorIndex := 25, attributes := #[] }, { accessFlags := 25, nameIndex := 24, descriptorIndex := 25, attributes := #[] }, { accessFlags := 25, nameIndex := 162, descriptorIndex := 25, attributes := #[] }, { accessFlags := 25, nameIndex := 187, descriptorIndex := 25, attributes := #[] }, { accessFlags := 26, nameIndex := 48, descriptorIndex := 25, attributes := #[] }, { accessFlags := 25, nameIndex := 277, descriptorIndex := 25, attributes := #[] }, { accessFlags := 25, nameIndex := 280, descriptorIndex := 25, attributes := #[] }, { accessFlags := 25, nameIndex := 282, descriptorIndex := 25, attributes := #[] }, { accessFlags := 25, nameIndex := 284, descriptorIndex := 25, attributes := #[] }, { accessFlags := 25, nameIndex := 286, descriptorIndex := 25, attributes := #[] }, { accessFlags := 25, nameIndex := 288, descriptorIndex := 25, attributes := #[] }, { accessFlags := 25, nameIndex := 290, descriptorIndex := 25, attributes := #[] }, { accessFlags := 25, nameIndex := 292, descriptorIndex := 25, attributes := #[] }, { accessFlags := 26, nameIndex := 108, descriptorIndex := 109, attributes := #[] }, { accessFlags := 25, nameIndex := 294, descriptorIndex := 25, attributes := #[] }])
  fields := #[{ name := "U", type := (.object "jdk/internal/misc/Unsafe"), accessFlags := 24, slot := 0, constantValue := 0 }, { name := "BIG_ENDIAN", type := .boolean, accessFlags := 26, slot := 1, constantValue := 0 }, { name := "LOG2_ARRAY_BOOLEAN_INDEX_SCALE", type := .int, accessFlags := 25, slot := 2, constantValue := 0 }, { name := "LOG2_ARRAY_BYTE_INDEX_SCALE", type := .int, accessFlags := 25, slot := 3, constantValue := 0 }, { name := "LOG2_ARRAY_CHAR_INDEX_SCALE", type := .int, accessFlags := 25, slot := 4, constantValue := 0 }, { name := "LOG2_ARRAY_SHORT_INDEX_SCALE", type := .int, accessFlags := 25, slot := 5, constantValue := 0 }, { name := "LOG2_ARRAY_INT_INDEX_SCALE", type := .int, accessFlags := 25, slot := 6, constantValue := 0 }, { name := "LOG2_ARRAY_LONG_INDEX_SCALE", type := .int, accessFlags := 25, slot := 7, constantValue := 0 }, { name := "LOG2_ARRAY_FLOAT_INDEX_SCALE", type := .int, accessFlags := 25, slot := 8, constantValue := 0 }, { name := "LOG2_ARRAY_DOUBLE_INDEX_SCALE", type := .int, accessFlags := 25, slot := 9, constantValue := 0 }, { name := "LOG2_BYTE_BIT_SIZE", type := .int, accessFlags := 26, slot := 10, constantValue := 0 }, { name := "T_BOOLEAN", type := .int, accessFlags := 25, slot := 11, constantValue := 0 }, { name := "T_CHAR", type := .int, accessFlags := 25, slot := 12, constantValue := 0 }, { name := "T_FLOAT", type := .int, accessFlags := 25, slot := 13, constantValue := 0 }, { name := "T_DOUBLE", type := .int, accessFlags := 25, slot := 14, constantValue := 0 }, { name := "T_BYTE", type := .int, accessFlags := 25, slot := 15, constantValue := 0 }, { name := "T_SHORT", type := .int, accessFlags := 25, slot := 16, constantValue := 0 }, { name := "T_INT", type := .int, accessFlags := 25, slot := 17, constantValue := 0 }, { name := "T_LONG", type := .int, accessFlags := 25, slot := 18, constantValue := 0 }, { name := "JLA", type := (.object "jdk/internal/access/JavaLangAccess"), accessFlags := 26, slot := 19, constantValue := 0 }, { name := "SOFT_MAX_ARRAY_LENGTH", type := .int, accessFlags := 25, slot := 20, constantValue := 0 }]
  methods := #[k18m0]
  instanceTypes := #[]
  staticTypes := #[(.object "jdk/internal/misc/Unsafe"), .boolean, .int, .int, .int, .int, .int, .int, .int, .int, .int, .int, .int, .int, .int, .int, .int, .int, .int, (.object "jdk/internal/access/JavaLangAccess"), .int]
  resolved := Array.replicate 378 none
  statics := none }

/-- the primitive byte -/
def k19 : Class := { plain "byte" none with kind := .primitive 'B', accessFlags := 0x411 }
/-- [B -/
def k20 : Class := { plain "[B" (some 0) with kind := .array 19 .byte, interfaces := #[13, 2], accessFlags := 1041 }

/-- the primitive char -/
def k21 : Class := { plain "char" none with kind := .primitive 'C', accessFlags := 0x411 }
/-- [C -/
def k22 : Class := { plain "[C" (some 0) with kind := .array 21 .char, interfaces := #[13, 2], accessFlags := 1041 }

/-- the primitive int -/
def k23 : Class := { plain "int" none with kind := .primitive 'I', accessFlags := 0x411 }
/-- [I -/
def k24 : Class := { plain "[I" (some 0) with kind := .array 23 .int, interfaces := #[13, 2], accessFlags := 1041 }

def classes0 : Array Class := #[k0, k1, k2, k3, k4, k5, k6, k7, k8, k9, k10, k11, k12, k13, k14, k15, k16, k17, k18, k19, k20, k21, k22, k23, k24]
/-- the class that the rule has made for the site at 19 of com/example/needlework/needlework/match/CompiledPattern.of -/
def k25 : Class := Jvm.LamKit.madeRec { classes := classes0 } "com/example/needlework/needlework/match/CompiledPattern" (Jvm.Lambda.Shape.mk "java/util/function/IntUnaryOperator" "applyAsInt" (Jvm.ClassFile.MethodDescriptor.mk ([Jvm.ClassFile.FieldType.int] : List Jvm.ClassFile.FieldType) (Option.some Jvm.ClassFile.FieldType.int)) ([(Jvm.ClassFile.FieldType.object "java/lang/CharSequence")] : List Jvm.ClassFile.FieldType) (9 : Nat) "java/lang/CharSequence" "charAt" (Jvm.ClassFile.MethodDescriptor.mk ([Jvm.ClassFile.FieldType.int] : List Jvm.ClassFile.FieldType) (Option.some Jvm.ClassFile.FieldType.char)) true (Jvm.ClassFile.MethodDescriptor.mk ([Jvm.ClassFile.FieldType.int] : List Jvm.ClassFile.FieldType) (Option.some Jvm.ClassFile.FieldType.int))) 25

/-- the class that the rule has made for the site at 19 of com/example/needlework/needlework/match/PrefixTable.of -/
def k26 : Class := Jvm.LamKit.madeRec { classes := classes0 } "com/example/needlework/needlework/match/PrefixTable" (Jvm.Lambda.Shape.mk "java/util/function/IntUnaryOperator" "applyAsInt" (Jvm.ClassFile.MethodDescriptor.mk ([Jvm.ClassFile.FieldType.int] : List Jvm.ClassFile.FieldType) (Option.some Jvm.ClassFile.FieldType.int)) ([(Jvm.ClassFile.FieldType.object "java/lang/CharSequence")] : List Jvm.ClassFile.FieldType) (9 : Nat) "java/lang/CharSequence" "charAt" (Jvm.ClassFile.MethodDescriptor.mk ([Jvm.ClassFile.FieldType.int] : List Jvm.ClassFile.FieldType) (Option.some Jvm.ClassFile.FieldType.char)) true (Jvm.ClassFile.MethodDescriptor.mk ([Jvm.ClassFile.FieldType.int] : List Jvm.ClassFile.FieldType) (Option.some Jvm.ClassFile.FieldType.int))) 26

def heap : Heap := #[{ cls := 7, slots := #[.long 0, .int 1, .null, .int 0, .null, .int 0, .int 0], vm := .statics 7 },
  { cls := 8, slots := #[.int 0, .null, .ref 4], vm := .statics 8 },
  { cls := 14, slots := #[.int 0, .int 8, .int 0, .int 1], vm := .statics 14 },
  { cls := 16, slots := #[.null, .null, .null], vm := .statics 16 },
  { cls := 20, slots := #[.int 27, .int 27, .int 27, .int 27, .int 27, .int 27, .int 27, .int 27, .int 27, .int 27, .int 26, .int 27, .int 27, .int 25, .int 27, .int 27, .int 27, .int 27, .int 27, .int 27, .int 27, .int 27, .int 27, .int 27, .int 27, .int 27, .int 27, .int 27, .int 27, .int 27, .int 27, .int 27, .int 0, .int 27, .int 27, .int 27, .int 27, .int 27, .int 27, .int 27, .int 27, .int 27, .int 27, .int 27, .int 21, .int 27, .int 22, .int 27, .int 27, .int 27, .int 27, .int 27, .int 27, .int 27, .int 27, .int 27, .int 27, .int 27, .int 27, .int 27, .int 27, .int 27, .int 27, .int 27, .int 27, .int 27, .int 27, .int 27, .int 27, .int 27, .int 27, .int 27, .int 27, .int 27, .int 27, .int 27, .int 27, .int 27, .int 27, .int 27, .int 27, .int 27, .int 27, .int 27, .int 27, .int 27, .int 27, .int 27, .int 27, .int 27, .int 27, .int 27, .int 27, .int 27, .int 27, .int 27, .int 27, .int 3, .int 20, .int 12, .int 11, .int 1, .int 15, .int 17, .int 9, .int 5, .int 27, .int 24, .int 10, .int 14, .int 6, .int 4, .int 16, .int 27, .int 8, .int 7, .int 2, .int 13, .int 23, .int 18, .int 27, .int 19, .int 27, .int 27, .int 27, .int 27, .int 27, .int 27, .int 27, .int 27, .int 27, .int 27, .int 27, .int 27, .int 27, .int 27, .int 27, .int 27, .int 27, .int 27, .int 27, .int 27, .int 27, .int 27, .int 27, .int 27, .int 27, .int 27, .int 27, .int 27, .int 27, .int 27, .int 27, .int 27, .int 27, .int 27, .int 27, .int 27, .int 27, .int 27, .int 27, .int 27, .int 27, .int 27, .int 27, .int 27, .int 27, .int 27, .int 27, .int 27, .int 27, .int 27, .int 27, .int 27, .int 27, .int 27, .int 27, .int 27, .int 27, .int 27, .int 27, .int 27, .int 27, .int 27, .int 27, .int 27, .int 27, .int 27, .int 27, .int 27, .int 27, .int 27, .int 27, .int 27, .int 27, .int 27, .int 27, .int 27, .int 27, .int 27, .int 27, .int 27, .int 27, .int 27, .int 27, .int 27, .int 27, .int 27, .int 27, .int 27, .int 27, .int 27, .int 27, .int 27, .int 27, .int 27, .int 27, .int 27, .int 27, .int 27, .int 27, .int 27, .int 27, .int 27, .int 27, .int 27, .int 27, .int 27, .int 27, .int 27, .int 27, .int 27, .int 27, .int 27, .int 27, .int 27, .int 27, .int 27, .int 27, .int 27, .int 27, .int 27, .int 27, .int 27, .int 27, .int 27, .int 27, .int 27, .int 27, .int 27, .int 27, .int 27, .int 27, .int 27, .int 27, .int 27], vm := .none }]
def classes : Array Class := #[k0, k1, k2, k3, k4, k5, k6, k7, k8, k9, k10, k11, k12, k13, k14, k15, k16, k17, k18, k19, k20, k21, k22, k23, k24, k25, k26]
def interned : List (Array UInt16 × Addr) := []
def slotsUsed : Nat := 273
def theMethod : MethodId := ⟨1, 1⟩
def args0 : Array Value := #[.int 5, .int 97, .int 98, .int 300, .int 97, .int 101]
def aboutOver (below : List Frame) : State where
  vm := { classes := classes, interned := interned.toArray }
  heap := heap
  slotsUsed := slotsUsed
  threads := #[{ frames := .invoking theMethod args0 :: below }]
def below0 : List Frame := [.native { method := ⟨0, 0⟩, args := #[] }]
def about1 : State := aboutOver below0
def p0 : Program := .bare "" "" ""
def e0 : Env := launch0.env 0 0 0
theorem w_frames : about1.frames = Frame.invoking theMethod args0 :: below0 := rfl
set_option maxRecDepth 65536 in
theorem w_args : argsFit about1.vm theMethod args0 = true := by decide +kernel
set_option maxRecDepth 65536 in
theorem w_heap : heapFits about1 = true := by decide +kernel
set_option maxRecDepth 65536 in
theorem w_runnable : about1.curStatus? = some .runnable := by decide +kernel
set_option maxRecDepth 65536 in
theorem w_alone : about1.alone = true := by decide +kernel
set_option maxRecDepth 65536 in
theorem w_named : about1.methodNamed? x = some theMethod := by decide +kernel
set_option maxRecDepth 65536 in
theorem w_hears : about1.hears theMethod below0 = true := by decide +kernel
set_option maxRecDepth 65536 in
theorem w_ripe : about1.ripe theMethod args0 below0 = true := by decide +kernel
theorem w_running : about1.status = .running := rfl
set_option maxRecDepth 65536 in
theorem w_room : about1.hasRoom e0.platform room_1 = true :=
  launch0.hasRoom_least _ room_1 (by decide +kernel) (by decide +kernel) (by decide +kernel) (by decide +kernel) (by decide +kernel) (by decide +kernel)
theorem allAtoms_all (ts : List Jvm.Cond) (a : Array Jvm.Value) (st : Jvm.State) : (allAtoms ts).before a st = ts.all (fun c => c.before a st) := by
  induction ts with
  | nil => rfl
  | cons c t ih =>
    show (Jvm.Cond.and c (allAtoms t)).before a st = _
    rw [Jvm.Cond.before_and, ih, List.all_cons]
def words1 : List Jvm.Cond := Jvm.Cond.code x code maxLocals ret :: tables_1
/-- a 'code' word, met by the world's own term for the bytes: nothing is compared byte by byte -/
theorem code_word {y : MethodName} {bytes : ByteArray} {mx : Nat} {rt : Option FieldType} {a : Array Value} {s : State} {m : MethodId} {meth : Method} {c : Code} (h1 : s.methodNamed? y = some m) (h2 : s.vm.method? m = some meth) (h3 : meth.code = some c) (h4 : c.code = bytes)
    (h5 : (c.maxLocals == mx && c.exceptionTable.isEmpty && decide (c.maxStack ≤ mostOperands) && decide (meth.sig.returnType = rt) && !meth.locks && decide (parseMethodDescriptor y.desc = some meth.sig)) = true) : (Jvm.Cond.code y bytes mx rt).before a s = true := by
  simp only [Bool.and_eq_true, beq_iff_eq, Bool.not_eq_true', decide_eq_true_eq] at h5
  obtain ⟨⟨⟨⟨⟨g1, g2⟩, g3⟩, g4⟩, g5⟩, g6⟩ := h5
  simp [Cond.before, Cond.holds, Cond.value, h1, h2, h3, h4, g1, g2, g3, g4, g5, g6]
def isCode : Jvm.Cond → Bool
  | .code _ _ _ _ => true
  | _ => false
theorem all_split {L : List Jvm.Cond} {P : Jvm.Cond → Bool} (h1 : L.all (fun c => isCode c || P c) = true) (h2 : ∀ c ∈ L.filter isCode, P c = true) : L.all P = true := by
  refine List.all_eq_true.mpr fun c hc => ?_
  have h := List.all_eq_true.mp h1 c hc
  rcases Bool.eq_false_or_eq_true (isCode c) with hi | hi
  · exact h2 c (List.mem_filter.mpr ⟨hc, hi⟩)
  · simpa [hi] using h
set_option maxRecDepth 65536 in
theorem w_c0 : (Jvm.Cond.code x code maxLocals ret).before args0 about1 = true := code_word (m := ⟨1, 1⟩) (meth := k1m1) (c := k1c1) (by decide +kernel) rfl rfl rfl (by decide +kernel)
set_option maxRecDepth 65536 in
theorem w_c1 : (Jvm.Cond.code ({ cls := "java/lang/String", name := "<init>", desc := "([C)V" } : Jvm.MethodName) jdk_42_method_3_code (2 : Nat) (Option.none : Option Jvm.ClassFile.FieldType)).before args0 about1 = true := code_word (m := ⟨7, 1⟩) (meth := k7m1) (c := k7c1) (by decide +kernel) rfl rfl rfl (by decide +kernel)
set_option maxRecDepth 65536 in
theorem w_c2 : (Jvm.Cond.code ({ cls := "java/lang/String", name := "<init>", desc := "([CIILjava/lang/Void;)V" } : Jvm.MethodName) jdk_42_method_149_code (6 : Nat) (Option.none : Option Jvm.ClassFile.FieldType)).before args0 about1 = true := code_word (m := ⟨7, 4⟩) (meth := k7m4) (c := k7c4) (by decide +kernel) rfl rfl rfl (by decide +kernel)
set_option maxRecDepth 65536 in
theorem w_c3 : (Jvm.Cond.code ({ cls := "java/lang/Object", name := "<init>", desc := "()V" } : Jvm.MethodName) object_method_1_code (1 : Nat) (Option.none : Option Jvm.ClassFile.FieldType)).before args0 about1 = true := code_word (m := ⟨0, 0⟩) (meth := k0m0) (c := k0c0) (by decide +kernel) rfl rfl rfl (by decide +kernel)
set_option maxRecDepth 65536 in
theorem w_c4 : (Jvm.Cond.code ({ cls := "com/example/needlework/needlework/match/CompiledPattern", name := "of", desc := "(Ljava/lang/CharSequence;)Lcom/example/needlework/needlework/match/CompiledPattern;" } : Jvm.MethodName) prog_14_method_2_code (1 : Nat) (Option.some (Jvm.ClassFile.FieldType.object "com/example/needlework/needlework/match/CompiledPattern"))).before args0 about1 = true := code_word (m := ⟨8, 1⟩) (meth := k8m1) (c := k8c1) (by decide +kernel) rfl rfl rfl (by decide +kernel)
set_option maxRecDepth 65536 in
theorem w_c5 : (Jvm.Cond.code ({ cls := "java/util/Objects", name := "requireNonNull", desc := "(Ljava/lang/Object;Ljava/lang/String;)Ljava/lang/Object;" } : Jvm.MethodName) jdk_31_method_11_code (2 : Nat) (Option.some (Jvm.ClassFile.FieldType.object "java/lang/Object"))).before args0 about1 = true := code_word (m := ⟨9, 2⟩) (meth := k9m2) (c := k9c2) (by decide +kernel) rfl rfl rfl (by decide +kernel)
set_option maxRecDepth 65536 in
theorem w_c6 : (Jvm.Cond.code ({ cls := "java/lang/String", name := "length", desc := "()I" } : Jvm.MethodName) jdk_42_method_54_code (1 : Nat) (Option.some Jvm.ClassFile.FieldType.int)).before args0 about1 = true := code_word (m := ⟨7, 2⟩) (meth := k7m2) (c := k7c2) (by decide +kernel) rfl rfl rfl (by decide +kernel)
set_option maxRecDepth 65536 in
theorem w_c7 : (Jvm.Cond.code ({ cls := "java/lang/String", name := "coder", desc := "()B" } : Jvm.MethodName) jdk_42_method_152_code (1 : Nat) (Option.some Jvm.ClassFile.FieldType.byte)).before args0 about1 = true := code_word (m := ⟨7, 5⟩) (meth := k7m5) (c := k7c5) (by decide +kernel) rfl rfl rfl (by decide +kernel)
set_option maxRecDepth 65536 in
theorem w_c8 : (Jvm.Cond.code ({ cls := "java/util/Objects", name := "requireNonNull", desc := "(Ljava/lang/Object;)Ljava/lang/Object;" } : Jvm.MethodName) jdk_31_method_10_code (1 : Nat) (Option.some (Jvm.ClassFile.FieldType.object "java/lang/Object"))).before args0 about1 = true := code_word (m := ⟨9, 1⟩) (meth := k9m1) (c := k9c1) (by decide +kernel) rfl rfl rfl (by decide +kernel)
set_option maxRecDepth 65536 in
theorem w_c9 : (Jvm.Cond.code ({ cls := "com/example/needlework/needlework/match/PrefixTable", name := "of", desc := "(Ljava/lang/CharSequence;)[I" } : Jvm.MethodName) prog_16_method_2_code (1 : Nat) (Option.some (Jvm.ClassFile.FieldType.array Jvm.ClassFile.FieldType.int))).before args0 about1 = true := code_word (m := ⟨11, 1⟩) (meth := k11m1) (c := k11c1) (by decide +kernel) rfl rfl rfl (by decide +kernel)
set_option maxRecDepth 65536 in
theorem w_c10 : (Jvm.Cond.code ({ cls := "com/example/needlework/needlework/match/PrefixTable", name := "of", desc := "(ILjava/util/function/IntUnaryOperator;)[I" } : Jvm.MethodName) prog_16_method_4_code (6 : Nat) (Option.some (Jvm.ClassFile.FieldType.array Jvm.ClassFile.FieldType.int))).before args0 about1 = true := code_word (m := ⟨11, 2⟩) (meth := k11m2) (c := k11c2) (by decide +kernel) rfl rfl rfl (by decide +kernel)
set_option maxRecDepth 65536 in
theorem w_c11 : (Jvm.Cond.code ({ cls := "com/example/needlework/needlework/match/CompiledPattern", name := "of", desc := "(ILjava/util/function/IntUnaryOperator;[I)Lcom/example/needlework/needlework/match/CompiledPattern;" } : Jvm.MethodName) prog_14_method_4_code (11 : Nat) (Option.some (Jvm.ClassFile.FieldType.object "com/example/needlework/needlework/match/CompiledPattern"))).before args0 about1 = true := code_word (m := ⟨8, 2⟩) (meth := k8m2) (c := k8c2) (by decide +kernel) rfl rfl rfl (by decide +kernel)
set_option maxRecDepth 65536 in
theorem w_c12 : (Jvm.Cond.code ({ cls := "java/lang/Math", name := "min", desc := "(II)I" } : Jvm.MethodName) jdk_29_method_69_code (2 : Nat) (Option.some Jvm.ClassFile.FieldType.int)).before args0 about1 = true := code_word (m := ⟨12, 1⟩) (meth := k12m1) (c := k12c1) (by decide +kernel) rfl rfl rfl (by decide +kernel)
set_option maxRecDepth 65536 in
theorem w_c13 : (Jvm.Cond.code ({ cls := "com/example/needlework/needlework/match/CompiledPattern", name := "<init>", desc := "([I[I[I)V" } : Jvm.MethodName) prog_14_method_1_code (4 : Nat) (Option.none : Option Jvm.ClassFile.FieldType)).before args0 about1 = true := code_word (m := ⟨8, 0⟩) (meth := k8m0) (c := k8c0) (by decide +kernel) rfl rfl rfl (by decide +kernel)
set_option maxRecDepth 65536 in
theorem w_c14 : (Jvm.Cond.code ({ cls := "com/example/needlework/needlework/match/CompiledPattern", name := "length", desc := "()I" } : Jvm.MethodName) prog_14_method_6_code (1 : Nat) (Option.some Jvm.ClassFile.FieldType.int)).before args0 about1 = true := code_word (m := ⟨8, 4⟩) (meth := k8m4) (c := k8c4) (by decide +kernel) rfl rfl rfl (by decide +kernel)
set_option maxRecDepth 65536 in
theorem w_c15 : (Jvm.Cond.code ({ cls := "com/example/needlework/needlework/match/CompiledPattern", name := "prefixTable", desc := "()[I" } : Jvm.MethodName) prog_14_method_5_code (1 : Nat) (Option.some (Jvm.ClassFile.FieldType.array Jvm.ClassFile.FieldType.int))).before args0 about1 = true := code_word (m := ⟨8, 3⟩) (meth := k8m3) (c := k8c3) (by decide +kernel) rfl rfl rfl (by decide +kernel)
set_option maxRecDepth 65536 in
theorem w_c16 : (Jvm.Cond.code ({ cls := "com/example/needlework/needlework/match/CompiledPatternOfPinLaw", name := "rarity", desc := "(I)I" } : Jvm.MethodName) method_7_code (2 : Nat) (Option.some Jvm.ClassFile.FieldType.int)).before args0 about1 = true := code_word (m := ⟨1, 6⟩) (meth := k1m6) (c := k1c6) (by decide +kernel) rfl rfl rfl (by decide +kernel)
set_option maxRecDepth 65536 in
theorem w_c17 : (Jvm.Cond.code ({ cls := "com/example/needlework/needlework/match/CompiledPattern", name := "probes", desc := "()[I" } : Jvm.MethodName) prog_14_method_8_code (1 : Nat) (Option.some (Jvm.ClassFile.FieldType.array Jvm.ClassFile.FieldType.int))).before args0 about1 = true := code_word (m := ⟨8, 6⟩) (meth := k8m6) (c := k8c6) (by decide +kernel) rfl rfl rfl (by decide +kernel)
set_option maxRecDepth 65536 in
theorem w_c18 : (Jvm.Cond.code ({ cls := "com/example/needlework/needlework/match/CompiledPatternOfPinLaw", name := "probeOk", desc := "([I[III)Z" } : Jvm.MethodName) method_3_code (5 : Nat) (Option.some Jvm.ClassFile.FieldType.boolean)).before args0 about1 = true := code_word (m := ⟨1, 2⟩) (meth := k1m2) (c := k1c2) (by decide +kernel) rfl rfl rfl (by decide +kernel)
set_option maxRecDepth 65536 in
theorem w_c19 : (Jvm.Cond.code ({ cls := "java/lang/StringUTF16", name := "compress", desc := "([CII)[B" } : Jvm.MethodName) jdk_52_method_16_code (6 : Nat) (Option.some (Jvm.ClassFile.FieldType.array Jvm.ClassFile.FieldType.byte))).before args0 about1 = true := code_word (m := ⟨14, 8⟩) (meth := k14m8) (c := k14c8) (by decide +kernel) rfl rfl rfl (by decide +kernel)
set_option maxRecDepth 65536 in
theorem w_c20 : (Jvm.Cond.code ({ cls := "java/lang/StringUTF16", name := "compress", desc := "([CI[BII)I" } : Jvm.MethodName) jdk_52_method_21_code (7 : Nat) (Option.some Jvm.ClassFile.FieldType.int)).before args0 about1 = true := code_word (m := ⟨14, 9⟩) (meth := k14m9) (c := k14c9) (by decide +kernel) rfl rfl rfl (by decide +kernel)
set_option maxRecDepth 65536 in
theorem w_c21 : (Jvm.Cond.code ({ cls := "java/lang/StringUTF16", name := "coderFromArrayLen", desc := "([BI)B" } : Jvm.MethodName) jdk_52_method_15_code (2 : Nat) (Option.some Jvm.ClassFile.FieldType.byte)).before args0 about1 = true := code_word (m := ⟨14, 7⟩) (meth := k14m7) (c := k14c7) (by decide +kernel) rfl rfl rfl (by decide +kernel)
set_option maxRecDepth 65536 in
theorem w_c22 : (Jvm.Cond.code ({ cls := "java/lang/String", name := "charAt", desc := "(I)C" } : Jvm.MethodName) jdk_42_method_56_code (2 : Nat) (Option.some Jvm.ClassFile.FieldType.char)).before args0 about1 = true := code_word (m := ⟨7, 3⟩) (meth := k7m3) (c := k7c3) (by decide +kernel) rfl rfl rfl (by decide +kernel)
set_option maxRecDepth 65536 in
theorem w_c23 : (Jvm.Cond.code ({ cls := "java/lang/String", name := "isLatin1", desc := "()Z" } : Jvm.MethodName) jdk_42_method_154_code (1 : Nat) (Option.some Jvm.ClassFile.FieldType.boolean)).before args0 about1 = true := code_word (m := ⟨7, 6⟩) (meth := k7m6) (c := k7c6) (by decide +kernel) rfl rfl rfl (by decide +kernel)
set_option maxRecDepth 65536 in
theorem w_c24 : (Jvm.Cond.code ({ cls := "java/lang/StringLatin1", name := "charAt", desc := "([BI)C" } : Jvm.MethodName) jdk_43_method_2_code (2 : Nat) (Option.some Jvm.ClassFile.FieldType.char)).before args0 about1 = true := code_word (m := ⟨15, 1⟩) (meth := k15m1) (c := k15c1) (by decide +kernel) rfl rfl rfl (by decide +kernel)
set_option maxRecDepth 65536 in
theorem w_c25 : (Jvm.Cond.code ({ cls := "java/lang/String", name := "checkIndex", desc := "(II)V" } : Jvm.MethodName) jdk_42_method_155_code (2 : Nat) (Option.none : Option Jvm.ClassFile.FieldType)).before args0 about1 = true := code_word (m := ⟨7, 7⟩) (meth := k7m7) (c := k7c7) (by decide +kernel) rfl rfl rfl (by decide +kernel)
set_option maxRecDepth 65536 in
theorem w_c26 : (Jvm.Cond.code ({ cls := "jdk/internal/util/Preconditions", name := "checkIndex", desc := "(IILjava/util/function/BiFunction;)I" } : Jvm.MethodName) jdk_41_method_11_code (3 : Nat) (Option.some Jvm.ClassFile.FieldType.int)).before args0 about1 = true := code_word (m := ⟨16, 1⟩) (meth := k16m1) (c := k16c1) (by decide +kernel) rfl rfl rfl (by decide +kernel)
set_option maxRecDepth 65536 in
theorem w_c27 : (Jvm.Cond.code ({ cls := "com/example/needlework/needlework/match/CompiledPattern", name := "pick", desc := "([I[IIII)I" } : Jvm.MethodName) prog_14_method_10_code (7 : Nat) (Option.some Jvm.ClassFile.FieldType.int)).before args0 about1 = true := code_word (m := ⟨8, 7⟩) (meth := k8m7) (c := k8c7) (by decide +kernel) rfl rfl rfl (by decide +kernel)
set_option maxRecDepth 65536 in
theorem w_c28 : (Jvm.Cond.code ({ cls := "com/example/needlework/needlework/match/CompiledPattern", name := "unit", desc := "(I)I" } : Jvm.MethodName) prog_14_method_7_code (2 : Nat) (Option.some Jvm.ClassFile.FieldType.int)).before args0 about1 = true := code_word (m := ⟨8, 5⟩) (meth := k8m5) (c := k8c5) (by decide +kernel) rfl rfl rfl (by decide +kernel)
set_option maxRecDepth 65536 in
theorem w_c29 : (Jvm.Cond.code ({ cls := "com/example/needlework/needlework/match/CompiledPatternOfPinLaw", name := "border", desc := "([II)I" } : Jvm.MethodName) method_6_code (2 : Nat) (Option.some Jvm.ClassFile.FieldType.int)).before args0 about1 = true := code_word (m := ⟨1, 5⟩) (meth := k1m5) (c := k1c5) (by decide +kernel) rfl rfl rfl (by decide +kernel)
set_option maxRecDepth 65536 in
theorem w_c30 : (Jvm.Cond.code ({ cls := "com/example/needlework/needlework/match/CompiledPatternOfPinLaw", name := "matches", desc := "([III)Z" } : Jvm.MethodName) method_5_code (4 : Nat) (Option.some Jvm.ClassFile.FieldType.boolean)).before args0 about1 = true := code_word (m := ⟨1, 4⟩) (meth := k1m4) (c := k1c4) (by decide +kernel) rfl rfl rfl (by decide +kernel)
set_option maxRecDepth 65536 in
theorem w_c31 : (Jvm.Cond.code ({ cls := "com/example/needlework/needlework/match/CompiledPatternOfPinLaw", name := "before", desc := "([IIII)I" } : Jvm.MethodName) method_4_code (4 : Nat) (Option.some Jvm.ClassFile.FieldType.int)).before args0 about1 = true := code_word (m := ⟨1, 3⟩) (meth := k1m3) (c := k1c3) (by decide +kernel) rfl rfl rfl (by decide +kernel)
set_option maxRecDepth 65536 in
theorem w_c32 : (Jvm.Cond.code ({ cls := "java/lang/StringUTF16", name := "toBytes", desc := "([CII)[B" } : Jvm.MethodName) jdk_52_method_14_code (5 : Nat) (Option.some (Jvm.ClassFile.FieldType.array Jvm.ClassFile.FieldType.byte))).before args0 about1 = true := code_word (m := ⟨14, 6⟩) (meth := k14m6) (c := k14c6) (by decide +kernel) rfl rfl rfl (by decide +kernel)
set_option maxRecDepth 65536 in
theorem w_c33 : (Jvm.Cond.code ({ cls := "java/lang/StringUTF16", name := "newBytesFor", desc := "(I)[B" } : Jvm.MethodName) jdk_52_method_2_code (1 : Nat) (Option.some (Jvm.ClassFile.FieldType.array Jvm.ClassFile.FieldType.byte))).before args0 about1 = true := code_word (m := ⟨14, 1⟩) (meth := k14m1) (c := k14c1) (by decide +kernel) rfl rfl rfl (by decide +kernel)
set_option maxRecDepth 65536 in
theorem w_c34 : (Jvm.Cond.code ({ cls := "java/lang/StringUTF16", name := "newBytesLength", desc := "(I)I" } : Jvm.MethodName) jdk_52_method_3_code (1 : Nat) (Option.some Jvm.ClassFile.FieldType.int)).before args0 about1 = true := code_word (m := ⟨14, 2⟩) (meth := k14m2) (c := k14c2) (by decide +kernel) rfl rfl rfl (by decide +kernel)
set_option maxRecDepth 65536 in
theorem w_c35 : (Jvm.Cond.code ({ cls := "java/lang/StringUTF16", name := "putChar", desc := "([BII)V" } : Jvm.MethodName) jdk_52_method_4_code (3 : Nat) (Option.none : Option Jvm.ClassFile.FieldType)).before args0 about1 = true := code_word (m := ⟨14, 3⟩) (meth := k14m3) (c := k14c3) (by decide +kernel) rfl rfl rfl (by decide +kernel)
set_option maxRecDepth 65536 in
theorem w_c36 : (Jvm.Cond.code ({ cls := "java/lang/StringUTF16", name := "getChar", desc := "([BI)C" } : Jvm.MethodName) jdk_52_method_5_code (2 : Nat) (Option.some Jvm.ClassFile.FieldType.char)).before args0 about1 = true := code_word (m := ⟨14, 4⟩) (meth := k14m4) (c := k14c4) (by decide +kernel) rfl rfl rfl (by decide +kernel)
set_option maxRecDepth 65536 in
theorem w_c37 : (Jvm.Cond.code ({ cls := "java/lang/StringUTF16", name := "charAt", desc := "([BI)C" } : Jvm.MethodName) jdk_52_method_83_code (2 : Nat) (Option.some Jvm.ClassFile.FieldType.char)).before args0 about1 = true := code_word (m := ⟨14, 10⟩) (meth := k14m10) (c := k14c10) (by decide +kernel) rfl rfl rfl (by decide +kernel)
set_option maxRecDepth 65536 in
theorem w_c38 : (Jvm.Cond.code ({ cls := "java/lang/StringUTF16", name := "checkIndex", desc := "(I[B)V" } : Jvm.MethodName) jdk_52_method_91_code (2 : Nat) (Option.none : Option Jvm.ClassFile.FieldType)).before args0 about1 = true := code_word (m := ⟨14, 11⟩) (meth := k14m11) (c := k14c11) (by decide +kernel) rfl rfl rfl (by decide +kernel)
set_option maxRecDepth 65536 in
theorem w_c39 : (Jvm.Cond.code ({ cls := "java/lang/StringUTF16", name := "length", desc := "([B)I" } : Jvm.MethodName) jdk_52_method_6_code (1 : Nat) (Option.some Jvm.ClassFile.FieldType.int)).before args0 about1 = true := code_word (m := ⟨14, 5⟩) (meth := k14m5) (c := k14c5) (by decide +kernel) rfl rfl rfl (by decide +kernel)
def codes1 : List Jvm.Cond := [Jvm.Cond.code x code maxLocals ret, Jvm.Cond.code ({ cls := "java/lang/String", name := "<init>", desc := "([C)V" } : Jvm.MethodName) jdk_42_method_3_code (2 : Nat) (Option.none : Option Jvm.ClassFile.FieldType), Jvm.Cond.code ({ cls := "java/lang/String", name := "<init>", desc := "([CIILjava/lang/Void;)V" } : Jvm.MethodName) jdk_42_method_149_code (6 : Nat) (Option.none : Option Jvm.ClassFile.FieldType), Jvm.Cond.code ({ cls := "java/lang/Object", name := "<init>", desc := "()V" } : Jvm.MethodName) object_method_1_code (1 : Nat) (Option.none : Option Jvm.ClassFile.FieldType), Jvm.Cond.code ({ cls := "com/example/needlework/needlework/match/CompiledPattern", name := "of", desc := "(Ljava/lang/CharSequence;)Lcom/example/needlework/needlework/match/CompiledPattern;" } : Jvm.MethodName) prog_14_method_2_code (1 : Nat) (Option.some (Jvm.ClassFile.FieldType.object "com/example/needlework/needlework/match/CompiledPattern")), Jvm.Cond.code ({ cls := "java/util/Objects", name := "requireNonNull", desc := "(Ljava/lang/Object;Ljava/lang/String;)Ljava/lang/Object;" } : Jvm.MethodName) jdk_31_method_11_code (2 : Nat) (Option.some (Jvm.ClassFile.FieldType.object "java/lang/Object")), Jvm.Cond.code ({ cls := "java/lang/String", name := "length", desc := "()I" } : Jvm.MethodName) jdk_42_method_54_code (1 : Nat) (Option.some Jvm.ClassFile.FieldType.int), Jvm.Cond.code ({ cls := "java/lang/String", name := "coder", desc := "()B" } : Jvm.MethodName) jdk_42_method_152_code (1 : Nat) (Option.some Jvm.ClassFile.FieldType.byte), Jvm.Cond.code ({ cls := "java/util/Objects", name := "requireNonNull", desc := "(Ljava/lang/Object;)Ljava/lang/Object;" } : Jvm.MethodName) jdk_31_method_10_code (1 : Nat) (Option.some (Jvm.ClassFile.FieldType.object "java/lang/Object")), Jvm.Cond.code ({ cls := "com/example/needlework/needlework/match/PrefixTable", name := "of", desc := "(Ljava/lang/CharSequence;)[I" } : Jvm.MethodName) prog_16_method_2_code (1 : Nat) (Option.some (Jvm.ClassFile.FieldType.array Jvm.ClassFile.FieldType.int)), Jvm.Cond.code ({ cls := "com/example/needlework/needlework/match/PrefixTable", name := "of", desc := "(ILjava/util/function/IntUnaryOperator;)[I" } : Jvm.MethodName) prog_16_method_4_code (6 : Nat) (Option.some (Jvm.ClassFile.FieldType.array Jvm.ClassFile.FieldType.int)), Jvm.Cond.code ({ cls := "com/example/needlework/needlework/match/CompiledPattern", name := "of", desc := "(ILjava/util/function/IntUnaryOperator;[I)Lcom/example/needlework/needlework/match/CompiledPattern;" } : Jvm.MethodName) prog_14_method_4_code (11 : Nat) (Option.some (Jvm.ClassFile.FieldType.object "com/example/needlework/needlework/match/CompiledPattern")), Jvm.Cond.code ({ cls := "java/lang/Math", name := "min", desc := "(II)I" } : Jvm.MethodName) jdk_29_method_69_code (2 : Nat) (Option.some Jvm.ClassFile.FieldType.int), Jvm.Cond.code ({ cls := "com/example/needlework/needlework/match/CompiledPattern", name := "<init>", desc := "([I[I[I)V" } : Jvm.MethodName) prog_14_method_1_code (4 : Nat) (Option.none : Option Jvm.ClassFile.FieldType), Jvm.Cond.code ({ cls := "com/example/needlework/needlework/match/CompiledPattern", name := "length", desc := "()I" } : Jvm.MethodName) prog_14_method_6_code (1 : Nat) (Option.some Jvm.ClassFile.FieldType.int), Jvm.Cond.code ({ cls := "com/example/needlework/needlework/match/CompiledPattern", name := "prefixTable", desc := "()[I" } : Jvm.MethodName) prog_14_method_5_code (1 : Nat) (Option.some (Jvm.ClassFile.FieldType.array Jvm.ClassFile.FieldType.int)), Jvm.Cond.code ({ cls := "com/example/needlework/needlework/match/CompiledPatternOfPinLaw", name := "rarity", desc := "(I)I" } : Jvm.MethodName) method_7_code (2 : Nat) (Option.some Jvm.ClassFile.FieldType.int), Jvm.Cond.code ({ cls := "com/example/needlework/needlework/match/CompiledPattern", name := "probes", desc := "()[I" } : Jvm.MethodName) prog_14_method_8_code (1 : Nat) (Option.some (Jvm.ClassFile.FieldType.array Jvm.ClassFile.FieldType.int)), Jvm.Cond.code ({ cls := "com/example/needlework/needlework/match/CompiledPatternOfPinLaw", name := "probeOk", desc := "([I[III)Z" } : Jvm.MethodName) method_3_code (5 : Nat) (Option.some Jvm.ClassFile.FieldType.boolean), Jvm.Cond.code ({ cls := "java/lang/StringUTF16", name := "compress", desc := "([CII)[B" } : Jvm.MethodName) jdk_52_method_16_code (6 : Nat) (Option.some (Jvm.ClassFile.FieldType.array Jvm.ClassFile.FieldType.byte)), Jvm.Cond.code ({ cls := "java/lang/StringUTF16", name := "compress", desc := "([CI[BII)I" } : Jvm.MethodName) jdk_52_method_21_code (7 : Nat) (Option.some Jvm.ClassFile.FieldType.int), Jvm.Cond.code ({ cls := "java/lang/StringUTF16", name := "coderFromArrayLen", desc := "([BI)B" } : Jvm.MethodName) jdk_52_method_15_code (2 : Nat) (Option.some Jvm.ClassFile.FieldType.byte), Jvm.Cond.code ({ cls := "java/lang/String", name := "charAt", desc := "(I)C" } : Jvm.MethodName) jdk_42_method_56_code (2 : Nat) (Option.some Jvm.ClassFile.FieldType.char), Jvm.Cond.code ({ cls := "java/lang/String", name := "isLatin1", desc := "()Z" } : Jvm.MethodName) jdk_42_method_154_code (1 : Nat) (Option.some Jvm.ClassFile.FieldType.boolean), Jvm.Cond.code ({ cls := "java/lang/StringLatin1", name := "charAt", desc := "([BI)C" } : Jvm.MethodName) jdk_43_method_2_code (2 : Nat) (Option.some Jvm.ClassFile.FieldType.char), Jvm.Cond.code ({ cls := "java/lang/String", name := "checkIndex", desc := "(II)V" } : Jvm.MethodName) jdk_42_method_155_code (2 : Nat) (Option.none : Option Jvm.ClassFile.FieldType), Jvm.Cond.code ({ cls := "jdk/internal/util/Preconditions", name := "checkIndex", desc := "(IILjava/util/function/BiFunction;)I" } : Jvm.MethodName) jdk_41_method_11_code (3 : Nat) (Option.some Jvm.ClassFile.FieldType.int), Jvm.Cond.code ({ cls := "com/example/needlework/needlework/match/CompiledPattern", name := "pick", desc := "([I[IIII)I" } : Jvm.MethodName) prog_14_method_10_code (7 : Nat) (Option.some Jvm.ClassFile.FieldType.int), Jvm.Cond.code ({ cls := "com/example/needlework/needlework/match/CompiledPattern", name := "unit", desc := "(I)I" } : Jvm.MethodName) prog_14_method_7_code (2 : Nat) (Option.some Jvm.ClassFile.FieldType.int), Jvm.Cond.code ({ cls := "com/example/needlework/needlework/match/CompiledPatternOfPinLaw", name := "border", desc := "([II)I" } : Jvm.MethodName) method_6_code (2 : Nat) (Option.some Jvm.ClassFile.FieldType.int), Jvm.Cond.code ({ cls := "com/example/needlework/needlework/match/CompiledPatternOfPinLaw", name := "matches", desc := "([III)Z" } : Jvm.MethodName) method_5_code (4 : Nat) (Option.some Jvm.ClassFile.FieldType.boolean), Jvm.Cond.code ({ cls := "com/example/needlework/needlework/match/CompiledPatternOfPinLaw", name := "before", desc := "([IIII)I" } : Jvm.MethodName) method_4_code (4 : Nat) (Option.some Jvm.ClassFile.FieldType.int), Jvm.Cond.code ({ cls := "java/lang/StringUTF16", name := "toBytes", desc := "([CII)[B" } : Jvm.MethodName) jdk_52_method_14_code (5 : Nat) (Option.some (Jvm.ClassFile.FieldType.array Jvm.ClassFile.FieldType.byte)), Jvm.Cond.code ({ cls := "java/lang/StringUTF16", name := "newBytesFor", desc := "(I)[B" } : Jvm.MethodName) jdk_52_method_2_code (1 : Nat) (Option.some (Jvm.ClassFile.FieldType.array Jvm.ClassFile.FieldType.byte)), Jvm.Cond.code ({ cls := "java/lang/StringUTF16", name := "newBytesLength", desc := "(I)I" } : Jvm.MethodName) jdk_52_method_3_code (1 : Nat) (Option.some Jvm.ClassFile.FieldType.int), Jvm.Cond.code ({ cls := "java/lang/StringUTF16", name := "putChar", desc := "([BII)V" } : Jvm.MethodName) jdk_52_method_4_code (3 : Nat) (Option.none : Option Jvm.ClassFile.FieldType), Jvm.Cond.code ({ cls := "java/lang/StringUTF16", name := "getChar", desc := "([BI)C" } : Jvm.MethodName) jdk_52_method_5_code (2 : Nat) (Option.some Jvm.ClassFile.FieldType.char), Jvm.Cond.code ({ cls := "java/lang/StringUTF16", name := "charAt", desc := "([BI)C" } : Jvm.MethodName) jdk_52_method_83_code (2 : Nat) (Option.some Jvm.ClassFile.FieldType.char), Jvm.Cond.code ({ cls := "java/lang/StringUTF16", name := "checkIndex", desc := "(I[B)V" } : Jvm.MethodName) jdk_52_method_91_code (2 : Nat) (Option.none : Option Jvm.ClassFile.FieldType), Jvm.Cond.code ({ cls := "java/lang/StringUTF16", name := "length", desc := "([B)I" } : Jvm.MethodName) jdk_52_method_6_code (1 : Nat) (Option.some Jvm.ClassFile.FieldType.int)]
set_option maxRecDepth 65536 in
theorem codes_eq : words1.filter isCode = codes1 := rfl
theorem w_codes : ∀ c ∈ words1.filter isCode, c.before args0 about1 = true := by
  rw [codes_eq]
  intro c hc
  simp only [codes1, List.mem_cons, List.not_mem_nil, or_false] at hc
  rcases hc with rfl | rfl | rfl | rfl | rfl | rfl | rfl | rfl | rfl | rfl | rfl | rfl | rfl | rfl | rfl | rfl | rfl | rfl | rfl | rfl | rfl | rfl | rfl | rfl | rfl | rfl | rfl | rfl | rfl | rfl | rfl | rfl | rfl | rfl | rfl | rfl | rfl | rfl | rfl | rfl
  · exact w_c0
  · exact w_c1
  · exact w_c2
  · exact w_c3
  · exact w_c4
  · exact w_c5
  · exact w_c6
  · exact w_c7
  · exact w_c8
  · exact w_c9
  · exact w_c10
  · exact w_c11
  · exact w_c12
  · exact w_c13
  · exact w_c14
  · exact w_c15
  · exact w_c16
  · exact w_c17
  · exact w_c18
  · exact w_c19
  · exact w_c20
  · exact w_c21
  · exact w_c22
  · exact w_c23
  · exact w_c24
  · exact w_c25
  · exact w_c26
  · exact w_c27
  · exact w_c28
  · exact w_c29
  · exact w_c30
  · exact w_c31
  · exact w_c32
  · exact w_c33
  · exact w_c34
  · exact w_c35
  · exact w_c36
  · exact w_c37
  · exact w_c38
  · exact w_c39
set_option maxRecDepth 65536 in
theorem w_t1 : (words1.take 24).all (fun c => isCode c || c.before args0 about1) = true := by decide +kernel
set_option maxRecDepth 65536 in
theorem w_t2 : ((words1.drop 24).take 24).all (fun c => isCode c || c.before args0 about1) = true := by decide +kernel
set_option maxRecDepth 65536 in
theorem w_t3 : (((words1.drop 24).drop 24).take 24).all (fun c => isCode c || c.before args0 about1) = true := by decide +kernel
set_option maxRecDepth 65536 in
theorem w_t4 : ((((words1.drop 24).drop 24).drop 24).take 24).all (fun c => isCode c || c.before args0 about1) = true := by decide +kernel
set_option maxRecDepth 65536 in
theorem w_t5 : (((((words1.drop 24).drop 24).drop 24).drop 24).take 24).all (fun c => isCode c || c.before args0 about1) = true := by decide +kernel
set_option maxRecDepth 65536 in
theorem w_t6 : ((((((words1.drop 24).drop 24).drop 24).drop 24).drop 24).take 24).all (fun c => isCode c || c.before args0 about1) = true := by decide +kernel
set_option maxRecDepth 65536 in
theorem w_t7 : (((((((words1.drop 24).drop 24).drop 24).drop 24).drop 24).drop 24).take 24).all (fun c => isCode c || c.before args0 about1) = true := by decide +kernel
set_option maxRecDepth 65536 in
theorem w_t8 : ((((((((words1.drop 24).drop 24).drop 24).drop 24).drop 24).drop 24).drop 24).take 24).all (fun c => isCode c || c.before args0 about1) = true := by decide +kernel
set_option maxRecDepth 65536 in
theorem w_t9 : ((((((((words1.drop 24).drop 24).drop 24).drop 24).drop 24).drop 24).drop 24).drop 24).all (fun c => isCode c || c.before args0 about1) = true := by decide +kernel
theorem w_tables : (allAtoms (Jvm.Cond.code x code maxLocals ret :: tables_1)).before args0 about1 = true := by
  rw [allAtoms_all]
  show words1.all (fun c => c.before args0 about1) = true
  refine all_split ?_ w_codes
  rw [← List.take_append_drop 24 words1, List.all_append, w_t1, ← List.take_append_drop 24 (words1.drop 24), List.all_append, w_t2, ← List.take_append_drop 24 ((words1.drop 24).drop 24), List.all_append, w_t3, ← List.take_append_drop 24 (((words1.drop 24).drop 24).drop 24), List.all_append, w_t4, ← List.take_append_drop 24 ((((words1.drop 24).drop 24).drop 24).drop 24), List.all_append, w_t5, ← List.take_append_drop 24 (((((words1.drop 24).drop 24).drop 24).drop 24).drop 24), List.all_append, w_t6, ← List.take_append_drop 24 ((((((words1.drop 24).drop 24).drop 24).drop 24).drop 24).drop 24), List.all_append, w_t7, ← List.take_append_drop 24 (((((((words1.drop 24).drop 24).drop 24).drop 24).drop 24).drop 24).drop 24), List.all_append, w_t8, w_t9]
  rfl
set_option maxRecDepth 65536 in
theorem w_rest : rest_1_c.before args0 about1 = true := by decide +kernel
set_option maxRecDepth 65536 in
theorem w_case : (Jvm.Cond.and given_1 narrow_1).before args0 about1 = true := by decide +kernel
set_option maxRecDepth 65536 in
theorem w_consts : constsHeld consts_1 about1 := Jvm.Lit.constsHeldB_iff.mp (by decide +kernel)
theorem w_applies : (headSpec (Jvm.Cond.code x code maxLocals ret :: tables_1) room_1).applies x e0.platform about1 = true :=
  (Spec.applies_iff w_frames).mpr ⟨w_running, w_runnable, w_alone, w_named, w_hears, w_ripe, w_room, w_tables⟩
theorem atStart : AtStart classFile x code maxLocals ret World_1 tables_1 room_1 Calls_1 rest_1 Pre_1 launch0 p0 e0 about1 theMethod args0 below0 :=
  ⟨lists_1, trivial, launch0.admits_env _ _ _, launch0.least_env, fairChoices_fair.cas, fairChoices_fair.clock, w_frames, w_args, w_heap, w_applies, ⟨w_consts, trivial⟩, w_rest, w_case⟩
end start1
theorem witness_1 : WitnessClaimed_1 := ⟨start1.p0, start1.e0, start1.about1, start1.theMethod, start1.args0, start1.below0, start1.atStart⟩
end Jvm.Pilot.@@N@@
